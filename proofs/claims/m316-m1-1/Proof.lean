import JvmDerived
import JvmDerived.Pilot.@@N@@Statement
import JvmDerived.Pilot.@@N@@Code
set_option linter.unusedVariables false
set_option linter.unusedSimpArgs false
namespace Jvm.Pilot.@@N@@
open Jvm Jvm.ClassFile Sem Op Lib Jvm.Free Jvm.Stand Jvm.LawKit Jvm.RoadKit Bundle Jvm.Pilot.@@N@@.Jvm.D
section Own
variable {p : Program} {l : Launch} {e : Env} {R : Room} {s : State} {m : MethodId} {args : Array Value} {below : List Frame} {meth : Method} {c : Code} {T T' : State} {locs : List Loc} {cells slots : Nat} {Z : State} {a0 : Array Value} {h h' : Heap} {Q : Option Value → Heap → List Loc → Prop} {Cc Sc : Nat} {pc pc' pt k : Nat} {Ls Ls' : Array Slot} {St St' : List Value} {bs : ByteArray} {ml : Nat} {own nm : String} {rt : Option FieldType}
/-- what stands of a body while it is walked -/
def Cx (Z : State) (a0 : Array Value) (p : Program) (s : State) (m : MethodId) (meth : Method) (c : Code) (bs : ByteArray) (ml : Nat) (own nm : String) (rt : Option FieldType) : Prop :=
  p.tables.exec = Jvm.exec ∧ Z.Warmed39 s.vm ∧ c.code = bs ∧ c.maxLocals = ml ∧ s.vm.findClass own = some m.cls ∧ meth.name = nm ∧ meth.sig.returnType = rt ∧ meth.locks = false ∧ (∀ d ∈ tables_1, d.before a0 Z = true)
theorem Cx.x (C : Cx Z a0 p s m meth c bs ml own nm rt) : p.tables.exec = Jvm.exec := C.1
theorem Cx.z (C : Cx Z a0 p s m meth c bs ml own nm rt) : Z.Warmed39 s.vm := C.2.1
theorem Cx.b (C : Cx Z a0 p s m meth c bs ml own nm rt) : c.code = bs := C.2.2.1
theorem Cx.mx (C : Cx Z a0 p s m meth c bs ml own nm rt) : c.maxLocals = ml := C.2.2.2.1
theorem Cx.o (C : Cx Z a0 p s m meth c bs ml own nm rt) : s.vm.findClass own = some m.cls := C.2.2.2.2.1
theorem Cx.n (C : Cx Z a0 p s m meth c bs ml own nm rt) : meth.name = nm := C.2.2.2.2.2.1
theorem Cx.r (C : Cx Z a0 p s m meth c bs ml own nm rt) : meth.sig.returnType = rt := C.2.2.2.2.2.2.1
theorem Cx.lk (C : Cx Z a0 p s m meth c bs ml own nm rt) : meth.locks = false := C.2.2.2.2.2.2.2.1
theorem Cx.w (C : Cx Z a0 p s m meth c bs ml own nm rt) : ∀ d ∈ tables_1, d.before a0 Z = true := C.2.2.2.2.2.2.2.2
/-- the i-th word of the sheet's tables -/
theorem Cx.t (C : Cx Z a0 p s m meth c bs ml own nm rt) (i : Nat) {d : Jvm.Cond} (hi : tables_1[i]? = some d) : d.before a0 Z = true := C.w d (List.mem_of_getElem? hi)
/-- from here the run comes to its return, and of that return Q holds -/
def Go (p : Program) (e : Env) (below : List Frame) (s : State) (m : MethodId) (Q : Option Value → Heap → List Loc → Prop) (Cc Sc : Nat) (T : State) (pc : Nat) (Ls : Array Slot) (St : List Value) : Prop :=
  ∃ s₂ o, Steps p.tables e below (T.setTop (mkF m pc Ls St)) s₂ ∧ s₂.status = .running ∧ Ended s₂ below o ∧ ∃ v L, o = .returned v ∧ Q v s₂.heap L ∧ FrameEnd s o s₂ L Cc Sc
theorem Go.via (h : ∀ t, Steps p.tables e below (T'.setTop (mkF m pc' Ls' St')) t → Steps p.tables e below (T.setTop (mkF m pc Ls St)) t) (k : Go p e below s m Q Cc Sc T' pc' Ls' St') : Go p e below s m Q Cc Sc T pc Ls St := by
  obtain ⟨s₂, o, h1, h2⟩ := k
  exact ⟨s₂, o, h _ h1, h2⟩
theorem Go.cast (hL : Ls = Ls') (hS : St = St') (k : Go p e below s m Q Cc Sc T pc Ls' St') : Go p e below s m Q Cc Sc T pc Ls St := by
  subst hL hS; exact k
theorem g_enter {x : MethodName} {ws : List Jvm.Cond} {rm : Room} {as' : Array Value} {h0 : Heap} (hpl : plainFor x = true) (hw : ∀ d ∈ tables_1, d.before a0 Z = true) (hef : ∀ m, entryFrame m as' ml = mkF m 0 Ls [])
    (body : ∀ (p : Program) (e : Env) (s : State) (m : MethodId) (below : List Frame) (meth : Method) (c : Code) (T : State), Cx Z a0 p s m meth c bs ml x.cls x.name rt → Stand p l e rm s m as' below meth c T [] 0 0 → T.heap = h0 → Go p e below s m Q rm.cells rm.slots T 0 Ls []) :
    MetFree l x (head1 (Jvm.Cond.code x bs ml rt :: ws) rm) (fun a U => a = as' ∧ Z.Warmed39 U.vm ∧ U.heap = h0) (fun _ _ _ _ _ => True) (fun _ U o U' => ∃ v L, o = .returned v ∧ Q v U'.heap L ∧ FrameEnd U o U' L rm.cells rm.slots) := by
  refine MetFree.of_bodySF hpl hisR ?_
  intro p e s m args below meth c s₁ Bd hml0 hP hK
  obtain ⟨rfl, hZ, hh⟩ := hP
  have e0 : s₁.heap = h0 := by rw [← hh, Bd.state]; rfl
  have C : Cx Z a0 p s m meth c bs ml x.cls x.name rt := ⟨Bd.exec, hZ, Bd.bytes, hml0, findClass_of_methodNamed Bd.named, (name_of_methodNamed Bd.named Bd.method).1, Bd.returns, Bd.notSynchronized, hw⟩
  obtain ⟨s₂, o, k1, k2⟩ := body p e s m below meth c s₁ C (Stand.of_body Bd) e0
  exact ⟨s₂, o, castTop (hef m) k1, k2⟩

theorem g_iload (C : Cx Z a0 p s m meth c bs ml own nm rt) (X : Stand p l e R s m args below meth c T locs cells slots) {v : Int32} (hd : decode bs pc = .ok (.iload k, 2)) (hl : Ls[k]? = some (.val (.int v))) (hp : pc + 2 = pc') (kk : Go p e below s m Q Cc Sc T pc' Ls (.int v :: St)) : Go p e below s m Q Cc Sc T pc Ls St := by
  subst hp
  exact Go.via (fun t q => XS.iload X.here C.x rfl (hb C.b hd) hl q) kk
theorem g_iloadN (C : Cx Z a0 p s m meth c bs ml own nm rt) (X : Stand p l e R s m args below meth c T locs cells slots) {k : Fin 4} {v : Int32} (hd : decode bs pc = .ok (.iload_n k, 1)) (hl : Ls[k.val]? = some (.val (.int v))) (hp : pc + 1 = pc') (kk : Go p e below s m Q Cc Sc T pc' Ls (.int v :: St)) : Go p e below s m Q Cc Sc T pc Ls St := by
  subst hp
  exact Go.via (fun t q => XS.iloadN X.here C.x rfl (hb C.b hd) hl q) kk
theorem g_lload (C : Cx Z a0 p s m meth c bs ml own nm rt) (X : Stand p l e R s m args below meth c T locs cells slots) {v : Int64} (hd : decode bs pc = .ok (.lload k, 2)) (hl : Ls[k]? = some (.val (.long v))) (hp : pc + 2 = pc') (kk : Go p e below s m Q Cc Sc T pc' Ls (.long v :: St)) : Go p e below s m Q Cc Sc T pc Ls St := by
  subst hp
  exact Go.via (fun t q => XS.lload X.here C.x rfl (hb C.b hd) hl q) kk
theorem g_lloadN (C : Cx Z a0 p s m meth c bs ml own nm rt) (X : Stand p l e R s m args below meth c T locs cells slots) {k : Fin 4} {v : Int64} (hd : decode bs pc = .ok (.lload_n k, 1)) (hl : Ls[k.val]? = some (.val (.long v))) (hp : pc + 1 = pc') (kk : Go p e below s m Q Cc Sc T pc' Ls (.long v :: St)) : Go p e below s m Q Cc Sc T pc Ls St := by
  subst hp
  exact Go.via (fun t q => XS.lloadN X.here C.x rfl (hb C.b hd) hl q) kk
theorem g_aload (C : Cx Z a0 p s m meth c bs ml own nm rt) (X : Stand p l e R s m args below meth c T locs cells slots) {v : Addr} (hd : decode bs pc = .ok (.aload k, 2)) (hl : Ls[k]? = some (.val (.ref v))) (hp : pc + 2 = pc') (kk : Go p e below s m Q Cc Sc T pc' Ls (.ref v :: St)) : Go p e below s m Q Cc Sc T pc Ls St := by
  subst hp
  exact Go.via (fun t q => XS.aload X.here C.x rfl (hb C.b hd) hl rfl q) kk
theorem g_aloadN (C : Cx Z a0 p s m meth c bs ml own nm rt) (X : Stand p l e R s m args below meth c T locs cells slots) {k : Fin 4} {v : Addr} (hd : decode bs pc = .ok (.aload_n k, 1)) (hl : Ls[k.val]? = some (.val (.ref v))) (hp : pc + 1 = pc') (kk : Go p e below s m Q Cc Sc T pc' Ls (.ref v :: St)) : Go p e below s m Q Cc Sc T pc Ls St := by
  subst hp
  exact Go.via (fun t q => XS.aloadN X.here C.x rfl (hb C.b hd) hl rfl q) kk
theorem g_istore (C : Cx Z a0 p s m meth c bs ml own nm rt) (X : Stand p l e R s m args below meth c T locs cells slots) {x : Int32} (hd : decode bs pc = .ok (.istore k, 2)) (Ls' : Array Slot) (hl : storeLocals Ls k (.int x) = some Ls') (hp : pc + 2 = pc') (kk : Go p e below s m Q Cc Sc T pc' Ls' St) : Go p e below s m Q Cc Sc T pc Ls (.int x :: St) := by
  subst hp
  exact Go.via (fun t q => XS.istore X.here C.x rfl (hb C.b hd) rfl hl q) kk
theorem g_istoreN (C : Cx Z a0 p s m meth c bs ml own nm rt) (X : Stand p l e R s m args below meth c T locs cells slots) {k : Fin 4} {x : Int32} (hd : decode bs pc = .ok (.istore_n k, 1)) (Ls' : Array Slot) (hl : storeLocals Ls k.val (.int x) = some Ls') (hp : pc + 1 = pc') (kk : Go p e below s m Q Cc Sc T pc' Ls' St) : Go p e below s m Q Cc Sc T pc Ls (.int x :: St) := by
  subst hp
  exact Go.via (fun t q => XS.istoreN X.here C.x rfl (hb C.b hd) rfl hl q) kk
theorem g_istoreV (C : Cx Z a0 p s m meth c bs ml own nm rt) (X : Stand p l e R s m args below meth c T locs cells slots) {x : Int32} (hd : decode bs pc = .ok (.istore k, 2)) (F : Int32 → Array Slot) (hl : storeLocals Ls k (.int x) = some (F x)) (hp : pc + 2 = pc') (kk : ∀ v, v = x → Go p e below s m Q Cc Sc T pc' (F v) St) : Go p e below s m Q Cc Sc T pc Ls (.int x :: St) := g_istore C X hd (F x) hl hp (kk x rfl)
theorem g_istoreNV (C : Cx Z a0 p s m meth c bs ml own nm rt) (X : Stand p l e R s m args below meth c T locs cells slots) {k : Fin 4} {x : Int32} (hd : decode bs pc = .ok (.istore_n k, 1)) (F : Int32 → Array Slot) (hl : storeLocals Ls k.val (.int x) = some (F x)) (hp : pc + 1 = pc') (kk : ∀ v, v = x → Go p e below s m Q Cc Sc T pc' (F v) St) : Go p e below s m Q Cc Sc T pc Ls (.int x :: St) := g_istoreN C X hd (F x) hl hp (kk x rfl)
theorem g_lstore (C : Cx Z a0 p s m meth c bs ml own nm rt) (X : Stand p l e R s m args below meth c T locs cells slots) {x : Int64} (hd : decode bs pc = .ok (.lstore k, 2)) (Ls' : Array Slot) (hl : storeLocals Ls k (.long x) = some Ls') (hp : pc + 2 = pc') (kk : Go p e below s m Q Cc Sc T pc' Ls' St) : Go p e below s m Q Cc Sc T pc Ls (.long x :: St) := by
  subst hp
  exact Go.via (fun t q => XS.lstore X.here C.x rfl (hb C.b hd) rfl hl q) kk
theorem g_lstoreN (C : Cx Z a0 p s m meth c bs ml own nm rt) (X : Stand p l e R s m args below meth c T locs cells slots) {k : Fin 4} {x : Int64} (hd : decode bs pc = .ok (.lstore_n k, 1)) (Ls' : Array Slot) (hl : storeLocals Ls k.val (.long x) = some Ls') (hp : pc + 1 = pc') (kk : Go p e below s m Q Cc Sc T pc' Ls' St) : Go p e below s m Q Cc Sc T pc Ls (.long x :: St) := by
  subst hp
  exact Go.via (fun t q => XS.lstoreN X.here C.x rfl (hb C.b hd) rfl hl q) kk
theorem g_lstoreV (C : Cx Z a0 p s m meth c bs ml own nm rt) (X : Stand p l e R s m args below meth c T locs cells slots) {x : Int64} (hd : decode bs pc = .ok (.lstore k, 2)) (F : Int64 → Array Slot) (hl : storeLocals Ls k (.long x) = some (F x)) (hp : pc + 2 = pc') (kk : ∀ v, v = x → Go p e below s m Q Cc Sc T pc' (F v) St) : Go p e below s m Q Cc Sc T pc Ls (.long x :: St) := g_lstore C X hd (F x) hl hp (kk x rfl)
theorem g_lstoreNV (C : Cx Z a0 p s m meth c bs ml own nm rt) (X : Stand p l e R s m args below meth c T locs cells slots) {k : Fin 4} {x : Int64} (hd : decode bs pc = .ok (.lstore_n k, 1)) (F : Int64 → Array Slot) (hl : storeLocals Ls k.val (.long x) = some (F x)) (hp : pc + 1 = pc') (kk : ∀ v, v = x → Go p e below s m Q Cc Sc T pc' (F v) St) : Go p e below s m Q Cc Sc T pc Ls (.long x :: St) := g_lstoreN C X hd (F x) hl hp (kk x rfl)
theorem g_astore (C : Cx Z a0 p s m meth c bs ml own nm rt) (X : Stand p l e R s m args below meth c T locs cells slots) {x : Addr} (hd : decode bs pc = .ok (.astore k, 2)) (Ls' : Array Slot) (hl : storeLocals Ls k (.ref x) = some Ls') (hp : pc + 2 = pc') (kk : Go p e below s m Q Cc Sc T pc' Ls' St) : Go p e below s m Q Cc Sc T pc Ls (.ref x :: St) := by
  subst hp
  exact Go.via (fun t q => XS.astore X.here C.x rfl (hb C.b hd) rfl rfl hl q) kk
theorem g_astoreN (C : Cx Z a0 p s m meth c bs ml own nm rt) (X : Stand p l e R s m args below meth c T locs cells slots) {k : Fin 4} {x : Addr} (hd : decode bs pc = .ok (.astore_n k, 1)) (Ls' : Array Slot) (hl : storeLocals Ls k.val (.ref x) = some Ls') (hp : pc + 1 = pc') (kk : Go p e below s m Q Cc Sc T pc' Ls' St) : Go p e below s m Q Cc Sc T pc Ls (.ref x :: St) := by
  subst hp
  exact Go.via (fun t q => XS.astoreN X.here C.x rfl (hb C.b hd) rfl rfl hl q) kk
theorem g_astoreV (C : Cx Z a0 p s m meth c bs ml own nm rt) (X : Stand p l e R s m args below meth c T locs cells slots) {x : Addr} (hd : decode bs pc = .ok (.astore k, 2)) (F : Addr → Array Slot) (hl : storeLocals Ls k (.ref x) = some (F x)) (hp : pc + 2 = pc') (kk : ∀ v, v = x → Go p e below s m Q Cc Sc T pc' (F v) St) : Go p e below s m Q Cc Sc T pc Ls (.ref x :: St) := g_astore C X hd (F x) hl hp (kk x rfl)
theorem g_astoreNV (C : Cx Z a0 p s m meth c bs ml own nm rt) (X : Stand p l e R s m args below meth c T locs cells slots) {k : Fin 4} {x : Addr} (hd : decode bs pc = .ok (.astore_n k, 1)) (F : Addr → Array Slot) (hl : storeLocals Ls k.val (.ref x) = some (F x)) (hp : pc + 1 = pc') (kk : ∀ v, v = x → Go p e below s m Q Cc Sc T pc' (F v) St) : Go p e below s m Q Cc Sc T pc Ls (.ref x :: St) := g_astoreN C X hd (F x) hl hp (kk x rfl)
theorem g_iinc (C : Cx Z a0 p s m meth c bs ml own nm rt) (X : Stand p l e R s m args below meth c T locs cells slots) {cst : Int} {x : Int32} (hd : decode bs pc = .ok (.iinc k cst, 3)) (hl : Ls[k]? = some (.val (.int x))) (Ls' : Array Slot) (hl' : storeLocals Ls k (.int (x + Int32.ofInt cst)) = some Ls') (hp : pc + 3 = pc') (kk : Go p e below s m Q Cc Sc T pc' Ls' St) : Go p e below s m Q Cc Sc T pc Ls St := by
  subst hp
  exact Go.via (fun t q => XS.iinc X.here C.x rfl (hb C.b hd) hl hl' q) kk
theorem g_iincV (C : Cx Z a0 p s m meth c bs ml own nm rt) (X : Stand p l e R s m args below meth c T locs cells slots) {cst : Int} {x y : Int32} (hd : decode bs pc = .ok (.iinc k cst, 3)) (hl : Ls[k]? = some (.val (.int x))) (hy : Int32.ofInt cst = y) (F : Int32 → Array Slot) (hl' : storeLocals Ls k (.int (x + y)) = some (F (x + y))) (hp : pc + 3 = pc') (kk : ∀ v, v = x + y → Go p e below s m Q Cc Sc T pc' (F v) St) : Go p e below s m Q Cc Sc T pc Ls St := g_iinc C X hd hl (F (x + y)) (by rw [hy]; exact hl') hp (kk _ rfl)
theorem g_iconst (C : Cx Z a0 p s m meth c bs ml own nm rt) (X : Stand p l e R s m args below meth c T locs cells slots) {i : Int} (v : Int32) (hd : decode bs pc = .ok (.iconst i, 1)) (hv : Int32.ofInt i = v) (hp : pc + 1 = pc') (kk : Go p e below s m Q Cc Sc T pc' Ls (.int v :: St)) : Go p e below s m Q Cc Sc T pc Ls St := by
  subst hp hv
  exact Go.via (fun t q => XS.iconst X.here C.x rfl (hb C.b hd) q) kk
theorem g_bipush (C : Cx Z a0 p s m meth c bs ml own nm rt) (X : Stand p l e R s m args below meth c T locs cells slots) {i : Int} (v : Int32) (hd : decode bs pc = .ok (.bipush i, 2)) (hv : (Int8.ofInt i).toInt32 = v) (hp : pc + 2 = pc') (kk : Go p e below s m Q Cc Sc T pc' Ls (.int v :: St)) : Go p e below s m Q Cc Sc T pc Ls St := by
  subst hp hv
  exact Go.via (fun t q => XS.bipush X.here C.x rfl (hb C.b hd) q) kk
theorem g_sipush (C : Cx Z a0 p s m meth c bs ml own nm rt) (X : Stand p l e R s m args below meth c T locs cells slots) {i : Int} (v : Int32) (hd : decode bs pc = .ok (.sipush i, 3)) (hv : (Int16.ofInt i).toInt32 = v) (hp : pc + 3 = pc') (kk : Go p e below s m Q Cc Sc T pc' Ls (.int v :: St)) : Go p e below s m Q Cc Sc T pc Ls St := by
  subst hp hv
  exact Go.via (fun t q => XS.sipush X.here C.x rfl (hb C.b hd) q) kk
theorem g_lconst (C : Cx Z a0 p s m meth c bs ml own nm rt) (X : Stand p l e R s m args below meth c T locs cells slots) {i : Fin 2} (v : Int64) (hd : decode bs pc = .ok (.lconst i, 1)) (hv : Int64.ofNat i = v) (hp : pc + 1 = pc') (kk : Go p e below s m Q Cc Sc T pc' Ls (.long v :: St)) : Go p e below s m Q Cc Sc T pc Ls St := by
  subst hp hv
  exact Go.via (fun t q => XS.lconst X.here C.x rfl (hb C.b hd) q) kk
theorem g_ldc (C : Cx Z a0 p s m meth c bs ml own nm rt) (X : Stand p l e R s m args below meth c T locs cells slots) {i : Nat} {v : Int32} (hd : decode bs pc = .ok (.ldc i, 2)) (hv : (Jvm.Cond.constant own i v).before a0 Z = true) (hp : pc + 2 = pc') (kk : Go p e below s m Q Cc Sc T pc' Ls (.int v :: St)) : Go p e below s m Q Cc Sc T pc Ls St := by
  subst hp
  exact Go.via (fun t q => X.ldcInt C.x C.o (mvT C.z hv) (g := mkF m pc Ls St) rfl (hb C.b hd) t q) kk
theorem g_ldcL (C : Cx Z a0 p s m meth c bs ml own nm rt) (X : Stand p l e R s m args below meth c T locs cells slots) {i : Nat} {v : Int64} (hd : decode bs pc = .ok (.ldc2_w i, 3)) (hv : (Jvm.Cond.constantLong own i v).before a0 Z = true) (hp : pc + 3 = pc') (kk : Go p e below s m Q Cc Sc T pc' Ls (.long v :: St)) : Go p e below s m Q Cc Sc T pc Ls St := by
  subst hp
  exact Go.via (fun t q => X.ldc2Long C.x C.o (mvT C.z hv) (g := mkF m pc Ls St) rfl (hb C.b hd) t q) kk
theorem g_iadd (C : Cx Z a0 p s m meth c bs ml own nm rt) (X : Stand p l e R s m args below meth c T locs cells slots) {x y : Int32} (hd : decode bs pc = .ok (.iadd, 1))  (hp : pc + 1 = pc') (kk : Go p e below s m Q Cc Sc T pc' Ls (.int (x + y) :: St)) : Go p e below s m Q Cc Sc T pc Ls (.int y :: .int x :: St) := by
  subst hp
  exact Go.via (fun t q => XS.iadd X.here C.x rfl (hb C.b hd) rfl q) kk
theorem g_isub (C : Cx Z a0 p s m meth c bs ml own nm rt) (X : Stand p l e R s m args below meth c T locs cells slots) {x y : Int32} (hd : decode bs pc = .ok (.isub, 1))  (hp : pc + 1 = pc') (kk : Go p e below s m Q Cc Sc T pc' Ls (.int (x - y) :: St)) : Go p e below s m Q Cc Sc T pc Ls (.int y :: .int x :: St) := by
  subst hp
  exact Go.via (fun t q => XS.isub X.here C.x rfl (hb C.b hd) rfl q) kk
theorem g_imul (C : Cx Z a0 p s m meth c bs ml own nm rt) (X : Stand p l e R s m args below meth c T locs cells slots) {x y : Int32} (hd : decode bs pc = .ok (.imul, 1))  (hp : pc + 1 = pc') (kk : Go p e below s m Q Cc Sc T pc' Ls (.int (x * y) :: St)) : Go p e below s m Q Cc Sc T pc Ls (.int y :: .int x :: St) := by
  subst hp
  exact Go.via (fun t q => XS.imul X.here C.x rfl (hb C.b hd) rfl q) kk
theorem g_iand (C : Cx Z a0 p s m meth c bs ml own nm rt) (X : Stand p l e R s m args below meth c T locs cells slots) {x y : Int32} (hd : decode bs pc = .ok (.iand, 1))  (hp : pc + 1 = pc') (kk : Go p e below s m Q Cc Sc T pc' Ls (.int (x &&& y) :: St)) : Go p e below s m Q Cc Sc T pc Ls (.int y :: .int x :: St) := by
  subst hp
  exact Go.via (fun t q => XS.iand X.here C.x rfl (hb C.b hd) rfl q) kk
theorem g_ior (C : Cx Z a0 p s m meth c bs ml own nm rt) (X : Stand p l e R s m args below meth c T locs cells slots) {x y : Int32} (hd : decode bs pc = .ok (.ior, 1))  (hp : pc + 1 = pc') (kk : Go p e below s m Q Cc Sc T pc' Ls (.int (x ||| y) :: St)) : Go p e below s m Q Cc Sc T pc Ls (.int y :: .int x :: St) := by
  subst hp
  exact Go.via (fun t q => XS.ior X.here C.x rfl (hb C.b hd) rfl q) kk
theorem g_ixor (C : Cx Z a0 p s m meth c bs ml own nm rt) (X : Stand p l e R s m args below meth c T locs cells slots) {x y : Int32} (hd : decode bs pc = .ok (.ixor, 1))  (hp : pc + 1 = pc') (kk : Go p e below s m Q Cc Sc T pc' Ls (.int (x ^^^ y) :: St)) : Go p e below s m Q Cc Sc T pc Ls (.int y :: .int x :: St) := by
  subst hp
  exact Go.via (fun t q => XS.ixor X.here C.x rfl (hb C.b hd) rfl q) kk
theorem g_idiv (C : Cx Z a0 p s m meth c bs ml own nm rt) (X : Stand p l e R s m args below meth c T locs cells slots) {x y : Int32} (hd : decode bs pc = .ok (.idiv, 1)) (hy : y ≠ 0) (hp : pc + 1 = pc') (kk : Go p e below s m Q Cc Sc T pc' Ls (.int (x / y) :: St)) : Go p e below s m Q Cc Sc T pc Ls (.int y :: .int x :: St) := by
  subst hp
  exact Go.via (fun t q => XS.idiv X.here C.x rfl (hb C.b hd) rfl hy q) kk
theorem g_ladd (C : Cx Z a0 p s m meth c bs ml own nm rt) (X : Stand p l e R s m args below meth c T locs cells slots) {x y : Int64} (hd : decode bs pc = .ok (.ladd, 1))  (hp : pc + 1 = pc') (kk : Go p e below s m Q Cc Sc T pc' Ls (.long (x + y) :: St)) : Go p e below s m Q Cc Sc T pc Ls (.long y :: .long x :: St) := by
  subst hp
  exact Go.via (fun t q => XS.ladd X.here C.x rfl (hb C.b hd) rfl q) kk
theorem g_lsub (C : Cx Z a0 p s m meth c bs ml own nm rt) (X : Stand p l e R s m args below meth c T locs cells slots) {x y : Int64} (hd : decode bs pc = .ok (.lsub, 1))  (hp : pc + 1 = pc') (kk : Go p e below s m Q Cc Sc T pc' Ls (.long (x - y) :: St)) : Go p e below s m Q Cc Sc T pc Ls (.long y :: .long x :: St) := by
  subst hp
  exact Go.via (fun t q => XS.lsub X.here C.x rfl (hb C.b hd) rfl q) kk
theorem g_lmul (C : Cx Z a0 p s m meth c bs ml own nm rt) (X : Stand p l e R s m args below meth c T locs cells slots) {x y : Int64} (hd : decode bs pc = .ok (.lmul, 1))  (hp : pc + 1 = pc') (kk : Go p e below s m Q Cc Sc T pc' Ls (.long (x * y) :: St)) : Go p e below s m Q Cc Sc T pc Ls (.long y :: .long x :: St) := by
  subst hp
  exact Go.via (fun t q => XS.lmul X.here C.x rfl (hb C.b hd) rfl q) kk
theorem g_land (C : Cx Z a0 p s m meth c bs ml own nm rt) (X : Stand p l e R s m args below meth c T locs cells slots) {x y : Int64} (hd : decode bs pc = .ok (.land, 1))  (hp : pc + 1 = pc') (kk : Go p e below s m Q Cc Sc T pc' Ls (.long (x &&& y) :: St)) : Go p e below s m Q Cc Sc T pc Ls (.long y :: .long x :: St) := by
  subst hp
  exact Go.via (fun t q => XS.land X.here C.x rfl (hb C.b hd) rfl q) kk
theorem g_lor (C : Cx Z a0 p s m meth c bs ml own nm rt) (X : Stand p l e R s m args below meth c T locs cells slots) {x y : Int64} (hd : decode bs pc = .ok (.lor, 1))  (hp : pc + 1 = pc') (kk : Go p e below s m Q Cc Sc T pc' Ls (.long (x ||| y) :: St)) : Go p e below s m Q Cc Sc T pc Ls (.long y :: .long x :: St) := by
  subst hp
  exact Go.via (fun t q => XS.lor X.here C.x rfl (hb C.b hd) rfl q) kk
theorem g_lxor (C : Cx Z a0 p s m meth c bs ml own nm rt) (X : Stand p l e R s m args below meth c T locs cells slots) {x y : Int64} (hd : decode bs pc = .ok (.lxor, 1))  (hp : pc + 1 = pc') (kk : Go p e below s m Q Cc Sc T pc' Ls (.long (x ^^^ y) :: St)) : Go p e below s m Q Cc Sc T pc Ls (.long y :: .long x :: St) := by
  subst hp
  exact Go.via (fun t q => XS.lxor X.here C.x rfl (hb C.b hd) rfl q) kk
theorem g_ldiv (C : Cx Z a0 p s m meth c bs ml own nm rt) (X : Stand p l e R s m args below meth c T locs cells slots) {x y : Int64} (hd : decode bs pc = .ok (.ldiv, 1)) (hy : y ≠ 0) (hp : pc + 1 = pc') (kk : Go p e below s m Q Cc Sc T pc' Ls (.long (x / y) :: St)) : Go p e below s m Q Cc Sc T pc Ls (.long y :: .long x :: St) := by
  subst hp
  exact Go.via (fun t q => XS.ldiv X.here C.x rfl (hb C.b hd) rfl hy q) kk
theorem g_irem (C : Cx Z a0 p s m meth c bs ml own nm rt) (X : Stand p l e R s m args below meth c T locs cells slots) {x y : Int32} (hd : decode bs pc = .ok (.irem, 1)) (hy : y ≠ 0) (hp : pc + 1 = pc') (kk : Go p e below s m Q Cc Sc T pc' Ls (.int (x % y) :: St)) : Go p e below s m Q Cc Sc T pc Ls (.int y :: .int x :: St) := by
  subst hp
  exact Go.via (fun t q => iremM (g := mkF m pc Ls (.int y :: .int x :: St)) X C.x rfl (hb C.b hd) rfl hy q) kk
theorem g_lrem (C : Cx Z a0 p s m meth c bs ml own nm rt) (X : Stand p l e R s m args below meth c T locs cells slots) {x y : Int64} (hd : decode bs pc = .ok (.lrem, 1)) (hy : y ≠ 0) (hp : pc + 1 = pc') (kk : Go p e below s m Q Cc Sc T pc' Ls (.long (x % y) :: St)) : Go p e below s m Q Cc Sc T pc Ls (.long y :: .long x :: St) := by
  subst hp
  rw [← lrem_mod] at kk
  exact Go.via (fun t q => XS.lrem X.here C.x rfl (hb C.b hd) rfl hy q) kk
theorem g_ishl (C : Cx Z a0 p s m meth c bs ml own nm rt) (X : Stand p l e R s m args below meth c T locs cells slots) {x y : Int32} (hd : decode bs pc = .ok (.ishl, 1))  (hp : pc + 1 = pc') (kk : Go p e below s m Q Cc Sc T pc' Ls (.int (x <<< (y &&& 31)) :: St)) : Go p e below s m Q Cc Sc T pc Ls (.int y :: .int x :: St) := by
  subst hp
  exact Go.via (fun t q => XS.ishl X.here C.x rfl (hb C.b hd) rfl q) kk
theorem g_ishr (C : Cx Z a0 p s m meth c bs ml own nm rt) (X : Stand p l e R s m args below meth c T locs cells slots) {x y : Int32} (hd : decode bs pc = .ok (.ishr, 1))  (hp : pc + 1 = pc') (kk : Go p e below s m Q Cc Sc T pc' Ls (.int (x >>> (y &&& 31)) :: St)) : Go p e below s m Q Cc Sc T pc Ls (.int y :: .int x :: St) := by
  subst hp
  exact Go.via (fun t q => XS.ishr X.here C.x rfl (hb C.b hd) rfl q) kk
theorem g_iushr (C : Cx Z a0 p s m meth c bs ml own nm rt) (X : Stand p l e R s m args below meth c T locs cells slots) {x y : Int32} (hd : decode bs pc = .ok (.iushr, 1))  (hp : pc + 1 = pc') (kk : Go p e below s m Q Cc Sc T pc' Ls (.int ((x.toUInt32 >>> (y &&& 31).toUInt32).toInt32) :: St)) : Go p e below s m Q Cc Sc T pc Ls (.int y :: .int x :: St) := by
  subst hp
  exact Go.via (fun t q => XS.iushr X.here C.x rfl (hb C.b hd) rfl q) kk
theorem g_lshl (C : Cx Z a0 p s m meth c bs ml own nm rt) (X : Stand p l e R s m args below meth c T locs cells slots) {x : Int64} {y : Int32} (hd : decode bs pc = .ok (.lshl, 1))  (hp : pc + 1 = pc') (kk : Go p e below s m Q Cc Sc T pc' Ls (.long (x <<< (y &&& 0x3f).toInt64) :: St)) : Go p e below s m Q Cc Sc T pc Ls (.int y :: .long x :: St) := by
  subst hp
  exact Go.via (fun t q => XS.lshl X.here C.x rfl (hb C.b hd) rfl q) kk
theorem g_lshr (C : Cx Z a0 p s m meth c bs ml own nm rt) (X : Stand p l e R s m args below meth c T locs cells slots) {x : Int64} {y : Int32} (hd : decode bs pc = .ok (.lshr, 1))  (hp : pc + 1 = pc') (kk : Go p e below s m Q Cc Sc T pc' Ls (.long (x >>> (y &&& 0x3f).toInt64) :: St)) : Go p e below s m Q Cc Sc T pc Ls (.int y :: .long x :: St) := by
  subst hp
  exact Go.via (fun t q => XS.lshr X.here C.x rfl (hb C.b hd) rfl q) kk
theorem g_lushr (C : Cx Z a0 p s m meth c bs ml own nm rt) (X : Stand p l e R s m args below meth c T locs cells slots) {x : Int64} {y : Int32} (hd : decode bs pc = .ok (.lushr, 1))  (hp : pc + 1 = pc') (kk : Go p e below s m Q Cc Sc T pc' Ls (.long ((x.toUInt64 >>> (y &&& 0x3f).toInt64.toUInt64).toInt64) :: St)) : Go p e below s m Q Cc Sc T pc Ls (.int y :: .long x :: St) := by
  subst hp
  exact Go.via (fun t q => XS.lushr X.here C.x rfl (hb C.b hd) rfl q) kk
theorem g_i2b (C : Cx Z a0 p s m meth c bs ml own nm rt) (X : Stand p l e R s m args below meth c T locs cells slots) {x : Int32} (hd : decode bs pc = .ok (.i2b, 1))  (hp : pc + 1 = pc') (kk : Go p e below s m Q Cc Sc T pc' Ls (.int (x.toInt8.toInt32) :: St)) : Go p e below s m Q Cc Sc T pc Ls (.int x :: St) := by
  subst hp
  exact Go.via (fun t q => XS.i2b X.here C.x rfl (hb C.b hd) rfl q) kk
theorem g_i2l (C : Cx Z a0 p s m meth c bs ml own nm rt) (X : Stand p l e R s m args below meth c T locs cells slots) {x : Int32} (hd : decode bs pc = .ok (.i2l, 1))  (hp : pc + 1 = pc') (kk : Go p e below s m Q Cc Sc T pc' Ls (.long (x.toInt64) :: St)) : Go p e below s m Q Cc Sc T pc Ls (.int x :: St) := by
  subst hp
  exact Go.via (fun t q => XS.i2l X.here C.x rfl (hb C.b hd) rfl q) kk
theorem g_l2i (C : Cx Z a0 p s m meth c bs ml own nm rt) (X : Stand p l e R s m args below meth c T locs cells slots) {x : Int64} (hd : decode bs pc = .ok (.l2i, 1))  (hp : pc + 1 = pc') (kk : Go p e below s m Q Cc Sc T pc' Ls (.int (x.toInt32) :: St)) : Go p e below s m Q Cc Sc T pc Ls (.long x :: St) := by
  subst hp
  exact Go.via (fun t q => XS.l2i X.here C.x rfl (hb C.b hd) rfl q) kk
theorem g_ineg (C : Cx Z a0 p s m meth c bs ml own nm rt) (X : Stand p l e R s m args below meth c T locs cells slots) {x : Int32} (hd : decode bs pc = .ok (.ineg, 1))  (hp : pc + 1 = pc') (kk : Go p e below s m Q Cc Sc T pc' Ls (.int (-x) :: St)) : Go p e below s m Q Cc Sc T pc Ls (.int x :: St) := by
  subst hp
  exact Go.via (fun t q => XS.ineg X.here C.x rfl (hb C.b hd) rfl q) kk
theorem g_lneg (C : Cx Z a0 p s m meth c bs ml own nm rt) (X : Stand p l e R s m args below meth c T locs cells slots) {x : Int64} (hd : decode bs pc = .ok (.lneg, 1))  (hp : pc + 1 = pc') (kk : Go p e below s m Q Cc Sc T pc' Ls (.long (-x) :: St)) : Go p e below s m Q Cc Sc T pc Ls (.long x :: St) := by
  subst hp
  exact Go.via (fun t q => XS.lneg X.here C.x rfl (hb C.b hd) rfl q) kk
theorem g_dup (C : Cx Z a0 p s m meth c bs ml own nm rt) (X : Stand p l e R s m args below meth c T locs cells slots) {x : Value} (hd : decode bs pc = .ok (.dup, 1)) (hc : x.category = 1) (hp : pc + 1 = pc') (kk : Go p e below s m Q Cc Sc T pc' Ls (x :: x :: St)) : Go p e below s m Q Cc Sc T pc Ls (x :: St) := by
  subst hp
  exact Go.via (fun t q => XS.dup X.here C.x rfl (hb C.b hd) rfl hc q) kk
theorem g_pop (C : Cx Z a0 p s m meth c bs ml own nm rt) (X : Stand p l e R s m args below meth c T locs cells slots) {x : Value} (hd : decode bs pc = .ok (.pop, 1)) (hc : x.category = 1) (hp : pc + 1 = pc') (kk : Go p e below s m Q Cc Sc T pc' Ls St) : Go p e below s m Q Cc Sc T pc Ls (x :: St) := by
  subst hp
  exact Go.via (fun t q => XS.pop X.here C.x rfl (hb C.b hd) rfl hc q) kk
theorem g_goto (C : Cx Z a0 p s m meth c bs ml own nm rt) (X : Stand p l e R s m args below meth c T locs cells slots) {o : Int} (hd : decode bs pc = .ok (.goto o, 3)) (ho : 0 ≤ (pc : Int) + o) (hp : ((pc : Int) + o).toNat = pc') (kk : Go p e below s m Q Cc Sc T pc' Ls St) : Go p e below s m Q Cc Sc T pc Ls St := Go.via (fun t q => XS.goto X.here C.x rfl rfl (hb C.b hd) ho hp q) kk
/-- what a comparison says of two ints -/
def Cd (cd : ClassFile.Cond) (x y : Int) : Prop := match cd with | .eq => x = y | .ne => ¬ x = y | .lt => x < y | .ge => y ≤ x | .gt => y < x | .le => x ≤ y
def ng : ClassFile.Cond → ClassFile.Cond | .eq => .ne | .ne => .eq | .lt => .ge | .ge => .lt | .gt => .le | .le => .gt
theorem cd_n {cd : ClassFile.Cond} {x y : Int} (h : ¬ Cd cd x y) : Cd (ng cd) x y := by
  cases cd <;> simp only [Cd, ng] at h ⊢ <;> omega
theorem cd_t {cd : ClassFile.Cond} {x y : Int32} : if_icmp.holds cd x y = true ↔ Cd cd x.toInt y.toInt := by
  cases cd <;> simp [if_icmp.holds, Cd, Int32.lt_iff_toInt_lt, Int32.le_iff_toInt_le, Int32.toInt_inj]
theorem cd_0 {cd : ClassFile.Cond} {x : Int32} : ifCond.holds cd x = true ↔ Cd cd x.toInt 0 := by
  rw [if0, cd_t]; rfl
theorem g_icmp (C : Cx Z a0 p s m meth c bs ml own nm rt) (X : Stand p l e R s m args below meth c T locs cells slots) {cd : ClassFile.Cond} {o : Int} {x y : Int32} (hd : decode bs pc = .ok (.if_icmp cd o, 3)) (ho : 0 ≤ (pc : Int) + o) (hq : ((pc : Int) + o).toNat = pt) (hp : pc + 3 = pc') (kt : Cd cd x.toInt y.toInt → Go p e below s m Q Cc Sc T pt Ls St) (kf : Cd (ng cd) x.toInt y.toInt → Go p e below s m Q Cc Sc T pc' Ls St) : Go p e below s m Q Cc Sc T pc Ls (.int y :: .int x :: St) := by
  subst hp
  by_cases q : Cd cd x.toInt y.toInt
  · exact Go.via (fun t q' => XS.icmpYes X.here C.x rfl rfl (hb C.b hd) rfl (cd_t.mpr q) ho hq q') (kt q)
  · exact Go.via (fun t q' => XS.icmpNo X.here C.x rfl (hb C.b hd) rfl (Bool.eq_false_iff.mpr fun z => q (cd_t.mp z)) q') (kf (cd_n q))
theorem g_if (C : Cx Z a0 p s m meth c bs ml own nm rt) (X : Stand p l e R s m args below meth c T locs cells slots) {cd : ClassFile.Cond} {o : Int} {x : Int32} (hd : decode bs pc = .ok (.ifCond cd o, 3)) (ho : 0 ≤ (pc : Int) + o) (hq : ((pc : Int) + o).toNat = pt) (hp : pc + 3 = pc') (kt : Cd cd x.toInt 0 → Go p e below s m Q Cc Sc T pt Ls St) (kf : Cd (ng cd) x.toInt 0 → Go p e below s m Q Cc Sc T pc' Ls St) : Go p e below s m Q Cc Sc T pc Ls (.int x :: St) := by
  subst hp
  by_cases q : Cd cd x.toInt 0
  · exact Go.via (fun t q' => XS.ifYes X.here C.x rfl rfl (hb C.b hd) rfl (cd_0.mpr q) ho hq q') (kt q)
  · exact Go.via (fun t q' => XS.ifNo X.here C.x rfl (hb C.b hd) rfl (Bool.eq_false_iff.mpr fun z => q (cd_0.mp z)) q') (kf (cd_n q))
theorem cd_l {cd : ClassFile.Cond} {x y : Int64} : Cd cd (lcmpW x y).toInt 0 ↔ Cd cd x.toInt y.toInt := by
  obtain ⟨h1, h2, h3⟩ := c_lcmp x y
  generalize (lcmpW x y).toInt = w at *
  generalize x.toInt = u at *
  generalize y.toInt = v at *
  cases cd <;> simp only [Cd] <;> omega
theorem g_lcmpif (C : Cx Z a0 p s m meth c bs ml own nm rt) (X : Stand p l e R s m args below meth c T locs cells slots) {cd : ClassFile.Cond} {o : Int} {x y : Int64} {pm : Nat} (hd0 : decode bs pc = .ok (.lcmp, 1)) (hm : pc + 1 = pm) (hd : decode bs pm = .ok (.ifCond cd o, 3)) (ho : 0 ≤ (pm : Int) + o) (hq : ((pm : Int) + o).toNat = pt) (hp : pm + 3 = pc') (kt : Cd cd x.toInt y.toInt → Go p e below s m Q Cc Sc T pt Ls St) (kf : Cd (ng cd) x.toInt y.toInt → Go p e below s m Q Cc Sc T pc' Ls St) : Go p e below s m Q Cc Sc T pc Ls (.long y :: .long x :: St) := by
  subst hm
  refine Go.via (fun t q' => XS.lcmp X.here C.x rfl (hb C.b hd0) rfl q') ?_
  exact g_if C X hd ho hq hp (fun z => kt (cd_l.mp z)) (fun z => kf (cd_l.mp z))
theorem g_ireturnN (C : Cx Z a0 p s m meth c bs ml own nm rt) (X : Stand p l e R s m args below meth c T locs cells slots) {z : Int32} {t : FieldType} (hd : decode bs pc = .ok (.ireturn, 1)) (hr : rt = some t) (ht : t = .boolean ∨ t = .byte ∨ t = .char ∨ t = .short) (hQ : Q (some (.int (nar t z))) T.heap locs) (hC : cells ≤ Cc) (hS : slots ≤ Sc) : Go p e below s m Q Cc Sc T pc Ls (.int z :: St) := by
  subst hr
  obtain ⟨fs, hr, hrun, hended, hW, hsame⟩ := X.leave (v := some (.int (nar t z))) (fun h => by rw [C.r] at h; cases h) C.lk
  refine ⟨_, _, ?_, hrun, hended, _, _, rfl, hQ, ⟨_, rfl⟩, hW, hsame.mono hC hS⟩
  exact retN X C.x C.r ht (hb C.b hd) hr
theorem g_ireturn (C : Cx Z a0 p s m meth c bs ml own nm rt) (X : Stand p l e R s m args below meth c T locs cells slots) {z : Int32} (hd : decode bs pc = .ok (.ireturn, 1)) (hr : rt = some .int) (hQ : Q (some (.int z)) T.heap locs) (hC : cells ≤ Cc) (hS : slots ≤ Sc) : Go p e below s m Q Cc Sc T pc Ls (.int z :: St) := by
  subst hr
  obtain ⟨fs, hr, hrun, hended, hW, hsame⟩ := X.leave (v := some (.int z)) (fun h => by rw [C.r] at h; cases h) C.lk
  refine ⟨_, _, ?_, hrun, hended, _, _, rfl, hQ, ⟨_, rfl⟩, hW, hsame.mono hC hS⟩
  exact retOut X C.x C.r rfl (Or.inl ⟨rfl, Or.inl rfl, z, rfl⟩) (hb C.b hd) hr
theorem g_lreturn (C : Cx Z a0 p s m meth c bs ml own nm rt) (X : Stand p l e R s m args below meth c T locs cells slots) {z : Int64} (hd : decode bs pc = .ok (.lreturn, 1)) (hr : rt = some .long) (hQ : Q (some (.long z)) T.heap locs) (hC : cells ≤ Cc) (hS : slots ≤ Sc) : Go p e below s m Q Cc Sc T pc Ls (.long z :: St) := by
  subst hr
  obtain ⟨fs, hr, hrun, hended, hW, hsame⟩ := X.leave (v := some (.long z)) (fun h => by rw [C.r] at h; cases h) C.lk
  refine ⟨_, _, ?_, hrun, hended, _, _, rfl, hQ, ⟨_, rfl⟩, hW, hsame.mono hC hS⟩
  exact retOut X C.x C.r rfl (Or.inr (Or.inl ⟨rfl, rfl, z, rfl⟩)) (hb C.b hd) hr
theorem g_areturn (C : Cx Z a0 p s m meth c bs ml own nm rt) (X : Stand p l e R s m args below meth c T locs cells slots) {z : Addr} {t : FieldType} (hd : decode bs pc = .ok (.areturn, 1)) (hr : rt = some t) (ht : t.isReference = true) (hn : narrow t (.ref z) = .ref z) (hQ : Q (some (.ref z)) T.heap locs) (hC : cells ≤ Cc) (hS : slots ≤ Sc) : Go p e below s m Q Cc Sc T pc Ls (.ref z :: St) := by
  subst hr
  obtain ⟨fs, hr, hrun, hended, hW, hsame⟩ := X.leave (v := some (.ref z)) (fun h => by rw [C.r] at h; cases h) C.lk
  refine ⟨_, _, ?_, hrun, hended, _, _, rfl, hQ, ⟨_, rfl⟩, hW, hsame.mono hC hS⟩
  exact retOut X C.x C.r hn (Or.inr (Or.inr (Or.inr (Or.inr ⟨rfl, ht, rfl⟩)))) (hb C.b hd) hr
theorem g_return (C : Cx Z a0 p s m meth c bs ml own nm rt) (X : Stand p l e R s m args below meth c T locs cells slots)  (hd : decode bs pc = .ok (.return_, 1)) (hr : rt = none) (hQ : Q none T.heap locs) (hC : cells ≤ Cc) (hS : slots ≤ Sc) : Go p e below s m Q Cc Sc T pc Ls [] := by
  subst hr
  obtain ⟨fs, hr, hrun, hended, hW, hsame⟩ := X.leave (v := none) (fun _ => rfl) C.lk
  refine ⟨_, _, ?_, hrun, hended, _, _, rfl, hQ, ⟨_, rfl⟩, hW, hsame.mono hC hS⟩
  exact X.returnOut C.x C.r (hb C.b hd) hr
/-- an array: its kind, its length, what each place holds -/
def Aw (Z : State) (h : Heap) (a : Addr) (ty : FieldType) (n : Nat) (f : Nat → Value) : Prop := ∃ cl : Cell, Arr Z h a cl ty ∧ cl.slots.size = n ∧ n < 2 ^ 31 ∧ ∀ j, j < n → cl.slots[j]? = some (f j)
variable {a b : Addr} {ty : FieldType} {n : Nat} {f f' : Nat → Value}
theorem Aw.ext (A : Aw Z h a ty n f) (E : Ext h h') : Aw Z h' a ty n f := by obtain ⟨cl, A, r⟩ := A; exact ⟨cl, A.ext E, r⟩
theorem Aw.other {sl : Nat} {v : Value} (A : Aw Z h b ty n f) (W : Wr h h' a sl v) (q : b ≠ a) : Aw Z h' b ty n f := by obtain ⟨cl, A, r⟩ := A; exact ⟨cl, A.other W q, r⟩
theorem Aw.keep {ws : List Addr} (A : Aw Z h a ty n f) (K : Keep h h' ws) (q : a ∉ ws) : Aw Z h' a ty n f := by obtain ⟨cl, A, r⟩ := A; exact ⟨cl, ⟨K.2.1 a cl A.1 q, A.2⟩, r⟩
theorem Aw.lt (A : Aw Z h a ty n f) : a < h.size := by obtain ⟨cl, A, r⟩ := A; exact A.lt
theorem Aw.of (A : Aw Z h a ty n f) (q : ∀ j, j < n → f j = f' j) : Aw Z h a ty n f' := by obtain ⟨cl, A, r1, r2, r3⟩ := A; exact ⟨cl, A, r1, r2, fun j hj => by rw [r3 j hj, q j hj]⟩
theorem i_nn {j : Int32} (h0 : 0 ≤ j.toInt) : (j.toNatClampNeg : Int) = j.toInt := by simp only [Int32.toNatClampNeg]; omega
theorem aw_in {cl : Cell} {j : Int32} (S : cl.slots.size = n) (h0 : 0 ≤ j.toInt) (h1 : j.toInt < n) : ¬ (j < 0 ∨ cl.slots.size ≤ j.toNatClampNeg) := by
  have := i_nn h0
  rw [Int32.lt_iff_toInt_lt, S]; simp only [Int32.reduceToInt]; omega
theorem aw_len (q : n < 2 ^ 31) : (n.toInt32).toInt = n := len_toInt q
theorem g_newarray {aty : ArrayType} {nn : Int32} {cap : Nat} (C : Cx Z a0 p s m meth c bs ml own nm rt) (X : Stand p l e R s m args below meth c T locs cells slots) (hd : decode bs pc = .ok (.newarray aty, 2)) (eT : T.heap = h) (w : (Jvm.Cond.arrayClass (newarray.typeOf aty)).before a0 Z = true) (h0 : 0 ≤ nn.toInt) (hcap : nn.toInt ≤ cap) (hb8 : cap * 8 ≤ 536870912) (hc : cells + 1 ≤ R.cells) (hl : slots + cap ≤ R.slots) (hp : pc + 2 = pc')
    (kk : ∀ T' h', Stand p l e R s m args below meth c T' locs (cells + 1) (slots + cap) → T'.heap = h' → Ext h h' → h.size < h'.size → ∀ a, a = h.size → Aw Z h' a (newarray.typeOf aty) nn.toInt.toNat (fun _ => defaultValue (newarray.typeOf aty)) → Go p e below s m Q Cc Sc T' pc' Ls (.ref a :: St)) : Go p e below s m Q Cc Sc T pc Ls (.int nn :: St) := by
  subst hp
  have hn : ¬ nn < 0 := by rw [Int32.lt_iff_toInt_lt]; simp only [Int32.reduceToInt]; omega
  have hi := i_nn h0
  obtain ⟨T', h', cA, X', e', E, A, st⟩ := newP X C.x C.z w eT (g := mkF m pc Ls (.int nn :: St)) rfl (hb C.b hd) rfl hn (cap := cap) (by omega) hb8 hc hl
  have hs : (newA cA (newarray.typeOf aty) nn).slots.size = nn.toInt.toNat := by rw [sz_new]; simp only [Int32.toNatClampNeg]
  have hlt := nn.toInt_lt
  refine Go.via st (kk T' h' X' e' E A.lt _ rfl ⟨_, A, hs, by omega, fun j hj => ?_⟩)
  have : j < nn.toNatClampNeg := by omega
  simp [newA, this]
theorem Aw.set {cl : Cell} {j : Int32} {v : Value} (A : Arr Z h a cl ty) (S : cl.slots.size = n) (M : n < 2 ^ 31) (H : ∀ j, j < n → cl.slots[j]? = some (f j)) (h0 : 0 ≤ j.toInt) (W : Wr h h' a j.toNatClampNeg v) : Aw Z h' a ty n (fun i => if (i : Int) = j.toInt then v else f i) := by
  refine ⟨_, A.same W, by rw [sz_set]; exact S, M, fun i hi => ?_⟩
  have hi0 := i_nn h0
  show _ = some (if (i : Int) = j.toInt then v else f i)
  by_cases q : (i : Int) = j.toInt
  · have : j.toNatClampNeg = i := by omega
    rw [if_pos q, this]
    simp [Cell.setSlot, S, hi]
  · have : j.toNatClampNeg ≠ i := by omega
    rw [if_neg q]
    simp only [Cell.setSlot]
    rw [Array.getElem?_setIfInBounds_ne this]; exact H i hi
theorem g_arraylength (C : Cx Z a0 p s m meth c bs ml own nm rt) (X : Stand p l e R s m args below meth c T locs cells slots) (hd : decode bs pc = .ok (.arraylength, 1)) (eT : T.heap = h) (A : Aw Z h a ty n f) (hp : pc + 1 = pc') (kk : ∀ v : Int32, v.toInt = n → Go p e below s m Q Cc Sc T pc' Ls (.int v :: St)) : Go p e below s m Q Cc Sc T pc Ls (.ref a :: St) := by
  subst hp
  obtain ⟨cl, A, S, M, H⟩ := A
  have : cl.slots.size.toInt32.toInt = n := by rw [S]; exact aw_len M
  exact Go.via (fun t q => X.arraylength C.x (by rw [eT]; exact A.1) (State.isArrayOf_alike C.z.alike A.2.1) (g := mkF m pc Ls (.ref a :: St)) rfl rfl (hb C.b hd) t q) (kk _ this)

theorem g_iastore {j : Int32} {x : Int32} (C : Cx Z a0 p s m meth c bs ml own nm rt) (X : Stand p l e R s m args below meth c T locs cells slots) (hd : decode bs pc = .ok (.iastore, 1)) (eT : T.heap = h) (A : Aw Z h a .int n f) (h0 : 0 ≤ j.toInt) (h1 : j.toInt < n) (hp : pc + 1 = pc')
    (kk : ∀ T' h', Stand p l e R s m args below meth c T' (locs ++ [⟨a, j.toNatClampNeg⟩]) cells slots → T'.heap = h' → Wr h h' a j.toNatClampNeg (.int x) → Aw Z h' a .int n (fun i => if (i : Int) = j.toInt then .int x else f i) → Go p e below s m Q Cc Sc T' pc' Ls St) : Go p e below s m Q Cc Sc T pc Ls (.int x :: .int j :: .ref a :: St) := by
  subst hp
  obtain ⟨cl, A, S, M, H⟩ := A
  obtain ⟨T', h', X', e', W, st⟩ := stI X C.x C.z eT A (j := j) (aw_in S h0 h1) (g := mkF m pc Ls (.int x :: .int j :: .ref a :: St)) rfl rfl (hb C.b hd)
  exact Go.via st (kk T' h' X' e' W (Aw.set A S M H h0 W))
theorem g_bastore {j : Int32} {x : Int32} (C : Cx Z a0 p s m meth c bs ml own nm rt) (X : Stand p l e R s m args below meth c T locs cells slots) (hd : decode bs pc = .ok (.bastore, 1)) (eT : T.heap = h) (A : Aw Z h a .byte n f) (h0 : 0 ≤ j.toInt) (h1 : j.toInt < n) (hp : pc + 1 = pc')
    (kk : ∀ T' h', Stand p l e R s m args below meth c T' (locs ++ [⟨a, j.toNatClampNeg⟩]) cells slots → T'.heap = h' → Wr h h' a j.toNatClampNeg (.int (nar .byte x)) → Aw Z h' a .byte n (fun i => if (i : Int) = j.toInt then .int (nar .byte x) else f i) → Go p e below s m Q Cc Sc T' pc' Ls St) : Go p e below s m Q Cc Sc T pc Ls (.int x :: .int j :: .ref a :: St) := by
  subst hp
  obtain ⟨cl, A, S, M, H⟩ := A
  obtain ⟨T', h', X', e', W, st⟩ := stB X C.x C.z eT A (j := j) (aw_in S h0 h1) (g := mkF m pc Ls (.int x :: .int j :: .ref a :: St)) rfl rfl (hb C.b hd)
  exact Go.via st (kk T' h' X' e' W (Aw.set A S M H h0 W))
theorem g_lastore {j : Int32} {x : Int64} (C : Cx Z a0 p s m meth c bs ml own nm rt) (X : Stand p l e R s m args below meth c T locs cells slots) (hd : decode bs pc = .ok (.lastore, 1)) (eT : T.heap = h) (A : Aw Z h a .long n f) (h0 : 0 ≤ j.toInt) (h1 : j.toInt < n) (hp : pc + 1 = pc')
    (kk : ∀ T' h', Stand p l e R s m args below meth c T' (locs ++ [⟨a, j.toNatClampNeg⟩]) cells slots → T'.heap = h' → Wr h h' a j.toNatClampNeg (.long x) → Aw Z h' a .long n (fun i => if (i : Int) = j.toInt then .long x else f i) → Go p e below s m Q Cc Sc T' pc' Ls St) : Go p e below s m Q Cc Sc T pc Ls (.long x :: .int j :: .ref a :: St) := by
  subst hp
  obtain ⟨cl, A, S, M, H⟩ := A
  obtain ⟨T', h', X', e', W, st⟩ := stJ X C.x C.z eT A (j := j) (aw_in S h0 h1) (g := mkF m pc Ls (.long x :: .int j :: .ref a :: St)) rfl rfl (hb C.b hd)
  exact Go.via st (kk T' h' X' e' W (Aw.set A S M H h0 W))
theorem g_iaload {j : Int32} {v : Value} (C : Cx Z a0 p s m meth c bs ml own nm rt) (X : Stand p l e R s m args below meth c T locs cells slots) (hd : decode bs pc = .ok (.iaload, 1)) (eT : T.heap = h) (A : Aw Z h a .int n f) (h0 : 0 ≤ j.toInt) (h1 : j.toInt < n) (hv : f j.toInt.toNat = v) (hp : pc + 1 = pc') (kk : Go p e below s m Q Cc Sc T pc' Ls (v :: St)) : Go p e below s m Q Cc Sc T pc Ls (.int j :: .ref a :: St) := by
  subst hp
  obtain ⟨cl, A, S, M, H⟩ := A
  have hi := i_nn h0
  have hj : j.toNatClampNeg = j.toInt.toNat := by omega
  have hat : cl.slots[j.toNatClampNeg]? = some v := by rw [hj, H _ (by omega), hv]
  exact Go.via (fun t q => X.iaload C.x (j := j) (v := v) (by rw [eT]; exact A.1) (State.isArrayOf_alike C.z.alike A.2.1) A.2.2 (aw_in S h0 h1) hat (g := mkF m pc Ls (.int j :: .ref a :: St)) rfl rfl (hb C.b hd) t q) kk
theorem g_baload {j : Int32} {v : Value} (C : Cx Z a0 p s m meth c bs ml own nm rt) (X : Stand p l e R s m args below meth c T locs cells slots) (hd : decode bs pc = .ok (.baload, 1)) (eT : T.heap = h) (A : Aw Z h a .byte n f) (h0 : 0 ≤ j.toInt) (h1 : j.toInt < n) (hv : f j.toInt.toNat = v) (hp : pc + 1 = pc') (kk : Go p e below s m Q Cc Sc T pc' Ls (v :: St)) : Go p e below s m Q Cc Sc T pc Ls (.int j :: .ref a :: St) := by
  subst hp
  obtain ⟨cl, A, S, M, H⟩ := A
  have hi := i_nn h0
  have hj : j.toNatClampNeg = j.toInt.toNat := by omega
  have hat : cl.slots[j.toNatClampNeg]? = some v := by rw [hj, H _ (by omega), hv]
  exact Go.via (fun t q => X.baloadBytes C.x (j := j) (v := v) (by rw [eT]; exact A.1) (State.isArrayOf_alike C.z.alike A.2.1) A.2.2 (aw_in S h0 h1) hat (g := mkF m pc Ls (.int j :: .ref a :: St)) rfl rfl (hb C.b hd) t q) kk
theorem g_laload {j : Int32} {v : Value} (C : Cx Z a0 p s m meth c bs ml own nm rt) (X : Stand p l e R s m args below meth c T locs cells slots) (hd : decode bs pc = .ok (.laload, 1)) (eT : T.heap = h) (A : Aw Z h a .long n f) (h0 : 0 ≤ j.toInt) (h1 : j.toInt < n) (hv : f j.toInt.toNat = v) (hp : pc + 1 = pc') (kk : Go p e below s m Q Cc Sc T pc' Ls (v :: St)) : Go p e below s m Q Cc Sc T pc Ls (.int j :: .ref a :: St) := by
  subst hp
  obtain ⟨cl, A, S, M, H⟩ := A
  have hi := i_nn h0
  have hj : j.toNatClampNeg = j.toInt.toNat := by omega
  have hat : cl.slots[j.toNatClampNeg]? = some v := by rw [hj, H _ (by omega), hv]
  exact Go.via (fun t q => X.laload C.x (j := j) (v := v) (by rw [eT]; exact A.1) (State.isArrayOf_alike C.z.alike A.2.1) A.2.2 (aw_in S h0 h1) hat (g := mkF m pc Ls (.int j :: .ref a :: St)) rfl rfl (hb C.b hd) t q) kk
theorem g_callS {y : MethodName} {bytes : ByteArray} {maxL W index : Nat} {ret : Option FieldType} {rm : Room} {argsL rest : List Value} {ps : List FieldType} {r : Option FieldType} {Qc : Option Value → Heap → List Loc → Prop} (C : Cx Z a0 p s m meth c bs ml own nm rt) (X : Stand p l e R s m args below meth c T locs cells slots)
    (hd : decode bs pc = .ok (.invokestatic index, 3)) (eT : T.heap = h)
    (w1 : (Jvm.Cond.methodLink own index y).before a0 Z = true) (w2 : (Jvm.Cond.static y).before a0 Z = true) (w3 : (Jvm.Cond.initialized y.cls).before a0 Z = true) (w4 : (Jvm.Cond.code y bytes maxL ret).before a0 Z = true)
    (hM : MetFree l y (head1 [Jvm.Cond.code y bytes maxL ret] rm) (fun a U => a = argsL.toArray ∧ Z.Warmed39 U.vm ∧ U.heap = h) (fun _ _ _ _ _ => True) (fun _ U o U' => ∃ v L, o = .returned v ∧ Qc v U'.heap L ∧ FrameEnd U o U' L rm.cells rm.slots))
    (hy : y.cls ≠ "java/lang/invoke/MethodHandle" ∧ y.cls ≠ "java/lang/invoke/VarHandle") (hpd : parseMethodDescriptor y.desc = some ⟨ps, r⟩) (hln : argsL.length = ps.length)
    (hst : St = argsL.reverse ++ rest) (hLs : Ls.size = ml) (hW : (rest.map fun v => v.category).sum ≤ W) (hfr : rm.frames + 1 ≤ R.frames) (hlo : W + (maxL + 11) + rm.locals ≤ R.locals) (hce : cells + rm.cells ≤ R.cells) (hsl : slots + rm.slots ≤ R.slots) (hp : pc + 3 = pc')
    (kk : ∀ T' v L, Stand p l e R s m args below meth c T' (locs ++ L) (cells + rm.cells) (slots + rm.slots) → Qc v T'.heap L → Go p e below s m Q Cc Sc T' pc' Ls (v.toList ++ rest)) : Go p e below s m Q Cc Sc T pc Ls St := by
  subst hp
  obtain ⟨v, _, ⟨T', L', k', n'⟩, -, X', ⟨L, hQ, l1, y1, z1⟩, st⟩ := Jvm.LawKit.callS X C.x (y := y) C.o (mvT C.z w1) (mvT C.z w2) (mvT C.z w3) (mvT C.z w4) hy (backOf (W := W) hM C.z w4 w3 hfr hlo) (g := mkF m pc Ls St) rfl (by rw [C.mx]; exact hLs) (argsL := argsL) (rest := rest) (lenOf hpd hln) hst (by show 2 * 0 + _ ≤ _; omega) (hb C.b hd) (fun _ _ => ⟨rfl, eT, hce, hsl⟩)
  dsimp only [Pt.U, Pt.locs, Pt.cells, Pt.slots] at X' l1 y1 z1 st hQ
  subst l1 y1 z1
  exact Go.via st (kk T' v L X' hQ)
theorem g_callC {y : MethodName} {bytes : ByteArray} {maxL W index : Nat} {rm : Room} {argsL rest : List Value} {ps : List FieldType} {r : Option FieldType} {Qc : Option Value → Heap → List Loc → Prop} (C : Cx Z a0 p s m meth c bs ml own nm rt) (X : Stand p l e R s m args below meth c T locs cells slots)
    (hd : decode bs pc = .ok (.invokespecial index, 3)) (eT : T.heap = h) (hy1 : y.name = "<init>") 
    (w1 : (Jvm.Cond.methodLink own index y).before a0 Z = true) (w2 : (Jvm.Cond.instanceMethod y).before a0 Z = true) (w3 : (Jvm.Cond.initialized y.cls).before a0 Z = true) (w4 : (Jvm.Cond.code y bytes maxL none).before a0 Z = true)
    (hM : MetFree l y (head1 [Jvm.Cond.code y bytes maxL none] rm) (fun a' U => a' = (Value.ref a :: argsL).toArray ∧ Z.Warmed39 U.vm ∧ U.heap = h) (fun _ _ _ _ _ => True) (fun _ U o U' => ∃ v L, o = .returned v ∧ Qc v U'.heap L ∧ FrameEnd U o U' L rm.cells rm.slots))
    (hy : y.cls ≠ "java/lang/invoke/MethodHandle" ∧ y.cls ≠ "java/lang/invoke/VarHandle") (hpd : parseMethodDescriptor y.desc = some ⟨ps, r⟩) (hln : argsL.length = ps.length)
    (hst : St = argsL.reverse ++ .ref a :: rest) (hLs : Ls.size = ml) (hW : (rest.map fun v => v.category).sum ≤ W) (hfr : rm.frames + 1 ≤ R.frames) (hlo : W + (maxL + 11) + rm.locals ≤ R.locals) (hce : cells + rm.cells ≤ R.cells) (hsl : slots + rm.slots ≤ R.slots) (hp : pc + 3 = pc')
    (kk : ∀ T' v L, Stand p l e R s m args below meth c T' (locs ++ L) (cells + rm.cells) (slots + rm.slots) → Qc v T'.heap L → Go p e below s m Q Cc Sc T' pc' Ls (v.toList ++ rest)) : Go p e below s m Q Cc Sc T pc Ls St := by
  subst hp
  obtain ⟨v, _, ⟨T', L', k', n'⟩, -, X', ⟨L, hQ, l1, y1, z1⟩, st⟩ := X.specialBack C.x (y := y) hy1 C.o (mvT C.z w1) (mvT C.z w2) (mvT C.z w4) hy (backOf (W := W) hM C.z w4 w3 hfr hlo) (g := mkF m pc Ls St) rfl (by rw [C.mx]; exact hLs) (Steps.refl _) (a := a) (argsL := argsL) (rest := rest) (lenOf hpd hln) hst (by show 2 * 0 + _ ≤ _; omega) (hb C.b hd) (fun _ _ => ⟨rfl, eT, hce, hsl⟩)
  dsimp only [Pt.U, Pt.locs, Pt.cells, Pt.slots] at X' l1 y1 z1 st hQ
  subst l1 y1 z1
  exact Go.via (fun t q => st.trans q) (kk T' v L X' hQ)
theorem g_callV {y : MethodName} {bytes : ByteArray} {maxL W index : Nat} {ret : Option FieldType} {rm : Room} {argsL rest : List Value} {ps : List FieldType} {r : Option FieldType} {Qc : Option Value → Heap → List Loc → Prop} (C : Cx Z a0 p s m meth c bs ml own nm rt) (X : Stand p l e R s m args below meth c T locs cells slots)
    (hd : decode bs pc = .ok (.invokevirtual index, 3)) (eT : T.heap = h) {K : String} (E : Exa Z h a K) (wd : (Jvm.Cond.declares y).before a0 Z = true) (wn : (Jvm.Cond.selects K y y).before a0 Z = true) 
    (w1 : (Jvm.Cond.methodLink own index y).before a0 Z = true) (w2 : (Jvm.Cond.instanceMethod y).before a0 Z = true) (w3 : (Jvm.Cond.initialized y.cls).before a0 Z = true) (w4 : (Jvm.Cond.code y bytes maxL ret).before a0 Z = true)
    (hM : MetFree l y (head1 [Jvm.Cond.code y bytes maxL ret] rm) (fun a' U => a' = (Value.ref a :: argsL).toArray ∧ Z.Warmed39 U.vm ∧ U.heap = h) (fun _ _ _ _ _ => True) (fun _ U o U' => ∃ v L, o = .returned v ∧ Qc v U'.heap L ∧ FrameEnd U o U' L rm.cells rm.slots))
    (hy : y.cls ≠ "java/lang/invoke/MethodHandle" ∧ y.cls ≠ "java/lang/invoke/VarHandle") (hpd : parseMethodDescriptor y.desc = some ⟨ps, r⟩) (hln : argsL.length = ps.length)
    (hst : St = argsL.reverse ++ .ref a :: rest) (hLs : Ls.size = ml) (hW : (rest.map fun v => v.category).sum ≤ W) (hfr : rm.frames + 1 ≤ R.frames) (hlo : W + (maxL + 11) + rm.locals ≤ R.locals) (hce : cells + rm.cells ≤ R.cells) (hsl : slots + rm.slots ≤ R.slots) (hp : pc + 3 = pc')
    (kk : ∀ T' v L, Stand p l e R s m args below meth c T' (locs ++ L) (cells + rm.cells) (slots + rm.slots) → Qc v T'.heap L → Go p e below s m Q Cc Sc T' pc' Ls (v.toList ++ rest)) : Go p e below s m Q Cc Sc T pc Ls St := by
  subst hp
  obtain ⟨cq, kq, qa, qb, qc⟩ := isOf C.z eT E
  obtain ⟨v, _, ⟨T', L', k', n'⟩, -, X', ⟨L, hQ, l1, y1, z1⟩, st⟩ := X.virtualBack C.x (y := y) (z := y) C.o (mvT C.z w1) (mvT C.z wd) (notFace_of_selects (args := #[]) (mvT C.z wn)) (mvT C.z wn) (mvT C.z w2) hy (backOf (W := W) hM C.z w4 w3 hfr hlo) qa qc (g := mkF m pc Ls St) rfl (by rw [C.mx]; exact hLs) (Steps.refl _) (argsL := argsL) (rest := rest) (lenOf hpd hln) hst (by show 2 * 0 + _ ≤ _; omega) (hb C.b hd) (fun _ _ => ⟨rfl, eT, hce, hsl⟩)
  dsimp only [Pt.U, Pt.locs, Pt.cells, Pt.slots] at X' l1 y1 z1 st hQ
  subst l1 y1 z1
  exact Go.via (fun t q => st.trans q) (kk T' v L X' hQ)
theorem g_getfield {R0 O nf df : String} {index : Nat} {v : Value} (C : Cx Z a0 p s m meth c bs ml own nm rt) (X : Stand p l e R s m args below meth c T locs cells slots) (hd : decode bs pc = .ok (.getfield index, 3)) (eT : T.heap = h) (w : (Jvm.Cond.fieldLink own index R0 nf df).before a0 Z = true) (via : Via Z R0 O nf df) (F : Fld Z h a O nf df v) (hp : pc + 3 = pc')
    (kk : ∀ T', Stand p l e R s m args below meth c T' locs cells slots → T'.heap = h → Go p e below s m Q Cc Sc T' pc' Ls (v :: St)) : Go p e below s m Q Cc Sc T pc Ls (.ref a :: St) := by
  subst hp
  obtain ⟨T', X', e', st⟩ := getF X C.x C.z C.o (host := "") (Or.inl w) via eT F (g := mkF m pc Ls (.ref a :: St)) rfl rfl (hb C.b hd)
  exact Go.via st (kk T' X' e')
theorem g_new {K : String} {index n : Nat} (C : Cx Z a0 p s m meth c bs ml own nm rt) (X : Stand p l e R s m args below meth c T locs cells slots) (hd : decode bs pc = .ok (.new index, 3)) (eT : T.heap = h) (w1 : (Jvm.Cond.classLink own index K).before a0 Z = true) (w2 : (Jvm.Cond.instantiable K n).before a0 Z = true) (w3 : (Jvm.Cond.initialized K).before a0 Z = true) (hc : cells + 1 ≤ R.cells) (hl : slots + n ≤ R.slots) (hp : pc + 3 = pc')
    (kk : ∀ T' h', Stand p l e R s m args below meth c T' locs (cells + 1) (slots + n) → T'.heap = h' → Ext h h' → h.size < h'.size → ∀ a, a = h.size → Exa Z h' a K → (∀ {O nf d : String} {ty : FieldType}, Laid Z a0 K O nf d → parseFieldDescriptor d = some ty → Fld Z h' a O nf d (defaultValue ty)) → Go p e below s m Q Cc Sc T' pc' Ls (.ref a :: St)) : Go p e below s m Q Cc Sc T pc Ls St := by
  subst hp
  obtain ⟨T', h', X', e', E, A, D, -, st⟩ := newO X C.x C.z C.o w1 w2 w3 eT (g := mkF m pc Ls St) rfl (hb C.b hd) hc hl
  exact Go.via st (kk T' h' X' e' E A.lt _ rfl A D)
theorem g_putfield {R0 O nf df K : String} {index kk' : Nat} {ty : FieldType} {v old : Value} (C : Cx Z a0 p s m meth c bs ml own nm rt) (X : Stand p l e R s m args below meth c T locs cells slots) (hd : decode bs pc = .ok (.putfield index, 3)) (eT : T.heap = h) (w : (Jvm.Cond.fieldLink own index R0 nf df).before a0 Z = true) (via : Via Z R0 O nf df) (F : Fld Z h a O nf df old) (E : Exa Z h a K) (L : (Jvm.Cond.lays K O nf df).before a0 Z = true ∨ ((Jvm.Cond.laysFinal K O nf df).before a0 Z = true ∧ own = O ∧ nm = "<init>")) (wi : (Jvm.Cond.instantiable K kk').before a0 Z = true) (hty : parseFieldDescriptor df = some ty) (hn : narrow ty v = v) (hf : fits ty v = true) (hp : pc + 3 = pc')
    (kk : ∀ T' h', Stand p l e R s m args below meth c T' (locs ++ [⟨a, Jvm.RoadKit.slotOf Z O nf df⟩]) cells slots → T'.heap = h' → Wr h h' a (Jvm.RoadKit.slotOf Z O nf df) v → Fld Z h' a O nf df v → Exa Z h' a K → Go p e below s m Q Cc Sc T' pc' Ls St) : Go p e below s m Q Cc Sc T pc Ls (v :: .ref a :: St) := by
  subst hp
  obtain ⟨T', h', X', e', W, st⟩ := putF X C.x C.z C.o (host := "") (Or.inl w) via eT F E (L.imp id fun q => ⟨q.1, q.2.1, by rw [C.n]; exact q.2.2⟩) wi hty hn hf (g := mkF m pc Ls (v :: .ref a :: St)) rfl rfl (hb C.b hd)
  exact Go.via st (kk T' h' X' e' W (F.same W) (E.wr W))
theorem g_initO {idx W : Nat} (C : Cx Z a0 p s m meth c bs ml own nm rt) (X : Stand p l e R s m args below meth c T locs cells slots) (hd : decode bs pc = .ok (.invokespecial idx, 3)) (eT : T.heap = h) (w1 : (Jvm.Cond.methodLink own idx Lib.objectInit).before a0 Z = true) (w2 : (Jvm.Cond.instanceMethod Lib.objectInit).before a0 Z = true) (w3 : (Jvm.Cond.code Lib.objectInit ⟨#[0xb1]⟩ 1 none).before a0 Z = true) (hLs : Ls.size = ml) (hf : 1 ≤ R.frames) (hW : (St.map fun v => v.category).sum ≤ W) (hl : W + 12 ≤ R.locals) (hp : pc + 3 = pc')
    (kk : ∀ T', Stand p l e R s m args below meth c T' locs cells slots → T'.heap = h → Go p e below s m Q Cc Sc T' pc' Ls St) : Go p e below s m Q Cc Sc T pc Ls (.ref a :: St) := by
  subst hp
  obtain ⟨T', X', e', st⟩ := initO X C.x C.z C.o w1 w2 w3 eT (g := mkF m pc Ls (.ref a :: St)) rfl (by rw [C.mx]; exact hLs) rfl (hb C.b hd) hf (W := W) (by show 2 * 0 + _ ≤ _; omega) hl
  exact Go.via st (kk T' X' e')
end Own
/-- numbers -/
theorem own_inj32 {x y : Int32} (h : x.toInt = y.toInt) : x = y := Int32.toInt_inj.mp h
theorem own_inj64 {x y : Int64} (h : x.toInt = y.toInt) : x = y := Int64.toInt_inj.mp h
theorem own_nz32 {x : Int32} (h : 1 ≤ x.toInt) : x ≠ 0 := fun q => by rw [q] at h; revert h; decide
theorem own_nz64 {x : Int64} (h : 1 ≤ x.toInt) : x ≠ 0 := fun q => by rw [q] at h; revert h; decide
abbrev LQ (n0 : Nat) : Option Value → Heap → List Loc → Prop := fun v _ L => v = some (.int 1) ∧ Fr n0 L
theorem d1_0 : decode method_2_code 0 = .ok (.iload_n 0, 1) := by decide +kernel
theorem d1_1 : decode method_2_code 1 = .ok (.ifCond .ne 7, 3) := by decide +kernel
theorem d1_4 : decode method_2_code 4 = .ok (.iconst 0, 1) := by decide +kernel
theorem d1_5 : decode method_2_code 5 = .ok (.newarray .long, 2) := by decide +kernel
theorem d1_7 : decode method_2_code 7 = .ok (.areturn, 1) := by decide +kernel
theorem d1_8 : decode method_2_code 8 = .ok (.iload_n 0, 1) := by decide +kernel
theorem d1_9 : decode method_2_code 9 = .ok (.iconst 1, 1) := by decide +kernel
theorem d1_10 : decode method_2_code 10 = .ok (.if_icmp .ne 11, 3) := by decide +kernel
theorem d1_13 : decode method_2_code 13 = .ok (.iconst 1, 1) := by decide +kernel
theorem d1_14 : decode method_2_code 14 = .ok (.newarray .long, 2) := by decide +kernel
theorem d1_16 : decode method_2_code 16 = .ok (.dup, 1) := by decide +kernel
theorem d1_17 : decode method_2_code 17 = .ok (.iconst 0, 1) := by decide +kernel
theorem d1_18 : decode method_2_code 18 = .ok (.lload_n 1, 1) := by decide +kernel
theorem d1_19 : decode method_2_code 19 = .ok (.lastore, 1) := by decide +kernel
theorem d1_20 : decode method_2_code 20 = .ok (.areturn, 1) := by decide +kernel
theorem d1_21 : decode method_2_code 21 = .ok (.iload_n 0, 1) := by decide +kernel
theorem d1_22 : decode method_2_code 22 = .ok (.iconst 2, 1) := by decide +kernel
theorem d1_23 : decode method_2_code 23 = .ok (.if_icmp .ne 15, 3) := by decide +kernel
theorem d1_26 : decode method_2_code 26 = .ok (.iconst 2, 1) := by decide +kernel
theorem d1_27 : decode method_2_code 27 = .ok (.newarray .long, 2) := by decide +kernel
theorem d1_29 : decode method_2_code 29 = .ok (.dup, 1) := by decide +kernel
theorem d1_30 : decode method_2_code 30 = .ok (.iconst 0, 1) := by decide +kernel
theorem d1_31 : decode method_2_code 31 = .ok (.lload_n 1, 1) := by decide +kernel
theorem d1_32 : decode method_2_code 32 = .ok (.lastore, 1) := by decide +kernel
theorem d1_33 : decode method_2_code 33 = .ok (.dup, 1) := by decide +kernel
theorem d1_34 : decode method_2_code 34 = .ok (.iconst 1, 1) := by decide +kernel
theorem d1_35 : decode method_2_code 35 = .ok (.lload_n 3, 1) := by decide +kernel
theorem d1_36 : decode method_2_code 36 = .ok (.lastore, 1) := by decide +kernel
theorem d1_37 : decode method_2_code 37 = .ok (.areturn, 1) := by decide +kernel
theorem d1_38 : decode method_2_code 38 = .ok (.iload_n 0, 1) := by decide +kernel
theorem d1_39 : decode method_2_code 39 = .ok (.iconst 3, 1) := by decide +kernel
theorem d1_40 : decode method_2_code 40 = .ok (.if_icmp .ne 20, 3) := by decide +kernel
theorem d1_43 : decode method_2_code 43 = .ok (.iconst 3, 1) := by decide +kernel
theorem d1_44 : decode method_2_code 44 = .ok (.newarray .long, 2) := by decide +kernel
theorem d1_46 : decode method_2_code 46 = .ok (.dup, 1) := by decide +kernel
theorem d1_47 : decode method_2_code 47 = .ok (.iconst 0, 1) := by decide +kernel
theorem d1_48 : decode method_2_code 48 = .ok (.lload_n 1, 1) := by decide +kernel
theorem d1_49 : decode method_2_code 49 = .ok (.lastore, 1) := by decide +kernel
theorem d1_50 : decode method_2_code 50 = .ok (.dup, 1) := by decide +kernel
theorem d1_51 : decode method_2_code 51 = .ok (.iconst 1, 1) := by decide +kernel
theorem d1_52 : decode method_2_code 52 = .ok (.lload_n 3, 1) := by decide +kernel
theorem d1_53 : decode method_2_code 53 = .ok (.lastore, 1) := by decide +kernel
theorem d1_54 : decode method_2_code 54 = .ok (.dup, 1) := by decide +kernel
theorem d1_55 : decode method_2_code 55 = .ok (.iconst 2, 1) := by decide +kernel
theorem d1_56 : decode method_2_code 56 = .ok (.lload 5, 2) := by decide +kernel
theorem d1_58 : decode method_2_code 58 = .ok (.lastore, 1) := by decide +kernel
theorem d1_59 : decode method_2_code 59 = .ok (.areturn, 1) := by decide +kernel
theorem d1_60 : decode method_2_code 60 = .ok (.iconst 4, 1) := by decide +kernel
theorem d1_61 : decode method_2_code 61 = .ok (.newarray .long, 2) := by decide +kernel
theorem d1_63 : decode method_2_code 63 = .ok (.dup, 1) := by decide +kernel
theorem d1_64 : decode method_2_code 64 = .ok (.iconst 0, 1) := by decide +kernel
theorem d1_65 : decode method_2_code 65 = .ok (.lload_n 1, 1) := by decide +kernel
theorem d1_66 : decode method_2_code 66 = .ok (.lastore, 1) := by decide +kernel
theorem d1_67 : decode method_2_code 67 = .ok (.dup, 1) := by decide +kernel
theorem d1_68 : decode method_2_code 68 = .ok (.iconst 1, 1) := by decide +kernel
theorem d1_69 : decode method_2_code 69 = .ok (.lload_n 3, 1) := by decide +kernel
theorem d1_70 : decode method_2_code 70 = .ok (.lastore, 1) := by decide +kernel
theorem d1_71 : decode method_2_code 71 = .ok (.dup, 1) := by decide +kernel
theorem d1_72 : decode method_2_code 72 = .ok (.iconst 2, 1) := by decide +kernel
theorem d1_73 : decode method_2_code 73 = .ok (.lload 5, 2) := by decide +kernel
theorem d1_75 : decode method_2_code 75 = .ok (.lastore, 1) := by decide +kernel
theorem d1_76 : decode method_2_code 76 = .ok (.dup, 1) := by decide +kernel
theorem d1_77 : decode method_2_code 77 = .ok (.iconst 3, 1) := by decide +kernel
theorem d1_78 : decode method_2_code 78 = .ok (.lload 7, 2) := by decide +kernel
theorem d1_80 : decode method_2_code 80 = .ok (.lastore, 1) := by decide +kernel
theorem d1_81 : decode method_2_code 81 = .ok (.areturn, 1) := by decide +kernel
theorem pn_1 : plainFor (⟨"com/example/ballast/ballast/storage/RetentionBeyondBytesPinLaw", "make", "(IJJJJ)[J"⟩ : MethodName) = true := plainFor_of_name (by first | (simp [plainName, overriddenIn]; done) | decide +kernel)
theorem pd_1 : parseMethodDescriptor "(IJJJJ)[J" = some ⟨[.int, .long, .long, .long, .long], some (.array .long)⟩ := by decide +kernel
theorem ef_1 (x0 : Int32) (x1 : Int64) (x2 : Int64) (x3 : Int64) (x4 : Int64) (m : MethodId) : entryFrame m #[(.int x0), (.long x1), (.long x2), (.long x3), (.long x4)] 9 = mkF m 0 #[.val (.int x0), .val (.long x1), .second, .val (.long x2), .second, .val (.long x3), .second, .val (.long x4), .second] [] := by first | (simp [entryFrame, mkF, argsToLocals, Value.category]; done) | rfl
theorem d3_0 : decode jdk_30_method_1_code 0 = .ok (.aload_n 0, 1) := by decide +kernel
theorem d3_1 : decode jdk_30_method_1_code 1 = .ok (.invokespecial 1, 3) := by decide +kernel
theorem d3_4 : decode jdk_30_method_1_code 4 = .ok (.return_, 1) := by decide +kernel
theorem pn_3 : plainFor (⟨"java/lang/Record", "<init>", "()V"⟩ : MethodName) = true := plainFor_of_name (by first | (simp [plainName, overriddenIn]; done) | decide +kernel)
theorem pd_3 : parseMethodDescriptor "()V" = some ⟨[], none⟩ := by decide +kernel
theorem ef_3 (x0 : Addr) (m : MethodId) : entryFrame m #[(.ref x0)] 1 = mkF m 0 #[.val (.ref x0)] [] := by first | (simp [entryFrame, mkF, argsToLocals, Value.category]; done) | rfl
theorem d2_0 : decode prog_339_method_1_code 0 = .ok (.aload_n 0, 1) := by decide +kernel
theorem d2_1 : decode prog_339_method_1_code 1 = .ok (.invokespecial 1, 3) := by decide +kernel
theorem d2_4 : decode prog_339_method_1_code 4 = .ok (.aload_n 0, 1) := by decide +kernel
theorem d2_5 : decode prog_339_method_1_code 5 = .ok (.lload_n 1, 1) := by decide +kernel
theorem d2_6 : decode prog_339_method_1_code 6 = .ok (.putfield 7, 3) := by decide +kernel
theorem d2_9 : decode prog_339_method_1_code 9 = .ok (.aload_n 0, 1) := by decide +kernel
theorem d2_10 : decode prog_339_method_1_code 10 = .ok (.lload_n 3, 1) := by decide +kernel
theorem d2_11 : decode prog_339_method_1_code 11 = .ok (.putfield 13, 3) := by decide +kernel
theorem d2_14 : decode prog_339_method_1_code 14 = .ok (.aload_n 0, 1) := by decide +kernel
theorem d2_15 : decode prog_339_method_1_code 15 = .ok (.lload 5, 2) := by decide +kernel
theorem d2_17 : decode prog_339_method_1_code 17 = .ok (.putfield 16, 3) := by decide +kernel
theorem d2_20 : decode prog_339_method_1_code 20 = .ok (.aload_n 0, 1) := by decide +kernel
theorem d2_21 : decode prog_339_method_1_code 21 = .ok (.lload 7, 2) := by decide +kernel
theorem d2_23 : decode prog_339_method_1_code 23 = .ok (.putfield 19, 3) := by decide +kernel
theorem d2_26 : decode prog_339_method_1_code 26 = .ok (.aload_n 0, 1) := by decide +kernel
theorem d2_27 : decode prog_339_method_1_code 27 = .ok (.lload 9, 2) := by decide +kernel
theorem d2_29 : decode prog_339_method_1_code 29 = .ok (.putfield 22, 3) := by decide +kernel
theorem d2_32 : decode prog_339_method_1_code 32 = .ok (.return_, 1) := by decide +kernel
theorem pn_2 : plainFor (⟨"com/example/ballast/ballast/storage/Retention", "<init>", "(JJJJJ)V"⟩ : MethodName) = true := plainFor_of_name (by first | (simp [plainName, overriddenIn]; done) | decide +kernel)
theorem pd_2 : parseMethodDescriptor "(JJJJJ)V" = some ⟨[.long, .long, .long, .long, .long], none⟩ := by decide +kernel
theorem ef_2 (x0 : Addr) (x1 : Int64) (x2 : Int64) (x3 : Int64) (x4 : Int64) (x5 : Int64) (m : MethodId) : entryFrame m #[(.ref x0), (.long x1), (.long x2), (.long x3), (.long x4), (.long x5)] 11 = mkF m 0 #[.val (.ref x0), .val (.long x1), .second, .val (.long x2), .second, .val (.long x3), .second, .val (.long x4), .second, .val (.long x5), .second] [] := by first | (simp [entryFrame, mkF, argsToLocals, Value.category]; done) | rfl
theorem d5_0 : decode prog_339_method_6_code 0 = .ok (.aload_n 0, 1) := by decide +kernel
theorem d5_1 : decode prog_339_method_6_code 1 = .ok (.getfield 13, 3) := by decide +kernel
theorem d5_4 : decode prog_339_method_6_code 4 = .ok (.ldc2_w 25, 3) := by decide +kernel
theorem d5_7 : decode prog_339_method_6_code 7 = .ok (.lcmp, 1) := by decide +kernel
theorem d5_8 : decode prog_339_method_6_code 8 = .ok (.ifCond .ne 5, 3) := by decide +kernel
theorem d5_11 : decode prog_339_method_6_code 11 = .ok (.iconst 0, 1) := by decide +kernel
theorem d5_12 : decode prog_339_method_6_code 12 = .ok (.ireturn, 1) := by decide +kernel
theorem d5_13 : decode prog_339_method_6_code 13 = .ok (.lconst 0, 1) := by decide +kernel
theorem d5_14 : decode prog_339_method_6_code 14 = .ok (.lstore_n 2, 1) := by decide +kernel
theorem d5_15 : decode prog_339_method_6_code 15 = .ok (.aload_n 1, 1) := by decide +kernel
theorem d5_16 : decode prog_339_method_6_code 16 = .ok (.astore 4, 2) := by decide +kernel
theorem d5_18 : decode prog_339_method_6_code 18 = .ok (.aload 4, 2) := by decide +kernel
theorem d5_20 : decode prog_339_method_6_code 20 = .ok (.arraylength, 1) := by decide +kernel
theorem d5_21 : decode prog_339_method_6_code 21 = .ok (.istore 5, 2) := by decide +kernel
theorem d5_23 : decode prog_339_method_6_code 23 = .ok (.iconst 0, 1) := by decide +kernel
theorem d5_24 : decode prog_339_method_6_code 24 = .ok (.istore 6, 2) := by decide +kernel
theorem d5_26 : decode prog_339_method_6_code 26 = .ok (.iload 6, 2) := by decide +kernel
theorem d5_28 : decode prog_339_method_6_code 28 = .ok (.iload 5, 2) := by decide +kernel
theorem d5_30 : decode prog_339_method_6_code 30 = .ok (.if_icmp .ge 21, 3) := by decide +kernel
theorem d5_33 : decode prog_339_method_6_code 33 = .ok (.aload 4, 2) := by decide +kernel
theorem d5_35 : decode prog_339_method_6_code 35 = .ok (.iload 6, 2) := by decide +kernel
theorem d5_37 : decode prog_339_method_6_code 37 = .ok (.laload, 1) := by decide +kernel
theorem d5_38 : decode prog_339_method_6_code 38 = .ok (.lstore 7, 2) := by decide +kernel
theorem d5_40 : decode prog_339_method_6_code 40 = .ok (.lload_n 2, 1) := by decide +kernel
theorem d5_41 : decode prog_339_method_6_code 41 = .ok (.lload 7, 2) := by decide +kernel
theorem d5_43 : decode prog_339_method_6_code 43 = .ok (.ladd, 1) := by decide +kernel
theorem d5_44 : decode prog_339_method_6_code 44 = .ok (.lstore_n 2, 1) := by decide +kernel
theorem d5_45 : decode prog_339_method_6_code 45 = .ok (.iinc 6 1, 3) := by decide +kernel
theorem d5_48 : decode prog_339_method_6_code 48 = .ok (.goto (-22), 3) := by decide +kernel
theorem d5_51 : decode prog_339_method_6_code 51 = .ok (.iconst 0, 1) := by decide +kernel
theorem d5_52 : decode prog_339_method_6_code 52 = .ok (.istore 4, 2) := by decide +kernel
theorem d5_54 : decode prog_339_method_6_code 54 = .ok (.iload 4, 2) := by decide +kernel
theorem d5_56 : decode prog_339_method_6_code 56 = .ok (.aload_n 1, 1) := by decide +kernel
theorem d5_57 : decode prog_339_method_6_code 57 = .ok (.arraylength, 1) := by decide +kernel
theorem d5_58 : decode prog_339_method_6_code 58 = .ok (.iconst 1, 1) := by decide +kernel
theorem d5_59 : decode prog_339_method_6_code 59 = .ok (.isub, 1) := by decide +kernel
theorem d5_60 : decode prog_339_method_6_code 60 = .ok (.if_icmp .ge 39, 3) := by decide +kernel
theorem d5_63 : decode prog_339_method_6_code 63 = .ok (.lload_n 2, 1) := by decide +kernel
theorem d5_64 : decode prog_339_method_6_code 64 = .ok (.aload_n 0, 1) := by decide +kernel
theorem d5_65 : decode prog_339_method_6_code 65 = .ok (.getfield 13, 3) := by decide +kernel
theorem d5_68 : decode prog_339_method_6_code 68 = .ok (.lcmp, 1) := by decide +kernel
theorem d5_69 : decode prog_339_method_6_code 69 = .ok (.ifCond .le 30, 3) := by decide +kernel
theorem d5_72 : decode prog_339_method_6_code 72 = .ok (.lload_n 2, 1) := by decide +kernel
theorem d5_73 : decode prog_339_method_6_code 73 = .ok (.aload_n 1, 1) := by decide +kernel
theorem d5_74 : decode prog_339_method_6_code 74 = .ok (.iload 4, 2) := by decide +kernel
theorem d5_76 : decode prog_339_method_6_code 76 = .ok (.laload, 1) := by decide +kernel
theorem d5_77 : decode prog_339_method_6_code 77 = .ok (.lsub, 1) := by decide +kernel
theorem d5_78 : decode prog_339_method_6_code 78 = .ok (.aload_n 0, 1) := by decide +kernel
theorem d5_79 : decode prog_339_method_6_code 79 = .ok (.getfield 13, 3) := by decide +kernel
theorem d5_82 : decode prog_339_method_6_code 82 = .ok (.lcmp, 1) := by decide +kernel
theorem d5_83 : decode prog_339_method_6_code 83 = .ok (.ifCond .lt 16, 3) := by decide +kernel
theorem d5_86 : decode prog_339_method_6_code 86 = .ok (.lload_n 2, 1) := by decide +kernel
theorem d5_87 : decode prog_339_method_6_code 87 = .ok (.aload_n 1, 1) := by decide +kernel
theorem d5_88 : decode prog_339_method_6_code 88 = .ok (.iload 4, 2) := by decide +kernel
theorem d5_90 : decode prog_339_method_6_code 90 = .ok (.laload, 1) := by decide +kernel
theorem d5_91 : decode prog_339_method_6_code 91 = .ok (.lsub, 1) := by decide +kernel
theorem d5_92 : decode prog_339_method_6_code 92 = .ok (.lstore_n 2, 1) := by decide +kernel
theorem d5_93 : decode prog_339_method_6_code 93 = .ok (.iinc 4 1, 3) := by decide +kernel
theorem d5_96 : decode prog_339_method_6_code 96 = .ok (.goto (-42), 3) := by decide +kernel
theorem d5_99 : decode prog_339_method_6_code 99 = .ok (.iload 4, 2) := by decide +kernel
theorem d5_101 : decode prog_339_method_6_code 101 = .ok (.ireturn, 1) := by decide +kernel
theorem pn_5 : plainFor (⟨"com/example/ballast/ballast/storage/Retention", "beyondBytes", "([J)I"⟩ : MethodName) = true := plainFor_of_name (by first | (simp [plainName, overriddenIn]; done) | decide +kernel)
theorem pd_5 : parseMethodDescriptor "([J)I" = some ⟨[(.array .long)], some .int⟩ := by decide +kernel
theorem ef_5 (x0 : Addr) (x1 : Addr) (m : MethodId) : entryFrame m #[(.ref x0), (.ref x1)] 9 = mkF m 0 #[.val (.ref x0), .val (.ref x1), .unset, .unset, .unset, .unset, .unset, .unset, .unset] [] := by first | (simp [entryFrame, mkF, argsToLocals, Value.category]; done) | rfl
theorem pn_0 : plainFor x = true := plainFor_of_name (by first | (simp [plainName, overriddenIn]; done) | decide +kernel)
theorem pd_0 : parseMethodDescriptor "(IJJJJJ)Z" = some ⟨[.int, .long, .long, .long, .long, .long], some .boolean⟩ := by decide +kernel
theorem ef_0 (x0 : Int32) (x1 : Int64) (x2 : Int64) (x3 : Int64) (x4 : Int64) (x5 : Int64) (m : MethodId) : entryFrame m #[(.int x0), (.long x1), (.long x2), (.long x3), (.long x4), (.long x5)] maxLocals = mkF m 0 #[.val (.int x0), .val (.long x1), .second, .val (.long x2), .second, .val (.long x3), .second, .val (.long x4), .second, .val (.long x5), .second, .unset, .unset, .unset, .unset, .unset, .unset, .unset, .unset, .unset, .unset, .unset, .unset, .unset, .unset, .unset, .unset, .unset, .unset, .unset, .unset, .unset, .unset, .unset, .unset, .unset, .unset, .unset, .unset, .unset, .unset, .unset, .unset, .unset] [] := by first | (simp [entryFrame, mkF, argsToLocals, Value.category, maxLocals]; done) | rfl
def Q_rm3 (Z : State) (o : Addr) (h0 : Heap) (n0 : Nat) (v : Option Value) (h : Heap) (L : List Loc) : Prop := v = none ∧ Fr n0 L ∧ h = h0
set_option maxRecDepth 65536 in
set_option maxHeartbeats 40000000 in
theorem rm3 (l : Launch) (Z : State) (a0 : Array Value) (hw : ∀ d ∈ tables_1, d.before a0 Z = true) (ws : List Jvm.Cond) (o : Addr) (h0 : Heap) (n0 : Nat) (Z0 : n0 ≤ h0.size) :
    MetFree l (⟨"java/lang/Record", "<init>", "()V"⟩ : MethodName) (head1 (Jvm.Cond.code (⟨"java/lang/Record", "<init>", "()V"⟩ : MethodName) jdk_30_method_1_code 1 none :: ws) ({ frames := 1, cells := 0, slots := 0, locals := 12 } : Room)) (fun aa U => aa = #[(.ref o)] ∧ Z.Warmed39 U.vm ∧ U.heap = h0) (fun _ _ _ _ _ => True) (fun _ U oo U' => ∃ rv Lr, oo = .returned rv ∧ Q_rm3 Z o h0 n0 rv U'.heap Lr ∧ FrameEnd U oo U' Lr ({ frames := 1, cells := 0, slots := 0, locals := 12 } : Room).cells ({ frames := 1, cells := 0, slots := 0, locals := 12 } : Room).slots) := by
  refine g_enter pn_3 hw (ef_3 o) ?_
  intro p e s m below meth c T0 C X0 e0
  have C : Cx Z a0 p s m meth c jdk_30_method_1_code 1 "java/lang/Record" "<init>" none := C
  have N0 := Fr.nil n0
  refine g_aloadN C X0 d3_0 rfl rfl ?_
  refine g_initO (W := 0) C X0 d3_1 e0 (C.t 18 rfl) (C.t 19 rfl) (C.t 20 rfl) rfl (by decide) (Nat.le_of_eq rfl) (by decide) rfl ?_
  intro T1 X1 e1
  exact g_return C X1 d3_4 rfl ⟨rfl, N0, e1⟩ (by decide) (by decide)
def Q_rm2 (Z : State) (o : Addr) (x1 : Int64) (x2 : Int64) (x3 : Int64) (x4 : Int64) (x5 : Int64) (h0 : Heap) (n0 : Nat) (v : Option Value) (h : Heap) (L : List Loc) : Prop := v = none ∧ Fr n0 L ∧ Keep h0 h [o] ∧ Exa Z h o "com/example/ballast/ballast/storage/Retention" ∧ Fld Z h o "com/example/ballast/ballast/storage/Retention" "millis" "J" (.long x1) ∧ Fld Z h o "com/example/ballast/ballast/storage/Retention" "bytes" "J" (.long x2) ∧ Fld Z h o "com/example/ballast/ballast/storage/Retention" "checkIntervalMillis" "J" (.long x3) ∧ Fld Z h o "com/example/ballast/ballast/storage/Retention" "rollMillis" "J" (.long x4) ∧ Fld Z h o "com/example/ballast/ballast/storage/Retention" "aheadMillis" "J" (.long x5)
set_option maxRecDepth 65536 in
set_option maxHeartbeats 40000000 in
theorem rm2 (l : Launch) (Z : State) (a0 : Array Value) (hw : ∀ d ∈ tables_1, d.before a0 Z = true) (ws : List Jvm.Cond) (o : Addr) (x1 : Int64) (x2 : Int64) (x3 : Int64) (x4 : Int64) (x5 : Int64) (h0 : Heap) (n0 : Nat) (Z0 : n0 ≤ h0.size) (EX : Exa Z h0 o "com/example/ballast/ballast/storage/Retention") (D : ∀ {O nf d : String} {ty : FieldType}, Laid Z a0 "com/example/ballast/ballast/storage/Retention" O nf d → parseFieldDescriptor d = some ty → Fld Z h0 o O nf d (defaultValue ty)) (ga : n0 ≤ o) :
    MetFree l (⟨"com/example/ballast/ballast/storage/Retention", "<init>", "(JJJJJ)V"⟩ : MethodName) (head1 (Jvm.Cond.code (⟨"com/example/ballast/ballast/storage/Retention", "<init>", "(JJJJJ)V"⟩ : MethodName) prog_339_method_1_code 11 none :: ws) ({ frames := 2, cells := 0, slots := 0, locals := 24 } : Room)) (fun aa U => aa = #[(.ref o), (.long x1), (.long x2), (.long x3), (.long x4), (.long x5)] ∧ Z.Warmed39 U.vm ∧ U.heap = h0) (fun _ _ _ _ _ => True) (fun _ U oo U' => ∃ rv Lr, oo = .returned rv ∧ Q_rm2 Z o x1 x2 x3 x4 x5 h0 n0 rv U'.heap Lr ∧ FrameEnd U oo U' Lr ({ frames := 2, cells := 0, slots := 0, locals := 24 } : Room).cells ({ frames := 2, cells := 0, slots := 0, locals := 24 } : Room).slots) := by
  refine g_enter pn_2 hw (ef_2 o x1 x2 x3 x4 x5) ?_
  intro p e s m below meth c T0 C X0 e0
  have C : Cx Z a0 p s m meth c prog_339_method_1_code 11 "com/example/ballast/ballast/storage/Retention" "<init>" none := C
  have N0 := Fr.nil n0
  have K0 := Keep.refl h0 [o]
  have F_millis : Fld Z h0 o "com/example/ballast/ballast/storage/Retention" "millis" "J" _ := D (Or.inr (C.t 22 rfl)) (ty := .long) (by decide)
  have F_bytes : Fld Z h0 o "com/example/ballast/ballast/storage/Retention" "bytes" "J" _ := D (Or.inr (C.t 24 rfl)) (ty := .long) (by decide)
  have F_checkIntervalMillis : Fld Z h0 o "com/example/ballast/ballast/storage/Retention" "checkIntervalMillis" "J" _ := D (Or.inr (C.t 26 rfl)) (ty := .long) (by decide)
  have F_rollMillis : Fld Z h0 o "com/example/ballast/ballast/storage/Retention" "rollMillis" "J" _ := D (Or.inr (C.t 28 rfl)) (ty := .long) (by decide)
  have F_aheadMillis : Fld Z h0 o "com/example/ballast/ballast/storage/Retention" "aheadMillis" "J" _ := D (Or.inr (C.t 30 rfl)) (ty := .long) (by decide)
  refine g_aloadN C X0 d2_0 rfl rfl ?_
  refine g_callC (a := o) (argsL := []) (rest := []) (W := 0) C X0 d2_1 e0 rfl (C.t 13 rfl) (C.t 14 rfl) (C.t 16 rfl) (C.t 17 rfl) (rm3 l Z a0 C.w [] o h0 n0 Z0) (by decide) pd_3 rfl rfl rfl (Nat.le_of_eq rfl) (by decide) (by decide) (by decide) (by decide) rfl ?_
  intro T1 v1_ L1 X1 hQ1
  obtain ⟨rfl, N1q, hh1⟩ := hQ1
  have N1 := Fr.app N0 N1q
  refine g_aloadN C X1 d2_4 rfl rfl ?_
  refine g_lloadN C X1 d2_5 rfl rfl ?_
  refine g_putfield C X1 d2_6 hh1 (C.t 21 rfl) Via.refl F_millis EX (Or.inr ⟨(C.t 22 rfl), rfl, rfl⟩) (C.t 7 rfl) (ty := .long) (by decide) rfl rfl rfl ?_
  intro T2 h2_ X2 e2 W2 F2_o_millis EE2_o
  have N2 := Fr.snoc X2 N1 ga
  have Z2 : n0 ≤ h2_.size := Nat.le_trans Z0 (Keep.of_wr W2).1
  have K2 := K0.wr W2 (Or.inl (List.mem_of_getElem? (i := 0) rfl))
  have F2_o_bytes := F_bytes.other W2 (Or.inr (slot_ne (Or.inr (C.t 24 rfl)) (Or.inr (C.t 22 rfl)) (by decide) (t := .long) (t' := .long) (by decide) (by decide)))
  have F2_o_checkIntervalMillis := F_checkIntervalMillis.other W2 (Or.inr (slot_ne (Or.inr (C.t 26 rfl)) (Or.inr (C.t 22 rfl)) (by decide) (t := .long) (t' := .long) (by decide) (by decide)))
  have F2_o_rollMillis := F_rollMillis.other W2 (Or.inr (slot_ne (Or.inr (C.t 28 rfl)) (Or.inr (C.t 22 rfl)) (by decide) (t := .long) (t' := .long) (by decide) (by decide)))
  have F2_o_aheadMillis := F_aheadMillis.other W2 (Or.inr (slot_ne (Or.inr (C.t 30 rfl)) (Or.inr (C.t 22 rfl)) (by decide) (t := .long) (t' := .long) (by decide) (by decide)))
  refine g_aloadN C X2 d2_9 rfl rfl ?_
  refine g_lloadN C X2 d2_10 rfl rfl ?_
  refine g_putfield C X2 d2_11 e2 (C.t 23 rfl) Via.refl F2_o_bytes EE2_o (Or.inr ⟨(C.t 24 rfl), rfl, rfl⟩) (C.t 7 rfl) (ty := .long) (by decide) rfl rfl rfl ?_
  intro T3 h3_ X3 e3 W3 F3_o_bytes EE3_o
  have N3 := Fr.snoc X3 N2 ga
  have Z3 : n0 ≤ h3_.size := Nat.le_trans Z2 (Keep.of_wr W3).1
  have K3 := K2.wr W3 (Or.inl (List.mem_of_getElem? (i := 0) rfl))
  have F3_o_millis := F2_o_millis.other W3 (Or.inr (slot_ne (Or.inr (C.t 22 rfl)) (Or.inr (C.t 24 rfl)) (by decide) (t := .long) (t' := .long) (by decide) (by decide)))
  have F3_o_checkIntervalMillis := F2_o_checkIntervalMillis.other W3 (Or.inr (slot_ne (Or.inr (C.t 26 rfl)) (Or.inr (C.t 24 rfl)) (by decide) (t := .long) (t' := .long) (by decide) (by decide)))
  have F3_o_rollMillis := F2_o_rollMillis.other W3 (Or.inr (slot_ne (Or.inr (C.t 28 rfl)) (Or.inr (C.t 24 rfl)) (by decide) (t := .long) (t' := .long) (by decide) (by decide)))
  have F3_o_aheadMillis := F2_o_aheadMillis.other W3 (Or.inr (slot_ne (Or.inr (C.t 30 rfl)) (Or.inr (C.t 24 rfl)) (by decide) (t := .long) (t' := .long) (by decide) (by decide)))
  refine g_aloadN C X3 d2_14 rfl rfl ?_
  refine g_lload C X3 d2_15 rfl rfl ?_
  refine g_putfield C X3 d2_17 e3 (C.t 25 rfl) Via.refl F3_o_checkIntervalMillis EE3_o (Or.inr ⟨(C.t 26 rfl), rfl, rfl⟩) (C.t 7 rfl) (ty := .long) (by decide) rfl rfl rfl ?_
  intro T4 h4_ X4 e4 W4 F4_o_checkIntervalMillis EE4_o
  have N4 := Fr.snoc X4 N3 ga
  have Z4 : n0 ≤ h4_.size := Nat.le_trans Z3 (Keep.of_wr W4).1
  have K4 := K3.wr W4 (Or.inl (List.mem_of_getElem? (i := 0) rfl))
  have F4_o_millis := F3_o_millis.other W4 (Or.inr (slot_ne (Or.inr (C.t 22 rfl)) (Or.inr (C.t 26 rfl)) (by decide) (t := .long) (t' := .long) (by decide) (by decide)))
  have F4_o_bytes := F3_o_bytes.other W4 (Or.inr (slot_ne (Or.inr (C.t 24 rfl)) (Or.inr (C.t 26 rfl)) (by decide) (t := .long) (t' := .long) (by decide) (by decide)))
  have F4_o_rollMillis := F3_o_rollMillis.other W4 (Or.inr (slot_ne (Or.inr (C.t 28 rfl)) (Or.inr (C.t 26 rfl)) (by decide) (t := .long) (t' := .long) (by decide) (by decide)))
  have F4_o_aheadMillis := F3_o_aheadMillis.other W4 (Or.inr (slot_ne (Or.inr (C.t 30 rfl)) (Or.inr (C.t 26 rfl)) (by decide) (t := .long) (t' := .long) (by decide) (by decide)))
  refine g_aloadN C X4 d2_20 rfl rfl ?_
  refine g_lload C X4 d2_21 rfl rfl ?_
  refine g_putfield C X4 d2_23 e4 (C.t 27 rfl) Via.refl F4_o_rollMillis EE4_o (Or.inr ⟨(C.t 28 rfl), rfl, rfl⟩) (C.t 7 rfl) (ty := .long) (by decide) rfl rfl rfl ?_
  intro T5 h5_ X5 e5 W5 F5_o_rollMillis EE5_o
  have N5 := Fr.snoc X5 N4 ga
  have Z5 : n0 ≤ h5_.size := Nat.le_trans Z4 (Keep.of_wr W5).1
  have K5 := K4.wr W5 (Or.inl (List.mem_of_getElem? (i := 0) rfl))
  have F5_o_millis := F4_o_millis.other W5 (Or.inr (slot_ne (Or.inr (C.t 22 rfl)) (Or.inr (C.t 28 rfl)) (by decide) (t := .long) (t' := .long) (by decide) (by decide)))
  have F5_o_bytes := F4_o_bytes.other W5 (Or.inr (slot_ne (Or.inr (C.t 24 rfl)) (Or.inr (C.t 28 rfl)) (by decide) (t := .long) (t' := .long) (by decide) (by decide)))
  have F5_o_checkIntervalMillis := F4_o_checkIntervalMillis.other W5 (Or.inr (slot_ne (Or.inr (C.t 26 rfl)) (Or.inr (C.t 28 rfl)) (by decide) (t := .long) (t' := .long) (by decide) (by decide)))
  have F5_o_aheadMillis := F4_o_aheadMillis.other W5 (Or.inr (slot_ne (Or.inr (C.t 30 rfl)) (Or.inr (C.t 28 rfl)) (by decide) (t := .long) (t' := .long) (by decide) (by decide)))
  refine g_aloadN C X5 d2_26 rfl rfl ?_
  refine g_lload C X5 d2_27 rfl rfl ?_
  refine g_putfield C X5 d2_29 e5 (C.t 29 rfl) Via.refl F5_o_aheadMillis EE5_o (Or.inr ⟨(C.t 30 rfl), rfl, rfl⟩) (C.t 7 rfl) (ty := .long) (by decide) rfl rfl rfl ?_
  intro T6 h6_ X6 e6 W6 F6_o_aheadMillis EE6_o
  have N6 := Fr.snoc X6 N5 ga
  have Z6 : n0 ≤ h6_.size := Nat.le_trans Z5 (Keep.of_wr W6).1
  have K6 := K5.wr W6 (Or.inl (List.mem_of_getElem? (i := 0) rfl))
  have F6_o_millis := F5_o_millis.other W6 (Or.inr (slot_ne (Or.inr (C.t 22 rfl)) (Or.inr (C.t 30 rfl)) (by decide) (t := .long) (t' := .long) (by decide) (by decide)))
  have F6_o_bytes := F5_o_bytes.other W6 (Or.inr (slot_ne (Or.inr (C.t 24 rfl)) (Or.inr (C.t 30 rfl)) (by decide) (t := .long) (t' := .long) (by decide) (by decide)))
  have F6_o_checkIntervalMillis := F5_o_checkIntervalMillis.other W6 (Or.inr (slot_ne (Or.inr (C.t 26 rfl)) (Or.inr (C.t 30 rfl)) (by decide) (t := .long) (t' := .long) (by decide) (by decide)))
  have F6_o_rollMillis := F5_o_rollMillis.other W6 (Or.inr (slot_ne (Or.inr (C.t 28 rfl)) (Or.inr (C.t 30 rfl)) (by decide) (t := .long) (t' := .long) (by decide) (by decide)))
  exact g_return C X6 d2_32 rfl (by rw [e6]; exact ⟨rfl, N6, K6, EE6_o, F6_o_millis, F6_o_bytes, F6_o_checkIntervalMillis, F6_o_rollMillis, F6_o_aheadMillis⟩) (by decide) (by decide)
def Q_mk0 (Z : State) (x0 : Int32) (x1 : Int64) (x2 : Int64) (x3 : Int64) (x4 : Int64) (h0 : Heap) (n0 : Nat) (v : Option Value) (h : Heap) (L : List Loc) : Prop := (∃ t : Addr, v = some (.ref t) ∧ n0 ≤ t ∧ h0.size ≤ t ∧ Aw Z h t .long 0 (fun j => .long (([] : List Int64).getD j 0))) ∧ Fr n0 L ∧ Keep h0 h []
set_option maxRecDepth 65536 in
set_option maxHeartbeats 40000000 in
theorem mk0 (l : Launch) (Z : State) (a0 : Array Value) (hw : ∀ d ∈ tables_1, d.before a0 Z = true) (ws : List Jvm.Cond) (x0 : Int32) (x1 : Int64) (x2 : Int64) (x3 : Int64) (x4 : Int64) (hx0 : x0 = (0 : Int32)) (h0 : Heap) (n0 : Nat) (Z0 : n0 ≤ h0.size) :
    MetFree l (⟨"com/example/ballast/ballast/storage/RetentionBeyondBytesPinLaw", "make", "(IJJJJ)[J"⟩ : MethodName) (head1 (Jvm.Cond.code (⟨"com/example/ballast/ballast/storage/RetentionBeyondBytesPinLaw", "make", "(IJJJJ)[J"⟩ : MethodName) method_2_code 9 (some (.array .long)) :: ws) ({ frames := 0, cells := 1, slots := 4, locals := 0 } : Room)) (fun aa U => aa = #[(.int x0), (.long x1), (.long x2), (.long x3), (.long x4)] ∧ Z.Warmed39 U.vm ∧ U.heap = h0) (fun _ _ _ _ _ => True) (fun _ U oo U' => ∃ rv Lr, oo = .returned rv ∧ Q_mk0 Z x0 x1 x2 x3 x4 h0 n0 rv U'.heap Lr ∧ FrameEnd U oo U' Lr ({ frames := 0, cells := 1, slots := 4, locals := 0 } : Room).cells ({ frames := 0, cells := 1, slots := 4, locals := 0 } : Room).slots) := by
  refine g_enter pn_1 hw (ef_1 x0 x1 x2 x3 x4) ?_
  intro p e s m below meth c T0 C X0 e0
  have C : Cx Z a0 p s m meth c method_2_code 9 "com/example/ballast/ballast/storage/RetentionBeyondBytesPinLaw" "make" (some (.array .long)) := C
  subst hx0
  have N0 := Fr.nil n0
  have K0 := Keep.refl h0 []
  refine g_iloadN C X0 d1_0 rfl rfl ?_
  refine g_if C X0 d1_1 (by decide) rfl rfl ?_ ?_
  · intro h1
    have h1 : ¬ (0 : Int) = 0 := h1
    exact absurd h1 (by decide)
  · intro h1
    have h1 : (0 : Int) = 0 := h1
    refine g_iconst C X0 (0 : Int32) d1_4 rfl rfl ?_
    refine g_newarray (cap := 0) C X0 d1_5 e0 (C.t 5 rfl) (by decide) (by decide) (by decide) (by decide) (by decide) rfl ?_
    intro T1 h1_ X1 e1 E1 lt1 ad1 ha1 A1
    have Z1 : n0 ≤ h1_.size := Nat.le_trans Z0 E1.1
    have K1 := K0.ext E1
    have g_ad1 : n0 ≤ ad1 := by omega
    refine g_areturn C X1 d1_7 rfl rfl rfl ?_ (by decide) (by decide)
    rw [e1]
    refine ⟨⟨ad1, rfl, g_ad1, by omega, Aw.of A1 ?_⟩, N0, K1⟩
    intro j hj
    have hj : j < 0 := hj
    omega
def Q_mk1 (Z : State) (x0 : Int32) (x1 : Int64) (x2 : Int64) (x3 : Int64) (x4 : Int64) (h0 : Heap) (n0 : Nat) (v : Option Value) (h : Heap) (L : List Loc) : Prop := (∃ t : Addr, v = some (.ref t) ∧ n0 ≤ t ∧ h0.size ≤ t ∧ Aw Z h t .long 1 (fun j => .long (([x1] : List Int64).getD j 0))) ∧ Fr n0 L ∧ Keep h0 h []
set_option maxRecDepth 65536 in
set_option maxHeartbeats 40000000 in
theorem mk1 (l : Launch) (Z : State) (a0 : Array Value) (hw : ∀ d ∈ tables_1, d.before a0 Z = true) (ws : List Jvm.Cond) (x0 : Int32) (x1 : Int64) (x2 : Int64) (x3 : Int64) (x4 : Int64) (hx0 : x0 = (1 : Int32)) (h0 : Heap) (n0 : Nat) (Z0 : n0 ≤ h0.size) :
    MetFree l (⟨"com/example/ballast/ballast/storage/RetentionBeyondBytesPinLaw", "make", "(IJJJJ)[J"⟩ : MethodName) (head1 (Jvm.Cond.code (⟨"com/example/ballast/ballast/storage/RetentionBeyondBytesPinLaw", "make", "(IJJJJ)[J"⟩ : MethodName) method_2_code 9 (some (.array .long)) :: ws) ({ frames := 0, cells := 1, slots := 4, locals := 0 } : Room)) (fun aa U => aa = #[(.int x0), (.long x1), (.long x2), (.long x3), (.long x4)] ∧ Z.Warmed39 U.vm ∧ U.heap = h0) (fun _ _ _ _ _ => True) (fun _ U oo U' => ∃ rv Lr, oo = .returned rv ∧ Q_mk1 Z x0 x1 x2 x3 x4 h0 n0 rv U'.heap Lr ∧ FrameEnd U oo U' Lr ({ frames := 0, cells := 1, slots := 4, locals := 0 } : Room).cells ({ frames := 0, cells := 1, slots := 4, locals := 0 } : Room).slots) := by
  refine g_enter pn_1 hw (ef_1 x0 x1 x2 x3 x4) ?_
  intro p e s m below meth c T0 C X0 e0
  have C : Cx Z a0 p s m meth c method_2_code 9 "com/example/ballast/ballast/storage/RetentionBeyondBytesPinLaw" "make" (some (.array .long)) := C
  subst hx0
  have N0 := Fr.nil n0
  have K0 := Keep.refl h0 []
  refine g_iloadN C X0 d1_0 rfl rfl ?_
  refine g_if C X0 d1_1 (by decide) rfl rfl ?_ ?_
  · intro h1
    have h1 : ¬ (1 : Int) = 0 := h1
    refine g_iloadN C X0 d1_8 rfl rfl ?_
    refine g_iconst C X0 (1 : Int32) d1_9 rfl rfl ?_
    refine g_icmp C X0 d1_10 (by decide) rfl rfl ?_ ?_
    · intro h10
      have h10 : ¬ (1 : Int) = 1 := h10
      exact absurd h10 (by decide)
    · intro h10
      have h10 : (1 : Int) = 1 := h10
      refine g_iconst C X0 (1 : Int32) d1_13 rfl rfl ?_
      refine g_newarray (cap := 1) C X0 d1_14 e0 (C.t 5 rfl) (by decide) (by decide) (by decide) (by decide) (by decide) rfl ?_
      intro T1 h1_ X1 e1 E1 lt1 ad1 ha1 A1
      have Z1 : n0 ≤ h1_.size := Nat.le_trans Z0 E1.1
      have K1 := K0.ext E1
      have g_ad1 : n0 ≤ ad1 := by omega
      refine g_dup C X1 d1_16 rfl rfl ?_
      refine g_iconst C X1 (0 : Int32) d1_17 rfl rfl ?_
      refine g_lloadN C X1 d1_18 rfl rfl ?_
      refine g_lastore C X1 d1_19 e1 A1 (by decide) (by decide) rfl ?_
      intro T2 h2_ X2 e2 W2 A2
      have N2 := Fr.snoc X2 N0 g_ad1
      have Z2 : n0 ≤ h2_.size := Nat.le_trans Z1 (Keep.of_wr W2).1
      have K2 := K1.wr W2 (Or.inr (by omega))
      refine g_areturn C X2 d1_20 rfl rfl rfl ?_ (by decide) (by decide)
      rw [e2]
      refine ⟨⟨ad1, rfl, g_ad1, by omega, Aw.of A2 ?_⟩, N2, K2⟩
      intro j hj
      have hj : j < 1 := hj
      have hj : j = 0 := by omega
      rcases hj with rfl <;> rfl
  · intro h1
    have h1 : (1 : Int) = 0 := h1
    exact absurd h1 (by decide)
def Q_mk2 (Z : State) (x0 : Int32) (x1 : Int64) (x2 : Int64) (x3 : Int64) (x4 : Int64) (h0 : Heap) (n0 : Nat) (v : Option Value) (h : Heap) (L : List Loc) : Prop := (∃ t : Addr, v = some (.ref t) ∧ n0 ≤ t ∧ h0.size ≤ t ∧ Aw Z h t .long 2 (fun j => .long (([x1, x2] : List Int64).getD j 0))) ∧ Fr n0 L ∧ Keep h0 h []
set_option maxRecDepth 65536 in
set_option maxHeartbeats 40000000 in
theorem mk2 (l : Launch) (Z : State) (a0 : Array Value) (hw : ∀ d ∈ tables_1, d.before a0 Z = true) (ws : List Jvm.Cond) (x0 : Int32) (x1 : Int64) (x2 : Int64) (x3 : Int64) (x4 : Int64) (hx0 : x0 = (2 : Int32)) (h0 : Heap) (n0 : Nat) (Z0 : n0 ≤ h0.size) :
    MetFree l (⟨"com/example/ballast/ballast/storage/RetentionBeyondBytesPinLaw", "make", "(IJJJJ)[J"⟩ : MethodName) (head1 (Jvm.Cond.code (⟨"com/example/ballast/ballast/storage/RetentionBeyondBytesPinLaw", "make", "(IJJJJ)[J"⟩ : MethodName) method_2_code 9 (some (.array .long)) :: ws) ({ frames := 0, cells := 1, slots := 4, locals := 0 } : Room)) (fun aa U => aa = #[(.int x0), (.long x1), (.long x2), (.long x3), (.long x4)] ∧ Z.Warmed39 U.vm ∧ U.heap = h0) (fun _ _ _ _ _ => True) (fun _ U oo U' => ∃ rv Lr, oo = .returned rv ∧ Q_mk2 Z x0 x1 x2 x3 x4 h0 n0 rv U'.heap Lr ∧ FrameEnd U oo U' Lr ({ frames := 0, cells := 1, slots := 4, locals := 0 } : Room).cells ({ frames := 0, cells := 1, slots := 4, locals := 0 } : Room).slots) := by
  refine g_enter pn_1 hw (ef_1 x0 x1 x2 x3 x4) ?_
  intro p e s m below meth c T0 C X0 e0
  have C : Cx Z a0 p s m meth c method_2_code 9 "com/example/ballast/ballast/storage/RetentionBeyondBytesPinLaw" "make" (some (.array .long)) := C
  subst hx0
  have N0 := Fr.nil n0
  have K0 := Keep.refl h0 []
  refine g_iloadN C X0 d1_0 rfl rfl ?_
  refine g_if C X0 d1_1 (by decide) rfl rfl ?_ ?_
  · intro h1
    have h1 : ¬ (2 : Int) = 0 := h1
    refine g_iloadN C X0 d1_8 rfl rfl ?_
    refine g_iconst C X0 (1 : Int32) d1_9 rfl rfl ?_
    refine g_icmp C X0 d1_10 (by decide) rfl rfl ?_ ?_
    · intro h10
      have h10 : ¬ (2 : Int) = 1 := h10
      refine g_iloadN C X0 d1_21 rfl rfl ?_
      refine g_iconst C X0 (2 : Int32) d1_22 rfl rfl ?_
      refine g_icmp C X0 d1_23 (by decide) rfl rfl ?_ ?_
      · intro h23
        have h23 : ¬ (2 : Int) = 2 := h23
        exact absurd h23 (by decide)
      · intro h23
        have h23 : (2 : Int) = 2 := h23
        refine g_iconst C X0 (2 : Int32) d1_26 rfl rfl ?_
        refine g_newarray (cap := 2) C X0 d1_27 e0 (C.t 5 rfl) (by decide) (by decide) (by decide) (by decide) (by decide) rfl ?_
        intro T1 h1_ X1 e1 E1 lt1 ad1 ha1 A1
        have Z1 : n0 ≤ h1_.size := Nat.le_trans Z0 E1.1
        have K1 := K0.ext E1
        have g_ad1 : n0 ≤ ad1 := by omega
        refine g_dup C X1 d1_29 rfl rfl ?_
        refine g_iconst C X1 (0 : Int32) d1_30 rfl rfl ?_
        refine g_lloadN C X1 d1_31 rfl rfl ?_
        refine g_lastore C X1 d1_32 e1 A1 (by decide) (by decide) rfl ?_
        intro T2 h2_ X2 e2 W2 A2
        have N2 := Fr.snoc X2 N0 g_ad1
        have Z2 : n0 ≤ h2_.size := Nat.le_trans Z1 (Keep.of_wr W2).1
        have K2 := K1.wr W2 (Or.inr (by omega))
        refine g_dup C X2 d1_33 rfl rfl ?_
        refine g_iconst C X2 (1 : Int32) d1_34 rfl rfl ?_
        refine g_lloadN C X2 d1_35 rfl rfl ?_
        refine g_lastore C X2 d1_36 e2 A2 (by decide) (by decide) rfl ?_
        intro T3 h3_ X3 e3 W3 A3
        have N3 := Fr.snoc X3 N2 g_ad1
        have Z3 : n0 ≤ h3_.size := Nat.le_trans Z2 (Keep.of_wr W3).1
        have K3 := K2.wr W3 (Or.inr (by omega))
        refine g_areturn C X3 d1_37 rfl rfl rfl ?_ (by decide) (by decide)
        rw [e3]
        refine ⟨⟨ad1, rfl, g_ad1, by omega, Aw.of A3 ?_⟩, N3, K3⟩
        intro j hj
        have hj : j < 2 := hj
        have hj : j = 0 ∨ j = 1 := by omega
        rcases hj with rfl | rfl <;> rfl
    · intro h10
      have h10 : (2 : Int) = 1 := h10
      exact absurd h10 (by decide)
  · intro h1
    have h1 : (2 : Int) = 0 := h1
    exact absurd h1 (by decide)
def Q_mk3 (Z : State) (x0 : Int32) (x1 : Int64) (x2 : Int64) (x3 : Int64) (x4 : Int64) (h0 : Heap) (n0 : Nat) (v : Option Value) (h : Heap) (L : List Loc) : Prop := (∃ t : Addr, v = some (.ref t) ∧ n0 ≤ t ∧ h0.size ≤ t ∧ Aw Z h t .long 3 (fun j => .long (([x1, x2, x3] : List Int64).getD j 0))) ∧ Fr n0 L ∧ Keep h0 h []
set_option maxRecDepth 65536 in
set_option maxHeartbeats 40000000 in
theorem mk3 (l : Launch) (Z : State) (a0 : Array Value) (hw : ∀ d ∈ tables_1, d.before a0 Z = true) (ws : List Jvm.Cond) (x0 : Int32) (x1 : Int64) (x2 : Int64) (x3 : Int64) (x4 : Int64) (hx0 : x0 = (3 : Int32)) (h0 : Heap) (n0 : Nat) (Z0 : n0 ≤ h0.size) :
    MetFree l (⟨"com/example/ballast/ballast/storage/RetentionBeyondBytesPinLaw", "make", "(IJJJJ)[J"⟩ : MethodName) (head1 (Jvm.Cond.code (⟨"com/example/ballast/ballast/storage/RetentionBeyondBytesPinLaw", "make", "(IJJJJ)[J"⟩ : MethodName) method_2_code 9 (some (.array .long)) :: ws) ({ frames := 0, cells := 1, slots := 4, locals := 0 } : Room)) (fun aa U => aa = #[(.int x0), (.long x1), (.long x2), (.long x3), (.long x4)] ∧ Z.Warmed39 U.vm ∧ U.heap = h0) (fun _ _ _ _ _ => True) (fun _ U oo U' => ∃ rv Lr, oo = .returned rv ∧ Q_mk3 Z x0 x1 x2 x3 x4 h0 n0 rv U'.heap Lr ∧ FrameEnd U oo U' Lr ({ frames := 0, cells := 1, slots := 4, locals := 0 } : Room).cells ({ frames := 0, cells := 1, slots := 4, locals := 0 } : Room).slots) := by
  refine g_enter pn_1 hw (ef_1 x0 x1 x2 x3 x4) ?_
  intro p e s m below meth c T0 C X0 e0
  have C : Cx Z a0 p s m meth c method_2_code 9 "com/example/ballast/ballast/storage/RetentionBeyondBytesPinLaw" "make" (some (.array .long)) := C
  subst hx0
  have N0 := Fr.nil n0
  have K0 := Keep.refl h0 []
  refine g_iloadN C X0 d1_0 rfl rfl ?_
  refine g_if C X0 d1_1 (by decide) rfl rfl ?_ ?_
  · intro h1
    have h1 : ¬ (3 : Int) = 0 := h1
    refine g_iloadN C X0 d1_8 rfl rfl ?_
    refine g_iconst C X0 (1 : Int32) d1_9 rfl rfl ?_
    refine g_icmp C X0 d1_10 (by decide) rfl rfl ?_ ?_
    · intro h10
      have h10 : ¬ (3 : Int) = 1 := h10
      refine g_iloadN C X0 d1_21 rfl rfl ?_
      refine g_iconst C X0 (2 : Int32) d1_22 rfl rfl ?_
      refine g_icmp C X0 d1_23 (by decide) rfl rfl ?_ ?_
      · intro h23
        have h23 : ¬ (3 : Int) = 2 := h23
        refine g_iloadN C X0 d1_38 rfl rfl ?_
        refine g_iconst C X0 (3 : Int32) d1_39 rfl rfl ?_
        refine g_icmp C X0 d1_40 (by decide) rfl rfl ?_ ?_
        · intro h40
          have h40 : ¬ (3 : Int) = 3 := h40
          exact absurd h40 (by decide)
        · intro h40
          have h40 : (3 : Int) = 3 := h40
          refine g_iconst C X0 (3 : Int32) d1_43 rfl rfl ?_
          refine g_newarray (cap := 3) C X0 d1_44 e0 (C.t 5 rfl) (by decide) (by decide) (by decide) (by decide) (by decide) rfl ?_
          intro T1 h1_ X1 e1 E1 lt1 ad1 ha1 A1
          have Z1 : n0 ≤ h1_.size := Nat.le_trans Z0 E1.1
          have K1 := K0.ext E1
          have g_ad1 : n0 ≤ ad1 := by omega
          refine g_dup C X1 d1_46 rfl rfl ?_
          refine g_iconst C X1 (0 : Int32) d1_47 rfl rfl ?_
          refine g_lloadN C X1 d1_48 rfl rfl ?_
          refine g_lastore C X1 d1_49 e1 A1 (by decide) (by decide) rfl ?_
          intro T2 h2_ X2 e2 W2 A2
          have N2 := Fr.snoc X2 N0 g_ad1
          have Z2 : n0 ≤ h2_.size := Nat.le_trans Z1 (Keep.of_wr W2).1
          have K2 := K1.wr W2 (Or.inr (by omega))
          refine g_dup C X2 d1_50 rfl rfl ?_
          refine g_iconst C X2 (1 : Int32) d1_51 rfl rfl ?_
          refine g_lloadN C X2 d1_52 rfl rfl ?_
          refine g_lastore C X2 d1_53 e2 A2 (by decide) (by decide) rfl ?_
          intro T3 h3_ X3 e3 W3 A3
          have N3 := Fr.snoc X3 N2 g_ad1
          have Z3 : n0 ≤ h3_.size := Nat.le_trans Z2 (Keep.of_wr W3).1
          have K3 := K2.wr W3 (Or.inr (by omega))
          refine g_dup C X3 d1_54 rfl rfl ?_
          refine g_iconst C X3 (2 : Int32) d1_55 rfl rfl ?_
          refine g_lload C X3 d1_56 rfl rfl ?_
          refine g_lastore C X3 d1_58 e3 A3 (by decide) (by decide) rfl ?_
          intro T4 h4_ X4 e4 W4 A4
          have N4 := Fr.snoc X4 N3 g_ad1
          have Z4 : n0 ≤ h4_.size := Nat.le_trans Z3 (Keep.of_wr W4).1
          have K4 := K3.wr W4 (Or.inr (by omega))
          refine g_areturn C X4 d1_59 rfl rfl rfl ?_ (by decide) (by decide)
          rw [e4]
          refine ⟨⟨ad1, rfl, g_ad1, by omega, Aw.of A4 ?_⟩, N4, K4⟩
          intro j hj
          have hj : j < 3 := hj
          have hj : j = 0 ∨ j = 1 ∨ j = 2 := by omega
          rcases hj with rfl | rfl | rfl <;> rfl
      · intro h23
        have h23 : (3 : Int) = 2 := h23
        exact absurd h23 (by decide)
    · intro h10
      have h10 : (3 : Int) = 1 := h10
      exact absurd h10 (by decide)
  · intro h1
    have h1 : (3 : Int) = 0 := h1
    exact absurd h1 (by decide)
def Q_mk4 (Z : State) (x0 : Int32) (x1 : Int64) (x2 : Int64) (x3 : Int64) (x4 : Int64) (h0 : Heap) (n0 : Nat) (v : Option Value) (h : Heap) (L : List Loc) : Prop := (∃ t : Addr, v = some (.ref t) ∧ n0 ≤ t ∧ h0.size ≤ t ∧ Aw Z h t .long 4 (fun j => .long (([x1, x2, x3, x4] : List Int64).getD j 0))) ∧ Fr n0 L ∧ Keep h0 h []
set_option maxRecDepth 65536 in
set_option maxHeartbeats 40000000 in
theorem mk4 (l : Launch) (Z : State) (a0 : Array Value) (hw : ∀ d ∈ tables_1, d.before a0 Z = true) (ws : List Jvm.Cond) (x0 : Int32) (x1 : Int64) (x2 : Int64) (x3 : Int64) (x4 : Int64) (hx0 : x0 = (4 : Int32)) (h0 : Heap) (n0 : Nat) (Z0 : n0 ≤ h0.size) :
    MetFree l (⟨"com/example/ballast/ballast/storage/RetentionBeyondBytesPinLaw", "make", "(IJJJJ)[J"⟩ : MethodName) (head1 (Jvm.Cond.code (⟨"com/example/ballast/ballast/storage/RetentionBeyondBytesPinLaw", "make", "(IJJJJ)[J"⟩ : MethodName) method_2_code 9 (some (.array .long)) :: ws) ({ frames := 0, cells := 1, slots := 4, locals := 0 } : Room)) (fun aa U => aa = #[(.int x0), (.long x1), (.long x2), (.long x3), (.long x4)] ∧ Z.Warmed39 U.vm ∧ U.heap = h0) (fun _ _ _ _ _ => True) (fun _ U oo U' => ∃ rv Lr, oo = .returned rv ∧ Q_mk4 Z x0 x1 x2 x3 x4 h0 n0 rv U'.heap Lr ∧ FrameEnd U oo U' Lr ({ frames := 0, cells := 1, slots := 4, locals := 0 } : Room).cells ({ frames := 0, cells := 1, slots := 4, locals := 0 } : Room).slots) := by
  refine g_enter pn_1 hw (ef_1 x0 x1 x2 x3 x4) ?_
  intro p e s m below meth c T0 C X0 e0
  have C : Cx Z a0 p s m meth c method_2_code 9 "com/example/ballast/ballast/storage/RetentionBeyondBytesPinLaw" "make" (some (.array .long)) := C
  subst hx0
  have N0 := Fr.nil n0
  have K0 := Keep.refl h0 []
  refine g_iloadN C X0 d1_0 rfl rfl ?_
  refine g_if C X0 d1_1 (by decide) rfl rfl ?_ ?_
  · intro h1
    have h1 : ¬ (4 : Int) = 0 := h1
    refine g_iloadN C X0 d1_8 rfl rfl ?_
    refine g_iconst C X0 (1 : Int32) d1_9 rfl rfl ?_
    refine g_icmp C X0 d1_10 (by decide) rfl rfl ?_ ?_
    · intro h10
      have h10 : ¬ (4 : Int) = 1 := h10
      refine g_iloadN C X0 d1_21 rfl rfl ?_
      refine g_iconst C X0 (2 : Int32) d1_22 rfl rfl ?_
      refine g_icmp C X0 d1_23 (by decide) rfl rfl ?_ ?_
      · intro h23
        have h23 : ¬ (4 : Int) = 2 := h23
        refine g_iloadN C X0 d1_38 rfl rfl ?_
        refine g_iconst C X0 (3 : Int32) d1_39 rfl rfl ?_
        refine g_icmp C X0 d1_40 (by decide) rfl rfl ?_ ?_
        · intro h40
          have h40 : ¬ (4 : Int) = 3 := h40
          refine g_iconst C X0 (4 : Int32) d1_60 rfl rfl ?_
          refine g_newarray (cap := 4) C X0 d1_61 e0 (C.t 5 rfl) (by decide) (by decide) (by decide) (by decide) (by decide) rfl ?_
          intro T1 h1_ X1 e1 E1 lt1 ad1 ha1 A1
          have Z1 : n0 ≤ h1_.size := Nat.le_trans Z0 E1.1
          have K1 := K0.ext E1
          have g_ad1 : n0 ≤ ad1 := by omega
          refine g_dup C X1 d1_63 rfl rfl ?_
          refine g_iconst C X1 (0 : Int32) d1_64 rfl rfl ?_
          refine g_lloadN C X1 d1_65 rfl rfl ?_
          refine g_lastore C X1 d1_66 e1 A1 (by decide) (by decide) rfl ?_
          intro T2 h2_ X2 e2 W2 A2
          have N2 := Fr.snoc X2 N0 g_ad1
          have Z2 : n0 ≤ h2_.size := Nat.le_trans Z1 (Keep.of_wr W2).1
          have K2 := K1.wr W2 (Or.inr (by omega))
          refine g_dup C X2 d1_67 rfl rfl ?_
          refine g_iconst C X2 (1 : Int32) d1_68 rfl rfl ?_
          refine g_lloadN C X2 d1_69 rfl rfl ?_
          refine g_lastore C X2 d1_70 e2 A2 (by decide) (by decide) rfl ?_
          intro T3 h3_ X3 e3 W3 A3
          have N3 := Fr.snoc X3 N2 g_ad1
          have Z3 : n0 ≤ h3_.size := Nat.le_trans Z2 (Keep.of_wr W3).1
          have K3 := K2.wr W3 (Or.inr (by omega))
          refine g_dup C X3 d1_71 rfl rfl ?_
          refine g_iconst C X3 (2 : Int32) d1_72 rfl rfl ?_
          refine g_lload C X3 d1_73 rfl rfl ?_
          refine g_lastore C X3 d1_75 e3 A3 (by decide) (by decide) rfl ?_
          intro T4 h4_ X4 e4 W4 A4
          have N4 := Fr.snoc X4 N3 g_ad1
          have Z4 : n0 ≤ h4_.size := Nat.le_trans Z3 (Keep.of_wr W4).1
          have K4 := K3.wr W4 (Or.inr (by omega))
          refine g_dup C X4 d1_76 rfl rfl ?_
          refine g_iconst C X4 (3 : Int32) d1_77 rfl rfl ?_
          refine g_lload C X4 d1_78 rfl rfl ?_
          refine g_lastore C X4 d1_80 e4 A4 (by decide) (by decide) rfl ?_
          intro T5 h5_ X5 e5 W5 A5
          have N5 := Fr.snoc X5 N4 g_ad1
          have Z5 : n0 ≤ h5_.size := Nat.le_trans Z4 (Keep.of_wr W5).1
          have K5 := K4.wr W5 (Or.inr (by omega))
          refine g_areturn C X5 d1_81 rfl rfl rfl ?_ (by decide) (by decide)
          rw [e5]
          refine ⟨⟨ad1, rfl, g_ad1, by omega, Aw.of A5 ?_⟩, N5, K5⟩
          intro j hj
          have hj : j < 4 := hj
          have hj : j = 0 ∨ j = 1 ∨ j = 2 ∨ j = 3 := by omega
          rcases hj with rfl | rfl | rfl | rfl <;> rfl
        · intro h40
          have h40 : (4 : Int) = 3 := h40
          exact absurd h40 (by decide)
      · intro h23
        have h23 : (4 : Int) = 2 := h23
        exact absurd h23 (by decide)
    · intro h10
      have h10 : (4 : Int) = 1 := h10
      exact absurd h10 (by decide)
  · intro h1
    have h1 : (4 : Int) = 0 := h1
    exact absurd h1 (by decide)
def Q_rm5 (Z : State) (o : Addr) (t : Addr) (bd : Int64) (h0 : Heap) (n0 : Nat) (v : Option Value) (h : Heap) (L : List Loc) : Prop := (∃ r : Int32, v = some (.int r) ∧ r.toInt = 0) ∧ Fr n0 L ∧ h = h0
set_option maxRecDepth 65536 in
set_option maxHeartbeats 40000000 in
theorem bbU (l : Launch) (Z : State) (a0 : Array Value) (hw : ∀ d ∈ tables_1, d.before a0 Z = true) (ws : List Jvm.Cond) (o : Addr) (t : Addr) (bd : Int64) (h0 : Heap) (n0 : Nat) (Z0 : n0 ≤ h0.size) (F1 : Fld Z h0 o "com/example/ballast/ballast/storage/Retention" "bytes" "J" (.long bd)) (hb : bd.toInt = -1) :
    MetFree l (⟨"com/example/ballast/ballast/storage/Retention", "beyondBytes", "([J)I"⟩ : MethodName) (head1 (Jvm.Cond.code (⟨"com/example/ballast/ballast/storage/Retention", "beyondBytes", "([J)I"⟩ : MethodName) prog_339_method_6_code 9 (some .int) :: ws) ({ frames := 0, cells := 0, slots := 0, locals := 0 } : Room)) (fun aa U => aa = #[(.ref o), (.ref t)] ∧ Z.Warmed39 U.vm ∧ U.heap = h0) (fun _ _ _ _ _ => True) (fun _ U oo U' => ∃ rv Lr, oo = .returned rv ∧ Q_rm5 Z o t bd h0 n0 rv U'.heap Lr ∧ FrameEnd U oo U' Lr ({ frames := 0, cells := 0, slots := 0, locals := 0 } : Room).cells ({ frames := 0, cells := 0, slots := 0, locals := 0 } : Room).slots) := by
  refine g_enter pn_5 hw (ef_5 o t) ?_
  intro p e s m below meth c T0 C X0 e0
  have C : Cx Z a0 p s m meth c prog_339_method_6_code 9 "com/example/ballast/ballast/storage/Retention" "beyondBytes" (some .int) := C
  have N0 := Fr.nil n0
  refine g_aloadN C X0 d5_0 rfl rfl ?_
  refine g_getfield C X0 d5_1 e0 (C.t 23 rfl) Via.refl F1 rfl ?_
  intro T1 X1 e1
  refine g_ldcL C X1 d5_4 (C.t 36 rfl) rfl ?_
  refine g_lcmpif C X1 d5_7 rfl d5_8 (by decide) rfl rfl ?_ ?_
  · intro h8
    have h8 : ¬ bd.toInt = (-1) := h8
    exact absurd hb h8
  · intro h8
    have h8 : bd.toInt = (-1) := h8
    refine g_iconst C X1 (0 : Int32) d5_11 rfl rfl ?_
    exact g_ireturn C X1 d5_12 rfl ⟨⟨(0 : Int32), rfl, by decide⟩, N0, e1⟩ (by decide) (by decide)
def Q_bb0 (Z : State) (o : Addr) (t : Addr) (bd : Int64) (h0 : Heap) (n0 : Nat) (v : Option Value) (h : Heap) (L : List Loc) : Prop := (∃ r : Int32, v = some (.int r) ∧ r.toInt = 0) ∧ Fr n0 L ∧ h = h0
set_option maxRecDepth 65536 in
set_option maxHeartbeats 40000000 in
theorem bb0 (l : Launch) (Z : State) (a0 : Array Value) (hw : ∀ d ∈ tables_1, d.before a0 Z = true) (ws : List Jvm.Cond) (o : Addr) (t : Addr) (bd : Int64) (h0 : Heap) (n0 : Nat) (Z0 : n0 ≤ h0.size) (F1 : Fld Z h0 o "com/example/ballast/ballast/storage/Retention" "bytes" "J" (.long bd)) (hb : 0 ≤ bd.toInt) (A : Aw Z h0 t .long 0 (fun j => .long (([] : List Int64).getD j 0))) :
    MetFree l (⟨"com/example/ballast/ballast/storage/Retention", "beyondBytes", "([J)I"⟩ : MethodName) (head1 (Jvm.Cond.code (⟨"com/example/ballast/ballast/storage/Retention", "beyondBytes", "([J)I"⟩ : MethodName) prog_339_method_6_code 9 (some .int) :: ws) ({ frames := 0, cells := 0, slots := 0, locals := 0 } : Room)) (fun aa U => aa = #[(.ref o), (.ref t)] ∧ Z.Warmed39 U.vm ∧ U.heap = h0) (fun _ _ _ _ _ => True) (fun _ U oo U' => ∃ rv Lr, oo = .returned rv ∧ Q_bb0 Z o t bd h0 n0 rv U'.heap Lr ∧ FrameEnd U oo U' Lr ({ frames := 0, cells := 0, slots := 0, locals := 0 } : Room).cells ({ frames := 0, cells := 0, slots := 0, locals := 0 } : Room).slots) := by
  refine g_enter pn_5 hw (ef_5 o t) ?_
  intro p e s m below meth c T0 C X0 e0
  have C : Cx Z a0 p s m meth c prog_339_method_6_code 9 "com/example/ballast/ballast/storage/Retention" "beyondBytes" (some .int) := C
  have N0 := Fr.nil n0
  refine g_aloadN C X0 d5_0 rfl rfl ?_
  refine g_getfield C X0 d5_1 e0 (C.t 23 rfl) Via.refl F1 rfl ?_
  intro T1 X1 e1
  refine g_ldcL C X1 d5_4 (C.t 36 rfl) rfl ?_
  refine g_lcmpif C X1 d5_7 rfl d5_8 (by decide) rfl rfl ?_ ?_
  · intro h8
    have h8 : ¬ bd.toInt = (-1) := h8
    refine g_lconst C X1 (0 : Int64) d5_13 rfl rfl ?_
    refine g_lstoreN C X1 d5_14 #[.val (.ref o), .val (.ref t), .val (.long (0 : Int64)), .second, .unset, .unset, .unset, .unset, .unset] rfl rfl ?_
    refine g_aloadN C X1 d5_15 rfl rfl ?_
    refine g_astore C X1 d5_16 #[.val (.ref o), .val (.ref t), .val (.long (0 : Int64)), .second, .val (.ref t), .unset, .unset, .unset, .unset] rfl rfl ?_
    refine g_aload C X1 d5_18 rfl rfl ?_
    refine g_arraylength C X1 d5_20 e1 A rfl ?_
    intro n20 h_n20
    obtain rfl : n20 = (0 : Int32) := own_inj32 (y := (0 : Int32)) h_n20
    refine g_istore C X1 d5_21 #[.val (.ref o), .val (.ref t), .val (.long (0 : Int64)), .second, .val (.ref t), .val (.int (0 : Int32)), .unset, .unset, .unset] rfl rfl ?_
    refine g_iconst C X1 (0 : Int32) d5_23 rfl rfl ?_
    refine g_istore C X1 d5_24 #[.val (.ref o), .val (.ref t), .val (.long (0 : Int64)), .second, .val (.ref t), .val (.int (0 : Int32)), .val (.int (0 : Int32)), .unset, .unset] rfl rfl ?_
    refine g_iload C X1 d5_26 rfl rfl ?_
    refine g_iload C X1 d5_28 rfl rfl ?_
    refine g_icmp C X1 d5_30 (by decide) rfl rfl ?_ ?_
    · intro h30
      have h30 : (0 : Int) ≥ 0 := h30
      refine g_iconst C X1 (0 : Int32) d5_51 rfl rfl ?_
      refine g_istore C X1 d5_52 #[.val (.ref o), .val (.ref t), .val (.long (0 : Int64)), .second, .val (.int (0 : Int32)), .val (.int (0 : Int32)), .val (.int (0 : Int32)), .unset, .unset] rfl rfl ?_
      refine g_iload C X1 d5_54 rfl rfl ?_
      refine g_aloadN C X1 d5_56 rfl rfl ?_
      refine g_arraylength C X1 d5_57 e1 A rfl ?_
      intro n57 h_n57
      obtain rfl : n57 = (0 : Int32) := own_inj32 (y := (0 : Int32)) h_n57
      refine g_iconst C X1 (1 : Int32) d5_58 rfl rfl ?_
      refine g_isub C X1 d5_59 rfl ?_
      refine g_icmp C X1 d5_60 (by decide) rfl rfl ?_ ?_
      · intro h60
        have h60 : (0 : Int) ≥ (-1) := h60
        refine g_iload C X1 d5_99 rfl rfl ?_
        exact g_ireturn C X1 d5_101 rfl ⟨⟨(0 : Int32), rfl, by decide⟩, N0, e1⟩ (by decide) (by decide)
      · intro h60
        have h60 : (0 : Int) < (-1) := h60
        exact absurd h60 (by decide)
    · intro h30
      have h30 : (0 : Int) < 0 := h30
      exact absurd h30 (by decide)
  · intro h8
    have h8 : bd.toInt = (-1) := h8
    exfalso; omega
def Q_bb1 (Z : State) (o : Addr) (t : Addr) (bd : Int64) (s0 : Int64) (h0 : Heap) (n0 : Nat) (v : Option Value) (h : Heap) (L : List Loc) : Prop := (∃ r : Int32, v = some (.int r) ∧ r.toInt = 0) ∧ Fr n0 L ∧ h = h0
set_option maxRecDepth 65536 in
set_option maxHeartbeats 40000000 in
theorem bb1 (l : Launch) (Z : State) (a0 : Array Value) (hw : ∀ d ∈ tables_1, d.before a0 Z = true) (ws : List Jvm.Cond) (o : Addr) (t : Addr) (bd s0 : Int64) (h0 : Heap) (n0 : Nat) (Z0 : n0 ≤ h0.size) (F1 : Fld Z h0 o "com/example/ballast/ballast/storage/Retention" "bytes" "J" (.long bd)) (hb : 0 ≤ bd.toInt) (A : Aw Z h0 t .long 1 (fun j => .long (([s0] : List Int64).getD j 0))) (l0 : 0 ≤ s0.toInt) (m0 : s0.toInt < 2305843009213693952) :
    MetFree l (⟨"com/example/ballast/ballast/storage/Retention", "beyondBytes", "([J)I"⟩ : MethodName) (head1 (Jvm.Cond.code (⟨"com/example/ballast/ballast/storage/Retention", "beyondBytes", "([J)I"⟩ : MethodName) prog_339_method_6_code 9 (some .int) :: ws) ({ frames := 0, cells := 0, slots := 0, locals := 0 } : Room)) (fun aa U => aa = #[(.ref o), (.ref t)] ∧ Z.Warmed39 U.vm ∧ U.heap = h0) (fun _ _ _ _ _ => True) (fun _ U oo U' => ∃ rv Lr, oo = .returned rv ∧ Q_bb1 Z o t bd s0 h0 n0 rv U'.heap Lr ∧ FrameEnd U oo U' Lr ({ frames := 0, cells := 0, slots := 0, locals := 0 } : Room).cells ({ frames := 0, cells := 0, slots := 0, locals := 0 } : Room).slots) := by
  refine g_enter pn_5 hw (ef_5 o t) ?_
  intro p e s m below meth c T0 C X0 e0
  have C : Cx Z a0 p s m meth c prog_339_method_6_code 9 "com/example/ballast/ballast/storage/Retention" "beyondBytes" (some .int) := C
  have N0 := Fr.nil n0
  refine g_aloadN C X0 d5_0 rfl rfl ?_
  refine g_getfield C X0 d5_1 e0 (C.t 23 rfl) Via.refl F1 rfl ?_
  intro T1 X1 e1
  refine g_ldcL C X1 d5_4 (C.t 36 rfl) rfl ?_
  refine g_lcmpif C X1 d5_7 rfl d5_8 (by decide) rfl rfl ?_ ?_
  · intro h8
    have h8 : ¬ bd.toInt = (-1) := h8
    refine g_lconst C X1 (0 : Int64) d5_13 rfl rfl ?_
    refine g_lstoreN C X1 d5_14 #[.val (.ref o), .val (.ref t), .val (.long (0 : Int64)), .second, .unset, .unset, .unset, .unset, .unset] rfl rfl ?_
    refine g_aloadN C X1 d5_15 rfl rfl ?_
    refine g_astore C X1 d5_16 #[.val (.ref o), .val (.ref t), .val (.long (0 : Int64)), .second, .val (.ref t), .unset, .unset, .unset, .unset] rfl rfl ?_
    refine g_aload C X1 d5_18 rfl rfl ?_
    refine g_arraylength C X1 d5_20 e1 A rfl ?_
    intro n20 h_n20
    obtain rfl : n20 = (1 : Int32) := own_inj32 (y := (1 : Int32)) h_n20
    refine g_istore C X1 d5_21 #[.val (.ref o), .val (.ref t), .val (.long (0 : Int64)), .second, .val (.ref t), .val (.int (1 : Int32)), .unset, .unset, .unset] rfl rfl ?_
    refine g_iconst C X1 (0 : Int32) d5_23 rfl rfl ?_
    refine g_istore C X1 d5_24 #[.val (.ref o), .val (.ref t), .val (.long (0 : Int64)), .second, .val (.ref t), .val (.int (1 : Int32)), .val (.int (0 : Int32)), .unset, .unset] rfl rfl ?_
    refine g_iload C X1 d5_26 rfl rfl ?_
    refine g_iload C X1 d5_28 rfl rfl ?_
    refine g_icmp C X1 d5_30 (by decide) rfl rfl ?_ ?_
    · intro h30
      have h30 : (0 : Int) ≥ 1 := h30
      exact absurd h30 (by decide)
    · intro h30
      have h30 : (0 : Int) < 1 := h30
      refine g_aload C X1 d5_33 rfl rfl ?_
      refine g_iload C X1 d5_35 rfl rfl ?_
      refine g_laload C X1 d5_37 e1 A (by decide) (by decide) (v := (.long s0)) rfl rfl ?_
      refine g_lstore C X1 d5_38 #[.val (.ref o), .val (.ref t), .val (.long (0 : Int64)), .second, .val (.ref t), .val (.int (1 : Int32)), .val (.int (0 : Int32)), .val (.long s0), .second] rfl rfl ?_
      refine g_lloadN C X1 d5_40 rfl rfl ?_
      refine g_lload C X1 d5_41 rfl rfl ?_
      refine g_ladd C X1 d5_43 rfl ?_
      refine g_lstoreNV C X1 d5_44 (fun v__ => #[.val (.ref o), .val (.ref t), .val (.long v__), .second, .val (.ref t), .val (.int (1 : Int32)), .val (.int (0 : Int32)), .val (.long s0), .second]) rfl rfl ?_
      intro v44 h_v44
      have q_v44 := c_ladd (0 : Int64) s0
      rw [← h_v44] at q_v44
      have r_v44 := rng64 v44
      rw [show (0 : Int64).toInt = 0 by decide] at q_v44
      have t_v44 : v44.toInt = s0.toInt := by omega
      refine g_iinc C X1 d5_45 rfl #[.val (.ref o), .val (.ref t), .val (.long v44), .second, .val (.ref t), .val (.int (1 : Int32)), .val (.int (1 : Int32)), .val (.long s0), .second] rfl rfl ?_
      refine g_goto C X1 d5_48 (by decide) rfl ?_
      refine g_iload C X1 d5_26 rfl rfl ?_
      refine g_iload C X1 d5_28 rfl rfl ?_
      refine g_icmp C X1 d5_30 (by decide) rfl rfl ?_ ?_
      · intro h30
        have h30 : (1 : Int) ≥ 1 := h30
        refine g_iconst C X1 (0 : Int32) d5_51 rfl rfl ?_
        refine g_istore C X1 d5_52 #[.val (.ref o), .val (.ref t), .val (.long v44), .second, .val (.int (0 : Int32)), .val (.int (1 : Int32)), .val (.int (1 : Int32)), .val (.long s0), .second] rfl rfl ?_
        refine g_iload C X1 d5_54 rfl rfl ?_
        refine g_aloadN C X1 d5_56 rfl rfl ?_
        refine g_arraylength C X1 d5_57 e1 A rfl ?_
        intro n57 h_n57
        obtain rfl : n57 = (1 : Int32) := own_inj32 (y := (1 : Int32)) h_n57
        refine g_iconst C X1 (1 : Int32) d5_58 rfl rfl ?_
        refine g_isub C X1 d5_59 rfl ?_
        refine g_icmp C X1 d5_60 (by decide) rfl rfl ?_ ?_
        · intro h60
          have h60 : (0 : Int) ≥ 0 := h60
          refine g_iload C X1 d5_99 rfl rfl ?_
          exact g_ireturn C X1 d5_101 rfl ⟨⟨(0 : Int32), rfl, by decide⟩, N0, e1⟩ (by decide) (by decide)
        · intro h60
          have h60 : (0 : Int) < 0 := h60
          exact absurd h60 (by decide)
      · intro h30
        have h30 : (1 : Int) < 1 := h30
        exact absurd h30 (by decide)
  · intro h8
    have h8 : bd.toInt = (-1) := h8
    exfalso; omega
def Q_bb2 (Z : State) (o : Addr) (t : Addr) (bd : Int64) (s0 : Int64) (s1 : Int64) (h0 : Heap) (n0 : Nat) (v : Option Value) (h : Heap) (L : List Loc) : Prop := (∃ r : Int32, v = some (.int r) ∧ ((r.toInt = 0 ∧ ¬ (bd.toInt < s0.toInt + s1.toInt ∧ bd.toInt ≤ s1.toInt)) ∨ (r.toInt = 1 ∧ (bd.toInt < s0.toInt + s1.toInt ∧ bd.toInt ≤ s1.toInt)))) ∧ Fr n0 L ∧ h = h0
set_option maxRecDepth 65536 in
set_option maxHeartbeats 40000000 in
theorem bb2 (l : Launch) (Z : State) (a0 : Array Value) (hw : ∀ d ∈ tables_1, d.before a0 Z = true) (ws : List Jvm.Cond) (o : Addr) (t : Addr) (bd s0 s1 : Int64) (h0 : Heap) (n0 : Nat) (Z0 : n0 ≤ h0.size) (F1 : Fld Z h0 o "com/example/ballast/ballast/storage/Retention" "bytes" "J" (.long bd)) (hb : 0 ≤ bd.toInt) (A : Aw Z h0 t .long 2 (fun j => .long (([s0, s1] : List Int64).getD j 0))) (l0 : 0 ≤ s0.toInt) (m0 : s0.toInt < 2305843009213693952) (l1 : 0 ≤ s1.toInt) (m1 : s1.toInt < 2305843009213693952) :
    MetFree l (⟨"com/example/ballast/ballast/storage/Retention", "beyondBytes", "([J)I"⟩ : MethodName) (head1 (Jvm.Cond.code (⟨"com/example/ballast/ballast/storage/Retention", "beyondBytes", "([J)I"⟩ : MethodName) prog_339_method_6_code 9 (some .int) :: ws) ({ frames := 0, cells := 0, slots := 0, locals := 0 } : Room)) (fun aa U => aa = #[(.ref o), (.ref t)] ∧ Z.Warmed39 U.vm ∧ U.heap = h0) (fun _ _ _ _ _ => True) (fun _ U oo U' => ∃ rv Lr, oo = .returned rv ∧ Q_bb2 Z o t bd s0 s1 h0 n0 rv U'.heap Lr ∧ FrameEnd U oo U' Lr ({ frames := 0, cells := 0, slots := 0, locals := 0 } : Room).cells ({ frames := 0, cells := 0, slots := 0, locals := 0 } : Room).slots) := by
  refine g_enter pn_5 hw (ef_5 o t) ?_
  intro p e s m below meth c T0 C X0 e0
  have C : Cx Z a0 p s m meth c prog_339_method_6_code 9 "com/example/ballast/ballast/storage/Retention" "beyondBytes" (some .int) := C
  have N0 := Fr.nil n0
  refine g_aloadN C X0 d5_0 rfl rfl ?_
  refine g_getfield C X0 d5_1 e0 (C.t 23 rfl) Via.refl F1 rfl ?_
  intro T1 X1 e1
  refine g_ldcL C X1 d5_4 (C.t 36 rfl) rfl ?_
  refine g_lcmpif C X1 d5_7 rfl d5_8 (by decide) rfl rfl ?_ ?_
  · intro h8
    have h8 : ¬ bd.toInt = (-1) := h8
    refine g_lconst C X1 (0 : Int64) d5_13 rfl rfl ?_
    refine g_lstoreN C X1 d5_14 #[.val (.ref o), .val (.ref t), .val (.long (0 : Int64)), .second, .unset, .unset, .unset, .unset, .unset] rfl rfl ?_
    refine g_aloadN C X1 d5_15 rfl rfl ?_
    refine g_astore C X1 d5_16 #[.val (.ref o), .val (.ref t), .val (.long (0 : Int64)), .second, .val (.ref t), .unset, .unset, .unset, .unset] rfl rfl ?_
    refine g_aload C X1 d5_18 rfl rfl ?_
    refine g_arraylength C X1 d5_20 e1 A rfl ?_
    intro n20 h_n20
    obtain rfl : n20 = (2 : Int32) := own_inj32 (y := (2 : Int32)) h_n20
    refine g_istore C X1 d5_21 #[.val (.ref o), .val (.ref t), .val (.long (0 : Int64)), .second, .val (.ref t), .val (.int (2 : Int32)), .unset, .unset, .unset] rfl rfl ?_
    refine g_iconst C X1 (0 : Int32) d5_23 rfl rfl ?_
    refine g_istore C X1 d5_24 #[.val (.ref o), .val (.ref t), .val (.long (0 : Int64)), .second, .val (.ref t), .val (.int (2 : Int32)), .val (.int (0 : Int32)), .unset, .unset] rfl rfl ?_
    refine g_iload C X1 d5_26 rfl rfl ?_
    refine g_iload C X1 d5_28 rfl rfl ?_
    refine g_icmp C X1 d5_30 (by decide) rfl rfl ?_ ?_
    · intro h30
      have h30 : (0 : Int) ≥ 2 := h30
      exact absurd h30 (by decide)
    · intro h30
      have h30 : (0 : Int) < 2 := h30
      refine g_aload C X1 d5_33 rfl rfl ?_
      refine g_iload C X1 d5_35 rfl rfl ?_
      refine g_laload C X1 d5_37 e1 A (by decide) (by decide) (v := (.long s0)) rfl rfl ?_
      refine g_lstore C X1 d5_38 #[.val (.ref o), .val (.ref t), .val (.long (0 : Int64)), .second, .val (.ref t), .val (.int (2 : Int32)), .val (.int (0 : Int32)), .val (.long s0), .second] rfl rfl ?_
      refine g_lloadN C X1 d5_40 rfl rfl ?_
      refine g_lload C X1 d5_41 rfl rfl ?_
      refine g_ladd C X1 d5_43 rfl ?_
      refine g_lstoreNV C X1 d5_44 (fun v__ => #[.val (.ref o), .val (.ref t), .val (.long v__), .second, .val (.ref t), .val (.int (2 : Int32)), .val (.int (0 : Int32)), .val (.long s0), .second]) rfl rfl ?_
      intro v44 h_v44
      have q_v44 := c_ladd (0 : Int64) s0
      rw [← h_v44] at q_v44
      have r_v44 := rng64 v44
      rw [show (0 : Int64).toInt = 0 by decide] at q_v44
      have t_v44 : v44.toInt = s0.toInt := by omega
      refine g_iinc C X1 d5_45 rfl #[.val (.ref o), .val (.ref t), .val (.long v44), .second, .val (.ref t), .val (.int (2 : Int32)), .val (.int (1 : Int32)), .val (.long s0), .second] rfl rfl ?_
      refine g_goto C X1 d5_48 (by decide) rfl ?_
      refine g_iload C X1 d5_26 rfl rfl ?_
      refine g_iload C X1 d5_28 rfl rfl ?_
      refine g_icmp C X1 d5_30 (by decide) rfl rfl ?_ ?_
      · intro h30
        have h30 : (1 : Int) ≥ 2 := h30
        exact absurd h30 (by decide)
      · intro h30
        have h30 : (1 : Int) < 2 := h30
        refine g_aload C X1 d5_33 rfl rfl ?_
        refine g_iload C X1 d5_35 rfl rfl ?_
        refine g_laload C X1 d5_37 e1 A (by decide) (by decide) (v := (.long s1)) rfl rfl ?_
        refine g_lstore C X1 d5_38 #[.val (.ref o), .val (.ref t), .val (.long v44), .second, .val (.ref t), .val (.int (2 : Int32)), .val (.int (1 : Int32)), .val (.long s1), .second] rfl rfl ?_
        refine g_lloadN C X1 d5_40 rfl rfl ?_
        refine g_lload C X1 d5_41 rfl rfl ?_
        refine g_ladd C X1 d5_43 rfl ?_
        refine g_lstoreNV C X1 d5_44 (fun v__ => #[.val (.ref o), .val (.ref t), .val (.long v__), .second, .val (.ref t), .val (.int (2 : Int32)), .val (.int (1 : Int32)), .val (.long s1), .second]) rfl rfl ?_
        intro v44_2 h_v44_2
        have q_v44_2 := c_ladd v44 s1
        rw [← h_v44_2] at q_v44_2
        have r_v44_2 := rng64 v44_2
        have t_v44_2 : v44_2.toInt = s0.toInt + s1.toInt := by omega
        refine g_iinc C X1 d5_45 rfl #[.val (.ref o), .val (.ref t), .val (.long v44_2), .second, .val (.ref t), .val (.int (2 : Int32)), .val (.int (2 : Int32)), .val (.long s1), .second] rfl rfl ?_
        refine g_goto C X1 d5_48 (by decide) rfl ?_
        refine g_iload C X1 d5_26 rfl rfl ?_
        refine g_iload C X1 d5_28 rfl rfl ?_
        refine g_icmp C X1 d5_30 (by decide) rfl rfl ?_ ?_
        · intro h30
          have h30 : (2 : Int) ≥ 2 := h30
          refine g_iconst C X1 (0 : Int32) d5_51 rfl rfl ?_
          refine g_istore C X1 d5_52 #[.val (.ref o), .val (.ref t), .val (.long v44_2), .second, .val (.int (0 : Int32)), .val (.int (2 : Int32)), .val (.int (2 : Int32)), .val (.long s1), .second] rfl rfl ?_
          refine g_iload C X1 d5_54 rfl rfl ?_
          refine g_aloadN C X1 d5_56 rfl rfl ?_
          refine g_arraylength C X1 d5_57 e1 A rfl ?_
          intro n57 h_n57
          obtain rfl : n57 = (2 : Int32) := own_inj32 (y := (2 : Int32)) h_n57
          refine g_iconst C X1 (1 : Int32) d5_58 rfl rfl ?_
          refine g_isub C X1 d5_59 rfl ?_
          refine g_icmp C X1 d5_60 (by decide) rfl rfl ?_ ?_
          · intro h60
            have h60 : (0 : Int) ≥ 1 := h60
            exact absurd h60 (by decide)
          · intro h60
            have h60 : (0 : Int) < 1 := h60
            refine g_lloadN C X1 d5_63 rfl rfl ?_
            refine g_aloadN C X1 d5_64 rfl rfl ?_
            refine g_getfield C X1 d5_65 e1 (C.t 23 rfl) Via.refl F1 rfl ?_
            intro T2 X2 e2
            refine g_lcmpif C X2 d5_68 rfl d5_69 (by decide) rfl rfl ?_ ?_
            · intro h69
              have h69 : v44_2.toInt ≤ bd.toInt := h69
              refine g_iload C X2 d5_99 rfl rfl ?_
              exact g_ireturn C X2 d5_101 rfl ⟨⟨(0 : Int32), rfl, by rw [show (0 : Int32).toInt = 0 by decide]; omega⟩, N0, e2⟩ (by decide) (by decide)
            · intro h69
              have h69 : v44_2.toInt > bd.toInt := h69
              refine g_lloadN C X2 d5_72 rfl rfl ?_
              refine g_aloadN C X2 d5_73 rfl rfl ?_
              refine g_iload C X2 d5_74 rfl rfl ?_
              refine g_laload C X2 d5_76 e2 A (by decide) (by decide) (v := (.long s0)) rfl rfl ?_
              have d_s0 := c_lsub v44_2 s0
              have dr_s0 := rng64 (v44_2 - s0)
              have de_s0 : (v44_2 - s0).toInt = v44_2.toInt - s0.toInt := by omega
              refine g_lsub C X2 d5_77 rfl ?_
              refine g_aloadN C X2 d5_78 rfl rfl ?_
              refine g_getfield C X2 d5_79 e2 (C.t 23 rfl) Via.refl F1 rfl ?_
              intro T3 X3 e3
              refine g_lcmpif C X3 d5_82 rfl d5_83 (by decide) rfl rfl ?_ ?_
              · intro h83
                have h83 : (v44_2 - s0).toInt < bd.toInt := h83
                refine g_iload C X3 d5_99 rfl rfl ?_
                exact g_ireturn C X3 d5_101 rfl ⟨⟨(0 : Int32), rfl, by rw [show (0 : Int32).toInt = 0 by decide]; omega⟩, N0, e3⟩ (by decide) (by decide)
              · intro h83
                have h83 : (v44_2 - s0).toInt ≥ bd.toInt := h83
                refine g_lloadN C X3 d5_86 rfl rfl ?_
                refine g_aloadN C X3 d5_87 rfl rfl ?_
                refine g_iload C X3 d5_88 rfl rfl ?_
                refine g_laload C X3 d5_90 e3 A (by decide) (by decide) (v := (.long s0)) rfl rfl ?_
                refine g_lsub C X3 d5_91 rfl ?_
                refine g_lstoreNV C X3 d5_92 (fun v__ => #[.val (.ref o), .val (.ref t), .val (.long v__), .second, .val (.int (0 : Int32)), .val (.int (2 : Int32)), .val (.int (2 : Int32)), .val (.long s1), .second]) rfl rfl ?_
                intro v92 h_v92
                rw [← h_v92] at de_s0
                refine g_iinc C X3 d5_93 rfl #[.val (.ref o), .val (.ref t), .val (.long v92), .second, .val (.int (1 : Int32)), .val (.int (2 : Int32)), .val (.int (2 : Int32)), .val (.long s1), .second] rfl rfl ?_
                refine g_goto C X3 d5_96 (by decide) rfl ?_
                refine g_iload C X3 d5_54 rfl rfl ?_
                refine g_aloadN C X3 d5_56 rfl rfl ?_
                refine g_arraylength C X3 d5_57 e3 A rfl ?_
                intro n57 h_n57
                obtain rfl : n57 = (2 : Int32) := own_inj32 (y := (2 : Int32)) h_n57
                refine g_iconst C X3 (1 : Int32) d5_58 rfl rfl ?_
                refine g_isub C X3 d5_59 rfl ?_
                refine g_icmp C X3 d5_60 (by decide) rfl rfl ?_ ?_
                · intro h60
                  have h60 : (1 : Int) ≥ 1 := h60
                  refine g_iload C X3 d5_99 rfl rfl ?_
                  exact g_ireturn C X3 d5_101 rfl ⟨⟨(1 : Int32), rfl, by rw [show (1 : Int32).toInt = 1 by decide]; omega⟩, N0, e3⟩ (by decide) (by decide)
                · intro h60
                  have h60 : (1 : Int) < 1 := h60
                  exact absurd h60 (by decide)
        · intro h30
          have h30 : (2 : Int) < 2 := h30
          exact absurd h30 (by decide)
  · intro h8
    have h8 : bd.toInt = (-1) := h8
    exfalso; omega
def Q_bb3 (Z : State) (o : Addr) (t : Addr) (bd : Int64) (s0 : Int64) (s1 : Int64) (s2 : Int64) (h0 : Heap) (n0 : Nat) (v : Option Value) (h : Heap) (L : List Loc) : Prop := (∃ r : Int32, v = some (.int r) ∧ ((r.toInt = 0 ∧ ¬ (bd.toInt < s0.toInt + s1.toInt + s2.toInt ∧ bd.toInt ≤ s1.toInt + s2.toInt)) ∨ (r.toInt = 1 ∧ (bd.toInt < s0.toInt + s1.toInt + s2.toInt ∧ bd.toInt ≤ s1.toInt + s2.toInt) ∧ ¬ (bd.toInt < s1.toInt + s2.toInt ∧ bd.toInt ≤ s2.toInt)) ∨ (r.toInt = 2 ∧ (bd.toInt < s1.toInt + s2.toInt ∧ bd.toInt ≤ s2.toInt)))) ∧ Fr n0 L ∧ h = h0
set_option maxRecDepth 65536 in
set_option maxHeartbeats 40000000 in
theorem bb3 (l : Launch) (Z : State) (a0 : Array Value) (hw : ∀ d ∈ tables_1, d.before a0 Z = true) (ws : List Jvm.Cond) (o : Addr) (t : Addr) (bd s0 s1 s2 : Int64) (h0 : Heap) (n0 : Nat) (Z0 : n0 ≤ h0.size) (F1 : Fld Z h0 o "com/example/ballast/ballast/storage/Retention" "bytes" "J" (.long bd)) (hb : 0 ≤ bd.toInt) (A : Aw Z h0 t .long 3 (fun j => .long (([s0, s1, s2] : List Int64).getD j 0))) (l0 : 0 ≤ s0.toInt) (m0 : s0.toInt < 2305843009213693952) (l1 : 0 ≤ s1.toInt) (m1 : s1.toInt < 2305843009213693952) (l2 : 0 ≤ s2.toInt) (m2 : s2.toInt < 2305843009213693952) :
    MetFree l (⟨"com/example/ballast/ballast/storage/Retention", "beyondBytes", "([J)I"⟩ : MethodName) (head1 (Jvm.Cond.code (⟨"com/example/ballast/ballast/storage/Retention", "beyondBytes", "([J)I"⟩ : MethodName) prog_339_method_6_code 9 (some .int) :: ws) ({ frames := 0, cells := 0, slots := 0, locals := 0 } : Room)) (fun aa U => aa = #[(.ref o), (.ref t)] ∧ Z.Warmed39 U.vm ∧ U.heap = h0) (fun _ _ _ _ _ => True) (fun _ U oo U' => ∃ rv Lr, oo = .returned rv ∧ Q_bb3 Z o t bd s0 s1 s2 h0 n0 rv U'.heap Lr ∧ FrameEnd U oo U' Lr ({ frames := 0, cells := 0, slots := 0, locals := 0 } : Room).cells ({ frames := 0, cells := 0, slots := 0, locals := 0 } : Room).slots) := by
  refine g_enter pn_5 hw (ef_5 o t) ?_
  intro p e s m below meth c T0 C X0 e0
  have C : Cx Z a0 p s m meth c prog_339_method_6_code 9 "com/example/ballast/ballast/storage/Retention" "beyondBytes" (some .int) := C
  have N0 := Fr.nil n0
  refine g_aloadN C X0 d5_0 rfl rfl ?_
  refine g_getfield C X0 d5_1 e0 (C.t 23 rfl) Via.refl F1 rfl ?_
  intro T1 X1 e1
  refine g_ldcL C X1 d5_4 (C.t 36 rfl) rfl ?_
  refine g_lcmpif C X1 d5_7 rfl d5_8 (by decide) rfl rfl ?_ ?_
  · intro h8
    have h8 : ¬ bd.toInt = (-1) := h8
    refine g_lconst C X1 (0 : Int64) d5_13 rfl rfl ?_
    refine g_lstoreN C X1 d5_14 #[.val (.ref o), .val (.ref t), .val (.long (0 : Int64)), .second, .unset, .unset, .unset, .unset, .unset] rfl rfl ?_
    refine g_aloadN C X1 d5_15 rfl rfl ?_
    refine g_astore C X1 d5_16 #[.val (.ref o), .val (.ref t), .val (.long (0 : Int64)), .second, .val (.ref t), .unset, .unset, .unset, .unset] rfl rfl ?_
    refine g_aload C X1 d5_18 rfl rfl ?_
    refine g_arraylength C X1 d5_20 e1 A rfl ?_
    intro n20 h_n20
    obtain rfl : n20 = (3 : Int32) := own_inj32 (y := (3 : Int32)) h_n20
    refine g_istore C X1 d5_21 #[.val (.ref o), .val (.ref t), .val (.long (0 : Int64)), .second, .val (.ref t), .val (.int (3 : Int32)), .unset, .unset, .unset] rfl rfl ?_
    refine g_iconst C X1 (0 : Int32) d5_23 rfl rfl ?_
    refine g_istore C X1 d5_24 #[.val (.ref o), .val (.ref t), .val (.long (0 : Int64)), .second, .val (.ref t), .val (.int (3 : Int32)), .val (.int (0 : Int32)), .unset, .unset] rfl rfl ?_
    refine g_iload C X1 d5_26 rfl rfl ?_
    refine g_iload C X1 d5_28 rfl rfl ?_
    refine g_icmp C X1 d5_30 (by decide) rfl rfl ?_ ?_
    · intro h30
      have h30 : (0 : Int) ≥ 3 := h30
      exact absurd h30 (by decide)
    · intro h30
      have h30 : (0 : Int) < 3 := h30
      refine g_aload C X1 d5_33 rfl rfl ?_
      refine g_iload C X1 d5_35 rfl rfl ?_
      refine g_laload C X1 d5_37 e1 A (by decide) (by decide) (v := (.long s0)) rfl rfl ?_
      refine g_lstore C X1 d5_38 #[.val (.ref o), .val (.ref t), .val (.long (0 : Int64)), .second, .val (.ref t), .val (.int (3 : Int32)), .val (.int (0 : Int32)), .val (.long s0), .second] rfl rfl ?_
      refine g_lloadN C X1 d5_40 rfl rfl ?_
      refine g_lload C X1 d5_41 rfl rfl ?_
      refine g_ladd C X1 d5_43 rfl ?_
      refine g_lstoreNV C X1 d5_44 (fun v__ => #[.val (.ref o), .val (.ref t), .val (.long v__), .second, .val (.ref t), .val (.int (3 : Int32)), .val (.int (0 : Int32)), .val (.long s0), .second]) rfl rfl ?_
      intro v44 h_v44
      have q_v44 := c_ladd (0 : Int64) s0
      rw [← h_v44] at q_v44
      have r_v44 := rng64 v44
      rw [show (0 : Int64).toInt = 0 by decide] at q_v44
      have t_v44 : v44.toInt = s0.toInt := by omega
      refine g_iinc C X1 d5_45 rfl #[.val (.ref o), .val (.ref t), .val (.long v44), .second, .val (.ref t), .val (.int (3 : Int32)), .val (.int (1 : Int32)), .val (.long s0), .second] rfl rfl ?_
      refine g_goto C X1 d5_48 (by decide) rfl ?_
      refine g_iload C X1 d5_26 rfl rfl ?_
      refine g_iload C X1 d5_28 rfl rfl ?_
      refine g_icmp C X1 d5_30 (by decide) rfl rfl ?_ ?_
      · intro h30
        have h30 : (1 : Int) ≥ 3 := h30
        exact absurd h30 (by decide)
      · intro h30
        have h30 : (1 : Int) < 3 := h30
        refine g_aload C X1 d5_33 rfl rfl ?_
        refine g_iload C X1 d5_35 rfl rfl ?_
        refine g_laload C X1 d5_37 e1 A (by decide) (by decide) (v := (.long s1)) rfl rfl ?_
        refine g_lstore C X1 d5_38 #[.val (.ref o), .val (.ref t), .val (.long v44), .second, .val (.ref t), .val (.int (3 : Int32)), .val (.int (1 : Int32)), .val (.long s1), .second] rfl rfl ?_
        refine g_lloadN C X1 d5_40 rfl rfl ?_
        refine g_lload C X1 d5_41 rfl rfl ?_
        refine g_ladd C X1 d5_43 rfl ?_
        refine g_lstoreNV C X1 d5_44 (fun v__ => #[.val (.ref o), .val (.ref t), .val (.long v__), .second, .val (.ref t), .val (.int (3 : Int32)), .val (.int (1 : Int32)), .val (.long s1), .second]) rfl rfl ?_
        intro v44_2 h_v44_2
        have q_v44_2 := c_ladd v44 s1
        rw [← h_v44_2] at q_v44_2
        have r_v44_2 := rng64 v44_2
        have t_v44_2 : v44_2.toInt = s0.toInt + s1.toInt := by omega
        refine g_iinc C X1 d5_45 rfl #[.val (.ref o), .val (.ref t), .val (.long v44_2), .second, .val (.ref t), .val (.int (3 : Int32)), .val (.int (2 : Int32)), .val (.long s1), .second] rfl rfl ?_
        refine g_goto C X1 d5_48 (by decide) rfl ?_
        refine g_iload C X1 d5_26 rfl rfl ?_
        refine g_iload C X1 d5_28 rfl rfl ?_
        refine g_icmp C X1 d5_30 (by decide) rfl rfl ?_ ?_
        · intro h30
          have h30 : (2 : Int) ≥ 3 := h30
          exact absurd h30 (by decide)
        · intro h30
          have h30 : (2 : Int) < 3 := h30
          refine g_aload C X1 d5_33 rfl rfl ?_
          refine g_iload C X1 d5_35 rfl rfl ?_
          refine g_laload C X1 d5_37 e1 A (by decide) (by decide) (v := (.long s2)) rfl rfl ?_
          refine g_lstore C X1 d5_38 #[.val (.ref o), .val (.ref t), .val (.long v44_2), .second, .val (.ref t), .val (.int (3 : Int32)), .val (.int (2 : Int32)), .val (.long s2), .second] rfl rfl ?_
          refine g_lloadN C X1 d5_40 rfl rfl ?_
          refine g_lload C X1 d5_41 rfl rfl ?_
          refine g_ladd C X1 d5_43 rfl ?_
          refine g_lstoreNV C X1 d5_44 (fun v__ => #[.val (.ref o), .val (.ref t), .val (.long v__), .second, .val (.ref t), .val (.int (3 : Int32)), .val (.int (2 : Int32)), .val (.long s2), .second]) rfl rfl ?_
          intro v44_3 h_v44_3
          have q_v44_3 := c_ladd v44_2 s2
          rw [← h_v44_3] at q_v44_3
          have r_v44_3 := rng64 v44_3
          have t_v44_3 : v44_3.toInt = s0.toInt + s1.toInt + s2.toInt := by omega
          refine g_iinc C X1 d5_45 rfl #[.val (.ref o), .val (.ref t), .val (.long v44_3), .second, .val (.ref t), .val (.int (3 : Int32)), .val (.int (3 : Int32)), .val (.long s2), .second] rfl rfl ?_
          refine g_goto C X1 d5_48 (by decide) rfl ?_
          refine g_iload C X1 d5_26 rfl rfl ?_
          refine g_iload C X1 d5_28 rfl rfl ?_
          refine g_icmp C X1 d5_30 (by decide) rfl rfl ?_ ?_
          · intro h30
            have h30 : (3 : Int) ≥ 3 := h30
            refine g_iconst C X1 (0 : Int32) d5_51 rfl rfl ?_
            refine g_istore C X1 d5_52 #[.val (.ref o), .val (.ref t), .val (.long v44_3), .second, .val (.int (0 : Int32)), .val (.int (3 : Int32)), .val (.int (3 : Int32)), .val (.long s2), .second] rfl rfl ?_
            refine g_iload C X1 d5_54 rfl rfl ?_
            refine g_aloadN C X1 d5_56 rfl rfl ?_
            refine g_arraylength C X1 d5_57 e1 A rfl ?_
            intro n57 h_n57
            obtain rfl : n57 = (3 : Int32) := own_inj32 (y := (3 : Int32)) h_n57
            refine g_iconst C X1 (1 : Int32) d5_58 rfl rfl ?_
            refine g_isub C X1 d5_59 rfl ?_
            refine g_icmp C X1 d5_60 (by decide) rfl rfl ?_ ?_
            · intro h60
              have h60 : (0 : Int) ≥ 2 := h60
              exact absurd h60 (by decide)
            · intro h60
              have h60 : (0 : Int) < 2 := h60
              refine g_lloadN C X1 d5_63 rfl rfl ?_
              refine g_aloadN C X1 d5_64 rfl rfl ?_
              refine g_getfield C X1 d5_65 e1 (C.t 23 rfl) Via.refl F1 rfl ?_
              intro T2 X2 e2
              refine g_lcmpif C X2 d5_68 rfl d5_69 (by decide) rfl rfl ?_ ?_
              · intro h69
                have h69 : v44_3.toInt ≤ bd.toInt := h69
                refine g_iload C X2 d5_99 rfl rfl ?_
                exact g_ireturn C X2 d5_101 rfl ⟨⟨(0 : Int32), rfl, by rw [show (0 : Int32).toInt = 0 by decide]; omega⟩, N0, e2⟩ (by decide) (by decide)
              · intro h69
                have h69 : v44_3.toInt > bd.toInt := h69
                refine g_lloadN C X2 d5_72 rfl rfl ?_
                refine g_aloadN C X2 d5_73 rfl rfl ?_
                refine g_iload C X2 d5_74 rfl rfl ?_
                refine g_laload C X2 d5_76 e2 A (by decide) (by decide) (v := (.long s0)) rfl rfl ?_
                have d_s0 := c_lsub v44_3 s0
                have dr_s0 := rng64 (v44_3 - s0)
                have de_s0 : (v44_3 - s0).toInt = v44_3.toInt - s0.toInt := by omega
                refine g_lsub C X2 d5_77 rfl ?_
                refine g_aloadN C X2 d5_78 rfl rfl ?_
                refine g_getfield C X2 d5_79 e2 (C.t 23 rfl) Via.refl F1 rfl ?_
                intro T3 X3 e3
                refine g_lcmpif C X3 d5_82 rfl d5_83 (by decide) rfl rfl ?_ ?_
                · intro h83
                  have h83 : (v44_3 - s0).toInt < bd.toInt := h83
                  refine g_iload C X3 d5_99 rfl rfl ?_
                  exact g_ireturn C X3 d5_101 rfl ⟨⟨(0 : Int32), rfl, by rw [show (0 : Int32).toInt = 0 by decide]; omega⟩, N0, e3⟩ (by decide) (by decide)
                · intro h83
                  have h83 : (v44_3 - s0).toInt ≥ bd.toInt := h83
                  refine g_lloadN C X3 d5_86 rfl rfl ?_
                  refine g_aloadN C X3 d5_87 rfl rfl ?_
                  refine g_iload C X3 d5_88 rfl rfl ?_
                  refine g_laload C X3 d5_90 e3 A (by decide) (by decide) (v := (.long s0)) rfl rfl ?_
                  refine g_lsub C X3 d5_91 rfl ?_
                  refine g_lstoreNV C X3 d5_92 (fun v__ => #[.val (.ref o), .val (.ref t), .val (.long v__), .second, .val (.int (0 : Int32)), .val (.int (3 : Int32)), .val (.int (3 : Int32)), .val (.long s2), .second]) rfl rfl ?_
                  intro v92 h_v92
                  rw [← h_v92] at de_s0
                  refine g_iinc C X3 d5_93 rfl #[.val (.ref o), .val (.ref t), .val (.long v92), .second, .val (.int (1 : Int32)), .val (.int (3 : Int32)), .val (.int (3 : Int32)), .val (.long s2), .second] rfl rfl ?_
                  refine g_goto C X3 d5_96 (by decide) rfl ?_
                  refine g_iload C X3 d5_54 rfl rfl ?_
                  refine g_aloadN C X3 d5_56 rfl rfl ?_
                  refine g_arraylength C X3 d5_57 e3 A rfl ?_
                  intro n57 h_n57
                  obtain rfl : n57 = (3 : Int32) := own_inj32 (y := (3 : Int32)) h_n57
                  refine g_iconst C X3 (1 : Int32) d5_58 rfl rfl ?_
                  refine g_isub C X3 d5_59 rfl ?_
                  refine g_icmp C X3 d5_60 (by decide) rfl rfl ?_ ?_
                  · intro h60
                    have h60 : (1 : Int) ≥ 2 := h60
                    exact absurd h60 (by decide)
                  · intro h60
                    have h60 : (1 : Int) < 2 := h60
                    refine g_lloadN C X3 d5_63 rfl rfl ?_
                    refine g_aloadN C X3 d5_64 rfl rfl ?_
                    refine g_getfield C X3 d5_65 e3 (C.t 23 rfl) Via.refl F1 rfl ?_
                    intro T4 X4 e4
                    refine g_lcmpif C X4 d5_68 rfl d5_69 (by decide) rfl rfl ?_ ?_
                    · intro h69
                      have h69 : v92.toInt ≤ bd.toInt := h69
                      refine g_iload C X4 d5_99 rfl rfl ?_
                      exact g_ireturn C X4 d5_101 rfl ⟨⟨(1 : Int32), rfl, by rw [show (1 : Int32).toInt = 1 by decide]; omega⟩, N0, e4⟩ (by decide) (by decide)
                    · intro h69
                      have h69 : v92.toInt > bd.toInt := h69
                      refine g_lloadN C X4 d5_72 rfl rfl ?_
                      refine g_aloadN C X4 d5_73 rfl rfl ?_
                      refine g_iload C X4 d5_74 rfl rfl ?_
                      refine g_laload C X4 d5_76 e4 A (by decide) (by decide) (v := (.long s1)) rfl rfl ?_
                      have d_s1 := c_lsub v92 s1
                      have dr_s1 := rng64 (v92 - s1)
                      have de_s1 : (v92 - s1).toInt = v92.toInt - s1.toInt := by omega
                      refine g_lsub C X4 d5_77 rfl ?_
                      refine g_aloadN C X4 d5_78 rfl rfl ?_
                      refine g_getfield C X4 d5_79 e4 (C.t 23 rfl) Via.refl F1 rfl ?_
                      intro T5 X5 e5
                      refine g_lcmpif C X5 d5_82 rfl d5_83 (by decide) rfl rfl ?_ ?_
                      · intro h83
                        have h83 : (v92 - s1).toInt < bd.toInt := h83
                        refine g_iload C X5 d5_99 rfl rfl ?_
                        exact g_ireturn C X5 d5_101 rfl ⟨⟨(1 : Int32), rfl, by rw [show (1 : Int32).toInt = 1 by decide]; omega⟩, N0, e5⟩ (by decide) (by decide)
                      · intro h83
                        have h83 : (v92 - s1).toInt ≥ bd.toInt := h83
                        refine g_lloadN C X5 d5_86 rfl rfl ?_
                        refine g_aloadN C X5 d5_87 rfl rfl ?_
                        refine g_iload C X5 d5_88 rfl rfl ?_
                        refine g_laload C X5 d5_90 e5 A (by decide) (by decide) (v := (.long s1)) rfl rfl ?_
                        refine g_lsub C X5 d5_91 rfl ?_
                        refine g_lstoreNV C X5 d5_92 (fun v__ => #[.val (.ref o), .val (.ref t), .val (.long v__), .second, .val (.int (1 : Int32)), .val (.int (3 : Int32)), .val (.int (3 : Int32)), .val (.long s2), .second]) rfl rfl ?_
                        intro v92_2 h_v92_2
                        rw [← h_v92_2] at de_s1
                        refine g_iinc C X5 d5_93 rfl #[.val (.ref o), .val (.ref t), .val (.long v92_2), .second, .val (.int (2 : Int32)), .val (.int (3 : Int32)), .val (.int (3 : Int32)), .val (.long s2), .second] rfl rfl ?_
                        refine g_goto C X5 d5_96 (by decide) rfl ?_
                        refine g_iload C X5 d5_54 rfl rfl ?_
                        refine g_aloadN C X5 d5_56 rfl rfl ?_
                        refine g_arraylength C X5 d5_57 e5 A rfl ?_
                        intro n57 h_n57
                        obtain rfl : n57 = (3 : Int32) := own_inj32 (y := (3 : Int32)) h_n57
                        refine g_iconst C X5 (1 : Int32) d5_58 rfl rfl ?_
                        refine g_isub C X5 d5_59 rfl ?_
                        refine g_icmp C X5 d5_60 (by decide) rfl rfl ?_ ?_
                        · intro h60
                          have h60 : (2 : Int) ≥ 2 := h60
                          refine g_iload C X5 d5_99 rfl rfl ?_
                          exact g_ireturn C X5 d5_101 rfl ⟨⟨(2 : Int32), rfl, by rw [show (2 : Int32).toInt = 2 by decide]; omega⟩, N0, e5⟩ (by decide) (by decide)
                        · intro h60
                          have h60 : (2 : Int) < 2 := h60
                          exact absurd h60 (by decide)
          · intro h30
            have h30 : (3 : Int) < 3 := h30
            exact absurd h30 (by decide)
  · intro h8
    have h8 : bd.toInt = (-1) := h8
    exfalso; omega
def Q_bb4 (Z : State) (o : Addr) (t : Addr) (bd : Int64) (s0 : Int64) (s1 : Int64) (s2 : Int64) (s3 : Int64) (h0 : Heap) (n0 : Nat) (v : Option Value) (h : Heap) (L : List Loc) : Prop := (∃ r : Int32, v = some (.int r) ∧ ((r.toInt = 0 ∧ ¬ (bd.toInt < s0.toInt + s1.toInt + s2.toInt + s3.toInt ∧ bd.toInt ≤ s1.toInt + s2.toInt + s3.toInt)) ∨ (r.toInt = 1 ∧ (bd.toInt < s0.toInt + s1.toInt + s2.toInt + s3.toInt ∧ bd.toInt ≤ s1.toInt + s2.toInt + s3.toInt) ∧ ¬ (bd.toInt < s1.toInt + s2.toInt + s3.toInt ∧ bd.toInt ≤ s2.toInt + s3.toInt)) ∨ (r.toInt = 2 ∧ (bd.toInt < s1.toInt + s2.toInt + s3.toInt ∧ bd.toInt ≤ s2.toInt + s3.toInt) ∧ ¬ (bd.toInt < s2.toInt + s3.toInt ∧ bd.toInt ≤ s3.toInt)) ∨ (r.toInt = 3 ∧ (bd.toInt < s2.toInt + s3.toInt ∧ bd.toInt ≤ s3.toInt)))) ∧ Fr n0 L ∧ h = h0
set_option maxRecDepth 65536 in
set_option maxHeartbeats 40000000 in
theorem bb4 (l : Launch) (Z : State) (a0 : Array Value) (hw : ∀ d ∈ tables_1, d.before a0 Z = true) (ws : List Jvm.Cond) (o : Addr) (t : Addr) (bd s0 s1 s2 s3 : Int64) (h0 : Heap) (n0 : Nat) (Z0 : n0 ≤ h0.size) (F1 : Fld Z h0 o "com/example/ballast/ballast/storage/Retention" "bytes" "J" (.long bd)) (hb : 0 ≤ bd.toInt) (A : Aw Z h0 t .long 4 (fun j => .long (([s0, s1, s2, s3] : List Int64).getD j 0))) (l0 : 0 ≤ s0.toInt) (m0 : s0.toInt < 2305843009213693952) (l1 : 0 ≤ s1.toInt) (m1 : s1.toInt < 2305843009213693952) (l2 : 0 ≤ s2.toInt) (m2 : s2.toInt < 2305843009213693952) (l3 : 0 ≤ s3.toInt) (m3 : s3.toInt < 2305843009213693952) :
    MetFree l (⟨"com/example/ballast/ballast/storage/Retention", "beyondBytes", "([J)I"⟩ : MethodName) (head1 (Jvm.Cond.code (⟨"com/example/ballast/ballast/storage/Retention", "beyondBytes", "([J)I"⟩ : MethodName) prog_339_method_6_code 9 (some .int) :: ws) ({ frames := 0, cells := 0, slots := 0, locals := 0 } : Room)) (fun aa U => aa = #[(.ref o), (.ref t)] ∧ Z.Warmed39 U.vm ∧ U.heap = h0) (fun _ _ _ _ _ => True) (fun _ U oo U' => ∃ rv Lr, oo = .returned rv ∧ Q_bb4 Z o t bd s0 s1 s2 s3 h0 n0 rv U'.heap Lr ∧ FrameEnd U oo U' Lr ({ frames := 0, cells := 0, slots := 0, locals := 0 } : Room).cells ({ frames := 0, cells := 0, slots := 0, locals := 0 } : Room).slots) := by
  refine g_enter pn_5 hw (ef_5 o t) ?_
  intro p e s m below meth c T0 C X0 e0
  have C : Cx Z a0 p s m meth c prog_339_method_6_code 9 "com/example/ballast/ballast/storage/Retention" "beyondBytes" (some .int) := C
  have N0 := Fr.nil n0
  refine g_aloadN C X0 d5_0 rfl rfl ?_
  refine g_getfield C X0 d5_1 e0 (C.t 23 rfl) Via.refl F1 rfl ?_
  intro T1 X1 e1
  refine g_ldcL C X1 d5_4 (C.t 36 rfl) rfl ?_
  refine g_lcmpif C X1 d5_7 rfl d5_8 (by decide) rfl rfl ?_ ?_
  · intro h8
    have h8 : ¬ bd.toInt = (-1) := h8
    refine g_lconst C X1 (0 : Int64) d5_13 rfl rfl ?_
    refine g_lstoreN C X1 d5_14 #[.val (.ref o), .val (.ref t), .val (.long (0 : Int64)), .second, .unset, .unset, .unset, .unset, .unset] rfl rfl ?_
    refine g_aloadN C X1 d5_15 rfl rfl ?_
    refine g_astore C X1 d5_16 #[.val (.ref o), .val (.ref t), .val (.long (0 : Int64)), .second, .val (.ref t), .unset, .unset, .unset, .unset] rfl rfl ?_
    refine g_aload C X1 d5_18 rfl rfl ?_
    refine g_arraylength C X1 d5_20 e1 A rfl ?_
    intro n20 h_n20
    obtain rfl : n20 = (4 : Int32) := own_inj32 (y := (4 : Int32)) h_n20
    refine g_istore C X1 d5_21 #[.val (.ref o), .val (.ref t), .val (.long (0 : Int64)), .second, .val (.ref t), .val (.int (4 : Int32)), .unset, .unset, .unset] rfl rfl ?_
    refine g_iconst C X1 (0 : Int32) d5_23 rfl rfl ?_
    refine g_istore C X1 d5_24 #[.val (.ref o), .val (.ref t), .val (.long (0 : Int64)), .second, .val (.ref t), .val (.int (4 : Int32)), .val (.int (0 : Int32)), .unset, .unset] rfl rfl ?_
    refine g_iload C X1 d5_26 rfl rfl ?_
    refine g_iload C X1 d5_28 rfl rfl ?_
    refine g_icmp C X1 d5_30 (by decide) rfl rfl ?_ ?_
    · intro h30
      have h30 : (0 : Int) ≥ 4 := h30
      exact absurd h30 (by decide)
    · intro h30
      have h30 : (0 : Int) < 4 := h30
      refine g_aload C X1 d5_33 rfl rfl ?_
      refine g_iload C X1 d5_35 rfl rfl ?_
      refine g_laload C X1 d5_37 e1 A (by decide) (by decide) (v := (.long s0)) rfl rfl ?_
      refine g_lstore C X1 d5_38 #[.val (.ref o), .val (.ref t), .val (.long (0 : Int64)), .second, .val (.ref t), .val (.int (4 : Int32)), .val (.int (0 : Int32)), .val (.long s0), .second] rfl rfl ?_
      refine g_lloadN C X1 d5_40 rfl rfl ?_
      refine g_lload C X1 d5_41 rfl rfl ?_
      refine g_ladd C X1 d5_43 rfl ?_
      refine g_lstoreNV C X1 d5_44 (fun v__ => #[.val (.ref o), .val (.ref t), .val (.long v__), .second, .val (.ref t), .val (.int (4 : Int32)), .val (.int (0 : Int32)), .val (.long s0), .second]) rfl rfl ?_
      intro v44 h_v44
      have q_v44 := c_ladd (0 : Int64) s0
      rw [← h_v44] at q_v44
      have r_v44 := rng64 v44
      rw [show (0 : Int64).toInt = 0 by decide] at q_v44
      have t_v44 : v44.toInt = s0.toInt := by omega
      refine g_iinc C X1 d5_45 rfl #[.val (.ref o), .val (.ref t), .val (.long v44), .second, .val (.ref t), .val (.int (4 : Int32)), .val (.int (1 : Int32)), .val (.long s0), .second] rfl rfl ?_
      refine g_goto C X1 d5_48 (by decide) rfl ?_
      refine g_iload C X1 d5_26 rfl rfl ?_
      refine g_iload C X1 d5_28 rfl rfl ?_
      refine g_icmp C X1 d5_30 (by decide) rfl rfl ?_ ?_
      · intro h30
        have h30 : (1 : Int) ≥ 4 := h30
        exact absurd h30 (by decide)
      · intro h30
        have h30 : (1 : Int) < 4 := h30
        refine g_aload C X1 d5_33 rfl rfl ?_
        refine g_iload C X1 d5_35 rfl rfl ?_
        refine g_laload C X1 d5_37 e1 A (by decide) (by decide) (v := (.long s1)) rfl rfl ?_
        refine g_lstore C X1 d5_38 #[.val (.ref o), .val (.ref t), .val (.long v44), .second, .val (.ref t), .val (.int (4 : Int32)), .val (.int (1 : Int32)), .val (.long s1), .second] rfl rfl ?_
        refine g_lloadN C X1 d5_40 rfl rfl ?_
        refine g_lload C X1 d5_41 rfl rfl ?_
        refine g_ladd C X1 d5_43 rfl ?_
        refine g_lstoreNV C X1 d5_44 (fun v__ => #[.val (.ref o), .val (.ref t), .val (.long v__), .second, .val (.ref t), .val (.int (4 : Int32)), .val (.int (1 : Int32)), .val (.long s1), .second]) rfl rfl ?_
        intro v44_2 h_v44_2
        have q_v44_2 := c_ladd v44 s1
        rw [← h_v44_2] at q_v44_2
        have r_v44_2 := rng64 v44_2
        have t_v44_2 : v44_2.toInt = s0.toInt + s1.toInt := by omega
        refine g_iinc C X1 d5_45 rfl #[.val (.ref o), .val (.ref t), .val (.long v44_2), .second, .val (.ref t), .val (.int (4 : Int32)), .val (.int (2 : Int32)), .val (.long s1), .second] rfl rfl ?_
        refine g_goto C X1 d5_48 (by decide) rfl ?_
        refine g_iload C X1 d5_26 rfl rfl ?_
        refine g_iload C X1 d5_28 rfl rfl ?_
        refine g_icmp C X1 d5_30 (by decide) rfl rfl ?_ ?_
        · intro h30
          have h30 : (2 : Int) ≥ 4 := h30
          exact absurd h30 (by decide)
        · intro h30
          have h30 : (2 : Int) < 4 := h30
          refine g_aload C X1 d5_33 rfl rfl ?_
          refine g_iload C X1 d5_35 rfl rfl ?_
          refine g_laload C X1 d5_37 e1 A (by decide) (by decide) (v := (.long s2)) rfl rfl ?_
          refine g_lstore C X1 d5_38 #[.val (.ref o), .val (.ref t), .val (.long v44_2), .second, .val (.ref t), .val (.int (4 : Int32)), .val (.int (2 : Int32)), .val (.long s2), .second] rfl rfl ?_
          refine g_lloadN C X1 d5_40 rfl rfl ?_
          refine g_lload C X1 d5_41 rfl rfl ?_
          refine g_ladd C X1 d5_43 rfl ?_
          refine g_lstoreNV C X1 d5_44 (fun v__ => #[.val (.ref o), .val (.ref t), .val (.long v__), .second, .val (.ref t), .val (.int (4 : Int32)), .val (.int (2 : Int32)), .val (.long s2), .second]) rfl rfl ?_
          intro v44_3 h_v44_3
          have q_v44_3 := c_ladd v44_2 s2
          rw [← h_v44_3] at q_v44_3
          have r_v44_3 := rng64 v44_3
          have t_v44_3 : v44_3.toInt = s0.toInt + s1.toInt + s2.toInt := by omega
          refine g_iinc C X1 d5_45 rfl #[.val (.ref o), .val (.ref t), .val (.long v44_3), .second, .val (.ref t), .val (.int (4 : Int32)), .val (.int (3 : Int32)), .val (.long s2), .second] rfl rfl ?_
          refine g_goto C X1 d5_48 (by decide) rfl ?_
          refine g_iload C X1 d5_26 rfl rfl ?_
          refine g_iload C X1 d5_28 rfl rfl ?_
          refine g_icmp C X1 d5_30 (by decide) rfl rfl ?_ ?_
          · intro h30
            have h30 : (3 : Int) ≥ 4 := h30
            exact absurd h30 (by decide)
          · intro h30
            have h30 : (3 : Int) < 4 := h30
            refine g_aload C X1 d5_33 rfl rfl ?_
            refine g_iload C X1 d5_35 rfl rfl ?_
            refine g_laload C X1 d5_37 e1 A (by decide) (by decide) (v := (.long s3)) rfl rfl ?_
            refine g_lstore C X1 d5_38 #[.val (.ref o), .val (.ref t), .val (.long v44_3), .second, .val (.ref t), .val (.int (4 : Int32)), .val (.int (3 : Int32)), .val (.long s3), .second] rfl rfl ?_
            refine g_lloadN C X1 d5_40 rfl rfl ?_
            refine g_lload C X1 d5_41 rfl rfl ?_
            refine g_ladd C X1 d5_43 rfl ?_
            refine g_lstoreNV C X1 d5_44 (fun v__ => #[.val (.ref o), .val (.ref t), .val (.long v__), .second, .val (.ref t), .val (.int (4 : Int32)), .val (.int (3 : Int32)), .val (.long s3), .second]) rfl rfl ?_
            intro v44_4 h_v44_4
            have q_v44_4 := c_ladd v44_3 s3
            rw [← h_v44_4] at q_v44_4
            have r_v44_4 := rng64 v44_4
            have t_v44_4 : v44_4.toInt = s0.toInt + s1.toInt + s2.toInt + s3.toInt := by omega
            refine g_iinc C X1 d5_45 rfl #[.val (.ref o), .val (.ref t), .val (.long v44_4), .second, .val (.ref t), .val (.int (4 : Int32)), .val (.int (4 : Int32)), .val (.long s3), .second] rfl rfl ?_
            refine g_goto C X1 d5_48 (by decide) rfl ?_
            refine g_iload C X1 d5_26 rfl rfl ?_
            refine g_iload C X1 d5_28 rfl rfl ?_
            refine g_icmp C X1 d5_30 (by decide) rfl rfl ?_ ?_
            · intro h30
              have h30 : (4 : Int) ≥ 4 := h30
              refine g_iconst C X1 (0 : Int32) d5_51 rfl rfl ?_
              refine g_istore C X1 d5_52 #[.val (.ref o), .val (.ref t), .val (.long v44_4), .second, .val (.int (0 : Int32)), .val (.int (4 : Int32)), .val (.int (4 : Int32)), .val (.long s3), .second] rfl rfl ?_
              refine g_iload C X1 d5_54 rfl rfl ?_
              refine g_aloadN C X1 d5_56 rfl rfl ?_
              refine g_arraylength C X1 d5_57 e1 A rfl ?_
              intro n57 h_n57
              obtain rfl : n57 = (4 : Int32) := own_inj32 (y := (4 : Int32)) h_n57
              refine g_iconst C X1 (1 : Int32) d5_58 rfl rfl ?_
              refine g_isub C X1 d5_59 rfl ?_
              refine g_icmp C X1 d5_60 (by decide) rfl rfl ?_ ?_
              · intro h60
                have h60 : (0 : Int) ≥ 3 := h60
                exact absurd h60 (by decide)
              · intro h60
                have h60 : (0 : Int) < 3 := h60
                refine g_lloadN C X1 d5_63 rfl rfl ?_
                refine g_aloadN C X1 d5_64 rfl rfl ?_
                refine g_getfield C X1 d5_65 e1 (C.t 23 rfl) Via.refl F1 rfl ?_
                intro T2 X2 e2
                refine g_lcmpif C X2 d5_68 rfl d5_69 (by decide) rfl rfl ?_ ?_
                · intro h69
                  have h69 : v44_4.toInt ≤ bd.toInt := h69
                  refine g_iload C X2 d5_99 rfl rfl ?_
                  exact g_ireturn C X2 d5_101 rfl ⟨⟨(0 : Int32), rfl, by rw [show (0 : Int32).toInt = 0 by decide]; omega⟩, N0, e2⟩ (by decide) (by decide)
                · intro h69
                  have h69 : v44_4.toInt > bd.toInt := h69
                  refine g_lloadN C X2 d5_72 rfl rfl ?_
                  refine g_aloadN C X2 d5_73 rfl rfl ?_
                  refine g_iload C X2 d5_74 rfl rfl ?_
                  refine g_laload C X2 d5_76 e2 A (by decide) (by decide) (v := (.long s0)) rfl rfl ?_
                  have d_s0 := c_lsub v44_4 s0
                  have dr_s0 := rng64 (v44_4 - s0)
                  have de_s0 : (v44_4 - s0).toInt = v44_4.toInt - s0.toInt := by omega
                  refine g_lsub C X2 d5_77 rfl ?_
                  refine g_aloadN C X2 d5_78 rfl rfl ?_
                  refine g_getfield C X2 d5_79 e2 (C.t 23 rfl) Via.refl F1 rfl ?_
                  intro T3 X3 e3
                  refine g_lcmpif C X3 d5_82 rfl d5_83 (by decide) rfl rfl ?_ ?_
                  · intro h83
                    have h83 : (v44_4 - s0).toInt < bd.toInt := h83
                    refine g_iload C X3 d5_99 rfl rfl ?_
                    exact g_ireturn C X3 d5_101 rfl ⟨⟨(0 : Int32), rfl, by rw [show (0 : Int32).toInt = 0 by decide]; omega⟩, N0, e3⟩ (by decide) (by decide)
                  · intro h83
                    have h83 : (v44_4 - s0).toInt ≥ bd.toInt := h83
                    refine g_lloadN C X3 d5_86 rfl rfl ?_
                    refine g_aloadN C X3 d5_87 rfl rfl ?_
                    refine g_iload C X3 d5_88 rfl rfl ?_
                    refine g_laload C X3 d5_90 e3 A (by decide) (by decide) (v := (.long s0)) rfl rfl ?_
                    refine g_lsub C X3 d5_91 rfl ?_
                    refine g_lstoreNV C X3 d5_92 (fun v__ => #[.val (.ref o), .val (.ref t), .val (.long v__), .second, .val (.int (0 : Int32)), .val (.int (4 : Int32)), .val (.int (4 : Int32)), .val (.long s3), .second]) rfl rfl ?_
                    intro v92 h_v92
                    rw [← h_v92] at de_s0
                    refine g_iinc C X3 d5_93 rfl #[.val (.ref o), .val (.ref t), .val (.long v92), .second, .val (.int (1 : Int32)), .val (.int (4 : Int32)), .val (.int (4 : Int32)), .val (.long s3), .second] rfl rfl ?_
                    refine g_goto C X3 d5_96 (by decide) rfl ?_
                    refine g_iload C X3 d5_54 rfl rfl ?_
                    refine g_aloadN C X3 d5_56 rfl rfl ?_
                    refine g_arraylength C X3 d5_57 e3 A rfl ?_
                    intro n57 h_n57
                    obtain rfl : n57 = (4 : Int32) := own_inj32 (y := (4 : Int32)) h_n57
                    refine g_iconst C X3 (1 : Int32) d5_58 rfl rfl ?_
                    refine g_isub C X3 d5_59 rfl ?_
                    refine g_icmp C X3 d5_60 (by decide) rfl rfl ?_ ?_
                    · intro h60
                      have h60 : (1 : Int) ≥ 3 := h60
                      exact absurd h60 (by decide)
                    · intro h60
                      have h60 : (1 : Int) < 3 := h60
                      refine g_lloadN C X3 d5_63 rfl rfl ?_
                      refine g_aloadN C X3 d5_64 rfl rfl ?_
                      refine g_getfield C X3 d5_65 e3 (C.t 23 rfl) Via.refl F1 rfl ?_
                      intro T4 X4 e4
                      refine g_lcmpif C X4 d5_68 rfl d5_69 (by decide) rfl rfl ?_ ?_
                      · intro h69
                        have h69 : v92.toInt ≤ bd.toInt := h69
                        refine g_iload C X4 d5_99 rfl rfl ?_
                        exact g_ireturn C X4 d5_101 rfl ⟨⟨(1 : Int32), rfl, by rw [show (1 : Int32).toInt = 1 by decide]; omega⟩, N0, e4⟩ (by decide) (by decide)
                      · intro h69
                        have h69 : v92.toInt > bd.toInt := h69
                        refine g_lloadN C X4 d5_72 rfl rfl ?_
                        refine g_aloadN C X4 d5_73 rfl rfl ?_
                        refine g_iload C X4 d5_74 rfl rfl ?_
                        refine g_laload C X4 d5_76 e4 A (by decide) (by decide) (v := (.long s1)) rfl rfl ?_
                        have d_s1 := c_lsub v92 s1
                        have dr_s1 := rng64 (v92 - s1)
                        have de_s1 : (v92 - s1).toInt = v92.toInt - s1.toInt := by omega
                        refine g_lsub C X4 d5_77 rfl ?_
                        refine g_aloadN C X4 d5_78 rfl rfl ?_
                        refine g_getfield C X4 d5_79 e4 (C.t 23 rfl) Via.refl F1 rfl ?_
                        intro T5 X5 e5
                        refine g_lcmpif C X5 d5_82 rfl d5_83 (by decide) rfl rfl ?_ ?_
                        · intro h83
                          have h83 : (v92 - s1).toInt < bd.toInt := h83
                          refine g_iload C X5 d5_99 rfl rfl ?_
                          exact g_ireturn C X5 d5_101 rfl ⟨⟨(1 : Int32), rfl, by rw [show (1 : Int32).toInt = 1 by decide]; omega⟩, N0, e5⟩ (by decide) (by decide)
                        · intro h83
                          have h83 : (v92 - s1).toInt ≥ bd.toInt := h83
                          refine g_lloadN C X5 d5_86 rfl rfl ?_
                          refine g_aloadN C X5 d5_87 rfl rfl ?_
                          refine g_iload C X5 d5_88 rfl rfl ?_
                          refine g_laload C X5 d5_90 e5 A (by decide) (by decide) (v := (.long s1)) rfl rfl ?_
                          refine g_lsub C X5 d5_91 rfl ?_
                          refine g_lstoreNV C X5 d5_92 (fun v__ => #[.val (.ref o), .val (.ref t), .val (.long v__), .second, .val (.int (1 : Int32)), .val (.int (4 : Int32)), .val (.int (4 : Int32)), .val (.long s3), .second]) rfl rfl ?_
                          intro v92_2 h_v92_2
                          rw [← h_v92_2] at de_s1
                          refine g_iinc C X5 d5_93 rfl #[.val (.ref o), .val (.ref t), .val (.long v92_2), .second, .val (.int (2 : Int32)), .val (.int (4 : Int32)), .val (.int (4 : Int32)), .val (.long s3), .second] rfl rfl ?_
                          refine g_goto C X5 d5_96 (by decide) rfl ?_
                          refine g_iload C X5 d5_54 rfl rfl ?_
                          refine g_aloadN C X5 d5_56 rfl rfl ?_
                          refine g_arraylength C X5 d5_57 e5 A rfl ?_
                          intro n57 h_n57
                          obtain rfl : n57 = (4 : Int32) := own_inj32 (y := (4 : Int32)) h_n57
                          refine g_iconst C X5 (1 : Int32) d5_58 rfl rfl ?_
                          refine g_isub C X5 d5_59 rfl ?_
                          refine g_icmp C X5 d5_60 (by decide) rfl rfl ?_ ?_
                          · intro h60
                            have h60 : (2 : Int) ≥ 3 := h60
                            exact absurd h60 (by decide)
                          · intro h60
                            have h60 : (2 : Int) < 3 := h60
                            refine g_lloadN C X5 d5_63 rfl rfl ?_
                            refine g_aloadN C X5 d5_64 rfl rfl ?_
                            refine g_getfield C X5 d5_65 e5 (C.t 23 rfl) Via.refl F1 rfl ?_
                            intro T6 X6 e6
                            refine g_lcmpif C X6 d5_68 rfl d5_69 (by decide) rfl rfl ?_ ?_
                            · intro h69
                              have h69 : v92_2.toInt ≤ bd.toInt := h69
                              refine g_iload C X6 d5_99 rfl rfl ?_
                              exact g_ireturn C X6 d5_101 rfl ⟨⟨(2 : Int32), rfl, by rw [show (2 : Int32).toInt = 2 by decide]; omega⟩, N0, e6⟩ (by decide) (by decide)
                            · intro h69
                              have h69 : v92_2.toInt > bd.toInt := h69
                              refine g_lloadN C X6 d5_72 rfl rfl ?_
                              refine g_aloadN C X6 d5_73 rfl rfl ?_
                              refine g_iload C X6 d5_74 rfl rfl ?_
                              refine g_laload C X6 d5_76 e6 A (by decide) (by decide) (v := (.long s2)) rfl rfl ?_
                              have d_s2 := c_lsub v92_2 s2
                              have dr_s2 := rng64 (v92_2 - s2)
                              have de_s2 : (v92_2 - s2).toInt = v92_2.toInt - s2.toInt := by omega
                              refine g_lsub C X6 d5_77 rfl ?_
                              refine g_aloadN C X6 d5_78 rfl rfl ?_
                              refine g_getfield C X6 d5_79 e6 (C.t 23 rfl) Via.refl F1 rfl ?_
                              intro T7 X7 e7
                              refine g_lcmpif C X7 d5_82 rfl d5_83 (by decide) rfl rfl ?_ ?_
                              · intro h83
                                have h83 : (v92_2 - s2).toInt < bd.toInt := h83
                                refine g_iload C X7 d5_99 rfl rfl ?_
                                exact g_ireturn C X7 d5_101 rfl ⟨⟨(2 : Int32), rfl, by rw [show (2 : Int32).toInt = 2 by decide]; omega⟩, N0, e7⟩ (by decide) (by decide)
                              · intro h83
                                have h83 : (v92_2 - s2).toInt ≥ bd.toInt := h83
                                refine g_lloadN C X7 d5_86 rfl rfl ?_
                                refine g_aloadN C X7 d5_87 rfl rfl ?_
                                refine g_iload C X7 d5_88 rfl rfl ?_
                                refine g_laload C X7 d5_90 e7 A (by decide) (by decide) (v := (.long s2)) rfl rfl ?_
                                refine g_lsub C X7 d5_91 rfl ?_
                                refine g_lstoreNV C X7 d5_92 (fun v__ => #[.val (.ref o), .val (.ref t), .val (.long v__), .second, .val (.int (2 : Int32)), .val (.int (4 : Int32)), .val (.int (4 : Int32)), .val (.long s3), .second]) rfl rfl ?_
                                intro v92_3 h_v92_3
                                rw [← h_v92_3] at de_s2
                                refine g_iinc C X7 d5_93 rfl #[.val (.ref o), .val (.ref t), .val (.long v92_3), .second, .val (.int (3 : Int32)), .val (.int (4 : Int32)), .val (.int (4 : Int32)), .val (.long s3), .second] rfl rfl ?_
                                refine g_goto C X7 d5_96 (by decide) rfl ?_
                                refine g_iload C X7 d5_54 rfl rfl ?_
                                refine g_aloadN C X7 d5_56 rfl rfl ?_
                                refine g_arraylength C X7 d5_57 e7 A rfl ?_
                                intro n57 h_n57
                                obtain rfl : n57 = (4 : Int32) := own_inj32 (y := (4 : Int32)) h_n57
                                refine g_iconst C X7 (1 : Int32) d5_58 rfl rfl ?_
                                refine g_isub C X7 d5_59 rfl ?_
                                refine g_icmp C X7 d5_60 (by decide) rfl rfl ?_ ?_
                                · intro h60
                                  have h60 : (3 : Int) ≥ 3 := h60
                                  refine g_iload C X7 d5_99 rfl rfl ?_
                                  exact g_ireturn C X7 d5_101 rfl ⟨⟨(3 : Int32), rfl, by rw [show (3 : Int32).toInt = 3 by decide]; omega⟩, N0, e7⟩ (by decide) (by decide)
                                · intro h60
                                  have h60 : (3 : Int) < 3 := h60
                                  exact absurd h60 (by decide)
            · intro h30
              have h30 : (4 : Int) < 4 := h30
              exact absurd h30 (by decide)
  · intro h8
    have h8 : bd.toInt = (-1) := h8
    exfalso; omega
set_option maxRecDepth 65536 in
set_option maxHeartbeats 40000000 in
theorem seg62_1_0 {p : Program} {l : Launch} {e : Env} {s : State} {m : MethodId} {args : Array Value} {below : List Frame} {meth : Method} {c : Code} {T0 : State} {locs : List Loc} {Z : State} {a0 : Array Value} {h0 : Heap} {n0 : Nat} {x0 : Int32} {x1 x2 x3 x4 x5 a0_ a1_ a2_ a3_ : Int64}
    (C : Cx Z a0 p s m meth c code maxLocals "com/example/ballast/ballast/storage/RetentionBeyondBytesPinLaw" "law" ret) (X0 : Stand p l e room_1 s m args below meth c T0 locs 0 0) (e0 : T0.heap = h0) (N0 : Fr n0 locs) (Z0 : n0 ≤ h0.size) (l0 : 0 ≤ a0_.toInt) (m0 : a0_.toInt < 2305843009213693952) (l1 : 0 ≤ a1_.toInt) (m1 : a1_.toInt < 2305843009213693952) (l2 : 0 ≤ a2_.toInt) (m2 : a2_.toInt < 2305843009213693952) (l3 : 0 ≤ a3_.toInt) (m3 : a3_.toInt < 2305843009213693952) :
    Go p e below s m (LQ n0) room_1.cells room_1.slots T0 62 #[.val (.int x0), .val (.long x1), .second, .val (.long x2), .second, .val (.long x3), .second, .val (.long x4), .second, .val (.long x5), .second, .val (.int (0 : Int32)), .val (.int (1 : Int32)), .val (.long (-1 : Int64)), .second, .val (.long a0_), .second, .val (.long a1_), .second, .val (.long a2_), .second, .val (.long a3_), .second, .unset, .unset, .unset, .unset, .unset, .unset, .unset, .unset, .unset, .unset, .unset, .unset, .unset, .unset, .unset, .unset, .unset, .unset, .unset, .unset, .unset] [] := by
  refine g_iload C X0 at_62 rfl rfl ?_
  refine g_lload C X0 at_64 rfl rfl ?_
  refine g_lload C X0 at_66 rfl rfl ?_
  refine g_lload C X0 at_68 rfl rfl ?_
  refine g_lload C X0 at_70 rfl rfl ?_
  refine g_callS (argsL := [(.int (0 : Int32)), (.long a0_), (.long a1_), (.long a2_), (.long a3_)]) (rest := []) (W := 0) C X0 at_72 e0 (C.t 1 rfl) (C.t 2 rfl) (C.t 3 rfl) (C.t 4 rfl) (mk0 l Z a0 C.w [] (0 : Int32) a0_ a1_ a2_ a3_ rfl h0 n0 Z0) (by decide) pd_1 rfl rfl rfl (Nat.le_of_eq rfl) (by decide) (by decide) (by decide) (by decide) rfl ?_
  intro T1 v1_ L1 X1 hQ1
  obtain ⟨⟨ar, rfl, gr, hr0, AR⟩, N1q, K1⟩ := hQ1
  have N1 := Fr.app N0 N1q
  have Z1 : n0 ≤ T1.heap.size := Nat.le_trans Z0 K1.1
  refine g_astore C X1 at_75 #[.val (.int x0), .val (.long x1), .second, .val (.long x2), .second, .val (.long x3), .second, .val (.long x4), .second, .val (.long x5), .second, .val (.int (0 : Int32)), .val (.int (1 : Int32)), .val (.long (-1 : Int64)), .second, .val (.long a0_), .second, .val (.long a1_), .second, .val (.long a2_), .second, .val (.long a3_), .second, .val (.ref ar), .unset, .unset, .unset, .unset, .unset, .unset, .unset, .unset, .unset, .unset, .unset, .unset, .unset, .unset, .unset, .unset, .unset, .unset, .unset, .unset] rfl rfl ?_
  refine g_new C X1 at_77 rfl (C.t 6 rfl) (C.t 7 rfl) (C.t 8 rfl) (by decide) (by decide) rfl ?_
  intro T2 h2_ X2 e2 E2 lt2 ad2 ha2 EX2 D2
  have Z2 : n0 ≤ h2_.size := Nat.le_trans Z1 E2.1
  have ne_ar_ad2 : ar ≠ ad2 := Nat.ne_of_lt (Nat.lt_of_lt_of_eq AR.lt ha2.symm)
  have A2_ar := AR.ext E2
  have g_ad2 : n0 ≤ ad2 := by omega
  refine g_dup C X2 at_80 rfl rfl ?_
  refine g_ldcL C X2 at_81 (C.t 0 rfl) rfl ?_
  refine g_lload C X2 at_84 rfl rfl ?_
  refine g_lconst C X2 (1 : Int64) at_86 rfl rfl ?_
  refine g_ldcL C X2 at_87 (C.t 9 rfl) rfl ?_
  refine g_ldcL C X2 at_90 (C.t 9 rfl) rfl ?_
  refine g_callC (a := ad2) (argsL := [(.long (-1 : Int64)), (.long (-1 : Int64)), (.long (1 : Int64)), (.long (9223372036854775807 : Int64)), (.long (9223372036854775807 : Int64))]) (rest := [(.ref ad2)]) (W := 1) C X2 at_93 e2 rfl (C.t 10 rfl) (C.t 11 rfl) (C.t 8 rfl) (C.t 12 rfl) (rm2 l Z a0 C.w [] ad2 (-1 : Int64) (-1 : Int64) (1 : Int64) (9223372036854775807 : Int64) (9223372036854775807 : Int64) h2_ n0 Z2 EX2 D2 g_ad2 ) (by decide) pd_2 rfl rfl rfl (Nat.le_of_eq rfl) (by decide) (by decide) (by decide) (by decide) rfl ?_
  intro T3 v3_ L3 X3 hQ3
  obtain ⟨rfl, N3q, K3, EY3, Fc3_millis, Fc3_bytes, Fc3_checkIntervalMillis, Fc3_rollMillis, Fc3_aheadMillis⟩ := hQ3
  have N3 := Fr.app N1 N3q
  have Z3 : n0 ≤ T3.heap.size := Nat.le_trans Z2 K3.1
  have A3_ar := A2_ar.keep K3 (ninS ne_ar_ad2 nin0)
  refine g_astore C X3 at_96 #[.val (.int x0), .val (.long x1), .second, .val (.long x2), .second, .val (.long x3), .second, .val (.long x4), .second, .val (.long x5), .second, .val (.int (0 : Int32)), .val (.int (1 : Int32)), .val (.long (-1 : Int64)), .second, .val (.long a0_), .second, .val (.long a1_), .second, .val (.long a2_), .second, .val (.long a3_), .second, .val (.ref ar), .val (.ref ad2), .unset, .unset, .unset, .unset, .unset, .unset, .unset, .unset, .unset, .unset, .unset, .unset, .unset, .unset, .unset, .unset, .unset, .unset, .unset] rfl rfl ?_
  refine g_aload C X3 at_98 rfl rfl ?_
  refine g_aload C X3 at_100 rfl rfl ?_
  refine g_callV (a := ad2) (argsL := [(.ref ar)]) (rest := []) (W := 0) C X3 at_102 rfl EY3 (C.t 32 rfl) (C.t 34 rfl) (C.t 31 rfl) (C.t 33 rfl) (C.t 8 rfl) (C.t 35 rfl) (bbU l Z a0 C.w [] ad2 ar (-1 : Int64) T3.heap n0 Z3 Fc3_bytes (by decide)) (by decide) pd_5 rfl rfl rfl (Nat.le_of_eq rfl) (by decide) (by decide) (by decide) (by decide) rfl ?_
  intro T4 v4_ L4 X4 hQ4
  obtain ⟨⟨r, rfl, hr⟩, N4q, hh4⟩ := hQ4
  have N4 := Fr.app N3 N4q
  refine g_istore C X4 at_105 #[.val (.int x0), .val (.long x1), .second, .val (.long x2), .second, .val (.long x3), .second, .val (.long x4), .second, .val (.long x5), .second, .val (.int (0 : Int32)), .val (.int (1 : Int32)), .val (.long (-1 : Int64)), .second, .val (.long a0_), .second, .val (.long a1_), .second, .val (.long a2_), .second, .val (.long a3_), .second, .val (.ref ar), .val (.ref ad2), .val (.int r), .unset, .unset, .unset, .unset, .unset, .unset, .unset, .unset, .unset, .unset, .unset, .unset, .unset, .unset, .unset, .unset, .unset, .unset] rfl rfl ?_
  refine g_iload C X4 at_107 rfl rfl ?_
  refine g_if C X4 at_109 (by decide) rfl rfl ?_ ?_
  · intro h109
    have h109 : (1 : Int) = 0 := h109
    exact absurd h109 (by decide)
  · intro h109
    have h109 : ¬ (1 : Int) = 0 := h109
    refine g_iconst C X4 (0 : Int32) at_112 rfl rfl ?_
    refine g_istore C X4 at_113 #[.val (.int x0), .val (.long x1), .second, .val (.long x2), .second, .val (.long x3), .second, .val (.long x4), .second, .val (.long x5), .second, .val (.int (0 : Int32)), .val (.int (1 : Int32)), .val (.long (-1 : Int64)), .second, .val (.long a0_), .second, .val (.long a1_), .second, .val (.long a2_), .second, .val (.long a3_), .second, .val (.ref ar), .val (.ref ad2), .val (.int r), .val (.int (0 : Int32)), .unset, .unset, .unset, .unset, .unset, .unset, .unset, .unset, .unset, .unset, .unset, .unset, .unset, .unset, .unset, .unset, .unset] rfl rfl ?_
    refine g_goto C X4 at_115 (by decide) rfl ?_
    refine g_iload C X4 at_289 rfl rfl ?_
    refine g_iload C X4 at_291 rfl rfl ?_
    refine g_icmp C X4 at_293 (by decide) rfl rfl ?_ ?_
    · intro h293
      have h293 : ¬ r.toInt = 0 := h293
      exfalso; omega
    · intro h293
      have h293 : r.toInt = 0 := h293
      refine g_iconst C X4 (1 : Int32) at_296 rfl rfl ?_
      refine g_goto C X4 at_297 (by decide) rfl ?_
      exact g_ireturnN C X4 at_301 rfl (Or.inl rfl) ⟨rfl, N4⟩ (by decide) (by decide)
set_option maxRecDepth 65536 in
set_option maxHeartbeats 40000000 in
theorem seg62_1_1 {p : Program} {l : Launch} {e : Env} {s : State} {m : MethodId} {args : Array Value} {below : List Frame} {meth : Method} {c : Code} {T0 : State} {locs : List Loc} {Z : State} {a0 : Array Value} {h0 : Heap} {n0 : Nat} {x0 : Int32} {x1 x2 x3 x4 x5 a0_ a1_ a2_ a3_ : Int64}
    (C : Cx Z a0 p s m meth c code maxLocals "com/example/ballast/ballast/storage/RetentionBeyondBytesPinLaw" "law" ret) (X0 : Stand p l e room_1 s m args below meth c T0 locs 0 0) (e0 : T0.heap = h0) (N0 : Fr n0 locs) (Z0 : n0 ≤ h0.size) (l0 : 0 ≤ a0_.toInt) (m0 : a0_.toInt < 2305843009213693952) (l1 : 0 ≤ a1_.toInt) (m1 : a1_.toInt < 2305843009213693952) (l2 : 0 ≤ a2_.toInt) (m2 : a2_.toInt < 2305843009213693952) (l3 : 0 ≤ a3_.toInt) (m3 : a3_.toInt < 2305843009213693952) :
    Go p e below s m (LQ n0) room_1.cells room_1.slots T0 62 #[.val (.int x0), .val (.long x1), .second, .val (.long x2), .second, .val (.long x3), .second, .val (.long x4), .second, .val (.long x5), .second, .val (.int (1 : Int32)), .val (.int (1 : Int32)), .val (.long (-1 : Int64)), .second, .val (.long a0_), .second, .val (.long a1_), .second, .val (.long a2_), .second, .val (.long a3_), .second, .unset, .unset, .unset, .unset, .unset, .unset, .unset, .unset, .unset, .unset, .unset, .unset, .unset, .unset, .unset, .unset, .unset, .unset, .unset, .unset, .unset] [] := by
  refine g_iload C X0 at_62 rfl rfl ?_
  refine g_lload C X0 at_64 rfl rfl ?_
  refine g_lload C X0 at_66 rfl rfl ?_
  refine g_lload C X0 at_68 rfl rfl ?_
  refine g_lload C X0 at_70 rfl rfl ?_
  refine g_callS (argsL := [(.int (1 : Int32)), (.long a0_), (.long a1_), (.long a2_), (.long a3_)]) (rest := []) (W := 0) C X0 at_72 e0 (C.t 1 rfl) (C.t 2 rfl) (C.t 3 rfl) (C.t 4 rfl) (mk1 l Z a0 C.w [] (1 : Int32) a0_ a1_ a2_ a3_ rfl h0 n0 Z0) (by decide) pd_1 rfl rfl rfl (Nat.le_of_eq rfl) (by decide) (by decide) (by decide) (by decide) rfl ?_
  intro T1 v1_ L1 X1 hQ1
  obtain ⟨⟨ar, rfl, gr, hr0, AR⟩, N1q, K1⟩ := hQ1
  have N1 := Fr.app N0 N1q
  have Z1 : n0 ≤ T1.heap.size := Nat.le_trans Z0 K1.1
  refine g_astore C X1 at_75 #[.val (.int x0), .val (.long x1), .second, .val (.long x2), .second, .val (.long x3), .second, .val (.long x4), .second, .val (.long x5), .second, .val (.int (1 : Int32)), .val (.int (1 : Int32)), .val (.long (-1 : Int64)), .second, .val (.long a0_), .second, .val (.long a1_), .second, .val (.long a2_), .second, .val (.long a3_), .second, .val (.ref ar), .unset, .unset, .unset, .unset, .unset, .unset, .unset, .unset, .unset, .unset, .unset, .unset, .unset, .unset, .unset, .unset, .unset, .unset, .unset, .unset] rfl rfl ?_
  refine g_new C X1 at_77 rfl (C.t 6 rfl) (C.t 7 rfl) (C.t 8 rfl) (by decide) (by decide) rfl ?_
  intro T2 h2_ X2 e2 E2 lt2 ad2 ha2 EX2 D2
  have Z2 : n0 ≤ h2_.size := Nat.le_trans Z1 E2.1
  have ne_ar_ad2 : ar ≠ ad2 := Nat.ne_of_lt (Nat.lt_of_lt_of_eq AR.lt ha2.symm)
  have A2_ar := AR.ext E2
  have g_ad2 : n0 ≤ ad2 := by omega
  refine g_dup C X2 at_80 rfl rfl ?_
  refine g_ldcL C X2 at_81 (C.t 0 rfl) rfl ?_
  refine g_lload C X2 at_84 rfl rfl ?_
  refine g_lconst C X2 (1 : Int64) at_86 rfl rfl ?_
  refine g_ldcL C X2 at_87 (C.t 9 rfl) rfl ?_
  refine g_ldcL C X2 at_90 (C.t 9 rfl) rfl ?_
  refine g_callC (a := ad2) (argsL := [(.long (-1 : Int64)), (.long (-1 : Int64)), (.long (1 : Int64)), (.long (9223372036854775807 : Int64)), (.long (9223372036854775807 : Int64))]) (rest := [(.ref ad2)]) (W := 1) C X2 at_93 e2 rfl (C.t 10 rfl) (C.t 11 rfl) (C.t 8 rfl) (C.t 12 rfl) (rm2 l Z a0 C.w [] ad2 (-1 : Int64) (-1 : Int64) (1 : Int64) (9223372036854775807 : Int64) (9223372036854775807 : Int64) h2_ n0 Z2 EX2 D2 g_ad2 ) (by decide) pd_2 rfl rfl rfl (Nat.le_of_eq rfl) (by decide) (by decide) (by decide) (by decide) rfl ?_
  intro T3 v3_ L3 X3 hQ3
  obtain ⟨rfl, N3q, K3, EY3, Fc3_millis, Fc3_bytes, Fc3_checkIntervalMillis, Fc3_rollMillis, Fc3_aheadMillis⟩ := hQ3
  have N3 := Fr.app N1 N3q
  have Z3 : n0 ≤ T3.heap.size := Nat.le_trans Z2 K3.1
  have A3_ar := A2_ar.keep K3 (ninS ne_ar_ad2 nin0)
  refine g_astore C X3 at_96 #[.val (.int x0), .val (.long x1), .second, .val (.long x2), .second, .val (.long x3), .second, .val (.long x4), .second, .val (.long x5), .second, .val (.int (1 : Int32)), .val (.int (1 : Int32)), .val (.long (-1 : Int64)), .second, .val (.long a0_), .second, .val (.long a1_), .second, .val (.long a2_), .second, .val (.long a3_), .second, .val (.ref ar), .val (.ref ad2), .unset, .unset, .unset, .unset, .unset, .unset, .unset, .unset, .unset, .unset, .unset, .unset, .unset, .unset, .unset, .unset, .unset, .unset, .unset] rfl rfl ?_
  refine g_aload C X3 at_98 rfl rfl ?_
  refine g_aload C X3 at_100 rfl rfl ?_
  refine g_callV (a := ad2) (argsL := [(.ref ar)]) (rest := []) (W := 0) C X3 at_102 rfl EY3 (C.t 32 rfl) (C.t 34 rfl) (C.t 31 rfl) (C.t 33 rfl) (C.t 8 rfl) (C.t 35 rfl) (bbU l Z a0 C.w [] ad2 ar (-1 : Int64) T3.heap n0 Z3 Fc3_bytes (by decide)) (by decide) pd_5 rfl rfl rfl (Nat.le_of_eq rfl) (by decide) (by decide) (by decide) (by decide) rfl ?_
  intro T4 v4_ L4 X4 hQ4
  obtain ⟨⟨r, rfl, hr⟩, N4q, hh4⟩ := hQ4
  have N4 := Fr.app N3 N4q
  refine g_istore C X4 at_105 #[.val (.int x0), .val (.long x1), .second, .val (.long x2), .second, .val (.long x3), .second, .val (.long x4), .second, .val (.long x5), .second, .val (.int (1 : Int32)), .val (.int (1 : Int32)), .val (.long (-1 : Int64)), .second, .val (.long a0_), .second, .val (.long a1_), .second, .val (.long a2_), .second, .val (.long a3_), .second, .val (.ref ar), .val (.ref ad2), .val (.int r), .unset, .unset, .unset, .unset, .unset, .unset, .unset, .unset, .unset, .unset, .unset, .unset, .unset, .unset, .unset, .unset, .unset, .unset] rfl rfl ?_
  refine g_iload C X4 at_107 rfl rfl ?_
  refine g_if C X4 at_109 (by decide) rfl rfl ?_ ?_
  · intro h109
    have h109 : (1 : Int) = 0 := h109
    exact absurd h109 (by decide)
  · intro h109
    have h109 : ¬ (1 : Int) = 0 := h109
    refine g_iconst C X4 (0 : Int32) at_112 rfl rfl ?_
    refine g_istore C X4 at_113 #[.val (.int x0), .val (.long x1), .second, .val (.long x2), .second, .val (.long x3), .second, .val (.long x4), .second, .val (.long x5), .second, .val (.int (1 : Int32)), .val (.int (1 : Int32)), .val (.long (-1 : Int64)), .second, .val (.long a0_), .second, .val (.long a1_), .second, .val (.long a2_), .second, .val (.long a3_), .second, .val (.ref ar), .val (.ref ad2), .val (.int r), .val (.int (0 : Int32)), .unset, .unset, .unset, .unset, .unset, .unset, .unset, .unset, .unset, .unset, .unset, .unset, .unset, .unset, .unset, .unset, .unset] rfl rfl ?_
    refine g_goto C X4 at_115 (by decide) rfl ?_
    refine g_iload C X4 at_289 rfl rfl ?_
    refine g_iload C X4 at_291 rfl rfl ?_
    refine g_icmp C X4 at_293 (by decide) rfl rfl ?_ ?_
    · intro h293
      have h293 : ¬ r.toInt = 0 := h293
      exfalso; omega
    · intro h293
      have h293 : r.toInt = 0 := h293
      refine g_iconst C X4 (1 : Int32) at_296 rfl rfl ?_
      refine g_goto C X4 at_297 (by decide) rfl ?_
      exact g_ireturnN C X4 at_301 rfl (Or.inl rfl) ⟨rfl, N4⟩ (by decide) (by decide)
set_option maxRecDepth 65536 in
set_option maxHeartbeats 40000000 in
theorem seg62_1_2 {p : Program} {l : Launch} {e : Env} {s : State} {m : MethodId} {args : Array Value} {below : List Frame} {meth : Method} {c : Code} {T0 : State} {locs : List Loc} {Z : State} {a0 : Array Value} {h0 : Heap} {n0 : Nat} {x0 : Int32} {x1 x2 x3 x4 x5 a0_ a1_ a2_ a3_ : Int64}
    (C : Cx Z a0 p s m meth c code maxLocals "com/example/ballast/ballast/storage/RetentionBeyondBytesPinLaw" "law" ret) (X0 : Stand p l e room_1 s m args below meth c T0 locs 0 0) (e0 : T0.heap = h0) (N0 : Fr n0 locs) (Z0 : n0 ≤ h0.size) (l0 : 0 ≤ a0_.toInt) (m0 : a0_.toInt < 2305843009213693952) (l1 : 0 ≤ a1_.toInt) (m1 : a1_.toInt < 2305843009213693952) (l2 : 0 ≤ a2_.toInt) (m2 : a2_.toInt < 2305843009213693952) (l3 : 0 ≤ a3_.toInt) (m3 : a3_.toInt < 2305843009213693952) :
    Go p e below s m (LQ n0) room_1.cells room_1.slots T0 62 #[.val (.int x0), .val (.long x1), .second, .val (.long x2), .second, .val (.long x3), .second, .val (.long x4), .second, .val (.long x5), .second, .val (.int (2 : Int32)), .val (.int (1 : Int32)), .val (.long (-1 : Int64)), .second, .val (.long a0_), .second, .val (.long a1_), .second, .val (.long a2_), .second, .val (.long a3_), .second, .unset, .unset, .unset, .unset, .unset, .unset, .unset, .unset, .unset, .unset, .unset, .unset, .unset, .unset, .unset, .unset, .unset, .unset, .unset, .unset, .unset] [] := by
  refine g_iload C X0 at_62 rfl rfl ?_
  refine g_lload C X0 at_64 rfl rfl ?_
  refine g_lload C X0 at_66 rfl rfl ?_
  refine g_lload C X0 at_68 rfl rfl ?_
  refine g_lload C X0 at_70 rfl rfl ?_
  refine g_callS (argsL := [(.int (2 : Int32)), (.long a0_), (.long a1_), (.long a2_), (.long a3_)]) (rest := []) (W := 0) C X0 at_72 e0 (C.t 1 rfl) (C.t 2 rfl) (C.t 3 rfl) (C.t 4 rfl) (mk2 l Z a0 C.w [] (2 : Int32) a0_ a1_ a2_ a3_ rfl h0 n0 Z0) (by decide) pd_1 rfl rfl rfl (Nat.le_of_eq rfl) (by decide) (by decide) (by decide) (by decide) rfl ?_
  intro T1 v1_ L1 X1 hQ1
  obtain ⟨⟨ar, rfl, gr, hr0, AR⟩, N1q, K1⟩ := hQ1
  have N1 := Fr.app N0 N1q
  have Z1 : n0 ≤ T1.heap.size := Nat.le_trans Z0 K1.1
  refine g_astore C X1 at_75 #[.val (.int x0), .val (.long x1), .second, .val (.long x2), .second, .val (.long x3), .second, .val (.long x4), .second, .val (.long x5), .second, .val (.int (2 : Int32)), .val (.int (1 : Int32)), .val (.long (-1 : Int64)), .second, .val (.long a0_), .second, .val (.long a1_), .second, .val (.long a2_), .second, .val (.long a3_), .second, .val (.ref ar), .unset, .unset, .unset, .unset, .unset, .unset, .unset, .unset, .unset, .unset, .unset, .unset, .unset, .unset, .unset, .unset, .unset, .unset, .unset, .unset] rfl rfl ?_
  refine g_new C X1 at_77 rfl (C.t 6 rfl) (C.t 7 rfl) (C.t 8 rfl) (by decide) (by decide) rfl ?_
  intro T2 h2_ X2 e2 E2 lt2 ad2 ha2 EX2 D2
  have Z2 : n0 ≤ h2_.size := Nat.le_trans Z1 E2.1
  have ne_ar_ad2 : ar ≠ ad2 := Nat.ne_of_lt (Nat.lt_of_lt_of_eq AR.lt ha2.symm)
  have A2_ar := AR.ext E2
  have g_ad2 : n0 ≤ ad2 := by omega
  refine g_dup C X2 at_80 rfl rfl ?_
  refine g_ldcL C X2 at_81 (C.t 0 rfl) rfl ?_
  refine g_lload C X2 at_84 rfl rfl ?_
  refine g_lconst C X2 (1 : Int64) at_86 rfl rfl ?_
  refine g_ldcL C X2 at_87 (C.t 9 rfl) rfl ?_
  refine g_ldcL C X2 at_90 (C.t 9 rfl) rfl ?_
  refine g_callC (a := ad2) (argsL := [(.long (-1 : Int64)), (.long (-1 : Int64)), (.long (1 : Int64)), (.long (9223372036854775807 : Int64)), (.long (9223372036854775807 : Int64))]) (rest := [(.ref ad2)]) (W := 1) C X2 at_93 e2 rfl (C.t 10 rfl) (C.t 11 rfl) (C.t 8 rfl) (C.t 12 rfl) (rm2 l Z a0 C.w [] ad2 (-1 : Int64) (-1 : Int64) (1 : Int64) (9223372036854775807 : Int64) (9223372036854775807 : Int64) h2_ n0 Z2 EX2 D2 g_ad2 ) (by decide) pd_2 rfl rfl rfl (Nat.le_of_eq rfl) (by decide) (by decide) (by decide) (by decide) rfl ?_
  intro T3 v3_ L3 X3 hQ3
  obtain ⟨rfl, N3q, K3, EY3, Fc3_millis, Fc3_bytes, Fc3_checkIntervalMillis, Fc3_rollMillis, Fc3_aheadMillis⟩ := hQ3
  have N3 := Fr.app N1 N3q
  have Z3 : n0 ≤ T3.heap.size := Nat.le_trans Z2 K3.1
  have A3_ar := A2_ar.keep K3 (ninS ne_ar_ad2 nin0)
  refine g_astore C X3 at_96 #[.val (.int x0), .val (.long x1), .second, .val (.long x2), .second, .val (.long x3), .second, .val (.long x4), .second, .val (.long x5), .second, .val (.int (2 : Int32)), .val (.int (1 : Int32)), .val (.long (-1 : Int64)), .second, .val (.long a0_), .second, .val (.long a1_), .second, .val (.long a2_), .second, .val (.long a3_), .second, .val (.ref ar), .val (.ref ad2), .unset, .unset, .unset, .unset, .unset, .unset, .unset, .unset, .unset, .unset, .unset, .unset, .unset, .unset, .unset, .unset, .unset, .unset, .unset] rfl rfl ?_
  refine g_aload C X3 at_98 rfl rfl ?_
  refine g_aload C X3 at_100 rfl rfl ?_
  refine g_callV (a := ad2) (argsL := [(.ref ar)]) (rest := []) (W := 0) C X3 at_102 rfl EY3 (C.t 32 rfl) (C.t 34 rfl) (C.t 31 rfl) (C.t 33 rfl) (C.t 8 rfl) (C.t 35 rfl) (bbU l Z a0 C.w [] ad2 ar (-1 : Int64) T3.heap n0 Z3 Fc3_bytes (by decide)) (by decide) pd_5 rfl rfl rfl (Nat.le_of_eq rfl) (by decide) (by decide) (by decide) (by decide) rfl ?_
  intro T4 v4_ L4 X4 hQ4
  obtain ⟨⟨r, rfl, hr⟩, N4q, hh4⟩ := hQ4
  have N4 := Fr.app N3 N4q
  refine g_istore C X4 at_105 #[.val (.int x0), .val (.long x1), .second, .val (.long x2), .second, .val (.long x3), .second, .val (.long x4), .second, .val (.long x5), .second, .val (.int (2 : Int32)), .val (.int (1 : Int32)), .val (.long (-1 : Int64)), .second, .val (.long a0_), .second, .val (.long a1_), .second, .val (.long a2_), .second, .val (.long a3_), .second, .val (.ref ar), .val (.ref ad2), .val (.int r), .unset, .unset, .unset, .unset, .unset, .unset, .unset, .unset, .unset, .unset, .unset, .unset, .unset, .unset, .unset, .unset, .unset, .unset] rfl rfl ?_
  refine g_iload C X4 at_107 rfl rfl ?_
  refine g_if C X4 at_109 (by decide) rfl rfl ?_ ?_
  · intro h109
    have h109 : (1 : Int) = 0 := h109
    exact absurd h109 (by decide)
  · intro h109
    have h109 : ¬ (1 : Int) = 0 := h109
    refine g_iconst C X4 (0 : Int32) at_112 rfl rfl ?_
    refine g_istore C X4 at_113 #[.val (.int x0), .val (.long x1), .second, .val (.long x2), .second, .val (.long x3), .second, .val (.long x4), .second, .val (.long x5), .second, .val (.int (2 : Int32)), .val (.int (1 : Int32)), .val (.long (-1 : Int64)), .second, .val (.long a0_), .second, .val (.long a1_), .second, .val (.long a2_), .second, .val (.long a3_), .second, .val (.ref ar), .val (.ref ad2), .val (.int r), .val (.int (0 : Int32)), .unset, .unset, .unset, .unset, .unset, .unset, .unset, .unset, .unset, .unset, .unset, .unset, .unset, .unset, .unset, .unset, .unset] rfl rfl ?_
    refine g_goto C X4 at_115 (by decide) rfl ?_
    refine g_iload C X4 at_289 rfl rfl ?_
    refine g_iload C X4 at_291 rfl rfl ?_
    refine g_icmp C X4 at_293 (by decide) rfl rfl ?_ ?_
    · intro h293
      have h293 : ¬ r.toInt = 0 := h293
      exfalso; omega
    · intro h293
      have h293 : r.toInt = 0 := h293
      refine g_iconst C X4 (1 : Int32) at_296 rfl rfl ?_
      refine g_goto C X4 at_297 (by decide) rfl ?_
      exact g_ireturnN C X4 at_301 rfl (Or.inl rfl) ⟨rfl, N4⟩ (by decide) (by decide)
set_option maxRecDepth 65536 in
set_option maxHeartbeats 40000000 in
theorem seg62_1_3 {p : Program} {l : Launch} {e : Env} {s : State} {m : MethodId} {args : Array Value} {below : List Frame} {meth : Method} {c : Code} {T0 : State} {locs : List Loc} {Z : State} {a0 : Array Value} {h0 : Heap} {n0 : Nat} {x0 : Int32} {x1 x2 x3 x4 x5 a0_ a1_ a2_ a3_ : Int64}
    (C : Cx Z a0 p s m meth c code maxLocals "com/example/ballast/ballast/storage/RetentionBeyondBytesPinLaw" "law" ret) (X0 : Stand p l e room_1 s m args below meth c T0 locs 0 0) (e0 : T0.heap = h0) (N0 : Fr n0 locs) (Z0 : n0 ≤ h0.size) (l0 : 0 ≤ a0_.toInt) (m0 : a0_.toInt < 2305843009213693952) (l1 : 0 ≤ a1_.toInt) (m1 : a1_.toInt < 2305843009213693952) (l2 : 0 ≤ a2_.toInt) (m2 : a2_.toInt < 2305843009213693952) (l3 : 0 ≤ a3_.toInt) (m3 : a3_.toInt < 2305843009213693952) :
    Go p e below s m (LQ n0) room_1.cells room_1.slots T0 62 #[.val (.int x0), .val (.long x1), .second, .val (.long x2), .second, .val (.long x3), .second, .val (.long x4), .second, .val (.long x5), .second, .val (.int (3 : Int32)), .val (.int (1 : Int32)), .val (.long (-1 : Int64)), .second, .val (.long a0_), .second, .val (.long a1_), .second, .val (.long a2_), .second, .val (.long a3_), .second, .unset, .unset, .unset, .unset, .unset, .unset, .unset, .unset, .unset, .unset, .unset, .unset, .unset, .unset, .unset, .unset, .unset, .unset, .unset, .unset, .unset] [] := by
  refine g_iload C X0 at_62 rfl rfl ?_
  refine g_lload C X0 at_64 rfl rfl ?_
  refine g_lload C X0 at_66 rfl rfl ?_
  refine g_lload C X0 at_68 rfl rfl ?_
  refine g_lload C X0 at_70 rfl rfl ?_
  refine g_callS (argsL := [(.int (3 : Int32)), (.long a0_), (.long a1_), (.long a2_), (.long a3_)]) (rest := []) (W := 0) C X0 at_72 e0 (C.t 1 rfl) (C.t 2 rfl) (C.t 3 rfl) (C.t 4 rfl) (mk3 l Z a0 C.w [] (3 : Int32) a0_ a1_ a2_ a3_ rfl h0 n0 Z0) (by decide) pd_1 rfl rfl rfl (Nat.le_of_eq rfl) (by decide) (by decide) (by decide) (by decide) rfl ?_
  intro T1 v1_ L1 X1 hQ1
  obtain ⟨⟨ar, rfl, gr, hr0, AR⟩, N1q, K1⟩ := hQ1
  have N1 := Fr.app N0 N1q
  have Z1 : n0 ≤ T1.heap.size := Nat.le_trans Z0 K1.1
  refine g_astore C X1 at_75 #[.val (.int x0), .val (.long x1), .second, .val (.long x2), .second, .val (.long x3), .second, .val (.long x4), .second, .val (.long x5), .second, .val (.int (3 : Int32)), .val (.int (1 : Int32)), .val (.long (-1 : Int64)), .second, .val (.long a0_), .second, .val (.long a1_), .second, .val (.long a2_), .second, .val (.long a3_), .second, .val (.ref ar), .unset, .unset, .unset, .unset, .unset, .unset, .unset, .unset, .unset, .unset, .unset, .unset, .unset, .unset, .unset, .unset, .unset, .unset, .unset, .unset] rfl rfl ?_
  refine g_new C X1 at_77 rfl (C.t 6 rfl) (C.t 7 rfl) (C.t 8 rfl) (by decide) (by decide) rfl ?_
  intro T2 h2_ X2 e2 E2 lt2 ad2 ha2 EX2 D2
  have Z2 : n0 ≤ h2_.size := Nat.le_trans Z1 E2.1
  have ne_ar_ad2 : ar ≠ ad2 := Nat.ne_of_lt (Nat.lt_of_lt_of_eq AR.lt ha2.symm)
  have A2_ar := AR.ext E2
  have g_ad2 : n0 ≤ ad2 := by omega
  refine g_dup C X2 at_80 rfl rfl ?_
  refine g_ldcL C X2 at_81 (C.t 0 rfl) rfl ?_
  refine g_lload C X2 at_84 rfl rfl ?_
  refine g_lconst C X2 (1 : Int64) at_86 rfl rfl ?_
  refine g_ldcL C X2 at_87 (C.t 9 rfl) rfl ?_
  refine g_ldcL C X2 at_90 (C.t 9 rfl) rfl ?_
  refine g_callC (a := ad2) (argsL := [(.long (-1 : Int64)), (.long (-1 : Int64)), (.long (1 : Int64)), (.long (9223372036854775807 : Int64)), (.long (9223372036854775807 : Int64))]) (rest := [(.ref ad2)]) (W := 1) C X2 at_93 e2 rfl (C.t 10 rfl) (C.t 11 rfl) (C.t 8 rfl) (C.t 12 rfl) (rm2 l Z a0 C.w [] ad2 (-1 : Int64) (-1 : Int64) (1 : Int64) (9223372036854775807 : Int64) (9223372036854775807 : Int64) h2_ n0 Z2 EX2 D2 g_ad2 ) (by decide) pd_2 rfl rfl rfl (Nat.le_of_eq rfl) (by decide) (by decide) (by decide) (by decide) rfl ?_
  intro T3 v3_ L3 X3 hQ3
  obtain ⟨rfl, N3q, K3, EY3, Fc3_millis, Fc3_bytes, Fc3_checkIntervalMillis, Fc3_rollMillis, Fc3_aheadMillis⟩ := hQ3
  have N3 := Fr.app N1 N3q
  have Z3 : n0 ≤ T3.heap.size := Nat.le_trans Z2 K3.1
  have A3_ar := A2_ar.keep K3 (ninS ne_ar_ad2 nin0)
  refine g_astore C X3 at_96 #[.val (.int x0), .val (.long x1), .second, .val (.long x2), .second, .val (.long x3), .second, .val (.long x4), .second, .val (.long x5), .second, .val (.int (3 : Int32)), .val (.int (1 : Int32)), .val (.long (-1 : Int64)), .second, .val (.long a0_), .second, .val (.long a1_), .second, .val (.long a2_), .second, .val (.long a3_), .second, .val (.ref ar), .val (.ref ad2), .unset, .unset, .unset, .unset, .unset, .unset, .unset, .unset, .unset, .unset, .unset, .unset, .unset, .unset, .unset, .unset, .unset, .unset, .unset] rfl rfl ?_
  refine g_aload C X3 at_98 rfl rfl ?_
  refine g_aload C X3 at_100 rfl rfl ?_
  refine g_callV (a := ad2) (argsL := [(.ref ar)]) (rest := []) (W := 0) C X3 at_102 rfl EY3 (C.t 32 rfl) (C.t 34 rfl) (C.t 31 rfl) (C.t 33 rfl) (C.t 8 rfl) (C.t 35 rfl) (bbU l Z a0 C.w [] ad2 ar (-1 : Int64) T3.heap n0 Z3 Fc3_bytes (by decide)) (by decide) pd_5 rfl rfl rfl (Nat.le_of_eq rfl) (by decide) (by decide) (by decide) (by decide) rfl ?_
  intro T4 v4_ L4 X4 hQ4
  obtain ⟨⟨r, rfl, hr⟩, N4q, hh4⟩ := hQ4
  have N4 := Fr.app N3 N4q
  refine g_istore C X4 at_105 #[.val (.int x0), .val (.long x1), .second, .val (.long x2), .second, .val (.long x3), .second, .val (.long x4), .second, .val (.long x5), .second, .val (.int (3 : Int32)), .val (.int (1 : Int32)), .val (.long (-1 : Int64)), .second, .val (.long a0_), .second, .val (.long a1_), .second, .val (.long a2_), .second, .val (.long a3_), .second, .val (.ref ar), .val (.ref ad2), .val (.int r), .unset, .unset, .unset, .unset, .unset, .unset, .unset, .unset, .unset, .unset, .unset, .unset, .unset, .unset, .unset, .unset, .unset, .unset] rfl rfl ?_
  refine g_iload C X4 at_107 rfl rfl ?_
  refine g_if C X4 at_109 (by decide) rfl rfl ?_ ?_
  · intro h109
    have h109 : (1 : Int) = 0 := h109
    exact absurd h109 (by decide)
  · intro h109
    have h109 : ¬ (1 : Int) = 0 := h109
    refine g_iconst C X4 (0 : Int32) at_112 rfl rfl ?_
    refine g_istore C X4 at_113 #[.val (.int x0), .val (.long x1), .second, .val (.long x2), .second, .val (.long x3), .second, .val (.long x4), .second, .val (.long x5), .second, .val (.int (3 : Int32)), .val (.int (1 : Int32)), .val (.long (-1 : Int64)), .second, .val (.long a0_), .second, .val (.long a1_), .second, .val (.long a2_), .second, .val (.long a3_), .second, .val (.ref ar), .val (.ref ad2), .val (.int r), .val (.int (0 : Int32)), .unset, .unset, .unset, .unset, .unset, .unset, .unset, .unset, .unset, .unset, .unset, .unset, .unset, .unset, .unset, .unset, .unset] rfl rfl ?_
    refine g_goto C X4 at_115 (by decide) rfl ?_
    refine g_iload C X4 at_289 rfl rfl ?_
    refine g_iload C X4 at_291 rfl rfl ?_
    refine g_icmp C X4 at_293 (by decide) rfl rfl ?_ ?_
    · intro h293
      have h293 : ¬ r.toInt = 0 := h293
      exfalso; omega
    · intro h293
      have h293 : r.toInt = 0 := h293
      refine g_iconst C X4 (1 : Int32) at_296 rfl rfl ?_
      refine g_goto C X4 at_297 (by decide) rfl ?_
      exact g_ireturnN C X4 at_301 rfl (Or.inl rfl) ⟨rfl, N4⟩ (by decide) (by decide)
set_option maxRecDepth 65536 in
set_option maxHeartbeats 40000000 in
theorem seg62_1_4 {p : Program} {l : Launch} {e : Env} {s : State} {m : MethodId} {args : Array Value} {below : List Frame} {meth : Method} {c : Code} {T0 : State} {locs : List Loc} {Z : State} {a0 : Array Value} {h0 : Heap} {n0 : Nat} {x0 : Int32} {x1 x2 x3 x4 x5 a0_ a1_ a2_ a3_ : Int64}
    (C : Cx Z a0 p s m meth c code maxLocals "com/example/ballast/ballast/storage/RetentionBeyondBytesPinLaw" "law" ret) (X0 : Stand p l e room_1 s m args below meth c T0 locs 0 0) (e0 : T0.heap = h0) (N0 : Fr n0 locs) (Z0 : n0 ≤ h0.size) (l0 : 0 ≤ a0_.toInt) (m0 : a0_.toInt < 2305843009213693952) (l1 : 0 ≤ a1_.toInt) (m1 : a1_.toInt < 2305843009213693952) (l2 : 0 ≤ a2_.toInt) (m2 : a2_.toInt < 2305843009213693952) (l3 : 0 ≤ a3_.toInt) (m3 : a3_.toInt < 2305843009213693952) :
    Go p e below s m (LQ n0) room_1.cells room_1.slots T0 62 #[.val (.int x0), .val (.long x1), .second, .val (.long x2), .second, .val (.long x3), .second, .val (.long x4), .second, .val (.long x5), .second, .val (.int (4 : Int32)), .val (.int (1 : Int32)), .val (.long (-1 : Int64)), .second, .val (.long a0_), .second, .val (.long a1_), .second, .val (.long a2_), .second, .val (.long a3_), .second, .unset, .unset, .unset, .unset, .unset, .unset, .unset, .unset, .unset, .unset, .unset, .unset, .unset, .unset, .unset, .unset, .unset, .unset, .unset, .unset, .unset] [] := by
  refine g_iload C X0 at_62 rfl rfl ?_
  refine g_lload C X0 at_64 rfl rfl ?_
  refine g_lload C X0 at_66 rfl rfl ?_
  refine g_lload C X0 at_68 rfl rfl ?_
  refine g_lload C X0 at_70 rfl rfl ?_
  refine g_callS (argsL := [(.int (4 : Int32)), (.long a0_), (.long a1_), (.long a2_), (.long a3_)]) (rest := []) (W := 0) C X0 at_72 e0 (C.t 1 rfl) (C.t 2 rfl) (C.t 3 rfl) (C.t 4 rfl) (mk4 l Z a0 C.w [] (4 : Int32) a0_ a1_ a2_ a3_ rfl h0 n0 Z0) (by decide) pd_1 rfl rfl rfl (Nat.le_of_eq rfl) (by decide) (by decide) (by decide) (by decide) rfl ?_
  intro T1 v1_ L1 X1 hQ1
  obtain ⟨⟨ar, rfl, gr, hr0, AR⟩, N1q, K1⟩ := hQ1
  have N1 := Fr.app N0 N1q
  have Z1 : n0 ≤ T1.heap.size := Nat.le_trans Z0 K1.1
  refine g_astore C X1 at_75 #[.val (.int x0), .val (.long x1), .second, .val (.long x2), .second, .val (.long x3), .second, .val (.long x4), .second, .val (.long x5), .second, .val (.int (4 : Int32)), .val (.int (1 : Int32)), .val (.long (-1 : Int64)), .second, .val (.long a0_), .second, .val (.long a1_), .second, .val (.long a2_), .second, .val (.long a3_), .second, .val (.ref ar), .unset, .unset, .unset, .unset, .unset, .unset, .unset, .unset, .unset, .unset, .unset, .unset, .unset, .unset, .unset, .unset, .unset, .unset, .unset, .unset] rfl rfl ?_
  refine g_new C X1 at_77 rfl (C.t 6 rfl) (C.t 7 rfl) (C.t 8 rfl) (by decide) (by decide) rfl ?_
  intro T2 h2_ X2 e2 E2 lt2 ad2 ha2 EX2 D2
  have Z2 : n0 ≤ h2_.size := Nat.le_trans Z1 E2.1
  have ne_ar_ad2 : ar ≠ ad2 := Nat.ne_of_lt (Nat.lt_of_lt_of_eq AR.lt ha2.symm)
  have A2_ar := AR.ext E2
  have g_ad2 : n0 ≤ ad2 := by omega
  refine g_dup C X2 at_80 rfl rfl ?_
  refine g_ldcL C X2 at_81 (C.t 0 rfl) rfl ?_
  refine g_lload C X2 at_84 rfl rfl ?_
  refine g_lconst C X2 (1 : Int64) at_86 rfl rfl ?_
  refine g_ldcL C X2 at_87 (C.t 9 rfl) rfl ?_
  refine g_ldcL C X2 at_90 (C.t 9 rfl) rfl ?_
  refine g_callC (a := ad2) (argsL := [(.long (-1 : Int64)), (.long (-1 : Int64)), (.long (1 : Int64)), (.long (9223372036854775807 : Int64)), (.long (9223372036854775807 : Int64))]) (rest := [(.ref ad2)]) (W := 1) C X2 at_93 e2 rfl (C.t 10 rfl) (C.t 11 rfl) (C.t 8 rfl) (C.t 12 rfl) (rm2 l Z a0 C.w [] ad2 (-1 : Int64) (-1 : Int64) (1 : Int64) (9223372036854775807 : Int64) (9223372036854775807 : Int64) h2_ n0 Z2 EX2 D2 g_ad2 ) (by decide) pd_2 rfl rfl rfl (Nat.le_of_eq rfl) (by decide) (by decide) (by decide) (by decide) rfl ?_
  intro T3 v3_ L3 X3 hQ3
  obtain ⟨rfl, N3q, K3, EY3, Fc3_millis, Fc3_bytes, Fc3_checkIntervalMillis, Fc3_rollMillis, Fc3_aheadMillis⟩ := hQ3
  have N3 := Fr.app N1 N3q
  have Z3 : n0 ≤ T3.heap.size := Nat.le_trans Z2 K3.1
  have A3_ar := A2_ar.keep K3 (ninS ne_ar_ad2 nin0)
  refine g_astore C X3 at_96 #[.val (.int x0), .val (.long x1), .second, .val (.long x2), .second, .val (.long x3), .second, .val (.long x4), .second, .val (.long x5), .second, .val (.int (4 : Int32)), .val (.int (1 : Int32)), .val (.long (-1 : Int64)), .second, .val (.long a0_), .second, .val (.long a1_), .second, .val (.long a2_), .second, .val (.long a3_), .second, .val (.ref ar), .val (.ref ad2), .unset, .unset, .unset, .unset, .unset, .unset, .unset, .unset, .unset, .unset, .unset, .unset, .unset, .unset, .unset, .unset, .unset, .unset, .unset] rfl rfl ?_
  refine g_aload C X3 at_98 rfl rfl ?_
  refine g_aload C X3 at_100 rfl rfl ?_
  refine g_callV (a := ad2) (argsL := [(.ref ar)]) (rest := []) (W := 0) C X3 at_102 rfl EY3 (C.t 32 rfl) (C.t 34 rfl) (C.t 31 rfl) (C.t 33 rfl) (C.t 8 rfl) (C.t 35 rfl) (bbU l Z a0 C.w [] ad2 ar (-1 : Int64) T3.heap n0 Z3 Fc3_bytes (by decide)) (by decide) pd_5 rfl rfl rfl (Nat.le_of_eq rfl) (by decide) (by decide) (by decide) (by decide) rfl ?_
  intro T4 v4_ L4 X4 hQ4
  obtain ⟨⟨r, rfl, hr⟩, N4q, hh4⟩ := hQ4
  have N4 := Fr.app N3 N4q
  refine g_istore C X4 at_105 #[.val (.int x0), .val (.long x1), .second, .val (.long x2), .second, .val (.long x3), .second, .val (.long x4), .second, .val (.long x5), .second, .val (.int (4 : Int32)), .val (.int (1 : Int32)), .val (.long (-1 : Int64)), .second, .val (.long a0_), .second, .val (.long a1_), .second, .val (.long a2_), .second, .val (.long a3_), .second, .val (.ref ar), .val (.ref ad2), .val (.int r), .unset, .unset, .unset, .unset, .unset, .unset, .unset, .unset, .unset, .unset, .unset, .unset, .unset, .unset, .unset, .unset, .unset, .unset] rfl rfl ?_
  refine g_iload C X4 at_107 rfl rfl ?_
  refine g_if C X4 at_109 (by decide) rfl rfl ?_ ?_
  · intro h109
    have h109 : (1 : Int) = 0 := h109
    exact absurd h109 (by decide)
  · intro h109
    have h109 : ¬ (1 : Int) = 0 := h109
    refine g_iconst C X4 (0 : Int32) at_112 rfl rfl ?_
    refine g_istore C X4 at_113 #[.val (.int x0), .val (.long x1), .second, .val (.long x2), .second, .val (.long x3), .second, .val (.long x4), .second, .val (.long x5), .second, .val (.int (4 : Int32)), .val (.int (1 : Int32)), .val (.long (-1 : Int64)), .second, .val (.long a0_), .second, .val (.long a1_), .second, .val (.long a2_), .second, .val (.long a3_), .second, .val (.ref ar), .val (.ref ad2), .val (.int r), .val (.int (0 : Int32)), .unset, .unset, .unset, .unset, .unset, .unset, .unset, .unset, .unset, .unset, .unset, .unset, .unset, .unset, .unset, .unset, .unset] rfl rfl ?_
    refine g_goto C X4 at_115 (by decide) rfl ?_
    refine g_iload C X4 at_289 rfl rfl ?_
    refine g_iload C X4 at_291 rfl rfl ?_
    refine g_icmp C X4 at_293 (by decide) rfl rfl ?_ ?_
    · intro h293
      have h293 : ¬ r.toInt = 0 := h293
      exfalso; omega
    · intro h293
      have h293 : r.toInt = 0 := h293
      refine g_iconst C X4 (1 : Int32) at_296 rfl rfl ?_
      refine g_goto C X4 at_297 (by decide) rfl ?_
      exact g_ireturnN C X4 at_301 rfl (Or.inl rfl) ⟨rfl, N4⟩ (by decide) (by decide)
set_option maxRecDepth 65536 in
set_option maxHeartbeats 40000000 in
theorem seg62_0_0 {p : Program} {l : Launch} {e : Env} {s : State} {m : MethodId} {args : Array Value} {below : List Frame} {meth : Method} {c : Code} {T0 : State} {locs : List Loc} {Z : State} {a0 : Array Value} {h0 : Heap} {n0 : Nat} {x0 : Int32} {x1 x2 x3 x4 x5 a0_ a1_ a2_ a3_ bd : Int64}
    (C : Cx Z a0 p s m meth c code maxLocals "com/example/ballast/ballast/storage/RetentionBeyondBytesPinLaw" "law" ret) (X0 : Stand p l e room_1 s m args below meth c T0 locs 0 0) (e0 : T0.heap = h0) (N0 : Fr n0 locs) (Z0 : n0 ≤ h0.size) (l0 : 0 ≤ a0_.toInt) (m0 : a0_.toInt < 2305843009213693952) (l1 : 0 ≤ a1_.toInt) (m1 : a1_.toInt < 2305843009213693952) (l2 : 0 ≤ a2_.toInt) (m2 : a2_.toInt < 2305843009213693952) (l3 : 0 ≤ a3_.toInt) (m3 : a3_.toInt < 2305843009213693952) (hb : 0 ≤ bd.toInt) :
    Go p e below s m (LQ n0) room_1.cells room_1.slots T0 62 #[.val (.int x0), .val (.long x1), .second, .val (.long x2), .second, .val (.long x3), .second, .val (.long x4), .second, .val (.long x5), .second, .val (.int (0 : Int32)), .val (.int (0 : Int32)), .val (.long bd), .second, .val (.long a0_), .second, .val (.long a1_), .second, .val (.long a2_), .second, .val (.long a3_), .second, .unset, .unset, .unset, .unset, .unset, .unset, .unset, .unset, .unset, .unset, .unset, .unset, .unset, .unset, .unset, .unset, .unset, .unset, .unset, .unset, .unset] [] := by
  refine g_iload C X0 at_62 rfl rfl ?_
  refine g_lload C X0 at_64 rfl rfl ?_
  refine g_lload C X0 at_66 rfl rfl ?_
  refine g_lload C X0 at_68 rfl rfl ?_
  refine g_lload C X0 at_70 rfl rfl ?_
  refine g_callS (argsL := [(.int (0 : Int32)), (.long a0_), (.long a1_), (.long a2_), (.long a3_)]) (rest := []) (W := 0) C X0 at_72 e0 (C.t 1 rfl) (C.t 2 rfl) (C.t 3 rfl) (C.t 4 rfl) (mk0 l Z a0 C.w [] (0 : Int32) a0_ a1_ a2_ a3_ rfl h0 n0 Z0) (by decide) pd_1 rfl rfl rfl (Nat.le_of_eq rfl) (by decide) (by decide) (by decide) (by decide) rfl ?_
  intro T1 v1_ L1 X1 hQ1
  obtain ⟨⟨ar, rfl, gr, hr0, AR⟩, N1q, K1⟩ := hQ1
  have N1 := Fr.app N0 N1q
  have Z1 : n0 ≤ T1.heap.size := Nat.le_trans Z0 K1.1
  refine g_astore C X1 at_75 #[.val (.int x0), .val (.long x1), .second, .val (.long x2), .second, .val (.long x3), .second, .val (.long x4), .second, .val (.long x5), .second, .val (.int (0 : Int32)), .val (.int (0 : Int32)), .val (.long bd), .second, .val (.long a0_), .second, .val (.long a1_), .second, .val (.long a2_), .second, .val (.long a3_), .second, .val (.ref ar), .unset, .unset, .unset, .unset, .unset, .unset, .unset, .unset, .unset, .unset, .unset, .unset, .unset, .unset, .unset, .unset, .unset, .unset, .unset, .unset] rfl rfl ?_
  refine g_new C X1 at_77 rfl (C.t 6 rfl) (C.t 7 rfl) (C.t 8 rfl) (by decide) (by decide) rfl ?_
  intro T2 h2_ X2 e2 E2 lt2 ad2 ha2 EX2 D2
  have Z2 : n0 ≤ h2_.size := Nat.le_trans Z1 E2.1
  have ne_ar_ad2 : ar ≠ ad2 := Nat.ne_of_lt (Nat.lt_of_lt_of_eq AR.lt ha2.symm)
  have A2_ar := AR.ext E2
  have g_ad2 : n0 ≤ ad2 := by omega
  refine g_dup C X2 at_80 rfl rfl ?_
  refine g_ldcL C X2 at_81 (C.t 0 rfl) rfl ?_
  refine g_lload C X2 at_84 rfl rfl ?_
  refine g_lconst C X2 (1 : Int64) at_86 rfl rfl ?_
  refine g_ldcL C X2 at_87 (C.t 9 rfl) rfl ?_
  refine g_ldcL C X2 at_90 (C.t 9 rfl) rfl ?_
  refine g_callC (a := ad2) (argsL := [(.long (-1 : Int64)), (.long bd), (.long (1 : Int64)), (.long (9223372036854775807 : Int64)), (.long (9223372036854775807 : Int64))]) (rest := [(.ref ad2)]) (W := 1) C X2 at_93 e2 rfl (C.t 10 rfl) (C.t 11 rfl) (C.t 8 rfl) (C.t 12 rfl) (rm2 l Z a0 C.w [] ad2 (-1 : Int64) bd (1 : Int64) (9223372036854775807 : Int64) (9223372036854775807 : Int64) h2_ n0 Z2 EX2 D2 g_ad2 ) (by decide) pd_2 rfl rfl rfl (Nat.le_of_eq rfl) (by decide) (by decide) (by decide) (by decide) rfl ?_
  intro T3 v3_ L3 X3 hQ3
  obtain ⟨rfl, N3q, K3, EY3, Fc3_millis, Fc3_bytes, Fc3_checkIntervalMillis, Fc3_rollMillis, Fc3_aheadMillis⟩ := hQ3
  have N3 := Fr.app N1 N3q
  have Z3 : n0 ≤ T3.heap.size := Nat.le_trans Z2 K3.1
  have A3_ar := A2_ar.keep K3 (ninS ne_ar_ad2 nin0)
  refine g_astore C X3 at_96 #[.val (.int x0), .val (.long x1), .second, .val (.long x2), .second, .val (.long x3), .second, .val (.long x4), .second, .val (.long x5), .second, .val (.int (0 : Int32)), .val (.int (0 : Int32)), .val (.long bd), .second, .val (.long a0_), .second, .val (.long a1_), .second, .val (.long a2_), .second, .val (.long a3_), .second, .val (.ref ar), .val (.ref ad2), .unset, .unset, .unset, .unset, .unset, .unset, .unset, .unset, .unset, .unset, .unset, .unset, .unset, .unset, .unset, .unset, .unset, .unset, .unset] rfl rfl ?_
  refine g_aload C X3 at_98 rfl rfl ?_
  refine g_aload C X3 at_100 rfl rfl ?_
  refine g_callV (a := ad2) (argsL := [(.ref ar)]) (rest := []) (W := 0) C X3 at_102 rfl EY3 (C.t 32 rfl) (C.t 34 rfl) (C.t 31 rfl) (C.t 33 rfl) (C.t 8 rfl) (C.t 35 rfl) (bb0 l Z a0 C.w [] ad2 ar bd  T3.heap n0 Z3 Fc3_bytes hb A3_ar ) (by decide) pd_5 rfl rfl rfl (Nat.le_of_eq rfl) (by decide) (by decide) (by decide) (by decide) rfl ?_
  intro T4 v4_ L4 X4 hQ4
  obtain ⟨⟨r, rfl, hr⟩, N4q, hh4⟩ := hQ4
  have N4 := Fr.app N3 N4q
  refine g_istore C X4 at_105 #[.val (.int x0), .val (.long x1), .second, .val (.long x2), .second, .val (.long x3), .second, .val (.long x4), .second, .val (.long x5), .second, .val (.int (0 : Int32)), .val (.int (0 : Int32)), .val (.long bd), .second, .val (.long a0_), .second, .val (.long a1_), .second, .val (.long a2_), .second, .val (.long a3_), .second, .val (.ref ar), .val (.ref ad2), .val (.int r), .unset, .unset, .unset, .unset, .unset, .unset, .unset, .unset, .unset, .unset, .unset, .unset, .unset, .unset, .unset, .unset, .unset, .unset] rfl rfl ?_
  refine g_iload C X4 at_107 rfl rfl ?_
  refine g_if C X4 at_109 (by decide) rfl rfl ?_ ?_
  · intro h109
    have h109 : (0 : Int) = 0 := h109
    refine g_iload C X4 at_118 rfl rfl ?_
    refine g_if C X4 at_120 (by decide) rfl rfl ?_ ?_
    · intro h120
      have h120 : (0 : Int) ≤ 0 := h120
      refine g_lconst C X4 (0 : Int64) at_128 rfl rfl ?_
      refine g_lstore C X4 at_129 #[.val (.int x0), .val (.long x1), .second, .val (.long x2), .second, .val (.long x3), .second, .val (.long x4), .second, .val (.long x5), .second, .val (.int (0 : Int32)), .val (.int (0 : Int32)), .val (.long bd), .second, .val (.long a0_), .second, .val (.long a1_), .second, .val (.long a2_), .second, .val (.long a3_), .second, .val (.ref ar), .val (.ref ad2), .val (.int r), .unset, .val (.long (0 : Int64)), .second, .unset, .unset, .unset, .unset, .unset, .unset, .unset, .unset, .unset, .unset, .unset, .unset, .unset, .unset, .unset] rfl rfl ?_
      refine g_iload C X4 at_131 rfl rfl ?_
      refine g_iconst C X4 (1 : Int32) at_133 rfl rfl ?_
      refine g_icmp C X4 at_134 (by decide) rfl rfl ?_ ?_
      · intro h134
        have h134 : (0 : Int) ≤ 1 := h134
        refine g_lconst C X4 (0 : Int64) at_142 rfl rfl ?_
        refine g_lstore C X4 at_143 #[.val (.int x0), .val (.long x1), .second, .val (.long x2), .second, .val (.long x3), .second, .val (.long x4), .second, .val (.long x5), .second, .val (.int (0 : Int32)), .val (.int (0 : Int32)), .val (.long bd), .second, .val (.long a0_), .second, .val (.long a1_), .second, .val (.long a2_), .second, .val (.long a3_), .second, .val (.ref ar), .val (.ref ad2), .val (.int r), .unset, .val (.long (0 : Int64)), .second, .val (.long (0 : Int64)), .second, .unset, .unset, .unset, .unset, .unset, .unset, .unset, .unset, .unset, .unset, .unset, .unset, .unset] rfl rfl ?_
        refine g_iload C X4 at_145 rfl rfl ?_
        refine g_iconst C X4 (2 : Int32) at_147 rfl rfl ?_
        refine g_icmp C X4 at_148 (by decide) rfl rfl ?_ ?_
        · intro h148
          have h148 : (0 : Int) ≤ 2 := h148
          refine g_lconst C X4 (0 : Int64) at_156 rfl rfl ?_
          refine g_lstore C X4 at_157 #[.val (.int x0), .val (.long x1), .second, .val (.long x2), .second, .val (.long x3), .second, .val (.long x4), .second, .val (.long x5), .second, .val (.int (0 : Int32)), .val (.int (0 : Int32)), .val (.long bd), .second, .val (.long a0_), .second, .val (.long a1_), .second, .val (.long a2_), .second, .val (.long a3_), .second, .val (.ref ar), .val (.ref ad2), .val (.int r), .unset, .val (.long (0 : Int64)), .second, .val (.long (0 : Int64)), .second, .val (.long (0 : Int64)), .second, .unset, .unset, .unset, .unset, .unset, .unset, .unset, .unset, .unset, .unset, .unset] rfl rfl ?_
          refine g_iload C X4 at_159 rfl rfl ?_
          refine g_iconst C X4 (3 : Int32) at_161 rfl rfl ?_
          refine g_icmp C X4 at_162 (by decide) rfl rfl ?_ ?_
          · intro h162
            have h162 : (0 : Int) ≤ 3 := h162
            refine g_lconst C X4 (0 : Int64) at_170 rfl rfl ?_
            refine g_lstore C X4 at_171 #[.val (.int x0), .val (.long x1), .second, .val (.long x2), .second, .val (.long x3), .second, .val (.long x4), .second, .val (.long x5), .second, .val (.int (0 : Int32)), .val (.int (0 : Int32)), .val (.long bd), .second, .val (.long a0_), .second, .val (.long a1_), .second, .val (.long a2_), .second, .val (.long a3_), .second, .val (.ref ar), .val (.ref ad2), .val (.int r), .unset, .val (.long (0 : Int64)), .second, .val (.long (0 : Int64)), .second, .val (.long (0 : Int64)), .second, .val (.long (0 : Int64)), .second, .unset, .unset, .unset, .unset, .unset, .unset, .unset, .unset, .unset] rfl rfl ?_
            refine g_lload C X4 at_173 rfl rfl ?_
            refine g_lstore C X4 at_175 #[.val (.int x0), .val (.long x1), .second, .val (.long x2), .second, .val (.long x3), .second, .val (.long x4), .second, .val (.long x5), .second, .val (.int (0 : Int32)), .val (.int (0 : Int32)), .val (.long bd), .second, .val (.long a0_), .second, .val (.long a1_), .second, .val (.long a2_), .second, .val (.long a3_), .second, .val (.ref ar), .val (.ref ad2), .val (.int r), .unset, .val (.long (0 : Int64)), .second, .val (.long (0 : Int64)), .second, .val (.long (0 : Int64)), .second, .val (.long (0 : Int64)), .second, .val (.long (0 : Int64)), .second, .unset, .unset, .unset, .unset, .unset, .unset, .unset] rfl rfl ?_
            refine g_lload C X4 at_177 rfl rfl ?_
            refine g_lload C X4 at_179 rfl rfl ?_
            refine g_ladd C X4 at_181 rfl ?_
            refine g_lstore C X4 at_182 #[.val (.int x0), .val (.long x1), .second, .val (.long x2), .second, .val (.long x3), .second, .val (.long x4), .second, .val (.long x5), .second, .val (.int (0 : Int32)), .val (.int (0 : Int32)), .val (.long bd), .second, .val (.long a0_), .second, .val (.long a1_), .second, .val (.long a2_), .second, .val (.long a3_), .second, .val (.ref ar), .val (.ref ad2), .val (.int r), .unset, .val (.long (0 : Int64)), .second, .val (.long (0 : Int64)), .second, .val (.long (0 : Int64)), .second, .val (.long (0 : Int64)), .second, .val (.long (0 : Int64)), .second, .val (.long (0 : Int64)), .second, .unset, .unset, .unset, .unset, .unset] rfl rfl ?_
            refine g_lload C X4 at_184 rfl rfl ?_
            refine g_lload C X4 at_186 rfl rfl ?_
            refine g_ladd C X4 at_188 rfl ?_
            refine g_lstore C X4 at_189 #[.val (.int x0), .val (.long x1), .second, .val (.long x2), .second, .val (.long x3), .second, .val (.long x4), .second, .val (.long x5), .second, .val (.int (0 : Int32)), .val (.int (0 : Int32)), .val (.long bd), .second, .val (.long a0_), .second, .val (.long a1_), .second, .val (.long a2_), .second, .val (.long a3_), .second, .val (.ref ar), .val (.ref ad2), .val (.int r), .unset, .val (.long (0 : Int64)), .second, .val (.long (0 : Int64)), .second, .val (.long (0 : Int64)), .second, .val (.long (0 : Int64)), .second, .val (.long (0 : Int64)), .second, .val (.long (0 : Int64)), .second, .val (.long (0 : Int64)), .second, .unset, .unset, .unset] rfl rfl ?_
            refine g_lload C X4 at_191 rfl rfl ?_
            refine g_lload C X4 at_193 rfl rfl ?_
            refine g_ladd C X4 at_195 rfl ?_
            refine g_lstore C X4 at_196 #[.val (.int x0), .val (.long x1), .second, .val (.long x2), .second, .val (.long x3), .second, .val (.long x4), .second, .val (.long x5), .second, .val (.int (0 : Int32)), .val (.int (0 : Int32)), .val (.long bd), .second, .val (.long a0_), .second, .val (.long a1_), .second, .val (.long a2_), .second, .val (.long a3_), .second, .val (.ref ar), .val (.ref ad2), .val (.int r), .unset, .val (.long (0 : Int64)), .second, .val (.long (0 : Int64)), .second, .val (.long (0 : Int64)), .second, .val (.long (0 : Int64)), .second, .val (.long (0 : Int64)), .second, .val (.long (0 : Int64)), .second, .val (.long (0 : Int64)), .second, .val (.long (0 : Int64)), .second, .unset] rfl rfl ?_
            refine g_iconst C X4 (0 : Int32) at_198 rfl rfl ?_
            refine g_istore C X4 at_199 #[.val (.int x0), .val (.long x1), .second, .val (.long x2), .second, .val (.long x3), .second, .val (.long x4), .second, .val (.long x5), .second, .val (.int (0 : Int32)), .val (.int (0 : Int32)), .val (.long bd), .second, .val (.long a0_), .second, .val (.long a1_), .second, .val (.long a2_), .second, .val (.long a3_), .second, .val (.ref ar), .val (.ref ad2), .val (.int r), .unset, .val (.long (0 : Int64)), .second, .val (.long (0 : Int64)), .second, .val (.long (0 : Int64)), .second, .val (.long (0 : Int64)), .second, .val (.long (0 : Int64)), .second, .val (.long (0 : Int64)), .second, .val (.long (0 : Int64)), .second, .val (.long (0 : Int64)), .second, .val (.int (0 : Int32))] rfl rfl ?_
            refine g_iload C X4 at_201 rfl rfl ?_
            refine g_iconst C X4 (2 : Int32) at_203 rfl rfl ?_
            refine g_icmp C X4 at_204 (by decide) rfl rfl ?_ ?_
            · intro h204
              have h204 : (0 : Int) < 2 := h204
              refine g_iload C X4 at_229 rfl rfl ?_
              refine g_iconst C X4 (3 : Int32) at_231 rfl rfl ?_
              refine g_icmp C X4 at_232 (by decide) rfl rfl ?_ ?_
              · intro h232
                have h232 : (0 : Int) < 3 := h232
                refine g_iload C X4 at_257 rfl rfl ?_
                refine g_iconst C X4 (4 : Int32) at_259 rfl rfl ?_
                refine g_icmp C X4 at_260 (by decide) rfl rfl ?_ ?_
                · intro h260
                  have h260 : (0 : Int) < 4 := h260
                  refine g_iload C X4 at_285 rfl rfl ?_
                  refine g_istore C X4 at_287 #[.val (.int x0), .val (.long x1), .second, .val (.long x2), .second, .val (.long x3), .second, .val (.long x4), .second, .val (.long x5), .second, .val (.int (0 : Int32)), .val (.int (0 : Int32)), .val (.long bd), .second, .val (.long a0_), .second, .val (.long a1_), .second, .val (.long a2_), .second, .val (.long a3_), .second, .val (.ref ar), .val (.ref ad2), .val (.int r), .val (.int (0 : Int32)), .val (.long (0 : Int64)), .second, .val (.long (0 : Int64)), .second, .val (.long (0 : Int64)), .second, .val (.long (0 : Int64)), .second, .val (.long (0 : Int64)), .second, .val (.long (0 : Int64)), .second, .val (.long (0 : Int64)), .second, .val (.long (0 : Int64)), .second, .val (.int (0 : Int32))] rfl rfl ?_
                  refine g_iload C X4 at_289 rfl rfl ?_
                  refine g_iload C X4 at_291 rfl rfl ?_
                  refine g_icmp C X4 at_293 (by decide) rfl rfl ?_ ?_
                  · intro h293
                    have h293 : ¬ r.toInt = 0 := h293
                    exfalso; omega
                  · intro h293
                    have h293 : r.toInt = 0 := h293
                    refine g_iconst C X4 (1 : Int32) at_296 rfl rfl ?_
                    refine g_goto C X4 at_297 (by decide) rfl ?_
                    exact g_ireturnN C X4 at_301 rfl (Or.inl rfl) ⟨rfl, N4⟩ (by decide) (by decide)
                · intro h260
                  have h260 : (0 : Int) ≥ 4 := h260
                  exact absurd h260 (by decide)
              · intro h232
                have h232 : (0 : Int) ≥ 3 := h232
                exact absurd h232 (by decide)
            · intro h204
              have h204 : (0 : Int) ≥ 2 := h204
              exact absurd h204 (by decide)
          · intro h162
            have h162 : (0 : Int) > 3 := h162
            exact absurd h162 (by decide)
        · intro h148
          have h148 : (0 : Int) > 2 := h148
          exact absurd h148 (by decide)
      · intro h134
        have h134 : (0 : Int) > 1 := h134
        exact absurd h134 (by decide)
    · intro h120
      have h120 : (0 : Int) > 0 := h120
      exact absurd h120 (by decide)
  · intro h109
    have h109 : ¬ (0 : Int) = 0 := h109
    exact absurd h109 (by decide)
set_option maxRecDepth 65536 in
set_option maxHeartbeats 40000000 in
theorem seg62_0_1 {p : Program} {l : Launch} {e : Env} {s : State} {m : MethodId} {args : Array Value} {below : List Frame} {meth : Method} {c : Code} {T0 : State} {locs : List Loc} {Z : State} {a0 : Array Value} {h0 : Heap} {n0 : Nat} {x0 : Int32} {x1 x2 x3 x4 x5 a0_ a1_ a2_ a3_ bd : Int64}
    (C : Cx Z a0 p s m meth c code maxLocals "com/example/ballast/ballast/storage/RetentionBeyondBytesPinLaw" "law" ret) (X0 : Stand p l e room_1 s m args below meth c T0 locs 0 0) (e0 : T0.heap = h0) (N0 : Fr n0 locs) (Z0 : n0 ≤ h0.size) (l0 : 0 ≤ a0_.toInt) (m0 : a0_.toInt < 2305843009213693952) (l1 : 0 ≤ a1_.toInt) (m1 : a1_.toInt < 2305843009213693952) (l2 : 0 ≤ a2_.toInt) (m2 : a2_.toInt < 2305843009213693952) (l3 : 0 ≤ a3_.toInt) (m3 : a3_.toInt < 2305843009213693952) (hb : 0 ≤ bd.toInt) :
    Go p e below s m (LQ n0) room_1.cells room_1.slots T0 62 #[.val (.int x0), .val (.long x1), .second, .val (.long x2), .second, .val (.long x3), .second, .val (.long x4), .second, .val (.long x5), .second, .val (.int (1 : Int32)), .val (.int (0 : Int32)), .val (.long bd), .second, .val (.long a0_), .second, .val (.long a1_), .second, .val (.long a2_), .second, .val (.long a3_), .second, .unset, .unset, .unset, .unset, .unset, .unset, .unset, .unset, .unset, .unset, .unset, .unset, .unset, .unset, .unset, .unset, .unset, .unset, .unset, .unset, .unset] [] := by
  refine g_iload C X0 at_62 rfl rfl ?_
  refine g_lload C X0 at_64 rfl rfl ?_
  refine g_lload C X0 at_66 rfl rfl ?_
  refine g_lload C X0 at_68 rfl rfl ?_
  refine g_lload C X0 at_70 rfl rfl ?_
  refine g_callS (argsL := [(.int (1 : Int32)), (.long a0_), (.long a1_), (.long a2_), (.long a3_)]) (rest := []) (W := 0) C X0 at_72 e0 (C.t 1 rfl) (C.t 2 rfl) (C.t 3 rfl) (C.t 4 rfl) (mk1 l Z a0 C.w [] (1 : Int32) a0_ a1_ a2_ a3_ rfl h0 n0 Z0) (by decide) pd_1 rfl rfl rfl (Nat.le_of_eq rfl) (by decide) (by decide) (by decide) (by decide) rfl ?_
  intro T1 v1_ L1 X1 hQ1
  obtain ⟨⟨ar, rfl, gr, hr0, AR⟩, N1q, K1⟩ := hQ1
  have N1 := Fr.app N0 N1q
  have Z1 : n0 ≤ T1.heap.size := Nat.le_trans Z0 K1.1
  refine g_astore C X1 at_75 #[.val (.int x0), .val (.long x1), .second, .val (.long x2), .second, .val (.long x3), .second, .val (.long x4), .second, .val (.long x5), .second, .val (.int (1 : Int32)), .val (.int (0 : Int32)), .val (.long bd), .second, .val (.long a0_), .second, .val (.long a1_), .second, .val (.long a2_), .second, .val (.long a3_), .second, .val (.ref ar), .unset, .unset, .unset, .unset, .unset, .unset, .unset, .unset, .unset, .unset, .unset, .unset, .unset, .unset, .unset, .unset, .unset, .unset, .unset, .unset] rfl rfl ?_
  refine g_new C X1 at_77 rfl (C.t 6 rfl) (C.t 7 rfl) (C.t 8 rfl) (by decide) (by decide) rfl ?_
  intro T2 h2_ X2 e2 E2 lt2 ad2 ha2 EX2 D2
  have Z2 : n0 ≤ h2_.size := Nat.le_trans Z1 E2.1
  have ne_ar_ad2 : ar ≠ ad2 := Nat.ne_of_lt (Nat.lt_of_lt_of_eq AR.lt ha2.symm)
  have A2_ar := AR.ext E2
  have g_ad2 : n0 ≤ ad2 := by omega
  refine g_dup C X2 at_80 rfl rfl ?_
  refine g_ldcL C X2 at_81 (C.t 0 rfl) rfl ?_
  refine g_lload C X2 at_84 rfl rfl ?_
  refine g_lconst C X2 (1 : Int64) at_86 rfl rfl ?_
  refine g_ldcL C X2 at_87 (C.t 9 rfl) rfl ?_
  refine g_ldcL C X2 at_90 (C.t 9 rfl) rfl ?_
  refine g_callC (a := ad2) (argsL := [(.long (-1 : Int64)), (.long bd), (.long (1 : Int64)), (.long (9223372036854775807 : Int64)), (.long (9223372036854775807 : Int64))]) (rest := [(.ref ad2)]) (W := 1) C X2 at_93 e2 rfl (C.t 10 rfl) (C.t 11 rfl) (C.t 8 rfl) (C.t 12 rfl) (rm2 l Z a0 C.w [] ad2 (-1 : Int64) bd (1 : Int64) (9223372036854775807 : Int64) (9223372036854775807 : Int64) h2_ n0 Z2 EX2 D2 g_ad2 ) (by decide) pd_2 rfl rfl rfl (Nat.le_of_eq rfl) (by decide) (by decide) (by decide) (by decide) rfl ?_
  intro T3 v3_ L3 X3 hQ3
  obtain ⟨rfl, N3q, K3, EY3, Fc3_millis, Fc3_bytes, Fc3_checkIntervalMillis, Fc3_rollMillis, Fc3_aheadMillis⟩ := hQ3
  have N3 := Fr.app N1 N3q
  have Z3 : n0 ≤ T3.heap.size := Nat.le_trans Z2 K3.1
  have A3_ar := A2_ar.keep K3 (ninS ne_ar_ad2 nin0)
  refine g_astore C X3 at_96 #[.val (.int x0), .val (.long x1), .second, .val (.long x2), .second, .val (.long x3), .second, .val (.long x4), .second, .val (.long x5), .second, .val (.int (1 : Int32)), .val (.int (0 : Int32)), .val (.long bd), .second, .val (.long a0_), .second, .val (.long a1_), .second, .val (.long a2_), .second, .val (.long a3_), .second, .val (.ref ar), .val (.ref ad2), .unset, .unset, .unset, .unset, .unset, .unset, .unset, .unset, .unset, .unset, .unset, .unset, .unset, .unset, .unset, .unset, .unset, .unset, .unset] rfl rfl ?_
  refine g_aload C X3 at_98 rfl rfl ?_
  refine g_aload C X3 at_100 rfl rfl ?_
  refine g_callV (a := ad2) (argsL := [(.ref ar)]) (rest := []) (W := 0) C X3 at_102 rfl EY3 (C.t 32 rfl) (C.t 34 rfl) (C.t 31 rfl) (C.t 33 rfl) (C.t 8 rfl) (C.t 35 rfl) (bb1 l Z a0 C.w [] ad2 ar bd a0_ T3.heap n0 Z3 Fc3_bytes hb A3_ar l0 m0) (by decide) pd_5 rfl rfl rfl (Nat.le_of_eq rfl) (by decide) (by decide) (by decide) (by decide) rfl ?_
  intro T4 v4_ L4 X4 hQ4
  obtain ⟨⟨r, rfl, hr⟩, N4q, hh4⟩ := hQ4
  have N4 := Fr.app N3 N4q
  refine g_istore C X4 at_105 #[.val (.int x0), .val (.long x1), .second, .val (.long x2), .second, .val (.long x3), .second, .val (.long x4), .second, .val (.long x5), .second, .val (.int (1 : Int32)), .val (.int (0 : Int32)), .val (.long bd), .second, .val (.long a0_), .second, .val (.long a1_), .second, .val (.long a2_), .second, .val (.long a3_), .second, .val (.ref ar), .val (.ref ad2), .val (.int r), .unset, .unset, .unset, .unset, .unset, .unset, .unset, .unset, .unset, .unset, .unset, .unset, .unset, .unset, .unset, .unset, .unset, .unset] rfl rfl ?_
  refine g_iload C X4 at_107 rfl rfl ?_
  refine g_if C X4 at_109 (by decide) rfl rfl ?_ ?_
  · intro h109
    have h109 : (0 : Int) = 0 := h109
    refine g_iload C X4 at_118 rfl rfl ?_
    refine g_if C X4 at_120 (by decide) rfl rfl ?_ ?_
    · intro h120
      have h120 : (1 : Int) ≤ 0 := h120
      exact absurd h120 (by decide)
    · intro h120
      have h120 : (1 : Int) > 0 := h120
      refine g_lload C X4 at_123 rfl rfl ?_
      refine g_goto C X4 at_125 (by decide) rfl ?_
      refine g_lstore C X4 at_129 #[.val (.int x0), .val (.long x1), .second, .val (.long x2), .second, .val (.long x3), .second, .val (.long x4), .second, .val (.long x5), .second, .val (.int (1 : Int32)), .val (.int (0 : Int32)), .val (.long bd), .second, .val (.long a0_), .second, .val (.long a1_), .second, .val (.long a2_), .second, .val (.long a3_), .second, .val (.ref ar), .val (.ref ad2), .val (.int r), .unset, .val (.long a0_), .second, .unset, .unset, .unset, .unset, .unset, .unset, .unset, .unset, .unset, .unset, .unset, .unset, .unset, .unset, .unset] rfl rfl ?_
      refine g_iload C X4 at_131 rfl rfl ?_
      refine g_iconst C X4 (1 : Int32) at_133 rfl rfl ?_
      refine g_icmp C X4 at_134 (by decide) rfl rfl ?_ ?_
      · intro h134
        have h134 : (1 : Int) ≤ 1 := h134
        refine g_lconst C X4 (0 : Int64) at_142 rfl rfl ?_
        refine g_lstore C X4 at_143 #[.val (.int x0), .val (.long x1), .second, .val (.long x2), .second, .val (.long x3), .second, .val (.long x4), .second, .val (.long x5), .second, .val (.int (1 : Int32)), .val (.int (0 : Int32)), .val (.long bd), .second, .val (.long a0_), .second, .val (.long a1_), .second, .val (.long a2_), .second, .val (.long a3_), .second, .val (.ref ar), .val (.ref ad2), .val (.int r), .unset, .val (.long a0_), .second, .val (.long (0 : Int64)), .second, .unset, .unset, .unset, .unset, .unset, .unset, .unset, .unset, .unset, .unset, .unset, .unset, .unset] rfl rfl ?_
        refine g_iload C X4 at_145 rfl rfl ?_
        refine g_iconst C X4 (2 : Int32) at_147 rfl rfl ?_
        refine g_icmp C X4 at_148 (by decide) rfl rfl ?_ ?_
        · intro h148
          have h148 : (1 : Int) ≤ 2 := h148
          refine g_lconst C X4 (0 : Int64) at_156 rfl rfl ?_
          refine g_lstore C X4 at_157 #[.val (.int x0), .val (.long x1), .second, .val (.long x2), .second, .val (.long x3), .second, .val (.long x4), .second, .val (.long x5), .second, .val (.int (1 : Int32)), .val (.int (0 : Int32)), .val (.long bd), .second, .val (.long a0_), .second, .val (.long a1_), .second, .val (.long a2_), .second, .val (.long a3_), .second, .val (.ref ar), .val (.ref ad2), .val (.int r), .unset, .val (.long a0_), .second, .val (.long (0 : Int64)), .second, .val (.long (0 : Int64)), .second, .unset, .unset, .unset, .unset, .unset, .unset, .unset, .unset, .unset, .unset, .unset] rfl rfl ?_
          refine g_iload C X4 at_159 rfl rfl ?_
          refine g_iconst C X4 (3 : Int32) at_161 rfl rfl ?_
          refine g_icmp C X4 at_162 (by decide) rfl rfl ?_ ?_
          · intro h162
            have h162 : (1 : Int) ≤ 3 := h162
            refine g_lconst C X4 (0 : Int64) at_170 rfl rfl ?_
            refine g_lstore C X4 at_171 #[.val (.int x0), .val (.long x1), .second, .val (.long x2), .second, .val (.long x3), .second, .val (.long x4), .second, .val (.long x5), .second, .val (.int (1 : Int32)), .val (.int (0 : Int32)), .val (.long bd), .second, .val (.long a0_), .second, .val (.long a1_), .second, .val (.long a2_), .second, .val (.long a3_), .second, .val (.ref ar), .val (.ref ad2), .val (.int r), .unset, .val (.long a0_), .second, .val (.long (0 : Int64)), .second, .val (.long (0 : Int64)), .second, .val (.long (0 : Int64)), .second, .unset, .unset, .unset, .unset, .unset, .unset, .unset, .unset, .unset] rfl rfl ?_
            refine g_lload C X4 at_173 rfl rfl ?_
            refine g_lstore C X4 at_175 #[.val (.int x0), .val (.long x1), .second, .val (.long x2), .second, .val (.long x3), .second, .val (.long x4), .second, .val (.long x5), .second, .val (.int (1 : Int32)), .val (.int (0 : Int32)), .val (.long bd), .second, .val (.long a0_), .second, .val (.long a1_), .second, .val (.long a2_), .second, .val (.long a3_), .second, .val (.ref ar), .val (.ref ad2), .val (.int r), .unset, .val (.long a0_), .second, .val (.long (0 : Int64)), .second, .val (.long (0 : Int64)), .second, .val (.long (0 : Int64)), .second, .val (.long (0 : Int64)), .second, .unset, .unset, .unset, .unset, .unset, .unset, .unset] rfl rfl ?_
            refine g_lload C X4 at_177 rfl rfl ?_
            refine g_lload C X4 at_179 rfl rfl ?_
            refine g_ladd C X4 at_181 rfl ?_
            refine g_lstore C X4 at_182 #[.val (.int x0), .val (.long x1), .second, .val (.long x2), .second, .val (.long x3), .second, .val (.long x4), .second, .val (.long x5), .second, .val (.int (1 : Int32)), .val (.int (0 : Int32)), .val (.long bd), .second, .val (.long a0_), .second, .val (.long a1_), .second, .val (.long a2_), .second, .val (.long a3_), .second, .val (.ref ar), .val (.ref ad2), .val (.int r), .unset, .val (.long a0_), .second, .val (.long (0 : Int64)), .second, .val (.long (0 : Int64)), .second, .val (.long (0 : Int64)), .second, .val (.long (0 : Int64)), .second, .val (.long (0 : Int64)), .second, .unset, .unset, .unset, .unset, .unset] rfl rfl ?_
            refine g_lload C X4 at_184 rfl rfl ?_
            refine g_lload C X4 at_186 rfl rfl ?_
            refine g_ladd C X4 at_188 rfl ?_
            refine g_lstore C X4 at_189 #[.val (.int x0), .val (.long x1), .second, .val (.long x2), .second, .val (.long x3), .second, .val (.long x4), .second, .val (.long x5), .second, .val (.int (1 : Int32)), .val (.int (0 : Int32)), .val (.long bd), .second, .val (.long a0_), .second, .val (.long a1_), .second, .val (.long a2_), .second, .val (.long a3_), .second, .val (.ref ar), .val (.ref ad2), .val (.int r), .unset, .val (.long a0_), .second, .val (.long (0 : Int64)), .second, .val (.long (0 : Int64)), .second, .val (.long (0 : Int64)), .second, .val (.long (0 : Int64)), .second, .val (.long (0 : Int64)), .second, .val (.long (0 : Int64)), .second, .unset, .unset, .unset] rfl rfl ?_
            refine g_lload C X4 at_191 rfl rfl ?_
            refine g_lload C X4 at_193 rfl rfl ?_
            refine g_ladd C X4 at_195 rfl ?_
            refine g_lstoreV C X4 at_196 (fun v__ => #[.val (.int x0), .val (.long x1), .second, .val (.long x2), .second, .val (.long x3), .second, .val (.long x4), .second, .val (.long x5), .second, .val (.int (1 : Int32)), .val (.int (0 : Int32)), .val (.long bd), .second, .val (.long a0_), .second, .val (.long a1_), .second, .val (.long a2_), .second, .val (.long a3_), .second, .val (.ref ar), .val (.ref ad2), .val (.int r), .unset, .val (.long a0_), .second, .val (.long (0 : Int64)), .second, .val (.long (0 : Int64)), .second, .val (.long (0 : Int64)), .second, .val (.long (0 : Int64)), .second, .val (.long (0 : Int64)), .second, .val (.long (0 : Int64)), .second, .val (.long v__), .second, .unset]) rfl rfl ?_
            intro v196 h_v196
            have q_v196 := c_ladd a0_ (0 : Int64)
            rw [← h_v196] at q_v196
            have r_v196 := rng64 v196
            rw [show (0 : Int64).toInt = 0 by decide] at q_v196
            have t_v196 : v196.toInt = a0_.toInt + 0 := by omega
            refine g_iconst C X4 (0 : Int32) at_198 rfl rfl ?_
            refine g_istore C X4 at_199 #[.val (.int x0), .val (.long x1), .second, .val (.long x2), .second, .val (.long x3), .second, .val (.long x4), .second, .val (.long x5), .second, .val (.int (1 : Int32)), .val (.int (0 : Int32)), .val (.long bd), .second, .val (.long a0_), .second, .val (.long a1_), .second, .val (.long a2_), .second, .val (.long a3_), .second, .val (.ref ar), .val (.ref ad2), .val (.int r), .unset, .val (.long a0_), .second, .val (.long (0 : Int64)), .second, .val (.long (0 : Int64)), .second, .val (.long (0 : Int64)), .second, .val (.long (0 : Int64)), .second, .val (.long (0 : Int64)), .second, .val (.long (0 : Int64)), .second, .val (.long v196), .second, .val (.int (0 : Int32))] rfl rfl ?_
            refine g_iload C X4 at_201 rfl rfl ?_
            refine g_iconst C X4 (2 : Int32) at_203 rfl rfl ?_
            refine g_icmp C X4 at_204 (by decide) rfl rfl ?_ ?_
            · intro h204
              have h204 : (1 : Int) < 2 := h204
              refine g_iload C X4 at_229 rfl rfl ?_
              refine g_iconst C X4 (3 : Int32) at_231 rfl rfl ?_
              refine g_icmp C X4 at_232 (by decide) rfl rfl ?_ ?_
              · intro h232
                have h232 : (1 : Int) < 3 := h232
                refine g_iload C X4 at_257 rfl rfl ?_
                refine g_iconst C X4 (4 : Int32) at_259 rfl rfl ?_
                refine g_icmp C X4 at_260 (by decide) rfl rfl ?_ ?_
                · intro h260
                  have h260 : (1 : Int) < 4 := h260
                  refine g_iload C X4 at_285 rfl rfl ?_
                  refine g_istore C X4 at_287 #[.val (.int x0), .val (.long x1), .second, .val (.long x2), .second, .val (.long x3), .second, .val (.long x4), .second, .val (.long x5), .second, .val (.int (1 : Int32)), .val (.int (0 : Int32)), .val (.long bd), .second, .val (.long a0_), .second, .val (.long a1_), .second, .val (.long a2_), .second, .val (.long a3_), .second, .val (.ref ar), .val (.ref ad2), .val (.int r), .val (.int (0 : Int32)), .val (.long a0_), .second, .val (.long (0 : Int64)), .second, .val (.long (0 : Int64)), .second, .val (.long (0 : Int64)), .second, .val (.long (0 : Int64)), .second, .val (.long (0 : Int64)), .second, .val (.long (0 : Int64)), .second, .val (.long v196), .second, .val (.int (0 : Int32))] rfl rfl ?_
                  refine g_iload C X4 at_289 rfl rfl ?_
                  refine g_iload C X4 at_291 rfl rfl ?_
                  refine g_icmp C X4 at_293 (by decide) rfl rfl ?_ ?_
                  · intro h293
                    have h293 : ¬ r.toInt = 0 := h293
                    exfalso; omega
                  · intro h293
                    have h293 : r.toInt = 0 := h293
                    refine g_iconst C X4 (1 : Int32) at_296 rfl rfl ?_
                    refine g_goto C X4 at_297 (by decide) rfl ?_
                    exact g_ireturnN C X4 at_301 rfl (Or.inl rfl) ⟨rfl, N4⟩ (by decide) (by decide)
                · intro h260
                  have h260 : (1 : Int) ≥ 4 := h260
                  exact absurd h260 (by decide)
              · intro h232
                have h232 : (1 : Int) ≥ 3 := h232
                exact absurd h232 (by decide)
            · intro h204
              have h204 : (1 : Int) ≥ 2 := h204
              exact absurd h204 (by decide)
          · intro h162
            have h162 : (1 : Int) > 3 := h162
            exact absurd h162 (by decide)
        · intro h148
          have h148 : (1 : Int) > 2 := h148
          exact absurd h148 (by decide)
      · intro h134
        have h134 : (1 : Int) > 1 := h134
        exact absurd h134 (by decide)
  · intro h109
    have h109 : ¬ (0 : Int) = 0 := h109
    exact absurd h109 (by decide)
set_option maxRecDepth 65536 in
set_option maxHeartbeats 40000000 in
theorem seg62_0_2 {p : Program} {l : Launch} {e : Env} {s : State} {m : MethodId} {args : Array Value} {below : List Frame} {meth : Method} {c : Code} {T0 : State} {locs : List Loc} {Z : State} {a0 : Array Value} {h0 : Heap} {n0 : Nat} {x0 : Int32} {x1 x2 x3 x4 x5 a0_ a1_ a2_ a3_ bd : Int64}
    (C : Cx Z a0 p s m meth c code maxLocals "com/example/ballast/ballast/storage/RetentionBeyondBytesPinLaw" "law" ret) (X0 : Stand p l e room_1 s m args below meth c T0 locs 0 0) (e0 : T0.heap = h0) (N0 : Fr n0 locs) (Z0 : n0 ≤ h0.size) (l0 : 0 ≤ a0_.toInt) (m0 : a0_.toInt < 2305843009213693952) (l1 : 0 ≤ a1_.toInt) (m1 : a1_.toInt < 2305843009213693952) (l2 : 0 ≤ a2_.toInt) (m2 : a2_.toInt < 2305843009213693952) (l3 : 0 ≤ a3_.toInt) (m3 : a3_.toInt < 2305843009213693952) (hb : 0 ≤ bd.toInt) :
    Go p e below s m (LQ n0) room_1.cells room_1.slots T0 62 #[.val (.int x0), .val (.long x1), .second, .val (.long x2), .second, .val (.long x3), .second, .val (.long x4), .second, .val (.long x5), .second, .val (.int (2 : Int32)), .val (.int (0 : Int32)), .val (.long bd), .second, .val (.long a0_), .second, .val (.long a1_), .second, .val (.long a2_), .second, .val (.long a3_), .second, .unset, .unset, .unset, .unset, .unset, .unset, .unset, .unset, .unset, .unset, .unset, .unset, .unset, .unset, .unset, .unset, .unset, .unset, .unset, .unset, .unset] [] := by
  refine g_iload C X0 at_62 rfl rfl ?_
  refine g_lload C X0 at_64 rfl rfl ?_
  refine g_lload C X0 at_66 rfl rfl ?_
  refine g_lload C X0 at_68 rfl rfl ?_
  refine g_lload C X0 at_70 rfl rfl ?_
  refine g_callS (argsL := [(.int (2 : Int32)), (.long a0_), (.long a1_), (.long a2_), (.long a3_)]) (rest := []) (W := 0) C X0 at_72 e0 (C.t 1 rfl) (C.t 2 rfl) (C.t 3 rfl) (C.t 4 rfl) (mk2 l Z a0 C.w [] (2 : Int32) a0_ a1_ a2_ a3_ rfl h0 n0 Z0) (by decide) pd_1 rfl rfl rfl (Nat.le_of_eq rfl) (by decide) (by decide) (by decide) (by decide) rfl ?_
  intro T1 v1_ L1 X1 hQ1
  obtain ⟨⟨ar, rfl, gr, hr0, AR⟩, N1q, K1⟩ := hQ1
  have N1 := Fr.app N0 N1q
  have Z1 : n0 ≤ T1.heap.size := Nat.le_trans Z0 K1.1
  refine g_astore C X1 at_75 #[.val (.int x0), .val (.long x1), .second, .val (.long x2), .second, .val (.long x3), .second, .val (.long x4), .second, .val (.long x5), .second, .val (.int (2 : Int32)), .val (.int (0 : Int32)), .val (.long bd), .second, .val (.long a0_), .second, .val (.long a1_), .second, .val (.long a2_), .second, .val (.long a3_), .second, .val (.ref ar), .unset, .unset, .unset, .unset, .unset, .unset, .unset, .unset, .unset, .unset, .unset, .unset, .unset, .unset, .unset, .unset, .unset, .unset, .unset, .unset] rfl rfl ?_
  refine g_new C X1 at_77 rfl (C.t 6 rfl) (C.t 7 rfl) (C.t 8 rfl) (by decide) (by decide) rfl ?_
  intro T2 h2_ X2 e2 E2 lt2 ad2 ha2 EX2 D2
  have Z2 : n0 ≤ h2_.size := Nat.le_trans Z1 E2.1
  have ne_ar_ad2 : ar ≠ ad2 := Nat.ne_of_lt (Nat.lt_of_lt_of_eq AR.lt ha2.symm)
  have A2_ar := AR.ext E2
  have g_ad2 : n0 ≤ ad2 := by omega
  refine g_dup C X2 at_80 rfl rfl ?_
  refine g_ldcL C X2 at_81 (C.t 0 rfl) rfl ?_
  refine g_lload C X2 at_84 rfl rfl ?_
  refine g_lconst C X2 (1 : Int64) at_86 rfl rfl ?_
  refine g_ldcL C X2 at_87 (C.t 9 rfl) rfl ?_
  refine g_ldcL C X2 at_90 (C.t 9 rfl) rfl ?_
  refine g_callC (a := ad2) (argsL := [(.long (-1 : Int64)), (.long bd), (.long (1 : Int64)), (.long (9223372036854775807 : Int64)), (.long (9223372036854775807 : Int64))]) (rest := [(.ref ad2)]) (W := 1) C X2 at_93 e2 rfl (C.t 10 rfl) (C.t 11 rfl) (C.t 8 rfl) (C.t 12 rfl) (rm2 l Z a0 C.w [] ad2 (-1 : Int64) bd (1 : Int64) (9223372036854775807 : Int64) (9223372036854775807 : Int64) h2_ n0 Z2 EX2 D2 g_ad2 ) (by decide) pd_2 rfl rfl rfl (Nat.le_of_eq rfl) (by decide) (by decide) (by decide) (by decide) rfl ?_
  intro T3 v3_ L3 X3 hQ3
  obtain ⟨rfl, N3q, K3, EY3, Fc3_millis, Fc3_bytes, Fc3_checkIntervalMillis, Fc3_rollMillis, Fc3_aheadMillis⟩ := hQ3
  have N3 := Fr.app N1 N3q
  have Z3 : n0 ≤ T3.heap.size := Nat.le_trans Z2 K3.1
  have A3_ar := A2_ar.keep K3 (ninS ne_ar_ad2 nin0)
  refine g_astore C X3 at_96 #[.val (.int x0), .val (.long x1), .second, .val (.long x2), .second, .val (.long x3), .second, .val (.long x4), .second, .val (.long x5), .second, .val (.int (2 : Int32)), .val (.int (0 : Int32)), .val (.long bd), .second, .val (.long a0_), .second, .val (.long a1_), .second, .val (.long a2_), .second, .val (.long a3_), .second, .val (.ref ar), .val (.ref ad2), .unset, .unset, .unset, .unset, .unset, .unset, .unset, .unset, .unset, .unset, .unset, .unset, .unset, .unset, .unset, .unset, .unset, .unset, .unset] rfl rfl ?_
  refine g_aload C X3 at_98 rfl rfl ?_
  refine g_aload C X3 at_100 rfl rfl ?_
  refine g_callV (a := ad2) (argsL := [(.ref ar)]) (rest := []) (W := 0) C X3 at_102 rfl EY3 (C.t 32 rfl) (C.t 34 rfl) (C.t 31 rfl) (C.t 33 rfl) (C.t 8 rfl) (C.t 35 rfl) (bb2 l Z a0 C.w [] ad2 ar bd a0_ a1_ T3.heap n0 Z3 Fc3_bytes hb A3_ar l0 m0 l1 m1) (by decide) pd_5 rfl rfl rfl (Nat.le_of_eq rfl) (by decide) (by decide) (by decide) (by decide) rfl ?_
  intro T4 v4_ L4 X4 hQ4
  obtain ⟨⟨r, rfl, hr⟩, N4q, hh4⟩ := hQ4
  have N4 := Fr.app N3 N4q
  refine g_istore C X4 at_105 #[.val (.int x0), .val (.long x1), .second, .val (.long x2), .second, .val (.long x3), .second, .val (.long x4), .second, .val (.long x5), .second, .val (.int (2 : Int32)), .val (.int (0 : Int32)), .val (.long bd), .second, .val (.long a0_), .second, .val (.long a1_), .second, .val (.long a2_), .second, .val (.long a3_), .second, .val (.ref ar), .val (.ref ad2), .val (.int r), .unset, .unset, .unset, .unset, .unset, .unset, .unset, .unset, .unset, .unset, .unset, .unset, .unset, .unset, .unset, .unset, .unset, .unset] rfl rfl ?_
  refine g_iload C X4 at_107 rfl rfl ?_
  refine g_if C X4 at_109 (by decide) rfl rfl ?_ ?_
  · intro h109
    have h109 : (0 : Int) = 0 := h109
    refine g_iload C X4 at_118 rfl rfl ?_
    refine g_if C X4 at_120 (by decide) rfl rfl ?_ ?_
    · intro h120
      have h120 : (2 : Int) ≤ 0 := h120
      exact absurd h120 (by decide)
    · intro h120
      have h120 : (2 : Int) > 0 := h120
      refine g_lload C X4 at_123 rfl rfl ?_
      refine g_goto C X4 at_125 (by decide) rfl ?_
      refine g_lstore C X4 at_129 #[.val (.int x0), .val (.long x1), .second, .val (.long x2), .second, .val (.long x3), .second, .val (.long x4), .second, .val (.long x5), .second, .val (.int (2 : Int32)), .val (.int (0 : Int32)), .val (.long bd), .second, .val (.long a0_), .second, .val (.long a1_), .second, .val (.long a2_), .second, .val (.long a3_), .second, .val (.ref ar), .val (.ref ad2), .val (.int r), .unset, .val (.long a0_), .second, .unset, .unset, .unset, .unset, .unset, .unset, .unset, .unset, .unset, .unset, .unset, .unset, .unset, .unset, .unset] rfl rfl ?_
      refine g_iload C X4 at_131 rfl rfl ?_
      refine g_iconst C X4 (1 : Int32) at_133 rfl rfl ?_
      refine g_icmp C X4 at_134 (by decide) rfl rfl ?_ ?_
      · intro h134
        have h134 : (2 : Int) ≤ 1 := h134
        exact absurd h134 (by decide)
      · intro h134
        have h134 : (2 : Int) > 1 := h134
        refine g_lload C X4 at_137 rfl rfl ?_
        refine g_goto C X4 at_139 (by decide) rfl ?_
        refine g_lstore C X4 at_143 #[.val (.int x0), .val (.long x1), .second, .val (.long x2), .second, .val (.long x3), .second, .val (.long x4), .second, .val (.long x5), .second, .val (.int (2 : Int32)), .val (.int (0 : Int32)), .val (.long bd), .second, .val (.long a0_), .second, .val (.long a1_), .second, .val (.long a2_), .second, .val (.long a3_), .second, .val (.ref ar), .val (.ref ad2), .val (.int r), .unset, .val (.long a0_), .second, .val (.long a1_), .second, .unset, .unset, .unset, .unset, .unset, .unset, .unset, .unset, .unset, .unset, .unset, .unset, .unset] rfl rfl ?_
        refine g_iload C X4 at_145 rfl rfl ?_
        refine g_iconst C X4 (2 : Int32) at_147 rfl rfl ?_
        refine g_icmp C X4 at_148 (by decide) rfl rfl ?_ ?_
        · intro h148
          have h148 : (2 : Int) ≤ 2 := h148
          refine g_lconst C X4 (0 : Int64) at_156 rfl rfl ?_
          refine g_lstore C X4 at_157 #[.val (.int x0), .val (.long x1), .second, .val (.long x2), .second, .val (.long x3), .second, .val (.long x4), .second, .val (.long x5), .second, .val (.int (2 : Int32)), .val (.int (0 : Int32)), .val (.long bd), .second, .val (.long a0_), .second, .val (.long a1_), .second, .val (.long a2_), .second, .val (.long a3_), .second, .val (.ref ar), .val (.ref ad2), .val (.int r), .unset, .val (.long a0_), .second, .val (.long a1_), .second, .val (.long (0 : Int64)), .second, .unset, .unset, .unset, .unset, .unset, .unset, .unset, .unset, .unset, .unset, .unset] rfl rfl ?_
          refine g_iload C X4 at_159 rfl rfl ?_
          refine g_iconst C X4 (3 : Int32) at_161 rfl rfl ?_
          refine g_icmp C X4 at_162 (by decide) rfl rfl ?_ ?_
          · intro h162
            have h162 : (2 : Int) ≤ 3 := h162
            refine g_lconst C X4 (0 : Int64) at_170 rfl rfl ?_
            refine g_lstore C X4 at_171 #[.val (.int x0), .val (.long x1), .second, .val (.long x2), .second, .val (.long x3), .second, .val (.long x4), .second, .val (.long x5), .second, .val (.int (2 : Int32)), .val (.int (0 : Int32)), .val (.long bd), .second, .val (.long a0_), .second, .val (.long a1_), .second, .val (.long a2_), .second, .val (.long a3_), .second, .val (.ref ar), .val (.ref ad2), .val (.int r), .unset, .val (.long a0_), .second, .val (.long a1_), .second, .val (.long (0 : Int64)), .second, .val (.long (0 : Int64)), .second, .unset, .unset, .unset, .unset, .unset, .unset, .unset, .unset, .unset] rfl rfl ?_
            refine g_lload C X4 at_173 rfl rfl ?_
            refine g_lstore C X4 at_175 #[.val (.int x0), .val (.long x1), .second, .val (.long x2), .second, .val (.long x3), .second, .val (.long x4), .second, .val (.long x5), .second, .val (.int (2 : Int32)), .val (.int (0 : Int32)), .val (.long bd), .second, .val (.long a0_), .second, .val (.long a1_), .second, .val (.long a2_), .second, .val (.long a3_), .second, .val (.ref ar), .val (.ref ad2), .val (.int r), .unset, .val (.long a0_), .second, .val (.long a1_), .second, .val (.long (0 : Int64)), .second, .val (.long (0 : Int64)), .second, .val (.long (0 : Int64)), .second, .unset, .unset, .unset, .unset, .unset, .unset, .unset] rfl rfl ?_
            refine g_lload C X4 at_177 rfl rfl ?_
            refine g_lload C X4 at_179 rfl rfl ?_
            refine g_ladd C X4 at_181 rfl ?_
            refine g_lstore C X4 at_182 #[.val (.int x0), .val (.long x1), .second, .val (.long x2), .second, .val (.long x3), .second, .val (.long x4), .second, .val (.long x5), .second, .val (.int (2 : Int32)), .val (.int (0 : Int32)), .val (.long bd), .second, .val (.long a0_), .second, .val (.long a1_), .second, .val (.long a2_), .second, .val (.long a3_), .second, .val (.ref ar), .val (.ref ad2), .val (.int r), .unset, .val (.long a0_), .second, .val (.long a1_), .second, .val (.long (0 : Int64)), .second, .val (.long (0 : Int64)), .second, .val (.long (0 : Int64)), .second, .val (.long (0 : Int64)), .second, .unset, .unset, .unset, .unset, .unset] rfl rfl ?_
            refine g_lload C X4 at_184 rfl rfl ?_
            refine g_lload C X4 at_186 rfl rfl ?_
            refine g_ladd C X4 at_188 rfl ?_
            refine g_lstoreV C X4 at_189 (fun v__ => #[.val (.int x0), .val (.long x1), .second, .val (.long x2), .second, .val (.long x3), .second, .val (.long x4), .second, .val (.long x5), .second, .val (.int (2 : Int32)), .val (.int (0 : Int32)), .val (.long bd), .second, .val (.long a0_), .second, .val (.long a1_), .second, .val (.long a2_), .second, .val (.long a3_), .second, .val (.ref ar), .val (.ref ad2), .val (.int r), .unset, .val (.long a0_), .second, .val (.long a1_), .second, .val (.long (0 : Int64)), .second, .val (.long (0 : Int64)), .second, .val (.long (0 : Int64)), .second, .val (.long (0 : Int64)), .second, .val (.long v__), .second, .unset, .unset, .unset]) rfl rfl ?_
            intro v189 h_v189
            have q_v189 := c_ladd a1_ (0 : Int64)
            rw [← h_v189] at q_v189
            have r_v189 := rng64 v189
            rw [show (0 : Int64).toInt = 0 by decide] at q_v189
            have t_v189 : v189.toInt = a1_.toInt + 0 := by omega
            refine g_lload C X4 at_191 rfl rfl ?_
            refine g_lload C X4 at_193 rfl rfl ?_
            refine g_ladd C X4 at_195 rfl ?_
            refine g_lstoreV C X4 at_196 (fun v__ => #[.val (.int x0), .val (.long x1), .second, .val (.long x2), .second, .val (.long x3), .second, .val (.long x4), .second, .val (.long x5), .second, .val (.int (2 : Int32)), .val (.int (0 : Int32)), .val (.long bd), .second, .val (.long a0_), .second, .val (.long a1_), .second, .val (.long a2_), .second, .val (.long a3_), .second, .val (.ref ar), .val (.ref ad2), .val (.int r), .unset, .val (.long a0_), .second, .val (.long a1_), .second, .val (.long (0 : Int64)), .second, .val (.long (0 : Int64)), .second, .val (.long (0 : Int64)), .second, .val (.long (0 : Int64)), .second, .val (.long v189), .second, .val (.long v__), .second, .unset]) rfl rfl ?_
            intro v196 h_v196
            have q_v196 := c_ladd a0_ v189
            rw [← h_v196] at q_v196
            have r_v196 := rng64 v196
            have t_v196 : v196.toInt = a0_.toInt + v189.toInt := by omega
            refine g_iconst C X4 (0 : Int32) at_198 rfl rfl ?_
            refine g_istore C X4 at_199 #[.val (.int x0), .val (.long x1), .second, .val (.long x2), .second, .val (.long x3), .second, .val (.long x4), .second, .val (.long x5), .second, .val (.int (2 : Int32)), .val (.int (0 : Int32)), .val (.long bd), .second, .val (.long a0_), .second, .val (.long a1_), .second, .val (.long a2_), .second, .val (.long a3_), .second, .val (.ref ar), .val (.ref ad2), .val (.int r), .unset, .val (.long a0_), .second, .val (.long a1_), .second, .val (.long (0 : Int64)), .second, .val (.long (0 : Int64)), .second, .val (.long (0 : Int64)), .second, .val (.long (0 : Int64)), .second, .val (.long v189), .second, .val (.long v196), .second, .val (.int (0 : Int32))] rfl rfl ?_
            refine g_iload C X4 at_201 rfl rfl ?_
            refine g_iconst C X4 (2 : Int32) at_203 rfl rfl ?_
            refine g_icmp C X4 at_204 (by decide) rfl rfl ?_ ?_
            · intro h204
              have h204 : (2 : Int) < 2 := h204
              exact absurd h204 (by decide)
            · intro h204
              have h204 : (2 : Int) ≥ 2 := h204
              refine g_lload C X4 at_207 rfl rfl ?_
              refine g_lload C X4 at_209 rfl rfl ?_
              refine g_lcmpif C X4 at_211 rfl at_212 (by decide) rfl rfl ?_ ?_
              · intro h212
                have h212 : v196.toInt ≤ bd.toInt := h212
                refine g_iload C X4 at_229 rfl rfl ?_
                refine g_iconst C X4 (3 : Int32) at_231 rfl rfl ?_
                refine g_icmp C X4 at_232 (by decide) rfl rfl ?_ ?_
                · intro h232
                  have h232 : (2 : Int) < 3 := h232
                  refine g_iload C X4 at_257 rfl rfl ?_
                  refine g_iconst C X4 (4 : Int32) at_259 rfl rfl ?_
                  refine g_icmp C X4 at_260 (by decide) rfl rfl ?_ ?_
                  · intro h260
                    have h260 : (2 : Int) < 4 := h260
                    refine g_iload C X4 at_285 rfl rfl ?_
                    refine g_istore C X4 at_287 #[.val (.int x0), .val (.long x1), .second, .val (.long x2), .second, .val (.long x3), .second, .val (.long x4), .second, .val (.long x5), .second, .val (.int (2 : Int32)), .val (.int (0 : Int32)), .val (.long bd), .second, .val (.long a0_), .second, .val (.long a1_), .second, .val (.long a2_), .second, .val (.long a3_), .second, .val (.ref ar), .val (.ref ad2), .val (.int r), .val (.int (0 : Int32)), .val (.long a0_), .second, .val (.long a1_), .second, .val (.long (0 : Int64)), .second, .val (.long (0 : Int64)), .second, .val (.long (0 : Int64)), .second, .val (.long (0 : Int64)), .second, .val (.long v189), .second, .val (.long v196), .second, .val (.int (0 : Int32))] rfl rfl ?_
                    refine g_iload C X4 at_289 rfl rfl ?_
                    refine g_iload C X4 at_291 rfl rfl ?_
                    refine g_icmp C X4 at_293 (by decide) rfl rfl ?_ ?_
                    · intro h293
                      have h293 : ¬ r.toInt = 0 := h293
                      exfalso; omega
                    · intro h293
                      have h293 : r.toInt = 0 := h293
                      refine g_iconst C X4 (1 : Int32) at_296 rfl rfl ?_
                      refine g_goto C X4 at_297 (by decide) rfl ?_
                      exact g_ireturnN C X4 at_301 rfl (Or.inl rfl) ⟨rfl, N4⟩ (by decide) (by decide)
                  · intro h260
                    have h260 : (2 : Int) ≥ 4 := h260
                    exact absurd h260 (by decide)
                · intro h232
                  have h232 : (2 : Int) ≥ 3 := h232
                  exact absurd h232 (by decide)
              · intro h212
                have h212 : v196.toInt > bd.toInt := h212
                refine g_lload C X4 at_215 rfl rfl ?_
                refine g_lload C X4 at_217 rfl rfl ?_
                refine g_lcmpif C X4 at_219 rfl at_220 (by decide) rfl rfl ?_ ?_
                · intro h220
                  have h220 : v189.toInt < bd.toInt := h220
                  refine g_iload C X4 at_229 rfl rfl ?_
                  refine g_iconst C X4 (3 : Int32) at_231 rfl rfl ?_
                  refine g_icmp C X4 at_232 (by decide) rfl rfl ?_ ?_
                  · intro h232
                    have h232 : (2 : Int) < 3 := h232
                    refine g_iload C X4 at_257 rfl rfl ?_
                    refine g_iconst C X4 (4 : Int32) at_259 rfl rfl ?_
                    refine g_icmp C X4 at_260 (by decide) rfl rfl ?_ ?_
                    · intro h260
                      have h260 : (2 : Int) < 4 := h260
                      refine g_iload C X4 at_285 rfl rfl ?_
                      refine g_istore C X4 at_287 #[.val (.int x0), .val (.long x1), .second, .val (.long x2), .second, .val (.long x3), .second, .val (.long x4), .second, .val (.long x5), .second, .val (.int (2 : Int32)), .val (.int (0 : Int32)), .val (.long bd), .second, .val (.long a0_), .second, .val (.long a1_), .second, .val (.long a2_), .second, .val (.long a3_), .second, .val (.ref ar), .val (.ref ad2), .val (.int r), .val (.int (0 : Int32)), .val (.long a0_), .second, .val (.long a1_), .second, .val (.long (0 : Int64)), .second, .val (.long (0 : Int64)), .second, .val (.long (0 : Int64)), .second, .val (.long (0 : Int64)), .second, .val (.long v189), .second, .val (.long v196), .second, .val (.int (0 : Int32))] rfl rfl ?_
                      refine g_iload C X4 at_289 rfl rfl ?_
                      refine g_iload C X4 at_291 rfl rfl ?_
                      refine g_icmp C X4 at_293 (by decide) rfl rfl ?_ ?_
                      · intro h293
                        have h293 : ¬ r.toInt = 0 := h293
                        exfalso; omega
                      · intro h293
                        have h293 : r.toInt = 0 := h293
                        refine g_iconst C X4 (1 : Int32) at_296 rfl rfl ?_
                        refine g_goto C X4 at_297 (by decide) rfl ?_
                        exact g_ireturnN C X4 at_301 rfl (Or.inl rfl) ⟨rfl, N4⟩ (by decide) (by decide)
                    · intro h260
                      have h260 : (2 : Int) ≥ 4 := h260
                      exact absurd h260 (by decide)
                  · intro h232
                    have h232 : (2 : Int) ≥ 3 := h232
                    exact absurd h232 (by decide)
                · intro h220
                  have h220 : v189.toInt ≥ bd.toInt := h220
                  refine g_iload C X4 at_223 rfl rfl ?_
                  refine g_iconst C X4 (1 : Int32) at_225 rfl rfl ?_
                  refine g_iadd C X4 at_226 rfl ?_
                  refine g_istore C X4 at_227 #[.val (.int x0), .val (.long x1), .second, .val (.long x2), .second, .val (.long x3), .second, .val (.long x4), .second, .val (.long x5), .second, .val (.int (2 : Int32)), .val (.int (0 : Int32)), .val (.long bd), .second, .val (.long a0_), .second, .val (.long a1_), .second, .val (.long a2_), .second, .val (.long a3_), .second, .val (.ref ar), .val (.ref ad2), .val (.int r), .unset, .val (.long a0_), .second, .val (.long a1_), .second, .val (.long (0 : Int64)), .second, .val (.long (0 : Int64)), .second, .val (.long (0 : Int64)), .second, .val (.long (0 : Int64)), .second, .val (.long v189), .second, .val (.long v196), .second, .val (.int (1 : Int32))] rfl rfl ?_
                  refine g_iload C X4 at_229 rfl rfl ?_
                  refine g_iconst C X4 (3 : Int32) at_231 rfl rfl ?_
                  refine g_icmp C X4 at_232 (by decide) rfl rfl ?_ ?_
                  · intro h232
                    have h232 : (2 : Int) < 3 := h232
                    refine g_iload C X4 at_257 rfl rfl ?_
                    refine g_iconst C X4 (4 : Int32) at_259 rfl rfl ?_
                    refine g_icmp C X4 at_260 (by decide) rfl rfl ?_ ?_
                    · intro h260
                      have h260 : (2 : Int) < 4 := h260
                      refine g_iload C X4 at_285 rfl rfl ?_
                      refine g_istore C X4 at_287 #[.val (.int x0), .val (.long x1), .second, .val (.long x2), .second, .val (.long x3), .second, .val (.long x4), .second, .val (.long x5), .second, .val (.int (2 : Int32)), .val (.int (0 : Int32)), .val (.long bd), .second, .val (.long a0_), .second, .val (.long a1_), .second, .val (.long a2_), .second, .val (.long a3_), .second, .val (.ref ar), .val (.ref ad2), .val (.int r), .val (.int (1 : Int32)), .val (.long a0_), .second, .val (.long a1_), .second, .val (.long (0 : Int64)), .second, .val (.long (0 : Int64)), .second, .val (.long (0 : Int64)), .second, .val (.long (0 : Int64)), .second, .val (.long v189), .second, .val (.long v196), .second, .val (.int (1 : Int32))] rfl rfl ?_
                      refine g_iload C X4 at_289 rfl rfl ?_
                      refine g_iload C X4 at_291 rfl rfl ?_
                      refine g_icmp C X4 at_293 (by decide) rfl rfl ?_ ?_
                      · intro h293
                        have h293 : ¬ r.toInt = 1 := h293
                        exfalso; omega
                      · intro h293
                        have h293 : r.toInt = 1 := h293
                        refine g_iconst C X4 (1 : Int32) at_296 rfl rfl ?_
                        refine g_goto C X4 at_297 (by decide) rfl ?_
                        exact g_ireturnN C X4 at_301 rfl (Or.inl rfl) ⟨rfl, N4⟩ (by decide) (by decide)
                    · intro h260
                      have h260 : (2 : Int) ≥ 4 := h260
                      exact absurd h260 (by decide)
                  · intro h232
                    have h232 : (2 : Int) ≥ 3 := h232
                    exact absurd h232 (by decide)
          · intro h162
            have h162 : (2 : Int) > 3 := h162
            exact absurd h162 (by decide)
        · intro h148
          have h148 : (2 : Int) > 2 := h148
          exact absurd h148 (by decide)
  · intro h109
    have h109 : ¬ (0 : Int) = 0 := h109
    exact absurd h109 (by decide)
set_option maxRecDepth 65536 in
set_option maxHeartbeats 40000000 in
theorem seg62_0_3 {p : Program} {l : Launch} {e : Env} {s : State} {m : MethodId} {args : Array Value} {below : List Frame} {meth : Method} {c : Code} {T0 : State} {locs : List Loc} {Z : State} {a0 : Array Value} {h0 : Heap} {n0 : Nat} {x0 : Int32} {x1 x2 x3 x4 x5 a0_ a1_ a2_ a3_ bd : Int64}
    (C : Cx Z a0 p s m meth c code maxLocals "com/example/ballast/ballast/storage/RetentionBeyondBytesPinLaw" "law" ret) (X0 : Stand p l e room_1 s m args below meth c T0 locs 0 0) (e0 : T0.heap = h0) (N0 : Fr n0 locs) (Z0 : n0 ≤ h0.size) (l0 : 0 ≤ a0_.toInt) (m0 : a0_.toInt < 2305843009213693952) (l1 : 0 ≤ a1_.toInt) (m1 : a1_.toInt < 2305843009213693952) (l2 : 0 ≤ a2_.toInt) (m2 : a2_.toInt < 2305843009213693952) (l3 : 0 ≤ a3_.toInt) (m3 : a3_.toInt < 2305843009213693952) (hb : 0 ≤ bd.toInt) :
    Go p e below s m (LQ n0) room_1.cells room_1.slots T0 62 #[.val (.int x0), .val (.long x1), .second, .val (.long x2), .second, .val (.long x3), .second, .val (.long x4), .second, .val (.long x5), .second, .val (.int (3 : Int32)), .val (.int (0 : Int32)), .val (.long bd), .second, .val (.long a0_), .second, .val (.long a1_), .second, .val (.long a2_), .second, .val (.long a3_), .second, .unset, .unset, .unset, .unset, .unset, .unset, .unset, .unset, .unset, .unset, .unset, .unset, .unset, .unset, .unset, .unset, .unset, .unset, .unset, .unset, .unset] [] := by
  refine g_iload C X0 at_62 rfl rfl ?_
  refine g_lload C X0 at_64 rfl rfl ?_
  refine g_lload C X0 at_66 rfl rfl ?_
  refine g_lload C X0 at_68 rfl rfl ?_
  refine g_lload C X0 at_70 rfl rfl ?_
  refine g_callS (argsL := [(.int (3 : Int32)), (.long a0_), (.long a1_), (.long a2_), (.long a3_)]) (rest := []) (W := 0) C X0 at_72 e0 (C.t 1 rfl) (C.t 2 rfl) (C.t 3 rfl) (C.t 4 rfl) (mk3 l Z a0 C.w [] (3 : Int32) a0_ a1_ a2_ a3_ rfl h0 n0 Z0) (by decide) pd_1 rfl rfl rfl (Nat.le_of_eq rfl) (by decide) (by decide) (by decide) (by decide) rfl ?_
  intro T1 v1_ L1 X1 hQ1
  obtain ⟨⟨ar, rfl, gr, hr0, AR⟩, N1q, K1⟩ := hQ1
  have N1 := Fr.app N0 N1q
  have Z1 : n0 ≤ T1.heap.size := Nat.le_trans Z0 K1.1
  refine g_astore C X1 at_75 #[.val (.int x0), .val (.long x1), .second, .val (.long x2), .second, .val (.long x3), .second, .val (.long x4), .second, .val (.long x5), .second, .val (.int (3 : Int32)), .val (.int (0 : Int32)), .val (.long bd), .second, .val (.long a0_), .second, .val (.long a1_), .second, .val (.long a2_), .second, .val (.long a3_), .second, .val (.ref ar), .unset, .unset, .unset, .unset, .unset, .unset, .unset, .unset, .unset, .unset, .unset, .unset, .unset, .unset, .unset, .unset, .unset, .unset, .unset, .unset] rfl rfl ?_
  refine g_new C X1 at_77 rfl (C.t 6 rfl) (C.t 7 rfl) (C.t 8 rfl) (by decide) (by decide) rfl ?_
  intro T2 h2_ X2 e2 E2 lt2 ad2 ha2 EX2 D2
  have Z2 : n0 ≤ h2_.size := Nat.le_trans Z1 E2.1
  have ne_ar_ad2 : ar ≠ ad2 := Nat.ne_of_lt (Nat.lt_of_lt_of_eq AR.lt ha2.symm)
  have A2_ar := AR.ext E2
  have g_ad2 : n0 ≤ ad2 := by omega
  refine g_dup C X2 at_80 rfl rfl ?_
  refine g_ldcL C X2 at_81 (C.t 0 rfl) rfl ?_
  refine g_lload C X2 at_84 rfl rfl ?_
  refine g_lconst C X2 (1 : Int64) at_86 rfl rfl ?_
  refine g_ldcL C X2 at_87 (C.t 9 rfl) rfl ?_
  refine g_ldcL C X2 at_90 (C.t 9 rfl) rfl ?_
  refine g_callC (a := ad2) (argsL := [(.long (-1 : Int64)), (.long bd), (.long (1 : Int64)), (.long (9223372036854775807 : Int64)), (.long (9223372036854775807 : Int64))]) (rest := [(.ref ad2)]) (W := 1) C X2 at_93 e2 rfl (C.t 10 rfl) (C.t 11 rfl) (C.t 8 rfl) (C.t 12 rfl) (rm2 l Z a0 C.w [] ad2 (-1 : Int64) bd (1 : Int64) (9223372036854775807 : Int64) (9223372036854775807 : Int64) h2_ n0 Z2 EX2 D2 g_ad2 ) (by decide) pd_2 rfl rfl rfl (Nat.le_of_eq rfl) (by decide) (by decide) (by decide) (by decide) rfl ?_
  intro T3 v3_ L3 X3 hQ3
  obtain ⟨rfl, N3q, K3, EY3, Fc3_millis, Fc3_bytes, Fc3_checkIntervalMillis, Fc3_rollMillis, Fc3_aheadMillis⟩ := hQ3
  have N3 := Fr.app N1 N3q
  have Z3 : n0 ≤ T3.heap.size := Nat.le_trans Z2 K3.1
  have A3_ar := A2_ar.keep K3 (ninS ne_ar_ad2 nin0)
  refine g_astore C X3 at_96 #[.val (.int x0), .val (.long x1), .second, .val (.long x2), .second, .val (.long x3), .second, .val (.long x4), .second, .val (.long x5), .second, .val (.int (3 : Int32)), .val (.int (0 : Int32)), .val (.long bd), .second, .val (.long a0_), .second, .val (.long a1_), .second, .val (.long a2_), .second, .val (.long a3_), .second, .val (.ref ar), .val (.ref ad2), .unset, .unset, .unset, .unset, .unset, .unset, .unset, .unset, .unset, .unset, .unset, .unset, .unset, .unset, .unset, .unset, .unset, .unset, .unset] rfl rfl ?_
  refine g_aload C X3 at_98 rfl rfl ?_
  refine g_aload C X3 at_100 rfl rfl ?_
  refine g_callV (a := ad2) (argsL := [(.ref ar)]) (rest := []) (W := 0) C X3 at_102 rfl EY3 (C.t 32 rfl) (C.t 34 rfl) (C.t 31 rfl) (C.t 33 rfl) (C.t 8 rfl) (C.t 35 rfl) (bb3 l Z a0 C.w [] ad2 ar bd a0_ a1_ a2_ T3.heap n0 Z3 Fc3_bytes hb A3_ar l0 m0 l1 m1 l2 m2) (by decide) pd_5 rfl rfl rfl (Nat.le_of_eq rfl) (by decide) (by decide) (by decide) (by decide) rfl ?_
  intro T4 v4_ L4 X4 hQ4
  obtain ⟨⟨r, rfl, hr⟩, N4q, hh4⟩ := hQ4
  have N4 := Fr.app N3 N4q
  refine g_istore C X4 at_105 #[.val (.int x0), .val (.long x1), .second, .val (.long x2), .second, .val (.long x3), .second, .val (.long x4), .second, .val (.long x5), .second, .val (.int (3 : Int32)), .val (.int (0 : Int32)), .val (.long bd), .second, .val (.long a0_), .second, .val (.long a1_), .second, .val (.long a2_), .second, .val (.long a3_), .second, .val (.ref ar), .val (.ref ad2), .val (.int r), .unset, .unset, .unset, .unset, .unset, .unset, .unset, .unset, .unset, .unset, .unset, .unset, .unset, .unset, .unset, .unset, .unset, .unset] rfl rfl ?_
  refine g_iload C X4 at_107 rfl rfl ?_
  refine g_if C X4 at_109 (by decide) rfl rfl ?_ ?_
  · intro h109
    have h109 : (0 : Int) = 0 := h109
    refine g_iload C X4 at_118 rfl rfl ?_
    refine g_if C X4 at_120 (by decide) rfl rfl ?_ ?_
    · intro h120
      have h120 : (3 : Int) ≤ 0 := h120
      exact absurd h120 (by decide)
    · intro h120
      have h120 : (3 : Int) > 0 := h120
      refine g_lload C X4 at_123 rfl rfl ?_
      refine g_goto C X4 at_125 (by decide) rfl ?_
      refine g_lstore C X4 at_129 #[.val (.int x0), .val (.long x1), .second, .val (.long x2), .second, .val (.long x3), .second, .val (.long x4), .second, .val (.long x5), .second, .val (.int (3 : Int32)), .val (.int (0 : Int32)), .val (.long bd), .second, .val (.long a0_), .second, .val (.long a1_), .second, .val (.long a2_), .second, .val (.long a3_), .second, .val (.ref ar), .val (.ref ad2), .val (.int r), .unset, .val (.long a0_), .second, .unset, .unset, .unset, .unset, .unset, .unset, .unset, .unset, .unset, .unset, .unset, .unset, .unset, .unset, .unset] rfl rfl ?_
      refine g_iload C X4 at_131 rfl rfl ?_
      refine g_iconst C X4 (1 : Int32) at_133 rfl rfl ?_
      refine g_icmp C X4 at_134 (by decide) rfl rfl ?_ ?_
      · intro h134
        have h134 : (3 : Int) ≤ 1 := h134
        exact absurd h134 (by decide)
      · intro h134
        have h134 : (3 : Int) > 1 := h134
        refine g_lload C X4 at_137 rfl rfl ?_
        refine g_goto C X4 at_139 (by decide) rfl ?_
        refine g_lstore C X4 at_143 #[.val (.int x0), .val (.long x1), .second, .val (.long x2), .second, .val (.long x3), .second, .val (.long x4), .second, .val (.long x5), .second, .val (.int (3 : Int32)), .val (.int (0 : Int32)), .val (.long bd), .second, .val (.long a0_), .second, .val (.long a1_), .second, .val (.long a2_), .second, .val (.long a3_), .second, .val (.ref ar), .val (.ref ad2), .val (.int r), .unset, .val (.long a0_), .second, .val (.long a1_), .second, .unset, .unset, .unset, .unset, .unset, .unset, .unset, .unset, .unset, .unset, .unset, .unset, .unset] rfl rfl ?_
        refine g_iload C X4 at_145 rfl rfl ?_
        refine g_iconst C X4 (2 : Int32) at_147 rfl rfl ?_
        refine g_icmp C X4 at_148 (by decide) rfl rfl ?_ ?_
        · intro h148
          have h148 : (3 : Int) ≤ 2 := h148
          exact absurd h148 (by decide)
        · intro h148
          have h148 : (3 : Int) > 2 := h148
          refine g_lload C X4 at_151 rfl rfl ?_
          refine g_goto C X4 at_153 (by decide) rfl ?_
          refine g_lstore C X4 at_157 #[.val (.int x0), .val (.long x1), .second, .val (.long x2), .second, .val (.long x3), .second, .val (.long x4), .second, .val (.long x5), .second, .val (.int (3 : Int32)), .val (.int (0 : Int32)), .val (.long bd), .second, .val (.long a0_), .second, .val (.long a1_), .second, .val (.long a2_), .second, .val (.long a3_), .second, .val (.ref ar), .val (.ref ad2), .val (.int r), .unset, .val (.long a0_), .second, .val (.long a1_), .second, .val (.long a2_), .second, .unset, .unset, .unset, .unset, .unset, .unset, .unset, .unset, .unset, .unset, .unset] rfl rfl ?_
          refine g_iload C X4 at_159 rfl rfl ?_
          refine g_iconst C X4 (3 : Int32) at_161 rfl rfl ?_
          refine g_icmp C X4 at_162 (by decide) rfl rfl ?_ ?_
          · intro h162
            have h162 : (3 : Int) ≤ 3 := h162
            refine g_lconst C X4 (0 : Int64) at_170 rfl rfl ?_
            refine g_lstore C X4 at_171 #[.val (.int x0), .val (.long x1), .second, .val (.long x2), .second, .val (.long x3), .second, .val (.long x4), .second, .val (.long x5), .second, .val (.int (3 : Int32)), .val (.int (0 : Int32)), .val (.long bd), .second, .val (.long a0_), .second, .val (.long a1_), .second, .val (.long a2_), .second, .val (.long a3_), .second, .val (.ref ar), .val (.ref ad2), .val (.int r), .unset, .val (.long a0_), .second, .val (.long a1_), .second, .val (.long a2_), .second, .val (.long (0 : Int64)), .second, .unset, .unset, .unset, .unset, .unset, .unset, .unset, .unset, .unset] rfl rfl ?_
            refine g_lload C X4 at_173 rfl rfl ?_
            refine g_lstore C X4 at_175 #[.val (.int x0), .val (.long x1), .second, .val (.long x2), .second, .val (.long x3), .second, .val (.long x4), .second, .val (.long x5), .second, .val (.int (3 : Int32)), .val (.int (0 : Int32)), .val (.long bd), .second, .val (.long a0_), .second, .val (.long a1_), .second, .val (.long a2_), .second, .val (.long a3_), .second, .val (.ref ar), .val (.ref ad2), .val (.int r), .unset, .val (.long a0_), .second, .val (.long a1_), .second, .val (.long a2_), .second, .val (.long (0 : Int64)), .second, .val (.long (0 : Int64)), .second, .unset, .unset, .unset, .unset, .unset, .unset, .unset] rfl rfl ?_
            refine g_lload C X4 at_177 rfl rfl ?_
            refine g_lload C X4 at_179 rfl rfl ?_
            refine g_ladd C X4 at_181 rfl ?_
            refine g_lstoreV C X4 at_182 (fun v__ => #[.val (.int x0), .val (.long x1), .second, .val (.long x2), .second, .val (.long x3), .second, .val (.long x4), .second, .val (.long x5), .second, .val (.int (3 : Int32)), .val (.int (0 : Int32)), .val (.long bd), .second, .val (.long a0_), .second, .val (.long a1_), .second, .val (.long a2_), .second, .val (.long a3_), .second, .val (.ref ar), .val (.ref ad2), .val (.int r), .unset, .val (.long a0_), .second, .val (.long a1_), .second, .val (.long a2_), .second, .val (.long (0 : Int64)), .second, .val (.long (0 : Int64)), .second, .val (.long v__), .second, .unset, .unset, .unset, .unset, .unset]) rfl rfl ?_
            intro v182 h_v182
            have q_v182 := c_ladd a2_ (0 : Int64)
            rw [← h_v182] at q_v182
            have r_v182 := rng64 v182
            rw [show (0 : Int64).toInt = 0 by decide] at q_v182
            have t_v182 : v182.toInt = a2_.toInt + 0 := by omega
            refine g_lload C X4 at_184 rfl rfl ?_
            refine g_lload C X4 at_186 rfl rfl ?_
            refine g_ladd C X4 at_188 rfl ?_
            refine g_lstoreV C X4 at_189 (fun v__ => #[.val (.int x0), .val (.long x1), .second, .val (.long x2), .second, .val (.long x3), .second, .val (.long x4), .second, .val (.long x5), .second, .val (.int (3 : Int32)), .val (.int (0 : Int32)), .val (.long bd), .second, .val (.long a0_), .second, .val (.long a1_), .second, .val (.long a2_), .second, .val (.long a3_), .second, .val (.ref ar), .val (.ref ad2), .val (.int r), .unset, .val (.long a0_), .second, .val (.long a1_), .second, .val (.long a2_), .second, .val (.long (0 : Int64)), .second, .val (.long (0 : Int64)), .second, .val (.long v182), .second, .val (.long v__), .second, .unset, .unset, .unset]) rfl rfl ?_
            intro v189 h_v189
            have q_v189 := c_ladd a1_ v182
            rw [← h_v189] at q_v189
            have r_v189 := rng64 v189
            have t_v189 : v189.toInt = a1_.toInt + v182.toInt := by omega
            refine g_lload C X4 at_191 rfl rfl ?_
            refine g_lload C X4 at_193 rfl rfl ?_
            refine g_ladd C X4 at_195 rfl ?_
            refine g_lstoreV C X4 at_196 (fun v__ => #[.val (.int x0), .val (.long x1), .second, .val (.long x2), .second, .val (.long x3), .second, .val (.long x4), .second, .val (.long x5), .second, .val (.int (3 : Int32)), .val (.int (0 : Int32)), .val (.long bd), .second, .val (.long a0_), .second, .val (.long a1_), .second, .val (.long a2_), .second, .val (.long a3_), .second, .val (.ref ar), .val (.ref ad2), .val (.int r), .unset, .val (.long a0_), .second, .val (.long a1_), .second, .val (.long a2_), .second, .val (.long (0 : Int64)), .second, .val (.long (0 : Int64)), .second, .val (.long v182), .second, .val (.long v189), .second, .val (.long v__), .second, .unset]) rfl rfl ?_
            intro v196 h_v196
            have q_v196 := c_ladd a0_ v189
            rw [← h_v196] at q_v196
            have r_v196 := rng64 v196
            have t_v196 : v196.toInt = a0_.toInt + v189.toInt := by omega
            refine g_iconst C X4 (0 : Int32) at_198 rfl rfl ?_
            refine g_istore C X4 at_199 #[.val (.int x0), .val (.long x1), .second, .val (.long x2), .second, .val (.long x3), .second, .val (.long x4), .second, .val (.long x5), .second, .val (.int (3 : Int32)), .val (.int (0 : Int32)), .val (.long bd), .second, .val (.long a0_), .second, .val (.long a1_), .second, .val (.long a2_), .second, .val (.long a3_), .second, .val (.ref ar), .val (.ref ad2), .val (.int r), .unset, .val (.long a0_), .second, .val (.long a1_), .second, .val (.long a2_), .second, .val (.long (0 : Int64)), .second, .val (.long (0 : Int64)), .second, .val (.long v182), .second, .val (.long v189), .second, .val (.long v196), .second, .val (.int (0 : Int32))] rfl rfl ?_
            refine g_iload C X4 at_201 rfl rfl ?_
            refine g_iconst C X4 (2 : Int32) at_203 rfl rfl ?_
            refine g_icmp C X4 at_204 (by decide) rfl rfl ?_ ?_
            · intro h204
              have h204 : (3 : Int) < 2 := h204
              exact absurd h204 (by decide)
            · intro h204
              have h204 : (3 : Int) ≥ 2 := h204
              refine g_lload C X4 at_207 rfl rfl ?_
              refine g_lload C X4 at_209 rfl rfl ?_
              refine g_lcmpif C X4 at_211 rfl at_212 (by decide) rfl rfl ?_ ?_
              · intro h212
                have h212 : v196.toInt ≤ bd.toInt := h212
                refine g_iload C X4 at_229 rfl rfl ?_
                refine g_iconst C X4 (3 : Int32) at_231 rfl rfl ?_
                refine g_icmp C X4 at_232 (by decide) rfl rfl ?_ ?_
                · intro h232
                  have h232 : (3 : Int) < 3 := h232
                  exact absurd h232 (by decide)
                · intro h232
                  have h232 : (3 : Int) ≥ 3 := h232
                  refine g_lload C X4 at_235 rfl rfl ?_
                  refine g_lload C X4 at_237 rfl rfl ?_
                  refine g_lcmpif C X4 at_239 rfl at_240 (by decide) rfl rfl ?_ ?_
                  · intro h240
                    have h240 : v189.toInt ≤ bd.toInt := h240
                    refine g_iload C X4 at_257 rfl rfl ?_
                    refine g_iconst C X4 (4 : Int32) at_259 rfl rfl ?_
                    refine g_icmp C X4 at_260 (by decide) rfl rfl ?_ ?_
                    · intro h260
                      have h260 : (3 : Int) < 4 := h260
                      refine g_iload C X4 at_285 rfl rfl ?_
                      refine g_istore C X4 at_287 #[.val (.int x0), .val (.long x1), .second, .val (.long x2), .second, .val (.long x3), .second, .val (.long x4), .second, .val (.long x5), .second, .val (.int (3 : Int32)), .val (.int (0 : Int32)), .val (.long bd), .second, .val (.long a0_), .second, .val (.long a1_), .second, .val (.long a2_), .second, .val (.long a3_), .second, .val (.ref ar), .val (.ref ad2), .val (.int r), .val (.int (0 : Int32)), .val (.long a0_), .second, .val (.long a1_), .second, .val (.long a2_), .second, .val (.long (0 : Int64)), .second, .val (.long (0 : Int64)), .second, .val (.long v182), .second, .val (.long v189), .second, .val (.long v196), .second, .val (.int (0 : Int32))] rfl rfl ?_
                      refine g_iload C X4 at_289 rfl rfl ?_
                      refine g_iload C X4 at_291 rfl rfl ?_
                      refine g_icmp C X4 at_293 (by decide) rfl rfl ?_ ?_
                      · intro h293
                        have h293 : ¬ r.toInt = 0 := h293
                        exfalso; omega
                      · intro h293
                        have h293 : r.toInt = 0 := h293
                        refine g_iconst C X4 (1 : Int32) at_296 rfl rfl ?_
                        refine g_goto C X4 at_297 (by decide) rfl ?_
                        exact g_ireturnN C X4 at_301 rfl (Or.inl rfl) ⟨rfl, N4⟩ (by decide) (by decide)
                    · intro h260
                      have h260 : (3 : Int) ≥ 4 := h260
                      exact absurd h260 (by decide)
                  · intro h240
                    have h240 : v189.toInt > bd.toInt := h240
                    refine g_lload C X4 at_243 rfl rfl ?_
                    refine g_lload C X4 at_245 rfl rfl ?_
                    refine g_lcmpif C X4 at_247 rfl at_248 (by decide) rfl rfl ?_ ?_
                    · intro h248
                      have h248 : v182.toInt < bd.toInt := h248
                      refine g_iload C X4 at_257 rfl rfl ?_
                      refine g_iconst C X4 (4 : Int32) at_259 rfl rfl ?_
                      refine g_icmp C X4 at_260 (by decide) rfl rfl ?_ ?_
                      · intro h260
                        have h260 : (3 : Int) < 4 := h260
                        refine g_iload C X4 at_285 rfl rfl ?_
                        refine g_istore C X4 at_287 #[.val (.int x0), .val (.long x1), .second, .val (.long x2), .second, .val (.long x3), .second, .val (.long x4), .second, .val (.long x5), .second, .val (.int (3 : Int32)), .val (.int (0 : Int32)), .val (.long bd), .second, .val (.long a0_), .second, .val (.long a1_), .second, .val (.long a2_), .second, .val (.long a3_), .second, .val (.ref ar), .val (.ref ad2), .val (.int r), .val (.int (0 : Int32)), .val (.long a0_), .second, .val (.long a1_), .second, .val (.long a2_), .second, .val (.long (0 : Int64)), .second, .val (.long (0 : Int64)), .second, .val (.long v182), .second, .val (.long v189), .second, .val (.long v196), .second, .val (.int (0 : Int32))] rfl rfl ?_
                        refine g_iload C X4 at_289 rfl rfl ?_
                        refine g_iload C X4 at_291 rfl rfl ?_
                        refine g_icmp C X4 at_293 (by decide) rfl rfl ?_ ?_
                        · intro h293
                          have h293 : ¬ r.toInt = 0 := h293
                          exfalso; omega
                        · intro h293
                          have h293 : r.toInt = 0 := h293
                          refine g_iconst C X4 (1 : Int32) at_296 rfl rfl ?_
                          refine g_goto C X4 at_297 (by decide) rfl ?_
                          exact g_ireturnN C X4 at_301 rfl (Or.inl rfl) ⟨rfl, N4⟩ (by decide) (by decide)
                      · intro h260
                        have h260 : (3 : Int) ≥ 4 := h260
                        exact absurd h260 (by decide)
                    · intro h248
                      have h248 : v182.toInt ≥ bd.toInt := h248
                      refine g_iload C X4 at_251 rfl rfl ?_
                      refine g_iconst C X4 (1 : Int32) at_253 rfl rfl ?_
                      refine g_iadd C X4 at_254 rfl ?_
                      refine g_istore C X4 at_255 #[.val (.int x0), .val (.long x1), .second, .val (.long x2), .second, .val (.long x3), .second, .val (.long x4), .second, .val (.long x5), .second, .val (.int (3 : Int32)), .val (.int (0 : Int32)), .val (.long bd), .second, .val (.long a0_), .second, .val (.long a1_), .second, .val (.long a2_), .second, .val (.long a3_), .second, .val (.ref ar), .val (.ref ad2), .val (.int r), .unset, .val (.long a0_), .second, .val (.long a1_), .second, .val (.long a2_), .second, .val (.long (0 : Int64)), .second, .val (.long (0 : Int64)), .second, .val (.long v182), .second, .val (.long v189), .second, .val (.long v196), .second, .val (.int (1 : Int32))] rfl rfl ?_
                      refine g_iload C X4 at_257 rfl rfl ?_
                      refine g_iconst C X4 (4 : Int32) at_259 rfl rfl ?_
                      refine g_icmp C X4 at_260 (by decide) rfl rfl ?_ ?_
                      · intro h260
                        have h260 : (3 : Int) < 4 := h260
                        refine g_iload C X4 at_285 rfl rfl ?_
                        refine g_istore C X4 at_287 #[.val (.int x0), .val (.long x1), .second, .val (.long x2), .second, .val (.long x3), .second, .val (.long x4), .second, .val (.long x5), .second, .val (.int (3 : Int32)), .val (.int (0 : Int32)), .val (.long bd), .second, .val (.long a0_), .second, .val (.long a1_), .second, .val (.long a2_), .second, .val (.long a3_), .second, .val (.ref ar), .val (.ref ad2), .val (.int r), .val (.int (1 : Int32)), .val (.long a0_), .second, .val (.long a1_), .second, .val (.long a2_), .second, .val (.long (0 : Int64)), .second, .val (.long (0 : Int64)), .second, .val (.long v182), .second, .val (.long v189), .second, .val (.long v196), .second, .val (.int (1 : Int32))] rfl rfl ?_
                        refine g_iload C X4 at_289 rfl rfl ?_
                        refine g_iload C X4 at_291 rfl rfl ?_
                        refine g_icmp C X4 at_293 (by decide) rfl rfl ?_ ?_
                        · intro h293
                          have h293 : ¬ r.toInt = 1 := h293
                          exfalso; omega
                        · intro h293
                          have h293 : r.toInt = 1 := h293
                          refine g_iconst C X4 (1 : Int32) at_296 rfl rfl ?_
                          refine g_goto C X4 at_297 (by decide) rfl ?_
                          exact g_ireturnN C X4 at_301 rfl (Or.inl rfl) ⟨rfl, N4⟩ (by decide) (by decide)
                      · intro h260
                        have h260 : (3 : Int) ≥ 4 := h260
                        exact absurd h260 (by decide)
              · intro h212
                have h212 : v196.toInt > bd.toInt := h212
                refine g_lload C X4 at_215 rfl rfl ?_
                refine g_lload C X4 at_217 rfl rfl ?_
                refine g_lcmpif C X4 at_219 rfl at_220 (by decide) rfl rfl ?_ ?_
                · intro h220
                  have h220 : v189.toInt < bd.toInt := h220
                  refine g_iload C X4 at_229 rfl rfl ?_
                  refine g_iconst C X4 (3 : Int32) at_231 rfl rfl ?_
                  refine g_icmp C X4 at_232 (by decide) rfl rfl ?_ ?_
                  · intro h232
                    have h232 : (3 : Int) < 3 := h232
                    exact absurd h232 (by decide)
                  · intro h232
                    have h232 : (3 : Int) ≥ 3 := h232
                    refine g_lload C X4 at_235 rfl rfl ?_
                    refine g_lload C X4 at_237 rfl rfl ?_
                    refine g_lcmpif C X4 at_239 rfl at_240 (by decide) rfl rfl ?_ ?_
                    · intro h240
                      have h240 : v189.toInt ≤ bd.toInt := h240
                      refine g_iload C X4 at_257 rfl rfl ?_
                      refine g_iconst C X4 (4 : Int32) at_259 rfl rfl ?_
                      refine g_icmp C X4 at_260 (by decide) rfl rfl ?_ ?_
                      · intro h260
                        have h260 : (3 : Int) < 4 := h260
                        refine g_iload C X4 at_285 rfl rfl ?_
                        refine g_istore C X4 at_287 #[.val (.int x0), .val (.long x1), .second, .val (.long x2), .second, .val (.long x3), .second, .val (.long x4), .second, .val (.long x5), .second, .val (.int (3 : Int32)), .val (.int (0 : Int32)), .val (.long bd), .second, .val (.long a0_), .second, .val (.long a1_), .second, .val (.long a2_), .second, .val (.long a3_), .second, .val (.ref ar), .val (.ref ad2), .val (.int r), .val (.int (0 : Int32)), .val (.long a0_), .second, .val (.long a1_), .second, .val (.long a2_), .second, .val (.long (0 : Int64)), .second, .val (.long (0 : Int64)), .second, .val (.long v182), .second, .val (.long v189), .second, .val (.long v196), .second, .val (.int (0 : Int32))] rfl rfl ?_
                        refine g_iload C X4 at_289 rfl rfl ?_
                        refine g_iload C X4 at_291 rfl rfl ?_
                        refine g_icmp C X4 at_293 (by decide) rfl rfl ?_ ?_
                        · intro h293
                          have h293 : ¬ r.toInt = 0 := h293
                          exfalso; omega
                        · intro h293
                          have h293 : r.toInt = 0 := h293
                          refine g_iconst C X4 (1 : Int32) at_296 rfl rfl ?_
                          refine g_goto C X4 at_297 (by decide) rfl ?_
                          exact g_ireturnN C X4 at_301 rfl (Or.inl rfl) ⟨rfl, N4⟩ (by decide) (by decide)
                      · intro h260
                        have h260 : (3 : Int) ≥ 4 := h260
                        exact absurd h260 (by decide)
                    · intro h240
                      have h240 : v189.toInt > bd.toInt := h240
                      refine g_lload C X4 at_243 rfl rfl ?_
                      refine g_lload C X4 at_245 rfl rfl ?_
                      refine g_lcmpif C X4 at_247 rfl at_248 (by decide) rfl rfl ?_ ?_
                      · intro h248
                        have h248 : v182.toInt < bd.toInt := h248
                        refine g_iload C X4 at_257 rfl rfl ?_
                        refine g_iconst C X4 (4 : Int32) at_259 rfl rfl ?_
                        refine g_icmp C X4 at_260 (by decide) rfl rfl ?_ ?_
                        · intro h260
                          have h260 : (3 : Int) < 4 := h260
                          refine g_iload C X4 at_285 rfl rfl ?_
                          refine g_istore C X4 at_287 #[.val (.int x0), .val (.long x1), .second, .val (.long x2), .second, .val (.long x3), .second, .val (.long x4), .second, .val (.long x5), .second, .val (.int (3 : Int32)), .val (.int (0 : Int32)), .val (.long bd), .second, .val (.long a0_), .second, .val (.long a1_), .second, .val (.long a2_), .second, .val (.long a3_), .second, .val (.ref ar), .val (.ref ad2), .val (.int r), .val (.int (0 : Int32)), .val (.long a0_), .second, .val (.long a1_), .second, .val (.long a2_), .second, .val (.long (0 : Int64)), .second, .val (.long (0 : Int64)), .second, .val (.long v182), .second, .val (.long v189), .second, .val (.long v196), .second, .val (.int (0 : Int32))] rfl rfl ?_
                          refine g_iload C X4 at_289 rfl rfl ?_
                          refine g_iload C X4 at_291 rfl rfl ?_
                          refine g_icmp C X4 at_293 (by decide) rfl rfl ?_ ?_
                          · intro h293
                            have h293 : ¬ r.toInt = 0 := h293
                            exfalso; omega
                          · intro h293
                            have h293 : r.toInt = 0 := h293
                            refine g_iconst C X4 (1 : Int32) at_296 rfl rfl ?_
                            refine g_goto C X4 at_297 (by decide) rfl ?_
                            exact g_ireturnN C X4 at_301 rfl (Or.inl rfl) ⟨rfl, N4⟩ (by decide) (by decide)
                        · intro h260
                          have h260 : (3 : Int) ≥ 4 := h260
                          exact absurd h260 (by decide)
                      · intro h248
                        have h248 : v182.toInt ≥ bd.toInt := h248
                        refine g_iload C X4 at_251 rfl rfl ?_
                        refine g_iconst C X4 (1 : Int32) at_253 rfl rfl ?_
                        refine g_iadd C X4 at_254 rfl ?_
                        refine g_istore C X4 at_255 #[.val (.int x0), .val (.long x1), .second, .val (.long x2), .second, .val (.long x3), .second, .val (.long x4), .second, .val (.long x5), .second, .val (.int (3 : Int32)), .val (.int (0 : Int32)), .val (.long bd), .second, .val (.long a0_), .second, .val (.long a1_), .second, .val (.long a2_), .second, .val (.long a3_), .second, .val (.ref ar), .val (.ref ad2), .val (.int r), .unset, .val (.long a0_), .second, .val (.long a1_), .second, .val (.long a2_), .second, .val (.long (0 : Int64)), .second, .val (.long (0 : Int64)), .second, .val (.long v182), .second, .val (.long v189), .second, .val (.long v196), .second, .val (.int (1 : Int32))] rfl rfl ?_
                        refine g_iload C X4 at_257 rfl rfl ?_
                        refine g_iconst C X4 (4 : Int32) at_259 rfl rfl ?_
                        refine g_icmp C X4 at_260 (by decide) rfl rfl ?_ ?_
                        · intro h260
                          have h260 : (3 : Int) < 4 := h260
                          refine g_iload C X4 at_285 rfl rfl ?_
                          refine g_istore C X4 at_287 #[.val (.int x0), .val (.long x1), .second, .val (.long x2), .second, .val (.long x3), .second, .val (.long x4), .second, .val (.long x5), .second, .val (.int (3 : Int32)), .val (.int (0 : Int32)), .val (.long bd), .second, .val (.long a0_), .second, .val (.long a1_), .second, .val (.long a2_), .second, .val (.long a3_), .second, .val (.ref ar), .val (.ref ad2), .val (.int r), .val (.int (1 : Int32)), .val (.long a0_), .second, .val (.long a1_), .second, .val (.long a2_), .second, .val (.long (0 : Int64)), .second, .val (.long (0 : Int64)), .second, .val (.long v182), .second, .val (.long v189), .second, .val (.long v196), .second, .val (.int (1 : Int32))] rfl rfl ?_
                          refine g_iload C X4 at_289 rfl rfl ?_
                          refine g_iload C X4 at_291 rfl rfl ?_
                          refine g_icmp C X4 at_293 (by decide) rfl rfl ?_ ?_
                          · intro h293
                            have h293 : ¬ r.toInt = 1 := h293
                            exfalso; omega
                          · intro h293
                            have h293 : r.toInt = 1 := h293
                            refine g_iconst C X4 (1 : Int32) at_296 rfl rfl ?_
                            refine g_goto C X4 at_297 (by decide) rfl ?_
                            exact g_ireturnN C X4 at_301 rfl (Or.inl rfl) ⟨rfl, N4⟩ (by decide) (by decide)
                        · intro h260
                          have h260 : (3 : Int) ≥ 4 := h260
                          exact absurd h260 (by decide)
                · intro h220
                  have h220 : v189.toInt ≥ bd.toInt := h220
                  refine g_iload C X4 at_223 rfl rfl ?_
                  refine g_iconst C X4 (1 : Int32) at_225 rfl rfl ?_
                  refine g_iadd C X4 at_226 rfl ?_
                  refine g_istore C X4 at_227 #[.val (.int x0), .val (.long x1), .second, .val (.long x2), .second, .val (.long x3), .second, .val (.long x4), .second, .val (.long x5), .second, .val (.int (3 : Int32)), .val (.int (0 : Int32)), .val (.long bd), .second, .val (.long a0_), .second, .val (.long a1_), .second, .val (.long a2_), .second, .val (.long a3_), .second, .val (.ref ar), .val (.ref ad2), .val (.int r), .unset, .val (.long a0_), .second, .val (.long a1_), .second, .val (.long a2_), .second, .val (.long (0 : Int64)), .second, .val (.long (0 : Int64)), .second, .val (.long v182), .second, .val (.long v189), .second, .val (.long v196), .second, .val (.int (1 : Int32))] rfl rfl ?_
                  refine g_iload C X4 at_229 rfl rfl ?_
                  refine g_iconst C X4 (3 : Int32) at_231 rfl rfl ?_
                  refine g_icmp C X4 at_232 (by decide) rfl rfl ?_ ?_
                  · intro h232
                    have h232 : (3 : Int) < 3 := h232
                    exact absurd h232 (by decide)
                  · intro h232
                    have h232 : (3 : Int) ≥ 3 := h232
                    refine g_lload C X4 at_235 rfl rfl ?_
                    refine g_lload C X4 at_237 rfl rfl ?_
                    refine g_lcmpif C X4 at_239 rfl at_240 (by decide) rfl rfl ?_ ?_
                    · intro h240
                      have h240 : v189.toInt ≤ bd.toInt := h240
                      refine g_iload C X4 at_257 rfl rfl ?_
                      refine g_iconst C X4 (4 : Int32) at_259 rfl rfl ?_
                      refine g_icmp C X4 at_260 (by decide) rfl rfl ?_ ?_
                      · intro h260
                        have h260 : (3 : Int) < 4 := h260
                        refine g_iload C X4 at_285 rfl rfl ?_
                        refine g_istore C X4 at_287 #[.val (.int x0), .val (.long x1), .second, .val (.long x2), .second, .val (.long x3), .second, .val (.long x4), .second, .val (.long x5), .second, .val (.int (3 : Int32)), .val (.int (0 : Int32)), .val (.long bd), .second, .val (.long a0_), .second, .val (.long a1_), .second, .val (.long a2_), .second, .val (.long a3_), .second, .val (.ref ar), .val (.ref ad2), .val (.int r), .val (.int (1 : Int32)), .val (.long a0_), .second, .val (.long a1_), .second, .val (.long a2_), .second, .val (.long (0 : Int64)), .second, .val (.long (0 : Int64)), .second, .val (.long v182), .second, .val (.long v189), .second, .val (.long v196), .second, .val (.int (1 : Int32))] rfl rfl ?_
                        refine g_iload C X4 at_289 rfl rfl ?_
                        refine g_iload C X4 at_291 rfl rfl ?_
                        refine g_icmp C X4 at_293 (by decide) rfl rfl ?_ ?_
                        · intro h293
                          have h293 : ¬ r.toInt = 1 := h293
                          exfalso; omega
                        · intro h293
                          have h293 : r.toInt = 1 := h293
                          refine g_iconst C X4 (1 : Int32) at_296 rfl rfl ?_
                          refine g_goto C X4 at_297 (by decide) rfl ?_
                          exact g_ireturnN C X4 at_301 rfl (Or.inl rfl) ⟨rfl, N4⟩ (by decide) (by decide)
                      · intro h260
                        have h260 : (3 : Int) ≥ 4 := h260
                        exact absurd h260 (by decide)
                    · intro h240
                      have h240 : v189.toInt > bd.toInt := h240
                      refine g_lload C X4 at_243 rfl rfl ?_
                      refine g_lload C X4 at_245 rfl rfl ?_
                      refine g_lcmpif C X4 at_247 rfl at_248 (by decide) rfl rfl ?_ ?_
                      · intro h248
                        have h248 : v182.toInt < bd.toInt := h248
                        refine g_iload C X4 at_257 rfl rfl ?_
                        refine g_iconst C X4 (4 : Int32) at_259 rfl rfl ?_
                        refine g_icmp C X4 at_260 (by decide) rfl rfl ?_ ?_
                        · intro h260
                          have h260 : (3 : Int) < 4 := h260
                          refine g_iload C X4 at_285 rfl rfl ?_
                          refine g_istore C X4 at_287 #[.val (.int x0), .val (.long x1), .second, .val (.long x2), .second, .val (.long x3), .second, .val (.long x4), .second, .val (.long x5), .second, .val (.int (3 : Int32)), .val (.int (0 : Int32)), .val (.long bd), .second, .val (.long a0_), .second, .val (.long a1_), .second, .val (.long a2_), .second, .val (.long a3_), .second, .val (.ref ar), .val (.ref ad2), .val (.int r), .val (.int (1 : Int32)), .val (.long a0_), .second, .val (.long a1_), .second, .val (.long a2_), .second, .val (.long (0 : Int64)), .second, .val (.long (0 : Int64)), .second, .val (.long v182), .second, .val (.long v189), .second, .val (.long v196), .second, .val (.int (1 : Int32))] rfl rfl ?_
                          refine g_iload C X4 at_289 rfl rfl ?_
                          refine g_iload C X4 at_291 rfl rfl ?_
                          refine g_icmp C X4 at_293 (by decide) rfl rfl ?_ ?_
                          · intro h293
                            have h293 : ¬ r.toInt = 1 := h293
                            exfalso; omega
                          · intro h293
                            have h293 : r.toInt = 1 := h293
                            refine g_iconst C X4 (1 : Int32) at_296 rfl rfl ?_
                            refine g_goto C X4 at_297 (by decide) rfl ?_
                            exact g_ireturnN C X4 at_301 rfl (Or.inl rfl) ⟨rfl, N4⟩ (by decide) (by decide)
                        · intro h260
                          have h260 : (3 : Int) ≥ 4 := h260
                          exact absurd h260 (by decide)
                      · intro h248
                        have h248 : v182.toInt ≥ bd.toInt := h248
                        refine g_iload C X4 at_251 rfl rfl ?_
                        refine g_iconst C X4 (1 : Int32) at_253 rfl rfl ?_
                        refine g_iadd C X4 at_254 rfl ?_
                        refine g_istore C X4 at_255 #[.val (.int x0), .val (.long x1), .second, .val (.long x2), .second, .val (.long x3), .second, .val (.long x4), .second, .val (.long x5), .second, .val (.int (3 : Int32)), .val (.int (0 : Int32)), .val (.long bd), .second, .val (.long a0_), .second, .val (.long a1_), .second, .val (.long a2_), .second, .val (.long a3_), .second, .val (.ref ar), .val (.ref ad2), .val (.int r), .unset, .val (.long a0_), .second, .val (.long a1_), .second, .val (.long a2_), .second, .val (.long (0 : Int64)), .second, .val (.long (0 : Int64)), .second, .val (.long v182), .second, .val (.long v189), .second, .val (.long v196), .second, .val (.int (2 : Int32))] rfl rfl ?_
                        refine g_iload C X4 at_257 rfl rfl ?_
                        refine g_iconst C X4 (4 : Int32) at_259 rfl rfl ?_
                        refine g_icmp C X4 at_260 (by decide) rfl rfl ?_ ?_
                        · intro h260
                          have h260 : (3 : Int) < 4 := h260
                          refine g_iload C X4 at_285 rfl rfl ?_
                          refine g_istore C X4 at_287 #[.val (.int x0), .val (.long x1), .second, .val (.long x2), .second, .val (.long x3), .second, .val (.long x4), .second, .val (.long x5), .second, .val (.int (3 : Int32)), .val (.int (0 : Int32)), .val (.long bd), .second, .val (.long a0_), .second, .val (.long a1_), .second, .val (.long a2_), .second, .val (.long a3_), .second, .val (.ref ar), .val (.ref ad2), .val (.int r), .val (.int (2 : Int32)), .val (.long a0_), .second, .val (.long a1_), .second, .val (.long a2_), .second, .val (.long (0 : Int64)), .second, .val (.long (0 : Int64)), .second, .val (.long v182), .second, .val (.long v189), .second, .val (.long v196), .second, .val (.int (2 : Int32))] rfl rfl ?_
                          refine g_iload C X4 at_289 rfl rfl ?_
                          refine g_iload C X4 at_291 rfl rfl ?_
                          refine g_icmp C X4 at_293 (by decide) rfl rfl ?_ ?_
                          · intro h293
                            have h293 : ¬ r.toInt = 2 := h293
                            exfalso; omega
                          · intro h293
                            have h293 : r.toInt = 2 := h293
                            refine g_iconst C X4 (1 : Int32) at_296 rfl rfl ?_
                            refine g_goto C X4 at_297 (by decide) rfl ?_
                            exact g_ireturnN C X4 at_301 rfl (Or.inl rfl) ⟨rfl, N4⟩ (by decide) (by decide)
                        · intro h260
                          have h260 : (3 : Int) ≥ 4 := h260
                          exact absurd h260 (by decide)
          · intro h162
            have h162 : (3 : Int) > 3 := h162
            exact absurd h162 (by decide)
  · intro h109
    have h109 : ¬ (0 : Int) = 0 := h109
    exact absurd h109 (by decide)
set_option maxRecDepth 65536 in
set_option maxHeartbeats 40000000 in
theorem seg62_0_4 {p : Program} {l : Launch} {e : Env} {s : State} {m : MethodId} {args : Array Value} {below : List Frame} {meth : Method} {c : Code} {T0 : State} {locs : List Loc} {Z : State} {a0 : Array Value} {h0 : Heap} {n0 : Nat} {x0 : Int32} {x1 x2 x3 x4 x5 a0_ a1_ a2_ a3_ bd : Int64}
    (C : Cx Z a0 p s m meth c code maxLocals "com/example/ballast/ballast/storage/RetentionBeyondBytesPinLaw" "law" ret) (X0 : Stand p l e room_1 s m args below meth c T0 locs 0 0) (e0 : T0.heap = h0) (N0 : Fr n0 locs) (Z0 : n0 ≤ h0.size) (l0 : 0 ≤ a0_.toInt) (m0 : a0_.toInt < 2305843009213693952) (l1 : 0 ≤ a1_.toInt) (m1 : a1_.toInt < 2305843009213693952) (l2 : 0 ≤ a2_.toInt) (m2 : a2_.toInt < 2305843009213693952) (l3 : 0 ≤ a3_.toInt) (m3 : a3_.toInt < 2305843009213693952) (hb : 0 ≤ bd.toInt) :
    Go p e below s m (LQ n0) room_1.cells room_1.slots T0 62 #[.val (.int x0), .val (.long x1), .second, .val (.long x2), .second, .val (.long x3), .second, .val (.long x4), .second, .val (.long x5), .second, .val (.int (4 : Int32)), .val (.int (0 : Int32)), .val (.long bd), .second, .val (.long a0_), .second, .val (.long a1_), .second, .val (.long a2_), .second, .val (.long a3_), .second, .unset, .unset, .unset, .unset, .unset, .unset, .unset, .unset, .unset, .unset, .unset, .unset, .unset, .unset, .unset, .unset, .unset, .unset, .unset, .unset, .unset] [] := by
  refine g_iload C X0 at_62 rfl rfl ?_
  refine g_lload C X0 at_64 rfl rfl ?_
  refine g_lload C X0 at_66 rfl rfl ?_
  refine g_lload C X0 at_68 rfl rfl ?_
  refine g_lload C X0 at_70 rfl rfl ?_
  refine g_callS (argsL := [(.int (4 : Int32)), (.long a0_), (.long a1_), (.long a2_), (.long a3_)]) (rest := []) (W := 0) C X0 at_72 e0 (C.t 1 rfl) (C.t 2 rfl) (C.t 3 rfl) (C.t 4 rfl) (mk4 l Z a0 C.w [] (4 : Int32) a0_ a1_ a2_ a3_ rfl h0 n0 Z0) (by decide) pd_1 rfl rfl rfl (Nat.le_of_eq rfl) (by decide) (by decide) (by decide) (by decide) rfl ?_
  intro T1 v1_ L1 X1 hQ1
  obtain ⟨⟨ar, rfl, gr, hr0, AR⟩, N1q, K1⟩ := hQ1
  have N1 := Fr.app N0 N1q
  have Z1 : n0 ≤ T1.heap.size := Nat.le_trans Z0 K1.1
  refine g_astore C X1 at_75 #[.val (.int x0), .val (.long x1), .second, .val (.long x2), .second, .val (.long x3), .second, .val (.long x4), .second, .val (.long x5), .second, .val (.int (4 : Int32)), .val (.int (0 : Int32)), .val (.long bd), .second, .val (.long a0_), .second, .val (.long a1_), .second, .val (.long a2_), .second, .val (.long a3_), .second, .val (.ref ar), .unset, .unset, .unset, .unset, .unset, .unset, .unset, .unset, .unset, .unset, .unset, .unset, .unset, .unset, .unset, .unset, .unset, .unset, .unset, .unset] rfl rfl ?_
  refine g_new C X1 at_77 rfl (C.t 6 rfl) (C.t 7 rfl) (C.t 8 rfl) (by decide) (by decide) rfl ?_
  intro T2 h2_ X2 e2 E2 lt2 ad2 ha2 EX2 D2
  have Z2 : n0 ≤ h2_.size := Nat.le_trans Z1 E2.1
  have ne_ar_ad2 : ar ≠ ad2 := Nat.ne_of_lt (Nat.lt_of_lt_of_eq AR.lt ha2.symm)
  have A2_ar := AR.ext E2
  have g_ad2 : n0 ≤ ad2 := by omega
  refine g_dup C X2 at_80 rfl rfl ?_
  refine g_ldcL C X2 at_81 (C.t 0 rfl) rfl ?_
  refine g_lload C X2 at_84 rfl rfl ?_
  refine g_lconst C X2 (1 : Int64) at_86 rfl rfl ?_
  refine g_ldcL C X2 at_87 (C.t 9 rfl) rfl ?_
  refine g_ldcL C X2 at_90 (C.t 9 rfl) rfl ?_
  refine g_callC (a := ad2) (argsL := [(.long (-1 : Int64)), (.long bd), (.long (1 : Int64)), (.long (9223372036854775807 : Int64)), (.long (9223372036854775807 : Int64))]) (rest := [(.ref ad2)]) (W := 1) C X2 at_93 e2 rfl (C.t 10 rfl) (C.t 11 rfl) (C.t 8 rfl) (C.t 12 rfl) (rm2 l Z a0 C.w [] ad2 (-1 : Int64) bd (1 : Int64) (9223372036854775807 : Int64) (9223372036854775807 : Int64) h2_ n0 Z2 EX2 D2 g_ad2 ) (by decide) pd_2 rfl rfl rfl (Nat.le_of_eq rfl) (by decide) (by decide) (by decide) (by decide) rfl ?_
  intro T3 v3_ L3 X3 hQ3
  obtain ⟨rfl, N3q, K3, EY3, Fc3_millis, Fc3_bytes, Fc3_checkIntervalMillis, Fc3_rollMillis, Fc3_aheadMillis⟩ := hQ3
  have N3 := Fr.app N1 N3q
  have Z3 : n0 ≤ T3.heap.size := Nat.le_trans Z2 K3.1
  have A3_ar := A2_ar.keep K3 (ninS ne_ar_ad2 nin0)
  refine g_astore C X3 at_96 #[.val (.int x0), .val (.long x1), .second, .val (.long x2), .second, .val (.long x3), .second, .val (.long x4), .second, .val (.long x5), .second, .val (.int (4 : Int32)), .val (.int (0 : Int32)), .val (.long bd), .second, .val (.long a0_), .second, .val (.long a1_), .second, .val (.long a2_), .second, .val (.long a3_), .second, .val (.ref ar), .val (.ref ad2), .unset, .unset, .unset, .unset, .unset, .unset, .unset, .unset, .unset, .unset, .unset, .unset, .unset, .unset, .unset, .unset, .unset, .unset, .unset] rfl rfl ?_
  refine g_aload C X3 at_98 rfl rfl ?_
  refine g_aload C X3 at_100 rfl rfl ?_
  refine g_callV (a := ad2) (argsL := [(.ref ar)]) (rest := []) (W := 0) C X3 at_102 rfl EY3 (C.t 32 rfl) (C.t 34 rfl) (C.t 31 rfl) (C.t 33 rfl) (C.t 8 rfl) (C.t 35 rfl) (bb4 l Z a0 C.w [] ad2 ar bd a0_ a1_ a2_ a3_ T3.heap n0 Z3 Fc3_bytes hb A3_ar l0 m0 l1 m1 l2 m2 l3 m3) (by decide) pd_5 rfl rfl rfl (Nat.le_of_eq rfl) (by decide) (by decide) (by decide) (by decide) rfl ?_
  intro T4 v4_ L4 X4 hQ4
  obtain ⟨⟨r, rfl, hr⟩, N4q, hh4⟩ := hQ4
  have N4 := Fr.app N3 N4q
  refine g_istore C X4 at_105 #[.val (.int x0), .val (.long x1), .second, .val (.long x2), .second, .val (.long x3), .second, .val (.long x4), .second, .val (.long x5), .second, .val (.int (4 : Int32)), .val (.int (0 : Int32)), .val (.long bd), .second, .val (.long a0_), .second, .val (.long a1_), .second, .val (.long a2_), .second, .val (.long a3_), .second, .val (.ref ar), .val (.ref ad2), .val (.int r), .unset, .unset, .unset, .unset, .unset, .unset, .unset, .unset, .unset, .unset, .unset, .unset, .unset, .unset, .unset, .unset, .unset, .unset] rfl rfl ?_
  refine g_iload C X4 at_107 rfl rfl ?_
  refine g_if C X4 at_109 (by decide) rfl rfl ?_ ?_
  · intro h109
    have h109 : (0 : Int) = 0 := h109
    refine g_iload C X4 at_118 rfl rfl ?_
    refine g_if C X4 at_120 (by decide) rfl rfl ?_ ?_
    · intro h120
      have h120 : (4 : Int) ≤ 0 := h120
      exact absurd h120 (by decide)
    · intro h120
      have h120 : (4 : Int) > 0 := h120
      refine g_lload C X4 at_123 rfl rfl ?_
      refine g_goto C X4 at_125 (by decide) rfl ?_
      refine g_lstore C X4 at_129 #[.val (.int x0), .val (.long x1), .second, .val (.long x2), .second, .val (.long x3), .second, .val (.long x4), .second, .val (.long x5), .second, .val (.int (4 : Int32)), .val (.int (0 : Int32)), .val (.long bd), .second, .val (.long a0_), .second, .val (.long a1_), .second, .val (.long a2_), .second, .val (.long a3_), .second, .val (.ref ar), .val (.ref ad2), .val (.int r), .unset, .val (.long a0_), .second, .unset, .unset, .unset, .unset, .unset, .unset, .unset, .unset, .unset, .unset, .unset, .unset, .unset, .unset, .unset] rfl rfl ?_
      refine g_iload C X4 at_131 rfl rfl ?_
      refine g_iconst C X4 (1 : Int32) at_133 rfl rfl ?_
      refine g_icmp C X4 at_134 (by decide) rfl rfl ?_ ?_
      · intro h134
        have h134 : (4 : Int) ≤ 1 := h134
        exact absurd h134 (by decide)
      · intro h134
        have h134 : (4 : Int) > 1 := h134
        refine g_lload C X4 at_137 rfl rfl ?_
        refine g_goto C X4 at_139 (by decide) rfl ?_
        refine g_lstore C X4 at_143 #[.val (.int x0), .val (.long x1), .second, .val (.long x2), .second, .val (.long x3), .second, .val (.long x4), .second, .val (.long x5), .second, .val (.int (4 : Int32)), .val (.int (0 : Int32)), .val (.long bd), .second, .val (.long a0_), .second, .val (.long a1_), .second, .val (.long a2_), .second, .val (.long a3_), .second, .val (.ref ar), .val (.ref ad2), .val (.int r), .unset, .val (.long a0_), .second, .val (.long a1_), .second, .unset, .unset, .unset, .unset, .unset, .unset, .unset, .unset, .unset, .unset, .unset, .unset, .unset] rfl rfl ?_
        refine g_iload C X4 at_145 rfl rfl ?_
        refine g_iconst C X4 (2 : Int32) at_147 rfl rfl ?_
        refine g_icmp C X4 at_148 (by decide) rfl rfl ?_ ?_
        · intro h148
          have h148 : (4 : Int) ≤ 2 := h148
          exact absurd h148 (by decide)
        · intro h148
          have h148 : (4 : Int) > 2 := h148
          refine g_lload C X4 at_151 rfl rfl ?_
          refine g_goto C X4 at_153 (by decide) rfl ?_
          refine g_lstore C X4 at_157 #[.val (.int x0), .val (.long x1), .second, .val (.long x2), .second, .val (.long x3), .second, .val (.long x4), .second, .val (.long x5), .second, .val (.int (4 : Int32)), .val (.int (0 : Int32)), .val (.long bd), .second, .val (.long a0_), .second, .val (.long a1_), .second, .val (.long a2_), .second, .val (.long a3_), .second, .val (.ref ar), .val (.ref ad2), .val (.int r), .unset, .val (.long a0_), .second, .val (.long a1_), .second, .val (.long a2_), .second, .unset, .unset, .unset, .unset, .unset, .unset, .unset, .unset, .unset, .unset, .unset] rfl rfl ?_
          refine g_iload C X4 at_159 rfl rfl ?_
          refine g_iconst C X4 (3 : Int32) at_161 rfl rfl ?_
          refine g_icmp C X4 at_162 (by decide) rfl rfl ?_ ?_
          · intro h162
            have h162 : (4 : Int) ≤ 3 := h162
            exact absurd h162 (by decide)
          · intro h162
            have h162 : (4 : Int) > 3 := h162
            refine g_lload C X4 at_165 rfl rfl ?_
            refine g_goto C X4 at_167 (by decide) rfl ?_
            refine g_lstore C X4 at_171 #[.val (.int x0), .val (.long x1), .second, .val (.long x2), .second, .val (.long x3), .second, .val (.long x4), .second, .val (.long x5), .second, .val (.int (4 : Int32)), .val (.int (0 : Int32)), .val (.long bd), .second, .val (.long a0_), .second, .val (.long a1_), .second, .val (.long a2_), .second, .val (.long a3_), .second, .val (.ref ar), .val (.ref ad2), .val (.int r), .unset, .val (.long a0_), .second, .val (.long a1_), .second, .val (.long a2_), .second, .val (.long a3_), .second, .unset, .unset, .unset, .unset, .unset, .unset, .unset, .unset, .unset] rfl rfl ?_
            refine g_lload C X4 at_173 rfl rfl ?_
            refine g_lstore C X4 at_175 #[.val (.int x0), .val (.long x1), .second, .val (.long x2), .second, .val (.long x3), .second, .val (.long x4), .second, .val (.long x5), .second, .val (.int (4 : Int32)), .val (.int (0 : Int32)), .val (.long bd), .second, .val (.long a0_), .second, .val (.long a1_), .second, .val (.long a2_), .second, .val (.long a3_), .second, .val (.ref ar), .val (.ref ad2), .val (.int r), .unset, .val (.long a0_), .second, .val (.long a1_), .second, .val (.long a2_), .second, .val (.long a3_), .second, .val (.long a3_), .second, .unset, .unset, .unset, .unset, .unset, .unset, .unset] rfl rfl ?_
            refine g_lload C X4 at_177 rfl rfl ?_
            refine g_lload C X4 at_179 rfl rfl ?_
            refine g_ladd C X4 at_181 rfl ?_
            refine g_lstoreV C X4 at_182 (fun v__ => #[.val (.int x0), .val (.long x1), .second, .val (.long x2), .second, .val (.long x3), .second, .val (.long x4), .second, .val (.long x5), .second, .val (.int (4 : Int32)), .val (.int (0 : Int32)), .val (.long bd), .second, .val (.long a0_), .second, .val (.long a1_), .second, .val (.long a2_), .second, .val (.long a3_), .second, .val (.ref ar), .val (.ref ad2), .val (.int r), .unset, .val (.long a0_), .second, .val (.long a1_), .second, .val (.long a2_), .second, .val (.long a3_), .second, .val (.long a3_), .second, .val (.long v__), .second, .unset, .unset, .unset, .unset, .unset]) rfl rfl ?_
            intro v182 h_v182
            have q_v182 := c_ladd a2_ a3_
            rw [← h_v182] at q_v182
            have r_v182 := rng64 v182
            have t_v182 : v182.toInt = a2_.toInt + a3_.toInt := by omega
            refine g_lload C X4 at_184 rfl rfl ?_
            refine g_lload C X4 at_186 rfl rfl ?_
            refine g_ladd C X4 at_188 rfl ?_
            refine g_lstoreV C X4 at_189 (fun v__ => #[.val (.int x0), .val (.long x1), .second, .val (.long x2), .second, .val (.long x3), .second, .val (.long x4), .second, .val (.long x5), .second, .val (.int (4 : Int32)), .val (.int (0 : Int32)), .val (.long bd), .second, .val (.long a0_), .second, .val (.long a1_), .second, .val (.long a2_), .second, .val (.long a3_), .second, .val (.ref ar), .val (.ref ad2), .val (.int r), .unset, .val (.long a0_), .second, .val (.long a1_), .second, .val (.long a2_), .second, .val (.long a3_), .second, .val (.long a3_), .second, .val (.long v182), .second, .val (.long v__), .second, .unset, .unset, .unset]) rfl rfl ?_
            intro v189 h_v189
            have q_v189 := c_ladd a1_ v182
            rw [← h_v189] at q_v189
            have r_v189 := rng64 v189
            have t_v189 : v189.toInt = a1_.toInt + v182.toInt := by omega
            refine g_lload C X4 at_191 rfl rfl ?_
            refine g_lload C X4 at_193 rfl rfl ?_
            refine g_ladd C X4 at_195 rfl ?_
            refine g_lstoreV C X4 at_196 (fun v__ => #[.val (.int x0), .val (.long x1), .second, .val (.long x2), .second, .val (.long x3), .second, .val (.long x4), .second, .val (.long x5), .second, .val (.int (4 : Int32)), .val (.int (0 : Int32)), .val (.long bd), .second, .val (.long a0_), .second, .val (.long a1_), .second, .val (.long a2_), .second, .val (.long a3_), .second, .val (.ref ar), .val (.ref ad2), .val (.int r), .unset, .val (.long a0_), .second, .val (.long a1_), .second, .val (.long a2_), .second, .val (.long a3_), .second, .val (.long a3_), .second, .val (.long v182), .second, .val (.long v189), .second, .val (.long v__), .second, .unset]) rfl rfl ?_
            intro v196 h_v196
            have q_v196 := c_ladd a0_ v189
            rw [← h_v196] at q_v196
            have r_v196 := rng64 v196
            have t_v196 : v196.toInt = a0_.toInt + v189.toInt := by omega
            refine g_iconst C X4 (0 : Int32) at_198 rfl rfl ?_
            refine g_istore C X4 at_199 #[.val (.int x0), .val (.long x1), .second, .val (.long x2), .second, .val (.long x3), .second, .val (.long x4), .second, .val (.long x5), .second, .val (.int (4 : Int32)), .val (.int (0 : Int32)), .val (.long bd), .second, .val (.long a0_), .second, .val (.long a1_), .second, .val (.long a2_), .second, .val (.long a3_), .second, .val (.ref ar), .val (.ref ad2), .val (.int r), .unset, .val (.long a0_), .second, .val (.long a1_), .second, .val (.long a2_), .second, .val (.long a3_), .second, .val (.long a3_), .second, .val (.long v182), .second, .val (.long v189), .second, .val (.long v196), .second, .val (.int (0 : Int32))] rfl rfl ?_
            refine g_iload C X4 at_201 rfl rfl ?_
            refine g_iconst C X4 (2 : Int32) at_203 rfl rfl ?_
            refine g_icmp C X4 at_204 (by decide) rfl rfl ?_ ?_
            · intro h204
              have h204 : (4 : Int) < 2 := h204
              exact absurd h204 (by decide)
            · intro h204
              have h204 : (4 : Int) ≥ 2 := h204
              refine g_lload C X4 at_207 rfl rfl ?_
              refine g_lload C X4 at_209 rfl rfl ?_
              refine g_lcmpif C X4 at_211 rfl at_212 (by decide) rfl rfl ?_ ?_
              · intro h212
                have h212 : v196.toInt ≤ bd.toInt := h212
                refine g_iload C X4 at_229 rfl rfl ?_
                refine g_iconst C X4 (3 : Int32) at_231 rfl rfl ?_
                refine g_icmp C X4 at_232 (by decide) rfl rfl ?_ ?_
                · intro h232
                  have h232 : (4 : Int) < 3 := h232
                  exact absurd h232 (by decide)
                · intro h232
                  have h232 : (4 : Int) ≥ 3 := h232
                  refine g_lload C X4 at_235 rfl rfl ?_
                  refine g_lload C X4 at_237 rfl rfl ?_
                  refine g_lcmpif C X4 at_239 rfl at_240 (by decide) rfl rfl ?_ ?_
                  · intro h240
                    have h240 : v189.toInt ≤ bd.toInt := h240
                    refine g_iload C X4 at_257 rfl rfl ?_
                    refine g_iconst C X4 (4 : Int32) at_259 rfl rfl ?_
                    refine g_icmp C X4 at_260 (by decide) rfl rfl ?_ ?_
                    · intro h260
                      have h260 : (4 : Int) < 4 := h260
                      exact absurd h260 (by decide)
                    · intro h260
                      have h260 : (4 : Int) ≥ 4 := h260
                      refine g_lload C X4 at_263 rfl rfl ?_
                      refine g_lload C X4 at_265 rfl rfl ?_
                      refine g_lcmpif C X4 at_267 rfl at_268 (by decide) rfl rfl ?_ ?_
                      · intro h268
                        have h268 : v182.toInt ≤ bd.toInt := h268
                        refine g_iload C X4 at_285 rfl rfl ?_
                        refine g_istore C X4 at_287 #[.val (.int x0), .val (.long x1), .second, .val (.long x2), .second, .val (.long x3), .second, .val (.long x4), .second, .val (.long x5), .second, .val (.int (4 : Int32)), .val (.int (0 : Int32)), .val (.long bd), .second, .val (.long a0_), .second, .val (.long a1_), .second, .val (.long a2_), .second, .val (.long a3_), .second, .val (.ref ar), .val (.ref ad2), .val (.int r), .val (.int (0 : Int32)), .val (.long a0_), .second, .val (.long a1_), .second, .val (.long a2_), .second, .val (.long a3_), .second, .val (.long a3_), .second, .val (.long v182), .second, .val (.long v189), .second, .val (.long v196), .second, .val (.int (0 : Int32))] rfl rfl ?_
                        refine g_iload C X4 at_289 rfl rfl ?_
                        refine g_iload C X4 at_291 rfl rfl ?_
                        refine g_icmp C X4 at_293 (by decide) rfl rfl ?_ ?_
                        · intro h293
                          have h293 : ¬ r.toInt = 0 := h293
                          exfalso; omega
                        · intro h293
                          have h293 : r.toInt = 0 := h293
                          refine g_iconst C X4 (1 : Int32) at_296 rfl rfl ?_
                          refine g_goto C X4 at_297 (by decide) rfl ?_
                          exact g_ireturnN C X4 at_301 rfl (Or.inl rfl) ⟨rfl, N4⟩ (by decide) (by decide)
                      · intro h268
                        have h268 : v182.toInt > bd.toInt := h268
                        refine g_lload C X4 at_271 rfl rfl ?_
                        refine g_lload C X4 at_273 rfl rfl ?_
                        refine g_lcmpif C X4 at_275 rfl at_276 (by decide) rfl rfl ?_ ?_
                        · intro h276
                          have h276 : a3_.toInt < bd.toInt := h276
                          refine g_iload C X4 at_285 rfl rfl ?_
                          refine g_istore C X4 at_287 #[.val (.int x0), .val (.long x1), .second, .val (.long x2), .second, .val (.long x3), .second, .val (.long x4), .second, .val (.long x5), .second, .val (.int (4 : Int32)), .val (.int (0 : Int32)), .val (.long bd), .second, .val (.long a0_), .second, .val (.long a1_), .second, .val (.long a2_), .second, .val (.long a3_), .second, .val (.ref ar), .val (.ref ad2), .val (.int r), .val (.int (0 : Int32)), .val (.long a0_), .second, .val (.long a1_), .second, .val (.long a2_), .second, .val (.long a3_), .second, .val (.long a3_), .second, .val (.long v182), .second, .val (.long v189), .second, .val (.long v196), .second, .val (.int (0 : Int32))] rfl rfl ?_
                          refine g_iload C X4 at_289 rfl rfl ?_
                          refine g_iload C X4 at_291 rfl rfl ?_
                          refine g_icmp C X4 at_293 (by decide) rfl rfl ?_ ?_
                          · intro h293
                            have h293 : ¬ r.toInt = 0 := h293
                            exfalso; omega
                          · intro h293
                            have h293 : r.toInt = 0 := h293
                            refine g_iconst C X4 (1 : Int32) at_296 rfl rfl ?_
                            refine g_goto C X4 at_297 (by decide) rfl ?_
                            exact g_ireturnN C X4 at_301 rfl (Or.inl rfl) ⟨rfl, N4⟩ (by decide) (by decide)
                        · intro h276
                          have h276 : a3_.toInt ≥ bd.toInt := h276
                          refine g_iload C X4 at_279 rfl rfl ?_
                          refine g_iconst C X4 (1 : Int32) at_281 rfl rfl ?_
                          refine g_iadd C X4 at_282 rfl ?_
                          refine g_istore C X4 at_283 #[.val (.int x0), .val (.long x1), .second, .val (.long x2), .second, .val (.long x3), .second, .val (.long x4), .second, .val (.long x5), .second, .val (.int (4 : Int32)), .val (.int (0 : Int32)), .val (.long bd), .second, .val (.long a0_), .second, .val (.long a1_), .second, .val (.long a2_), .second, .val (.long a3_), .second, .val (.ref ar), .val (.ref ad2), .val (.int r), .unset, .val (.long a0_), .second, .val (.long a1_), .second, .val (.long a2_), .second, .val (.long a3_), .second, .val (.long a3_), .second, .val (.long v182), .second, .val (.long v189), .second, .val (.long v196), .second, .val (.int (1 : Int32))] rfl rfl ?_
                          refine g_iload C X4 at_285 rfl rfl ?_
                          refine g_istore C X4 at_287 #[.val (.int x0), .val (.long x1), .second, .val (.long x2), .second, .val (.long x3), .second, .val (.long x4), .second, .val (.long x5), .second, .val (.int (4 : Int32)), .val (.int (0 : Int32)), .val (.long bd), .second, .val (.long a0_), .second, .val (.long a1_), .second, .val (.long a2_), .second, .val (.long a3_), .second, .val (.ref ar), .val (.ref ad2), .val (.int r), .val (.int (1 : Int32)), .val (.long a0_), .second, .val (.long a1_), .second, .val (.long a2_), .second, .val (.long a3_), .second, .val (.long a3_), .second, .val (.long v182), .second, .val (.long v189), .second, .val (.long v196), .second, .val (.int (1 : Int32))] rfl rfl ?_
                          refine g_iload C X4 at_289 rfl rfl ?_
                          refine g_iload C X4 at_291 rfl rfl ?_
                          refine g_icmp C X4 at_293 (by decide) rfl rfl ?_ ?_
                          · intro h293
                            have h293 : ¬ r.toInt = 1 := h293
                            exfalso; omega
                          · intro h293
                            have h293 : r.toInt = 1 := h293
                            refine g_iconst C X4 (1 : Int32) at_296 rfl rfl ?_
                            refine g_goto C X4 at_297 (by decide) rfl ?_
                            exact g_ireturnN C X4 at_301 rfl (Or.inl rfl) ⟨rfl, N4⟩ (by decide) (by decide)
                  · intro h240
                    have h240 : v189.toInt > bd.toInt := h240
                    refine g_lload C X4 at_243 rfl rfl ?_
                    refine g_lload C X4 at_245 rfl rfl ?_
                    refine g_lcmpif C X4 at_247 rfl at_248 (by decide) rfl rfl ?_ ?_
                    · intro h248
                      have h248 : v182.toInt < bd.toInt := h248
                      refine g_iload C X4 at_257 rfl rfl ?_
                      refine g_iconst C X4 (4 : Int32) at_259 rfl rfl ?_
                      refine g_icmp C X4 at_260 (by decide) rfl rfl ?_ ?_
                      · intro h260
                        have h260 : (4 : Int) < 4 := h260
                        exact absurd h260 (by decide)
                      · intro h260
                        have h260 : (4 : Int) ≥ 4 := h260
                        refine g_lload C X4 at_263 rfl rfl ?_
                        refine g_lload C X4 at_265 rfl rfl ?_
                        refine g_lcmpif C X4 at_267 rfl at_268 (by decide) rfl rfl ?_ ?_
                        · intro h268
                          have h268 : v182.toInt ≤ bd.toInt := h268
                          refine g_iload C X4 at_285 rfl rfl ?_
                          refine g_istore C X4 at_287 #[.val (.int x0), .val (.long x1), .second, .val (.long x2), .second, .val (.long x3), .second, .val (.long x4), .second, .val (.long x5), .second, .val (.int (4 : Int32)), .val (.int (0 : Int32)), .val (.long bd), .second, .val (.long a0_), .second, .val (.long a1_), .second, .val (.long a2_), .second, .val (.long a3_), .second, .val (.ref ar), .val (.ref ad2), .val (.int r), .val (.int (0 : Int32)), .val (.long a0_), .second, .val (.long a1_), .second, .val (.long a2_), .second, .val (.long a3_), .second, .val (.long a3_), .second, .val (.long v182), .second, .val (.long v189), .second, .val (.long v196), .second, .val (.int (0 : Int32))] rfl rfl ?_
                          refine g_iload C X4 at_289 rfl rfl ?_
                          refine g_iload C X4 at_291 rfl rfl ?_
                          refine g_icmp C X4 at_293 (by decide) rfl rfl ?_ ?_
                          · intro h293
                            have h293 : ¬ r.toInt = 0 := h293
                            exfalso; omega
                          · intro h293
                            have h293 : r.toInt = 0 := h293
                            refine g_iconst C X4 (1 : Int32) at_296 rfl rfl ?_
                            refine g_goto C X4 at_297 (by decide) rfl ?_
                            exact g_ireturnN C X4 at_301 rfl (Or.inl rfl) ⟨rfl, N4⟩ (by decide) (by decide)
                        · intro h268
                          have h268 : v182.toInt > bd.toInt := h268
                          refine g_lload C X4 at_271 rfl rfl ?_
                          refine g_lload C X4 at_273 rfl rfl ?_
                          refine g_lcmpif C X4 at_275 rfl at_276 (by decide) rfl rfl ?_ ?_
                          · intro h276
                            have h276 : a3_.toInt < bd.toInt := h276
                            refine g_iload C X4 at_285 rfl rfl ?_
                            refine g_istore C X4 at_287 #[.val (.int x0), .val (.long x1), .second, .val (.long x2), .second, .val (.long x3), .second, .val (.long x4), .second, .val (.long x5), .second, .val (.int (4 : Int32)), .val (.int (0 : Int32)), .val (.long bd), .second, .val (.long a0_), .second, .val (.long a1_), .second, .val (.long a2_), .second, .val (.long a3_), .second, .val (.ref ar), .val (.ref ad2), .val (.int r), .val (.int (0 : Int32)), .val (.long a0_), .second, .val (.long a1_), .second, .val (.long a2_), .second, .val (.long a3_), .second, .val (.long a3_), .second, .val (.long v182), .second, .val (.long v189), .second, .val (.long v196), .second, .val (.int (0 : Int32))] rfl rfl ?_
                            refine g_iload C X4 at_289 rfl rfl ?_
                            refine g_iload C X4 at_291 rfl rfl ?_
                            refine g_icmp C X4 at_293 (by decide) rfl rfl ?_ ?_
                            · intro h293
                              have h293 : ¬ r.toInt = 0 := h293
                              exfalso; omega
                            · intro h293
                              have h293 : r.toInt = 0 := h293
                              refine g_iconst C X4 (1 : Int32) at_296 rfl rfl ?_
                              refine g_goto C X4 at_297 (by decide) rfl ?_
                              exact g_ireturnN C X4 at_301 rfl (Or.inl rfl) ⟨rfl, N4⟩ (by decide) (by decide)
                          · intro h276
                            have h276 : a3_.toInt ≥ bd.toInt := h276
                            refine g_iload C X4 at_279 rfl rfl ?_
                            refine g_iconst C X4 (1 : Int32) at_281 rfl rfl ?_
                            refine g_iadd C X4 at_282 rfl ?_
                            refine g_istore C X4 at_283 #[.val (.int x0), .val (.long x1), .second, .val (.long x2), .second, .val (.long x3), .second, .val (.long x4), .second, .val (.long x5), .second, .val (.int (4 : Int32)), .val (.int (0 : Int32)), .val (.long bd), .second, .val (.long a0_), .second, .val (.long a1_), .second, .val (.long a2_), .second, .val (.long a3_), .second, .val (.ref ar), .val (.ref ad2), .val (.int r), .unset, .val (.long a0_), .second, .val (.long a1_), .second, .val (.long a2_), .second, .val (.long a3_), .second, .val (.long a3_), .second, .val (.long v182), .second, .val (.long v189), .second, .val (.long v196), .second, .val (.int (1 : Int32))] rfl rfl ?_
                            refine g_iload C X4 at_285 rfl rfl ?_
                            refine g_istore C X4 at_287 #[.val (.int x0), .val (.long x1), .second, .val (.long x2), .second, .val (.long x3), .second, .val (.long x4), .second, .val (.long x5), .second, .val (.int (4 : Int32)), .val (.int (0 : Int32)), .val (.long bd), .second, .val (.long a0_), .second, .val (.long a1_), .second, .val (.long a2_), .second, .val (.long a3_), .second, .val (.ref ar), .val (.ref ad2), .val (.int r), .val (.int (1 : Int32)), .val (.long a0_), .second, .val (.long a1_), .second, .val (.long a2_), .second, .val (.long a3_), .second, .val (.long a3_), .second, .val (.long v182), .second, .val (.long v189), .second, .val (.long v196), .second, .val (.int (1 : Int32))] rfl rfl ?_
                            refine g_iload C X4 at_289 rfl rfl ?_
                            refine g_iload C X4 at_291 rfl rfl ?_
                            refine g_icmp C X4 at_293 (by decide) rfl rfl ?_ ?_
                            · intro h293
                              have h293 : ¬ r.toInt = 1 := h293
                              exfalso; omega
                            · intro h293
                              have h293 : r.toInt = 1 := h293
                              refine g_iconst C X4 (1 : Int32) at_296 rfl rfl ?_
                              refine g_goto C X4 at_297 (by decide) rfl ?_
                              exact g_ireturnN C X4 at_301 rfl (Or.inl rfl) ⟨rfl, N4⟩ (by decide) (by decide)
                    · intro h248
                      have h248 : v182.toInt ≥ bd.toInt := h248
                      refine g_iload C X4 at_251 rfl rfl ?_
                      refine g_iconst C X4 (1 : Int32) at_253 rfl rfl ?_
                      refine g_iadd C X4 at_254 rfl ?_
                      refine g_istore C X4 at_255 #[.val (.int x0), .val (.long x1), .second, .val (.long x2), .second, .val (.long x3), .second, .val (.long x4), .second, .val (.long x5), .second, .val (.int (4 : Int32)), .val (.int (0 : Int32)), .val (.long bd), .second, .val (.long a0_), .second, .val (.long a1_), .second, .val (.long a2_), .second, .val (.long a3_), .second, .val (.ref ar), .val (.ref ad2), .val (.int r), .unset, .val (.long a0_), .second, .val (.long a1_), .second, .val (.long a2_), .second, .val (.long a3_), .second, .val (.long a3_), .second, .val (.long v182), .second, .val (.long v189), .second, .val (.long v196), .second, .val (.int (1 : Int32))] rfl rfl ?_
                      refine g_iload C X4 at_257 rfl rfl ?_
                      refine g_iconst C X4 (4 : Int32) at_259 rfl rfl ?_
                      refine g_icmp C X4 at_260 (by decide) rfl rfl ?_ ?_
                      · intro h260
                        have h260 : (4 : Int) < 4 := h260
                        exact absurd h260 (by decide)
                      · intro h260
                        have h260 : (4 : Int) ≥ 4 := h260
                        refine g_lload C X4 at_263 rfl rfl ?_
                        refine g_lload C X4 at_265 rfl rfl ?_
                        refine g_lcmpif C X4 at_267 rfl at_268 (by decide) rfl rfl ?_ ?_
                        · intro h268
                          have h268 : v182.toInt ≤ bd.toInt := h268
                          refine g_iload C X4 at_285 rfl rfl ?_
                          refine g_istore C X4 at_287 #[.val (.int x0), .val (.long x1), .second, .val (.long x2), .second, .val (.long x3), .second, .val (.long x4), .second, .val (.long x5), .second, .val (.int (4 : Int32)), .val (.int (0 : Int32)), .val (.long bd), .second, .val (.long a0_), .second, .val (.long a1_), .second, .val (.long a2_), .second, .val (.long a3_), .second, .val (.ref ar), .val (.ref ad2), .val (.int r), .val (.int (1 : Int32)), .val (.long a0_), .second, .val (.long a1_), .second, .val (.long a2_), .second, .val (.long a3_), .second, .val (.long a3_), .second, .val (.long v182), .second, .val (.long v189), .second, .val (.long v196), .second, .val (.int (1 : Int32))] rfl rfl ?_
                          refine g_iload C X4 at_289 rfl rfl ?_
                          refine g_iload C X4 at_291 rfl rfl ?_
                          refine g_icmp C X4 at_293 (by decide) rfl rfl ?_ ?_
                          · intro h293
                            have h293 : ¬ r.toInt = 1 := h293
                            exfalso; omega
                          · intro h293
                            have h293 : r.toInt = 1 := h293
                            refine g_iconst C X4 (1 : Int32) at_296 rfl rfl ?_
                            refine g_goto C X4 at_297 (by decide) rfl ?_
                            exact g_ireturnN C X4 at_301 rfl (Or.inl rfl) ⟨rfl, N4⟩ (by decide) (by decide)
                        · intro h268
                          have h268 : v182.toInt > bd.toInt := h268
                          refine g_lload C X4 at_271 rfl rfl ?_
                          refine g_lload C X4 at_273 rfl rfl ?_
                          refine g_lcmpif C X4 at_275 rfl at_276 (by decide) rfl rfl ?_ ?_
                          · intro h276
                            have h276 : a3_.toInt < bd.toInt := h276
                            refine g_iload C X4 at_285 rfl rfl ?_
                            refine g_istore C X4 at_287 #[.val (.int x0), .val (.long x1), .second, .val (.long x2), .second, .val (.long x3), .second, .val (.long x4), .second, .val (.long x5), .second, .val (.int (4 : Int32)), .val (.int (0 : Int32)), .val (.long bd), .second, .val (.long a0_), .second, .val (.long a1_), .second, .val (.long a2_), .second, .val (.long a3_), .second, .val (.ref ar), .val (.ref ad2), .val (.int r), .val (.int (1 : Int32)), .val (.long a0_), .second, .val (.long a1_), .second, .val (.long a2_), .second, .val (.long a3_), .second, .val (.long a3_), .second, .val (.long v182), .second, .val (.long v189), .second, .val (.long v196), .second, .val (.int (1 : Int32))] rfl rfl ?_
                            refine g_iload C X4 at_289 rfl rfl ?_
                            refine g_iload C X4 at_291 rfl rfl ?_
                            refine g_icmp C X4 at_293 (by decide) rfl rfl ?_ ?_
                            · intro h293
                              have h293 : ¬ r.toInt = 1 := h293
                              exfalso; omega
                            · intro h293
                              have h293 : r.toInt = 1 := h293
                              refine g_iconst C X4 (1 : Int32) at_296 rfl rfl ?_
                              refine g_goto C X4 at_297 (by decide) rfl ?_
                              exact g_ireturnN C X4 at_301 rfl (Or.inl rfl) ⟨rfl, N4⟩ (by decide) (by decide)
                          · intro h276
                            have h276 : a3_.toInt ≥ bd.toInt := h276
                            refine g_iload C X4 at_279 rfl rfl ?_
                            refine g_iconst C X4 (1 : Int32) at_281 rfl rfl ?_
                            refine g_iadd C X4 at_282 rfl ?_
                            refine g_istore C X4 at_283 #[.val (.int x0), .val (.long x1), .second, .val (.long x2), .second, .val (.long x3), .second, .val (.long x4), .second, .val (.long x5), .second, .val (.int (4 : Int32)), .val (.int (0 : Int32)), .val (.long bd), .second, .val (.long a0_), .second, .val (.long a1_), .second, .val (.long a2_), .second, .val (.long a3_), .second, .val (.ref ar), .val (.ref ad2), .val (.int r), .unset, .val (.long a0_), .second, .val (.long a1_), .second, .val (.long a2_), .second, .val (.long a3_), .second, .val (.long a3_), .second, .val (.long v182), .second, .val (.long v189), .second, .val (.long v196), .second, .val (.int (2 : Int32))] rfl rfl ?_
                            refine g_iload C X4 at_285 rfl rfl ?_
                            refine g_istore C X4 at_287 #[.val (.int x0), .val (.long x1), .second, .val (.long x2), .second, .val (.long x3), .second, .val (.long x4), .second, .val (.long x5), .second, .val (.int (4 : Int32)), .val (.int (0 : Int32)), .val (.long bd), .second, .val (.long a0_), .second, .val (.long a1_), .second, .val (.long a2_), .second, .val (.long a3_), .second, .val (.ref ar), .val (.ref ad2), .val (.int r), .val (.int (2 : Int32)), .val (.long a0_), .second, .val (.long a1_), .second, .val (.long a2_), .second, .val (.long a3_), .second, .val (.long a3_), .second, .val (.long v182), .second, .val (.long v189), .second, .val (.long v196), .second, .val (.int (2 : Int32))] rfl rfl ?_
                            refine g_iload C X4 at_289 rfl rfl ?_
                            refine g_iload C X4 at_291 rfl rfl ?_
                            refine g_icmp C X4 at_293 (by decide) rfl rfl ?_ ?_
                            · intro h293
                              have h293 : ¬ r.toInt = 2 := h293
                              exfalso; omega
                            · intro h293
                              have h293 : r.toInt = 2 := h293
                              refine g_iconst C X4 (1 : Int32) at_296 rfl rfl ?_
                              refine g_goto C X4 at_297 (by decide) rfl ?_
                              exact g_ireturnN C X4 at_301 rfl (Or.inl rfl) ⟨rfl, N4⟩ (by decide) (by decide)
              · intro h212
                have h212 : v196.toInt > bd.toInt := h212
                refine g_lload C X4 at_215 rfl rfl ?_
                refine g_lload C X4 at_217 rfl rfl ?_
                refine g_lcmpif C X4 at_219 rfl at_220 (by decide) rfl rfl ?_ ?_
                · intro h220
                  have h220 : v189.toInt < bd.toInt := h220
                  refine g_iload C X4 at_229 rfl rfl ?_
                  refine g_iconst C X4 (3 : Int32) at_231 rfl rfl ?_
                  refine g_icmp C X4 at_232 (by decide) rfl rfl ?_ ?_
                  · intro h232
                    have h232 : (4 : Int) < 3 := h232
                    exact absurd h232 (by decide)
                  · intro h232
                    have h232 : (4 : Int) ≥ 3 := h232
                    refine g_lload C X4 at_235 rfl rfl ?_
                    refine g_lload C X4 at_237 rfl rfl ?_
                    refine g_lcmpif C X4 at_239 rfl at_240 (by decide) rfl rfl ?_ ?_
                    · intro h240
                      have h240 : v189.toInt ≤ bd.toInt := h240
                      refine g_iload C X4 at_257 rfl rfl ?_
                      refine g_iconst C X4 (4 : Int32) at_259 rfl rfl ?_
                      refine g_icmp C X4 at_260 (by decide) rfl rfl ?_ ?_
                      · intro h260
                        have h260 : (4 : Int) < 4 := h260
                        exact absurd h260 (by decide)
                      · intro h260
                        have h260 : (4 : Int) ≥ 4 := h260
                        refine g_lload C X4 at_263 rfl rfl ?_
                        refine g_lload C X4 at_265 rfl rfl ?_
                        refine g_lcmpif C X4 at_267 rfl at_268 (by decide) rfl rfl ?_ ?_
                        · intro h268
                          have h268 : v182.toInt ≤ bd.toInt := h268
                          refine g_iload C X4 at_285 rfl rfl ?_
                          refine g_istore C X4 at_287 #[.val (.int x0), .val (.long x1), .second, .val (.long x2), .second, .val (.long x3), .second, .val (.long x4), .second, .val (.long x5), .second, .val (.int (4 : Int32)), .val (.int (0 : Int32)), .val (.long bd), .second, .val (.long a0_), .second, .val (.long a1_), .second, .val (.long a2_), .second, .val (.long a3_), .second, .val (.ref ar), .val (.ref ad2), .val (.int r), .val (.int (0 : Int32)), .val (.long a0_), .second, .val (.long a1_), .second, .val (.long a2_), .second, .val (.long a3_), .second, .val (.long a3_), .second, .val (.long v182), .second, .val (.long v189), .second, .val (.long v196), .second, .val (.int (0 : Int32))] rfl rfl ?_
                          refine g_iload C X4 at_289 rfl rfl ?_
                          refine g_iload C X4 at_291 rfl rfl ?_
                          refine g_icmp C X4 at_293 (by decide) rfl rfl ?_ ?_
                          · intro h293
                            have h293 : ¬ r.toInt = 0 := h293
                            exfalso; omega
                          · intro h293
                            have h293 : r.toInt = 0 := h293
                            refine g_iconst C X4 (1 : Int32) at_296 rfl rfl ?_
                            refine g_goto C X4 at_297 (by decide) rfl ?_
                            exact g_ireturnN C X4 at_301 rfl (Or.inl rfl) ⟨rfl, N4⟩ (by decide) (by decide)
                        · intro h268
                          have h268 : v182.toInt > bd.toInt := h268
                          refine g_lload C X4 at_271 rfl rfl ?_
                          refine g_lload C X4 at_273 rfl rfl ?_
                          refine g_lcmpif C X4 at_275 rfl at_276 (by decide) rfl rfl ?_ ?_
                          · intro h276
                            have h276 : a3_.toInt < bd.toInt := h276
                            refine g_iload C X4 at_285 rfl rfl ?_
                            refine g_istore C X4 at_287 #[.val (.int x0), .val (.long x1), .second, .val (.long x2), .second, .val (.long x3), .second, .val (.long x4), .second, .val (.long x5), .second, .val (.int (4 : Int32)), .val (.int (0 : Int32)), .val (.long bd), .second, .val (.long a0_), .second, .val (.long a1_), .second, .val (.long a2_), .second, .val (.long a3_), .second, .val (.ref ar), .val (.ref ad2), .val (.int r), .val (.int (0 : Int32)), .val (.long a0_), .second, .val (.long a1_), .second, .val (.long a2_), .second, .val (.long a3_), .second, .val (.long a3_), .second, .val (.long v182), .second, .val (.long v189), .second, .val (.long v196), .second, .val (.int (0 : Int32))] rfl rfl ?_
                            refine g_iload C X4 at_289 rfl rfl ?_
                            refine g_iload C X4 at_291 rfl rfl ?_
                            refine g_icmp C X4 at_293 (by decide) rfl rfl ?_ ?_
                            · intro h293
                              have h293 : ¬ r.toInt = 0 := h293
                              exfalso; omega
                            · intro h293
                              have h293 : r.toInt = 0 := h293
                              refine g_iconst C X4 (1 : Int32) at_296 rfl rfl ?_
                              refine g_goto C X4 at_297 (by decide) rfl ?_
                              exact g_ireturnN C X4 at_301 rfl (Or.inl rfl) ⟨rfl, N4⟩ (by decide) (by decide)
                          · intro h276
                            have h276 : a3_.toInt ≥ bd.toInt := h276
                            refine g_iload C X4 at_279 rfl rfl ?_
                            refine g_iconst C X4 (1 : Int32) at_281 rfl rfl ?_
                            refine g_iadd C X4 at_282 rfl ?_
                            refine g_istore C X4 at_283 #[.val (.int x0), .val (.long x1), .second, .val (.long x2), .second, .val (.long x3), .second, .val (.long x4), .second, .val (.long x5), .second, .val (.int (4 : Int32)), .val (.int (0 : Int32)), .val (.long bd), .second, .val (.long a0_), .second, .val (.long a1_), .second, .val (.long a2_), .second, .val (.long a3_), .second, .val (.ref ar), .val (.ref ad2), .val (.int r), .unset, .val (.long a0_), .second, .val (.long a1_), .second, .val (.long a2_), .second, .val (.long a3_), .second, .val (.long a3_), .second, .val (.long v182), .second, .val (.long v189), .second, .val (.long v196), .second, .val (.int (1 : Int32))] rfl rfl ?_
                            refine g_iload C X4 at_285 rfl rfl ?_
                            refine g_istore C X4 at_287 #[.val (.int x0), .val (.long x1), .second, .val (.long x2), .second, .val (.long x3), .second, .val (.long x4), .second, .val (.long x5), .second, .val (.int (4 : Int32)), .val (.int (0 : Int32)), .val (.long bd), .second, .val (.long a0_), .second, .val (.long a1_), .second, .val (.long a2_), .second, .val (.long a3_), .second, .val (.ref ar), .val (.ref ad2), .val (.int r), .val (.int (1 : Int32)), .val (.long a0_), .second, .val (.long a1_), .second, .val (.long a2_), .second, .val (.long a3_), .second, .val (.long a3_), .second, .val (.long v182), .second, .val (.long v189), .second, .val (.long v196), .second, .val (.int (1 : Int32))] rfl rfl ?_
                            refine g_iload C X4 at_289 rfl rfl ?_
                            refine g_iload C X4 at_291 rfl rfl ?_
                            refine g_icmp C X4 at_293 (by decide) rfl rfl ?_ ?_
                            · intro h293
                              have h293 : ¬ r.toInt = 1 := h293
                              exfalso; omega
                            · intro h293
                              have h293 : r.toInt = 1 := h293
                              refine g_iconst C X4 (1 : Int32) at_296 rfl rfl ?_
                              refine g_goto C X4 at_297 (by decide) rfl ?_
                              exact g_ireturnN C X4 at_301 rfl (Or.inl rfl) ⟨rfl, N4⟩ (by decide) (by decide)
                    · intro h240
                      have h240 : v189.toInt > bd.toInt := h240
                      refine g_lload C X4 at_243 rfl rfl ?_
                      refine g_lload C X4 at_245 rfl rfl ?_
                      refine g_lcmpif C X4 at_247 rfl at_248 (by decide) rfl rfl ?_ ?_
                      · intro h248
                        have h248 : v182.toInt < bd.toInt := h248
                        refine g_iload C X4 at_257 rfl rfl ?_
                        refine g_iconst C X4 (4 : Int32) at_259 rfl rfl ?_
                        refine g_icmp C X4 at_260 (by decide) rfl rfl ?_ ?_
                        · intro h260
                          have h260 : (4 : Int) < 4 := h260
                          exact absurd h260 (by decide)
                        · intro h260
                          have h260 : (4 : Int) ≥ 4 := h260
                          refine g_lload C X4 at_263 rfl rfl ?_
                          refine g_lload C X4 at_265 rfl rfl ?_
                          refine g_lcmpif C X4 at_267 rfl at_268 (by decide) rfl rfl ?_ ?_
                          · intro h268
                            have h268 : v182.toInt ≤ bd.toInt := h268
                            refine g_iload C X4 at_285 rfl rfl ?_
                            refine g_istore C X4 at_287 #[.val (.int x0), .val (.long x1), .second, .val (.long x2), .second, .val (.long x3), .second, .val (.long x4), .second, .val (.long x5), .second, .val (.int (4 : Int32)), .val (.int (0 : Int32)), .val (.long bd), .second, .val (.long a0_), .second, .val (.long a1_), .second, .val (.long a2_), .second, .val (.long a3_), .second, .val (.ref ar), .val (.ref ad2), .val (.int r), .val (.int (0 : Int32)), .val (.long a0_), .second, .val (.long a1_), .second, .val (.long a2_), .second, .val (.long a3_), .second, .val (.long a3_), .second, .val (.long v182), .second, .val (.long v189), .second, .val (.long v196), .second, .val (.int (0 : Int32))] rfl rfl ?_
                            refine g_iload C X4 at_289 rfl rfl ?_
                            refine g_iload C X4 at_291 rfl rfl ?_
                            refine g_icmp C X4 at_293 (by decide) rfl rfl ?_ ?_
                            · intro h293
                              have h293 : ¬ r.toInt = 0 := h293
                              exfalso; omega
                            · intro h293
                              have h293 : r.toInt = 0 := h293
                              refine g_iconst C X4 (1 : Int32) at_296 rfl rfl ?_
                              refine g_goto C X4 at_297 (by decide) rfl ?_
                              exact g_ireturnN C X4 at_301 rfl (Or.inl rfl) ⟨rfl, N4⟩ (by decide) (by decide)
                          · intro h268
                            have h268 : v182.toInt > bd.toInt := h268
                            refine g_lload C X4 at_271 rfl rfl ?_
                            refine g_lload C X4 at_273 rfl rfl ?_
                            refine g_lcmpif C X4 at_275 rfl at_276 (by decide) rfl rfl ?_ ?_
                            · intro h276
                              have h276 : a3_.toInt < bd.toInt := h276
                              refine g_iload C X4 at_285 rfl rfl ?_
                              refine g_istore C X4 at_287 #[.val (.int x0), .val (.long x1), .second, .val (.long x2), .second, .val (.long x3), .second, .val (.long x4), .second, .val (.long x5), .second, .val (.int (4 : Int32)), .val (.int (0 : Int32)), .val (.long bd), .second, .val (.long a0_), .second, .val (.long a1_), .second, .val (.long a2_), .second, .val (.long a3_), .second, .val (.ref ar), .val (.ref ad2), .val (.int r), .val (.int (0 : Int32)), .val (.long a0_), .second, .val (.long a1_), .second, .val (.long a2_), .second, .val (.long a3_), .second, .val (.long a3_), .second, .val (.long v182), .second, .val (.long v189), .second, .val (.long v196), .second, .val (.int (0 : Int32))] rfl rfl ?_
                              refine g_iload C X4 at_289 rfl rfl ?_
                              refine g_iload C X4 at_291 rfl rfl ?_
                              refine g_icmp C X4 at_293 (by decide) rfl rfl ?_ ?_
                              · intro h293
                                have h293 : ¬ r.toInt = 0 := h293
                                exfalso; omega
                              · intro h293
                                have h293 : r.toInt = 0 := h293
                                refine g_iconst C X4 (1 : Int32) at_296 rfl rfl ?_
                                refine g_goto C X4 at_297 (by decide) rfl ?_
                                exact g_ireturnN C X4 at_301 rfl (Or.inl rfl) ⟨rfl, N4⟩ (by decide) (by decide)
                            · intro h276
                              have h276 : a3_.toInt ≥ bd.toInt := h276
                              refine g_iload C X4 at_279 rfl rfl ?_
                              refine g_iconst C X4 (1 : Int32) at_281 rfl rfl ?_
                              refine g_iadd C X4 at_282 rfl ?_
                              refine g_istore C X4 at_283 #[.val (.int x0), .val (.long x1), .second, .val (.long x2), .second, .val (.long x3), .second, .val (.long x4), .second, .val (.long x5), .second, .val (.int (4 : Int32)), .val (.int (0 : Int32)), .val (.long bd), .second, .val (.long a0_), .second, .val (.long a1_), .second, .val (.long a2_), .second, .val (.long a3_), .second, .val (.ref ar), .val (.ref ad2), .val (.int r), .unset, .val (.long a0_), .second, .val (.long a1_), .second, .val (.long a2_), .second, .val (.long a3_), .second, .val (.long a3_), .second, .val (.long v182), .second, .val (.long v189), .second, .val (.long v196), .second, .val (.int (1 : Int32))] rfl rfl ?_
                              refine g_iload C X4 at_285 rfl rfl ?_
                              refine g_istore C X4 at_287 #[.val (.int x0), .val (.long x1), .second, .val (.long x2), .second, .val (.long x3), .second, .val (.long x4), .second, .val (.long x5), .second, .val (.int (4 : Int32)), .val (.int (0 : Int32)), .val (.long bd), .second, .val (.long a0_), .second, .val (.long a1_), .second, .val (.long a2_), .second, .val (.long a3_), .second, .val (.ref ar), .val (.ref ad2), .val (.int r), .val (.int (1 : Int32)), .val (.long a0_), .second, .val (.long a1_), .second, .val (.long a2_), .second, .val (.long a3_), .second, .val (.long a3_), .second, .val (.long v182), .second, .val (.long v189), .second, .val (.long v196), .second, .val (.int (1 : Int32))] rfl rfl ?_
                              refine g_iload C X4 at_289 rfl rfl ?_
                              refine g_iload C X4 at_291 rfl rfl ?_
                              refine g_icmp C X4 at_293 (by decide) rfl rfl ?_ ?_
                              · intro h293
                                have h293 : ¬ r.toInt = 1 := h293
                                exfalso; omega
                              · intro h293
                                have h293 : r.toInt = 1 := h293
                                refine g_iconst C X4 (1 : Int32) at_296 rfl rfl ?_
                                refine g_goto C X4 at_297 (by decide) rfl ?_
                                exact g_ireturnN C X4 at_301 rfl (Or.inl rfl) ⟨rfl, N4⟩ (by decide) (by decide)
                      · intro h248
                        have h248 : v182.toInt ≥ bd.toInt := h248
                        refine g_iload C X4 at_251 rfl rfl ?_
                        refine g_iconst C X4 (1 : Int32) at_253 rfl rfl ?_
                        refine g_iadd C X4 at_254 rfl ?_
                        refine g_istore C X4 at_255 #[.val (.int x0), .val (.long x1), .second, .val (.long x2), .second, .val (.long x3), .second, .val (.long x4), .second, .val (.long x5), .second, .val (.int (4 : Int32)), .val (.int (0 : Int32)), .val (.long bd), .second, .val (.long a0_), .second, .val (.long a1_), .second, .val (.long a2_), .second, .val (.long a3_), .second, .val (.ref ar), .val (.ref ad2), .val (.int r), .unset, .val (.long a0_), .second, .val (.long a1_), .second, .val (.long a2_), .second, .val (.long a3_), .second, .val (.long a3_), .second, .val (.long v182), .second, .val (.long v189), .second, .val (.long v196), .second, .val (.int (1 : Int32))] rfl rfl ?_
                        refine g_iload C X4 at_257 rfl rfl ?_
                        refine g_iconst C X4 (4 : Int32) at_259 rfl rfl ?_
                        refine g_icmp C X4 at_260 (by decide) rfl rfl ?_ ?_
                        · intro h260
                          have h260 : (4 : Int) < 4 := h260
                          exact absurd h260 (by decide)
                        · intro h260
                          have h260 : (4 : Int) ≥ 4 := h260
                          refine g_lload C X4 at_263 rfl rfl ?_
                          refine g_lload C X4 at_265 rfl rfl ?_
                          refine g_lcmpif C X4 at_267 rfl at_268 (by decide) rfl rfl ?_ ?_
                          · intro h268
                            have h268 : v182.toInt ≤ bd.toInt := h268
                            refine g_iload C X4 at_285 rfl rfl ?_
                            refine g_istore C X4 at_287 #[.val (.int x0), .val (.long x1), .second, .val (.long x2), .second, .val (.long x3), .second, .val (.long x4), .second, .val (.long x5), .second, .val (.int (4 : Int32)), .val (.int (0 : Int32)), .val (.long bd), .second, .val (.long a0_), .second, .val (.long a1_), .second, .val (.long a2_), .second, .val (.long a3_), .second, .val (.ref ar), .val (.ref ad2), .val (.int r), .val (.int (1 : Int32)), .val (.long a0_), .second, .val (.long a1_), .second, .val (.long a2_), .second, .val (.long a3_), .second, .val (.long a3_), .second, .val (.long v182), .second, .val (.long v189), .second, .val (.long v196), .second, .val (.int (1 : Int32))] rfl rfl ?_
                            refine g_iload C X4 at_289 rfl rfl ?_
                            refine g_iload C X4 at_291 rfl rfl ?_
                            refine g_icmp C X4 at_293 (by decide) rfl rfl ?_ ?_
                            · intro h293
                              have h293 : ¬ r.toInt = 1 := h293
                              exfalso; omega
                            · intro h293
                              have h293 : r.toInt = 1 := h293
                              refine g_iconst C X4 (1 : Int32) at_296 rfl rfl ?_
                              refine g_goto C X4 at_297 (by decide) rfl ?_
                              exact g_ireturnN C X4 at_301 rfl (Or.inl rfl) ⟨rfl, N4⟩ (by decide) (by decide)
                          · intro h268
                            have h268 : v182.toInt > bd.toInt := h268
                            refine g_lload C X4 at_271 rfl rfl ?_
                            refine g_lload C X4 at_273 rfl rfl ?_
                            refine g_lcmpif C X4 at_275 rfl at_276 (by decide) rfl rfl ?_ ?_
                            · intro h276
                              have h276 : a3_.toInt < bd.toInt := h276
                              refine g_iload C X4 at_285 rfl rfl ?_
                              refine g_istore C X4 at_287 #[.val (.int x0), .val (.long x1), .second, .val (.long x2), .second, .val (.long x3), .second, .val (.long x4), .second, .val (.long x5), .second, .val (.int (4 : Int32)), .val (.int (0 : Int32)), .val (.long bd), .second, .val (.long a0_), .second, .val (.long a1_), .second, .val (.long a2_), .second, .val (.long a3_), .second, .val (.ref ar), .val (.ref ad2), .val (.int r), .val (.int (1 : Int32)), .val (.long a0_), .second, .val (.long a1_), .second, .val (.long a2_), .second, .val (.long a3_), .second, .val (.long a3_), .second, .val (.long v182), .second, .val (.long v189), .second, .val (.long v196), .second, .val (.int (1 : Int32))] rfl rfl ?_
                              refine g_iload C X4 at_289 rfl rfl ?_
                              refine g_iload C X4 at_291 rfl rfl ?_
                              refine g_icmp C X4 at_293 (by decide) rfl rfl ?_ ?_
                              · intro h293
                                have h293 : ¬ r.toInt = 1 := h293
                                exfalso; omega
                              · intro h293
                                have h293 : r.toInt = 1 := h293
                                refine g_iconst C X4 (1 : Int32) at_296 rfl rfl ?_
                                refine g_goto C X4 at_297 (by decide) rfl ?_
                                exact g_ireturnN C X4 at_301 rfl (Or.inl rfl) ⟨rfl, N4⟩ (by decide) (by decide)
                            · intro h276
                              have h276 : a3_.toInt ≥ bd.toInt := h276
                              refine g_iload C X4 at_279 rfl rfl ?_
                              refine g_iconst C X4 (1 : Int32) at_281 rfl rfl ?_
                              refine g_iadd C X4 at_282 rfl ?_
                              refine g_istore C X4 at_283 #[.val (.int x0), .val (.long x1), .second, .val (.long x2), .second, .val (.long x3), .second, .val (.long x4), .second, .val (.long x5), .second, .val (.int (4 : Int32)), .val (.int (0 : Int32)), .val (.long bd), .second, .val (.long a0_), .second, .val (.long a1_), .second, .val (.long a2_), .second, .val (.long a3_), .second, .val (.ref ar), .val (.ref ad2), .val (.int r), .unset, .val (.long a0_), .second, .val (.long a1_), .second, .val (.long a2_), .second, .val (.long a3_), .second, .val (.long a3_), .second, .val (.long v182), .second, .val (.long v189), .second, .val (.long v196), .second, .val (.int (2 : Int32))] rfl rfl ?_
                              refine g_iload C X4 at_285 rfl rfl ?_
                              refine g_istore C X4 at_287 #[.val (.int x0), .val (.long x1), .second, .val (.long x2), .second, .val (.long x3), .second, .val (.long x4), .second, .val (.long x5), .second, .val (.int (4 : Int32)), .val (.int (0 : Int32)), .val (.long bd), .second, .val (.long a0_), .second, .val (.long a1_), .second, .val (.long a2_), .second, .val (.long a3_), .second, .val (.ref ar), .val (.ref ad2), .val (.int r), .val (.int (2 : Int32)), .val (.long a0_), .second, .val (.long a1_), .second, .val (.long a2_), .second, .val (.long a3_), .second, .val (.long a3_), .second, .val (.long v182), .second, .val (.long v189), .second, .val (.long v196), .second, .val (.int (2 : Int32))] rfl rfl ?_
                              refine g_iload C X4 at_289 rfl rfl ?_
                              refine g_iload C X4 at_291 rfl rfl ?_
                              refine g_icmp C X4 at_293 (by decide) rfl rfl ?_ ?_
                              · intro h293
                                have h293 : ¬ r.toInt = 2 := h293
                                exfalso; omega
                              · intro h293
                                have h293 : r.toInt = 2 := h293
                                refine g_iconst C X4 (1 : Int32) at_296 rfl rfl ?_
                                refine g_goto C X4 at_297 (by decide) rfl ?_
                                exact g_ireturnN C X4 at_301 rfl (Or.inl rfl) ⟨rfl, N4⟩ (by decide) (by decide)
                · intro h220
                  have h220 : v189.toInt ≥ bd.toInt := h220
                  refine g_iload C X4 at_223 rfl rfl ?_
                  refine g_iconst C X4 (1 : Int32) at_225 rfl rfl ?_
                  refine g_iadd C X4 at_226 rfl ?_
                  refine g_istore C X4 at_227 #[.val (.int x0), .val (.long x1), .second, .val (.long x2), .second, .val (.long x3), .second, .val (.long x4), .second, .val (.long x5), .second, .val (.int (4 : Int32)), .val (.int (0 : Int32)), .val (.long bd), .second, .val (.long a0_), .second, .val (.long a1_), .second, .val (.long a2_), .second, .val (.long a3_), .second, .val (.ref ar), .val (.ref ad2), .val (.int r), .unset, .val (.long a0_), .second, .val (.long a1_), .second, .val (.long a2_), .second, .val (.long a3_), .second, .val (.long a3_), .second, .val (.long v182), .second, .val (.long v189), .second, .val (.long v196), .second, .val (.int (1 : Int32))] rfl rfl ?_
                  refine g_iload C X4 at_229 rfl rfl ?_
                  refine g_iconst C X4 (3 : Int32) at_231 rfl rfl ?_
                  refine g_icmp C X4 at_232 (by decide) rfl rfl ?_ ?_
                  · intro h232
                    have h232 : (4 : Int) < 3 := h232
                    exact absurd h232 (by decide)
                  · intro h232
                    have h232 : (4 : Int) ≥ 3 := h232
                    refine g_lload C X4 at_235 rfl rfl ?_
                    refine g_lload C X4 at_237 rfl rfl ?_
                    refine g_lcmpif C X4 at_239 rfl at_240 (by decide) rfl rfl ?_ ?_
                    · intro h240
                      have h240 : v189.toInt ≤ bd.toInt := h240
                      refine g_iload C X4 at_257 rfl rfl ?_
                      refine g_iconst C X4 (4 : Int32) at_259 rfl rfl ?_
                      refine g_icmp C X4 at_260 (by decide) rfl rfl ?_ ?_
                      · intro h260
                        have h260 : (4 : Int) < 4 := h260
                        exact absurd h260 (by decide)
                      · intro h260
                        have h260 : (4 : Int) ≥ 4 := h260
                        refine g_lload C X4 at_263 rfl rfl ?_
                        refine g_lload C X4 at_265 rfl rfl ?_
                        refine g_lcmpif C X4 at_267 rfl at_268 (by decide) rfl rfl ?_ ?_
                        · intro h268
                          have h268 : v182.toInt ≤ bd.toInt := h268
                          refine g_iload C X4 at_285 rfl rfl ?_
                          refine g_istore C X4 at_287 #[.val (.int x0), .val (.long x1), .second, .val (.long x2), .second, .val (.long x3), .second, .val (.long x4), .second, .val (.long x5), .second, .val (.int (4 : Int32)), .val (.int (0 : Int32)), .val (.long bd), .second, .val (.long a0_), .second, .val (.long a1_), .second, .val (.long a2_), .second, .val (.long a3_), .second, .val (.ref ar), .val (.ref ad2), .val (.int r), .val (.int (1 : Int32)), .val (.long a0_), .second, .val (.long a1_), .second, .val (.long a2_), .second, .val (.long a3_), .second, .val (.long a3_), .second, .val (.long v182), .second, .val (.long v189), .second, .val (.long v196), .second, .val (.int (1 : Int32))] rfl rfl ?_
                          refine g_iload C X4 at_289 rfl rfl ?_
                          refine g_iload C X4 at_291 rfl rfl ?_
                          refine g_icmp C X4 at_293 (by decide) rfl rfl ?_ ?_
                          · intro h293
                            have h293 : ¬ r.toInt = 1 := h293
                            exfalso; omega
                          · intro h293
                            have h293 : r.toInt = 1 := h293
                            refine g_iconst C X4 (1 : Int32) at_296 rfl rfl ?_
                            refine g_goto C X4 at_297 (by decide) rfl ?_
                            exact g_ireturnN C X4 at_301 rfl (Or.inl rfl) ⟨rfl, N4⟩ (by decide) (by decide)
                        · intro h268
                          have h268 : v182.toInt > bd.toInt := h268
                          refine g_lload C X4 at_271 rfl rfl ?_
                          refine g_lload C X4 at_273 rfl rfl ?_
                          refine g_lcmpif C X4 at_275 rfl at_276 (by decide) rfl rfl ?_ ?_
                          · intro h276
                            have h276 : a3_.toInt < bd.toInt := h276
                            refine g_iload C X4 at_285 rfl rfl ?_
                            refine g_istore C X4 at_287 #[.val (.int x0), .val (.long x1), .second, .val (.long x2), .second, .val (.long x3), .second, .val (.long x4), .second, .val (.long x5), .second, .val (.int (4 : Int32)), .val (.int (0 : Int32)), .val (.long bd), .second, .val (.long a0_), .second, .val (.long a1_), .second, .val (.long a2_), .second, .val (.long a3_), .second, .val (.ref ar), .val (.ref ad2), .val (.int r), .val (.int (1 : Int32)), .val (.long a0_), .second, .val (.long a1_), .second, .val (.long a2_), .second, .val (.long a3_), .second, .val (.long a3_), .second, .val (.long v182), .second, .val (.long v189), .second, .val (.long v196), .second, .val (.int (1 : Int32))] rfl rfl ?_
                            refine g_iload C X4 at_289 rfl rfl ?_
                            refine g_iload C X4 at_291 rfl rfl ?_
                            refine g_icmp C X4 at_293 (by decide) rfl rfl ?_ ?_
                            · intro h293
                              have h293 : ¬ r.toInt = 1 := h293
                              exfalso; omega
                            · intro h293
                              have h293 : r.toInt = 1 := h293
                              refine g_iconst C X4 (1 : Int32) at_296 rfl rfl ?_
                              refine g_goto C X4 at_297 (by decide) rfl ?_
                              exact g_ireturnN C X4 at_301 rfl (Or.inl rfl) ⟨rfl, N4⟩ (by decide) (by decide)
                          · intro h276
                            have h276 : a3_.toInt ≥ bd.toInt := h276
                            refine g_iload C X4 at_279 rfl rfl ?_
                            refine g_iconst C X4 (1 : Int32) at_281 rfl rfl ?_
                            refine g_iadd C X4 at_282 rfl ?_
                            refine g_istore C X4 at_283 #[.val (.int x0), .val (.long x1), .second, .val (.long x2), .second, .val (.long x3), .second, .val (.long x4), .second, .val (.long x5), .second, .val (.int (4 : Int32)), .val (.int (0 : Int32)), .val (.long bd), .second, .val (.long a0_), .second, .val (.long a1_), .second, .val (.long a2_), .second, .val (.long a3_), .second, .val (.ref ar), .val (.ref ad2), .val (.int r), .unset, .val (.long a0_), .second, .val (.long a1_), .second, .val (.long a2_), .second, .val (.long a3_), .second, .val (.long a3_), .second, .val (.long v182), .second, .val (.long v189), .second, .val (.long v196), .second, .val (.int (2 : Int32))] rfl rfl ?_
                            refine g_iload C X4 at_285 rfl rfl ?_
                            refine g_istore C X4 at_287 #[.val (.int x0), .val (.long x1), .second, .val (.long x2), .second, .val (.long x3), .second, .val (.long x4), .second, .val (.long x5), .second, .val (.int (4 : Int32)), .val (.int (0 : Int32)), .val (.long bd), .second, .val (.long a0_), .second, .val (.long a1_), .second, .val (.long a2_), .second, .val (.long a3_), .second, .val (.ref ar), .val (.ref ad2), .val (.int r), .val (.int (2 : Int32)), .val (.long a0_), .second, .val (.long a1_), .second, .val (.long a2_), .second, .val (.long a3_), .second, .val (.long a3_), .second, .val (.long v182), .second, .val (.long v189), .second, .val (.long v196), .second, .val (.int (2 : Int32))] rfl rfl ?_
                            refine g_iload C X4 at_289 rfl rfl ?_
                            refine g_iload C X4 at_291 rfl rfl ?_
                            refine g_icmp C X4 at_293 (by decide) rfl rfl ?_ ?_
                            · intro h293
                              have h293 : ¬ r.toInt = 2 := h293
                              exfalso; omega
                            · intro h293
                              have h293 : r.toInt = 2 := h293
                              refine g_iconst C X4 (1 : Int32) at_296 rfl rfl ?_
                              refine g_goto C X4 at_297 (by decide) rfl ?_
                              exact g_ireturnN C X4 at_301 rfl (Or.inl rfl) ⟨rfl, N4⟩ (by decide) (by decide)
                    · intro h240
                      have h240 : v189.toInt > bd.toInt := h240
                      refine g_lload C X4 at_243 rfl rfl ?_
                      refine g_lload C X4 at_245 rfl rfl ?_
                      refine g_lcmpif C X4 at_247 rfl at_248 (by decide) rfl rfl ?_ ?_
                      · intro h248
                        have h248 : v182.toInt < bd.toInt := h248
                        refine g_iload C X4 at_257 rfl rfl ?_
                        refine g_iconst C X4 (4 : Int32) at_259 rfl rfl ?_
                        refine g_icmp C X4 at_260 (by decide) rfl rfl ?_ ?_
                        · intro h260
                          have h260 : (4 : Int) < 4 := h260
                          exact absurd h260 (by decide)
                        · intro h260
                          have h260 : (4 : Int) ≥ 4 := h260
                          refine g_lload C X4 at_263 rfl rfl ?_
                          refine g_lload C X4 at_265 rfl rfl ?_
                          refine g_lcmpif C X4 at_267 rfl at_268 (by decide) rfl rfl ?_ ?_
                          · intro h268
                            have h268 : v182.toInt ≤ bd.toInt := h268
                            refine g_iload C X4 at_285 rfl rfl ?_
                            refine g_istore C X4 at_287 #[.val (.int x0), .val (.long x1), .second, .val (.long x2), .second, .val (.long x3), .second, .val (.long x4), .second, .val (.long x5), .second, .val (.int (4 : Int32)), .val (.int (0 : Int32)), .val (.long bd), .second, .val (.long a0_), .second, .val (.long a1_), .second, .val (.long a2_), .second, .val (.long a3_), .second, .val (.ref ar), .val (.ref ad2), .val (.int r), .val (.int (1 : Int32)), .val (.long a0_), .second, .val (.long a1_), .second, .val (.long a2_), .second, .val (.long a3_), .second, .val (.long a3_), .second, .val (.long v182), .second, .val (.long v189), .second, .val (.long v196), .second, .val (.int (1 : Int32))] rfl rfl ?_
                            refine g_iload C X4 at_289 rfl rfl ?_
                            refine g_iload C X4 at_291 rfl rfl ?_
                            refine g_icmp C X4 at_293 (by decide) rfl rfl ?_ ?_
                            · intro h293
                              have h293 : ¬ r.toInt = 1 := h293
                              exfalso; omega
                            · intro h293
                              have h293 : r.toInt = 1 := h293
                              refine g_iconst C X4 (1 : Int32) at_296 rfl rfl ?_
                              refine g_goto C X4 at_297 (by decide) rfl ?_
                              exact g_ireturnN C X4 at_301 rfl (Or.inl rfl) ⟨rfl, N4⟩ (by decide) (by decide)
                          · intro h268
                            have h268 : v182.toInt > bd.toInt := h268
                            refine g_lload C X4 at_271 rfl rfl ?_
                            refine g_lload C X4 at_273 rfl rfl ?_
                            refine g_lcmpif C X4 at_275 rfl at_276 (by decide) rfl rfl ?_ ?_
                            · intro h276
                              have h276 : a3_.toInt < bd.toInt := h276
                              refine g_iload C X4 at_285 rfl rfl ?_
                              refine g_istore C X4 at_287 #[.val (.int x0), .val (.long x1), .second, .val (.long x2), .second, .val (.long x3), .second, .val (.long x4), .second, .val (.long x5), .second, .val (.int (4 : Int32)), .val (.int (0 : Int32)), .val (.long bd), .second, .val (.long a0_), .second, .val (.long a1_), .second, .val (.long a2_), .second, .val (.long a3_), .second, .val (.ref ar), .val (.ref ad2), .val (.int r), .val (.int (1 : Int32)), .val (.long a0_), .second, .val (.long a1_), .second, .val (.long a2_), .second, .val (.long a3_), .second, .val (.long a3_), .second, .val (.long v182), .second, .val (.long v189), .second, .val (.long v196), .second, .val (.int (1 : Int32))] rfl rfl ?_
                              refine g_iload C X4 at_289 rfl rfl ?_
                              refine g_iload C X4 at_291 rfl rfl ?_
                              refine g_icmp C X4 at_293 (by decide) rfl rfl ?_ ?_
                              · intro h293
                                have h293 : ¬ r.toInt = 1 := h293
                                exfalso; omega
                              · intro h293
                                have h293 : r.toInt = 1 := h293
                                refine g_iconst C X4 (1 : Int32) at_296 rfl rfl ?_
                                refine g_goto C X4 at_297 (by decide) rfl ?_
                                exact g_ireturnN C X4 at_301 rfl (Or.inl rfl) ⟨rfl, N4⟩ (by decide) (by decide)
                            · intro h276
                              have h276 : a3_.toInt ≥ bd.toInt := h276
                              refine g_iload C X4 at_279 rfl rfl ?_
                              refine g_iconst C X4 (1 : Int32) at_281 rfl rfl ?_
                              refine g_iadd C X4 at_282 rfl ?_
                              refine g_istore C X4 at_283 #[.val (.int x0), .val (.long x1), .second, .val (.long x2), .second, .val (.long x3), .second, .val (.long x4), .second, .val (.long x5), .second, .val (.int (4 : Int32)), .val (.int (0 : Int32)), .val (.long bd), .second, .val (.long a0_), .second, .val (.long a1_), .second, .val (.long a2_), .second, .val (.long a3_), .second, .val (.ref ar), .val (.ref ad2), .val (.int r), .unset, .val (.long a0_), .second, .val (.long a1_), .second, .val (.long a2_), .second, .val (.long a3_), .second, .val (.long a3_), .second, .val (.long v182), .second, .val (.long v189), .second, .val (.long v196), .second, .val (.int (2 : Int32))] rfl rfl ?_
                              refine g_iload C X4 at_285 rfl rfl ?_
                              refine g_istore C X4 at_287 #[.val (.int x0), .val (.long x1), .second, .val (.long x2), .second, .val (.long x3), .second, .val (.long x4), .second, .val (.long x5), .second, .val (.int (4 : Int32)), .val (.int (0 : Int32)), .val (.long bd), .second, .val (.long a0_), .second, .val (.long a1_), .second, .val (.long a2_), .second, .val (.long a3_), .second, .val (.ref ar), .val (.ref ad2), .val (.int r), .val (.int (2 : Int32)), .val (.long a0_), .second, .val (.long a1_), .second, .val (.long a2_), .second, .val (.long a3_), .second, .val (.long a3_), .second, .val (.long v182), .second, .val (.long v189), .second, .val (.long v196), .second, .val (.int (2 : Int32))] rfl rfl ?_
                              refine g_iload C X4 at_289 rfl rfl ?_
                              refine g_iload C X4 at_291 rfl rfl ?_
                              refine g_icmp C X4 at_293 (by decide) rfl rfl ?_ ?_
                              · intro h293
                                have h293 : ¬ r.toInt = 2 := h293
                                exfalso; omega
                              · intro h293
                                have h293 : r.toInt = 2 := h293
                                refine g_iconst C X4 (1 : Int32) at_296 rfl rfl ?_
                                refine g_goto C X4 at_297 (by decide) rfl ?_
                                exact g_ireturnN C X4 at_301 rfl (Or.inl rfl) ⟨rfl, N4⟩ (by decide) (by decide)
                      · intro h248
                        have h248 : v182.toInt ≥ bd.toInt := h248
                        refine g_iload C X4 at_251 rfl rfl ?_
                        refine g_iconst C X4 (1 : Int32) at_253 rfl rfl ?_
                        refine g_iadd C X4 at_254 rfl ?_
                        refine g_istore C X4 at_255 #[.val (.int x0), .val (.long x1), .second, .val (.long x2), .second, .val (.long x3), .second, .val (.long x4), .second, .val (.long x5), .second, .val (.int (4 : Int32)), .val (.int (0 : Int32)), .val (.long bd), .second, .val (.long a0_), .second, .val (.long a1_), .second, .val (.long a2_), .second, .val (.long a3_), .second, .val (.ref ar), .val (.ref ad2), .val (.int r), .unset, .val (.long a0_), .second, .val (.long a1_), .second, .val (.long a2_), .second, .val (.long a3_), .second, .val (.long a3_), .second, .val (.long v182), .second, .val (.long v189), .second, .val (.long v196), .second, .val (.int (2 : Int32))] rfl rfl ?_
                        refine g_iload C X4 at_257 rfl rfl ?_
                        refine g_iconst C X4 (4 : Int32) at_259 rfl rfl ?_
                        refine g_icmp C X4 at_260 (by decide) rfl rfl ?_ ?_
                        · intro h260
                          have h260 : (4 : Int) < 4 := h260
                          exact absurd h260 (by decide)
                        · intro h260
                          have h260 : (4 : Int) ≥ 4 := h260
                          refine g_lload C X4 at_263 rfl rfl ?_
                          refine g_lload C X4 at_265 rfl rfl ?_
                          refine g_lcmpif C X4 at_267 rfl at_268 (by decide) rfl rfl ?_ ?_
                          · intro h268
                            have h268 : v182.toInt ≤ bd.toInt := h268
                            refine g_iload C X4 at_285 rfl rfl ?_
                            refine g_istore C X4 at_287 #[.val (.int x0), .val (.long x1), .second, .val (.long x2), .second, .val (.long x3), .second, .val (.long x4), .second, .val (.long x5), .second, .val (.int (4 : Int32)), .val (.int (0 : Int32)), .val (.long bd), .second, .val (.long a0_), .second, .val (.long a1_), .second, .val (.long a2_), .second, .val (.long a3_), .second, .val (.ref ar), .val (.ref ad2), .val (.int r), .val (.int (2 : Int32)), .val (.long a0_), .second, .val (.long a1_), .second, .val (.long a2_), .second, .val (.long a3_), .second, .val (.long a3_), .second, .val (.long v182), .second, .val (.long v189), .second, .val (.long v196), .second, .val (.int (2 : Int32))] rfl rfl ?_
                            refine g_iload C X4 at_289 rfl rfl ?_
                            refine g_iload C X4 at_291 rfl rfl ?_
                            refine g_icmp C X4 at_293 (by decide) rfl rfl ?_ ?_
                            · intro h293
                              have h293 : ¬ r.toInt = 2 := h293
                              exfalso; omega
                            · intro h293
                              have h293 : r.toInt = 2 := h293
                              refine g_iconst C X4 (1 : Int32) at_296 rfl rfl ?_
                              refine g_goto C X4 at_297 (by decide) rfl ?_
                              exact g_ireturnN C X4 at_301 rfl (Or.inl rfl) ⟨rfl, N4⟩ (by decide) (by decide)
                          · intro h268
                            have h268 : v182.toInt > bd.toInt := h268
                            refine g_lload C X4 at_271 rfl rfl ?_
                            refine g_lload C X4 at_273 rfl rfl ?_
                            refine g_lcmpif C X4 at_275 rfl at_276 (by decide) rfl rfl ?_ ?_
                            · intro h276
                              have h276 : a3_.toInt < bd.toInt := h276
                              refine g_iload C X4 at_285 rfl rfl ?_
                              refine g_istore C X4 at_287 #[.val (.int x0), .val (.long x1), .second, .val (.long x2), .second, .val (.long x3), .second, .val (.long x4), .second, .val (.long x5), .second, .val (.int (4 : Int32)), .val (.int (0 : Int32)), .val (.long bd), .second, .val (.long a0_), .second, .val (.long a1_), .second, .val (.long a2_), .second, .val (.long a3_), .second, .val (.ref ar), .val (.ref ad2), .val (.int r), .val (.int (2 : Int32)), .val (.long a0_), .second, .val (.long a1_), .second, .val (.long a2_), .second, .val (.long a3_), .second, .val (.long a3_), .second, .val (.long v182), .second, .val (.long v189), .second, .val (.long v196), .second, .val (.int (2 : Int32))] rfl rfl ?_
                              refine g_iload C X4 at_289 rfl rfl ?_
                              refine g_iload C X4 at_291 rfl rfl ?_
                              refine g_icmp C X4 at_293 (by decide) rfl rfl ?_ ?_
                              · intro h293
                                have h293 : ¬ r.toInt = 2 := h293
                                exfalso; omega
                              · intro h293
                                have h293 : r.toInt = 2 := h293
                                refine g_iconst C X4 (1 : Int32) at_296 rfl rfl ?_
                                refine g_goto C X4 at_297 (by decide) rfl ?_
                                exact g_ireturnN C X4 at_301 rfl (Or.inl rfl) ⟨rfl, N4⟩ (by decide) (by decide)
                            · intro h276
                              have h276 : a3_.toInt ≥ bd.toInt := h276
                              refine g_iload C X4 at_279 rfl rfl ?_
                              refine g_iconst C X4 (1 : Int32) at_281 rfl rfl ?_
                              refine g_iadd C X4 at_282 rfl ?_
                              refine g_istore C X4 at_283 #[.val (.int x0), .val (.long x1), .second, .val (.long x2), .second, .val (.long x3), .second, .val (.long x4), .second, .val (.long x5), .second, .val (.int (4 : Int32)), .val (.int (0 : Int32)), .val (.long bd), .second, .val (.long a0_), .second, .val (.long a1_), .second, .val (.long a2_), .second, .val (.long a3_), .second, .val (.ref ar), .val (.ref ad2), .val (.int r), .unset, .val (.long a0_), .second, .val (.long a1_), .second, .val (.long a2_), .second, .val (.long a3_), .second, .val (.long a3_), .second, .val (.long v182), .second, .val (.long v189), .second, .val (.long v196), .second, .val (.int (3 : Int32))] rfl rfl ?_
                              refine g_iload C X4 at_285 rfl rfl ?_
                              refine g_istore C X4 at_287 #[.val (.int x0), .val (.long x1), .second, .val (.long x2), .second, .val (.long x3), .second, .val (.long x4), .second, .val (.long x5), .second, .val (.int (4 : Int32)), .val (.int (0 : Int32)), .val (.long bd), .second, .val (.long a0_), .second, .val (.long a1_), .second, .val (.long a2_), .second, .val (.long a3_), .second, .val (.ref ar), .val (.ref ad2), .val (.int r), .val (.int (3 : Int32)), .val (.long a0_), .second, .val (.long a1_), .second, .val (.long a2_), .second, .val (.long a3_), .second, .val (.long a3_), .second, .val (.long v182), .second, .val (.long v189), .second, .val (.long v196), .second, .val (.int (3 : Int32))] rfl rfl ?_
                              refine g_iload C X4 at_289 rfl rfl ?_
                              refine g_iload C X4 at_291 rfl rfl ?_
                              refine g_icmp C X4 at_293 (by decide) rfl rfl ?_ ?_
                              · intro h293
                                have h293 : ¬ r.toInt = 3 := h293
                                exfalso; omega
                              · intro h293
                                have h293 : r.toInt = 3 := h293
                                refine g_iconst C X4 (1 : Int32) at_296 rfl rfl ?_
                                refine g_goto C X4 at_297 (by decide) rfl ?_
                                exact g_ireturnN C X4 at_301 rfl (Or.inl rfl) ⟨rfl, N4⟩ (by decide) (by decide)
  · intro h109
    have h109 : ¬ (0 : Int) = 0 := h109
    exact absurd h109 (by decide)
set_option maxRecDepth 65536 in
set_option maxHeartbeats 40000000 in
theorem rm0 (l : Launch) (Z : State) (a0 : Array Value) (hw : ∀ d ∈ tables_1, d.before a0 Z = true) (ws : List Jvm.Cond) (x0 : Int32) (x1 : Int64) (x2 : Int64) (x3 : Int64) (x4 : Int64) (x5 : Int64) (h0 : Heap) (n0 : Nat) (Z0 : n0 ≤ h0.size) :
    MetFree l x (head1 (Jvm.Cond.code x code maxLocals ret :: ws) room_1) (fun aa U => aa = #[(.int x0), (.long x1), (.long x2), (.long x3), (.long x4), (.long x5)] ∧ Z.Warmed39 U.vm ∧ U.heap = h0) (fun _ _ _ _ _ => True) (fun _ U oo U' => ∃ rv Lr, oo = .returned rv ∧ LQ n0 rv U'.heap Lr ∧ FrameEnd U oo U' Lr room_1.cells room_1.slots) := by
  refine g_enter pn_0 hw (ef_0 x0 x1 x2 x3 x4 x5) ?_
  intro p e s m below meth c T0 C X0 e0
  have C : Cx Z a0 p s m meth c code maxLocals "com/example/ballast/ballast/storage/RetentionBeyondBytesPinLaw" "law" ret := C
  have N0 := Fr.nil n0
  refine g_iloadN C X0 at_0 rfl rfl ?_
  refine g_bipush C X0 (7 : Int32) at_1 rfl rfl ?_
  refine g_iand C X0 at_3 rfl ?_
  refine g_iconst C X0 (5 : Int32) at_4 rfl rfl ?_
  refine g_irem C X0 at_5 (by decide) rfl ?_
  refine g_istoreV C X0 at_6 (fun v__ => #[.val (.int x0), .val (.long x1), .second, .val (.long x2), .second, .val (.long x3), .second, .val (.long x4), .second, .val (.long x5), .second, .val (.int v__), .unset, .unset, .unset, .unset, .unset, .unset, .unset, .unset, .unset, .unset, .unset, .unset, .unset, .unset, .unset, .unset, .unset, .unset, .unset, .unset, .unset, .unset, .unset, .unset, .unset, .unset, .unset, .unset, .unset, .unset, .unset, .unset]) rfl rfl ?_
  intro ln h_ln
  have cm := c_mask x0 (7 : Int32) 3 (by decide) (by decide)
  have cr := (c_iremV (x0 &&& (7 : Int32)) (5 : Int32)).1 (by omega) (by decide)
  rw [← h_ln, show (5 : Int32).toInt = 5 by decide] at cr
  have hl : ln = (0 : Int32) ∨ ln = (1 : Int32) ∨ ln = (2 : Int32) ∨ ln = (3 : Int32) ∨ ln = (4 : Int32) := by
    have q : ln.toInt = 0 ∨ ln.toInt = 1 ∨ ln.toInt = 2 ∨ ln.toInt = 3 ∨ ln.toInt = 4 := by omega
    rcases q with q | q | q | q | q
    · exact Or.inl (own_inj32 q)
    · exact Or.inr (Or.inl (own_inj32 q))
    · exact Or.inr (Or.inr (Or.inl (own_inj32 q)))
    · exact Or.inr (Or.inr (Or.inr (Or.inl (own_inj32 q))))
    · exact Or.inr (Or.inr (Or.inr (Or.inr (own_inj32 q))))
  clear h_ln cr cm
  refine g_iloadN C X0 at_8 rfl rfl ?_
  refine g_iconst C X0 (3 : Int32) at_9 rfl rfl ?_
  refine g_iushr C X0 at_10 rfl ?_
  refine g_iconst C X0 (3 : Int32) at_11 rfl rfl ?_
  refine g_iand C X0 at_12 rfl ?_
  refine g_if C X0 at_13 (by decide) rfl rfl ?_ ?_
  · intro h13
    have h13 : ¬ (((x0.toUInt32 >>> ((3 : Int32) &&& 31).toUInt32).toInt32) &&& (3 : Int32)).toInt = 0 := h13
    refine g_iconst C X0 (0 : Int32) at_20 rfl rfl ?_
    refine g_istore C X0 at_21 #[.val (.int x0), .val (.long x1), .second, .val (.long x2), .second, .val (.long x3), .second, .val (.long x4), .second, .val (.long x5), .second, .val (.int ln), .val (.int (0 : Int32)), .unset, .unset, .unset, .unset, .unset, .unset, .unset, .unset, .unset, .unset, .unset, .unset, .unset, .unset, .unset, .unset, .unset, .unset, .unset, .unset, .unset, .unset, .unset, .unset, .unset, .unset, .unset, .unset, .unset, .unset, .unset] rfl rfl ?_
    refine g_iload C X0 at_23 rfl rfl ?_
    refine g_if C X0 at_25 (by decide) rfl rfl ?_ ?_
    · intro h25
      have h25 : (0 : Int) = 0 := h25
      refine g_lloadN C X0 at_34 rfl rfl ?_
      refine g_iconst C X0 (1 : Int32) at_35 rfl rfl ?_
      refine g_lushr C X0 at_36 rfl ?_
      refine g_lstoreV C X0 at_37 (fun v__ => #[.val (.int x0), .val (.long x1), .second, .val (.long x2), .second, .val (.long x3), .second, .val (.long x4), .second, .val (.long x5), .second, .val (.int ln), .val (.int (0 : Int32)), .val (.long v__), .second, .unset, .unset, .unset, .unset, .unset, .unset, .unset, .unset, .unset, .unset, .unset, .unset, .unset, .unset, .unset, .unset, .unset, .unset, .unset, .unset, .unset, .unset, .unset, .unset, .unset, .unset, .unset, .unset, .unset]) rfl rfl ?_
      intro v37 h_v37
      have u37 := c_lushr x1 (1 : Int32) 1 (by decide) (by decide)
      rw [← h_v37] at u37
      have b37 : 0 ≤ v37.toInt := by rw [u37]; omega
      refine g_lloadN C X0 at_39 rfl rfl ?_
      refine g_iconst C X0 (3 : Int32) at_40 rfl rfl ?_
      refine g_lushr C X0 at_41 rfl ?_
      refine g_lstoreV C X0 at_42 (fun v__ => #[.val (.int x0), .val (.long x1), .second, .val (.long x2), .second, .val (.long x3), .second, .val (.long x4), .second, .val (.long x5), .second, .val (.int ln), .val (.int (0 : Int32)), .val (.long v37), .second, .val (.long v__), .second, .unset, .unset, .unset, .unset, .unset, .unset, .unset, .unset, .unset, .unset, .unset, .unset, .unset, .unset, .unset, .unset, .unset, .unset, .unset, .unset, .unset, .unset, .unset, .unset, .unset, .unset, .unset]) rfl rfl ?_
      intro v42 h_v42
      have u42 := c_lushr x2 (3 : Int32) 3 (by decide) (by decide)
      rw [← h_v42] at u42
      have b42 : 0 ≤ v42.toInt ∧ v42.toInt < 2305843009213693952 := by rw [u42]; omega
      refine g_lload C X0 at_44 rfl rfl ?_
      refine g_iconst C X0 (3 : Int32) at_46 rfl rfl ?_
      refine g_lushr C X0 at_47 rfl ?_
      refine g_lstoreV C X0 at_48 (fun v__ => #[.val (.int x0), .val (.long x1), .second, .val (.long x2), .second, .val (.long x3), .second, .val (.long x4), .second, .val (.long x5), .second, .val (.int ln), .val (.int (0 : Int32)), .val (.long v37), .second, .val (.long v42), .second, .val (.long v__), .second, .unset, .unset, .unset, .unset, .unset, .unset, .unset, .unset, .unset, .unset, .unset, .unset, .unset, .unset, .unset, .unset, .unset, .unset, .unset, .unset, .unset, .unset, .unset, .unset, .unset]) rfl rfl ?_
      intro v48 h_v48
      have u48 := c_lushr x3 (3 : Int32) 3 (by decide) (by decide)
      rw [← h_v48] at u48
      have b48 : 0 ≤ v48.toInt ∧ v48.toInt < 2305843009213693952 := by rw [u48]; omega
      refine g_lload C X0 at_50 rfl rfl ?_
      refine g_iconst C X0 (3 : Int32) at_52 rfl rfl ?_
      refine g_lushr C X0 at_53 rfl ?_
      refine g_lstoreV C X0 at_54 (fun v__ => #[.val (.int x0), .val (.long x1), .second, .val (.long x2), .second, .val (.long x3), .second, .val (.long x4), .second, .val (.long x5), .second, .val (.int ln), .val (.int (0 : Int32)), .val (.long v37), .second, .val (.long v42), .second, .val (.long v48), .second, .val (.long v__), .second, .unset, .unset, .unset, .unset, .unset, .unset, .unset, .unset, .unset, .unset, .unset, .unset, .unset, .unset, .unset, .unset, .unset, .unset, .unset, .unset, .unset, .unset, .unset]) rfl rfl ?_
      intro v54 h_v54
      have u54 := c_lushr x4 (3 : Int32) 3 (by decide) (by decide)
      rw [← h_v54] at u54
      have b54 : 0 ≤ v54.toInt ∧ v54.toInt < 2305843009213693952 := by rw [u54]; omega
      refine g_lload C X0 at_56 rfl rfl ?_
      refine g_iconst C X0 (3 : Int32) at_58 rfl rfl ?_
      refine g_lushr C X0 at_59 rfl ?_
      refine g_lstoreV C X0 at_60 (fun v__ => #[.val (.int x0), .val (.long x1), .second, .val (.long x2), .second, .val (.long x3), .second, .val (.long x4), .second, .val (.long x5), .second, .val (.int ln), .val (.int (0 : Int32)), .val (.long v37), .second, .val (.long v42), .second, .val (.long v48), .second, .val (.long v54), .second, .val (.long v__), .second, .unset, .unset, .unset, .unset, .unset, .unset, .unset, .unset, .unset, .unset, .unset, .unset, .unset, .unset, .unset, .unset, .unset, .unset, .unset, .unset, .unset]) rfl rfl ?_
      intro v60 h_v60
      have u60 := c_lushr x5 (3 : Int32) 3 (by decide) (by decide)
      rw [← h_v60] at u60
      have b60 : 0 ≤ v60.toInt ∧ v60.toInt < 2305843009213693952 := by rw [u60]; omega
      rcases hl with rfl | rfl | rfl | rfl | rfl
      · exact seg62_0_0 C X0 e0 N0 Z0 b42.1 b42.2 b48.1 b48.2 b54.1 b54.2 b60.1 b60.2 b37
      · exact seg62_0_1 C X0 e0 N0 Z0 b42.1 b42.2 b48.1 b48.2 b54.1 b54.2 b60.1 b60.2 b37
      · exact seg62_0_2 C X0 e0 N0 Z0 b42.1 b42.2 b48.1 b48.2 b54.1 b54.2 b60.1 b60.2 b37
      · exact seg62_0_3 C X0 e0 N0 Z0 b42.1 b42.2 b48.1 b48.2 b54.1 b54.2 b60.1 b60.2 b37
      · exact seg62_0_4 C X0 e0 N0 Z0 b42.1 b42.2 b48.1 b48.2 b54.1 b54.2 b60.1 b60.2 b37
    · intro h25
      have h25 : ¬ (0 : Int) = 0 := h25
      exact absurd h25 (by decide)
  · intro h13
    have h13 : (((x0.toUInt32 >>> ((3 : Int32) &&& 31).toUInt32).toInt32) &&& (3 : Int32)).toInt = 0 := h13
    refine g_iconst C X0 (1 : Int32) at_16 rfl rfl ?_
    refine g_goto C X0 at_17 (by decide) rfl ?_
    refine g_istore C X0 at_21 #[.val (.int x0), .val (.long x1), .second, .val (.long x2), .second, .val (.long x3), .second, .val (.long x4), .second, .val (.long x5), .second, .val (.int ln), .val (.int (1 : Int32)), .unset, .unset, .unset, .unset, .unset, .unset, .unset, .unset, .unset, .unset, .unset, .unset, .unset, .unset, .unset, .unset, .unset, .unset, .unset, .unset, .unset, .unset, .unset, .unset, .unset, .unset, .unset, .unset, .unset, .unset, .unset] rfl rfl ?_
    refine g_iload C X0 at_23 rfl rfl ?_
    refine g_if C X0 at_25 (by decide) rfl rfl ?_ ?_
    · intro h25
      have h25 : (1 : Int) = 0 := h25
      exact absurd h25 (by decide)
    · intro h25
      have h25 : ¬ (1 : Int) = 0 := h25
      refine g_ldcL C X0 at_28 (C.t 0 rfl) rfl ?_
      refine g_goto C X0 at_31 (by decide) rfl ?_
      refine g_lstore C X0 at_37 #[.val (.int x0), .val (.long x1), .second, .val (.long x2), .second, .val (.long x3), .second, .val (.long x4), .second, .val (.long x5), .second, .val (.int ln), .val (.int (1 : Int32)), .val (.long (-1 : Int64)), .second, .unset, .unset, .unset, .unset, .unset, .unset, .unset, .unset, .unset, .unset, .unset, .unset, .unset, .unset, .unset, .unset, .unset, .unset, .unset, .unset, .unset, .unset, .unset, .unset, .unset, .unset, .unset, .unset, .unset] rfl rfl ?_
      refine g_lloadN C X0 at_39 rfl rfl ?_
      refine g_iconst C X0 (3 : Int32) at_40 rfl rfl ?_
      refine g_lushr C X0 at_41 rfl ?_
      refine g_lstoreV C X0 at_42 (fun v__ => #[.val (.int x0), .val (.long x1), .second, .val (.long x2), .second, .val (.long x3), .second, .val (.long x4), .second, .val (.long x5), .second, .val (.int ln), .val (.int (1 : Int32)), .val (.long (-1 : Int64)), .second, .val (.long v__), .second, .unset, .unset, .unset, .unset, .unset, .unset, .unset, .unset, .unset, .unset, .unset, .unset, .unset, .unset, .unset, .unset, .unset, .unset, .unset, .unset, .unset, .unset, .unset, .unset, .unset, .unset, .unset]) rfl rfl ?_
      intro v42 h_v42
      have u42 := c_lushr x2 (3 : Int32) 3 (by decide) (by decide)
      rw [← h_v42] at u42
      have b42 : 0 ≤ v42.toInt ∧ v42.toInt < 2305843009213693952 := by rw [u42]; omega
      refine g_lload C X0 at_44 rfl rfl ?_
      refine g_iconst C X0 (3 : Int32) at_46 rfl rfl ?_
      refine g_lushr C X0 at_47 rfl ?_
      refine g_lstoreV C X0 at_48 (fun v__ => #[.val (.int x0), .val (.long x1), .second, .val (.long x2), .second, .val (.long x3), .second, .val (.long x4), .second, .val (.long x5), .second, .val (.int ln), .val (.int (1 : Int32)), .val (.long (-1 : Int64)), .second, .val (.long v42), .second, .val (.long v__), .second, .unset, .unset, .unset, .unset, .unset, .unset, .unset, .unset, .unset, .unset, .unset, .unset, .unset, .unset, .unset, .unset, .unset, .unset, .unset, .unset, .unset, .unset, .unset, .unset, .unset]) rfl rfl ?_
      intro v48 h_v48
      have u48 := c_lushr x3 (3 : Int32) 3 (by decide) (by decide)
      rw [← h_v48] at u48
      have b48 : 0 ≤ v48.toInt ∧ v48.toInt < 2305843009213693952 := by rw [u48]; omega
      refine g_lload C X0 at_50 rfl rfl ?_
      refine g_iconst C X0 (3 : Int32) at_52 rfl rfl ?_
      refine g_lushr C X0 at_53 rfl ?_
      refine g_lstoreV C X0 at_54 (fun v__ => #[.val (.int x0), .val (.long x1), .second, .val (.long x2), .second, .val (.long x3), .second, .val (.long x4), .second, .val (.long x5), .second, .val (.int ln), .val (.int (1 : Int32)), .val (.long (-1 : Int64)), .second, .val (.long v42), .second, .val (.long v48), .second, .val (.long v__), .second, .unset, .unset, .unset, .unset, .unset, .unset, .unset, .unset, .unset, .unset, .unset, .unset, .unset, .unset, .unset, .unset, .unset, .unset, .unset, .unset, .unset, .unset, .unset]) rfl rfl ?_
      intro v54 h_v54
      have u54 := c_lushr x4 (3 : Int32) 3 (by decide) (by decide)
      rw [← h_v54] at u54
      have b54 : 0 ≤ v54.toInt ∧ v54.toInt < 2305843009213693952 := by rw [u54]; omega
      refine g_lload C X0 at_56 rfl rfl ?_
      refine g_iconst C X0 (3 : Int32) at_58 rfl rfl ?_
      refine g_lushr C X0 at_59 rfl ?_
      refine g_lstoreV C X0 at_60 (fun v__ => #[.val (.int x0), .val (.long x1), .second, .val (.long x2), .second, .val (.long x3), .second, .val (.long x4), .second, .val (.long x5), .second, .val (.int ln), .val (.int (1 : Int32)), .val (.long (-1 : Int64)), .second, .val (.long v42), .second, .val (.long v48), .second, .val (.long v54), .second, .val (.long v__), .second, .unset, .unset, .unset, .unset, .unset, .unset, .unset, .unset, .unset, .unset, .unset, .unset, .unset, .unset, .unset, .unset, .unset, .unset, .unset, .unset, .unset]) rfl rfl ?_
      intro v60 h_v60
      have u60 := c_lushr x5 (3 : Int32) 3 (by decide) (by decide)
      rw [← h_v60] at u60
      have b60 : 0 ≤ v60.toInt ∧ v60.toInt < 2305843009213693952 := by rw [u60]; omega
      rcases hl with rfl | rfl | rfl | rfl | rfl
      · exact seg62_1_0 C X0 e0 N0 Z0 b42.1 b42.2 b48.1 b48.2 b54.1 b54.2 b60.1 b60.2
      · exact seg62_1_1 C X0 e0 N0 Z0 b42.1 b42.2 b48.1 b48.2 b54.1 b54.2 b60.1 b60.2
      · exact seg62_1_2 C X0 e0 N0 Z0 b42.1 b42.2 b48.1 b48.2 b54.1 b54.2 b60.1 b60.2
      · exact seg62_1_3 C X0 e0 N0 Z0 b42.1 b42.2 b48.1 b48.2 b54.1 b54.2 b60.1 b60.2
      · exact seg62_1_4 C X0 e0 N0 Z0 b42.1 b42.2 b48.1 b48.2 b54.1 b54.2 b60.1 b60.2
set_option maxRecDepth 65536 in
set_option maxHeartbeats 40000000 in
theorem comes_1 {Post : Tables → Env → Array Value → State → Outcome → State → Prop} (hpost : ∀ tb e args s v u, (limb_1_1.after args s (.returned v) u = true ∧ limb_1_2.after args s (.returned v) u = true ∧ True) → FrameEnd s (.returned v) u (Jvm.fieldLocs frame_1_writes args s ++ Jvm.arrayLocs frame_1_arrays args s ++ Jvm.staticLocs frame_1_statics s) 16 128 → Post tb e args s (.returned v) u) :
    ArmFor flags0 classFile x code maxLocals ret World_1 tables_1 room_1 Calls_1 rest_1 Pre_1 Post := by
  intro l hfl _ _ p e ha hc hk s m args below hf hA hF happ hP
  obtain ⟨hcalls, hrest, hpre⟩ := hP
  obtain ⟨-, -, -, hnamed, -, -, -, hat⟩ := (Spec.applies_iff hf).mp happ
  obtain ⟨hg, hn⟩ := and_e (Cond.before_iff.mp (show (Jvm.Cond.and given_1 narrow_1).before args s = true from hpre))
  obtain ⟨q0, g0⟩ := and_e hg
  obtain ⟨q1, g1⟩ := and_e g0
  obtain ⟨q2, g2⟩ := and_e g1
  obtain ⟨q3, g3⟩ := and_e g2
  obtain ⟨q4, g4⟩ := and_e g3
  obtain ⟨q5, g5⟩ := and_e g4
  have q6 := g5
  obtain ⟨w0, w1, w2, w3, w4, w5, rfl⟩ : ∃ w0 w1 w2 w3 w4 w5 : Value, args = #[w0, w1, w2, w3, w4, w5] := by
    have hs : args.size = 6 := by simpa [Cond.value, given_1] using q0
    obtain ⟨L⟩ := args
    match L, hs with
    | [w0, w1, w2, w3, w4, w5], _ => exact ⟨w0, w1, w2, w3, w4, w5, rfl⟩
  have hw := fun d (hd : d ∈ tables_1) => atoms_spec (ws := Jvm.Cond.code x code maxLocals ret :: tables_1) hat d (List.mem_cons_of_mem _ hd)
  obtain ⟨i0, ei0⟩ := is_v q1
  obtain rfl : w0 = (.int i0) := Option.some.inj ei0
  obtain ⟨i1, ei1⟩ := isL_v q2
  obtain rfl : w1 = (.long i1) := Option.some.inj ei1
  obtain ⟨i2, ei2⟩ := isL_v q3
  obtain rfl : w2 = (.long i2) := Option.some.inj ei2
  obtain ⟨i3, ei3⟩ := isL_v q4
  obtain rfl : w3 = (.long i3) := Option.some.inj ei3
  obtain ⟨i4, ei4⟩ := isL_v q5
  obtain rfl : w4 = (.long i4) := Option.some.inj ei4
  obtain ⟨i5, ei5⟩ := isL_v q6
  obtain rfl : w5 = (.long i5) := Option.some.inj ei5
  obtain ⟨n, o, h1, h2, h3, _, L, rfl, ⟨rfl, N⟩, hq⟩ := rm0 l s _ hw tables_1 i0 i1 i2 i3 i4 i5 s.heap s.heap.size (Nat.le_refl _) p e ha hc hk s m _ below hf ((Spec.applies_iff_loose hf).mp happ).1 ⟨rfl, State.Warmed39.refl s, rfl⟩ trivial
  refine ⟨n, _, h1, h2, h3, hpost _ _ _ _ _ _ ⟨Cond.after_iff.mpr rfl, Cond.after_iff.mpr (eq_i res_at (Term.int_eval (1)) rfl), trivial⟩ ⟨hq.1, hq.2.1, (hq.2.2.sift fun y hy => Or.inr (N y hy)).mono (by decide) (by decide)⟩⟩
theorem main_1_1 : Claimed_1_1 := comes_1 fun _ _ _ _ _ _ h hF => ⟨h.1, hF⟩
theorem main_1_2 : Claimed_1_2 := comes_1 fun _ _ _ _ _ _ h hF => ⟨h.2.1, hF⟩
end Jvm.Pilot.@@N@@
namespace Jvm.Pilot.@@N@@
open Jvm Jvm.ClassFile Sem Op Lib Jvm.Free Jvm.Stand Jvm.Pilot.@@N@@.Jvm.D
/-! MADE BY PROGRAM (witnessworld.py) out of the Statement's table words and the real class files: 12 classes; the members and pool entries that the words name. The judged class is class 1, her method 2. -/
namespace start1
open Jvm.ClassFile
def u (s : String) : CpInfo := .utf8 (stringToUtf16 s)
/-- a pool by its gaps: so many unusable entries, then the entry; so many at the end -/
def gap : Nat → List CpInfo → List CpInfo
  | 0, r => r
  | n + 1, r => .unusable :: gap n r
def poolList (es : List (Nat × CpInfo)) (last : Nat) : List CpInfo := es.foldr (fun e r => gap e.1 (e.2 :: r)) (gap last [])
def pool (es : List (Nat × CpInfo)) (last : Nat) : Array CpInfo := ⟨poolList es last⟩
def fileOf (pool : Array CpInfo) (this : Nat) (attrs : Array Attribute := #[]) (ms : Array MethodInfo := #[]) (fl : Nat := 33) (sup : Nat := 0) (ifs : Array Nat := #[]) (fds : Array FieldInfo := #[]) : ClassFile where
  minorVersion := 0
  majorVersion := 65
  constantPool := pool
  accessFlags := fl
  thisClass := this
  superClass := sup
  interfaces := ifs
  fields := fds
  methods := ms
  attributes := attrs
def plain (name : String) (sup : Option ClassId) : Class where
  name := name
  kind := .ordinary
  loader := none
  accessFlags := 33
  super := sup
  interfaces := #[]
  cf := none
  fields := #[]
  methods := #[]
  instanceTypes := #[]
  staticTypes := #[]
  resolved := #[]
  callSites := []
  init := .initialized
  statics := none
  mirror := none

def pool0 : Array CpInfo := pool [(5, u "<init>"), (0, u "()V"), (1, .class_ 10), (1, u "java/lang/Object")] 113

def k0c0 : Code := { maxStack := 0, maxLocals := 1, code := object_method_1_code, exceptionTable := #[], attributes := #[] }
def k0m0 : Method := { name := "<init>", desc := "()V", sig := { parameters := [], returnType := none }, accessFlags := 1, code := some k0c0 }
/-- java/lang/Object -/
def k0 : Class := { plain "java/lang/Object" none with
  accessFlags := 33
  interfaces := #[]
  cf := some (fileOf pool0 8 #[] #[{ accessFlags := 1, nameIndex := 5, descriptorIndex := 6, attributes := #[] }] 33 0 #[] #[])
  fields := #[]
  methods := #[k0m0]
  instanceTypes := #[]
  staticTypes := #[]
  resolved := Array.replicate 124 none
  statics := none }

def pool1 : Array CpInfo := pool [(2, .class_ 4), (1, u "java/lang/Object"), (0, u "<init>"), (0, u "()V"), (0, .class_ 8), (0, u "com/example/ballast/ballast/storage/Retention"), (0, .long 18446744073709551615), (1, .methodref 12 13), (0, .class_ 14), (0, .nameAndType 15 16), (0, u "com/example/ballast/ballast/storage/RetentionBeyondBytesPinLaw"), (0, u "make"), (0, u "(IJJJJ)[J"), (2, .long 9223372036854775807), (1, .methodref 7 22), (0, .nameAndType 5 23), (0, u "(JJJJJ)V"), (0, .methodref 7 25), (0, .nameAndType 26 27), (0, u "beyondBytes"), (0, u "([J)I"), (3, u "law"), (0, u "(IJJJJJ)Z")] 4

def k1m0 : Method := { name := "<init>", desc := "()V", sig := { parameters := [], returnType := none }, accessFlags := 1, code := none }
def k1c1 : Code := { maxStack := 5, maxLocals := 9, code := method_2_code, exceptionTable := #[], attributes := #[] }
def k1m1 : Method := { name := "make", desc := "(IJJJJ)[J", sig := { parameters := [.int, .long, .long, .long, .long], returnType := some (.array .long) }, accessFlags := 10, code := some k1c1 }
def k1c2 : Code := { maxStack := 12, maxLocals := 44, code := code, exceptionTable := #[], attributes := #[] }
def k1m2 : Method := { name := "law", desc := "(IJJJJJ)Z", sig := { parameters := [.int, .long, .long, .long, .long, .long], returnType := some .boolean }, accessFlags := 9, code := some k1c2 }
/-- com/example/ballast/ballast/storage/RetentionBeyondBytesPinLaw -/
def k1 : Class := { plain "com/example/ballast/ballast/storage/RetentionBeyondBytesPinLaw" (some 0) with
  accessFlags := 49
  interfaces := #[]
  cf := some (fileOf pool1 12 #[] #[{ accessFlags := 1, nameIndex := 5, descriptorIndex := 6, attributes := #[] }, { accessFlags := 10, nameIndex := 15, descriptorIndex := 16, attributes := #[] }, { accessFlags := 9, nameIndex := 31, descriptorIndex := 32, attributes := #[] }] 49 2 #[] #[])
  fields := #[]
  methods := #[k1m0, k1m1, k1m2]
  instanceTypes := #[]
  staticTypes := #[]
  resolved := Array.replicate 37 none
  statics := none }

def pool2 : Array CpInfo := pool [(1, .methodref 2 3), (0, .class_ 4), (0, .nameAndType 5 6), (0, u "java/lang/Object"), (0, u "<init>"), (0, u "()V"), (0, .class_ 8), (0, u "java/lang/Record")] 13

def k2c0 : Code := { maxStack := 1, maxLocals := 1, code := jdk_30_method_1_code, exceptionTable := #[], attributes := #[] }
def k2m0 : Method := { name := "<init>", desc := "()V", sig := { parameters := [], returnType := none }, accessFlags := 4, code := some k2c0 }
/-- java/lang/Record -/
def k2 : Class := { plain "java/lang/Record" (some 0) with
  accessFlags := 1057
  interfaces := #[]
  cf := some (fileOf pool2 7 #[] #[{ accessFlags := 4, nameIndex := 5, descriptorIndex := 6, attributes := #[] }] 1057 2 #[] #[])
  fields := #[]
  methods := #[k2m0]
  instanceTypes := #[]
  staticTypes := #[]
  resolved := Array.replicate 22 none
  statics := none }

def pool3 : Array CpInfo := pool [(1, .methodref 2 3), (0, .class_ 4), (0, .nameAndType 5 6), (0, u "java/lang/Record"), (0, u "<init>"), (0, u "()V"), (0, .fieldref 8 9), (0, .class_ 10), (0, .nameAndType 11 12), (0, u "com/example/ballast/ballast/storage/Retention"), (0, u "millis"), (0, u "J"), (0, .fieldref 8 14), (0, .nameAndType 15 12), (0, u "bytes"), (0, .fieldref 8 17), (0, .nameAndType 18 12), (0, u "checkIntervalMillis"), (0, .fieldref 8 20), (0, .nameAndType 21 12), (0, u "rollMillis"), (0, .fieldref 8 23), (0, .nameAndType 24 12), (0, u "aheadMillis"), (0, .long 18446744073709551615), (19, u "(JJJJJ)V"), (2, u "UP_TO"), (0, u "Lcom/example/ballast/ballast/storage/Retention;"), (2, u "KEEP_ALL"), (0, u "UNBOUNDED"), (11, u "beyondBytes"), (0, u "([J)I")] 31

def k3c0 : Code := { maxStack := 3, maxLocals := 11, code := prog_339_method_1_code, exceptionTable := #[], attributes := #[] }
def k3m0 : Method := { name := "<init>", desc := "(JJJJJ)V", sig := { parameters := [.long, .long, .long, .long, .long], returnType := none }, accessFlags := 1, code := some k3c0 }
def k3c1 : Code := { maxStack := 4, maxLocals := 9, code := prog_339_method_6_code, exceptionTable := #[], attributes := #[] }
def k3m1 : Method := { name := "beyondBytes", desc := "([J)I", sig := { parameters := [(.array .long)], returnType := some .int }, accessFlags := 0, code := some k3c1 }
/-- com/example/ballast/ballast/storage/Retention -/
def k3 : Class := { plain "com/example/ballast/ballast/storage/Retention" (some 2) with
  accessFlags := 49
  interfaces := #[]
  cf := some (fileOf pool3 8 #[] #[{ accessFlags := 1, nameIndex := 5, descriptorIndex := 45, attributes := #[] }, { accessFlags := 0, nameIndex := 65, descriptorIndex := 66, attributes := #[] }] 49 2 #[] #[{ accessFlags := 18, nameIndex := 11, descriptorIndex := 12, attributes := #[] }, { accessFlags := 18, nameIndex := 15, descriptorIndex := 12, attributes := #[] }, { accessFlags := 18, nameIndex := 18, descriptorIndex := 12, attributes := #[] }, { accessFlags := 18, nameIndex := 21, descriptorIndex := 12, attributes := #[] }, { accessFlags := 18, nameIndex := 24, descriptorIndex := 12, attributes := #[] }, { accessFlags := 25, nameIndex := 53, descriptorIndex := 12, attributes := #[] }, { accessFlags := 24, nameIndex := 48, descriptorIndex := 49, attributes := #[] }, { accessFlags := 25, nameIndex := 52, descriptorIndex := 49, attributes := #[] }])
  fields := #[{ name := "millis", type := .long, accessFlags := 18, slot := 0, constantValue := 0 }, { name := "bytes", type := .long, accessFlags := 18, slot := 1, constantValue := 0 }, { name := "checkIntervalMillis", type := .long, accessFlags := 18, slot := 2, constantValue := 0 }, { name := "rollMillis", type := .long, accessFlags := 18, slot := 3, constantValue := 0 }, { name := "aheadMillis", type := .long, accessFlags := 18, slot := 4, constantValue := 0 }, { name := "UNBOUNDED", type := .long, accessFlags := 25, slot := 0, constantValue := 0 }, { name := "UP_TO", type := (.object "com/example/ballast/ballast/storage/Retention"), accessFlags := 24, slot := 1, constantValue := 0 }, { name := "KEEP_ALL", type := (.object "com/example/ballast/ballast/storage/Retention"), accessFlags := 25, slot := 2, constantValue := 0 }]
  methods := #[k3m0, k3m1]
  instanceTypes := #[.long, .long, .long, .long, .long]
  staticTypes := #[.long, (.object "com/example/ballast/ballast/storage/Retention"), (.object "com/example/ballast/ballast/storage/Retention")]
  resolved := Array.replicate 98 none
  statics := none }

def pool4 : Array CpInfo := pool [(1, u "java/lang/Cloneable"), (0, .class_ 1), (0, u "java/lang/Object"), (0, .class_ 3)] 3

/-- java/lang/Cloneable -/
def k4 : Class := { plain "java/lang/Cloneable" (some 0) with
  accessFlags := 1537
  interfaces := #[]
  cf := some (fileOf pool4 2 #[] #[] 1537 4 #[] #[])
  fields := #[]
  methods := #[]
  instanceTypes := #[]
  staticTypes := #[]
  resolved := Array.replicate 8 none
  statics := none }

def pool5 : Array CpInfo := pool [(1, u "java/io/Serializable"), (0, .class_ 1), (0, u "java/lang/Object"), (0, .class_ 3)] 3

/-- java/io/Serializable -/
def k5 : Class := { plain "java/io/Serializable" (some 0) with
  accessFlags := 1537
  interfaces := #[]
  cf := some (fileOf pool5 2 #[] #[] 1537 4 #[] #[])
  fields := #[]
  methods := #[]
  instanceTypes := #[]
  staticTypes := #[]
  resolved := Array.replicate 8 none
  statics := none }

/-- the primitive byte -/
def k6 : Class := { plain "byte" none with kind := .primitive 'B', accessFlags := 0x411 }
/-- [B -/
def k7 : Class := { plain "[B" (some 0) with kind := .array 6 .byte, interfaces := #[4, 5], accessFlags := 1041 }

/-- the primitive int -/
def k8 : Class := { plain "int" none with kind := .primitive 'I', accessFlags := 0x411 }
/-- [I -/
def k9 : Class := { plain "[I" (some 0) with kind := .array 8 .int, interfaces := #[4, 5], accessFlags := 1041 }

/-- the primitive long -/
def k10 : Class := { plain "long" none with kind := .primitive 'J', accessFlags := 0x411 }
/-- [J -/
def k11 : Class := { plain "[J" (some 0) with kind := .array 10 .long, interfaces := #[4, 5], accessFlags := 1041 }

def heap : Heap := #[]
def classes : Array Class := #[k0, k1, k2, k3, k4, k5, k6, k7, k8, k9, k10, k11]
def interned : List (Array UInt16 × Addr) := []
def slotsUsed : Nat := 0
def theMethod : MethodId := ⟨1, 2⟩
def args0 : Array Value := #[.int 3, .long 7, .long 3, .long 4, .long 4, .long 4]
def aboutOver (below : List Frame) : State where
  vm := { classes := classes, interned := interned.toArray }
  heap := heap
  slotsUsed := slotsUsed
  threads := #[{ frames := .invoking theMethod args0 :: below }]
def below0 : List Frame := [.native { method := ⟨0, 0⟩, args := #[] }]
def about1 : State := aboutOver below0
def p0 : Program := .bare "" "" ""
def e0 : Env := launch0.env 0 0 0
theorem w_frames : about1.frames = Frame.invoking theMethod args0 :: below0 := rfl
set_option maxRecDepth 65536 in
theorem w_args : argsFit about1.vm theMethod args0 = true := by decide +kernel
set_option maxRecDepth 65536 in
theorem w_heap : heapFits about1 = true := by decide +kernel
set_option maxRecDepth 65536 in
theorem w_runnable : about1.curStatus? = some .runnable := by decide +kernel
set_option maxRecDepth 65536 in
theorem w_alone : about1.alone = true := by decide +kernel
set_option maxRecDepth 65536 in
theorem w_named : about1.methodNamed? x = some theMethod := by decide +kernel
set_option maxRecDepth 65536 in
theorem w_hears : about1.hears theMethod below0 = true := by decide +kernel
set_option maxRecDepth 65536 in
theorem w_ripe : about1.ripe theMethod args0 below0 = true := by decide +kernel
theorem w_running : about1.status = .running := rfl
set_option maxRecDepth 65536 in
theorem w_room : about1.hasRoom e0.platform room_1 = true :=
  launch0.hasRoom_least _ room_1 (by decide +kernel) (by decide +kernel) (by decide +kernel) (by decide +kernel) (by decide +kernel) (by decide +kernel)
theorem allAtoms_all (ts : List Jvm.Cond) (a : Array Jvm.Value) (st : Jvm.State) : (allAtoms ts).before a st = ts.all (fun c => c.before a st) := by
  induction ts with
  | nil => rfl
  | cons c t ih =>
    show (Jvm.Cond.and c (allAtoms t)).before a st = _
    rw [Jvm.Cond.before_and, ih, List.all_cons]
def words1 : List Jvm.Cond := Jvm.Cond.code x code maxLocals ret :: tables_1
/-- a 'code' word, met by the world's own term for the bytes: nothing is compared byte by byte -/
theorem code_word {y : MethodName} {bytes : ByteArray} {mx : Nat} {rt : Option FieldType} {a : Array Value} {s : State} {m : MethodId} {meth : Method} {c : Code} (h1 : s.methodNamed? y = some m) (h2 : s.vm.method? m = some meth) (h3 : meth.code = some c) (h4 : c.code = bytes)
    (h5 : (c.maxLocals == mx && c.exceptionTable.isEmpty && decide (c.maxStack ≤ mostOperands) && decide (meth.sig.returnType = rt) && !meth.locks && decide (parseMethodDescriptor y.desc = some meth.sig)) = true) : (Jvm.Cond.code y bytes mx rt).before a s = true := by
  simp only [Bool.and_eq_true, beq_iff_eq, Bool.not_eq_true', decide_eq_true_eq] at h5
  obtain ⟨⟨⟨⟨⟨g1, g2⟩, g3⟩, g4⟩, g5⟩, g6⟩ := h5
  simp [Cond.before, Cond.holds, Cond.value, h1, h2, h3, h4, g1, g2, g3, g4, g5, g6]
def isCode : Jvm.Cond → Bool
  | .code _ _ _ _ => true
  | _ => false
theorem all_split {L : List Jvm.Cond} {P : Jvm.Cond → Bool} (h1 : L.all (fun c => isCode c || P c) = true) (h2 : ∀ c ∈ L.filter isCode, P c = true) : L.all P = true := by
  refine List.all_eq_true.mpr fun c hc => ?_
  have h := List.all_eq_true.mp h1 c hc
  rcases Bool.eq_false_or_eq_true (isCode c) with hi | hi
  · exact h2 c (List.mem_filter.mpr ⟨hc, hi⟩)
  · simpa [hi] using h
set_option maxRecDepth 65536 in
theorem w_c0 : (Jvm.Cond.code x code maxLocals ret).before args0 about1 = true := code_word (m := ⟨1, 2⟩) (meth := k1m2) (c := k1c2) (by decide +kernel) rfl rfl rfl (by decide +kernel)
set_option maxRecDepth 65536 in
theorem w_c1 : (Jvm.Cond.code ({ cls := "com/example/ballast/ballast/storage/RetentionBeyondBytesPinLaw", name := "make", desc := "(IJJJJ)[J" } : Jvm.MethodName) method_2_code (9 : Nat) (Option.some (Jvm.ClassFile.FieldType.array Jvm.ClassFile.FieldType.long))).before args0 about1 = true := code_word (m := ⟨1, 1⟩) (meth := k1m1) (c := k1c1) (by decide +kernel) rfl rfl rfl (by decide +kernel)
set_option maxRecDepth 65536 in
theorem w_c2 : (Jvm.Cond.code ({ cls := "com/example/ballast/ballast/storage/Retention", name := "<init>", desc := "(JJJJJ)V" } : Jvm.MethodName) prog_339_method_1_code (11 : Nat) (Option.none : Option Jvm.ClassFile.FieldType)).before args0 about1 = true := code_word (m := ⟨3, 0⟩) (meth := k3m0) (c := k3c0) (by decide +kernel) rfl rfl rfl (by decide +kernel)
set_option maxRecDepth 65536 in
theorem w_c3 : (Jvm.Cond.code ({ cls := "java/lang/Record", name := "<init>", desc := "()V" } : Jvm.MethodName) jdk_30_method_1_code (1 : Nat) (Option.none : Option Jvm.ClassFile.FieldType)).before args0 about1 = true := code_word (m := ⟨2, 0⟩) (meth := k2m0) (c := k2c0) (by decide +kernel) rfl rfl rfl (by decide +kernel)
set_option maxRecDepth 65536 in
theorem w_c4 : (Jvm.Cond.code ({ cls := "java/lang/Object", name := "<init>", desc := "()V" } : Jvm.MethodName) object_method_1_code (1 : Nat) (Option.none : Option Jvm.ClassFile.FieldType)).before args0 about1 = true := code_word (m := ⟨0, 0⟩) (meth := k0m0) (c := k0c0) (by decide +kernel) rfl rfl rfl (by decide +kernel)
set_option maxRecDepth 65536 in
theorem w_c5 : (Jvm.Cond.code ({ cls := "com/example/ballast/ballast/storage/Retention", name := "beyondBytes", desc := "([J)I" } : Jvm.MethodName) prog_339_method_6_code (9 : Nat) (Option.some Jvm.ClassFile.FieldType.int)).before args0 about1 = true := code_word (m := ⟨3, 1⟩) (meth := k3m1) (c := k3c1) (by decide +kernel) rfl rfl rfl (by decide +kernel)
def codes1 : List Jvm.Cond := [Jvm.Cond.code x code maxLocals ret, Jvm.Cond.code ({ cls := "com/example/ballast/ballast/storage/RetentionBeyondBytesPinLaw", name := "make", desc := "(IJJJJ)[J" } : Jvm.MethodName) method_2_code (9 : Nat) (Option.some (Jvm.ClassFile.FieldType.array Jvm.ClassFile.FieldType.long)), Jvm.Cond.code ({ cls := "com/example/ballast/ballast/storage/Retention", name := "<init>", desc := "(JJJJJ)V" } : Jvm.MethodName) prog_339_method_1_code (11 : Nat) (Option.none : Option Jvm.ClassFile.FieldType), Jvm.Cond.code ({ cls := "java/lang/Record", name := "<init>", desc := "()V" } : Jvm.MethodName) jdk_30_method_1_code (1 : Nat) (Option.none : Option Jvm.ClassFile.FieldType), Jvm.Cond.code ({ cls := "java/lang/Object", name := "<init>", desc := "()V" } : Jvm.MethodName) object_method_1_code (1 : Nat) (Option.none : Option Jvm.ClassFile.FieldType), Jvm.Cond.code ({ cls := "com/example/ballast/ballast/storage/Retention", name := "beyondBytes", desc := "([J)I" } : Jvm.MethodName) prog_339_method_6_code (9 : Nat) (Option.some Jvm.ClassFile.FieldType.int)]
set_option maxRecDepth 65536 in
theorem codes_eq : words1.filter isCode = codes1 := rfl
theorem w_codes : ∀ c ∈ words1.filter isCode, c.before args0 about1 = true := by
  rw [codes_eq]
  intro c hc
  simp only [codes1, List.mem_cons, List.not_mem_nil, or_false] at hc
  rcases hc with rfl | rfl | rfl | rfl | rfl | rfl
  · exact w_c0
  · exact w_c1
  · exact w_c2
  · exact w_c3
  · exact w_c4
  · exact w_c5
set_option maxRecDepth 65536 in
theorem w_t1 : (words1.take 24).all (fun c => isCode c || c.before args0 about1) = true := by decide +kernel
set_option maxRecDepth 65536 in
theorem w_t2 : (words1.drop 24).all (fun c => isCode c || c.before args0 about1) = true := by decide +kernel
theorem w_tables : (allAtoms (Jvm.Cond.code x code maxLocals ret :: tables_1)).before args0 about1 = true := by
  rw [allAtoms_all]
  show words1.all (fun c => c.before args0 about1) = true
  refine all_split ?_ w_codes
  rw [← List.take_append_drop 24 words1, List.all_append, w_t1, w_t2]
  rfl
set_option maxRecDepth 65536 in
theorem w_case : (Jvm.Cond.and given_1 narrow_1).before args0 about1 = true := by decide +kernel
theorem w_applies : (headSpec (Jvm.Cond.code x code maxLocals ret :: tables_1) room_1).applies x e0.platform about1 = true :=
  (Spec.applies_iff w_frames).mpr ⟨w_running, w_runnable, w_alone, w_named, w_hears, w_ripe, w_room, w_tables⟩
theorem atStart : AtStart classFile x code maxLocals ret World_1 tables_1 room_1 Calls_1 rest_1 Pre_1 launch0 p0 e0 about1 theMethod args0 below0 :=
  ⟨lists_1, trivial, launch0.admits_env _ _ _, launch0.least_env, fairChoices_fair.cas, fairChoices_fair.clock, w_frames, w_args, w_heap, w_applies, trivial, trivial, w_case⟩
end start1
theorem witness_1 : WitnessClaimed_1 := ⟨start1.p0, start1.e0, start1.about1, start1.theMethod, start1.args0, start1.below0, start1.atStart⟩
end Jvm.Pilot.@@N@@
