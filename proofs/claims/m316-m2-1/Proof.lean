import JvmDerived
import JvmDerived.Pilot.@@N@@Statement
import JvmDerived.Pilot.@@N@@Code
set_option linter.unusedVariables false
set_option linter.unusedSimpArgs false
namespace Jvm.Pilot.@@N@@
open Jvm Jvm.ClassFile Sem Op Lib Jvm.Free Jvm.Stand Jvm.LawKit Jvm.RoadKit Bundle Jvm.Pilot.@@N@@.Jvm.D
section Own
variable {p : Program} {l : Launch} {e : Env} {R : Room} {s : State} {m : MethodId} {args : Array Value} {below : List Frame} {meth : Method} {c : Code} {T T' : State} {locs : List Loc} {cells slots : Nat} {Z : State} {a0 : Array Value} {h h' : Heap} {Q : Option Value → Heap → List Loc → Prop} {Cc Sc : Nat} {pc pc' pt k : Nat} {Ls Ls' : Array Slot} {St St' : List Value} {bs : ByteArray} {ml : Nat} {own nm : String} {rt : Option FieldType}
/-- what stands of a body while it is walked -/
def Cx (Z : State) (a0 : Array Value) (p : Program) (s : State) (m : MethodId) (meth : Method) (c : Code) (bs : ByteArray) (ml : Nat) (own nm : String) (rt : Option FieldType) : Prop :=
  p.tables.exec = Jvm.exec ∧ Z.Warmed39 s.vm ∧ c.code = bs ∧ c.maxLocals = ml ∧ s.vm.findClass own = some m.cls ∧ meth.name = nm ∧ meth.sig.returnType = rt ∧ meth.locks = false ∧ (∀ d ∈ tables_1, d.before a0 Z = true)
theorem Cx.x (C : Cx Z a0 p s m meth c bs ml own nm rt) : p.tables.exec = Jvm.exec := C.1
theorem Cx.z (C : Cx Z a0 p s m meth c bs ml own nm rt) : Z.Warmed39 s.vm := C.2.1
theorem Cx.b (C : Cx Z a0 p s m meth c bs ml own nm rt) : c.code = bs := C.2.2.1
theorem Cx.mx (C : Cx Z a0 p s m meth c bs ml own nm rt) : c.maxLocals = ml := C.2.2.2.1
theorem Cx.o (C : Cx Z a0 p s m meth c bs ml own nm rt) : s.vm.findClass own = some m.cls := C.2.2.2.2.1
theorem Cx.n (C : Cx Z a0 p s m meth c bs ml own nm rt) : meth.name = nm := C.2.2.2.2.2.1
theorem Cx.r (C : Cx Z a0 p s m meth c bs ml own nm rt) : meth.sig.returnType = rt := C.2.2.2.2.2.2.1
theorem Cx.lk (C : Cx Z a0 p s m meth c bs ml own nm rt) : meth.locks = false := C.2.2.2.2.2.2.2.1
theorem Cx.w (C : Cx Z a0 p s m meth c bs ml own nm rt) : ∀ d ∈ tables_1, d.before a0 Z = true := C.2.2.2.2.2.2.2.2
/-- the i-th word of the sheet's tables -/
theorem Cx.t (C : Cx Z a0 p s m meth c bs ml own nm rt) (i : Nat) {d : Jvm.Cond} (hi : tables_1[i]? = some d) : d.before a0 Z = true := C.w d (List.mem_of_getElem? hi)
/-- from here the run comes to its return, and of that return Q holds -/
def Go (p : Program) (e : Env) (below : List Frame) (s : State) (m : MethodId) (Q : Option Value → Heap → List Loc → Prop) (Cc Sc : Nat) (T : State) (pc : Nat) (Ls : Array Slot) (St : List Value) : Prop :=
  ∃ s₂ o, Steps p.tables e below (T.setTop (mkF m pc Ls St)) s₂ ∧ s₂.status = .running ∧ Ended s₂ below o ∧ ∃ v L, o = .returned v ∧ Q v s₂.heap L ∧ FrameEnd s o s₂ L Cc Sc
theorem Go.via (h : ∀ t, Steps p.tables e below (T'.setTop (mkF m pc' Ls' St')) t → Steps p.tables e below (T.setTop (mkF m pc Ls St)) t) (k : Go p e below s m Q Cc Sc T' pc' Ls' St') : Go p e below s m Q Cc Sc T pc Ls St := by
  obtain ⟨s₂, o, h1, h2⟩ := k
  exact ⟨s₂, o, h _ h1, h2⟩
theorem Go.cast (hL : Ls = Ls') (hS : St = St') (k : Go p e below s m Q Cc Sc T pc Ls' St') : Go p e below s m Q Cc Sc T pc Ls St := by
  subst hL hS; exact k
theorem g_enter {x : MethodName} {ws : List Jvm.Cond} {rm : Room} {as' : Array Value} {h0 : Heap} (hpl : plainFor x = true) (hw : ∀ d ∈ tables_1, d.before a0 Z = true) (hef : ∀ m, entryFrame m as' ml = mkF m 0 Ls [])
    (body : ∀ (p : Program) (e : Env) (s : State) (m : MethodId) (below : List Frame) (meth : Method) (c : Code) (T : State), Cx Z a0 p s m meth c bs ml x.cls x.name rt → Stand p l e rm s m as' below meth c T [] 0 0 → T.heap = h0 → Go p e below s m Q rm.cells rm.slots T 0 Ls []) :
    MetFree l x (head1 (Jvm.Cond.code x bs ml rt :: ws) rm) (fun a U => a = as' ∧ Z.Warmed39 U.vm ∧ U.heap = h0) (fun _ _ _ _ _ => True) (fun _ U o U' => ∃ v L, o = .returned v ∧ Q v U'.heap L ∧ FrameEnd U o U' L rm.cells rm.slots) := by
  refine MetFree.of_bodySF hpl hisR ?_
  intro p e s m args below meth c s₁ Bd hml0 hP hK
  obtain ⟨rfl, hZ, hh⟩ := hP
  have e0 : s₁.heap = h0 := by rw [← hh, Bd.state]; rfl
  have C : Cx Z a0 p s m meth c bs ml x.cls x.name rt := ⟨Bd.exec, hZ, Bd.bytes, hml0, findClass_of_methodNamed Bd.named, (name_of_methodNamed Bd.named Bd.method).1, Bd.returns, Bd.notSynchronized, hw⟩
  obtain ⟨s₂, o, k1, k2⟩ := body p e s m below meth c s₁ C (Stand.of_body Bd) e0
  exact ⟨s₂, o, castTop (hef m) k1, k2⟩

theorem g_iload (C : Cx Z a0 p s m meth c bs ml own nm rt) (X : Stand p l e R s m args below meth c T locs cells slots) {v : Int32} (hd : decode bs pc = .ok (.iload k, 2)) (hl : Ls[k]? = some (.val (.int v))) (hp : pc + 2 = pc') (kk : Go p e below s m Q Cc Sc T pc' Ls (.int v :: St)) : Go p e below s m Q Cc Sc T pc Ls St := by
  subst hp
  exact Go.via (fun t q => XS.iload X.here C.x rfl (hb C.b hd) hl q) kk
theorem g_iloadN (C : Cx Z a0 p s m meth c bs ml own nm rt) (X : Stand p l e R s m args below meth c T locs cells slots) {k : Fin 4} {v : Int32} (hd : decode bs pc = .ok (.iload_n k, 1)) (hl : Ls[k.val]? = some (.val (.int v))) (hp : pc + 1 = pc') (kk : Go p e below s m Q Cc Sc T pc' Ls (.int v :: St)) : Go p e below s m Q Cc Sc T pc Ls St := by
  subst hp
  exact Go.via (fun t q => XS.iloadN X.here C.x rfl (hb C.b hd) hl q) kk
theorem g_lload (C : Cx Z a0 p s m meth c bs ml own nm rt) (X : Stand p l e R s m args below meth c T locs cells slots) {v : Int64} (hd : decode bs pc = .ok (.lload k, 2)) (hl : Ls[k]? = some (.val (.long v))) (hp : pc + 2 = pc') (kk : Go p e below s m Q Cc Sc T pc' Ls (.long v :: St)) : Go p e below s m Q Cc Sc T pc Ls St := by
  subst hp
  exact Go.via (fun t q => XS.lload X.here C.x rfl (hb C.b hd) hl q) kk
theorem g_lloadN (C : Cx Z a0 p s m meth c bs ml own nm rt) (X : Stand p l e R s m args below meth c T locs cells slots) {k : Fin 4} {v : Int64} (hd : decode bs pc = .ok (.lload_n k, 1)) (hl : Ls[k.val]? = some (.val (.long v))) (hp : pc + 1 = pc') (kk : Go p e below s m Q Cc Sc T pc' Ls (.long v :: St)) : Go p e below s m Q Cc Sc T pc Ls St := by
  subst hp
  exact Go.via (fun t q => XS.lloadN X.here C.x rfl (hb C.b hd) hl q) kk
theorem g_aload (C : Cx Z a0 p s m meth c bs ml own nm rt) (X : Stand p l e R s m args below meth c T locs cells slots) {v : Addr} (hd : decode bs pc = .ok (.aload k, 2)) (hl : Ls[k]? = some (.val (.ref v))) (hp : pc + 2 = pc') (kk : Go p e below s m Q Cc Sc T pc' Ls (.ref v :: St)) : Go p e below s m Q Cc Sc T pc Ls St := by
  subst hp
  exact Go.via (fun t q => XS.aload X.here C.x rfl (hb C.b hd) hl rfl q) kk
theorem g_aloadN (C : Cx Z a0 p s m meth c bs ml own nm rt) (X : Stand p l e R s m args below meth c T locs cells slots) {k : Fin 4} {v : Addr} (hd : decode bs pc = .ok (.aload_n k, 1)) (hl : Ls[k.val]? = some (.val (.ref v))) (hp : pc + 1 = pc') (kk : Go p e below s m Q Cc Sc T pc' Ls (.ref v :: St)) : Go p e below s m Q Cc Sc T pc Ls St := by
  subst hp
  exact Go.via (fun t q => XS.aloadN X.here C.x rfl (hb C.b hd) hl rfl q) kk
theorem g_istore (C : Cx Z a0 p s m meth c bs ml own nm rt) (X : Stand p l e R s m args below meth c T locs cells slots) {x : Int32} (hd : decode bs pc = .ok (.istore k, 2)) (Ls' : Array Slot) (hl : storeLocals Ls k (.int x) = some Ls') (hp : pc + 2 = pc') (kk : Go p e below s m Q Cc Sc T pc' Ls' St) : Go p e below s m Q Cc Sc T pc Ls (.int x :: St) := by
  subst hp
  exact Go.via (fun t q => XS.istore X.here C.x rfl (hb C.b hd) rfl hl q) kk
theorem g_istoreN (C : Cx Z a0 p s m meth c bs ml own nm rt) (X : Stand p l e R s m args below meth c T locs cells slots) {k : Fin 4} {x : Int32} (hd : decode bs pc = .ok (.istore_n k, 1)) (Ls' : Array Slot) (hl : storeLocals Ls k.val (.int x) = some Ls') (hp : pc + 1 = pc') (kk : Go p e below s m Q Cc Sc T pc' Ls' St) : Go p e below s m Q Cc Sc T pc Ls (.int x :: St) := by
  subst hp
  exact Go.via (fun t q => XS.istoreN X.here C.x rfl (hb C.b hd) rfl hl q) kk
theorem g_istoreV (C : Cx Z a0 p s m meth c bs ml own nm rt) (X : Stand p l e R s m args below meth c T locs cells slots) {x : Int32} (hd : decode bs pc = .ok (.istore k, 2)) (F : Int32 → Array Slot) (hl : storeLocals Ls k (.int x) = some (F x)) (hp : pc + 2 = pc') (kk : ∀ v, v = x → Go p e below s m Q Cc Sc T pc' (F v) St) : Go p e below s m Q Cc Sc T pc Ls (.int x :: St) := g_istore C X hd (F x) hl hp (kk x rfl)
theorem g_istoreNV (C : Cx Z a0 p s m meth c bs ml own nm rt) (X : Stand p l e R s m args below meth c T locs cells slots) {k : Fin 4} {x : Int32} (hd : decode bs pc = .ok (.istore_n k, 1)) (F : Int32 → Array Slot) (hl : storeLocals Ls k.val (.int x) = some (F x)) (hp : pc + 1 = pc') (kk : ∀ v, v = x → Go p e below s m Q Cc Sc T pc' (F v) St) : Go p e below s m Q Cc Sc T pc Ls (.int x :: St) := g_istoreN C X hd (F x) hl hp (kk x rfl)
theorem g_lstore (C : Cx Z a0 p s m meth c bs ml own nm rt) (X : Stand p l e R s m args below meth c T locs cells slots) {x : Int64} (hd : decode bs pc = .ok (.lstore k, 2)) (Ls' : Array Slot) (hl : storeLocals Ls k (.long x) = some Ls') (hp : pc + 2 = pc') (kk : Go p e below s m Q Cc Sc T pc' Ls' St) : Go p e below s m Q Cc Sc T pc Ls (.long x :: St) := by
  subst hp
  exact Go.via (fun t q => XS.lstore X.here C.x rfl (hb C.b hd) rfl hl q) kk
theorem g_lstoreN (C : Cx Z a0 p s m meth c bs ml own nm rt) (X : Stand p l e R s m args below meth c T locs cells slots) {k : Fin 4} {x : Int64} (hd : decode bs pc = .ok (.lstore_n k, 1)) (Ls' : Array Slot) (hl : storeLocals Ls k.val (.long x) = some Ls') (hp : pc + 1 = pc') (kk : Go p e below s m Q Cc Sc T pc' Ls' St) : Go p e below s m Q Cc Sc T pc Ls (.long x :: St) := by
  subst hp
  exact Go.via (fun t q => XS.lstoreN X.here C.x rfl (hb C.b hd) rfl hl q) kk
theorem g_lstoreV (C : Cx Z a0 p s m meth c bs ml own nm rt) (X : Stand p l e R s m args below meth c T locs cells slots) {x : Int64} (hd : decode bs pc = .ok (.lstore k, 2)) (F : Int64 → Array Slot) (hl : storeLocals Ls k (.long x) = some (F x)) (hp : pc + 2 = pc') (kk : ∀ v, v = x → Go p e below s m Q Cc Sc T pc' (F v) St) : Go p e below s m Q Cc Sc T pc Ls (.long x :: St) := g_lstore C X hd (F x) hl hp (kk x rfl)
theorem g_lstoreNV (C : Cx Z a0 p s m meth c bs ml own nm rt) (X : Stand p l e R s m args below meth c T locs cells slots) {k : Fin 4} {x : Int64} (hd : decode bs pc = .ok (.lstore_n k, 1)) (F : Int64 → Array Slot) (hl : storeLocals Ls k.val (.long x) = some (F x)) (hp : pc + 1 = pc') (kk : ∀ v, v = x → Go p e below s m Q Cc Sc T pc' (F v) St) : Go p e below s m Q Cc Sc T pc Ls (.long x :: St) := g_lstoreN C X hd (F x) hl hp (kk x rfl)
theorem g_astore (C : Cx Z a0 p s m meth c bs ml own nm rt) (X : Stand p l e R s m args below meth c T locs cells slots) {x : Addr} (hd : decode bs pc = .ok (.astore k, 2)) (Ls' : Array Slot) (hl : storeLocals Ls k (.ref x) = some Ls') (hp : pc + 2 = pc') (kk : Go p e below s m Q Cc Sc T pc' Ls' St) : Go p e below s m Q Cc Sc T pc Ls (.ref x :: St) := by
  subst hp
  exact Go.via (fun t q => XS.astore X.here C.x rfl (hb C.b hd) rfl rfl hl q) kk
theorem g_astoreN (C : Cx Z a0 p s m meth c bs ml own nm rt) (X : Stand p l e R s m args below meth c T locs cells slots) {k : Fin 4} {x : Addr} (hd : decode bs pc = .ok (.astore_n k, 1)) (Ls' : Array Slot) (hl : storeLocals Ls k.val (.ref x) = some Ls') (hp : pc + 1 = pc') (kk : Go p e below s m Q Cc Sc T pc' Ls' St) : Go p e below s m Q Cc Sc T pc Ls (.ref x :: St) := by
  subst hp
  exact Go.via (fun t q => XS.astoreN X.here C.x rfl (hb C.b hd) rfl rfl hl q) kk
theorem g_astoreV (C : Cx Z a0 p s m meth c bs ml own nm rt) (X : Stand p l e R s m args below meth c T locs cells slots) {x : Addr} (hd : decode bs pc = .ok (.astore k, 2)) (F : Addr → Array Slot) (hl : storeLocals Ls k (.ref x) = some (F x)) (hp : pc + 2 = pc') (kk : ∀ v, v = x → Go p e below s m Q Cc Sc T pc' (F v) St) : Go p e below s m Q Cc Sc T pc Ls (.ref x :: St) := g_astore C X hd (F x) hl hp (kk x rfl)
theorem g_astoreNV (C : Cx Z a0 p s m meth c bs ml own nm rt) (X : Stand p l e R s m args below meth c T locs cells slots) {k : Fin 4} {x : Addr} (hd : decode bs pc = .ok (.astore_n k, 1)) (F : Addr → Array Slot) (hl : storeLocals Ls k.val (.ref x) = some (F x)) (hp : pc + 1 = pc') (kk : ∀ v, v = x → Go p e below s m Q Cc Sc T pc' (F v) St) : Go p e below s m Q Cc Sc T pc Ls (.ref x :: St) := g_astoreN C X hd (F x) hl hp (kk x rfl)
theorem g_iinc (C : Cx Z a0 p s m meth c bs ml own nm rt) (X : Stand p l e R s m args below meth c T locs cells slots) {cst : Int} {x : Int32} (hd : decode bs pc = .ok (.iinc k cst, 3)) (hl : Ls[k]? = some (.val (.int x))) (Ls' : Array Slot) (hl' : storeLocals Ls k (.int (x + Int32.ofInt cst)) = some Ls') (hp : pc + 3 = pc') (kk : Go p e below s m Q Cc Sc T pc' Ls' St) : Go p e below s m Q Cc Sc T pc Ls St := by
  subst hp
  exact Go.via (fun t q => XS.iinc X.here C.x rfl (hb C.b hd) hl hl' q) kk
theorem g_iincV (C : Cx Z a0 p s m meth c bs ml own nm rt) (X : Stand p l e R s m args below meth c T locs cells slots) {cst : Int} {x y : Int32} (hd : decode bs pc = .ok (.iinc k cst, 3)) (hl : Ls[k]? = some (.val (.int x))) (hy : Int32.ofInt cst = y) (F : Int32 → Array Slot) (hl' : storeLocals Ls k (.int (x + y)) = some (F (x + y))) (hp : pc + 3 = pc') (kk : ∀ v, v = x + y → Go p e below s m Q Cc Sc T pc' (F v) St) : Go p e below s m Q Cc Sc T pc Ls St := g_iinc C X hd hl (F (x + y)) (by rw [hy]; exact hl') hp (kk _ rfl)
theorem g_iconst (C : Cx Z a0 p s m meth c bs ml own nm rt) (X : Stand p l e R s m args below meth c T locs cells slots) {i : Int} (v : Int32) (hd : decode bs pc = .ok (.iconst i, 1)) (hv : Int32.ofInt i = v) (hp : pc + 1 = pc') (kk : Go p e below s m Q Cc Sc T pc' Ls (.int v :: St)) : Go p e below s m Q Cc Sc T pc Ls St := by
  subst hp hv
  exact Go.via (fun t q => XS.iconst X.here C.x rfl (hb C.b hd) q) kk
theorem g_bipush (C : Cx Z a0 p s m meth c bs ml own nm rt) (X : Stand p l e R s m args below meth c T locs cells slots) {i : Int} (v : Int32) (hd : decode bs pc = .ok (.bipush i, 2)) (hv : (Int8.ofInt i).toInt32 = v) (hp : pc + 2 = pc') (kk : Go p e below s m Q Cc Sc T pc' Ls (.int v :: St)) : Go p e below s m Q Cc Sc T pc Ls St := by
  subst hp hv
  exact Go.via (fun t q => XS.bipush X.here C.x rfl (hb C.b hd) q) kk
theorem g_sipush (C : Cx Z a0 p s m meth c bs ml own nm rt) (X : Stand p l e R s m args below meth c T locs cells slots) {i : Int} (v : Int32) (hd : decode bs pc = .ok (.sipush i, 3)) (hv : (Int16.ofInt i).toInt32 = v) (hp : pc + 3 = pc') (kk : Go p e below s m Q Cc Sc T pc' Ls (.int v :: St)) : Go p e below s m Q Cc Sc T pc Ls St := by
  subst hp hv
  exact Go.via (fun t q => XS.sipush X.here C.x rfl (hb C.b hd) q) kk
theorem g_lconst (C : Cx Z a0 p s m meth c bs ml own nm rt) (X : Stand p l e R s m args below meth c T locs cells slots) {i : Fin 2} (v : Int64) (hd : decode bs pc = .ok (.lconst i, 1)) (hv : Int64.ofNat i = v) (hp : pc + 1 = pc') (kk : Go p e below s m Q Cc Sc T pc' Ls (.long v :: St)) : Go p e below s m Q Cc Sc T pc Ls St := by
  subst hp hv
  exact Go.via (fun t q => XS.lconst X.here C.x rfl (hb C.b hd) q) kk
theorem g_ldc (C : Cx Z a0 p s m meth c bs ml own nm rt) (X : Stand p l e R s m args below meth c T locs cells slots) {i : Nat} {v : Int32} (hd : decode bs pc = .ok (.ldc i, 2)) (hv : (Jvm.Cond.constant own i v).before a0 Z = true) (hp : pc + 2 = pc') (kk : Go p e below s m Q Cc Sc T pc' Ls (.int v :: St)) : Go p e below s m Q Cc Sc T pc Ls St := by
  subst hp
  exact Go.via (fun t q => X.ldcInt C.x C.o (mvT C.z hv) (g := mkF m pc Ls St) rfl (hb C.b hd) t q) kk
theorem g_ldcL (C : Cx Z a0 p s m meth c bs ml own nm rt) (X : Stand p l e R s m args below meth c T locs cells slots) {i : Nat} {v : Int64} (hd : decode bs pc = .ok (.ldc2_w i, 3)) (hv : (Jvm.Cond.constantLong own i v).before a0 Z = true) (hp : pc + 3 = pc') (kk : Go p e below s m Q Cc Sc T pc' Ls (.long v :: St)) : Go p e below s m Q Cc Sc T pc Ls St := by
  subst hp
  exact Go.via (fun t q => X.ldc2Long C.x C.o (mvT C.z hv) (g := mkF m pc Ls St) rfl (hb C.b hd) t q) kk
theorem g_iadd (C : Cx Z a0 p s m meth c bs ml own nm rt) (X : Stand p l e R s m args below meth c T locs cells slots) {x y : Int32} (hd : decode bs pc = .ok (.iadd, 1))  (hp : pc + 1 = pc') (kk : Go p e below s m Q Cc Sc T pc' Ls (.int (x + y) :: St)) : Go p e below s m Q Cc Sc T pc Ls (.int y :: .int x :: St) := by
  subst hp
  exact Go.via (fun t q => XS.iadd X.here C.x rfl (hb C.b hd) rfl q) kk
theorem g_isub (C : Cx Z a0 p s m meth c bs ml own nm rt) (X : Stand p l e R s m args below meth c T locs cells slots) {x y : Int32} (hd : decode bs pc = .ok (.isub, 1))  (hp : pc + 1 = pc') (kk : Go p e below s m Q Cc Sc T pc' Ls (.int (x - y) :: St)) : Go p e below s m Q Cc Sc T pc Ls (.int y :: .int x :: St) := by
  subst hp
  exact Go.via (fun t q => XS.isub X.here C.x rfl (hb C.b hd) rfl q) kk
theorem g_imul (C : Cx Z a0 p s m meth c bs ml own nm rt) (X : Stand p l e R s m args below meth c T locs cells slots) {x y : Int32} (hd : decode bs pc = .ok (.imul, 1))  (hp : pc + 1 = pc') (kk : Go p e below s m Q Cc Sc T pc' Ls (.int (x * y) :: St)) : Go p e below s m Q Cc Sc T pc Ls (.int y :: .int x :: St) := by
  subst hp
  exact Go.via (fun t q => XS.imul X.here C.x rfl (hb C.b hd) rfl q) kk
theorem g_iand (C : Cx Z a0 p s m meth c bs ml own nm rt) (X : Stand p l e R s m args below meth c T locs cells slots) {x y : Int32} (hd : decode bs pc = .ok (.iand, 1))  (hp : pc + 1 = pc') (kk : Go p e below s m Q Cc Sc T pc' Ls (.int (x &&& y) :: St)) : Go p e below s m Q Cc Sc T pc Ls (.int y :: .int x :: St) := by
  subst hp
  exact Go.via (fun t q => XS.iand X.here C.x rfl (hb C.b hd) rfl q) kk
theorem g_ior (C : Cx Z a0 p s m meth c bs ml own nm rt) (X : Stand p l e R s m args below meth c T locs cells slots) {x y : Int32} (hd : decode bs pc = .ok (.ior, 1))  (hp : pc + 1 = pc') (kk : Go p e below s m Q Cc Sc T pc' Ls (.int (x ||| y) :: St)) : Go p e below s m Q Cc Sc T pc Ls (.int y :: .int x :: St) := by
  subst hp
  exact Go.via (fun t q => XS.ior X.here C.x rfl (hb C.b hd) rfl q) kk
theorem g_ixor (C : Cx Z a0 p s m meth c bs ml own nm rt) (X : Stand p l e R s m args below meth c T locs cells slots) {x y : Int32} (hd : decode bs pc = .ok (.ixor, 1))  (hp : pc + 1 = pc') (kk : Go p e below s m Q Cc Sc T pc' Ls (.int (x ^^^ y) :: St)) : Go p e below s m Q Cc Sc T pc Ls (.int y :: .int x :: St) := by
  subst hp
  exact Go.via (fun t q => XS.ixor X.here C.x rfl (hb C.b hd) rfl q) kk
theorem g_idiv (C : Cx Z a0 p s m meth c bs ml own nm rt) (X : Stand p l e R s m args below meth c T locs cells slots) {x y : Int32} (hd : decode bs pc = .ok (.idiv, 1)) (hy : y ≠ 0) (hp : pc + 1 = pc') (kk : Go p e below s m Q Cc Sc T pc' Ls (.int (x / y) :: St)) : Go p e below s m Q Cc Sc T pc Ls (.int y :: .int x :: St) := by
  subst hp
  exact Go.via (fun t q => XS.idiv X.here C.x rfl (hb C.b hd) rfl hy q) kk
theorem g_ladd (C : Cx Z a0 p s m meth c bs ml own nm rt) (X : Stand p l e R s m args below meth c T locs cells slots) {x y : Int64} (hd : decode bs pc = .ok (.ladd, 1))  (hp : pc + 1 = pc') (kk : Go p e below s m Q Cc Sc T pc' Ls (.long (x + y) :: St)) : Go p e below s m Q Cc Sc T pc Ls (.long y :: .long x :: St) := by
  subst hp
  exact Go.via (fun t q => XS.ladd X.here C.x rfl (hb C.b hd) rfl q) kk
theorem g_lsub (C : Cx Z a0 p s m meth c bs ml own nm rt) (X : Stand p l e R s m args below meth c T locs cells slots) {x y : Int64} (hd : decode bs pc = .ok (.lsub, 1))  (hp : pc + 1 = pc') (kk : Go p e below s m Q Cc Sc T pc' Ls (.long (x - y) :: St)) : Go p e below s m Q Cc Sc T pc Ls (.long y :: .long x :: St) := by
  subst hp
  exact Go.via (fun t q => XS.lsub X.here C.x rfl (hb C.b hd) rfl q) kk
theorem g_lmul (C : Cx Z a0 p s m meth c bs ml own nm rt) (X : Stand p l e R s m args below meth c T locs cells slots) {x y : Int64} (hd : decode bs pc = .ok (.lmul, 1))  (hp : pc + 1 = pc') (kk : Go p e below s m Q Cc Sc T pc' Ls (.long (x * y) :: St)) : Go p e below s m Q Cc Sc T pc Ls (.long y :: .long x :: St) := by
  subst hp
  exact Go.via (fun t q => XS.lmul X.here C.x rfl (hb C.b hd) rfl q) kk
theorem g_land (C : Cx Z a0 p s m meth c bs ml own nm rt) (X : Stand p l e R s m args below meth c T locs cells slots) {x y : Int64} (hd : decode bs pc = .ok (.land, 1))  (hp : pc + 1 = pc') (kk : Go p e below s m Q Cc Sc T pc' Ls (.long (x &&& y) :: St)) : Go p e below s m Q Cc Sc T pc Ls (.long y :: .long x :: St) := by
  subst hp
  exact Go.via (fun t q => XS.land X.here C.x rfl (hb C.b hd) rfl q) kk
theorem g_lor (C : Cx Z a0 p s m meth c bs ml own nm rt) (X : Stand p l e R s m args below meth c T locs cells slots) {x y : Int64} (hd : decode bs pc = .ok (.lor, 1))  (hp : pc + 1 = pc') (kk : Go p e below s m Q Cc Sc T pc' Ls (.long (x ||| y) :: St)) : Go p e below s m Q Cc Sc T pc Ls (.long y :: .long x :: St) := by
  subst hp
  exact Go.via (fun t q => XS.lor X.here C.x rfl (hb C.b hd) rfl q) kk
theorem g_lxor (C : Cx Z a0 p s m meth c bs ml own nm rt) (X : Stand p l e R s m args below meth c T locs cells slots) {x y : Int64} (hd : decode bs pc = .ok (.lxor, 1))  (hp : pc + 1 = pc') (kk : Go p e below s m Q Cc Sc T pc' Ls (.long (x ^^^ y) :: St)) : Go p e below s m Q Cc Sc T pc Ls (.long y :: .long x :: St) := by
  subst hp
  exact Go.via (fun t q => XS.lxor X.here C.x rfl (hb C.b hd) rfl q) kk
theorem g_ldiv (C : Cx Z a0 p s m meth c bs ml own nm rt) (X : Stand p l e R s m args below meth c T locs cells slots) {x y : Int64} (hd : decode bs pc = .ok (.ldiv, 1)) (hy : y ≠ 0) (hp : pc + 1 = pc') (kk : Go p e below s m Q Cc Sc T pc' Ls (.long (x / y) :: St)) : Go p e below s m Q Cc Sc T pc Ls (.long y :: .long x :: St) := by
  subst hp
  exact Go.via (fun t q => XS.ldiv X.here C.x rfl (hb C.b hd) rfl hy q) kk
theorem g_irem (C : Cx Z a0 p s m meth c bs ml own nm rt) (X : Stand p l e R s m args below meth c T locs cells slots) {x y : Int32} (hd : decode bs pc = .ok (.irem, 1)) (hy : y ≠ 0) (hp : pc + 1 = pc') (kk : Go p e below s m Q Cc Sc T pc' Ls (.int (x % y) :: St)) : Go p e below s m Q Cc Sc T pc Ls (.int y :: .int x :: St) := by
  subst hp
  exact Go.via (fun t q => iremM (g := mkF m pc Ls (.int y :: .int x :: St)) X C.x rfl (hb C.b hd) rfl hy q) kk
theorem g_lrem (C : Cx Z a0 p s m meth c bs ml own nm rt) (X : Stand p l e R s m args below meth c T locs cells slots) {x y : Int64} (hd : decode bs pc = .ok (.lrem, 1)) (hy : y ≠ 0) (hp : pc + 1 = pc') (kk : Go p e below s m Q Cc Sc T pc' Ls (.long (x % y) :: St)) : Go p e below s m Q Cc Sc T pc Ls (.long y :: .long x :: St) := by
  subst hp
  rw [← lrem_mod] at kk
  exact Go.via (fun t q => XS.lrem X.here C.x rfl (hb C.b hd) rfl hy q) kk
theorem g_ishl (C : Cx Z a0 p s m meth c bs ml own nm rt) (X : Stand p l e R s m args below meth c T locs cells slots) {x y : Int32} (hd : decode bs pc = .ok (.ishl, 1))  (hp : pc + 1 = pc') (kk : Go p e below s m Q Cc Sc T pc' Ls (.int (x <<< (y &&& 31)) :: St)) : Go p e below s m Q Cc Sc T pc Ls (.int y :: .int x :: St) := by
  subst hp
  exact Go.via (fun t q => XS.ishl X.here C.x rfl (hb C.b hd) rfl q) kk
theorem g_ishr (C : Cx Z a0 p s m meth c bs ml own nm rt) (X : Stand p l e R s m args below meth c T locs cells slots) {x y : Int32} (hd : decode bs pc = .ok (.ishr, 1))  (hp : pc + 1 = pc') (kk : Go p e below s m Q Cc Sc T pc' Ls (.int (x >>> (y &&& 31)) :: St)) : Go p e below s m Q Cc Sc T pc Ls (.int y :: .int x :: St) := by
  subst hp
  exact Go.via (fun t q => XS.ishr X.here C.x rfl (hb C.b hd) rfl q) kk
theorem g_iushr (C : Cx Z a0 p s m meth c bs ml own nm rt) (X : Stand p l e R s m args below meth c T locs cells slots) {x y : Int32} (hd : decode bs pc = .ok (.iushr, 1))  (hp : pc + 1 = pc') (kk : Go p e below s m Q Cc Sc T pc' Ls (.int ((x.toUInt32 >>> (y &&& 31).toUInt32).toInt32) :: St)) : Go p e below s m Q Cc Sc T pc Ls (.int y :: .int x :: St) := by
  subst hp
  exact Go.via (fun t q => XS.iushr X.here C.x rfl (hb C.b hd) rfl q) kk
theorem g_lshl (C : Cx Z a0 p s m meth c bs ml own nm rt) (X : Stand p l e R s m args below meth c T locs cells slots) {x : Int64} {y : Int32} (hd : decode bs pc = .ok (.lshl, 1))  (hp : pc + 1 = pc') (kk : Go p e below s m Q Cc Sc T pc' Ls (.long (x <<< (y &&& 0x3f).toInt64) :: St)) : Go p e below s m Q Cc Sc T pc Ls (.int y :: .long x :: St) := by
  subst hp
  exact Go.via (fun t q => XS.lshl X.here C.x rfl (hb C.b hd) rfl q) kk
theorem g_lshr (C : Cx Z a0 p s m meth c bs ml own nm rt) (X : Stand p l e R s m args below meth c T locs cells slots) {x : Int64} {y : Int32} (hd : decode bs pc = .ok (.lshr, 1))  (hp : pc + 1 = pc') (kk : Go p e below s m Q Cc Sc T pc' Ls (.long (x >>> (y &&& 0x3f).toInt64) :: St)) : Go p e below s m Q Cc Sc T pc Ls (.int y :: .long x :: St) := by
  subst hp
  exact Go.via (fun t q => XS.lshr X.here C.x rfl (hb C.b hd) rfl q) kk
theorem g_lushr (C : Cx Z a0 p s m meth c bs ml own nm rt) (X : Stand p l e R s m args below meth c T locs cells slots) {x : Int64} {y : Int32} (hd : decode bs pc = .ok (.lushr, 1))  (hp : pc + 1 = pc') (kk : Go p e below s m Q Cc Sc T pc' Ls (.long ((x.toUInt64 >>> (y &&& 0x3f).toInt64.toUInt64).toInt64) :: St)) : Go p e below s m Q Cc Sc T pc Ls (.int y :: .long x :: St) := by
  subst hp
  exact Go.via (fun t q => XS.lushr X.here C.x rfl (hb C.b hd) rfl q) kk
theorem g_i2b (C : Cx Z a0 p s m meth c bs ml own nm rt) (X : Stand p l e R s m args below meth c T locs cells slots) {x : Int32} (hd : decode bs pc = .ok (.i2b, 1))  (hp : pc + 1 = pc') (kk : Go p e below s m Q Cc Sc T pc' Ls (.int (x.toInt8.toInt32) :: St)) : Go p e below s m Q Cc Sc T pc Ls (.int x :: St) := by
  subst hp
  exact Go.via (fun t q => XS.i2b X.here C.x rfl (hb C.b hd) rfl q) kk
theorem g_i2l (C : Cx Z a0 p s m meth c bs ml own nm rt) (X : Stand p l e R s m args below meth c T locs cells slots) {x : Int32} (hd : decode bs pc = .ok (.i2l, 1))  (hp : pc + 1 = pc') (kk : Go p e below s m Q Cc Sc T pc' Ls (.long (x.toInt64) :: St)) : Go p e below s m Q Cc Sc T pc Ls (.int x :: St) := by
  subst hp
  exact Go.via (fun t q => XS.i2l X.here C.x rfl (hb C.b hd) rfl q) kk
theorem g_l2i (C : Cx Z a0 p s m meth c bs ml own nm rt) (X : Stand p l e R s m args below meth c T locs cells slots) {x : Int64} (hd : decode bs pc = .ok (.l2i, 1))  (hp : pc + 1 = pc') (kk : Go p e below s m Q Cc Sc T pc' Ls (.int (x.toInt32) :: St)) : Go p e below s m Q Cc Sc T pc Ls (.long x :: St) := by
  subst hp
  exact Go.via (fun t q => XS.l2i X.here C.x rfl (hb C.b hd) rfl q) kk
theorem g_ineg (C : Cx Z a0 p s m meth c bs ml own nm rt) (X : Stand p l e R s m args below meth c T locs cells slots) {x : Int32} (hd : decode bs pc = .ok (.ineg, 1))  (hp : pc + 1 = pc') (kk : Go p e below s m Q Cc Sc T pc' Ls (.int (-x) :: St)) : Go p e below s m Q Cc Sc T pc Ls (.int x :: St) := by
  subst hp
  exact Go.via (fun t q => XS.ineg X.here C.x rfl (hb C.b hd) rfl q) kk
theorem g_lneg (C : Cx Z a0 p s m meth c bs ml own nm rt) (X : Stand p l e R s m args below meth c T locs cells slots) {x : Int64} (hd : decode bs pc = .ok (.lneg, 1))  (hp : pc + 1 = pc') (kk : Go p e below s m Q Cc Sc T pc' Ls (.long (-x) :: St)) : Go p e below s m Q Cc Sc T pc Ls (.long x :: St) := by
  subst hp
  exact Go.via (fun t q => XS.lneg X.here C.x rfl (hb C.b hd) rfl q) kk
theorem g_dup (C : Cx Z a0 p s m meth c bs ml own nm rt) (X : Stand p l e R s m args below meth c T locs cells slots) {x : Value} (hd : decode bs pc = .ok (.dup, 1)) (hc : x.category = 1) (hp : pc + 1 = pc') (kk : Go p e below s m Q Cc Sc T pc' Ls (x :: x :: St)) : Go p e below s m Q Cc Sc T pc Ls (x :: St) := by
  subst hp
  exact Go.via (fun t q => XS.dup X.here C.x rfl (hb C.b hd) rfl hc q) kk
theorem g_pop (C : Cx Z a0 p s m meth c bs ml own nm rt) (X : Stand p l e R s m args below meth c T locs cells slots) {x : Value} (hd : decode bs pc = .ok (.pop, 1)) (hc : x.category = 1) (hp : pc + 1 = pc') (kk : Go p e below s m Q Cc Sc T pc' Ls St) : Go p e below s m Q Cc Sc T pc Ls (x :: St) := by
  subst hp
  exact Go.via (fun t q => XS.pop X.here C.x rfl (hb C.b hd) rfl hc q) kk
theorem g_goto (C : Cx Z a0 p s m meth c bs ml own nm rt) (X : Stand p l e R s m args below meth c T locs cells slots) {o : Int} (hd : decode bs pc = .ok (.goto o, 3)) (ho : 0 ≤ (pc : Int) + o) (hp : ((pc : Int) + o).toNat = pc') (kk : Go p e below s m Q Cc Sc T pc' Ls St) : Go p e below s m Q Cc Sc T pc Ls St := Go.via (fun t q => XS.goto X.here C.x rfl rfl (hb C.b hd) ho hp q) kk
/-- what a comparison says of two ints -/
def Cd (cd : ClassFile.Cond) (x y : Int) : Prop := match cd with | .eq => x = y | .ne => ¬ x = y | .lt => x < y | .ge => y ≤ x | .gt => y < x | .le => x ≤ y
def ng : ClassFile.Cond → ClassFile.Cond | .eq => .ne | .ne => .eq | .lt => .ge | .ge => .lt | .gt => .le | .le => .gt
theorem cd_n {cd : ClassFile.Cond} {x y : Int} (h : ¬ Cd cd x y) : Cd (ng cd) x y := by
  cases cd <;> simp only [Cd, ng] at h ⊢ <;> omega
theorem cd_t {cd : ClassFile.Cond} {x y : Int32} : if_icmp.holds cd x y = true ↔ Cd cd x.toInt y.toInt := by
  cases cd <;> simp [if_icmp.holds, Cd, Int32.lt_iff_toInt_lt, Int32.le_iff_toInt_le, Int32.toInt_inj]
theorem cd_0 {cd : ClassFile.Cond} {x : Int32} : ifCond.holds cd x = true ↔ Cd cd x.toInt 0 := by
  rw [if0, cd_t]; rfl
theorem g_icmp (C : Cx Z a0 p s m meth c bs ml own nm rt) (X : Stand p l e R s m args below meth c T locs cells slots) {cd : ClassFile.Cond} {o : Int} {x y : Int32} (hd : decode bs pc = .ok (.if_icmp cd o, 3)) (ho : 0 ≤ (pc : Int) + o) (hq : ((pc : Int) + o).toNat = pt) (hp : pc + 3 = pc') (kt : Cd cd x.toInt y.toInt → Go p e below s m Q Cc Sc T pt Ls St) (kf : Cd (ng cd) x.toInt y.toInt → Go p e below s m Q Cc Sc T pc' Ls St) : Go p e below s m Q Cc Sc T pc Ls (.int y :: .int x :: St) := by
  subst hp
  by_cases q : Cd cd x.toInt y.toInt
  · exact Go.via (fun t q' => XS.icmpYes X.here C.x rfl rfl (hb C.b hd) rfl (cd_t.mpr q) ho hq q') (kt q)
  · exact Go.via (fun t q' => XS.icmpNo X.here C.x rfl (hb C.b hd) rfl (Bool.eq_false_iff.mpr fun z => q (cd_t.mp z)) q') (kf (cd_n q))
theorem g_if (C : Cx Z a0 p s m meth c bs ml own nm rt) (X : Stand p l e R s m args below meth c T locs cells slots) {cd : ClassFile.Cond} {o : Int} {x : Int32} (hd : decode bs pc = .ok (.ifCond cd o, 3)) (ho : 0 ≤ (pc : Int) + o) (hq : ((pc : Int) + o).toNat = pt) (hp : pc + 3 = pc') (kt : Cd cd x.toInt 0 → Go p e below s m Q Cc Sc T pt Ls St) (kf : Cd (ng cd) x.toInt 0 → Go p e below s m Q Cc Sc T pc' Ls St) : Go p e below s m Q Cc Sc T pc Ls (.int x :: St) := by
  subst hp
  by_cases q : Cd cd x.toInt 0
  · exact Go.via (fun t q' => XS.ifYes X.here C.x rfl rfl (hb C.b hd) rfl (cd_0.mpr q) ho hq q') (kt q)
  · exact Go.via (fun t q' => XS.ifNo X.here C.x rfl (hb C.b hd) rfl (Bool.eq_false_iff.mpr fun z => q (cd_0.mp z)) q') (kf (cd_n q))
theorem cd_l {cd : ClassFile.Cond} {x y : Int64} : Cd cd (lcmpW x y).toInt 0 ↔ Cd cd x.toInt y.toInt := by
  obtain ⟨h1, h2, h3⟩ := c_lcmp x y
  generalize (lcmpW x y).toInt = w at *
  generalize x.toInt = u at *
  generalize y.toInt = v at *
  cases cd <;> simp only [Cd] <;> omega
theorem g_lcmpif (C : Cx Z a0 p s m meth c bs ml own nm rt) (X : Stand p l e R s m args below meth c T locs cells slots) {cd : ClassFile.Cond} {o : Int} {x y : Int64} {pm : Nat} (hd0 : decode bs pc = .ok (.lcmp, 1)) (hm : pc + 1 = pm) (hd : decode bs pm = .ok (.ifCond cd o, 3)) (ho : 0 ≤ (pm : Int) + o) (hq : ((pm : Int) + o).toNat = pt) (hp : pm + 3 = pc') (kt : Cd cd x.toInt y.toInt → Go p e below s m Q Cc Sc T pt Ls St) (kf : Cd (ng cd) x.toInt y.toInt → Go p e below s m Q Cc Sc T pc' Ls St) : Go p e below s m Q Cc Sc T pc Ls (.long y :: .long x :: St) := by
  subst hm
  refine Go.via (fun t q' => XS.lcmp X.here C.x rfl (hb C.b hd0) rfl q') ?_
  exact g_if C X hd ho hq hp (fun z => kt (cd_l.mp z)) (fun z => kf (cd_l.mp z))
theorem g_ireturnN (C : Cx Z a0 p s m meth c bs ml own nm rt) (X : Stand p l e R s m args below meth c T locs cells slots) {z : Int32} {t : FieldType} (hd : decode bs pc = .ok (.ireturn, 1)) (hr : rt = some t) (ht : t = .boolean ∨ t = .byte ∨ t = .char ∨ t = .short) (hQ : Q (some (.int (nar t z))) T.heap locs) (hC : cells ≤ Cc) (hS : slots ≤ Sc) : Go p e below s m Q Cc Sc T pc Ls (.int z :: St) := by
  subst hr
  obtain ⟨fs, hr, hrun, hended, hW, hsame⟩ := X.leave (v := some (.int (nar t z))) (fun h => by rw [C.r] at h; cases h) C.lk
  refine ⟨_, _, ?_, hrun, hended, _, _, rfl, hQ, ⟨_, rfl⟩, hW, hsame.mono hC hS⟩
  exact retN X C.x C.r ht (hb C.b hd) hr
theorem g_ireturn (C : Cx Z a0 p s m meth c bs ml own nm rt) (X : Stand p l e R s m args below meth c T locs cells slots) {z : Int32} (hd : decode bs pc = .ok (.ireturn, 1)) (hr : rt = some .int) (hQ : Q (some (.int z)) T.heap locs) (hC : cells ≤ Cc) (hS : slots ≤ Sc) : Go p e below s m Q Cc Sc T pc Ls (.int z :: St) := by
  subst hr
  obtain ⟨fs, hr, hrun, hended, hW, hsame⟩ := X.leave (v := some (.int z)) (fun h => by rw [C.r] at h; cases h) C.lk
  refine ⟨_, _, ?_, hrun, hended, _, _, rfl, hQ, ⟨_, rfl⟩, hW, hsame.mono hC hS⟩
  exact retOut X C.x C.r rfl (Or.inl ⟨rfl, Or.inl rfl, z, rfl⟩) (hb C.b hd) hr
theorem g_lreturn (C : Cx Z a0 p s m meth c bs ml own nm rt) (X : Stand p l e R s m args below meth c T locs cells slots) {z : Int64} (hd : decode bs pc = .ok (.lreturn, 1)) (hr : rt = some .long) (hQ : Q (some (.long z)) T.heap locs) (hC : cells ≤ Cc) (hS : slots ≤ Sc) : Go p e below s m Q Cc Sc T pc Ls (.long z :: St) := by
  subst hr
  obtain ⟨fs, hr, hrun, hended, hW, hsame⟩ := X.leave (v := some (.long z)) (fun h => by rw [C.r] at h; cases h) C.lk
  refine ⟨_, _, ?_, hrun, hended, _, _, rfl, hQ, ⟨_, rfl⟩, hW, hsame.mono hC hS⟩
  exact retOut X C.x C.r rfl (Or.inr (Or.inl ⟨rfl, rfl, z, rfl⟩)) (hb C.b hd) hr
theorem g_areturn (C : Cx Z a0 p s m meth c bs ml own nm rt) (X : Stand p l e R s m args below meth c T locs cells slots) {z : Addr} {t : FieldType} (hd : decode bs pc = .ok (.areturn, 1)) (hr : rt = some t) (ht : t.isReference = true) (hn : narrow t (.ref z) = .ref z) (hQ : Q (some (.ref z)) T.heap locs) (hC : cells ≤ Cc) (hS : slots ≤ Sc) : Go p e below s m Q Cc Sc T pc Ls (.ref z :: St) := by
  subst hr
  obtain ⟨fs, hr, hrun, hended, hW, hsame⟩ := X.leave (v := some (.ref z)) (fun h => by rw [C.r] at h; cases h) C.lk
  refine ⟨_, _, ?_, hrun, hended, _, _, rfl, hQ, ⟨_, rfl⟩, hW, hsame.mono hC hS⟩
  exact retOut X C.x C.r hn (Or.inr (Or.inr (Or.inr (Or.inr ⟨rfl, ht, rfl⟩)))) (hb C.b hd) hr
theorem g_return (C : Cx Z a0 p s m meth c bs ml own nm rt) (X : Stand p l e R s m args below meth c T locs cells slots)  (hd : decode bs pc = .ok (.return_, 1)) (hr : rt = none) (hQ : Q none T.heap locs) (hC : cells ≤ Cc) (hS : slots ≤ Sc) : Go p e below s m Q Cc Sc T pc Ls [] := by
  subst hr
  obtain ⟨fs, hr, hrun, hended, hW, hsame⟩ := X.leave (v := none) (fun _ => rfl) C.lk
  refine ⟨_, _, ?_, hrun, hended, _, _, rfl, hQ, ⟨_, rfl⟩, hW, hsame.mono hC hS⟩
  exact X.returnOut C.x C.r (hb C.b hd) hr
/-- an array: its kind, its length, what each place holds -/
def Aw (Z : State) (h : Heap) (a : Addr) (ty : FieldType) (n : Nat) (f : Nat → Value) : Prop := ∃ cl : Cell, Arr Z h a cl ty ∧ cl.slots.size = n ∧ n < 2 ^ 31 ∧ ∀ j, j < n → cl.slots[j]? = some (f j)
variable {a b : Addr} {ty : FieldType} {n : Nat} {f f' : Nat → Value}
theorem Aw.ext (A : Aw Z h a ty n f) (E : Ext h h') : Aw Z h' a ty n f := by obtain ⟨cl, A, r⟩ := A; exact ⟨cl, A.ext E, r⟩
theorem Aw.other {sl : Nat} {v : Value} (A : Aw Z h b ty n f) (W : Wr h h' a sl v) (q : b ≠ a) : Aw Z h' b ty n f := by obtain ⟨cl, A, r⟩ := A; exact ⟨cl, A.other W q, r⟩
theorem Aw.keep {ws : List Addr} (A : Aw Z h a ty n f) (K : Keep h h' ws) (q : a ∉ ws) : Aw Z h' a ty n f := by obtain ⟨cl, A, r⟩ := A; exact ⟨cl, ⟨K.2.1 a cl A.1 q, A.2⟩, r⟩
theorem Aw.lt (A : Aw Z h a ty n f) : a < h.size := by obtain ⟨cl, A, r⟩ := A; exact A.lt
theorem Aw.of (A : Aw Z h a ty n f) (q : ∀ j, j < n → f j = f' j) : Aw Z h a ty n f' := by obtain ⟨cl, A, r1, r2, r3⟩ := A; exact ⟨cl, A, r1, r2, fun j hj => by rw [r3 j hj, q j hj]⟩
theorem i_nn {j : Int32} (h0 : 0 ≤ j.toInt) : (j.toNatClampNeg : Int) = j.toInt := by simp only [Int32.toNatClampNeg]; omega
theorem aw_in {cl : Cell} {j : Int32} (S : cl.slots.size = n) (h0 : 0 ≤ j.toInt) (h1 : j.toInt < n) : ¬ (j < 0 ∨ cl.slots.size ≤ j.toNatClampNeg) := by
  have := i_nn h0
  rw [Int32.lt_iff_toInt_lt, S]; simp only [Int32.reduceToInt]; omega
theorem aw_len (q : n < 2 ^ 31) : (n.toInt32).toInt = n := len_toInt q
theorem g_newarray {aty : ArrayType} {nn : Int32} {cap : Nat} (C : Cx Z a0 p s m meth c bs ml own nm rt) (X : Stand p l e R s m args below meth c T locs cells slots) (hd : decode bs pc = .ok (.newarray aty, 2)) (eT : T.heap = h) (w : (Jvm.Cond.arrayClass (newarray.typeOf aty)).before a0 Z = true) (h0 : 0 ≤ nn.toInt) (hcap : nn.toInt ≤ cap) (hb8 : cap * 8 ≤ 536870912) (hc : cells + 1 ≤ R.cells) (hl : slots + cap ≤ R.slots) (hp : pc + 2 = pc')
    (kk : ∀ T' h', Stand p l e R s m args below meth c T' locs (cells + 1) (slots + cap) → T'.heap = h' → Ext h h' → h.size < h'.size → ∀ a, a = h.size → Aw Z h' a (newarray.typeOf aty) nn.toInt.toNat (fun _ => defaultValue (newarray.typeOf aty)) → Go p e below s m Q Cc Sc T' pc' Ls (.ref a :: St)) : Go p e below s m Q Cc Sc T pc Ls (.int nn :: St) := by
  subst hp
  have hn : ¬ nn < 0 := by rw [Int32.lt_iff_toInt_lt]; simp only [Int32.reduceToInt]; omega
  have hi := i_nn h0
  obtain ⟨T', h', cA, X', e', E, A, st⟩ := newP X C.x C.z w eT (g := mkF m pc Ls (.int nn :: St)) rfl (hb C.b hd) rfl hn (cap := cap) (by omega) hb8 hc hl
  have hs : (newA cA (newarray.typeOf aty) nn).slots.size = nn.toInt.toNat := by rw [sz_new]; simp only [Int32.toNatClampNeg]
  have hlt := nn.toInt_lt
  refine Go.via st (kk T' h' X' e' E A.lt _ rfl ⟨_, A, hs, by omega, fun j hj => ?_⟩)
  have : j < nn.toNatClampNeg := by omega
  simp [newA, this]
theorem Aw.set {cl : Cell} {j : Int32} {v : Value} (A : Arr Z h a cl ty) (S : cl.slots.size = n) (M : n < 2 ^ 31) (H : ∀ j, j < n → cl.slots[j]? = some (f j)) (h0 : 0 ≤ j.toInt) (W : Wr h h' a j.toNatClampNeg v) : Aw Z h' a ty n (fun i => if (i : Int) = j.toInt then v else f i) := by
  refine ⟨_, A.same W, by rw [sz_set]; exact S, M, fun i hi => ?_⟩
  have hi0 := i_nn h0
  show _ = some (if (i : Int) = j.toInt then v else f i)
  by_cases q : (i : Int) = j.toInt
  · have : j.toNatClampNeg = i := by omega
    rw [if_pos q, this]
    simp [Cell.setSlot, S, hi]
  · have : j.toNatClampNeg ≠ i := by omega
    rw [if_neg q]
    simp only [Cell.setSlot]
    rw [Array.getElem?_setIfInBounds_ne this]; exact H i hi
theorem g_arraylength (C : Cx Z a0 p s m meth c bs ml own nm rt) (X : Stand p l e R s m args below meth c T locs cells slots) (hd : decode bs pc = .ok (.arraylength, 1)) (eT : T.heap = h) (A : Aw Z h a ty n f) (hp : pc + 1 = pc') (kk : ∀ v : Int32, v.toInt = n → Go p e below s m Q Cc Sc T pc' Ls (.int v :: St)) : Go p e below s m Q Cc Sc T pc Ls (.ref a :: St) := by
  subst hp
  obtain ⟨cl, A, S, M, H⟩ := A
  have : cl.slots.size.toInt32.toInt = n := by rw [S]; exact aw_len M
  exact Go.via (fun t q => X.arraylength C.x (by rw [eT]; exact A.1) (State.isArrayOf_alike C.z.alike A.2.1) (g := mkF m pc Ls (.ref a :: St)) rfl rfl (hb C.b hd) t q) (kk _ this)

theorem g_iastore {j : Int32} {x : Int32} (C : Cx Z a0 p s m meth c bs ml own nm rt) (X : Stand p l e R s m args below meth c T locs cells slots) (hd : decode bs pc = .ok (.iastore, 1)) (eT : T.heap = h) (A : Aw Z h a .int n f) (h0 : 0 ≤ j.toInt) (h1 : j.toInt < n) (hp : pc + 1 = pc')
    (kk : ∀ T' h', Stand p l e R s m args below meth c T' (locs ++ [⟨a, j.toNatClampNeg⟩]) cells slots → T'.heap = h' → Wr h h' a j.toNatClampNeg (.int x) → Aw Z h' a .int n (fun i => if (i : Int) = j.toInt then .int x else f i) → Go p e below s m Q Cc Sc T' pc' Ls St) : Go p e below s m Q Cc Sc T pc Ls (.int x :: .int j :: .ref a :: St) := by
  subst hp
  obtain ⟨cl, A, S, M, H⟩ := A
  obtain ⟨T', h', X', e', W, st⟩ := stI X C.x C.z eT A (j := j) (aw_in S h0 h1) (g := mkF m pc Ls (.int x :: .int j :: .ref a :: St)) rfl rfl (hb C.b hd)
  exact Go.via st (kk T' h' X' e' W (Aw.set A S M H h0 W))
theorem g_bastore {j : Int32} {x : Int32} (C : Cx Z a0 p s m meth c bs ml own nm rt) (X : Stand p l e R s m args below meth c T locs cells slots) (hd : decode bs pc = .ok (.bastore, 1)) (eT : T.heap = h) (A : Aw Z h a .byte n f) (h0 : 0 ≤ j.toInt) (h1 : j.toInt < n) (hp : pc + 1 = pc')
    (kk : ∀ T' h', Stand p l e R s m args below meth c T' (locs ++ [⟨a, j.toNatClampNeg⟩]) cells slots → T'.heap = h' → Wr h h' a j.toNatClampNeg (.int (nar .byte x)) → Aw Z h' a .byte n (fun i => if (i : Int) = j.toInt then .int (nar .byte x) else f i) → Go p e below s m Q Cc Sc T' pc' Ls St) : Go p e below s m Q Cc Sc T pc Ls (.int x :: .int j :: .ref a :: St) := by
  subst hp
  obtain ⟨cl, A, S, M, H⟩ := A
  obtain ⟨T', h', X', e', W, st⟩ := stB X C.x C.z eT A (j := j) (aw_in S h0 h1) (g := mkF m pc Ls (.int x :: .int j :: .ref a :: St)) rfl rfl (hb C.b hd)
  exact Go.via st (kk T' h' X' e' W (Aw.set A S M H h0 W))
theorem g_lastore {j : Int32} {x : Int64} (C : Cx Z a0 p s m meth c bs ml own nm rt) (X : Stand p l e R s m args below meth c T locs cells slots) (hd : decode bs pc = .ok (.lastore, 1)) (eT : T.heap = h) (A : Aw Z h a .long n f) (h0 : 0 ≤ j.toInt) (h1 : j.toInt < n) (hp : pc + 1 = pc')
    (kk : ∀ T' h', Stand p l e R s m args below meth c T' (locs ++ [⟨a, j.toNatClampNeg⟩]) cells slots → T'.heap = h' → Wr h h' a j.toNatClampNeg (.long x) → Aw Z h' a .long n (fun i => if (i : Int) = j.toInt then .long x else f i) → Go p e below s m Q Cc Sc T' pc' Ls St) : Go p e below s m Q Cc Sc T pc Ls (.long x :: .int j :: .ref a :: St) := by
  subst hp
  obtain ⟨cl, A, S, M, H⟩ := A
  obtain ⟨T', h', X', e', W, st⟩ := stJ X C.x C.z eT A (j := j) (aw_in S h0 h1) (g := mkF m pc Ls (.long x :: .int j :: .ref a :: St)) rfl rfl (hb C.b hd)
  exact Go.via st (kk T' h' X' e' W (Aw.set A S M H h0 W))
theorem g_iaload {j : Int32} {v : Value} (C : Cx Z a0 p s m meth c bs ml own nm rt) (X : Stand p l e R s m args below meth c T locs cells slots) (hd : decode bs pc = .ok (.iaload, 1)) (eT : T.heap = h) (A : Aw Z h a .int n f) (h0 : 0 ≤ j.toInt) (h1 : j.toInt < n) (hv : f j.toInt.toNat = v) (hp : pc + 1 = pc') (kk : Go p e below s m Q Cc Sc T pc' Ls (v :: St)) : Go p e below s m Q Cc Sc T pc Ls (.int j :: .ref a :: St) := by
  subst hp
  obtain ⟨cl, A, S, M, H⟩ := A
  have hi := i_nn h0
  have hj : j.toNatClampNeg = j.toInt.toNat := by omega
  have hat : cl.slots[j.toNatClampNeg]? = some v := by rw [hj, H _ (by omega), hv]
  exact Go.via (fun t q => X.iaload C.x (j := j) (v := v) (by rw [eT]; exact A.1) (State.isArrayOf_alike C.z.alike A.2.1) A.2.2 (aw_in S h0 h1) hat (g := mkF m pc Ls (.int j :: .ref a :: St)) rfl rfl (hb C.b hd) t q) kk
theorem g_baload {j : Int32} {v : Value} (C : Cx Z a0 p s m meth c bs ml own nm rt) (X : Stand p l e R s m args below meth c T locs cells slots) (hd : decode bs pc = .ok (.baload, 1)) (eT : T.heap = h) (A : Aw Z h a .byte n f) (h0 : 0 ≤ j.toInt) (h1 : j.toInt < n) (hv : f j.toInt.toNat = v) (hp : pc + 1 = pc') (kk : Go p e below s m Q Cc Sc T pc' Ls (v :: St)) : Go p e below s m Q Cc Sc T pc Ls (.int j :: .ref a :: St) := by
  subst hp
  obtain ⟨cl, A, S, M, H⟩ := A
  have hi := i_nn h0
  have hj : j.toNatClampNeg = j.toInt.toNat := by omega
  have hat : cl.slots[j.toNatClampNeg]? = some v := by rw [hj, H _ (by omega), hv]
  exact Go.via (fun t q => X.baloadBytes C.x (j := j) (v := v) (by rw [eT]; exact A.1) (State.isArrayOf_alike C.z.alike A.2.1) A.2.2 (aw_in S h0 h1) hat (g := mkF m pc Ls (.int j :: .ref a :: St)) rfl rfl (hb C.b hd) t q) kk
theorem g_laload {j : Int32} {v : Value} (C : Cx Z a0 p s m meth c bs ml own nm rt) (X : Stand p l e R s m args below meth c T locs cells slots) (hd : decode bs pc = .ok (.laload, 1)) (eT : T.heap = h) (A : Aw Z h a .long n f) (h0 : 0 ≤ j.toInt) (h1 : j.toInt < n) (hv : f j.toInt.toNat = v) (hp : pc + 1 = pc') (kk : Go p e below s m Q Cc Sc T pc' Ls (v :: St)) : Go p e below s m Q Cc Sc T pc Ls (.int j :: .ref a :: St) := by
  subst hp
  obtain ⟨cl, A, S, M, H⟩ := A
  have hi := i_nn h0
  have hj : j.toNatClampNeg = j.toInt.toNat := by omega
  have hat : cl.slots[j.toNatClampNeg]? = some v := by rw [hj, H _ (by omega), hv]
  exact Go.via (fun t q => X.laload C.x (j := j) (v := v) (by rw [eT]; exact A.1) (State.isArrayOf_alike C.z.alike A.2.1) A.2.2 (aw_in S h0 h1) hat (g := mkF m pc Ls (.int j :: .ref a :: St)) rfl rfl (hb C.b hd) t q) kk
theorem g_callS {y : MethodName} {bytes : ByteArray} {maxL W index : Nat} {ret : Option FieldType} {rm : Room} {argsL rest : List Value} {ps : List FieldType} {r : Option FieldType} {Qc : Option Value → Heap → List Loc → Prop} (C : Cx Z a0 p s m meth c bs ml own nm rt) (X : Stand p l e R s m args below meth c T locs cells slots)
    (hd : decode bs pc = .ok (.invokestatic index, 3)) (eT : T.heap = h)
    (w1 : (Jvm.Cond.methodLink own index y).before a0 Z = true) (w2 : (Jvm.Cond.static y).before a0 Z = true) (w3 : (Jvm.Cond.initialized y.cls).before a0 Z = true) (w4 : (Jvm.Cond.code y bytes maxL ret).before a0 Z = true)
    (hM : MetFree l y (head1 [Jvm.Cond.code y bytes maxL ret] rm) (fun a U => a = argsL.toArray ∧ Z.Warmed39 U.vm ∧ U.heap = h) (fun _ _ _ _ _ => True) (fun _ U o U' => ∃ v L, o = .returned v ∧ Qc v U'.heap L ∧ FrameEnd U o U' L rm.cells rm.slots))
    (hy : y.cls ≠ "java/lang/invoke/MethodHandle" ∧ y.cls ≠ "java/lang/invoke/VarHandle") (hpd : parseMethodDescriptor y.desc = some ⟨ps, r⟩) (hln : argsL.length = ps.length)
    (hst : St = argsL.reverse ++ rest) (hLs : Ls.size = ml) (hW : (rest.map fun v => v.category).sum ≤ W) (hfr : rm.frames + 1 ≤ R.frames) (hlo : W + (maxL + 11) + rm.locals ≤ R.locals) (hce : cells + rm.cells ≤ R.cells) (hsl : slots + rm.slots ≤ R.slots) (hp : pc + 3 = pc')
    (kk : ∀ T' v L, Stand p l e R s m args below meth c T' (locs ++ L) (cells + rm.cells) (slots + rm.slots) → Qc v T'.heap L → Go p e below s m Q Cc Sc T' pc' Ls (v.toList ++ rest)) : Go p e below s m Q Cc Sc T pc Ls St := by
  subst hp
  obtain ⟨v, _, ⟨T', L', k', n'⟩, -, X', ⟨L, hQ, l1, y1, z1⟩, st⟩ := Jvm.LawKit.callS X C.x (y := y) C.o (mvT C.z w1) (mvT C.z w2) (mvT C.z w3) (mvT C.z w4) hy (backOf (W := W) hM C.z w4 w3 hfr hlo) (g := mkF m pc Ls St) rfl (by rw [C.mx]; exact hLs) (argsL := argsL) (rest := rest) (lenOf hpd hln) hst (by show 2 * 0 + _ ≤ _; omega) (hb C.b hd) (fun _ _ => ⟨rfl, eT, hce, hsl⟩)
  dsimp only [Pt.U, Pt.locs, Pt.cells, Pt.slots] at X' l1 y1 z1 st hQ
  subst l1 y1 z1
  exact Go.via st (kk T' v L X' hQ)
theorem g_callC {y : MethodName} {bytes : ByteArray} {maxL W index : Nat} {rm : Room} {argsL rest : List Value} {ps : List FieldType} {r : Option FieldType} {Qc : Option Value → Heap → List Loc → Prop} (C : Cx Z a0 p s m meth c bs ml own nm rt) (X : Stand p l e R s m args below meth c T locs cells slots)
    (hd : decode bs pc = .ok (.invokespecial index, 3)) (eT : T.heap = h) (hy1 : y.name = "<init>") 
    (w1 : (Jvm.Cond.methodLink own index y).before a0 Z = true) (w2 : (Jvm.Cond.instanceMethod y).before a0 Z = true) (w3 : (Jvm.Cond.initialized y.cls).before a0 Z = true) (w4 : (Jvm.Cond.code y bytes maxL none).before a0 Z = true)
    (hM : MetFree l y (head1 [Jvm.Cond.code y bytes maxL none] rm) (fun a' U => a' = (Value.ref a :: argsL).toArray ∧ Z.Warmed39 U.vm ∧ U.heap = h) (fun _ _ _ _ _ => True) (fun _ U o U' => ∃ v L, o = .returned v ∧ Qc v U'.heap L ∧ FrameEnd U o U' L rm.cells rm.slots))
    (hy : y.cls ≠ "java/lang/invoke/MethodHandle" ∧ y.cls ≠ "java/lang/invoke/VarHandle") (hpd : parseMethodDescriptor y.desc = some ⟨ps, r⟩) (hln : argsL.length = ps.length)
    (hst : St = argsL.reverse ++ .ref a :: rest) (hLs : Ls.size = ml) (hW : (rest.map fun v => v.category).sum ≤ W) (hfr : rm.frames + 1 ≤ R.frames) (hlo : W + (maxL + 11) + rm.locals ≤ R.locals) (hce : cells + rm.cells ≤ R.cells) (hsl : slots + rm.slots ≤ R.slots) (hp : pc + 3 = pc')
    (kk : ∀ T' v L, Stand p l e R s m args below meth c T' (locs ++ L) (cells + rm.cells) (slots + rm.slots) → Qc v T'.heap L → Go p e below s m Q Cc Sc T' pc' Ls (v.toList ++ rest)) : Go p e below s m Q Cc Sc T pc Ls St := by
  subst hp
  obtain ⟨v, _, ⟨T', L', k', n'⟩, -, X', ⟨L, hQ, l1, y1, z1⟩, st⟩ := X.specialBack C.x (y := y) hy1 C.o (mvT C.z w1) (mvT C.z w2) (mvT C.z w4) hy (backOf (W := W) hM C.z w4 w3 hfr hlo) (g := mkF m pc Ls St) rfl (by rw [C.mx]; exact hLs) (Steps.refl _) (a := a) (argsL := argsL) (rest := rest) (lenOf hpd hln) hst (by show 2 * 0 + _ ≤ _; omega) (hb C.b hd) (fun _ _ => ⟨rfl, eT, hce, hsl⟩)
  dsimp only [Pt.U, Pt.locs, Pt.cells, Pt.slots] at X' l1 y1 z1 st hQ
  subst l1 y1 z1
  exact Go.via (fun t q => st.trans q) (kk T' v L X' hQ)
theorem g_callV {y : MethodName} {bytes : ByteArray} {maxL W index : Nat} {ret : Option FieldType} {rm : Room} {argsL rest : List Value} {ps : List FieldType} {r : Option FieldType} {Qc : Option Value → Heap → List Loc → Prop} (C : Cx Z a0 p s m meth c bs ml own nm rt) (X : Stand p l e R s m args below meth c T locs cells slots)
    (hd : decode bs pc = .ok (.invokevirtual index, 3)) (eT : T.heap = h) {K : String} (E : Exa Z h a K) (wd : (Jvm.Cond.declares y).before a0 Z = true) (wn : (Jvm.Cond.selects K y y).before a0 Z = true) 
    (w1 : (Jvm.Cond.methodLink own index y).before a0 Z = true) (w2 : (Jvm.Cond.instanceMethod y).before a0 Z = true) (w3 : (Jvm.Cond.initialized y.cls).before a0 Z = true) (w4 : (Jvm.Cond.code y bytes maxL ret).before a0 Z = true)
    (hM : MetFree l y (head1 [Jvm.Cond.code y bytes maxL ret] rm) (fun a' U => a' = (Value.ref a :: argsL).toArray ∧ Z.Warmed39 U.vm ∧ U.heap = h) (fun _ _ _ _ _ => True) (fun _ U o U' => ∃ v L, o = .returned v ∧ Qc v U'.heap L ∧ FrameEnd U o U' L rm.cells rm.slots))
    (hy : y.cls ≠ "java/lang/invoke/MethodHandle" ∧ y.cls ≠ "java/lang/invoke/VarHandle") (hpd : parseMethodDescriptor y.desc = some ⟨ps, r⟩) (hln : argsL.length = ps.length)
    (hst : St = argsL.reverse ++ .ref a :: rest) (hLs : Ls.size = ml) (hW : (rest.map fun v => v.category).sum ≤ W) (hfr : rm.frames + 1 ≤ R.frames) (hlo : W + (maxL + 11) + rm.locals ≤ R.locals) (hce : cells + rm.cells ≤ R.cells) (hsl : slots + rm.slots ≤ R.slots) (hp : pc + 3 = pc')
    (kk : ∀ T' v L, Stand p l e R s m args below meth c T' (locs ++ L) (cells + rm.cells) (slots + rm.slots) → Qc v T'.heap L → Go p e below s m Q Cc Sc T' pc' Ls (v.toList ++ rest)) : Go p e below s m Q Cc Sc T pc Ls St := by
  subst hp
  obtain ⟨cq, kq, qa, qb, qc⟩ := isOf C.z eT E
  obtain ⟨v, _, ⟨T', L', k', n'⟩, -, X', ⟨L, hQ, l1, y1, z1⟩, st⟩ := X.virtualBack C.x (y := y) (z := y) C.o (mvT C.z w1) (mvT C.z wd) (notFace_of_selects (args := #[]) (mvT C.z wn)) (mvT C.z wn) (mvT C.z w2) hy (backOf (W := W) hM C.z w4 w3 hfr hlo) qa qc (g := mkF m pc Ls St) rfl (by rw [C.mx]; exact hLs) (Steps.refl _) (argsL := argsL) (rest := rest) (lenOf hpd hln) hst (by show 2 * 0 + _ ≤ _; omega) (hb C.b hd) (fun _ _ => ⟨rfl, eT, hce, hsl⟩)
  dsimp only [Pt.U, Pt.locs, Pt.cells, Pt.slots] at X' l1 y1 z1 st hQ
  subst l1 y1 z1
  exact Go.via (fun t q => st.trans q) (kk T' v L X' hQ)
theorem g_getfield {R0 O nf df : String} {index : Nat} {v : Value} (C : Cx Z a0 p s m meth c bs ml own nm rt) (X : Stand p l e R s m args below meth c T locs cells slots) (hd : decode bs pc = .ok (.getfield index, 3)) (eT : T.heap = h) (w : (Jvm.Cond.fieldLink own index R0 nf df).before a0 Z = true) (via : Via Z R0 O nf df) (F : Fld Z h a O nf df v) (hp : pc + 3 = pc')
    (kk : ∀ T', Stand p l e R s m args below meth c T' locs cells slots → T'.heap = h → Go p e below s m Q Cc Sc T' pc' Ls (v :: St)) : Go p e below s m Q Cc Sc T pc Ls (.ref a :: St) := by
  subst hp
  obtain ⟨T', X', e', st⟩ := getF X C.x C.z C.o (host := "") (Or.inl w) via eT F (g := mkF m pc Ls (.ref a :: St)) rfl rfl (hb C.b hd)
  exact Go.via st (kk T' X' e')
theorem g_new {K : String} {index n : Nat} (C : Cx Z a0 p s m meth c bs ml own nm rt) (X : Stand p l e R s m args below meth c T locs cells slots) (hd : decode bs pc = .ok (.new index, 3)) (eT : T.heap = h) (w1 : (Jvm.Cond.classLink own index K).before a0 Z = true) (w2 : (Jvm.Cond.instantiable K n).before a0 Z = true) (w3 : (Jvm.Cond.initialized K).before a0 Z = true) (hc : cells + 1 ≤ R.cells) (hl : slots + n ≤ R.slots) (hp : pc + 3 = pc')
    (kk : ∀ T' h', Stand p l e R s m args below meth c T' locs (cells + 1) (slots + n) → T'.heap = h' → Ext h h' → h.size < h'.size → ∀ a, a = h.size → Exa Z h' a K → (∀ {O nf d : String} {ty : FieldType}, Laid Z a0 K O nf d → parseFieldDescriptor d = some ty → Fld Z h' a O nf d (defaultValue ty)) → Go p e below s m Q Cc Sc T' pc' Ls (.ref a :: St)) : Go p e below s m Q Cc Sc T pc Ls St := by
  subst hp
  obtain ⟨T', h', X', e', E, A, D, -, st⟩ := newO X C.x C.z C.o w1 w2 w3 eT (g := mkF m pc Ls St) rfl (hb C.b hd) hc hl
  exact Go.via st (kk T' h' X' e' E A.lt _ rfl A D)
theorem g_putfield {R0 O nf df K : String} {index kk' : Nat} {ty : FieldType} {v old : Value} (C : Cx Z a0 p s m meth c bs ml own nm rt) (X : Stand p l e R s m args below meth c T locs cells slots) (hd : decode bs pc = .ok (.putfield index, 3)) (eT : T.heap = h) (w : (Jvm.Cond.fieldLink own index R0 nf df).before a0 Z = true) (via : Via Z R0 O nf df) (F : Fld Z h a O nf df old) (E : Exa Z h a K) (L : (Jvm.Cond.lays K O nf df).before a0 Z = true ∨ ((Jvm.Cond.laysFinal K O nf df).before a0 Z = true ∧ own = O ∧ nm = "<init>")) (wi : (Jvm.Cond.instantiable K kk').before a0 Z = true) (hty : parseFieldDescriptor df = some ty) (hn : narrow ty v = v) (hf : fits ty v = true) (hp : pc + 3 = pc')
    (kk : ∀ T' h', Stand p l e R s m args below meth c T' (locs ++ [⟨a, Jvm.RoadKit.slotOf Z O nf df⟩]) cells slots → T'.heap = h' → Wr h h' a (Jvm.RoadKit.slotOf Z O nf df) v → Fld Z h' a O nf df v → Exa Z h' a K → Go p e below s m Q Cc Sc T' pc' Ls St) : Go p e below s m Q Cc Sc T pc Ls (v :: .ref a :: St) := by
  subst hp
  obtain ⟨T', h', X', e', W, st⟩ := putF X C.x C.z C.o (host := "") (Or.inl w) via eT F E (L.imp id fun q => ⟨q.1, q.2.1, by rw [C.n]; exact q.2.2⟩) wi hty hn hf (g := mkF m pc Ls (v :: .ref a :: St)) rfl rfl (hb C.b hd)
  exact Go.via st (kk T' h' X' e' W (F.same W) (E.wr W))
theorem g_initO {idx W : Nat} (C : Cx Z a0 p s m meth c bs ml own nm rt) (X : Stand p l e R s m args below meth c T locs cells slots) (hd : decode bs pc = .ok (.invokespecial idx, 3)) (eT : T.heap = h) (w1 : (Jvm.Cond.methodLink own idx Lib.objectInit).before a0 Z = true) (w2 : (Jvm.Cond.instanceMethod Lib.objectInit).before a0 Z = true) (w3 : (Jvm.Cond.code Lib.objectInit ⟨#[0xb1]⟩ 1 none).before a0 Z = true) (hLs : Ls.size = ml) (hf : 1 ≤ R.frames) (hW : (St.map fun v => v.category).sum ≤ W) (hl : W + 12 ≤ R.locals) (hp : pc + 3 = pc')
    (kk : ∀ T', Stand p l e R s m args below meth c T' locs cells slots → T'.heap = h → Go p e below s m Q Cc Sc T' pc' Ls St) : Go p e below s m Q Cc Sc T pc Ls (.ref a :: St) := by
  subst hp
  obtain ⟨T', X', e', st⟩ := initO X C.x C.z C.o w1 w2 w3 eT (g := mkF m pc Ls (.ref a :: St)) rfl (by rw [C.mx]; exact hLs) rfl (hb C.b hd) hf (W := W) (by show 2 * 0 + _ ≤ _; omega) hl
  exact Go.via st (kk T' X' e')
end Own
/-- numbers -/
theorem own_inj32 {x y : Int32} (h : x.toInt = y.toInt) : x = y := Int32.toInt_inj.mp h
theorem own_inj64 {x y : Int64} (h : x.toInt = y.toInt) : x = y := Int64.toInt_inj.mp h
theorem own_nz32 {x : Int32} (h : 1 ≤ x.toInt) : x ≠ 0 := fun q => by rw [q] at h; revert h; decide
theorem own_nz64 {x : Int64} (h : 1 ≤ x.toInt) : x ≠ 0 := fun q => by rw [q] at h; revert h; decide
abbrev LQ (n0 : Nat) : Option Value → Heap → List Loc → Prop := fun v _ L => v = some (.int 1) ∧ Fr n0 L
theorem d1_0 : decode method_3_code 0 = .ok (.iload_n 2, 1) := by decide +kernel
theorem d1_1 : decode method_3_code 1 = .ok (.iload_n 1, 1) := by decide +kernel
theorem d1_2 : decode method_3_code 2 = .ok (.if_icmp .ge 14, 3) := by decide +kernel
theorem d1_5 : decode method_3_code 5 = .ok (.aload_n 0, 1) := by decide +kernel
theorem d1_6 : decode method_3_code 6 = .ok (.iload_n 2, 1) := by decide +kernel
theorem d1_7 : decode method_3_code 7 = .ok (.iaload, 1) := by decide +kernel
theorem d1_8 : decode method_3_code 8 = .ok (.iload_n 3, 1) := by decide +kernel
theorem d1_9 : decode method_3_code 9 = .ok (.if_icmp .ne 7, 3) := by decide +kernel
theorem d1_12 : decode method_3_code 12 = .ok (.iconst 1, 1) := by decide +kernel
theorem d1_13 : decode method_3_code 13 = .ok (.goto 4, 3) := by decide +kernel
theorem d1_16 : decode method_3_code 16 = .ok (.iconst 0, 1) := by decide +kernel
theorem d1_17 : decode method_3_code 17 = .ok (.ireturn, 1) := by decide +kernel
theorem pn_1 : plainFor (⟨"com/example/ballast/ballast/storage/ClusterCatalogIsInSyncOfPinLaw", "hit", "([IIII)Z"⟩ : MethodName) = true := plainFor_of_name (by first | (simp [plainName, overriddenIn]; done) | decide +kernel)
theorem pd_1 : parseMethodDescriptor "([IIII)Z" = some ⟨[(.array .int), .int, .int, .int], some .boolean⟩ := by decide +kernel
theorem ef_1 (x0 : Addr) (x1 : Int32) (x2 : Int32) (x3 : Int32) (m : MethodId) : entryFrame m #[(.ref x0), (.int x1), (.int x2), (.int x3)] 4 = mkF m 0 #[.val (.ref x0), .val (.int x1), .val (.int x2), .val (.int x3)] [] := by first | (simp [entryFrame, mkF, argsToLocals, Value.category]; done) | rfl
theorem d2_0 : decode prog_270_method_61_code 0 = .ok (.iconst 0, 1) := by decide +kernel
theorem d2_1 : decode prog_270_method_61_code 1 = .ok (.istore_n 2, 1) := by decide +kernel
theorem d2_2 : decode prog_270_method_61_code 2 = .ok (.aload_n 0, 1) := by decide +kernel
theorem d2_3 : decode prog_270_method_61_code 3 = .ok (.astore_n 3, 1) := by decide +kernel
theorem d2_4 : decode prog_270_method_61_code 4 = .ok (.aload_n 3, 1) := by decide +kernel
theorem d2_5 : decode prog_270_method_61_code 5 = .ok (.arraylength, 1) := by decide +kernel
theorem d2_6 : decode prog_270_method_61_code 6 = .ok (.istore 4, 2) := by decide +kernel
theorem d2_8 : decode prog_270_method_61_code 8 = .ok (.iconst 0, 1) := by decide +kernel
theorem d2_9 : decode prog_270_method_61_code 9 = .ok (.istore 5, 2) := by decide +kernel
theorem d2_11 : decode prog_270_method_61_code 11 = .ok (.iload 5, 2) := by decide +kernel
theorem d2_13 : decode prog_270_method_61_code 13 = .ok (.iload 4, 2) := by decide +kernel
theorem d2_15 : decode prog_270_method_61_code 15 = .ok (.if_icmp .ge 46, 3) := by decide +kernel
theorem d2_18 : decode prog_270_method_61_code 18 = .ok (.aload_n 3, 1) := by decide +kernel
theorem d2_19 : decode prog_270_method_61_code 19 = .ok (.iload 5, 2) := by decide +kernel
theorem d2_21 : decode prog_270_method_61_code 21 = .ok (.iaload, 1) := by decide +kernel
theorem d2_22 : decode prog_270_method_61_code 22 = .ok (.istore 6, 2) := by decide +kernel
theorem d2_24 : decode prog_270_method_61_code 24 = .ok (.iload_n 2, 1) := by decide +kernel
theorem d2_25 : decode prog_270_method_61_code 25 = .ok (.aload_n 1, 1) := by decide +kernel
theorem d2_26 : decode prog_270_method_61_code 26 = .ok (.arraylength, 1) := by decide +kernel
theorem d2_27 : decode prog_270_method_61_code 27 = .ok (.if_icmp .ge 17, 3) := by decide +kernel
theorem d2_30 : decode prog_270_method_61_code 30 = .ok (.aload_n 1, 1) := by decide +kernel
theorem d2_31 : decode prog_270_method_61_code 31 = .ok (.iload_n 2, 1) := by decide +kernel
theorem d2_32 : decode prog_270_method_61_code 32 = .ok (.iaload, 1) := by decide +kernel
theorem d2_33 : decode prog_270_method_61_code 33 = .ok (.iload 6, 2) := by decide +kernel
theorem d2_35 : decode prog_270_method_61_code 35 = .ok (.if_icmp .eq 9, 3) := by decide +kernel
theorem d2_38 : decode prog_270_method_61_code 38 = .ok (.iinc 2 1, 3) := by decide +kernel
theorem d2_41 : decode prog_270_method_61_code 41 = .ok (.goto (-17), 3) := by decide +kernel
theorem d2_44 : decode prog_270_method_61_code 44 = .ok (.iload_n 2, 1) := by decide +kernel
theorem d2_45 : decode prog_270_method_61_code 45 = .ok (.aload_n 1, 1) := by decide +kernel
theorem d2_46 : decode prog_270_method_61_code 46 = .ok (.arraylength, 1) := by decide +kernel
theorem d2_47 : decode prog_270_method_61_code 47 = .ok (.if_icmp .ne 5, 3) := by decide +kernel
theorem d2_50 : decode prog_270_method_61_code 50 = .ok (.iconst 0, 1) := by decide +kernel
theorem d2_51 : decode prog_270_method_61_code 51 = .ok (.ireturn, 1) := by decide +kernel
theorem d2_52 : decode prog_270_method_61_code 52 = .ok (.iinc 2 1, 3) := by decide +kernel
theorem d2_55 : decode prog_270_method_61_code 55 = .ok (.iinc 5 1, 3) := by decide +kernel
theorem d2_58 : decode prog_270_method_61_code 58 = .ok (.goto (-47), 3) := by decide +kernel
theorem d2_61 : decode prog_270_method_61_code 61 = .ok (.aload_n 0, 1) := by decide +kernel
theorem d2_62 : decode prog_270_method_61_code 62 = .ok (.arraylength, 1) := by decide +kernel
theorem d2_63 : decode prog_270_method_61_code 63 = .ok (.ifCond .le 7, 3) := by decide +kernel
theorem d2_66 : decode prog_270_method_61_code 66 = .ok (.iconst 1, 1) := by decide +kernel
theorem d2_67 : decode prog_270_method_61_code 67 = .ok (.goto 4, 3) := by decide +kernel
theorem d2_70 : decode prog_270_method_61_code 70 = .ok (.iconst 0, 1) := by decide +kernel
theorem d2_71 : decode prog_270_method_61_code 71 = .ok (.ireturn, 1) := by decide +kernel
theorem pn_2 : plainFor (⟨"com/example/ballast/ballast/storage/ClusterCatalog", "isInSyncOf", "([I[I)Z"⟩ : MethodName) = true := plainFor_of_name (by first | (simp [plainName, overriddenIn]; done) | decide +kernel)
theorem pd_2 : parseMethodDescriptor "([I[I)Z" = some ⟨[(.array .int), (.array .int)], some .boolean⟩ := by decide +kernel
theorem ef_2 (x0 : Addr) (x1 : Addr) (m : MethodId) : entryFrame m #[(.ref x0), (.ref x1)] 7 = mkF m 0 #[.val (.ref x0), .val (.ref x1), .unset, .unset, .unset, .unset, .unset] [] := by first | (simp [entryFrame, mkF, argsToLocals, Value.category]; done) | rfl
theorem pn_0 : plainFor x = true := plainFor_of_name (by first | (simp [plainName, overriddenIn]; done) | decide +kernel)
theorem pd_0 : parseMethodDescriptor "(III)Z" = some ⟨[.int, .int, .int], some .boolean⟩ := by decide +kernel
theorem ef_0 (x0 : Int32) (x1 : Int32) (x2 : Int32) (m : MethodId) : entryFrame m #[(.int x0), (.int x1), (.int x2)] maxLocals = mkF m 0 #[.val (.int x0), .val (.int x1), .val (.int x2), .unset, .unset, .unset, .unset, .unset, .unset, .unset, .unset, .unset, .unset, .unset, .unset, .unset] [] := by first | (simp [entryFrame, mkF, argsToLocals, Value.category, maxLocals]; done) | rfl
def Q_rm1 (Z : State) (a : Addr) (x1 : Int32) (x2 : Int32) (x3 : Int32) (g : Nat → Int32) (h0 : Heap) (n0 : Nat) (v : Option Value) (h : Heap) (L : List Loc) : Prop := (∃ r : Int32, v = some (.int r) ∧ (r = 1 ∧ (x2.toInt < x1.toInt ∧ (g x2.toInt.toNat).toInt = x3.toInt) ∨ r = 0 ∧ ¬ (x2.toInt < x1.toInt ∧ (g x2.toInt.toNat).toInt = x3.toInt))) ∧ Fr n0 L ∧ h = h0
set_option maxRecDepth 65536 in
set_option maxHeartbeats 40000000 in
theorem rm1 (l : Launch) (Z : State) (a0 : Array Value) (hw : ∀ d ∈ tables_1, d.before a0 Z = true) (ws : List Jvm.Cond) (a : Addr) (x1 : Int32) (x2 : Int32) (x3 : Int32) (g : Nat → Int32) (h0 : Heap) (n0 : Nat) (Z0 : n0 ≤ h0.size) (A : Aw Z h0 a .int 4 (fun j => .int (g j))) (i0 : 0 ≤ x2.toInt) (i1 : x2.toInt < 4) :
    MetFree l (⟨"com/example/ballast/ballast/storage/ClusterCatalogIsInSyncOfPinLaw", "hit", "([IIII)Z"⟩ : MethodName) (head1 (Jvm.Cond.code (⟨"com/example/ballast/ballast/storage/ClusterCatalogIsInSyncOfPinLaw", "hit", "([IIII)Z"⟩ : MethodName) method_3_code 4 (some .boolean) :: ws) ({ frames := 0, cells := 0, slots := 0, locals := 0 } : Room)) (fun aa U => aa = #[(.ref a), (.int x1), (.int x2), (.int x3)] ∧ Z.Warmed39 U.vm ∧ U.heap = h0) (fun _ _ _ _ _ => True) (fun _ U oo U' => ∃ rv Lr, oo = .returned rv ∧ Q_rm1 Z a x1 x2 x3 g h0 n0 rv U'.heap Lr ∧ FrameEnd U oo U' Lr ({ frames := 0, cells := 0, slots := 0, locals := 0 } : Room).cells ({ frames := 0, cells := 0, slots := 0, locals := 0 } : Room).slots) := by
  refine g_enter pn_1 hw (ef_1 a x1 x2 x3) ?_
  intro p e s m below meth c T0 C X0 e0
  have C : Cx Z a0 p s m meth c method_3_code 4 "com/example/ballast/ballast/storage/ClusterCatalogIsInSyncOfPinLaw" "hit" (some .boolean) := C
  have N0 := Fr.nil n0
  refine g_iloadN C X0 d1_0 rfl rfl ?_
  refine g_iloadN C X0 d1_1 rfl rfl ?_
  refine g_icmp C X0 d1_2 (by decide) rfl rfl ?_ ?_
  · intro h2
    have h2 : x2.toInt ≥ x1.toInt := h2
    refine g_iconst C X0 (0 : Int32) d1_16 rfl rfl ?_
    exact g_ireturnN C X0 d1_17 rfl (Or.inl rfl) ⟨⟨(0 : Int32), rfl, Or.inr ⟨rfl, by omega⟩⟩, N0, e0⟩ (by decide) (by decide)
  · intro h2
    have h2 : x2.toInt < x1.toInt := h2
    refine g_aloadN C X0 d1_5 rfl rfl ?_
    refine g_iloadN C X0 d1_6 rfl rfl ?_
    refine g_iaload C X0 d1_7 e0 A (by omega) (by omega) (v := (.int (g x2.toInt.toNat))) rfl rfl ?_
    refine g_iloadN C X0 d1_8 rfl rfl ?_
    refine g_icmp C X0 d1_9 (by decide) rfl rfl ?_ ?_
    · intro h9
      have h9 : ¬ (g x2.toInt.toNat).toInt = x3.toInt := h9
      refine g_iconst C X0 (0 : Int32) d1_16 rfl rfl ?_
      exact g_ireturnN C X0 d1_17 rfl (Or.inl rfl) ⟨⟨(0 : Int32), rfl, Or.inr ⟨rfl, by omega⟩⟩, N0, e0⟩ (by decide) (by decide)
    · intro h9
      have h9 : (g x2.toInt.toNat).toInt = x3.toInt := h9
      refine g_iconst C X0 (1 : Int32) d1_12 rfl rfl ?_
      refine g_goto C X0 d1_13 (by decide) rfl ?_
      exact g_ireturnN C X0 d1_17 rfl (Or.inl rfl) ⟨⟨(1 : Int32), rfl, Or.inl ⟨rfl, by omega⟩⟩, N0, e0⟩ (by decide) (by decide)
def Q_sy0_0 (Z : State) (a : Addr) (b : Addr) (x0 : Int32) (x1 : Int32) (x2 : Int32) (r0 : Int32) (r1 : Int32) (r2 : Int32) (r3 : Int32) (h0 : Heap) (n0 : Nat) (v : Option Value) (h : Heap) (L : List Loc) : Prop := (∃ r : Int32, v = some (.int r) ∧ (r = 1 ∧ False ∨ r = 0 ∧ ¬ False)) ∧ Fr n0 L ∧ h = h0
set_option maxRecDepth 65536 in
set_option maxHeartbeats 40000000 in
theorem sy0_0 (l : Launch) (Z : State) (a0 : Array Value) (hw : ∀ d ∈ tables_1, d.before a0 Z = true) (ws : List Jvm.Cond) (a : Addr) (b : Addr) (x0 x1 x2 r0 r1 r2 r3 : Int32) (h0 : Heap) (n0 : Nat) (Z0 : n0 ≤ h0.size) (A : Aw Z h0 a .int 0 (fun j => .int (([] : List Int32).getD j 0))) (B : Aw Z h0 b .int 0 (fun j => .int (([r0, r1, r2, r3] : List Int32).getD j 0))) :
    MetFree l (⟨"com/example/ballast/ballast/storage/ClusterCatalog", "isInSyncOf", "([I[I)Z"⟩ : MethodName) (head1 (Jvm.Cond.code (⟨"com/example/ballast/ballast/storage/ClusterCatalog", "isInSyncOf", "([I[I)Z"⟩ : MethodName) prog_270_method_61_code 7 (some .boolean) :: ws) ({ frames := 0, cells := 0, slots := 0, locals := 0 } : Room)) (fun aa U => aa = #[(.ref a), (.ref b)] ∧ Z.Warmed39 U.vm ∧ U.heap = h0) (fun _ _ _ _ _ => True) (fun _ U oo U' => ∃ rv Lr, oo = .returned rv ∧ Q_sy0_0 Z a b x0 x1 x2 r0 r1 r2 r3 h0 n0 rv U'.heap Lr ∧ FrameEnd U oo U' Lr ({ frames := 0, cells := 0, slots := 0, locals := 0 } : Room).cells ({ frames := 0, cells := 0, slots := 0, locals := 0 } : Room).slots) := by
  refine g_enter pn_2 hw (ef_2 a b) ?_
  intro p e s m below meth c T0 C X0 e0
  have C : Cx Z a0 p s m meth c prog_270_method_61_code 7 "com/example/ballast/ballast/storage/ClusterCatalog" "isInSyncOf" (some .boolean) := C
  have N0 := Fr.nil n0
  refine g_iconst C X0 (0 : Int32) d2_0 rfl rfl ?_
  refine g_istoreN C X0 d2_1 #[.val (.ref a), .val (.ref b), .val (.int (0 : Int32)), .unset, .unset, .unset, .unset] rfl rfl ?_
  refine g_aloadN C X0 d2_2 rfl rfl ?_
  refine g_astoreN C X0 d2_3 #[.val (.ref a), .val (.ref b), .val (.int (0 : Int32)), .val (.ref a), .unset, .unset, .unset] rfl rfl ?_
  refine g_aloadN C X0 d2_4 rfl rfl ?_
  refine g_arraylength C X0 d2_5 e0 A rfl ?_
  intro n5 h_n5
  obtain rfl : n5 = (0 : Int32) := own_inj32 (y := (0 : Int32)) h_n5
  refine g_istore C X0 d2_6 #[.val (.ref a), .val (.ref b), .val (.int (0 : Int32)), .val (.ref a), .val (.int (0 : Int32)), .unset, .unset] rfl rfl ?_
  refine g_iconst C X0 (0 : Int32) d2_8 rfl rfl ?_
  refine g_istore C X0 d2_9 #[.val (.ref a), .val (.ref b), .val (.int (0 : Int32)), .val (.ref a), .val (.int (0 : Int32)), .val (.int (0 : Int32)), .unset] rfl rfl ?_
  refine g_iload C X0 d2_11 rfl rfl ?_
  refine g_iload C X0 d2_13 rfl rfl ?_
  refine g_icmp C X0 d2_15 (by decide) rfl rfl ?_ ?_
  · intro h15
    have h15 : (0 : Int) ≥ 0 := h15
    refine g_aloadN C X0 d2_61 rfl rfl ?_
    refine g_arraylength C X0 d2_62 e0 A rfl ?_
    intro n62 h_n62
    obtain rfl : n62 = (0 : Int32) := own_inj32 (y := (0 : Int32)) h_n62
    refine g_if C X0 d2_63 (by decide) rfl rfl ?_ ?_
    · intro h63
      have h63 : (0 : Int) ≤ 0 := h63
      refine g_iconst C X0 (0 : Int32) d2_70 rfl rfl ?_
      exact g_ireturnN C X0 d2_71 rfl (Or.inl rfl) ⟨⟨(0 : Int32), rfl, Or.inr ⟨rfl, fun z => z⟩⟩, N0, e0⟩ (by decide) (by decide)
    · intro h63
      have h63 : (0 : Int) > 0 := h63
      exact absurd h63 (by decide)
  · intro h15
    have h15 : (0 : Int) < 0 := h15
    exact absurd h15 (by decide)
def Q_sy0_1 (Z : State) (a : Addr) (b : Addr) (x0 : Int32) (x1 : Int32) (x2 : Int32) (r0 : Int32) (r1 : Int32) (r2 : Int32) (r3 : Int32) (h0 : Heap) (n0 : Nat) (v : Option Value) (h : Heap) (L : List Loc) : Prop := (∃ r : Int32, v = some (.int r) ∧ (r = 1 ∧ False ∨ r = 0 ∧ ¬ False)) ∧ Fr n0 L ∧ h = h0
set_option maxRecDepth 65536 in
set_option maxHeartbeats 40000000 in
theorem sy0_1 (l : Launch) (Z : State) (a0 : Array Value) (hw : ∀ d ∈ tables_1, d.before a0 Z = true) (ws : List Jvm.Cond) (a : Addr) (b : Addr) (x0 x1 x2 r0 r1 r2 r3 : Int32) (h0 : Heap) (n0 : Nat) (Z0 : n0 ≤ h0.size) (A : Aw Z h0 a .int 0 (fun j => .int (([] : List Int32).getD j 0))) (B : Aw Z h0 b .int 1 (fun j => .int (([r0, r1, r2, r3] : List Int32).getD j 0))) :
    MetFree l (⟨"com/example/ballast/ballast/storage/ClusterCatalog", "isInSyncOf", "([I[I)Z"⟩ : MethodName) (head1 (Jvm.Cond.code (⟨"com/example/ballast/ballast/storage/ClusterCatalog", "isInSyncOf", "([I[I)Z"⟩ : MethodName) prog_270_method_61_code 7 (some .boolean) :: ws) ({ frames := 0, cells := 0, slots := 0, locals := 0 } : Room)) (fun aa U => aa = #[(.ref a), (.ref b)] ∧ Z.Warmed39 U.vm ∧ U.heap = h0) (fun _ _ _ _ _ => True) (fun _ U oo U' => ∃ rv Lr, oo = .returned rv ∧ Q_sy0_1 Z a b x0 x1 x2 r0 r1 r2 r3 h0 n0 rv U'.heap Lr ∧ FrameEnd U oo U' Lr ({ frames := 0, cells := 0, slots := 0, locals := 0 } : Room).cells ({ frames := 0, cells := 0, slots := 0, locals := 0 } : Room).slots) := by
  refine g_enter pn_2 hw (ef_2 a b) ?_
  intro p e s m below meth c T0 C X0 e0
  have C : Cx Z a0 p s m meth c prog_270_method_61_code 7 "com/example/ballast/ballast/storage/ClusterCatalog" "isInSyncOf" (some .boolean) := C
  have N0 := Fr.nil n0
  refine g_iconst C X0 (0 : Int32) d2_0 rfl rfl ?_
  refine g_istoreN C X0 d2_1 #[.val (.ref a), .val (.ref b), .val (.int (0 : Int32)), .unset, .unset, .unset, .unset] rfl rfl ?_
  refine g_aloadN C X0 d2_2 rfl rfl ?_
  refine g_astoreN C X0 d2_3 #[.val (.ref a), .val (.ref b), .val (.int (0 : Int32)), .val (.ref a), .unset, .unset, .unset] rfl rfl ?_
  refine g_aloadN C X0 d2_4 rfl rfl ?_
  refine g_arraylength C X0 d2_5 e0 A rfl ?_
  intro n5 h_n5
  obtain rfl : n5 = (0 : Int32) := own_inj32 (y := (0 : Int32)) h_n5
  refine g_istore C X0 d2_6 #[.val (.ref a), .val (.ref b), .val (.int (0 : Int32)), .val (.ref a), .val (.int (0 : Int32)), .unset, .unset] rfl rfl ?_
  refine g_iconst C X0 (0 : Int32) d2_8 rfl rfl ?_
  refine g_istore C X0 d2_9 #[.val (.ref a), .val (.ref b), .val (.int (0 : Int32)), .val (.ref a), .val (.int (0 : Int32)), .val (.int (0 : Int32)), .unset] rfl rfl ?_
  refine g_iload C X0 d2_11 rfl rfl ?_
  refine g_iload C X0 d2_13 rfl rfl ?_
  refine g_icmp C X0 d2_15 (by decide) rfl rfl ?_ ?_
  · intro h15
    have h15 : (0 : Int) ≥ 0 := h15
    refine g_aloadN C X0 d2_61 rfl rfl ?_
    refine g_arraylength C X0 d2_62 e0 A rfl ?_
    intro n62 h_n62
    obtain rfl : n62 = (0 : Int32) := own_inj32 (y := (0 : Int32)) h_n62
    refine g_if C X0 d2_63 (by decide) rfl rfl ?_ ?_
    · intro h63
      have h63 : (0 : Int) ≤ 0 := h63
      refine g_iconst C X0 (0 : Int32) d2_70 rfl rfl ?_
      exact g_ireturnN C X0 d2_71 rfl (Or.inl rfl) ⟨⟨(0 : Int32), rfl, Or.inr ⟨rfl, fun z => z⟩⟩, N0, e0⟩ (by decide) (by decide)
    · intro h63
      have h63 : (0 : Int) > 0 := h63
      exact absurd h63 (by decide)
  · intro h15
    have h15 : (0 : Int) < 0 := h15
    exact absurd h15 (by decide)
def Q_sy0_2 (Z : State) (a : Addr) (b : Addr) (x0 : Int32) (x1 : Int32) (x2 : Int32) (r0 : Int32) (r1 : Int32) (r2 : Int32) (r3 : Int32) (h0 : Heap) (n0 : Nat) (v : Option Value) (h : Heap) (L : List Loc) : Prop := (∃ r : Int32, v = some (.int r) ∧ (r = 1 ∧ False ∨ r = 0 ∧ ¬ False)) ∧ Fr n0 L ∧ h = h0
set_option maxRecDepth 65536 in
set_option maxHeartbeats 40000000 in
theorem sy0_2 (l : Launch) (Z : State) (a0 : Array Value) (hw : ∀ d ∈ tables_1, d.before a0 Z = true) (ws : List Jvm.Cond) (a : Addr) (b : Addr) (x0 x1 x2 r0 r1 r2 r3 : Int32) (h0 : Heap) (n0 : Nat) (Z0 : n0 ≤ h0.size) (A : Aw Z h0 a .int 0 (fun j => .int (([] : List Int32).getD j 0))) (B : Aw Z h0 b .int 2 (fun j => .int (([r0, r1, r2, r3] : List Int32).getD j 0))) :
    MetFree l (⟨"com/example/ballast/ballast/storage/ClusterCatalog", "isInSyncOf", "([I[I)Z"⟩ : MethodName) (head1 (Jvm.Cond.code (⟨"com/example/ballast/ballast/storage/ClusterCatalog", "isInSyncOf", "([I[I)Z"⟩ : MethodName) prog_270_method_61_code 7 (some .boolean) :: ws) ({ frames := 0, cells := 0, slots := 0, locals := 0 } : Room)) (fun aa U => aa = #[(.ref a), (.ref b)] ∧ Z.Warmed39 U.vm ∧ U.heap = h0) (fun _ _ _ _ _ => True) (fun _ U oo U' => ∃ rv Lr, oo = .returned rv ∧ Q_sy0_2 Z a b x0 x1 x2 r0 r1 r2 r3 h0 n0 rv U'.heap Lr ∧ FrameEnd U oo U' Lr ({ frames := 0, cells := 0, slots := 0, locals := 0 } : Room).cells ({ frames := 0, cells := 0, slots := 0, locals := 0 } : Room).slots) := by
  refine g_enter pn_2 hw (ef_2 a b) ?_
  intro p e s m below meth c T0 C X0 e0
  have C : Cx Z a0 p s m meth c prog_270_method_61_code 7 "com/example/ballast/ballast/storage/ClusterCatalog" "isInSyncOf" (some .boolean) := C
  have N0 := Fr.nil n0
  refine g_iconst C X0 (0 : Int32) d2_0 rfl rfl ?_
  refine g_istoreN C X0 d2_1 #[.val (.ref a), .val (.ref b), .val (.int (0 : Int32)), .unset, .unset, .unset, .unset] rfl rfl ?_
  refine g_aloadN C X0 d2_2 rfl rfl ?_
  refine g_astoreN C X0 d2_3 #[.val (.ref a), .val (.ref b), .val (.int (0 : Int32)), .val (.ref a), .unset, .unset, .unset] rfl rfl ?_
  refine g_aloadN C X0 d2_4 rfl rfl ?_
  refine g_arraylength C X0 d2_5 e0 A rfl ?_
  intro n5 h_n5
  obtain rfl : n5 = (0 : Int32) := own_inj32 (y := (0 : Int32)) h_n5
  refine g_istore C X0 d2_6 #[.val (.ref a), .val (.ref b), .val (.int (0 : Int32)), .val (.ref a), .val (.int (0 : Int32)), .unset, .unset] rfl rfl ?_
  refine g_iconst C X0 (0 : Int32) d2_8 rfl rfl ?_
  refine g_istore C X0 d2_9 #[.val (.ref a), .val (.ref b), .val (.int (0 : Int32)), .val (.ref a), .val (.int (0 : Int32)), .val (.int (0 : Int32)), .unset] rfl rfl ?_
  refine g_iload C X0 d2_11 rfl rfl ?_
  refine g_iload C X0 d2_13 rfl rfl ?_
  refine g_icmp C X0 d2_15 (by decide) rfl rfl ?_ ?_
  · intro h15
    have h15 : (0 : Int) ≥ 0 := h15
    refine g_aloadN C X0 d2_61 rfl rfl ?_
    refine g_arraylength C X0 d2_62 e0 A rfl ?_
    intro n62 h_n62
    obtain rfl : n62 = (0 : Int32) := own_inj32 (y := (0 : Int32)) h_n62
    refine g_if C X0 d2_63 (by decide) rfl rfl ?_ ?_
    · intro h63
      have h63 : (0 : Int) ≤ 0 := h63
      refine g_iconst C X0 (0 : Int32) d2_70 rfl rfl ?_
      exact g_ireturnN C X0 d2_71 rfl (Or.inl rfl) ⟨⟨(0 : Int32), rfl, Or.inr ⟨rfl, fun z => z⟩⟩, N0, e0⟩ (by decide) (by decide)
    · intro h63
      have h63 : (0 : Int) > 0 := h63
      exact absurd h63 (by decide)
  · intro h15
    have h15 : (0 : Int) < 0 := h15
    exact absurd h15 (by decide)
def Q_sy0_3 (Z : State) (a : Addr) (b : Addr) (x0 : Int32) (x1 : Int32) (x2 : Int32) (r0 : Int32) (r1 : Int32) (r2 : Int32) (r3 : Int32) (h0 : Heap) (n0 : Nat) (v : Option Value) (h : Heap) (L : List Loc) : Prop := (∃ r : Int32, v = some (.int r) ∧ (r = 1 ∧ False ∨ r = 0 ∧ ¬ False)) ∧ Fr n0 L ∧ h = h0
set_option maxRecDepth 65536 in
set_option maxHeartbeats 40000000 in
theorem sy0_3 (l : Launch) (Z : State) (a0 : Array Value) (hw : ∀ d ∈ tables_1, d.before a0 Z = true) (ws : List Jvm.Cond) (a : Addr) (b : Addr) (x0 x1 x2 r0 r1 r2 r3 : Int32) (h0 : Heap) (n0 : Nat) (Z0 : n0 ≤ h0.size) (A : Aw Z h0 a .int 0 (fun j => .int (([] : List Int32).getD j 0))) (B : Aw Z h0 b .int 3 (fun j => .int (([r0, r1, r2, r3] : List Int32).getD j 0))) :
    MetFree l (⟨"com/example/ballast/ballast/storage/ClusterCatalog", "isInSyncOf", "([I[I)Z"⟩ : MethodName) (head1 (Jvm.Cond.code (⟨"com/example/ballast/ballast/storage/ClusterCatalog", "isInSyncOf", "([I[I)Z"⟩ : MethodName) prog_270_method_61_code 7 (some .boolean) :: ws) ({ frames := 0, cells := 0, slots := 0, locals := 0 } : Room)) (fun aa U => aa = #[(.ref a), (.ref b)] ∧ Z.Warmed39 U.vm ∧ U.heap = h0) (fun _ _ _ _ _ => True) (fun _ U oo U' => ∃ rv Lr, oo = .returned rv ∧ Q_sy0_3 Z a b x0 x1 x2 r0 r1 r2 r3 h0 n0 rv U'.heap Lr ∧ FrameEnd U oo U' Lr ({ frames := 0, cells := 0, slots := 0, locals := 0 } : Room).cells ({ frames := 0, cells := 0, slots := 0, locals := 0 } : Room).slots) := by
  refine g_enter pn_2 hw (ef_2 a b) ?_
  intro p e s m below meth c T0 C X0 e0
  have C : Cx Z a0 p s m meth c prog_270_method_61_code 7 "com/example/ballast/ballast/storage/ClusterCatalog" "isInSyncOf" (some .boolean) := C
  have N0 := Fr.nil n0
  refine g_iconst C X0 (0 : Int32) d2_0 rfl rfl ?_
  refine g_istoreN C X0 d2_1 #[.val (.ref a), .val (.ref b), .val (.int (0 : Int32)), .unset, .unset, .unset, .unset] rfl rfl ?_
  refine g_aloadN C X0 d2_2 rfl rfl ?_
  refine g_astoreN C X0 d2_3 #[.val (.ref a), .val (.ref b), .val (.int (0 : Int32)), .val (.ref a), .unset, .unset, .unset] rfl rfl ?_
  refine g_aloadN C X0 d2_4 rfl rfl ?_
  refine g_arraylength C X0 d2_5 e0 A rfl ?_
  intro n5 h_n5
  obtain rfl : n5 = (0 : Int32) := own_inj32 (y := (0 : Int32)) h_n5
  refine g_istore C X0 d2_6 #[.val (.ref a), .val (.ref b), .val (.int (0 : Int32)), .val (.ref a), .val (.int (0 : Int32)), .unset, .unset] rfl rfl ?_
  refine g_iconst C X0 (0 : Int32) d2_8 rfl rfl ?_
  refine g_istore C X0 d2_9 #[.val (.ref a), .val (.ref b), .val (.int (0 : Int32)), .val (.ref a), .val (.int (0 : Int32)), .val (.int (0 : Int32)), .unset] rfl rfl ?_
  refine g_iload C X0 d2_11 rfl rfl ?_
  refine g_iload C X0 d2_13 rfl rfl ?_
  refine g_icmp C X0 d2_15 (by decide) rfl rfl ?_ ?_
  · intro h15
    have h15 : (0 : Int) ≥ 0 := h15
    refine g_aloadN C X0 d2_61 rfl rfl ?_
    refine g_arraylength C X0 d2_62 e0 A rfl ?_
    intro n62 h_n62
    obtain rfl : n62 = (0 : Int32) := own_inj32 (y := (0 : Int32)) h_n62
    refine g_if C X0 d2_63 (by decide) rfl rfl ?_ ?_
    · intro h63
      have h63 : (0 : Int) ≤ 0 := h63
      refine g_iconst C X0 (0 : Int32) d2_70 rfl rfl ?_
      exact g_ireturnN C X0 d2_71 rfl (Or.inl rfl) ⟨⟨(0 : Int32), rfl, Or.inr ⟨rfl, fun z => z⟩⟩, N0, e0⟩ (by decide) (by decide)
    · intro h63
      have h63 : (0 : Int) > 0 := h63
      exact absurd h63 (by decide)
  · intro h15
    have h15 : (0 : Int) < 0 := h15
    exact absurd h15 (by decide)
def Q_sy0_4 (Z : State) (a : Addr) (b : Addr) (x0 : Int32) (x1 : Int32) (x2 : Int32) (r0 : Int32) (r1 : Int32) (r2 : Int32) (r3 : Int32) (h0 : Heap) (n0 : Nat) (v : Option Value) (h : Heap) (L : List Loc) : Prop := (∃ r : Int32, v = some (.int r) ∧ (r = 1 ∧ False ∨ r = 0 ∧ ¬ False)) ∧ Fr n0 L ∧ h = h0
set_option maxRecDepth 65536 in
set_option maxHeartbeats 40000000 in
theorem sy0_4 (l : Launch) (Z : State) (a0 : Array Value) (hw : ∀ d ∈ tables_1, d.before a0 Z = true) (ws : List Jvm.Cond) (a : Addr) (b : Addr) (x0 x1 x2 r0 r1 r2 r3 : Int32) (h0 : Heap) (n0 : Nat) (Z0 : n0 ≤ h0.size) (A : Aw Z h0 a .int 0 (fun j => .int (([] : List Int32).getD j 0))) (B : Aw Z h0 b .int 4 (fun j => .int (([r0, r1, r2, r3] : List Int32).getD j 0))) :
    MetFree l (⟨"com/example/ballast/ballast/storage/ClusterCatalog", "isInSyncOf", "([I[I)Z"⟩ : MethodName) (head1 (Jvm.Cond.code (⟨"com/example/ballast/ballast/storage/ClusterCatalog", "isInSyncOf", "([I[I)Z"⟩ : MethodName) prog_270_method_61_code 7 (some .boolean) :: ws) ({ frames := 0, cells := 0, slots := 0, locals := 0 } : Room)) (fun aa U => aa = #[(.ref a), (.ref b)] ∧ Z.Warmed39 U.vm ∧ U.heap = h0) (fun _ _ _ _ _ => True) (fun _ U oo U' => ∃ rv Lr, oo = .returned rv ∧ Q_sy0_4 Z a b x0 x1 x2 r0 r1 r2 r3 h0 n0 rv U'.heap Lr ∧ FrameEnd U oo U' Lr ({ frames := 0, cells := 0, slots := 0, locals := 0 } : Room).cells ({ frames := 0, cells := 0, slots := 0, locals := 0 } : Room).slots) := by
  refine g_enter pn_2 hw (ef_2 a b) ?_
  intro p e s m below meth c T0 C X0 e0
  have C : Cx Z a0 p s m meth c prog_270_method_61_code 7 "com/example/ballast/ballast/storage/ClusterCatalog" "isInSyncOf" (some .boolean) := C
  have N0 := Fr.nil n0
  refine g_iconst C X0 (0 : Int32) d2_0 rfl rfl ?_
  refine g_istoreN C X0 d2_1 #[.val (.ref a), .val (.ref b), .val (.int (0 : Int32)), .unset, .unset, .unset, .unset] rfl rfl ?_
  refine g_aloadN C X0 d2_2 rfl rfl ?_
  refine g_astoreN C X0 d2_3 #[.val (.ref a), .val (.ref b), .val (.int (0 : Int32)), .val (.ref a), .unset, .unset, .unset] rfl rfl ?_
  refine g_aloadN C X0 d2_4 rfl rfl ?_
  refine g_arraylength C X0 d2_5 e0 A rfl ?_
  intro n5 h_n5
  obtain rfl : n5 = (0 : Int32) := own_inj32 (y := (0 : Int32)) h_n5
  refine g_istore C X0 d2_6 #[.val (.ref a), .val (.ref b), .val (.int (0 : Int32)), .val (.ref a), .val (.int (0 : Int32)), .unset, .unset] rfl rfl ?_
  refine g_iconst C X0 (0 : Int32) d2_8 rfl rfl ?_
  refine g_istore C X0 d2_9 #[.val (.ref a), .val (.ref b), .val (.int (0 : Int32)), .val (.ref a), .val (.int (0 : Int32)), .val (.int (0 : Int32)), .unset] rfl rfl ?_
  refine g_iload C X0 d2_11 rfl rfl ?_
  refine g_iload C X0 d2_13 rfl rfl ?_
  refine g_icmp C X0 d2_15 (by decide) rfl rfl ?_ ?_
  · intro h15
    have h15 : (0 : Int) ≥ 0 := h15
    refine g_aloadN C X0 d2_61 rfl rfl ?_
    refine g_arraylength C X0 d2_62 e0 A rfl ?_
    intro n62 h_n62
    obtain rfl : n62 = (0 : Int32) := own_inj32 (y := (0 : Int32)) h_n62
    refine g_if C X0 d2_63 (by decide) rfl rfl ?_ ?_
    · intro h63
      have h63 : (0 : Int) ≤ 0 := h63
      refine g_iconst C X0 (0 : Int32) d2_70 rfl rfl ?_
      exact g_ireturnN C X0 d2_71 rfl (Or.inl rfl) ⟨⟨(0 : Int32), rfl, Or.inr ⟨rfl, fun z => z⟩⟩, N0, e0⟩ (by decide) (by decide)
    · intro h63
      have h63 : (0 : Int) > 0 := h63
      exact absurd h63 (by decide)
  · intro h15
    have h15 : (0 : Int) < 0 := h15
    exact absurd h15 (by decide)
def Q_sy1_0 (Z : State) (a : Addr) (b : Addr) (x0 : Int32) (x1 : Int32) (x2 : Int32) (r0 : Int32) (r1 : Int32) (r2 : Int32) (r3 : Int32) (h0 : Heap) (n0 : Nat) (v : Option Value) (h : Heap) (L : List Loc) : Prop := (∃ r : Int32, v = some (.int r) ∧ (r = 1 ∧ False ∨ r = 0 ∧ ¬ False)) ∧ Fr n0 L ∧ h = h0
set_option maxRecDepth 65536 in
set_option maxHeartbeats 40000000 in
theorem sy1_0 (l : Launch) (Z : State) (a0 : Array Value) (hw : ∀ d ∈ tables_1, d.before a0 Z = true) (ws : List Jvm.Cond) (a : Addr) (b : Addr) (x0 x1 x2 r0 r1 r2 r3 : Int32) (h0 : Heap) (n0 : Nat) (Z0 : n0 ≤ h0.size) (A : Aw Z h0 a .int 1 (fun j => .int (([x0] : List Int32).getD j 0))) (B : Aw Z h0 b .int 0 (fun j => .int (([r0, r1, r2, r3] : List Int32).getD j 0))) :
    MetFree l (⟨"com/example/ballast/ballast/storage/ClusterCatalog", "isInSyncOf", "([I[I)Z"⟩ : MethodName) (head1 (Jvm.Cond.code (⟨"com/example/ballast/ballast/storage/ClusterCatalog", "isInSyncOf", "([I[I)Z"⟩ : MethodName) prog_270_method_61_code 7 (some .boolean) :: ws) ({ frames := 0, cells := 0, slots := 0, locals := 0 } : Room)) (fun aa U => aa = #[(.ref a), (.ref b)] ∧ Z.Warmed39 U.vm ∧ U.heap = h0) (fun _ _ _ _ _ => True) (fun _ U oo U' => ∃ rv Lr, oo = .returned rv ∧ Q_sy1_0 Z a b x0 x1 x2 r0 r1 r2 r3 h0 n0 rv U'.heap Lr ∧ FrameEnd U oo U' Lr ({ frames := 0, cells := 0, slots := 0, locals := 0 } : Room).cells ({ frames := 0, cells := 0, slots := 0, locals := 0 } : Room).slots) := by
  refine g_enter pn_2 hw (ef_2 a b) ?_
  intro p e s m below meth c T0 C X0 e0
  have C : Cx Z a0 p s m meth c prog_270_method_61_code 7 "com/example/ballast/ballast/storage/ClusterCatalog" "isInSyncOf" (some .boolean) := C
  have N0 := Fr.nil n0
  refine g_iconst C X0 (0 : Int32) d2_0 rfl rfl ?_
  refine g_istoreN C X0 d2_1 #[.val (.ref a), .val (.ref b), .val (.int (0 : Int32)), .unset, .unset, .unset, .unset] rfl rfl ?_
  refine g_aloadN C X0 d2_2 rfl rfl ?_
  refine g_astoreN C X0 d2_3 #[.val (.ref a), .val (.ref b), .val (.int (0 : Int32)), .val (.ref a), .unset, .unset, .unset] rfl rfl ?_
  refine g_aloadN C X0 d2_4 rfl rfl ?_
  refine g_arraylength C X0 d2_5 e0 A rfl ?_
  intro n5 h_n5
  obtain rfl : n5 = (1 : Int32) := own_inj32 (y := (1 : Int32)) h_n5
  refine g_istore C X0 d2_6 #[.val (.ref a), .val (.ref b), .val (.int (0 : Int32)), .val (.ref a), .val (.int (1 : Int32)), .unset, .unset] rfl rfl ?_
  refine g_iconst C X0 (0 : Int32) d2_8 rfl rfl ?_
  refine g_istore C X0 d2_9 #[.val (.ref a), .val (.ref b), .val (.int (0 : Int32)), .val (.ref a), .val (.int (1 : Int32)), .val (.int (0 : Int32)), .unset] rfl rfl ?_
  refine g_iload C X0 d2_11 rfl rfl ?_
  refine g_iload C X0 d2_13 rfl rfl ?_
  refine g_icmp C X0 d2_15 (by decide) rfl rfl ?_ ?_
  · intro h15
    have h15 : (0 : Int) ≥ 1 := h15
    exact absurd h15 (by decide)
  · intro h15
    have h15 : (0 : Int) < 1 := h15
    refine g_aloadN C X0 d2_18 rfl rfl ?_
    refine g_iload C X0 d2_19 rfl rfl ?_
    refine g_iaload C X0 d2_21 e0 A (by decide) (by decide) (v := (.int x0)) rfl rfl ?_
    refine g_istore C X0 d2_22 #[.val (.ref a), .val (.ref b), .val (.int (0 : Int32)), .val (.ref a), .val (.int (1 : Int32)), .val (.int (0 : Int32)), .val (.int x0)] rfl rfl ?_
    refine g_iloadN C X0 d2_24 rfl rfl ?_
    refine g_aloadN C X0 d2_25 rfl rfl ?_
    refine g_arraylength C X0 d2_26 e0 B rfl ?_
    intro n26 h_n26
    obtain rfl : n26 = (0 : Int32) := own_inj32 (y := (0 : Int32)) h_n26
    refine g_icmp C X0 d2_27 (by decide) rfl rfl ?_ ?_
    · intro h27
      have h27 : (0 : Int) ≥ 0 := h27
      refine g_iloadN C X0 d2_44 rfl rfl ?_
      refine g_aloadN C X0 d2_45 rfl rfl ?_
      refine g_arraylength C X0 d2_46 e0 B rfl ?_
      intro n46 h_n46
      obtain rfl : n46 = (0 : Int32) := own_inj32 (y := (0 : Int32)) h_n46
      refine g_icmp C X0 d2_47 (by decide) rfl rfl ?_ ?_
      · intro h47
        have h47 : ¬ (0 : Int) = 0 := h47
        exact absurd h47 (by decide)
      · intro h47
        have h47 : (0 : Int) = 0 := h47
        refine g_iconst C X0 (0 : Int32) d2_50 rfl rfl ?_
        exact g_ireturnN C X0 d2_51 rfl (Or.inl rfl) ⟨⟨(0 : Int32), rfl, Or.inr ⟨rfl, fun z => z⟩⟩, N0, e0⟩ (by decide) (by decide)
    · intro h27
      have h27 : (0 : Int) < 0 := h27
      exact absurd h27 (by decide)
def Q_sy1_1 (Z : State) (a : Addr) (b : Addr) (x0 : Int32) (x1 : Int32) (x2 : Int32) (r0 : Int32) (r1 : Int32) (r2 : Int32) (r3 : Int32) (h0 : Heap) (n0 : Nat) (v : Option Value) (h : Heap) (L : List Loc) : Prop := (∃ r : Int32, v = some (.int r) ∧ (r = 1 ∧ ((r0.toInt = x0.toInt)) ∨ r = 0 ∧ ¬ ((r0.toInt = x0.toInt)))) ∧ Fr n0 L ∧ h = h0
set_option maxRecDepth 65536 in
set_option maxHeartbeats 40000000 in
theorem sy1_1 (l : Launch) (Z : State) (a0 : Array Value) (hw : ∀ d ∈ tables_1, d.before a0 Z = true) (ws : List Jvm.Cond) (a : Addr) (b : Addr) (x0 x1 x2 r0 r1 r2 r3 : Int32) (h0 : Heap) (n0 : Nat) (Z0 : n0 ≤ h0.size) (A : Aw Z h0 a .int 1 (fun j => .int (([x0] : List Int32).getD j 0))) (B : Aw Z h0 b .int 1 (fun j => .int (([r0, r1, r2, r3] : List Int32).getD j 0))) :
    MetFree l (⟨"com/example/ballast/ballast/storage/ClusterCatalog", "isInSyncOf", "([I[I)Z"⟩ : MethodName) (head1 (Jvm.Cond.code (⟨"com/example/ballast/ballast/storage/ClusterCatalog", "isInSyncOf", "([I[I)Z"⟩ : MethodName) prog_270_method_61_code 7 (some .boolean) :: ws) ({ frames := 0, cells := 0, slots := 0, locals := 0 } : Room)) (fun aa U => aa = #[(.ref a), (.ref b)] ∧ Z.Warmed39 U.vm ∧ U.heap = h0) (fun _ _ _ _ _ => True) (fun _ U oo U' => ∃ rv Lr, oo = .returned rv ∧ Q_sy1_1 Z a b x0 x1 x2 r0 r1 r2 r3 h0 n0 rv U'.heap Lr ∧ FrameEnd U oo U' Lr ({ frames := 0, cells := 0, slots := 0, locals := 0 } : Room).cells ({ frames := 0, cells := 0, slots := 0, locals := 0 } : Room).slots) := by
  refine g_enter pn_2 hw (ef_2 a b) ?_
  intro p e s m below meth c T0 C X0 e0
  have C : Cx Z a0 p s m meth c prog_270_method_61_code 7 "com/example/ballast/ballast/storage/ClusterCatalog" "isInSyncOf" (some .boolean) := C
  have N0 := Fr.nil n0
  refine g_iconst C X0 (0 : Int32) d2_0 rfl rfl ?_
  refine g_istoreN C X0 d2_1 #[.val (.ref a), .val (.ref b), .val (.int (0 : Int32)), .unset, .unset, .unset, .unset] rfl rfl ?_
  refine g_aloadN C X0 d2_2 rfl rfl ?_
  refine g_astoreN C X0 d2_3 #[.val (.ref a), .val (.ref b), .val (.int (0 : Int32)), .val (.ref a), .unset, .unset, .unset] rfl rfl ?_
  refine g_aloadN C X0 d2_4 rfl rfl ?_
  refine g_arraylength C X0 d2_5 e0 A rfl ?_
  intro n5 h_n5
  obtain rfl : n5 = (1 : Int32) := own_inj32 (y := (1 : Int32)) h_n5
  refine g_istore C X0 d2_6 #[.val (.ref a), .val (.ref b), .val (.int (0 : Int32)), .val (.ref a), .val (.int (1 : Int32)), .unset, .unset] rfl rfl ?_
  refine g_iconst C X0 (0 : Int32) d2_8 rfl rfl ?_
  refine g_istore C X0 d2_9 #[.val (.ref a), .val (.ref b), .val (.int (0 : Int32)), .val (.ref a), .val (.int (1 : Int32)), .val (.int (0 : Int32)), .unset] rfl rfl ?_
  refine g_iload C X0 d2_11 rfl rfl ?_
  refine g_iload C X0 d2_13 rfl rfl ?_
  refine g_icmp C X0 d2_15 (by decide) rfl rfl ?_ ?_
  · intro h15
    have h15 : (0 : Int) ≥ 1 := h15
    exact absurd h15 (by decide)
  · intro h15
    have h15 : (0 : Int) < 1 := h15
    refine g_aloadN C X0 d2_18 rfl rfl ?_
    refine g_iload C X0 d2_19 rfl rfl ?_
    refine g_iaload C X0 d2_21 e0 A (by decide) (by decide) (v := (.int x0)) rfl rfl ?_
    refine g_istore C X0 d2_22 #[.val (.ref a), .val (.ref b), .val (.int (0 : Int32)), .val (.ref a), .val (.int (1 : Int32)), .val (.int (0 : Int32)), .val (.int x0)] rfl rfl ?_
    refine g_iloadN C X0 d2_24 rfl rfl ?_
    refine g_aloadN C X0 d2_25 rfl rfl ?_
    refine g_arraylength C X0 d2_26 e0 B rfl ?_
    intro n26 h_n26
    obtain rfl : n26 = (1 : Int32) := own_inj32 (y := (1 : Int32)) h_n26
    refine g_icmp C X0 d2_27 (by decide) rfl rfl ?_ ?_
    · intro h27
      have h27 : (0 : Int) ≥ 1 := h27
      exact absurd h27 (by decide)
    · intro h27
      have h27 : (0 : Int) < 1 := h27
      refine g_aloadN C X0 d2_30 rfl rfl ?_
      refine g_iloadN C X0 d2_31 rfl rfl ?_
      refine g_iaload C X0 d2_32 e0 B (by decide) (by decide) (v := (.int r0)) rfl rfl ?_
      refine g_iload C X0 d2_33 rfl rfl ?_
      refine g_icmp C X0 d2_35 (by decide) rfl rfl ?_ ?_
      · intro h35
        have h35 : r0.toInt = x0.toInt := h35
        refine g_iloadN C X0 d2_44 rfl rfl ?_
        refine g_aloadN C X0 d2_45 rfl rfl ?_
        refine g_arraylength C X0 d2_46 e0 B rfl ?_
        intro n46 h_n46
        obtain rfl : n46 = (1 : Int32) := own_inj32 (y := (1 : Int32)) h_n46
        refine g_icmp C X0 d2_47 (by decide) rfl rfl ?_ ?_
        · intro h47
          have h47 : ¬ (0 : Int) = 1 := h47
          refine g_iinc C X0 d2_52 rfl #[.val (.ref a), .val (.ref b), .val (.int (1 : Int32)), .val (.ref a), .val (.int (1 : Int32)), .val (.int (0 : Int32)), .val (.int x0)] rfl rfl ?_
          refine g_iinc C X0 d2_55 rfl #[.val (.ref a), .val (.ref b), .val (.int (1 : Int32)), .val (.ref a), .val (.int (1 : Int32)), .val (.int (1 : Int32)), .val (.int x0)] rfl rfl ?_
          refine g_goto C X0 d2_58 (by decide) rfl ?_
          refine g_iload C X0 d2_11 rfl rfl ?_
          refine g_iload C X0 d2_13 rfl rfl ?_
          refine g_icmp C X0 d2_15 (by decide) rfl rfl ?_ ?_
          · intro h15
            have h15 : (1 : Int) ≥ 1 := h15
            refine g_aloadN C X0 d2_61 rfl rfl ?_
            refine g_arraylength C X0 d2_62 e0 A rfl ?_
            intro n62 h_n62
            obtain rfl : n62 = (1 : Int32) := own_inj32 (y := (1 : Int32)) h_n62
            refine g_if C X0 d2_63 (by decide) rfl rfl ?_ ?_
            · intro h63
              have h63 : (1 : Int) ≤ 0 := h63
              exact absurd h63 (by decide)
            · intro h63
              have h63 : (1 : Int) > 0 := h63
              refine g_iconst C X0 (1 : Int32) d2_66 rfl rfl ?_
              refine g_goto C X0 d2_67 (by decide) rfl ?_
              exact g_ireturnN C X0 d2_71 rfl (Or.inl rfl) ⟨⟨(1 : Int32), rfl, Or.inl ⟨rfl, by omega⟩⟩, N0, e0⟩ (by decide) (by decide)
          · intro h15
            have h15 : (1 : Int) < 1 := h15
            exact absurd h15 (by decide)
        · intro h47
          have h47 : (0 : Int) = 1 := h47
          exact absurd h47 (by decide)
      · intro h35
        have h35 : ¬ r0.toInt = x0.toInt := h35
        refine g_iinc C X0 d2_38 rfl #[.val (.ref a), .val (.ref b), .val (.int (1 : Int32)), .val (.ref a), .val (.int (1 : Int32)), .val (.int (0 : Int32)), .val (.int x0)] rfl rfl ?_
        refine g_goto C X0 d2_41 (by decide) rfl ?_
        refine g_iloadN C X0 d2_24 rfl rfl ?_
        refine g_aloadN C X0 d2_25 rfl rfl ?_
        refine g_arraylength C X0 d2_26 e0 B rfl ?_
        intro n26 h_n26
        obtain rfl : n26 = (1 : Int32) := own_inj32 (y := (1 : Int32)) h_n26
        refine g_icmp C X0 d2_27 (by decide) rfl rfl ?_ ?_
        · intro h27
          have h27 : (1 : Int) ≥ 1 := h27
          refine g_iloadN C X0 d2_44 rfl rfl ?_
          refine g_aloadN C X0 d2_45 rfl rfl ?_
          refine g_arraylength C X0 d2_46 e0 B rfl ?_
          intro n46 h_n46
          obtain rfl : n46 = (1 : Int32) := own_inj32 (y := (1 : Int32)) h_n46
          refine g_icmp C X0 d2_47 (by decide) rfl rfl ?_ ?_
          · intro h47
            have h47 : ¬ (1 : Int) = 1 := h47
            exact absurd h47 (by decide)
          · intro h47
            have h47 : (1 : Int) = 1 := h47
            refine g_iconst C X0 (0 : Int32) d2_50 rfl rfl ?_
            exact g_ireturnN C X0 d2_51 rfl (Or.inl rfl) ⟨⟨(0 : Int32), rfl, Or.inr ⟨rfl, by omega⟩⟩, N0, e0⟩ (by decide) (by decide)
        · intro h27
          have h27 : (1 : Int) < 1 := h27
          exact absurd h27 (by decide)
def Q_sy1_2 (Z : State) (a : Addr) (b : Addr) (x0 : Int32) (x1 : Int32) (x2 : Int32) (r0 : Int32) (r1 : Int32) (r2 : Int32) (r3 : Int32) (h0 : Heap) (n0 : Nat) (v : Option Value) (h : Heap) (L : List Loc) : Prop := (∃ r : Int32, v = some (.int r) ∧ (r = 1 ∧ ((r0.toInt = x0.toInt) ∨ (r1.toInt = x0.toInt)) ∨ r = 0 ∧ ¬ ((r0.toInt = x0.toInt) ∨ (r1.toInt = x0.toInt)))) ∧ Fr n0 L ∧ h = h0
set_option maxRecDepth 65536 in
set_option maxHeartbeats 40000000 in
theorem sy1_2 (l : Launch) (Z : State) (a0 : Array Value) (hw : ∀ d ∈ tables_1, d.before a0 Z = true) (ws : List Jvm.Cond) (a : Addr) (b : Addr) (x0 x1 x2 r0 r1 r2 r3 : Int32) (h0 : Heap) (n0 : Nat) (Z0 : n0 ≤ h0.size) (A : Aw Z h0 a .int 1 (fun j => .int (([x0] : List Int32).getD j 0))) (B : Aw Z h0 b .int 2 (fun j => .int (([r0, r1, r2, r3] : List Int32).getD j 0))) :
    MetFree l (⟨"com/example/ballast/ballast/storage/ClusterCatalog", "isInSyncOf", "([I[I)Z"⟩ : MethodName) (head1 (Jvm.Cond.code (⟨"com/example/ballast/ballast/storage/ClusterCatalog", "isInSyncOf", "([I[I)Z"⟩ : MethodName) prog_270_method_61_code 7 (some .boolean) :: ws) ({ frames := 0, cells := 0, slots := 0, locals := 0 } : Room)) (fun aa U => aa = #[(.ref a), (.ref b)] ∧ Z.Warmed39 U.vm ∧ U.heap = h0) (fun _ _ _ _ _ => True) (fun _ U oo U' => ∃ rv Lr, oo = .returned rv ∧ Q_sy1_2 Z a b x0 x1 x2 r0 r1 r2 r3 h0 n0 rv U'.heap Lr ∧ FrameEnd U oo U' Lr ({ frames := 0, cells := 0, slots := 0, locals := 0 } : Room).cells ({ frames := 0, cells := 0, slots := 0, locals := 0 } : Room).slots) := by
  refine g_enter pn_2 hw (ef_2 a b) ?_
  intro p e s m below meth c T0 C X0 e0
  have C : Cx Z a0 p s m meth c prog_270_method_61_code 7 "com/example/ballast/ballast/storage/ClusterCatalog" "isInSyncOf" (some .boolean) := C
  have N0 := Fr.nil n0
  refine g_iconst C X0 (0 : Int32) d2_0 rfl rfl ?_
  refine g_istoreN C X0 d2_1 #[.val (.ref a), .val (.ref b), .val (.int (0 : Int32)), .unset, .unset, .unset, .unset] rfl rfl ?_
  refine g_aloadN C X0 d2_2 rfl rfl ?_
  refine g_astoreN C X0 d2_3 #[.val (.ref a), .val (.ref b), .val (.int (0 : Int32)), .val (.ref a), .unset, .unset, .unset] rfl rfl ?_
  refine g_aloadN C X0 d2_4 rfl rfl ?_
  refine g_arraylength C X0 d2_5 e0 A rfl ?_
  intro n5 h_n5
  obtain rfl : n5 = (1 : Int32) := own_inj32 (y := (1 : Int32)) h_n5
  refine g_istore C X0 d2_6 #[.val (.ref a), .val (.ref b), .val (.int (0 : Int32)), .val (.ref a), .val (.int (1 : Int32)), .unset, .unset] rfl rfl ?_
  refine g_iconst C X0 (0 : Int32) d2_8 rfl rfl ?_
  refine g_istore C X0 d2_9 #[.val (.ref a), .val (.ref b), .val (.int (0 : Int32)), .val (.ref a), .val (.int (1 : Int32)), .val (.int (0 : Int32)), .unset] rfl rfl ?_
  refine g_iload C X0 d2_11 rfl rfl ?_
  refine g_iload C X0 d2_13 rfl rfl ?_
  refine g_icmp C X0 d2_15 (by decide) rfl rfl ?_ ?_
  · intro h15
    have h15 : (0 : Int) ≥ 1 := h15
    exact absurd h15 (by decide)
  · intro h15
    have h15 : (0 : Int) < 1 := h15
    refine g_aloadN C X0 d2_18 rfl rfl ?_
    refine g_iload C X0 d2_19 rfl rfl ?_
    refine g_iaload C X0 d2_21 e0 A (by decide) (by decide) (v := (.int x0)) rfl rfl ?_
    refine g_istore C X0 d2_22 #[.val (.ref a), .val (.ref b), .val (.int (0 : Int32)), .val (.ref a), .val (.int (1 : Int32)), .val (.int (0 : Int32)), .val (.int x0)] rfl rfl ?_
    refine g_iloadN C X0 d2_24 rfl rfl ?_
    refine g_aloadN C X0 d2_25 rfl rfl ?_
    refine g_arraylength C X0 d2_26 e0 B rfl ?_
    intro n26 h_n26
    obtain rfl : n26 = (2 : Int32) := own_inj32 (y := (2 : Int32)) h_n26
    refine g_icmp C X0 d2_27 (by decide) rfl rfl ?_ ?_
    · intro h27
      have h27 : (0 : Int) ≥ 2 := h27
      exact absurd h27 (by decide)
    · intro h27
      have h27 : (0 : Int) < 2 := h27
      refine g_aloadN C X0 d2_30 rfl rfl ?_
      refine g_iloadN C X0 d2_31 rfl rfl ?_
      refine g_iaload C X0 d2_32 e0 B (by decide) (by decide) (v := (.int r0)) rfl rfl ?_
      refine g_iload C X0 d2_33 rfl rfl ?_
      refine g_icmp C X0 d2_35 (by decide) rfl rfl ?_ ?_
      · intro h35
        have h35 : r0.toInt = x0.toInt := h35
        refine g_iloadN C X0 d2_44 rfl rfl ?_
        refine g_aloadN C X0 d2_45 rfl rfl ?_
        refine g_arraylength C X0 d2_46 e0 B rfl ?_
        intro n46 h_n46
        obtain rfl : n46 = (2 : Int32) := own_inj32 (y := (2 : Int32)) h_n46
        refine g_icmp C X0 d2_47 (by decide) rfl rfl ?_ ?_
        · intro h47
          have h47 : ¬ (0 : Int) = 2 := h47
          refine g_iinc C X0 d2_52 rfl #[.val (.ref a), .val (.ref b), .val (.int (1 : Int32)), .val (.ref a), .val (.int (1 : Int32)), .val (.int (0 : Int32)), .val (.int x0)] rfl rfl ?_
          refine g_iinc C X0 d2_55 rfl #[.val (.ref a), .val (.ref b), .val (.int (1 : Int32)), .val (.ref a), .val (.int (1 : Int32)), .val (.int (1 : Int32)), .val (.int x0)] rfl rfl ?_
          refine g_goto C X0 d2_58 (by decide) rfl ?_
          refine g_iload C X0 d2_11 rfl rfl ?_
          refine g_iload C X0 d2_13 rfl rfl ?_
          refine g_icmp C X0 d2_15 (by decide) rfl rfl ?_ ?_
          · intro h15
            have h15 : (1 : Int) ≥ 1 := h15
            refine g_aloadN C X0 d2_61 rfl rfl ?_
            refine g_arraylength C X0 d2_62 e0 A rfl ?_
            intro n62 h_n62
            obtain rfl : n62 = (1 : Int32) := own_inj32 (y := (1 : Int32)) h_n62
            refine g_if C X0 d2_63 (by decide) rfl rfl ?_ ?_
            · intro h63
              have h63 : (1 : Int) ≤ 0 := h63
              exact absurd h63 (by decide)
            · intro h63
              have h63 : (1 : Int) > 0 := h63
              refine g_iconst C X0 (1 : Int32) d2_66 rfl rfl ?_
              refine g_goto C X0 d2_67 (by decide) rfl ?_
              exact g_ireturnN C X0 d2_71 rfl (Or.inl rfl) ⟨⟨(1 : Int32), rfl, Or.inl ⟨rfl, by omega⟩⟩, N0, e0⟩ (by decide) (by decide)
          · intro h15
            have h15 : (1 : Int) < 1 := h15
            exact absurd h15 (by decide)
        · intro h47
          have h47 : (0 : Int) = 2 := h47
          exact absurd h47 (by decide)
      · intro h35
        have h35 : ¬ r0.toInt = x0.toInt := h35
        refine g_iinc C X0 d2_38 rfl #[.val (.ref a), .val (.ref b), .val (.int (1 : Int32)), .val (.ref a), .val (.int (1 : Int32)), .val (.int (0 : Int32)), .val (.int x0)] rfl rfl ?_
        refine g_goto C X0 d2_41 (by decide) rfl ?_
        refine g_iloadN C X0 d2_24 rfl rfl ?_
        refine g_aloadN C X0 d2_25 rfl rfl ?_
        refine g_arraylength C X0 d2_26 e0 B rfl ?_
        intro n26 h_n26
        obtain rfl : n26 = (2 : Int32) := own_inj32 (y := (2 : Int32)) h_n26
        refine g_icmp C X0 d2_27 (by decide) rfl rfl ?_ ?_
        · intro h27
          have h27 : (1 : Int) ≥ 2 := h27
          exact absurd h27 (by decide)
        · intro h27
          have h27 : (1 : Int) < 2 := h27
          refine g_aloadN C X0 d2_30 rfl rfl ?_
          refine g_iloadN C X0 d2_31 rfl rfl ?_
          refine g_iaload C X0 d2_32 e0 B (by decide) (by decide) (v := (.int r1)) rfl rfl ?_
          refine g_iload C X0 d2_33 rfl rfl ?_
          refine g_icmp C X0 d2_35 (by decide) rfl rfl ?_ ?_
          · intro h35
            have h35 : r1.toInt = x0.toInt := h35
            refine g_iloadN C X0 d2_44 rfl rfl ?_
            refine g_aloadN C X0 d2_45 rfl rfl ?_
            refine g_arraylength C X0 d2_46 e0 B rfl ?_
            intro n46 h_n46
            obtain rfl : n46 = (2 : Int32) := own_inj32 (y := (2 : Int32)) h_n46
            refine g_icmp C X0 d2_47 (by decide) rfl rfl ?_ ?_
            · intro h47
              have h47 : ¬ (1 : Int) = 2 := h47
              refine g_iinc C X0 d2_52 rfl #[.val (.ref a), .val (.ref b), .val (.int (2 : Int32)), .val (.ref a), .val (.int (1 : Int32)), .val (.int (0 : Int32)), .val (.int x0)] rfl rfl ?_
              refine g_iinc C X0 d2_55 rfl #[.val (.ref a), .val (.ref b), .val (.int (2 : Int32)), .val (.ref a), .val (.int (1 : Int32)), .val (.int (1 : Int32)), .val (.int x0)] rfl rfl ?_
              refine g_goto C X0 d2_58 (by decide) rfl ?_
              refine g_iload C X0 d2_11 rfl rfl ?_
              refine g_iload C X0 d2_13 rfl rfl ?_
              refine g_icmp C X0 d2_15 (by decide) rfl rfl ?_ ?_
              · intro h15
                have h15 : (1 : Int) ≥ 1 := h15
                refine g_aloadN C X0 d2_61 rfl rfl ?_
                refine g_arraylength C X0 d2_62 e0 A rfl ?_
                intro n62 h_n62
                obtain rfl : n62 = (1 : Int32) := own_inj32 (y := (1 : Int32)) h_n62
                refine g_if C X0 d2_63 (by decide) rfl rfl ?_ ?_
                · intro h63
                  have h63 : (1 : Int) ≤ 0 := h63
                  exact absurd h63 (by decide)
                · intro h63
                  have h63 : (1 : Int) > 0 := h63
                  refine g_iconst C X0 (1 : Int32) d2_66 rfl rfl ?_
                  refine g_goto C X0 d2_67 (by decide) rfl ?_
                  exact g_ireturnN C X0 d2_71 rfl (Or.inl rfl) ⟨⟨(1 : Int32), rfl, Or.inl ⟨rfl, by omega⟩⟩, N0, e0⟩ (by decide) (by decide)
              · intro h15
                have h15 : (1 : Int) < 1 := h15
                exact absurd h15 (by decide)
            · intro h47
              have h47 : (1 : Int) = 2 := h47
              exact absurd h47 (by decide)
          · intro h35
            have h35 : ¬ r1.toInt = x0.toInt := h35
            refine g_iinc C X0 d2_38 rfl #[.val (.ref a), .val (.ref b), .val (.int (2 : Int32)), .val (.ref a), .val (.int (1 : Int32)), .val (.int (0 : Int32)), .val (.int x0)] rfl rfl ?_
            refine g_goto C X0 d2_41 (by decide) rfl ?_
            refine g_iloadN C X0 d2_24 rfl rfl ?_
            refine g_aloadN C X0 d2_25 rfl rfl ?_
            refine g_arraylength C X0 d2_26 e0 B rfl ?_
            intro n26 h_n26
            obtain rfl : n26 = (2 : Int32) := own_inj32 (y := (2 : Int32)) h_n26
            refine g_icmp C X0 d2_27 (by decide) rfl rfl ?_ ?_
            · intro h27
              have h27 : (2 : Int) ≥ 2 := h27
              refine g_iloadN C X0 d2_44 rfl rfl ?_
              refine g_aloadN C X0 d2_45 rfl rfl ?_
              refine g_arraylength C X0 d2_46 e0 B rfl ?_
              intro n46 h_n46
              obtain rfl : n46 = (2 : Int32) := own_inj32 (y := (2 : Int32)) h_n46
              refine g_icmp C X0 d2_47 (by decide) rfl rfl ?_ ?_
              · intro h47
                have h47 : ¬ (2 : Int) = 2 := h47
                exact absurd h47 (by decide)
              · intro h47
                have h47 : (2 : Int) = 2 := h47
                refine g_iconst C X0 (0 : Int32) d2_50 rfl rfl ?_
                exact g_ireturnN C X0 d2_51 rfl (Or.inl rfl) ⟨⟨(0 : Int32), rfl, Or.inr ⟨rfl, by omega⟩⟩, N0, e0⟩ (by decide) (by decide)
            · intro h27
              have h27 : (2 : Int) < 2 := h27
              exact absurd h27 (by decide)
def Q_sy1_3 (Z : State) (a : Addr) (b : Addr) (x0 : Int32) (x1 : Int32) (x2 : Int32) (r0 : Int32) (r1 : Int32) (r2 : Int32) (r3 : Int32) (h0 : Heap) (n0 : Nat) (v : Option Value) (h : Heap) (L : List Loc) : Prop := (∃ r : Int32, v = some (.int r) ∧ (r = 1 ∧ ((r0.toInt = x0.toInt) ∨ (r1.toInt = x0.toInt) ∨ (r2.toInt = x0.toInt)) ∨ r = 0 ∧ ¬ ((r0.toInt = x0.toInt) ∨ (r1.toInt = x0.toInt) ∨ (r2.toInt = x0.toInt)))) ∧ Fr n0 L ∧ h = h0
set_option maxRecDepth 65536 in
set_option maxHeartbeats 40000000 in
theorem sy1_3 (l : Launch) (Z : State) (a0 : Array Value) (hw : ∀ d ∈ tables_1, d.before a0 Z = true) (ws : List Jvm.Cond) (a : Addr) (b : Addr) (x0 x1 x2 r0 r1 r2 r3 : Int32) (h0 : Heap) (n0 : Nat) (Z0 : n0 ≤ h0.size) (A : Aw Z h0 a .int 1 (fun j => .int (([x0] : List Int32).getD j 0))) (B : Aw Z h0 b .int 3 (fun j => .int (([r0, r1, r2, r3] : List Int32).getD j 0))) :
    MetFree l (⟨"com/example/ballast/ballast/storage/ClusterCatalog", "isInSyncOf", "([I[I)Z"⟩ : MethodName) (head1 (Jvm.Cond.code (⟨"com/example/ballast/ballast/storage/ClusterCatalog", "isInSyncOf", "([I[I)Z"⟩ : MethodName) prog_270_method_61_code 7 (some .boolean) :: ws) ({ frames := 0, cells := 0, slots := 0, locals := 0 } : Room)) (fun aa U => aa = #[(.ref a), (.ref b)] ∧ Z.Warmed39 U.vm ∧ U.heap = h0) (fun _ _ _ _ _ => True) (fun _ U oo U' => ∃ rv Lr, oo = .returned rv ∧ Q_sy1_3 Z a b x0 x1 x2 r0 r1 r2 r3 h0 n0 rv U'.heap Lr ∧ FrameEnd U oo U' Lr ({ frames := 0, cells := 0, slots := 0, locals := 0 } : Room).cells ({ frames := 0, cells := 0, slots := 0, locals := 0 } : Room).slots) := by
  refine g_enter pn_2 hw (ef_2 a b) ?_
  intro p e s m below meth c T0 C X0 e0
  have C : Cx Z a0 p s m meth c prog_270_method_61_code 7 "com/example/ballast/ballast/storage/ClusterCatalog" "isInSyncOf" (some .boolean) := C
  have N0 := Fr.nil n0
  refine g_iconst C X0 (0 : Int32) d2_0 rfl rfl ?_
  refine g_istoreN C X0 d2_1 #[.val (.ref a), .val (.ref b), .val (.int (0 : Int32)), .unset, .unset, .unset, .unset] rfl rfl ?_
  refine g_aloadN C X0 d2_2 rfl rfl ?_
  refine g_astoreN C X0 d2_3 #[.val (.ref a), .val (.ref b), .val (.int (0 : Int32)), .val (.ref a), .unset, .unset, .unset] rfl rfl ?_
  refine g_aloadN C X0 d2_4 rfl rfl ?_
  refine g_arraylength C X0 d2_5 e0 A rfl ?_
  intro n5 h_n5
  obtain rfl : n5 = (1 : Int32) := own_inj32 (y := (1 : Int32)) h_n5
  refine g_istore C X0 d2_6 #[.val (.ref a), .val (.ref b), .val (.int (0 : Int32)), .val (.ref a), .val (.int (1 : Int32)), .unset, .unset] rfl rfl ?_
  refine g_iconst C X0 (0 : Int32) d2_8 rfl rfl ?_
  refine g_istore C X0 d2_9 #[.val (.ref a), .val (.ref b), .val (.int (0 : Int32)), .val (.ref a), .val (.int (1 : Int32)), .val (.int (0 : Int32)), .unset] rfl rfl ?_
  refine g_iload C X0 d2_11 rfl rfl ?_
  refine g_iload C X0 d2_13 rfl rfl ?_
  refine g_icmp C X0 d2_15 (by decide) rfl rfl ?_ ?_
  · intro h15
    have h15 : (0 : Int) ≥ 1 := h15
    exact absurd h15 (by decide)
  · intro h15
    have h15 : (0 : Int) < 1 := h15
    refine g_aloadN C X0 d2_18 rfl rfl ?_
    refine g_iload C X0 d2_19 rfl rfl ?_
    refine g_iaload C X0 d2_21 e0 A (by decide) (by decide) (v := (.int x0)) rfl rfl ?_
    refine g_istore C X0 d2_22 #[.val (.ref a), .val (.ref b), .val (.int (0 : Int32)), .val (.ref a), .val (.int (1 : Int32)), .val (.int (0 : Int32)), .val (.int x0)] rfl rfl ?_
    refine g_iloadN C X0 d2_24 rfl rfl ?_
    refine g_aloadN C X0 d2_25 rfl rfl ?_
    refine g_arraylength C X0 d2_26 e0 B rfl ?_
    intro n26 h_n26
    obtain rfl : n26 = (3 : Int32) := own_inj32 (y := (3 : Int32)) h_n26
    refine g_icmp C X0 d2_27 (by decide) rfl rfl ?_ ?_
    · intro h27
      have h27 : (0 : Int) ≥ 3 := h27
      exact absurd h27 (by decide)
    · intro h27
      have h27 : (0 : Int) < 3 := h27
      refine g_aloadN C X0 d2_30 rfl rfl ?_
      refine g_iloadN C X0 d2_31 rfl rfl ?_
      refine g_iaload C X0 d2_32 e0 B (by decide) (by decide) (v := (.int r0)) rfl rfl ?_
      refine g_iload C X0 d2_33 rfl rfl ?_
      refine g_icmp C X0 d2_35 (by decide) rfl rfl ?_ ?_
      · intro h35
        have h35 : r0.toInt = x0.toInt := h35
        refine g_iloadN C X0 d2_44 rfl rfl ?_
        refine g_aloadN C X0 d2_45 rfl rfl ?_
        refine g_arraylength C X0 d2_46 e0 B rfl ?_
        intro n46 h_n46
        obtain rfl : n46 = (3 : Int32) := own_inj32 (y := (3 : Int32)) h_n46
        refine g_icmp C X0 d2_47 (by decide) rfl rfl ?_ ?_
        · intro h47
          have h47 : ¬ (0 : Int) = 3 := h47
          refine g_iinc C X0 d2_52 rfl #[.val (.ref a), .val (.ref b), .val (.int (1 : Int32)), .val (.ref a), .val (.int (1 : Int32)), .val (.int (0 : Int32)), .val (.int x0)] rfl rfl ?_
          refine g_iinc C X0 d2_55 rfl #[.val (.ref a), .val (.ref b), .val (.int (1 : Int32)), .val (.ref a), .val (.int (1 : Int32)), .val (.int (1 : Int32)), .val (.int x0)] rfl rfl ?_
          refine g_goto C X0 d2_58 (by decide) rfl ?_
          refine g_iload C X0 d2_11 rfl rfl ?_
          refine g_iload C X0 d2_13 rfl rfl ?_
          refine g_icmp C X0 d2_15 (by decide) rfl rfl ?_ ?_
          · intro h15
            have h15 : (1 : Int) ≥ 1 := h15
            refine g_aloadN C X0 d2_61 rfl rfl ?_
            refine g_arraylength C X0 d2_62 e0 A rfl ?_
            intro n62 h_n62
            obtain rfl : n62 = (1 : Int32) := own_inj32 (y := (1 : Int32)) h_n62
            refine g_if C X0 d2_63 (by decide) rfl rfl ?_ ?_
            · intro h63
              have h63 : (1 : Int) ≤ 0 := h63
              exact absurd h63 (by decide)
            · intro h63
              have h63 : (1 : Int) > 0 := h63
              refine g_iconst C X0 (1 : Int32) d2_66 rfl rfl ?_
              refine g_goto C X0 d2_67 (by decide) rfl ?_
              exact g_ireturnN C X0 d2_71 rfl (Or.inl rfl) ⟨⟨(1 : Int32), rfl, Or.inl ⟨rfl, by omega⟩⟩, N0, e0⟩ (by decide) (by decide)
          · intro h15
            have h15 : (1 : Int) < 1 := h15
            exact absurd h15 (by decide)
        · intro h47
          have h47 : (0 : Int) = 3 := h47
          exact absurd h47 (by decide)
      · intro h35
        have h35 : ¬ r0.toInt = x0.toInt := h35
        refine g_iinc C X0 d2_38 rfl #[.val (.ref a), .val (.ref b), .val (.int (1 : Int32)), .val (.ref a), .val (.int (1 : Int32)), .val (.int (0 : Int32)), .val (.int x0)] rfl rfl ?_
        refine g_goto C X0 d2_41 (by decide) rfl ?_
        refine g_iloadN C X0 d2_24 rfl rfl ?_
        refine g_aloadN C X0 d2_25 rfl rfl ?_
        refine g_arraylength C X0 d2_26 e0 B rfl ?_
        intro n26 h_n26
        obtain rfl : n26 = (3 : Int32) := own_inj32 (y := (3 : Int32)) h_n26
        refine g_icmp C X0 d2_27 (by decide) rfl rfl ?_ ?_
        · intro h27
          have h27 : (1 : Int) ≥ 3 := h27
          exact absurd h27 (by decide)
        · intro h27
          have h27 : (1 : Int) < 3 := h27
          refine g_aloadN C X0 d2_30 rfl rfl ?_
          refine g_iloadN C X0 d2_31 rfl rfl ?_
          refine g_iaload C X0 d2_32 e0 B (by decide) (by decide) (v := (.int r1)) rfl rfl ?_
          refine g_iload C X0 d2_33 rfl rfl ?_
          refine g_icmp C X0 d2_35 (by decide) rfl rfl ?_ ?_
          · intro h35
            have h35 : r1.toInt = x0.toInt := h35
            refine g_iloadN C X0 d2_44 rfl rfl ?_
            refine g_aloadN C X0 d2_45 rfl rfl ?_
            refine g_arraylength C X0 d2_46 e0 B rfl ?_
            intro n46 h_n46
            obtain rfl : n46 = (3 : Int32) := own_inj32 (y := (3 : Int32)) h_n46
            refine g_icmp C X0 d2_47 (by decide) rfl rfl ?_ ?_
            · intro h47
              have h47 : ¬ (1 : Int) = 3 := h47
              refine g_iinc C X0 d2_52 rfl #[.val (.ref a), .val (.ref b), .val (.int (2 : Int32)), .val (.ref a), .val (.int (1 : Int32)), .val (.int (0 : Int32)), .val (.int x0)] rfl rfl ?_
              refine g_iinc C X0 d2_55 rfl #[.val (.ref a), .val (.ref b), .val (.int (2 : Int32)), .val (.ref a), .val (.int (1 : Int32)), .val (.int (1 : Int32)), .val (.int x0)] rfl rfl ?_
              refine g_goto C X0 d2_58 (by decide) rfl ?_
              refine g_iload C X0 d2_11 rfl rfl ?_
              refine g_iload C X0 d2_13 rfl rfl ?_
              refine g_icmp C X0 d2_15 (by decide) rfl rfl ?_ ?_
              · intro h15
                have h15 : (1 : Int) ≥ 1 := h15
                refine g_aloadN C X0 d2_61 rfl rfl ?_
                refine g_arraylength C X0 d2_62 e0 A rfl ?_
                intro n62 h_n62
                obtain rfl : n62 = (1 : Int32) := own_inj32 (y := (1 : Int32)) h_n62
                refine g_if C X0 d2_63 (by decide) rfl rfl ?_ ?_
                · intro h63
                  have h63 : (1 : Int) ≤ 0 := h63
                  exact absurd h63 (by decide)
                · intro h63
                  have h63 : (1 : Int) > 0 := h63
                  refine g_iconst C X0 (1 : Int32) d2_66 rfl rfl ?_
                  refine g_goto C X0 d2_67 (by decide) rfl ?_
                  exact g_ireturnN C X0 d2_71 rfl (Or.inl rfl) ⟨⟨(1 : Int32), rfl, Or.inl ⟨rfl, by omega⟩⟩, N0, e0⟩ (by decide) (by decide)
              · intro h15
                have h15 : (1 : Int) < 1 := h15
                exact absurd h15 (by decide)
            · intro h47
              have h47 : (1 : Int) = 3 := h47
              exact absurd h47 (by decide)
          · intro h35
            have h35 : ¬ r1.toInt = x0.toInt := h35
            refine g_iinc C X0 d2_38 rfl #[.val (.ref a), .val (.ref b), .val (.int (2 : Int32)), .val (.ref a), .val (.int (1 : Int32)), .val (.int (0 : Int32)), .val (.int x0)] rfl rfl ?_
            refine g_goto C X0 d2_41 (by decide) rfl ?_
            refine g_iloadN C X0 d2_24 rfl rfl ?_
            refine g_aloadN C X0 d2_25 rfl rfl ?_
            refine g_arraylength C X0 d2_26 e0 B rfl ?_
            intro n26 h_n26
            obtain rfl : n26 = (3 : Int32) := own_inj32 (y := (3 : Int32)) h_n26
            refine g_icmp C X0 d2_27 (by decide) rfl rfl ?_ ?_
            · intro h27
              have h27 : (2 : Int) ≥ 3 := h27
              exact absurd h27 (by decide)
            · intro h27
              have h27 : (2 : Int) < 3 := h27
              refine g_aloadN C X0 d2_30 rfl rfl ?_
              refine g_iloadN C X0 d2_31 rfl rfl ?_
              refine g_iaload C X0 d2_32 e0 B (by decide) (by decide) (v := (.int r2)) rfl rfl ?_
              refine g_iload C X0 d2_33 rfl rfl ?_
              refine g_icmp C X0 d2_35 (by decide) rfl rfl ?_ ?_
              · intro h35
                have h35 : r2.toInt = x0.toInt := h35
                refine g_iloadN C X0 d2_44 rfl rfl ?_
                refine g_aloadN C X0 d2_45 rfl rfl ?_
                refine g_arraylength C X0 d2_46 e0 B rfl ?_
                intro n46 h_n46
                obtain rfl : n46 = (3 : Int32) := own_inj32 (y := (3 : Int32)) h_n46
                refine g_icmp C X0 d2_47 (by decide) rfl rfl ?_ ?_
                · intro h47
                  have h47 : ¬ (2 : Int) = 3 := h47
                  refine g_iinc C X0 d2_52 rfl #[.val (.ref a), .val (.ref b), .val (.int (3 : Int32)), .val (.ref a), .val (.int (1 : Int32)), .val (.int (0 : Int32)), .val (.int x0)] rfl rfl ?_
                  refine g_iinc C X0 d2_55 rfl #[.val (.ref a), .val (.ref b), .val (.int (3 : Int32)), .val (.ref a), .val (.int (1 : Int32)), .val (.int (1 : Int32)), .val (.int x0)] rfl rfl ?_
                  refine g_goto C X0 d2_58 (by decide) rfl ?_
                  refine g_iload C X0 d2_11 rfl rfl ?_
                  refine g_iload C X0 d2_13 rfl rfl ?_
                  refine g_icmp C X0 d2_15 (by decide) rfl rfl ?_ ?_
                  · intro h15
                    have h15 : (1 : Int) ≥ 1 := h15
                    refine g_aloadN C X0 d2_61 rfl rfl ?_
                    refine g_arraylength C X0 d2_62 e0 A rfl ?_
                    intro n62 h_n62
                    obtain rfl : n62 = (1 : Int32) := own_inj32 (y := (1 : Int32)) h_n62
                    refine g_if C X0 d2_63 (by decide) rfl rfl ?_ ?_
                    · intro h63
                      have h63 : (1 : Int) ≤ 0 := h63
                      exact absurd h63 (by decide)
                    · intro h63
                      have h63 : (1 : Int) > 0 := h63
                      refine g_iconst C X0 (1 : Int32) d2_66 rfl rfl ?_
                      refine g_goto C X0 d2_67 (by decide) rfl ?_
                      exact g_ireturnN C X0 d2_71 rfl (Or.inl rfl) ⟨⟨(1 : Int32), rfl, Or.inl ⟨rfl, by omega⟩⟩, N0, e0⟩ (by decide) (by decide)
                  · intro h15
                    have h15 : (1 : Int) < 1 := h15
                    exact absurd h15 (by decide)
                · intro h47
                  have h47 : (2 : Int) = 3 := h47
                  exact absurd h47 (by decide)
              · intro h35
                have h35 : ¬ r2.toInt = x0.toInt := h35
                refine g_iinc C X0 d2_38 rfl #[.val (.ref a), .val (.ref b), .val (.int (3 : Int32)), .val (.ref a), .val (.int (1 : Int32)), .val (.int (0 : Int32)), .val (.int x0)] rfl rfl ?_
                refine g_goto C X0 d2_41 (by decide) rfl ?_
                refine g_iloadN C X0 d2_24 rfl rfl ?_
                refine g_aloadN C X0 d2_25 rfl rfl ?_
                refine g_arraylength C X0 d2_26 e0 B rfl ?_
                intro n26 h_n26
                obtain rfl : n26 = (3 : Int32) := own_inj32 (y := (3 : Int32)) h_n26
                refine g_icmp C X0 d2_27 (by decide) rfl rfl ?_ ?_
                · intro h27
                  have h27 : (3 : Int) ≥ 3 := h27
                  refine g_iloadN C X0 d2_44 rfl rfl ?_
                  refine g_aloadN C X0 d2_45 rfl rfl ?_
                  refine g_arraylength C X0 d2_46 e0 B rfl ?_
                  intro n46 h_n46
                  obtain rfl : n46 = (3 : Int32) := own_inj32 (y := (3 : Int32)) h_n46
                  refine g_icmp C X0 d2_47 (by decide) rfl rfl ?_ ?_
                  · intro h47
                    have h47 : ¬ (3 : Int) = 3 := h47
                    exact absurd h47 (by decide)
                  · intro h47
                    have h47 : (3 : Int) = 3 := h47
                    refine g_iconst C X0 (0 : Int32) d2_50 rfl rfl ?_
                    exact g_ireturnN C X0 d2_51 rfl (Or.inl rfl) ⟨⟨(0 : Int32), rfl, Or.inr ⟨rfl, by omega⟩⟩, N0, e0⟩ (by decide) (by decide)
                · intro h27
                  have h27 : (3 : Int) < 3 := h27
                  exact absurd h27 (by decide)
def Q_sy1_4 (Z : State) (a : Addr) (b : Addr) (x0 : Int32) (x1 : Int32) (x2 : Int32) (r0 : Int32) (r1 : Int32) (r2 : Int32) (r3 : Int32) (h0 : Heap) (n0 : Nat) (v : Option Value) (h : Heap) (L : List Loc) : Prop := (∃ r : Int32, v = some (.int r) ∧ (r = 1 ∧ ((r0.toInt = x0.toInt) ∨ (r1.toInt = x0.toInt) ∨ (r2.toInt = x0.toInt) ∨ (r3.toInt = x0.toInt)) ∨ r = 0 ∧ ¬ ((r0.toInt = x0.toInt) ∨ (r1.toInt = x0.toInt) ∨ (r2.toInt = x0.toInt) ∨ (r3.toInt = x0.toInt)))) ∧ Fr n0 L ∧ h = h0
set_option maxRecDepth 65536 in
set_option maxHeartbeats 40000000 in
theorem sy1_4 (l : Launch) (Z : State) (a0 : Array Value) (hw : ∀ d ∈ tables_1, d.before a0 Z = true) (ws : List Jvm.Cond) (a : Addr) (b : Addr) (x0 x1 x2 r0 r1 r2 r3 : Int32) (h0 : Heap) (n0 : Nat) (Z0 : n0 ≤ h0.size) (A : Aw Z h0 a .int 1 (fun j => .int (([x0] : List Int32).getD j 0))) (B : Aw Z h0 b .int 4 (fun j => .int (([r0, r1, r2, r3] : List Int32).getD j 0))) :
    MetFree l (⟨"com/example/ballast/ballast/storage/ClusterCatalog", "isInSyncOf", "([I[I)Z"⟩ : MethodName) (head1 (Jvm.Cond.code (⟨"com/example/ballast/ballast/storage/ClusterCatalog", "isInSyncOf", "([I[I)Z"⟩ : MethodName) prog_270_method_61_code 7 (some .boolean) :: ws) ({ frames := 0, cells := 0, slots := 0, locals := 0 } : Room)) (fun aa U => aa = #[(.ref a), (.ref b)] ∧ Z.Warmed39 U.vm ∧ U.heap = h0) (fun _ _ _ _ _ => True) (fun _ U oo U' => ∃ rv Lr, oo = .returned rv ∧ Q_sy1_4 Z a b x0 x1 x2 r0 r1 r2 r3 h0 n0 rv U'.heap Lr ∧ FrameEnd U oo U' Lr ({ frames := 0, cells := 0, slots := 0, locals := 0 } : Room).cells ({ frames := 0, cells := 0, slots := 0, locals := 0 } : Room).slots) := by
  refine g_enter pn_2 hw (ef_2 a b) ?_
  intro p e s m below meth c T0 C X0 e0
  have C : Cx Z a0 p s m meth c prog_270_method_61_code 7 "com/example/ballast/ballast/storage/ClusterCatalog" "isInSyncOf" (some .boolean) := C
  have N0 := Fr.nil n0
  refine g_iconst C X0 (0 : Int32) d2_0 rfl rfl ?_
  refine g_istoreN C X0 d2_1 #[.val (.ref a), .val (.ref b), .val (.int (0 : Int32)), .unset, .unset, .unset, .unset] rfl rfl ?_
  refine g_aloadN C X0 d2_2 rfl rfl ?_
  refine g_astoreN C X0 d2_3 #[.val (.ref a), .val (.ref b), .val (.int (0 : Int32)), .val (.ref a), .unset, .unset, .unset] rfl rfl ?_
  refine g_aloadN C X0 d2_4 rfl rfl ?_
  refine g_arraylength C X0 d2_5 e0 A rfl ?_
  intro n5 h_n5
  obtain rfl : n5 = (1 : Int32) := own_inj32 (y := (1 : Int32)) h_n5
  refine g_istore C X0 d2_6 #[.val (.ref a), .val (.ref b), .val (.int (0 : Int32)), .val (.ref a), .val (.int (1 : Int32)), .unset, .unset] rfl rfl ?_
  refine g_iconst C X0 (0 : Int32) d2_8 rfl rfl ?_
  refine g_istore C X0 d2_9 #[.val (.ref a), .val (.ref b), .val (.int (0 : Int32)), .val (.ref a), .val (.int (1 : Int32)), .val (.int (0 : Int32)), .unset] rfl rfl ?_
  refine g_iload C X0 d2_11 rfl rfl ?_
  refine g_iload C X0 d2_13 rfl rfl ?_
  refine g_icmp C X0 d2_15 (by decide) rfl rfl ?_ ?_
  · intro h15
    have h15 : (0 : Int) ≥ 1 := h15
    exact absurd h15 (by decide)
  · intro h15
    have h15 : (0 : Int) < 1 := h15
    refine g_aloadN C X0 d2_18 rfl rfl ?_
    refine g_iload C X0 d2_19 rfl rfl ?_
    refine g_iaload C X0 d2_21 e0 A (by decide) (by decide) (v := (.int x0)) rfl rfl ?_
    refine g_istore C X0 d2_22 #[.val (.ref a), .val (.ref b), .val (.int (0 : Int32)), .val (.ref a), .val (.int (1 : Int32)), .val (.int (0 : Int32)), .val (.int x0)] rfl rfl ?_
    refine g_iloadN C X0 d2_24 rfl rfl ?_
    refine g_aloadN C X0 d2_25 rfl rfl ?_
    refine g_arraylength C X0 d2_26 e0 B rfl ?_
    intro n26 h_n26
    obtain rfl : n26 = (4 : Int32) := own_inj32 (y := (4 : Int32)) h_n26
    refine g_icmp C X0 d2_27 (by decide) rfl rfl ?_ ?_
    · intro h27
      have h27 : (0 : Int) ≥ 4 := h27
      exact absurd h27 (by decide)
    · intro h27
      have h27 : (0 : Int) < 4 := h27
      refine g_aloadN C X0 d2_30 rfl rfl ?_
      refine g_iloadN C X0 d2_31 rfl rfl ?_
      refine g_iaload C X0 d2_32 e0 B (by decide) (by decide) (v := (.int r0)) rfl rfl ?_
      refine g_iload C X0 d2_33 rfl rfl ?_
      refine g_icmp C X0 d2_35 (by decide) rfl rfl ?_ ?_
      · intro h35
        have h35 : r0.toInt = x0.toInt := h35
        refine g_iloadN C X0 d2_44 rfl rfl ?_
        refine g_aloadN C X0 d2_45 rfl rfl ?_
        refine g_arraylength C X0 d2_46 e0 B rfl ?_
        intro n46 h_n46
        obtain rfl : n46 = (4 : Int32) := own_inj32 (y := (4 : Int32)) h_n46
        refine g_icmp C X0 d2_47 (by decide) rfl rfl ?_ ?_
        · intro h47
          have h47 : ¬ (0 : Int) = 4 := h47
          refine g_iinc C X0 d2_52 rfl #[.val (.ref a), .val (.ref b), .val (.int (1 : Int32)), .val (.ref a), .val (.int (1 : Int32)), .val (.int (0 : Int32)), .val (.int x0)] rfl rfl ?_
          refine g_iinc C X0 d2_55 rfl #[.val (.ref a), .val (.ref b), .val (.int (1 : Int32)), .val (.ref a), .val (.int (1 : Int32)), .val (.int (1 : Int32)), .val (.int x0)] rfl rfl ?_
          refine g_goto C X0 d2_58 (by decide) rfl ?_
          refine g_iload C X0 d2_11 rfl rfl ?_
          refine g_iload C X0 d2_13 rfl rfl ?_
          refine g_icmp C X0 d2_15 (by decide) rfl rfl ?_ ?_
          · intro h15
            have h15 : (1 : Int) ≥ 1 := h15
            refine g_aloadN C X0 d2_61 rfl rfl ?_
            refine g_arraylength C X0 d2_62 e0 A rfl ?_
            intro n62 h_n62
            obtain rfl : n62 = (1 : Int32) := own_inj32 (y := (1 : Int32)) h_n62
            refine g_if C X0 d2_63 (by decide) rfl rfl ?_ ?_
            · intro h63
              have h63 : (1 : Int) ≤ 0 := h63
              exact absurd h63 (by decide)
            · intro h63
              have h63 : (1 : Int) > 0 := h63
              refine g_iconst C X0 (1 : Int32) d2_66 rfl rfl ?_
              refine g_goto C X0 d2_67 (by decide) rfl ?_
              exact g_ireturnN C X0 d2_71 rfl (Or.inl rfl) ⟨⟨(1 : Int32), rfl, Or.inl ⟨rfl, by omega⟩⟩, N0, e0⟩ (by decide) (by decide)
          · intro h15
            have h15 : (1 : Int) < 1 := h15
            exact absurd h15 (by decide)
        · intro h47
          have h47 : (0 : Int) = 4 := h47
          exact absurd h47 (by decide)
      · intro h35
        have h35 : ¬ r0.toInt = x0.toInt := h35
        refine g_iinc C X0 d2_38 rfl #[.val (.ref a), .val (.ref b), .val (.int (1 : Int32)), .val (.ref a), .val (.int (1 : Int32)), .val (.int (0 : Int32)), .val (.int x0)] rfl rfl ?_
        refine g_goto C X0 d2_41 (by decide) rfl ?_
        refine g_iloadN C X0 d2_24 rfl rfl ?_
        refine g_aloadN C X0 d2_25 rfl rfl ?_
        refine g_arraylength C X0 d2_26 e0 B rfl ?_
        intro n26 h_n26
        obtain rfl : n26 = (4 : Int32) := own_inj32 (y := (4 : Int32)) h_n26
        refine g_icmp C X0 d2_27 (by decide) rfl rfl ?_ ?_
        · intro h27
          have h27 : (1 : Int) ≥ 4 := h27
          exact absurd h27 (by decide)
        · intro h27
          have h27 : (1 : Int) < 4 := h27
          refine g_aloadN C X0 d2_30 rfl rfl ?_
          refine g_iloadN C X0 d2_31 rfl rfl ?_
          refine g_iaload C X0 d2_32 e0 B (by decide) (by decide) (v := (.int r1)) rfl rfl ?_
          refine g_iload C X0 d2_33 rfl rfl ?_
          refine g_icmp C X0 d2_35 (by decide) rfl rfl ?_ ?_
          · intro h35
            have h35 : r1.toInt = x0.toInt := h35
            refine g_iloadN C X0 d2_44 rfl rfl ?_
            refine g_aloadN C X0 d2_45 rfl rfl ?_
            refine g_arraylength C X0 d2_46 e0 B rfl ?_
            intro n46 h_n46
            obtain rfl : n46 = (4 : Int32) := own_inj32 (y := (4 : Int32)) h_n46
            refine g_icmp C X0 d2_47 (by decide) rfl rfl ?_ ?_
            · intro h47
              have h47 : ¬ (1 : Int) = 4 := h47
              refine g_iinc C X0 d2_52 rfl #[.val (.ref a), .val (.ref b), .val (.int (2 : Int32)), .val (.ref a), .val (.int (1 : Int32)), .val (.int (0 : Int32)), .val (.int x0)] rfl rfl ?_
              refine g_iinc C X0 d2_55 rfl #[.val (.ref a), .val (.ref b), .val (.int (2 : Int32)), .val (.ref a), .val (.int (1 : Int32)), .val (.int (1 : Int32)), .val (.int x0)] rfl rfl ?_
              refine g_goto C X0 d2_58 (by decide) rfl ?_
              refine g_iload C X0 d2_11 rfl rfl ?_
              refine g_iload C X0 d2_13 rfl rfl ?_
              refine g_icmp C X0 d2_15 (by decide) rfl rfl ?_ ?_
              · intro h15
                have h15 : (1 : Int) ≥ 1 := h15
                refine g_aloadN C X0 d2_61 rfl rfl ?_
                refine g_arraylength C X0 d2_62 e0 A rfl ?_
                intro n62 h_n62
                obtain rfl : n62 = (1 : Int32) := own_inj32 (y := (1 : Int32)) h_n62
                refine g_if C X0 d2_63 (by decide) rfl rfl ?_ ?_
                · intro h63
                  have h63 : (1 : Int) ≤ 0 := h63
                  exact absurd h63 (by decide)
                · intro h63
                  have h63 : (1 : Int) > 0 := h63
                  refine g_iconst C X0 (1 : Int32) d2_66 rfl rfl ?_
                  refine g_goto C X0 d2_67 (by decide) rfl ?_
                  exact g_ireturnN C X0 d2_71 rfl (Or.inl rfl) ⟨⟨(1 : Int32), rfl, Or.inl ⟨rfl, by omega⟩⟩, N0, e0⟩ (by decide) (by decide)
              · intro h15
                have h15 : (1 : Int) < 1 := h15
                exact absurd h15 (by decide)
            · intro h47
              have h47 : (1 : Int) = 4 := h47
              exact absurd h47 (by decide)
          · intro h35
            have h35 : ¬ r1.toInt = x0.toInt := h35
            refine g_iinc C X0 d2_38 rfl #[.val (.ref a), .val (.ref b), .val (.int (2 : Int32)), .val (.ref a), .val (.int (1 : Int32)), .val (.int (0 : Int32)), .val (.int x0)] rfl rfl ?_
            refine g_goto C X0 d2_41 (by decide) rfl ?_
            refine g_iloadN C X0 d2_24 rfl rfl ?_
            refine g_aloadN C X0 d2_25 rfl rfl ?_
            refine g_arraylength C X0 d2_26 e0 B rfl ?_
            intro n26 h_n26
            obtain rfl : n26 = (4 : Int32) := own_inj32 (y := (4 : Int32)) h_n26
            refine g_icmp C X0 d2_27 (by decide) rfl rfl ?_ ?_
            · intro h27
              have h27 : (2 : Int) ≥ 4 := h27
              exact absurd h27 (by decide)
            · intro h27
              have h27 : (2 : Int) < 4 := h27
              refine g_aloadN C X0 d2_30 rfl rfl ?_
              refine g_iloadN C X0 d2_31 rfl rfl ?_
              refine g_iaload C X0 d2_32 e0 B (by decide) (by decide) (v := (.int r2)) rfl rfl ?_
              refine g_iload C X0 d2_33 rfl rfl ?_
              refine g_icmp C X0 d2_35 (by decide) rfl rfl ?_ ?_
              · intro h35
                have h35 : r2.toInt = x0.toInt := h35
                refine g_iloadN C X0 d2_44 rfl rfl ?_
                refine g_aloadN C X0 d2_45 rfl rfl ?_
                refine g_arraylength C X0 d2_46 e0 B rfl ?_
                intro n46 h_n46
                obtain rfl : n46 = (4 : Int32) := own_inj32 (y := (4 : Int32)) h_n46
                refine g_icmp C X0 d2_47 (by decide) rfl rfl ?_ ?_
                · intro h47
                  have h47 : ¬ (2 : Int) = 4 := h47
                  refine g_iinc C X0 d2_52 rfl #[.val (.ref a), .val (.ref b), .val (.int (3 : Int32)), .val (.ref a), .val (.int (1 : Int32)), .val (.int (0 : Int32)), .val (.int x0)] rfl rfl ?_
                  refine g_iinc C X0 d2_55 rfl #[.val (.ref a), .val (.ref b), .val (.int (3 : Int32)), .val (.ref a), .val (.int (1 : Int32)), .val (.int (1 : Int32)), .val (.int x0)] rfl rfl ?_
                  refine g_goto C X0 d2_58 (by decide) rfl ?_
                  refine g_iload C X0 d2_11 rfl rfl ?_
                  refine g_iload C X0 d2_13 rfl rfl ?_
                  refine g_icmp C X0 d2_15 (by decide) rfl rfl ?_ ?_
                  · intro h15
                    have h15 : (1 : Int) ≥ 1 := h15
                    refine g_aloadN C X0 d2_61 rfl rfl ?_
                    refine g_arraylength C X0 d2_62 e0 A rfl ?_
                    intro n62 h_n62
                    obtain rfl : n62 = (1 : Int32) := own_inj32 (y := (1 : Int32)) h_n62
                    refine g_if C X0 d2_63 (by decide) rfl rfl ?_ ?_
                    · intro h63
                      have h63 : (1 : Int) ≤ 0 := h63
                      exact absurd h63 (by decide)
                    · intro h63
                      have h63 : (1 : Int) > 0 := h63
                      refine g_iconst C X0 (1 : Int32) d2_66 rfl rfl ?_
                      refine g_goto C X0 d2_67 (by decide) rfl ?_
                      exact g_ireturnN C X0 d2_71 rfl (Or.inl rfl) ⟨⟨(1 : Int32), rfl, Or.inl ⟨rfl, by omega⟩⟩, N0, e0⟩ (by decide) (by decide)
                  · intro h15
                    have h15 : (1 : Int) < 1 := h15
                    exact absurd h15 (by decide)
                · intro h47
                  have h47 : (2 : Int) = 4 := h47
                  exact absurd h47 (by decide)
              · intro h35
                have h35 : ¬ r2.toInt = x0.toInt := h35
                refine g_iinc C X0 d2_38 rfl #[.val (.ref a), .val (.ref b), .val (.int (3 : Int32)), .val (.ref a), .val (.int (1 : Int32)), .val (.int (0 : Int32)), .val (.int x0)] rfl rfl ?_
                refine g_goto C X0 d2_41 (by decide) rfl ?_
                refine g_iloadN C X0 d2_24 rfl rfl ?_
                refine g_aloadN C X0 d2_25 rfl rfl ?_
                refine g_arraylength C X0 d2_26 e0 B rfl ?_
                intro n26 h_n26
                obtain rfl : n26 = (4 : Int32) := own_inj32 (y := (4 : Int32)) h_n26
                refine g_icmp C X0 d2_27 (by decide) rfl rfl ?_ ?_
                · intro h27
                  have h27 : (3 : Int) ≥ 4 := h27
                  exact absurd h27 (by decide)
                · intro h27
                  have h27 : (3 : Int) < 4 := h27
                  refine g_aloadN C X0 d2_30 rfl rfl ?_
                  refine g_iloadN C X0 d2_31 rfl rfl ?_
                  refine g_iaload C X0 d2_32 e0 B (by decide) (by decide) (v := (.int r3)) rfl rfl ?_
                  refine g_iload C X0 d2_33 rfl rfl ?_
                  refine g_icmp C X0 d2_35 (by decide) rfl rfl ?_ ?_
                  · intro h35
                    have h35 : r3.toInt = x0.toInt := h35
                    refine g_iloadN C X0 d2_44 rfl rfl ?_
                    refine g_aloadN C X0 d2_45 rfl rfl ?_
                    refine g_arraylength C X0 d2_46 e0 B rfl ?_
                    intro n46 h_n46
                    obtain rfl : n46 = (4 : Int32) := own_inj32 (y := (4 : Int32)) h_n46
                    refine g_icmp C X0 d2_47 (by decide) rfl rfl ?_ ?_
                    · intro h47
                      have h47 : ¬ (3 : Int) = 4 := h47
                      refine g_iinc C X0 d2_52 rfl #[.val (.ref a), .val (.ref b), .val (.int (4 : Int32)), .val (.ref a), .val (.int (1 : Int32)), .val (.int (0 : Int32)), .val (.int x0)] rfl rfl ?_
                      refine g_iinc C X0 d2_55 rfl #[.val (.ref a), .val (.ref b), .val (.int (4 : Int32)), .val (.ref a), .val (.int (1 : Int32)), .val (.int (1 : Int32)), .val (.int x0)] rfl rfl ?_
                      refine g_goto C X0 d2_58 (by decide) rfl ?_
                      refine g_iload C X0 d2_11 rfl rfl ?_
                      refine g_iload C X0 d2_13 rfl rfl ?_
                      refine g_icmp C X0 d2_15 (by decide) rfl rfl ?_ ?_
                      · intro h15
                        have h15 : (1 : Int) ≥ 1 := h15
                        refine g_aloadN C X0 d2_61 rfl rfl ?_
                        refine g_arraylength C X0 d2_62 e0 A rfl ?_
                        intro n62 h_n62
                        obtain rfl : n62 = (1 : Int32) := own_inj32 (y := (1 : Int32)) h_n62
                        refine g_if C X0 d2_63 (by decide) rfl rfl ?_ ?_
                        · intro h63
                          have h63 : (1 : Int) ≤ 0 := h63
                          exact absurd h63 (by decide)
                        · intro h63
                          have h63 : (1 : Int) > 0 := h63
                          refine g_iconst C X0 (1 : Int32) d2_66 rfl rfl ?_
                          refine g_goto C X0 d2_67 (by decide) rfl ?_
                          exact g_ireturnN C X0 d2_71 rfl (Or.inl rfl) ⟨⟨(1 : Int32), rfl, Or.inl ⟨rfl, by omega⟩⟩, N0, e0⟩ (by decide) (by decide)
                      · intro h15
                        have h15 : (1 : Int) < 1 := h15
                        exact absurd h15 (by decide)
                    · intro h47
                      have h47 : (3 : Int) = 4 := h47
                      exact absurd h47 (by decide)
                  · intro h35
                    have h35 : ¬ r3.toInt = x0.toInt := h35
                    refine g_iinc C X0 d2_38 rfl #[.val (.ref a), .val (.ref b), .val (.int (4 : Int32)), .val (.ref a), .val (.int (1 : Int32)), .val (.int (0 : Int32)), .val (.int x0)] rfl rfl ?_
                    refine g_goto C X0 d2_41 (by decide) rfl ?_
                    refine g_iloadN C X0 d2_24 rfl rfl ?_
                    refine g_aloadN C X0 d2_25 rfl rfl ?_
                    refine g_arraylength C X0 d2_26 e0 B rfl ?_
                    intro n26 h_n26
                    obtain rfl : n26 = (4 : Int32) := own_inj32 (y := (4 : Int32)) h_n26
                    refine g_icmp C X0 d2_27 (by decide) rfl rfl ?_ ?_
                    · intro h27
                      have h27 : (4 : Int) ≥ 4 := h27
                      refine g_iloadN C X0 d2_44 rfl rfl ?_
                      refine g_aloadN C X0 d2_45 rfl rfl ?_
                      refine g_arraylength C X0 d2_46 e0 B rfl ?_
                      intro n46 h_n46
                      obtain rfl : n46 = (4 : Int32) := own_inj32 (y := (4 : Int32)) h_n46
                      refine g_icmp C X0 d2_47 (by decide) rfl rfl ?_ ?_
                      · intro h47
                        have h47 : ¬ (4 : Int) = 4 := h47
                        exact absurd h47 (by decide)
                      · intro h47
                        have h47 : (4 : Int) = 4 := h47
                        refine g_iconst C X0 (0 : Int32) d2_50 rfl rfl ?_
                        exact g_ireturnN C X0 d2_51 rfl (Or.inl rfl) ⟨⟨(0 : Int32), rfl, Or.inr ⟨rfl, by omega⟩⟩, N0, e0⟩ (by decide) (by decide)
                    · intro h27
                      have h27 : (4 : Int) < 4 := h27
                      exact absurd h27 (by decide)
def Q_sy2_0 (Z : State) (a : Addr) (b : Addr) (x0 : Int32) (x1 : Int32) (x2 : Int32) (r0 : Int32) (r1 : Int32) (r2 : Int32) (r3 : Int32) (h0 : Heap) (n0 : Nat) (v : Option Value) (h : Heap) (L : List Loc) : Prop := (∃ r : Int32, v = some (.int r) ∧ (r = 1 ∧ False ∨ r = 0 ∧ ¬ False)) ∧ Fr n0 L ∧ h = h0
set_option maxRecDepth 65536 in
set_option maxHeartbeats 40000000 in
theorem sy2_0 (l : Launch) (Z : State) (a0 : Array Value) (hw : ∀ d ∈ tables_1, d.before a0 Z = true) (ws : List Jvm.Cond) (a : Addr) (b : Addr) (x0 x1 x2 r0 r1 r2 r3 : Int32) (h0 : Heap) (n0 : Nat) (Z0 : n0 ≤ h0.size) (A : Aw Z h0 a .int 2 (fun j => .int (([x0, x1] : List Int32).getD j 0))) (B : Aw Z h0 b .int 0 (fun j => .int (([r0, r1, r2, r3] : List Int32).getD j 0))) :
    MetFree l (⟨"com/example/ballast/ballast/storage/ClusterCatalog", "isInSyncOf", "([I[I)Z"⟩ : MethodName) (head1 (Jvm.Cond.code (⟨"com/example/ballast/ballast/storage/ClusterCatalog", "isInSyncOf", "([I[I)Z"⟩ : MethodName) prog_270_method_61_code 7 (some .boolean) :: ws) ({ frames := 0, cells := 0, slots := 0, locals := 0 } : Room)) (fun aa U => aa = #[(.ref a), (.ref b)] ∧ Z.Warmed39 U.vm ∧ U.heap = h0) (fun _ _ _ _ _ => True) (fun _ U oo U' => ∃ rv Lr, oo = .returned rv ∧ Q_sy2_0 Z a b x0 x1 x2 r0 r1 r2 r3 h0 n0 rv U'.heap Lr ∧ FrameEnd U oo U' Lr ({ frames := 0, cells := 0, slots := 0, locals := 0 } : Room).cells ({ frames := 0, cells := 0, slots := 0, locals := 0 } : Room).slots) := by
  refine g_enter pn_2 hw (ef_2 a b) ?_
  intro p e s m below meth c T0 C X0 e0
  have C : Cx Z a0 p s m meth c prog_270_method_61_code 7 "com/example/ballast/ballast/storage/ClusterCatalog" "isInSyncOf" (some .boolean) := C
  have N0 := Fr.nil n0
  refine g_iconst C X0 (0 : Int32) d2_0 rfl rfl ?_
  refine g_istoreN C X0 d2_1 #[.val (.ref a), .val (.ref b), .val (.int (0 : Int32)), .unset, .unset, .unset, .unset] rfl rfl ?_
  refine g_aloadN C X0 d2_2 rfl rfl ?_
  refine g_astoreN C X0 d2_3 #[.val (.ref a), .val (.ref b), .val (.int (0 : Int32)), .val (.ref a), .unset, .unset, .unset] rfl rfl ?_
  refine g_aloadN C X0 d2_4 rfl rfl ?_
  refine g_arraylength C X0 d2_5 e0 A rfl ?_
  intro n5 h_n5
  obtain rfl : n5 = (2 : Int32) := own_inj32 (y := (2 : Int32)) h_n5
  refine g_istore C X0 d2_6 #[.val (.ref a), .val (.ref b), .val (.int (0 : Int32)), .val (.ref a), .val (.int (2 : Int32)), .unset, .unset] rfl rfl ?_
  refine g_iconst C X0 (0 : Int32) d2_8 rfl rfl ?_
  refine g_istore C X0 d2_9 #[.val (.ref a), .val (.ref b), .val (.int (0 : Int32)), .val (.ref a), .val (.int (2 : Int32)), .val (.int (0 : Int32)), .unset] rfl rfl ?_
  refine g_iload C X0 d2_11 rfl rfl ?_
  refine g_iload C X0 d2_13 rfl rfl ?_
  refine g_icmp C X0 d2_15 (by decide) rfl rfl ?_ ?_
  · intro h15
    have h15 : (0 : Int) ≥ 2 := h15
    exact absurd h15 (by decide)
  · intro h15
    have h15 : (0 : Int) < 2 := h15
    refine g_aloadN C X0 d2_18 rfl rfl ?_
    refine g_iload C X0 d2_19 rfl rfl ?_
    refine g_iaload C X0 d2_21 e0 A (by decide) (by decide) (v := (.int x0)) rfl rfl ?_
    refine g_istore C X0 d2_22 #[.val (.ref a), .val (.ref b), .val (.int (0 : Int32)), .val (.ref a), .val (.int (2 : Int32)), .val (.int (0 : Int32)), .val (.int x0)] rfl rfl ?_
    refine g_iloadN C X0 d2_24 rfl rfl ?_
    refine g_aloadN C X0 d2_25 rfl rfl ?_
    refine g_arraylength C X0 d2_26 e0 B rfl ?_
    intro n26 h_n26
    obtain rfl : n26 = (0 : Int32) := own_inj32 (y := (0 : Int32)) h_n26
    refine g_icmp C X0 d2_27 (by decide) rfl rfl ?_ ?_
    · intro h27
      have h27 : (0 : Int) ≥ 0 := h27
      refine g_iloadN C X0 d2_44 rfl rfl ?_
      refine g_aloadN C X0 d2_45 rfl rfl ?_
      refine g_arraylength C X0 d2_46 e0 B rfl ?_
      intro n46 h_n46
      obtain rfl : n46 = (0 : Int32) := own_inj32 (y := (0 : Int32)) h_n46
      refine g_icmp C X0 d2_47 (by decide) rfl rfl ?_ ?_
      · intro h47
        have h47 : ¬ (0 : Int) = 0 := h47
        exact absurd h47 (by decide)
      · intro h47
        have h47 : (0 : Int) = 0 := h47
        refine g_iconst C X0 (0 : Int32) d2_50 rfl rfl ?_
        exact g_ireturnN C X0 d2_51 rfl (Or.inl rfl) ⟨⟨(0 : Int32), rfl, Or.inr ⟨rfl, fun z => z⟩⟩, N0, e0⟩ (by decide) (by decide)
    · intro h27
      have h27 : (0 : Int) < 0 := h27
      exact absurd h27 (by decide)
def Q_sy2_1 (Z : State) (a : Addr) (b : Addr) (x0 : Int32) (x1 : Int32) (x2 : Int32) (r0 : Int32) (r1 : Int32) (r2 : Int32) (r3 : Int32) (h0 : Heap) (n0 : Nat) (v : Option Value) (h : Heap) (L : List Loc) : Prop := (∃ r : Int32, v = some (.int r) ∧ (r = 1 ∧ False ∨ r = 0 ∧ ¬ False)) ∧ Fr n0 L ∧ h = h0
set_option maxRecDepth 65536 in
set_option maxHeartbeats 40000000 in
theorem sy2_1 (l : Launch) (Z : State) (a0 : Array Value) (hw : ∀ d ∈ tables_1, d.before a0 Z = true) (ws : List Jvm.Cond) (a : Addr) (b : Addr) (x0 x1 x2 r0 r1 r2 r3 : Int32) (h0 : Heap) (n0 : Nat) (Z0 : n0 ≤ h0.size) (A : Aw Z h0 a .int 2 (fun j => .int (([x0, x1] : List Int32).getD j 0))) (B : Aw Z h0 b .int 1 (fun j => .int (([r0, r1, r2, r3] : List Int32).getD j 0))) :
    MetFree l (⟨"com/example/ballast/ballast/storage/ClusterCatalog", "isInSyncOf", "([I[I)Z"⟩ : MethodName) (head1 (Jvm.Cond.code (⟨"com/example/ballast/ballast/storage/ClusterCatalog", "isInSyncOf", "([I[I)Z"⟩ : MethodName) prog_270_method_61_code 7 (some .boolean) :: ws) ({ frames := 0, cells := 0, slots := 0, locals := 0 } : Room)) (fun aa U => aa = #[(.ref a), (.ref b)] ∧ Z.Warmed39 U.vm ∧ U.heap = h0) (fun _ _ _ _ _ => True) (fun _ U oo U' => ∃ rv Lr, oo = .returned rv ∧ Q_sy2_1 Z a b x0 x1 x2 r0 r1 r2 r3 h0 n0 rv U'.heap Lr ∧ FrameEnd U oo U' Lr ({ frames := 0, cells := 0, slots := 0, locals := 0 } : Room).cells ({ frames := 0, cells := 0, slots := 0, locals := 0 } : Room).slots) := by
  refine g_enter pn_2 hw (ef_2 a b) ?_
  intro p e s m below meth c T0 C X0 e0
  have C : Cx Z a0 p s m meth c prog_270_method_61_code 7 "com/example/ballast/ballast/storage/ClusterCatalog" "isInSyncOf" (some .boolean) := C
  have N0 := Fr.nil n0
  refine g_iconst C X0 (0 : Int32) d2_0 rfl rfl ?_
  refine g_istoreN C X0 d2_1 #[.val (.ref a), .val (.ref b), .val (.int (0 : Int32)), .unset, .unset, .unset, .unset] rfl rfl ?_
  refine g_aloadN C X0 d2_2 rfl rfl ?_
  refine g_astoreN C X0 d2_3 #[.val (.ref a), .val (.ref b), .val (.int (0 : Int32)), .val (.ref a), .unset, .unset, .unset] rfl rfl ?_
  refine g_aloadN C X0 d2_4 rfl rfl ?_
  refine g_arraylength C X0 d2_5 e0 A rfl ?_
  intro n5 h_n5
  obtain rfl : n5 = (2 : Int32) := own_inj32 (y := (2 : Int32)) h_n5
  refine g_istore C X0 d2_6 #[.val (.ref a), .val (.ref b), .val (.int (0 : Int32)), .val (.ref a), .val (.int (2 : Int32)), .unset, .unset] rfl rfl ?_
  refine g_iconst C X0 (0 : Int32) d2_8 rfl rfl ?_
  refine g_istore C X0 d2_9 #[.val (.ref a), .val (.ref b), .val (.int (0 : Int32)), .val (.ref a), .val (.int (2 : Int32)), .val (.int (0 : Int32)), .unset] rfl rfl ?_
  refine g_iload C X0 d2_11 rfl rfl ?_
  refine g_iload C X0 d2_13 rfl rfl ?_
  refine g_icmp C X0 d2_15 (by decide) rfl rfl ?_ ?_
  · intro h15
    have h15 : (0 : Int) ≥ 2 := h15
    exact absurd h15 (by decide)
  · intro h15
    have h15 : (0 : Int) < 2 := h15
    refine g_aloadN C X0 d2_18 rfl rfl ?_
    refine g_iload C X0 d2_19 rfl rfl ?_
    refine g_iaload C X0 d2_21 e0 A (by decide) (by decide) (v := (.int x0)) rfl rfl ?_
    refine g_istore C X0 d2_22 #[.val (.ref a), .val (.ref b), .val (.int (0 : Int32)), .val (.ref a), .val (.int (2 : Int32)), .val (.int (0 : Int32)), .val (.int x0)] rfl rfl ?_
    refine g_iloadN C X0 d2_24 rfl rfl ?_
    refine g_aloadN C X0 d2_25 rfl rfl ?_
    refine g_arraylength C X0 d2_26 e0 B rfl ?_
    intro n26 h_n26
    obtain rfl : n26 = (1 : Int32) := own_inj32 (y := (1 : Int32)) h_n26
    refine g_icmp C X0 d2_27 (by decide) rfl rfl ?_ ?_
    · intro h27
      have h27 : (0 : Int) ≥ 1 := h27
      exact absurd h27 (by decide)
    · intro h27
      have h27 : (0 : Int) < 1 := h27
      refine g_aloadN C X0 d2_30 rfl rfl ?_
      refine g_iloadN C X0 d2_31 rfl rfl ?_
      refine g_iaload C X0 d2_32 e0 B (by decide) (by decide) (v := (.int r0)) rfl rfl ?_
      refine g_iload C X0 d2_33 rfl rfl ?_
      refine g_icmp C X0 d2_35 (by decide) rfl rfl ?_ ?_
      · intro h35
        have h35 : r0.toInt = x0.toInt := h35
        refine g_iloadN C X0 d2_44 rfl rfl ?_
        refine g_aloadN C X0 d2_45 rfl rfl ?_
        refine g_arraylength C X0 d2_46 e0 B rfl ?_
        intro n46 h_n46
        obtain rfl : n46 = (1 : Int32) := own_inj32 (y := (1 : Int32)) h_n46
        refine g_icmp C X0 d2_47 (by decide) rfl rfl ?_ ?_
        · intro h47
          have h47 : ¬ (0 : Int) = 1 := h47
          refine g_iinc C X0 d2_52 rfl #[.val (.ref a), .val (.ref b), .val (.int (1 : Int32)), .val (.ref a), .val (.int (2 : Int32)), .val (.int (0 : Int32)), .val (.int x0)] rfl rfl ?_
          refine g_iinc C X0 d2_55 rfl #[.val (.ref a), .val (.ref b), .val (.int (1 : Int32)), .val (.ref a), .val (.int (2 : Int32)), .val (.int (1 : Int32)), .val (.int x0)] rfl rfl ?_
          refine g_goto C X0 d2_58 (by decide) rfl ?_
          refine g_iload C X0 d2_11 rfl rfl ?_
          refine g_iload C X0 d2_13 rfl rfl ?_
          refine g_icmp C X0 d2_15 (by decide) rfl rfl ?_ ?_
          · intro h15
            have h15 : (1 : Int) ≥ 2 := h15
            exact absurd h15 (by decide)
          · intro h15
            have h15 : (1 : Int) < 2 := h15
            refine g_aloadN C X0 d2_18 rfl rfl ?_
            refine g_iload C X0 d2_19 rfl rfl ?_
            refine g_iaload C X0 d2_21 e0 A (by decide) (by decide) (v := (.int x1)) rfl rfl ?_
            refine g_istore C X0 d2_22 #[.val (.ref a), .val (.ref b), .val (.int (1 : Int32)), .val (.ref a), .val (.int (2 : Int32)), .val (.int (1 : Int32)), .val (.int x1)] rfl rfl ?_
            refine g_iloadN C X0 d2_24 rfl rfl ?_
            refine g_aloadN C X0 d2_25 rfl rfl ?_
            refine g_arraylength C X0 d2_26 e0 B rfl ?_
            intro n26 h_n26
            obtain rfl : n26 = (1 : Int32) := own_inj32 (y := (1 : Int32)) h_n26
            refine g_icmp C X0 d2_27 (by decide) rfl rfl ?_ ?_
            · intro h27
              have h27 : (1 : Int) ≥ 1 := h27
              refine g_iloadN C X0 d2_44 rfl rfl ?_
              refine g_aloadN C X0 d2_45 rfl rfl ?_
              refine g_arraylength C X0 d2_46 e0 B rfl ?_
              intro n46 h_n46
              obtain rfl : n46 = (1 : Int32) := own_inj32 (y := (1 : Int32)) h_n46
              refine g_icmp C X0 d2_47 (by decide) rfl rfl ?_ ?_
              · intro h47
                have h47 : ¬ (1 : Int) = 1 := h47
                exact absurd h47 (by decide)
              · intro h47
                have h47 : (1 : Int) = 1 := h47
                refine g_iconst C X0 (0 : Int32) d2_50 rfl rfl ?_
                exact g_ireturnN C X0 d2_51 rfl (Or.inl rfl) ⟨⟨(0 : Int32), rfl, Or.inr ⟨rfl, fun z => z⟩⟩, N0, e0⟩ (by decide) (by decide)
            · intro h27
              have h27 : (1 : Int) < 1 := h27
              exact absurd h27 (by decide)
        · intro h47
          have h47 : (0 : Int) = 1 := h47
          exact absurd h47 (by decide)
      · intro h35
        have h35 : ¬ r0.toInt = x0.toInt := h35
        refine g_iinc C X0 d2_38 rfl #[.val (.ref a), .val (.ref b), .val (.int (1 : Int32)), .val (.ref a), .val (.int (2 : Int32)), .val (.int (0 : Int32)), .val (.int x0)] rfl rfl ?_
        refine g_goto C X0 d2_41 (by decide) rfl ?_
        refine g_iloadN C X0 d2_24 rfl rfl ?_
        refine g_aloadN C X0 d2_25 rfl rfl ?_
        refine g_arraylength C X0 d2_26 e0 B rfl ?_
        intro n26 h_n26
        obtain rfl : n26 = (1 : Int32) := own_inj32 (y := (1 : Int32)) h_n26
        refine g_icmp C X0 d2_27 (by decide) rfl rfl ?_ ?_
        · intro h27
          have h27 : (1 : Int) ≥ 1 := h27
          refine g_iloadN C X0 d2_44 rfl rfl ?_
          refine g_aloadN C X0 d2_45 rfl rfl ?_
          refine g_arraylength C X0 d2_46 e0 B rfl ?_
          intro n46 h_n46
          obtain rfl : n46 = (1 : Int32) := own_inj32 (y := (1 : Int32)) h_n46
          refine g_icmp C X0 d2_47 (by decide) rfl rfl ?_ ?_
          · intro h47
            have h47 : ¬ (1 : Int) = 1 := h47
            exact absurd h47 (by decide)
          · intro h47
            have h47 : (1 : Int) = 1 := h47
            refine g_iconst C X0 (0 : Int32) d2_50 rfl rfl ?_
            exact g_ireturnN C X0 d2_51 rfl (Or.inl rfl) ⟨⟨(0 : Int32), rfl, Or.inr ⟨rfl, fun z => z⟩⟩, N0, e0⟩ (by decide) (by decide)
        · intro h27
          have h27 : (1 : Int) < 1 := h27
          exact absurd h27 (by decide)
def Q_sy2_2 (Z : State) (a : Addr) (b : Addr) (x0 : Int32) (x1 : Int32) (x2 : Int32) (r0 : Int32) (r1 : Int32) (r2 : Int32) (r3 : Int32) (h0 : Heap) (n0 : Nat) (v : Option Value) (h : Heap) (L : List Loc) : Prop := (∃ r : Int32, v = some (.int r) ∧ (r = 1 ∧ ((r0.toInt = x0.toInt ∧ r1.toInt = x1.toInt)) ∨ r = 0 ∧ ¬ ((r0.toInt = x0.toInt ∧ r1.toInt = x1.toInt)))) ∧ Fr n0 L ∧ h = h0
set_option maxRecDepth 65536 in
set_option maxHeartbeats 40000000 in
theorem sy2_2 (l : Launch) (Z : State) (a0 : Array Value) (hw : ∀ d ∈ tables_1, d.before a0 Z = true) (ws : List Jvm.Cond) (a : Addr) (b : Addr) (x0 x1 x2 r0 r1 r2 r3 : Int32) (h0 : Heap) (n0 : Nat) (Z0 : n0 ≤ h0.size) (A : Aw Z h0 a .int 2 (fun j => .int (([x0, x1] : List Int32).getD j 0))) (B : Aw Z h0 b .int 2 (fun j => .int (([r0, r1, r2, r3] : List Int32).getD j 0))) :
    MetFree l (⟨"com/example/ballast/ballast/storage/ClusterCatalog", "isInSyncOf", "([I[I)Z"⟩ : MethodName) (head1 (Jvm.Cond.code (⟨"com/example/ballast/ballast/storage/ClusterCatalog", "isInSyncOf", "([I[I)Z"⟩ : MethodName) prog_270_method_61_code 7 (some .boolean) :: ws) ({ frames := 0, cells := 0, slots := 0, locals := 0 } : Room)) (fun aa U => aa = #[(.ref a), (.ref b)] ∧ Z.Warmed39 U.vm ∧ U.heap = h0) (fun _ _ _ _ _ => True) (fun _ U oo U' => ∃ rv Lr, oo = .returned rv ∧ Q_sy2_2 Z a b x0 x1 x2 r0 r1 r2 r3 h0 n0 rv U'.heap Lr ∧ FrameEnd U oo U' Lr ({ frames := 0, cells := 0, slots := 0, locals := 0 } : Room).cells ({ frames := 0, cells := 0, slots := 0, locals := 0 } : Room).slots) := by
  refine g_enter pn_2 hw (ef_2 a b) ?_
  intro p e s m below meth c T0 C X0 e0
  have C : Cx Z a0 p s m meth c prog_270_method_61_code 7 "com/example/ballast/ballast/storage/ClusterCatalog" "isInSyncOf" (some .boolean) := C
  have N0 := Fr.nil n0
  refine g_iconst C X0 (0 : Int32) d2_0 rfl rfl ?_
  refine g_istoreN C X0 d2_1 #[.val (.ref a), .val (.ref b), .val (.int (0 : Int32)), .unset, .unset, .unset, .unset] rfl rfl ?_
  refine g_aloadN C X0 d2_2 rfl rfl ?_
  refine g_astoreN C X0 d2_3 #[.val (.ref a), .val (.ref b), .val (.int (0 : Int32)), .val (.ref a), .unset, .unset, .unset] rfl rfl ?_
  refine g_aloadN C X0 d2_4 rfl rfl ?_
  refine g_arraylength C X0 d2_5 e0 A rfl ?_
  intro n5 h_n5
  obtain rfl : n5 = (2 : Int32) := own_inj32 (y := (2 : Int32)) h_n5
  refine g_istore C X0 d2_6 #[.val (.ref a), .val (.ref b), .val (.int (0 : Int32)), .val (.ref a), .val (.int (2 : Int32)), .unset, .unset] rfl rfl ?_
  refine g_iconst C X0 (0 : Int32) d2_8 rfl rfl ?_
  refine g_istore C X0 d2_9 #[.val (.ref a), .val (.ref b), .val (.int (0 : Int32)), .val (.ref a), .val (.int (2 : Int32)), .val (.int (0 : Int32)), .unset] rfl rfl ?_
  refine g_iload C X0 d2_11 rfl rfl ?_
  refine g_iload C X0 d2_13 rfl rfl ?_
  refine g_icmp C X0 d2_15 (by decide) rfl rfl ?_ ?_
  · intro h15
    have h15 : (0 : Int) ≥ 2 := h15
    exact absurd h15 (by decide)
  · intro h15
    have h15 : (0 : Int) < 2 := h15
    refine g_aloadN C X0 d2_18 rfl rfl ?_
    refine g_iload C X0 d2_19 rfl rfl ?_
    refine g_iaload C X0 d2_21 e0 A (by decide) (by decide) (v := (.int x0)) rfl rfl ?_
    refine g_istore C X0 d2_22 #[.val (.ref a), .val (.ref b), .val (.int (0 : Int32)), .val (.ref a), .val (.int (2 : Int32)), .val (.int (0 : Int32)), .val (.int x0)] rfl rfl ?_
    refine g_iloadN C X0 d2_24 rfl rfl ?_
    refine g_aloadN C X0 d2_25 rfl rfl ?_
    refine g_arraylength C X0 d2_26 e0 B rfl ?_
    intro n26 h_n26
    obtain rfl : n26 = (2 : Int32) := own_inj32 (y := (2 : Int32)) h_n26
    refine g_icmp C X0 d2_27 (by decide) rfl rfl ?_ ?_
    · intro h27
      have h27 : (0 : Int) ≥ 2 := h27
      exact absurd h27 (by decide)
    · intro h27
      have h27 : (0 : Int) < 2 := h27
      refine g_aloadN C X0 d2_30 rfl rfl ?_
      refine g_iloadN C X0 d2_31 rfl rfl ?_
      refine g_iaload C X0 d2_32 e0 B (by decide) (by decide) (v := (.int r0)) rfl rfl ?_
      refine g_iload C X0 d2_33 rfl rfl ?_
      refine g_icmp C X0 d2_35 (by decide) rfl rfl ?_ ?_
      · intro h35
        have h35 : r0.toInt = x0.toInt := h35
        refine g_iloadN C X0 d2_44 rfl rfl ?_
        refine g_aloadN C X0 d2_45 rfl rfl ?_
        refine g_arraylength C X0 d2_46 e0 B rfl ?_
        intro n46 h_n46
        obtain rfl : n46 = (2 : Int32) := own_inj32 (y := (2 : Int32)) h_n46
        refine g_icmp C X0 d2_47 (by decide) rfl rfl ?_ ?_
        · intro h47
          have h47 : ¬ (0 : Int) = 2 := h47
          refine g_iinc C X0 d2_52 rfl #[.val (.ref a), .val (.ref b), .val (.int (1 : Int32)), .val (.ref a), .val (.int (2 : Int32)), .val (.int (0 : Int32)), .val (.int x0)] rfl rfl ?_
          refine g_iinc C X0 d2_55 rfl #[.val (.ref a), .val (.ref b), .val (.int (1 : Int32)), .val (.ref a), .val (.int (2 : Int32)), .val (.int (1 : Int32)), .val (.int x0)] rfl rfl ?_
          refine g_goto C X0 d2_58 (by decide) rfl ?_
          refine g_iload C X0 d2_11 rfl rfl ?_
          refine g_iload C X0 d2_13 rfl rfl ?_
          refine g_icmp C X0 d2_15 (by decide) rfl rfl ?_ ?_
          · intro h15
            have h15 : (1 : Int) ≥ 2 := h15
            exact absurd h15 (by decide)
          · intro h15
            have h15 : (1 : Int) < 2 := h15
            refine g_aloadN C X0 d2_18 rfl rfl ?_
            refine g_iload C X0 d2_19 rfl rfl ?_
            refine g_iaload C X0 d2_21 e0 A (by decide) (by decide) (v := (.int x1)) rfl rfl ?_
            refine g_istore C X0 d2_22 #[.val (.ref a), .val (.ref b), .val (.int (1 : Int32)), .val (.ref a), .val (.int (2 : Int32)), .val (.int (1 : Int32)), .val (.int x1)] rfl rfl ?_
            refine g_iloadN C X0 d2_24 rfl rfl ?_
            refine g_aloadN C X0 d2_25 rfl rfl ?_
            refine g_arraylength C X0 d2_26 e0 B rfl ?_
            intro n26 h_n26
            obtain rfl : n26 = (2 : Int32) := own_inj32 (y := (2 : Int32)) h_n26
            refine g_icmp C X0 d2_27 (by decide) rfl rfl ?_ ?_
            · intro h27
              have h27 : (1 : Int) ≥ 2 := h27
              exact absurd h27 (by decide)
            · intro h27
              have h27 : (1 : Int) < 2 := h27
              refine g_aloadN C X0 d2_30 rfl rfl ?_
              refine g_iloadN C X0 d2_31 rfl rfl ?_
              refine g_iaload C X0 d2_32 e0 B (by decide) (by decide) (v := (.int r1)) rfl rfl ?_
              refine g_iload C X0 d2_33 rfl rfl ?_
              refine g_icmp C X0 d2_35 (by decide) rfl rfl ?_ ?_
              · intro h35
                have h35 : r1.toInt = x1.toInt := h35
                refine g_iloadN C X0 d2_44 rfl rfl ?_
                refine g_aloadN C X0 d2_45 rfl rfl ?_
                refine g_arraylength C X0 d2_46 e0 B rfl ?_
                intro n46 h_n46
                obtain rfl : n46 = (2 : Int32) := own_inj32 (y := (2 : Int32)) h_n46
                refine g_icmp C X0 d2_47 (by decide) rfl rfl ?_ ?_
                · intro h47
                  have h47 : ¬ (1 : Int) = 2 := h47
                  refine g_iinc C X0 d2_52 rfl #[.val (.ref a), .val (.ref b), .val (.int (2 : Int32)), .val (.ref a), .val (.int (2 : Int32)), .val (.int (1 : Int32)), .val (.int x1)] rfl rfl ?_
                  refine g_iinc C X0 d2_55 rfl #[.val (.ref a), .val (.ref b), .val (.int (2 : Int32)), .val (.ref a), .val (.int (2 : Int32)), .val (.int (2 : Int32)), .val (.int x1)] rfl rfl ?_
                  refine g_goto C X0 d2_58 (by decide) rfl ?_
                  refine g_iload C X0 d2_11 rfl rfl ?_
                  refine g_iload C X0 d2_13 rfl rfl ?_
                  refine g_icmp C X0 d2_15 (by decide) rfl rfl ?_ ?_
                  · intro h15
                    have h15 : (2 : Int) ≥ 2 := h15
                    refine g_aloadN C X0 d2_61 rfl rfl ?_
                    refine g_arraylength C X0 d2_62 e0 A rfl ?_
                    intro n62 h_n62
                    obtain rfl : n62 = (2 : Int32) := own_inj32 (y := (2 : Int32)) h_n62
                    refine g_if C X0 d2_63 (by decide) rfl rfl ?_ ?_
                    · intro h63
                      have h63 : (2 : Int) ≤ 0 := h63
                      exact absurd h63 (by decide)
                    · intro h63
                      have h63 : (2 : Int) > 0 := h63
                      refine g_iconst C X0 (1 : Int32) d2_66 rfl rfl ?_
                      refine g_goto C X0 d2_67 (by decide) rfl ?_
                      exact g_ireturnN C X0 d2_71 rfl (Or.inl rfl) ⟨⟨(1 : Int32), rfl, Or.inl ⟨rfl, by omega⟩⟩, N0, e0⟩ (by decide) (by decide)
                  · intro h15
                    have h15 : (2 : Int) < 2 := h15
                    exact absurd h15 (by decide)
                · intro h47
                  have h47 : (1 : Int) = 2 := h47
                  exact absurd h47 (by decide)
              · intro h35
                have h35 : ¬ r1.toInt = x1.toInt := h35
                refine g_iinc C X0 d2_38 rfl #[.val (.ref a), .val (.ref b), .val (.int (2 : Int32)), .val (.ref a), .val (.int (2 : Int32)), .val (.int (1 : Int32)), .val (.int x1)] rfl rfl ?_
                refine g_goto C X0 d2_41 (by decide) rfl ?_
                refine g_iloadN C X0 d2_24 rfl rfl ?_
                refine g_aloadN C X0 d2_25 rfl rfl ?_
                refine g_arraylength C X0 d2_26 e0 B rfl ?_
                intro n26 h_n26
                obtain rfl : n26 = (2 : Int32) := own_inj32 (y := (2 : Int32)) h_n26
                refine g_icmp C X0 d2_27 (by decide) rfl rfl ?_ ?_
                · intro h27
                  have h27 : (2 : Int) ≥ 2 := h27
                  refine g_iloadN C X0 d2_44 rfl rfl ?_
                  refine g_aloadN C X0 d2_45 rfl rfl ?_
                  refine g_arraylength C X0 d2_46 e0 B rfl ?_
                  intro n46 h_n46
                  obtain rfl : n46 = (2 : Int32) := own_inj32 (y := (2 : Int32)) h_n46
                  refine g_icmp C X0 d2_47 (by decide) rfl rfl ?_ ?_
                  · intro h47
                    have h47 : ¬ (2 : Int) = 2 := h47
                    exact absurd h47 (by decide)
                  · intro h47
                    have h47 : (2 : Int) = 2 := h47
                    refine g_iconst C X0 (0 : Int32) d2_50 rfl rfl ?_
                    exact g_ireturnN C X0 d2_51 rfl (Or.inl rfl) ⟨⟨(0 : Int32), rfl, Or.inr ⟨rfl, by omega⟩⟩, N0, e0⟩ (by decide) (by decide)
                · intro h27
                  have h27 : (2 : Int) < 2 := h27
                  exact absurd h27 (by decide)
        · intro h47
          have h47 : (0 : Int) = 2 := h47
          exact absurd h47 (by decide)
      · intro h35
        have h35 : ¬ r0.toInt = x0.toInt := h35
        refine g_iinc C X0 d2_38 rfl #[.val (.ref a), .val (.ref b), .val (.int (1 : Int32)), .val (.ref a), .val (.int (2 : Int32)), .val (.int (0 : Int32)), .val (.int x0)] rfl rfl ?_
        refine g_goto C X0 d2_41 (by decide) rfl ?_
        refine g_iloadN C X0 d2_24 rfl rfl ?_
        refine g_aloadN C X0 d2_25 rfl rfl ?_
        refine g_arraylength C X0 d2_26 e0 B rfl ?_
        intro n26 h_n26
        obtain rfl : n26 = (2 : Int32) := own_inj32 (y := (2 : Int32)) h_n26
        refine g_icmp C X0 d2_27 (by decide) rfl rfl ?_ ?_
        · intro h27
          have h27 : (1 : Int) ≥ 2 := h27
          exact absurd h27 (by decide)
        · intro h27
          have h27 : (1 : Int) < 2 := h27
          refine g_aloadN C X0 d2_30 rfl rfl ?_
          refine g_iloadN C X0 d2_31 rfl rfl ?_
          refine g_iaload C X0 d2_32 e0 B (by decide) (by decide) (v := (.int r1)) rfl rfl ?_
          refine g_iload C X0 d2_33 rfl rfl ?_
          refine g_icmp C X0 d2_35 (by decide) rfl rfl ?_ ?_
          · intro h35
            have h35 : r1.toInt = x0.toInt := h35
            refine g_iloadN C X0 d2_44 rfl rfl ?_
            refine g_aloadN C X0 d2_45 rfl rfl ?_
            refine g_arraylength C X0 d2_46 e0 B rfl ?_
            intro n46 h_n46
            obtain rfl : n46 = (2 : Int32) := own_inj32 (y := (2 : Int32)) h_n46
            refine g_icmp C X0 d2_47 (by decide) rfl rfl ?_ ?_
            · intro h47
              have h47 : ¬ (1 : Int) = 2 := h47
              refine g_iinc C X0 d2_52 rfl #[.val (.ref a), .val (.ref b), .val (.int (2 : Int32)), .val (.ref a), .val (.int (2 : Int32)), .val (.int (0 : Int32)), .val (.int x0)] rfl rfl ?_
              refine g_iinc C X0 d2_55 rfl #[.val (.ref a), .val (.ref b), .val (.int (2 : Int32)), .val (.ref a), .val (.int (2 : Int32)), .val (.int (1 : Int32)), .val (.int x0)] rfl rfl ?_
              refine g_goto C X0 d2_58 (by decide) rfl ?_
              refine g_iload C X0 d2_11 rfl rfl ?_
              refine g_iload C X0 d2_13 rfl rfl ?_
              refine g_icmp C X0 d2_15 (by decide) rfl rfl ?_ ?_
              · intro h15
                have h15 : (1 : Int) ≥ 2 := h15
                exact absurd h15 (by decide)
              · intro h15
                have h15 : (1 : Int) < 2 := h15
                refine g_aloadN C X0 d2_18 rfl rfl ?_
                refine g_iload C X0 d2_19 rfl rfl ?_
                refine g_iaload C X0 d2_21 e0 A (by decide) (by decide) (v := (.int x1)) rfl rfl ?_
                refine g_istore C X0 d2_22 #[.val (.ref a), .val (.ref b), .val (.int (2 : Int32)), .val (.ref a), .val (.int (2 : Int32)), .val (.int (1 : Int32)), .val (.int x1)] rfl rfl ?_
                refine g_iloadN C X0 d2_24 rfl rfl ?_
                refine g_aloadN C X0 d2_25 rfl rfl ?_
                refine g_arraylength C X0 d2_26 e0 B rfl ?_
                intro n26 h_n26
                obtain rfl : n26 = (2 : Int32) := own_inj32 (y := (2 : Int32)) h_n26
                refine g_icmp C X0 d2_27 (by decide) rfl rfl ?_ ?_
                · intro h27
                  have h27 : (2 : Int) ≥ 2 := h27
                  refine g_iloadN C X0 d2_44 rfl rfl ?_
                  refine g_aloadN C X0 d2_45 rfl rfl ?_
                  refine g_arraylength C X0 d2_46 e0 B rfl ?_
                  intro n46 h_n46
                  obtain rfl : n46 = (2 : Int32) := own_inj32 (y := (2 : Int32)) h_n46
                  refine g_icmp C X0 d2_47 (by decide) rfl rfl ?_ ?_
                  · intro h47
                    have h47 : ¬ (2 : Int) = 2 := h47
                    exact absurd h47 (by decide)
                  · intro h47
                    have h47 : (2 : Int) = 2 := h47
                    refine g_iconst C X0 (0 : Int32) d2_50 rfl rfl ?_
                    exact g_ireturnN C X0 d2_51 rfl (Or.inl rfl) ⟨⟨(0 : Int32), rfl, Or.inr ⟨rfl, by omega⟩⟩, N0, e0⟩ (by decide) (by decide)
                · intro h27
                  have h27 : (2 : Int) < 2 := h27
                  exact absurd h27 (by decide)
            · intro h47
              have h47 : (1 : Int) = 2 := h47
              exact absurd h47 (by decide)
          · intro h35
            have h35 : ¬ r1.toInt = x0.toInt := h35
            refine g_iinc C X0 d2_38 rfl #[.val (.ref a), .val (.ref b), .val (.int (2 : Int32)), .val (.ref a), .val (.int (2 : Int32)), .val (.int (0 : Int32)), .val (.int x0)] rfl rfl ?_
            refine g_goto C X0 d2_41 (by decide) rfl ?_
            refine g_iloadN C X0 d2_24 rfl rfl ?_
            refine g_aloadN C X0 d2_25 rfl rfl ?_
            refine g_arraylength C X0 d2_26 e0 B rfl ?_
            intro n26 h_n26
            obtain rfl : n26 = (2 : Int32) := own_inj32 (y := (2 : Int32)) h_n26
            refine g_icmp C X0 d2_27 (by decide) rfl rfl ?_ ?_
            · intro h27
              have h27 : (2 : Int) ≥ 2 := h27
              refine g_iloadN C X0 d2_44 rfl rfl ?_
              refine g_aloadN C X0 d2_45 rfl rfl ?_
              refine g_arraylength C X0 d2_46 e0 B rfl ?_
              intro n46 h_n46
              obtain rfl : n46 = (2 : Int32) := own_inj32 (y := (2 : Int32)) h_n46
              refine g_icmp C X0 d2_47 (by decide) rfl rfl ?_ ?_
              · intro h47
                have h47 : ¬ (2 : Int) = 2 := h47
                exact absurd h47 (by decide)
              · intro h47
                have h47 : (2 : Int) = 2 := h47
                refine g_iconst C X0 (0 : Int32) d2_50 rfl rfl ?_
                exact g_ireturnN C X0 d2_51 rfl (Or.inl rfl) ⟨⟨(0 : Int32), rfl, Or.inr ⟨rfl, by omega⟩⟩, N0, e0⟩ (by decide) (by decide)
            · intro h27
              have h27 : (2 : Int) < 2 := h27
              exact absurd h27 (by decide)
def Q_sy2_3 (Z : State) (a : Addr) (b : Addr) (x0 : Int32) (x1 : Int32) (x2 : Int32) (r0 : Int32) (r1 : Int32) (r2 : Int32) (r3 : Int32) (h0 : Heap) (n0 : Nat) (v : Option Value) (h : Heap) (L : List Loc) : Prop := (∃ r : Int32, v = some (.int r) ∧ (r = 1 ∧ ((r0.toInt = x0.toInt ∧ r1.toInt = x1.toInt) ∨ (r0.toInt = x0.toInt ∧ r2.toInt = x1.toInt) ∨ (r1.toInt = x0.toInt ∧ r2.toInt = x1.toInt)) ∨ r = 0 ∧ ¬ ((r0.toInt = x0.toInt ∧ r1.toInt = x1.toInt) ∨ (r0.toInt = x0.toInt ∧ r2.toInt = x1.toInt) ∨ (r1.toInt = x0.toInt ∧ r2.toInt = x1.toInt)))) ∧ Fr n0 L ∧ h = h0
set_option maxRecDepth 65536 in
set_option maxHeartbeats 40000000 in
theorem sy2_3 (l : Launch) (Z : State) (a0 : Array Value) (hw : ∀ d ∈ tables_1, d.before a0 Z = true) (ws : List Jvm.Cond) (a : Addr) (b : Addr) (x0 x1 x2 r0 r1 r2 r3 : Int32) (h0 : Heap) (n0 : Nat) (Z0 : n0 ≤ h0.size) (A : Aw Z h0 a .int 2 (fun j => .int (([x0, x1] : List Int32).getD j 0))) (B : Aw Z h0 b .int 3 (fun j => .int (([r0, r1, r2, r3] : List Int32).getD j 0))) :
    MetFree l (⟨"com/example/ballast/ballast/storage/ClusterCatalog", "isInSyncOf", "([I[I)Z"⟩ : MethodName) (head1 (Jvm.Cond.code (⟨"com/example/ballast/ballast/storage/ClusterCatalog", "isInSyncOf", "([I[I)Z"⟩ : MethodName) prog_270_method_61_code 7 (some .boolean) :: ws) ({ frames := 0, cells := 0, slots := 0, locals := 0 } : Room)) (fun aa U => aa = #[(.ref a), (.ref b)] ∧ Z.Warmed39 U.vm ∧ U.heap = h0) (fun _ _ _ _ _ => True) (fun _ U oo U' => ∃ rv Lr, oo = .returned rv ∧ Q_sy2_3 Z a b x0 x1 x2 r0 r1 r2 r3 h0 n0 rv U'.heap Lr ∧ FrameEnd U oo U' Lr ({ frames := 0, cells := 0, slots := 0, locals := 0 } : Room).cells ({ frames := 0, cells := 0, slots := 0, locals := 0 } : Room).slots) := by
  refine g_enter pn_2 hw (ef_2 a b) ?_
  intro p e s m below meth c T0 C X0 e0
  have C : Cx Z a0 p s m meth c prog_270_method_61_code 7 "com/example/ballast/ballast/storage/ClusterCatalog" "isInSyncOf" (some .boolean) := C
  have N0 := Fr.nil n0
  refine g_iconst C X0 (0 : Int32) d2_0 rfl rfl ?_
  refine g_istoreN C X0 d2_1 #[.val (.ref a), .val (.ref b), .val (.int (0 : Int32)), .unset, .unset, .unset, .unset] rfl rfl ?_
  refine g_aloadN C X0 d2_2 rfl rfl ?_
  refine g_astoreN C X0 d2_3 #[.val (.ref a), .val (.ref b), .val (.int (0 : Int32)), .val (.ref a), .unset, .unset, .unset] rfl rfl ?_
  refine g_aloadN C X0 d2_4 rfl rfl ?_
  refine g_arraylength C X0 d2_5 e0 A rfl ?_
  intro n5 h_n5
  obtain rfl : n5 = (2 : Int32) := own_inj32 (y := (2 : Int32)) h_n5
  refine g_istore C X0 d2_6 #[.val (.ref a), .val (.ref b), .val (.int (0 : Int32)), .val (.ref a), .val (.int (2 : Int32)), .unset, .unset] rfl rfl ?_
  refine g_iconst C X0 (0 : Int32) d2_8 rfl rfl ?_
  refine g_istore C X0 d2_9 #[.val (.ref a), .val (.ref b), .val (.int (0 : Int32)), .val (.ref a), .val (.int (2 : Int32)), .val (.int (0 : Int32)), .unset] rfl rfl ?_
  refine g_iload C X0 d2_11 rfl rfl ?_
  refine g_iload C X0 d2_13 rfl rfl ?_
  refine g_icmp C X0 d2_15 (by decide) rfl rfl ?_ ?_
  · intro h15
    have h15 : (0 : Int) ≥ 2 := h15
    exact absurd h15 (by decide)
  · intro h15
    have h15 : (0 : Int) < 2 := h15
    refine g_aloadN C X0 d2_18 rfl rfl ?_
    refine g_iload C X0 d2_19 rfl rfl ?_
    refine g_iaload C X0 d2_21 e0 A (by decide) (by decide) (v := (.int x0)) rfl rfl ?_
    refine g_istore C X0 d2_22 #[.val (.ref a), .val (.ref b), .val (.int (0 : Int32)), .val (.ref a), .val (.int (2 : Int32)), .val (.int (0 : Int32)), .val (.int x0)] rfl rfl ?_
    refine g_iloadN C X0 d2_24 rfl rfl ?_
    refine g_aloadN C X0 d2_25 rfl rfl ?_
    refine g_arraylength C X0 d2_26 e0 B rfl ?_
    intro n26 h_n26
    obtain rfl : n26 = (3 : Int32) := own_inj32 (y := (3 : Int32)) h_n26
    refine g_icmp C X0 d2_27 (by decide) rfl rfl ?_ ?_
    · intro h27
      have h27 : (0 : Int) ≥ 3 := h27
      exact absurd h27 (by decide)
    · intro h27
      have h27 : (0 : Int) < 3 := h27
      refine g_aloadN C X0 d2_30 rfl rfl ?_
      refine g_iloadN C X0 d2_31 rfl rfl ?_
      refine g_iaload C X0 d2_32 e0 B (by decide) (by decide) (v := (.int r0)) rfl rfl ?_
      refine g_iload C X0 d2_33 rfl rfl ?_
      refine g_icmp C X0 d2_35 (by decide) rfl rfl ?_ ?_
      · intro h35
        have h35 : r0.toInt = x0.toInt := h35
        refine g_iloadN C X0 d2_44 rfl rfl ?_
        refine g_aloadN C X0 d2_45 rfl rfl ?_
        refine g_arraylength C X0 d2_46 e0 B rfl ?_
        intro n46 h_n46
        obtain rfl : n46 = (3 : Int32) := own_inj32 (y := (3 : Int32)) h_n46
        refine g_icmp C X0 d2_47 (by decide) rfl rfl ?_ ?_
        · intro h47
          have h47 : ¬ (0 : Int) = 3 := h47
          refine g_iinc C X0 d2_52 rfl #[.val (.ref a), .val (.ref b), .val (.int (1 : Int32)), .val (.ref a), .val (.int (2 : Int32)), .val (.int (0 : Int32)), .val (.int x0)] rfl rfl ?_
          refine g_iinc C X0 d2_55 rfl #[.val (.ref a), .val (.ref b), .val (.int (1 : Int32)), .val (.ref a), .val (.int (2 : Int32)), .val (.int (1 : Int32)), .val (.int x0)] rfl rfl ?_
          refine g_goto C X0 d2_58 (by decide) rfl ?_
          refine g_iload C X0 d2_11 rfl rfl ?_
          refine g_iload C X0 d2_13 rfl rfl ?_
          refine g_icmp C X0 d2_15 (by decide) rfl rfl ?_ ?_
          · intro h15
            have h15 : (1 : Int) ≥ 2 := h15
            exact absurd h15 (by decide)
          · intro h15
            have h15 : (1 : Int) < 2 := h15
            refine g_aloadN C X0 d2_18 rfl rfl ?_
            refine g_iload C X0 d2_19 rfl rfl ?_
            refine g_iaload C X0 d2_21 e0 A (by decide) (by decide) (v := (.int x1)) rfl rfl ?_
            refine g_istore C X0 d2_22 #[.val (.ref a), .val (.ref b), .val (.int (1 : Int32)), .val (.ref a), .val (.int (2 : Int32)), .val (.int (1 : Int32)), .val (.int x1)] rfl rfl ?_
            refine g_iloadN C X0 d2_24 rfl rfl ?_
            refine g_aloadN C X0 d2_25 rfl rfl ?_
            refine g_arraylength C X0 d2_26 e0 B rfl ?_
            intro n26 h_n26
            obtain rfl : n26 = (3 : Int32) := own_inj32 (y := (3 : Int32)) h_n26
            refine g_icmp C X0 d2_27 (by decide) rfl rfl ?_ ?_
            · intro h27
              have h27 : (1 : Int) ≥ 3 := h27
              exact absurd h27 (by decide)
            · intro h27
              have h27 : (1 : Int) < 3 := h27
              refine g_aloadN C X0 d2_30 rfl rfl ?_
              refine g_iloadN C X0 d2_31 rfl rfl ?_
              refine g_iaload C X0 d2_32 e0 B (by decide) (by decide) (v := (.int r1)) rfl rfl ?_
              refine g_iload C X0 d2_33 rfl rfl ?_
              refine g_icmp C X0 d2_35 (by decide) rfl rfl ?_ ?_
              · intro h35
                have h35 : r1.toInt = x1.toInt := h35
                refine g_iloadN C X0 d2_44 rfl rfl ?_
                refine g_aloadN C X0 d2_45 rfl rfl ?_
                refine g_arraylength C X0 d2_46 e0 B rfl ?_
                intro n46 h_n46
                obtain rfl : n46 = (3 : Int32) := own_inj32 (y := (3 : Int32)) h_n46
                refine g_icmp C X0 d2_47 (by decide) rfl rfl ?_ ?_
                · intro h47
                  have h47 : ¬ (1 : Int) = 3 := h47
                  refine g_iinc C X0 d2_52 rfl #[.val (.ref a), .val (.ref b), .val (.int (2 : Int32)), .val (.ref a), .val (.int (2 : Int32)), .val (.int (1 : Int32)), .val (.int x1)] rfl rfl ?_
                  refine g_iinc C X0 d2_55 rfl #[.val (.ref a), .val (.ref b), .val (.int (2 : Int32)), .val (.ref a), .val (.int (2 : Int32)), .val (.int (2 : Int32)), .val (.int x1)] rfl rfl ?_
                  refine g_goto C X0 d2_58 (by decide) rfl ?_
                  refine g_iload C X0 d2_11 rfl rfl ?_
                  refine g_iload C X0 d2_13 rfl rfl ?_
                  refine g_icmp C X0 d2_15 (by decide) rfl rfl ?_ ?_
                  · intro h15
                    have h15 : (2 : Int) ≥ 2 := h15
                    refine g_aloadN C X0 d2_61 rfl rfl ?_
                    refine g_arraylength C X0 d2_62 e0 A rfl ?_
                    intro n62 h_n62
                    obtain rfl : n62 = (2 : Int32) := own_inj32 (y := (2 : Int32)) h_n62
                    refine g_if C X0 d2_63 (by decide) rfl rfl ?_ ?_
                    · intro h63
                      have h63 : (2 : Int) ≤ 0 := h63
                      exact absurd h63 (by decide)
                    · intro h63
                      have h63 : (2 : Int) > 0 := h63
                      refine g_iconst C X0 (1 : Int32) d2_66 rfl rfl ?_
                      refine g_goto C X0 d2_67 (by decide) rfl ?_
                      exact g_ireturnN C X0 d2_71 rfl (Or.inl rfl) ⟨⟨(1 : Int32), rfl, Or.inl ⟨rfl, by omega⟩⟩, N0, e0⟩ (by decide) (by decide)
                  · intro h15
                    have h15 : (2 : Int) < 2 := h15
                    exact absurd h15 (by decide)
                · intro h47
                  have h47 : (1 : Int) = 3 := h47
                  exact absurd h47 (by decide)
              · intro h35
                have h35 : ¬ r1.toInt = x1.toInt := h35
                refine g_iinc C X0 d2_38 rfl #[.val (.ref a), .val (.ref b), .val (.int (2 : Int32)), .val (.ref a), .val (.int (2 : Int32)), .val (.int (1 : Int32)), .val (.int x1)] rfl rfl ?_
                refine g_goto C X0 d2_41 (by decide) rfl ?_
                refine g_iloadN C X0 d2_24 rfl rfl ?_
                refine g_aloadN C X0 d2_25 rfl rfl ?_
                refine g_arraylength C X0 d2_26 e0 B rfl ?_
                intro n26 h_n26
                obtain rfl : n26 = (3 : Int32) := own_inj32 (y := (3 : Int32)) h_n26
                refine g_icmp C X0 d2_27 (by decide) rfl rfl ?_ ?_
                · intro h27
                  have h27 : (2 : Int) ≥ 3 := h27
                  exact absurd h27 (by decide)
                · intro h27
                  have h27 : (2 : Int) < 3 := h27
                  refine g_aloadN C X0 d2_30 rfl rfl ?_
                  refine g_iloadN C X0 d2_31 rfl rfl ?_
                  refine g_iaload C X0 d2_32 e0 B (by decide) (by decide) (v := (.int r2)) rfl rfl ?_
                  refine g_iload C X0 d2_33 rfl rfl ?_
                  refine g_icmp C X0 d2_35 (by decide) rfl rfl ?_ ?_
                  · intro h35
                    have h35 : r2.toInt = x1.toInt := h35
                    refine g_iloadN C X0 d2_44 rfl rfl ?_
                    refine g_aloadN C X0 d2_45 rfl rfl ?_
                    refine g_arraylength C X0 d2_46 e0 B rfl ?_
                    intro n46 h_n46
                    obtain rfl : n46 = (3 : Int32) := own_inj32 (y := (3 : Int32)) h_n46
                    refine g_icmp C X0 d2_47 (by decide) rfl rfl ?_ ?_
                    · intro h47
                      have h47 : ¬ (2 : Int) = 3 := h47
                      refine g_iinc C X0 d2_52 rfl #[.val (.ref a), .val (.ref b), .val (.int (3 : Int32)), .val (.ref a), .val (.int (2 : Int32)), .val (.int (1 : Int32)), .val (.int x1)] rfl rfl ?_
                      refine g_iinc C X0 d2_55 rfl #[.val (.ref a), .val (.ref b), .val (.int (3 : Int32)), .val (.ref a), .val (.int (2 : Int32)), .val (.int (2 : Int32)), .val (.int x1)] rfl rfl ?_
                      refine g_goto C X0 d2_58 (by decide) rfl ?_
                      refine g_iload C X0 d2_11 rfl rfl ?_
                      refine g_iload C X0 d2_13 rfl rfl ?_
                      refine g_icmp C X0 d2_15 (by decide) rfl rfl ?_ ?_
                      · intro h15
                        have h15 : (2 : Int) ≥ 2 := h15
                        refine g_aloadN C X0 d2_61 rfl rfl ?_
                        refine g_arraylength C X0 d2_62 e0 A rfl ?_
                        intro n62 h_n62
                        obtain rfl : n62 = (2 : Int32) := own_inj32 (y := (2 : Int32)) h_n62
                        refine g_if C X0 d2_63 (by decide) rfl rfl ?_ ?_
                        · intro h63
                          have h63 : (2 : Int) ≤ 0 := h63
                          exact absurd h63 (by decide)
                        · intro h63
                          have h63 : (2 : Int) > 0 := h63
                          refine g_iconst C X0 (1 : Int32) d2_66 rfl rfl ?_
                          refine g_goto C X0 d2_67 (by decide) rfl ?_
                          exact g_ireturnN C X0 d2_71 rfl (Or.inl rfl) ⟨⟨(1 : Int32), rfl, Or.inl ⟨rfl, by omega⟩⟩, N0, e0⟩ (by decide) (by decide)
                      · intro h15
                        have h15 : (2 : Int) < 2 := h15
                        exact absurd h15 (by decide)
                    · intro h47
                      have h47 : (2 : Int) = 3 := h47
                      exact absurd h47 (by decide)
                  · intro h35
                    have h35 : ¬ r2.toInt = x1.toInt := h35
                    refine g_iinc C X0 d2_38 rfl #[.val (.ref a), .val (.ref b), .val (.int (3 : Int32)), .val (.ref a), .val (.int (2 : Int32)), .val (.int (1 : Int32)), .val (.int x1)] rfl rfl ?_
                    refine g_goto C X0 d2_41 (by decide) rfl ?_
                    refine g_iloadN C X0 d2_24 rfl rfl ?_
                    refine g_aloadN C X0 d2_25 rfl rfl ?_
                    refine g_arraylength C X0 d2_26 e0 B rfl ?_
                    intro n26 h_n26
                    obtain rfl : n26 = (3 : Int32) := own_inj32 (y := (3 : Int32)) h_n26
                    refine g_icmp C X0 d2_27 (by decide) rfl rfl ?_ ?_
                    · intro h27
                      have h27 : (3 : Int) ≥ 3 := h27
                      refine g_iloadN C X0 d2_44 rfl rfl ?_
                      refine g_aloadN C X0 d2_45 rfl rfl ?_
                      refine g_arraylength C X0 d2_46 e0 B rfl ?_
                      intro n46 h_n46
                      obtain rfl : n46 = (3 : Int32) := own_inj32 (y := (3 : Int32)) h_n46
                      refine g_icmp C X0 d2_47 (by decide) rfl rfl ?_ ?_
                      · intro h47
                        have h47 : ¬ (3 : Int) = 3 := h47
                        exact absurd h47 (by decide)
                      · intro h47
                        have h47 : (3 : Int) = 3 := h47
                        refine g_iconst C X0 (0 : Int32) d2_50 rfl rfl ?_
                        exact g_ireturnN C X0 d2_51 rfl (Or.inl rfl) ⟨⟨(0 : Int32), rfl, Or.inr ⟨rfl, by omega⟩⟩, N0, e0⟩ (by decide) (by decide)
                    · intro h27
                      have h27 : (3 : Int) < 3 := h27
                      exact absurd h27 (by decide)
        · intro h47
          have h47 : (0 : Int) = 3 := h47
          exact absurd h47 (by decide)
      · intro h35
        have h35 : ¬ r0.toInt = x0.toInt := h35
        refine g_iinc C X0 d2_38 rfl #[.val (.ref a), .val (.ref b), .val (.int (1 : Int32)), .val (.ref a), .val (.int (2 : Int32)), .val (.int (0 : Int32)), .val (.int x0)] rfl rfl ?_
        refine g_goto C X0 d2_41 (by decide) rfl ?_
        refine g_iloadN C X0 d2_24 rfl rfl ?_
        refine g_aloadN C X0 d2_25 rfl rfl ?_
        refine g_arraylength C X0 d2_26 e0 B rfl ?_
        intro n26 h_n26
        obtain rfl : n26 = (3 : Int32) := own_inj32 (y := (3 : Int32)) h_n26
        refine g_icmp C X0 d2_27 (by decide) rfl rfl ?_ ?_
        · intro h27
          have h27 : (1 : Int) ≥ 3 := h27
          exact absurd h27 (by decide)
        · intro h27
          have h27 : (1 : Int) < 3 := h27
          refine g_aloadN C X0 d2_30 rfl rfl ?_
          refine g_iloadN C X0 d2_31 rfl rfl ?_
          refine g_iaload C X0 d2_32 e0 B (by decide) (by decide) (v := (.int r1)) rfl rfl ?_
          refine g_iload C X0 d2_33 rfl rfl ?_
          refine g_icmp C X0 d2_35 (by decide) rfl rfl ?_ ?_
          · intro h35
            have h35 : r1.toInt = x0.toInt := h35
            refine g_iloadN C X0 d2_44 rfl rfl ?_
            refine g_aloadN C X0 d2_45 rfl rfl ?_
            refine g_arraylength C X0 d2_46 e0 B rfl ?_
            intro n46 h_n46
            obtain rfl : n46 = (3 : Int32) := own_inj32 (y := (3 : Int32)) h_n46
            refine g_icmp C X0 d2_47 (by decide) rfl rfl ?_ ?_
            · intro h47
              have h47 : ¬ (1 : Int) = 3 := h47
              refine g_iinc C X0 d2_52 rfl #[.val (.ref a), .val (.ref b), .val (.int (2 : Int32)), .val (.ref a), .val (.int (2 : Int32)), .val (.int (0 : Int32)), .val (.int x0)] rfl rfl ?_
              refine g_iinc C X0 d2_55 rfl #[.val (.ref a), .val (.ref b), .val (.int (2 : Int32)), .val (.ref a), .val (.int (2 : Int32)), .val (.int (1 : Int32)), .val (.int x0)] rfl rfl ?_
              refine g_goto C X0 d2_58 (by decide) rfl ?_
              refine g_iload C X0 d2_11 rfl rfl ?_
              refine g_iload C X0 d2_13 rfl rfl ?_
              refine g_icmp C X0 d2_15 (by decide) rfl rfl ?_ ?_
              · intro h15
                have h15 : (1 : Int) ≥ 2 := h15
                exact absurd h15 (by decide)
              · intro h15
                have h15 : (1 : Int) < 2 := h15
                refine g_aloadN C X0 d2_18 rfl rfl ?_
                refine g_iload C X0 d2_19 rfl rfl ?_
                refine g_iaload C X0 d2_21 e0 A (by decide) (by decide) (v := (.int x1)) rfl rfl ?_
                refine g_istore C X0 d2_22 #[.val (.ref a), .val (.ref b), .val (.int (2 : Int32)), .val (.ref a), .val (.int (2 : Int32)), .val (.int (1 : Int32)), .val (.int x1)] rfl rfl ?_
                refine g_iloadN C X0 d2_24 rfl rfl ?_
                refine g_aloadN C X0 d2_25 rfl rfl ?_
                refine g_arraylength C X0 d2_26 e0 B rfl ?_
                intro n26 h_n26
                obtain rfl : n26 = (3 : Int32) := own_inj32 (y := (3 : Int32)) h_n26
                refine g_icmp C X0 d2_27 (by decide) rfl rfl ?_ ?_
                · intro h27
                  have h27 : (2 : Int) ≥ 3 := h27
                  exact absurd h27 (by decide)
                · intro h27
                  have h27 : (2 : Int) < 3 := h27
                  refine g_aloadN C X0 d2_30 rfl rfl ?_
                  refine g_iloadN C X0 d2_31 rfl rfl ?_
                  refine g_iaload C X0 d2_32 e0 B (by decide) (by decide) (v := (.int r2)) rfl rfl ?_
                  refine g_iload C X0 d2_33 rfl rfl ?_
                  refine g_icmp C X0 d2_35 (by decide) rfl rfl ?_ ?_
                  · intro h35
                    have h35 : r2.toInt = x1.toInt := h35
                    refine g_iloadN C X0 d2_44 rfl rfl ?_
                    refine g_aloadN C X0 d2_45 rfl rfl ?_
                    refine g_arraylength C X0 d2_46 e0 B rfl ?_
                    intro n46 h_n46
                    obtain rfl : n46 = (3 : Int32) := own_inj32 (y := (3 : Int32)) h_n46
                    refine g_icmp C X0 d2_47 (by decide) rfl rfl ?_ ?_
                    · intro h47
                      have h47 : ¬ (2 : Int) = 3 := h47
                      refine g_iinc C X0 d2_52 rfl #[.val (.ref a), .val (.ref b), .val (.int (3 : Int32)), .val (.ref a), .val (.int (2 : Int32)), .val (.int (1 : Int32)), .val (.int x1)] rfl rfl ?_
                      refine g_iinc C X0 d2_55 rfl #[.val (.ref a), .val (.ref b), .val (.int (3 : Int32)), .val (.ref a), .val (.int (2 : Int32)), .val (.int (2 : Int32)), .val (.int x1)] rfl rfl ?_
                      refine g_goto C X0 d2_58 (by decide) rfl ?_
                      refine g_iload C X0 d2_11 rfl rfl ?_
                      refine g_iload C X0 d2_13 rfl rfl ?_
                      refine g_icmp C X0 d2_15 (by decide) rfl rfl ?_ ?_
                      · intro h15
                        have h15 : (2 : Int) ≥ 2 := h15
                        refine g_aloadN C X0 d2_61 rfl rfl ?_
                        refine g_arraylength C X0 d2_62 e0 A rfl ?_
                        intro n62 h_n62
                        obtain rfl : n62 = (2 : Int32) := own_inj32 (y := (2 : Int32)) h_n62
                        refine g_if C X0 d2_63 (by decide) rfl rfl ?_ ?_
                        · intro h63
                          have h63 : (2 : Int) ≤ 0 := h63
                          exact absurd h63 (by decide)
                        · intro h63
                          have h63 : (2 : Int) > 0 := h63
                          refine g_iconst C X0 (1 : Int32) d2_66 rfl rfl ?_
                          refine g_goto C X0 d2_67 (by decide) rfl ?_
                          exact g_ireturnN C X0 d2_71 rfl (Or.inl rfl) ⟨⟨(1 : Int32), rfl, Or.inl ⟨rfl, by omega⟩⟩, N0, e0⟩ (by decide) (by decide)
                      · intro h15
                        have h15 : (2 : Int) < 2 := h15
                        exact absurd h15 (by decide)
                    · intro h47
                      have h47 : (2 : Int) = 3 := h47
                      exact absurd h47 (by decide)
                  · intro h35
                    have h35 : ¬ r2.toInt = x1.toInt := h35
                    refine g_iinc C X0 d2_38 rfl #[.val (.ref a), .val (.ref b), .val (.int (3 : Int32)), .val (.ref a), .val (.int (2 : Int32)), .val (.int (1 : Int32)), .val (.int x1)] rfl rfl ?_
                    refine g_goto C X0 d2_41 (by decide) rfl ?_
                    refine g_iloadN C X0 d2_24 rfl rfl ?_
                    refine g_aloadN C X0 d2_25 rfl rfl ?_
                    refine g_arraylength C X0 d2_26 e0 B rfl ?_
                    intro n26 h_n26
                    obtain rfl : n26 = (3 : Int32) := own_inj32 (y := (3 : Int32)) h_n26
                    refine g_icmp C X0 d2_27 (by decide) rfl rfl ?_ ?_
                    · intro h27
                      have h27 : (3 : Int) ≥ 3 := h27
                      refine g_iloadN C X0 d2_44 rfl rfl ?_
                      refine g_aloadN C X0 d2_45 rfl rfl ?_
                      refine g_arraylength C X0 d2_46 e0 B rfl ?_
                      intro n46 h_n46
                      obtain rfl : n46 = (3 : Int32) := own_inj32 (y := (3 : Int32)) h_n46
                      refine g_icmp C X0 d2_47 (by decide) rfl rfl ?_ ?_
                      · intro h47
                        have h47 : ¬ (3 : Int) = 3 := h47
                        exact absurd h47 (by decide)
                      · intro h47
                        have h47 : (3 : Int) = 3 := h47
                        refine g_iconst C X0 (0 : Int32) d2_50 rfl rfl ?_
                        exact g_ireturnN C X0 d2_51 rfl (Or.inl rfl) ⟨⟨(0 : Int32), rfl, Or.inr ⟨rfl, by omega⟩⟩, N0, e0⟩ (by decide) (by decide)
                    · intro h27
                      have h27 : (3 : Int) < 3 := h27
                      exact absurd h27 (by decide)
            · intro h47
              have h47 : (1 : Int) = 3 := h47
              exact absurd h47 (by decide)
          · intro h35
            have h35 : ¬ r1.toInt = x0.toInt := h35
            refine g_iinc C X0 d2_38 rfl #[.val (.ref a), .val (.ref b), .val (.int (2 : Int32)), .val (.ref a), .val (.int (2 : Int32)), .val (.int (0 : Int32)), .val (.int x0)] rfl rfl ?_
            refine g_goto C X0 d2_41 (by decide) rfl ?_
            refine g_iloadN C X0 d2_24 rfl rfl ?_
            refine g_aloadN C X0 d2_25 rfl rfl ?_
            refine g_arraylength C X0 d2_26 e0 B rfl ?_
            intro n26 h_n26
            obtain rfl : n26 = (3 : Int32) := own_inj32 (y := (3 : Int32)) h_n26
            refine g_icmp C X0 d2_27 (by decide) rfl rfl ?_ ?_
            · intro h27
              have h27 : (2 : Int) ≥ 3 := h27
              exact absurd h27 (by decide)
            · intro h27
              have h27 : (2 : Int) < 3 := h27
              refine g_aloadN C X0 d2_30 rfl rfl ?_
              refine g_iloadN C X0 d2_31 rfl rfl ?_
              refine g_iaload C X0 d2_32 e0 B (by decide) (by decide) (v := (.int r2)) rfl rfl ?_
              refine g_iload C X0 d2_33 rfl rfl ?_
              refine g_icmp C X0 d2_35 (by decide) rfl rfl ?_ ?_
              · intro h35
                have h35 : r2.toInt = x0.toInt := h35
                refine g_iloadN C X0 d2_44 rfl rfl ?_
                refine g_aloadN C X0 d2_45 rfl rfl ?_
                refine g_arraylength C X0 d2_46 e0 B rfl ?_
                intro n46 h_n46
                obtain rfl : n46 = (3 : Int32) := own_inj32 (y := (3 : Int32)) h_n46
                refine g_icmp C X0 d2_47 (by decide) rfl rfl ?_ ?_
                · intro h47
                  have h47 : ¬ (2 : Int) = 3 := h47
                  refine g_iinc C X0 d2_52 rfl #[.val (.ref a), .val (.ref b), .val (.int (3 : Int32)), .val (.ref a), .val (.int (2 : Int32)), .val (.int (0 : Int32)), .val (.int x0)] rfl rfl ?_
                  refine g_iinc C X0 d2_55 rfl #[.val (.ref a), .val (.ref b), .val (.int (3 : Int32)), .val (.ref a), .val (.int (2 : Int32)), .val (.int (1 : Int32)), .val (.int x0)] rfl rfl ?_
                  refine g_goto C X0 d2_58 (by decide) rfl ?_
                  refine g_iload C X0 d2_11 rfl rfl ?_
                  refine g_iload C X0 d2_13 rfl rfl ?_
                  refine g_icmp C X0 d2_15 (by decide) rfl rfl ?_ ?_
                  · intro h15
                    have h15 : (1 : Int) ≥ 2 := h15
                    exact absurd h15 (by decide)
                  · intro h15
                    have h15 : (1 : Int) < 2 := h15
                    refine g_aloadN C X0 d2_18 rfl rfl ?_
                    refine g_iload C X0 d2_19 rfl rfl ?_
                    refine g_iaload C X0 d2_21 e0 A (by decide) (by decide) (v := (.int x1)) rfl rfl ?_
                    refine g_istore C X0 d2_22 #[.val (.ref a), .val (.ref b), .val (.int (3 : Int32)), .val (.ref a), .val (.int (2 : Int32)), .val (.int (1 : Int32)), .val (.int x1)] rfl rfl ?_
                    refine g_iloadN C X0 d2_24 rfl rfl ?_
                    refine g_aloadN C X0 d2_25 rfl rfl ?_
                    refine g_arraylength C X0 d2_26 e0 B rfl ?_
                    intro n26 h_n26
                    obtain rfl : n26 = (3 : Int32) := own_inj32 (y := (3 : Int32)) h_n26
                    refine g_icmp C X0 d2_27 (by decide) rfl rfl ?_ ?_
                    · intro h27
                      have h27 : (3 : Int) ≥ 3 := h27
                      refine g_iloadN C X0 d2_44 rfl rfl ?_
                      refine g_aloadN C X0 d2_45 rfl rfl ?_
                      refine g_arraylength C X0 d2_46 e0 B rfl ?_
                      intro n46 h_n46
                      obtain rfl : n46 = (3 : Int32) := own_inj32 (y := (3 : Int32)) h_n46
                      refine g_icmp C X0 d2_47 (by decide) rfl rfl ?_ ?_
                      · intro h47
                        have h47 : ¬ (3 : Int) = 3 := h47
                        exact absurd h47 (by decide)
                      · intro h47
                        have h47 : (3 : Int) = 3 := h47
                        refine g_iconst C X0 (0 : Int32) d2_50 rfl rfl ?_
                        exact g_ireturnN C X0 d2_51 rfl (Or.inl rfl) ⟨⟨(0 : Int32), rfl, Or.inr ⟨rfl, by omega⟩⟩, N0, e0⟩ (by decide) (by decide)
                    · intro h27
                      have h27 : (3 : Int) < 3 := h27
                      exact absurd h27 (by decide)
                · intro h47
                  have h47 : (2 : Int) = 3 := h47
                  exact absurd h47 (by decide)
              · intro h35
                have h35 : ¬ r2.toInt = x0.toInt := h35
                refine g_iinc C X0 d2_38 rfl #[.val (.ref a), .val (.ref b), .val (.int (3 : Int32)), .val (.ref a), .val (.int (2 : Int32)), .val (.int (0 : Int32)), .val (.int x0)] rfl rfl ?_
                refine g_goto C X0 d2_41 (by decide) rfl ?_
                refine g_iloadN C X0 d2_24 rfl rfl ?_
                refine g_aloadN C X0 d2_25 rfl rfl ?_
                refine g_arraylength C X0 d2_26 e0 B rfl ?_
                intro n26 h_n26
                obtain rfl : n26 = (3 : Int32) := own_inj32 (y := (3 : Int32)) h_n26
                refine g_icmp C X0 d2_27 (by decide) rfl rfl ?_ ?_
                · intro h27
                  have h27 : (3 : Int) ≥ 3 := h27
                  refine g_iloadN C X0 d2_44 rfl rfl ?_
                  refine g_aloadN C X0 d2_45 rfl rfl ?_
                  refine g_arraylength C X0 d2_46 e0 B rfl ?_
                  intro n46 h_n46
                  obtain rfl : n46 = (3 : Int32) := own_inj32 (y := (3 : Int32)) h_n46
                  refine g_icmp C X0 d2_47 (by decide) rfl rfl ?_ ?_
                  · intro h47
                    have h47 : ¬ (3 : Int) = 3 := h47
                    exact absurd h47 (by decide)
                  · intro h47
                    have h47 : (3 : Int) = 3 := h47
                    refine g_iconst C X0 (0 : Int32) d2_50 rfl rfl ?_
                    exact g_ireturnN C X0 d2_51 rfl (Or.inl rfl) ⟨⟨(0 : Int32), rfl, Or.inr ⟨rfl, by omega⟩⟩, N0, e0⟩ (by decide) (by decide)
                · intro h27
                  have h27 : (3 : Int) < 3 := h27
                  exact absurd h27 (by decide)
def Q_sy2_4 (Z : State) (a : Addr) (b : Addr) (x0 : Int32) (x1 : Int32) (x2 : Int32) (r0 : Int32) (r1 : Int32) (r2 : Int32) (r3 : Int32) (h0 : Heap) (n0 : Nat) (v : Option Value) (h : Heap) (L : List Loc) : Prop := (∃ r : Int32, v = some (.int r) ∧ (r = 1 ∧ ((r0.toInt = x0.toInt ∧ r1.toInt = x1.toInt) ∨ (r0.toInt = x0.toInt ∧ r2.toInt = x1.toInt) ∨ (r0.toInt = x0.toInt ∧ r3.toInt = x1.toInt) ∨ (r1.toInt = x0.toInt ∧ r2.toInt = x1.toInt) ∨ (r1.toInt = x0.toInt ∧ r3.toInt = x1.toInt) ∨ (r2.toInt = x0.toInt ∧ r3.toInt = x1.toInt)) ∨ r = 0 ∧ ¬ ((r0.toInt = x0.toInt ∧ r1.toInt = x1.toInt) ∨ (r0.toInt = x0.toInt ∧ r2.toInt = x1.toInt) ∨ (r0.toInt = x0.toInt ∧ r3.toInt = x1.toInt) ∨ (r1.toInt = x0.toInt ∧ r2.toInt = x1.toInt) ∨ (r1.toInt = x0.toInt ∧ r3.toInt = x1.toInt) ∨ (r2.toInt = x0.toInt ∧ r3.toInt = x1.toInt)))) ∧ Fr n0 L ∧ h = h0
set_option maxRecDepth 65536 in
set_option maxHeartbeats 40000000 in
theorem sy2_4 (l : Launch) (Z : State) (a0 : Array Value) (hw : ∀ d ∈ tables_1, d.before a0 Z = true) (ws : List Jvm.Cond) (a : Addr) (b : Addr) (x0 x1 x2 r0 r1 r2 r3 : Int32) (h0 : Heap) (n0 : Nat) (Z0 : n0 ≤ h0.size) (A : Aw Z h0 a .int 2 (fun j => .int (([x0, x1] : List Int32).getD j 0))) (B : Aw Z h0 b .int 4 (fun j => .int (([r0, r1, r2, r3] : List Int32).getD j 0))) :
    MetFree l (⟨"com/example/ballast/ballast/storage/ClusterCatalog", "isInSyncOf", "([I[I)Z"⟩ : MethodName) (head1 (Jvm.Cond.code (⟨"com/example/ballast/ballast/storage/ClusterCatalog", "isInSyncOf", "([I[I)Z"⟩ : MethodName) prog_270_method_61_code 7 (some .boolean) :: ws) ({ frames := 0, cells := 0, slots := 0, locals := 0 } : Room)) (fun aa U => aa = #[(.ref a), (.ref b)] ∧ Z.Warmed39 U.vm ∧ U.heap = h0) (fun _ _ _ _ _ => True) (fun _ U oo U' => ∃ rv Lr, oo = .returned rv ∧ Q_sy2_4 Z a b x0 x1 x2 r0 r1 r2 r3 h0 n0 rv U'.heap Lr ∧ FrameEnd U oo U' Lr ({ frames := 0, cells := 0, slots := 0, locals := 0 } : Room).cells ({ frames := 0, cells := 0, slots := 0, locals := 0 } : Room).slots) := by
  refine g_enter pn_2 hw (ef_2 a b) ?_
  intro p e s m below meth c T0 C X0 e0
  have C : Cx Z a0 p s m meth c prog_270_method_61_code 7 "com/example/ballast/ballast/storage/ClusterCatalog" "isInSyncOf" (some .boolean) := C
  have N0 := Fr.nil n0
  refine g_iconst C X0 (0 : Int32) d2_0 rfl rfl ?_
  refine g_istoreN C X0 d2_1 #[.val (.ref a), .val (.ref b), .val (.int (0 : Int32)), .unset, .unset, .unset, .unset] rfl rfl ?_
  refine g_aloadN C X0 d2_2 rfl rfl ?_
  refine g_astoreN C X0 d2_3 #[.val (.ref a), .val (.ref b), .val (.int (0 : Int32)), .val (.ref a), .unset, .unset, .unset] rfl rfl ?_
  refine g_aloadN C X0 d2_4 rfl rfl ?_
  refine g_arraylength C X0 d2_5 e0 A rfl ?_
  intro n5 h_n5
  obtain rfl : n5 = (2 : Int32) := own_inj32 (y := (2 : Int32)) h_n5
  refine g_istore C X0 d2_6 #[.val (.ref a), .val (.ref b), .val (.int (0 : Int32)), .val (.ref a), .val (.int (2 : Int32)), .unset, .unset] rfl rfl ?_
  refine g_iconst C X0 (0 : Int32) d2_8 rfl rfl ?_
  refine g_istore C X0 d2_9 #[.val (.ref a), .val (.ref b), .val (.int (0 : Int32)), .val (.ref a), .val (.int (2 : Int32)), .val (.int (0 : Int32)), .unset] rfl rfl ?_
  refine g_iload C X0 d2_11 rfl rfl ?_
  refine g_iload C X0 d2_13 rfl rfl ?_
  refine g_icmp C X0 d2_15 (by decide) rfl rfl ?_ ?_
  · intro h15
    have h15 : (0 : Int) ≥ 2 := h15
    exact absurd h15 (by decide)
  · intro h15
    have h15 : (0 : Int) < 2 := h15
    refine g_aloadN C X0 d2_18 rfl rfl ?_
    refine g_iload C X0 d2_19 rfl rfl ?_
    refine g_iaload C X0 d2_21 e0 A (by decide) (by decide) (v := (.int x0)) rfl rfl ?_
    refine g_istore C X0 d2_22 #[.val (.ref a), .val (.ref b), .val (.int (0 : Int32)), .val (.ref a), .val (.int (2 : Int32)), .val (.int (0 : Int32)), .val (.int x0)] rfl rfl ?_
    refine g_iloadN C X0 d2_24 rfl rfl ?_
    refine g_aloadN C X0 d2_25 rfl rfl ?_
    refine g_arraylength C X0 d2_26 e0 B rfl ?_
    intro n26 h_n26
    obtain rfl : n26 = (4 : Int32) := own_inj32 (y := (4 : Int32)) h_n26
    refine g_icmp C X0 d2_27 (by decide) rfl rfl ?_ ?_
    · intro h27
      have h27 : (0 : Int) ≥ 4 := h27
      exact absurd h27 (by decide)
    · intro h27
      have h27 : (0 : Int) < 4 := h27
      refine g_aloadN C X0 d2_30 rfl rfl ?_
      refine g_iloadN C X0 d2_31 rfl rfl ?_
      refine g_iaload C X0 d2_32 e0 B (by decide) (by decide) (v := (.int r0)) rfl rfl ?_
      refine g_iload C X0 d2_33 rfl rfl ?_
      refine g_icmp C X0 d2_35 (by decide) rfl rfl ?_ ?_
      · intro h35
        have h35 : r0.toInt = x0.toInt := h35
        refine g_iloadN C X0 d2_44 rfl rfl ?_
        refine g_aloadN C X0 d2_45 rfl rfl ?_
        refine g_arraylength C X0 d2_46 e0 B rfl ?_
        intro n46 h_n46
        obtain rfl : n46 = (4 : Int32) := own_inj32 (y := (4 : Int32)) h_n46
        refine g_icmp C X0 d2_47 (by decide) rfl rfl ?_ ?_
        · intro h47
          have h47 : ¬ (0 : Int) = 4 := h47
          refine g_iinc C X0 d2_52 rfl #[.val (.ref a), .val (.ref b), .val (.int (1 : Int32)), .val (.ref a), .val (.int (2 : Int32)), .val (.int (0 : Int32)), .val (.int x0)] rfl rfl ?_
          refine g_iinc C X0 d2_55 rfl #[.val (.ref a), .val (.ref b), .val (.int (1 : Int32)), .val (.ref a), .val (.int (2 : Int32)), .val (.int (1 : Int32)), .val (.int x0)] rfl rfl ?_
          refine g_goto C X0 d2_58 (by decide) rfl ?_
          refine g_iload C X0 d2_11 rfl rfl ?_
          refine g_iload C X0 d2_13 rfl rfl ?_
          refine g_icmp C X0 d2_15 (by decide) rfl rfl ?_ ?_
          · intro h15
            have h15 : (1 : Int) ≥ 2 := h15
            exact absurd h15 (by decide)
          · intro h15
            have h15 : (1 : Int) < 2 := h15
            refine g_aloadN C X0 d2_18 rfl rfl ?_
            refine g_iload C X0 d2_19 rfl rfl ?_
            refine g_iaload C X0 d2_21 e0 A (by decide) (by decide) (v := (.int x1)) rfl rfl ?_
            refine g_istore C X0 d2_22 #[.val (.ref a), .val (.ref b), .val (.int (1 : Int32)), .val (.ref a), .val (.int (2 : Int32)), .val (.int (1 : Int32)), .val (.int x1)] rfl rfl ?_
            refine g_iloadN C X0 d2_24 rfl rfl ?_
            refine g_aloadN C X0 d2_25 rfl rfl ?_
            refine g_arraylength C X0 d2_26 e0 B rfl ?_
            intro n26 h_n26
            obtain rfl : n26 = (4 : Int32) := own_inj32 (y := (4 : Int32)) h_n26
            refine g_icmp C X0 d2_27 (by decide) rfl rfl ?_ ?_
            · intro h27
              have h27 : (1 : Int) ≥ 4 := h27
              exact absurd h27 (by decide)
            · intro h27
              have h27 : (1 : Int) < 4 := h27
              refine g_aloadN C X0 d2_30 rfl rfl ?_
              refine g_iloadN C X0 d2_31 rfl rfl ?_
              refine g_iaload C X0 d2_32 e0 B (by decide) (by decide) (v := (.int r1)) rfl rfl ?_
              refine g_iload C X0 d2_33 rfl rfl ?_
              refine g_icmp C X0 d2_35 (by decide) rfl rfl ?_ ?_
              · intro h35
                have h35 : r1.toInt = x1.toInt := h35
                refine g_iloadN C X0 d2_44 rfl rfl ?_
                refine g_aloadN C X0 d2_45 rfl rfl ?_
                refine g_arraylength C X0 d2_46 e0 B rfl ?_
                intro n46 h_n46
                obtain rfl : n46 = (4 : Int32) := own_inj32 (y := (4 : Int32)) h_n46
                refine g_icmp C X0 d2_47 (by decide) rfl rfl ?_ ?_
                · intro h47
                  have h47 : ¬ (1 : Int) = 4 := h47
                  refine g_iinc C X0 d2_52 rfl #[.val (.ref a), .val (.ref b), .val (.int (2 : Int32)), .val (.ref a), .val (.int (2 : Int32)), .val (.int (1 : Int32)), .val (.int x1)] rfl rfl ?_
                  refine g_iinc C X0 d2_55 rfl #[.val (.ref a), .val (.ref b), .val (.int (2 : Int32)), .val (.ref a), .val (.int (2 : Int32)), .val (.int (2 : Int32)), .val (.int x1)] rfl rfl ?_
                  refine g_goto C X0 d2_58 (by decide) rfl ?_
                  refine g_iload C X0 d2_11 rfl rfl ?_
                  refine g_iload C X0 d2_13 rfl rfl ?_
                  refine g_icmp C X0 d2_15 (by decide) rfl rfl ?_ ?_
                  · intro h15
                    have h15 : (2 : Int) ≥ 2 := h15
                    refine g_aloadN C X0 d2_61 rfl rfl ?_
                    refine g_arraylength C X0 d2_62 e0 A rfl ?_
                    intro n62 h_n62
                    obtain rfl : n62 = (2 : Int32) := own_inj32 (y := (2 : Int32)) h_n62
                    refine g_if C X0 d2_63 (by decide) rfl rfl ?_ ?_
                    · intro h63
                      have h63 : (2 : Int) ≤ 0 := h63
                      exact absurd h63 (by decide)
                    · intro h63
                      have h63 : (2 : Int) > 0 := h63
                      refine g_iconst C X0 (1 : Int32) d2_66 rfl rfl ?_
                      refine g_goto C X0 d2_67 (by decide) rfl ?_
                      exact g_ireturnN C X0 d2_71 rfl (Or.inl rfl) ⟨⟨(1 : Int32), rfl, Or.inl ⟨rfl, by omega⟩⟩, N0, e0⟩ (by decide) (by decide)
                  · intro h15
                    have h15 : (2 : Int) < 2 := h15
                    exact absurd h15 (by decide)
                · intro h47
                  have h47 : (1 : Int) = 4 := h47
                  exact absurd h47 (by decide)
              · intro h35
                have h35 : ¬ r1.toInt = x1.toInt := h35
                refine g_iinc C X0 d2_38 rfl #[.val (.ref a), .val (.ref b), .val (.int (2 : Int32)), .val (.ref a), .val (.int (2 : Int32)), .val (.int (1 : Int32)), .val (.int x1)] rfl rfl ?_
                refine g_goto C X0 d2_41 (by decide) rfl ?_
                refine g_iloadN C X0 d2_24 rfl rfl ?_
                refine g_aloadN C X0 d2_25 rfl rfl ?_
                refine g_arraylength C X0 d2_26 e0 B rfl ?_
                intro n26 h_n26
                obtain rfl : n26 = (4 : Int32) := own_inj32 (y := (4 : Int32)) h_n26
                refine g_icmp C X0 d2_27 (by decide) rfl rfl ?_ ?_
                · intro h27
                  have h27 : (2 : Int) ≥ 4 := h27
                  exact absurd h27 (by decide)
                · intro h27
                  have h27 : (2 : Int) < 4 := h27
                  refine g_aloadN C X0 d2_30 rfl rfl ?_
                  refine g_iloadN C X0 d2_31 rfl rfl ?_
                  refine g_iaload C X0 d2_32 e0 B (by decide) (by decide) (v := (.int r2)) rfl rfl ?_
                  refine g_iload C X0 d2_33 rfl rfl ?_
                  refine g_icmp C X0 d2_35 (by decide) rfl rfl ?_ ?_
                  · intro h35
                    have h35 : r2.toInt = x1.toInt := h35
                    refine g_iloadN C X0 d2_44 rfl rfl ?_
                    refine g_aloadN C X0 d2_45 rfl rfl ?_
                    refine g_arraylength C X0 d2_46 e0 B rfl ?_
                    intro n46 h_n46
                    obtain rfl : n46 = (4 : Int32) := own_inj32 (y := (4 : Int32)) h_n46
                    refine g_icmp C X0 d2_47 (by decide) rfl rfl ?_ ?_
                    · intro h47
                      have h47 : ¬ (2 : Int) = 4 := h47
                      refine g_iinc C X0 d2_52 rfl #[.val (.ref a), .val (.ref b), .val (.int (3 : Int32)), .val (.ref a), .val (.int (2 : Int32)), .val (.int (1 : Int32)), .val (.int x1)] rfl rfl ?_
                      refine g_iinc C X0 d2_55 rfl #[.val (.ref a), .val (.ref b), .val (.int (3 : Int32)), .val (.ref a), .val (.int (2 : Int32)), .val (.int (2 : Int32)), .val (.int x1)] rfl rfl ?_
                      refine g_goto C X0 d2_58 (by decide) rfl ?_
                      refine g_iload C X0 d2_11 rfl rfl ?_
                      refine g_iload C X0 d2_13 rfl rfl ?_
                      refine g_icmp C X0 d2_15 (by decide) rfl rfl ?_ ?_
                      · intro h15
                        have h15 : (2 : Int) ≥ 2 := h15
                        refine g_aloadN C X0 d2_61 rfl rfl ?_
                        refine g_arraylength C X0 d2_62 e0 A rfl ?_
                        intro n62 h_n62
                        obtain rfl : n62 = (2 : Int32) := own_inj32 (y := (2 : Int32)) h_n62
                        refine g_if C X0 d2_63 (by decide) rfl rfl ?_ ?_
                        · intro h63
                          have h63 : (2 : Int) ≤ 0 := h63
                          exact absurd h63 (by decide)
                        · intro h63
                          have h63 : (2 : Int) > 0 := h63
                          refine g_iconst C X0 (1 : Int32) d2_66 rfl rfl ?_
                          refine g_goto C X0 d2_67 (by decide) rfl ?_
                          exact g_ireturnN C X0 d2_71 rfl (Or.inl rfl) ⟨⟨(1 : Int32), rfl, Or.inl ⟨rfl, by omega⟩⟩, N0, e0⟩ (by decide) (by decide)
                      · intro h15
                        have h15 : (2 : Int) < 2 := h15
                        exact absurd h15 (by decide)
                    · intro h47
                      have h47 : (2 : Int) = 4 := h47
                      exact absurd h47 (by decide)
                  · intro h35
                    have h35 : ¬ r2.toInt = x1.toInt := h35
                    refine g_iinc C X0 d2_38 rfl #[.val (.ref a), .val (.ref b), .val (.int (3 : Int32)), .val (.ref a), .val (.int (2 : Int32)), .val (.int (1 : Int32)), .val (.int x1)] rfl rfl ?_
                    refine g_goto C X0 d2_41 (by decide) rfl ?_
                    refine g_iloadN C X0 d2_24 rfl rfl ?_
                    refine g_aloadN C X0 d2_25 rfl rfl ?_
                    refine g_arraylength C X0 d2_26 e0 B rfl ?_
                    intro n26 h_n26
                    obtain rfl : n26 = (4 : Int32) := own_inj32 (y := (4 : Int32)) h_n26
                    refine g_icmp C X0 d2_27 (by decide) rfl rfl ?_ ?_
                    · intro h27
                      have h27 : (3 : Int) ≥ 4 := h27
                      exact absurd h27 (by decide)
                    · intro h27
                      have h27 : (3 : Int) < 4 := h27
                      refine g_aloadN C X0 d2_30 rfl rfl ?_
                      refine g_iloadN C X0 d2_31 rfl rfl ?_
                      refine g_iaload C X0 d2_32 e0 B (by decide) (by decide) (v := (.int r3)) rfl rfl ?_
                      refine g_iload C X0 d2_33 rfl rfl ?_
                      refine g_icmp C X0 d2_35 (by decide) rfl rfl ?_ ?_
                      · intro h35
                        have h35 : r3.toInt = x1.toInt := h35
                        refine g_iloadN C X0 d2_44 rfl rfl ?_
                        refine g_aloadN C X0 d2_45 rfl rfl ?_
                        refine g_arraylength C X0 d2_46 e0 B rfl ?_
                        intro n46 h_n46
                        obtain rfl : n46 = (4 : Int32) := own_inj32 (y := (4 : Int32)) h_n46
                        refine g_icmp C X0 d2_47 (by decide) rfl rfl ?_ ?_
                        · intro h47
                          have h47 : ¬ (3 : Int) = 4 := h47
                          refine g_iinc C X0 d2_52 rfl #[.val (.ref a), .val (.ref b), .val (.int (4 : Int32)), .val (.ref a), .val (.int (2 : Int32)), .val (.int (1 : Int32)), .val (.int x1)] rfl rfl ?_
                          refine g_iinc C X0 d2_55 rfl #[.val (.ref a), .val (.ref b), .val (.int (4 : Int32)), .val (.ref a), .val (.int (2 : Int32)), .val (.int (2 : Int32)), .val (.int x1)] rfl rfl ?_
                          refine g_goto C X0 d2_58 (by decide) rfl ?_
                          refine g_iload C X0 d2_11 rfl rfl ?_
                          refine g_iload C X0 d2_13 rfl rfl ?_
                          refine g_icmp C X0 d2_15 (by decide) rfl rfl ?_ ?_
                          · intro h15
                            have h15 : (2 : Int) ≥ 2 := h15
                            refine g_aloadN C X0 d2_61 rfl rfl ?_
                            refine g_arraylength C X0 d2_62 e0 A rfl ?_
                            intro n62 h_n62
                            obtain rfl : n62 = (2 : Int32) := own_inj32 (y := (2 : Int32)) h_n62
                            refine g_if C X0 d2_63 (by decide) rfl rfl ?_ ?_
                            · intro h63
                              have h63 : (2 : Int) ≤ 0 := h63
                              exact absurd h63 (by decide)
                            · intro h63
                              have h63 : (2 : Int) > 0 := h63
                              refine g_iconst C X0 (1 : Int32) d2_66 rfl rfl ?_
                              refine g_goto C X0 d2_67 (by decide) rfl ?_
                              exact g_ireturnN C X0 d2_71 rfl (Or.inl rfl) ⟨⟨(1 : Int32), rfl, Or.inl ⟨rfl, by omega⟩⟩, N0, e0⟩ (by decide) (by decide)
                          · intro h15
                            have h15 : (2 : Int) < 2 := h15
                            exact absurd h15 (by decide)
                        · intro h47
                          have h47 : (3 : Int) = 4 := h47
                          exact absurd h47 (by decide)
                      · intro h35
                        have h35 : ¬ r3.toInt = x1.toInt := h35
                        refine g_iinc C X0 d2_38 rfl #[.val (.ref a), .val (.ref b), .val (.int (4 : Int32)), .val (.ref a), .val (.int (2 : Int32)), .val (.int (1 : Int32)), .val (.int x1)] rfl rfl ?_
                        refine g_goto C X0 d2_41 (by decide) rfl ?_
                        refine g_iloadN C X0 d2_24 rfl rfl ?_
                        refine g_aloadN C X0 d2_25 rfl rfl ?_
                        refine g_arraylength C X0 d2_26 e0 B rfl ?_
                        intro n26 h_n26
                        obtain rfl : n26 = (4 : Int32) := own_inj32 (y := (4 : Int32)) h_n26
                        refine g_icmp C X0 d2_27 (by decide) rfl rfl ?_ ?_
                        · intro h27
                          have h27 : (4 : Int) ≥ 4 := h27
                          refine g_iloadN C X0 d2_44 rfl rfl ?_
                          refine g_aloadN C X0 d2_45 rfl rfl ?_
                          refine g_arraylength C X0 d2_46 e0 B rfl ?_
                          intro n46 h_n46
                          obtain rfl : n46 = (4 : Int32) := own_inj32 (y := (4 : Int32)) h_n46
                          refine g_icmp C X0 d2_47 (by decide) rfl rfl ?_ ?_
                          · intro h47
                            have h47 : ¬ (4 : Int) = 4 := h47
                            exact absurd h47 (by decide)
                          · intro h47
                            have h47 : (4 : Int) = 4 := h47
                            refine g_iconst C X0 (0 : Int32) d2_50 rfl rfl ?_
                            exact g_ireturnN C X0 d2_51 rfl (Or.inl rfl) ⟨⟨(0 : Int32), rfl, Or.inr ⟨rfl, by omega⟩⟩, N0, e0⟩ (by decide) (by decide)
                        · intro h27
                          have h27 : (4 : Int) < 4 := h27
                          exact absurd h27 (by decide)
        · intro h47
          have h47 : (0 : Int) = 4 := h47
          exact absurd h47 (by decide)
      · intro h35
        have h35 : ¬ r0.toInt = x0.toInt := h35
        refine g_iinc C X0 d2_38 rfl #[.val (.ref a), .val (.ref b), .val (.int (1 : Int32)), .val (.ref a), .val (.int (2 : Int32)), .val (.int (0 : Int32)), .val (.int x0)] rfl rfl ?_
        refine g_goto C X0 d2_41 (by decide) rfl ?_
        refine g_iloadN C X0 d2_24 rfl rfl ?_
        refine g_aloadN C X0 d2_25 rfl rfl ?_
        refine g_arraylength C X0 d2_26 e0 B rfl ?_
        intro n26 h_n26
        obtain rfl : n26 = (4 : Int32) := own_inj32 (y := (4 : Int32)) h_n26
        refine g_icmp C X0 d2_27 (by decide) rfl rfl ?_ ?_
        · intro h27
          have h27 : (1 : Int) ≥ 4 := h27
          exact absurd h27 (by decide)
        · intro h27
          have h27 : (1 : Int) < 4 := h27
          refine g_aloadN C X0 d2_30 rfl rfl ?_
          refine g_iloadN C X0 d2_31 rfl rfl ?_
          refine g_iaload C X0 d2_32 e0 B (by decide) (by decide) (v := (.int r1)) rfl rfl ?_
          refine g_iload C X0 d2_33 rfl rfl ?_
          refine g_icmp C X0 d2_35 (by decide) rfl rfl ?_ ?_
          · intro h35
            have h35 : r1.toInt = x0.toInt := h35
            refine g_iloadN C X0 d2_44 rfl rfl ?_
            refine g_aloadN C X0 d2_45 rfl rfl ?_
            refine g_arraylength C X0 d2_46 e0 B rfl ?_
            intro n46 h_n46
            obtain rfl : n46 = (4 : Int32) := own_inj32 (y := (4 : Int32)) h_n46
            refine g_icmp C X0 d2_47 (by decide) rfl rfl ?_ ?_
            · intro h47
              have h47 : ¬ (1 : Int) = 4 := h47
              refine g_iinc C X0 d2_52 rfl #[.val (.ref a), .val (.ref b), .val (.int (2 : Int32)), .val (.ref a), .val (.int (2 : Int32)), .val (.int (0 : Int32)), .val (.int x0)] rfl rfl ?_
              refine g_iinc C X0 d2_55 rfl #[.val (.ref a), .val (.ref b), .val (.int (2 : Int32)), .val (.ref a), .val (.int (2 : Int32)), .val (.int (1 : Int32)), .val (.int x0)] rfl rfl ?_
              refine g_goto C X0 d2_58 (by decide) rfl ?_
              refine g_iload C X0 d2_11 rfl rfl ?_
              refine g_iload C X0 d2_13 rfl rfl ?_
              refine g_icmp C X0 d2_15 (by decide) rfl rfl ?_ ?_
              · intro h15
                have h15 : (1 : Int) ≥ 2 := h15
                exact absurd h15 (by decide)
              · intro h15
                have h15 : (1 : Int) < 2 := h15
                refine g_aloadN C X0 d2_18 rfl rfl ?_
                refine g_iload C X0 d2_19 rfl rfl ?_
                refine g_iaload C X0 d2_21 e0 A (by decide) (by decide) (v := (.int x1)) rfl rfl ?_
                refine g_istore C X0 d2_22 #[.val (.ref a), .val (.ref b), .val (.int (2 : Int32)), .val (.ref a), .val (.int (2 : Int32)), .val (.int (1 : Int32)), .val (.int x1)] rfl rfl ?_
                refine g_iloadN C X0 d2_24 rfl rfl ?_
                refine g_aloadN C X0 d2_25 rfl rfl ?_
                refine g_arraylength C X0 d2_26 e0 B rfl ?_
                intro n26 h_n26
                obtain rfl : n26 = (4 : Int32) := own_inj32 (y := (4 : Int32)) h_n26
                refine g_icmp C X0 d2_27 (by decide) rfl rfl ?_ ?_
                · intro h27
                  have h27 : (2 : Int) ≥ 4 := h27
                  exact absurd h27 (by decide)
                · intro h27
                  have h27 : (2 : Int) < 4 := h27
                  refine g_aloadN C X0 d2_30 rfl rfl ?_
                  refine g_iloadN C X0 d2_31 rfl rfl ?_
                  refine g_iaload C X0 d2_32 e0 B (by decide) (by decide) (v := (.int r2)) rfl rfl ?_
                  refine g_iload C X0 d2_33 rfl rfl ?_
                  refine g_icmp C X0 d2_35 (by decide) rfl rfl ?_ ?_
                  · intro h35
                    have h35 : r2.toInt = x1.toInt := h35
                    refine g_iloadN C X0 d2_44 rfl rfl ?_
                    refine g_aloadN C X0 d2_45 rfl rfl ?_
                    refine g_arraylength C X0 d2_46 e0 B rfl ?_
                    intro n46 h_n46
                    obtain rfl : n46 = (4 : Int32) := own_inj32 (y := (4 : Int32)) h_n46
                    refine g_icmp C X0 d2_47 (by decide) rfl rfl ?_ ?_
                    · intro h47
                      have h47 : ¬ (2 : Int) = 4 := h47
                      refine g_iinc C X0 d2_52 rfl #[.val (.ref a), .val (.ref b), .val (.int (3 : Int32)), .val (.ref a), .val (.int (2 : Int32)), .val (.int (1 : Int32)), .val (.int x1)] rfl rfl ?_
                      refine g_iinc C X0 d2_55 rfl #[.val (.ref a), .val (.ref b), .val (.int (3 : Int32)), .val (.ref a), .val (.int (2 : Int32)), .val (.int (2 : Int32)), .val (.int x1)] rfl rfl ?_
                      refine g_goto C X0 d2_58 (by decide) rfl ?_
                      refine g_iload C X0 d2_11 rfl rfl ?_
                      refine g_iload C X0 d2_13 rfl rfl ?_
                      refine g_icmp C X0 d2_15 (by decide) rfl rfl ?_ ?_
                      · intro h15
                        have h15 : (2 : Int) ≥ 2 := h15
                        refine g_aloadN C X0 d2_61 rfl rfl ?_
                        refine g_arraylength C X0 d2_62 e0 A rfl ?_
                        intro n62 h_n62
                        obtain rfl : n62 = (2 : Int32) := own_inj32 (y := (2 : Int32)) h_n62
                        refine g_if C X0 d2_63 (by decide) rfl rfl ?_ ?_
                        · intro h63
                          have h63 : (2 : Int) ≤ 0 := h63
                          exact absurd h63 (by decide)
                        · intro h63
                          have h63 : (2 : Int) > 0 := h63
                          refine g_iconst C X0 (1 : Int32) d2_66 rfl rfl ?_
                          refine g_goto C X0 d2_67 (by decide) rfl ?_
                          exact g_ireturnN C X0 d2_71 rfl (Or.inl rfl) ⟨⟨(1 : Int32), rfl, Or.inl ⟨rfl, by omega⟩⟩, N0, e0⟩ (by decide) (by decide)
                      · intro h15
                        have h15 : (2 : Int) < 2 := h15
                        exact absurd h15 (by decide)
                    · intro h47
                      have h47 : (2 : Int) = 4 := h47
                      exact absurd h47 (by decide)
                  · intro h35
                    have h35 : ¬ r2.toInt = x1.toInt := h35
                    refine g_iinc C X0 d2_38 rfl #[.val (.ref a), .val (.ref b), .val (.int (3 : Int32)), .val (.ref a), .val (.int (2 : Int32)), .val (.int (1 : Int32)), .val (.int x1)] rfl rfl ?_
                    refine g_goto C X0 d2_41 (by decide) rfl ?_
                    refine g_iloadN C X0 d2_24 rfl rfl ?_
                    refine g_aloadN C X0 d2_25 rfl rfl ?_
                    refine g_arraylength C X0 d2_26 e0 B rfl ?_
                    intro n26 h_n26
                    obtain rfl : n26 = (4 : Int32) := own_inj32 (y := (4 : Int32)) h_n26
                    refine g_icmp C X0 d2_27 (by decide) rfl rfl ?_ ?_
                    · intro h27
                      have h27 : (3 : Int) ≥ 4 := h27
                      exact absurd h27 (by decide)
                    · intro h27
                      have h27 : (3 : Int) < 4 := h27
                      refine g_aloadN C X0 d2_30 rfl rfl ?_
                      refine g_iloadN C X0 d2_31 rfl rfl ?_
                      refine g_iaload C X0 d2_32 e0 B (by decide) (by decide) (v := (.int r3)) rfl rfl ?_
                      refine g_iload C X0 d2_33 rfl rfl ?_
                      refine g_icmp C X0 d2_35 (by decide) rfl rfl ?_ ?_
                      · intro h35
                        have h35 : r3.toInt = x1.toInt := h35
                        refine g_iloadN C X0 d2_44 rfl rfl ?_
                        refine g_aloadN C X0 d2_45 rfl rfl ?_
                        refine g_arraylength C X0 d2_46 e0 B rfl ?_
                        intro n46 h_n46
                        obtain rfl : n46 = (4 : Int32) := own_inj32 (y := (4 : Int32)) h_n46
                        refine g_icmp C X0 d2_47 (by decide) rfl rfl ?_ ?_
                        · intro h47
                          have h47 : ¬ (3 : Int) = 4 := h47
                          refine g_iinc C X0 d2_52 rfl #[.val (.ref a), .val (.ref b), .val (.int (4 : Int32)), .val (.ref a), .val (.int (2 : Int32)), .val (.int (1 : Int32)), .val (.int x1)] rfl rfl ?_
                          refine g_iinc C X0 d2_55 rfl #[.val (.ref a), .val (.ref b), .val (.int (4 : Int32)), .val (.ref a), .val (.int (2 : Int32)), .val (.int (2 : Int32)), .val (.int x1)] rfl rfl ?_
                          refine g_goto C X0 d2_58 (by decide) rfl ?_
                          refine g_iload C X0 d2_11 rfl rfl ?_
                          refine g_iload C X0 d2_13 rfl rfl ?_
                          refine g_icmp C X0 d2_15 (by decide) rfl rfl ?_ ?_
                          · intro h15
                            have h15 : (2 : Int) ≥ 2 := h15
                            refine g_aloadN C X0 d2_61 rfl rfl ?_
                            refine g_arraylength C X0 d2_62 e0 A rfl ?_
                            intro n62 h_n62
                            obtain rfl : n62 = (2 : Int32) := own_inj32 (y := (2 : Int32)) h_n62
                            refine g_if C X0 d2_63 (by decide) rfl rfl ?_ ?_
                            · intro h63
                              have h63 : (2 : Int) ≤ 0 := h63
                              exact absurd h63 (by decide)
                            · intro h63
                              have h63 : (2 : Int) > 0 := h63
                              refine g_iconst C X0 (1 : Int32) d2_66 rfl rfl ?_
                              refine g_goto C X0 d2_67 (by decide) rfl ?_
                              exact g_ireturnN C X0 d2_71 rfl (Or.inl rfl) ⟨⟨(1 : Int32), rfl, Or.inl ⟨rfl, by omega⟩⟩, N0, e0⟩ (by decide) (by decide)
                          · intro h15
                            have h15 : (2 : Int) < 2 := h15
                            exact absurd h15 (by decide)
                        · intro h47
                          have h47 : (3 : Int) = 4 := h47
                          exact absurd h47 (by decide)
                      · intro h35
                        have h35 : ¬ r3.toInt = x1.toInt := h35
                        refine g_iinc C X0 d2_38 rfl #[.val (.ref a), .val (.ref b), .val (.int (4 : Int32)), .val (.ref a), .val (.int (2 : Int32)), .val (.int (1 : Int32)), .val (.int x1)] rfl rfl ?_
                        refine g_goto C X0 d2_41 (by decide) rfl ?_
                        refine g_iloadN C X0 d2_24 rfl rfl ?_
                        refine g_aloadN C X0 d2_25 rfl rfl ?_
                        refine g_arraylength C X0 d2_26 e0 B rfl ?_
                        intro n26 h_n26
                        obtain rfl : n26 = (4 : Int32) := own_inj32 (y := (4 : Int32)) h_n26
                        refine g_icmp C X0 d2_27 (by decide) rfl rfl ?_ ?_
                        · intro h27
                          have h27 : (4 : Int) ≥ 4 := h27
                          refine g_iloadN C X0 d2_44 rfl rfl ?_
                          refine g_aloadN C X0 d2_45 rfl rfl ?_
                          refine g_arraylength C X0 d2_46 e0 B rfl ?_
                          intro n46 h_n46
                          obtain rfl : n46 = (4 : Int32) := own_inj32 (y := (4 : Int32)) h_n46
                          refine g_icmp C X0 d2_47 (by decide) rfl rfl ?_ ?_
                          · intro h47
                            have h47 : ¬ (4 : Int) = 4 := h47
                            exact absurd h47 (by decide)
                          · intro h47
                            have h47 : (4 : Int) = 4 := h47
                            refine g_iconst C X0 (0 : Int32) d2_50 rfl rfl ?_
                            exact g_ireturnN C X0 d2_51 rfl (Or.inl rfl) ⟨⟨(0 : Int32), rfl, Or.inr ⟨rfl, by omega⟩⟩, N0, e0⟩ (by decide) (by decide)
                        · intro h27
                          have h27 : (4 : Int) < 4 := h27
                          exact absurd h27 (by decide)
            · intro h47
              have h47 : (1 : Int) = 4 := h47
              exact absurd h47 (by decide)
          · intro h35
            have h35 : ¬ r1.toInt = x0.toInt := h35
            refine g_iinc C X0 d2_38 rfl #[.val (.ref a), .val (.ref b), .val (.int (2 : Int32)), .val (.ref a), .val (.int (2 : Int32)), .val (.int (0 : Int32)), .val (.int x0)] rfl rfl ?_
            refine g_goto C X0 d2_41 (by decide) rfl ?_
            refine g_iloadN C X0 d2_24 rfl rfl ?_
            refine g_aloadN C X0 d2_25 rfl rfl ?_
            refine g_arraylength C X0 d2_26 e0 B rfl ?_
            intro n26 h_n26
            obtain rfl : n26 = (4 : Int32) := own_inj32 (y := (4 : Int32)) h_n26
            refine g_icmp C X0 d2_27 (by decide) rfl rfl ?_ ?_
            · intro h27
              have h27 : (2 : Int) ≥ 4 := h27
              exact absurd h27 (by decide)
            · intro h27
              have h27 : (2 : Int) < 4 := h27
              refine g_aloadN C X0 d2_30 rfl rfl ?_
              refine g_iloadN C X0 d2_31 rfl rfl ?_
              refine g_iaload C X0 d2_32 e0 B (by decide) (by decide) (v := (.int r2)) rfl rfl ?_
              refine g_iload C X0 d2_33 rfl rfl ?_
              refine g_icmp C X0 d2_35 (by decide) rfl rfl ?_ ?_
              · intro h35
                have h35 : r2.toInt = x0.toInt := h35
                refine g_iloadN C X0 d2_44 rfl rfl ?_
                refine g_aloadN C X0 d2_45 rfl rfl ?_
                refine g_arraylength C X0 d2_46 e0 B rfl ?_
                intro n46 h_n46
                obtain rfl : n46 = (4 : Int32) := own_inj32 (y := (4 : Int32)) h_n46
                refine g_icmp C X0 d2_47 (by decide) rfl rfl ?_ ?_
                · intro h47
                  have h47 : ¬ (2 : Int) = 4 := h47
                  refine g_iinc C X0 d2_52 rfl #[.val (.ref a), .val (.ref b), .val (.int (3 : Int32)), .val (.ref a), .val (.int (2 : Int32)), .val (.int (0 : Int32)), .val (.int x0)] rfl rfl ?_
                  refine g_iinc C X0 d2_55 rfl #[.val (.ref a), .val (.ref b), .val (.int (3 : Int32)), .val (.ref a), .val (.int (2 : Int32)), .val (.int (1 : Int32)), .val (.int x0)] rfl rfl ?_
                  refine g_goto C X0 d2_58 (by decide) rfl ?_
                  refine g_iload C X0 d2_11 rfl rfl ?_
                  refine g_iload C X0 d2_13 rfl rfl ?_
                  refine g_icmp C X0 d2_15 (by decide) rfl rfl ?_ ?_
                  · intro h15
                    have h15 : (1 : Int) ≥ 2 := h15
                    exact absurd h15 (by decide)
                  · intro h15
                    have h15 : (1 : Int) < 2 := h15
                    refine g_aloadN C X0 d2_18 rfl rfl ?_
                    refine g_iload C X0 d2_19 rfl rfl ?_
                    refine g_iaload C X0 d2_21 e0 A (by decide) (by decide) (v := (.int x1)) rfl rfl ?_
                    refine g_istore C X0 d2_22 #[.val (.ref a), .val (.ref b), .val (.int (3 : Int32)), .val (.ref a), .val (.int (2 : Int32)), .val (.int (1 : Int32)), .val (.int x1)] rfl rfl ?_
                    refine g_iloadN C X0 d2_24 rfl rfl ?_
                    refine g_aloadN C X0 d2_25 rfl rfl ?_
                    refine g_arraylength C X0 d2_26 e0 B rfl ?_
                    intro n26 h_n26
                    obtain rfl : n26 = (4 : Int32) := own_inj32 (y := (4 : Int32)) h_n26
                    refine g_icmp C X0 d2_27 (by decide) rfl rfl ?_ ?_
                    · intro h27
                      have h27 : (3 : Int) ≥ 4 := h27
                      exact absurd h27 (by decide)
                    · intro h27
                      have h27 : (3 : Int) < 4 := h27
                      refine g_aloadN C X0 d2_30 rfl rfl ?_
                      refine g_iloadN C X0 d2_31 rfl rfl ?_
                      refine g_iaload C X0 d2_32 e0 B (by decide) (by decide) (v := (.int r3)) rfl rfl ?_
                      refine g_iload C X0 d2_33 rfl rfl ?_
                      refine g_icmp C X0 d2_35 (by decide) rfl rfl ?_ ?_
                      · intro h35
                        have h35 : r3.toInt = x1.toInt := h35
                        refine g_iloadN C X0 d2_44 rfl rfl ?_
                        refine g_aloadN C X0 d2_45 rfl rfl ?_
                        refine g_arraylength C X0 d2_46 e0 B rfl ?_
                        intro n46 h_n46
                        obtain rfl : n46 = (4 : Int32) := own_inj32 (y := (4 : Int32)) h_n46
                        refine g_icmp C X0 d2_47 (by decide) rfl rfl ?_ ?_
                        · intro h47
                          have h47 : ¬ (3 : Int) = 4 := h47
                          refine g_iinc C X0 d2_52 rfl #[.val (.ref a), .val (.ref b), .val (.int (4 : Int32)), .val (.ref a), .val (.int (2 : Int32)), .val (.int (1 : Int32)), .val (.int x1)] rfl rfl ?_
                          refine g_iinc C X0 d2_55 rfl #[.val (.ref a), .val (.ref b), .val (.int (4 : Int32)), .val (.ref a), .val (.int (2 : Int32)), .val (.int (2 : Int32)), .val (.int x1)] rfl rfl ?_
                          refine g_goto C X0 d2_58 (by decide) rfl ?_
                          refine g_iload C X0 d2_11 rfl rfl ?_
                          refine g_iload C X0 d2_13 rfl rfl ?_
                          refine g_icmp C X0 d2_15 (by decide) rfl rfl ?_ ?_
                          · intro h15
                            have h15 : (2 : Int) ≥ 2 := h15
                            refine g_aloadN C X0 d2_61 rfl rfl ?_
                            refine g_arraylength C X0 d2_62 e0 A rfl ?_
                            intro n62 h_n62
                            obtain rfl : n62 = (2 : Int32) := own_inj32 (y := (2 : Int32)) h_n62
                            refine g_if C X0 d2_63 (by decide) rfl rfl ?_ ?_
                            · intro h63
                              have h63 : (2 : Int) ≤ 0 := h63
                              exact absurd h63 (by decide)
                            · intro h63
                              have h63 : (2 : Int) > 0 := h63
                              refine g_iconst C X0 (1 : Int32) d2_66 rfl rfl ?_
                              refine g_goto C X0 d2_67 (by decide) rfl ?_
                              exact g_ireturnN C X0 d2_71 rfl (Or.inl rfl) ⟨⟨(1 : Int32), rfl, Or.inl ⟨rfl, by omega⟩⟩, N0, e0⟩ (by decide) (by decide)
                          · intro h15
                            have h15 : (2 : Int) < 2 := h15
                            exact absurd h15 (by decide)
                        · intro h47
                          have h47 : (3 : Int) = 4 := h47
                          exact absurd h47 (by decide)
                      · intro h35
                        have h35 : ¬ r3.toInt = x1.toInt := h35
                        refine g_iinc C X0 d2_38 rfl #[.val (.ref a), .val (.ref b), .val (.int (4 : Int32)), .val (.ref a), .val (.int (2 : Int32)), .val (.int (1 : Int32)), .val (.int x1)] rfl rfl ?_
                        refine g_goto C X0 d2_41 (by decide) rfl ?_
                        refine g_iloadN C X0 d2_24 rfl rfl ?_
                        refine g_aloadN C X0 d2_25 rfl rfl ?_
                        refine g_arraylength C X0 d2_26 e0 B rfl ?_
                        intro n26 h_n26
                        obtain rfl : n26 = (4 : Int32) := own_inj32 (y := (4 : Int32)) h_n26
                        refine g_icmp C X0 d2_27 (by decide) rfl rfl ?_ ?_
                        · intro h27
                          have h27 : (4 : Int) ≥ 4 := h27
                          refine g_iloadN C X0 d2_44 rfl rfl ?_
                          refine g_aloadN C X0 d2_45 rfl rfl ?_
                          refine g_arraylength C X0 d2_46 e0 B rfl ?_
                          intro n46 h_n46
                          obtain rfl : n46 = (4 : Int32) := own_inj32 (y := (4 : Int32)) h_n46
                          refine g_icmp C X0 d2_47 (by decide) rfl rfl ?_ ?_
                          · intro h47
                            have h47 : ¬ (4 : Int) = 4 := h47
                            exact absurd h47 (by decide)
                          · intro h47
                            have h47 : (4 : Int) = 4 := h47
                            refine g_iconst C X0 (0 : Int32) d2_50 rfl rfl ?_
                            exact g_ireturnN C X0 d2_51 rfl (Or.inl rfl) ⟨⟨(0 : Int32), rfl, Or.inr ⟨rfl, by omega⟩⟩, N0, e0⟩ (by decide) (by decide)
                        · intro h27
                          have h27 : (4 : Int) < 4 := h27
                          exact absurd h27 (by decide)
                · intro h47
                  have h47 : (2 : Int) = 4 := h47
                  exact absurd h47 (by decide)
              · intro h35
                have h35 : ¬ r2.toInt = x0.toInt := h35
                refine g_iinc C X0 d2_38 rfl #[.val (.ref a), .val (.ref b), .val (.int (3 : Int32)), .val (.ref a), .val (.int (2 : Int32)), .val (.int (0 : Int32)), .val (.int x0)] rfl rfl ?_
                refine g_goto C X0 d2_41 (by decide) rfl ?_
                refine g_iloadN C X0 d2_24 rfl rfl ?_
                refine g_aloadN C X0 d2_25 rfl rfl ?_
                refine g_arraylength C X0 d2_26 e0 B rfl ?_
                intro n26 h_n26
                obtain rfl : n26 = (4 : Int32) := own_inj32 (y := (4 : Int32)) h_n26
                refine g_icmp C X0 d2_27 (by decide) rfl rfl ?_ ?_
                · intro h27
                  have h27 : (3 : Int) ≥ 4 := h27
                  exact absurd h27 (by decide)
                · intro h27
                  have h27 : (3 : Int) < 4 := h27
                  refine g_aloadN C X0 d2_30 rfl rfl ?_
                  refine g_iloadN C X0 d2_31 rfl rfl ?_
                  refine g_iaload C X0 d2_32 e0 B (by decide) (by decide) (v := (.int r3)) rfl rfl ?_
                  refine g_iload C X0 d2_33 rfl rfl ?_
                  refine g_icmp C X0 d2_35 (by decide) rfl rfl ?_ ?_
                  · intro h35
                    have h35 : r3.toInt = x0.toInt := h35
                    refine g_iloadN C X0 d2_44 rfl rfl ?_
                    refine g_aloadN C X0 d2_45 rfl rfl ?_
                    refine g_arraylength C X0 d2_46 e0 B rfl ?_
                    intro n46 h_n46
                    obtain rfl : n46 = (4 : Int32) := own_inj32 (y := (4 : Int32)) h_n46
                    refine g_icmp C X0 d2_47 (by decide) rfl rfl ?_ ?_
                    · intro h47
                      have h47 : ¬ (3 : Int) = 4 := h47
                      refine g_iinc C X0 d2_52 rfl #[.val (.ref a), .val (.ref b), .val (.int (4 : Int32)), .val (.ref a), .val (.int (2 : Int32)), .val (.int (0 : Int32)), .val (.int x0)] rfl rfl ?_
                      refine g_iinc C X0 d2_55 rfl #[.val (.ref a), .val (.ref b), .val (.int (4 : Int32)), .val (.ref a), .val (.int (2 : Int32)), .val (.int (1 : Int32)), .val (.int x0)] rfl rfl ?_
                      refine g_goto C X0 d2_58 (by decide) rfl ?_
                      refine g_iload C X0 d2_11 rfl rfl ?_
                      refine g_iload C X0 d2_13 rfl rfl ?_
                      refine g_icmp C X0 d2_15 (by decide) rfl rfl ?_ ?_
                      · intro h15
                        have h15 : (1 : Int) ≥ 2 := h15
                        exact absurd h15 (by decide)
                      · intro h15
                        have h15 : (1 : Int) < 2 := h15
                        refine g_aloadN C X0 d2_18 rfl rfl ?_
                        refine g_iload C X0 d2_19 rfl rfl ?_
                        refine g_iaload C X0 d2_21 e0 A (by decide) (by decide) (v := (.int x1)) rfl rfl ?_
                        refine g_istore C X0 d2_22 #[.val (.ref a), .val (.ref b), .val (.int (4 : Int32)), .val (.ref a), .val (.int (2 : Int32)), .val (.int (1 : Int32)), .val (.int x1)] rfl rfl ?_
                        refine g_iloadN C X0 d2_24 rfl rfl ?_
                        refine g_aloadN C X0 d2_25 rfl rfl ?_
                        refine g_arraylength C X0 d2_26 e0 B rfl ?_
                        intro n26 h_n26
                        obtain rfl : n26 = (4 : Int32) := own_inj32 (y := (4 : Int32)) h_n26
                        refine g_icmp C X0 d2_27 (by decide) rfl rfl ?_ ?_
                        · intro h27
                          have h27 : (4 : Int) ≥ 4 := h27
                          refine g_iloadN C X0 d2_44 rfl rfl ?_
                          refine g_aloadN C X0 d2_45 rfl rfl ?_
                          refine g_arraylength C X0 d2_46 e0 B rfl ?_
                          intro n46 h_n46
                          obtain rfl : n46 = (4 : Int32) := own_inj32 (y := (4 : Int32)) h_n46
                          refine g_icmp C X0 d2_47 (by decide) rfl rfl ?_ ?_
                          · intro h47
                            have h47 : ¬ (4 : Int) = 4 := h47
                            exact absurd h47 (by decide)
                          · intro h47
                            have h47 : (4 : Int) = 4 := h47
                            refine g_iconst C X0 (0 : Int32) d2_50 rfl rfl ?_
                            exact g_ireturnN C X0 d2_51 rfl (Or.inl rfl) ⟨⟨(0 : Int32), rfl, Or.inr ⟨rfl, by omega⟩⟩, N0, e0⟩ (by decide) (by decide)
                        · intro h27
                          have h27 : (4 : Int) < 4 := h27
                          exact absurd h27 (by decide)
                    · intro h47
                      have h47 : (3 : Int) = 4 := h47
                      exact absurd h47 (by decide)
                  · intro h35
                    have h35 : ¬ r3.toInt = x0.toInt := h35
                    refine g_iinc C X0 d2_38 rfl #[.val (.ref a), .val (.ref b), .val (.int (4 : Int32)), .val (.ref a), .val (.int (2 : Int32)), .val (.int (0 : Int32)), .val (.int x0)] rfl rfl ?_
                    refine g_goto C X0 d2_41 (by decide) rfl ?_
                    refine g_iloadN C X0 d2_24 rfl rfl ?_
                    refine g_aloadN C X0 d2_25 rfl rfl ?_
                    refine g_arraylength C X0 d2_26 e0 B rfl ?_
                    intro n26 h_n26
                    obtain rfl : n26 = (4 : Int32) := own_inj32 (y := (4 : Int32)) h_n26
                    refine g_icmp C X0 d2_27 (by decide) rfl rfl ?_ ?_
                    · intro h27
                      have h27 : (4 : Int) ≥ 4 := h27
                      refine g_iloadN C X0 d2_44 rfl rfl ?_
                      refine g_aloadN C X0 d2_45 rfl rfl ?_
                      refine g_arraylength C X0 d2_46 e0 B rfl ?_
                      intro n46 h_n46
                      obtain rfl : n46 = (4 : Int32) := own_inj32 (y := (4 : Int32)) h_n46
                      refine g_icmp C X0 d2_47 (by decide) rfl rfl ?_ ?_
                      · intro h47
                        have h47 : ¬ (4 : Int) = 4 := h47
                        exact absurd h47 (by decide)
                      · intro h47
                        have h47 : (4 : Int) = 4 := h47
                        refine g_iconst C X0 (0 : Int32) d2_50 rfl rfl ?_
                        exact g_ireturnN C X0 d2_51 rfl (Or.inl rfl) ⟨⟨(0 : Int32), rfl, Or.inr ⟨rfl, by omega⟩⟩, N0, e0⟩ (by decide) (by decide)
                    · intro h27
                      have h27 : (4 : Int) < 4 := h27
                      exact absurd h27 (by decide)
def Q_sy3_0 (Z : State) (a : Addr) (b : Addr) (x0 : Int32) (x1 : Int32) (x2 : Int32) (r0 : Int32) (r1 : Int32) (r2 : Int32) (r3 : Int32) (h0 : Heap) (n0 : Nat) (v : Option Value) (h : Heap) (L : List Loc) : Prop := (∃ r : Int32, v = some (.int r) ∧ (r = 1 ∧ False ∨ r = 0 ∧ ¬ False)) ∧ Fr n0 L ∧ h = h0
set_option maxRecDepth 65536 in
set_option maxHeartbeats 40000000 in
theorem sy3_0 (l : Launch) (Z : State) (a0 : Array Value) (hw : ∀ d ∈ tables_1, d.before a0 Z = true) (ws : List Jvm.Cond) (a : Addr) (b : Addr) (x0 x1 x2 r0 r1 r2 r3 : Int32) (h0 : Heap) (n0 : Nat) (Z0 : n0 ≤ h0.size) (A : Aw Z h0 a .int 3 (fun j => .int (([x0, x1, x2] : List Int32).getD j 0))) (B : Aw Z h0 b .int 0 (fun j => .int (([r0, r1, r2, r3] : List Int32).getD j 0))) :
    MetFree l (⟨"com/example/ballast/ballast/storage/ClusterCatalog", "isInSyncOf", "([I[I)Z"⟩ : MethodName) (head1 (Jvm.Cond.code (⟨"com/example/ballast/ballast/storage/ClusterCatalog", "isInSyncOf", "([I[I)Z"⟩ : MethodName) prog_270_method_61_code 7 (some .boolean) :: ws) ({ frames := 0, cells := 0, slots := 0, locals := 0 } : Room)) (fun aa U => aa = #[(.ref a), (.ref b)] ∧ Z.Warmed39 U.vm ∧ U.heap = h0) (fun _ _ _ _ _ => True) (fun _ U oo U' => ∃ rv Lr, oo = .returned rv ∧ Q_sy3_0 Z a b x0 x1 x2 r0 r1 r2 r3 h0 n0 rv U'.heap Lr ∧ FrameEnd U oo U' Lr ({ frames := 0, cells := 0, slots := 0, locals := 0 } : Room).cells ({ frames := 0, cells := 0, slots := 0, locals := 0 } : Room).slots) := by
  refine g_enter pn_2 hw (ef_2 a b) ?_
  intro p e s m below meth c T0 C X0 e0
  have C : Cx Z a0 p s m meth c prog_270_method_61_code 7 "com/example/ballast/ballast/storage/ClusterCatalog" "isInSyncOf" (some .boolean) := C
  have N0 := Fr.nil n0
  refine g_iconst C X0 (0 : Int32) d2_0 rfl rfl ?_
  refine g_istoreN C X0 d2_1 #[.val (.ref a), .val (.ref b), .val (.int (0 : Int32)), .unset, .unset, .unset, .unset] rfl rfl ?_
  refine g_aloadN C X0 d2_2 rfl rfl ?_
  refine g_astoreN C X0 d2_3 #[.val (.ref a), .val (.ref b), .val (.int (0 : Int32)), .val (.ref a), .unset, .unset, .unset] rfl rfl ?_
  refine g_aloadN C X0 d2_4 rfl rfl ?_
  refine g_arraylength C X0 d2_5 e0 A rfl ?_
  intro n5 h_n5
  obtain rfl : n5 = (3 : Int32) := own_inj32 (y := (3 : Int32)) h_n5
  refine g_istore C X0 d2_6 #[.val (.ref a), .val (.ref b), .val (.int (0 : Int32)), .val (.ref a), .val (.int (3 : Int32)), .unset, .unset] rfl rfl ?_
  refine g_iconst C X0 (0 : Int32) d2_8 rfl rfl ?_
  refine g_istore C X0 d2_9 #[.val (.ref a), .val (.ref b), .val (.int (0 : Int32)), .val (.ref a), .val (.int (3 : Int32)), .val (.int (0 : Int32)), .unset] rfl rfl ?_
  refine g_iload C X0 d2_11 rfl rfl ?_
  refine g_iload C X0 d2_13 rfl rfl ?_
  refine g_icmp C X0 d2_15 (by decide) rfl rfl ?_ ?_
  · intro h15
    have h15 : (0 : Int) ≥ 3 := h15
    exact absurd h15 (by decide)
  · intro h15
    have h15 : (0 : Int) < 3 := h15
    refine g_aloadN C X0 d2_18 rfl rfl ?_
    refine g_iload C X0 d2_19 rfl rfl ?_
    refine g_iaload C X0 d2_21 e0 A (by decide) (by decide) (v := (.int x0)) rfl rfl ?_
    refine g_istore C X0 d2_22 #[.val (.ref a), .val (.ref b), .val (.int (0 : Int32)), .val (.ref a), .val (.int (3 : Int32)), .val (.int (0 : Int32)), .val (.int x0)] rfl rfl ?_
    refine g_iloadN C X0 d2_24 rfl rfl ?_
    refine g_aloadN C X0 d2_25 rfl rfl ?_
    refine g_arraylength C X0 d2_26 e0 B rfl ?_
    intro n26 h_n26
    obtain rfl : n26 = (0 : Int32) := own_inj32 (y := (0 : Int32)) h_n26
    refine g_icmp C X0 d2_27 (by decide) rfl rfl ?_ ?_
    · intro h27
      have h27 : (0 : Int) ≥ 0 := h27
      refine g_iloadN C X0 d2_44 rfl rfl ?_
      refine g_aloadN C X0 d2_45 rfl rfl ?_
      refine g_arraylength C X0 d2_46 e0 B rfl ?_
      intro n46 h_n46
      obtain rfl : n46 = (0 : Int32) := own_inj32 (y := (0 : Int32)) h_n46
      refine g_icmp C X0 d2_47 (by decide) rfl rfl ?_ ?_
      · intro h47
        have h47 : ¬ (0 : Int) = 0 := h47
        exact absurd h47 (by decide)
      · intro h47
        have h47 : (0 : Int) = 0 := h47
        refine g_iconst C X0 (0 : Int32) d2_50 rfl rfl ?_
        exact g_ireturnN C X0 d2_51 rfl (Or.inl rfl) ⟨⟨(0 : Int32), rfl, Or.inr ⟨rfl, fun z => z⟩⟩, N0, e0⟩ (by decide) (by decide)
    · intro h27
      have h27 : (0 : Int) < 0 := h27
      exact absurd h27 (by decide)
def Q_sy3_1 (Z : State) (a : Addr) (b : Addr) (x0 : Int32) (x1 : Int32) (x2 : Int32) (r0 : Int32) (r1 : Int32) (r2 : Int32) (r3 : Int32) (h0 : Heap) (n0 : Nat) (v : Option Value) (h : Heap) (L : List Loc) : Prop := (∃ r : Int32, v = some (.int r) ∧ (r = 1 ∧ False ∨ r = 0 ∧ ¬ False)) ∧ Fr n0 L ∧ h = h0
set_option maxRecDepth 65536 in
set_option maxHeartbeats 40000000 in
theorem sy3_1 (l : Launch) (Z : State) (a0 : Array Value) (hw : ∀ d ∈ tables_1, d.before a0 Z = true) (ws : List Jvm.Cond) (a : Addr) (b : Addr) (x0 x1 x2 r0 r1 r2 r3 : Int32) (h0 : Heap) (n0 : Nat) (Z0 : n0 ≤ h0.size) (A : Aw Z h0 a .int 3 (fun j => .int (([x0, x1, x2] : List Int32).getD j 0))) (B : Aw Z h0 b .int 1 (fun j => .int (([r0, r1, r2, r3] : List Int32).getD j 0))) :
    MetFree l (⟨"com/example/ballast/ballast/storage/ClusterCatalog", "isInSyncOf", "([I[I)Z"⟩ : MethodName) (head1 (Jvm.Cond.code (⟨"com/example/ballast/ballast/storage/ClusterCatalog", "isInSyncOf", "([I[I)Z"⟩ : MethodName) prog_270_method_61_code 7 (some .boolean) :: ws) ({ frames := 0, cells := 0, slots := 0, locals := 0 } : Room)) (fun aa U => aa = #[(.ref a), (.ref b)] ∧ Z.Warmed39 U.vm ∧ U.heap = h0) (fun _ _ _ _ _ => True) (fun _ U oo U' => ∃ rv Lr, oo = .returned rv ∧ Q_sy3_1 Z a b x0 x1 x2 r0 r1 r2 r3 h0 n0 rv U'.heap Lr ∧ FrameEnd U oo U' Lr ({ frames := 0, cells := 0, slots := 0, locals := 0 } : Room).cells ({ frames := 0, cells := 0, slots := 0, locals := 0 } : Room).slots) := by
  refine g_enter pn_2 hw (ef_2 a b) ?_
  intro p e s m below meth c T0 C X0 e0
  have C : Cx Z a0 p s m meth c prog_270_method_61_code 7 "com/example/ballast/ballast/storage/ClusterCatalog" "isInSyncOf" (some .boolean) := C
  have N0 := Fr.nil n0
  refine g_iconst C X0 (0 : Int32) d2_0 rfl rfl ?_
  refine g_istoreN C X0 d2_1 #[.val (.ref a), .val (.ref b), .val (.int (0 : Int32)), .unset, .unset, .unset, .unset] rfl rfl ?_
  refine g_aloadN C X0 d2_2 rfl rfl ?_
  refine g_astoreN C X0 d2_3 #[.val (.ref a), .val (.ref b), .val (.int (0 : Int32)), .val (.ref a), .unset, .unset, .unset] rfl rfl ?_
  refine g_aloadN C X0 d2_4 rfl rfl ?_
  refine g_arraylength C X0 d2_5 e0 A rfl ?_
  intro n5 h_n5
  obtain rfl : n5 = (3 : Int32) := own_inj32 (y := (3 : Int32)) h_n5
  refine g_istore C X0 d2_6 #[.val (.ref a), .val (.ref b), .val (.int (0 : Int32)), .val (.ref a), .val (.int (3 : Int32)), .unset, .unset] rfl rfl ?_
  refine g_iconst C X0 (0 : Int32) d2_8 rfl rfl ?_
  refine g_istore C X0 d2_9 #[.val (.ref a), .val (.ref b), .val (.int (0 : Int32)), .val (.ref a), .val (.int (3 : Int32)), .val (.int (0 : Int32)), .unset] rfl rfl ?_
  refine g_iload C X0 d2_11 rfl rfl ?_
  refine g_iload C X0 d2_13 rfl rfl ?_
  refine g_icmp C X0 d2_15 (by decide) rfl rfl ?_ ?_
  · intro h15
    have h15 : (0 : Int) ≥ 3 := h15
    exact absurd h15 (by decide)
  · intro h15
    have h15 : (0 : Int) < 3 := h15
    refine g_aloadN C X0 d2_18 rfl rfl ?_
    refine g_iload C X0 d2_19 rfl rfl ?_
    refine g_iaload C X0 d2_21 e0 A (by decide) (by decide) (v := (.int x0)) rfl rfl ?_
    refine g_istore C X0 d2_22 #[.val (.ref a), .val (.ref b), .val (.int (0 : Int32)), .val (.ref a), .val (.int (3 : Int32)), .val (.int (0 : Int32)), .val (.int x0)] rfl rfl ?_
    refine g_iloadN C X0 d2_24 rfl rfl ?_
    refine g_aloadN C X0 d2_25 rfl rfl ?_
    refine g_arraylength C X0 d2_26 e0 B rfl ?_
    intro n26 h_n26
    obtain rfl : n26 = (1 : Int32) := own_inj32 (y := (1 : Int32)) h_n26
    refine g_icmp C X0 d2_27 (by decide) rfl rfl ?_ ?_
    · intro h27
      have h27 : (0 : Int) ≥ 1 := h27
      exact absurd h27 (by decide)
    · intro h27
      have h27 : (0 : Int) < 1 := h27
      refine g_aloadN C X0 d2_30 rfl rfl ?_
      refine g_iloadN C X0 d2_31 rfl rfl ?_
      refine g_iaload C X0 d2_32 e0 B (by decide) (by decide) (v := (.int r0)) rfl rfl ?_
      refine g_iload C X0 d2_33 rfl rfl ?_
      refine g_icmp C X0 d2_35 (by decide) rfl rfl ?_ ?_
      · intro h35
        have h35 : r0.toInt = x0.toInt := h35
        refine g_iloadN C X0 d2_44 rfl rfl ?_
        refine g_aloadN C X0 d2_45 rfl rfl ?_
        refine g_arraylength C X0 d2_46 e0 B rfl ?_
        intro n46 h_n46
        obtain rfl : n46 = (1 : Int32) := own_inj32 (y := (1 : Int32)) h_n46
        refine g_icmp C X0 d2_47 (by decide) rfl rfl ?_ ?_
        · intro h47
          have h47 : ¬ (0 : Int) = 1 := h47
          refine g_iinc C X0 d2_52 rfl #[.val (.ref a), .val (.ref b), .val (.int (1 : Int32)), .val (.ref a), .val (.int (3 : Int32)), .val (.int (0 : Int32)), .val (.int x0)] rfl rfl ?_
          refine g_iinc C X0 d2_55 rfl #[.val (.ref a), .val (.ref b), .val (.int (1 : Int32)), .val (.ref a), .val (.int (3 : Int32)), .val (.int (1 : Int32)), .val (.int x0)] rfl rfl ?_
          refine g_goto C X0 d2_58 (by decide) rfl ?_
          refine g_iload C X0 d2_11 rfl rfl ?_
          refine g_iload C X0 d2_13 rfl rfl ?_
          refine g_icmp C X0 d2_15 (by decide) rfl rfl ?_ ?_
          · intro h15
            have h15 : (1 : Int) ≥ 3 := h15
            exact absurd h15 (by decide)
          · intro h15
            have h15 : (1 : Int) < 3 := h15
            refine g_aloadN C X0 d2_18 rfl rfl ?_
            refine g_iload C X0 d2_19 rfl rfl ?_
            refine g_iaload C X0 d2_21 e0 A (by decide) (by decide) (v := (.int x1)) rfl rfl ?_
            refine g_istore C X0 d2_22 #[.val (.ref a), .val (.ref b), .val (.int (1 : Int32)), .val (.ref a), .val (.int (3 : Int32)), .val (.int (1 : Int32)), .val (.int x1)] rfl rfl ?_
            refine g_iloadN C X0 d2_24 rfl rfl ?_
            refine g_aloadN C X0 d2_25 rfl rfl ?_
            refine g_arraylength C X0 d2_26 e0 B rfl ?_
            intro n26 h_n26
            obtain rfl : n26 = (1 : Int32) := own_inj32 (y := (1 : Int32)) h_n26
            refine g_icmp C X0 d2_27 (by decide) rfl rfl ?_ ?_
            · intro h27
              have h27 : (1 : Int) ≥ 1 := h27
              refine g_iloadN C X0 d2_44 rfl rfl ?_
              refine g_aloadN C X0 d2_45 rfl rfl ?_
              refine g_arraylength C X0 d2_46 e0 B rfl ?_
              intro n46 h_n46
              obtain rfl : n46 = (1 : Int32) := own_inj32 (y := (1 : Int32)) h_n46
              refine g_icmp C X0 d2_47 (by decide) rfl rfl ?_ ?_
              · intro h47
                have h47 : ¬ (1 : Int) = 1 := h47
                exact absurd h47 (by decide)
              · intro h47
                have h47 : (1 : Int) = 1 := h47
                refine g_iconst C X0 (0 : Int32) d2_50 rfl rfl ?_
                exact g_ireturnN C X0 d2_51 rfl (Or.inl rfl) ⟨⟨(0 : Int32), rfl, Or.inr ⟨rfl, fun z => z⟩⟩, N0, e0⟩ (by decide) (by decide)
            · intro h27
              have h27 : (1 : Int) < 1 := h27
              exact absurd h27 (by decide)
        · intro h47
          have h47 : (0 : Int) = 1 := h47
          exact absurd h47 (by decide)
      · intro h35
        have h35 : ¬ r0.toInt = x0.toInt := h35
        refine g_iinc C X0 d2_38 rfl #[.val (.ref a), .val (.ref b), .val (.int (1 : Int32)), .val (.ref a), .val (.int (3 : Int32)), .val (.int (0 : Int32)), .val (.int x0)] rfl rfl ?_
        refine g_goto C X0 d2_41 (by decide) rfl ?_
        refine g_iloadN C X0 d2_24 rfl rfl ?_
        refine g_aloadN C X0 d2_25 rfl rfl ?_
        refine g_arraylength C X0 d2_26 e0 B rfl ?_
        intro n26 h_n26
        obtain rfl : n26 = (1 : Int32) := own_inj32 (y := (1 : Int32)) h_n26
        refine g_icmp C X0 d2_27 (by decide) rfl rfl ?_ ?_
        · intro h27
          have h27 : (1 : Int) ≥ 1 := h27
          refine g_iloadN C X0 d2_44 rfl rfl ?_
          refine g_aloadN C X0 d2_45 rfl rfl ?_
          refine g_arraylength C X0 d2_46 e0 B rfl ?_
          intro n46 h_n46
          obtain rfl : n46 = (1 : Int32) := own_inj32 (y := (1 : Int32)) h_n46
          refine g_icmp C X0 d2_47 (by decide) rfl rfl ?_ ?_
          · intro h47
            have h47 : ¬ (1 : Int) = 1 := h47
            exact absurd h47 (by decide)
          · intro h47
            have h47 : (1 : Int) = 1 := h47
            refine g_iconst C X0 (0 : Int32) d2_50 rfl rfl ?_
            exact g_ireturnN C X0 d2_51 rfl (Or.inl rfl) ⟨⟨(0 : Int32), rfl, Or.inr ⟨rfl, fun z => z⟩⟩, N0, e0⟩ (by decide) (by decide)
        · intro h27
          have h27 : (1 : Int) < 1 := h27
          exact absurd h27 (by decide)
def Q_sy3_2 (Z : State) (a : Addr) (b : Addr) (x0 : Int32) (x1 : Int32) (x2 : Int32) (r0 : Int32) (r1 : Int32) (r2 : Int32) (r3 : Int32) (h0 : Heap) (n0 : Nat) (v : Option Value) (h : Heap) (L : List Loc) : Prop := (∃ r : Int32, v = some (.int r) ∧ (r = 1 ∧ False ∨ r = 0 ∧ ¬ False)) ∧ Fr n0 L ∧ h = h0
set_option maxRecDepth 65536 in
set_option maxHeartbeats 40000000 in
theorem sy3_2 (l : Launch) (Z : State) (a0 : Array Value) (hw : ∀ d ∈ tables_1, d.before a0 Z = true) (ws : List Jvm.Cond) (a : Addr) (b : Addr) (x0 x1 x2 r0 r1 r2 r3 : Int32) (h0 : Heap) (n0 : Nat) (Z0 : n0 ≤ h0.size) (A : Aw Z h0 a .int 3 (fun j => .int (([x0, x1, x2] : List Int32).getD j 0))) (B : Aw Z h0 b .int 2 (fun j => .int (([r0, r1, r2, r3] : List Int32).getD j 0))) :
    MetFree l (⟨"com/example/ballast/ballast/storage/ClusterCatalog", "isInSyncOf", "([I[I)Z"⟩ : MethodName) (head1 (Jvm.Cond.code (⟨"com/example/ballast/ballast/storage/ClusterCatalog", "isInSyncOf", "([I[I)Z"⟩ : MethodName) prog_270_method_61_code 7 (some .boolean) :: ws) ({ frames := 0, cells := 0, slots := 0, locals := 0 } : Room)) (fun aa U => aa = #[(.ref a), (.ref b)] ∧ Z.Warmed39 U.vm ∧ U.heap = h0) (fun _ _ _ _ _ => True) (fun _ U oo U' => ∃ rv Lr, oo = .returned rv ∧ Q_sy3_2 Z a b x0 x1 x2 r0 r1 r2 r3 h0 n0 rv U'.heap Lr ∧ FrameEnd U oo U' Lr ({ frames := 0, cells := 0, slots := 0, locals := 0 } : Room).cells ({ frames := 0, cells := 0, slots := 0, locals := 0 } : Room).slots) := by
  refine g_enter pn_2 hw (ef_2 a b) ?_
  intro p e s m below meth c T0 C X0 e0
  have C : Cx Z a0 p s m meth c prog_270_method_61_code 7 "com/example/ballast/ballast/storage/ClusterCatalog" "isInSyncOf" (some .boolean) := C
  have N0 := Fr.nil n0
  refine g_iconst C X0 (0 : Int32) d2_0 rfl rfl ?_
  refine g_istoreN C X0 d2_1 #[.val (.ref a), .val (.ref b), .val (.int (0 : Int32)), .unset, .unset, .unset, .unset] rfl rfl ?_
  refine g_aloadN C X0 d2_2 rfl rfl ?_
  refine g_astoreN C X0 d2_3 #[.val (.ref a), .val (.ref b), .val (.int (0 : Int32)), .val (.ref a), .unset, .unset, .unset] rfl rfl ?_
  refine g_aloadN C X0 d2_4 rfl rfl ?_
  refine g_arraylength C X0 d2_5 e0 A rfl ?_
  intro n5 h_n5
  obtain rfl : n5 = (3 : Int32) := own_inj32 (y := (3 : Int32)) h_n5
  refine g_istore C X0 d2_6 #[.val (.ref a), .val (.ref b), .val (.int (0 : Int32)), .val (.ref a), .val (.int (3 : Int32)), .unset, .unset] rfl rfl ?_
  refine g_iconst C X0 (0 : Int32) d2_8 rfl rfl ?_
  refine g_istore C X0 d2_9 #[.val (.ref a), .val (.ref b), .val (.int (0 : Int32)), .val (.ref a), .val (.int (3 : Int32)), .val (.int (0 : Int32)), .unset] rfl rfl ?_
  refine g_iload C X0 d2_11 rfl rfl ?_
  refine g_iload C X0 d2_13 rfl rfl ?_
  refine g_icmp C X0 d2_15 (by decide) rfl rfl ?_ ?_
  · intro h15
    have h15 : (0 : Int) ≥ 3 := h15
    exact absurd h15 (by decide)
  · intro h15
    have h15 : (0 : Int) < 3 := h15
    refine g_aloadN C X0 d2_18 rfl rfl ?_
    refine g_iload C X0 d2_19 rfl rfl ?_
    refine g_iaload C X0 d2_21 e0 A (by decide) (by decide) (v := (.int x0)) rfl rfl ?_
    refine g_istore C X0 d2_22 #[.val (.ref a), .val (.ref b), .val (.int (0 : Int32)), .val (.ref a), .val (.int (3 : Int32)), .val (.int (0 : Int32)), .val (.int x0)] rfl rfl ?_
    refine g_iloadN C X0 d2_24 rfl rfl ?_
    refine g_aloadN C X0 d2_25 rfl rfl ?_
    refine g_arraylength C X0 d2_26 e0 B rfl ?_
    intro n26 h_n26
    obtain rfl : n26 = (2 : Int32) := own_inj32 (y := (2 : Int32)) h_n26
    refine g_icmp C X0 d2_27 (by decide) rfl rfl ?_ ?_
    · intro h27
      have h27 : (0 : Int) ≥ 2 := h27
      exact absurd h27 (by decide)
    · intro h27
      have h27 : (0 : Int) < 2 := h27
      refine g_aloadN C X0 d2_30 rfl rfl ?_
      refine g_iloadN C X0 d2_31 rfl rfl ?_
      refine g_iaload C X0 d2_32 e0 B (by decide) (by decide) (v := (.int r0)) rfl rfl ?_
      refine g_iload C X0 d2_33 rfl rfl ?_
      refine g_icmp C X0 d2_35 (by decide) rfl rfl ?_ ?_
      · intro h35
        have h35 : r0.toInt = x0.toInt := h35
        refine g_iloadN C X0 d2_44 rfl rfl ?_
        refine g_aloadN C X0 d2_45 rfl rfl ?_
        refine g_arraylength C X0 d2_46 e0 B rfl ?_
        intro n46 h_n46
        obtain rfl : n46 = (2 : Int32) := own_inj32 (y := (2 : Int32)) h_n46
        refine g_icmp C X0 d2_47 (by decide) rfl rfl ?_ ?_
        · intro h47
          have h47 : ¬ (0 : Int) = 2 := h47
          refine g_iinc C X0 d2_52 rfl #[.val (.ref a), .val (.ref b), .val (.int (1 : Int32)), .val (.ref a), .val (.int (3 : Int32)), .val (.int (0 : Int32)), .val (.int x0)] rfl rfl ?_
          refine g_iinc C X0 d2_55 rfl #[.val (.ref a), .val (.ref b), .val (.int (1 : Int32)), .val (.ref a), .val (.int (3 : Int32)), .val (.int (1 : Int32)), .val (.int x0)] rfl rfl ?_
          refine g_goto C X0 d2_58 (by decide) rfl ?_
          refine g_iload C X0 d2_11 rfl rfl ?_
          refine g_iload C X0 d2_13 rfl rfl ?_
          refine g_icmp C X0 d2_15 (by decide) rfl rfl ?_ ?_
          · intro h15
            have h15 : (1 : Int) ≥ 3 := h15
            exact absurd h15 (by decide)
          · intro h15
            have h15 : (1 : Int) < 3 := h15
            refine g_aloadN C X0 d2_18 rfl rfl ?_
            refine g_iload C X0 d2_19 rfl rfl ?_
            refine g_iaload C X0 d2_21 e0 A (by decide) (by decide) (v := (.int x1)) rfl rfl ?_
            refine g_istore C X0 d2_22 #[.val (.ref a), .val (.ref b), .val (.int (1 : Int32)), .val (.ref a), .val (.int (3 : Int32)), .val (.int (1 : Int32)), .val (.int x1)] rfl rfl ?_
            refine g_iloadN C X0 d2_24 rfl rfl ?_
            refine g_aloadN C X0 d2_25 rfl rfl ?_
            refine g_arraylength C X0 d2_26 e0 B rfl ?_
            intro n26 h_n26
            obtain rfl : n26 = (2 : Int32) := own_inj32 (y := (2 : Int32)) h_n26
            refine g_icmp C X0 d2_27 (by decide) rfl rfl ?_ ?_
            · intro h27
              have h27 : (1 : Int) ≥ 2 := h27
              exact absurd h27 (by decide)
            · intro h27
              have h27 : (1 : Int) < 2 := h27
              refine g_aloadN C X0 d2_30 rfl rfl ?_
              refine g_iloadN C X0 d2_31 rfl rfl ?_
              refine g_iaload C X0 d2_32 e0 B (by decide) (by decide) (v := (.int r1)) rfl rfl ?_
              refine g_iload C X0 d2_33 rfl rfl ?_
              refine g_icmp C X0 d2_35 (by decide) rfl rfl ?_ ?_
              · intro h35
                have h35 : r1.toInt = x1.toInt := h35
                refine g_iloadN C X0 d2_44 rfl rfl ?_
                refine g_aloadN C X0 d2_45 rfl rfl ?_
                refine g_arraylength C X0 d2_46 e0 B rfl ?_
                intro n46 h_n46
                obtain rfl : n46 = (2 : Int32) := own_inj32 (y := (2 : Int32)) h_n46
                refine g_icmp C X0 d2_47 (by decide) rfl rfl ?_ ?_
                · intro h47
                  have h47 : ¬ (1 : Int) = 2 := h47
                  refine g_iinc C X0 d2_52 rfl #[.val (.ref a), .val (.ref b), .val (.int (2 : Int32)), .val (.ref a), .val (.int (3 : Int32)), .val (.int (1 : Int32)), .val (.int x1)] rfl rfl ?_
                  refine g_iinc C X0 d2_55 rfl #[.val (.ref a), .val (.ref b), .val (.int (2 : Int32)), .val (.ref a), .val (.int (3 : Int32)), .val (.int (2 : Int32)), .val (.int x1)] rfl rfl ?_
                  refine g_goto C X0 d2_58 (by decide) rfl ?_
                  refine g_iload C X0 d2_11 rfl rfl ?_
                  refine g_iload C X0 d2_13 rfl rfl ?_
                  refine g_icmp C X0 d2_15 (by decide) rfl rfl ?_ ?_
                  · intro h15
                    have h15 : (2 : Int) ≥ 3 := h15
                    exact absurd h15 (by decide)
                  · intro h15
                    have h15 : (2 : Int) < 3 := h15
                    refine g_aloadN C X0 d2_18 rfl rfl ?_
                    refine g_iload C X0 d2_19 rfl rfl ?_
                    refine g_iaload C X0 d2_21 e0 A (by decide) (by decide) (v := (.int x2)) rfl rfl ?_
                    refine g_istore C X0 d2_22 #[.val (.ref a), .val (.ref b), .val (.int (2 : Int32)), .val (.ref a), .val (.int (3 : Int32)), .val (.int (2 : Int32)), .val (.int x2)] rfl rfl ?_
                    refine g_iloadN C X0 d2_24 rfl rfl ?_
                    refine g_aloadN C X0 d2_25 rfl rfl ?_
                    refine g_arraylength C X0 d2_26 e0 B rfl ?_
                    intro n26 h_n26
                    obtain rfl : n26 = (2 : Int32) := own_inj32 (y := (2 : Int32)) h_n26
                    refine g_icmp C X0 d2_27 (by decide) rfl rfl ?_ ?_
                    · intro h27
                      have h27 : (2 : Int) ≥ 2 := h27
                      refine g_iloadN C X0 d2_44 rfl rfl ?_
                      refine g_aloadN C X0 d2_45 rfl rfl ?_
                      refine g_arraylength C X0 d2_46 e0 B rfl ?_
                      intro n46 h_n46
                      obtain rfl : n46 = (2 : Int32) := own_inj32 (y := (2 : Int32)) h_n46
                      refine g_icmp C X0 d2_47 (by decide) rfl rfl ?_ ?_
                      · intro h47
                        have h47 : ¬ (2 : Int) = 2 := h47
                        exact absurd h47 (by decide)
                      · intro h47
                        have h47 : (2 : Int) = 2 := h47
                        refine g_iconst C X0 (0 : Int32) d2_50 rfl rfl ?_
                        exact g_ireturnN C X0 d2_51 rfl (Or.inl rfl) ⟨⟨(0 : Int32), rfl, Or.inr ⟨rfl, fun z => z⟩⟩, N0, e0⟩ (by decide) (by decide)
                    · intro h27
                      have h27 : (2 : Int) < 2 := h27
                      exact absurd h27 (by decide)
                · intro h47
                  have h47 : (1 : Int) = 2 := h47
                  exact absurd h47 (by decide)
              · intro h35
                have h35 : ¬ r1.toInt = x1.toInt := h35
                refine g_iinc C X0 d2_38 rfl #[.val (.ref a), .val (.ref b), .val (.int (2 : Int32)), .val (.ref a), .val (.int (3 : Int32)), .val (.int (1 : Int32)), .val (.int x1)] rfl rfl ?_
                refine g_goto C X0 d2_41 (by decide) rfl ?_
                refine g_iloadN C X0 d2_24 rfl rfl ?_
                refine g_aloadN C X0 d2_25 rfl rfl ?_
                refine g_arraylength C X0 d2_26 e0 B rfl ?_
                intro n26 h_n26
                obtain rfl : n26 = (2 : Int32) := own_inj32 (y := (2 : Int32)) h_n26
                refine g_icmp C X0 d2_27 (by decide) rfl rfl ?_ ?_
                · intro h27
                  have h27 : (2 : Int) ≥ 2 := h27
                  refine g_iloadN C X0 d2_44 rfl rfl ?_
                  refine g_aloadN C X0 d2_45 rfl rfl ?_
                  refine g_arraylength C X0 d2_46 e0 B rfl ?_
                  intro n46 h_n46
                  obtain rfl : n46 = (2 : Int32) := own_inj32 (y := (2 : Int32)) h_n46
                  refine g_icmp C X0 d2_47 (by decide) rfl rfl ?_ ?_
                  · intro h47
                    have h47 : ¬ (2 : Int) = 2 := h47
                    exact absurd h47 (by decide)
                  · intro h47
                    have h47 : (2 : Int) = 2 := h47
                    refine g_iconst C X0 (0 : Int32) d2_50 rfl rfl ?_
                    exact g_ireturnN C X0 d2_51 rfl (Or.inl rfl) ⟨⟨(0 : Int32), rfl, Or.inr ⟨rfl, fun z => z⟩⟩, N0, e0⟩ (by decide) (by decide)
                · intro h27
                  have h27 : (2 : Int) < 2 := h27
                  exact absurd h27 (by decide)
        · intro h47
          have h47 : (0 : Int) = 2 := h47
          exact absurd h47 (by decide)
      · intro h35
        have h35 : ¬ r0.toInt = x0.toInt := h35
        refine g_iinc C X0 d2_38 rfl #[.val (.ref a), .val (.ref b), .val (.int (1 : Int32)), .val (.ref a), .val (.int (3 : Int32)), .val (.int (0 : Int32)), .val (.int x0)] rfl rfl ?_
        refine g_goto C X0 d2_41 (by decide) rfl ?_
        refine g_iloadN C X0 d2_24 rfl rfl ?_
        refine g_aloadN C X0 d2_25 rfl rfl ?_
        refine g_arraylength C X0 d2_26 e0 B rfl ?_
        intro n26 h_n26
        obtain rfl : n26 = (2 : Int32) := own_inj32 (y := (2 : Int32)) h_n26
        refine g_icmp C X0 d2_27 (by decide) rfl rfl ?_ ?_
        · intro h27
          have h27 : (1 : Int) ≥ 2 := h27
          exact absurd h27 (by decide)
        · intro h27
          have h27 : (1 : Int) < 2 := h27
          refine g_aloadN C X0 d2_30 rfl rfl ?_
          refine g_iloadN C X0 d2_31 rfl rfl ?_
          refine g_iaload C X0 d2_32 e0 B (by decide) (by decide) (v := (.int r1)) rfl rfl ?_
          refine g_iload C X0 d2_33 rfl rfl ?_
          refine g_icmp C X0 d2_35 (by decide) rfl rfl ?_ ?_
          · intro h35
            have h35 : r1.toInt = x0.toInt := h35
            refine g_iloadN C X0 d2_44 rfl rfl ?_
            refine g_aloadN C X0 d2_45 rfl rfl ?_
            refine g_arraylength C X0 d2_46 e0 B rfl ?_
            intro n46 h_n46
            obtain rfl : n46 = (2 : Int32) := own_inj32 (y := (2 : Int32)) h_n46
            refine g_icmp C X0 d2_47 (by decide) rfl rfl ?_ ?_
            · intro h47
              have h47 : ¬ (1 : Int) = 2 := h47
              refine g_iinc C X0 d2_52 rfl #[.val (.ref a), .val (.ref b), .val (.int (2 : Int32)), .val (.ref a), .val (.int (3 : Int32)), .val (.int (0 : Int32)), .val (.int x0)] rfl rfl ?_
              refine g_iinc C X0 d2_55 rfl #[.val (.ref a), .val (.ref b), .val (.int (2 : Int32)), .val (.ref a), .val (.int (3 : Int32)), .val (.int (1 : Int32)), .val (.int x0)] rfl rfl ?_
              refine g_goto C X0 d2_58 (by decide) rfl ?_
              refine g_iload C X0 d2_11 rfl rfl ?_
              refine g_iload C X0 d2_13 rfl rfl ?_
              refine g_icmp C X0 d2_15 (by decide) rfl rfl ?_ ?_
              · intro h15
                have h15 : (1 : Int) ≥ 3 := h15
                exact absurd h15 (by decide)
              · intro h15
                have h15 : (1 : Int) < 3 := h15
                refine g_aloadN C X0 d2_18 rfl rfl ?_
                refine g_iload C X0 d2_19 rfl rfl ?_
                refine g_iaload C X0 d2_21 e0 A (by decide) (by decide) (v := (.int x1)) rfl rfl ?_
                refine g_istore C X0 d2_22 #[.val (.ref a), .val (.ref b), .val (.int (2 : Int32)), .val (.ref a), .val (.int (3 : Int32)), .val (.int (1 : Int32)), .val (.int x1)] rfl rfl ?_
                refine g_iloadN C X0 d2_24 rfl rfl ?_
                refine g_aloadN C X0 d2_25 rfl rfl ?_
                refine g_arraylength C X0 d2_26 e0 B rfl ?_
                intro n26 h_n26
                obtain rfl : n26 = (2 : Int32) := own_inj32 (y := (2 : Int32)) h_n26
                refine g_icmp C X0 d2_27 (by decide) rfl rfl ?_ ?_
                · intro h27
                  have h27 : (2 : Int) ≥ 2 := h27
                  refine g_iloadN C X0 d2_44 rfl rfl ?_
                  refine g_aloadN C X0 d2_45 rfl rfl ?_
                  refine g_arraylength C X0 d2_46 e0 B rfl ?_
                  intro n46 h_n46
                  obtain rfl : n46 = (2 : Int32) := own_inj32 (y := (2 : Int32)) h_n46
                  refine g_icmp C X0 d2_47 (by decide) rfl rfl ?_ ?_
                  · intro h47
                    have h47 : ¬ (2 : Int) = 2 := h47
                    exact absurd h47 (by decide)
                  · intro h47
                    have h47 : (2 : Int) = 2 := h47
                    refine g_iconst C X0 (0 : Int32) d2_50 rfl rfl ?_
                    exact g_ireturnN C X0 d2_51 rfl (Or.inl rfl) ⟨⟨(0 : Int32), rfl, Or.inr ⟨rfl, fun z => z⟩⟩, N0, e0⟩ (by decide) (by decide)
                · intro h27
                  have h27 : (2 : Int) < 2 := h27
                  exact absurd h27 (by decide)
            · intro h47
              have h47 : (1 : Int) = 2 := h47
              exact absurd h47 (by decide)
          · intro h35
            have h35 : ¬ r1.toInt = x0.toInt := h35
            refine g_iinc C X0 d2_38 rfl #[.val (.ref a), .val (.ref b), .val (.int (2 : Int32)), .val (.ref a), .val (.int (3 : Int32)), .val (.int (0 : Int32)), .val (.int x0)] rfl rfl ?_
            refine g_goto C X0 d2_41 (by decide) rfl ?_
            refine g_iloadN C X0 d2_24 rfl rfl ?_
            refine g_aloadN C X0 d2_25 rfl rfl ?_
            refine g_arraylength C X0 d2_26 e0 B rfl ?_
            intro n26 h_n26
            obtain rfl : n26 = (2 : Int32) := own_inj32 (y := (2 : Int32)) h_n26
            refine g_icmp C X0 d2_27 (by decide) rfl rfl ?_ ?_
            · intro h27
              have h27 : (2 : Int) ≥ 2 := h27
              refine g_iloadN C X0 d2_44 rfl rfl ?_
              refine g_aloadN C X0 d2_45 rfl rfl ?_
              refine g_arraylength C X0 d2_46 e0 B rfl ?_
              intro n46 h_n46
              obtain rfl : n46 = (2 : Int32) := own_inj32 (y := (2 : Int32)) h_n46
              refine g_icmp C X0 d2_47 (by decide) rfl rfl ?_ ?_
              · intro h47
                have h47 : ¬ (2 : Int) = 2 := h47
                exact absurd h47 (by decide)
              · intro h47
                have h47 : (2 : Int) = 2 := h47
                refine g_iconst C X0 (0 : Int32) d2_50 rfl rfl ?_
                exact g_ireturnN C X0 d2_51 rfl (Or.inl rfl) ⟨⟨(0 : Int32), rfl, Or.inr ⟨rfl, fun z => z⟩⟩, N0, e0⟩ (by decide) (by decide)
            · intro h27
              have h27 : (2 : Int) < 2 := h27
              exact absurd h27 (by decide)
def Q_sy3_3 (Z : State) (a : Addr) (b : Addr) (x0 : Int32) (x1 : Int32) (x2 : Int32) (r0 : Int32) (r1 : Int32) (r2 : Int32) (r3 : Int32) (h0 : Heap) (n0 : Nat) (v : Option Value) (h : Heap) (L : List Loc) : Prop := (∃ r : Int32, v = some (.int r) ∧ (r = 1 ∧ ((r0.toInt = x0.toInt ∧ r1.toInt = x1.toInt ∧ r2.toInt = x2.toInt)) ∨ r = 0 ∧ ¬ ((r0.toInt = x0.toInt ∧ r1.toInt = x1.toInt ∧ r2.toInt = x2.toInt)))) ∧ Fr n0 L ∧ h = h0
set_option maxRecDepth 65536 in
set_option maxHeartbeats 40000000 in
theorem sy3_3 (l : Launch) (Z : State) (a0 : Array Value) (hw : ∀ d ∈ tables_1, d.before a0 Z = true) (ws : List Jvm.Cond) (a : Addr) (b : Addr) (x0 x1 x2 r0 r1 r2 r3 : Int32) (h0 : Heap) (n0 : Nat) (Z0 : n0 ≤ h0.size) (A : Aw Z h0 a .int 3 (fun j => .int (([x0, x1, x2] : List Int32).getD j 0))) (B : Aw Z h0 b .int 3 (fun j => .int (([r0, r1, r2, r3] : List Int32).getD j 0))) :
    MetFree l (⟨"com/example/ballast/ballast/storage/ClusterCatalog", "isInSyncOf", "([I[I)Z"⟩ : MethodName) (head1 (Jvm.Cond.code (⟨"com/example/ballast/ballast/storage/ClusterCatalog", "isInSyncOf", "([I[I)Z"⟩ : MethodName) prog_270_method_61_code 7 (some .boolean) :: ws) ({ frames := 0, cells := 0, slots := 0, locals := 0 } : Room)) (fun aa U => aa = #[(.ref a), (.ref b)] ∧ Z.Warmed39 U.vm ∧ U.heap = h0) (fun _ _ _ _ _ => True) (fun _ U oo U' => ∃ rv Lr, oo = .returned rv ∧ Q_sy3_3 Z a b x0 x1 x2 r0 r1 r2 r3 h0 n0 rv U'.heap Lr ∧ FrameEnd U oo U' Lr ({ frames := 0, cells := 0, slots := 0, locals := 0 } : Room).cells ({ frames := 0, cells := 0, slots := 0, locals := 0 } : Room).slots) := by
  refine g_enter pn_2 hw (ef_2 a b) ?_
  intro p e s m below meth c T0 C X0 e0
  have C : Cx Z a0 p s m meth c prog_270_method_61_code 7 "com/example/ballast/ballast/storage/ClusterCatalog" "isInSyncOf" (some .boolean) := C
  have N0 := Fr.nil n0
  refine g_iconst C X0 (0 : Int32) d2_0 rfl rfl ?_
  refine g_istoreN C X0 d2_1 #[.val (.ref a), .val (.ref b), .val (.int (0 : Int32)), .unset, .unset, .unset, .unset] rfl rfl ?_
  refine g_aloadN C X0 d2_2 rfl rfl ?_
  refine g_astoreN C X0 d2_3 #[.val (.ref a), .val (.ref b), .val (.int (0 : Int32)), .val (.ref a), .unset, .unset, .unset] rfl rfl ?_
  refine g_aloadN C X0 d2_4 rfl rfl ?_
  refine g_arraylength C X0 d2_5 e0 A rfl ?_
  intro n5 h_n5
  obtain rfl : n5 = (3 : Int32) := own_inj32 (y := (3 : Int32)) h_n5
  refine g_istore C X0 d2_6 #[.val (.ref a), .val (.ref b), .val (.int (0 : Int32)), .val (.ref a), .val (.int (3 : Int32)), .unset, .unset] rfl rfl ?_
  refine g_iconst C X0 (0 : Int32) d2_8 rfl rfl ?_
  refine g_istore C X0 d2_9 #[.val (.ref a), .val (.ref b), .val (.int (0 : Int32)), .val (.ref a), .val (.int (3 : Int32)), .val (.int (0 : Int32)), .unset] rfl rfl ?_
  refine g_iload C X0 d2_11 rfl rfl ?_
  refine g_iload C X0 d2_13 rfl rfl ?_
  refine g_icmp C X0 d2_15 (by decide) rfl rfl ?_ ?_
  · intro h15
    have h15 : (0 : Int) ≥ 3 := h15
    exact absurd h15 (by decide)
  · intro h15
    have h15 : (0 : Int) < 3 := h15
    refine g_aloadN C X0 d2_18 rfl rfl ?_
    refine g_iload C X0 d2_19 rfl rfl ?_
    refine g_iaload C X0 d2_21 e0 A (by decide) (by decide) (v := (.int x0)) rfl rfl ?_
    refine g_istore C X0 d2_22 #[.val (.ref a), .val (.ref b), .val (.int (0 : Int32)), .val (.ref a), .val (.int (3 : Int32)), .val (.int (0 : Int32)), .val (.int x0)] rfl rfl ?_
    refine g_iloadN C X0 d2_24 rfl rfl ?_
    refine g_aloadN C X0 d2_25 rfl rfl ?_
    refine g_arraylength C X0 d2_26 e0 B rfl ?_
    intro n26 h_n26
    obtain rfl : n26 = (3 : Int32) := own_inj32 (y := (3 : Int32)) h_n26
    refine g_icmp C X0 d2_27 (by decide) rfl rfl ?_ ?_
    · intro h27
      have h27 : (0 : Int) ≥ 3 := h27
      exact absurd h27 (by decide)
    · intro h27
      have h27 : (0 : Int) < 3 := h27
      refine g_aloadN C X0 d2_30 rfl rfl ?_
      refine g_iloadN C X0 d2_31 rfl rfl ?_
      refine g_iaload C X0 d2_32 e0 B (by decide) (by decide) (v := (.int r0)) rfl rfl ?_
      refine g_iload C X0 d2_33 rfl rfl ?_
      refine g_icmp C X0 d2_35 (by decide) rfl rfl ?_ ?_
      · intro h35
        have h35 : r0.toInt = x0.toInt := h35
        refine g_iloadN C X0 d2_44 rfl rfl ?_
        refine g_aloadN C X0 d2_45 rfl rfl ?_
        refine g_arraylength C X0 d2_46 e0 B rfl ?_
        intro n46 h_n46
        obtain rfl : n46 = (3 : Int32) := own_inj32 (y := (3 : Int32)) h_n46
        refine g_icmp C X0 d2_47 (by decide) rfl rfl ?_ ?_
        · intro h47
          have h47 : ¬ (0 : Int) = 3 := h47
          refine g_iinc C X0 d2_52 rfl #[.val (.ref a), .val (.ref b), .val (.int (1 : Int32)), .val (.ref a), .val (.int (3 : Int32)), .val (.int (0 : Int32)), .val (.int x0)] rfl rfl ?_
          refine g_iinc C X0 d2_55 rfl #[.val (.ref a), .val (.ref b), .val (.int (1 : Int32)), .val (.ref a), .val (.int (3 : Int32)), .val (.int (1 : Int32)), .val (.int x0)] rfl rfl ?_
          refine g_goto C X0 d2_58 (by decide) rfl ?_
          refine g_iload C X0 d2_11 rfl rfl ?_
          refine g_iload C X0 d2_13 rfl rfl ?_
          refine g_icmp C X0 d2_15 (by decide) rfl rfl ?_ ?_
          · intro h15
            have h15 : (1 : Int) ≥ 3 := h15
            exact absurd h15 (by decide)
          · intro h15
            have h15 : (1 : Int) < 3 := h15
            refine g_aloadN C X0 d2_18 rfl rfl ?_
            refine g_iload C X0 d2_19 rfl rfl ?_
            refine g_iaload C X0 d2_21 e0 A (by decide) (by decide) (v := (.int x1)) rfl rfl ?_
            refine g_istore C X0 d2_22 #[.val (.ref a), .val (.ref b), .val (.int (1 : Int32)), .val (.ref a), .val (.int (3 : Int32)), .val (.int (1 : Int32)), .val (.int x1)] rfl rfl ?_
            refine g_iloadN C X0 d2_24 rfl rfl ?_
            refine g_aloadN C X0 d2_25 rfl rfl ?_
            refine g_arraylength C X0 d2_26 e0 B rfl ?_
            intro n26 h_n26
            obtain rfl : n26 = (3 : Int32) := own_inj32 (y := (3 : Int32)) h_n26
            refine g_icmp C X0 d2_27 (by decide) rfl rfl ?_ ?_
            · intro h27
              have h27 : (1 : Int) ≥ 3 := h27
              exact absurd h27 (by decide)
            · intro h27
              have h27 : (1 : Int) < 3 := h27
              refine g_aloadN C X0 d2_30 rfl rfl ?_
              refine g_iloadN C X0 d2_31 rfl rfl ?_
              refine g_iaload C X0 d2_32 e0 B (by decide) (by decide) (v := (.int r1)) rfl rfl ?_
              refine g_iload C X0 d2_33 rfl rfl ?_
              refine g_icmp C X0 d2_35 (by decide) rfl rfl ?_ ?_
              · intro h35
                have h35 : r1.toInt = x1.toInt := h35
                refine g_iloadN C X0 d2_44 rfl rfl ?_
                refine g_aloadN C X0 d2_45 rfl rfl ?_
                refine g_arraylength C X0 d2_46 e0 B rfl ?_
                intro n46 h_n46
                obtain rfl : n46 = (3 : Int32) := own_inj32 (y := (3 : Int32)) h_n46
                refine g_icmp C X0 d2_47 (by decide) rfl rfl ?_ ?_
                · intro h47
                  have h47 : ¬ (1 : Int) = 3 := h47
                  refine g_iinc C X0 d2_52 rfl #[.val (.ref a), .val (.ref b), .val (.int (2 : Int32)), .val (.ref a), .val (.int (3 : Int32)), .val (.int (1 : Int32)), .val (.int x1)] rfl rfl ?_
                  refine g_iinc C X0 d2_55 rfl #[.val (.ref a), .val (.ref b), .val (.int (2 : Int32)), .val (.ref a), .val (.int (3 : Int32)), .val (.int (2 : Int32)), .val (.int x1)] rfl rfl ?_
                  refine g_goto C X0 d2_58 (by decide) rfl ?_
                  refine g_iload C X0 d2_11 rfl rfl ?_
                  refine g_iload C X0 d2_13 rfl rfl ?_
                  refine g_icmp C X0 d2_15 (by decide) rfl rfl ?_ ?_
                  · intro h15
                    have h15 : (2 : Int) ≥ 3 := h15
                    exact absurd h15 (by decide)
                  · intro h15
                    have h15 : (2 : Int) < 3 := h15
                    refine g_aloadN C X0 d2_18 rfl rfl ?_
                    refine g_iload C X0 d2_19 rfl rfl ?_
                    refine g_iaload C X0 d2_21 e0 A (by decide) (by decide) (v := (.int x2)) rfl rfl ?_
                    refine g_istore C X0 d2_22 #[.val (.ref a), .val (.ref b), .val (.int (2 : Int32)), .val (.ref a), .val (.int (3 : Int32)), .val (.int (2 : Int32)), .val (.int x2)] rfl rfl ?_
                    refine g_iloadN C X0 d2_24 rfl rfl ?_
                    refine g_aloadN C X0 d2_25 rfl rfl ?_
                    refine g_arraylength C X0 d2_26 e0 B rfl ?_
                    intro n26 h_n26
                    obtain rfl : n26 = (3 : Int32) := own_inj32 (y := (3 : Int32)) h_n26
                    refine g_icmp C X0 d2_27 (by decide) rfl rfl ?_ ?_
                    · intro h27
                      have h27 : (2 : Int) ≥ 3 := h27
                      exact absurd h27 (by decide)
                    · intro h27
                      have h27 : (2 : Int) < 3 := h27
                      refine g_aloadN C X0 d2_30 rfl rfl ?_
                      refine g_iloadN C X0 d2_31 rfl rfl ?_
                      refine g_iaload C X0 d2_32 e0 B (by decide) (by decide) (v := (.int r2)) rfl rfl ?_
                      refine g_iload C X0 d2_33 rfl rfl ?_
                      refine g_icmp C X0 d2_35 (by decide) rfl rfl ?_ ?_
                      · intro h35
                        have h35 : r2.toInt = x2.toInt := h35
                        refine g_iloadN C X0 d2_44 rfl rfl ?_
                        refine g_aloadN C X0 d2_45 rfl rfl ?_
                        refine g_arraylength C X0 d2_46 e0 B rfl ?_
                        intro n46 h_n46
                        obtain rfl : n46 = (3 : Int32) := own_inj32 (y := (3 : Int32)) h_n46
                        refine g_icmp C X0 d2_47 (by decide) rfl rfl ?_ ?_
                        · intro h47
                          have h47 : ¬ (2 : Int) = 3 := h47
                          refine g_iinc C X0 d2_52 rfl #[.val (.ref a), .val (.ref b), .val (.int (3 : Int32)), .val (.ref a), .val (.int (3 : Int32)), .val (.int (2 : Int32)), .val (.int x2)] rfl rfl ?_
                          refine g_iinc C X0 d2_55 rfl #[.val (.ref a), .val (.ref b), .val (.int (3 : Int32)), .val (.ref a), .val (.int (3 : Int32)), .val (.int (3 : Int32)), .val (.int x2)] rfl rfl ?_
                          refine g_goto C X0 d2_58 (by decide) rfl ?_
                          refine g_iload C X0 d2_11 rfl rfl ?_
                          refine g_iload C X0 d2_13 rfl rfl ?_
                          refine g_icmp C X0 d2_15 (by decide) rfl rfl ?_ ?_
                          · intro h15
                            have h15 : (3 : Int) ≥ 3 := h15
                            refine g_aloadN C X0 d2_61 rfl rfl ?_
                            refine g_arraylength C X0 d2_62 e0 A rfl ?_
                            intro n62 h_n62
                            obtain rfl : n62 = (3 : Int32) := own_inj32 (y := (3 : Int32)) h_n62
                            refine g_if C X0 d2_63 (by decide) rfl rfl ?_ ?_
                            · intro h63
                              have h63 : (3 : Int) ≤ 0 := h63
                              exact absurd h63 (by decide)
                            · intro h63
                              have h63 : (3 : Int) > 0 := h63
                              refine g_iconst C X0 (1 : Int32) d2_66 rfl rfl ?_
                              refine g_goto C X0 d2_67 (by decide) rfl ?_
                              exact g_ireturnN C X0 d2_71 rfl (Or.inl rfl) ⟨⟨(1 : Int32), rfl, Or.inl ⟨rfl, by omega⟩⟩, N0, e0⟩ (by decide) (by decide)
                          · intro h15
                            have h15 : (3 : Int) < 3 := h15
                            exact absurd h15 (by decide)
                        · intro h47
                          have h47 : (2 : Int) = 3 := h47
                          exact absurd h47 (by decide)
                      · intro h35
                        have h35 : ¬ r2.toInt = x2.toInt := h35
                        refine g_iinc C X0 d2_38 rfl #[.val (.ref a), .val (.ref b), .val (.int (3 : Int32)), .val (.ref a), .val (.int (3 : Int32)), .val (.int (2 : Int32)), .val (.int x2)] rfl rfl ?_
                        refine g_goto C X0 d2_41 (by decide) rfl ?_
                        refine g_iloadN C X0 d2_24 rfl rfl ?_
                        refine g_aloadN C X0 d2_25 rfl rfl ?_
                        refine g_arraylength C X0 d2_26 e0 B rfl ?_
                        intro n26 h_n26
                        obtain rfl : n26 = (3 : Int32) := own_inj32 (y := (3 : Int32)) h_n26
                        refine g_icmp C X0 d2_27 (by decide) rfl rfl ?_ ?_
                        · intro h27
                          have h27 : (3 : Int) ≥ 3 := h27
                          refine g_iloadN C X0 d2_44 rfl rfl ?_
                          refine g_aloadN C X0 d2_45 rfl rfl ?_
                          refine g_arraylength C X0 d2_46 e0 B rfl ?_
                          intro n46 h_n46
                          obtain rfl : n46 = (3 : Int32) := own_inj32 (y := (3 : Int32)) h_n46
                          refine g_icmp C X0 d2_47 (by decide) rfl rfl ?_ ?_
                          · intro h47
                            have h47 : ¬ (3 : Int) = 3 := h47
                            exact absurd h47 (by decide)
                          · intro h47
                            have h47 : (3 : Int) = 3 := h47
                            refine g_iconst C X0 (0 : Int32) d2_50 rfl rfl ?_
                            exact g_ireturnN C X0 d2_51 rfl (Or.inl rfl) ⟨⟨(0 : Int32), rfl, Or.inr ⟨rfl, by omega⟩⟩, N0, e0⟩ (by decide) (by decide)
                        · intro h27
                          have h27 : (3 : Int) < 3 := h27
                          exact absurd h27 (by decide)
                · intro h47
                  have h47 : (1 : Int) = 3 := h47
                  exact absurd h47 (by decide)
              · intro h35
                have h35 : ¬ r1.toInt = x1.toInt := h35
                refine g_iinc C X0 d2_38 rfl #[.val (.ref a), .val (.ref b), .val (.int (2 : Int32)), .val (.ref a), .val (.int (3 : Int32)), .val (.int (1 : Int32)), .val (.int x1)] rfl rfl ?_
                refine g_goto C X0 d2_41 (by decide) rfl ?_
                refine g_iloadN C X0 d2_24 rfl rfl ?_
                refine g_aloadN C X0 d2_25 rfl rfl ?_
                refine g_arraylength C X0 d2_26 e0 B rfl ?_
                intro n26 h_n26
                obtain rfl : n26 = (3 : Int32) := own_inj32 (y := (3 : Int32)) h_n26
                refine g_icmp C X0 d2_27 (by decide) rfl rfl ?_ ?_
                · intro h27
                  have h27 : (2 : Int) ≥ 3 := h27
                  exact absurd h27 (by decide)
                · intro h27
                  have h27 : (2 : Int) < 3 := h27
                  refine g_aloadN C X0 d2_30 rfl rfl ?_
                  refine g_iloadN C X0 d2_31 rfl rfl ?_
                  refine g_iaload C X0 d2_32 e0 B (by decide) (by decide) (v := (.int r2)) rfl rfl ?_
                  refine g_iload C X0 d2_33 rfl rfl ?_
                  refine g_icmp C X0 d2_35 (by decide) rfl rfl ?_ ?_
                  · intro h35
                    have h35 : r2.toInt = x1.toInt := h35
                    refine g_iloadN C X0 d2_44 rfl rfl ?_
                    refine g_aloadN C X0 d2_45 rfl rfl ?_
                    refine g_arraylength C X0 d2_46 e0 B rfl ?_
                    intro n46 h_n46
                    obtain rfl : n46 = (3 : Int32) := own_inj32 (y := (3 : Int32)) h_n46
                    refine g_icmp C X0 d2_47 (by decide) rfl rfl ?_ ?_
                    · intro h47
                      have h47 : ¬ (2 : Int) = 3 := h47
                      refine g_iinc C X0 d2_52 rfl #[.val (.ref a), .val (.ref b), .val (.int (3 : Int32)), .val (.ref a), .val (.int (3 : Int32)), .val (.int (1 : Int32)), .val (.int x1)] rfl rfl ?_
                      refine g_iinc C X0 d2_55 rfl #[.val (.ref a), .val (.ref b), .val (.int (3 : Int32)), .val (.ref a), .val (.int (3 : Int32)), .val (.int (2 : Int32)), .val (.int x1)] rfl rfl ?_
                      refine g_goto C X0 d2_58 (by decide) rfl ?_
                      refine g_iload C X0 d2_11 rfl rfl ?_
                      refine g_iload C X0 d2_13 rfl rfl ?_
                      refine g_icmp C X0 d2_15 (by decide) rfl rfl ?_ ?_
                      · intro h15
                        have h15 : (2 : Int) ≥ 3 := h15
                        exact absurd h15 (by decide)
                      · intro h15
                        have h15 : (2 : Int) < 3 := h15
                        refine g_aloadN C X0 d2_18 rfl rfl ?_
                        refine g_iload C X0 d2_19 rfl rfl ?_
                        refine g_iaload C X0 d2_21 e0 A (by decide) (by decide) (v := (.int x2)) rfl rfl ?_
                        refine g_istore C X0 d2_22 #[.val (.ref a), .val (.ref b), .val (.int (3 : Int32)), .val (.ref a), .val (.int (3 : Int32)), .val (.int (2 : Int32)), .val (.int x2)] rfl rfl ?_
                        refine g_iloadN C X0 d2_24 rfl rfl ?_
                        refine g_aloadN C X0 d2_25 rfl rfl ?_
                        refine g_arraylength C X0 d2_26 e0 B rfl ?_
                        intro n26 h_n26
                        obtain rfl : n26 = (3 : Int32) := own_inj32 (y := (3 : Int32)) h_n26
                        refine g_icmp C X0 d2_27 (by decide) rfl rfl ?_ ?_
                        · intro h27
                          have h27 : (3 : Int) ≥ 3 := h27
                          refine g_iloadN C X0 d2_44 rfl rfl ?_
                          refine g_aloadN C X0 d2_45 rfl rfl ?_
                          refine g_arraylength C X0 d2_46 e0 B rfl ?_
                          intro n46 h_n46
                          obtain rfl : n46 = (3 : Int32) := own_inj32 (y := (3 : Int32)) h_n46
                          refine g_icmp C X0 d2_47 (by decide) rfl rfl ?_ ?_
                          · intro h47
                            have h47 : ¬ (3 : Int) = 3 := h47
                            exact absurd h47 (by decide)
                          · intro h47
                            have h47 : (3 : Int) = 3 := h47
                            refine g_iconst C X0 (0 : Int32) d2_50 rfl rfl ?_
                            exact g_ireturnN C X0 d2_51 rfl (Or.inl rfl) ⟨⟨(0 : Int32), rfl, Or.inr ⟨rfl, by omega⟩⟩, N0, e0⟩ (by decide) (by decide)
                        · intro h27
                          have h27 : (3 : Int) < 3 := h27
                          exact absurd h27 (by decide)
                    · intro h47
                      have h47 : (2 : Int) = 3 := h47
                      exact absurd h47 (by decide)
                  · intro h35
                    have h35 : ¬ r2.toInt = x1.toInt := h35
                    refine g_iinc C X0 d2_38 rfl #[.val (.ref a), .val (.ref b), .val (.int (3 : Int32)), .val (.ref a), .val (.int (3 : Int32)), .val (.int (1 : Int32)), .val (.int x1)] rfl rfl ?_
                    refine g_goto C X0 d2_41 (by decide) rfl ?_
                    refine g_iloadN C X0 d2_24 rfl rfl ?_
                    refine g_aloadN C X0 d2_25 rfl rfl ?_
                    refine g_arraylength C X0 d2_26 e0 B rfl ?_
                    intro n26 h_n26
                    obtain rfl : n26 = (3 : Int32) := own_inj32 (y := (3 : Int32)) h_n26
                    refine g_icmp C X0 d2_27 (by decide) rfl rfl ?_ ?_
                    · intro h27
                      have h27 : (3 : Int) ≥ 3 := h27
                      refine g_iloadN C X0 d2_44 rfl rfl ?_
                      refine g_aloadN C X0 d2_45 rfl rfl ?_
                      refine g_arraylength C X0 d2_46 e0 B rfl ?_
                      intro n46 h_n46
                      obtain rfl : n46 = (3 : Int32) := own_inj32 (y := (3 : Int32)) h_n46
                      refine g_icmp C X0 d2_47 (by decide) rfl rfl ?_ ?_
                      · intro h47
                        have h47 : ¬ (3 : Int) = 3 := h47
                        exact absurd h47 (by decide)
                      · intro h47
                        have h47 : (3 : Int) = 3 := h47
                        refine g_iconst C X0 (0 : Int32) d2_50 rfl rfl ?_
                        exact g_ireturnN C X0 d2_51 rfl (Or.inl rfl) ⟨⟨(0 : Int32), rfl, Or.inr ⟨rfl, by omega⟩⟩, N0, e0⟩ (by decide) (by decide)
                    · intro h27
                      have h27 : (3 : Int) < 3 := h27
                      exact absurd h27 (by decide)
        · intro h47
          have h47 : (0 : Int) = 3 := h47
          exact absurd h47 (by decide)
      · intro h35
        have h35 : ¬ r0.toInt = x0.toInt := h35
        refine g_iinc C X0 d2_38 rfl #[.val (.ref a), .val (.ref b), .val (.int (1 : Int32)), .val (.ref a), .val (.int (3 : Int32)), .val (.int (0 : Int32)), .val (.int x0)] rfl rfl ?_
        refine g_goto C X0 d2_41 (by decide) rfl ?_
        refine g_iloadN C X0 d2_24 rfl rfl ?_
        refine g_aloadN C X0 d2_25 rfl rfl ?_
        refine g_arraylength C X0 d2_26 e0 B rfl ?_
        intro n26 h_n26
        obtain rfl : n26 = (3 : Int32) := own_inj32 (y := (3 : Int32)) h_n26
        refine g_icmp C X0 d2_27 (by decide) rfl rfl ?_ ?_
        · intro h27
          have h27 : (1 : Int) ≥ 3 := h27
          exact absurd h27 (by decide)
        · intro h27
          have h27 : (1 : Int) < 3 := h27
          refine g_aloadN C X0 d2_30 rfl rfl ?_
          refine g_iloadN C X0 d2_31 rfl rfl ?_
          refine g_iaload C X0 d2_32 e0 B (by decide) (by decide) (v := (.int r1)) rfl rfl ?_
          refine g_iload C X0 d2_33 rfl rfl ?_
          refine g_icmp C X0 d2_35 (by decide) rfl rfl ?_ ?_
          · intro h35
            have h35 : r1.toInt = x0.toInt := h35
            refine g_iloadN C X0 d2_44 rfl rfl ?_
            refine g_aloadN C X0 d2_45 rfl rfl ?_
            refine g_arraylength C X0 d2_46 e0 B rfl ?_
            intro n46 h_n46
            obtain rfl : n46 = (3 : Int32) := own_inj32 (y := (3 : Int32)) h_n46
            refine g_icmp C X0 d2_47 (by decide) rfl rfl ?_ ?_
            · intro h47
              have h47 : ¬ (1 : Int) = 3 := h47
              refine g_iinc C X0 d2_52 rfl #[.val (.ref a), .val (.ref b), .val (.int (2 : Int32)), .val (.ref a), .val (.int (3 : Int32)), .val (.int (0 : Int32)), .val (.int x0)] rfl rfl ?_
              refine g_iinc C X0 d2_55 rfl #[.val (.ref a), .val (.ref b), .val (.int (2 : Int32)), .val (.ref a), .val (.int (3 : Int32)), .val (.int (1 : Int32)), .val (.int x0)] rfl rfl ?_
              refine g_goto C X0 d2_58 (by decide) rfl ?_
              refine g_iload C X0 d2_11 rfl rfl ?_
              refine g_iload C X0 d2_13 rfl rfl ?_
              refine g_icmp C X0 d2_15 (by decide) rfl rfl ?_ ?_
              · intro h15
                have h15 : (1 : Int) ≥ 3 := h15
                exact absurd h15 (by decide)
              · intro h15
                have h15 : (1 : Int) < 3 := h15
                refine g_aloadN C X0 d2_18 rfl rfl ?_
                refine g_iload C X0 d2_19 rfl rfl ?_
                refine g_iaload C X0 d2_21 e0 A (by decide) (by decide) (v := (.int x1)) rfl rfl ?_
                refine g_istore C X0 d2_22 #[.val (.ref a), .val (.ref b), .val (.int (2 : Int32)), .val (.ref a), .val (.int (3 : Int32)), .val (.int (1 : Int32)), .val (.int x1)] rfl rfl ?_
                refine g_iloadN C X0 d2_24 rfl rfl ?_
                refine g_aloadN C X0 d2_25 rfl rfl ?_
                refine g_arraylength C X0 d2_26 e0 B rfl ?_
                intro n26 h_n26
                obtain rfl : n26 = (3 : Int32) := own_inj32 (y := (3 : Int32)) h_n26
                refine g_icmp C X0 d2_27 (by decide) rfl rfl ?_ ?_
                · intro h27
                  have h27 : (2 : Int) ≥ 3 := h27
                  exact absurd h27 (by decide)
                · intro h27
                  have h27 : (2 : Int) < 3 := h27
                  refine g_aloadN C X0 d2_30 rfl rfl ?_
                  refine g_iloadN C X0 d2_31 rfl rfl ?_
                  refine g_iaload C X0 d2_32 e0 B (by decide) (by decide) (v := (.int r2)) rfl rfl ?_
                  refine g_iload C X0 d2_33 rfl rfl ?_
                  refine g_icmp C X0 d2_35 (by decide) rfl rfl ?_ ?_
                  · intro h35
                    have h35 : r2.toInt = x1.toInt := h35
                    refine g_iloadN C X0 d2_44 rfl rfl ?_
                    refine g_aloadN C X0 d2_45 rfl rfl ?_
                    refine g_arraylength C X0 d2_46 e0 B rfl ?_
                    intro n46 h_n46
                    obtain rfl : n46 = (3 : Int32) := own_inj32 (y := (3 : Int32)) h_n46
                    refine g_icmp C X0 d2_47 (by decide) rfl rfl ?_ ?_
                    · intro h47
                      have h47 : ¬ (2 : Int) = 3 := h47
                      refine g_iinc C X0 d2_52 rfl #[.val (.ref a), .val (.ref b), .val (.int (3 : Int32)), .val (.ref a), .val (.int (3 : Int32)), .val (.int (1 : Int32)), .val (.int x1)] rfl rfl ?_
                      refine g_iinc C X0 d2_55 rfl #[.val (.ref a), .val (.ref b), .val (.int (3 : Int32)), .val (.ref a), .val (.int (3 : Int32)), .val (.int (2 : Int32)), .val (.int x1)] rfl rfl ?_
                      refine g_goto C X0 d2_58 (by decide) rfl ?_
                      refine g_iload C X0 d2_11 rfl rfl ?_
                      refine g_iload C X0 d2_13 rfl rfl ?_
                      refine g_icmp C X0 d2_15 (by decide) rfl rfl ?_ ?_
                      · intro h15
                        have h15 : (2 : Int) ≥ 3 := h15
                        exact absurd h15 (by decide)
                      · intro h15
                        have h15 : (2 : Int) < 3 := h15
                        refine g_aloadN C X0 d2_18 rfl rfl ?_
                        refine g_iload C X0 d2_19 rfl rfl ?_
                        refine g_iaload C X0 d2_21 e0 A (by decide) (by decide) (v := (.int x2)) rfl rfl ?_
                        refine g_istore C X0 d2_22 #[.val (.ref a), .val (.ref b), .val (.int (3 : Int32)), .val (.ref a), .val (.int (3 : Int32)), .val (.int (2 : Int32)), .val (.int x2)] rfl rfl ?_
                        refine g_iloadN C X0 d2_24 rfl rfl ?_
                        refine g_aloadN C X0 d2_25 rfl rfl ?_
                        refine g_arraylength C X0 d2_26 e0 B rfl ?_
                        intro n26 h_n26
                        obtain rfl : n26 = (3 : Int32) := own_inj32 (y := (3 : Int32)) h_n26
                        refine g_icmp C X0 d2_27 (by decide) rfl rfl ?_ ?_
                        · intro h27
                          have h27 : (3 : Int) ≥ 3 := h27
                          refine g_iloadN C X0 d2_44 rfl rfl ?_
                          refine g_aloadN C X0 d2_45 rfl rfl ?_
                          refine g_arraylength C X0 d2_46 e0 B rfl ?_
                          intro n46 h_n46
                          obtain rfl : n46 = (3 : Int32) := own_inj32 (y := (3 : Int32)) h_n46
                          refine g_icmp C X0 d2_47 (by decide) rfl rfl ?_ ?_
                          · intro h47
                            have h47 : ¬ (3 : Int) = 3 := h47
                            exact absurd h47 (by decide)
                          · intro h47
                            have h47 : (3 : Int) = 3 := h47
                            refine g_iconst C X0 (0 : Int32) d2_50 rfl rfl ?_
                            exact g_ireturnN C X0 d2_51 rfl (Or.inl rfl) ⟨⟨(0 : Int32), rfl, Or.inr ⟨rfl, by omega⟩⟩, N0, e0⟩ (by decide) (by decide)
                        · intro h27
                          have h27 : (3 : Int) < 3 := h27
                          exact absurd h27 (by decide)
                    · intro h47
                      have h47 : (2 : Int) = 3 := h47
                      exact absurd h47 (by decide)
                  · intro h35
                    have h35 : ¬ r2.toInt = x1.toInt := h35
                    refine g_iinc C X0 d2_38 rfl #[.val (.ref a), .val (.ref b), .val (.int (3 : Int32)), .val (.ref a), .val (.int (3 : Int32)), .val (.int (1 : Int32)), .val (.int x1)] rfl rfl ?_
                    refine g_goto C X0 d2_41 (by decide) rfl ?_
                    refine g_iloadN C X0 d2_24 rfl rfl ?_
                    refine g_aloadN C X0 d2_25 rfl rfl ?_
                    refine g_arraylength C X0 d2_26 e0 B rfl ?_
                    intro n26 h_n26
                    obtain rfl : n26 = (3 : Int32) := own_inj32 (y := (3 : Int32)) h_n26
                    refine g_icmp C X0 d2_27 (by decide) rfl rfl ?_ ?_
                    · intro h27
                      have h27 : (3 : Int) ≥ 3 := h27
                      refine g_iloadN C X0 d2_44 rfl rfl ?_
                      refine g_aloadN C X0 d2_45 rfl rfl ?_
                      refine g_arraylength C X0 d2_46 e0 B rfl ?_
                      intro n46 h_n46
                      obtain rfl : n46 = (3 : Int32) := own_inj32 (y := (3 : Int32)) h_n46
                      refine g_icmp C X0 d2_47 (by decide) rfl rfl ?_ ?_
                      · intro h47
                        have h47 : ¬ (3 : Int) = 3 := h47
                        exact absurd h47 (by decide)
                      · intro h47
                        have h47 : (3 : Int) = 3 := h47
                        refine g_iconst C X0 (0 : Int32) d2_50 rfl rfl ?_
                        exact g_ireturnN C X0 d2_51 rfl (Or.inl rfl) ⟨⟨(0 : Int32), rfl, Or.inr ⟨rfl, by omega⟩⟩, N0, e0⟩ (by decide) (by decide)
                    · intro h27
                      have h27 : (3 : Int) < 3 := h27
                      exact absurd h27 (by decide)
            · intro h47
              have h47 : (1 : Int) = 3 := h47
              exact absurd h47 (by decide)
          · intro h35
            have h35 : ¬ r1.toInt = x0.toInt := h35
            refine g_iinc C X0 d2_38 rfl #[.val (.ref a), .val (.ref b), .val (.int (2 : Int32)), .val (.ref a), .val (.int (3 : Int32)), .val (.int (0 : Int32)), .val (.int x0)] rfl rfl ?_
            refine g_goto C X0 d2_41 (by decide) rfl ?_
            refine g_iloadN C X0 d2_24 rfl rfl ?_
            refine g_aloadN C X0 d2_25 rfl rfl ?_
            refine g_arraylength C X0 d2_26 e0 B rfl ?_
            intro n26 h_n26
            obtain rfl : n26 = (3 : Int32) := own_inj32 (y := (3 : Int32)) h_n26
            refine g_icmp C X0 d2_27 (by decide) rfl rfl ?_ ?_
            · intro h27
              have h27 : (2 : Int) ≥ 3 := h27
              exact absurd h27 (by decide)
            · intro h27
              have h27 : (2 : Int) < 3 := h27
              refine g_aloadN C X0 d2_30 rfl rfl ?_
              refine g_iloadN C X0 d2_31 rfl rfl ?_
              refine g_iaload C X0 d2_32 e0 B (by decide) (by decide) (v := (.int r2)) rfl rfl ?_
              refine g_iload C X0 d2_33 rfl rfl ?_
              refine g_icmp C X0 d2_35 (by decide) rfl rfl ?_ ?_
              · intro h35
                have h35 : r2.toInt = x0.toInt := h35
                refine g_iloadN C X0 d2_44 rfl rfl ?_
                refine g_aloadN C X0 d2_45 rfl rfl ?_
                refine g_arraylength C X0 d2_46 e0 B rfl ?_
                intro n46 h_n46
                obtain rfl : n46 = (3 : Int32) := own_inj32 (y := (3 : Int32)) h_n46
                refine g_icmp C X0 d2_47 (by decide) rfl rfl ?_ ?_
                · intro h47
                  have h47 : ¬ (2 : Int) = 3 := h47
                  refine g_iinc C X0 d2_52 rfl #[.val (.ref a), .val (.ref b), .val (.int (3 : Int32)), .val (.ref a), .val (.int (3 : Int32)), .val (.int (0 : Int32)), .val (.int x0)] rfl rfl ?_
                  refine g_iinc C X0 d2_55 rfl #[.val (.ref a), .val (.ref b), .val (.int (3 : Int32)), .val (.ref a), .val (.int (3 : Int32)), .val (.int (1 : Int32)), .val (.int x0)] rfl rfl ?_
                  refine g_goto C X0 d2_58 (by decide) rfl ?_
                  refine g_iload C X0 d2_11 rfl rfl ?_
                  refine g_iload C X0 d2_13 rfl rfl ?_
                  refine g_icmp C X0 d2_15 (by decide) rfl rfl ?_ ?_
                  · intro h15
                    have h15 : (1 : Int) ≥ 3 := h15
                    exact absurd h15 (by decide)
                  · intro h15
                    have h15 : (1 : Int) < 3 := h15
                    refine g_aloadN C X0 d2_18 rfl rfl ?_
                    refine g_iload C X0 d2_19 rfl rfl ?_
                    refine g_iaload C X0 d2_21 e0 A (by decide) (by decide) (v := (.int x1)) rfl rfl ?_
                    refine g_istore C X0 d2_22 #[.val (.ref a), .val (.ref b), .val (.int (3 : Int32)), .val (.ref a), .val (.int (3 : Int32)), .val (.int (1 : Int32)), .val (.int x1)] rfl rfl ?_
                    refine g_iloadN C X0 d2_24 rfl rfl ?_
                    refine g_aloadN C X0 d2_25 rfl rfl ?_
                    refine g_arraylength C X0 d2_26 e0 B rfl ?_
                    intro n26 h_n26
                    obtain rfl : n26 = (3 : Int32) := own_inj32 (y := (3 : Int32)) h_n26
                    refine g_icmp C X0 d2_27 (by decide) rfl rfl ?_ ?_
                    · intro h27
                      have h27 : (3 : Int) ≥ 3 := h27
                      refine g_iloadN C X0 d2_44 rfl rfl ?_
                      refine g_aloadN C X0 d2_45 rfl rfl ?_
                      refine g_arraylength C X0 d2_46 e0 B rfl ?_
                      intro n46 h_n46
                      obtain rfl : n46 = (3 : Int32) := own_inj32 (y := (3 : Int32)) h_n46
                      refine g_icmp C X0 d2_47 (by decide) rfl rfl ?_ ?_
                      · intro h47
                        have h47 : ¬ (3 : Int) = 3 := h47
                        exact absurd h47 (by decide)
                      · intro h47
                        have h47 : (3 : Int) = 3 := h47
                        refine g_iconst C X0 (0 : Int32) d2_50 rfl rfl ?_
                        exact g_ireturnN C X0 d2_51 rfl (Or.inl rfl) ⟨⟨(0 : Int32), rfl, Or.inr ⟨rfl, by omega⟩⟩, N0, e0⟩ (by decide) (by decide)
                    · intro h27
                      have h27 : (3 : Int) < 3 := h27
                      exact absurd h27 (by decide)
                · intro h47
                  have h47 : (2 : Int) = 3 := h47
                  exact absurd h47 (by decide)
              · intro h35
                have h35 : ¬ r2.toInt = x0.toInt := h35
                refine g_iinc C X0 d2_38 rfl #[.val (.ref a), .val (.ref b), .val (.int (3 : Int32)), .val (.ref a), .val (.int (3 : Int32)), .val (.int (0 : Int32)), .val (.int x0)] rfl rfl ?_
                refine g_goto C X0 d2_41 (by decide) rfl ?_
                refine g_iloadN C X0 d2_24 rfl rfl ?_
                refine g_aloadN C X0 d2_25 rfl rfl ?_
                refine g_arraylength C X0 d2_26 e0 B rfl ?_
                intro n26 h_n26
                obtain rfl : n26 = (3 : Int32) := own_inj32 (y := (3 : Int32)) h_n26
                refine g_icmp C X0 d2_27 (by decide) rfl rfl ?_ ?_
                · intro h27
                  have h27 : (3 : Int) ≥ 3 := h27
                  refine g_iloadN C X0 d2_44 rfl rfl ?_
                  refine g_aloadN C X0 d2_45 rfl rfl ?_
                  refine g_arraylength C X0 d2_46 e0 B rfl ?_
                  intro n46 h_n46
                  obtain rfl : n46 = (3 : Int32) := own_inj32 (y := (3 : Int32)) h_n46
                  refine g_icmp C X0 d2_47 (by decide) rfl rfl ?_ ?_
                  · intro h47
                    have h47 : ¬ (3 : Int) = 3 := h47
                    exact absurd h47 (by decide)
                  · intro h47
                    have h47 : (3 : Int) = 3 := h47
                    refine g_iconst C X0 (0 : Int32) d2_50 rfl rfl ?_
                    exact g_ireturnN C X0 d2_51 rfl (Or.inl rfl) ⟨⟨(0 : Int32), rfl, Or.inr ⟨rfl, by omega⟩⟩, N0, e0⟩ (by decide) (by decide)
                · intro h27
                  have h27 : (3 : Int) < 3 := h27
                  exact absurd h27 (by decide)
def Q_sy3_4 (Z : State) (a : Addr) (b : Addr) (x0 : Int32) (x1 : Int32) (x2 : Int32) (r0 : Int32) (r1 : Int32) (r2 : Int32) (r3 : Int32) (h0 : Heap) (n0 : Nat) (v : Option Value) (h : Heap) (L : List Loc) : Prop := (∃ r : Int32, v = some (.int r) ∧ (r = 1 ∧ ((r0.toInt = x0.toInt ∧ r1.toInt = x1.toInt ∧ r2.toInt = x2.toInt) ∨ (r0.toInt = x0.toInt ∧ r1.toInt = x1.toInt ∧ r3.toInt = x2.toInt) ∨ (r0.toInt = x0.toInt ∧ r2.toInt = x1.toInt ∧ r3.toInt = x2.toInt) ∨ (r1.toInt = x0.toInt ∧ r2.toInt = x1.toInt ∧ r3.toInt = x2.toInt)) ∨ r = 0 ∧ ¬ ((r0.toInt = x0.toInt ∧ r1.toInt = x1.toInt ∧ r2.toInt = x2.toInt) ∨ (r0.toInt = x0.toInt ∧ r1.toInt = x1.toInt ∧ r3.toInt = x2.toInt) ∨ (r0.toInt = x0.toInt ∧ r2.toInt = x1.toInt ∧ r3.toInt = x2.toInt) ∨ (r1.toInt = x0.toInt ∧ r2.toInt = x1.toInt ∧ r3.toInt = x2.toInt)))) ∧ Fr n0 L ∧ h = h0
set_option maxRecDepth 65536 in
set_option maxHeartbeats 40000000 in
theorem sy3_4 (l : Launch) (Z : State) (a0 : Array Value) (hw : ∀ d ∈ tables_1, d.before a0 Z = true) (ws : List Jvm.Cond) (a : Addr) (b : Addr) (x0 x1 x2 r0 r1 r2 r3 : Int32) (h0 : Heap) (n0 : Nat) (Z0 : n0 ≤ h0.size) (A : Aw Z h0 a .int 3 (fun j => .int (([x0, x1, x2] : List Int32).getD j 0))) (B : Aw Z h0 b .int 4 (fun j => .int (([r0, r1, r2, r3] : List Int32).getD j 0))) :
    MetFree l (⟨"com/example/ballast/ballast/storage/ClusterCatalog", "isInSyncOf", "([I[I)Z"⟩ : MethodName) (head1 (Jvm.Cond.code (⟨"com/example/ballast/ballast/storage/ClusterCatalog", "isInSyncOf", "([I[I)Z"⟩ : MethodName) prog_270_method_61_code 7 (some .boolean) :: ws) ({ frames := 0, cells := 0, slots := 0, locals := 0 } : Room)) (fun aa U => aa = #[(.ref a), (.ref b)] ∧ Z.Warmed39 U.vm ∧ U.heap = h0) (fun _ _ _ _ _ => True) (fun _ U oo U' => ∃ rv Lr, oo = .returned rv ∧ Q_sy3_4 Z a b x0 x1 x2 r0 r1 r2 r3 h0 n0 rv U'.heap Lr ∧ FrameEnd U oo U' Lr ({ frames := 0, cells := 0, slots := 0, locals := 0 } : Room).cells ({ frames := 0, cells := 0, slots := 0, locals := 0 } : Room).slots) := by
  refine g_enter pn_2 hw (ef_2 a b) ?_
  intro p e s m below meth c T0 C X0 e0
  have C : Cx Z a0 p s m meth c prog_270_method_61_code 7 "com/example/ballast/ballast/storage/ClusterCatalog" "isInSyncOf" (some .boolean) := C
  have N0 := Fr.nil n0
  refine g_iconst C X0 (0 : Int32) d2_0 rfl rfl ?_
  refine g_istoreN C X0 d2_1 #[.val (.ref a), .val (.ref b), .val (.int (0 : Int32)), .unset, .unset, .unset, .unset] rfl rfl ?_
  refine g_aloadN C X0 d2_2 rfl rfl ?_
  refine g_astoreN C X0 d2_3 #[.val (.ref a), .val (.ref b), .val (.int (0 : Int32)), .val (.ref a), .unset, .unset, .unset] rfl rfl ?_
  refine g_aloadN C X0 d2_4 rfl rfl ?_
  refine g_arraylength C X0 d2_5 e0 A rfl ?_
  intro n5 h_n5
  obtain rfl : n5 = (3 : Int32) := own_inj32 (y := (3 : Int32)) h_n5
  refine g_istore C X0 d2_6 #[.val (.ref a), .val (.ref b), .val (.int (0 : Int32)), .val (.ref a), .val (.int (3 : Int32)), .unset, .unset] rfl rfl ?_
  refine g_iconst C X0 (0 : Int32) d2_8 rfl rfl ?_
  refine g_istore C X0 d2_9 #[.val (.ref a), .val (.ref b), .val (.int (0 : Int32)), .val (.ref a), .val (.int (3 : Int32)), .val (.int (0 : Int32)), .unset] rfl rfl ?_
  refine g_iload C X0 d2_11 rfl rfl ?_
  refine g_iload C X0 d2_13 rfl rfl ?_
  refine g_icmp C X0 d2_15 (by decide) rfl rfl ?_ ?_
  · intro h15
    have h15 : (0 : Int) ≥ 3 := h15
    exact absurd h15 (by decide)
  · intro h15
    have h15 : (0 : Int) < 3 := h15
    refine g_aloadN C X0 d2_18 rfl rfl ?_
    refine g_iload C X0 d2_19 rfl rfl ?_
    refine g_iaload C X0 d2_21 e0 A (by decide) (by decide) (v := (.int x0)) rfl rfl ?_
    refine g_istore C X0 d2_22 #[.val (.ref a), .val (.ref b), .val (.int (0 : Int32)), .val (.ref a), .val (.int (3 : Int32)), .val (.int (0 : Int32)), .val (.int x0)] rfl rfl ?_
    refine g_iloadN C X0 d2_24 rfl rfl ?_
    refine g_aloadN C X0 d2_25 rfl rfl ?_
    refine g_arraylength C X0 d2_26 e0 B rfl ?_
    intro n26 h_n26
    obtain rfl : n26 = (4 : Int32) := own_inj32 (y := (4 : Int32)) h_n26
    refine g_icmp C X0 d2_27 (by decide) rfl rfl ?_ ?_
    · intro h27
      have h27 : (0 : Int) ≥ 4 := h27
      exact absurd h27 (by decide)
    · intro h27
      have h27 : (0 : Int) < 4 := h27
      refine g_aloadN C X0 d2_30 rfl rfl ?_
      refine g_iloadN C X0 d2_31 rfl rfl ?_
      refine g_iaload C X0 d2_32 e0 B (by decide) (by decide) (v := (.int r0)) rfl rfl ?_
      refine g_iload C X0 d2_33 rfl rfl ?_
      refine g_icmp C X0 d2_35 (by decide) rfl rfl ?_ ?_
      · intro h35
        have h35 : r0.toInt = x0.toInt := h35
        refine g_iloadN C X0 d2_44 rfl rfl ?_
        refine g_aloadN C X0 d2_45 rfl rfl ?_
        refine g_arraylength C X0 d2_46 e0 B rfl ?_
        intro n46 h_n46
        obtain rfl : n46 = (4 : Int32) := own_inj32 (y := (4 : Int32)) h_n46
        refine g_icmp C X0 d2_47 (by decide) rfl rfl ?_ ?_
        · intro h47
          have h47 : ¬ (0 : Int) = 4 := h47
          refine g_iinc C X0 d2_52 rfl #[.val (.ref a), .val (.ref b), .val (.int (1 : Int32)), .val (.ref a), .val (.int (3 : Int32)), .val (.int (0 : Int32)), .val (.int x0)] rfl rfl ?_
          refine g_iinc C X0 d2_55 rfl #[.val (.ref a), .val (.ref b), .val (.int (1 : Int32)), .val (.ref a), .val (.int (3 : Int32)), .val (.int (1 : Int32)), .val (.int x0)] rfl rfl ?_
          refine g_goto C X0 d2_58 (by decide) rfl ?_
          refine g_iload C X0 d2_11 rfl rfl ?_
          refine g_iload C X0 d2_13 rfl rfl ?_
          refine g_icmp C X0 d2_15 (by decide) rfl rfl ?_ ?_
          · intro h15
            have h15 : (1 : Int) ≥ 3 := h15
            exact absurd h15 (by decide)
          · intro h15
            have h15 : (1 : Int) < 3 := h15
            refine g_aloadN C X0 d2_18 rfl rfl ?_
            refine g_iload C X0 d2_19 rfl rfl ?_
            refine g_iaload C X0 d2_21 e0 A (by decide) (by decide) (v := (.int x1)) rfl rfl ?_
            refine g_istore C X0 d2_22 #[.val (.ref a), .val (.ref b), .val (.int (1 : Int32)), .val (.ref a), .val (.int (3 : Int32)), .val (.int (1 : Int32)), .val (.int x1)] rfl rfl ?_
            refine g_iloadN C X0 d2_24 rfl rfl ?_
            refine g_aloadN C X0 d2_25 rfl rfl ?_
            refine g_arraylength C X0 d2_26 e0 B rfl ?_
            intro n26 h_n26
            obtain rfl : n26 = (4 : Int32) := own_inj32 (y := (4 : Int32)) h_n26
            refine g_icmp C X0 d2_27 (by decide) rfl rfl ?_ ?_
            · intro h27
              have h27 : (1 : Int) ≥ 4 := h27
              exact absurd h27 (by decide)
            · intro h27
              have h27 : (1 : Int) < 4 := h27
              refine g_aloadN C X0 d2_30 rfl rfl ?_
              refine g_iloadN C X0 d2_31 rfl rfl ?_
              refine g_iaload C X0 d2_32 e0 B (by decide) (by decide) (v := (.int r1)) rfl rfl ?_
              refine g_iload C X0 d2_33 rfl rfl ?_
              refine g_icmp C X0 d2_35 (by decide) rfl rfl ?_ ?_
              · intro h35
                have h35 : r1.toInt = x1.toInt := h35
                refine g_iloadN C X0 d2_44 rfl rfl ?_
                refine g_aloadN C X0 d2_45 rfl rfl ?_
                refine g_arraylength C X0 d2_46 e0 B rfl ?_
                intro n46 h_n46
                obtain rfl : n46 = (4 : Int32) := own_inj32 (y := (4 : Int32)) h_n46
                refine g_icmp C X0 d2_47 (by decide) rfl rfl ?_ ?_
                · intro h47
                  have h47 : ¬ (1 : Int) = 4 := h47
                  refine g_iinc C X0 d2_52 rfl #[.val (.ref a), .val (.ref b), .val (.int (2 : Int32)), .val (.ref a), .val (.int (3 : Int32)), .val (.int (1 : Int32)), .val (.int x1)] rfl rfl ?_
                  refine g_iinc C X0 d2_55 rfl #[.val (.ref a), .val (.ref b), .val (.int (2 : Int32)), .val (.ref a), .val (.int (3 : Int32)), .val (.int (2 : Int32)), .val (.int x1)] rfl rfl ?_
                  refine g_goto C X0 d2_58 (by decide) rfl ?_
                  refine g_iload C X0 d2_11 rfl rfl ?_
                  refine g_iload C X0 d2_13 rfl rfl ?_
                  refine g_icmp C X0 d2_15 (by decide) rfl rfl ?_ ?_
                  · intro h15
                    have h15 : (2 : Int) ≥ 3 := h15
                    exact absurd h15 (by decide)
                  · intro h15
                    have h15 : (2 : Int) < 3 := h15
                    refine g_aloadN C X0 d2_18 rfl rfl ?_
                    refine g_iload C X0 d2_19 rfl rfl ?_
                    refine g_iaload C X0 d2_21 e0 A (by decide) (by decide) (v := (.int x2)) rfl rfl ?_
                    refine g_istore C X0 d2_22 #[.val (.ref a), .val (.ref b), .val (.int (2 : Int32)), .val (.ref a), .val (.int (3 : Int32)), .val (.int (2 : Int32)), .val (.int x2)] rfl rfl ?_
                    refine g_iloadN C X0 d2_24 rfl rfl ?_
                    refine g_aloadN C X0 d2_25 rfl rfl ?_
                    refine g_arraylength C X0 d2_26 e0 B rfl ?_
                    intro n26 h_n26
                    obtain rfl : n26 = (4 : Int32) := own_inj32 (y := (4 : Int32)) h_n26
                    refine g_icmp C X0 d2_27 (by decide) rfl rfl ?_ ?_
                    · intro h27
                      have h27 : (2 : Int) ≥ 4 := h27
                      exact absurd h27 (by decide)
                    · intro h27
                      have h27 : (2 : Int) < 4 := h27
                      refine g_aloadN C X0 d2_30 rfl rfl ?_
                      refine g_iloadN C X0 d2_31 rfl rfl ?_
                      refine g_iaload C X0 d2_32 e0 B (by decide) (by decide) (v := (.int r2)) rfl rfl ?_
                      refine g_iload C X0 d2_33 rfl rfl ?_
                      refine g_icmp C X0 d2_35 (by decide) rfl rfl ?_ ?_
                      · intro h35
                        have h35 : r2.toInt = x2.toInt := h35
                        refine g_iloadN C X0 d2_44 rfl rfl ?_
                        refine g_aloadN C X0 d2_45 rfl rfl ?_
                        refine g_arraylength C X0 d2_46 e0 B rfl ?_
                        intro n46 h_n46
                        obtain rfl : n46 = (4 : Int32) := own_inj32 (y := (4 : Int32)) h_n46
                        refine g_icmp C X0 d2_47 (by decide) rfl rfl ?_ ?_
                        · intro h47
                          have h47 : ¬ (2 : Int) = 4 := h47
                          refine g_iinc C X0 d2_52 rfl #[.val (.ref a), .val (.ref b), .val (.int (3 : Int32)), .val (.ref a), .val (.int (3 : Int32)), .val (.int (2 : Int32)), .val (.int x2)] rfl rfl ?_
                          refine g_iinc C X0 d2_55 rfl #[.val (.ref a), .val (.ref b), .val (.int (3 : Int32)), .val (.ref a), .val (.int (3 : Int32)), .val (.int (3 : Int32)), .val (.int x2)] rfl rfl ?_
                          refine g_goto C X0 d2_58 (by decide) rfl ?_
                          refine g_iload C X0 d2_11 rfl rfl ?_
                          refine g_iload C X0 d2_13 rfl rfl ?_
                          refine g_icmp C X0 d2_15 (by decide) rfl rfl ?_ ?_
                          · intro h15
                            have h15 : (3 : Int) ≥ 3 := h15
                            refine g_aloadN C X0 d2_61 rfl rfl ?_
                            refine g_arraylength C X0 d2_62 e0 A rfl ?_
                            intro n62 h_n62
                            obtain rfl : n62 = (3 : Int32) := own_inj32 (y := (3 : Int32)) h_n62
                            refine g_if C X0 d2_63 (by decide) rfl rfl ?_ ?_
                            · intro h63
                              have h63 : (3 : Int) ≤ 0 := h63
                              exact absurd h63 (by decide)
                            · intro h63
                              have h63 : (3 : Int) > 0 := h63
                              refine g_iconst C X0 (1 : Int32) d2_66 rfl rfl ?_
                              refine g_goto C X0 d2_67 (by decide) rfl ?_
                              exact g_ireturnN C X0 d2_71 rfl (Or.inl rfl) ⟨⟨(1 : Int32), rfl, Or.inl ⟨rfl, by omega⟩⟩, N0, e0⟩ (by decide) (by decide)
                          · intro h15
                            have h15 : (3 : Int) < 3 := h15
                            exact absurd h15 (by decide)
                        · intro h47
                          have h47 : (2 : Int) = 4 := h47
                          exact absurd h47 (by decide)
                      · intro h35
                        have h35 : ¬ r2.toInt = x2.toInt := h35
                        refine g_iinc C X0 d2_38 rfl #[.val (.ref a), .val (.ref b), .val (.int (3 : Int32)), .val (.ref a), .val (.int (3 : Int32)), .val (.int (2 : Int32)), .val (.int x2)] rfl rfl ?_
                        refine g_goto C X0 d2_41 (by decide) rfl ?_
                        refine g_iloadN C X0 d2_24 rfl rfl ?_
                        refine g_aloadN C X0 d2_25 rfl rfl ?_
                        refine g_arraylength C X0 d2_26 e0 B rfl ?_
                        intro n26 h_n26
                        obtain rfl : n26 = (4 : Int32) := own_inj32 (y := (4 : Int32)) h_n26
                        refine g_icmp C X0 d2_27 (by decide) rfl rfl ?_ ?_
                        · intro h27
                          have h27 : (3 : Int) ≥ 4 := h27
                          exact absurd h27 (by decide)
                        · intro h27
                          have h27 : (3 : Int) < 4 := h27
                          refine g_aloadN C X0 d2_30 rfl rfl ?_
                          refine g_iloadN C X0 d2_31 rfl rfl ?_
                          refine g_iaload C X0 d2_32 e0 B (by decide) (by decide) (v := (.int r3)) rfl rfl ?_
                          refine g_iload C X0 d2_33 rfl rfl ?_
                          refine g_icmp C X0 d2_35 (by decide) rfl rfl ?_ ?_
                          · intro h35
                            have h35 : r3.toInt = x2.toInt := h35
                            refine g_iloadN C X0 d2_44 rfl rfl ?_
                            refine g_aloadN C X0 d2_45 rfl rfl ?_
                            refine g_arraylength C X0 d2_46 e0 B rfl ?_
                            intro n46 h_n46
                            obtain rfl : n46 = (4 : Int32) := own_inj32 (y := (4 : Int32)) h_n46
                            refine g_icmp C X0 d2_47 (by decide) rfl rfl ?_ ?_
                            · intro h47
                              have h47 : ¬ (3 : Int) = 4 := h47
                              refine g_iinc C X0 d2_52 rfl #[.val (.ref a), .val (.ref b), .val (.int (4 : Int32)), .val (.ref a), .val (.int (3 : Int32)), .val (.int (2 : Int32)), .val (.int x2)] rfl rfl ?_
                              refine g_iinc C X0 d2_55 rfl #[.val (.ref a), .val (.ref b), .val (.int (4 : Int32)), .val (.ref a), .val (.int (3 : Int32)), .val (.int (3 : Int32)), .val (.int x2)] rfl rfl ?_
                              refine g_goto C X0 d2_58 (by decide) rfl ?_
                              refine g_iload C X0 d2_11 rfl rfl ?_
                              refine g_iload C X0 d2_13 rfl rfl ?_
                              refine g_icmp C X0 d2_15 (by decide) rfl rfl ?_ ?_
                              · intro h15
                                have h15 : (3 : Int) ≥ 3 := h15
                                refine g_aloadN C X0 d2_61 rfl rfl ?_
                                refine g_arraylength C X0 d2_62 e0 A rfl ?_
                                intro n62 h_n62
                                obtain rfl : n62 = (3 : Int32) := own_inj32 (y := (3 : Int32)) h_n62
                                refine g_if C X0 d2_63 (by decide) rfl rfl ?_ ?_
                                · intro h63
                                  have h63 : (3 : Int) ≤ 0 := h63
                                  exact absurd h63 (by decide)
                                · intro h63
                                  have h63 : (3 : Int) > 0 := h63
                                  refine g_iconst C X0 (1 : Int32) d2_66 rfl rfl ?_
                                  refine g_goto C X0 d2_67 (by decide) rfl ?_
                                  exact g_ireturnN C X0 d2_71 rfl (Or.inl rfl) ⟨⟨(1 : Int32), rfl, Or.inl ⟨rfl, by omega⟩⟩, N0, e0⟩ (by decide) (by decide)
                              · intro h15
                                have h15 : (3 : Int) < 3 := h15
                                exact absurd h15 (by decide)
                            · intro h47
                              have h47 : (3 : Int) = 4 := h47
                              exact absurd h47 (by decide)
                          · intro h35
                            have h35 : ¬ r3.toInt = x2.toInt := h35
                            refine g_iinc C X0 d2_38 rfl #[.val (.ref a), .val (.ref b), .val (.int (4 : Int32)), .val (.ref a), .val (.int (3 : Int32)), .val (.int (2 : Int32)), .val (.int x2)] rfl rfl ?_
                            refine g_goto C X0 d2_41 (by decide) rfl ?_
                            refine g_iloadN C X0 d2_24 rfl rfl ?_
                            refine g_aloadN C X0 d2_25 rfl rfl ?_
                            refine g_arraylength C X0 d2_26 e0 B rfl ?_
                            intro n26 h_n26
                            obtain rfl : n26 = (4 : Int32) := own_inj32 (y := (4 : Int32)) h_n26
                            refine g_icmp C X0 d2_27 (by decide) rfl rfl ?_ ?_
                            · intro h27
                              have h27 : (4 : Int) ≥ 4 := h27
                              refine g_iloadN C X0 d2_44 rfl rfl ?_
                              refine g_aloadN C X0 d2_45 rfl rfl ?_
                              refine g_arraylength C X0 d2_46 e0 B rfl ?_
                              intro n46 h_n46
                              obtain rfl : n46 = (4 : Int32) := own_inj32 (y := (4 : Int32)) h_n46
                              refine g_icmp C X0 d2_47 (by decide) rfl rfl ?_ ?_
                              · intro h47
                                have h47 : ¬ (4 : Int) = 4 := h47
                                exact absurd h47 (by decide)
                              · intro h47
                                have h47 : (4 : Int) = 4 := h47
                                refine g_iconst C X0 (0 : Int32) d2_50 rfl rfl ?_
                                exact g_ireturnN C X0 d2_51 rfl (Or.inl rfl) ⟨⟨(0 : Int32), rfl, Or.inr ⟨rfl, by omega⟩⟩, N0, e0⟩ (by decide) (by decide)
                            · intro h27
                              have h27 : (4 : Int) < 4 := h27
                              exact absurd h27 (by decide)
                · intro h47
                  have h47 : (1 : Int) = 4 := h47
                  exact absurd h47 (by decide)
              · intro h35
                have h35 : ¬ r1.toInt = x1.toInt := h35
                refine g_iinc C X0 d2_38 rfl #[.val (.ref a), .val (.ref b), .val (.int (2 : Int32)), .val (.ref a), .val (.int (3 : Int32)), .val (.int (1 : Int32)), .val (.int x1)] rfl rfl ?_
                refine g_goto C X0 d2_41 (by decide) rfl ?_
                refine g_iloadN C X0 d2_24 rfl rfl ?_
                refine g_aloadN C X0 d2_25 rfl rfl ?_
                refine g_arraylength C X0 d2_26 e0 B rfl ?_
                intro n26 h_n26
                obtain rfl : n26 = (4 : Int32) := own_inj32 (y := (4 : Int32)) h_n26
                refine g_icmp C X0 d2_27 (by decide) rfl rfl ?_ ?_
                · intro h27
                  have h27 : (2 : Int) ≥ 4 := h27
                  exact absurd h27 (by decide)
                · intro h27
                  have h27 : (2 : Int) < 4 := h27
                  refine g_aloadN C X0 d2_30 rfl rfl ?_
                  refine g_iloadN C X0 d2_31 rfl rfl ?_
                  refine g_iaload C X0 d2_32 e0 B (by decide) (by decide) (v := (.int r2)) rfl rfl ?_
                  refine g_iload C X0 d2_33 rfl rfl ?_
                  refine g_icmp C X0 d2_35 (by decide) rfl rfl ?_ ?_
                  · intro h35
                    have h35 : r2.toInt = x1.toInt := h35
                    refine g_iloadN C X0 d2_44 rfl rfl ?_
                    refine g_aloadN C X0 d2_45 rfl rfl ?_
                    refine g_arraylength C X0 d2_46 e0 B rfl ?_
                    intro n46 h_n46
                    obtain rfl : n46 = (4 : Int32) := own_inj32 (y := (4 : Int32)) h_n46
                    refine g_icmp C X0 d2_47 (by decide) rfl rfl ?_ ?_
                    · intro h47
                      have h47 : ¬ (2 : Int) = 4 := h47
                      refine g_iinc C X0 d2_52 rfl #[.val (.ref a), .val (.ref b), .val (.int (3 : Int32)), .val (.ref a), .val (.int (3 : Int32)), .val (.int (1 : Int32)), .val (.int x1)] rfl rfl ?_
                      refine g_iinc C X0 d2_55 rfl #[.val (.ref a), .val (.ref b), .val (.int (3 : Int32)), .val (.ref a), .val (.int (3 : Int32)), .val (.int (2 : Int32)), .val (.int x1)] rfl rfl ?_
                      refine g_goto C X0 d2_58 (by decide) rfl ?_
                      refine g_iload C X0 d2_11 rfl rfl ?_
                      refine g_iload C X0 d2_13 rfl rfl ?_
                      refine g_icmp C X0 d2_15 (by decide) rfl rfl ?_ ?_
                      · intro h15
                        have h15 : (2 : Int) ≥ 3 := h15
                        exact absurd h15 (by decide)
                      · intro h15
                        have h15 : (2 : Int) < 3 := h15
                        refine g_aloadN C X0 d2_18 rfl rfl ?_
                        refine g_iload C X0 d2_19 rfl rfl ?_
                        refine g_iaload C X0 d2_21 e0 A (by decide) (by decide) (v := (.int x2)) rfl rfl ?_
                        refine g_istore C X0 d2_22 #[.val (.ref a), .val (.ref b), .val (.int (3 : Int32)), .val (.ref a), .val (.int (3 : Int32)), .val (.int (2 : Int32)), .val (.int x2)] rfl rfl ?_
                        refine g_iloadN C X0 d2_24 rfl rfl ?_
                        refine g_aloadN C X0 d2_25 rfl rfl ?_
                        refine g_arraylength C X0 d2_26 e0 B rfl ?_
                        intro n26 h_n26
                        obtain rfl : n26 = (4 : Int32) := own_inj32 (y := (4 : Int32)) h_n26
                        refine g_icmp C X0 d2_27 (by decide) rfl rfl ?_ ?_
                        · intro h27
                          have h27 : (3 : Int) ≥ 4 := h27
                          exact absurd h27 (by decide)
                        · intro h27
                          have h27 : (3 : Int) < 4 := h27
                          refine g_aloadN C X0 d2_30 rfl rfl ?_
                          refine g_iloadN C X0 d2_31 rfl rfl ?_
                          refine g_iaload C X0 d2_32 e0 B (by decide) (by decide) (v := (.int r3)) rfl rfl ?_
                          refine g_iload C X0 d2_33 rfl rfl ?_
                          refine g_icmp C X0 d2_35 (by decide) rfl rfl ?_ ?_
                          · intro h35
                            have h35 : r3.toInt = x2.toInt := h35
                            refine g_iloadN C X0 d2_44 rfl rfl ?_
                            refine g_aloadN C X0 d2_45 rfl rfl ?_
                            refine g_arraylength C X0 d2_46 e0 B rfl ?_
                            intro n46 h_n46
                            obtain rfl : n46 = (4 : Int32) := own_inj32 (y := (4 : Int32)) h_n46
                            refine g_icmp C X0 d2_47 (by decide) rfl rfl ?_ ?_
                            · intro h47
                              have h47 : ¬ (3 : Int) = 4 := h47
                              refine g_iinc C X0 d2_52 rfl #[.val (.ref a), .val (.ref b), .val (.int (4 : Int32)), .val (.ref a), .val (.int (3 : Int32)), .val (.int (2 : Int32)), .val (.int x2)] rfl rfl ?_
                              refine g_iinc C X0 d2_55 rfl #[.val (.ref a), .val (.ref b), .val (.int (4 : Int32)), .val (.ref a), .val (.int (3 : Int32)), .val (.int (3 : Int32)), .val (.int x2)] rfl rfl ?_
                              refine g_goto C X0 d2_58 (by decide) rfl ?_
                              refine g_iload C X0 d2_11 rfl rfl ?_
                              refine g_iload C X0 d2_13 rfl rfl ?_
                              refine g_icmp C X0 d2_15 (by decide) rfl rfl ?_ ?_
                              · intro h15
                                have h15 : (3 : Int) ≥ 3 := h15
                                refine g_aloadN C X0 d2_61 rfl rfl ?_
                                refine g_arraylength C X0 d2_62 e0 A rfl ?_
                                intro n62 h_n62
                                obtain rfl : n62 = (3 : Int32) := own_inj32 (y := (3 : Int32)) h_n62
                                refine g_if C X0 d2_63 (by decide) rfl rfl ?_ ?_
                                · intro h63
                                  have h63 : (3 : Int) ≤ 0 := h63
                                  exact absurd h63 (by decide)
                                · intro h63
                                  have h63 : (3 : Int) > 0 := h63
                                  refine g_iconst C X0 (1 : Int32) d2_66 rfl rfl ?_
                                  refine g_goto C X0 d2_67 (by decide) rfl ?_
                                  exact g_ireturnN C X0 d2_71 rfl (Or.inl rfl) ⟨⟨(1 : Int32), rfl, Or.inl ⟨rfl, by omega⟩⟩, N0, e0⟩ (by decide) (by decide)
                              · intro h15
                                have h15 : (3 : Int) < 3 := h15
                                exact absurd h15 (by decide)
                            · intro h47
                              have h47 : (3 : Int) = 4 := h47
                              exact absurd h47 (by decide)
                          · intro h35
                            have h35 : ¬ r3.toInt = x2.toInt := h35
                            refine g_iinc C X0 d2_38 rfl #[.val (.ref a), .val (.ref b), .val (.int (4 : Int32)), .val (.ref a), .val (.int (3 : Int32)), .val (.int (2 : Int32)), .val (.int x2)] rfl rfl ?_
                            refine g_goto C X0 d2_41 (by decide) rfl ?_
                            refine g_iloadN C X0 d2_24 rfl rfl ?_
                            refine g_aloadN C X0 d2_25 rfl rfl ?_
                            refine g_arraylength C X0 d2_26 e0 B rfl ?_
                            intro n26 h_n26
                            obtain rfl : n26 = (4 : Int32) := own_inj32 (y := (4 : Int32)) h_n26
                            refine g_icmp C X0 d2_27 (by decide) rfl rfl ?_ ?_
                            · intro h27
                              have h27 : (4 : Int) ≥ 4 := h27
                              refine g_iloadN C X0 d2_44 rfl rfl ?_
                              refine g_aloadN C X0 d2_45 rfl rfl ?_
                              refine g_arraylength C X0 d2_46 e0 B rfl ?_
                              intro n46 h_n46
                              obtain rfl : n46 = (4 : Int32) := own_inj32 (y := (4 : Int32)) h_n46
                              refine g_icmp C X0 d2_47 (by decide) rfl rfl ?_ ?_
                              · intro h47
                                have h47 : ¬ (4 : Int) = 4 := h47
                                exact absurd h47 (by decide)
                              · intro h47
                                have h47 : (4 : Int) = 4 := h47
                                refine g_iconst C X0 (0 : Int32) d2_50 rfl rfl ?_
                                exact g_ireturnN C X0 d2_51 rfl (Or.inl rfl) ⟨⟨(0 : Int32), rfl, Or.inr ⟨rfl, by omega⟩⟩, N0, e0⟩ (by decide) (by decide)
                            · intro h27
                              have h27 : (4 : Int) < 4 := h27
                              exact absurd h27 (by decide)
                    · intro h47
                      have h47 : (2 : Int) = 4 := h47
                      exact absurd h47 (by decide)
                  · intro h35
                    have h35 : ¬ r2.toInt = x1.toInt := h35
                    refine g_iinc C X0 d2_38 rfl #[.val (.ref a), .val (.ref b), .val (.int (3 : Int32)), .val (.ref a), .val (.int (3 : Int32)), .val (.int (1 : Int32)), .val (.int x1)] rfl rfl ?_
                    refine g_goto C X0 d2_41 (by decide) rfl ?_
                    refine g_iloadN C X0 d2_24 rfl rfl ?_
                    refine g_aloadN C X0 d2_25 rfl rfl ?_
                    refine g_arraylength C X0 d2_26 e0 B rfl ?_
                    intro n26 h_n26
                    obtain rfl : n26 = (4 : Int32) := own_inj32 (y := (4 : Int32)) h_n26
                    refine g_icmp C X0 d2_27 (by decide) rfl rfl ?_ ?_
                    · intro h27
                      have h27 : (3 : Int) ≥ 4 := h27
                      exact absurd h27 (by decide)
                    · intro h27
                      have h27 : (3 : Int) < 4 := h27
                      refine g_aloadN C X0 d2_30 rfl rfl ?_
                      refine g_iloadN C X0 d2_31 rfl rfl ?_
                      refine g_iaload C X0 d2_32 e0 B (by decide) (by decide) (v := (.int r3)) rfl rfl ?_
                      refine g_iload C X0 d2_33 rfl rfl ?_
                      refine g_icmp C X0 d2_35 (by decide) rfl rfl ?_ ?_
                      · intro h35
                        have h35 : r3.toInt = x1.toInt := h35
                        refine g_iloadN C X0 d2_44 rfl rfl ?_
                        refine g_aloadN C X0 d2_45 rfl rfl ?_
                        refine g_arraylength C X0 d2_46 e0 B rfl ?_
                        intro n46 h_n46
                        obtain rfl : n46 = (4 : Int32) := own_inj32 (y := (4 : Int32)) h_n46
                        refine g_icmp C X0 d2_47 (by decide) rfl rfl ?_ ?_
                        · intro h47
                          have h47 : ¬ (3 : Int) = 4 := h47
                          refine g_iinc C X0 d2_52 rfl #[.val (.ref a), .val (.ref b), .val (.int (4 : Int32)), .val (.ref a), .val (.int (3 : Int32)), .val (.int (1 : Int32)), .val (.int x1)] rfl rfl ?_
                          refine g_iinc C X0 d2_55 rfl #[.val (.ref a), .val (.ref b), .val (.int (4 : Int32)), .val (.ref a), .val (.int (3 : Int32)), .val (.int (2 : Int32)), .val (.int x1)] rfl rfl ?_
                          refine g_goto C X0 d2_58 (by decide) rfl ?_
                          refine g_iload C X0 d2_11 rfl rfl ?_
                          refine g_iload C X0 d2_13 rfl rfl ?_
                          refine g_icmp C X0 d2_15 (by decide) rfl rfl ?_ ?_
                          · intro h15
                            have h15 : (2 : Int) ≥ 3 := h15
                            exact absurd h15 (by decide)
                          · intro h15
                            have h15 : (2 : Int) < 3 := h15
                            refine g_aloadN C X0 d2_18 rfl rfl ?_
                            refine g_iload C X0 d2_19 rfl rfl ?_
                            refine g_iaload C X0 d2_21 e0 A (by decide) (by decide) (v := (.int x2)) rfl rfl ?_
                            refine g_istore C X0 d2_22 #[.val (.ref a), .val (.ref b), .val (.int (4 : Int32)), .val (.ref a), .val (.int (3 : Int32)), .val (.int (2 : Int32)), .val (.int x2)] rfl rfl ?_
                            refine g_iloadN C X0 d2_24 rfl rfl ?_
                            refine g_aloadN C X0 d2_25 rfl rfl ?_
                            refine g_arraylength C X0 d2_26 e0 B rfl ?_
                            intro n26 h_n26
                            obtain rfl : n26 = (4 : Int32) := own_inj32 (y := (4 : Int32)) h_n26
                            refine g_icmp C X0 d2_27 (by decide) rfl rfl ?_ ?_
                            · intro h27
                              have h27 : (4 : Int) ≥ 4 := h27
                              refine g_iloadN C X0 d2_44 rfl rfl ?_
                              refine g_aloadN C X0 d2_45 rfl rfl ?_
                              refine g_arraylength C X0 d2_46 e0 B rfl ?_
                              intro n46 h_n46
                              obtain rfl : n46 = (4 : Int32) := own_inj32 (y := (4 : Int32)) h_n46
                              refine g_icmp C X0 d2_47 (by decide) rfl rfl ?_ ?_
                              · intro h47
                                have h47 : ¬ (4 : Int) = 4 := h47
                                exact absurd h47 (by decide)
                              · intro h47
                                have h47 : (4 : Int) = 4 := h47
                                refine g_iconst C X0 (0 : Int32) d2_50 rfl rfl ?_
                                exact g_ireturnN C X0 d2_51 rfl (Or.inl rfl) ⟨⟨(0 : Int32), rfl, Or.inr ⟨rfl, by omega⟩⟩, N0, e0⟩ (by decide) (by decide)
                            · intro h27
                              have h27 : (4 : Int) < 4 := h27
                              exact absurd h27 (by decide)
                        · intro h47
                          have h47 : (3 : Int) = 4 := h47
                          exact absurd h47 (by decide)
                      · intro h35
                        have h35 : ¬ r3.toInt = x1.toInt := h35
                        refine g_iinc C X0 d2_38 rfl #[.val (.ref a), .val (.ref b), .val (.int (4 : Int32)), .val (.ref a), .val (.int (3 : Int32)), .val (.int (1 : Int32)), .val (.int x1)] rfl rfl ?_
                        refine g_goto C X0 d2_41 (by decide) rfl ?_
                        refine g_iloadN C X0 d2_24 rfl rfl ?_
                        refine g_aloadN C X0 d2_25 rfl rfl ?_
                        refine g_arraylength C X0 d2_26 e0 B rfl ?_
                        intro n26 h_n26
                        obtain rfl : n26 = (4 : Int32) := own_inj32 (y := (4 : Int32)) h_n26
                        refine g_icmp C X0 d2_27 (by decide) rfl rfl ?_ ?_
                        · intro h27
                          have h27 : (4 : Int) ≥ 4 := h27
                          refine g_iloadN C X0 d2_44 rfl rfl ?_
                          refine g_aloadN C X0 d2_45 rfl rfl ?_
                          refine g_arraylength C X0 d2_46 e0 B rfl ?_
                          intro n46 h_n46
                          obtain rfl : n46 = (4 : Int32) := own_inj32 (y := (4 : Int32)) h_n46
                          refine g_icmp C X0 d2_47 (by decide) rfl rfl ?_ ?_
                          · intro h47
                            have h47 : ¬ (4 : Int) = 4 := h47
                            exact absurd h47 (by decide)
                          · intro h47
                            have h47 : (4 : Int) = 4 := h47
                            refine g_iconst C X0 (0 : Int32) d2_50 rfl rfl ?_
                            exact g_ireturnN C X0 d2_51 rfl (Or.inl rfl) ⟨⟨(0 : Int32), rfl, Or.inr ⟨rfl, by omega⟩⟩, N0, e0⟩ (by decide) (by decide)
                        · intro h27
                          have h27 : (4 : Int) < 4 := h27
                          exact absurd h27 (by decide)
        · intro h47
          have h47 : (0 : Int) = 4 := h47
          exact absurd h47 (by decide)
      · intro h35
        have h35 : ¬ r0.toInt = x0.toInt := h35
        refine g_iinc C X0 d2_38 rfl #[.val (.ref a), .val (.ref b), .val (.int (1 : Int32)), .val (.ref a), .val (.int (3 : Int32)), .val (.int (0 : Int32)), .val (.int x0)] rfl rfl ?_
        refine g_goto C X0 d2_41 (by decide) rfl ?_
        refine g_iloadN C X0 d2_24 rfl rfl ?_
        refine g_aloadN C X0 d2_25 rfl rfl ?_
        refine g_arraylength C X0 d2_26 e0 B rfl ?_
        intro n26 h_n26
        obtain rfl : n26 = (4 : Int32) := own_inj32 (y := (4 : Int32)) h_n26
        refine g_icmp C X0 d2_27 (by decide) rfl rfl ?_ ?_
        · intro h27
          have h27 : (1 : Int) ≥ 4 := h27
          exact absurd h27 (by decide)
        · intro h27
          have h27 : (1 : Int) < 4 := h27
          refine g_aloadN C X0 d2_30 rfl rfl ?_
          refine g_iloadN C X0 d2_31 rfl rfl ?_
          refine g_iaload C X0 d2_32 e0 B (by decide) (by decide) (v := (.int r1)) rfl rfl ?_
          refine g_iload C X0 d2_33 rfl rfl ?_
          refine g_icmp C X0 d2_35 (by decide) rfl rfl ?_ ?_
          · intro h35
            have h35 : r1.toInt = x0.toInt := h35
            refine g_iloadN C X0 d2_44 rfl rfl ?_
            refine g_aloadN C X0 d2_45 rfl rfl ?_
            refine g_arraylength C X0 d2_46 e0 B rfl ?_
            intro n46 h_n46
            obtain rfl : n46 = (4 : Int32) := own_inj32 (y := (4 : Int32)) h_n46
            refine g_icmp C X0 d2_47 (by decide) rfl rfl ?_ ?_
            · intro h47
              have h47 : ¬ (1 : Int) = 4 := h47
              refine g_iinc C X0 d2_52 rfl #[.val (.ref a), .val (.ref b), .val (.int (2 : Int32)), .val (.ref a), .val (.int (3 : Int32)), .val (.int (0 : Int32)), .val (.int x0)] rfl rfl ?_
              refine g_iinc C X0 d2_55 rfl #[.val (.ref a), .val (.ref b), .val (.int (2 : Int32)), .val (.ref a), .val (.int (3 : Int32)), .val (.int (1 : Int32)), .val (.int x0)] rfl rfl ?_
              refine g_goto C X0 d2_58 (by decide) rfl ?_
              refine g_iload C X0 d2_11 rfl rfl ?_
              refine g_iload C X0 d2_13 rfl rfl ?_
              refine g_icmp C X0 d2_15 (by decide) rfl rfl ?_ ?_
              · intro h15
                have h15 : (1 : Int) ≥ 3 := h15
                exact absurd h15 (by decide)
              · intro h15
                have h15 : (1 : Int) < 3 := h15
                refine g_aloadN C X0 d2_18 rfl rfl ?_
                refine g_iload C X0 d2_19 rfl rfl ?_
                refine g_iaload C X0 d2_21 e0 A (by decide) (by decide) (v := (.int x1)) rfl rfl ?_
                refine g_istore C X0 d2_22 #[.val (.ref a), .val (.ref b), .val (.int (2 : Int32)), .val (.ref a), .val (.int (3 : Int32)), .val (.int (1 : Int32)), .val (.int x1)] rfl rfl ?_
                refine g_iloadN C X0 d2_24 rfl rfl ?_
                refine g_aloadN C X0 d2_25 rfl rfl ?_
                refine g_arraylength C X0 d2_26 e0 B rfl ?_
                intro n26 h_n26
                obtain rfl : n26 = (4 : Int32) := own_inj32 (y := (4 : Int32)) h_n26
                refine g_icmp C X0 d2_27 (by decide) rfl rfl ?_ ?_
                · intro h27
                  have h27 : (2 : Int) ≥ 4 := h27
                  exact absurd h27 (by decide)
                · intro h27
                  have h27 : (2 : Int) < 4 := h27
                  refine g_aloadN C X0 d2_30 rfl rfl ?_
                  refine g_iloadN C X0 d2_31 rfl rfl ?_
                  refine g_iaload C X0 d2_32 e0 B (by decide) (by decide) (v := (.int r2)) rfl rfl ?_
                  refine g_iload C X0 d2_33 rfl rfl ?_
                  refine g_icmp C X0 d2_35 (by decide) rfl rfl ?_ ?_
                  · intro h35
                    have h35 : r2.toInt = x1.toInt := h35
                    refine g_iloadN C X0 d2_44 rfl rfl ?_
                    refine g_aloadN C X0 d2_45 rfl rfl ?_
                    refine g_arraylength C X0 d2_46 e0 B rfl ?_
                    intro n46 h_n46
                    obtain rfl : n46 = (4 : Int32) := own_inj32 (y := (4 : Int32)) h_n46
                    refine g_icmp C X0 d2_47 (by decide) rfl rfl ?_ ?_
                    · intro h47
                      have h47 : ¬ (2 : Int) = 4 := h47
                      refine g_iinc C X0 d2_52 rfl #[.val (.ref a), .val (.ref b), .val (.int (3 : Int32)), .val (.ref a), .val (.int (3 : Int32)), .val (.int (1 : Int32)), .val (.int x1)] rfl rfl ?_
                      refine g_iinc C X0 d2_55 rfl #[.val (.ref a), .val (.ref b), .val (.int (3 : Int32)), .val (.ref a), .val (.int (3 : Int32)), .val (.int (2 : Int32)), .val (.int x1)] rfl rfl ?_
                      refine g_goto C X0 d2_58 (by decide) rfl ?_
                      refine g_iload C X0 d2_11 rfl rfl ?_
                      refine g_iload C X0 d2_13 rfl rfl ?_
                      refine g_icmp C X0 d2_15 (by decide) rfl rfl ?_ ?_
                      · intro h15
                        have h15 : (2 : Int) ≥ 3 := h15
                        exact absurd h15 (by decide)
                      · intro h15
                        have h15 : (2 : Int) < 3 := h15
                        refine g_aloadN C X0 d2_18 rfl rfl ?_
                        refine g_iload C X0 d2_19 rfl rfl ?_
                        refine g_iaload C X0 d2_21 e0 A (by decide) (by decide) (v := (.int x2)) rfl rfl ?_
                        refine g_istore C X0 d2_22 #[.val (.ref a), .val (.ref b), .val (.int (3 : Int32)), .val (.ref a), .val (.int (3 : Int32)), .val (.int (2 : Int32)), .val (.int x2)] rfl rfl ?_
                        refine g_iloadN C X0 d2_24 rfl rfl ?_
                        refine g_aloadN C X0 d2_25 rfl rfl ?_
                        refine g_arraylength C X0 d2_26 e0 B rfl ?_
                        intro n26 h_n26
                        obtain rfl : n26 = (4 : Int32) := own_inj32 (y := (4 : Int32)) h_n26
                        refine g_icmp C X0 d2_27 (by decide) rfl rfl ?_ ?_
                        · intro h27
                          have h27 : (3 : Int) ≥ 4 := h27
                          exact absurd h27 (by decide)
                        · intro h27
                          have h27 : (3 : Int) < 4 := h27
                          refine g_aloadN C X0 d2_30 rfl rfl ?_
                          refine g_iloadN C X0 d2_31 rfl rfl ?_
                          refine g_iaload C X0 d2_32 e0 B (by decide) (by decide) (v := (.int r3)) rfl rfl ?_
                          refine g_iload C X0 d2_33 rfl rfl ?_
                          refine g_icmp C X0 d2_35 (by decide) rfl rfl ?_ ?_
                          · intro h35
                            have h35 : r3.toInt = x2.toInt := h35
                            refine g_iloadN C X0 d2_44 rfl rfl ?_
                            refine g_aloadN C X0 d2_45 rfl rfl ?_
                            refine g_arraylength C X0 d2_46 e0 B rfl ?_
                            intro n46 h_n46
                            obtain rfl : n46 = (4 : Int32) := own_inj32 (y := (4 : Int32)) h_n46
                            refine g_icmp C X0 d2_47 (by decide) rfl rfl ?_ ?_
                            · intro h47
                              have h47 : ¬ (3 : Int) = 4 := h47
                              refine g_iinc C X0 d2_52 rfl #[.val (.ref a), .val (.ref b), .val (.int (4 : Int32)), .val (.ref a), .val (.int (3 : Int32)), .val (.int (2 : Int32)), .val (.int x2)] rfl rfl ?_
                              refine g_iinc C X0 d2_55 rfl #[.val (.ref a), .val (.ref b), .val (.int (4 : Int32)), .val (.ref a), .val (.int (3 : Int32)), .val (.int (3 : Int32)), .val (.int x2)] rfl rfl ?_
                              refine g_goto C X0 d2_58 (by decide) rfl ?_
                              refine g_iload C X0 d2_11 rfl rfl ?_
                              refine g_iload C X0 d2_13 rfl rfl ?_
                              refine g_icmp C X0 d2_15 (by decide) rfl rfl ?_ ?_
                              · intro h15
                                have h15 : (3 : Int) ≥ 3 := h15
                                refine g_aloadN C X0 d2_61 rfl rfl ?_
                                refine g_arraylength C X0 d2_62 e0 A rfl ?_
                                intro n62 h_n62
                                obtain rfl : n62 = (3 : Int32) := own_inj32 (y := (3 : Int32)) h_n62
                                refine g_if C X0 d2_63 (by decide) rfl rfl ?_ ?_
                                · intro h63
                                  have h63 : (3 : Int) ≤ 0 := h63
                                  exact absurd h63 (by decide)
                                · intro h63
                                  have h63 : (3 : Int) > 0 := h63
                                  refine g_iconst C X0 (1 : Int32) d2_66 rfl rfl ?_
                                  refine g_goto C X0 d2_67 (by decide) rfl ?_
                                  exact g_ireturnN C X0 d2_71 rfl (Or.inl rfl) ⟨⟨(1 : Int32), rfl, Or.inl ⟨rfl, by omega⟩⟩, N0, e0⟩ (by decide) (by decide)
                              · intro h15
                                have h15 : (3 : Int) < 3 := h15
                                exact absurd h15 (by decide)
                            · intro h47
                              have h47 : (3 : Int) = 4 := h47
                              exact absurd h47 (by decide)
                          · intro h35
                            have h35 : ¬ r3.toInt = x2.toInt := h35
                            refine g_iinc C X0 d2_38 rfl #[.val (.ref a), .val (.ref b), .val (.int (4 : Int32)), .val (.ref a), .val (.int (3 : Int32)), .val (.int (2 : Int32)), .val (.int x2)] rfl rfl ?_
                            refine g_goto C X0 d2_41 (by decide) rfl ?_
                            refine g_iloadN C X0 d2_24 rfl rfl ?_
                            refine g_aloadN C X0 d2_25 rfl rfl ?_
                            refine g_arraylength C X0 d2_26 e0 B rfl ?_
                            intro n26 h_n26
                            obtain rfl : n26 = (4 : Int32) := own_inj32 (y := (4 : Int32)) h_n26
                            refine g_icmp C X0 d2_27 (by decide) rfl rfl ?_ ?_
                            · intro h27
                              have h27 : (4 : Int) ≥ 4 := h27
                              refine g_iloadN C X0 d2_44 rfl rfl ?_
                              refine g_aloadN C X0 d2_45 rfl rfl ?_
                              refine g_arraylength C X0 d2_46 e0 B rfl ?_
                              intro n46 h_n46
                              obtain rfl : n46 = (4 : Int32) := own_inj32 (y := (4 : Int32)) h_n46
                              refine g_icmp C X0 d2_47 (by decide) rfl rfl ?_ ?_
                              · intro h47
                                have h47 : ¬ (4 : Int) = 4 := h47
                                exact absurd h47 (by decide)
                              · intro h47
                                have h47 : (4 : Int) = 4 := h47
                                refine g_iconst C X0 (0 : Int32) d2_50 rfl rfl ?_
                                exact g_ireturnN C X0 d2_51 rfl (Or.inl rfl) ⟨⟨(0 : Int32), rfl, Or.inr ⟨rfl, by omega⟩⟩, N0, e0⟩ (by decide) (by decide)
                            · intro h27
                              have h27 : (4 : Int) < 4 := h27
                              exact absurd h27 (by decide)
                    · intro h47
                      have h47 : (2 : Int) = 4 := h47
                      exact absurd h47 (by decide)
                  · intro h35
                    have h35 : ¬ r2.toInt = x1.toInt := h35
                    refine g_iinc C X0 d2_38 rfl #[.val (.ref a), .val (.ref b), .val (.int (3 : Int32)), .val (.ref a), .val (.int (3 : Int32)), .val (.int (1 : Int32)), .val (.int x1)] rfl rfl ?_
                    refine g_goto C X0 d2_41 (by decide) rfl ?_
                    refine g_iloadN C X0 d2_24 rfl rfl ?_
                    refine g_aloadN C X0 d2_25 rfl rfl ?_
                    refine g_arraylength C X0 d2_26 e0 B rfl ?_
                    intro n26 h_n26
                    obtain rfl : n26 = (4 : Int32) := own_inj32 (y := (4 : Int32)) h_n26
                    refine g_icmp C X0 d2_27 (by decide) rfl rfl ?_ ?_
                    · intro h27
                      have h27 : (3 : Int) ≥ 4 := h27
                      exact absurd h27 (by decide)
                    · intro h27
                      have h27 : (3 : Int) < 4 := h27
                      refine g_aloadN C X0 d2_30 rfl rfl ?_
                      refine g_iloadN C X0 d2_31 rfl rfl ?_
                      refine g_iaload C X0 d2_32 e0 B (by decide) (by decide) (v := (.int r3)) rfl rfl ?_
                      refine g_iload C X0 d2_33 rfl rfl ?_
                      refine g_icmp C X0 d2_35 (by decide) rfl rfl ?_ ?_
                      · intro h35
                        have h35 : r3.toInt = x1.toInt := h35
                        refine g_iloadN C X0 d2_44 rfl rfl ?_
                        refine g_aloadN C X0 d2_45 rfl rfl ?_
                        refine g_arraylength C X0 d2_46 e0 B rfl ?_
                        intro n46 h_n46
                        obtain rfl : n46 = (4 : Int32) := own_inj32 (y := (4 : Int32)) h_n46
                        refine g_icmp C X0 d2_47 (by decide) rfl rfl ?_ ?_
                        · intro h47
                          have h47 : ¬ (3 : Int) = 4 := h47
                          refine g_iinc C X0 d2_52 rfl #[.val (.ref a), .val (.ref b), .val (.int (4 : Int32)), .val (.ref a), .val (.int (3 : Int32)), .val (.int (1 : Int32)), .val (.int x1)] rfl rfl ?_
                          refine g_iinc C X0 d2_55 rfl #[.val (.ref a), .val (.ref b), .val (.int (4 : Int32)), .val (.ref a), .val (.int (3 : Int32)), .val (.int (2 : Int32)), .val (.int x1)] rfl rfl ?_
                          refine g_goto C X0 d2_58 (by decide) rfl ?_
                          refine g_iload C X0 d2_11 rfl rfl ?_
                          refine g_iload C X0 d2_13 rfl rfl ?_
                          refine g_icmp C X0 d2_15 (by decide) rfl rfl ?_ ?_
                          · intro h15
                            have h15 : (2 : Int) ≥ 3 := h15
                            exact absurd h15 (by decide)
                          · intro h15
                            have h15 : (2 : Int) < 3 := h15
                            refine g_aloadN C X0 d2_18 rfl rfl ?_
                            refine g_iload C X0 d2_19 rfl rfl ?_
                            refine g_iaload C X0 d2_21 e0 A (by decide) (by decide) (v := (.int x2)) rfl rfl ?_
                            refine g_istore C X0 d2_22 #[.val (.ref a), .val (.ref b), .val (.int (4 : Int32)), .val (.ref a), .val (.int (3 : Int32)), .val (.int (2 : Int32)), .val (.int x2)] rfl rfl ?_
                            refine g_iloadN C X0 d2_24 rfl rfl ?_
                            refine g_aloadN C X0 d2_25 rfl rfl ?_
                            refine g_arraylength C X0 d2_26 e0 B rfl ?_
                            intro n26 h_n26
                            obtain rfl : n26 = (4 : Int32) := own_inj32 (y := (4 : Int32)) h_n26
                            refine g_icmp C X0 d2_27 (by decide) rfl rfl ?_ ?_
                            · intro h27
                              have h27 : (4 : Int) ≥ 4 := h27
                              refine g_iloadN C X0 d2_44 rfl rfl ?_
                              refine g_aloadN C X0 d2_45 rfl rfl ?_
                              refine g_arraylength C X0 d2_46 e0 B rfl ?_
                              intro n46 h_n46
                              obtain rfl : n46 = (4 : Int32) := own_inj32 (y := (4 : Int32)) h_n46
                              refine g_icmp C X0 d2_47 (by decide) rfl rfl ?_ ?_
                              · intro h47
                                have h47 : ¬ (4 : Int) = 4 := h47
                                exact absurd h47 (by decide)
                              · intro h47
                                have h47 : (4 : Int) = 4 := h47
                                refine g_iconst C X0 (0 : Int32) d2_50 rfl rfl ?_
                                exact g_ireturnN C X0 d2_51 rfl (Or.inl rfl) ⟨⟨(0 : Int32), rfl, Or.inr ⟨rfl, by omega⟩⟩, N0, e0⟩ (by decide) (by decide)
                            · intro h27
                              have h27 : (4 : Int) < 4 := h27
                              exact absurd h27 (by decide)
                        · intro h47
                          have h47 : (3 : Int) = 4 := h47
                          exact absurd h47 (by decide)
                      · intro h35
                        have h35 : ¬ r3.toInt = x1.toInt := h35
                        refine g_iinc C X0 d2_38 rfl #[.val (.ref a), .val (.ref b), .val (.int (4 : Int32)), .val (.ref a), .val (.int (3 : Int32)), .val (.int (1 : Int32)), .val (.int x1)] rfl rfl ?_
                        refine g_goto C X0 d2_41 (by decide) rfl ?_
                        refine g_iloadN C X0 d2_24 rfl rfl ?_
                        refine g_aloadN C X0 d2_25 rfl rfl ?_
                        refine g_arraylength C X0 d2_26 e0 B rfl ?_
                        intro n26 h_n26
                        obtain rfl : n26 = (4 : Int32) := own_inj32 (y := (4 : Int32)) h_n26
                        refine g_icmp C X0 d2_27 (by decide) rfl rfl ?_ ?_
                        · intro h27
                          have h27 : (4 : Int) ≥ 4 := h27
                          refine g_iloadN C X0 d2_44 rfl rfl ?_
                          refine g_aloadN C X0 d2_45 rfl rfl ?_
                          refine g_arraylength C X0 d2_46 e0 B rfl ?_
                          intro n46 h_n46
                          obtain rfl : n46 = (4 : Int32) := own_inj32 (y := (4 : Int32)) h_n46
                          refine g_icmp C X0 d2_47 (by decide) rfl rfl ?_ ?_
                          · intro h47
                            have h47 : ¬ (4 : Int) = 4 := h47
                            exact absurd h47 (by decide)
                          · intro h47
                            have h47 : (4 : Int) = 4 := h47
                            refine g_iconst C X0 (0 : Int32) d2_50 rfl rfl ?_
                            exact g_ireturnN C X0 d2_51 rfl (Or.inl rfl) ⟨⟨(0 : Int32), rfl, Or.inr ⟨rfl, by omega⟩⟩, N0, e0⟩ (by decide) (by decide)
                        · intro h27
                          have h27 : (4 : Int) < 4 := h27
                          exact absurd h27 (by decide)
            · intro h47
              have h47 : (1 : Int) = 4 := h47
              exact absurd h47 (by decide)
          · intro h35
            have h35 : ¬ r1.toInt = x0.toInt := h35
            refine g_iinc C X0 d2_38 rfl #[.val (.ref a), .val (.ref b), .val (.int (2 : Int32)), .val (.ref a), .val (.int (3 : Int32)), .val (.int (0 : Int32)), .val (.int x0)] rfl rfl ?_
            refine g_goto C X0 d2_41 (by decide) rfl ?_
            refine g_iloadN C X0 d2_24 rfl rfl ?_
            refine g_aloadN C X0 d2_25 rfl rfl ?_
            refine g_arraylength C X0 d2_26 e0 B rfl ?_
            intro n26 h_n26
            obtain rfl : n26 = (4 : Int32) := own_inj32 (y := (4 : Int32)) h_n26
            refine g_icmp C X0 d2_27 (by decide) rfl rfl ?_ ?_
            · intro h27
              have h27 : (2 : Int) ≥ 4 := h27
              exact absurd h27 (by decide)
            · intro h27
              have h27 : (2 : Int) < 4 := h27
              refine g_aloadN C X0 d2_30 rfl rfl ?_
              refine g_iloadN C X0 d2_31 rfl rfl ?_
              refine g_iaload C X0 d2_32 e0 B (by decide) (by decide) (v := (.int r2)) rfl rfl ?_
              refine g_iload C X0 d2_33 rfl rfl ?_
              refine g_icmp C X0 d2_35 (by decide) rfl rfl ?_ ?_
              · intro h35
                have h35 : r2.toInt = x0.toInt := h35
                refine g_iloadN C X0 d2_44 rfl rfl ?_
                refine g_aloadN C X0 d2_45 rfl rfl ?_
                refine g_arraylength C X0 d2_46 e0 B rfl ?_
                intro n46 h_n46
                obtain rfl : n46 = (4 : Int32) := own_inj32 (y := (4 : Int32)) h_n46
                refine g_icmp C X0 d2_47 (by decide) rfl rfl ?_ ?_
                · intro h47
                  have h47 : ¬ (2 : Int) = 4 := h47
                  refine g_iinc C X0 d2_52 rfl #[.val (.ref a), .val (.ref b), .val (.int (3 : Int32)), .val (.ref a), .val (.int (3 : Int32)), .val (.int (0 : Int32)), .val (.int x0)] rfl rfl ?_
                  refine g_iinc C X0 d2_55 rfl #[.val (.ref a), .val (.ref b), .val (.int (3 : Int32)), .val (.ref a), .val (.int (3 : Int32)), .val (.int (1 : Int32)), .val (.int x0)] rfl rfl ?_
                  refine g_goto C X0 d2_58 (by decide) rfl ?_
                  refine g_iload C X0 d2_11 rfl rfl ?_
                  refine g_iload C X0 d2_13 rfl rfl ?_
                  refine g_icmp C X0 d2_15 (by decide) rfl rfl ?_ ?_
                  · intro h15
                    have h15 : (1 : Int) ≥ 3 := h15
                    exact absurd h15 (by decide)
                  · intro h15
                    have h15 : (1 : Int) < 3 := h15
                    refine g_aloadN C X0 d2_18 rfl rfl ?_
                    refine g_iload C X0 d2_19 rfl rfl ?_
                    refine g_iaload C X0 d2_21 e0 A (by decide) (by decide) (v := (.int x1)) rfl rfl ?_
                    refine g_istore C X0 d2_22 #[.val (.ref a), .val (.ref b), .val (.int (3 : Int32)), .val (.ref a), .val (.int (3 : Int32)), .val (.int (1 : Int32)), .val (.int x1)] rfl rfl ?_
                    refine g_iloadN C X0 d2_24 rfl rfl ?_
                    refine g_aloadN C X0 d2_25 rfl rfl ?_
                    refine g_arraylength C X0 d2_26 e0 B rfl ?_
                    intro n26 h_n26
                    obtain rfl : n26 = (4 : Int32) := own_inj32 (y := (4 : Int32)) h_n26
                    refine g_icmp C X0 d2_27 (by decide) rfl rfl ?_ ?_
                    · intro h27
                      have h27 : (3 : Int) ≥ 4 := h27
                      exact absurd h27 (by decide)
                    · intro h27
                      have h27 : (3 : Int) < 4 := h27
                      refine g_aloadN C X0 d2_30 rfl rfl ?_
                      refine g_iloadN C X0 d2_31 rfl rfl ?_
                      refine g_iaload C X0 d2_32 e0 B (by decide) (by decide) (v := (.int r3)) rfl rfl ?_
                      refine g_iload C X0 d2_33 rfl rfl ?_
                      refine g_icmp C X0 d2_35 (by decide) rfl rfl ?_ ?_
                      · intro h35
                        have h35 : r3.toInt = x1.toInt := h35
                        refine g_iloadN C X0 d2_44 rfl rfl ?_
                        refine g_aloadN C X0 d2_45 rfl rfl ?_
                        refine g_arraylength C X0 d2_46 e0 B rfl ?_
                        intro n46 h_n46
                        obtain rfl : n46 = (4 : Int32) := own_inj32 (y := (4 : Int32)) h_n46
                        refine g_icmp C X0 d2_47 (by decide) rfl rfl ?_ ?_
                        · intro h47
                          have h47 : ¬ (3 : Int) = 4 := h47
                          refine g_iinc C X0 d2_52 rfl #[.val (.ref a), .val (.ref b), .val (.int (4 : Int32)), .val (.ref a), .val (.int (3 : Int32)), .val (.int (1 : Int32)), .val (.int x1)] rfl rfl ?_
                          refine g_iinc C X0 d2_55 rfl #[.val (.ref a), .val (.ref b), .val (.int (4 : Int32)), .val (.ref a), .val (.int (3 : Int32)), .val (.int (2 : Int32)), .val (.int x1)] rfl rfl ?_
                          refine g_goto C X0 d2_58 (by decide) rfl ?_
                          refine g_iload C X0 d2_11 rfl rfl ?_
                          refine g_iload C X0 d2_13 rfl rfl ?_
                          refine g_icmp C X0 d2_15 (by decide) rfl rfl ?_ ?_
                          · intro h15
                            have h15 : (2 : Int) ≥ 3 := h15
                            exact absurd h15 (by decide)
                          · intro h15
                            have h15 : (2 : Int) < 3 := h15
                            refine g_aloadN C X0 d2_18 rfl rfl ?_
                            refine g_iload C X0 d2_19 rfl rfl ?_
                            refine g_iaload C X0 d2_21 e0 A (by decide) (by decide) (v := (.int x2)) rfl rfl ?_
                            refine g_istore C X0 d2_22 #[.val (.ref a), .val (.ref b), .val (.int (4 : Int32)), .val (.ref a), .val (.int (3 : Int32)), .val (.int (2 : Int32)), .val (.int x2)] rfl rfl ?_
                            refine g_iloadN C X0 d2_24 rfl rfl ?_
                            refine g_aloadN C X0 d2_25 rfl rfl ?_
                            refine g_arraylength C X0 d2_26 e0 B rfl ?_
                            intro n26 h_n26
                            obtain rfl : n26 = (4 : Int32) := own_inj32 (y := (4 : Int32)) h_n26
                            refine g_icmp C X0 d2_27 (by decide) rfl rfl ?_ ?_
                            · intro h27
                              have h27 : (4 : Int) ≥ 4 := h27
                              refine g_iloadN C X0 d2_44 rfl rfl ?_
                              refine g_aloadN C X0 d2_45 rfl rfl ?_
                              refine g_arraylength C X0 d2_46 e0 B rfl ?_
                              intro n46 h_n46
                              obtain rfl : n46 = (4 : Int32) := own_inj32 (y := (4 : Int32)) h_n46
                              refine g_icmp C X0 d2_47 (by decide) rfl rfl ?_ ?_
                              · intro h47
                                have h47 : ¬ (4 : Int) = 4 := h47
                                exact absurd h47 (by decide)
                              · intro h47
                                have h47 : (4 : Int) = 4 := h47
                                refine g_iconst C X0 (0 : Int32) d2_50 rfl rfl ?_
                                exact g_ireturnN C X0 d2_51 rfl (Or.inl rfl) ⟨⟨(0 : Int32), rfl, Or.inr ⟨rfl, by omega⟩⟩, N0, e0⟩ (by decide) (by decide)
                            · intro h27
                              have h27 : (4 : Int) < 4 := h27
                              exact absurd h27 (by decide)
                        · intro h47
                          have h47 : (3 : Int) = 4 := h47
                          exact absurd h47 (by decide)
                      · intro h35
                        have h35 : ¬ r3.toInt = x1.toInt := h35
                        refine g_iinc C X0 d2_38 rfl #[.val (.ref a), .val (.ref b), .val (.int (4 : Int32)), .val (.ref a), .val (.int (3 : Int32)), .val (.int (1 : Int32)), .val (.int x1)] rfl rfl ?_
                        refine g_goto C X0 d2_41 (by decide) rfl ?_
                        refine g_iloadN C X0 d2_24 rfl rfl ?_
                        refine g_aloadN C X0 d2_25 rfl rfl ?_
                        refine g_arraylength C X0 d2_26 e0 B rfl ?_
                        intro n26 h_n26
                        obtain rfl : n26 = (4 : Int32) := own_inj32 (y := (4 : Int32)) h_n26
                        refine g_icmp C X0 d2_27 (by decide) rfl rfl ?_ ?_
                        · intro h27
                          have h27 : (4 : Int) ≥ 4 := h27
                          refine g_iloadN C X0 d2_44 rfl rfl ?_
                          refine g_aloadN C X0 d2_45 rfl rfl ?_
                          refine g_arraylength C X0 d2_46 e0 B rfl ?_
                          intro n46 h_n46
                          obtain rfl : n46 = (4 : Int32) := own_inj32 (y := (4 : Int32)) h_n46
                          refine g_icmp C X0 d2_47 (by decide) rfl rfl ?_ ?_
                          · intro h47
                            have h47 : ¬ (4 : Int) = 4 := h47
                            exact absurd h47 (by decide)
                          · intro h47
                            have h47 : (4 : Int) = 4 := h47
                            refine g_iconst C X0 (0 : Int32) d2_50 rfl rfl ?_
                            exact g_ireturnN C X0 d2_51 rfl (Or.inl rfl) ⟨⟨(0 : Int32), rfl, Or.inr ⟨rfl, by omega⟩⟩, N0, e0⟩ (by decide) (by decide)
                        · intro h27
                          have h27 : (4 : Int) < 4 := h27
                          exact absurd h27 (by decide)
                · intro h47
                  have h47 : (2 : Int) = 4 := h47
                  exact absurd h47 (by decide)
              · intro h35
                have h35 : ¬ r2.toInt = x0.toInt := h35
                refine g_iinc C X0 d2_38 rfl #[.val (.ref a), .val (.ref b), .val (.int (3 : Int32)), .val (.ref a), .val (.int (3 : Int32)), .val (.int (0 : Int32)), .val (.int x0)] rfl rfl ?_
                refine g_goto C X0 d2_41 (by decide) rfl ?_
                refine g_iloadN C X0 d2_24 rfl rfl ?_
                refine g_aloadN C X0 d2_25 rfl rfl ?_
                refine g_arraylength C X0 d2_26 e0 B rfl ?_
                intro n26 h_n26
                obtain rfl : n26 = (4 : Int32) := own_inj32 (y := (4 : Int32)) h_n26
                refine g_icmp C X0 d2_27 (by decide) rfl rfl ?_ ?_
                · intro h27
                  have h27 : (3 : Int) ≥ 4 := h27
                  exact absurd h27 (by decide)
                · intro h27
                  have h27 : (3 : Int) < 4 := h27
                  refine g_aloadN C X0 d2_30 rfl rfl ?_
                  refine g_iloadN C X0 d2_31 rfl rfl ?_
                  refine g_iaload C X0 d2_32 e0 B (by decide) (by decide) (v := (.int r3)) rfl rfl ?_
                  refine g_iload C X0 d2_33 rfl rfl ?_
                  refine g_icmp C X0 d2_35 (by decide) rfl rfl ?_ ?_
                  · intro h35
                    have h35 : r3.toInt = x0.toInt := h35
                    refine g_iloadN C X0 d2_44 rfl rfl ?_
                    refine g_aloadN C X0 d2_45 rfl rfl ?_
                    refine g_arraylength C X0 d2_46 e0 B rfl ?_
                    intro n46 h_n46
                    obtain rfl : n46 = (4 : Int32) := own_inj32 (y := (4 : Int32)) h_n46
                    refine g_icmp C X0 d2_47 (by decide) rfl rfl ?_ ?_
                    · intro h47
                      have h47 : ¬ (3 : Int) = 4 := h47
                      refine g_iinc C X0 d2_52 rfl #[.val (.ref a), .val (.ref b), .val (.int (4 : Int32)), .val (.ref a), .val (.int (3 : Int32)), .val (.int (0 : Int32)), .val (.int x0)] rfl rfl ?_
                      refine g_iinc C X0 d2_55 rfl #[.val (.ref a), .val (.ref b), .val (.int (4 : Int32)), .val (.ref a), .val (.int (3 : Int32)), .val (.int (1 : Int32)), .val (.int x0)] rfl rfl ?_
                      refine g_goto C X0 d2_58 (by decide) rfl ?_
                      refine g_iload C X0 d2_11 rfl rfl ?_
                      refine g_iload C X0 d2_13 rfl rfl ?_
                      refine g_icmp C X0 d2_15 (by decide) rfl rfl ?_ ?_
                      · intro h15
                        have h15 : (1 : Int) ≥ 3 := h15
                        exact absurd h15 (by decide)
                      · intro h15
                        have h15 : (1 : Int) < 3 := h15
                        refine g_aloadN C X0 d2_18 rfl rfl ?_
                        refine g_iload C X0 d2_19 rfl rfl ?_
                        refine g_iaload C X0 d2_21 e0 A (by decide) (by decide) (v := (.int x1)) rfl rfl ?_
                        refine g_istore C X0 d2_22 #[.val (.ref a), .val (.ref b), .val (.int (4 : Int32)), .val (.ref a), .val (.int (3 : Int32)), .val (.int (1 : Int32)), .val (.int x1)] rfl rfl ?_
                        refine g_iloadN C X0 d2_24 rfl rfl ?_
                        refine g_aloadN C X0 d2_25 rfl rfl ?_
                        refine g_arraylength C X0 d2_26 e0 B rfl ?_
                        intro n26 h_n26
                        obtain rfl : n26 = (4 : Int32) := own_inj32 (y := (4 : Int32)) h_n26
                        refine g_icmp C X0 d2_27 (by decide) rfl rfl ?_ ?_
                        · intro h27
                          have h27 : (4 : Int) ≥ 4 := h27
                          refine g_iloadN C X0 d2_44 rfl rfl ?_
                          refine g_aloadN C X0 d2_45 rfl rfl ?_
                          refine g_arraylength C X0 d2_46 e0 B rfl ?_
                          intro n46 h_n46
                          obtain rfl : n46 = (4 : Int32) := own_inj32 (y := (4 : Int32)) h_n46
                          refine g_icmp C X0 d2_47 (by decide) rfl rfl ?_ ?_
                          · intro h47
                            have h47 : ¬ (4 : Int) = 4 := h47
                            exact absurd h47 (by decide)
                          · intro h47
                            have h47 : (4 : Int) = 4 := h47
                            refine g_iconst C X0 (0 : Int32) d2_50 rfl rfl ?_
                            exact g_ireturnN C X0 d2_51 rfl (Or.inl rfl) ⟨⟨(0 : Int32), rfl, Or.inr ⟨rfl, by omega⟩⟩, N0, e0⟩ (by decide) (by decide)
                        · intro h27
                          have h27 : (4 : Int) < 4 := h27
                          exact absurd h27 (by decide)
                    · intro h47
                      have h47 : (3 : Int) = 4 := h47
                      exact absurd h47 (by decide)
                  · intro h35
                    have h35 : ¬ r3.toInt = x0.toInt := h35
                    refine g_iinc C X0 d2_38 rfl #[.val (.ref a), .val (.ref b), .val (.int (4 : Int32)), .val (.ref a), .val (.int (3 : Int32)), .val (.int (0 : Int32)), .val (.int x0)] rfl rfl ?_
                    refine g_goto C X0 d2_41 (by decide) rfl ?_
                    refine g_iloadN C X0 d2_24 rfl rfl ?_
                    refine g_aloadN C X0 d2_25 rfl rfl ?_
                    refine g_arraylength C X0 d2_26 e0 B rfl ?_
                    intro n26 h_n26
                    obtain rfl : n26 = (4 : Int32) := own_inj32 (y := (4 : Int32)) h_n26
                    refine g_icmp C X0 d2_27 (by decide) rfl rfl ?_ ?_
                    · intro h27
                      have h27 : (4 : Int) ≥ 4 := h27
                      refine g_iloadN C X0 d2_44 rfl rfl ?_
                      refine g_aloadN C X0 d2_45 rfl rfl ?_
                      refine g_arraylength C X0 d2_46 e0 B rfl ?_
                      intro n46 h_n46
                      obtain rfl : n46 = (4 : Int32) := own_inj32 (y := (4 : Int32)) h_n46
                      refine g_icmp C X0 d2_47 (by decide) rfl rfl ?_ ?_
                      · intro h47
                        have h47 : ¬ (4 : Int) = 4 := h47
                        exact absurd h47 (by decide)
                      · intro h47
                        have h47 : (4 : Int) = 4 := h47
                        refine g_iconst C X0 (0 : Int32) d2_50 rfl rfl ?_
                        exact g_ireturnN C X0 d2_51 rfl (Or.inl rfl) ⟨⟨(0 : Int32), rfl, Or.inr ⟨rfl, by omega⟩⟩, N0, e0⟩ (by decide) (by decide)
                    · intro h27
                      have h27 : (4 : Int) < 4 := h27
                      exact absurd h27 (by decide)
set_option maxRecDepth 65536 in
set_option maxHeartbeats 40000000 in
theorem fin0 {p : Program} {l : Launch} {e : Env} {s : State} {m : MethodId} {args : Array Value} {below : List Frame} {meth : Method} {c : Code} {T0 : State} {locs : List Loc} {Z : State} {a0 : Array Value} {h0 : Heap} {n0 : Nat} {y0 y1 y2 mm ex x0 x1 x2 r0 r1 r2 r3 : Int32} {ia rp rr : Addr} {M : Nat}
    (C : Cx Z a0 p s m meth c code maxLocals "com/example/ballast/ballast/storage/ClusterCatalogIsInSyncOfPinLaw" "law" ret) (X0 : Stand p l e room_1 s m args below meth c T0 locs 3 11) (e0 : T0.heap = h0) (N0 : Fr n0 locs) (Z0 : n0 ≤ h0.size) (AI : Aw Z h0 ia .int 0 (fun j => .int (([] : List Int32).getD j 0))) (AP : Aw Z h0 rp .int M (fun j => .int (([r0, r1, r2, r3] : List Int32).getD j 0))) (AR : Aw Z h0 rr .int 4 (fun j => .int (([r0, r1, r2, r3] : List Int32).getD j 0))) (hM : mm.toInt = M) (hm : mm = (0 : Int32) ∨ mm = (1 : Int32) ∨ mm = (2 : Int32) ∨ mm = (3 : Int32) ∨ mm = (4 : Int32)) (hex : ex = 1 ∧ False ∨ ex = 0 ∧ ¬ False) :
    Go p e below s m (LQ n0) room_1.cells room_1.slots T0 605 #[.val (.int y0), .val (.int y1), .val (.int y2), .val (.int (0 : Int32)), .val (.int mm), .val (.int x0), .val (.int x1), .val (.int x2), .val (.int r0), .val (.int r1), .val (.int r2), .val (.int r3), .val (.ref ia), .val (.ref rp), .val (.ref rr), .val (.int ex)] [] := by
  rcases hm with rfl | rfl | rfl | rfl | rfl
  · skip
    rw [show (0 : Int32).toInt = 0 by decide] at hM
    obtain rfl : M = 0 := by omega
    refine g_aload C X0 at_605 rfl rfl ?_
    refine g_aload C X0 at_607 rfl rfl ?_
    refine g_callS (argsL := [(.ref ia), (.ref rp)]) (rest := []) (W := 0) C X0 at_609 e0 (C.t 5 rfl) (C.t 6 rfl) (C.t 7 rfl) (C.t 8 rfl) (sy0_0 l Z a0 C.w [] ia rp x0 x1 x2 r0 r1 r2 r3 h0 n0 Z0 AI AP) (by decide) pd_2 rfl rfl rfl (Nat.le_of_eq rfl) (by decide) (by decide) (by decide) (by decide) rfl ?_
    intro T1 v1_ L1 X1 hQ1
    obtain ⟨⟨r, rfl, hr⟩, N1q, hh1⟩ := hQ1
    have N1 := Fr.app N0 N1q
    have hsame : r = ex := by
      rcases hr with ⟨rfl, u⟩ | ⟨rfl, u⟩ <;> rcases hex with ⟨rfl, v⟩ | ⟨rfl, v⟩
      · rfl
      · exfalso; exact u
      · exfalso; exact v
      · rfl
    refine g_iload C X1 at_612 rfl rfl ?_
    refine g_icmp C X1 at_614 (by decide) rfl rfl ?_ ?_
    · intro h614
      have h614 : ¬ r.toInt = ex.toInt := h614
      exact absurd (congrArg Int32.toInt hsame) h614
    · intro h614
      have h614 : r.toInt = ex.toInt := h614
      refine g_iconst C X1 (1 : Int32) at_617 rfl rfl ?_
      refine g_goto C X1 at_618 (by decide) rfl ?_
      exact g_ireturnN C X1 at_622 rfl (Or.inl rfl) ⟨rfl, N1⟩ (by decide) (by decide)
  · skip
    rw [show (1 : Int32).toInt = 1 by decide] at hM
    obtain rfl : M = 1 := by omega
    refine g_aload C X0 at_605 rfl rfl ?_
    refine g_aload C X0 at_607 rfl rfl ?_
    refine g_callS (argsL := [(.ref ia), (.ref rp)]) (rest := []) (W := 0) C X0 at_609 e0 (C.t 5 rfl) (C.t 6 rfl) (C.t 7 rfl) (C.t 8 rfl) (sy0_1 l Z a0 C.w [] ia rp x0 x1 x2 r0 r1 r2 r3 h0 n0 Z0 AI AP) (by decide) pd_2 rfl rfl rfl (Nat.le_of_eq rfl) (by decide) (by decide) (by decide) (by decide) rfl ?_
    intro T2 v2_ L2 X2 hQ2
    obtain ⟨⟨r, rfl, hr⟩, N2q, hh2⟩ := hQ2
    have N2 := Fr.app N0 N2q
    have hsame : r = ex := by
      rcases hr with ⟨rfl, u⟩ | ⟨rfl, u⟩ <;> rcases hex with ⟨rfl, v⟩ | ⟨rfl, v⟩
      · rfl
      · exfalso; exact u
      · exfalso; exact v
      · rfl
    refine g_iload C X2 at_612 rfl rfl ?_
    refine g_icmp C X2 at_614 (by decide) rfl rfl ?_ ?_
    · intro h614
      have h614 : ¬ r.toInt = ex.toInt := h614
      exact absurd (congrArg Int32.toInt hsame) h614
    · intro h614
      have h614 : r.toInt = ex.toInt := h614
      refine g_iconst C X2 (1 : Int32) at_617 rfl rfl ?_
      refine g_goto C X2 at_618 (by decide) rfl ?_
      exact g_ireturnN C X2 at_622 rfl (Or.inl rfl) ⟨rfl, N2⟩ (by decide) (by decide)
  · skip
    rw [show (2 : Int32).toInt = 2 by decide] at hM
    obtain rfl : M = 2 := by omega
    refine g_aload C X0 at_605 rfl rfl ?_
    refine g_aload C X0 at_607 rfl rfl ?_
    refine g_callS (argsL := [(.ref ia), (.ref rp)]) (rest := []) (W := 0) C X0 at_609 e0 (C.t 5 rfl) (C.t 6 rfl) (C.t 7 rfl) (C.t 8 rfl) (sy0_2 l Z a0 C.w [] ia rp x0 x1 x2 r0 r1 r2 r3 h0 n0 Z0 AI AP) (by decide) pd_2 rfl rfl rfl (Nat.le_of_eq rfl) (by decide) (by decide) (by decide) (by decide) rfl ?_
    intro T3 v3_ L3 X3 hQ3
    obtain ⟨⟨r, rfl, hr⟩, N3q, hh3⟩ := hQ3
    have N3 := Fr.app N0 N3q
    have hsame : r = ex := by
      rcases hr with ⟨rfl, u⟩ | ⟨rfl, u⟩ <;> rcases hex with ⟨rfl, v⟩ | ⟨rfl, v⟩
      · rfl
      · exfalso; exact u
      · exfalso; exact v
      · rfl
    refine g_iload C X3 at_612 rfl rfl ?_
    refine g_icmp C X3 at_614 (by decide) rfl rfl ?_ ?_
    · intro h614
      have h614 : ¬ r.toInt = ex.toInt := h614
      exact absurd (congrArg Int32.toInt hsame) h614
    · intro h614
      have h614 : r.toInt = ex.toInt := h614
      refine g_iconst C X3 (1 : Int32) at_617 rfl rfl ?_
      refine g_goto C X3 at_618 (by decide) rfl ?_
      exact g_ireturnN C X3 at_622 rfl (Or.inl rfl) ⟨rfl, N3⟩ (by decide) (by decide)
  · skip
    rw [show (3 : Int32).toInt = 3 by decide] at hM
    obtain rfl : M = 3 := by omega
    refine g_aload C X0 at_605 rfl rfl ?_
    refine g_aload C X0 at_607 rfl rfl ?_
    refine g_callS (argsL := [(.ref ia), (.ref rp)]) (rest := []) (W := 0) C X0 at_609 e0 (C.t 5 rfl) (C.t 6 rfl) (C.t 7 rfl) (C.t 8 rfl) (sy0_3 l Z a0 C.w [] ia rp x0 x1 x2 r0 r1 r2 r3 h0 n0 Z0 AI AP) (by decide) pd_2 rfl rfl rfl (Nat.le_of_eq rfl) (by decide) (by decide) (by decide) (by decide) rfl ?_
    intro T4 v4_ L4 X4 hQ4
    obtain ⟨⟨r, rfl, hr⟩, N4q, hh4⟩ := hQ4
    have N4 := Fr.app N0 N4q
    have hsame : r = ex := by
      rcases hr with ⟨rfl, u⟩ | ⟨rfl, u⟩ <;> rcases hex with ⟨rfl, v⟩ | ⟨rfl, v⟩
      · rfl
      · exfalso; exact u
      · exfalso; exact v
      · rfl
    refine g_iload C X4 at_612 rfl rfl ?_
    refine g_icmp C X4 at_614 (by decide) rfl rfl ?_ ?_
    · intro h614
      have h614 : ¬ r.toInt = ex.toInt := h614
      exact absurd (congrArg Int32.toInt hsame) h614
    · intro h614
      have h614 : r.toInt = ex.toInt := h614
      refine g_iconst C X4 (1 : Int32) at_617 rfl rfl ?_
      refine g_goto C X4 at_618 (by decide) rfl ?_
      exact g_ireturnN C X4 at_622 rfl (Or.inl rfl) ⟨rfl, N4⟩ (by decide) (by decide)
  · skip
    rw [show (4 : Int32).toInt = 4 by decide] at hM
    obtain rfl : M = 4 := by omega
    refine g_aload C X0 at_605 rfl rfl ?_
    refine g_aload C X0 at_607 rfl rfl ?_
    refine g_callS (argsL := [(.ref ia), (.ref rp)]) (rest := []) (W := 0) C X0 at_609 e0 (C.t 5 rfl) (C.t 6 rfl) (C.t 7 rfl) (C.t 8 rfl) (sy0_4 l Z a0 C.w [] ia rp x0 x1 x2 r0 r1 r2 r3 h0 n0 Z0 AI AP) (by decide) pd_2 rfl rfl rfl (Nat.le_of_eq rfl) (by decide) (by decide) (by decide) (by decide) rfl ?_
    intro T5 v5_ L5 X5 hQ5
    obtain ⟨⟨r, rfl, hr⟩, N5q, hh5⟩ := hQ5
    have N5 := Fr.app N0 N5q
    have hsame : r = ex := by
      rcases hr with ⟨rfl, u⟩ | ⟨rfl, u⟩ <;> rcases hex with ⟨rfl, v⟩ | ⟨rfl, v⟩
      · rfl
      · exfalso; exact u
      · exfalso; exact v
      · rfl
    refine g_iload C X5 at_612 rfl rfl ?_
    refine g_icmp C X5 at_614 (by decide) rfl rfl ?_ ?_
    · intro h614
      have h614 : ¬ r.toInt = ex.toInt := h614
      exact absurd (congrArg Int32.toInt hsame) h614
    · intro h614
      have h614 : r.toInt = ex.toInt := h614
      refine g_iconst C X5 (1 : Int32) at_617 rfl rfl ?_
      refine g_goto C X5 at_618 (by decide) rfl ?_
      exact g_ireturnN C X5 at_622 rfl (Or.inl rfl) ⟨rfl, N5⟩ (by decide) (by decide)
set_option maxRecDepth 65536 in
set_option maxHeartbeats 40000000 in
theorem seg194_0 {p : Program} {l : Launch} {e : Env} {s : State} {m : MethodId} {args : Array Value} {below : List Frame} {meth : Method} {c : Code} {T0 : State} {locs : List Loc} {Z : State} {a0 : Array Value} {h0 : Heap} {n0 : Nat} {y0 y1 y2 mm x0 x1 x2 r0 r1 r2 r3 : Int32} {ia rp rr : Addr} {M : Nat}
    (C : Cx Z a0 p s m meth c code maxLocals "com/example/ballast/ballast/storage/ClusterCatalogIsInSyncOfPinLaw" "law" ret) (X0 : Stand p l e room_1 s m args below meth c T0 locs 3 11) (e0 : T0.heap = h0) (N0 : Fr n0 locs) (Z0 : n0 ≤ h0.size) (AI : Aw Z h0 ia .int 0 (fun j => .int (([] : List Int32).getD j 0))) (AP : Aw Z h0 rp .int M (fun j => .int (([r0, r1, r2, r3] : List Int32).getD j 0))) (AR : Aw Z h0 rr .int 4 (fun j => .int (([r0, r1, r2, r3] : List Int32).getD j 0))) (hM : mm.toInt = M) (hm : mm = (0 : Int32) ∨ mm = (1 : Int32) ∨ mm = (2 : Int32) ∨ mm = (3 : Int32) ∨ mm = (4 : Int32)) :
    Go p e below s m (LQ n0) room_1.cells room_1.slots T0 194 #[.val (.int y0), .val (.int y1), .val (.int y2), .val (.int (0 : Int32)), .val (.int mm), .val (.int x0), .val (.int x1), .val (.int x2), .val (.int r0), .val (.int r1), .val (.int r2), .val (.int r3), .val (.ref ia), .val (.ref rp), .val (.ref rr), .unset] [] := by
  refine g_iloadN C X0 at_194 rfl rfl ?_
  refine g_if C X0 at_195 (by decide) rfl rfl ?_ ?_
  · intro h195
    have h195 : ¬ (0 : Int) = 0 := h195
    exact absurd h195 (by decide)
  · intro h195
    have h195 : (0 : Int) = 0 := h195
    refine g_iconst C X0 (0 : Int32) at_198 rfl rfl ?_
    refine g_istore C X0 at_199 #[.val (.int y0), .val (.int y1), .val (.int y2), .val (.int (0 : Int32)), .val (.int mm), .val (.int x0), .val (.int x1), .val (.int x2), .val (.int r0), .val (.int r1), .val (.int r2), .val (.int r3), .val (.ref ia), .val (.ref rp), .val (.ref rr), .val (.int (0 : Int32))] rfl rfl ?_
    refine g_goto C X0 at_201 (by decide) rfl ?_
    exact fin0 C X0 e0 N0 Z0 AI AP AR hM hm (Or.inr ⟨rfl, fun z => z⟩)
set_option maxRecDepth 65536 in
set_option maxHeartbeats 40000000 in
theorem seg79_0_0 {p : Program} {l : Launch} {e : Env} {s : State} {m : MethodId} {args : Array Value} {below : List Frame} {meth : Method} {c : Code} {T0 : State} {locs : List Loc} {Z : State} {a0 : Array Value} {h0 : Heap} {n0 : Nat} {y0 y1 y2 x0 x1 x2 r0 r1 r2 r3 : Int32}
    (C : Cx Z a0 p s m meth c code maxLocals "com/example/ballast/ballast/storage/ClusterCatalogIsInSyncOfPinLaw" "law" ret) (X0 : Stand p l e room_1 s m args below meth c T0 locs 0 0) (e0 : T0.heap = h0) (N0 : Fr n0 locs) (Z0 : n0 ≤ h0.size)  :
    Go p e below s m (LQ n0) room_1.cells room_1.slots T0 79 #[.val (.int y0), .val (.int y1), .val (.int y2), .val (.int (0 : Int32)), .val (.int (0 : Int32)), .val (.int x0), .val (.int x1), .val (.int x2), .val (.int r0), .val (.int r1), .val (.int r2), .val (.int r3), .unset, .unset, .unset, .unset] [] := by
  refine g_iloadN C X0 at_79 rfl rfl ?_
  refine g_newarray (cap := 3) C X0 at_80 e0 (C.t 0 rfl) (by decide) (by decide) (by decide) (by decide) (by decide) rfl ?_
  intro T1 h1_ X1 e1 E1 lt1 ad1 ha1 A1
  have Z1 : n0 ≤ h1_.size := Nat.le_trans Z0 E1.1
  have g_ad1 : n0 ≤ ad1 := by omega
  refine g_astore C X1 at_82 #[.val (.int y0), .val (.int y1), .val (.int y2), .val (.int (0 : Int32)), .val (.int (0 : Int32)), .val (.int x0), .val (.int x1), .val (.int x2), .val (.int r0), .val (.int r1), .val (.int r2), .val (.int r3), .val (.ref ad1), .unset, .unset, .unset] rfl rfl ?_
  refine g_iload C X1 at_84 rfl rfl ?_
  refine g_newarray (cap := 4) C X1 at_86 e1 (C.t 0 rfl) (by decide) (by decide) (by decide) (by decide) (by decide) rfl ?_
  intro T2 h2_ X2 e2 E2 lt2 ad2 ha2 A2
  have Z2 : n0 ≤ h2_.size := Nat.le_trans Z1 E2.1
  have ne_ad1_ad2 : ad1 ≠ ad2 := Nat.ne_of_lt (Nat.lt_of_lt_of_eq A1.lt ha2.symm)
  have A2_ad1 := A1.ext E2
  have g_ad2 : n0 ≤ ad2 := by omega
  refine g_astore C X2 at_88 #[.val (.int y0), .val (.int y1), .val (.int y2), .val (.int (0 : Int32)), .val (.int (0 : Int32)), .val (.int x0), .val (.int x1), .val (.int x2), .val (.int r0), .val (.int r1), .val (.int r2), .val (.int r3), .val (.ref ad1), .val (.ref ad2), .unset, .unset] rfl rfl ?_
  refine g_iconst C X2 (4 : Int32) at_90 rfl rfl ?_
  refine g_newarray (cap := 4) C X2 at_91 e2 (C.t 0 rfl) (by decide) (by decide) (by decide) (by decide) (by decide) rfl ?_
  intro T3 h3_ X3 e3 E3 lt3 ad3 ha3 A3
  have Z3 : n0 ≤ h3_.size := Nat.le_trans Z2 E3.1
  have ne_ad1_ad3 : ad1 ≠ ad3 := Nat.ne_of_lt (Nat.lt_of_lt_of_eq A2_ad1.lt ha3.symm)
  have A3_ad1 := A2_ad1.ext E3
  have ne_ad2_ad3 : ad2 ≠ ad3 := Nat.ne_of_lt (Nat.lt_of_lt_of_eq A2.lt ha3.symm)
  have A3_ad2 := A2.ext E3
  have g_ad3 : n0 ≤ ad3 := by omega
  refine g_dup C X3 at_93 rfl rfl ?_
  refine g_iconst C X3 (0 : Int32) at_94 rfl rfl ?_
  refine g_iload C X3 at_95 rfl rfl ?_
  refine g_iastore C X3 at_97 e3 A3 (by decide) (by decide) rfl ?_
  intro T4 h4_ X4 e4 W4 A4
  have N4 := Fr.snoc X4 N0 g_ad3
  have Z4 : n0 ≤ h4_.size := Nat.le_trans Z3 (Keep.of_wr W4).1
  have A4_ad1 := A3_ad1.other W4 ne_ad1_ad3
  have A4_ad2 := A3_ad2.other W4 ne_ad2_ad3
  refine g_dup C X4 at_98 rfl rfl ?_
  refine g_iconst C X4 (1 : Int32) at_99 rfl rfl ?_
  refine g_iload C X4 at_100 rfl rfl ?_
  refine g_iastore C X4 at_102 e4 A4 (by decide) (by decide) rfl ?_
  intro T5 h5_ X5 e5 W5 A5
  have N5 := Fr.snoc X5 N4 g_ad3
  have Z5 : n0 ≤ h5_.size := Nat.le_trans Z4 (Keep.of_wr W5).1
  have A5_ad1 := A4_ad1.other W5 ne_ad1_ad3
  have A5_ad2 := A4_ad2.other W5 ne_ad2_ad3
  refine g_dup C X5 at_103 rfl rfl ?_
  refine g_iconst C X5 (2 : Int32) at_104 rfl rfl ?_
  refine g_iload C X5 at_105 rfl rfl ?_
  refine g_iastore C X5 at_107 e5 A5 (by decide) (by decide) rfl ?_
  intro T6 h6_ X6 e6 W6 A6
  have N6 := Fr.snoc X6 N5 g_ad3
  have Z6 : n0 ≤ h6_.size := Nat.le_trans Z5 (Keep.of_wr W6).1
  have A6_ad1 := A5_ad1.other W6 ne_ad1_ad3
  have A6_ad2 := A5_ad2.other W6 ne_ad2_ad3
  refine g_dup C X6 at_108 rfl rfl ?_
  refine g_iconst C X6 (3 : Int32) at_109 rfl rfl ?_
  refine g_iload C X6 at_110 rfl rfl ?_
  refine g_iastore C X6 at_112 e6 A6 (by decide) (by decide) rfl ?_
  intro T7 h7_ X7 e7 W7 A7
  have N7 := Fr.snoc X7 N6 g_ad3
  have Z7 : n0 ≤ h7_.size := Nat.le_trans Z6 (Keep.of_wr W7).1
  have A7_ad1 := A6_ad1.other W7 ne_ad1_ad3
  have A7_ad2 := A6_ad2.other W7 ne_ad2_ad3
  refine g_astore C X7 at_113 #[.val (.int y0), .val (.int y1), .val (.int y2), .val (.int (0 : Int32)), .val (.int (0 : Int32)), .val (.int x0), .val (.int x1), .val (.int x2), .val (.int r0), .val (.int r1), .val (.int r2), .val (.int r3), .val (.ref ad1), .val (.ref ad2), .val (.ref ad3), .unset] rfl rfl ?_
  refine g_iloadN C X7 at_115 rfl rfl ?_
  refine g_if C X7 at_116 (by decide) rfl rfl ?_ ?_
  · intro h116
    have h116 : (0 : Int) ≤ 0 := h116
    refine g_iloadN C X7 at_125 rfl rfl ?_
    refine g_iconst C X7 (1 : Int32) at_126 rfl rfl ?_
    refine g_icmp C X7 at_127 (by decide) rfl rfl ?_ ?_
    · intro h127
      have h127 : (0 : Int) ≤ 1 := h127
      refine g_iloadN C X7 at_136 rfl rfl ?_
      refine g_iconst C X7 (2 : Int32) at_137 rfl rfl ?_
      refine g_icmp C X7 at_138 (by decide) rfl rfl ?_ ?_
      · intro h138
        have h138 : (0 : Int) ≤ 2 := h138
        refine g_iload C X7 at_147 rfl rfl ?_
        refine g_if C X7 at_149 (by decide) rfl rfl ?_ ?_
        · intro h149
          have h149 : (0 : Int) ≤ 0 := h149
          refine g_iload C X7 at_158 rfl rfl ?_
          refine g_iconst C X7 (1 : Int32) at_160 rfl rfl ?_
          refine g_icmp C X7 at_161 (by decide) rfl rfl ?_ ?_
          · intro h161
            have h161 : (0 : Int) ≤ 1 := h161
            refine g_iload C X7 at_170 rfl rfl ?_
            refine g_iconst C X7 (2 : Int32) at_172 rfl rfl ?_
            refine g_icmp C X7 at_173 (by decide) rfl rfl ?_ ?_
            · intro h173
              have h173 : (0 : Int) ≤ 2 := h173
              refine g_iload C X7 at_182 rfl rfl ?_
              refine g_iconst C X7 (3 : Int32) at_184 rfl rfl ?_
              refine g_icmp C X7 at_185 (by decide) rfl rfl ?_ ?_
              · intro h185
                have h185 : (0 : Int) ≤ 3 := h185
                have AI : Aw Z h7_ ad1 .int 0 (fun j => .int (([] : List Int32).getD j 0)) := Aw.of A7_ad1 (by
                  intro j hj
                  have hj : j < 0 := hj
                  omega)
                have AP : Aw Z h7_ ad2 .int 0 (fun j => .int (([r0, r1, r2, r3] : List Int32).getD j 0)) := Aw.of A7_ad2 (by
                  intro j hj
                  have hj : j < 0 := hj
                  omega)
                have AR : Aw Z h7_ ad3 .int 4 (fun j => .int (([r0, r1, r2, r3] : List Int32).getD j 0)) := Aw.of A7 (by
                  intro j hj
                  have hj : j < 4 := hj
                  have hj : j = 0 ∨ j = 1 ∨ j = 2 ∨ j = 3 := by omega
                  rcases hj with rfl | rfl | rfl | rfl <;> rfl)
                exact seg194_0 C X7 e7 N7 Z7 AI AP AR (by decide) (Or.inl rfl)
              · intro h185
                have h185 : (0 : Int) > 3 := h185
                exact absurd h185 (by decide)
            · intro h173
              have h173 : (0 : Int) > 2 := h173
              exact absurd h173 (by decide)
          · intro h161
            have h161 : (0 : Int) > 1 := h161
            exact absurd h161 (by decide)
        · intro h149
          have h149 : (0 : Int) > 0 := h149
          exact absurd h149 (by decide)
      · intro h138
        have h138 : (0 : Int) > 2 := h138
        exact absurd h138 (by decide)
    · intro h127
      have h127 : (0 : Int) > 1 := h127
      exact absurd h127 (by decide)
  · intro h116
    have h116 : (0 : Int) > 0 := h116
    exact absurd h116 (by decide)
set_option maxRecDepth 65536 in
set_option maxHeartbeats 40000000 in
theorem seg79_0_1 {p : Program} {l : Launch} {e : Env} {s : State} {m : MethodId} {args : Array Value} {below : List Frame} {meth : Method} {c : Code} {T0 : State} {locs : List Loc} {Z : State} {a0 : Array Value} {h0 : Heap} {n0 : Nat} {y0 y1 y2 x0 x1 x2 r0 r1 r2 r3 : Int32}
    (C : Cx Z a0 p s m meth c code maxLocals "com/example/ballast/ballast/storage/ClusterCatalogIsInSyncOfPinLaw" "law" ret) (X0 : Stand p l e room_1 s m args below meth c T0 locs 0 0) (e0 : T0.heap = h0) (N0 : Fr n0 locs) (Z0 : n0 ≤ h0.size)  :
    Go p e below s m (LQ n0) room_1.cells room_1.slots T0 79 #[.val (.int y0), .val (.int y1), .val (.int y2), .val (.int (0 : Int32)), .val (.int (1 : Int32)), .val (.int x0), .val (.int x1), .val (.int x2), .val (.int r0), .val (.int r1), .val (.int r2), .val (.int r3), .unset, .unset, .unset, .unset] [] := by
  refine g_iloadN C X0 at_79 rfl rfl ?_
  refine g_newarray (cap := 3) C X0 at_80 e0 (C.t 0 rfl) (by decide) (by decide) (by decide) (by decide) (by decide) rfl ?_
  intro T1 h1_ X1 e1 E1 lt1 ad1 ha1 A1
  have Z1 : n0 ≤ h1_.size := Nat.le_trans Z0 E1.1
  have g_ad1 : n0 ≤ ad1 := by omega
  refine g_astore C X1 at_82 #[.val (.int y0), .val (.int y1), .val (.int y2), .val (.int (0 : Int32)), .val (.int (1 : Int32)), .val (.int x0), .val (.int x1), .val (.int x2), .val (.int r0), .val (.int r1), .val (.int r2), .val (.int r3), .val (.ref ad1), .unset, .unset, .unset] rfl rfl ?_
  refine g_iload C X1 at_84 rfl rfl ?_
  refine g_newarray (cap := 4) C X1 at_86 e1 (C.t 0 rfl) (by decide) (by decide) (by decide) (by decide) (by decide) rfl ?_
  intro T2 h2_ X2 e2 E2 lt2 ad2 ha2 A2
  have Z2 : n0 ≤ h2_.size := Nat.le_trans Z1 E2.1
  have ne_ad1_ad2 : ad1 ≠ ad2 := Nat.ne_of_lt (Nat.lt_of_lt_of_eq A1.lt ha2.symm)
  have A2_ad1 := A1.ext E2
  have g_ad2 : n0 ≤ ad2 := by omega
  refine g_astore C X2 at_88 #[.val (.int y0), .val (.int y1), .val (.int y2), .val (.int (0 : Int32)), .val (.int (1 : Int32)), .val (.int x0), .val (.int x1), .val (.int x2), .val (.int r0), .val (.int r1), .val (.int r2), .val (.int r3), .val (.ref ad1), .val (.ref ad2), .unset, .unset] rfl rfl ?_
  refine g_iconst C X2 (4 : Int32) at_90 rfl rfl ?_
  refine g_newarray (cap := 4) C X2 at_91 e2 (C.t 0 rfl) (by decide) (by decide) (by decide) (by decide) (by decide) rfl ?_
  intro T3 h3_ X3 e3 E3 lt3 ad3 ha3 A3
  have Z3 : n0 ≤ h3_.size := Nat.le_trans Z2 E3.1
  have ne_ad1_ad3 : ad1 ≠ ad3 := Nat.ne_of_lt (Nat.lt_of_lt_of_eq A2_ad1.lt ha3.symm)
  have A3_ad1 := A2_ad1.ext E3
  have ne_ad2_ad3 : ad2 ≠ ad3 := Nat.ne_of_lt (Nat.lt_of_lt_of_eq A2.lt ha3.symm)
  have A3_ad2 := A2.ext E3
  have g_ad3 : n0 ≤ ad3 := by omega
  refine g_dup C X3 at_93 rfl rfl ?_
  refine g_iconst C X3 (0 : Int32) at_94 rfl rfl ?_
  refine g_iload C X3 at_95 rfl rfl ?_
  refine g_iastore C X3 at_97 e3 A3 (by decide) (by decide) rfl ?_
  intro T4 h4_ X4 e4 W4 A4
  have N4 := Fr.snoc X4 N0 g_ad3
  have Z4 : n0 ≤ h4_.size := Nat.le_trans Z3 (Keep.of_wr W4).1
  have A4_ad1 := A3_ad1.other W4 ne_ad1_ad3
  have A4_ad2 := A3_ad2.other W4 ne_ad2_ad3
  refine g_dup C X4 at_98 rfl rfl ?_
  refine g_iconst C X4 (1 : Int32) at_99 rfl rfl ?_
  refine g_iload C X4 at_100 rfl rfl ?_
  refine g_iastore C X4 at_102 e4 A4 (by decide) (by decide) rfl ?_
  intro T5 h5_ X5 e5 W5 A5
  have N5 := Fr.snoc X5 N4 g_ad3
  have Z5 : n0 ≤ h5_.size := Nat.le_trans Z4 (Keep.of_wr W5).1
  have A5_ad1 := A4_ad1.other W5 ne_ad1_ad3
  have A5_ad2 := A4_ad2.other W5 ne_ad2_ad3
  refine g_dup C X5 at_103 rfl rfl ?_
  refine g_iconst C X5 (2 : Int32) at_104 rfl rfl ?_
  refine g_iload C X5 at_105 rfl rfl ?_
  refine g_iastore C X5 at_107 e5 A5 (by decide) (by decide) rfl ?_
  intro T6 h6_ X6 e6 W6 A6
  have N6 := Fr.snoc X6 N5 g_ad3
  have Z6 : n0 ≤ h6_.size := Nat.le_trans Z5 (Keep.of_wr W6).1
  have A6_ad1 := A5_ad1.other W6 ne_ad1_ad3
  have A6_ad2 := A5_ad2.other W6 ne_ad2_ad3
  refine g_dup C X6 at_108 rfl rfl ?_
  refine g_iconst C X6 (3 : Int32) at_109 rfl rfl ?_
  refine g_iload C X6 at_110 rfl rfl ?_
  refine g_iastore C X6 at_112 e6 A6 (by decide) (by decide) rfl ?_
  intro T7 h7_ X7 e7 W7 A7
  have N7 := Fr.snoc X7 N6 g_ad3
  have Z7 : n0 ≤ h7_.size := Nat.le_trans Z6 (Keep.of_wr W7).1
  have A7_ad1 := A6_ad1.other W7 ne_ad1_ad3
  have A7_ad2 := A6_ad2.other W7 ne_ad2_ad3
  refine g_astore C X7 at_113 #[.val (.int y0), .val (.int y1), .val (.int y2), .val (.int (0 : Int32)), .val (.int (1 : Int32)), .val (.int x0), .val (.int x1), .val (.int x2), .val (.int r0), .val (.int r1), .val (.int r2), .val (.int r3), .val (.ref ad1), .val (.ref ad2), .val (.ref ad3), .unset] rfl rfl ?_
  refine g_iloadN C X7 at_115 rfl rfl ?_
  refine g_if C X7 at_116 (by decide) rfl rfl ?_ ?_
  · intro h116
    have h116 : (0 : Int) ≤ 0 := h116
    refine g_iloadN C X7 at_125 rfl rfl ?_
    refine g_iconst C X7 (1 : Int32) at_126 rfl rfl ?_
    refine g_icmp C X7 at_127 (by decide) rfl rfl ?_ ?_
    · intro h127
      have h127 : (0 : Int) ≤ 1 := h127
      refine g_iloadN C X7 at_136 rfl rfl ?_
      refine g_iconst C X7 (2 : Int32) at_137 rfl rfl ?_
      refine g_icmp C X7 at_138 (by decide) rfl rfl ?_ ?_
      · intro h138
        have h138 : (0 : Int) ≤ 2 := h138
        refine g_iload C X7 at_147 rfl rfl ?_
        refine g_if C X7 at_149 (by decide) rfl rfl ?_ ?_
        · intro h149
          have h149 : (1 : Int) ≤ 0 := h149
          exact absurd h149 (by decide)
        · intro h149
          have h149 : (1 : Int) > 0 := h149
          refine g_aload C X7 at_152 rfl rfl ?_
          refine g_iconst C X7 (0 : Int32) at_154 rfl rfl ?_
          refine g_iload C X7 at_155 rfl rfl ?_
          refine g_iastore C X7 at_157 e7 A7_ad2 (by decide) (by decide) rfl ?_
          intro T8 h8_ X8 e8 W8 A8
          have N8 := Fr.snoc X8 N7 g_ad2
          have Z8 : n0 ≤ h8_.size := Nat.le_trans Z7 (Keep.of_wr W8).1
          have A8_ad1 := A7_ad1.other W8 ne_ad1_ad2
          have A8_ad3 := A7.other W8 ne_ad2_ad3.symm
          refine g_iload C X8 at_158 rfl rfl ?_
          refine g_iconst C X8 (1 : Int32) at_160 rfl rfl ?_
          refine g_icmp C X8 at_161 (by decide) rfl rfl ?_ ?_
          · intro h161
            have h161 : (1 : Int) ≤ 1 := h161
            refine g_iload C X8 at_170 rfl rfl ?_
            refine g_iconst C X8 (2 : Int32) at_172 rfl rfl ?_
            refine g_icmp C X8 at_173 (by decide) rfl rfl ?_ ?_
            · intro h173
              have h173 : (1 : Int) ≤ 2 := h173
              refine g_iload C X8 at_182 rfl rfl ?_
              refine g_iconst C X8 (3 : Int32) at_184 rfl rfl ?_
              refine g_icmp C X8 at_185 (by decide) rfl rfl ?_ ?_
              · intro h185
                have h185 : (1 : Int) ≤ 3 := h185
                have AI : Aw Z h8_ ad1 .int 0 (fun j => .int (([] : List Int32).getD j 0)) := Aw.of A8_ad1 (by
                  intro j hj
                  have hj : j < 0 := hj
                  omega)
                have AP : Aw Z h8_ ad2 .int 1 (fun j => .int (([r0, r1, r2, r3] : List Int32).getD j 0)) := Aw.of A8 (by
                  intro j hj
                  have hj : j < 1 := hj
                  have hj : j = 0 := by omega
                  rcases hj with rfl <;> rfl)
                have AR : Aw Z h8_ ad3 .int 4 (fun j => .int (([r0, r1, r2, r3] : List Int32).getD j 0)) := Aw.of A8_ad3 (by
                  intro j hj
                  have hj : j < 4 := hj
                  have hj : j = 0 ∨ j = 1 ∨ j = 2 ∨ j = 3 := by omega
                  rcases hj with rfl | rfl | rfl | rfl <;> rfl)
                exact seg194_0 C X8 e8 N8 Z8 AI AP AR (by decide) (Or.inr (Or.inl rfl))
              · intro h185
                have h185 : (1 : Int) > 3 := h185
                exact absurd h185 (by decide)
            · intro h173
              have h173 : (1 : Int) > 2 := h173
              exact absurd h173 (by decide)
          · intro h161
            have h161 : (1 : Int) > 1 := h161
            exact absurd h161 (by decide)
      · intro h138
        have h138 : (0 : Int) > 2 := h138
        exact absurd h138 (by decide)
    · intro h127
      have h127 : (0 : Int) > 1 := h127
      exact absurd h127 (by decide)
  · intro h116
    have h116 : (0 : Int) > 0 := h116
    exact absurd h116 (by decide)
set_option maxRecDepth 65536 in
set_option maxHeartbeats 40000000 in
theorem seg79_0_2 {p : Program} {l : Launch} {e : Env} {s : State} {m : MethodId} {args : Array Value} {below : List Frame} {meth : Method} {c : Code} {T0 : State} {locs : List Loc} {Z : State} {a0 : Array Value} {h0 : Heap} {n0 : Nat} {y0 y1 y2 x0 x1 x2 r0 r1 r2 r3 : Int32}
    (C : Cx Z a0 p s m meth c code maxLocals "com/example/ballast/ballast/storage/ClusterCatalogIsInSyncOfPinLaw" "law" ret) (X0 : Stand p l e room_1 s m args below meth c T0 locs 0 0) (e0 : T0.heap = h0) (N0 : Fr n0 locs) (Z0 : n0 ≤ h0.size)  :
    Go p e below s m (LQ n0) room_1.cells room_1.slots T0 79 #[.val (.int y0), .val (.int y1), .val (.int y2), .val (.int (0 : Int32)), .val (.int (2 : Int32)), .val (.int x0), .val (.int x1), .val (.int x2), .val (.int r0), .val (.int r1), .val (.int r2), .val (.int r3), .unset, .unset, .unset, .unset] [] := by
  refine g_iloadN C X0 at_79 rfl rfl ?_
  refine g_newarray (cap := 3) C X0 at_80 e0 (C.t 0 rfl) (by decide) (by decide) (by decide) (by decide) (by decide) rfl ?_
  intro T1 h1_ X1 e1 E1 lt1 ad1 ha1 A1
  have Z1 : n0 ≤ h1_.size := Nat.le_trans Z0 E1.1
  have g_ad1 : n0 ≤ ad1 := by omega
  refine g_astore C X1 at_82 #[.val (.int y0), .val (.int y1), .val (.int y2), .val (.int (0 : Int32)), .val (.int (2 : Int32)), .val (.int x0), .val (.int x1), .val (.int x2), .val (.int r0), .val (.int r1), .val (.int r2), .val (.int r3), .val (.ref ad1), .unset, .unset, .unset] rfl rfl ?_
  refine g_iload C X1 at_84 rfl rfl ?_
  refine g_newarray (cap := 4) C X1 at_86 e1 (C.t 0 rfl) (by decide) (by decide) (by decide) (by decide) (by decide) rfl ?_
  intro T2 h2_ X2 e2 E2 lt2 ad2 ha2 A2
  have Z2 : n0 ≤ h2_.size := Nat.le_trans Z1 E2.1
  have ne_ad1_ad2 : ad1 ≠ ad2 := Nat.ne_of_lt (Nat.lt_of_lt_of_eq A1.lt ha2.symm)
  have A2_ad1 := A1.ext E2
  have g_ad2 : n0 ≤ ad2 := by omega
  refine g_astore C X2 at_88 #[.val (.int y0), .val (.int y1), .val (.int y2), .val (.int (0 : Int32)), .val (.int (2 : Int32)), .val (.int x0), .val (.int x1), .val (.int x2), .val (.int r0), .val (.int r1), .val (.int r2), .val (.int r3), .val (.ref ad1), .val (.ref ad2), .unset, .unset] rfl rfl ?_
  refine g_iconst C X2 (4 : Int32) at_90 rfl rfl ?_
  refine g_newarray (cap := 4) C X2 at_91 e2 (C.t 0 rfl) (by decide) (by decide) (by decide) (by decide) (by decide) rfl ?_
  intro T3 h3_ X3 e3 E3 lt3 ad3 ha3 A3
  have Z3 : n0 ≤ h3_.size := Nat.le_trans Z2 E3.1
  have ne_ad1_ad3 : ad1 ≠ ad3 := Nat.ne_of_lt (Nat.lt_of_lt_of_eq A2_ad1.lt ha3.symm)
  have A3_ad1 := A2_ad1.ext E3
  have ne_ad2_ad3 : ad2 ≠ ad3 := Nat.ne_of_lt (Nat.lt_of_lt_of_eq A2.lt ha3.symm)
  have A3_ad2 := A2.ext E3
  have g_ad3 : n0 ≤ ad3 := by omega
  refine g_dup C X3 at_93 rfl rfl ?_
  refine g_iconst C X3 (0 : Int32) at_94 rfl rfl ?_
  refine g_iload C X3 at_95 rfl rfl ?_
  refine g_iastore C X3 at_97 e3 A3 (by decide) (by decide) rfl ?_
  intro T4 h4_ X4 e4 W4 A4
  have N4 := Fr.snoc X4 N0 g_ad3
  have Z4 : n0 ≤ h4_.size := Nat.le_trans Z3 (Keep.of_wr W4).1
  have A4_ad1 := A3_ad1.other W4 ne_ad1_ad3
  have A4_ad2 := A3_ad2.other W4 ne_ad2_ad3
  refine g_dup C X4 at_98 rfl rfl ?_
  refine g_iconst C X4 (1 : Int32) at_99 rfl rfl ?_
  refine g_iload C X4 at_100 rfl rfl ?_
  refine g_iastore C X4 at_102 e4 A4 (by decide) (by decide) rfl ?_
  intro T5 h5_ X5 e5 W5 A5
  have N5 := Fr.snoc X5 N4 g_ad3
  have Z5 : n0 ≤ h5_.size := Nat.le_trans Z4 (Keep.of_wr W5).1
  have A5_ad1 := A4_ad1.other W5 ne_ad1_ad3
  have A5_ad2 := A4_ad2.other W5 ne_ad2_ad3
  refine g_dup C X5 at_103 rfl rfl ?_
  refine g_iconst C X5 (2 : Int32) at_104 rfl rfl ?_
  refine g_iload C X5 at_105 rfl rfl ?_
  refine g_iastore C X5 at_107 e5 A5 (by decide) (by decide) rfl ?_
  intro T6 h6_ X6 e6 W6 A6
  have N6 := Fr.snoc X6 N5 g_ad3
  have Z6 : n0 ≤ h6_.size := Nat.le_trans Z5 (Keep.of_wr W6).1
  have A6_ad1 := A5_ad1.other W6 ne_ad1_ad3
  have A6_ad2 := A5_ad2.other W6 ne_ad2_ad3
  refine g_dup C X6 at_108 rfl rfl ?_
  refine g_iconst C X6 (3 : Int32) at_109 rfl rfl ?_
  refine g_iload C X6 at_110 rfl rfl ?_
  refine g_iastore C X6 at_112 e6 A6 (by decide) (by decide) rfl ?_
  intro T7 h7_ X7 e7 W7 A7
  have N7 := Fr.snoc X7 N6 g_ad3
  have Z7 : n0 ≤ h7_.size := Nat.le_trans Z6 (Keep.of_wr W7).1
  have A7_ad1 := A6_ad1.other W7 ne_ad1_ad3
  have A7_ad2 := A6_ad2.other W7 ne_ad2_ad3
  refine g_astore C X7 at_113 #[.val (.int y0), .val (.int y1), .val (.int y2), .val (.int (0 : Int32)), .val (.int (2 : Int32)), .val (.int x0), .val (.int x1), .val (.int x2), .val (.int r0), .val (.int r1), .val (.int r2), .val (.int r3), .val (.ref ad1), .val (.ref ad2), .val (.ref ad3), .unset] rfl rfl ?_
  refine g_iloadN C X7 at_115 rfl rfl ?_
  refine g_if C X7 at_116 (by decide) rfl rfl ?_ ?_
  · intro h116
    have h116 : (0 : Int) ≤ 0 := h116
    refine g_iloadN C X7 at_125 rfl rfl ?_
    refine g_iconst C X7 (1 : Int32) at_126 rfl rfl ?_
    refine g_icmp C X7 at_127 (by decide) rfl rfl ?_ ?_
    · intro h127
      have h127 : (0 : Int) ≤ 1 := h127
      refine g_iloadN C X7 at_136 rfl rfl ?_
      refine g_iconst C X7 (2 : Int32) at_137 rfl rfl ?_
      refine g_icmp C X7 at_138 (by decide) rfl rfl ?_ ?_
      · intro h138
        have h138 : (0 : Int) ≤ 2 := h138
        refine g_iload C X7 at_147 rfl rfl ?_
        refine g_if C X7 at_149 (by decide) rfl rfl ?_ ?_
        · intro h149
          have h149 : (2 : Int) ≤ 0 := h149
          exact absurd h149 (by decide)
        · intro h149
          have h149 : (2 : Int) > 0 := h149
          refine g_aload C X7 at_152 rfl rfl ?_
          refine g_iconst C X7 (0 : Int32) at_154 rfl rfl ?_
          refine g_iload C X7 at_155 rfl rfl ?_
          refine g_iastore C X7 at_157 e7 A7_ad2 (by decide) (by decide) rfl ?_
          intro T8 h8_ X8 e8 W8 A8
          have N8 := Fr.snoc X8 N7 g_ad2
          have Z8 : n0 ≤ h8_.size := Nat.le_trans Z7 (Keep.of_wr W8).1
          have A8_ad1 := A7_ad1.other W8 ne_ad1_ad2
          have A8_ad3 := A7.other W8 ne_ad2_ad3.symm
          refine g_iload C X8 at_158 rfl rfl ?_
          refine g_iconst C X8 (1 : Int32) at_160 rfl rfl ?_
          refine g_icmp C X8 at_161 (by decide) rfl rfl ?_ ?_
          · intro h161
            have h161 : (2 : Int) ≤ 1 := h161
            exact absurd h161 (by decide)
          · intro h161
            have h161 : (2 : Int) > 1 := h161
            refine g_aload C X8 at_164 rfl rfl ?_
            refine g_iconst C X8 (1 : Int32) at_166 rfl rfl ?_
            refine g_iload C X8 at_167 rfl rfl ?_
            refine g_iastore C X8 at_169 e8 A8 (by decide) (by decide) rfl ?_
            intro T9 h9_ X9 e9 W9 A9
            have N9 := Fr.snoc X9 N8 g_ad2
            have Z9 : n0 ≤ h9_.size := Nat.le_trans Z8 (Keep.of_wr W9).1
            have A9_ad1 := A8_ad1.other W9 ne_ad1_ad2
            have A9_ad3 := A8_ad3.other W9 ne_ad2_ad3.symm
            refine g_iload C X9 at_170 rfl rfl ?_
            refine g_iconst C X9 (2 : Int32) at_172 rfl rfl ?_
            refine g_icmp C X9 at_173 (by decide) rfl rfl ?_ ?_
            · intro h173
              have h173 : (2 : Int) ≤ 2 := h173
              refine g_iload C X9 at_182 rfl rfl ?_
              refine g_iconst C X9 (3 : Int32) at_184 rfl rfl ?_
              refine g_icmp C X9 at_185 (by decide) rfl rfl ?_ ?_
              · intro h185
                have h185 : (2 : Int) ≤ 3 := h185
                have AI : Aw Z h9_ ad1 .int 0 (fun j => .int (([] : List Int32).getD j 0)) := Aw.of A9_ad1 (by
                  intro j hj
                  have hj : j < 0 := hj
                  omega)
                have AP : Aw Z h9_ ad2 .int 2 (fun j => .int (([r0, r1, r2, r3] : List Int32).getD j 0)) := Aw.of A9 (by
                  intro j hj
                  have hj : j < 2 := hj
                  have hj : j = 0 ∨ j = 1 := by omega
                  rcases hj with rfl | rfl <;> rfl)
                have AR : Aw Z h9_ ad3 .int 4 (fun j => .int (([r0, r1, r2, r3] : List Int32).getD j 0)) := Aw.of A9_ad3 (by
                  intro j hj
                  have hj : j < 4 := hj
                  have hj : j = 0 ∨ j = 1 ∨ j = 2 ∨ j = 3 := by omega
                  rcases hj with rfl | rfl | rfl | rfl <;> rfl)
                exact seg194_0 C X9 e9 N9 Z9 AI AP AR (by decide) (Or.inr (Or.inr (Or.inl rfl)))
              · intro h185
                have h185 : (2 : Int) > 3 := h185
                exact absurd h185 (by decide)
            · intro h173
              have h173 : (2 : Int) > 2 := h173
              exact absurd h173 (by decide)
      · intro h138
        have h138 : (0 : Int) > 2 := h138
        exact absurd h138 (by decide)
    · intro h127
      have h127 : (0 : Int) > 1 := h127
      exact absurd h127 (by decide)
  · intro h116
    have h116 : (0 : Int) > 0 := h116
    exact absurd h116 (by decide)
set_option maxRecDepth 65536 in
set_option maxHeartbeats 40000000 in
theorem seg79_0_3 {p : Program} {l : Launch} {e : Env} {s : State} {m : MethodId} {args : Array Value} {below : List Frame} {meth : Method} {c : Code} {T0 : State} {locs : List Loc} {Z : State} {a0 : Array Value} {h0 : Heap} {n0 : Nat} {y0 y1 y2 x0 x1 x2 r0 r1 r2 r3 : Int32}
    (C : Cx Z a0 p s m meth c code maxLocals "com/example/ballast/ballast/storage/ClusterCatalogIsInSyncOfPinLaw" "law" ret) (X0 : Stand p l e room_1 s m args below meth c T0 locs 0 0) (e0 : T0.heap = h0) (N0 : Fr n0 locs) (Z0 : n0 ≤ h0.size)  :
    Go p e below s m (LQ n0) room_1.cells room_1.slots T0 79 #[.val (.int y0), .val (.int y1), .val (.int y2), .val (.int (0 : Int32)), .val (.int (3 : Int32)), .val (.int x0), .val (.int x1), .val (.int x2), .val (.int r0), .val (.int r1), .val (.int r2), .val (.int r3), .unset, .unset, .unset, .unset] [] := by
  refine g_iloadN C X0 at_79 rfl rfl ?_
  refine g_newarray (cap := 3) C X0 at_80 e0 (C.t 0 rfl) (by decide) (by decide) (by decide) (by decide) (by decide) rfl ?_
  intro T1 h1_ X1 e1 E1 lt1 ad1 ha1 A1
  have Z1 : n0 ≤ h1_.size := Nat.le_trans Z0 E1.1
  have g_ad1 : n0 ≤ ad1 := by omega
  refine g_astore C X1 at_82 #[.val (.int y0), .val (.int y1), .val (.int y2), .val (.int (0 : Int32)), .val (.int (3 : Int32)), .val (.int x0), .val (.int x1), .val (.int x2), .val (.int r0), .val (.int r1), .val (.int r2), .val (.int r3), .val (.ref ad1), .unset, .unset, .unset] rfl rfl ?_
  refine g_iload C X1 at_84 rfl rfl ?_
  refine g_newarray (cap := 4) C X1 at_86 e1 (C.t 0 rfl) (by decide) (by decide) (by decide) (by decide) (by decide) rfl ?_
  intro T2 h2_ X2 e2 E2 lt2 ad2 ha2 A2
  have Z2 : n0 ≤ h2_.size := Nat.le_trans Z1 E2.1
  have ne_ad1_ad2 : ad1 ≠ ad2 := Nat.ne_of_lt (Nat.lt_of_lt_of_eq A1.lt ha2.symm)
  have A2_ad1 := A1.ext E2
  have g_ad2 : n0 ≤ ad2 := by omega
  refine g_astore C X2 at_88 #[.val (.int y0), .val (.int y1), .val (.int y2), .val (.int (0 : Int32)), .val (.int (3 : Int32)), .val (.int x0), .val (.int x1), .val (.int x2), .val (.int r0), .val (.int r1), .val (.int r2), .val (.int r3), .val (.ref ad1), .val (.ref ad2), .unset, .unset] rfl rfl ?_
  refine g_iconst C X2 (4 : Int32) at_90 rfl rfl ?_
  refine g_newarray (cap := 4) C X2 at_91 e2 (C.t 0 rfl) (by decide) (by decide) (by decide) (by decide) (by decide) rfl ?_
  intro T3 h3_ X3 e3 E3 lt3 ad3 ha3 A3
  have Z3 : n0 ≤ h3_.size := Nat.le_trans Z2 E3.1
  have ne_ad1_ad3 : ad1 ≠ ad3 := Nat.ne_of_lt (Nat.lt_of_lt_of_eq A2_ad1.lt ha3.symm)
  have A3_ad1 := A2_ad1.ext E3
  have ne_ad2_ad3 : ad2 ≠ ad3 := Nat.ne_of_lt (Nat.lt_of_lt_of_eq A2.lt ha3.symm)
  have A3_ad2 := A2.ext E3
  have g_ad3 : n0 ≤ ad3 := by omega
  refine g_dup C X3 at_93 rfl rfl ?_
  refine g_iconst C X3 (0 : Int32) at_94 rfl rfl ?_
  refine g_iload C X3 at_95 rfl rfl ?_
  refine g_iastore C X3 at_97 e3 A3 (by decide) (by decide) rfl ?_
  intro T4 h4_ X4 e4 W4 A4
  have N4 := Fr.snoc X4 N0 g_ad3
  have Z4 : n0 ≤ h4_.size := Nat.le_trans Z3 (Keep.of_wr W4).1
  have A4_ad1 := A3_ad1.other W4 ne_ad1_ad3
  have A4_ad2 := A3_ad2.other W4 ne_ad2_ad3
  refine g_dup C X4 at_98 rfl rfl ?_
  refine g_iconst C X4 (1 : Int32) at_99 rfl rfl ?_
  refine g_iload C X4 at_100 rfl rfl ?_
  refine g_iastore C X4 at_102 e4 A4 (by decide) (by decide) rfl ?_
  intro T5 h5_ X5 e5 W5 A5
  have N5 := Fr.snoc X5 N4 g_ad3
  have Z5 : n0 ≤ h5_.size := Nat.le_trans Z4 (Keep.of_wr W5).1
  have A5_ad1 := A4_ad1.other W5 ne_ad1_ad3
  have A5_ad2 := A4_ad2.other W5 ne_ad2_ad3
  refine g_dup C X5 at_103 rfl rfl ?_
  refine g_iconst C X5 (2 : Int32) at_104 rfl rfl ?_
  refine g_iload C X5 at_105 rfl rfl ?_
  refine g_iastore C X5 at_107 e5 A5 (by decide) (by decide) rfl ?_
  intro T6 h6_ X6 e6 W6 A6
  have N6 := Fr.snoc X6 N5 g_ad3
  have Z6 : n0 ≤ h6_.size := Nat.le_trans Z5 (Keep.of_wr W6).1
  have A6_ad1 := A5_ad1.other W6 ne_ad1_ad3
  have A6_ad2 := A5_ad2.other W6 ne_ad2_ad3
  refine g_dup C X6 at_108 rfl rfl ?_
  refine g_iconst C X6 (3 : Int32) at_109 rfl rfl ?_
  refine g_iload C X6 at_110 rfl rfl ?_
  refine g_iastore C X6 at_112 e6 A6 (by decide) (by decide) rfl ?_
  intro T7 h7_ X7 e7 W7 A7
  have N7 := Fr.snoc X7 N6 g_ad3
  have Z7 : n0 ≤ h7_.size := Nat.le_trans Z6 (Keep.of_wr W7).1
  have A7_ad1 := A6_ad1.other W7 ne_ad1_ad3
  have A7_ad2 := A6_ad2.other W7 ne_ad2_ad3
  refine g_astore C X7 at_113 #[.val (.int y0), .val (.int y1), .val (.int y2), .val (.int (0 : Int32)), .val (.int (3 : Int32)), .val (.int x0), .val (.int x1), .val (.int x2), .val (.int r0), .val (.int r1), .val (.int r2), .val (.int r3), .val (.ref ad1), .val (.ref ad2), .val (.ref ad3), .unset] rfl rfl ?_
  refine g_iloadN C X7 at_115 rfl rfl ?_
  refine g_if C X7 at_116 (by decide) rfl rfl ?_ ?_
  · intro h116
    have h116 : (0 : Int) ≤ 0 := h116
    refine g_iloadN C X7 at_125 rfl rfl ?_
    refine g_iconst C X7 (1 : Int32) at_126 rfl rfl ?_
    refine g_icmp C X7 at_127 (by decide) rfl rfl ?_ ?_
    · intro h127
      have h127 : (0 : Int) ≤ 1 := h127
      refine g_iloadN C X7 at_136 rfl rfl ?_
      refine g_iconst C X7 (2 : Int32) at_137 rfl rfl ?_
      refine g_icmp C X7 at_138 (by decide) rfl rfl ?_ ?_
      · intro h138
        have h138 : (0 : Int) ≤ 2 := h138
        refine g_iload C X7 at_147 rfl rfl ?_
        refine g_if C X7 at_149 (by decide) rfl rfl ?_ ?_
        · intro h149
          have h149 : (3 : Int) ≤ 0 := h149
          exact absurd h149 (by decide)
        · intro h149
          have h149 : (3 : Int) > 0 := h149
          refine g_aload C X7 at_152 rfl rfl ?_
          refine g_iconst C X7 (0 : Int32) at_154 rfl rfl ?_
          refine g_iload C X7 at_155 rfl rfl ?_
          refine g_iastore C X7 at_157 e7 A7_ad2 (by decide) (by decide) rfl ?_
          intro T8 h8_ X8 e8 W8 A8
          have N8 := Fr.snoc X8 N7 g_ad2
          have Z8 : n0 ≤ h8_.size := Nat.le_trans Z7 (Keep.of_wr W8).1
          have A8_ad1 := A7_ad1.other W8 ne_ad1_ad2
          have A8_ad3 := A7.other W8 ne_ad2_ad3.symm
          refine g_iload C X8 at_158 rfl rfl ?_
          refine g_iconst C X8 (1 : Int32) at_160 rfl rfl ?_
          refine g_icmp C X8 at_161 (by decide) rfl rfl ?_ ?_
          · intro h161
            have h161 : (3 : Int) ≤ 1 := h161
            exact absurd h161 (by decide)
          · intro h161
            have h161 : (3 : Int) > 1 := h161
            refine g_aload C X8 at_164 rfl rfl ?_
            refine g_iconst C X8 (1 : Int32) at_166 rfl rfl ?_
            refine g_iload C X8 at_167 rfl rfl ?_
            refine g_iastore C X8 at_169 e8 A8 (by decide) (by decide) rfl ?_
            intro T9 h9_ X9 e9 W9 A9
            have N9 := Fr.snoc X9 N8 g_ad2
            have Z9 : n0 ≤ h9_.size := Nat.le_trans Z8 (Keep.of_wr W9).1
            have A9_ad1 := A8_ad1.other W9 ne_ad1_ad2
            have A9_ad3 := A8_ad3.other W9 ne_ad2_ad3.symm
            refine g_iload C X9 at_170 rfl rfl ?_
            refine g_iconst C X9 (2 : Int32) at_172 rfl rfl ?_
            refine g_icmp C X9 at_173 (by decide) rfl rfl ?_ ?_
            · intro h173
              have h173 : (3 : Int) ≤ 2 := h173
              exact absurd h173 (by decide)
            · intro h173
              have h173 : (3 : Int) > 2 := h173
              refine g_aload C X9 at_176 rfl rfl ?_
              refine g_iconst C X9 (2 : Int32) at_178 rfl rfl ?_
              refine g_iload C X9 at_179 rfl rfl ?_
              refine g_iastore C X9 at_181 e9 A9 (by decide) (by decide) rfl ?_
              intro T10 h10_ X10 e10 W10 A10
              have N10 := Fr.snoc X10 N9 g_ad2
              have Z10 : n0 ≤ h10_.size := Nat.le_trans Z9 (Keep.of_wr W10).1
              have A10_ad1 := A9_ad1.other W10 ne_ad1_ad2
              have A10_ad3 := A9_ad3.other W10 ne_ad2_ad3.symm
              refine g_iload C X10 at_182 rfl rfl ?_
              refine g_iconst C X10 (3 : Int32) at_184 rfl rfl ?_
              refine g_icmp C X10 at_185 (by decide) rfl rfl ?_ ?_
              · intro h185
                have h185 : (3 : Int) ≤ 3 := h185
                have AI : Aw Z h10_ ad1 .int 0 (fun j => .int (([] : List Int32).getD j 0)) := Aw.of A10_ad1 (by
                  intro j hj
                  have hj : j < 0 := hj
                  omega)
                have AP : Aw Z h10_ ad2 .int 3 (fun j => .int (([r0, r1, r2, r3] : List Int32).getD j 0)) := Aw.of A10 (by
                  intro j hj
                  have hj : j < 3 := hj
                  have hj : j = 0 ∨ j = 1 ∨ j = 2 := by omega
                  rcases hj with rfl | rfl | rfl <;> rfl)
                have AR : Aw Z h10_ ad3 .int 4 (fun j => .int (([r0, r1, r2, r3] : List Int32).getD j 0)) := Aw.of A10_ad3 (by
                  intro j hj
                  have hj : j < 4 := hj
                  have hj : j = 0 ∨ j = 1 ∨ j = 2 ∨ j = 3 := by omega
                  rcases hj with rfl | rfl | rfl | rfl <;> rfl)
                exact seg194_0 C X10 e10 N10 Z10 AI AP AR (by decide) (Or.inr (Or.inr (Or.inr (Or.inl rfl))))
              · intro h185
                have h185 : (3 : Int) > 3 := h185
                exact absurd h185 (by decide)
      · intro h138
        have h138 : (0 : Int) > 2 := h138
        exact absurd h138 (by decide)
    · intro h127
      have h127 : (0 : Int) > 1 := h127
      exact absurd h127 (by decide)
  · intro h116
    have h116 : (0 : Int) > 0 := h116
    exact absurd h116 (by decide)
set_option maxRecDepth 65536 in
set_option maxHeartbeats 40000000 in
theorem seg79_0_4 {p : Program} {l : Launch} {e : Env} {s : State} {m : MethodId} {args : Array Value} {below : List Frame} {meth : Method} {c : Code} {T0 : State} {locs : List Loc} {Z : State} {a0 : Array Value} {h0 : Heap} {n0 : Nat} {y0 y1 y2 x0 x1 x2 r0 r1 r2 r3 : Int32}
    (C : Cx Z a0 p s m meth c code maxLocals "com/example/ballast/ballast/storage/ClusterCatalogIsInSyncOfPinLaw" "law" ret) (X0 : Stand p l e room_1 s m args below meth c T0 locs 0 0) (e0 : T0.heap = h0) (N0 : Fr n0 locs) (Z0 : n0 ≤ h0.size)  :
    Go p e below s m (LQ n0) room_1.cells room_1.slots T0 79 #[.val (.int y0), .val (.int y1), .val (.int y2), .val (.int (0 : Int32)), .val (.int (4 : Int32)), .val (.int x0), .val (.int x1), .val (.int x2), .val (.int r0), .val (.int r1), .val (.int r2), .val (.int r3), .unset, .unset, .unset, .unset] [] := by
  refine g_iloadN C X0 at_79 rfl rfl ?_
  refine g_newarray (cap := 3) C X0 at_80 e0 (C.t 0 rfl) (by decide) (by decide) (by decide) (by decide) (by decide) rfl ?_
  intro T1 h1_ X1 e1 E1 lt1 ad1 ha1 A1
  have Z1 : n0 ≤ h1_.size := Nat.le_trans Z0 E1.1
  have g_ad1 : n0 ≤ ad1 := by omega
  refine g_astore C X1 at_82 #[.val (.int y0), .val (.int y1), .val (.int y2), .val (.int (0 : Int32)), .val (.int (4 : Int32)), .val (.int x0), .val (.int x1), .val (.int x2), .val (.int r0), .val (.int r1), .val (.int r2), .val (.int r3), .val (.ref ad1), .unset, .unset, .unset] rfl rfl ?_
  refine g_iload C X1 at_84 rfl rfl ?_
  refine g_newarray (cap := 4) C X1 at_86 e1 (C.t 0 rfl) (by decide) (by decide) (by decide) (by decide) (by decide) rfl ?_
  intro T2 h2_ X2 e2 E2 lt2 ad2 ha2 A2
  have Z2 : n0 ≤ h2_.size := Nat.le_trans Z1 E2.1
  have ne_ad1_ad2 : ad1 ≠ ad2 := Nat.ne_of_lt (Nat.lt_of_lt_of_eq A1.lt ha2.symm)
  have A2_ad1 := A1.ext E2
  have g_ad2 : n0 ≤ ad2 := by omega
  refine g_astore C X2 at_88 #[.val (.int y0), .val (.int y1), .val (.int y2), .val (.int (0 : Int32)), .val (.int (4 : Int32)), .val (.int x0), .val (.int x1), .val (.int x2), .val (.int r0), .val (.int r1), .val (.int r2), .val (.int r3), .val (.ref ad1), .val (.ref ad2), .unset, .unset] rfl rfl ?_
  refine g_iconst C X2 (4 : Int32) at_90 rfl rfl ?_
  refine g_newarray (cap := 4) C X2 at_91 e2 (C.t 0 rfl) (by decide) (by decide) (by decide) (by decide) (by decide) rfl ?_
  intro T3 h3_ X3 e3 E3 lt3 ad3 ha3 A3
  have Z3 : n0 ≤ h3_.size := Nat.le_trans Z2 E3.1
  have ne_ad1_ad3 : ad1 ≠ ad3 := Nat.ne_of_lt (Nat.lt_of_lt_of_eq A2_ad1.lt ha3.symm)
  have A3_ad1 := A2_ad1.ext E3
  have ne_ad2_ad3 : ad2 ≠ ad3 := Nat.ne_of_lt (Nat.lt_of_lt_of_eq A2.lt ha3.symm)
  have A3_ad2 := A2.ext E3
  have g_ad3 : n0 ≤ ad3 := by omega
  refine g_dup C X3 at_93 rfl rfl ?_
  refine g_iconst C X3 (0 : Int32) at_94 rfl rfl ?_
  refine g_iload C X3 at_95 rfl rfl ?_
  refine g_iastore C X3 at_97 e3 A3 (by decide) (by decide) rfl ?_
  intro T4 h4_ X4 e4 W4 A4
  have N4 := Fr.snoc X4 N0 g_ad3
  have Z4 : n0 ≤ h4_.size := Nat.le_trans Z3 (Keep.of_wr W4).1
  have A4_ad1 := A3_ad1.other W4 ne_ad1_ad3
  have A4_ad2 := A3_ad2.other W4 ne_ad2_ad3
  refine g_dup C X4 at_98 rfl rfl ?_
  refine g_iconst C X4 (1 : Int32) at_99 rfl rfl ?_
  refine g_iload C X4 at_100 rfl rfl ?_
  refine g_iastore C X4 at_102 e4 A4 (by decide) (by decide) rfl ?_
  intro T5 h5_ X5 e5 W5 A5
  have N5 := Fr.snoc X5 N4 g_ad3
  have Z5 : n0 ≤ h5_.size := Nat.le_trans Z4 (Keep.of_wr W5).1
  have A5_ad1 := A4_ad1.other W5 ne_ad1_ad3
  have A5_ad2 := A4_ad2.other W5 ne_ad2_ad3
  refine g_dup C X5 at_103 rfl rfl ?_
  refine g_iconst C X5 (2 : Int32) at_104 rfl rfl ?_
  refine g_iload C X5 at_105 rfl rfl ?_
  refine g_iastore C X5 at_107 e5 A5 (by decide) (by decide) rfl ?_
  intro T6 h6_ X6 e6 W6 A6
  have N6 := Fr.snoc X6 N5 g_ad3
  have Z6 : n0 ≤ h6_.size := Nat.le_trans Z5 (Keep.of_wr W6).1
  have A6_ad1 := A5_ad1.other W6 ne_ad1_ad3
  have A6_ad2 := A5_ad2.other W6 ne_ad2_ad3
  refine g_dup C X6 at_108 rfl rfl ?_
  refine g_iconst C X6 (3 : Int32) at_109 rfl rfl ?_
  refine g_iload C X6 at_110 rfl rfl ?_
  refine g_iastore C X6 at_112 e6 A6 (by decide) (by decide) rfl ?_
  intro T7 h7_ X7 e7 W7 A7
  have N7 := Fr.snoc X7 N6 g_ad3
  have Z7 : n0 ≤ h7_.size := Nat.le_trans Z6 (Keep.of_wr W7).1
  have A7_ad1 := A6_ad1.other W7 ne_ad1_ad3
  have A7_ad2 := A6_ad2.other W7 ne_ad2_ad3
  refine g_astore C X7 at_113 #[.val (.int y0), .val (.int y1), .val (.int y2), .val (.int (0 : Int32)), .val (.int (4 : Int32)), .val (.int x0), .val (.int x1), .val (.int x2), .val (.int r0), .val (.int r1), .val (.int r2), .val (.int r3), .val (.ref ad1), .val (.ref ad2), .val (.ref ad3), .unset] rfl rfl ?_
  refine g_iloadN C X7 at_115 rfl rfl ?_
  refine g_if C X7 at_116 (by decide) rfl rfl ?_ ?_
  · intro h116
    have h116 : (0 : Int) ≤ 0 := h116
    refine g_iloadN C X7 at_125 rfl rfl ?_
    refine g_iconst C X7 (1 : Int32) at_126 rfl rfl ?_
    refine g_icmp C X7 at_127 (by decide) rfl rfl ?_ ?_
    · intro h127
      have h127 : (0 : Int) ≤ 1 := h127
      refine g_iloadN C X7 at_136 rfl rfl ?_
      refine g_iconst C X7 (2 : Int32) at_137 rfl rfl ?_
      refine g_icmp C X7 at_138 (by decide) rfl rfl ?_ ?_
      · intro h138
        have h138 : (0 : Int) ≤ 2 := h138
        refine g_iload C X7 at_147 rfl rfl ?_
        refine g_if C X7 at_149 (by decide) rfl rfl ?_ ?_
        · intro h149
          have h149 : (4 : Int) ≤ 0 := h149
          exact absurd h149 (by decide)
        · intro h149
          have h149 : (4 : Int) > 0 := h149
          refine g_aload C X7 at_152 rfl rfl ?_
          refine g_iconst C X7 (0 : Int32) at_154 rfl rfl ?_
          refine g_iload C X7 at_155 rfl rfl ?_
          refine g_iastore C X7 at_157 e7 A7_ad2 (by decide) (by decide) rfl ?_
          intro T8 h8_ X8 e8 W8 A8
          have N8 := Fr.snoc X8 N7 g_ad2
          have Z8 : n0 ≤ h8_.size := Nat.le_trans Z7 (Keep.of_wr W8).1
          have A8_ad1 := A7_ad1.other W8 ne_ad1_ad2
          have A8_ad3 := A7.other W8 ne_ad2_ad3.symm
          refine g_iload C X8 at_158 rfl rfl ?_
          refine g_iconst C X8 (1 : Int32) at_160 rfl rfl ?_
          refine g_icmp C X8 at_161 (by decide) rfl rfl ?_ ?_
          · intro h161
            have h161 : (4 : Int) ≤ 1 := h161
            exact absurd h161 (by decide)
          · intro h161
            have h161 : (4 : Int) > 1 := h161
            refine g_aload C X8 at_164 rfl rfl ?_
            refine g_iconst C X8 (1 : Int32) at_166 rfl rfl ?_
            refine g_iload C X8 at_167 rfl rfl ?_
            refine g_iastore C X8 at_169 e8 A8 (by decide) (by decide) rfl ?_
            intro T9 h9_ X9 e9 W9 A9
            have N9 := Fr.snoc X9 N8 g_ad2
            have Z9 : n0 ≤ h9_.size := Nat.le_trans Z8 (Keep.of_wr W9).1
            have A9_ad1 := A8_ad1.other W9 ne_ad1_ad2
            have A9_ad3 := A8_ad3.other W9 ne_ad2_ad3.symm
            refine g_iload C X9 at_170 rfl rfl ?_
            refine g_iconst C X9 (2 : Int32) at_172 rfl rfl ?_
            refine g_icmp C X9 at_173 (by decide) rfl rfl ?_ ?_
            · intro h173
              have h173 : (4 : Int) ≤ 2 := h173
              exact absurd h173 (by decide)
            · intro h173
              have h173 : (4 : Int) > 2 := h173
              refine g_aload C X9 at_176 rfl rfl ?_
              refine g_iconst C X9 (2 : Int32) at_178 rfl rfl ?_
              refine g_iload C X9 at_179 rfl rfl ?_
              refine g_iastore C X9 at_181 e9 A9 (by decide) (by decide) rfl ?_
              intro T10 h10_ X10 e10 W10 A10
              have N10 := Fr.snoc X10 N9 g_ad2
              have Z10 : n0 ≤ h10_.size := Nat.le_trans Z9 (Keep.of_wr W10).1
              have A10_ad1 := A9_ad1.other W10 ne_ad1_ad2
              have A10_ad3 := A9_ad3.other W10 ne_ad2_ad3.symm
              refine g_iload C X10 at_182 rfl rfl ?_
              refine g_iconst C X10 (3 : Int32) at_184 rfl rfl ?_
              refine g_icmp C X10 at_185 (by decide) rfl rfl ?_ ?_
              · intro h185
                have h185 : (4 : Int) ≤ 3 := h185
                exact absurd h185 (by decide)
              · intro h185
                have h185 : (4 : Int) > 3 := h185
                refine g_aload C X10 at_188 rfl rfl ?_
                refine g_iconst C X10 (3 : Int32) at_190 rfl rfl ?_
                refine g_iload C X10 at_191 rfl rfl ?_
                refine g_iastore C X10 at_193 e10 A10 (by decide) (by decide) rfl ?_
                intro T11 h11_ X11 e11 W11 A11
                have N11 := Fr.snoc X11 N10 g_ad2
                have Z11 : n0 ≤ h11_.size := Nat.le_trans Z10 (Keep.of_wr W11).1
                have A11_ad1 := A10_ad1.other W11 ne_ad1_ad2
                have A11_ad3 := A10_ad3.other W11 ne_ad2_ad3.symm
                have AI : Aw Z h11_ ad1 .int 0 (fun j => .int (([] : List Int32).getD j 0)) := Aw.of A11_ad1 (by
                  intro j hj
                  have hj : j < 0 := hj
                  omega)
                have AP : Aw Z h11_ ad2 .int 4 (fun j => .int (([r0, r1, r2, r3] : List Int32).getD j 0)) := Aw.of A11 (by
                  intro j hj
                  have hj : j < 4 := hj
                  have hj : j = 0 ∨ j = 1 ∨ j = 2 ∨ j = 3 := by omega
                  rcases hj with rfl | rfl | rfl | rfl <;> rfl)
                have AR : Aw Z h11_ ad3 .int 4 (fun j => .int (([r0, r1, r2, r3] : List Int32).getD j 0)) := Aw.of A11_ad3 (by
                  intro j hj
                  have hj : j < 4 := hj
                  have hj : j = 0 ∨ j = 1 ∨ j = 2 ∨ j = 3 := by omega
                  rcases hj with rfl | rfl | rfl | rfl <;> rfl)
                exact seg194_0 C X11 e11 N11 Z11 AI AP AR (by decide) (Or.inr (Or.inr (Or.inr (Or.inr (rfl)))))
      · intro h138
        have h138 : (0 : Int) > 2 := h138
        exact absurd h138 (by decide)
    · intro h127
      have h127 : (0 : Int) > 1 := h127
      exact absurd h127 (by decide)
  · intro h116
    have h116 : (0 : Int) > 0 := h116
    exact absurd h116 (by decide)
set_option maxRecDepth 65536 in
set_option maxHeartbeats 40000000 in
theorem fin1 {p : Program} {l : Launch} {e : Env} {s : State} {m : MethodId} {args : Array Value} {below : List Frame} {meth : Method} {c : Code} {T0 : State} {locs : List Loc} {Z : State} {a0 : Array Value} {h0 : Heap} {n0 : Nat} {y0 y1 y2 mm ex x0 x1 x2 r0 r1 r2 r3 : Int32} {ia rp rr : Addr} {M : Nat}
    (C : Cx Z a0 p s m meth c code maxLocals "com/example/ballast/ballast/storage/ClusterCatalogIsInSyncOfPinLaw" "law" ret) (X0 : Stand p l e room_1 s m args below meth c T0 locs 3 11) (e0 : T0.heap = h0) (N0 : Fr n0 locs) (Z0 : n0 ≤ h0.size) (AI : Aw Z h0 ia .int 1 (fun j => .int (([x0] : List Int32).getD j 0))) (AP : Aw Z h0 rp .int M (fun j => .int (([r0, r1, r2, r3] : List Int32).getD j 0))) (AR : Aw Z h0 rr .int 4 (fun j => .int (([r0, r1, r2, r3] : List Int32).getD j 0))) (hM : mm.toInt = M) (hm : mm = (0 : Int32) ∨ mm = (1 : Int32) ∨ mm = (2 : Int32) ∨ mm = (3 : Int32) ∨ mm = (4 : Int32)) (hex : ex = 1 ∧ ((0 < mm.toInt ∧ r0.toInt = x0.toInt) ∨ (1 < mm.toInt ∧ r1.toInt = x0.toInt) ∨ (2 < mm.toInt ∧ r2.toInt = x0.toInt) ∨ (3 < mm.toInt ∧ r3.toInt = x0.toInt)) ∨ ex = 0 ∧ ¬ ((0 < mm.toInt ∧ r0.toInt = x0.toInt) ∨ (1 < mm.toInt ∧ r1.toInt = x0.toInt) ∨ (2 < mm.toInt ∧ r2.toInt = x0.toInt) ∨ (3 < mm.toInt ∧ r3.toInt = x0.toInt))) :
    Go p e below s m (LQ n0) room_1.cells room_1.slots T0 605 #[.val (.int y0), .val (.int y1), .val (.int y2), .val (.int (1 : Int32)), .val (.int mm), .val (.int x0), .val (.int x1), .val (.int x2), .val (.int r0), .val (.int r1), .val (.int r2), .val (.int r3), .val (.ref ia), .val (.ref rp), .val (.ref rr), .val (.int ex)] [] := by
  rcases hm with rfl | rfl | rfl | rfl | rfl
  · skip
    rw [show (0 : Int32).toInt = 0 by decide] at hM hex
    obtain rfl : M = 0 := by omega
    refine g_aload C X0 at_605 rfl rfl ?_
    refine g_aload C X0 at_607 rfl rfl ?_
    refine g_callS (argsL := [(.ref ia), (.ref rp)]) (rest := []) (W := 0) C X0 at_609 e0 (C.t 5 rfl) (C.t 6 rfl) (C.t 7 rfl) (C.t 8 rfl) (sy1_0 l Z a0 C.w [] ia rp x0 x1 x2 r0 r1 r2 r3 h0 n0 Z0 AI AP) (by decide) pd_2 rfl rfl rfl (Nat.le_of_eq rfl) (by decide) (by decide) (by decide) (by decide) rfl ?_
    intro T1 v1_ L1 X1 hQ1
    obtain ⟨⟨r, rfl, hr⟩, N1q, hh1⟩ := hQ1
    have N1 := Fr.app N0 N1q
    have hsame : r = ex := by
      rcases hr with ⟨rfl, u⟩ | ⟨rfl, u⟩ <;> rcases hex with ⟨rfl, v⟩ | ⟨rfl, v⟩
      · rfl
      · exfalso; exact u
      · exfalso; omega
      · rfl
    refine g_iload C X1 at_612 rfl rfl ?_
    refine g_icmp C X1 at_614 (by decide) rfl rfl ?_ ?_
    · intro h614
      have h614 : ¬ r.toInt = ex.toInt := h614
      exact absurd (congrArg Int32.toInt hsame) h614
    · intro h614
      have h614 : r.toInt = ex.toInt := h614
      refine g_iconst C X1 (1 : Int32) at_617 rfl rfl ?_
      refine g_goto C X1 at_618 (by decide) rfl ?_
      exact g_ireturnN C X1 at_622 rfl (Or.inl rfl) ⟨rfl, N1⟩ (by decide) (by decide)
  · skip
    rw [show (1 : Int32).toInt = 1 by decide] at hM hex
    obtain rfl : M = 1 := by omega
    refine g_aload C X0 at_605 rfl rfl ?_
    refine g_aload C X0 at_607 rfl rfl ?_
    refine g_callS (argsL := [(.ref ia), (.ref rp)]) (rest := []) (W := 0) C X0 at_609 e0 (C.t 5 rfl) (C.t 6 rfl) (C.t 7 rfl) (C.t 8 rfl) (sy1_1 l Z a0 C.w [] ia rp x0 x1 x2 r0 r1 r2 r3 h0 n0 Z0 AI AP) (by decide) pd_2 rfl rfl rfl (Nat.le_of_eq rfl) (by decide) (by decide) (by decide) (by decide) rfl ?_
    intro T2 v2_ L2 X2 hQ2
    obtain ⟨⟨r, rfl, hr⟩, N2q, hh2⟩ := hQ2
    have N2 := Fr.app N0 N2q
    have hsame : r = ex := by
      rcases hr with ⟨rfl, u⟩ | ⟨rfl, u⟩ <;> rcases hex with ⟨rfl, v⟩ | ⟨rfl, v⟩
      · rfl
      · exfalso; omega
      · exfalso; omega
      · rfl
    refine g_iload C X2 at_612 rfl rfl ?_
    refine g_icmp C X2 at_614 (by decide) rfl rfl ?_ ?_
    · intro h614
      have h614 : ¬ r.toInt = ex.toInt := h614
      exact absurd (congrArg Int32.toInt hsame) h614
    · intro h614
      have h614 : r.toInt = ex.toInt := h614
      refine g_iconst C X2 (1 : Int32) at_617 rfl rfl ?_
      refine g_goto C X2 at_618 (by decide) rfl ?_
      exact g_ireturnN C X2 at_622 rfl (Or.inl rfl) ⟨rfl, N2⟩ (by decide) (by decide)
  · skip
    rw [show (2 : Int32).toInt = 2 by decide] at hM hex
    obtain rfl : M = 2 := by omega
    refine g_aload C X0 at_605 rfl rfl ?_
    refine g_aload C X0 at_607 rfl rfl ?_
    refine g_callS (argsL := [(.ref ia), (.ref rp)]) (rest := []) (W := 0) C X0 at_609 e0 (C.t 5 rfl) (C.t 6 rfl) (C.t 7 rfl) (C.t 8 rfl) (sy1_2 l Z a0 C.w [] ia rp x0 x1 x2 r0 r1 r2 r3 h0 n0 Z0 AI AP) (by decide) pd_2 rfl rfl rfl (Nat.le_of_eq rfl) (by decide) (by decide) (by decide) (by decide) rfl ?_
    intro T3 v3_ L3 X3 hQ3
    obtain ⟨⟨r, rfl, hr⟩, N3q, hh3⟩ := hQ3
    have N3 := Fr.app N0 N3q
    have hsame : r = ex := by
      rcases hr with ⟨rfl, u⟩ | ⟨rfl, u⟩ <;> rcases hex with ⟨rfl, v⟩ | ⟨rfl, v⟩
      · rfl
      · exfalso; omega
      · exfalso; omega
      · rfl
    refine g_iload C X3 at_612 rfl rfl ?_
    refine g_icmp C X3 at_614 (by decide) rfl rfl ?_ ?_
    · intro h614
      have h614 : ¬ r.toInt = ex.toInt := h614
      exact absurd (congrArg Int32.toInt hsame) h614
    · intro h614
      have h614 : r.toInt = ex.toInt := h614
      refine g_iconst C X3 (1 : Int32) at_617 rfl rfl ?_
      refine g_goto C X3 at_618 (by decide) rfl ?_
      exact g_ireturnN C X3 at_622 rfl (Or.inl rfl) ⟨rfl, N3⟩ (by decide) (by decide)
  · skip
    rw [show (3 : Int32).toInt = 3 by decide] at hM hex
    obtain rfl : M = 3 := by omega
    refine g_aload C X0 at_605 rfl rfl ?_
    refine g_aload C X0 at_607 rfl rfl ?_
    refine g_callS (argsL := [(.ref ia), (.ref rp)]) (rest := []) (W := 0) C X0 at_609 e0 (C.t 5 rfl) (C.t 6 rfl) (C.t 7 rfl) (C.t 8 rfl) (sy1_3 l Z a0 C.w [] ia rp x0 x1 x2 r0 r1 r2 r3 h0 n0 Z0 AI AP) (by decide) pd_2 rfl rfl rfl (Nat.le_of_eq rfl) (by decide) (by decide) (by decide) (by decide) rfl ?_
    intro T4 v4_ L4 X4 hQ4
    obtain ⟨⟨r, rfl, hr⟩, N4q, hh4⟩ := hQ4
    have N4 := Fr.app N0 N4q
    have hsame : r = ex := by
      rcases hr with ⟨rfl, u⟩ | ⟨rfl, u⟩ <;> rcases hex with ⟨rfl, v⟩ | ⟨rfl, v⟩
      · rfl
      · exfalso; omega
      · exfalso; omega
      · rfl
    refine g_iload C X4 at_612 rfl rfl ?_
    refine g_icmp C X4 at_614 (by decide) rfl rfl ?_ ?_
    · intro h614
      have h614 : ¬ r.toInt = ex.toInt := h614
      exact absurd (congrArg Int32.toInt hsame) h614
    · intro h614
      have h614 : r.toInt = ex.toInt := h614
      refine g_iconst C X4 (1 : Int32) at_617 rfl rfl ?_
      refine g_goto C X4 at_618 (by decide) rfl ?_
      exact g_ireturnN C X4 at_622 rfl (Or.inl rfl) ⟨rfl, N4⟩ (by decide) (by decide)
  · skip
    rw [show (4 : Int32).toInt = 4 by decide] at hM hex
    obtain rfl : M = 4 := by omega
    refine g_aload C X0 at_605 rfl rfl ?_
    refine g_aload C X0 at_607 rfl rfl ?_
    refine g_callS (argsL := [(.ref ia), (.ref rp)]) (rest := []) (W := 0) C X0 at_609 e0 (C.t 5 rfl) (C.t 6 rfl) (C.t 7 rfl) (C.t 8 rfl) (sy1_4 l Z a0 C.w [] ia rp x0 x1 x2 r0 r1 r2 r3 h0 n0 Z0 AI AP) (by decide) pd_2 rfl rfl rfl (Nat.le_of_eq rfl) (by decide) (by decide) (by decide) (by decide) rfl ?_
    intro T5 v5_ L5 X5 hQ5
    obtain ⟨⟨r, rfl, hr⟩, N5q, hh5⟩ := hQ5
    have N5 := Fr.app N0 N5q
    have hsame : r = ex := by
      rcases hr with ⟨rfl, u⟩ | ⟨rfl, u⟩ <;> rcases hex with ⟨rfl, v⟩ | ⟨rfl, v⟩
      · rfl
      · exfalso; omega
      · exfalso; omega
      · rfl
    refine g_iload C X5 at_612 rfl rfl ?_
    refine g_icmp C X5 at_614 (by decide) rfl rfl ?_ ?_
    · intro h614
      have h614 : ¬ r.toInt = ex.toInt := h614
      exact absurd (congrArg Int32.toInt hsame) h614
    · intro h614
      have h614 : r.toInt = ex.toInt := h614
      refine g_iconst C X5 (1 : Int32) at_617 rfl rfl ?_
      refine g_goto C X5 at_618 (by decide) rfl ?_
      exact g_ireturnN C X5 at_622 rfl (Or.inl rfl) ⟨rfl, N5⟩ (by decide) (by decide)
set_option maxRecDepth 65536 in
set_option maxHeartbeats 40000000 in
theorem blk1_0 {p : Program} {l : Launch} {e : Env} {s : State} {m : MethodId} {args : Array Value} {below : List Frame} {meth : Method} {c : Code} {T0 : State} {locs : List Loc} {Z : State} {a0 : Array Value} {h0 : Heap} {n0 : Nat} {y0 y1 y2 mm x0 x1 x2 r0 r1 r2 r3 : Int32} {ia rp rr : Addr} {M : Nat}
    (C : Cx Z a0 p s m meth c code maxLocals "com/example/ballast/ballast/storage/ClusterCatalogIsInSyncOfPinLaw" "law" ret) (X0 : Stand p l e room_1 s m args below meth c T0 locs 3 11) (e0 : T0.heap = h0) (N0 : Fr n0 locs) (Z0 : n0 ≤ h0.size) (AI : Aw Z h0 ia .int 1 (fun j => .int (([x0] : List Int32).getD j 0))) (AP : Aw Z h0 rp .int M (fun j => .int (([r0, r1, r2, r3] : List Int32).getD j 0))) (AR : Aw Z h0 rr .int 4 (fun j => .int (([r0, r1, r2, r3] : List Int32).getD j 0))) (hM : mm.toInt = M) (hm : mm = (0 : Int32) ∨ mm = (1 : Int32) ∨ mm = (2 : Int32) ∨ mm = (3 : Int32) ∨ mm = (4 : Int32))  :
    Go p e below s m (LQ n0) room_1.cells room_1.slots T0 209 #[.val (.int y0), .val (.int y1), .val (.int y2), .val (.int (1 : Int32)), .val (.int mm), .val (.int x0), .val (.int x1), .val (.int x2), .val (.int r0), .val (.int r1), .val (.int r2), .val (.int r3), .val (.ref ia), .val (.ref rp), .val (.ref rr), .unset] [] := by
  refine g_aload C X0 at_209 rfl rfl ?_
  refine g_iload C X0 at_211 rfl rfl ?_
  refine g_iconst C X0 (0 : Int32) at_213 rfl rfl ?_
  refine g_iload C X0 at_214 rfl rfl ?_
  refine g_callS (argsL := [(.ref rr), (.int mm), (.int (0 : Int32)), (.int x0)]) (rest := []) (W := 0) C X0 at_216 e0 (C.t 1 rfl) (C.t 2 rfl) (C.t 3 rfl) (C.t 4 rfl) (rm1 l Z a0 C.w [] rr mm (0 : Int32) x0 (fun j => ([r0, r1, r2, r3] : List Int32).getD j 0) h0 n0 Z0 AR (by decide) (by decide)) (by decide) pd_1 rfl rfl rfl (Nat.le_of_eq rfl) (by decide) (by decide) (by decide) (by decide) rfl ?_
  intro T1 v1_ L1 X1 hQ1
  obtain ⟨⟨q1, rfl, hq1⟩, N1q, hh1⟩ := hQ1
  have N1 := Fr.app N0 N1q
  have hq1 : (q1 = 1 ∧ (0 < mm.toInt ∧ r0.toInt = x0.toInt) ∨ q1 = 0 ∧ ¬ (0 < mm.toInt ∧ r0.toInt = x0.toInt)) := hq1
  rcases hq1 with ⟨rfl, u1⟩ | ⟨rfl, u1⟩
  · skip
    refine g_if C X1 at_219 (by decide) rfl rfl ?_ ?_
    · intro h219
      have h219 : ¬ (1 : Int) = 0 := h219
      refine g_iconst C X1 (1 : Int32) at_261 rfl rfl ?_
      refine g_goto C X1 at_262 (by decide) rfl ?_
      refine g_istore C X1 at_266 #[.val (.int y0), .val (.int y1), .val (.int y2), .val (.int (1 : Int32)), .val (.int mm), .val (.int x0), .val (.int x1), .val (.int x2), .val (.int r0), .val (.int r1), .val (.int r2), .val (.int r3), .val (.ref ia), .val (.ref rp), .val (.ref rr), .val (.int (1 : Int32))] rfl rfl ?_
      refine g_goto C X1 at_268 (by decide) rfl ?_
      exact fin1 C X1 hh1 N1 Z0 AI AP AR hM hm (Or.inl ⟨rfl, by omega⟩)
    · intro h219
      have h219 : (1 : Int) = 0 := h219
      exact absurd h219 (by decide)
  · skip
    refine g_if C X1 at_219 (by decide) rfl rfl ?_ ?_
    · intro h219
      have h219 : ¬ (0 : Int) = 0 := h219
      exact absurd h219 (by decide)
    · intro h219
      have h219 : (0 : Int) = 0 := h219
      refine g_aload C X1 at_222 rfl rfl ?_
      refine g_iload C X1 at_224 rfl rfl ?_
      refine g_iconst C X1 (1 : Int32) at_226 rfl rfl ?_
      refine g_iload C X1 at_227 rfl rfl ?_
      refine g_callS (argsL := [(.ref rr), (.int mm), (.int (1 : Int32)), (.int x0)]) (rest := []) (W := 0) C X1 at_229 hh1 (C.t 1 rfl) (C.t 2 rfl) (C.t 3 rfl) (C.t 4 rfl) (rm1 l Z a0 C.w [] rr mm (1 : Int32) x0 (fun j => ([r0, r1, r2, r3] : List Int32).getD j 0) h0 n0 Z0 AR (by decide) (by decide)) (by decide) pd_1 rfl rfl rfl (Nat.le_of_eq rfl) (by decide) (by decide) (by decide) (by decide) rfl ?_
      intro T2 v2_ L2 X2 hQ2
      obtain ⟨⟨q2, rfl, hq2⟩, N2q, hh2⟩ := hQ2
      have N2 := Fr.app N1 N2q
      have hq2 : (q2 = 1 ∧ (1 < mm.toInt ∧ r1.toInt = x0.toInt) ∨ q2 = 0 ∧ ¬ (1 < mm.toInt ∧ r1.toInt = x0.toInt)) := hq2
      rcases hq2 with ⟨rfl, u2⟩ | ⟨rfl, u2⟩
      · skip
        refine g_if C X2 at_232 (by decide) rfl rfl ?_ ?_
        · intro h232
          have h232 : ¬ (1 : Int) = 0 := h232
          refine g_iconst C X2 (1 : Int32) at_261 rfl rfl ?_
          refine g_goto C X2 at_262 (by decide) rfl ?_
          refine g_istore C X2 at_266 #[.val (.int y0), .val (.int y1), .val (.int y2), .val (.int (1 : Int32)), .val (.int mm), .val (.int x0), .val (.int x1), .val (.int x2), .val (.int r0), .val (.int r1), .val (.int r2), .val (.int r3), .val (.ref ia), .val (.ref rp), .val (.ref rr), .val (.int (1 : Int32))] rfl rfl ?_
          refine g_goto C X2 at_268 (by decide) rfl ?_
          exact fin1 C X2 hh2 N2 Z0 AI AP AR hM hm (Or.inl ⟨rfl, by omega⟩)
        · intro h232
          have h232 : (1 : Int) = 0 := h232
          exact absurd h232 (by decide)
      · skip
        refine g_if C X2 at_232 (by decide) rfl rfl ?_ ?_
        · intro h232
          have h232 : ¬ (0 : Int) = 0 := h232
          exact absurd h232 (by decide)
        · intro h232
          have h232 : (0 : Int) = 0 := h232
          refine g_aload C X2 at_235 rfl rfl ?_
          refine g_iload C X2 at_237 rfl rfl ?_
          refine g_iconst C X2 (2 : Int32) at_239 rfl rfl ?_
          refine g_iload C X2 at_240 rfl rfl ?_
          refine g_callS (argsL := [(.ref rr), (.int mm), (.int (2 : Int32)), (.int x0)]) (rest := []) (W := 0) C X2 at_242 hh2 (C.t 1 rfl) (C.t 2 rfl) (C.t 3 rfl) (C.t 4 rfl) (rm1 l Z a0 C.w [] rr mm (2 : Int32) x0 (fun j => ([r0, r1, r2, r3] : List Int32).getD j 0) h0 n0 Z0 AR (by decide) (by decide)) (by decide) pd_1 rfl rfl rfl (Nat.le_of_eq rfl) (by decide) (by decide) (by decide) (by decide) rfl ?_
          intro T3 v3_ L3 X3 hQ3
          obtain ⟨⟨q3, rfl, hq3⟩, N3q, hh3⟩ := hQ3
          have N3 := Fr.app N2 N3q
          have hq3 : (q3 = 1 ∧ (2 < mm.toInt ∧ r2.toInt = x0.toInt) ∨ q3 = 0 ∧ ¬ (2 < mm.toInt ∧ r2.toInt = x0.toInt)) := hq3
          rcases hq3 with ⟨rfl, u3⟩ | ⟨rfl, u3⟩
          · skip
            refine g_if C X3 at_245 (by decide) rfl rfl ?_ ?_
            · intro h245
              have h245 : ¬ (1 : Int) = 0 := h245
              refine g_iconst C X3 (1 : Int32) at_261 rfl rfl ?_
              refine g_goto C X3 at_262 (by decide) rfl ?_
              refine g_istore C X3 at_266 #[.val (.int y0), .val (.int y1), .val (.int y2), .val (.int (1 : Int32)), .val (.int mm), .val (.int x0), .val (.int x1), .val (.int x2), .val (.int r0), .val (.int r1), .val (.int r2), .val (.int r3), .val (.ref ia), .val (.ref rp), .val (.ref rr), .val (.int (1 : Int32))] rfl rfl ?_
              refine g_goto C X3 at_268 (by decide) rfl ?_
              exact fin1 C X3 hh3 N3 Z0 AI AP AR hM hm (Or.inl ⟨rfl, by omega⟩)
            · intro h245
              have h245 : (1 : Int) = 0 := h245
              exact absurd h245 (by decide)
          · skip
            refine g_if C X3 at_245 (by decide) rfl rfl ?_ ?_
            · intro h245
              have h245 : ¬ (0 : Int) = 0 := h245
              exact absurd h245 (by decide)
            · intro h245
              have h245 : (0 : Int) = 0 := h245
              refine g_aload C X3 at_248 rfl rfl ?_
              refine g_iload C X3 at_250 rfl rfl ?_
              refine g_iconst C X3 (3 : Int32) at_252 rfl rfl ?_
              refine g_iload C X3 at_253 rfl rfl ?_
              refine g_callS (argsL := [(.ref rr), (.int mm), (.int (3 : Int32)), (.int x0)]) (rest := []) (W := 0) C X3 at_255 hh3 (C.t 1 rfl) (C.t 2 rfl) (C.t 3 rfl) (C.t 4 rfl) (rm1 l Z a0 C.w [] rr mm (3 : Int32) x0 (fun j => ([r0, r1, r2, r3] : List Int32).getD j 0) h0 n0 Z0 AR (by decide) (by decide)) (by decide) pd_1 rfl rfl rfl (Nat.le_of_eq rfl) (by decide) (by decide) (by decide) (by decide) rfl ?_
              intro T4 v4_ L4 X4 hQ4
              obtain ⟨⟨q4, rfl, hq4⟩, N4q, hh4⟩ := hQ4
              have N4 := Fr.app N3 N4q
              have hq4 : (q4 = 1 ∧ (3 < mm.toInt ∧ r3.toInt = x0.toInt) ∨ q4 = 0 ∧ ¬ (3 < mm.toInt ∧ r3.toInt = x0.toInt)) := hq4
              rcases hq4 with ⟨rfl, u4⟩ | ⟨rfl, u4⟩
              · skip
                refine g_if C X4 at_258 (by decide) rfl rfl ?_ ?_
                · intro h258
                  have h258 : (1 : Int) = 0 := h258
                  exact absurd h258 (by decide)
                · intro h258
                  have h258 : ¬ (1 : Int) = 0 := h258
                  refine g_iconst C X4 (1 : Int32) at_261 rfl rfl ?_
                  refine g_goto C X4 at_262 (by decide) rfl ?_
                  refine g_istore C X4 at_266 #[.val (.int y0), .val (.int y1), .val (.int y2), .val (.int (1 : Int32)), .val (.int mm), .val (.int x0), .val (.int x1), .val (.int x2), .val (.int r0), .val (.int r1), .val (.int r2), .val (.int r3), .val (.ref ia), .val (.ref rp), .val (.ref rr), .val (.int (1 : Int32))] rfl rfl ?_
                  refine g_goto C X4 at_268 (by decide) rfl ?_
                  exact fin1 C X4 hh4 N4 Z0 AI AP AR hM hm (Or.inl ⟨rfl, by omega⟩)
              · skip
                refine g_if C X4 at_258 (by decide) rfl rfl ?_ ?_
                · intro h258
                  have h258 : (0 : Int) = 0 := h258
                  refine g_iconst C X4 (0 : Int32) at_265 rfl rfl ?_
                  refine g_istore C X4 at_266 #[.val (.int y0), .val (.int y1), .val (.int y2), .val (.int (1 : Int32)), .val (.int mm), .val (.int x0), .val (.int x1), .val (.int x2), .val (.int r0), .val (.int r1), .val (.int r2), .val (.int r3), .val (.ref ia), .val (.ref rp), .val (.ref rr), .val (.int (0 : Int32))] rfl rfl ?_
                  refine g_goto C X4 at_268 (by decide) rfl ?_
                  exact fin1 C X4 hh4 N4 Z0 AI AP AR hM hm (Or.inr ⟨rfl, by omega⟩)
                · intro h258
                  have h258 : ¬ (0 : Int) = 0 := h258
                  exact absurd h258 (by decide)
set_option maxRecDepth 65536 in
set_option maxHeartbeats 40000000 in
theorem seg194_1 {p : Program} {l : Launch} {e : Env} {s : State} {m : MethodId} {args : Array Value} {below : List Frame} {meth : Method} {c : Code} {T0 : State} {locs : List Loc} {Z : State} {a0 : Array Value} {h0 : Heap} {n0 : Nat} {y0 y1 y2 mm x0 x1 x2 r0 r1 r2 r3 : Int32} {ia rp rr : Addr} {M : Nat}
    (C : Cx Z a0 p s m meth c code maxLocals "com/example/ballast/ballast/storage/ClusterCatalogIsInSyncOfPinLaw" "law" ret) (X0 : Stand p l e room_1 s m args below meth c T0 locs 3 11) (e0 : T0.heap = h0) (N0 : Fr n0 locs) (Z0 : n0 ≤ h0.size) (AI : Aw Z h0 ia .int 1 (fun j => .int (([x0] : List Int32).getD j 0))) (AP : Aw Z h0 rp .int M (fun j => .int (([r0, r1, r2, r3] : List Int32).getD j 0))) (AR : Aw Z h0 rr .int 4 (fun j => .int (([r0, r1, r2, r3] : List Int32).getD j 0))) (hM : mm.toInt = M) (hm : mm = (0 : Int32) ∨ mm = (1 : Int32) ∨ mm = (2 : Int32) ∨ mm = (3 : Int32) ∨ mm = (4 : Int32)) :
    Go p e below s m (LQ n0) room_1.cells room_1.slots T0 194 #[.val (.int y0), .val (.int y1), .val (.int y2), .val (.int (1 : Int32)), .val (.int mm), .val (.int x0), .val (.int x1), .val (.int x2), .val (.int r0), .val (.int r1), .val (.int r2), .val (.int r3), .val (.ref ia), .val (.ref rp), .val (.ref rr), .unset] [] := by
  refine g_iloadN C X0 at_194 rfl rfl ?_
  refine g_if C X0 at_195 (by decide) rfl rfl ?_ ?_
  · intro h195
    have h195 : ¬ (1 : Int) = 0 := h195
    refine g_iloadN C X0 at_204 rfl rfl ?_
    refine g_iconst C X0 (1 : Int32) at_205 rfl rfl ?_
    refine g_icmp C X0 at_206 (by decide) rfl rfl ?_ ?_
    · intro h206
      have h206 : ¬ (1 : Int) = 1 := h206
      exact absurd h206 (by decide)
    · intro h206
      have h206 : (1 : Int) = 1 := h206
      exact blk1_0 C X0 e0 N0 Z0 AI AP AR hM hm
  · intro h195
    have h195 : (1 : Int) = 0 := h195
    exact absurd h195 (by decide)
set_option maxRecDepth 65536 in
set_option maxHeartbeats 40000000 in
theorem seg79_1_0 {p : Program} {l : Launch} {e : Env} {s : State} {m : MethodId} {args : Array Value} {below : List Frame} {meth : Method} {c : Code} {T0 : State} {locs : List Loc} {Z : State} {a0 : Array Value} {h0 : Heap} {n0 : Nat} {y0 y1 y2 x0 x1 x2 r0 r1 r2 r3 : Int32}
    (C : Cx Z a0 p s m meth c code maxLocals "com/example/ballast/ballast/storage/ClusterCatalogIsInSyncOfPinLaw" "law" ret) (X0 : Stand p l e room_1 s m args below meth c T0 locs 0 0) (e0 : T0.heap = h0) (N0 : Fr n0 locs) (Z0 : n0 ≤ h0.size)  :
    Go p e below s m (LQ n0) room_1.cells room_1.slots T0 79 #[.val (.int y0), .val (.int y1), .val (.int y2), .val (.int (1 : Int32)), .val (.int (0 : Int32)), .val (.int x0), .val (.int x1), .val (.int x2), .val (.int r0), .val (.int r1), .val (.int r2), .val (.int r3), .unset, .unset, .unset, .unset] [] := by
  refine g_iloadN C X0 at_79 rfl rfl ?_
  refine g_newarray (cap := 3) C X0 at_80 e0 (C.t 0 rfl) (by decide) (by decide) (by decide) (by decide) (by decide) rfl ?_
  intro T1 h1_ X1 e1 E1 lt1 ad1 ha1 A1
  have Z1 : n0 ≤ h1_.size := Nat.le_trans Z0 E1.1
  have g_ad1 : n0 ≤ ad1 := by omega
  refine g_astore C X1 at_82 #[.val (.int y0), .val (.int y1), .val (.int y2), .val (.int (1 : Int32)), .val (.int (0 : Int32)), .val (.int x0), .val (.int x1), .val (.int x2), .val (.int r0), .val (.int r1), .val (.int r2), .val (.int r3), .val (.ref ad1), .unset, .unset, .unset] rfl rfl ?_
  refine g_iload C X1 at_84 rfl rfl ?_
  refine g_newarray (cap := 4) C X1 at_86 e1 (C.t 0 rfl) (by decide) (by decide) (by decide) (by decide) (by decide) rfl ?_
  intro T2 h2_ X2 e2 E2 lt2 ad2 ha2 A2
  have Z2 : n0 ≤ h2_.size := Nat.le_trans Z1 E2.1
  have ne_ad1_ad2 : ad1 ≠ ad2 := Nat.ne_of_lt (Nat.lt_of_lt_of_eq A1.lt ha2.symm)
  have A2_ad1 := A1.ext E2
  have g_ad2 : n0 ≤ ad2 := by omega
  refine g_astore C X2 at_88 #[.val (.int y0), .val (.int y1), .val (.int y2), .val (.int (1 : Int32)), .val (.int (0 : Int32)), .val (.int x0), .val (.int x1), .val (.int x2), .val (.int r0), .val (.int r1), .val (.int r2), .val (.int r3), .val (.ref ad1), .val (.ref ad2), .unset, .unset] rfl rfl ?_
  refine g_iconst C X2 (4 : Int32) at_90 rfl rfl ?_
  refine g_newarray (cap := 4) C X2 at_91 e2 (C.t 0 rfl) (by decide) (by decide) (by decide) (by decide) (by decide) rfl ?_
  intro T3 h3_ X3 e3 E3 lt3 ad3 ha3 A3
  have Z3 : n0 ≤ h3_.size := Nat.le_trans Z2 E3.1
  have ne_ad1_ad3 : ad1 ≠ ad3 := Nat.ne_of_lt (Nat.lt_of_lt_of_eq A2_ad1.lt ha3.symm)
  have A3_ad1 := A2_ad1.ext E3
  have ne_ad2_ad3 : ad2 ≠ ad3 := Nat.ne_of_lt (Nat.lt_of_lt_of_eq A2.lt ha3.symm)
  have A3_ad2 := A2.ext E3
  have g_ad3 : n0 ≤ ad3 := by omega
  refine g_dup C X3 at_93 rfl rfl ?_
  refine g_iconst C X3 (0 : Int32) at_94 rfl rfl ?_
  refine g_iload C X3 at_95 rfl rfl ?_
  refine g_iastore C X3 at_97 e3 A3 (by decide) (by decide) rfl ?_
  intro T4 h4_ X4 e4 W4 A4
  have N4 := Fr.snoc X4 N0 g_ad3
  have Z4 : n0 ≤ h4_.size := Nat.le_trans Z3 (Keep.of_wr W4).1
  have A4_ad1 := A3_ad1.other W4 ne_ad1_ad3
  have A4_ad2 := A3_ad2.other W4 ne_ad2_ad3
  refine g_dup C X4 at_98 rfl rfl ?_
  refine g_iconst C X4 (1 : Int32) at_99 rfl rfl ?_
  refine g_iload C X4 at_100 rfl rfl ?_
  refine g_iastore C X4 at_102 e4 A4 (by decide) (by decide) rfl ?_
  intro T5 h5_ X5 e5 W5 A5
  have N5 := Fr.snoc X5 N4 g_ad3
  have Z5 : n0 ≤ h5_.size := Nat.le_trans Z4 (Keep.of_wr W5).1
  have A5_ad1 := A4_ad1.other W5 ne_ad1_ad3
  have A5_ad2 := A4_ad2.other W5 ne_ad2_ad3
  refine g_dup C X5 at_103 rfl rfl ?_
  refine g_iconst C X5 (2 : Int32) at_104 rfl rfl ?_
  refine g_iload C X5 at_105 rfl rfl ?_
  refine g_iastore C X5 at_107 e5 A5 (by decide) (by decide) rfl ?_
  intro T6 h6_ X6 e6 W6 A6
  have N6 := Fr.snoc X6 N5 g_ad3
  have Z6 : n0 ≤ h6_.size := Nat.le_trans Z5 (Keep.of_wr W6).1
  have A6_ad1 := A5_ad1.other W6 ne_ad1_ad3
  have A6_ad2 := A5_ad2.other W6 ne_ad2_ad3
  refine g_dup C X6 at_108 rfl rfl ?_
  refine g_iconst C X6 (3 : Int32) at_109 rfl rfl ?_
  refine g_iload C X6 at_110 rfl rfl ?_
  refine g_iastore C X6 at_112 e6 A6 (by decide) (by decide) rfl ?_
  intro T7 h7_ X7 e7 W7 A7
  have N7 := Fr.snoc X7 N6 g_ad3
  have Z7 : n0 ≤ h7_.size := Nat.le_trans Z6 (Keep.of_wr W7).1
  have A7_ad1 := A6_ad1.other W7 ne_ad1_ad3
  have A7_ad2 := A6_ad2.other W7 ne_ad2_ad3
  refine g_astore C X7 at_113 #[.val (.int y0), .val (.int y1), .val (.int y2), .val (.int (1 : Int32)), .val (.int (0 : Int32)), .val (.int x0), .val (.int x1), .val (.int x2), .val (.int r0), .val (.int r1), .val (.int r2), .val (.int r3), .val (.ref ad1), .val (.ref ad2), .val (.ref ad3), .unset] rfl rfl ?_
  refine g_iloadN C X7 at_115 rfl rfl ?_
  refine g_if C X7 at_116 (by decide) rfl rfl ?_ ?_
  · intro h116
    have h116 : (1 : Int) ≤ 0 := h116
    exact absurd h116 (by decide)
  · intro h116
    have h116 : (1 : Int) > 0 := h116
    refine g_aload C X7 at_119 rfl rfl ?_
    refine g_iconst C X7 (0 : Int32) at_121 rfl rfl ?_
    refine g_iload C X7 at_122 rfl rfl ?_
    refine g_iastore C X7 at_124 e7 A7_ad1 (by decide) (by decide) rfl ?_
    intro T8 h8_ X8 e8 W8 A8
    have N8 := Fr.snoc X8 N7 g_ad1
    have Z8 : n0 ≤ h8_.size := Nat.le_trans Z7 (Keep.of_wr W8).1
    have A8_ad2 := A7_ad2.other W8 ne_ad1_ad2.symm
    have A8_ad3 := A7.other W8 ne_ad1_ad3.symm
    refine g_iloadN C X8 at_125 rfl rfl ?_
    refine g_iconst C X8 (1 : Int32) at_126 rfl rfl ?_
    refine g_icmp C X8 at_127 (by decide) rfl rfl ?_ ?_
    · intro h127
      have h127 : (1 : Int) ≤ 1 := h127
      refine g_iloadN C X8 at_136 rfl rfl ?_
      refine g_iconst C X8 (2 : Int32) at_137 rfl rfl ?_
      refine g_icmp C X8 at_138 (by decide) rfl rfl ?_ ?_
      · intro h138
        have h138 : (1 : Int) ≤ 2 := h138
        refine g_iload C X8 at_147 rfl rfl ?_
        refine g_if C X8 at_149 (by decide) rfl rfl ?_ ?_
        · intro h149
          have h149 : (0 : Int) ≤ 0 := h149
          refine g_iload C X8 at_158 rfl rfl ?_
          refine g_iconst C X8 (1 : Int32) at_160 rfl rfl ?_
          refine g_icmp C X8 at_161 (by decide) rfl rfl ?_ ?_
          · intro h161
            have h161 : (0 : Int) ≤ 1 := h161
            refine g_iload C X8 at_170 rfl rfl ?_
            refine g_iconst C X8 (2 : Int32) at_172 rfl rfl ?_
            refine g_icmp C X8 at_173 (by decide) rfl rfl ?_ ?_
            · intro h173
              have h173 : (0 : Int) ≤ 2 := h173
              refine g_iload C X8 at_182 rfl rfl ?_
              refine g_iconst C X8 (3 : Int32) at_184 rfl rfl ?_
              refine g_icmp C X8 at_185 (by decide) rfl rfl ?_ ?_
              · intro h185
                have h185 : (0 : Int) ≤ 3 := h185
                have AI : Aw Z h8_ ad1 .int 1 (fun j => .int (([x0] : List Int32).getD j 0)) := Aw.of A8 (by
                  intro j hj
                  have hj : j < 1 := hj
                  have hj : j = 0 := by omega
                  rcases hj with rfl <;> rfl)
                have AP : Aw Z h8_ ad2 .int 0 (fun j => .int (([r0, r1, r2, r3] : List Int32).getD j 0)) := Aw.of A8_ad2 (by
                  intro j hj
                  have hj : j < 0 := hj
                  omega)
                have AR : Aw Z h8_ ad3 .int 4 (fun j => .int (([r0, r1, r2, r3] : List Int32).getD j 0)) := Aw.of A8_ad3 (by
                  intro j hj
                  have hj : j < 4 := hj
                  have hj : j = 0 ∨ j = 1 ∨ j = 2 ∨ j = 3 := by omega
                  rcases hj with rfl | rfl | rfl | rfl <;> rfl)
                exact seg194_1 C X8 e8 N8 Z8 AI AP AR (by decide) (Or.inl rfl)
              · intro h185
                have h185 : (0 : Int) > 3 := h185
                exact absurd h185 (by decide)
            · intro h173
              have h173 : (0 : Int) > 2 := h173
              exact absurd h173 (by decide)
          · intro h161
            have h161 : (0 : Int) > 1 := h161
            exact absurd h161 (by decide)
        · intro h149
          have h149 : (0 : Int) > 0 := h149
          exact absurd h149 (by decide)
      · intro h138
        have h138 : (1 : Int) > 2 := h138
        exact absurd h138 (by decide)
    · intro h127
      have h127 : (1 : Int) > 1 := h127
      exact absurd h127 (by decide)
set_option maxRecDepth 65536 in
set_option maxHeartbeats 40000000 in
theorem seg79_1_1 {p : Program} {l : Launch} {e : Env} {s : State} {m : MethodId} {args : Array Value} {below : List Frame} {meth : Method} {c : Code} {T0 : State} {locs : List Loc} {Z : State} {a0 : Array Value} {h0 : Heap} {n0 : Nat} {y0 y1 y2 x0 x1 x2 r0 r1 r2 r3 : Int32}
    (C : Cx Z a0 p s m meth c code maxLocals "com/example/ballast/ballast/storage/ClusterCatalogIsInSyncOfPinLaw" "law" ret) (X0 : Stand p l e room_1 s m args below meth c T0 locs 0 0) (e0 : T0.heap = h0) (N0 : Fr n0 locs) (Z0 : n0 ≤ h0.size)  :
    Go p e below s m (LQ n0) room_1.cells room_1.slots T0 79 #[.val (.int y0), .val (.int y1), .val (.int y2), .val (.int (1 : Int32)), .val (.int (1 : Int32)), .val (.int x0), .val (.int x1), .val (.int x2), .val (.int r0), .val (.int r1), .val (.int r2), .val (.int r3), .unset, .unset, .unset, .unset] [] := by
  refine g_iloadN C X0 at_79 rfl rfl ?_
  refine g_newarray (cap := 3) C X0 at_80 e0 (C.t 0 rfl) (by decide) (by decide) (by decide) (by decide) (by decide) rfl ?_
  intro T1 h1_ X1 e1 E1 lt1 ad1 ha1 A1
  have Z1 : n0 ≤ h1_.size := Nat.le_trans Z0 E1.1
  have g_ad1 : n0 ≤ ad1 := by omega
  refine g_astore C X1 at_82 #[.val (.int y0), .val (.int y1), .val (.int y2), .val (.int (1 : Int32)), .val (.int (1 : Int32)), .val (.int x0), .val (.int x1), .val (.int x2), .val (.int r0), .val (.int r1), .val (.int r2), .val (.int r3), .val (.ref ad1), .unset, .unset, .unset] rfl rfl ?_
  refine g_iload C X1 at_84 rfl rfl ?_
  refine g_newarray (cap := 4) C X1 at_86 e1 (C.t 0 rfl) (by decide) (by decide) (by decide) (by decide) (by decide) rfl ?_
  intro T2 h2_ X2 e2 E2 lt2 ad2 ha2 A2
  have Z2 : n0 ≤ h2_.size := Nat.le_trans Z1 E2.1
  have ne_ad1_ad2 : ad1 ≠ ad2 := Nat.ne_of_lt (Nat.lt_of_lt_of_eq A1.lt ha2.symm)
  have A2_ad1 := A1.ext E2
  have g_ad2 : n0 ≤ ad2 := by omega
  refine g_astore C X2 at_88 #[.val (.int y0), .val (.int y1), .val (.int y2), .val (.int (1 : Int32)), .val (.int (1 : Int32)), .val (.int x0), .val (.int x1), .val (.int x2), .val (.int r0), .val (.int r1), .val (.int r2), .val (.int r3), .val (.ref ad1), .val (.ref ad2), .unset, .unset] rfl rfl ?_
  refine g_iconst C X2 (4 : Int32) at_90 rfl rfl ?_
  refine g_newarray (cap := 4) C X2 at_91 e2 (C.t 0 rfl) (by decide) (by decide) (by decide) (by decide) (by decide) rfl ?_
  intro T3 h3_ X3 e3 E3 lt3 ad3 ha3 A3
  have Z3 : n0 ≤ h3_.size := Nat.le_trans Z2 E3.1
  have ne_ad1_ad3 : ad1 ≠ ad3 := Nat.ne_of_lt (Nat.lt_of_lt_of_eq A2_ad1.lt ha3.symm)
  have A3_ad1 := A2_ad1.ext E3
  have ne_ad2_ad3 : ad2 ≠ ad3 := Nat.ne_of_lt (Nat.lt_of_lt_of_eq A2.lt ha3.symm)
  have A3_ad2 := A2.ext E3
  have g_ad3 : n0 ≤ ad3 := by omega
  refine g_dup C X3 at_93 rfl rfl ?_
  refine g_iconst C X3 (0 : Int32) at_94 rfl rfl ?_
  refine g_iload C X3 at_95 rfl rfl ?_
  refine g_iastore C X3 at_97 e3 A3 (by decide) (by decide) rfl ?_
  intro T4 h4_ X4 e4 W4 A4
  have N4 := Fr.snoc X4 N0 g_ad3
  have Z4 : n0 ≤ h4_.size := Nat.le_trans Z3 (Keep.of_wr W4).1
  have A4_ad1 := A3_ad1.other W4 ne_ad1_ad3
  have A4_ad2 := A3_ad2.other W4 ne_ad2_ad3
  refine g_dup C X4 at_98 rfl rfl ?_
  refine g_iconst C X4 (1 : Int32) at_99 rfl rfl ?_
  refine g_iload C X4 at_100 rfl rfl ?_
  refine g_iastore C X4 at_102 e4 A4 (by decide) (by decide) rfl ?_
  intro T5 h5_ X5 e5 W5 A5
  have N5 := Fr.snoc X5 N4 g_ad3
  have Z5 : n0 ≤ h5_.size := Nat.le_trans Z4 (Keep.of_wr W5).1
  have A5_ad1 := A4_ad1.other W5 ne_ad1_ad3
  have A5_ad2 := A4_ad2.other W5 ne_ad2_ad3
  refine g_dup C X5 at_103 rfl rfl ?_
  refine g_iconst C X5 (2 : Int32) at_104 rfl rfl ?_
  refine g_iload C X5 at_105 rfl rfl ?_
  refine g_iastore C X5 at_107 e5 A5 (by decide) (by decide) rfl ?_
  intro T6 h6_ X6 e6 W6 A6
  have N6 := Fr.snoc X6 N5 g_ad3
  have Z6 : n0 ≤ h6_.size := Nat.le_trans Z5 (Keep.of_wr W6).1
  have A6_ad1 := A5_ad1.other W6 ne_ad1_ad3
  have A6_ad2 := A5_ad2.other W6 ne_ad2_ad3
  refine g_dup C X6 at_108 rfl rfl ?_
  refine g_iconst C X6 (3 : Int32) at_109 rfl rfl ?_
  refine g_iload C X6 at_110 rfl rfl ?_
  refine g_iastore C X6 at_112 e6 A6 (by decide) (by decide) rfl ?_
  intro T7 h7_ X7 e7 W7 A7
  have N7 := Fr.snoc X7 N6 g_ad3
  have Z7 : n0 ≤ h7_.size := Nat.le_trans Z6 (Keep.of_wr W7).1
  have A7_ad1 := A6_ad1.other W7 ne_ad1_ad3
  have A7_ad2 := A6_ad2.other W7 ne_ad2_ad3
  refine g_astore C X7 at_113 #[.val (.int y0), .val (.int y1), .val (.int y2), .val (.int (1 : Int32)), .val (.int (1 : Int32)), .val (.int x0), .val (.int x1), .val (.int x2), .val (.int r0), .val (.int r1), .val (.int r2), .val (.int r3), .val (.ref ad1), .val (.ref ad2), .val (.ref ad3), .unset] rfl rfl ?_
  refine g_iloadN C X7 at_115 rfl rfl ?_
  refine g_if C X7 at_116 (by decide) rfl rfl ?_ ?_
  · intro h116
    have h116 : (1 : Int) ≤ 0 := h116
    exact absurd h116 (by decide)
  · intro h116
    have h116 : (1 : Int) > 0 := h116
    refine g_aload C X7 at_119 rfl rfl ?_
    refine g_iconst C X7 (0 : Int32) at_121 rfl rfl ?_
    refine g_iload C X7 at_122 rfl rfl ?_
    refine g_iastore C X7 at_124 e7 A7_ad1 (by decide) (by decide) rfl ?_
    intro T8 h8_ X8 e8 W8 A8
    have N8 := Fr.snoc X8 N7 g_ad1
    have Z8 : n0 ≤ h8_.size := Nat.le_trans Z7 (Keep.of_wr W8).1
    have A8_ad2 := A7_ad2.other W8 ne_ad1_ad2.symm
    have A8_ad3 := A7.other W8 ne_ad1_ad3.symm
    refine g_iloadN C X8 at_125 rfl rfl ?_
    refine g_iconst C X8 (1 : Int32) at_126 rfl rfl ?_
    refine g_icmp C X8 at_127 (by decide) rfl rfl ?_ ?_
    · intro h127
      have h127 : (1 : Int) ≤ 1 := h127
      refine g_iloadN C X8 at_136 rfl rfl ?_
      refine g_iconst C X8 (2 : Int32) at_137 rfl rfl ?_
      refine g_icmp C X8 at_138 (by decide) rfl rfl ?_ ?_
      · intro h138
        have h138 : (1 : Int) ≤ 2 := h138
        refine g_iload C X8 at_147 rfl rfl ?_
        refine g_if C X8 at_149 (by decide) rfl rfl ?_ ?_
        · intro h149
          have h149 : (1 : Int) ≤ 0 := h149
          exact absurd h149 (by decide)
        · intro h149
          have h149 : (1 : Int) > 0 := h149
          refine g_aload C X8 at_152 rfl rfl ?_
          refine g_iconst C X8 (0 : Int32) at_154 rfl rfl ?_
          refine g_iload C X8 at_155 rfl rfl ?_
          refine g_iastore C X8 at_157 e8 A8_ad2 (by decide) (by decide) rfl ?_
          intro T9 h9_ X9 e9 W9 A9
          have N9 := Fr.snoc X9 N8 g_ad2
          have Z9 : n0 ≤ h9_.size := Nat.le_trans Z8 (Keep.of_wr W9).1
          have A9_ad1 := A8.other W9 ne_ad1_ad2
          have A9_ad3 := A8_ad3.other W9 ne_ad2_ad3.symm
          refine g_iload C X9 at_158 rfl rfl ?_
          refine g_iconst C X9 (1 : Int32) at_160 rfl rfl ?_
          refine g_icmp C X9 at_161 (by decide) rfl rfl ?_ ?_
          · intro h161
            have h161 : (1 : Int) ≤ 1 := h161
            refine g_iload C X9 at_170 rfl rfl ?_
            refine g_iconst C X9 (2 : Int32) at_172 rfl rfl ?_
            refine g_icmp C X9 at_173 (by decide) rfl rfl ?_ ?_
            · intro h173
              have h173 : (1 : Int) ≤ 2 := h173
              refine g_iload C X9 at_182 rfl rfl ?_
              refine g_iconst C X9 (3 : Int32) at_184 rfl rfl ?_
              refine g_icmp C X9 at_185 (by decide) rfl rfl ?_ ?_
              · intro h185
                have h185 : (1 : Int) ≤ 3 := h185
                have AI : Aw Z h9_ ad1 .int 1 (fun j => .int (([x0] : List Int32).getD j 0)) := Aw.of A9_ad1 (by
                  intro j hj
                  have hj : j < 1 := hj
                  have hj : j = 0 := by omega
                  rcases hj with rfl <;> rfl)
                have AP : Aw Z h9_ ad2 .int 1 (fun j => .int (([r0, r1, r2, r3] : List Int32).getD j 0)) := Aw.of A9 (by
                  intro j hj
                  have hj : j < 1 := hj
                  have hj : j = 0 := by omega
                  rcases hj with rfl <;> rfl)
                have AR : Aw Z h9_ ad3 .int 4 (fun j => .int (([r0, r1, r2, r3] : List Int32).getD j 0)) := Aw.of A9_ad3 (by
                  intro j hj
                  have hj : j < 4 := hj
                  have hj : j = 0 ∨ j = 1 ∨ j = 2 ∨ j = 3 := by omega
                  rcases hj with rfl | rfl | rfl | rfl <;> rfl)
                exact seg194_1 C X9 e9 N9 Z9 AI AP AR (by decide) (Or.inr (Or.inl rfl))
              · intro h185
                have h185 : (1 : Int) > 3 := h185
                exact absurd h185 (by decide)
            · intro h173
              have h173 : (1 : Int) > 2 := h173
              exact absurd h173 (by decide)
          · intro h161
            have h161 : (1 : Int) > 1 := h161
            exact absurd h161 (by decide)
      · intro h138
        have h138 : (1 : Int) > 2 := h138
        exact absurd h138 (by decide)
    · intro h127
      have h127 : (1 : Int) > 1 := h127
      exact absurd h127 (by decide)
set_option maxRecDepth 65536 in
set_option maxHeartbeats 40000000 in
theorem seg79_1_2 {p : Program} {l : Launch} {e : Env} {s : State} {m : MethodId} {args : Array Value} {below : List Frame} {meth : Method} {c : Code} {T0 : State} {locs : List Loc} {Z : State} {a0 : Array Value} {h0 : Heap} {n0 : Nat} {y0 y1 y2 x0 x1 x2 r0 r1 r2 r3 : Int32}
    (C : Cx Z a0 p s m meth c code maxLocals "com/example/ballast/ballast/storage/ClusterCatalogIsInSyncOfPinLaw" "law" ret) (X0 : Stand p l e room_1 s m args below meth c T0 locs 0 0) (e0 : T0.heap = h0) (N0 : Fr n0 locs) (Z0 : n0 ≤ h0.size)  :
    Go p e below s m (LQ n0) room_1.cells room_1.slots T0 79 #[.val (.int y0), .val (.int y1), .val (.int y2), .val (.int (1 : Int32)), .val (.int (2 : Int32)), .val (.int x0), .val (.int x1), .val (.int x2), .val (.int r0), .val (.int r1), .val (.int r2), .val (.int r3), .unset, .unset, .unset, .unset] [] := by
  refine g_iloadN C X0 at_79 rfl rfl ?_
  refine g_newarray (cap := 3) C X0 at_80 e0 (C.t 0 rfl) (by decide) (by decide) (by decide) (by decide) (by decide) rfl ?_
  intro T1 h1_ X1 e1 E1 lt1 ad1 ha1 A1
  have Z1 : n0 ≤ h1_.size := Nat.le_trans Z0 E1.1
  have g_ad1 : n0 ≤ ad1 := by omega
  refine g_astore C X1 at_82 #[.val (.int y0), .val (.int y1), .val (.int y2), .val (.int (1 : Int32)), .val (.int (2 : Int32)), .val (.int x0), .val (.int x1), .val (.int x2), .val (.int r0), .val (.int r1), .val (.int r2), .val (.int r3), .val (.ref ad1), .unset, .unset, .unset] rfl rfl ?_
  refine g_iload C X1 at_84 rfl rfl ?_
  refine g_newarray (cap := 4) C X1 at_86 e1 (C.t 0 rfl) (by decide) (by decide) (by decide) (by decide) (by decide) rfl ?_
  intro T2 h2_ X2 e2 E2 lt2 ad2 ha2 A2
  have Z2 : n0 ≤ h2_.size := Nat.le_trans Z1 E2.1
  have ne_ad1_ad2 : ad1 ≠ ad2 := Nat.ne_of_lt (Nat.lt_of_lt_of_eq A1.lt ha2.symm)
  have A2_ad1 := A1.ext E2
  have g_ad2 : n0 ≤ ad2 := by omega
  refine g_astore C X2 at_88 #[.val (.int y0), .val (.int y1), .val (.int y2), .val (.int (1 : Int32)), .val (.int (2 : Int32)), .val (.int x0), .val (.int x1), .val (.int x2), .val (.int r0), .val (.int r1), .val (.int r2), .val (.int r3), .val (.ref ad1), .val (.ref ad2), .unset, .unset] rfl rfl ?_
  refine g_iconst C X2 (4 : Int32) at_90 rfl rfl ?_
  refine g_newarray (cap := 4) C X2 at_91 e2 (C.t 0 rfl) (by decide) (by decide) (by decide) (by decide) (by decide) rfl ?_
  intro T3 h3_ X3 e3 E3 lt3 ad3 ha3 A3
  have Z3 : n0 ≤ h3_.size := Nat.le_trans Z2 E3.1
  have ne_ad1_ad3 : ad1 ≠ ad3 := Nat.ne_of_lt (Nat.lt_of_lt_of_eq A2_ad1.lt ha3.symm)
  have A3_ad1 := A2_ad1.ext E3
  have ne_ad2_ad3 : ad2 ≠ ad3 := Nat.ne_of_lt (Nat.lt_of_lt_of_eq A2.lt ha3.symm)
  have A3_ad2 := A2.ext E3
  have g_ad3 : n0 ≤ ad3 := by omega
  refine g_dup C X3 at_93 rfl rfl ?_
  refine g_iconst C X3 (0 : Int32) at_94 rfl rfl ?_
  refine g_iload C X3 at_95 rfl rfl ?_
  refine g_iastore C X3 at_97 e3 A3 (by decide) (by decide) rfl ?_
  intro T4 h4_ X4 e4 W4 A4
  have N4 := Fr.snoc X4 N0 g_ad3
  have Z4 : n0 ≤ h4_.size := Nat.le_trans Z3 (Keep.of_wr W4).1
  have A4_ad1 := A3_ad1.other W4 ne_ad1_ad3
  have A4_ad2 := A3_ad2.other W4 ne_ad2_ad3
  refine g_dup C X4 at_98 rfl rfl ?_
  refine g_iconst C X4 (1 : Int32) at_99 rfl rfl ?_
  refine g_iload C X4 at_100 rfl rfl ?_
  refine g_iastore C X4 at_102 e4 A4 (by decide) (by decide) rfl ?_
  intro T5 h5_ X5 e5 W5 A5
  have N5 := Fr.snoc X5 N4 g_ad3
  have Z5 : n0 ≤ h5_.size := Nat.le_trans Z4 (Keep.of_wr W5).1
  have A5_ad1 := A4_ad1.other W5 ne_ad1_ad3
  have A5_ad2 := A4_ad2.other W5 ne_ad2_ad3
  refine g_dup C X5 at_103 rfl rfl ?_
  refine g_iconst C X5 (2 : Int32) at_104 rfl rfl ?_
  refine g_iload C X5 at_105 rfl rfl ?_
  refine g_iastore C X5 at_107 e5 A5 (by decide) (by decide) rfl ?_
  intro T6 h6_ X6 e6 W6 A6
  have N6 := Fr.snoc X6 N5 g_ad3
  have Z6 : n0 ≤ h6_.size := Nat.le_trans Z5 (Keep.of_wr W6).1
  have A6_ad1 := A5_ad1.other W6 ne_ad1_ad3
  have A6_ad2 := A5_ad2.other W6 ne_ad2_ad3
  refine g_dup C X6 at_108 rfl rfl ?_
  refine g_iconst C X6 (3 : Int32) at_109 rfl rfl ?_
  refine g_iload C X6 at_110 rfl rfl ?_
  refine g_iastore C X6 at_112 e6 A6 (by decide) (by decide) rfl ?_
  intro T7 h7_ X7 e7 W7 A7
  have N7 := Fr.snoc X7 N6 g_ad3
  have Z7 : n0 ≤ h7_.size := Nat.le_trans Z6 (Keep.of_wr W7).1
  have A7_ad1 := A6_ad1.other W7 ne_ad1_ad3
  have A7_ad2 := A6_ad2.other W7 ne_ad2_ad3
  refine g_astore C X7 at_113 #[.val (.int y0), .val (.int y1), .val (.int y2), .val (.int (1 : Int32)), .val (.int (2 : Int32)), .val (.int x0), .val (.int x1), .val (.int x2), .val (.int r0), .val (.int r1), .val (.int r2), .val (.int r3), .val (.ref ad1), .val (.ref ad2), .val (.ref ad3), .unset] rfl rfl ?_
  refine g_iloadN C X7 at_115 rfl rfl ?_
  refine g_if C X7 at_116 (by decide) rfl rfl ?_ ?_
  · intro h116
    have h116 : (1 : Int) ≤ 0 := h116
    exact absurd h116 (by decide)
  · intro h116
    have h116 : (1 : Int) > 0 := h116
    refine g_aload C X7 at_119 rfl rfl ?_
    refine g_iconst C X7 (0 : Int32) at_121 rfl rfl ?_
    refine g_iload C X7 at_122 rfl rfl ?_
    refine g_iastore C X7 at_124 e7 A7_ad1 (by decide) (by decide) rfl ?_
    intro T8 h8_ X8 e8 W8 A8
    have N8 := Fr.snoc X8 N7 g_ad1
    have Z8 : n0 ≤ h8_.size := Nat.le_trans Z7 (Keep.of_wr W8).1
    have A8_ad2 := A7_ad2.other W8 ne_ad1_ad2.symm
    have A8_ad3 := A7.other W8 ne_ad1_ad3.symm
    refine g_iloadN C X8 at_125 rfl rfl ?_
    refine g_iconst C X8 (1 : Int32) at_126 rfl rfl ?_
    refine g_icmp C X8 at_127 (by decide) rfl rfl ?_ ?_
    · intro h127
      have h127 : (1 : Int) ≤ 1 := h127
      refine g_iloadN C X8 at_136 rfl rfl ?_
      refine g_iconst C X8 (2 : Int32) at_137 rfl rfl ?_
      refine g_icmp C X8 at_138 (by decide) rfl rfl ?_ ?_
      · intro h138
        have h138 : (1 : Int) ≤ 2 := h138
        refine g_iload C X8 at_147 rfl rfl ?_
        refine g_if C X8 at_149 (by decide) rfl rfl ?_ ?_
        · intro h149
          have h149 : (2 : Int) ≤ 0 := h149
          exact absurd h149 (by decide)
        · intro h149
          have h149 : (2 : Int) > 0 := h149
          refine g_aload C X8 at_152 rfl rfl ?_
          refine g_iconst C X8 (0 : Int32) at_154 rfl rfl ?_
          refine g_iload C X8 at_155 rfl rfl ?_
          refine g_iastore C X8 at_157 e8 A8_ad2 (by decide) (by decide) rfl ?_
          intro T9 h9_ X9 e9 W9 A9
          have N9 := Fr.snoc X9 N8 g_ad2
          have Z9 : n0 ≤ h9_.size := Nat.le_trans Z8 (Keep.of_wr W9).1
          have A9_ad1 := A8.other W9 ne_ad1_ad2
          have A9_ad3 := A8_ad3.other W9 ne_ad2_ad3.symm
          refine g_iload C X9 at_158 rfl rfl ?_
          refine g_iconst C X9 (1 : Int32) at_160 rfl rfl ?_
          refine g_icmp C X9 at_161 (by decide) rfl rfl ?_ ?_
          · intro h161
            have h161 : (2 : Int) ≤ 1 := h161
            exact absurd h161 (by decide)
          · intro h161
            have h161 : (2 : Int) > 1 := h161
            refine g_aload C X9 at_164 rfl rfl ?_
            refine g_iconst C X9 (1 : Int32) at_166 rfl rfl ?_
            refine g_iload C X9 at_167 rfl rfl ?_
            refine g_iastore C X9 at_169 e9 A9 (by decide) (by decide) rfl ?_
            intro T10 h10_ X10 e10 W10 A10
            have N10 := Fr.snoc X10 N9 g_ad2
            have Z10 : n0 ≤ h10_.size := Nat.le_trans Z9 (Keep.of_wr W10).1
            have A10_ad1 := A9_ad1.other W10 ne_ad1_ad2
            have A10_ad3 := A9_ad3.other W10 ne_ad2_ad3.symm
            refine g_iload C X10 at_170 rfl rfl ?_
            refine g_iconst C X10 (2 : Int32) at_172 rfl rfl ?_
            refine g_icmp C X10 at_173 (by decide) rfl rfl ?_ ?_
            · intro h173
              have h173 : (2 : Int) ≤ 2 := h173
              refine g_iload C X10 at_182 rfl rfl ?_
              refine g_iconst C X10 (3 : Int32) at_184 rfl rfl ?_
              refine g_icmp C X10 at_185 (by decide) rfl rfl ?_ ?_
              · intro h185
                have h185 : (2 : Int) ≤ 3 := h185
                have AI : Aw Z h10_ ad1 .int 1 (fun j => .int (([x0] : List Int32).getD j 0)) := Aw.of A10_ad1 (by
                  intro j hj
                  have hj : j < 1 := hj
                  have hj : j = 0 := by omega
                  rcases hj with rfl <;> rfl)
                have AP : Aw Z h10_ ad2 .int 2 (fun j => .int (([r0, r1, r2, r3] : List Int32).getD j 0)) := Aw.of A10 (by
                  intro j hj
                  have hj : j < 2 := hj
                  have hj : j = 0 ∨ j = 1 := by omega
                  rcases hj with rfl | rfl <;> rfl)
                have AR : Aw Z h10_ ad3 .int 4 (fun j => .int (([r0, r1, r2, r3] : List Int32).getD j 0)) := Aw.of A10_ad3 (by
                  intro j hj
                  have hj : j < 4 := hj
                  have hj : j = 0 ∨ j = 1 ∨ j = 2 ∨ j = 3 := by omega
                  rcases hj with rfl | rfl | rfl | rfl <;> rfl)
                exact seg194_1 C X10 e10 N10 Z10 AI AP AR (by decide) (Or.inr (Or.inr (Or.inl rfl)))
              · intro h185
                have h185 : (2 : Int) > 3 := h185
                exact absurd h185 (by decide)
            · intro h173
              have h173 : (2 : Int) > 2 := h173
              exact absurd h173 (by decide)
      · intro h138
        have h138 : (1 : Int) > 2 := h138
        exact absurd h138 (by decide)
    · intro h127
      have h127 : (1 : Int) > 1 := h127
      exact absurd h127 (by decide)
set_option maxRecDepth 65536 in
set_option maxHeartbeats 40000000 in
theorem seg79_1_3 {p : Program} {l : Launch} {e : Env} {s : State} {m : MethodId} {args : Array Value} {below : List Frame} {meth : Method} {c : Code} {T0 : State} {locs : List Loc} {Z : State} {a0 : Array Value} {h0 : Heap} {n0 : Nat} {y0 y1 y2 x0 x1 x2 r0 r1 r2 r3 : Int32}
    (C : Cx Z a0 p s m meth c code maxLocals "com/example/ballast/ballast/storage/ClusterCatalogIsInSyncOfPinLaw" "law" ret) (X0 : Stand p l e room_1 s m args below meth c T0 locs 0 0) (e0 : T0.heap = h0) (N0 : Fr n0 locs) (Z0 : n0 ≤ h0.size)  :
    Go p e below s m (LQ n0) room_1.cells room_1.slots T0 79 #[.val (.int y0), .val (.int y1), .val (.int y2), .val (.int (1 : Int32)), .val (.int (3 : Int32)), .val (.int x0), .val (.int x1), .val (.int x2), .val (.int r0), .val (.int r1), .val (.int r2), .val (.int r3), .unset, .unset, .unset, .unset] [] := by
  refine g_iloadN C X0 at_79 rfl rfl ?_
  refine g_newarray (cap := 3) C X0 at_80 e0 (C.t 0 rfl) (by decide) (by decide) (by decide) (by decide) (by decide) rfl ?_
  intro T1 h1_ X1 e1 E1 lt1 ad1 ha1 A1
  have Z1 : n0 ≤ h1_.size := Nat.le_trans Z0 E1.1
  have g_ad1 : n0 ≤ ad1 := by omega
  refine g_astore C X1 at_82 #[.val (.int y0), .val (.int y1), .val (.int y2), .val (.int (1 : Int32)), .val (.int (3 : Int32)), .val (.int x0), .val (.int x1), .val (.int x2), .val (.int r0), .val (.int r1), .val (.int r2), .val (.int r3), .val (.ref ad1), .unset, .unset, .unset] rfl rfl ?_
  refine g_iload C X1 at_84 rfl rfl ?_
  refine g_newarray (cap := 4) C X1 at_86 e1 (C.t 0 rfl) (by decide) (by decide) (by decide) (by decide) (by decide) rfl ?_
  intro T2 h2_ X2 e2 E2 lt2 ad2 ha2 A2
  have Z2 : n0 ≤ h2_.size := Nat.le_trans Z1 E2.1
  have ne_ad1_ad2 : ad1 ≠ ad2 := Nat.ne_of_lt (Nat.lt_of_lt_of_eq A1.lt ha2.symm)
  have A2_ad1 := A1.ext E2
  have g_ad2 : n0 ≤ ad2 := by omega
  refine g_astore C X2 at_88 #[.val (.int y0), .val (.int y1), .val (.int y2), .val (.int (1 : Int32)), .val (.int (3 : Int32)), .val (.int x0), .val (.int x1), .val (.int x2), .val (.int r0), .val (.int r1), .val (.int r2), .val (.int r3), .val (.ref ad1), .val (.ref ad2), .unset, .unset] rfl rfl ?_
  refine g_iconst C X2 (4 : Int32) at_90 rfl rfl ?_
  refine g_newarray (cap := 4) C X2 at_91 e2 (C.t 0 rfl) (by decide) (by decide) (by decide) (by decide) (by decide) rfl ?_
  intro T3 h3_ X3 e3 E3 lt3 ad3 ha3 A3
  have Z3 : n0 ≤ h3_.size := Nat.le_trans Z2 E3.1
  have ne_ad1_ad3 : ad1 ≠ ad3 := Nat.ne_of_lt (Nat.lt_of_lt_of_eq A2_ad1.lt ha3.symm)
  have A3_ad1 := A2_ad1.ext E3
  have ne_ad2_ad3 : ad2 ≠ ad3 := Nat.ne_of_lt (Nat.lt_of_lt_of_eq A2.lt ha3.symm)
  have A3_ad2 := A2.ext E3
  have g_ad3 : n0 ≤ ad3 := by omega
  refine g_dup C X3 at_93 rfl rfl ?_
  refine g_iconst C X3 (0 : Int32) at_94 rfl rfl ?_
  refine g_iload C X3 at_95 rfl rfl ?_
  refine g_iastore C X3 at_97 e3 A3 (by decide) (by decide) rfl ?_
  intro T4 h4_ X4 e4 W4 A4
  have N4 := Fr.snoc X4 N0 g_ad3
  have Z4 : n0 ≤ h4_.size := Nat.le_trans Z3 (Keep.of_wr W4).1
  have A4_ad1 := A3_ad1.other W4 ne_ad1_ad3
  have A4_ad2 := A3_ad2.other W4 ne_ad2_ad3
  refine g_dup C X4 at_98 rfl rfl ?_
  refine g_iconst C X4 (1 : Int32) at_99 rfl rfl ?_
  refine g_iload C X4 at_100 rfl rfl ?_
  refine g_iastore C X4 at_102 e4 A4 (by decide) (by decide) rfl ?_
  intro T5 h5_ X5 e5 W5 A5
  have N5 := Fr.snoc X5 N4 g_ad3
  have Z5 : n0 ≤ h5_.size := Nat.le_trans Z4 (Keep.of_wr W5).1
  have A5_ad1 := A4_ad1.other W5 ne_ad1_ad3
  have A5_ad2 := A4_ad2.other W5 ne_ad2_ad3
  refine g_dup C X5 at_103 rfl rfl ?_
  refine g_iconst C X5 (2 : Int32) at_104 rfl rfl ?_
  refine g_iload C X5 at_105 rfl rfl ?_
  refine g_iastore C X5 at_107 e5 A5 (by decide) (by decide) rfl ?_
  intro T6 h6_ X6 e6 W6 A6
  have N6 := Fr.snoc X6 N5 g_ad3
  have Z6 : n0 ≤ h6_.size := Nat.le_trans Z5 (Keep.of_wr W6).1
  have A6_ad1 := A5_ad1.other W6 ne_ad1_ad3
  have A6_ad2 := A5_ad2.other W6 ne_ad2_ad3
  refine g_dup C X6 at_108 rfl rfl ?_
  refine g_iconst C X6 (3 : Int32) at_109 rfl rfl ?_
  refine g_iload C X6 at_110 rfl rfl ?_
  refine g_iastore C X6 at_112 e6 A6 (by decide) (by decide) rfl ?_
  intro T7 h7_ X7 e7 W7 A7
  have N7 := Fr.snoc X7 N6 g_ad3
  have Z7 : n0 ≤ h7_.size := Nat.le_trans Z6 (Keep.of_wr W7).1
  have A7_ad1 := A6_ad1.other W7 ne_ad1_ad3
  have A7_ad2 := A6_ad2.other W7 ne_ad2_ad3
  refine g_astore C X7 at_113 #[.val (.int y0), .val (.int y1), .val (.int y2), .val (.int (1 : Int32)), .val (.int (3 : Int32)), .val (.int x0), .val (.int x1), .val (.int x2), .val (.int r0), .val (.int r1), .val (.int r2), .val (.int r3), .val (.ref ad1), .val (.ref ad2), .val (.ref ad3), .unset] rfl rfl ?_
  refine g_iloadN C X7 at_115 rfl rfl ?_
  refine g_if C X7 at_116 (by decide) rfl rfl ?_ ?_
  · intro h116
    have h116 : (1 : Int) ≤ 0 := h116
    exact absurd h116 (by decide)
  · intro h116
    have h116 : (1 : Int) > 0 := h116
    refine g_aload C X7 at_119 rfl rfl ?_
    refine g_iconst C X7 (0 : Int32) at_121 rfl rfl ?_
    refine g_iload C X7 at_122 rfl rfl ?_
    refine g_iastore C X7 at_124 e7 A7_ad1 (by decide) (by decide) rfl ?_
    intro T8 h8_ X8 e8 W8 A8
    have N8 := Fr.snoc X8 N7 g_ad1
    have Z8 : n0 ≤ h8_.size := Nat.le_trans Z7 (Keep.of_wr W8).1
    have A8_ad2 := A7_ad2.other W8 ne_ad1_ad2.symm
    have A8_ad3 := A7.other W8 ne_ad1_ad3.symm
    refine g_iloadN C X8 at_125 rfl rfl ?_
    refine g_iconst C X8 (1 : Int32) at_126 rfl rfl ?_
    refine g_icmp C X8 at_127 (by decide) rfl rfl ?_ ?_
    · intro h127
      have h127 : (1 : Int) ≤ 1 := h127
      refine g_iloadN C X8 at_136 rfl rfl ?_
      refine g_iconst C X8 (2 : Int32) at_137 rfl rfl ?_
      refine g_icmp C X8 at_138 (by decide) rfl rfl ?_ ?_
      · intro h138
        have h138 : (1 : Int) ≤ 2 := h138
        refine g_iload C X8 at_147 rfl rfl ?_
        refine g_if C X8 at_149 (by decide) rfl rfl ?_ ?_
        · intro h149
          have h149 : (3 : Int) ≤ 0 := h149
          exact absurd h149 (by decide)
        · intro h149
          have h149 : (3 : Int) > 0 := h149
          refine g_aload C X8 at_152 rfl rfl ?_
          refine g_iconst C X8 (0 : Int32) at_154 rfl rfl ?_
          refine g_iload C X8 at_155 rfl rfl ?_
          refine g_iastore C X8 at_157 e8 A8_ad2 (by decide) (by decide) rfl ?_
          intro T9 h9_ X9 e9 W9 A9
          have N9 := Fr.snoc X9 N8 g_ad2
          have Z9 : n0 ≤ h9_.size := Nat.le_trans Z8 (Keep.of_wr W9).1
          have A9_ad1 := A8.other W9 ne_ad1_ad2
          have A9_ad3 := A8_ad3.other W9 ne_ad2_ad3.symm
          refine g_iload C X9 at_158 rfl rfl ?_
          refine g_iconst C X9 (1 : Int32) at_160 rfl rfl ?_
          refine g_icmp C X9 at_161 (by decide) rfl rfl ?_ ?_
          · intro h161
            have h161 : (3 : Int) ≤ 1 := h161
            exact absurd h161 (by decide)
          · intro h161
            have h161 : (3 : Int) > 1 := h161
            refine g_aload C X9 at_164 rfl rfl ?_
            refine g_iconst C X9 (1 : Int32) at_166 rfl rfl ?_
            refine g_iload C X9 at_167 rfl rfl ?_
            refine g_iastore C X9 at_169 e9 A9 (by decide) (by decide) rfl ?_
            intro T10 h10_ X10 e10 W10 A10
            have N10 := Fr.snoc X10 N9 g_ad2
            have Z10 : n0 ≤ h10_.size := Nat.le_trans Z9 (Keep.of_wr W10).1
            have A10_ad1 := A9_ad1.other W10 ne_ad1_ad2
            have A10_ad3 := A9_ad3.other W10 ne_ad2_ad3.symm
            refine g_iload C X10 at_170 rfl rfl ?_
            refine g_iconst C X10 (2 : Int32) at_172 rfl rfl ?_
            refine g_icmp C X10 at_173 (by decide) rfl rfl ?_ ?_
            · intro h173
              have h173 : (3 : Int) ≤ 2 := h173
              exact absurd h173 (by decide)
            · intro h173
              have h173 : (3 : Int) > 2 := h173
              refine g_aload C X10 at_176 rfl rfl ?_
              refine g_iconst C X10 (2 : Int32) at_178 rfl rfl ?_
              refine g_iload C X10 at_179 rfl rfl ?_
              refine g_iastore C X10 at_181 e10 A10 (by decide) (by decide) rfl ?_
              intro T11 h11_ X11 e11 W11 A11
              have N11 := Fr.snoc X11 N10 g_ad2
              have Z11 : n0 ≤ h11_.size := Nat.le_trans Z10 (Keep.of_wr W11).1
              have A11_ad1 := A10_ad1.other W11 ne_ad1_ad2
              have A11_ad3 := A10_ad3.other W11 ne_ad2_ad3.symm
              refine g_iload C X11 at_182 rfl rfl ?_
              refine g_iconst C X11 (3 : Int32) at_184 rfl rfl ?_
              refine g_icmp C X11 at_185 (by decide) rfl rfl ?_ ?_
              · intro h185
                have h185 : (3 : Int) ≤ 3 := h185
                have AI : Aw Z h11_ ad1 .int 1 (fun j => .int (([x0] : List Int32).getD j 0)) := Aw.of A11_ad1 (by
                  intro j hj
                  have hj : j < 1 := hj
                  have hj : j = 0 := by omega
                  rcases hj with rfl <;> rfl)
                have AP : Aw Z h11_ ad2 .int 3 (fun j => .int (([r0, r1, r2, r3] : List Int32).getD j 0)) := Aw.of A11 (by
                  intro j hj
                  have hj : j < 3 := hj
                  have hj : j = 0 ∨ j = 1 ∨ j = 2 := by omega
                  rcases hj with rfl | rfl | rfl <;> rfl)
                have AR : Aw Z h11_ ad3 .int 4 (fun j => .int (([r0, r1, r2, r3] : List Int32).getD j 0)) := Aw.of A11_ad3 (by
                  intro j hj
                  have hj : j < 4 := hj
                  have hj : j = 0 ∨ j = 1 ∨ j = 2 ∨ j = 3 := by omega
                  rcases hj with rfl | rfl | rfl | rfl <;> rfl)
                exact seg194_1 C X11 e11 N11 Z11 AI AP AR (by decide) (Or.inr (Or.inr (Or.inr (Or.inl rfl))))
              · intro h185
                have h185 : (3 : Int) > 3 := h185
                exact absurd h185 (by decide)
      · intro h138
        have h138 : (1 : Int) > 2 := h138
        exact absurd h138 (by decide)
    · intro h127
      have h127 : (1 : Int) > 1 := h127
      exact absurd h127 (by decide)
set_option maxRecDepth 65536 in
set_option maxHeartbeats 40000000 in
theorem seg79_1_4 {p : Program} {l : Launch} {e : Env} {s : State} {m : MethodId} {args : Array Value} {below : List Frame} {meth : Method} {c : Code} {T0 : State} {locs : List Loc} {Z : State} {a0 : Array Value} {h0 : Heap} {n0 : Nat} {y0 y1 y2 x0 x1 x2 r0 r1 r2 r3 : Int32}
    (C : Cx Z a0 p s m meth c code maxLocals "com/example/ballast/ballast/storage/ClusterCatalogIsInSyncOfPinLaw" "law" ret) (X0 : Stand p l e room_1 s m args below meth c T0 locs 0 0) (e0 : T0.heap = h0) (N0 : Fr n0 locs) (Z0 : n0 ≤ h0.size)  :
    Go p e below s m (LQ n0) room_1.cells room_1.slots T0 79 #[.val (.int y0), .val (.int y1), .val (.int y2), .val (.int (1 : Int32)), .val (.int (4 : Int32)), .val (.int x0), .val (.int x1), .val (.int x2), .val (.int r0), .val (.int r1), .val (.int r2), .val (.int r3), .unset, .unset, .unset, .unset] [] := by
  refine g_iloadN C X0 at_79 rfl rfl ?_
  refine g_newarray (cap := 3) C X0 at_80 e0 (C.t 0 rfl) (by decide) (by decide) (by decide) (by decide) (by decide) rfl ?_
  intro T1 h1_ X1 e1 E1 lt1 ad1 ha1 A1
  have Z1 : n0 ≤ h1_.size := Nat.le_trans Z0 E1.1
  have g_ad1 : n0 ≤ ad1 := by omega
  refine g_astore C X1 at_82 #[.val (.int y0), .val (.int y1), .val (.int y2), .val (.int (1 : Int32)), .val (.int (4 : Int32)), .val (.int x0), .val (.int x1), .val (.int x2), .val (.int r0), .val (.int r1), .val (.int r2), .val (.int r3), .val (.ref ad1), .unset, .unset, .unset] rfl rfl ?_
  refine g_iload C X1 at_84 rfl rfl ?_
  refine g_newarray (cap := 4) C X1 at_86 e1 (C.t 0 rfl) (by decide) (by decide) (by decide) (by decide) (by decide) rfl ?_
  intro T2 h2_ X2 e2 E2 lt2 ad2 ha2 A2
  have Z2 : n0 ≤ h2_.size := Nat.le_trans Z1 E2.1
  have ne_ad1_ad2 : ad1 ≠ ad2 := Nat.ne_of_lt (Nat.lt_of_lt_of_eq A1.lt ha2.symm)
  have A2_ad1 := A1.ext E2
  have g_ad2 : n0 ≤ ad2 := by omega
  refine g_astore C X2 at_88 #[.val (.int y0), .val (.int y1), .val (.int y2), .val (.int (1 : Int32)), .val (.int (4 : Int32)), .val (.int x0), .val (.int x1), .val (.int x2), .val (.int r0), .val (.int r1), .val (.int r2), .val (.int r3), .val (.ref ad1), .val (.ref ad2), .unset, .unset] rfl rfl ?_
  refine g_iconst C X2 (4 : Int32) at_90 rfl rfl ?_
  refine g_newarray (cap := 4) C X2 at_91 e2 (C.t 0 rfl) (by decide) (by decide) (by decide) (by decide) (by decide) rfl ?_
  intro T3 h3_ X3 e3 E3 lt3 ad3 ha3 A3
  have Z3 : n0 ≤ h3_.size := Nat.le_trans Z2 E3.1
  have ne_ad1_ad3 : ad1 ≠ ad3 := Nat.ne_of_lt (Nat.lt_of_lt_of_eq A2_ad1.lt ha3.symm)
  have A3_ad1 := A2_ad1.ext E3
  have ne_ad2_ad3 : ad2 ≠ ad3 := Nat.ne_of_lt (Nat.lt_of_lt_of_eq A2.lt ha3.symm)
  have A3_ad2 := A2.ext E3
  have g_ad3 : n0 ≤ ad3 := by omega
  refine g_dup C X3 at_93 rfl rfl ?_
  refine g_iconst C X3 (0 : Int32) at_94 rfl rfl ?_
  refine g_iload C X3 at_95 rfl rfl ?_
  refine g_iastore C X3 at_97 e3 A3 (by decide) (by decide) rfl ?_
  intro T4 h4_ X4 e4 W4 A4
  have N4 := Fr.snoc X4 N0 g_ad3
  have Z4 : n0 ≤ h4_.size := Nat.le_trans Z3 (Keep.of_wr W4).1
  have A4_ad1 := A3_ad1.other W4 ne_ad1_ad3
  have A4_ad2 := A3_ad2.other W4 ne_ad2_ad3
  refine g_dup C X4 at_98 rfl rfl ?_
  refine g_iconst C X4 (1 : Int32) at_99 rfl rfl ?_
  refine g_iload C X4 at_100 rfl rfl ?_
  refine g_iastore C X4 at_102 e4 A4 (by decide) (by decide) rfl ?_
  intro T5 h5_ X5 e5 W5 A5
  have N5 := Fr.snoc X5 N4 g_ad3
  have Z5 : n0 ≤ h5_.size := Nat.le_trans Z4 (Keep.of_wr W5).1
  have A5_ad1 := A4_ad1.other W5 ne_ad1_ad3
  have A5_ad2 := A4_ad2.other W5 ne_ad2_ad3
  refine g_dup C X5 at_103 rfl rfl ?_
  refine g_iconst C X5 (2 : Int32) at_104 rfl rfl ?_
  refine g_iload C X5 at_105 rfl rfl ?_
  refine g_iastore C X5 at_107 e5 A5 (by decide) (by decide) rfl ?_
  intro T6 h6_ X6 e6 W6 A6
  have N6 := Fr.snoc X6 N5 g_ad3
  have Z6 : n0 ≤ h6_.size := Nat.le_trans Z5 (Keep.of_wr W6).1
  have A6_ad1 := A5_ad1.other W6 ne_ad1_ad3
  have A6_ad2 := A5_ad2.other W6 ne_ad2_ad3
  refine g_dup C X6 at_108 rfl rfl ?_
  refine g_iconst C X6 (3 : Int32) at_109 rfl rfl ?_
  refine g_iload C X6 at_110 rfl rfl ?_
  refine g_iastore C X6 at_112 e6 A6 (by decide) (by decide) rfl ?_
  intro T7 h7_ X7 e7 W7 A7
  have N7 := Fr.snoc X7 N6 g_ad3
  have Z7 : n0 ≤ h7_.size := Nat.le_trans Z6 (Keep.of_wr W7).1
  have A7_ad1 := A6_ad1.other W7 ne_ad1_ad3
  have A7_ad2 := A6_ad2.other W7 ne_ad2_ad3
  refine g_astore C X7 at_113 #[.val (.int y0), .val (.int y1), .val (.int y2), .val (.int (1 : Int32)), .val (.int (4 : Int32)), .val (.int x0), .val (.int x1), .val (.int x2), .val (.int r0), .val (.int r1), .val (.int r2), .val (.int r3), .val (.ref ad1), .val (.ref ad2), .val (.ref ad3), .unset] rfl rfl ?_
  refine g_iloadN C X7 at_115 rfl rfl ?_
  refine g_if C X7 at_116 (by decide) rfl rfl ?_ ?_
  · intro h116
    have h116 : (1 : Int) ≤ 0 := h116
    exact absurd h116 (by decide)
  · intro h116
    have h116 : (1 : Int) > 0 := h116
    refine g_aload C X7 at_119 rfl rfl ?_
    refine g_iconst C X7 (0 : Int32) at_121 rfl rfl ?_
    refine g_iload C X7 at_122 rfl rfl ?_
    refine g_iastore C X7 at_124 e7 A7_ad1 (by decide) (by decide) rfl ?_
    intro T8 h8_ X8 e8 W8 A8
    have N8 := Fr.snoc X8 N7 g_ad1
    have Z8 : n0 ≤ h8_.size := Nat.le_trans Z7 (Keep.of_wr W8).1
    have A8_ad2 := A7_ad2.other W8 ne_ad1_ad2.symm
    have A8_ad3 := A7.other W8 ne_ad1_ad3.symm
    refine g_iloadN C X8 at_125 rfl rfl ?_
    refine g_iconst C X8 (1 : Int32) at_126 rfl rfl ?_
    refine g_icmp C X8 at_127 (by decide) rfl rfl ?_ ?_
    · intro h127
      have h127 : (1 : Int) ≤ 1 := h127
      refine g_iloadN C X8 at_136 rfl rfl ?_
      refine g_iconst C X8 (2 : Int32) at_137 rfl rfl ?_
      refine g_icmp C X8 at_138 (by decide) rfl rfl ?_ ?_
      · intro h138
        have h138 : (1 : Int) ≤ 2 := h138
        refine g_iload C X8 at_147 rfl rfl ?_
        refine g_if C X8 at_149 (by decide) rfl rfl ?_ ?_
        · intro h149
          have h149 : (4 : Int) ≤ 0 := h149
          exact absurd h149 (by decide)
        · intro h149
          have h149 : (4 : Int) > 0 := h149
          refine g_aload C X8 at_152 rfl rfl ?_
          refine g_iconst C X8 (0 : Int32) at_154 rfl rfl ?_
          refine g_iload C X8 at_155 rfl rfl ?_
          refine g_iastore C X8 at_157 e8 A8_ad2 (by decide) (by decide) rfl ?_
          intro T9 h9_ X9 e9 W9 A9
          have N9 := Fr.snoc X9 N8 g_ad2
          have Z9 : n0 ≤ h9_.size := Nat.le_trans Z8 (Keep.of_wr W9).1
          have A9_ad1 := A8.other W9 ne_ad1_ad2
          have A9_ad3 := A8_ad3.other W9 ne_ad2_ad3.symm
          refine g_iload C X9 at_158 rfl rfl ?_
          refine g_iconst C X9 (1 : Int32) at_160 rfl rfl ?_
          refine g_icmp C X9 at_161 (by decide) rfl rfl ?_ ?_
          · intro h161
            have h161 : (4 : Int) ≤ 1 := h161
            exact absurd h161 (by decide)
          · intro h161
            have h161 : (4 : Int) > 1 := h161
            refine g_aload C X9 at_164 rfl rfl ?_
            refine g_iconst C X9 (1 : Int32) at_166 rfl rfl ?_
            refine g_iload C X9 at_167 rfl rfl ?_
            refine g_iastore C X9 at_169 e9 A9 (by decide) (by decide) rfl ?_
            intro T10 h10_ X10 e10 W10 A10
            have N10 := Fr.snoc X10 N9 g_ad2
            have Z10 : n0 ≤ h10_.size := Nat.le_trans Z9 (Keep.of_wr W10).1
            have A10_ad1 := A9_ad1.other W10 ne_ad1_ad2
            have A10_ad3 := A9_ad3.other W10 ne_ad2_ad3.symm
            refine g_iload C X10 at_170 rfl rfl ?_
            refine g_iconst C X10 (2 : Int32) at_172 rfl rfl ?_
            refine g_icmp C X10 at_173 (by decide) rfl rfl ?_ ?_
            · intro h173
              have h173 : (4 : Int) ≤ 2 := h173
              exact absurd h173 (by decide)
            · intro h173
              have h173 : (4 : Int) > 2 := h173
              refine g_aload C X10 at_176 rfl rfl ?_
              refine g_iconst C X10 (2 : Int32) at_178 rfl rfl ?_
              refine g_iload C X10 at_179 rfl rfl ?_
              refine g_iastore C X10 at_181 e10 A10 (by decide) (by decide) rfl ?_
              intro T11 h11_ X11 e11 W11 A11
              have N11 := Fr.snoc X11 N10 g_ad2
              have Z11 : n0 ≤ h11_.size := Nat.le_trans Z10 (Keep.of_wr W11).1
              have A11_ad1 := A10_ad1.other W11 ne_ad1_ad2
              have A11_ad3 := A10_ad3.other W11 ne_ad2_ad3.symm
              refine g_iload C X11 at_182 rfl rfl ?_
              refine g_iconst C X11 (3 : Int32) at_184 rfl rfl ?_
              refine g_icmp C X11 at_185 (by decide) rfl rfl ?_ ?_
              · intro h185
                have h185 : (4 : Int) ≤ 3 := h185
                exact absurd h185 (by decide)
              · intro h185
                have h185 : (4 : Int) > 3 := h185
                refine g_aload C X11 at_188 rfl rfl ?_
                refine g_iconst C X11 (3 : Int32) at_190 rfl rfl ?_
                refine g_iload C X11 at_191 rfl rfl ?_
                refine g_iastore C X11 at_193 e11 A11 (by decide) (by decide) rfl ?_
                intro T12 h12_ X12 e12 W12 A12
                have N12 := Fr.snoc X12 N11 g_ad2
                have Z12 : n0 ≤ h12_.size := Nat.le_trans Z11 (Keep.of_wr W12).1
                have A12_ad1 := A11_ad1.other W12 ne_ad1_ad2
                have A12_ad3 := A11_ad3.other W12 ne_ad2_ad3.symm
                have AI : Aw Z h12_ ad1 .int 1 (fun j => .int (([x0] : List Int32).getD j 0)) := Aw.of A12_ad1 (by
                  intro j hj
                  have hj : j < 1 := hj
                  have hj : j = 0 := by omega
                  rcases hj with rfl <;> rfl)
                have AP : Aw Z h12_ ad2 .int 4 (fun j => .int (([r0, r1, r2, r3] : List Int32).getD j 0)) := Aw.of A12 (by
                  intro j hj
                  have hj : j < 4 := hj
                  have hj : j = 0 ∨ j = 1 ∨ j = 2 ∨ j = 3 := by omega
                  rcases hj with rfl | rfl | rfl | rfl <;> rfl)
                have AR : Aw Z h12_ ad3 .int 4 (fun j => .int (([r0, r1, r2, r3] : List Int32).getD j 0)) := Aw.of A12_ad3 (by
                  intro j hj
                  have hj : j < 4 := hj
                  have hj : j = 0 ∨ j = 1 ∨ j = 2 ∨ j = 3 := by omega
                  rcases hj with rfl | rfl | rfl | rfl <;> rfl)
                exact seg194_1 C X12 e12 N12 Z12 AI AP AR (by decide) (Or.inr (Or.inr (Or.inr (Or.inr (rfl)))))
      · intro h138
        have h138 : (1 : Int) > 2 := h138
        exact absurd h138 (by decide)
    · intro h127
      have h127 : (1 : Int) > 1 := h127
      exact absurd h127 (by decide)
set_option maxRecDepth 65536 in
set_option maxHeartbeats 40000000 in
theorem fin2 {p : Program} {l : Launch} {e : Env} {s : State} {m : MethodId} {args : Array Value} {below : List Frame} {meth : Method} {c : Code} {T0 : State} {locs : List Loc} {Z : State} {a0 : Array Value} {h0 : Heap} {n0 : Nat} {y0 y1 y2 mm ex x0 x1 x2 r0 r1 r2 r3 : Int32} {ia rp rr : Addr} {M : Nat}
    (C : Cx Z a0 p s m meth c code maxLocals "com/example/ballast/ballast/storage/ClusterCatalogIsInSyncOfPinLaw" "law" ret) (X0 : Stand p l e room_1 s m args below meth c T0 locs 3 11) (e0 : T0.heap = h0) (N0 : Fr n0 locs) (Z0 : n0 ≤ h0.size) (AI : Aw Z h0 ia .int 2 (fun j => .int (([x0, x1] : List Int32).getD j 0))) (AP : Aw Z h0 rp .int M (fun j => .int (([r0, r1, r2, r3] : List Int32).getD j 0))) (AR : Aw Z h0 rr .int 4 (fun j => .int (([r0, r1, r2, r3] : List Int32).getD j 0))) (hM : mm.toInt = M) (hm : mm = (0 : Int32) ∨ mm = (1 : Int32) ∨ mm = (2 : Int32) ∨ mm = (3 : Int32) ∨ mm = (4 : Int32)) (hex : ex = 1 ∧ ((0 < mm.toInt ∧ r0.toInt = x0.toInt ∧ 1 < mm.toInt ∧ r1.toInt = x1.toInt) ∨ (0 < mm.toInt ∧ r0.toInt = x0.toInt ∧ 2 < mm.toInt ∧ r2.toInt = x1.toInt) ∨ (0 < mm.toInt ∧ r0.toInt = x0.toInt ∧ 3 < mm.toInt ∧ r3.toInt = x1.toInt) ∨ (1 < mm.toInt ∧ r1.toInt = x0.toInt ∧ 2 < mm.toInt ∧ r2.toInt = x1.toInt) ∨ (1 < mm.toInt ∧ r1.toInt = x0.toInt ∧ 3 < mm.toInt ∧ r3.toInt = x1.toInt) ∨ (2 < mm.toInt ∧ r2.toInt = x0.toInt ∧ 3 < mm.toInt ∧ r3.toInt = x1.toInt)) ∨ ex = 0 ∧ ¬ ((0 < mm.toInt ∧ r0.toInt = x0.toInt ∧ 1 < mm.toInt ∧ r1.toInt = x1.toInt) ∨ (0 < mm.toInt ∧ r0.toInt = x0.toInt ∧ 2 < mm.toInt ∧ r2.toInt = x1.toInt) ∨ (0 < mm.toInt ∧ r0.toInt = x0.toInt ∧ 3 < mm.toInt ∧ r3.toInt = x1.toInt) ∨ (1 < mm.toInt ∧ r1.toInt = x0.toInt ∧ 2 < mm.toInt ∧ r2.toInt = x1.toInt) ∨ (1 < mm.toInt ∧ r1.toInt = x0.toInt ∧ 3 < mm.toInt ∧ r3.toInt = x1.toInt) ∨ (2 < mm.toInt ∧ r2.toInt = x0.toInt ∧ 3 < mm.toInt ∧ r3.toInt = x1.toInt))) :
    Go p e below s m (LQ n0) room_1.cells room_1.slots T0 605 #[.val (.int y0), .val (.int y1), .val (.int y2), .val (.int (2 : Int32)), .val (.int mm), .val (.int x0), .val (.int x1), .val (.int x2), .val (.int r0), .val (.int r1), .val (.int r2), .val (.int r3), .val (.ref ia), .val (.ref rp), .val (.ref rr), .val (.int ex)] [] := by
  rcases hm with rfl | rfl | rfl | rfl | rfl
  · skip
    rw [show (0 : Int32).toInt = 0 by decide] at hM hex
    obtain rfl : M = 0 := by omega
    refine g_aload C X0 at_605 rfl rfl ?_
    refine g_aload C X0 at_607 rfl rfl ?_
    refine g_callS (argsL := [(.ref ia), (.ref rp)]) (rest := []) (W := 0) C X0 at_609 e0 (C.t 5 rfl) (C.t 6 rfl) (C.t 7 rfl) (C.t 8 rfl) (sy2_0 l Z a0 C.w [] ia rp x0 x1 x2 r0 r1 r2 r3 h0 n0 Z0 AI AP) (by decide) pd_2 rfl rfl rfl (Nat.le_of_eq rfl) (by decide) (by decide) (by decide) (by decide) rfl ?_
    intro T1 v1_ L1 X1 hQ1
    obtain ⟨⟨r, rfl, hr⟩, N1q, hh1⟩ := hQ1
    have N1 := Fr.app N0 N1q
    have hsame : r = ex := by
      rcases hr with ⟨rfl, u⟩ | ⟨rfl, u⟩ <;> rcases hex with ⟨rfl, v⟩ | ⟨rfl, v⟩
      · rfl
      · exfalso; exact u
      · exfalso; omega
      · rfl
    refine g_iload C X1 at_612 rfl rfl ?_
    refine g_icmp C X1 at_614 (by decide) rfl rfl ?_ ?_
    · intro h614
      have h614 : ¬ r.toInt = ex.toInt := h614
      exact absurd (congrArg Int32.toInt hsame) h614
    · intro h614
      have h614 : r.toInt = ex.toInt := h614
      refine g_iconst C X1 (1 : Int32) at_617 rfl rfl ?_
      refine g_goto C X1 at_618 (by decide) rfl ?_
      exact g_ireturnN C X1 at_622 rfl (Or.inl rfl) ⟨rfl, N1⟩ (by decide) (by decide)
  · skip
    rw [show (1 : Int32).toInt = 1 by decide] at hM hex
    obtain rfl : M = 1 := by omega
    refine g_aload C X0 at_605 rfl rfl ?_
    refine g_aload C X0 at_607 rfl rfl ?_
    refine g_callS (argsL := [(.ref ia), (.ref rp)]) (rest := []) (W := 0) C X0 at_609 e0 (C.t 5 rfl) (C.t 6 rfl) (C.t 7 rfl) (C.t 8 rfl) (sy2_1 l Z a0 C.w [] ia rp x0 x1 x2 r0 r1 r2 r3 h0 n0 Z0 AI AP) (by decide) pd_2 rfl rfl rfl (Nat.le_of_eq rfl) (by decide) (by decide) (by decide) (by decide) rfl ?_
    intro T2 v2_ L2 X2 hQ2
    obtain ⟨⟨r, rfl, hr⟩, N2q, hh2⟩ := hQ2
    have N2 := Fr.app N0 N2q
    have hsame : r = ex := by
      rcases hr with ⟨rfl, u⟩ | ⟨rfl, u⟩ <;> rcases hex with ⟨rfl, v⟩ | ⟨rfl, v⟩
      · rfl
      · exfalso; exact u
      · exfalso; omega
      · rfl
    refine g_iload C X2 at_612 rfl rfl ?_
    refine g_icmp C X2 at_614 (by decide) rfl rfl ?_ ?_
    · intro h614
      have h614 : ¬ r.toInt = ex.toInt := h614
      exact absurd (congrArg Int32.toInt hsame) h614
    · intro h614
      have h614 : r.toInt = ex.toInt := h614
      refine g_iconst C X2 (1 : Int32) at_617 rfl rfl ?_
      refine g_goto C X2 at_618 (by decide) rfl ?_
      exact g_ireturnN C X2 at_622 rfl (Or.inl rfl) ⟨rfl, N2⟩ (by decide) (by decide)
  · skip
    rw [show (2 : Int32).toInt = 2 by decide] at hM hex
    obtain rfl : M = 2 := by omega
    refine g_aload C X0 at_605 rfl rfl ?_
    refine g_aload C X0 at_607 rfl rfl ?_
    refine g_callS (argsL := [(.ref ia), (.ref rp)]) (rest := []) (W := 0) C X0 at_609 e0 (C.t 5 rfl) (C.t 6 rfl) (C.t 7 rfl) (C.t 8 rfl) (sy2_2 l Z a0 C.w [] ia rp x0 x1 x2 r0 r1 r2 r3 h0 n0 Z0 AI AP) (by decide) pd_2 rfl rfl rfl (Nat.le_of_eq rfl) (by decide) (by decide) (by decide) (by decide) rfl ?_
    intro T3 v3_ L3 X3 hQ3
    obtain ⟨⟨r, rfl, hr⟩, N3q, hh3⟩ := hQ3
    have N3 := Fr.app N0 N3q
    have hsame : r = ex := by
      rcases hr with ⟨rfl, u⟩ | ⟨rfl, u⟩ <;> rcases hex with ⟨rfl, v⟩ | ⟨rfl, v⟩
      · rfl
      · exfalso; omega
      · exfalso; omega
      · rfl
    refine g_iload C X3 at_612 rfl rfl ?_
    refine g_icmp C X3 at_614 (by decide) rfl rfl ?_ ?_
    · intro h614
      have h614 : ¬ r.toInt = ex.toInt := h614
      exact absurd (congrArg Int32.toInt hsame) h614
    · intro h614
      have h614 : r.toInt = ex.toInt := h614
      refine g_iconst C X3 (1 : Int32) at_617 rfl rfl ?_
      refine g_goto C X3 at_618 (by decide) rfl ?_
      exact g_ireturnN C X3 at_622 rfl (Or.inl rfl) ⟨rfl, N3⟩ (by decide) (by decide)
  · skip
    rw [show (3 : Int32).toInt = 3 by decide] at hM hex
    obtain rfl : M = 3 := by omega
    refine g_aload C X0 at_605 rfl rfl ?_
    refine g_aload C X0 at_607 rfl rfl ?_
    refine g_callS (argsL := [(.ref ia), (.ref rp)]) (rest := []) (W := 0) C X0 at_609 e0 (C.t 5 rfl) (C.t 6 rfl) (C.t 7 rfl) (C.t 8 rfl) (sy2_3 l Z a0 C.w [] ia rp x0 x1 x2 r0 r1 r2 r3 h0 n0 Z0 AI AP) (by decide) pd_2 rfl rfl rfl (Nat.le_of_eq rfl) (by decide) (by decide) (by decide) (by decide) rfl ?_
    intro T4 v4_ L4 X4 hQ4
    obtain ⟨⟨r, rfl, hr⟩, N4q, hh4⟩ := hQ4
    have N4 := Fr.app N0 N4q
    have hsame : r = ex := by
      rcases hr with ⟨rfl, u⟩ | ⟨rfl, u⟩ <;> rcases hex with ⟨rfl, v⟩ | ⟨rfl, v⟩
      · rfl
      · exfalso; omega
      · exfalso; omega
      · rfl
    refine g_iload C X4 at_612 rfl rfl ?_
    refine g_icmp C X4 at_614 (by decide) rfl rfl ?_ ?_
    · intro h614
      have h614 : ¬ r.toInt = ex.toInt := h614
      exact absurd (congrArg Int32.toInt hsame) h614
    · intro h614
      have h614 : r.toInt = ex.toInt := h614
      refine g_iconst C X4 (1 : Int32) at_617 rfl rfl ?_
      refine g_goto C X4 at_618 (by decide) rfl ?_
      exact g_ireturnN C X4 at_622 rfl (Or.inl rfl) ⟨rfl, N4⟩ (by decide) (by decide)
  · skip
    rw [show (4 : Int32).toInt = 4 by decide] at hM hex
    obtain rfl : M = 4 := by omega
    refine g_aload C X0 at_605 rfl rfl ?_
    refine g_aload C X0 at_607 rfl rfl ?_
    refine g_callS (argsL := [(.ref ia), (.ref rp)]) (rest := []) (W := 0) C X0 at_609 e0 (C.t 5 rfl) (C.t 6 rfl) (C.t 7 rfl) (C.t 8 rfl) (sy2_4 l Z a0 C.w [] ia rp x0 x1 x2 r0 r1 r2 r3 h0 n0 Z0 AI AP) (by decide) pd_2 rfl rfl rfl (Nat.le_of_eq rfl) (by decide) (by decide) (by decide) (by decide) rfl ?_
    intro T5 v5_ L5 X5 hQ5
    obtain ⟨⟨r, rfl, hr⟩, N5q, hh5⟩ := hQ5
    have N5 := Fr.app N0 N5q
    have hsame : r = ex := by
      rcases hr with ⟨rfl, u⟩ | ⟨rfl, u⟩ <;> rcases hex with ⟨rfl, v⟩ | ⟨rfl, v⟩
      · rfl
      · exfalso; omega
      · exfalso; omega
      · rfl
    refine g_iload C X5 at_612 rfl rfl ?_
    refine g_icmp C X5 at_614 (by decide) rfl rfl ?_ ?_
    · intro h614
      have h614 : ¬ r.toInt = ex.toInt := h614
      exact absurd (congrArg Int32.toInt hsame) h614
    · intro h614
      have h614 : r.toInt = ex.toInt := h614
      refine g_iconst C X5 (1 : Int32) at_617 rfl rfl ?_
      refine g_goto C X5 at_618 (by decide) rfl ?_
      exact g_ireturnN C X5 at_622 rfl (Or.inl rfl) ⟨rfl, N5⟩ (by decide) (by decide)
set_option maxRecDepth 65536 in
set_option maxHeartbeats 40000000 in
theorem blk2_5 {p : Program} {l : Launch} {e : Env} {s : State} {m : MethodId} {args : Array Value} {below : List Frame} {meth : Method} {c : Code} {T0 : State} {locs : List Loc} {Z : State} {a0 : Array Value} {h0 : Heap} {n0 : Nat} {y0 y1 y2 mm x0 x1 x2 r0 r1 r2 r3 : Int32} {ia rp rr : Addr} {M : Nat}
    (C : Cx Z a0 p s m meth c code maxLocals "com/example/ballast/ballast/storage/ClusterCatalogIsInSyncOfPinLaw" "law" ret) (X0 : Stand p l e room_1 s m args below meth c T0 locs 3 11) (e0 : T0.heap = h0) (N0 : Fr n0 locs) (Z0 : n0 ≤ h0.size) (AI : Aw Z h0 ia .int 2 (fun j => .int (([x0, x1] : List Int32).getD j 0))) (AP : Aw Z h0 rp .int M (fun j => .int (([r0, r1, r2, r3] : List Int32).getD j 0))) (AR : Aw Z h0 rr .int 4 (fun j => .int (([r0, r1, r2, r3] : List Int32).getD j 0))) (hM : mm.toInt = M) (hm : mm = (0 : Int32) ∨ mm = (1 : Int32) ∨ mm = (2 : Int32) ∨ mm = (3 : Int32) ∨ mm = (4 : Int32)) (k0 : ¬ (0 < mm.toInt ∧ r0.toInt = x0.toInt ∧ 1 < mm.toInt ∧ r1.toInt = x1.toInt)) (k1 : ¬ (0 < mm.toInt ∧ r0.toInt = x0.toInt ∧ 2 < mm.toInt ∧ r2.toInt = x1.toInt)) (k2 : ¬ (0 < mm.toInt ∧ r0.toInt = x0.toInt ∧ 3 < mm.toInt ∧ r3.toInt = x1.toInt)) (k3 : ¬ (1 < mm.toInt ∧ r1.toInt = x0.toInt ∧ 2 < mm.toInt ∧ r2.toInt = x1.toInt)) (k4 : ¬ (1 < mm.toInt ∧ r1.toInt = x0.toInt ∧ 3 < mm.toInt ∧ r3.toInt = x1.toInt)) :
    Go p e below s m (LQ n0) room_1.cells room_1.slots T0 406 #[.val (.int y0), .val (.int y1), .val (.int y2), .val (.int (2 : Int32)), .val (.int mm), .val (.int x0), .val (.int x1), .val (.int x2), .val (.int r0), .val (.int r1), .val (.int r2), .val (.int r3), .val (.ref ia), .val (.ref rp), .val (.ref rr), .unset] [] := by
  refine g_aload C X0 at_406 rfl rfl ?_
  refine g_iload C X0 at_408 rfl rfl ?_
  refine g_iconst C X0 (2 : Int32) at_410 rfl rfl ?_
  refine g_iload C X0 at_411 rfl rfl ?_
  refine g_callS (argsL := [(.ref rr), (.int mm), (.int (2 : Int32)), (.int x0)]) (rest := []) (W := 0) C X0 at_413 e0 (C.t 1 rfl) (C.t 2 rfl) (C.t 3 rfl) (C.t 4 rfl) (rm1 l Z a0 C.w [] rr mm (2 : Int32) x0 (fun j => ([r0, r1, r2, r3] : List Int32).getD j 0) h0 n0 Z0 AR (by decide) (by decide)) (by decide) pd_1 rfl rfl rfl (Nat.le_of_eq rfl) (by decide) (by decide) (by decide) (by decide) rfl ?_
  intro T1 v1_ L1 X1 hQ1
  obtain ⟨⟨q1, rfl, hq1⟩, N1q, hh1⟩ := hQ1
  have N1 := Fr.app N0 N1q
  have hq1 : (q1 = 1 ∧ (2 < mm.toInt ∧ r2.toInt = x0.toInt) ∨ q1 = 0 ∧ ¬ (2 < mm.toInt ∧ r2.toInt = x0.toInt)) := hq1
  rcases hq1 with ⟨rfl, u1⟩ | ⟨rfl, u1⟩
  · skip
    refine g_if C X1 at_416 (by decide) rfl rfl ?_ ?_
    · intro h416
      have h416 : (1 : Int) = 0 := h416
      exact absurd h416 (by decide)
    · intro h416
      have h416 : ¬ (1 : Int) = 0 := h416
      refine g_aload C X1 at_419 rfl rfl ?_
      refine g_iload C X1 at_421 rfl rfl ?_
      refine g_iconst C X1 (3 : Int32) at_423 rfl rfl ?_
      refine g_iload C X1 at_424 rfl rfl ?_
      refine g_callS (argsL := [(.ref rr), (.int mm), (.int (3 : Int32)), (.int x1)]) (rest := []) (W := 0) C X1 at_426 hh1 (C.t 1 rfl) (C.t 2 rfl) (C.t 3 rfl) (C.t 4 rfl) (rm1 l Z a0 C.w [] rr mm (3 : Int32) x1 (fun j => ([r0, r1, r2, r3] : List Int32).getD j 0) h0 n0 Z0 AR (by decide) (by decide)) (by decide) pd_1 rfl rfl rfl (Nat.le_of_eq rfl) (by decide) (by decide) (by decide) (by decide) rfl ?_
      intro T2 v2_ L2 X2 hQ2
      obtain ⟨⟨q2, rfl, hq2⟩, N2q, hh2⟩ := hQ2
      have N2 := Fr.app N1 N2q
      have hq2 : (q2 = 1 ∧ (3 < mm.toInt ∧ r3.toInt = x1.toInt) ∨ q2 = 0 ∧ ¬ (3 < mm.toInt ∧ r3.toInt = x1.toInt)) := hq2
      rcases hq2 with ⟨rfl, u2⟩ | ⟨rfl, u2⟩
      · skip
        refine g_if C X2 at_429 (by decide) rfl rfl ?_ ?_
        · intro h429
          have h429 : (1 : Int) = 0 := h429
          exact absurd h429 (by decide)
        · intro h429
          have h429 : ¬ (1 : Int) = 0 := h429
          refine g_iconst C X2 (1 : Int32) at_432 rfl rfl ?_
          refine g_goto C X2 at_433 (by decide) rfl ?_
          refine g_istore C X2 at_437 #[.val (.int y0), .val (.int y1), .val (.int y2), .val (.int (2 : Int32)), .val (.int mm), .val (.int x0), .val (.int x1), .val (.int x2), .val (.int r0), .val (.int r1), .val (.int r2), .val (.int r3), .val (.ref ia), .val (.ref rp), .val (.ref rr), .val (.int (1 : Int32))] rfl rfl ?_
          refine g_goto C X2 at_439 (by decide) rfl ?_
          exact fin2 C X2 hh2 N2 Z0 AI AP AR hM hm (Or.inl ⟨rfl, by omega⟩)
      · skip
        refine g_if C X2 at_429 (by decide) rfl rfl ?_ ?_
        · intro h429
          have h429 : (0 : Int) = 0 := h429
          refine g_iconst C X2 (0 : Int32) at_436 rfl rfl ?_
          refine g_istore C X2 at_437 #[.val (.int y0), .val (.int y1), .val (.int y2), .val (.int (2 : Int32)), .val (.int mm), .val (.int x0), .val (.int x1), .val (.int x2), .val (.int r0), .val (.int r1), .val (.int r2), .val (.int r3), .val (.ref ia), .val (.ref rp), .val (.ref rr), .val (.int (0 : Int32))] rfl rfl ?_
          refine g_goto C X2 at_439 (by decide) rfl ?_
          exact fin2 C X2 hh2 N2 Z0 AI AP AR hM hm (Or.inr ⟨rfl, by omega⟩)
        · intro h429
          have h429 : ¬ (0 : Int) = 0 := h429
          exact absurd h429 (by decide)
  · skip
    refine g_if C X1 at_416 (by decide) rfl rfl ?_ ?_
    · intro h416
      have h416 : (0 : Int) = 0 := h416
      refine g_iconst C X1 (0 : Int32) at_436 rfl rfl ?_
      refine g_istore C X1 at_437 #[.val (.int y0), .val (.int y1), .val (.int y2), .val (.int (2 : Int32)), .val (.int mm), .val (.int x0), .val (.int x1), .val (.int x2), .val (.int r0), .val (.int r1), .val (.int r2), .val (.int r3), .val (.ref ia), .val (.ref rp), .val (.ref rr), .val (.int (0 : Int32))] rfl rfl ?_
      refine g_goto C X1 at_439 (by decide) rfl ?_
      exact fin2 C X1 hh1 N1 Z0 AI AP AR hM hm (Or.inr ⟨rfl, by omega⟩)
    · intro h416
      have h416 : ¬ (0 : Int) = 0 := h416
      exact absurd h416 (by decide)
set_option maxRecDepth 65536 in
set_option maxHeartbeats 40000000 in
theorem blk2_4 {p : Program} {l : Launch} {e : Env} {s : State} {m : MethodId} {args : Array Value} {below : List Frame} {meth : Method} {c : Code} {T0 : State} {locs : List Loc} {Z : State} {a0 : Array Value} {h0 : Heap} {n0 : Nat} {y0 y1 y2 mm x0 x1 x2 r0 r1 r2 r3 : Int32} {ia rp rr : Addr} {M : Nat}
    (C : Cx Z a0 p s m meth c code maxLocals "com/example/ballast/ballast/storage/ClusterCatalogIsInSyncOfPinLaw" "law" ret) (X0 : Stand p l e room_1 s m args below meth c T0 locs 3 11) (e0 : T0.heap = h0) (N0 : Fr n0 locs) (Z0 : n0 ≤ h0.size) (AI : Aw Z h0 ia .int 2 (fun j => .int (([x0, x1] : List Int32).getD j 0))) (AP : Aw Z h0 rp .int M (fun j => .int (([r0, r1, r2, r3] : List Int32).getD j 0))) (AR : Aw Z h0 rr .int 4 (fun j => .int (([r0, r1, r2, r3] : List Int32).getD j 0))) (hM : mm.toInt = M) (hm : mm = (0 : Int32) ∨ mm = (1 : Int32) ∨ mm = (2 : Int32) ∨ mm = (3 : Int32) ∨ mm = (4 : Int32)) (k0 : ¬ (0 < mm.toInt ∧ r0.toInt = x0.toInt ∧ 1 < mm.toInt ∧ r1.toInt = x1.toInt)) (k1 : ¬ (0 < mm.toInt ∧ r0.toInt = x0.toInt ∧ 2 < mm.toInt ∧ r2.toInt = x1.toInt)) (k2 : ¬ (0 < mm.toInt ∧ r0.toInt = x0.toInt ∧ 3 < mm.toInt ∧ r3.toInt = x1.toInt)) (k3 : ¬ (1 < mm.toInt ∧ r1.toInt = x0.toInt ∧ 2 < mm.toInt ∧ r2.toInt = x1.toInt)) :
    Go p e below s m (LQ n0) room_1.cells room_1.slots T0 380 #[.val (.int y0), .val (.int y1), .val (.int y2), .val (.int (2 : Int32)), .val (.int mm), .val (.int x0), .val (.int x1), .val (.int x2), .val (.int r0), .val (.int r1), .val (.int r2), .val (.int r3), .val (.ref ia), .val (.ref rp), .val (.ref rr), .unset] [] := by
  refine g_aload C X0 at_380 rfl rfl ?_
  refine g_iload C X0 at_382 rfl rfl ?_
  refine g_iconst C X0 (1 : Int32) at_384 rfl rfl ?_
  refine g_iload C X0 at_385 rfl rfl ?_
  refine g_callS (argsL := [(.ref rr), (.int mm), (.int (1 : Int32)), (.int x0)]) (rest := []) (W := 0) C X0 at_387 e0 (C.t 1 rfl) (C.t 2 rfl) (C.t 3 rfl) (C.t 4 rfl) (rm1 l Z a0 C.w [] rr mm (1 : Int32) x0 (fun j => ([r0, r1, r2, r3] : List Int32).getD j 0) h0 n0 Z0 AR (by decide) (by decide)) (by decide) pd_1 rfl rfl rfl (Nat.le_of_eq rfl) (by decide) (by decide) (by decide) (by decide) rfl ?_
  intro T1 v1_ L1 X1 hQ1
  obtain ⟨⟨q1, rfl, hq1⟩, N1q, hh1⟩ := hQ1
  have N1 := Fr.app N0 N1q
  have hq1 : (q1 = 1 ∧ (1 < mm.toInt ∧ r1.toInt = x0.toInt) ∨ q1 = 0 ∧ ¬ (1 < mm.toInt ∧ r1.toInt = x0.toInt)) := hq1
  rcases hq1 with ⟨rfl, u1⟩ | ⟨rfl, u1⟩
  · skip
    refine g_if C X1 at_390 (by decide) rfl rfl ?_ ?_
    · intro h390
      have h390 : (1 : Int) = 0 := h390
      exact absurd h390 (by decide)
    · intro h390
      have h390 : ¬ (1 : Int) = 0 := h390
      refine g_aload C X1 at_393 rfl rfl ?_
      refine g_iload C X1 at_395 rfl rfl ?_
      refine g_iconst C X1 (3 : Int32) at_397 rfl rfl ?_
      refine g_iload C X1 at_398 rfl rfl ?_
      refine g_callS (argsL := [(.ref rr), (.int mm), (.int (3 : Int32)), (.int x1)]) (rest := []) (W := 0) C X1 at_400 hh1 (C.t 1 rfl) (C.t 2 rfl) (C.t 3 rfl) (C.t 4 rfl) (rm1 l Z a0 C.w [] rr mm (3 : Int32) x1 (fun j => ([r0, r1, r2, r3] : List Int32).getD j 0) h0 n0 Z0 AR (by decide) (by decide)) (by decide) pd_1 rfl rfl rfl (Nat.le_of_eq rfl) (by decide) (by decide) (by decide) (by decide) rfl ?_
      intro T2 v2_ L2 X2 hQ2
      obtain ⟨⟨q2, rfl, hq2⟩, N2q, hh2⟩ := hQ2
      have N2 := Fr.app N1 N2q
      have hq2 : (q2 = 1 ∧ (3 < mm.toInt ∧ r3.toInt = x1.toInt) ∨ q2 = 0 ∧ ¬ (3 < mm.toInt ∧ r3.toInt = x1.toInt)) := hq2
      rcases hq2 with ⟨rfl, u2⟩ | ⟨rfl, u2⟩
      · skip
        refine g_if C X2 at_403 (by decide) rfl rfl ?_ ?_
        · intro h403
          have h403 : ¬ (1 : Int) = 0 := h403
          refine g_iconst C X2 (1 : Int32) at_432 rfl rfl ?_
          refine g_goto C X2 at_433 (by decide) rfl ?_
          refine g_istore C X2 at_437 #[.val (.int y0), .val (.int y1), .val (.int y2), .val (.int (2 : Int32)), .val (.int mm), .val (.int x0), .val (.int x1), .val (.int x2), .val (.int r0), .val (.int r1), .val (.int r2), .val (.int r3), .val (.ref ia), .val (.ref rp), .val (.ref rr), .val (.int (1 : Int32))] rfl rfl ?_
          refine g_goto C X2 at_439 (by decide) rfl ?_
          exact fin2 C X2 hh2 N2 Z0 AI AP AR hM hm (Or.inl ⟨rfl, by omega⟩)
        · intro h403
          have h403 : (1 : Int) = 0 := h403
          exact absurd h403 (by decide)
      · skip
        refine g_if C X2 at_403 (by decide) rfl rfl ?_ ?_
        · intro h403
          have h403 : ¬ (0 : Int) = 0 := h403
          exact absurd h403 (by decide)
        · intro h403
          have h403 : (0 : Int) = 0 := h403
          exact blk2_5 C X2 hh2 N2 Z0 AI AP AR hM hm k0 k1 k2 k3 (by omega)
  · skip
    refine g_if C X1 at_390 (by decide) rfl rfl ?_ ?_
    · intro h390
      have h390 : (0 : Int) = 0 := h390
      exact blk2_5 C X1 hh1 N1 Z0 AI AP AR hM hm k0 k1 k2 k3 (by omega)
    · intro h390
      have h390 : ¬ (0 : Int) = 0 := h390
      exact absurd h390 (by decide)
set_option maxRecDepth 65536 in
set_option maxHeartbeats 40000000 in
theorem blk2_3 {p : Program} {l : Launch} {e : Env} {s : State} {m : MethodId} {args : Array Value} {below : List Frame} {meth : Method} {c : Code} {T0 : State} {locs : List Loc} {Z : State} {a0 : Array Value} {h0 : Heap} {n0 : Nat} {y0 y1 y2 mm x0 x1 x2 r0 r1 r2 r3 : Int32} {ia rp rr : Addr} {M : Nat}
    (C : Cx Z a0 p s m meth c code maxLocals "com/example/ballast/ballast/storage/ClusterCatalogIsInSyncOfPinLaw" "law" ret) (X0 : Stand p l e room_1 s m args below meth c T0 locs 3 11) (e0 : T0.heap = h0) (N0 : Fr n0 locs) (Z0 : n0 ≤ h0.size) (AI : Aw Z h0 ia .int 2 (fun j => .int (([x0, x1] : List Int32).getD j 0))) (AP : Aw Z h0 rp .int M (fun j => .int (([r0, r1, r2, r3] : List Int32).getD j 0))) (AR : Aw Z h0 rr .int 4 (fun j => .int (([r0, r1, r2, r3] : List Int32).getD j 0))) (hM : mm.toInt = M) (hm : mm = (0 : Int32) ∨ mm = (1 : Int32) ∨ mm = (2 : Int32) ∨ mm = (3 : Int32) ∨ mm = (4 : Int32)) (k0 : ¬ (0 < mm.toInt ∧ r0.toInt = x0.toInt ∧ 1 < mm.toInt ∧ r1.toInt = x1.toInt)) (k1 : ¬ (0 < mm.toInt ∧ r0.toInt = x0.toInt ∧ 2 < mm.toInt ∧ r2.toInt = x1.toInt)) (k2 : ¬ (0 < mm.toInt ∧ r0.toInt = x0.toInt ∧ 3 < mm.toInt ∧ r3.toInt = x1.toInt)) :
    Go p e below s m (LQ n0) room_1.cells room_1.slots T0 354 #[.val (.int y0), .val (.int y1), .val (.int y2), .val (.int (2 : Int32)), .val (.int mm), .val (.int x0), .val (.int x1), .val (.int x2), .val (.int r0), .val (.int r1), .val (.int r2), .val (.int r3), .val (.ref ia), .val (.ref rp), .val (.ref rr), .unset] [] := by
  refine g_aload C X0 at_354 rfl rfl ?_
  refine g_iload C X0 at_356 rfl rfl ?_
  refine g_iconst C X0 (1 : Int32) at_358 rfl rfl ?_
  refine g_iload C X0 at_359 rfl rfl ?_
  refine g_callS (argsL := [(.ref rr), (.int mm), (.int (1 : Int32)), (.int x0)]) (rest := []) (W := 0) C X0 at_361 e0 (C.t 1 rfl) (C.t 2 rfl) (C.t 3 rfl) (C.t 4 rfl) (rm1 l Z a0 C.w [] rr mm (1 : Int32) x0 (fun j => ([r0, r1, r2, r3] : List Int32).getD j 0) h0 n0 Z0 AR (by decide) (by decide)) (by decide) pd_1 rfl rfl rfl (Nat.le_of_eq rfl) (by decide) (by decide) (by decide) (by decide) rfl ?_
  intro T1 v1_ L1 X1 hQ1
  obtain ⟨⟨q1, rfl, hq1⟩, N1q, hh1⟩ := hQ1
  have N1 := Fr.app N0 N1q
  have hq1 : (q1 = 1 ∧ (1 < mm.toInt ∧ r1.toInt = x0.toInt) ∨ q1 = 0 ∧ ¬ (1 < mm.toInt ∧ r1.toInt = x0.toInt)) := hq1
  rcases hq1 with ⟨rfl, u1⟩ | ⟨rfl, u1⟩
  · skip
    refine g_if C X1 at_364 (by decide) rfl rfl ?_ ?_
    · intro h364
      have h364 : (1 : Int) = 0 := h364
      exact absurd h364 (by decide)
    · intro h364
      have h364 : ¬ (1 : Int) = 0 := h364
      refine g_aload C X1 at_367 rfl rfl ?_
      refine g_iload C X1 at_369 rfl rfl ?_
      refine g_iconst C X1 (2 : Int32) at_371 rfl rfl ?_
      refine g_iload C X1 at_372 rfl rfl ?_
      refine g_callS (argsL := [(.ref rr), (.int mm), (.int (2 : Int32)), (.int x1)]) (rest := []) (W := 0) C X1 at_374 hh1 (C.t 1 rfl) (C.t 2 rfl) (C.t 3 rfl) (C.t 4 rfl) (rm1 l Z a0 C.w [] rr mm (2 : Int32) x1 (fun j => ([r0, r1, r2, r3] : List Int32).getD j 0) h0 n0 Z0 AR (by decide) (by decide)) (by decide) pd_1 rfl rfl rfl (Nat.le_of_eq rfl) (by decide) (by decide) (by decide) (by decide) rfl ?_
      intro T2 v2_ L2 X2 hQ2
      obtain ⟨⟨q2, rfl, hq2⟩, N2q, hh2⟩ := hQ2
      have N2 := Fr.app N1 N2q
      have hq2 : (q2 = 1 ∧ (2 < mm.toInt ∧ r2.toInt = x1.toInt) ∨ q2 = 0 ∧ ¬ (2 < mm.toInt ∧ r2.toInt = x1.toInt)) := hq2
      rcases hq2 with ⟨rfl, u2⟩ | ⟨rfl, u2⟩
      · skip
        refine g_if C X2 at_377 (by decide) rfl rfl ?_ ?_
        · intro h377
          have h377 : ¬ (1 : Int) = 0 := h377
          refine g_iconst C X2 (1 : Int32) at_432 rfl rfl ?_
          refine g_goto C X2 at_433 (by decide) rfl ?_
          refine g_istore C X2 at_437 #[.val (.int y0), .val (.int y1), .val (.int y2), .val (.int (2 : Int32)), .val (.int mm), .val (.int x0), .val (.int x1), .val (.int x2), .val (.int r0), .val (.int r1), .val (.int r2), .val (.int r3), .val (.ref ia), .val (.ref rp), .val (.ref rr), .val (.int (1 : Int32))] rfl rfl ?_
          refine g_goto C X2 at_439 (by decide) rfl ?_
          exact fin2 C X2 hh2 N2 Z0 AI AP AR hM hm (Or.inl ⟨rfl, by omega⟩)
        · intro h377
          have h377 : (1 : Int) = 0 := h377
          exact absurd h377 (by decide)
      · skip
        refine g_if C X2 at_377 (by decide) rfl rfl ?_ ?_
        · intro h377
          have h377 : ¬ (0 : Int) = 0 := h377
          exact absurd h377 (by decide)
        · intro h377
          have h377 : (0 : Int) = 0 := h377
          exact blk2_4 C X2 hh2 N2 Z0 AI AP AR hM hm k0 k1 k2 (by omega)
  · skip
    refine g_if C X1 at_364 (by decide) rfl rfl ?_ ?_
    · intro h364
      have h364 : (0 : Int) = 0 := h364
      exact blk2_4 C X1 hh1 N1 Z0 AI AP AR hM hm k0 k1 k2 (by omega)
    · intro h364
      have h364 : ¬ (0 : Int) = 0 := h364
      exact absurd h364 (by decide)
set_option maxRecDepth 65536 in
set_option maxHeartbeats 40000000 in
theorem blk2_2 {p : Program} {l : Launch} {e : Env} {s : State} {m : MethodId} {args : Array Value} {below : List Frame} {meth : Method} {c : Code} {T0 : State} {locs : List Loc} {Z : State} {a0 : Array Value} {h0 : Heap} {n0 : Nat} {y0 y1 y2 mm x0 x1 x2 r0 r1 r2 r3 : Int32} {ia rp rr : Addr} {M : Nat}
    (C : Cx Z a0 p s m meth c code maxLocals "com/example/ballast/ballast/storage/ClusterCatalogIsInSyncOfPinLaw" "law" ret) (X0 : Stand p l e room_1 s m args below meth c T0 locs 3 11) (e0 : T0.heap = h0) (N0 : Fr n0 locs) (Z0 : n0 ≤ h0.size) (AI : Aw Z h0 ia .int 2 (fun j => .int (([x0, x1] : List Int32).getD j 0))) (AP : Aw Z h0 rp .int M (fun j => .int (([r0, r1, r2, r3] : List Int32).getD j 0))) (AR : Aw Z h0 rr .int 4 (fun j => .int (([r0, r1, r2, r3] : List Int32).getD j 0))) (hM : mm.toInt = M) (hm : mm = (0 : Int32) ∨ mm = (1 : Int32) ∨ mm = (2 : Int32) ∨ mm = (3 : Int32) ∨ mm = (4 : Int32)) (k0 : ¬ (0 < mm.toInt ∧ r0.toInt = x0.toInt ∧ 1 < mm.toInt ∧ r1.toInt = x1.toInt)) (k1 : ¬ (0 < mm.toInt ∧ r0.toInt = x0.toInt ∧ 2 < mm.toInt ∧ r2.toInt = x1.toInt)) :
    Go p e below s m (LQ n0) room_1.cells room_1.slots T0 328 #[.val (.int y0), .val (.int y1), .val (.int y2), .val (.int (2 : Int32)), .val (.int mm), .val (.int x0), .val (.int x1), .val (.int x2), .val (.int r0), .val (.int r1), .val (.int r2), .val (.int r3), .val (.ref ia), .val (.ref rp), .val (.ref rr), .unset] [] := by
  refine g_aload C X0 at_328 rfl rfl ?_
  refine g_iload C X0 at_330 rfl rfl ?_
  refine g_iconst C X0 (0 : Int32) at_332 rfl rfl ?_
  refine g_iload C X0 at_333 rfl rfl ?_
  refine g_callS (argsL := [(.ref rr), (.int mm), (.int (0 : Int32)), (.int x0)]) (rest := []) (W := 0) C X0 at_335 e0 (C.t 1 rfl) (C.t 2 rfl) (C.t 3 rfl) (C.t 4 rfl) (rm1 l Z a0 C.w [] rr mm (0 : Int32) x0 (fun j => ([r0, r1, r2, r3] : List Int32).getD j 0) h0 n0 Z0 AR (by decide) (by decide)) (by decide) pd_1 rfl rfl rfl (Nat.le_of_eq rfl) (by decide) (by decide) (by decide) (by decide) rfl ?_
  intro T1 v1_ L1 X1 hQ1
  obtain ⟨⟨q1, rfl, hq1⟩, N1q, hh1⟩ := hQ1
  have N1 := Fr.app N0 N1q
  have hq1 : (q1 = 1 ∧ (0 < mm.toInt ∧ r0.toInt = x0.toInt) ∨ q1 = 0 ∧ ¬ (0 < mm.toInt ∧ r0.toInt = x0.toInt)) := hq1
  rcases hq1 with ⟨rfl, u1⟩ | ⟨rfl, u1⟩
  · skip
    refine g_if C X1 at_338 (by decide) rfl rfl ?_ ?_
    · intro h338
      have h338 : (1 : Int) = 0 := h338
      exact absurd h338 (by decide)
    · intro h338
      have h338 : ¬ (1 : Int) = 0 := h338
      refine g_aload C X1 at_341 rfl rfl ?_
      refine g_iload C X1 at_343 rfl rfl ?_
      refine g_iconst C X1 (3 : Int32) at_345 rfl rfl ?_
      refine g_iload C X1 at_346 rfl rfl ?_
      refine g_callS (argsL := [(.ref rr), (.int mm), (.int (3 : Int32)), (.int x1)]) (rest := []) (W := 0) C X1 at_348 hh1 (C.t 1 rfl) (C.t 2 rfl) (C.t 3 rfl) (C.t 4 rfl) (rm1 l Z a0 C.w [] rr mm (3 : Int32) x1 (fun j => ([r0, r1, r2, r3] : List Int32).getD j 0) h0 n0 Z0 AR (by decide) (by decide)) (by decide) pd_1 rfl rfl rfl (Nat.le_of_eq rfl) (by decide) (by decide) (by decide) (by decide) rfl ?_
      intro T2 v2_ L2 X2 hQ2
      obtain ⟨⟨q2, rfl, hq2⟩, N2q, hh2⟩ := hQ2
      have N2 := Fr.app N1 N2q
      have hq2 : (q2 = 1 ∧ (3 < mm.toInt ∧ r3.toInt = x1.toInt) ∨ q2 = 0 ∧ ¬ (3 < mm.toInt ∧ r3.toInt = x1.toInt)) := hq2
      rcases hq2 with ⟨rfl, u2⟩ | ⟨rfl, u2⟩
      · skip
        refine g_if C X2 at_351 (by decide) rfl rfl ?_ ?_
        · intro h351
          have h351 : ¬ (1 : Int) = 0 := h351
          refine g_iconst C X2 (1 : Int32) at_432 rfl rfl ?_
          refine g_goto C X2 at_433 (by decide) rfl ?_
          refine g_istore C X2 at_437 #[.val (.int y0), .val (.int y1), .val (.int y2), .val (.int (2 : Int32)), .val (.int mm), .val (.int x0), .val (.int x1), .val (.int x2), .val (.int r0), .val (.int r1), .val (.int r2), .val (.int r3), .val (.ref ia), .val (.ref rp), .val (.ref rr), .val (.int (1 : Int32))] rfl rfl ?_
          refine g_goto C X2 at_439 (by decide) rfl ?_
          exact fin2 C X2 hh2 N2 Z0 AI AP AR hM hm (Or.inl ⟨rfl, by omega⟩)
        · intro h351
          have h351 : (1 : Int) = 0 := h351
          exact absurd h351 (by decide)
      · skip
        refine g_if C X2 at_351 (by decide) rfl rfl ?_ ?_
        · intro h351
          have h351 : ¬ (0 : Int) = 0 := h351
          exact absurd h351 (by decide)
        · intro h351
          have h351 : (0 : Int) = 0 := h351
          exact blk2_3 C X2 hh2 N2 Z0 AI AP AR hM hm k0 k1 (by omega)
  · skip
    refine g_if C X1 at_338 (by decide) rfl rfl ?_ ?_
    · intro h338
      have h338 : (0 : Int) = 0 := h338
      exact blk2_3 C X1 hh1 N1 Z0 AI AP AR hM hm k0 k1 (by omega)
    · intro h338
      have h338 : ¬ (0 : Int) = 0 := h338
      exact absurd h338 (by decide)
set_option maxRecDepth 65536 in
set_option maxHeartbeats 40000000 in
theorem blk2_1 {p : Program} {l : Launch} {e : Env} {s : State} {m : MethodId} {args : Array Value} {below : List Frame} {meth : Method} {c : Code} {T0 : State} {locs : List Loc} {Z : State} {a0 : Array Value} {h0 : Heap} {n0 : Nat} {y0 y1 y2 mm x0 x1 x2 r0 r1 r2 r3 : Int32} {ia rp rr : Addr} {M : Nat}
    (C : Cx Z a0 p s m meth c code maxLocals "com/example/ballast/ballast/storage/ClusterCatalogIsInSyncOfPinLaw" "law" ret) (X0 : Stand p l e room_1 s m args below meth c T0 locs 3 11) (e0 : T0.heap = h0) (N0 : Fr n0 locs) (Z0 : n0 ≤ h0.size) (AI : Aw Z h0 ia .int 2 (fun j => .int (([x0, x1] : List Int32).getD j 0))) (AP : Aw Z h0 rp .int M (fun j => .int (([r0, r1, r2, r3] : List Int32).getD j 0))) (AR : Aw Z h0 rr .int 4 (fun j => .int (([r0, r1, r2, r3] : List Int32).getD j 0))) (hM : mm.toInt = M) (hm : mm = (0 : Int32) ∨ mm = (1 : Int32) ∨ mm = (2 : Int32) ∨ mm = (3 : Int32) ∨ mm = (4 : Int32)) (k0 : ¬ (0 < mm.toInt ∧ r0.toInt = x0.toInt ∧ 1 < mm.toInt ∧ r1.toInt = x1.toInt)) :
    Go p e below s m (LQ n0) room_1.cells room_1.slots T0 302 #[.val (.int y0), .val (.int y1), .val (.int y2), .val (.int (2 : Int32)), .val (.int mm), .val (.int x0), .val (.int x1), .val (.int x2), .val (.int r0), .val (.int r1), .val (.int r2), .val (.int r3), .val (.ref ia), .val (.ref rp), .val (.ref rr), .unset] [] := by
  refine g_aload C X0 at_302 rfl rfl ?_
  refine g_iload C X0 at_304 rfl rfl ?_
  refine g_iconst C X0 (0 : Int32) at_306 rfl rfl ?_
  refine g_iload C X0 at_307 rfl rfl ?_
  refine g_callS (argsL := [(.ref rr), (.int mm), (.int (0 : Int32)), (.int x0)]) (rest := []) (W := 0) C X0 at_309 e0 (C.t 1 rfl) (C.t 2 rfl) (C.t 3 rfl) (C.t 4 rfl) (rm1 l Z a0 C.w [] rr mm (0 : Int32) x0 (fun j => ([r0, r1, r2, r3] : List Int32).getD j 0) h0 n0 Z0 AR (by decide) (by decide)) (by decide) pd_1 rfl rfl rfl (Nat.le_of_eq rfl) (by decide) (by decide) (by decide) (by decide) rfl ?_
  intro T1 v1_ L1 X1 hQ1
  obtain ⟨⟨q1, rfl, hq1⟩, N1q, hh1⟩ := hQ1
  have N1 := Fr.app N0 N1q
  have hq1 : (q1 = 1 ∧ (0 < mm.toInt ∧ r0.toInt = x0.toInt) ∨ q1 = 0 ∧ ¬ (0 < mm.toInt ∧ r0.toInt = x0.toInt)) := hq1
  rcases hq1 with ⟨rfl, u1⟩ | ⟨rfl, u1⟩
  · skip
    refine g_if C X1 at_312 (by decide) rfl rfl ?_ ?_
    · intro h312
      have h312 : (1 : Int) = 0 := h312
      exact absurd h312 (by decide)
    · intro h312
      have h312 : ¬ (1 : Int) = 0 := h312
      refine g_aload C X1 at_315 rfl rfl ?_
      refine g_iload C X1 at_317 rfl rfl ?_
      refine g_iconst C X1 (2 : Int32) at_319 rfl rfl ?_
      refine g_iload C X1 at_320 rfl rfl ?_
      refine g_callS (argsL := [(.ref rr), (.int mm), (.int (2 : Int32)), (.int x1)]) (rest := []) (W := 0) C X1 at_322 hh1 (C.t 1 rfl) (C.t 2 rfl) (C.t 3 rfl) (C.t 4 rfl) (rm1 l Z a0 C.w [] rr mm (2 : Int32) x1 (fun j => ([r0, r1, r2, r3] : List Int32).getD j 0) h0 n0 Z0 AR (by decide) (by decide)) (by decide) pd_1 rfl rfl rfl (Nat.le_of_eq rfl) (by decide) (by decide) (by decide) (by decide) rfl ?_
      intro T2 v2_ L2 X2 hQ2
      obtain ⟨⟨q2, rfl, hq2⟩, N2q, hh2⟩ := hQ2
      have N2 := Fr.app N1 N2q
      have hq2 : (q2 = 1 ∧ (2 < mm.toInt ∧ r2.toInt = x1.toInt) ∨ q2 = 0 ∧ ¬ (2 < mm.toInt ∧ r2.toInt = x1.toInt)) := hq2
      rcases hq2 with ⟨rfl, u2⟩ | ⟨rfl, u2⟩
      · skip
        refine g_if C X2 at_325 (by decide) rfl rfl ?_ ?_
        · intro h325
          have h325 : ¬ (1 : Int) = 0 := h325
          refine g_iconst C X2 (1 : Int32) at_432 rfl rfl ?_
          refine g_goto C X2 at_433 (by decide) rfl ?_
          refine g_istore C X2 at_437 #[.val (.int y0), .val (.int y1), .val (.int y2), .val (.int (2 : Int32)), .val (.int mm), .val (.int x0), .val (.int x1), .val (.int x2), .val (.int r0), .val (.int r1), .val (.int r2), .val (.int r3), .val (.ref ia), .val (.ref rp), .val (.ref rr), .val (.int (1 : Int32))] rfl rfl ?_
          refine g_goto C X2 at_439 (by decide) rfl ?_
          exact fin2 C X2 hh2 N2 Z0 AI AP AR hM hm (Or.inl ⟨rfl, by omega⟩)
        · intro h325
          have h325 : (1 : Int) = 0 := h325
          exact absurd h325 (by decide)
      · skip
        refine g_if C X2 at_325 (by decide) rfl rfl ?_ ?_
        · intro h325
          have h325 : ¬ (0 : Int) = 0 := h325
          exact absurd h325 (by decide)
        · intro h325
          have h325 : (0 : Int) = 0 := h325
          exact blk2_2 C X2 hh2 N2 Z0 AI AP AR hM hm k0 (by omega)
  · skip
    refine g_if C X1 at_312 (by decide) rfl rfl ?_ ?_
    · intro h312
      have h312 : (0 : Int) = 0 := h312
      exact blk2_2 C X1 hh1 N1 Z0 AI AP AR hM hm k0 (by omega)
    · intro h312
      have h312 : ¬ (0 : Int) = 0 := h312
      exact absurd h312 (by decide)
set_option maxRecDepth 65536 in
set_option maxHeartbeats 40000000 in
theorem blk2_0 {p : Program} {l : Launch} {e : Env} {s : State} {m : MethodId} {args : Array Value} {below : List Frame} {meth : Method} {c : Code} {T0 : State} {locs : List Loc} {Z : State} {a0 : Array Value} {h0 : Heap} {n0 : Nat} {y0 y1 y2 mm x0 x1 x2 r0 r1 r2 r3 : Int32} {ia rp rr : Addr} {M : Nat}
    (C : Cx Z a0 p s m meth c code maxLocals "com/example/ballast/ballast/storage/ClusterCatalogIsInSyncOfPinLaw" "law" ret) (X0 : Stand p l e room_1 s m args below meth c T0 locs 3 11) (e0 : T0.heap = h0) (N0 : Fr n0 locs) (Z0 : n0 ≤ h0.size) (AI : Aw Z h0 ia .int 2 (fun j => .int (([x0, x1] : List Int32).getD j 0))) (AP : Aw Z h0 rp .int M (fun j => .int (([r0, r1, r2, r3] : List Int32).getD j 0))) (AR : Aw Z h0 rr .int 4 (fun j => .int (([r0, r1, r2, r3] : List Int32).getD j 0))) (hM : mm.toInt = M) (hm : mm = (0 : Int32) ∨ mm = (1 : Int32) ∨ mm = (2 : Int32) ∨ mm = (3 : Int32) ∨ mm = (4 : Int32))  :
    Go p e below s m (LQ n0) room_1.cells room_1.slots T0 276 #[.val (.int y0), .val (.int y1), .val (.int y2), .val (.int (2 : Int32)), .val (.int mm), .val (.int x0), .val (.int x1), .val (.int x2), .val (.int r0), .val (.int r1), .val (.int r2), .val (.int r3), .val (.ref ia), .val (.ref rp), .val (.ref rr), .unset] [] := by
  refine g_aload C X0 at_276 rfl rfl ?_
  refine g_iload C X0 at_278 rfl rfl ?_
  refine g_iconst C X0 (0 : Int32) at_280 rfl rfl ?_
  refine g_iload C X0 at_281 rfl rfl ?_
  refine g_callS (argsL := [(.ref rr), (.int mm), (.int (0 : Int32)), (.int x0)]) (rest := []) (W := 0) C X0 at_283 e0 (C.t 1 rfl) (C.t 2 rfl) (C.t 3 rfl) (C.t 4 rfl) (rm1 l Z a0 C.w [] rr mm (0 : Int32) x0 (fun j => ([r0, r1, r2, r3] : List Int32).getD j 0) h0 n0 Z0 AR (by decide) (by decide)) (by decide) pd_1 rfl rfl rfl (Nat.le_of_eq rfl) (by decide) (by decide) (by decide) (by decide) rfl ?_
  intro T1 v1_ L1 X1 hQ1
  obtain ⟨⟨q1, rfl, hq1⟩, N1q, hh1⟩ := hQ1
  have N1 := Fr.app N0 N1q
  have hq1 : (q1 = 1 ∧ (0 < mm.toInt ∧ r0.toInt = x0.toInt) ∨ q1 = 0 ∧ ¬ (0 < mm.toInt ∧ r0.toInt = x0.toInt)) := hq1
  rcases hq1 with ⟨rfl, u1⟩ | ⟨rfl, u1⟩
  · skip
    refine g_if C X1 at_286 (by decide) rfl rfl ?_ ?_
    · intro h286
      have h286 : (1 : Int) = 0 := h286
      exact absurd h286 (by decide)
    · intro h286
      have h286 : ¬ (1 : Int) = 0 := h286
      refine g_aload C X1 at_289 rfl rfl ?_
      refine g_iload C X1 at_291 rfl rfl ?_
      refine g_iconst C X1 (1 : Int32) at_293 rfl rfl ?_
      refine g_iload C X1 at_294 rfl rfl ?_
      refine g_callS (argsL := [(.ref rr), (.int mm), (.int (1 : Int32)), (.int x1)]) (rest := []) (W := 0) C X1 at_296 hh1 (C.t 1 rfl) (C.t 2 rfl) (C.t 3 rfl) (C.t 4 rfl) (rm1 l Z a0 C.w [] rr mm (1 : Int32) x1 (fun j => ([r0, r1, r2, r3] : List Int32).getD j 0) h0 n0 Z0 AR (by decide) (by decide)) (by decide) pd_1 rfl rfl rfl (Nat.le_of_eq rfl) (by decide) (by decide) (by decide) (by decide) rfl ?_
      intro T2 v2_ L2 X2 hQ2
      obtain ⟨⟨q2, rfl, hq2⟩, N2q, hh2⟩ := hQ2
      have N2 := Fr.app N1 N2q
      have hq2 : (q2 = 1 ∧ (1 < mm.toInt ∧ r1.toInt = x1.toInt) ∨ q2 = 0 ∧ ¬ (1 < mm.toInt ∧ r1.toInt = x1.toInt)) := hq2
      rcases hq2 with ⟨rfl, u2⟩ | ⟨rfl, u2⟩
      · skip
        refine g_if C X2 at_299 (by decide) rfl rfl ?_ ?_
        · intro h299
          have h299 : ¬ (1 : Int) = 0 := h299
          refine g_iconst C X2 (1 : Int32) at_432 rfl rfl ?_
          refine g_goto C X2 at_433 (by decide) rfl ?_
          refine g_istore C X2 at_437 #[.val (.int y0), .val (.int y1), .val (.int y2), .val (.int (2 : Int32)), .val (.int mm), .val (.int x0), .val (.int x1), .val (.int x2), .val (.int r0), .val (.int r1), .val (.int r2), .val (.int r3), .val (.ref ia), .val (.ref rp), .val (.ref rr), .val (.int (1 : Int32))] rfl rfl ?_
          refine g_goto C X2 at_439 (by decide) rfl ?_
          exact fin2 C X2 hh2 N2 Z0 AI AP AR hM hm (Or.inl ⟨rfl, by omega⟩)
        · intro h299
          have h299 : (1 : Int) = 0 := h299
          exact absurd h299 (by decide)
      · skip
        refine g_if C X2 at_299 (by decide) rfl rfl ?_ ?_
        · intro h299
          have h299 : ¬ (0 : Int) = 0 := h299
          exact absurd h299 (by decide)
        · intro h299
          have h299 : (0 : Int) = 0 := h299
          exact blk2_1 C X2 hh2 N2 Z0 AI AP AR hM hm  (by omega)
  · skip
    refine g_if C X1 at_286 (by decide) rfl rfl ?_ ?_
    · intro h286
      have h286 : (0 : Int) = 0 := h286
      exact blk2_1 C X1 hh1 N1 Z0 AI AP AR hM hm  (by omega)
    · intro h286
      have h286 : ¬ (0 : Int) = 0 := h286
      exact absurd h286 (by decide)
set_option maxRecDepth 65536 in
set_option maxHeartbeats 40000000 in
theorem seg194_2 {p : Program} {l : Launch} {e : Env} {s : State} {m : MethodId} {args : Array Value} {below : List Frame} {meth : Method} {c : Code} {T0 : State} {locs : List Loc} {Z : State} {a0 : Array Value} {h0 : Heap} {n0 : Nat} {y0 y1 y2 mm x0 x1 x2 r0 r1 r2 r3 : Int32} {ia rp rr : Addr} {M : Nat}
    (C : Cx Z a0 p s m meth c code maxLocals "com/example/ballast/ballast/storage/ClusterCatalogIsInSyncOfPinLaw" "law" ret) (X0 : Stand p l e room_1 s m args below meth c T0 locs 3 11) (e0 : T0.heap = h0) (N0 : Fr n0 locs) (Z0 : n0 ≤ h0.size) (AI : Aw Z h0 ia .int 2 (fun j => .int (([x0, x1] : List Int32).getD j 0))) (AP : Aw Z h0 rp .int M (fun j => .int (([r0, r1, r2, r3] : List Int32).getD j 0))) (AR : Aw Z h0 rr .int 4 (fun j => .int (([r0, r1, r2, r3] : List Int32).getD j 0))) (hM : mm.toInt = M) (hm : mm = (0 : Int32) ∨ mm = (1 : Int32) ∨ mm = (2 : Int32) ∨ mm = (3 : Int32) ∨ mm = (4 : Int32)) :
    Go p e below s m (LQ n0) room_1.cells room_1.slots T0 194 #[.val (.int y0), .val (.int y1), .val (.int y2), .val (.int (2 : Int32)), .val (.int mm), .val (.int x0), .val (.int x1), .val (.int x2), .val (.int r0), .val (.int r1), .val (.int r2), .val (.int r3), .val (.ref ia), .val (.ref rp), .val (.ref rr), .unset] [] := by
  refine g_iloadN C X0 at_194 rfl rfl ?_
  refine g_if C X0 at_195 (by decide) rfl rfl ?_ ?_
  · intro h195
    have h195 : ¬ (2 : Int) = 0 := h195
    refine g_iloadN C X0 at_204 rfl rfl ?_
    refine g_iconst C X0 (1 : Int32) at_205 rfl rfl ?_
    refine g_icmp C X0 at_206 (by decide) rfl rfl ?_ ?_
    · intro h206
      have h206 : ¬ (2 : Int) = 1 := h206
      refine g_iloadN C X0 at_271 rfl rfl ?_
      refine g_iconst C X0 (2 : Int32) at_272 rfl rfl ?_
      refine g_icmp C X0 at_273 (by decide) rfl rfl ?_ ?_
      · intro h273
        have h273 : ¬ (2 : Int) = 2 := h273
        exact absurd h273 (by decide)
      · intro h273
        have h273 : (2 : Int) = 2 := h273
        exact blk2_0 C X0 e0 N0 Z0 AI AP AR hM hm
    · intro h206
      have h206 : (2 : Int) = 1 := h206
      exact absurd h206 (by decide)
  · intro h195
    have h195 : (2 : Int) = 0 := h195
    exact absurd h195 (by decide)
set_option maxRecDepth 65536 in
set_option maxHeartbeats 40000000 in
theorem seg79_2_0 {p : Program} {l : Launch} {e : Env} {s : State} {m : MethodId} {args : Array Value} {below : List Frame} {meth : Method} {c : Code} {T0 : State} {locs : List Loc} {Z : State} {a0 : Array Value} {h0 : Heap} {n0 : Nat} {y0 y1 y2 x0 x1 x2 r0 r1 r2 r3 : Int32}
    (C : Cx Z a0 p s m meth c code maxLocals "com/example/ballast/ballast/storage/ClusterCatalogIsInSyncOfPinLaw" "law" ret) (X0 : Stand p l e room_1 s m args below meth c T0 locs 0 0) (e0 : T0.heap = h0) (N0 : Fr n0 locs) (Z0 : n0 ≤ h0.size)  :
    Go p e below s m (LQ n0) room_1.cells room_1.slots T0 79 #[.val (.int y0), .val (.int y1), .val (.int y2), .val (.int (2 : Int32)), .val (.int (0 : Int32)), .val (.int x0), .val (.int x1), .val (.int x2), .val (.int r0), .val (.int r1), .val (.int r2), .val (.int r3), .unset, .unset, .unset, .unset] [] := by
  refine g_iloadN C X0 at_79 rfl rfl ?_
  refine g_newarray (cap := 3) C X0 at_80 e0 (C.t 0 rfl) (by decide) (by decide) (by decide) (by decide) (by decide) rfl ?_
  intro T1 h1_ X1 e1 E1 lt1 ad1 ha1 A1
  have Z1 : n0 ≤ h1_.size := Nat.le_trans Z0 E1.1
  have g_ad1 : n0 ≤ ad1 := by omega
  refine g_astore C X1 at_82 #[.val (.int y0), .val (.int y1), .val (.int y2), .val (.int (2 : Int32)), .val (.int (0 : Int32)), .val (.int x0), .val (.int x1), .val (.int x2), .val (.int r0), .val (.int r1), .val (.int r2), .val (.int r3), .val (.ref ad1), .unset, .unset, .unset] rfl rfl ?_
  refine g_iload C X1 at_84 rfl rfl ?_
  refine g_newarray (cap := 4) C X1 at_86 e1 (C.t 0 rfl) (by decide) (by decide) (by decide) (by decide) (by decide) rfl ?_
  intro T2 h2_ X2 e2 E2 lt2 ad2 ha2 A2
  have Z2 : n0 ≤ h2_.size := Nat.le_trans Z1 E2.1
  have ne_ad1_ad2 : ad1 ≠ ad2 := Nat.ne_of_lt (Nat.lt_of_lt_of_eq A1.lt ha2.symm)
  have A2_ad1 := A1.ext E2
  have g_ad2 : n0 ≤ ad2 := by omega
  refine g_astore C X2 at_88 #[.val (.int y0), .val (.int y1), .val (.int y2), .val (.int (2 : Int32)), .val (.int (0 : Int32)), .val (.int x0), .val (.int x1), .val (.int x2), .val (.int r0), .val (.int r1), .val (.int r2), .val (.int r3), .val (.ref ad1), .val (.ref ad2), .unset, .unset] rfl rfl ?_
  refine g_iconst C X2 (4 : Int32) at_90 rfl rfl ?_
  refine g_newarray (cap := 4) C X2 at_91 e2 (C.t 0 rfl) (by decide) (by decide) (by decide) (by decide) (by decide) rfl ?_
  intro T3 h3_ X3 e3 E3 lt3 ad3 ha3 A3
  have Z3 : n0 ≤ h3_.size := Nat.le_trans Z2 E3.1
  have ne_ad1_ad3 : ad1 ≠ ad3 := Nat.ne_of_lt (Nat.lt_of_lt_of_eq A2_ad1.lt ha3.symm)
  have A3_ad1 := A2_ad1.ext E3
  have ne_ad2_ad3 : ad2 ≠ ad3 := Nat.ne_of_lt (Nat.lt_of_lt_of_eq A2.lt ha3.symm)
  have A3_ad2 := A2.ext E3
  have g_ad3 : n0 ≤ ad3 := by omega
  refine g_dup C X3 at_93 rfl rfl ?_
  refine g_iconst C X3 (0 : Int32) at_94 rfl rfl ?_
  refine g_iload C X3 at_95 rfl rfl ?_
  refine g_iastore C X3 at_97 e3 A3 (by decide) (by decide) rfl ?_
  intro T4 h4_ X4 e4 W4 A4
  have N4 := Fr.snoc X4 N0 g_ad3
  have Z4 : n0 ≤ h4_.size := Nat.le_trans Z3 (Keep.of_wr W4).1
  have A4_ad1 := A3_ad1.other W4 ne_ad1_ad3
  have A4_ad2 := A3_ad2.other W4 ne_ad2_ad3
  refine g_dup C X4 at_98 rfl rfl ?_
  refine g_iconst C X4 (1 : Int32) at_99 rfl rfl ?_
  refine g_iload C X4 at_100 rfl rfl ?_
  refine g_iastore C X4 at_102 e4 A4 (by decide) (by decide) rfl ?_
  intro T5 h5_ X5 e5 W5 A5
  have N5 := Fr.snoc X5 N4 g_ad3
  have Z5 : n0 ≤ h5_.size := Nat.le_trans Z4 (Keep.of_wr W5).1
  have A5_ad1 := A4_ad1.other W5 ne_ad1_ad3
  have A5_ad2 := A4_ad2.other W5 ne_ad2_ad3
  refine g_dup C X5 at_103 rfl rfl ?_
  refine g_iconst C X5 (2 : Int32) at_104 rfl rfl ?_
  refine g_iload C X5 at_105 rfl rfl ?_
  refine g_iastore C X5 at_107 e5 A5 (by decide) (by decide) rfl ?_
  intro T6 h6_ X6 e6 W6 A6
  have N6 := Fr.snoc X6 N5 g_ad3
  have Z6 : n0 ≤ h6_.size := Nat.le_trans Z5 (Keep.of_wr W6).1
  have A6_ad1 := A5_ad1.other W6 ne_ad1_ad3
  have A6_ad2 := A5_ad2.other W6 ne_ad2_ad3
  refine g_dup C X6 at_108 rfl rfl ?_
  refine g_iconst C X6 (3 : Int32) at_109 rfl rfl ?_
  refine g_iload C X6 at_110 rfl rfl ?_
  refine g_iastore C X6 at_112 e6 A6 (by decide) (by decide) rfl ?_
  intro T7 h7_ X7 e7 W7 A7
  have N7 := Fr.snoc X7 N6 g_ad3
  have Z7 : n0 ≤ h7_.size := Nat.le_trans Z6 (Keep.of_wr W7).1
  have A7_ad1 := A6_ad1.other W7 ne_ad1_ad3
  have A7_ad2 := A6_ad2.other W7 ne_ad2_ad3
  refine g_astore C X7 at_113 #[.val (.int y0), .val (.int y1), .val (.int y2), .val (.int (2 : Int32)), .val (.int (0 : Int32)), .val (.int x0), .val (.int x1), .val (.int x2), .val (.int r0), .val (.int r1), .val (.int r2), .val (.int r3), .val (.ref ad1), .val (.ref ad2), .val (.ref ad3), .unset] rfl rfl ?_
  refine g_iloadN C X7 at_115 rfl rfl ?_
  refine g_if C X7 at_116 (by decide) rfl rfl ?_ ?_
  · intro h116
    have h116 : (2 : Int) ≤ 0 := h116
    exact absurd h116 (by decide)
  · intro h116
    have h116 : (2 : Int) > 0 := h116
    refine g_aload C X7 at_119 rfl rfl ?_
    refine g_iconst C X7 (0 : Int32) at_121 rfl rfl ?_
    refine g_iload C X7 at_122 rfl rfl ?_
    refine g_iastore C X7 at_124 e7 A7_ad1 (by decide) (by decide) rfl ?_
    intro T8 h8_ X8 e8 W8 A8
    have N8 := Fr.snoc X8 N7 g_ad1
    have Z8 : n0 ≤ h8_.size := Nat.le_trans Z7 (Keep.of_wr W8).1
    have A8_ad2 := A7_ad2.other W8 ne_ad1_ad2.symm
    have A8_ad3 := A7.other W8 ne_ad1_ad3.symm
    refine g_iloadN C X8 at_125 rfl rfl ?_
    refine g_iconst C X8 (1 : Int32) at_126 rfl rfl ?_
    refine g_icmp C X8 at_127 (by decide) rfl rfl ?_ ?_
    · intro h127
      have h127 : (2 : Int) ≤ 1 := h127
      exact absurd h127 (by decide)
    · intro h127
      have h127 : (2 : Int) > 1 := h127
      refine g_aload C X8 at_130 rfl rfl ?_
      refine g_iconst C X8 (1 : Int32) at_132 rfl rfl ?_
      refine g_iload C X8 at_133 rfl rfl ?_
      refine g_iastore C X8 at_135 e8 A8 (by decide) (by decide) rfl ?_
      intro T9 h9_ X9 e9 W9 A9
      have N9 := Fr.snoc X9 N8 g_ad1
      have Z9 : n0 ≤ h9_.size := Nat.le_trans Z8 (Keep.of_wr W9).1
      have A9_ad2 := A8_ad2.other W9 ne_ad1_ad2.symm
      have A9_ad3 := A8_ad3.other W9 ne_ad1_ad3.symm
      refine g_iloadN C X9 at_136 rfl rfl ?_
      refine g_iconst C X9 (2 : Int32) at_137 rfl rfl ?_
      refine g_icmp C X9 at_138 (by decide) rfl rfl ?_ ?_
      · intro h138
        have h138 : (2 : Int) ≤ 2 := h138
        refine g_iload C X9 at_147 rfl rfl ?_
        refine g_if C X9 at_149 (by decide) rfl rfl ?_ ?_
        · intro h149
          have h149 : (0 : Int) ≤ 0 := h149
          refine g_iload C X9 at_158 rfl rfl ?_
          refine g_iconst C X9 (1 : Int32) at_160 rfl rfl ?_
          refine g_icmp C X9 at_161 (by decide) rfl rfl ?_ ?_
          · intro h161
            have h161 : (0 : Int) ≤ 1 := h161
            refine g_iload C X9 at_170 rfl rfl ?_
            refine g_iconst C X9 (2 : Int32) at_172 rfl rfl ?_
            refine g_icmp C X9 at_173 (by decide) rfl rfl ?_ ?_
            · intro h173
              have h173 : (0 : Int) ≤ 2 := h173
              refine g_iload C X9 at_182 rfl rfl ?_
              refine g_iconst C X9 (3 : Int32) at_184 rfl rfl ?_
              refine g_icmp C X9 at_185 (by decide) rfl rfl ?_ ?_
              · intro h185
                have h185 : (0 : Int) ≤ 3 := h185
                have AI : Aw Z h9_ ad1 .int 2 (fun j => .int (([x0, x1] : List Int32).getD j 0)) := Aw.of A9 (by
                  intro j hj
                  have hj : j < 2 := hj
                  have hj : j = 0 ∨ j = 1 := by omega
                  rcases hj with rfl | rfl <;> rfl)
                have AP : Aw Z h9_ ad2 .int 0 (fun j => .int (([r0, r1, r2, r3] : List Int32).getD j 0)) := Aw.of A9_ad2 (by
                  intro j hj
                  have hj : j < 0 := hj
                  omega)
                have AR : Aw Z h9_ ad3 .int 4 (fun j => .int (([r0, r1, r2, r3] : List Int32).getD j 0)) := Aw.of A9_ad3 (by
                  intro j hj
                  have hj : j < 4 := hj
                  have hj : j = 0 ∨ j = 1 ∨ j = 2 ∨ j = 3 := by omega
                  rcases hj with rfl | rfl | rfl | rfl <;> rfl)
                exact seg194_2 C X9 e9 N9 Z9 AI AP AR (by decide) (Or.inl rfl)
              · intro h185
                have h185 : (0 : Int) > 3 := h185
                exact absurd h185 (by decide)
            · intro h173
              have h173 : (0 : Int) > 2 := h173
              exact absurd h173 (by decide)
          · intro h161
            have h161 : (0 : Int) > 1 := h161
            exact absurd h161 (by decide)
        · intro h149
          have h149 : (0 : Int) > 0 := h149
          exact absurd h149 (by decide)
      · intro h138
        have h138 : (2 : Int) > 2 := h138
        exact absurd h138 (by decide)
set_option maxRecDepth 65536 in
set_option maxHeartbeats 40000000 in
theorem seg79_2_1 {p : Program} {l : Launch} {e : Env} {s : State} {m : MethodId} {args : Array Value} {below : List Frame} {meth : Method} {c : Code} {T0 : State} {locs : List Loc} {Z : State} {a0 : Array Value} {h0 : Heap} {n0 : Nat} {y0 y1 y2 x0 x1 x2 r0 r1 r2 r3 : Int32}
    (C : Cx Z a0 p s m meth c code maxLocals "com/example/ballast/ballast/storage/ClusterCatalogIsInSyncOfPinLaw" "law" ret) (X0 : Stand p l e room_1 s m args below meth c T0 locs 0 0) (e0 : T0.heap = h0) (N0 : Fr n0 locs) (Z0 : n0 ≤ h0.size)  :
    Go p e below s m (LQ n0) room_1.cells room_1.slots T0 79 #[.val (.int y0), .val (.int y1), .val (.int y2), .val (.int (2 : Int32)), .val (.int (1 : Int32)), .val (.int x0), .val (.int x1), .val (.int x2), .val (.int r0), .val (.int r1), .val (.int r2), .val (.int r3), .unset, .unset, .unset, .unset] [] := by
  refine g_iloadN C X0 at_79 rfl rfl ?_
  refine g_newarray (cap := 3) C X0 at_80 e0 (C.t 0 rfl) (by decide) (by decide) (by decide) (by decide) (by decide) rfl ?_
  intro T1 h1_ X1 e1 E1 lt1 ad1 ha1 A1
  have Z1 : n0 ≤ h1_.size := Nat.le_trans Z0 E1.1
  have g_ad1 : n0 ≤ ad1 := by omega
  refine g_astore C X1 at_82 #[.val (.int y0), .val (.int y1), .val (.int y2), .val (.int (2 : Int32)), .val (.int (1 : Int32)), .val (.int x0), .val (.int x1), .val (.int x2), .val (.int r0), .val (.int r1), .val (.int r2), .val (.int r3), .val (.ref ad1), .unset, .unset, .unset] rfl rfl ?_
  refine g_iload C X1 at_84 rfl rfl ?_
  refine g_newarray (cap := 4) C X1 at_86 e1 (C.t 0 rfl) (by decide) (by decide) (by decide) (by decide) (by decide) rfl ?_
  intro T2 h2_ X2 e2 E2 lt2 ad2 ha2 A2
  have Z2 : n0 ≤ h2_.size := Nat.le_trans Z1 E2.1
  have ne_ad1_ad2 : ad1 ≠ ad2 := Nat.ne_of_lt (Nat.lt_of_lt_of_eq A1.lt ha2.symm)
  have A2_ad1 := A1.ext E2
  have g_ad2 : n0 ≤ ad2 := by omega
  refine g_astore C X2 at_88 #[.val (.int y0), .val (.int y1), .val (.int y2), .val (.int (2 : Int32)), .val (.int (1 : Int32)), .val (.int x0), .val (.int x1), .val (.int x2), .val (.int r0), .val (.int r1), .val (.int r2), .val (.int r3), .val (.ref ad1), .val (.ref ad2), .unset, .unset] rfl rfl ?_
  refine g_iconst C X2 (4 : Int32) at_90 rfl rfl ?_
  refine g_newarray (cap := 4) C X2 at_91 e2 (C.t 0 rfl) (by decide) (by decide) (by decide) (by decide) (by decide) rfl ?_
  intro T3 h3_ X3 e3 E3 lt3 ad3 ha3 A3
  have Z3 : n0 ≤ h3_.size := Nat.le_trans Z2 E3.1
  have ne_ad1_ad3 : ad1 ≠ ad3 := Nat.ne_of_lt (Nat.lt_of_lt_of_eq A2_ad1.lt ha3.symm)
  have A3_ad1 := A2_ad1.ext E3
  have ne_ad2_ad3 : ad2 ≠ ad3 := Nat.ne_of_lt (Nat.lt_of_lt_of_eq A2.lt ha3.symm)
  have A3_ad2 := A2.ext E3
  have g_ad3 : n0 ≤ ad3 := by omega
  refine g_dup C X3 at_93 rfl rfl ?_
  refine g_iconst C X3 (0 : Int32) at_94 rfl rfl ?_
  refine g_iload C X3 at_95 rfl rfl ?_
  refine g_iastore C X3 at_97 e3 A3 (by decide) (by decide) rfl ?_
  intro T4 h4_ X4 e4 W4 A4
  have N4 := Fr.snoc X4 N0 g_ad3
  have Z4 : n0 ≤ h4_.size := Nat.le_trans Z3 (Keep.of_wr W4).1
  have A4_ad1 := A3_ad1.other W4 ne_ad1_ad3
  have A4_ad2 := A3_ad2.other W4 ne_ad2_ad3
  refine g_dup C X4 at_98 rfl rfl ?_
  refine g_iconst C X4 (1 : Int32) at_99 rfl rfl ?_
  refine g_iload C X4 at_100 rfl rfl ?_
  refine g_iastore C X4 at_102 e4 A4 (by decide) (by decide) rfl ?_
  intro T5 h5_ X5 e5 W5 A5
  have N5 := Fr.snoc X5 N4 g_ad3
  have Z5 : n0 ≤ h5_.size := Nat.le_trans Z4 (Keep.of_wr W5).1
  have A5_ad1 := A4_ad1.other W5 ne_ad1_ad3
  have A5_ad2 := A4_ad2.other W5 ne_ad2_ad3
  refine g_dup C X5 at_103 rfl rfl ?_
  refine g_iconst C X5 (2 : Int32) at_104 rfl rfl ?_
  refine g_iload C X5 at_105 rfl rfl ?_
  refine g_iastore C X5 at_107 e5 A5 (by decide) (by decide) rfl ?_
  intro T6 h6_ X6 e6 W6 A6
  have N6 := Fr.snoc X6 N5 g_ad3
  have Z6 : n0 ≤ h6_.size := Nat.le_trans Z5 (Keep.of_wr W6).1
  have A6_ad1 := A5_ad1.other W6 ne_ad1_ad3
  have A6_ad2 := A5_ad2.other W6 ne_ad2_ad3
  refine g_dup C X6 at_108 rfl rfl ?_
  refine g_iconst C X6 (3 : Int32) at_109 rfl rfl ?_
  refine g_iload C X6 at_110 rfl rfl ?_
  refine g_iastore C X6 at_112 e6 A6 (by decide) (by decide) rfl ?_
  intro T7 h7_ X7 e7 W7 A7
  have N7 := Fr.snoc X7 N6 g_ad3
  have Z7 : n0 ≤ h7_.size := Nat.le_trans Z6 (Keep.of_wr W7).1
  have A7_ad1 := A6_ad1.other W7 ne_ad1_ad3
  have A7_ad2 := A6_ad2.other W7 ne_ad2_ad3
  refine g_astore C X7 at_113 #[.val (.int y0), .val (.int y1), .val (.int y2), .val (.int (2 : Int32)), .val (.int (1 : Int32)), .val (.int x0), .val (.int x1), .val (.int x2), .val (.int r0), .val (.int r1), .val (.int r2), .val (.int r3), .val (.ref ad1), .val (.ref ad2), .val (.ref ad3), .unset] rfl rfl ?_
  refine g_iloadN C X7 at_115 rfl rfl ?_
  refine g_if C X7 at_116 (by decide) rfl rfl ?_ ?_
  · intro h116
    have h116 : (2 : Int) ≤ 0 := h116
    exact absurd h116 (by decide)
  · intro h116
    have h116 : (2 : Int) > 0 := h116
    refine g_aload C X7 at_119 rfl rfl ?_
    refine g_iconst C X7 (0 : Int32) at_121 rfl rfl ?_
    refine g_iload C X7 at_122 rfl rfl ?_
    refine g_iastore C X7 at_124 e7 A7_ad1 (by decide) (by decide) rfl ?_
    intro T8 h8_ X8 e8 W8 A8
    have N8 := Fr.snoc X8 N7 g_ad1
    have Z8 : n0 ≤ h8_.size := Nat.le_trans Z7 (Keep.of_wr W8).1
    have A8_ad2 := A7_ad2.other W8 ne_ad1_ad2.symm
    have A8_ad3 := A7.other W8 ne_ad1_ad3.symm
    refine g_iloadN C X8 at_125 rfl rfl ?_
    refine g_iconst C X8 (1 : Int32) at_126 rfl rfl ?_
    refine g_icmp C X8 at_127 (by decide) rfl rfl ?_ ?_
    · intro h127
      have h127 : (2 : Int) ≤ 1 := h127
      exact absurd h127 (by decide)
    · intro h127
      have h127 : (2 : Int) > 1 := h127
      refine g_aload C X8 at_130 rfl rfl ?_
      refine g_iconst C X8 (1 : Int32) at_132 rfl rfl ?_
      refine g_iload C X8 at_133 rfl rfl ?_
      refine g_iastore C X8 at_135 e8 A8 (by decide) (by decide) rfl ?_
      intro T9 h9_ X9 e9 W9 A9
      have N9 := Fr.snoc X9 N8 g_ad1
      have Z9 : n0 ≤ h9_.size := Nat.le_trans Z8 (Keep.of_wr W9).1
      have A9_ad2 := A8_ad2.other W9 ne_ad1_ad2.symm
      have A9_ad3 := A8_ad3.other W9 ne_ad1_ad3.symm
      refine g_iloadN C X9 at_136 rfl rfl ?_
      refine g_iconst C X9 (2 : Int32) at_137 rfl rfl ?_
      refine g_icmp C X9 at_138 (by decide) rfl rfl ?_ ?_
      · intro h138
        have h138 : (2 : Int) ≤ 2 := h138
        refine g_iload C X9 at_147 rfl rfl ?_
        refine g_if C X9 at_149 (by decide) rfl rfl ?_ ?_
        · intro h149
          have h149 : (1 : Int) ≤ 0 := h149
          exact absurd h149 (by decide)
        · intro h149
          have h149 : (1 : Int) > 0 := h149
          refine g_aload C X9 at_152 rfl rfl ?_
          refine g_iconst C X9 (0 : Int32) at_154 rfl rfl ?_
          refine g_iload C X9 at_155 rfl rfl ?_
          refine g_iastore C X9 at_157 e9 A9_ad2 (by decide) (by decide) rfl ?_
          intro T10 h10_ X10 e10 W10 A10
          have N10 := Fr.snoc X10 N9 g_ad2
          have Z10 : n0 ≤ h10_.size := Nat.le_trans Z9 (Keep.of_wr W10).1
          have A10_ad1 := A9.other W10 ne_ad1_ad2
          have A10_ad3 := A9_ad3.other W10 ne_ad2_ad3.symm
          refine g_iload C X10 at_158 rfl rfl ?_
          refine g_iconst C X10 (1 : Int32) at_160 rfl rfl ?_
          refine g_icmp C X10 at_161 (by decide) rfl rfl ?_ ?_
          · intro h161
            have h161 : (1 : Int) ≤ 1 := h161
            refine g_iload C X10 at_170 rfl rfl ?_
            refine g_iconst C X10 (2 : Int32) at_172 rfl rfl ?_
            refine g_icmp C X10 at_173 (by decide) rfl rfl ?_ ?_
            · intro h173
              have h173 : (1 : Int) ≤ 2 := h173
              refine g_iload C X10 at_182 rfl rfl ?_
              refine g_iconst C X10 (3 : Int32) at_184 rfl rfl ?_
              refine g_icmp C X10 at_185 (by decide) rfl rfl ?_ ?_
              · intro h185
                have h185 : (1 : Int) ≤ 3 := h185
                have AI : Aw Z h10_ ad1 .int 2 (fun j => .int (([x0, x1] : List Int32).getD j 0)) := Aw.of A10_ad1 (by
                  intro j hj
                  have hj : j < 2 := hj
                  have hj : j = 0 ∨ j = 1 := by omega
                  rcases hj with rfl | rfl <;> rfl)
                have AP : Aw Z h10_ ad2 .int 1 (fun j => .int (([r0, r1, r2, r3] : List Int32).getD j 0)) := Aw.of A10 (by
                  intro j hj
                  have hj : j < 1 := hj
                  have hj : j = 0 := by omega
                  rcases hj with rfl <;> rfl)
                have AR : Aw Z h10_ ad3 .int 4 (fun j => .int (([r0, r1, r2, r3] : List Int32).getD j 0)) := Aw.of A10_ad3 (by
                  intro j hj
                  have hj : j < 4 := hj
                  have hj : j = 0 ∨ j = 1 ∨ j = 2 ∨ j = 3 := by omega
                  rcases hj with rfl | rfl | rfl | rfl <;> rfl)
                exact seg194_2 C X10 e10 N10 Z10 AI AP AR (by decide) (Or.inr (Or.inl rfl))
              · intro h185
                have h185 : (1 : Int) > 3 := h185
                exact absurd h185 (by decide)
            · intro h173
              have h173 : (1 : Int) > 2 := h173
              exact absurd h173 (by decide)
          · intro h161
            have h161 : (1 : Int) > 1 := h161
            exact absurd h161 (by decide)
      · intro h138
        have h138 : (2 : Int) > 2 := h138
        exact absurd h138 (by decide)
set_option maxRecDepth 65536 in
set_option maxHeartbeats 40000000 in
theorem seg79_2_2 {p : Program} {l : Launch} {e : Env} {s : State} {m : MethodId} {args : Array Value} {below : List Frame} {meth : Method} {c : Code} {T0 : State} {locs : List Loc} {Z : State} {a0 : Array Value} {h0 : Heap} {n0 : Nat} {y0 y1 y2 x0 x1 x2 r0 r1 r2 r3 : Int32}
    (C : Cx Z a0 p s m meth c code maxLocals "com/example/ballast/ballast/storage/ClusterCatalogIsInSyncOfPinLaw" "law" ret) (X0 : Stand p l e room_1 s m args below meth c T0 locs 0 0) (e0 : T0.heap = h0) (N0 : Fr n0 locs) (Z0 : n0 ≤ h0.size)  :
    Go p e below s m (LQ n0) room_1.cells room_1.slots T0 79 #[.val (.int y0), .val (.int y1), .val (.int y2), .val (.int (2 : Int32)), .val (.int (2 : Int32)), .val (.int x0), .val (.int x1), .val (.int x2), .val (.int r0), .val (.int r1), .val (.int r2), .val (.int r3), .unset, .unset, .unset, .unset] [] := by
  refine g_iloadN C X0 at_79 rfl rfl ?_
  refine g_newarray (cap := 3) C X0 at_80 e0 (C.t 0 rfl) (by decide) (by decide) (by decide) (by decide) (by decide) rfl ?_
  intro T1 h1_ X1 e1 E1 lt1 ad1 ha1 A1
  have Z1 : n0 ≤ h1_.size := Nat.le_trans Z0 E1.1
  have g_ad1 : n0 ≤ ad1 := by omega
  refine g_astore C X1 at_82 #[.val (.int y0), .val (.int y1), .val (.int y2), .val (.int (2 : Int32)), .val (.int (2 : Int32)), .val (.int x0), .val (.int x1), .val (.int x2), .val (.int r0), .val (.int r1), .val (.int r2), .val (.int r3), .val (.ref ad1), .unset, .unset, .unset] rfl rfl ?_
  refine g_iload C X1 at_84 rfl rfl ?_
  refine g_newarray (cap := 4) C X1 at_86 e1 (C.t 0 rfl) (by decide) (by decide) (by decide) (by decide) (by decide) rfl ?_
  intro T2 h2_ X2 e2 E2 lt2 ad2 ha2 A2
  have Z2 : n0 ≤ h2_.size := Nat.le_trans Z1 E2.1
  have ne_ad1_ad2 : ad1 ≠ ad2 := Nat.ne_of_lt (Nat.lt_of_lt_of_eq A1.lt ha2.symm)
  have A2_ad1 := A1.ext E2
  have g_ad2 : n0 ≤ ad2 := by omega
  refine g_astore C X2 at_88 #[.val (.int y0), .val (.int y1), .val (.int y2), .val (.int (2 : Int32)), .val (.int (2 : Int32)), .val (.int x0), .val (.int x1), .val (.int x2), .val (.int r0), .val (.int r1), .val (.int r2), .val (.int r3), .val (.ref ad1), .val (.ref ad2), .unset, .unset] rfl rfl ?_
  refine g_iconst C X2 (4 : Int32) at_90 rfl rfl ?_
  refine g_newarray (cap := 4) C X2 at_91 e2 (C.t 0 rfl) (by decide) (by decide) (by decide) (by decide) (by decide) rfl ?_
  intro T3 h3_ X3 e3 E3 lt3 ad3 ha3 A3
  have Z3 : n0 ≤ h3_.size := Nat.le_trans Z2 E3.1
  have ne_ad1_ad3 : ad1 ≠ ad3 := Nat.ne_of_lt (Nat.lt_of_lt_of_eq A2_ad1.lt ha3.symm)
  have A3_ad1 := A2_ad1.ext E3
  have ne_ad2_ad3 : ad2 ≠ ad3 := Nat.ne_of_lt (Nat.lt_of_lt_of_eq A2.lt ha3.symm)
  have A3_ad2 := A2.ext E3
  have g_ad3 : n0 ≤ ad3 := by omega
  refine g_dup C X3 at_93 rfl rfl ?_
  refine g_iconst C X3 (0 : Int32) at_94 rfl rfl ?_
  refine g_iload C X3 at_95 rfl rfl ?_
  refine g_iastore C X3 at_97 e3 A3 (by decide) (by decide) rfl ?_
  intro T4 h4_ X4 e4 W4 A4
  have N4 := Fr.snoc X4 N0 g_ad3
  have Z4 : n0 ≤ h4_.size := Nat.le_trans Z3 (Keep.of_wr W4).1
  have A4_ad1 := A3_ad1.other W4 ne_ad1_ad3
  have A4_ad2 := A3_ad2.other W4 ne_ad2_ad3
  refine g_dup C X4 at_98 rfl rfl ?_
  refine g_iconst C X4 (1 : Int32) at_99 rfl rfl ?_
  refine g_iload C X4 at_100 rfl rfl ?_
  refine g_iastore C X4 at_102 e4 A4 (by decide) (by decide) rfl ?_
  intro T5 h5_ X5 e5 W5 A5
  have N5 := Fr.snoc X5 N4 g_ad3
  have Z5 : n0 ≤ h5_.size := Nat.le_trans Z4 (Keep.of_wr W5).1
  have A5_ad1 := A4_ad1.other W5 ne_ad1_ad3
  have A5_ad2 := A4_ad2.other W5 ne_ad2_ad3
  refine g_dup C X5 at_103 rfl rfl ?_
  refine g_iconst C X5 (2 : Int32) at_104 rfl rfl ?_
  refine g_iload C X5 at_105 rfl rfl ?_
  refine g_iastore C X5 at_107 e5 A5 (by decide) (by decide) rfl ?_
  intro T6 h6_ X6 e6 W6 A6
  have N6 := Fr.snoc X6 N5 g_ad3
  have Z6 : n0 ≤ h6_.size := Nat.le_trans Z5 (Keep.of_wr W6).1
  have A6_ad1 := A5_ad1.other W6 ne_ad1_ad3
  have A6_ad2 := A5_ad2.other W6 ne_ad2_ad3
  refine g_dup C X6 at_108 rfl rfl ?_
  refine g_iconst C X6 (3 : Int32) at_109 rfl rfl ?_
  refine g_iload C X6 at_110 rfl rfl ?_
  refine g_iastore C X6 at_112 e6 A6 (by decide) (by decide) rfl ?_
  intro T7 h7_ X7 e7 W7 A7
  have N7 := Fr.snoc X7 N6 g_ad3
  have Z7 : n0 ≤ h7_.size := Nat.le_trans Z6 (Keep.of_wr W7).1
  have A7_ad1 := A6_ad1.other W7 ne_ad1_ad3
  have A7_ad2 := A6_ad2.other W7 ne_ad2_ad3
  refine g_astore C X7 at_113 #[.val (.int y0), .val (.int y1), .val (.int y2), .val (.int (2 : Int32)), .val (.int (2 : Int32)), .val (.int x0), .val (.int x1), .val (.int x2), .val (.int r0), .val (.int r1), .val (.int r2), .val (.int r3), .val (.ref ad1), .val (.ref ad2), .val (.ref ad3), .unset] rfl rfl ?_
  refine g_iloadN C X7 at_115 rfl rfl ?_
  refine g_if C X7 at_116 (by decide) rfl rfl ?_ ?_
  · intro h116
    have h116 : (2 : Int) ≤ 0 := h116
    exact absurd h116 (by decide)
  · intro h116
    have h116 : (2 : Int) > 0 := h116
    refine g_aload C X7 at_119 rfl rfl ?_
    refine g_iconst C X7 (0 : Int32) at_121 rfl rfl ?_
    refine g_iload C X7 at_122 rfl rfl ?_
    refine g_iastore C X7 at_124 e7 A7_ad1 (by decide) (by decide) rfl ?_
    intro T8 h8_ X8 e8 W8 A8
    have N8 := Fr.snoc X8 N7 g_ad1
    have Z8 : n0 ≤ h8_.size := Nat.le_trans Z7 (Keep.of_wr W8).1
    have A8_ad2 := A7_ad2.other W8 ne_ad1_ad2.symm
    have A8_ad3 := A7.other W8 ne_ad1_ad3.symm
    refine g_iloadN C X8 at_125 rfl rfl ?_
    refine g_iconst C X8 (1 : Int32) at_126 rfl rfl ?_
    refine g_icmp C X8 at_127 (by decide) rfl rfl ?_ ?_
    · intro h127
      have h127 : (2 : Int) ≤ 1 := h127
      exact absurd h127 (by decide)
    · intro h127
      have h127 : (2 : Int) > 1 := h127
      refine g_aload C X8 at_130 rfl rfl ?_
      refine g_iconst C X8 (1 : Int32) at_132 rfl rfl ?_
      refine g_iload C X8 at_133 rfl rfl ?_
      refine g_iastore C X8 at_135 e8 A8 (by decide) (by decide) rfl ?_
      intro T9 h9_ X9 e9 W9 A9
      have N9 := Fr.snoc X9 N8 g_ad1
      have Z9 : n0 ≤ h9_.size := Nat.le_trans Z8 (Keep.of_wr W9).1
      have A9_ad2 := A8_ad2.other W9 ne_ad1_ad2.symm
      have A9_ad3 := A8_ad3.other W9 ne_ad1_ad3.symm
      refine g_iloadN C X9 at_136 rfl rfl ?_
      refine g_iconst C X9 (2 : Int32) at_137 rfl rfl ?_
      refine g_icmp C X9 at_138 (by decide) rfl rfl ?_ ?_
      · intro h138
        have h138 : (2 : Int) ≤ 2 := h138
        refine g_iload C X9 at_147 rfl rfl ?_
        refine g_if C X9 at_149 (by decide) rfl rfl ?_ ?_
        · intro h149
          have h149 : (2 : Int) ≤ 0 := h149
          exact absurd h149 (by decide)
        · intro h149
          have h149 : (2 : Int) > 0 := h149
          refine g_aload C X9 at_152 rfl rfl ?_
          refine g_iconst C X9 (0 : Int32) at_154 rfl rfl ?_
          refine g_iload C X9 at_155 rfl rfl ?_
          refine g_iastore C X9 at_157 e9 A9_ad2 (by decide) (by decide) rfl ?_
          intro T10 h10_ X10 e10 W10 A10
          have N10 := Fr.snoc X10 N9 g_ad2
          have Z10 : n0 ≤ h10_.size := Nat.le_trans Z9 (Keep.of_wr W10).1
          have A10_ad1 := A9.other W10 ne_ad1_ad2
          have A10_ad3 := A9_ad3.other W10 ne_ad2_ad3.symm
          refine g_iload C X10 at_158 rfl rfl ?_
          refine g_iconst C X10 (1 : Int32) at_160 rfl rfl ?_
          refine g_icmp C X10 at_161 (by decide) rfl rfl ?_ ?_
          · intro h161
            have h161 : (2 : Int) ≤ 1 := h161
            exact absurd h161 (by decide)
          · intro h161
            have h161 : (2 : Int) > 1 := h161
            refine g_aload C X10 at_164 rfl rfl ?_
            refine g_iconst C X10 (1 : Int32) at_166 rfl rfl ?_
            refine g_iload C X10 at_167 rfl rfl ?_
            refine g_iastore C X10 at_169 e10 A10 (by decide) (by decide) rfl ?_
            intro T11 h11_ X11 e11 W11 A11
            have N11 := Fr.snoc X11 N10 g_ad2
            have Z11 : n0 ≤ h11_.size := Nat.le_trans Z10 (Keep.of_wr W11).1
            have A11_ad1 := A10_ad1.other W11 ne_ad1_ad2
            have A11_ad3 := A10_ad3.other W11 ne_ad2_ad3.symm
            refine g_iload C X11 at_170 rfl rfl ?_
            refine g_iconst C X11 (2 : Int32) at_172 rfl rfl ?_
            refine g_icmp C X11 at_173 (by decide) rfl rfl ?_ ?_
            · intro h173
              have h173 : (2 : Int) ≤ 2 := h173
              refine g_iload C X11 at_182 rfl rfl ?_
              refine g_iconst C X11 (3 : Int32) at_184 rfl rfl ?_
              refine g_icmp C X11 at_185 (by decide) rfl rfl ?_ ?_
              · intro h185
                have h185 : (2 : Int) ≤ 3 := h185
                have AI : Aw Z h11_ ad1 .int 2 (fun j => .int (([x0, x1] : List Int32).getD j 0)) := Aw.of A11_ad1 (by
                  intro j hj
                  have hj : j < 2 := hj
                  have hj : j = 0 ∨ j = 1 := by omega
                  rcases hj with rfl | rfl <;> rfl)
                have AP : Aw Z h11_ ad2 .int 2 (fun j => .int (([r0, r1, r2, r3] : List Int32).getD j 0)) := Aw.of A11 (by
                  intro j hj
                  have hj : j < 2 := hj
                  have hj : j = 0 ∨ j = 1 := by omega
                  rcases hj with rfl | rfl <;> rfl)
                have AR : Aw Z h11_ ad3 .int 4 (fun j => .int (([r0, r1, r2, r3] : List Int32).getD j 0)) := Aw.of A11_ad3 (by
                  intro j hj
                  have hj : j < 4 := hj
                  have hj : j = 0 ∨ j = 1 ∨ j = 2 ∨ j = 3 := by omega
                  rcases hj with rfl | rfl | rfl | rfl <;> rfl)
                exact seg194_2 C X11 e11 N11 Z11 AI AP AR (by decide) (Or.inr (Or.inr (Or.inl rfl)))
              · intro h185
                have h185 : (2 : Int) > 3 := h185
                exact absurd h185 (by decide)
            · intro h173
              have h173 : (2 : Int) > 2 := h173
              exact absurd h173 (by decide)
      · intro h138
        have h138 : (2 : Int) > 2 := h138
        exact absurd h138 (by decide)
set_option maxRecDepth 65536 in
set_option maxHeartbeats 40000000 in
theorem seg79_2_3 {p : Program} {l : Launch} {e : Env} {s : State} {m : MethodId} {args : Array Value} {below : List Frame} {meth : Method} {c : Code} {T0 : State} {locs : List Loc} {Z : State} {a0 : Array Value} {h0 : Heap} {n0 : Nat} {y0 y1 y2 x0 x1 x2 r0 r1 r2 r3 : Int32}
    (C : Cx Z a0 p s m meth c code maxLocals "com/example/ballast/ballast/storage/ClusterCatalogIsInSyncOfPinLaw" "law" ret) (X0 : Stand p l e room_1 s m args below meth c T0 locs 0 0) (e0 : T0.heap = h0) (N0 : Fr n0 locs) (Z0 : n0 ≤ h0.size)  :
    Go p e below s m (LQ n0) room_1.cells room_1.slots T0 79 #[.val (.int y0), .val (.int y1), .val (.int y2), .val (.int (2 : Int32)), .val (.int (3 : Int32)), .val (.int x0), .val (.int x1), .val (.int x2), .val (.int r0), .val (.int r1), .val (.int r2), .val (.int r3), .unset, .unset, .unset, .unset] [] := by
  refine g_iloadN C X0 at_79 rfl rfl ?_
  refine g_newarray (cap := 3) C X0 at_80 e0 (C.t 0 rfl) (by decide) (by decide) (by decide) (by decide) (by decide) rfl ?_
  intro T1 h1_ X1 e1 E1 lt1 ad1 ha1 A1
  have Z1 : n0 ≤ h1_.size := Nat.le_trans Z0 E1.1
  have g_ad1 : n0 ≤ ad1 := by omega
  refine g_astore C X1 at_82 #[.val (.int y0), .val (.int y1), .val (.int y2), .val (.int (2 : Int32)), .val (.int (3 : Int32)), .val (.int x0), .val (.int x1), .val (.int x2), .val (.int r0), .val (.int r1), .val (.int r2), .val (.int r3), .val (.ref ad1), .unset, .unset, .unset] rfl rfl ?_
  refine g_iload C X1 at_84 rfl rfl ?_
  refine g_newarray (cap := 4) C X1 at_86 e1 (C.t 0 rfl) (by decide) (by decide) (by decide) (by decide) (by decide) rfl ?_
  intro T2 h2_ X2 e2 E2 lt2 ad2 ha2 A2
  have Z2 : n0 ≤ h2_.size := Nat.le_trans Z1 E2.1
  have ne_ad1_ad2 : ad1 ≠ ad2 := Nat.ne_of_lt (Nat.lt_of_lt_of_eq A1.lt ha2.symm)
  have A2_ad1 := A1.ext E2
  have g_ad2 : n0 ≤ ad2 := by omega
  refine g_astore C X2 at_88 #[.val (.int y0), .val (.int y1), .val (.int y2), .val (.int (2 : Int32)), .val (.int (3 : Int32)), .val (.int x0), .val (.int x1), .val (.int x2), .val (.int r0), .val (.int r1), .val (.int r2), .val (.int r3), .val (.ref ad1), .val (.ref ad2), .unset, .unset] rfl rfl ?_
  refine g_iconst C X2 (4 : Int32) at_90 rfl rfl ?_
  refine g_newarray (cap := 4) C X2 at_91 e2 (C.t 0 rfl) (by decide) (by decide) (by decide) (by decide) (by decide) rfl ?_
  intro T3 h3_ X3 e3 E3 lt3 ad3 ha3 A3
  have Z3 : n0 ≤ h3_.size := Nat.le_trans Z2 E3.1
  have ne_ad1_ad3 : ad1 ≠ ad3 := Nat.ne_of_lt (Nat.lt_of_lt_of_eq A2_ad1.lt ha3.symm)
  have A3_ad1 := A2_ad1.ext E3
  have ne_ad2_ad3 : ad2 ≠ ad3 := Nat.ne_of_lt (Nat.lt_of_lt_of_eq A2.lt ha3.symm)
  have A3_ad2 := A2.ext E3
  have g_ad3 : n0 ≤ ad3 := by omega
  refine g_dup C X3 at_93 rfl rfl ?_
  refine g_iconst C X3 (0 : Int32) at_94 rfl rfl ?_
  refine g_iload C X3 at_95 rfl rfl ?_
  refine g_iastore C X3 at_97 e3 A3 (by decide) (by decide) rfl ?_
  intro T4 h4_ X4 e4 W4 A4
  have N4 := Fr.snoc X4 N0 g_ad3
  have Z4 : n0 ≤ h4_.size := Nat.le_trans Z3 (Keep.of_wr W4).1
  have A4_ad1 := A3_ad1.other W4 ne_ad1_ad3
  have A4_ad2 := A3_ad2.other W4 ne_ad2_ad3
  refine g_dup C X4 at_98 rfl rfl ?_
  refine g_iconst C X4 (1 : Int32) at_99 rfl rfl ?_
  refine g_iload C X4 at_100 rfl rfl ?_
  refine g_iastore C X4 at_102 e4 A4 (by decide) (by decide) rfl ?_
  intro T5 h5_ X5 e5 W5 A5
  have N5 := Fr.snoc X5 N4 g_ad3
  have Z5 : n0 ≤ h5_.size := Nat.le_trans Z4 (Keep.of_wr W5).1
  have A5_ad1 := A4_ad1.other W5 ne_ad1_ad3
  have A5_ad2 := A4_ad2.other W5 ne_ad2_ad3
  refine g_dup C X5 at_103 rfl rfl ?_
  refine g_iconst C X5 (2 : Int32) at_104 rfl rfl ?_
  refine g_iload C X5 at_105 rfl rfl ?_
  refine g_iastore C X5 at_107 e5 A5 (by decide) (by decide) rfl ?_
  intro T6 h6_ X6 e6 W6 A6
  have N6 := Fr.snoc X6 N5 g_ad3
  have Z6 : n0 ≤ h6_.size := Nat.le_trans Z5 (Keep.of_wr W6).1
  have A6_ad1 := A5_ad1.other W6 ne_ad1_ad3
  have A6_ad2 := A5_ad2.other W6 ne_ad2_ad3
  refine g_dup C X6 at_108 rfl rfl ?_
  refine g_iconst C X6 (3 : Int32) at_109 rfl rfl ?_
  refine g_iload C X6 at_110 rfl rfl ?_
  refine g_iastore C X6 at_112 e6 A6 (by decide) (by decide) rfl ?_
  intro T7 h7_ X7 e7 W7 A7
  have N7 := Fr.snoc X7 N6 g_ad3
  have Z7 : n0 ≤ h7_.size := Nat.le_trans Z6 (Keep.of_wr W7).1
  have A7_ad1 := A6_ad1.other W7 ne_ad1_ad3
  have A7_ad2 := A6_ad2.other W7 ne_ad2_ad3
  refine g_astore C X7 at_113 #[.val (.int y0), .val (.int y1), .val (.int y2), .val (.int (2 : Int32)), .val (.int (3 : Int32)), .val (.int x0), .val (.int x1), .val (.int x2), .val (.int r0), .val (.int r1), .val (.int r2), .val (.int r3), .val (.ref ad1), .val (.ref ad2), .val (.ref ad3), .unset] rfl rfl ?_
  refine g_iloadN C X7 at_115 rfl rfl ?_
  refine g_if C X7 at_116 (by decide) rfl rfl ?_ ?_
  · intro h116
    have h116 : (2 : Int) ≤ 0 := h116
    exact absurd h116 (by decide)
  · intro h116
    have h116 : (2 : Int) > 0 := h116
    refine g_aload C X7 at_119 rfl rfl ?_
    refine g_iconst C X7 (0 : Int32) at_121 rfl rfl ?_
    refine g_iload C X7 at_122 rfl rfl ?_
    refine g_iastore C X7 at_124 e7 A7_ad1 (by decide) (by decide) rfl ?_
    intro T8 h8_ X8 e8 W8 A8
    have N8 := Fr.snoc X8 N7 g_ad1
    have Z8 : n0 ≤ h8_.size := Nat.le_trans Z7 (Keep.of_wr W8).1
    have A8_ad2 := A7_ad2.other W8 ne_ad1_ad2.symm
    have A8_ad3 := A7.other W8 ne_ad1_ad3.symm
    refine g_iloadN C X8 at_125 rfl rfl ?_
    refine g_iconst C X8 (1 : Int32) at_126 rfl rfl ?_
    refine g_icmp C X8 at_127 (by decide) rfl rfl ?_ ?_
    · intro h127
      have h127 : (2 : Int) ≤ 1 := h127
      exact absurd h127 (by decide)
    · intro h127
      have h127 : (2 : Int) > 1 := h127
      refine g_aload C X8 at_130 rfl rfl ?_
      refine g_iconst C X8 (1 : Int32) at_132 rfl rfl ?_
      refine g_iload C X8 at_133 rfl rfl ?_
      refine g_iastore C X8 at_135 e8 A8 (by decide) (by decide) rfl ?_
      intro T9 h9_ X9 e9 W9 A9
      have N9 := Fr.snoc X9 N8 g_ad1
      have Z9 : n0 ≤ h9_.size := Nat.le_trans Z8 (Keep.of_wr W9).1
      have A9_ad2 := A8_ad2.other W9 ne_ad1_ad2.symm
      have A9_ad3 := A8_ad3.other W9 ne_ad1_ad3.symm
      refine g_iloadN C X9 at_136 rfl rfl ?_
      refine g_iconst C X9 (2 : Int32) at_137 rfl rfl ?_
      refine g_icmp C X9 at_138 (by decide) rfl rfl ?_ ?_
      · intro h138
        have h138 : (2 : Int) ≤ 2 := h138
        refine g_iload C X9 at_147 rfl rfl ?_
        refine g_if C X9 at_149 (by decide) rfl rfl ?_ ?_
        · intro h149
          have h149 : (3 : Int) ≤ 0 := h149
          exact absurd h149 (by decide)
        · intro h149
          have h149 : (3 : Int) > 0 := h149
          refine g_aload C X9 at_152 rfl rfl ?_
          refine g_iconst C X9 (0 : Int32) at_154 rfl rfl ?_
          refine g_iload C X9 at_155 rfl rfl ?_
          refine g_iastore C X9 at_157 e9 A9_ad2 (by decide) (by decide) rfl ?_
          intro T10 h10_ X10 e10 W10 A10
          have N10 := Fr.snoc X10 N9 g_ad2
          have Z10 : n0 ≤ h10_.size := Nat.le_trans Z9 (Keep.of_wr W10).1
          have A10_ad1 := A9.other W10 ne_ad1_ad2
          have A10_ad3 := A9_ad3.other W10 ne_ad2_ad3.symm
          refine g_iload C X10 at_158 rfl rfl ?_
          refine g_iconst C X10 (1 : Int32) at_160 rfl rfl ?_
          refine g_icmp C X10 at_161 (by decide) rfl rfl ?_ ?_
          · intro h161
            have h161 : (3 : Int) ≤ 1 := h161
            exact absurd h161 (by decide)
          · intro h161
            have h161 : (3 : Int) > 1 := h161
            refine g_aload C X10 at_164 rfl rfl ?_
            refine g_iconst C X10 (1 : Int32) at_166 rfl rfl ?_
            refine g_iload C X10 at_167 rfl rfl ?_
            refine g_iastore C X10 at_169 e10 A10 (by decide) (by decide) rfl ?_
            intro T11 h11_ X11 e11 W11 A11
            have N11 := Fr.snoc X11 N10 g_ad2
            have Z11 : n0 ≤ h11_.size := Nat.le_trans Z10 (Keep.of_wr W11).1
            have A11_ad1 := A10_ad1.other W11 ne_ad1_ad2
            have A11_ad3 := A10_ad3.other W11 ne_ad2_ad3.symm
            refine g_iload C X11 at_170 rfl rfl ?_
            refine g_iconst C X11 (2 : Int32) at_172 rfl rfl ?_
            refine g_icmp C X11 at_173 (by decide) rfl rfl ?_ ?_
            · intro h173
              have h173 : (3 : Int) ≤ 2 := h173
              exact absurd h173 (by decide)
            · intro h173
              have h173 : (3 : Int) > 2 := h173
              refine g_aload C X11 at_176 rfl rfl ?_
              refine g_iconst C X11 (2 : Int32) at_178 rfl rfl ?_
              refine g_iload C X11 at_179 rfl rfl ?_
              refine g_iastore C X11 at_181 e11 A11 (by decide) (by decide) rfl ?_
              intro T12 h12_ X12 e12 W12 A12
              have N12 := Fr.snoc X12 N11 g_ad2
              have Z12 : n0 ≤ h12_.size := Nat.le_trans Z11 (Keep.of_wr W12).1
              have A12_ad1 := A11_ad1.other W12 ne_ad1_ad2
              have A12_ad3 := A11_ad3.other W12 ne_ad2_ad3.symm
              refine g_iload C X12 at_182 rfl rfl ?_
              refine g_iconst C X12 (3 : Int32) at_184 rfl rfl ?_
              refine g_icmp C X12 at_185 (by decide) rfl rfl ?_ ?_
              · intro h185
                have h185 : (3 : Int) ≤ 3 := h185
                have AI : Aw Z h12_ ad1 .int 2 (fun j => .int (([x0, x1] : List Int32).getD j 0)) := Aw.of A12_ad1 (by
                  intro j hj
                  have hj : j < 2 := hj
                  have hj : j = 0 ∨ j = 1 := by omega
                  rcases hj with rfl | rfl <;> rfl)
                have AP : Aw Z h12_ ad2 .int 3 (fun j => .int (([r0, r1, r2, r3] : List Int32).getD j 0)) := Aw.of A12 (by
                  intro j hj
                  have hj : j < 3 := hj
                  have hj : j = 0 ∨ j = 1 ∨ j = 2 := by omega
                  rcases hj with rfl | rfl | rfl <;> rfl)
                have AR : Aw Z h12_ ad3 .int 4 (fun j => .int (([r0, r1, r2, r3] : List Int32).getD j 0)) := Aw.of A12_ad3 (by
                  intro j hj
                  have hj : j < 4 := hj
                  have hj : j = 0 ∨ j = 1 ∨ j = 2 ∨ j = 3 := by omega
                  rcases hj with rfl | rfl | rfl | rfl <;> rfl)
                exact seg194_2 C X12 e12 N12 Z12 AI AP AR (by decide) (Or.inr (Or.inr (Or.inr (Or.inl rfl))))
              · intro h185
                have h185 : (3 : Int) > 3 := h185
                exact absurd h185 (by decide)
      · intro h138
        have h138 : (2 : Int) > 2 := h138
        exact absurd h138 (by decide)
set_option maxRecDepth 65536 in
set_option maxHeartbeats 40000000 in
theorem seg79_2_4 {p : Program} {l : Launch} {e : Env} {s : State} {m : MethodId} {args : Array Value} {below : List Frame} {meth : Method} {c : Code} {T0 : State} {locs : List Loc} {Z : State} {a0 : Array Value} {h0 : Heap} {n0 : Nat} {y0 y1 y2 x0 x1 x2 r0 r1 r2 r3 : Int32}
    (C : Cx Z a0 p s m meth c code maxLocals "com/example/ballast/ballast/storage/ClusterCatalogIsInSyncOfPinLaw" "law" ret) (X0 : Stand p l e room_1 s m args below meth c T0 locs 0 0) (e0 : T0.heap = h0) (N0 : Fr n0 locs) (Z0 : n0 ≤ h0.size)  :
    Go p e below s m (LQ n0) room_1.cells room_1.slots T0 79 #[.val (.int y0), .val (.int y1), .val (.int y2), .val (.int (2 : Int32)), .val (.int (4 : Int32)), .val (.int x0), .val (.int x1), .val (.int x2), .val (.int r0), .val (.int r1), .val (.int r2), .val (.int r3), .unset, .unset, .unset, .unset] [] := by
  refine g_iloadN C X0 at_79 rfl rfl ?_
  refine g_newarray (cap := 3) C X0 at_80 e0 (C.t 0 rfl) (by decide) (by decide) (by decide) (by decide) (by decide) rfl ?_
  intro T1 h1_ X1 e1 E1 lt1 ad1 ha1 A1
  have Z1 : n0 ≤ h1_.size := Nat.le_trans Z0 E1.1
  have g_ad1 : n0 ≤ ad1 := by omega
  refine g_astore C X1 at_82 #[.val (.int y0), .val (.int y1), .val (.int y2), .val (.int (2 : Int32)), .val (.int (4 : Int32)), .val (.int x0), .val (.int x1), .val (.int x2), .val (.int r0), .val (.int r1), .val (.int r2), .val (.int r3), .val (.ref ad1), .unset, .unset, .unset] rfl rfl ?_
  refine g_iload C X1 at_84 rfl rfl ?_
  refine g_newarray (cap := 4) C X1 at_86 e1 (C.t 0 rfl) (by decide) (by decide) (by decide) (by decide) (by decide) rfl ?_
  intro T2 h2_ X2 e2 E2 lt2 ad2 ha2 A2
  have Z2 : n0 ≤ h2_.size := Nat.le_trans Z1 E2.1
  have ne_ad1_ad2 : ad1 ≠ ad2 := Nat.ne_of_lt (Nat.lt_of_lt_of_eq A1.lt ha2.symm)
  have A2_ad1 := A1.ext E2
  have g_ad2 : n0 ≤ ad2 := by omega
  refine g_astore C X2 at_88 #[.val (.int y0), .val (.int y1), .val (.int y2), .val (.int (2 : Int32)), .val (.int (4 : Int32)), .val (.int x0), .val (.int x1), .val (.int x2), .val (.int r0), .val (.int r1), .val (.int r2), .val (.int r3), .val (.ref ad1), .val (.ref ad2), .unset, .unset] rfl rfl ?_
  refine g_iconst C X2 (4 : Int32) at_90 rfl rfl ?_
  refine g_newarray (cap := 4) C X2 at_91 e2 (C.t 0 rfl) (by decide) (by decide) (by decide) (by decide) (by decide) rfl ?_
  intro T3 h3_ X3 e3 E3 lt3 ad3 ha3 A3
  have Z3 : n0 ≤ h3_.size := Nat.le_trans Z2 E3.1
  have ne_ad1_ad3 : ad1 ≠ ad3 := Nat.ne_of_lt (Nat.lt_of_lt_of_eq A2_ad1.lt ha3.symm)
  have A3_ad1 := A2_ad1.ext E3
  have ne_ad2_ad3 : ad2 ≠ ad3 := Nat.ne_of_lt (Nat.lt_of_lt_of_eq A2.lt ha3.symm)
  have A3_ad2 := A2.ext E3
  have g_ad3 : n0 ≤ ad3 := by omega
  refine g_dup C X3 at_93 rfl rfl ?_
  refine g_iconst C X3 (0 : Int32) at_94 rfl rfl ?_
  refine g_iload C X3 at_95 rfl rfl ?_
  refine g_iastore C X3 at_97 e3 A3 (by decide) (by decide) rfl ?_
  intro T4 h4_ X4 e4 W4 A4
  have N4 := Fr.snoc X4 N0 g_ad3
  have Z4 : n0 ≤ h4_.size := Nat.le_trans Z3 (Keep.of_wr W4).1
  have A4_ad1 := A3_ad1.other W4 ne_ad1_ad3
  have A4_ad2 := A3_ad2.other W4 ne_ad2_ad3
  refine g_dup C X4 at_98 rfl rfl ?_
  refine g_iconst C X4 (1 : Int32) at_99 rfl rfl ?_
  refine g_iload C X4 at_100 rfl rfl ?_
  refine g_iastore C X4 at_102 e4 A4 (by decide) (by decide) rfl ?_
  intro T5 h5_ X5 e5 W5 A5
  have N5 := Fr.snoc X5 N4 g_ad3
  have Z5 : n0 ≤ h5_.size := Nat.le_trans Z4 (Keep.of_wr W5).1
  have A5_ad1 := A4_ad1.other W5 ne_ad1_ad3
  have A5_ad2 := A4_ad2.other W5 ne_ad2_ad3
  refine g_dup C X5 at_103 rfl rfl ?_
  refine g_iconst C X5 (2 : Int32) at_104 rfl rfl ?_
  refine g_iload C X5 at_105 rfl rfl ?_
  refine g_iastore C X5 at_107 e5 A5 (by decide) (by decide) rfl ?_
  intro T6 h6_ X6 e6 W6 A6
  have N6 := Fr.snoc X6 N5 g_ad3
  have Z6 : n0 ≤ h6_.size := Nat.le_trans Z5 (Keep.of_wr W6).1
  have A6_ad1 := A5_ad1.other W6 ne_ad1_ad3
  have A6_ad2 := A5_ad2.other W6 ne_ad2_ad3
  refine g_dup C X6 at_108 rfl rfl ?_
  refine g_iconst C X6 (3 : Int32) at_109 rfl rfl ?_
  refine g_iload C X6 at_110 rfl rfl ?_
  refine g_iastore C X6 at_112 e6 A6 (by decide) (by decide) rfl ?_
  intro T7 h7_ X7 e7 W7 A7
  have N7 := Fr.snoc X7 N6 g_ad3
  have Z7 : n0 ≤ h7_.size := Nat.le_trans Z6 (Keep.of_wr W7).1
  have A7_ad1 := A6_ad1.other W7 ne_ad1_ad3
  have A7_ad2 := A6_ad2.other W7 ne_ad2_ad3
  refine g_astore C X7 at_113 #[.val (.int y0), .val (.int y1), .val (.int y2), .val (.int (2 : Int32)), .val (.int (4 : Int32)), .val (.int x0), .val (.int x1), .val (.int x2), .val (.int r0), .val (.int r1), .val (.int r2), .val (.int r3), .val (.ref ad1), .val (.ref ad2), .val (.ref ad3), .unset] rfl rfl ?_
  refine g_iloadN C X7 at_115 rfl rfl ?_
  refine g_if C X7 at_116 (by decide) rfl rfl ?_ ?_
  · intro h116
    have h116 : (2 : Int) ≤ 0 := h116
    exact absurd h116 (by decide)
  · intro h116
    have h116 : (2 : Int) > 0 := h116
    refine g_aload C X7 at_119 rfl rfl ?_
    refine g_iconst C X7 (0 : Int32) at_121 rfl rfl ?_
    refine g_iload C X7 at_122 rfl rfl ?_
    refine g_iastore C X7 at_124 e7 A7_ad1 (by decide) (by decide) rfl ?_
    intro T8 h8_ X8 e8 W8 A8
    have N8 := Fr.snoc X8 N7 g_ad1
    have Z8 : n0 ≤ h8_.size := Nat.le_trans Z7 (Keep.of_wr W8).1
    have A8_ad2 := A7_ad2.other W8 ne_ad1_ad2.symm
    have A8_ad3 := A7.other W8 ne_ad1_ad3.symm
    refine g_iloadN C X8 at_125 rfl rfl ?_
    refine g_iconst C X8 (1 : Int32) at_126 rfl rfl ?_
    refine g_icmp C X8 at_127 (by decide) rfl rfl ?_ ?_
    · intro h127
      have h127 : (2 : Int) ≤ 1 := h127
      exact absurd h127 (by decide)
    · intro h127
      have h127 : (2 : Int) > 1 := h127
      refine g_aload C X8 at_130 rfl rfl ?_
      refine g_iconst C X8 (1 : Int32) at_132 rfl rfl ?_
      refine g_iload C X8 at_133 rfl rfl ?_
      refine g_iastore C X8 at_135 e8 A8 (by decide) (by decide) rfl ?_
      intro T9 h9_ X9 e9 W9 A9
      have N9 := Fr.snoc X9 N8 g_ad1
      have Z9 : n0 ≤ h9_.size := Nat.le_trans Z8 (Keep.of_wr W9).1
      have A9_ad2 := A8_ad2.other W9 ne_ad1_ad2.symm
      have A9_ad3 := A8_ad3.other W9 ne_ad1_ad3.symm
      refine g_iloadN C X9 at_136 rfl rfl ?_
      refine g_iconst C X9 (2 : Int32) at_137 rfl rfl ?_
      refine g_icmp C X9 at_138 (by decide) rfl rfl ?_ ?_
      · intro h138
        have h138 : (2 : Int) ≤ 2 := h138
        refine g_iload C X9 at_147 rfl rfl ?_
        refine g_if C X9 at_149 (by decide) rfl rfl ?_ ?_
        · intro h149
          have h149 : (4 : Int) ≤ 0 := h149
          exact absurd h149 (by decide)
        · intro h149
          have h149 : (4 : Int) > 0 := h149
          refine g_aload C X9 at_152 rfl rfl ?_
          refine g_iconst C X9 (0 : Int32) at_154 rfl rfl ?_
          refine g_iload C X9 at_155 rfl rfl ?_
          refine g_iastore C X9 at_157 e9 A9_ad2 (by decide) (by decide) rfl ?_
          intro T10 h10_ X10 e10 W10 A10
          have N10 := Fr.snoc X10 N9 g_ad2
          have Z10 : n0 ≤ h10_.size := Nat.le_trans Z9 (Keep.of_wr W10).1
          have A10_ad1 := A9.other W10 ne_ad1_ad2
          have A10_ad3 := A9_ad3.other W10 ne_ad2_ad3.symm
          refine g_iload C X10 at_158 rfl rfl ?_
          refine g_iconst C X10 (1 : Int32) at_160 rfl rfl ?_
          refine g_icmp C X10 at_161 (by decide) rfl rfl ?_ ?_
          · intro h161
            have h161 : (4 : Int) ≤ 1 := h161
            exact absurd h161 (by decide)
          · intro h161
            have h161 : (4 : Int) > 1 := h161
            refine g_aload C X10 at_164 rfl rfl ?_
            refine g_iconst C X10 (1 : Int32) at_166 rfl rfl ?_
            refine g_iload C X10 at_167 rfl rfl ?_
            refine g_iastore C X10 at_169 e10 A10 (by decide) (by decide) rfl ?_
            intro T11 h11_ X11 e11 W11 A11
            have N11 := Fr.snoc X11 N10 g_ad2
            have Z11 : n0 ≤ h11_.size := Nat.le_trans Z10 (Keep.of_wr W11).1
            have A11_ad1 := A10_ad1.other W11 ne_ad1_ad2
            have A11_ad3 := A10_ad3.other W11 ne_ad2_ad3.symm
            refine g_iload C X11 at_170 rfl rfl ?_
            refine g_iconst C X11 (2 : Int32) at_172 rfl rfl ?_
            refine g_icmp C X11 at_173 (by decide) rfl rfl ?_ ?_
            · intro h173
              have h173 : (4 : Int) ≤ 2 := h173
              exact absurd h173 (by decide)
            · intro h173
              have h173 : (4 : Int) > 2 := h173
              refine g_aload C X11 at_176 rfl rfl ?_
              refine g_iconst C X11 (2 : Int32) at_178 rfl rfl ?_
              refine g_iload C X11 at_179 rfl rfl ?_
              refine g_iastore C X11 at_181 e11 A11 (by decide) (by decide) rfl ?_
              intro T12 h12_ X12 e12 W12 A12
              have N12 := Fr.snoc X12 N11 g_ad2
              have Z12 : n0 ≤ h12_.size := Nat.le_trans Z11 (Keep.of_wr W12).1
              have A12_ad1 := A11_ad1.other W12 ne_ad1_ad2
              have A12_ad3 := A11_ad3.other W12 ne_ad2_ad3.symm
              refine g_iload C X12 at_182 rfl rfl ?_
              refine g_iconst C X12 (3 : Int32) at_184 rfl rfl ?_
              refine g_icmp C X12 at_185 (by decide) rfl rfl ?_ ?_
              · intro h185
                have h185 : (4 : Int) ≤ 3 := h185
                exact absurd h185 (by decide)
              · intro h185
                have h185 : (4 : Int) > 3 := h185
                refine g_aload C X12 at_188 rfl rfl ?_
                refine g_iconst C X12 (3 : Int32) at_190 rfl rfl ?_
                refine g_iload C X12 at_191 rfl rfl ?_
                refine g_iastore C X12 at_193 e12 A12 (by decide) (by decide) rfl ?_
                intro T13 h13_ X13 e13 W13 A13
                have N13 := Fr.snoc X13 N12 g_ad2
                have Z13 : n0 ≤ h13_.size := Nat.le_trans Z12 (Keep.of_wr W13).1
                have A13_ad1 := A12_ad1.other W13 ne_ad1_ad2
                have A13_ad3 := A12_ad3.other W13 ne_ad2_ad3.symm
                have AI : Aw Z h13_ ad1 .int 2 (fun j => .int (([x0, x1] : List Int32).getD j 0)) := Aw.of A13_ad1 (by
                  intro j hj
                  have hj : j < 2 := hj
                  have hj : j = 0 ∨ j = 1 := by omega
                  rcases hj with rfl | rfl <;> rfl)
                have AP : Aw Z h13_ ad2 .int 4 (fun j => .int (([r0, r1, r2, r3] : List Int32).getD j 0)) := Aw.of A13 (by
                  intro j hj
                  have hj : j < 4 := hj
                  have hj : j = 0 ∨ j = 1 ∨ j = 2 ∨ j = 3 := by omega
                  rcases hj with rfl | rfl | rfl | rfl <;> rfl)
                have AR : Aw Z h13_ ad3 .int 4 (fun j => .int (([r0, r1, r2, r3] : List Int32).getD j 0)) := Aw.of A13_ad3 (by
                  intro j hj
                  have hj : j < 4 := hj
                  have hj : j = 0 ∨ j = 1 ∨ j = 2 ∨ j = 3 := by omega
                  rcases hj with rfl | rfl | rfl | rfl <;> rfl)
                exact seg194_2 C X13 e13 N13 Z13 AI AP AR (by decide) (Or.inr (Or.inr (Or.inr (Or.inr (rfl)))))
      · intro h138
        have h138 : (2 : Int) > 2 := h138
        exact absurd h138 (by decide)
set_option maxRecDepth 65536 in
set_option maxHeartbeats 40000000 in
theorem fin3 {p : Program} {l : Launch} {e : Env} {s : State} {m : MethodId} {args : Array Value} {below : List Frame} {meth : Method} {c : Code} {T0 : State} {locs : List Loc} {Z : State} {a0 : Array Value} {h0 : Heap} {n0 : Nat} {y0 y1 y2 mm ex x0 x1 x2 r0 r1 r2 r3 : Int32} {ia rp rr : Addr} {M : Nat}
    (C : Cx Z a0 p s m meth c code maxLocals "com/example/ballast/ballast/storage/ClusterCatalogIsInSyncOfPinLaw" "law" ret) (X0 : Stand p l e room_1 s m args below meth c T0 locs 3 11) (e0 : T0.heap = h0) (N0 : Fr n0 locs) (Z0 : n0 ≤ h0.size) (AI : Aw Z h0 ia .int 3 (fun j => .int (([x0, x1, x2] : List Int32).getD j 0))) (AP : Aw Z h0 rp .int M (fun j => .int (([r0, r1, r2, r3] : List Int32).getD j 0))) (AR : Aw Z h0 rr .int 4 (fun j => .int (([r0, r1, r2, r3] : List Int32).getD j 0))) (hM : mm.toInt = M) (hm : mm = (0 : Int32) ∨ mm = (1 : Int32) ∨ mm = (2 : Int32) ∨ mm = (3 : Int32) ∨ mm = (4 : Int32)) (hex : ex = 1 ∧ ((0 < mm.toInt ∧ r0.toInt = x0.toInt ∧ 1 < mm.toInt ∧ r1.toInt = x1.toInt ∧ 2 < mm.toInt ∧ r2.toInt = x2.toInt) ∨ (0 < mm.toInt ∧ r0.toInt = x0.toInt ∧ 1 < mm.toInt ∧ r1.toInt = x1.toInt ∧ 3 < mm.toInt ∧ r3.toInt = x2.toInt) ∨ (0 < mm.toInt ∧ r0.toInt = x0.toInt ∧ 2 < mm.toInt ∧ r2.toInt = x1.toInt ∧ 3 < mm.toInt ∧ r3.toInt = x2.toInt) ∨ (1 < mm.toInt ∧ r1.toInt = x0.toInt ∧ 2 < mm.toInt ∧ r2.toInt = x1.toInt ∧ 3 < mm.toInt ∧ r3.toInt = x2.toInt)) ∨ ex = 0 ∧ ¬ ((0 < mm.toInt ∧ r0.toInt = x0.toInt ∧ 1 < mm.toInt ∧ r1.toInt = x1.toInt ∧ 2 < mm.toInt ∧ r2.toInt = x2.toInt) ∨ (0 < mm.toInt ∧ r0.toInt = x0.toInt ∧ 1 < mm.toInt ∧ r1.toInt = x1.toInt ∧ 3 < mm.toInt ∧ r3.toInt = x2.toInt) ∨ (0 < mm.toInt ∧ r0.toInt = x0.toInt ∧ 2 < mm.toInt ∧ r2.toInt = x1.toInt ∧ 3 < mm.toInt ∧ r3.toInt = x2.toInt) ∨ (1 < mm.toInt ∧ r1.toInt = x0.toInt ∧ 2 < mm.toInt ∧ r2.toInt = x1.toInt ∧ 3 < mm.toInt ∧ r3.toInt = x2.toInt))) :
    Go p e below s m (LQ n0) room_1.cells room_1.slots T0 605 #[.val (.int y0), .val (.int y1), .val (.int y2), .val (.int (3 : Int32)), .val (.int mm), .val (.int x0), .val (.int x1), .val (.int x2), .val (.int r0), .val (.int r1), .val (.int r2), .val (.int r3), .val (.ref ia), .val (.ref rp), .val (.ref rr), .val (.int ex)] [] := by
  rcases hm with rfl | rfl | rfl | rfl | rfl
  · skip
    rw [show (0 : Int32).toInt = 0 by decide] at hM hex
    obtain rfl : M = 0 := by omega
    refine g_aload C X0 at_605 rfl rfl ?_
    refine g_aload C X0 at_607 rfl rfl ?_
    refine g_callS (argsL := [(.ref ia), (.ref rp)]) (rest := []) (W := 0) C X0 at_609 e0 (C.t 5 rfl) (C.t 6 rfl) (C.t 7 rfl) (C.t 8 rfl) (sy3_0 l Z a0 C.w [] ia rp x0 x1 x2 r0 r1 r2 r3 h0 n0 Z0 AI AP) (by decide) pd_2 rfl rfl rfl (Nat.le_of_eq rfl) (by decide) (by decide) (by decide) (by decide) rfl ?_
    intro T1 v1_ L1 X1 hQ1
    obtain ⟨⟨r, rfl, hr⟩, N1q, hh1⟩ := hQ1
    have N1 := Fr.app N0 N1q
    have hsame : r = ex := by
      rcases hr with ⟨rfl, u⟩ | ⟨rfl, u⟩ <;> rcases hex with ⟨rfl, v⟩ | ⟨rfl, v⟩
      · rfl
      · exfalso; exact u
      · exfalso; omega
      · rfl
    refine g_iload C X1 at_612 rfl rfl ?_
    refine g_icmp C X1 at_614 (by decide) rfl rfl ?_ ?_
    · intro h614
      have h614 : ¬ r.toInt = ex.toInt := h614
      exact absurd (congrArg Int32.toInt hsame) h614
    · intro h614
      have h614 : r.toInt = ex.toInt := h614
      refine g_iconst C X1 (1 : Int32) at_617 rfl rfl ?_
      refine g_goto C X1 at_618 (by decide) rfl ?_
      exact g_ireturnN C X1 at_622 rfl (Or.inl rfl) ⟨rfl, N1⟩ (by decide) (by decide)
  · skip
    rw [show (1 : Int32).toInt = 1 by decide] at hM hex
    obtain rfl : M = 1 := by omega
    refine g_aload C X0 at_605 rfl rfl ?_
    refine g_aload C X0 at_607 rfl rfl ?_
    refine g_callS (argsL := [(.ref ia), (.ref rp)]) (rest := []) (W := 0) C X0 at_609 e0 (C.t 5 rfl) (C.t 6 rfl) (C.t 7 rfl) (C.t 8 rfl) (sy3_1 l Z a0 C.w [] ia rp x0 x1 x2 r0 r1 r2 r3 h0 n0 Z0 AI AP) (by decide) pd_2 rfl rfl rfl (Nat.le_of_eq rfl) (by decide) (by decide) (by decide) (by decide) rfl ?_
    intro T2 v2_ L2 X2 hQ2
    obtain ⟨⟨r, rfl, hr⟩, N2q, hh2⟩ := hQ2
    have N2 := Fr.app N0 N2q
    have hsame : r = ex := by
      rcases hr with ⟨rfl, u⟩ | ⟨rfl, u⟩ <;> rcases hex with ⟨rfl, v⟩ | ⟨rfl, v⟩
      · rfl
      · exfalso; exact u
      · exfalso; omega
      · rfl
    refine g_iload C X2 at_612 rfl rfl ?_
    refine g_icmp C X2 at_614 (by decide) rfl rfl ?_ ?_
    · intro h614
      have h614 : ¬ r.toInt = ex.toInt := h614
      exact absurd (congrArg Int32.toInt hsame) h614
    · intro h614
      have h614 : r.toInt = ex.toInt := h614
      refine g_iconst C X2 (1 : Int32) at_617 rfl rfl ?_
      refine g_goto C X2 at_618 (by decide) rfl ?_
      exact g_ireturnN C X2 at_622 rfl (Or.inl rfl) ⟨rfl, N2⟩ (by decide) (by decide)
  · skip
    rw [show (2 : Int32).toInt = 2 by decide] at hM hex
    obtain rfl : M = 2 := by omega
    refine g_aload C X0 at_605 rfl rfl ?_
    refine g_aload C X0 at_607 rfl rfl ?_
    refine g_callS (argsL := [(.ref ia), (.ref rp)]) (rest := []) (W := 0) C X0 at_609 e0 (C.t 5 rfl) (C.t 6 rfl) (C.t 7 rfl) (C.t 8 rfl) (sy3_2 l Z a0 C.w [] ia rp x0 x1 x2 r0 r1 r2 r3 h0 n0 Z0 AI AP) (by decide) pd_2 rfl rfl rfl (Nat.le_of_eq rfl) (by decide) (by decide) (by decide) (by decide) rfl ?_
    intro T3 v3_ L3 X3 hQ3
    obtain ⟨⟨r, rfl, hr⟩, N3q, hh3⟩ := hQ3
    have N3 := Fr.app N0 N3q
    have hsame : r = ex := by
      rcases hr with ⟨rfl, u⟩ | ⟨rfl, u⟩ <;> rcases hex with ⟨rfl, v⟩ | ⟨rfl, v⟩
      · rfl
      · exfalso; exact u
      · exfalso; omega
      · rfl
    refine g_iload C X3 at_612 rfl rfl ?_
    refine g_icmp C X3 at_614 (by decide) rfl rfl ?_ ?_
    · intro h614
      have h614 : ¬ r.toInt = ex.toInt := h614
      exact absurd (congrArg Int32.toInt hsame) h614
    · intro h614
      have h614 : r.toInt = ex.toInt := h614
      refine g_iconst C X3 (1 : Int32) at_617 rfl rfl ?_
      refine g_goto C X3 at_618 (by decide) rfl ?_
      exact g_ireturnN C X3 at_622 rfl (Or.inl rfl) ⟨rfl, N3⟩ (by decide) (by decide)
  · skip
    rw [show (3 : Int32).toInt = 3 by decide] at hM hex
    obtain rfl : M = 3 := by omega
    refine g_aload C X0 at_605 rfl rfl ?_
    refine g_aload C X0 at_607 rfl rfl ?_
    refine g_callS (argsL := [(.ref ia), (.ref rp)]) (rest := []) (W := 0) C X0 at_609 e0 (C.t 5 rfl) (C.t 6 rfl) (C.t 7 rfl) (C.t 8 rfl) (sy3_3 l Z a0 C.w [] ia rp x0 x1 x2 r0 r1 r2 r3 h0 n0 Z0 AI AP) (by decide) pd_2 rfl rfl rfl (Nat.le_of_eq rfl) (by decide) (by decide) (by decide) (by decide) rfl ?_
    intro T4 v4_ L4 X4 hQ4
    obtain ⟨⟨r, rfl, hr⟩, N4q, hh4⟩ := hQ4
    have N4 := Fr.app N0 N4q
    have hsame : r = ex := by
      rcases hr with ⟨rfl, u⟩ | ⟨rfl, u⟩ <;> rcases hex with ⟨rfl, v⟩ | ⟨rfl, v⟩
      · rfl
      · exfalso; omega
      · exfalso; omega
      · rfl
    refine g_iload C X4 at_612 rfl rfl ?_
    refine g_icmp C X4 at_614 (by decide) rfl rfl ?_ ?_
    · intro h614
      have h614 : ¬ r.toInt = ex.toInt := h614
      exact absurd (congrArg Int32.toInt hsame) h614
    · intro h614
      have h614 : r.toInt = ex.toInt := h614
      refine g_iconst C X4 (1 : Int32) at_617 rfl rfl ?_
      refine g_goto C X4 at_618 (by decide) rfl ?_
      exact g_ireturnN C X4 at_622 rfl (Or.inl rfl) ⟨rfl, N4⟩ (by decide) (by decide)
  · skip
    rw [show (4 : Int32).toInt = 4 by decide] at hM hex
    obtain rfl : M = 4 := by omega
    refine g_aload C X0 at_605 rfl rfl ?_
    refine g_aload C X0 at_607 rfl rfl ?_
    refine g_callS (argsL := [(.ref ia), (.ref rp)]) (rest := []) (W := 0) C X0 at_609 e0 (C.t 5 rfl) (C.t 6 rfl) (C.t 7 rfl) (C.t 8 rfl) (sy3_4 l Z a0 C.w [] ia rp x0 x1 x2 r0 r1 r2 r3 h0 n0 Z0 AI AP) (by decide) pd_2 rfl rfl rfl (Nat.le_of_eq rfl) (by decide) (by decide) (by decide) (by decide) rfl ?_
    intro T5 v5_ L5 X5 hQ5
    obtain ⟨⟨r, rfl, hr⟩, N5q, hh5⟩ := hQ5
    have N5 := Fr.app N0 N5q
    have hsame : r = ex := by
      rcases hr with ⟨rfl, u⟩ | ⟨rfl, u⟩ <;> rcases hex with ⟨rfl, v⟩ | ⟨rfl, v⟩
      · rfl
      · exfalso; omega
      · exfalso; omega
      · rfl
    refine g_iload C X5 at_612 rfl rfl ?_
    refine g_icmp C X5 at_614 (by decide) rfl rfl ?_ ?_
    · intro h614
      have h614 : ¬ r.toInt = ex.toInt := h614
      exact absurd (congrArg Int32.toInt hsame) h614
    · intro h614
      have h614 : r.toInt = ex.toInt := h614
      refine g_iconst C X5 (1 : Int32) at_617 rfl rfl ?_
      refine g_goto C X5 at_618 (by decide) rfl ?_
      exact g_ireturnN C X5 at_622 rfl (Or.inl rfl) ⟨rfl, N5⟩ (by decide) (by decide)
set_option maxRecDepth 65536 in
set_option maxHeartbeats 40000000 in
theorem blk3_3 {p : Program} {l : Launch} {e : Env} {s : State} {m : MethodId} {args : Array Value} {below : List Frame} {meth : Method} {c : Code} {T0 : State} {locs : List Loc} {Z : State} {a0 : Array Value} {h0 : Heap} {n0 : Nat} {y0 y1 y2 mm x0 x1 x2 r0 r1 r2 r3 : Int32} {ia rp rr : Addr} {M : Nat}
    (C : Cx Z a0 p s m meth c code maxLocals "com/example/ballast/ballast/storage/ClusterCatalogIsInSyncOfPinLaw" "law" ret) (X0 : Stand p l e room_1 s m args below meth c T0 locs 3 11) (e0 : T0.heap = h0) (N0 : Fr n0 locs) (Z0 : n0 ≤ h0.size) (AI : Aw Z h0 ia .int 3 (fun j => .int (([x0, x1, x2] : List Int32).getD j 0))) (AP : Aw Z h0 rp .int M (fun j => .int (([r0, r1, r2, r3] : List Int32).getD j 0))) (AR : Aw Z h0 rr .int 4 (fun j => .int (([r0, r1, r2, r3] : List Int32).getD j 0))) (hM : mm.toInt = M) (hm : mm = (0 : Int32) ∨ mm = (1 : Int32) ∨ mm = (2 : Int32) ∨ mm = (3 : Int32) ∨ mm = (4 : Int32)) (k0 : ¬ (0 < mm.toInt ∧ r0.toInt = x0.toInt ∧ 1 < mm.toInt ∧ r1.toInt = x1.toInt ∧ 2 < mm.toInt ∧ r2.toInt = x2.toInt)) (k1 : ¬ (0 < mm.toInt ∧ r0.toInt = x0.toInt ∧ 1 < mm.toInt ∧ r1.toInt = x1.toInt ∧ 3 < mm.toInt ∧ r3.toInt = x2.toInt)) (k2 : ¬ (0 < mm.toInt ∧ r0.toInt = x0.toInt ∧ 2 < mm.toInt ∧ r2.toInt = x1.toInt ∧ 3 < mm.toInt ∧ r3.toInt = x2.toInt)) :
    Go p e below s m (LQ n0) room_1.cells room_1.slots T0 559 #[.val (.int y0), .val (.int y1), .val (.int y2), .val (.int (3 : Int32)), .val (.int mm), .val (.int x0), .val (.int x1), .val (.int x2), .val (.int r0), .val (.int r1), .val (.int r2), .val (.int r3), .val (.ref ia), .val (.ref rp), .val (.ref rr), .unset] [] := by
  refine g_aload C X0 at_559 rfl rfl ?_
  refine g_iload C X0 at_561 rfl rfl ?_
  refine g_iconst C X0 (1 : Int32) at_563 rfl rfl ?_
  refine g_iload C X0 at_564 rfl rfl ?_
  refine g_callS (argsL := [(.ref rr), (.int mm), (.int (1 : Int32)), (.int x0)]) (rest := []) (W := 0) C X0 at_566 e0 (C.t 1 rfl) (C.t 2 rfl) (C.t 3 rfl) (C.t 4 rfl) (rm1 l Z a0 C.w [] rr mm (1 : Int32) x0 (fun j => ([r0, r1, r2, r3] : List Int32).getD j 0) h0 n0 Z0 AR (by decide) (by decide)) (by decide) pd_1 rfl rfl rfl (Nat.le_of_eq rfl) (by decide) (by decide) (by decide) (by decide) rfl ?_
  intro T1 v1_ L1 X1 hQ1
  obtain ⟨⟨q1, rfl, hq1⟩, N1q, hh1⟩ := hQ1
  have N1 := Fr.app N0 N1q
  have hq1 : (q1 = 1 ∧ (1 < mm.toInt ∧ r1.toInt = x0.toInt) ∨ q1 = 0 ∧ ¬ (1 < mm.toInt ∧ r1.toInt = x0.toInt)) := hq1
  rcases hq1 with ⟨rfl, u1⟩ | ⟨rfl, u1⟩
  · skip
    refine g_if C X1 at_569 (by decide) rfl rfl ?_ ?_
    · intro h569
      have h569 : (1 : Int) = 0 := h569
      exact absurd h569 (by decide)
    · intro h569
      have h569 : ¬ (1 : Int) = 0 := h569
      refine g_aload C X1 at_572 rfl rfl ?_
      refine g_iload C X1 at_574 rfl rfl ?_
      refine g_iconst C X1 (2 : Int32) at_576 rfl rfl ?_
      refine g_iload C X1 at_577 rfl rfl ?_
      refine g_callS (argsL := [(.ref rr), (.int mm), (.int (2 : Int32)), (.int x1)]) (rest := []) (W := 0) C X1 at_579 hh1 (C.t 1 rfl) (C.t 2 rfl) (C.t 3 rfl) (C.t 4 rfl) (rm1 l Z a0 C.w [] rr mm (2 : Int32) x1 (fun j => ([r0, r1, r2, r3] : List Int32).getD j 0) h0 n0 Z0 AR (by decide) (by decide)) (by decide) pd_1 rfl rfl rfl (Nat.le_of_eq rfl) (by decide) (by decide) (by decide) (by decide) rfl ?_
      intro T2 v2_ L2 X2 hQ2
      obtain ⟨⟨q2, rfl, hq2⟩, N2q, hh2⟩ := hQ2
      have N2 := Fr.app N1 N2q
      have hq2 : (q2 = 1 ∧ (2 < mm.toInt ∧ r2.toInt = x1.toInt) ∨ q2 = 0 ∧ ¬ (2 < mm.toInt ∧ r2.toInt = x1.toInt)) := hq2
      rcases hq2 with ⟨rfl, u2⟩ | ⟨rfl, u2⟩
      · skip
        refine g_if C X2 at_582 (by decide) rfl rfl ?_ ?_
        · intro h582
          have h582 : (1 : Int) = 0 := h582
          exact absurd h582 (by decide)
        · intro h582
          have h582 : ¬ (1 : Int) = 0 := h582
          refine g_aload C X2 at_585 rfl rfl ?_
          refine g_iload C X2 at_587 rfl rfl ?_
          refine g_iconst C X2 (3 : Int32) at_589 rfl rfl ?_
          refine g_iload C X2 at_590 rfl rfl ?_
          refine g_callS (argsL := [(.ref rr), (.int mm), (.int (3 : Int32)), (.int x2)]) (rest := []) (W := 0) C X2 at_592 hh2 (C.t 1 rfl) (C.t 2 rfl) (C.t 3 rfl) (C.t 4 rfl) (rm1 l Z a0 C.w [] rr mm (3 : Int32) x2 (fun j => ([r0, r1, r2, r3] : List Int32).getD j 0) h0 n0 Z0 AR (by decide) (by decide)) (by decide) pd_1 rfl rfl rfl (Nat.le_of_eq rfl) (by decide) (by decide) (by decide) (by decide) rfl ?_
          intro T3 v3_ L3 X3 hQ3
          obtain ⟨⟨q3, rfl, hq3⟩, N3q, hh3⟩ := hQ3
          have N3 := Fr.app N2 N3q
          have hq3 : (q3 = 1 ∧ (3 < mm.toInt ∧ r3.toInt = x2.toInt) ∨ q3 = 0 ∧ ¬ (3 < mm.toInt ∧ r3.toInt = x2.toInt)) := hq3
          rcases hq3 with ⟨rfl, u3⟩ | ⟨rfl, u3⟩
          · skip
            refine g_if C X3 at_595 (by decide) rfl rfl ?_ ?_
            · intro h595
              have h595 : (1 : Int) = 0 := h595
              exact absurd h595 (by decide)
            · intro h595
              have h595 : ¬ (1 : Int) = 0 := h595
              refine g_iconst C X3 (1 : Int32) at_598 rfl rfl ?_
              refine g_goto C X3 at_599 (by decide) rfl ?_
              refine g_istore C X3 at_603 #[.val (.int y0), .val (.int y1), .val (.int y2), .val (.int (3 : Int32)), .val (.int mm), .val (.int x0), .val (.int x1), .val (.int x2), .val (.int r0), .val (.int r1), .val (.int r2), .val (.int r3), .val (.ref ia), .val (.ref rp), .val (.ref rr), .val (.int (1 : Int32))] rfl rfl ?_
              exact fin3 C X3 hh3 N3 Z0 AI AP AR hM hm (Or.inl ⟨rfl, by omega⟩)
          · skip
            refine g_if C X3 at_595 (by decide) rfl rfl ?_ ?_
            · intro h595
              have h595 : (0 : Int) = 0 := h595
              refine g_iconst C X3 (0 : Int32) at_602 rfl rfl ?_
              refine g_istore C X3 at_603 #[.val (.int y0), .val (.int y1), .val (.int y2), .val (.int (3 : Int32)), .val (.int mm), .val (.int x0), .val (.int x1), .val (.int x2), .val (.int r0), .val (.int r1), .val (.int r2), .val (.int r3), .val (.ref ia), .val (.ref rp), .val (.ref rr), .val (.int (0 : Int32))] rfl rfl ?_
              exact fin3 C X3 hh3 N3 Z0 AI AP AR hM hm (Or.inr ⟨rfl, by omega⟩)
            · intro h595
              have h595 : ¬ (0 : Int) = 0 := h595
              exact absurd h595 (by decide)
      · skip
        refine g_if C X2 at_582 (by decide) rfl rfl ?_ ?_
        · intro h582
          have h582 : (0 : Int) = 0 := h582
          refine g_iconst C X2 (0 : Int32) at_602 rfl rfl ?_
          refine g_istore C X2 at_603 #[.val (.int y0), .val (.int y1), .val (.int y2), .val (.int (3 : Int32)), .val (.int mm), .val (.int x0), .val (.int x1), .val (.int x2), .val (.int r0), .val (.int r1), .val (.int r2), .val (.int r3), .val (.ref ia), .val (.ref rp), .val (.ref rr), .val (.int (0 : Int32))] rfl rfl ?_
          exact fin3 C X2 hh2 N2 Z0 AI AP AR hM hm (Or.inr ⟨rfl, by omega⟩)
        · intro h582
          have h582 : ¬ (0 : Int) = 0 := h582
          exact absurd h582 (by decide)
  · skip
    refine g_if C X1 at_569 (by decide) rfl rfl ?_ ?_
    · intro h569
      have h569 : (0 : Int) = 0 := h569
      refine g_iconst C X1 (0 : Int32) at_602 rfl rfl ?_
      refine g_istore C X1 at_603 #[.val (.int y0), .val (.int y1), .val (.int y2), .val (.int (3 : Int32)), .val (.int mm), .val (.int x0), .val (.int x1), .val (.int x2), .val (.int r0), .val (.int r1), .val (.int r2), .val (.int r3), .val (.ref ia), .val (.ref rp), .val (.ref rr), .val (.int (0 : Int32))] rfl rfl ?_
      exact fin3 C X1 hh1 N1 Z0 AI AP AR hM hm (Or.inr ⟨rfl, by omega⟩)
    · intro h569
      have h569 : ¬ (0 : Int) = 0 := h569
      exact absurd h569 (by decide)
set_option maxRecDepth 65536 in
set_option maxHeartbeats 40000000 in
theorem blk3_2 {p : Program} {l : Launch} {e : Env} {s : State} {m : MethodId} {args : Array Value} {below : List Frame} {meth : Method} {c : Code} {T0 : State} {locs : List Loc} {Z : State} {a0 : Array Value} {h0 : Heap} {n0 : Nat} {y0 y1 y2 mm x0 x1 x2 r0 r1 r2 r3 : Int32} {ia rp rr : Addr} {M : Nat}
    (C : Cx Z a0 p s m meth c code maxLocals "com/example/ballast/ballast/storage/ClusterCatalogIsInSyncOfPinLaw" "law" ret) (X0 : Stand p l e room_1 s m args below meth c T0 locs 3 11) (e0 : T0.heap = h0) (N0 : Fr n0 locs) (Z0 : n0 ≤ h0.size) (AI : Aw Z h0 ia .int 3 (fun j => .int (([x0, x1, x2] : List Int32).getD j 0))) (AP : Aw Z h0 rp .int M (fun j => .int (([r0, r1, r2, r3] : List Int32).getD j 0))) (AR : Aw Z h0 rr .int 4 (fun j => .int (([r0, r1, r2, r3] : List Int32).getD j 0))) (hM : mm.toInt = M) (hm : mm = (0 : Int32) ∨ mm = (1 : Int32) ∨ mm = (2 : Int32) ∨ mm = (3 : Int32) ∨ mm = (4 : Int32)) (k0 : ¬ (0 < mm.toInt ∧ r0.toInt = x0.toInt ∧ 1 < mm.toInt ∧ r1.toInt = x1.toInt ∧ 2 < mm.toInt ∧ r2.toInt = x2.toInt)) (k1 : ¬ (0 < mm.toInt ∧ r0.toInt = x0.toInt ∧ 1 < mm.toInt ∧ r1.toInt = x1.toInt ∧ 3 < mm.toInt ∧ r3.toInt = x2.toInt)) :
    Go p e below s m (LQ n0) room_1.cells room_1.slots T0 520 #[.val (.int y0), .val (.int y1), .val (.int y2), .val (.int (3 : Int32)), .val (.int mm), .val (.int x0), .val (.int x1), .val (.int x2), .val (.int r0), .val (.int r1), .val (.int r2), .val (.int r3), .val (.ref ia), .val (.ref rp), .val (.ref rr), .unset] [] := by
  refine g_aload C X0 at_520 rfl rfl ?_
  refine g_iload C X0 at_522 rfl rfl ?_
  refine g_iconst C X0 (0 : Int32) at_524 rfl rfl ?_
  refine g_iload C X0 at_525 rfl rfl ?_
  refine g_callS (argsL := [(.ref rr), (.int mm), (.int (0 : Int32)), (.int x0)]) (rest := []) (W := 0) C X0 at_527 e0 (C.t 1 rfl) (C.t 2 rfl) (C.t 3 rfl) (C.t 4 rfl) (rm1 l Z a0 C.w [] rr mm (0 : Int32) x0 (fun j => ([r0, r1, r2, r3] : List Int32).getD j 0) h0 n0 Z0 AR (by decide) (by decide)) (by decide) pd_1 rfl rfl rfl (Nat.le_of_eq rfl) (by decide) (by decide) (by decide) (by decide) rfl ?_
  intro T1 v1_ L1 X1 hQ1
  obtain ⟨⟨q1, rfl, hq1⟩, N1q, hh1⟩ := hQ1
  have N1 := Fr.app N0 N1q
  have hq1 : (q1 = 1 ∧ (0 < mm.toInt ∧ r0.toInt = x0.toInt) ∨ q1 = 0 ∧ ¬ (0 < mm.toInt ∧ r0.toInt = x0.toInt)) := hq1
  rcases hq1 with ⟨rfl, u1⟩ | ⟨rfl, u1⟩
  · skip
    refine g_if C X1 at_530 (by decide) rfl rfl ?_ ?_
    · intro h530
      have h530 : (1 : Int) = 0 := h530
      exact absurd h530 (by decide)
    · intro h530
      have h530 : ¬ (1 : Int) = 0 := h530
      refine g_aload C X1 at_533 rfl rfl ?_
      refine g_iload C X1 at_535 rfl rfl ?_
      refine g_iconst C X1 (2 : Int32) at_537 rfl rfl ?_
      refine g_iload C X1 at_538 rfl rfl ?_
      refine g_callS (argsL := [(.ref rr), (.int mm), (.int (2 : Int32)), (.int x1)]) (rest := []) (W := 0) C X1 at_540 hh1 (C.t 1 rfl) (C.t 2 rfl) (C.t 3 rfl) (C.t 4 rfl) (rm1 l Z a0 C.w [] rr mm (2 : Int32) x1 (fun j => ([r0, r1, r2, r3] : List Int32).getD j 0) h0 n0 Z0 AR (by decide) (by decide)) (by decide) pd_1 rfl rfl rfl (Nat.le_of_eq rfl) (by decide) (by decide) (by decide) (by decide) rfl ?_
      intro T2 v2_ L2 X2 hQ2
      obtain ⟨⟨q2, rfl, hq2⟩, N2q, hh2⟩ := hQ2
      have N2 := Fr.app N1 N2q
      have hq2 : (q2 = 1 ∧ (2 < mm.toInt ∧ r2.toInt = x1.toInt) ∨ q2 = 0 ∧ ¬ (2 < mm.toInt ∧ r2.toInt = x1.toInt)) := hq2
      rcases hq2 with ⟨rfl, u2⟩ | ⟨rfl, u2⟩
      · skip
        refine g_if C X2 at_543 (by decide) rfl rfl ?_ ?_
        · intro h543
          have h543 : (1 : Int) = 0 := h543
          exact absurd h543 (by decide)
        · intro h543
          have h543 : ¬ (1 : Int) = 0 := h543
          refine g_aload C X2 at_546 rfl rfl ?_
          refine g_iload C X2 at_548 rfl rfl ?_
          refine g_iconst C X2 (3 : Int32) at_550 rfl rfl ?_
          refine g_iload C X2 at_551 rfl rfl ?_
          refine g_callS (argsL := [(.ref rr), (.int mm), (.int (3 : Int32)), (.int x2)]) (rest := []) (W := 0) C X2 at_553 hh2 (C.t 1 rfl) (C.t 2 rfl) (C.t 3 rfl) (C.t 4 rfl) (rm1 l Z a0 C.w [] rr mm (3 : Int32) x2 (fun j => ([r0, r1, r2, r3] : List Int32).getD j 0) h0 n0 Z0 AR (by decide) (by decide)) (by decide) pd_1 rfl rfl rfl (Nat.le_of_eq rfl) (by decide) (by decide) (by decide) (by decide) rfl ?_
          intro T3 v3_ L3 X3 hQ3
          obtain ⟨⟨q3, rfl, hq3⟩, N3q, hh3⟩ := hQ3
          have N3 := Fr.app N2 N3q
          have hq3 : (q3 = 1 ∧ (3 < mm.toInt ∧ r3.toInt = x2.toInt) ∨ q3 = 0 ∧ ¬ (3 < mm.toInt ∧ r3.toInt = x2.toInt)) := hq3
          rcases hq3 with ⟨rfl, u3⟩ | ⟨rfl, u3⟩
          · skip
            refine g_if C X3 at_556 (by decide) rfl rfl ?_ ?_
            · intro h556
              have h556 : ¬ (1 : Int) = 0 := h556
              refine g_iconst C X3 (1 : Int32) at_598 rfl rfl ?_
              refine g_goto C X3 at_599 (by decide) rfl ?_
              refine g_istore C X3 at_603 #[.val (.int y0), .val (.int y1), .val (.int y2), .val (.int (3 : Int32)), .val (.int mm), .val (.int x0), .val (.int x1), .val (.int x2), .val (.int r0), .val (.int r1), .val (.int r2), .val (.int r3), .val (.ref ia), .val (.ref rp), .val (.ref rr), .val (.int (1 : Int32))] rfl rfl ?_
              exact fin3 C X3 hh3 N3 Z0 AI AP AR hM hm (Or.inl ⟨rfl, by omega⟩)
            · intro h556
              have h556 : (1 : Int) = 0 := h556
              exact absurd h556 (by decide)
          · skip
            refine g_if C X3 at_556 (by decide) rfl rfl ?_ ?_
            · intro h556
              have h556 : ¬ (0 : Int) = 0 := h556
              exact absurd h556 (by decide)
            · intro h556
              have h556 : (0 : Int) = 0 := h556
              exact blk3_3 C X3 hh3 N3 Z0 AI AP AR hM hm k0 k1 (by omega)
      · skip
        refine g_if C X2 at_543 (by decide) rfl rfl ?_ ?_
        · intro h543
          have h543 : (0 : Int) = 0 := h543
          exact blk3_3 C X2 hh2 N2 Z0 AI AP AR hM hm k0 k1 (by omega)
        · intro h543
          have h543 : ¬ (0 : Int) = 0 := h543
          exact absurd h543 (by decide)
  · skip
    refine g_if C X1 at_530 (by decide) rfl rfl ?_ ?_
    · intro h530
      have h530 : (0 : Int) = 0 := h530
      exact blk3_3 C X1 hh1 N1 Z0 AI AP AR hM hm k0 k1 (by omega)
    · intro h530
      have h530 : ¬ (0 : Int) = 0 := h530
      exact absurd h530 (by decide)
set_option maxRecDepth 65536 in
set_option maxHeartbeats 40000000 in
theorem blk3_1 {p : Program} {l : Launch} {e : Env} {s : State} {m : MethodId} {args : Array Value} {below : List Frame} {meth : Method} {c : Code} {T0 : State} {locs : List Loc} {Z : State} {a0 : Array Value} {h0 : Heap} {n0 : Nat} {y0 y1 y2 mm x0 x1 x2 r0 r1 r2 r3 : Int32} {ia rp rr : Addr} {M : Nat}
    (C : Cx Z a0 p s m meth c code maxLocals "com/example/ballast/ballast/storage/ClusterCatalogIsInSyncOfPinLaw" "law" ret) (X0 : Stand p l e room_1 s m args below meth c T0 locs 3 11) (e0 : T0.heap = h0) (N0 : Fr n0 locs) (Z0 : n0 ≤ h0.size) (AI : Aw Z h0 ia .int 3 (fun j => .int (([x0, x1, x2] : List Int32).getD j 0))) (AP : Aw Z h0 rp .int M (fun j => .int (([r0, r1, r2, r3] : List Int32).getD j 0))) (AR : Aw Z h0 rr .int 4 (fun j => .int (([r0, r1, r2, r3] : List Int32).getD j 0))) (hM : mm.toInt = M) (hm : mm = (0 : Int32) ∨ mm = (1 : Int32) ∨ mm = (2 : Int32) ∨ mm = (3 : Int32) ∨ mm = (4 : Int32)) (k0 : ¬ (0 < mm.toInt ∧ r0.toInt = x0.toInt ∧ 1 < mm.toInt ∧ r1.toInt = x1.toInt ∧ 2 < mm.toInt ∧ r2.toInt = x2.toInt)) :
    Go p e below s m (LQ n0) room_1.cells room_1.slots T0 481 #[.val (.int y0), .val (.int y1), .val (.int y2), .val (.int (3 : Int32)), .val (.int mm), .val (.int x0), .val (.int x1), .val (.int x2), .val (.int r0), .val (.int r1), .val (.int r2), .val (.int r3), .val (.ref ia), .val (.ref rp), .val (.ref rr), .unset] [] := by
  refine g_aload C X0 at_481 rfl rfl ?_
  refine g_iload C X0 at_483 rfl rfl ?_
  refine g_iconst C X0 (0 : Int32) at_485 rfl rfl ?_
  refine g_iload C X0 at_486 rfl rfl ?_
  refine g_callS (argsL := [(.ref rr), (.int mm), (.int (0 : Int32)), (.int x0)]) (rest := []) (W := 0) C X0 at_488 e0 (C.t 1 rfl) (C.t 2 rfl) (C.t 3 rfl) (C.t 4 rfl) (rm1 l Z a0 C.w [] rr mm (0 : Int32) x0 (fun j => ([r0, r1, r2, r3] : List Int32).getD j 0) h0 n0 Z0 AR (by decide) (by decide)) (by decide) pd_1 rfl rfl rfl (Nat.le_of_eq rfl) (by decide) (by decide) (by decide) (by decide) rfl ?_
  intro T1 v1_ L1 X1 hQ1
  obtain ⟨⟨q1, rfl, hq1⟩, N1q, hh1⟩ := hQ1
  have N1 := Fr.app N0 N1q
  have hq1 : (q1 = 1 ∧ (0 < mm.toInt ∧ r0.toInt = x0.toInt) ∨ q1 = 0 ∧ ¬ (0 < mm.toInt ∧ r0.toInt = x0.toInt)) := hq1
  rcases hq1 with ⟨rfl, u1⟩ | ⟨rfl, u1⟩
  · skip
    refine g_if C X1 at_491 (by decide) rfl rfl ?_ ?_
    · intro h491
      have h491 : (1 : Int) = 0 := h491
      exact absurd h491 (by decide)
    · intro h491
      have h491 : ¬ (1 : Int) = 0 := h491
      refine g_aload C X1 at_494 rfl rfl ?_
      refine g_iload C X1 at_496 rfl rfl ?_
      refine g_iconst C X1 (1 : Int32) at_498 rfl rfl ?_
      refine g_iload C X1 at_499 rfl rfl ?_
      refine g_callS (argsL := [(.ref rr), (.int mm), (.int (1 : Int32)), (.int x1)]) (rest := []) (W := 0) C X1 at_501 hh1 (C.t 1 rfl) (C.t 2 rfl) (C.t 3 rfl) (C.t 4 rfl) (rm1 l Z a0 C.w [] rr mm (1 : Int32) x1 (fun j => ([r0, r1, r2, r3] : List Int32).getD j 0) h0 n0 Z0 AR (by decide) (by decide)) (by decide) pd_1 rfl rfl rfl (Nat.le_of_eq rfl) (by decide) (by decide) (by decide) (by decide) rfl ?_
      intro T2 v2_ L2 X2 hQ2
      obtain ⟨⟨q2, rfl, hq2⟩, N2q, hh2⟩ := hQ2
      have N2 := Fr.app N1 N2q
      have hq2 : (q2 = 1 ∧ (1 < mm.toInt ∧ r1.toInt = x1.toInt) ∨ q2 = 0 ∧ ¬ (1 < mm.toInt ∧ r1.toInt = x1.toInt)) := hq2
      rcases hq2 with ⟨rfl, u2⟩ | ⟨rfl, u2⟩
      · skip
        refine g_if C X2 at_504 (by decide) rfl rfl ?_ ?_
        · intro h504
          have h504 : (1 : Int) = 0 := h504
          exact absurd h504 (by decide)
        · intro h504
          have h504 : ¬ (1 : Int) = 0 := h504
          refine g_aload C X2 at_507 rfl rfl ?_
          refine g_iload C X2 at_509 rfl rfl ?_
          refine g_iconst C X2 (3 : Int32) at_511 rfl rfl ?_
          refine g_iload C X2 at_512 rfl rfl ?_
          refine g_callS (argsL := [(.ref rr), (.int mm), (.int (3 : Int32)), (.int x2)]) (rest := []) (W := 0) C X2 at_514 hh2 (C.t 1 rfl) (C.t 2 rfl) (C.t 3 rfl) (C.t 4 rfl) (rm1 l Z a0 C.w [] rr mm (3 : Int32) x2 (fun j => ([r0, r1, r2, r3] : List Int32).getD j 0) h0 n0 Z0 AR (by decide) (by decide)) (by decide) pd_1 rfl rfl rfl (Nat.le_of_eq rfl) (by decide) (by decide) (by decide) (by decide) rfl ?_
          intro T3 v3_ L3 X3 hQ3
          obtain ⟨⟨q3, rfl, hq3⟩, N3q, hh3⟩ := hQ3
          have N3 := Fr.app N2 N3q
          have hq3 : (q3 = 1 ∧ (3 < mm.toInt ∧ r3.toInt = x2.toInt) ∨ q3 = 0 ∧ ¬ (3 < mm.toInt ∧ r3.toInt = x2.toInt)) := hq3
          rcases hq3 with ⟨rfl, u3⟩ | ⟨rfl, u3⟩
          · skip
            refine g_if C X3 at_517 (by decide) rfl rfl ?_ ?_
            · intro h517
              have h517 : ¬ (1 : Int) = 0 := h517
              refine g_iconst C X3 (1 : Int32) at_598 rfl rfl ?_
              refine g_goto C X3 at_599 (by decide) rfl ?_
              refine g_istore C X3 at_603 #[.val (.int y0), .val (.int y1), .val (.int y2), .val (.int (3 : Int32)), .val (.int mm), .val (.int x0), .val (.int x1), .val (.int x2), .val (.int r0), .val (.int r1), .val (.int r2), .val (.int r3), .val (.ref ia), .val (.ref rp), .val (.ref rr), .val (.int (1 : Int32))] rfl rfl ?_
              exact fin3 C X3 hh3 N3 Z0 AI AP AR hM hm (Or.inl ⟨rfl, by omega⟩)
            · intro h517
              have h517 : (1 : Int) = 0 := h517
              exact absurd h517 (by decide)
          · skip
            refine g_if C X3 at_517 (by decide) rfl rfl ?_ ?_
            · intro h517
              have h517 : ¬ (0 : Int) = 0 := h517
              exact absurd h517 (by decide)
            · intro h517
              have h517 : (0 : Int) = 0 := h517
              exact blk3_2 C X3 hh3 N3 Z0 AI AP AR hM hm k0 (by omega)
      · skip
        refine g_if C X2 at_504 (by decide) rfl rfl ?_ ?_
        · intro h504
          have h504 : (0 : Int) = 0 := h504
          exact blk3_2 C X2 hh2 N2 Z0 AI AP AR hM hm k0 (by omega)
        · intro h504
          have h504 : ¬ (0 : Int) = 0 := h504
          exact absurd h504 (by decide)
  · skip
    refine g_if C X1 at_491 (by decide) rfl rfl ?_ ?_
    · intro h491
      have h491 : (0 : Int) = 0 := h491
      exact blk3_2 C X1 hh1 N1 Z0 AI AP AR hM hm k0 (by omega)
    · intro h491
      have h491 : ¬ (0 : Int) = 0 := h491
      exact absurd h491 (by decide)
set_option maxRecDepth 65536 in
set_option maxHeartbeats 40000000 in
theorem blk3_0 {p : Program} {l : Launch} {e : Env} {s : State} {m : MethodId} {args : Array Value} {below : List Frame} {meth : Method} {c : Code} {T0 : State} {locs : List Loc} {Z : State} {a0 : Array Value} {h0 : Heap} {n0 : Nat} {y0 y1 y2 mm x0 x1 x2 r0 r1 r2 r3 : Int32} {ia rp rr : Addr} {M : Nat}
    (C : Cx Z a0 p s m meth c code maxLocals "com/example/ballast/ballast/storage/ClusterCatalogIsInSyncOfPinLaw" "law" ret) (X0 : Stand p l e room_1 s m args below meth c T0 locs 3 11) (e0 : T0.heap = h0) (N0 : Fr n0 locs) (Z0 : n0 ≤ h0.size) (AI : Aw Z h0 ia .int 3 (fun j => .int (([x0, x1, x2] : List Int32).getD j 0))) (AP : Aw Z h0 rp .int M (fun j => .int (([r0, r1, r2, r3] : List Int32).getD j 0))) (AR : Aw Z h0 rr .int 4 (fun j => .int (([r0, r1, r2, r3] : List Int32).getD j 0))) (hM : mm.toInt = M) (hm : mm = (0 : Int32) ∨ mm = (1 : Int32) ∨ mm = (2 : Int32) ∨ mm = (3 : Int32) ∨ mm = (4 : Int32))  :
    Go p e below s m (LQ n0) room_1.cells room_1.slots T0 442 #[.val (.int y0), .val (.int y1), .val (.int y2), .val (.int (3 : Int32)), .val (.int mm), .val (.int x0), .val (.int x1), .val (.int x2), .val (.int r0), .val (.int r1), .val (.int r2), .val (.int r3), .val (.ref ia), .val (.ref rp), .val (.ref rr), .unset] [] := by
  refine g_aload C X0 at_442 rfl rfl ?_
  refine g_iload C X0 at_444 rfl rfl ?_
  refine g_iconst C X0 (0 : Int32) at_446 rfl rfl ?_
  refine g_iload C X0 at_447 rfl rfl ?_
  refine g_callS (argsL := [(.ref rr), (.int mm), (.int (0 : Int32)), (.int x0)]) (rest := []) (W := 0) C X0 at_449 e0 (C.t 1 rfl) (C.t 2 rfl) (C.t 3 rfl) (C.t 4 rfl) (rm1 l Z a0 C.w [] rr mm (0 : Int32) x0 (fun j => ([r0, r1, r2, r3] : List Int32).getD j 0) h0 n0 Z0 AR (by decide) (by decide)) (by decide) pd_1 rfl rfl rfl (Nat.le_of_eq rfl) (by decide) (by decide) (by decide) (by decide) rfl ?_
  intro T1 v1_ L1 X1 hQ1
  obtain ⟨⟨q1, rfl, hq1⟩, N1q, hh1⟩ := hQ1
  have N1 := Fr.app N0 N1q
  have hq1 : (q1 = 1 ∧ (0 < mm.toInt ∧ r0.toInt = x0.toInt) ∨ q1 = 0 ∧ ¬ (0 < mm.toInt ∧ r0.toInt = x0.toInt)) := hq1
  rcases hq1 with ⟨rfl, u1⟩ | ⟨rfl, u1⟩
  · skip
    refine g_if C X1 at_452 (by decide) rfl rfl ?_ ?_
    · intro h452
      have h452 : (1 : Int) = 0 := h452
      exact absurd h452 (by decide)
    · intro h452
      have h452 : ¬ (1 : Int) = 0 := h452
      refine g_aload C X1 at_455 rfl rfl ?_
      refine g_iload C X1 at_457 rfl rfl ?_
      refine g_iconst C X1 (1 : Int32) at_459 rfl rfl ?_
      refine g_iload C X1 at_460 rfl rfl ?_
      refine g_callS (argsL := [(.ref rr), (.int mm), (.int (1 : Int32)), (.int x1)]) (rest := []) (W := 0) C X1 at_462 hh1 (C.t 1 rfl) (C.t 2 rfl) (C.t 3 rfl) (C.t 4 rfl) (rm1 l Z a0 C.w [] rr mm (1 : Int32) x1 (fun j => ([r0, r1, r2, r3] : List Int32).getD j 0) h0 n0 Z0 AR (by decide) (by decide)) (by decide) pd_1 rfl rfl rfl (Nat.le_of_eq rfl) (by decide) (by decide) (by decide) (by decide) rfl ?_
      intro T2 v2_ L2 X2 hQ2
      obtain ⟨⟨q2, rfl, hq2⟩, N2q, hh2⟩ := hQ2
      have N2 := Fr.app N1 N2q
      have hq2 : (q2 = 1 ∧ (1 < mm.toInt ∧ r1.toInt = x1.toInt) ∨ q2 = 0 ∧ ¬ (1 < mm.toInt ∧ r1.toInt = x1.toInt)) := hq2
      rcases hq2 with ⟨rfl, u2⟩ | ⟨rfl, u2⟩
      · skip
        refine g_if C X2 at_465 (by decide) rfl rfl ?_ ?_
        · intro h465
          have h465 : (1 : Int) = 0 := h465
          exact absurd h465 (by decide)
        · intro h465
          have h465 : ¬ (1 : Int) = 0 := h465
          refine g_aload C X2 at_468 rfl rfl ?_
          refine g_iload C X2 at_470 rfl rfl ?_
          refine g_iconst C X2 (2 : Int32) at_472 rfl rfl ?_
          refine g_iload C X2 at_473 rfl rfl ?_
          refine g_callS (argsL := [(.ref rr), (.int mm), (.int (2 : Int32)), (.int x2)]) (rest := []) (W := 0) C X2 at_475 hh2 (C.t 1 rfl) (C.t 2 rfl) (C.t 3 rfl) (C.t 4 rfl) (rm1 l Z a0 C.w [] rr mm (2 : Int32) x2 (fun j => ([r0, r1, r2, r3] : List Int32).getD j 0) h0 n0 Z0 AR (by decide) (by decide)) (by decide) pd_1 rfl rfl rfl (Nat.le_of_eq rfl) (by decide) (by decide) (by decide) (by decide) rfl ?_
          intro T3 v3_ L3 X3 hQ3
          obtain ⟨⟨q3, rfl, hq3⟩, N3q, hh3⟩ := hQ3
          have N3 := Fr.app N2 N3q
          have hq3 : (q3 = 1 ∧ (2 < mm.toInt ∧ r2.toInt = x2.toInt) ∨ q3 = 0 ∧ ¬ (2 < mm.toInt ∧ r2.toInt = x2.toInt)) := hq3
          rcases hq3 with ⟨rfl, u3⟩ | ⟨rfl, u3⟩
          · skip
            refine g_if C X3 at_478 (by decide) rfl rfl ?_ ?_
            · intro h478
              have h478 : ¬ (1 : Int) = 0 := h478
              refine g_iconst C X3 (1 : Int32) at_598 rfl rfl ?_
              refine g_goto C X3 at_599 (by decide) rfl ?_
              refine g_istore C X3 at_603 #[.val (.int y0), .val (.int y1), .val (.int y2), .val (.int (3 : Int32)), .val (.int mm), .val (.int x0), .val (.int x1), .val (.int x2), .val (.int r0), .val (.int r1), .val (.int r2), .val (.int r3), .val (.ref ia), .val (.ref rp), .val (.ref rr), .val (.int (1 : Int32))] rfl rfl ?_
              exact fin3 C X3 hh3 N3 Z0 AI AP AR hM hm (Or.inl ⟨rfl, by omega⟩)
            · intro h478
              have h478 : (1 : Int) = 0 := h478
              exact absurd h478 (by decide)
          · skip
            refine g_if C X3 at_478 (by decide) rfl rfl ?_ ?_
            · intro h478
              have h478 : ¬ (0 : Int) = 0 := h478
              exact absurd h478 (by decide)
            · intro h478
              have h478 : (0 : Int) = 0 := h478
              exact blk3_1 C X3 hh3 N3 Z0 AI AP AR hM hm  (by omega)
      · skip
        refine g_if C X2 at_465 (by decide) rfl rfl ?_ ?_
        · intro h465
          have h465 : (0 : Int) = 0 := h465
          exact blk3_1 C X2 hh2 N2 Z0 AI AP AR hM hm  (by omega)
        · intro h465
          have h465 : ¬ (0 : Int) = 0 := h465
          exact absurd h465 (by decide)
  · skip
    refine g_if C X1 at_452 (by decide) rfl rfl ?_ ?_
    · intro h452
      have h452 : (0 : Int) = 0 := h452
      exact blk3_1 C X1 hh1 N1 Z0 AI AP AR hM hm  (by omega)
    · intro h452
      have h452 : ¬ (0 : Int) = 0 := h452
      exact absurd h452 (by decide)
set_option maxRecDepth 65536 in
set_option maxHeartbeats 40000000 in
theorem seg194_3 {p : Program} {l : Launch} {e : Env} {s : State} {m : MethodId} {args : Array Value} {below : List Frame} {meth : Method} {c : Code} {T0 : State} {locs : List Loc} {Z : State} {a0 : Array Value} {h0 : Heap} {n0 : Nat} {y0 y1 y2 mm x0 x1 x2 r0 r1 r2 r3 : Int32} {ia rp rr : Addr} {M : Nat}
    (C : Cx Z a0 p s m meth c code maxLocals "com/example/ballast/ballast/storage/ClusterCatalogIsInSyncOfPinLaw" "law" ret) (X0 : Stand p l e room_1 s m args below meth c T0 locs 3 11) (e0 : T0.heap = h0) (N0 : Fr n0 locs) (Z0 : n0 ≤ h0.size) (AI : Aw Z h0 ia .int 3 (fun j => .int (([x0, x1, x2] : List Int32).getD j 0))) (AP : Aw Z h0 rp .int M (fun j => .int (([r0, r1, r2, r3] : List Int32).getD j 0))) (AR : Aw Z h0 rr .int 4 (fun j => .int (([r0, r1, r2, r3] : List Int32).getD j 0))) (hM : mm.toInt = M) (hm : mm = (0 : Int32) ∨ mm = (1 : Int32) ∨ mm = (2 : Int32) ∨ mm = (3 : Int32) ∨ mm = (4 : Int32)) :
    Go p e below s m (LQ n0) room_1.cells room_1.slots T0 194 #[.val (.int y0), .val (.int y1), .val (.int y2), .val (.int (3 : Int32)), .val (.int mm), .val (.int x0), .val (.int x1), .val (.int x2), .val (.int r0), .val (.int r1), .val (.int r2), .val (.int r3), .val (.ref ia), .val (.ref rp), .val (.ref rr), .unset] [] := by
  refine g_iloadN C X0 at_194 rfl rfl ?_
  refine g_if C X0 at_195 (by decide) rfl rfl ?_ ?_
  · intro h195
    have h195 : ¬ (3 : Int) = 0 := h195
    refine g_iloadN C X0 at_204 rfl rfl ?_
    refine g_iconst C X0 (1 : Int32) at_205 rfl rfl ?_
    refine g_icmp C X0 at_206 (by decide) rfl rfl ?_ ?_
    · intro h206
      have h206 : ¬ (3 : Int) = 1 := h206
      refine g_iloadN C X0 at_271 rfl rfl ?_
      refine g_iconst C X0 (2 : Int32) at_272 rfl rfl ?_
      refine g_icmp C X0 at_273 (by decide) rfl rfl ?_ ?_
      · intro h273
        have h273 : ¬ (3 : Int) = 2 := h273
        exact blk3_0 C X0 e0 N0 Z0 AI AP AR hM hm
      · intro h273
        have h273 : (3 : Int) = 2 := h273
        exact absurd h273 (by decide)
    · intro h206
      have h206 : (3 : Int) = 1 := h206
      exact absurd h206 (by decide)
  · intro h195
    have h195 : (3 : Int) = 0 := h195
    exact absurd h195 (by decide)
set_option maxRecDepth 65536 in
set_option maxHeartbeats 40000000 in
theorem seg79_3_0 {p : Program} {l : Launch} {e : Env} {s : State} {m : MethodId} {args : Array Value} {below : List Frame} {meth : Method} {c : Code} {T0 : State} {locs : List Loc} {Z : State} {a0 : Array Value} {h0 : Heap} {n0 : Nat} {y0 y1 y2 x0 x1 x2 r0 r1 r2 r3 : Int32}
    (C : Cx Z a0 p s m meth c code maxLocals "com/example/ballast/ballast/storage/ClusterCatalogIsInSyncOfPinLaw" "law" ret) (X0 : Stand p l e room_1 s m args below meth c T0 locs 0 0) (e0 : T0.heap = h0) (N0 : Fr n0 locs) (Z0 : n0 ≤ h0.size)  :
    Go p e below s m (LQ n0) room_1.cells room_1.slots T0 79 #[.val (.int y0), .val (.int y1), .val (.int y2), .val (.int (3 : Int32)), .val (.int (0 : Int32)), .val (.int x0), .val (.int x1), .val (.int x2), .val (.int r0), .val (.int r1), .val (.int r2), .val (.int r3), .unset, .unset, .unset, .unset] [] := by
  refine g_iloadN C X0 at_79 rfl rfl ?_
  refine g_newarray (cap := 3) C X0 at_80 e0 (C.t 0 rfl) (by decide) (by decide) (by decide) (by decide) (by decide) rfl ?_
  intro T1 h1_ X1 e1 E1 lt1 ad1 ha1 A1
  have Z1 : n0 ≤ h1_.size := Nat.le_trans Z0 E1.1
  have g_ad1 : n0 ≤ ad1 := by omega
  refine g_astore C X1 at_82 #[.val (.int y0), .val (.int y1), .val (.int y2), .val (.int (3 : Int32)), .val (.int (0 : Int32)), .val (.int x0), .val (.int x1), .val (.int x2), .val (.int r0), .val (.int r1), .val (.int r2), .val (.int r3), .val (.ref ad1), .unset, .unset, .unset] rfl rfl ?_
  refine g_iload C X1 at_84 rfl rfl ?_
  refine g_newarray (cap := 4) C X1 at_86 e1 (C.t 0 rfl) (by decide) (by decide) (by decide) (by decide) (by decide) rfl ?_
  intro T2 h2_ X2 e2 E2 lt2 ad2 ha2 A2
  have Z2 : n0 ≤ h2_.size := Nat.le_trans Z1 E2.1
  have ne_ad1_ad2 : ad1 ≠ ad2 := Nat.ne_of_lt (Nat.lt_of_lt_of_eq A1.lt ha2.symm)
  have A2_ad1 := A1.ext E2
  have g_ad2 : n0 ≤ ad2 := by omega
  refine g_astore C X2 at_88 #[.val (.int y0), .val (.int y1), .val (.int y2), .val (.int (3 : Int32)), .val (.int (0 : Int32)), .val (.int x0), .val (.int x1), .val (.int x2), .val (.int r0), .val (.int r1), .val (.int r2), .val (.int r3), .val (.ref ad1), .val (.ref ad2), .unset, .unset] rfl rfl ?_
  refine g_iconst C X2 (4 : Int32) at_90 rfl rfl ?_
  refine g_newarray (cap := 4) C X2 at_91 e2 (C.t 0 rfl) (by decide) (by decide) (by decide) (by decide) (by decide) rfl ?_
  intro T3 h3_ X3 e3 E3 lt3 ad3 ha3 A3
  have Z3 : n0 ≤ h3_.size := Nat.le_trans Z2 E3.1
  have ne_ad1_ad3 : ad1 ≠ ad3 := Nat.ne_of_lt (Nat.lt_of_lt_of_eq A2_ad1.lt ha3.symm)
  have A3_ad1 := A2_ad1.ext E3
  have ne_ad2_ad3 : ad2 ≠ ad3 := Nat.ne_of_lt (Nat.lt_of_lt_of_eq A2.lt ha3.symm)
  have A3_ad2 := A2.ext E3
  have g_ad3 : n0 ≤ ad3 := by omega
  refine g_dup C X3 at_93 rfl rfl ?_
  refine g_iconst C X3 (0 : Int32) at_94 rfl rfl ?_
  refine g_iload C X3 at_95 rfl rfl ?_
  refine g_iastore C X3 at_97 e3 A3 (by decide) (by decide) rfl ?_
  intro T4 h4_ X4 e4 W4 A4
  have N4 := Fr.snoc X4 N0 g_ad3
  have Z4 : n0 ≤ h4_.size := Nat.le_trans Z3 (Keep.of_wr W4).1
  have A4_ad1 := A3_ad1.other W4 ne_ad1_ad3
  have A4_ad2 := A3_ad2.other W4 ne_ad2_ad3
  refine g_dup C X4 at_98 rfl rfl ?_
  refine g_iconst C X4 (1 : Int32) at_99 rfl rfl ?_
  refine g_iload C X4 at_100 rfl rfl ?_
  refine g_iastore C X4 at_102 e4 A4 (by decide) (by decide) rfl ?_
  intro T5 h5_ X5 e5 W5 A5
  have N5 := Fr.snoc X5 N4 g_ad3
  have Z5 : n0 ≤ h5_.size := Nat.le_trans Z4 (Keep.of_wr W5).1
  have A5_ad1 := A4_ad1.other W5 ne_ad1_ad3
  have A5_ad2 := A4_ad2.other W5 ne_ad2_ad3
  refine g_dup C X5 at_103 rfl rfl ?_
  refine g_iconst C X5 (2 : Int32) at_104 rfl rfl ?_
  refine g_iload C X5 at_105 rfl rfl ?_
  refine g_iastore C X5 at_107 e5 A5 (by decide) (by decide) rfl ?_
  intro T6 h6_ X6 e6 W6 A6
  have N6 := Fr.snoc X6 N5 g_ad3
  have Z6 : n0 ≤ h6_.size := Nat.le_trans Z5 (Keep.of_wr W6).1
  have A6_ad1 := A5_ad1.other W6 ne_ad1_ad3
  have A6_ad2 := A5_ad2.other W6 ne_ad2_ad3
  refine g_dup C X6 at_108 rfl rfl ?_
  refine g_iconst C X6 (3 : Int32) at_109 rfl rfl ?_
  refine g_iload C X6 at_110 rfl rfl ?_
  refine g_iastore C X6 at_112 e6 A6 (by decide) (by decide) rfl ?_
  intro T7 h7_ X7 e7 W7 A7
  have N7 := Fr.snoc X7 N6 g_ad3
  have Z7 : n0 ≤ h7_.size := Nat.le_trans Z6 (Keep.of_wr W7).1
  have A7_ad1 := A6_ad1.other W7 ne_ad1_ad3
  have A7_ad2 := A6_ad2.other W7 ne_ad2_ad3
  refine g_astore C X7 at_113 #[.val (.int y0), .val (.int y1), .val (.int y2), .val (.int (3 : Int32)), .val (.int (0 : Int32)), .val (.int x0), .val (.int x1), .val (.int x2), .val (.int r0), .val (.int r1), .val (.int r2), .val (.int r3), .val (.ref ad1), .val (.ref ad2), .val (.ref ad3), .unset] rfl rfl ?_
  refine g_iloadN C X7 at_115 rfl rfl ?_
  refine g_if C X7 at_116 (by decide) rfl rfl ?_ ?_
  · intro h116
    have h116 : (3 : Int) ≤ 0 := h116
    exact absurd h116 (by decide)
  · intro h116
    have h116 : (3 : Int) > 0 := h116
    refine g_aload C X7 at_119 rfl rfl ?_
    refine g_iconst C X7 (0 : Int32) at_121 rfl rfl ?_
    refine g_iload C X7 at_122 rfl rfl ?_
    refine g_iastore C X7 at_124 e7 A7_ad1 (by decide) (by decide) rfl ?_
    intro T8 h8_ X8 e8 W8 A8
    have N8 := Fr.snoc X8 N7 g_ad1
    have Z8 : n0 ≤ h8_.size := Nat.le_trans Z7 (Keep.of_wr W8).1
    have A8_ad2 := A7_ad2.other W8 ne_ad1_ad2.symm
    have A8_ad3 := A7.other W8 ne_ad1_ad3.symm
    refine g_iloadN C X8 at_125 rfl rfl ?_
    refine g_iconst C X8 (1 : Int32) at_126 rfl rfl ?_
    refine g_icmp C X8 at_127 (by decide) rfl rfl ?_ ?_
    · intro h127
      have h127 : (3 : Int) ≤ 1 := h127
      exact absurd h127 (by decide)
    · intro h127
      have h127 : (3 : Int) > 1 := h127
      refine g_aload C X8 at_130 rfl rfl ?_
      refine g_iconst C X8 (1 : Int32) at_132 rfl rfl ?_
      refine g_iload C X8 at_133 rfl rfl ?_
      refine g_iastore C X8 at_135 e8 A8 (by decide) (by decide) rfl ?_
      intro T9 h9_ X9 e9 W9 A9
      have N9 := Fr.snoc X9 N8 g_ad1
      have Z9 : n0 ≤ h9_.size := Nat.le_trans Z8 (Keep.of_wr W9).1
      have A9_ad2 := A8_ad2.other W9 ne_ad1_ad2.symm
      have A9_ad3 := A8_ad3.other W9 ne_ad1_ad3.symm
      refine g_iloadN C X9 at_136 rfl rfl ?_
      refine g_iconst C X9 (2 : Int32) at_137 rfl rfl ?_
      refine g_icmp C X9 at_138 (by decide) rfl rfl ?_ ?_
      · intro h138
        have h138 : (3 : Int) ≤ 2 := h138
        exact absurd h138 (by decide)
      · intro h138
        have h138 : (3 : Int) > 2 := h138
        refine g_aload C X9 at_141 rfl rfl ?_
        refine g_iconst C X9 (2 : Int32) at_143 rfl rfl ?_
        refine g_iload C X9 at_144 rfl rfl ?_
        refine g_iastore C X9 at_146 e9 A9 (by decide) (by decide) rfl ?_
        intro T10 h10_ X10 e10 W10 A10
        have N10 := Fr.snoc X10 N9 g_ad1
        have Z10 : n0 ≤ h10_.size := Nat.le_trans Z9 (Keep.of_wr W10).1
        have A10_ad2 := A9_ad2.other W10 ne_ad1_ad2.symm
        have A10_ad3 := A9_ad3.other W10 ne_ad1_ad3.symm
        refine g_iload C X10 at_147 rfl rfl ?_
        refine g_if C X10 at_149 (by decide) rfl rfl ?_ ?_
        · intro h149
          have h149 : (0 : Int) ≤ 0 := h149
          refine g_iload C X10 at_158 rfl rfl ?_
          refine g_iconst C X10 (1 : Int32) at_160 rfl rfl ?_
          refine g_icmp C X10 at_161 (by decide) rfl rfl ?_ ?_
          · intro h161
            have h161 : (0 : Int) ≤ 1 := h161
            refine g_iload C X10 at_170 rfl rfl ?_
            refine g_iconst C X10 (2 : Int32) at_172 rfl rfl ?_
            refine g_icmp C X10 at_173 (by decide) rfl rfl ?_ ?_
            · intro h173
              have h173 : (0 : Int) ≤ 2 := h173
              refine g_iload C X10 at_182 rfl rfl ?_
              refine g_iconst C X10 (3 : Int32) at_184 rfl rfl ?_
              refine g_icmp C X10 at_185 (by decide) rfl rfl ?_ ?_
              · intro h185
                have h185 : (0 : Int) ≤ 3 := h185
                have AI : Aw Z h10_ ad1 .int 3 (fun j => .int (([x0, x1, x2] : List Int32).getD j 0)) := Aw.of A10 (by
                  intro j hj
                  have hj : j < 3 := hj
                  have hj : j = 0 ∨ j = 1 ∨ j = 2 := by omega
                  rcases hj with rfl | rfl | rfl <;> rfl)
                have AP : Aw Z h10_ ad2 .int 0 (fun j => .int (([r0, r1, r2, r3] : List Int32).getD j 0)) := Aw.of A10_ad2 (by
                  intro j hj
                  have hj : j < 0 := hj
                  omega)
                have AR : Aw Z h10_ ad3 .int 4 (fun j => .int (([r0, r1, r2, r3] : List Int32).getD j 0)) := Aw.of A10_ad3 (by
                  intro j hj
                  have hj : j < 4 := hj
                  have hj : j = 0 ∨ j = 1 ∨ j = 2 ∨ j = 3 := by omega
                  rcases hj with rfl | rfl | rfl | rfl <;> rfl)
                exact seg194_3 C X10 e10 N10 Z10 AI AP AR (by decide) (Or.inl rfl)
              · intro h185
                have h185 : (0 : Int) > 3 := h185
                exact absurd h185 (by decide)
            · intro h173
              have h173 : (0 : Int) > 2 := h173
              exact absurd h173 (by decide)
          · intro h161
            have h161 : (0 : Int) > 1 := h161
            exact absurd h161 (by decide)
        · intro h149
          have h149 : (0 : Int) > 0 := h149
          exact absurd h149 (by decide)
set_option maxRecDepth 65536 in
set_option maxHeartbeats 40000000 in
theorem seg79_3_1 {p : Program} {l : Launch} {e : Env} {s : State} {m : MethodId} {args : Array Value} {below : List Frame} {meth : Method} {c : Code} {T0 : State} {locs : List Loc} {Z : State} {a0 : Array Value} {h0 : Heap} {n0 : Nat} {y0 y1 y2 x0 x1 x2 r0 r1 r2 r3 : Int32}
    (C : Cx Z a0 p s m meth c code maxLocals "com/example/ballast/ballast/storage/ClusterCatalogIsInSyncOfPinLaw" "law" ret) (X0 : Stand p l e room_1 s m args below meth c T0 locs 0 0) (e0 : T0.heap = h0) (N0 : Fr n0 locs) (Z0 : n0 ≤ h0.size)  :
    Go p e below s m (LQ n0) room_1.cells room_1.slots T0 79 #[.val (.int y0), .val (.int y1), .val (.int y2), .val (.int (3 : Int32)), .val (.int (1 : Int32)), .val (.int x0), .val (.int x1), .val (.int x2), .val (.int r0), .val (.int r1), .val (.int r2), .val (.int r3), .unset, .unset, .unset, .unset] [] := by
  refine g_iloadN C X0 at_79 rfl rfl ?_
  refine g_newarray (cap := 3) C X0 at_80 e0 (C.t 0 rfl) (by decide) (by decide) (by decide) (by decide) (by decide) rfl ?_
  intro T1 h1_ X1 e1 E1 lt1 ad1 ha1 A1
  have Z1 : n0 ≤ h1_.size := Nat.le_trans Z0 E1.1
  have g_ad1 : n0 ≤ ad1 := by omega
  refine g_astore C X1 at_82 #[.val (.int y0), .val (.int y1), .val (.int y2), .val (.int (3 : Int32)), .val (.int (1 : Int32)), .val (.int x0), .val (.int x1), .val (.int x2), .val (.int r0), .val (.int r1), .val (.int r2), .val (.int r3), .val (.ref ad1), .unset, .unset, .unset] rfl rfl ?_
  refine g_iload C X1 at_84 rfl rfl ?_
  refine g_newarray (cap := 4) C X1 at_86 e1 (C.t 0 rfl) (by decide) (by decide) (by decide) (by decide) (by decide) rfl ?_
  intro T2 h2_ X2 e2 E2 lt2 ad2 ha2 A2
  have Z2 : n0 ≤ h2_.size := Nat.le_trans Z1 E2.1
  have ne_ad1_ad2 : ad1 ≠ ad2 := Nat.ne_of_lt (Nat.lt_of_lt_of_eq A1.lt ha2.symm)
  have A2_ad1 := A1.ext E2
  have g_ad2 : n0 ≤ ad2 := by omega
  refine g_astore C X2 at_88 #[.val (.int y0), .val (.int y1), .val (.int y2), .val (.int (3 : Int32)), .val (.int (1 : Int32)), .val (.int x0), .val (.int x1), .val (.int x2), .val (.int r0), .val (.int r1), .val (.int r2), .val (.int r3), .val (.ref ad1), .val (.ref ad2), .unset, .unset] rfl rfl ?_
  refine g_iconst C X2 (4 : Int32) at_90 rfl rfl ?_
  refine g_newarray (cap := 4) C X2 at_91 e2 (C.t 0 rfl) (by decide) (by decide) (by decide) (by decide) (by decide) rfl ?_
  intro T3 h3_ X3 e3 E3 lt3 ad3 ha3 A3
  have Z3 : n0 ≤ h3_.size := Nat.le_trans Z2 E3.1
  have ne_ad1_ad3 : ad1 ≠ ad3 := Nat.ne_of_lt (Nat.lt_of_lt_of_eq A2_ad1.lt ha3.symm)
  have A3_ad1 := A2_ad1.ext E3
  have ne_ad2_ad3 : ad2 ≠ ad3 := Nat.ne_of_lt (Nat.lt_of_lt_of_eq A2.lt ha3.symm)
  have A3_ad2 := A2.ext E3
  have g_ad3 : n0 ≤ ad3 := by omega
  refine g_dup C X3 at_93 rfl rfl ?_
  refine g_iconst C X3 (0 : Int32) at_94 rfl rfl ?_
  refine g_iload C X3 at_95 rfl rfl ?_
  refine g_iastore C X3 at_97 e3 A3 (by decide) (by decide) rfl ?_
  intro T4 h4_ X4 e4 W4 A4
  have N4 := Fr.snoc X4 N0 g_ad3
  have Z4 : n0 ≤ h4_.size := Nat.le_trans Z3 (Keep.of_wr W4).1
  have A4_ad1 := A3_ad1.other W4 ne_ad1_ad3
  have A4_ad2 := A3_ad2.other W4 ne_ad2_ad3
  refine g_dup C X4 at_98 rfl rfl ?_
  refine g_iconst C X4 (1 : Int32) at_99 rfl rfl ?_
  refine g_iload C X4 at_100 rfl rfl ?_
  refine g_iastore C X4 at_102 e4 A4 (by decide) (by decide) rfl ?_
  intro T5 h5_ X5 e5 W5 A5
  have N5 := Fr.snoc X5 N4 g_ad3
  have Z5 : n0 ≤ h5_.size := Nat.le_trans Z4 (Keep.of_wr W5).1
  have A5_ad1 := A4_ad1.other W5 ne_ad1_ad3
  have A5_ad2 := A4_ad2.other W5 ne_ad2_ad3
  refine g_dup C X5 at_103 rfl rfl ?_
  refine g_iconst C X5 (2 : Int32) at_104 rfl rfl ?_
  refine g_iload C X5 at_105 rfl rfl ?_
  refine g_iastore C X5 at_107 e5 A5 (by decide) (by decide) rfl ?_
  intro T6 h6_ X6 e6 W6 A6
  have N6 := Fr.snoc X6 N5 g_ad3
  have Z6 : n0 ≤ h6_.size := Nat.le_trans Z5 (Keep.of_wr W6).1
  have A6_ad1 := A5_ad1.other W6 ne_ad1_ad3
  have A6_ad2 := A5_ad2.other W6 ne_ad2_ad3
  refine g_dup C X6 at_108 rfl rfl ?_
  refine g_iconst C X6 (3 : Int32) at_109 rfl rfl ?_
  refine g_iload C X6 at_110 rfl rfl ?_
  refine g_iastore C X6 at_112 e6 A6 (by decide) (by decide) rfl ?_
  intro T7 h7_ X7 e7 W7 A7
  have N7 := Fr.snoc X7 N6 g_ad3
  have Z7 : n0 ≤ h7_.size := Nat.le_trans Z6 (Keep.of_wr W7).1
  have A7_ad1 := A6_ad1.other W7 ne_ad1_ad3
  have A7_ad2 := A6_ad2.other W7 ne_ad2_ad3
  refine g_astore C X7 at_113 #[.val (.int y0), .val (.int y1), .val (.int y2), .val (.int (3 : Int32)), .val (.int (1 : Int32)), .val (.int x0), .val (.int x1), .val (.int x2), .val (.int r0), .val (.int r1), .val (.int r2), .val (.int r3), .val (.ref ad1), .val (.ref ad2), .val (.ref ad3), .unset] rfl rfl ?_
  refine g_iloadN C X7 at_115 rfl rfl ?_
  refine g_if C X7 at_116 (by decide) rfl rfl ?_ ?_
  · intro h116
    have h116 : (3 : Int) ≤ 0 := h116
    exact absurd h116 (by decide)
  · intro h116
    have h116 : (3 : Int) > 0 := h116
    refine g_aload C X7 at_119 rfl rfl ?_
    refine g_iconst C X7 (0 : Int32) at_121 rfl rfl ?_
    refine g_iload C X7 at_122 rfl rfl ?_
    refine g_iastore C X7 at_124 e7 A7_ad1 (by decide) (by decide) rfl ?_
    intro T8 h8_ X8 e8 W8 A8
    have N8 := Fr.snoc X8 N7 g_ad1
    have Z8 : n0 ≤ h8_.size := Nat.le_trans Z7 (Keep.of_wr W8).1
    have A8_ad2 := A7_ad2.other W8 ne_ad1_ad2.symm
    have A8_ad3 := A7.other W8 ne_ad1_ad3.symm
    refine g_iloadN C X8 at_125 rfl rfl ?_
    refine g_iconst C X8 (1 : Int32) at_126 rfl rfl ?_
    refine g_icmp C X8 at_127 (by decide) rfl rfl ?_ ?_
    · intro h127
      have h127 : (3 : Int) ≤ 1 := h127
      exact absurd h127 (by decide)
    · intro h127
      have h127 : (3 : Int) > 1 := h127
      refine g_aload C X8 at_130 rfl rfl ?_
      refine g_iconst C X8 (1 : Int32) at_132 rfl rfl ?_
      refine g_iload C X8 at_133 rfl rfl ?_
      refine g_iastore C X8 at_135 e8 A8 (by decide) (by decide) rfl ?_
      intro T9 h9_ X9 e9 W9 A9
      have N9 := Fr.snoc X9 N8 g_ad1
      have Z9 : n0 ≤ h9_.size := Nat.le_trans Z8 (Keep.of_wr W9).1
      have A9_ad2 := A8_ad2.other W9 ne_ad1_ad2.symm
      have A9_ad3 := A8_ad3.other W9 ne_ad1_ad3.symm
      refine g_iloadN C X9 at_136 rfl rfl ?_
      refine g_iconst C X9 (2 : Int32) at_137 rfl rfl ?_
      refine g_icmp C X9 at_138 (by decide) rfl rfl ?_ ?_
      · intro h138
        have h138 : (3 : Int) ≤ 2 := h138
        exact absurd h138 (by decide)
      · intro h138
        have h138 : (3 : Int) > 2 := h138
        refine g_aload C X9 at_141 rfl rfl ?_
        refine g_iconst C X9 (2 : Int32) at_143 rfl rfl ?_
        refine g_iload C X9 at_144 rfl rfl ?_
        refine g_iastore C X9 at_146 e9 A9 (by decide) (by decide) rfl ?_
        intro T10 h10_ X10 e10 W10 A10
        have N10 := Fr.snoc X10 N9 g_ad1
        have Z10 : n0 ≤ h10_.size := Nat.le_trans Z9 (Keep.of_wr W10).1
        have A10_ad2 := A9_ad2.other W10 ne_ad1_ad2.symm
        have A10_ad3 := A9_ad3.other W10 ne_ad1_ad3.symm
        refine g_iload C X10 at_147 rfl rfl ?_
        refine g_if C X10 at_149 (by decide) rfl rfl ?_ ?_
        · intro h149
          have h149 : (1 : Int) ≤ 0 := h149
          exact absurd h149 (by decide)
        · intro h149
          have h149 : (1 : Int) > 0 := h149
          refine g_aload C X10 at_152 rfl rfl ?_
          refine g_iconst C X10 (0 : Int32) at_154 rfl rfl ?_
          refine g_iload C X10 at_155 rfl rfl ?_
          refine g_iastore C X10 at_157 e10 A10_ad2 (by decide) (by decide) rfl ?_
          intro T11 h11_ X11 e11 W11 A11
          have N11 := Fr.snoc X11 N10 g_ad2
          have Z11 : n0 ≤ h11_.size := Nat.le_trans Z10 (Keep.of_wr W11).1
          have A11_ad1 := A10.other W11 ne_ad1_ad2
          have A11_ad3 := A10_ad3.other W11 ne_ad2_ad3.symm
          refine g_iload C X11 at_158 rfl rfl ?_
          refine g_iconst C X11 (1 : Int32) at_160 rfl rfl ?_
          refine g_icmp C X11 at_161 (by decide) rfl rfl ?_ ?_
          · intro h161
            have h161 : (1 : Int) ≤ 1 := h161
            refine g_iload C X11 at_170 rfl rfl ?_
            refine g_iconst C X11 (2 : Int32) at_172 rfl rfl ?_
            refine g_icmp C X11 at_173 (by decide) rfl rfl ?_ ?_
            · intro h173
              have h173 : (1 : Int) ≤ 2 := h173
              refine g_iload C X11 at_182 rfl rfl ?_
              refine g_iconst C X11 (3 : Int32) at_184 rfl rfl ?_
              refine g_icmp C X11 at_185 (by decide) rfl rfl ?_ ?_
              · intro h185
                have h185 : (1 : Int) ≤ 3 := h185
                have AI : Aw Z h11_ ad1 .int 3 (fun j => .int (([x0, x1, x2] : List Int32).getD j 0)) := Aw.of A11_ad1 (by
                  intro j hj
                  have hj : j < 3 := hj
                  have hj : j = 0 ∨ j = 1 ∨ j = 2 := by omega
                  rcases hj with rfl | rfl | rfl <;> rfl)
                have AP : Aw Z h11_ ad2 .int 1 (fun j => .int (([r0, r1, r2, r3] : List Int32).getD j 0)) := Aw.of A11 (by
                  intro j hj
                  have hj : j < 1 := hj
                  have hj : j = 0 := by omega
                  rcases hj with rfl <;> rfl)
                have AR : Aw Z h11_ ad3 .int 4 (fun j => .int (([r0, r1, r2, r3] : List Int32).getD j 0)) := Aw.of A11_ad3 (by
                  intro j hj
                  have hj : j < 4 := hj
                  have hj : j = 0 ∨ j = 1 ∨ j = 2 ∨ j = 3 := by omega
                  rcases hj with rfl | rfl | rfl | rfl <;> rfl)
                exact seg194_3 C X11 e11 N11 Z11 AI AP AR (by decide) (Or.inr (Or.inl rfl))
              · intro h185
                have h185 : (1 : Int) > 3 := h185
                exact absurd h185 (by decide)
            · intro h173
              have h173 : (1 : Int) > 2 := h173
              exact absurd h173 (by decide)
          · intro h161
            have h161 : (1 : Int) > 1 := h161
            exact absurd h161 (by decide)
set_option maxRecDepth 65536 in
set_option maxHeartbeats 40000000 in
theorem seg79_3_2 {p : Program} {l : Launch} {e : Env} {s : State} {m : MethodId} {args : Array Value} {below : List Frame} {meth : Method} {c : Code} {T0 : State} {locs : List Loc} {Z : State} {a0 : Array Value} {h0 : Heap} {n0 : Nat} {y0 y1 y2 x0 x1 x2 r0 r1 r2 r3 : Int32}
    (C : Cx Z a0 p s m meth c code maxLocals "com/example/ballast/ballast/storage/ClusterCatalogIsInSyncOfPinLaw" "law" ret) (X0 : Stand p l e room_1 s m args below meth c T0 locs 0 0) (e0 : T0.heap = h0) (N0 : Fr n0 locs) (Z0 : n0 ≤ h0.size)  :
    Go p e below s m (LQ n0) room_1.cells room_1.slots T0 79 #[.val (.int y0), .val (.int y1), .val (.int y2), .val (.int (3 : Int32)), .val (.int (2 : Int32)), .val (.int x0), .val (.int x1), .val (.int x2), .val (.int r0), .val (.int r1), .val (.int r2), .val (.int r3), .unset, .unset, .unset, .unset] [] := by
  refine g_iloadN C X0 at_79 rfl rfl ?_
  refine g_newarray (cap := 3) C X0 at_80 e0 (C.t 0 rfl) (by decide) (by decide) (by decide) (by decide) (by decide) rfl ?_
  intro T1 h1_ X1 e1 E1 lt1 ad1 ha1 A1
  have Z1 : n0 ≤ h1_.size := Nat.le_trans Z0 E1.1
  have g_ad1 : n0 ≤ ad1 := by omega
  refine g_astore C X1 at_82 #[.val (.int y0), .val (.int y1), .val (.int y2), .val (.int (3 : Int32)), .val (.int (2 : Int32)), .val (.int x0), .val (.int x1), .val (.int x2), .val (.int r0), .val (.int r1), .val (.int r2), .val (.int r3), .val (.ref ad1), .unset, .unset, .unset] rfl rfl ?_
  refine g_iload C X1 at_84 rfl rfl ?_
  refine g_newarray (cap := 4) C X1 at_86 e1 (C.t 0 rfl) (by decide) (by decide) (by decide) (by decide) (by decide) rfl ?_
  intro T2 h2_ X2 e2 E2 lt2 ad2 ha2 A2
  have Z2 : n0 ≤ h2_.size := Nat.le_trans Z1 E2.1
  have ne_ad1_ad2 : ad1 ≠ ad2 := Nat.ne_of_lt (Nat.lt_of_lt_of_eq A1.lt ha2.symm)
  have A2_ad1 := A1.ext E2
  have g_ad2 : n0 ≤ ad2 := by omega
  refine g_astore C X2 at_88 #[.val (.int y0), .val (.int y1), .val (.int y2), .val (.int (3 : Int32)), .val (.int (2 : Int32)), .val (.int x0), .val (.int x1), .val (.int x2), .val (.int r0), .val (.int r1), .val (.int r2), .val (.int r3), .val (.ref ad1), .val (.ref ad2), .unset, .unset] rfl rfl ?_
  refine g_iconst C X2 (4 : Int32) at_90 rfl rfl ?_
  refine g_newarray (cap := 4) C X2 at_91 e2 (C.t 0 rfl) (by decide) (by decide) (by decide) (by decide) (by decide) rfl ?_
  intro T3 h3_ X3 e3 E3 lt3 ad3 ha3 A3
  have Z3 : n0 ≤ h3_.size := Nat.le_trans Z2 E3.1
  have ne_ad1_ad3 : ad1 ≠ ad3 := Nat.ne_of_lt (Nat.lt_of_lt_of_eq A2_ad1.lt ha3.symm)
  have A3_ad1 := A2_ad1.ext E3
  have ne_ad2_ad3 : ad2 ≠ ad3 := Nat.ne_of_lt (Nat.lt_of_lt_of_eq A2.lt ha3.symm)
  have A3_ad2 := A2.ext E3
  have g_ad3 : n0 ≤ ad3 := by omega
  refine g_dup C X3 at_93 rfl rfl ?_
  refine g_iconst C X3 (0 : Int32) at_94 rfl rfl ?_
  refine g_iload C X3 at_95 rfl rfl ?_
  refine g_iastore C X3 at_97 e3 A3 (by decide) (by decide) rfl ?_
  intro T4 h4_ X4 e4 W4 A4
  have N4 := Fr.snoc X4 N0 g_ad3
  have Z4 : n0 ≤ h4_.size := Nat.le_trans Z3 (Keep.of_wr W4).1
  have A4_ad1 := A3_ad1.other W4 ne_ad1_ad3
  have A4_ad2 := A3_ad2.other W4 ne_ad2_ad3
  refine g_dup C X4 at_98 rfl rfl ?_
  refine g_iconst C X4 (1 : Int32) at_99 rfl rfl ?_
  refine g_iload C X4 at_100 rfl rfl ?_
  refine g_iastore C X4 at_102 e4 A4 (by decide) (by decide) rfl ?_
  intro T5 h5_ X5 e5 W5 A5
  have N5 := Fr.snoc X5 N4 g_ad3
  have Z5 : n0 ≤ h5_.size := Nat.le_trans Z4 (Keep.of_wr W5).1
  have A5_ad1 := A4_ad1.other W5 ne_ad1_ad3
  have A5_ad2 := A4_ad2.other W5 ne_ad2_ad3
  refine g_dup C X5 at_103 rfl rfl ?_
  refine g_iconst C X5 (2 : Int32) at_104 rfl rfl ?_
  refine g_iload C X5 at_105 rfl rfl ?_
  refine g_iastore C X5 at_107 e5 A5 (by decide) (by decide) rfl ?_
  intro T6 h6_ X6 e6 W6 A6
  have N6 := Fr.snoc X6 N5 g_ad3
  have Z6 : n0 ≤ h6_.size := Nat.le_trans Z5 (Keep.of_wr W6).1
  have A6_ad1 := A5_ad1.other W6 ne_ad1_ad3
  have A6_ad2 := A5_ad2.other W6 ne_ad2_ad3
  refine g_dup C X6 at_108 rfl rfl ?_
  refine g_iconst C X6 (3 : Int32) at_109 rfl rfl ?_
  refine g_iload C X6 at_110 rfl rfl ?_
  refine g_iastore C X6 at_112 e6 A6 (by decide) (by decide) rfl ?_
  intro T7 h7_ X7 e7 W7 A7
  have N7 := Fr.snoc X7 N6 g_ad3
  have Z7 : n0 ≤ h7_.size := Nat.le_trans Z6 (Keep.of_wr W7).1
  have A7_ad1 := A6_ad1.other W7 ne_ad1_ad3
  have A7_ad2 := A6_ad2.other W7 ne_ad2_ad3
  refine g_astore C X7 at_113 #[.val (.int y0), .val (.int y1), .val (.int y2), .val (.int (3 : Int32)), .val (.int (2 : Int32)), .val (.int x0), .val (.int x1), .val (.int x2), .val (.int r0), .val (.int r1), .val (.int r2), .val (.int r3), .val (.ref ad1), .val (.ref ad2), .val (.ref ad3), .unset] rfl rfl ?_
  refine g_iloadN C X7 at_115 rfl rfl ?_
  refine g_if C X7 at_116 (by decide) rfl rfl ?_ ?_
  · intro h116
    have h116 : (3 : Int) ≤ 0 := h116
    exact absurd h116 (by decide)
  · intro h116
    have h116 : (3 : Int) > 0 := h116
    refine g_aload C X7 at_119 rfl rfl ?_
    refine g_iconst C X7 (0 : Int32) at_121 rfl rfl ?_
    refine g_iload C X7 at_122 rfl rfl ?_
    refine g_iastore C X7 at_124 e7 A7_ad1 (by decide) (by decide) rfl ?_
    intro T8 h8_ X8 e8 W8 A8
    have N8 := Fr.snoc X8 N7 g_ad1
    have Z8 : n0 ≤ h8_.size := Nat.le_trans Z7 (Keep.of_wr W8).1
    have A8_ad2 := A7_ad2.other W8 ne_ad1_ad2.symm
    have A8_ad3 := A7.other W8 ne_ad1_ad3.symm
    refine g_iloadN C X8 at_125 rfl rfl ?_
    refine g_iconst C X8 (1 : Int32) at_126 rfl rfl ?_
    refine g_icmp C X8 at_127 (by decide) rfl rfl ?_ ?_
    · intro h127
      have h127 : (3 : Int) ≤ 1 := h127
      exact absurd h127 (by decide)
    · intro h127
      have h127 : (3 : Int) > 1 := h127
      refine g_aload C X8 at_130 rfl rfl ?_
      refine g_iconst C X8 (1 : Int32) at_132 rfl rfl ?_
      refine g_iload C X8 at_133 rfl rfl ?_
      refine g_iastore C X8 at_135 e8 A8 (by decide) (by decide) rfl ?_
      intro T9 h9_ X9 e9 W9 A9
      have N9 := Fr.snoc X9 N8 g_ad1
      have Z9 : n0 ≤ h9_.size := Nat.le_trans Z8 (Keep.of_wr W9).1
      have A9_ad2 := A8_ad2.other W9 ne_ad1_ad2.symm
      have A9_ad3 := A8_ad3.other W9 ne_ad1_ad3.symm
      refine g_iloadN C X9 at_136 rfl rfl ?_
      refine g_iconst C X9 (2 : Int32) at_137 rfl rfl ?_
      refine g_icmp C X9 at_138 (by decide) rfl rfl ?_ ?_
      · intro h138
        have h138 : (3 : Int) ≤ 2 := h138
        exact absurd h138 (by decide)
      · intro h138
        have h138 : (3 : Int) > 2 := h138
        refine g_aload C X9 at_141 rfl rfl ?_
        refine g_iconst C X9 (2 : Int32) at_143 rfl rfl ?_
        refine g_iload C X9 at_144 rfl rfl ?_
        refine g_iastore C X9 at_146 e9 A9 (by decide) (by decide) rfl ?_
        intro T10 h10_ X10 e10 W10 A10
        have N10 := Fr.snoc X10 N9 g_ad1
        have Z10 : n0 ≤ h10_.size := Nat.le_trans Z9 (Keep.of_wr W10).1
        have A10_ad2 := A9_ad2.other W10 ne_ad1_ad2.symm
        have A10_ad3 := A9_ad3.other W10 ne_ad1_ad3.symm
        refine g_iload C X10 at_147 rfl rfl ?_
        refine g_if C X10 at_149 (by decide) rfl rfl ?_ ?_
        · intro h149
          have h149 : (2 : Int) ≤ 0 := h149
          exact absurd h149 (by decide)
        · intro h149
          have h149 : (2 : Int) > 0 := h149
          refine g_aload C X10 at_152 rfl rfl ?_
          refine g_iconst C X10 (0 : Int32) at_154 rfl rfl ?_
          refine g_iload C X10 at_155 rfl rfl ?_
          refine g_iastore C X10 at_157 e10 A10_ad2 (by decide) (by decide) rfl ?_
          intro T11 h11_ X11 e11 W11 A11
          have N11 := Fr.snoc X11 N10 g_ad2
          have Z11 : n0 ≤ h11_.size := Nat.le_trans Z10 (Keep.of_wr W11).1
          have A11_ad1 := A10.other W11 ne_ad1_ad2
          have A11_ad3 := A10_ad3.other W11 ne_ad2_ad3.symm
          refine g_iload C X11 at_158 rfl rfl ?_
          refine g_iconst C X11 (1 : Int32) at_160 rfl rfl ?_
          refine g_icmp C X11 at_161 (by decide) rfl rfl ?_ ?_
          · intro h161
            have h161 : (2 : Int) ≤ 1 := h161
            exact absurd h161 (by decide)
          · intro h161
            have h161 : (2 : Int) > 1 := h161
            refine g_aload C X11 at_164 rfl rfl ?_
            refine g_iconst C X11 (1 : Int32) at_166 rfl rfl ?_
            refine g_iload C X11 at_167 rfl rfl ?_
            refine g_iastore C X11 at_169 e11 A11 (by decide) (by decide) rfl ?_
            intro T12 h12_ X12 e12 W12 A12
            have N12 := Fr.snoc X12 N11 g_ad2
            have Z12 : n0 ≤ h12_.size := Nat.le_trans Z11 (Keep.of_wr W12).1
            have A12_ad1 := A11_ad1.other W12 ne_ad1_ad2
            have A12_ad3 := A11_ad3.other W12 ne_ad2_ad3.symm
            refine g_iload C X12 at_170 rfl rfl ?_
            refine g_iconst C X12 (2 : Int32) at_172 rfl rfl ?_
            refine g_icmp C X12 at_173 (by decide) rfl rfl ?_ ?_
            · intro h173
              have h173 : (2 : Int) ≤ 2 := h173
              refine g_iload C X12 at_182 rfl rfl ?_
              refine g_iconst C X12 (3 : Int32) at_184 rfl rfl ?_
              refine g_icmp C X12 at_185 (by decide) rfl rfl ?_ ?_
              · intro h185
                have h185 : (2 : Int) ≤ 3 := h185
                have AI : Aw Z h12_ ad1 .int 3 (fun j => .int (([x0, x1, x2] : List Int32).getD j 0)) := Aw.of A12_ad1 (by
                  intro j hj
                  have hj : j < 3 := hj
                  have hj : j = 0 ∨ j = 1 ∨ j = 2 := by omega
                  rcases hj with rfl | rfl | rfl <;> rfl)
                have AP : Aw Z h12_ ad2 .int 2 (fun j => .int (([r0, r1, r2, r3] : List Int32).getD j 0)) := Aw.of A12 (by
                  intro j hj
                  have hj : j < 2 := hj
                  have hj : j = 0 ∨ j = 1 := by omega
                  rcases hj with rfl | rfl <;> rfl)
                have AR : Aw Z h12_ ad3 .int 4 (fun j => .int (([r0, r1, r2, r3] : List Int32).getD j 0)) := Aw.of A12_ad3 (by
                  intro j hj
                  have hj : j < 4 := hj
                  have hj : j = 0 ∨ j = 1 ∨ j = 2 ∨ j = 3 := by omega
                  rcases hj with rfl | rfl | rfl | rfl <;> rfl)
                exact seg194_3 C X12 e12 N12 Z12 AI AP AR (by decide) (Or.inr (Or.inr (Or.inl rfl)))
              · intro h185
                have h185 : (2 : Int) > 3 := h185
                exact absurd h185 (by decide)
            · intro h173
              have h173 : (2 : Int) > 2 := h173
              exact absurd h173 (by decide)
set_option maxRecDepth 65536 in
set_option maxHeartbeats 40000000 in
theorem seg79_3_3 {p : Program} {l : Launch} {e : Env} {s : State} {m : MethodId} {args : Array Value} {below : List Frame} {meth : Method} {c : Code} {T0 : State} {locs : List Loc} {Z : State} {a0 : Array Value} {h0 : Heap} {n0 : Nat} {y0 y1 y2 x0 x1 x2 r0 r1 r2 r3 : Int32}
    (C : Cx Z a0 p s m meth c code maxLocals "com/example/ballast/ballast/storage/ClusterCatalogIsInSyncOfPinLaw" "law" ret) (X0 : Stand p l e room_1 s m args below meth c T0 locs 0 0) (e0 : T0.heap = h0) (N0 : Fr n0 locs) (Z0 : n0 ≤ h0.size)  :
    Go p e below s m (LQ n0) room_1.cells room_1.slots T0 79 #[.val (.int y0), .val (.int y1), .val (.int y2), .val (.int (3 : Int32)), .val (.int (3 : Int32)), .val (.int x0), .val (.int x1), .val (.int x2), .val (.int r0), .val (.int r1), .val (.int r2), .val (.int r3), .unset, .unset, .unset, .unset] [] := by
  refine g_iloadN C X0 at_79 rfl rfl ?_
  refine g_newarray (cap := 3) C X0 at_80 e0 (C.t 0 rfl) (by decide) (by decide) (by decide) (by decide) (by decide) rfl ?_
  intro T1 h1_ X1 e1 E1 lt1 ad1 ha1 A1
  have Z1 : n0 ≤ h1_.size := Nat.le_trans Z0 E1.1
  have g_ad1 : n0 ≤ ad1 := by omega
  refine g_astore C X1 at_82 #[.val (.int y0), .val (.int y1), .val (.int y2), .val (.int (3 : Int32)), .val (.int (3 : Int32)), .val (.int x0), .val (.int x1), .val (.int x2), .val (.int r0), .val (.int r1), .val (.int r2), .val (.int r3), .val (.ref ad1), .unset, .unset, .unset] rfl rfl ?_
  refine g_iload C X1 at_84 rfl rfl ?_
  refine g_newarray (cap := 4) C X1 at_86 e1 (C.t 0 rfl) (by decide) (by decide) (by decide) (by decide) (by decide) rfl ?_
  intro T2 h2_ X2 e2 E2 lt2 ad2 ha2 A2
  have Z2 : n0 ≤ h2_.size := Nat.le_trans Z1 E2.1
  have ne_ad1_ad2 : ad1 ≠ ad2 := Nat.ne_of_lt (Nat.lt_of_lt_of_eq A1.lt ha2.symm)
  have A2_ad1 := A1.ext E2
  have g_ad2 : n0 ≤ ad2 := by omega
  refine g_astore C X2 at_88 #[.val (.int y0), .val (.int y1), .val (.int y2), .val (.int (3 : Int32)), .val (.int (3 : Int32)), .val (.int x0), .val (.int x1), .val (.int x2), .val (.int r0), .val (.int r1), .val (.int r2), .val (.int r3), .val (.ref ad1), .val (.ref ad2), .unset, .unset] rfl rfl ?_
  refine g_iconst C X2 (4 : Int32) at_90 rfl rfl ?_
  refine g_newarray (cap := 4) C X2 at_91 e2 (C.t 0 rfl) (by decide) (by decide) (by decide) (by decide) (by decide) rfl ?_
  intro T3 h3_ X3 e3 E3 lt3 ad3 ha3 A3
  have Z3 : n0 ≤ h3_.size := Nat.le_trans Z2 E3.1
  have ne_ad1_ad3 : ad1 ≠ ad3 := Nat.ne_of_lt (Nat.lt_of_lt_of_eq A2_ad1.lt ha3.symm)
  have A3_ad1 := A2_ad1.ext E3
  have ne_ad2_ad3 : ad2 ≠ ad3 := Nat.ne_of_lt (Nat.lt_of_lt_of_eq A2.lt ha3.symm)
  have A3_ad2 := A2.ext E3
  have g_ad3 : n0 ≤ ad3 := by omega
  refine g_dup C X3 at_93 rfl rfl ?_
  refine g_iconst C X3 (0 : Int32) at_94 rfl rfl ?_
  refine g_iload C X3 at_95 rfl rfl ?_
  refine g_iastore C X3 at_97 e3 A3 (by decide) (by decide) rfl ?_
  intro T4 h4_ X4 e4 W4 A4
  have N4 := Fr.snoc X4 N0 g_ad3
  have Z4 : n0 ≤ h4_.size := Nat.le_trans Z3 (Keep.of_wr W4).1
  have A4_ad1 := A3_ad1.other W4 ne_ad1_ad3
  have A4_ad2 := A3_ad2.other W4 ne_ad2_ad3
  refine g_dup C X4 at_98 rfl rfl ?_
  refine g_iconst C X4 (1 : Int32) at_99 rfl rfl ?_
  refine g_iload C X4 at_100 rfl rfl ?_
  refine g_iastore C X4 at_102 e4 A4 (by decide) (by decide) rfl ?_
  intro T5 h5_ X5 e5 W5 A5
  have N5 := Fr.snoc X5 N4 g_ad3
  have Z5 : n0 ≤ h5_.size := Nat.le_trans Z4 (Keep.of_wr W5).1
  have A5_ad1 := A4_ad1.other W5 ne_ad1_ad3
  have A5_ad2 := A4_ad2.other W5 ne_ad2_ad3
  refine g_dup C X5 at_103 rfl rfl ?_
  refine g_iconst C X5 (2 : Int32) at_104 rfl rfl ?_
  refine g_iload C X5 at_105 rfl rfl ?_
  refine g_iastore C X5 at_107 e5 A5 (by decide) (by decide) rfl ?_
  intro T6 h6_ X6 e6 W6 A6
  have N6 := Fr.snoc X6 N5 g_ad3
  have Z6 : n0 ≤ h6_.size := Nat.le_trans Z5 (Keep.of_wr W6).1
  have A6_ad1 := A5_ad1.other W6 ne_ad1_ad3
  have A6_ad2 := A5_ad2.other W6 ne_ad2_ad3
  refine g_dup C X6 at_108 rfl rfl ?_
  refine g_iconst C X6 (3 : Int32) at_109 rfl rfl ?_
  refine g_iload C X6 at_110 rfl rfl ?_
  refine g_iastore C X6 at_112 e6 A6 (by decide) (by decide) rfl ?_
  intro T7 h7_ X7 e7 W7 A7
  have N7 := Fr.snoc X7 N6 g_ad3
  have Z7 : n0 ≤ h7_.size := Nat.le_trans Z6 (Keep.of_wr W7).1
  have A7_ad1 := A6_ad1.other W7 ne_ad1_ad3
  have A7_ad2 := A6_ad2.other W7 ne_ad2_ad3
  refine g_astore C X7 at_113 #[.val (.int y0), .val (.int y1), .val (.int y2), .val (.int (3 : Int32)), .val (.int (3 : Int32)), .val (.int x0), .val (.int x1), .val (.int x2), .val (.int r0), .val (.int r1), .val (.int r2), .val (.int r3), .val (.ref ad1), .val (.ref ad2), .val (.ref ad3), .unset] rfl rfl ?_
  refine g_iloadN C X7 at_115 rfl rfl ?_
  refine g_if C X7 at_116 (by decide) rfl rfl ?_ ?_
  · intro h116
    have h116 : (3 : Int) ≤ 0 := h116
    exact absurd h116 (by decide)
  · intro h116
    have h116 : (3 : Int) > 0 := h116
    refine g_aload C X7 at_119 rfl rfl ?_
    refine g_iconst C X7 (0 : Int32) at_121 rfl rfl ?_
    refine g_iload C X7 at_122 rfl rfl ?_
    refine g_iastore C X7 at_124 e7 A7_ad1 (by decide) (by decide) rfl ?_
    intro T8 h8_ X8 e8 W8 A8
    have N8 := Fr.snoc X8 N7 g_ad1
    have Z8 : n0 ≤ h8_.size := Nat.le_trans Z7 (Keep.of_wr W8).1
    have A8_ad2 := A7_ad2.other W8 ne_ad1_ad2.symm
    have A8_ad3 := A7.other W8 ne_ad1_ad3.symm
    refine g_iloadN C X8 at_125 rfl rfl ?_
    refine g_iconst C X8 (1 : Int32) at_126 rfl rfl ?_
    refine g_icmp C X8 at_127 (by decide) rfl rfl ?_ ?_
    · intro h127
      have h127 : (3 : Int) ≤ 1 := h127
      exact absurd h127 (by decide)
    · intro h127
      have h127 : (3 : Int) > 1 := h127
      refine g_aload C X8 at_130 rfl rfl ?_
      refine g_iconst C X8 (1 : Int32) at_132 rfl rfl ?_
      refine g_iload C X8 at_133 rfl rfl ?_
      refine g_iastore C X8 at_135 e8 A8 (by decide) (by decide) rfl ?_
      intro T9 h9_ X9 e9 W9 A9
      have N9 := Fr.snoc X9 N8 g_ad1
      have Z9 : n0 ≤ h9_.size := Nat.le_trans Z8 (Keep.of_wr W9).1
      have A9_ad2 := A8_ad2.other W9 ne_ad1_ad2.symm
      have A9_ad3 := A8_ad3.other W9 ne_ad1_ad3.symm
      refine g_iloadN C X9 at_136 rfl rfl ?_
      refine g_iconst C X9 (2 : Int32) at_137 rfl rfl ?_
      refine g_icmp C X9 at_138 (by decide) rfl rfl ?_ ?_
      · intro h138
        have h138 : (3 : Int) ≤ 2 := h138
        exact absurd h138 (by decide)
      · intro h138
        have h138 : (3 : Int) > 2 := h138
        refine g_aload C X9 at_141 rfl rfl ?_
        refine g_iconst C X9 (2 : Int32) at_143 rfl rfl ?_
        refine g_iload C X9 at_144 rfl rfl ?_
        refine g_iastore C X9 at_146 e9 A9 (by decide) (by decide) rfl ?_
        intro T10 h10_ X10 e10 W10 A10
        have N10 := Fr.snoc X10 N9 g_ad1
        have Z10 : n0 ≤ h10_.size := Nat.le_trans Z9 (Keep.of_wr W10).1
        have A10_ad2 := A9_ad2.other W10 ne_ad1_ad2.symm
        have A10_ad3 := A9_ad3.other W10 ne_ad1_ad3.symm
        refine g_iload C X10 at_147 rfl rfl ?_
        refine g_if C X10 at_149 (by decide) rfl rfl ?_ ?_
        · intro h149
          have h149 : (3 : Int) ≤ 0 := h149
          exact absurd h149 (by decide)
        · intro h149
          have h149 : (3 : Int) > 0 := h149
          refine g_aload C X10 at_152 rfl rfl ?_
          refine g_iconst C X10 (0 : Int32) at_154 rfl rfl ?_
          refine g_iload C X10 at_155 rfl rfl ?_
          refine g_iastore C X10 at_157 e10 A10_ad2 (by decide) (by decide) rfl ?_
          intro T11 h11_ X11 e11 W11 A11
          have N11 := Fr.snoc X11 N10 g_ad2
          have Z11 : n0 ≤ h11_.size := Nat.le_trans Z10 (Keep.of_wr W11).1
          have A11_ad1 := A10.other W11 ne_ad1_ad2
          have A11_ad3 := A10_ad3.other W11 ne_ad2_ad3.symm
          refine g_iload C X11 at_158 rfl rfl ?_
          refine g_iconst C X11 (1 : Int32) at_160 rfl rfl ?_
          refine g_icmp C X11 at_161 (by decide) rfl rfl ?_ ?_
          · intro h161
            have h161 : (3 : Int) ≤ 1 := h161
            exact absurd h161 (by decide)
          · intro h161
            have h161 : (3 : Int) > 1 := h161
            refine g_aload C X11 at_164 rfl rfl ?_
            refine g_iconst C X11 (1 : Int32) at_166 rfl rfl ?_
            refine g_iload C X11 at_167 rfl rfl ?_
            refine g_iastore C X11 at_169 e11 A11 (by decide) (by decide) rfl ?_
            intro T12 h12_ X12 e12 W12 A12
            have N12 := Fr.snoc X12 N11 g_ad2
            have Z12 : n0 ≤ h12_.size := Nat.le_trans Z11 (Keep.of_wr W12).1
            have A12_ad1 := A11_ad1.other W12 ne_ad1_ad2
            have A12_ad3 := A11_ad3.other W12 ne_ad2_ad3.symm
            refine g_iload C X12 at_170 rfl rfl ?_
            refine g_iconst C X12 (2 : Int32) at_172 rfl rfl ?_
            refine g_icmp C X12 at_173 (by decide) rfl rfl ?_ ?_
            · intro h173
              have h173 : (3 : Int) ≤ 2 := h173
              exact absurd h173 (by decide)
            · intro h173
              have h173 : (3 : Int) > 2 := h173
              refine g_aload C X12 at_176 rfl rfl ?_
              refine g_iconst C X12 (2 : Int32) at_178 rfl rfl ?_
              refine g_iload C X12 at_179 rfl rfl ?_
              refine g_iastore C X12 at_181 e12 A12 (by decide) (by decide) rfl ?_
              intro T13 h13_ X13 e13 W13 A13
              have N13 := Fr.snoc X13 N12 g_ad2
              have Z13 : n0 ≤ h13_.size := Nat.le_trans Z12 (Keep.of_wr W13).1
              have A13_ad1 := A12_ad1.other W13 ne_ad1_ad2
              have A13_ad3 := A12_ad3.other W13 ne_ad2_ad3.symm
              refine g_iload C X13 at_182 rfl rfl ?_
              refine g_iconst C X13 (3 : Int32) at_184 rfl rfl ?_
              refine g_icmp C X13 at_185 (by decide) rfl rfl ?_ ?_
              · intro h185
                have h185 : (3 : Int) ≤ 3 := h185
                have AI : Aw Z h13_ ad1 .int 3 (fun j => .int (([x0, x1, x2] : List Int32).getD j 0)) := Aw.of A13_ad1 (by
                  intro j hj
                  have hj : j < 3 := hj
                  have hj : j = 0 ∨ j = 1 ∨ j = 2 := by omega
                  rcases hj with rfl | rfl | rfl <;> rfl)
                have AP : Aw Z h13_ ad2 .int 3 (fun j => .int (([r0, r1, r2, r3] : List Int32).getD j 0)) := Aw.of A13 (by
                  intro j hj
                  have hj : j < 3 := hj
                  have hj : j = 0 ∨ j = 1 ∨ j = 2 := by omega
                  rcases hj with rfl | rfl | rfl <;> rfl)
                have AR : Aw Z h13_ ad3 .int 4 (fun j => .int (([r0, r1, r2, r3] : List Int32).getD j 0)) := Aw.of A13_ad3 (by
                  intro j hj
                  have hj : j < 4 := hj
                  have hj : j = 0 ∨ j = 1 ∨ j = 2 ∨ j = 3 := by omega
                  rcases hj with rfl | rfl | rfl | rfl <;> rfl)
                exact seg194_3 C X13 e13 N13 Z13 AI AP AR (by decide) (Or.inr (Or.inr (Or.inr (Or.inl rfl))))
              · intro h185
                have h185 : (3 : Int) > 3 := h185
                exact absurd h185 (by decide)
set_option maxRecDepth 65536 in
set_option maxHeartbeats 40000000 in
theorem seg79_3_4 {p : Program} {l : Launch} {e : Env} {s : State} {m : MethodId} {args : Array Value} {below : List Frame} {meth : Method} {c : Code} {T0 : State} {locs : List Loc} {Z : State} {a0 : Array Value} {h0 : Heap} {n0 : Nat} {y0 y1 y2 x0 x1 x2 r0 r1 r2 r3 : Int32}
    (C : Cx Z a0 p s m meth c code maxLocals "com/example/ballast/ballast/storage/ClusterCatalogIsInSyncOfPinLaw" "law" ret) (X0 : Stand p l e room_1 s m args below meth c T0 locs 0 0) (e0 : T0.heap = h0) (N0 : Fr n0 locs) (Z0 : n0 ≤ h0.size)  :
    Go p e below s m (LQ n0) room_1.cells room_1.slots T0 79 #[.val (.int y0), .val (.int y1), .val (.int y2), .val (.int (3 : Int32)), .val (.int (4 : Int32)), .val (.int x0), .val (.int x1), .val (.int x2), .val (.int r0), .val (.int r1), .val (.int r2), .val (.int r3), .unset, .unset, .unset, .unset] [] := by
  refine g_iloadN C X0 at_79 rfl rfl ?_
  refine g_newarray (cap := 3) C X0 at_80 e0 (C.t 0 rfl) (by decide) (by decide) (by decide) (by decide) (by decide) rfl ?_
  intro T1 h1_ X1 e1 E1 lt1 ad1 ha1 A1
  have Z1 : n0 ≤ h1_.size := Nat.le_trans Z0 E1.1
  have g_ad1 : n0 ≤ ad1 := by omega
  refine g_astore C X1 at_82 #[.val (.int y0), .val (.int y1), .val (.int y2), .val (.int (3 : Int32)), .val (.int (4 : Int32)), .val (.int x0), .val (.int x1), .val (.int x2), .val (.int r0), .val (.int r1), .val (.int r2), .val (.int r3), .val (.ref ad1), .unset, .unset, .unset] rfl rfl ?_
  refine g_iload C X1 at_84 rfl rfl ?_
  refine g_newarray (cap := 4) C X1 at_86 e1 (C.t 0 rfl) (by decide) (by decide) (by decide) (by decide) (by decide) rfl ?_
  intro T2 h2_ X2 e2 E2 lt2 ad2 ha2 A2
  have Z2 : n0 ≤ h2_.size := Nat.le_trans Z1 E2.1
  have ne_ad1_ad2 : ad1 ≠ ad2 := Nat.ne_of_lt (Nat.lt_of_lt_of_eq A1.lt ha2.symm)
  have A2_ad1 := A1.ext E2
  have g_ad2 : n0 ≤ ad2 := by omega
  refine g_astore C X2 at_88 #[.val (.int y0), .val (.int y1), .val (.int y2), .val (.int (3 : Int32)), .val (.int (4 : Int32)), .val (.int x0), .val (.int x1), .val (.int x2), .val (.int r0), .val (.int r1), .val (.int r2), .val (.int r3), .val (.ref ad1), .val (.ref ad2), .unset, .unset] rfl rfl ?_
  refine g_iconst C X2 (4 : Int32) at_90 rfl rfl ?_
  refine g_newarray (cap := 4) C X2 at_91 e2 (C.t 0 rfl) (by decide) (by decide) (by decide) (by decide) (by decide) rfl ?_
  intro T3 h3_ X3 e3 E3 lt3 ad3 ha3 A3
  have Z3 : n0 ≤ h3_.size := Nat.le_trans Z2 E3.1
  have ne_ad1_ad3 : ad1 ≠ ad3 := Nat.ne_of_lt (Nat.lt_of_lt_of_eq A2_ad1.lt ha3.symm)
  have A3_ad1 := A2_ad1.ext E3
  have ne_ad2_ad3 : ad2 ≠ ad3 := Nat.ne_of_lt (Nat.lt_of_lt_of_eq A2.lt ha3.symm)
  have A3_ad2 := A2.ext E3
  have g_ad3 : n0 ≤ ad3 := by omega
  refine g_dup C X3 at_93 rfl rfl ?_
  refine g_iconst C X3 (0 : Int32) at_94 rfl rfl ?_
  refine g_iload C X3 at_95 rfl rfl ?_
  refine g_iastore C X3 at_97 e3 A3 (by decide) (by decide) rfl ?_
  intro T4 h4_ X4 e4 W4 A4
  have N4 := Fr.snoc X4 N0 g_ad3
  have Z4 : n0 ≤ h4_.size := Nat.le_trans Z3 (Keep.of_wr W4).1
  have A4_ad1 := A3_ad1.other W4 ne_ad1_ad3
  have A4_ad2 := A3_ad2.other W4 ne_ad2_ad3
  refine g_dup C X4 at_98 rfl rfl ?_
  refine g_iconst C X4 (1 : Int32) at_99 rfl rfl ?_
  refine g_iload C X4 at_100 rfl rfl ?_
  refine g_iastore C X4 at_102 e4 A4 (by decide) (by decide) rfl ?_
  intro T5 h5_ X5 e5 W5 A5
  have N5 := Fr.snoc X5 N4 g_ad3
  have Z5 : n0 ≤ h5_.size := Nat.le_trans Z4 (Keep.of_wr W5).1
  have A5_ad1 := A4_ad1.other W5 ne_ad1_ad3
  have A5_ad2 := A4_ad2.other W5 ne_ad2_ad3
  refine g_dup C X5 at_103 rfl rfl ?_
  refine g_iconst C X5 (2 : Int32) at_104 rfl rfl ?_
  refine g_iload C X5 at_105 rfl rfl ?_
  refine g_iastore C X5 at_107 e5 A5 (by decide) (by decide) rfl ?_
  intro T6 h6_ X6 e6 W6 A6
  have N6 := Fr.snoc X6 N5 g_ad3
  have Z6 : n0 ≤ h6_.size := Nat.le_trans Z5 (Keep.of_wr W6).1
  have A6_ad1 := A5_ad1.other W6 ne_ad1_ad3
  have A6_ad2 := A5_ad2.other W6 ne_ad2_ad3
  refine g_dup C X6 at_108 rfl rfl ?_
  refine g_iconst C X6 (3 : Int32) at_109 rfl rfl ?_
  refine g_iload C X6 at_110 rfl rfl ?_
  refine g_iastore C X6 at_112 e6 A6 (by decide) (by decide) rfl ?_
  intro T7 h7_ X7 e7 W7 A7
  have N7 := Fr.snoc X7 N6 g_ad3
  have Z7 : n0 ≤ h7_.size := Nat.le_trans Z6 (Keep.of_wr W7).1
  have A7_ad1 := A6_ad1.other W7 ne_ad1_ad3
  have A7_ad2 := A6_ad2.other W7 ne_ad2_ad3
  refine g_astore C X7 at_113 #[.val (.int y0), .val (.int y1), .val (.int y2), .val (.int (3 : Int32)), .val (.int (4 : Int32)), .val (.int x0), .val (.int x1), .val (.int x2), .val (.int r0), .val (.int r1), .val (.int r2), .val (.int r3), .val (.ref ad1), .val (.ref ad2), .val (.ref ad3), .unset] rfl rfl ?_
  refine g_iloadN C X7 at_115 rfl rfl ?_
  refine g_if C X7 at_116 (by decide) rfl rfl ?_ ?_
  · intro h116
    have h116 : (3 : Int) ≤ 0 := h116
    exact absurd h116 (by decide)
  · intro h116
    have h116 : (3 : Int) > 0 := h116
    refine g_aload C X7 at_119 rfl rfl ?_
    refine g_iconst C X7 (0 : Int32) at_121 rfl rfl ?_
    refine g_iload C X7 at_122 rfl rfl ?_
    refine g_iastore C X7 at_124 e7 A7_ad1 (by decide) (by decide) rfl ?_
    intro T8 h8_ X8 e8 W8 A8
    have N8 := Fr.snoc X8 N7 g_ad1
    have Z8 : n0 ≤ h8_.size := Nat.le_trans Z7 (Keep.of_wr W8).1
    have A8_ad2 := A7_ad2.other W8 ne_ad1_ad2.symm
    have A8_ad3 := A7.other W8 ne_ad1_ad3.symm
    refine g_iloadN C X8 at_125 rfl rfl ?_
    refine g_iconst C X8 (1 : Int32) at_126 rfl rfl ?_
    refine g_icmp C X8 at_127 (by decide) rfl rfl ?_ ?_
    · intro h127
      have h127 : (3 : Int) ≤ 1 := h127
      exact absurd h127 (by decide)
    · intro h127
      have h127 : (3 : Int) > 1 := h127
      refine g_aload C X8 at_130 rfl rfl ?_
      refine g_iconst C X8 (1 : Int32) at_132 rfl rfl ?_
      refine g_iload C X8 at_133 rfl rfl ?_
      refine g_iastore C X8 at_135 e8 A8 (by decide) (by decide) rfl ?_
      intro T9 h9_ X9 e9 W9 A9
      have N9 := Fr.snoc X9 N8 g_ad1
      have Z9 : n0 ≤ h9_.size := Nat.le_trans Z8 (Keep.of_wr W9).1
      have A9_ad2 := A8_ad2.other W9 ne_ad1_ad2.symm
      have A9_ad3 := A8_ad3.other W9 ne_ad1_ad3.symm
      refine g_iloadN C X9 at_136 rfl rfl ?_
      refine g_iconst C X9 (2 : Int32) at_137 rfl rfl ?_
      refine g_icmp C X9 at_138 (by decide) rfl rfl ?_ ?_
      · intro h138
        have h138 : (3 : Int) ≤ 2 := h138
        exact absurd h138 (by decide)
      · intro h138
        have h138 : (3 : Int) > 2 := h138
        refine g_aload C X9 at_141 rfl rfl ?_
        refine g_iconst C X9 (2 : Int32) at_143 rfl rfl ?_
        refine g_iload C X9 at_144 rfl rfl ?_
        refine g_iastore C X9 at_146 e9 A9 (by decide) (by decide) rfl ?_
        intro T10 h10_ X10 e10 W10 A10
        have N10 := Fr.snoc X10 N9 g_ad1
        have Z10 : n0 ≤ h10_.size := Nat.le_trans Z9 (Keep.of_wr W10).1
        have A10_ad2 := A9_ad2.other W10 ne_ad1_ad2.symm
        have A10_ad3 := A9_ad3.other W10 ne_ad1_ad3.symm
        refine g_iload C X10 at_147 rfl rfl ?_
        refine g_if C X10 at_149 (by decide) rfl rfl ?_ ?_
        · intro h149
          have h149 : (4 : Int) ≤ 0 := h149
          exact absurd h149 (by decide)
        · intro h149
          have h149 : (4 : Int) > 0 := h149
          refine g_aload C X10 at_152 rfl rfl ?_
          refine g_iconst C X10 (0 : Int32) at_154 rfl rfl ?_
          refine g_iload C X10 at_155 rfl rfl ?_
          refine g_iastore C X10 at_157 e10 A10_ad2 (by decide) (by decide) rfl ?_
          intro T11 h11_ X11 e11 W11 A11
          have N11 := Fr.snoc X11 N10 g_ad2
          have Z11 : n0 ≤ h11_.size := Nat.le_trans Z10 (Keep.of_wr W11).1
          have A11_ad1 := A10.other W11 ne_ad1_ad2
          have A11_ad3 := A10_ad3.other W11 ne_ad2_ad3.symm
          refine g_iload C X11 at_158 rfl rfl ?_
          refine g_iconst C X11 (1 : Int32) at_160 rfl rfl ?_
          refine g_icmp C X11 at_161 (by decide) rfl rfl ?_ ?_
          · intro h161
            have h161 : (4 : Int) ≤ 1 := h161
            exact absurd h161 (by decide)
          · intro h161
            have h161 : (4 : Int) > 1 := h161
            refine g_aload C X11 at_164 rfl rfl ?_
            refine g_iconst C X11 (1 : Int32) at_166 rfl rfl ?_
            refine g_iload C X11 at_167 rfl rfl ?_
            refine g_iastore C X11 at_169 e11 A11 (by decide) (by decide) rfl ?_
            intro T12 h12_ X12 e12 W12 A12
            have N12 := Fr.snoc X12 N11 g_ad2
            have Z12 : n0 ≤ h12_.size := Nat.le_trans Z11 (Keep.of_wr W12).1
            have A12_ad1 := A11_ad1.other W12 ne_ad1_ad2
            have A12_ad3 := A11_ad3.other W12 ne_ad2_ad3.symm
            refine g_iload C X12 at_170 rfl rfl ?_
            refine g_iconst C X12 (2 : Int32) at_172 rfl rfl ?_
            refine g_icmp C X12 at_173 (by decide) rfl rfl ?_ ?_
            · intro h173
              have h173 : (4 : Int) ≤ 2 := h173
              exact absurd h173 (by decide)
            · intro h173
              have h173 : (4 : Int) > 2 := h173
              refine g_aload C X12 at_176 rfl rfl ?_
              refine g_iconst C X12 (2 : Int32) at_178 rfl rfl ?_
              refine g_iload C X12 at_179 rfl rfl ?_
              refine g_iastore C X12 at_181 e12 A12 (by decide) (by decide) rfl ?_
              intro T13 h13_ X13 e13 W13 A13
              have N13 := Fr.snoc X13 N12 g_ad2
              have Z13 : n0 ≤ h13_.size := Nat.le_trans Z12 (Keep.of_wr W13).1
              have A13_ad1 := A12_ad1.other W13 ne_ad1_ad2
              have A13_ad3 := A12_ad3.other W13 ne_ad2_ad3.symm
              refine g_iload C X13 at_182 rfl rfl ?_
              refine g_iconst C X13 (3 : Int32) at_184 rfl rfl ?_
              refine g_icmp C X13 at_185 (by decide) rfl rfl ?_ ?_
              · intro h185
                have h185 : (4 : Int) ≤ 3 := h185
                exact absurd h185 (by decide)
              · intro h185
                have h185 : (4 : Int) > 3 := h185
                refine g_aload C X13 at_188 rfl rfl ?_
                refine g_iconst C X13 (3 : Int32) at_190 rfl rfl ?_
                refine g_iload C X13 at_191 rfl rfl ?_
                refine g_iastore C X13 at_193 e13 A13 (by decide) (by decide) rfl ?_
                intro T14 h14_ X14 e14 W14 A14
                have N14 := Fr.snoc X14 N13 g_ad2
                have Z14 : n0 ≤ h14_.size := Nat.le_trans Z13 (Keep.of_wr W14).1
                have A14_ad1 := A13_ad1.other W14 ne_ad1_ad2
                have A14_ad3 := A13_ad3.other W14 ne_ad2_ad3.symm
                have AI : Aw Z h14_ ad1 .int 3 (fun j => .int (([x0, x1, x2] : List Int32).getD j 0)) := Aw.of A14_ad1 (by
                  intro j hj
                  have hj : j < 3 := hj
                  have hj : j = 0 ∨ j = 1 ∨ j = 2 := by omega
                  rcases hj with rfl | rfl | rfl <;> rfl)
                have AP : Aw Z h14_ ad2 .int 4 (fun j => .int (([r0, r1, r2, r3] : List Int32).getD j 0)) := Aw.of A14 (by
                  intro j hj
                  have hj : j < 4 := hj
                  have hj : j = 0 ∨ j = 1 ∨ j = 2 ∨ j = 3 := by omega
                  rcases hj with rfl | rfl | rfl | rfl <;> rfl)
                have AR : Aw Z h14_ ad3 .int 4 (fun j => .int (([r0, r1, r2, r3] : List Int32).getD j 0)) := Aw.of A14_ad3 (by
                  intro j hj
                  have hj : j < 4 := hj
                  have hj : j = 0 ∨ j = 1 ∨ j = 2 ∨ j = 3 := by omega
                  rcases hj with rfl | rfl | rfl | rfl <;> rfl)
                exact seg194_3 C X14 e14 N14 Z14 AI AP AR (by decide) (Or.inr (Or.inr (Or.inr (Or.inr (rfl)))))
set_option maxRecDepth 65536 in
set_option maxHeartbeats 40000000 in
theorem rm0 (l : Launch) (Z : State) (a0 : Array Value) (hw : ∀ d ∈ tables_1, d.before a0 Z = true) (ws : List Jvm.Cond) (y0 : Int32) (y1 : Int32) (y2 : Int32) (h0 : Heap) (n0 : Nat) (Z0 : n0 ≤ h0.size) :
    MetFree l x (head1 (Jvm.Cond.code x code maxLocals ret :: ws) room_1) (fun aa U => aa = #[(.int y0), (.int y1), (.int y2)] ∧ Z.Warmed39 U.vm ∧ U.heap = h0) (fun _ _ _ _ _ => True) (fun _ U oo U' => ∃ rv Lr, oo = .returned rv ∧ LQ n0 rv U'.heap Lr ∧ FrameEnd U oo U' Lr room_1.cells room_1.slots) := by
  refine g_enter pn_0 hw (ef_0 y0 y1 y2) ?_
  intro p e s m below meth c T0 C X0 e0
  have C : Cx Z a0 p s m meth c code maxLocals "com/example/ballast/ballast/storage/ClusterCatalogIsInSyncOfPinLaw" "law" ret := C
  have N0 := Fr.nil n0
  refine g_iloadN C X0 at_0 rfl rfl ?_
  refine g_iconst C X0 (3 : Int32) at_1 rfl rfl ?_
  refine g_iand C X0 at_2 rfl ?_
  refine g_istoreNV C X0 at_3 (fun v__ => #[.val (.int y0), .val (.int y1), .val (.int y2), .val (.int v__), .unset, .unset, .unset, .unset, .unset, .unset, .unset, .unset, .unset, .unset, .unset, .unset]) rfl rfl ?_
  intro nn h_nn
  have cn := c_mask y1 (3 : Int32) 2 (by decide) (by decide)
  rw [← h_nn] at cn
  have hn : nn = (0 : Int32) ∨ nn = (1 : Int32) ∨ nn = (2 : Int32) ∨ nn = (3 : Int32) := by
    have q : nn.toInt = 0 ∨ nn.toInt = 1 ∨ nn.toInt = 2 ∨ nn.toInt = 3 := by rw [cn]; omega
    rcases q with q | q | q | q
    · exact Or.inl (own_inj32 q)
    · exact Or.inr (Or.inl (own_inj32 q))
    · exact Or.inr (Or.inr (Or.inl (own_inj32 q)))
    · exact Or.inr (Or.inr (Or.inr (own_inj32 q)))
  clear cn h_nn
  refine g_iloadN C X0 at_4 rfl rfl ?_
  refine g_iconst C X0 (2 : Int32) at_5 rfl rfl ?_
  refine g_iushr C X0 at_6 rfl ?_
  refine g_bipush C X0 (7 : Int32) at_7 rfl rfl ?_
  refine g_iand C X0 at_9 rfl ?_
  refine g_iconst C X0 (5 : Int32) at_10 rfl rfl ?_
  refine g_irem C X0 at_11 (by decide) rfl ?_
  refine g_istoreV C X0 at_12 (fun v__ => #[.val (.int y0), .val (.int y1), .val (.int y2), .val (.int nn), .val (.int v__), .unset, .unset, .unset, .unset, .unset, .unset, .unset, .unset, .unset, .unset, .unset]) rfl rfl ?_
  intro mm h_mm
  have cm := c_mask ((y1.toUInt32 >>> ((2 : Int32) &&& 31).toUInt32).toInt32) (7 : Int32) 3 (by decide) (by decide)
  have cr := (c_iremV (((y1.toUInt32 >>> ((2 : Int32) &&& 31).toUInt32).toInt32) &&& (7 : Int32)) (5 : Int32)).1 (by omega) (by decide)
  rw [← h_mm, show (5 : Int32).toInt = 5 by decide] at cr
  have hm : mm = (0 : Int32) ∨ mm = (1 : Int32) ∨ mm = (2 : Int32) ∨ mm = (3 : Int32) ∨ mm = (4 : Int32) := by
    have q : mm.toInt = 0 ∨ mm.toInt = 1 ∨ mm.toInt = 2 ∨ mm.toInt = 3 ∨ mm.toInt = 4 := by omega
    rcases q with q | q | q | q | q
    · exact Or.inl (own_inj32 q)
    · exact Or.inr (Or.inl (own_inj32 q))
    · exact Or.inr (Or.inr (Or.inl (own_inj32 q)))
    · exact Or.inr (Or.inr (Or.inr (Or.inl (own_inj32 q))))
    · exact Or.inr (Or.inr (Or.inr (Or.inr (own_inj32 q))))
  clear cm cr h_mm
  refine g_iloadN C X0 at_14 rfl rfl ?_
  refine g_iloadN C X0 at_15 rfl rfl ?_
  refine g_iconst C X0 (3 : Int32) at_16 rfl rfl ?_
  refine g_iand C X0 at_17 rfl ?_
  refine g_iadd C X0 at_18 rfl ?_
  refine g_istoreV C X0 at_19 (fun v__ => #[.val (.int y0), .val (.int y1), .val (.int y2), .val (.int nn), .val (.int mm), .val (.int v__), .unset, .unset, .unset, .unset, .unset, .unset, .unset, .unset, .unset, .unset]) rfl rfl ?_
  intro v19 h_v19
  refine g_iloadN C X0 at_21 rfl rfl ?_
  refine g_iloadN C X0 at_22 rfl rfl ?_
  refine g_iconst C X0 (2 : Int32) at_23 rfl rfl ?_
  refine g_iushr C X0 at_24 rfl ?_
  refine g_iconst C X0 (3 : Int32) at_25 rfl rfl ?_
  refine g_iand C X0 at_26 rfl ?_
  refine g_iadd C X0 at_27 rfl ?_
  refine g_istoreV C X0 at_28 (fun v__ => #[.val (.int y0), .val (.int y1), .val (.int y2), .val (.int nn), .val (.int mm), .val (.int v19), .val (.int v__), .unset, .unset, .unset, .unset, .unset, .unset, .unset, .unset, .unset]) rfl rfl ?_
  intro v28 h_v28
  refine g_iloadN C X0 at_30 rfl rfl ?_
  refine g_iloadN C X0 at_31 rfl rfl ?_
  refine g_iconst C X0 (4 : Int32) at_32 rfl rfl ?_
  refine g_iushr C X0 at_33 rfl ?_
  refine g_iconst C X0 (3 : Int32) at_34 rfl rfl ?_
  refine g_iand C X0 at_35 rfl ?_
  refine g_iadd C X0 at_36 rfl ?_
  refine g_istoreV C X0 at_37 (fun v__ => #[.val (.int y0), .val (.int y1), .val (.int y2), .val (.int nn), .val (.int mm), .val (.int v19), .val (.int v28), .val (.int v__), .unset, .unset, .unset, .unset, .unset, .unset, .unset, .unset]) rfl rfl ?_
  intro v37 h_v37
  refine g_iloadN C X0 at_39 rfl rfl ?_
  refine g_iloadN C X0 at_40 rfl rfl ?_
  refine g_bipush C X0 (6 : Int32) at_41 rfl rfl ?_
  refine g_iushr C X0 at_43 rfl ?_
  refine g_iconst C X0 (3 : Int32) at_44 rfl rfl ?_
  refine g_iand C X0 at_45 rfl ?_
  refine g_iadd C X0 at_46 rfl ?_
  refine g_istoreV C X0 at_47 (fun v__ => #[.val (.int y0), .val (.int y1), .val (.int y2), .val (.int nn), .val (.int mm), .val (.int v19), .val (.int v28), .val (.int v37), .val (.int v__), .unset, .unset, .unset, .unset, .unset, .unset, .unset]) rfl rfl ?_
  intro v47 h_v47
  refine g_iloadN C X0 at_49 rfl rfl ?_
  refine g_iloadN C X0 at_50 rfl rfl ?_
  refine g_bipush C X0 (8 : Int32) at_51 rfl rfl ?_
  refine g_iushr C X0 at_53 rfl ?_
  refine g_iconst C X0 (3 : Int32) at_54 rfl rfl ?_
  refine g_iand C X0 at_55 rfl ?_
  refine g_iadd C X0 at_56 rfl ?_
  refine g_istoreV C X0 at_57 (fun v__ => #[.val (.int y0), .val (.int y1), .val (.int y2), .val (.int nn), .val (.int mm), .val (.int v19), .val (.int v28), .val (.int v37), .val (.int v47), .val (.int v__), .unset, .unset, .unset, .unset, .unset, .unset]) rfl rfl ?_
  intro v57 h_v57
  refine g_iloadN C X0 at_59 rfl rfl ?_
  refine g_iloadN C X0 at_60 rfl rfl ?_
  refine g_bipush C X0 (10 : Int32) at_61 rfl rfl ?_
  refine g_iushr C X0 at_63 rfl ?_
  refine g_iconst C X0 (3 : Int32) at_64 rfl rfl ?_
  refine g_iand C X0 at_65 rfl ?_
  refine g_iadd C X0 at_66 rfl ?_
  refine g_istoreV C X0 at_67 (fun v__ => #[.val (.int y0), .val (.int y1), .val (.int y2), .val (.int nn), .val (.int mm), .val (.int v19), .val (.int v28), .val (.int v37), .val (.int v47), .val (.int v57), .val (.int v__), .unset, .unset, .unset, .unset, .unset]) rfl rfl ?_
  intro v67 h_v67
  refine g_iloadN C X0 at_69 rfl rfl ?_
  refine g_iloadN C X0 at_70 rfl rfl ?_
  refine g_bipush C X0 (12 : Int32) at_71 rfl rfl ?_
  refine g_iushr C X0 at_73 rfl ?_
  refine g_iconst C X0 (3 : Int32) at_74 rfl rfl ?_
  refine g_iand C X0 at_75 rfl ?_
  refine g_iadd C X0 at_76 rfl ?_
  refine g_istoreV C X0 at_77 (fun v__ => #[.val (.int y0), .val (.int y1), .val (.int y2), .val (.int nn), .val (.int mm), .val (.int v19), .val (.int v28), .val (.int v37), .val (.int v47), .val (.int v57), .val (.int v67), .val (.int v__), .unset, .unset, .unset, .unset]) rfl rfl ?_
  intro v77 h_v77
  rcases hn with rfl | rfl | rfl | rfl
  · rcases hm with rfl | rfl | rfl | rfl | rfl
    · exact seg79_0_0 C X0 e0 N0 Z0
    · exact seg79_0_1 C X0 e0 N0 Z0
    · exact seg79_0_2 C X0 e0 N0 Z0
    · exact seg79_0_3 C X0 e0 N0 Z0
    · exact seg79_0_4 C X0 e0 N0 Z0
  · rcases hm with rfl | rfl | rfl | rfl | rfl
    · exact seg79_1_0 C X0 e0 N0 Z0
    · exact seg79_1_1 C X0 e0 N0 Z0
    · exact seg79_1_2 C X0 e0 N0 Z0
    · exact seg79_1_3 C X0 e0 N0 Z0
    · exact seg79_1_4 C X0 e0 N0 Z0
  · rcases hm with rfl | rfl | rfl | rfl | rfl
    · exact seg79_2_0 C X0 e0 N0 Z0
    · exact seg79_2_1 C X0 e0 N0 Z0
    · exact seg79_2_2 C X0 e0 N0 Z0
    · exact seg79_2_3 C X0 e0 N0 Z0
    · exact seg79_2_4 C X0 e0 N0 Z0
  · rcases hm with rfl | rfl | rfl | rfl | rfl
    · exact seg79_3_0 C X0 e0 N0 Z0
    · exact seg79_3_1 C X0 e0 N0 Z0
    · exact seg79_3_2 C X0 e0 N0 Z0
    · exact seg79_3_3 C X0 e0 N0 Z0
    · exact seg79_3_4 C X0 e0 N0 Z0
set_option maxRecDepth 65536 in
set_option maxHeartbeats 40000000 in
theorem comes_1 {Post : Tables → Env → Array Value → State → Outcome → State → Prop} (hpost : ∀ tb e args s v u, (limb_1_1.after args s (.returned v) u = true ∧ limb_1_2.after args s (.returned v) u = true ∧ True) → FrameEnd s (.returned v) u (Jvm.fieldLocs frame_1_writes args s ++ Jvm.arrayLocs frame_1_arrays args s ++ Jvm.staticLocs frame_1_statics s) 16 128 → Post tb e args s (.returned v) u) :
    ArmFor flags0 classFile x code maxLocals ret World_1 tables_1 room_1 Calls_1 rest_1 Pre_1 Post := by
  intro l hfl _ _ p e ha hc hk s m args below hf hA hF happ hP
  obtain ⟨hcalls, hrest, hpre⟩ := hP
  obtain ⟨-, -, -, hnamed, -, -, -, hat⟩ := (Spec.applies_iff hf).mp happ
  obtain ⟨hg, hn⟩ := and_e (Cond.before_iff.mp (show (Jvm.Cond.and given_1 narrow_1).before args s = true from hpre))
  obtain ⟨q0, g0⟩ := and_e hg
  obtain ⟨q1, g1⟩ := and_e g0
  obtain ⟨q2, g2⟩ := and_e g1
  have q3 := g2
  obtain ⟨w0, w1, w2, rfl⟩ : ∃ w0 w1 w2 : Value, args = #[w0, w1, w2] := by
    have hs : args.size = 3 := by simpa [Cond.value, given_1] using q0
    obtain ⟨L⟩ := args
    match L, hs with
    | [w0, w1, w2], _ => exact ⟨w0, w1, w2, rfl⟩
  have hw := fun d (hd : d ∈ tables_1) => atoms_spec (ws := Jvm.Cond.code x code maxLocals ret :: tables_1) hat d (List.mem_cons_of_mem _ hd)
  obtain ⟨i0, ei0⟩ := is_v q1
  obtain rfl : w0 = (.int i0) := Option.some.inj ei0
  obtain ⟨i1, ei1⟩ := is_v q2
  obtain rfl : w1 = (.int i1) := Option.some.inj ei1
  obtain ⟨i2, ei2⟩ := is_v q3
  obtain rfl : w2 = (.int i2) := Option.some.inj ei2
  obtain ⟨n, o, h1, h2, h3, _, L, rfl, ⟨rfl, N⟩, hq⟩ := rm0 l s _ hw tables_1 i0 i1 i2 s.heap s.heap.size (Nat.le_refl _) p e ha hc hk s m _ below hf ((Spec.applies_iff_loose hf).mp happ).1 ⟨rfl, State.Warmed39.refl s, rfl⟩ trivial
  refine ⟨n, _, h1, h2, h3, hpost _ _ _ _ _ _ ⟨Cond.after_iff.mpr rfl, Cond.after_iff.mpr (eq_i res_at (Term.int_eval (1)) rfl), trivial⟩ ⟨hq.1, hq.2.1, (hq.2.2.sift fun y hy => Or.inr (N y hy)).mono (by decide) (by decide)⟩⟩
theorem main_1_1 : Claimed_1_1 := comes_1 fun _ _ _ _ _ _ h hF => ⟨h.1, hF⟩
theorem main_1_2 : Claimed_1_2 := comes_1 fun _ _ _ _ _ _ h hF => ⟨h.2.1, hF⟩
end Jvm.Pilot.@@N@@
namespace Jvm.Pilot.@@N@@
open Jvm Jvm.ClassFile Sem Op Lib Jvm.Free Jvm.Stand Jvm.Pilot.@@N@@.Jvm.D
/-! MADE BY PROGRAM (witnessworld.py) out of the Statement's table words and the real class files: 11 classes; the members and pool entries that the words name. The judged class is class 1, her method 1. -/
namespace start1
open Jvm.ClassFile
def u (s : String) : CpInfo := .utf8 (stringToUtf16 s)
/-- a pool by its gaps: so many unusable entries, then the entry; so many at the end -/
def gap : Nat → List CpInfo → List CpInfo
  | 0, r => r
  | n + 1, r => .unusable :: gap n r
def poolList (es : List (Nat × CpInfo)) (last : Nat) : List CpInfo := es.foldr (fun e r => gap e.1 (e.2 :: r)) (gap last [])
def pool (es : List (Nat × CpInfo)) (last : Nat) : Array CpInfo := ⟨poolList es last⟩
def fileOf (pool : Array CpInfo) (this : Nat) (attrs : Array Attribute := #[]) (ms : Array MethodInfo := #[]) (fl : Nat := 33) (sup : Nat := 0) (ifs : Array Nat := #[]) (fds : Array FieldInfo := #[]) : ClassFile where
  minorVersion := 0
  majorVersion := 65
  constantPool := pool
  accessFlags := fl
  thisClass := this
  superClass := sup
  interfaces := ifs
  fields := fds
  methods := ms
  attributes := attrs
def plain (name : String) (sup : Option ClassId) : Class where
  name := name
  kind := .ordinary
  loader := none
  accessFlags := 33
  super := sup
  interfaces := #[]
  cf := none
  fields := #[]
  methods := #[]
  instanceTypes := #[]
  staticTypes := #[]
  resolved := #[]
  callSites := []
  init := .initialized
  statics := none
  mirror := none

def pool0 : Array CpInfo := pool [(5, u "<init>"), (0, u "()V"), (1, .class_ 10), (1, u "java/lang/Object")] 113

def k0m0 : Method := { name := "<init>", desc := "()V", sig := { parameters := [], returnType := none }, accessFlags := 1, code := none }
/-- java/lang/Object -/
def k0 : Class := { plain "java/lang/Object" none with
  accessFlags := 33
  interfaces := #[]
  cf := some (fileOf pool0 8 #[] #[{ accessFlags := 1, nameIndex := 5, descriptorIndex := 6, attributes := #[] }] 33 0 #[] #[])
  fields := #[]
  methods := #[k0m0]
  instanceTypes := #[]
  staticTypes := #[]
  resolved := Array.replicate 124 none
  statics := none }

def pool1 : Array CpInfo := pool [(2, .class_ 4), (1, u "java/lang/Object"), (0, u "<init>"), (0, u "()V"), (0, .methodref 8 9), (0, .class_ 10), (0, .nameAndType 11 12), (0, u "com/example/ballast/ballast/storage/ClusterCatalogIsInSyncOfPinLaw"), (0, u "hit"), (0, u "([IIII)Z"), (0, .methodref 14 15), (0, .class_ 16), (0, .nameAndType 17 18), (0, u "com/example/ballast/ballast/storage/ClusterCatalog"), (0, u "isInSyncOf"), (0, u "([I[I)Z"), (2, u "law"), (0, u "(III)Z")] 5

def k1m0 : Method := { name := "<init>", desc := "()V", sig := { parameters := [], returnType := none }, accessFlags := 1, code := none }
def k1c1 : Code := { maxStack := 4, maxLocals := 16, code := code, exceptionTable := #[], attributes := #[] }
def k1m1 : Method := { name := "law", desc := "(III)Z", sig := { parameters := [.int, .int, .int], returnType := some .boolean }, accessFlags := 9, code := some k1c1 }
def k1c2 : Code := { maxStack := 2, maxLocals := 4, code := method_3_code, exceptionTable := #[], attributes := #[] }
def k1m2 : Method := { name := "hit", desc := "([IIII)Z", sig := { parameters := [(.array .int), .int, .int, .int], returnType := some .boolean }, accessFlags := 10, code := some k1c2 }
/-- com/example/ballast/ballast/storage/ClusterCatalogIsInSyncOfPinLaw -/
def k1 : Class := { plain "com/example/ballast/ballast/storage/ClusterCatalogIsInSyncOfPinLaw" (some 0) with
  accessFlags := 49
  interfaces := #[]
  cf := some (fileOf pool1 8 #[] #[{ accessFlags := 1, nameIndex := 5, descriptorIndex := 6, attributes := #[] }, { accessFlags := 9, nameIndex := 21, descriptorIndex := 22, attributes := #[] }, { accessFlags := 10, nameIndex := 11, descriptorIndex := 12, attributes := #[] }] 49 2 #[] #[])
  fields := #[]
  methods := #[k1m0, k1m1, k1m2]
  instanceTypes := #[]
  staticTypes := #[]
  resolved := Array.replicate 28 none
  statics := none }

def pool2 : Array CpInfo := pool [(1, .class_ 2), (0, u "java/lang/AutoCloseable"), (0, .class_ 4), (0, u "java/lang/Object")] 7

/-- java/lang/AutoCloseable -/
def k2 : Class := { plain "java/lang/AutoCloseable" (some 0) with
  accessFlags := 1537
  interfaces := #[]
  cf := some (fileOf pool2 1 #[] #[] 1537 3 #[] #[])
  fields := #[]
  methods := #[]
  instanceTypes := #[]
  staticTypes := #[]
  resolved := Array.replicate 12 none
  statics := none }

def pool3 : Array CpInfo := pool [(1, .class_ 2), (0, u "java/io/Closeable"), (0, .class_ 4), (0, u "java/lang/Object"), (0, .class_ 6), (0, u "java/lang/AutoCloseable")] 7

/-- java/io/Closeable -/
def k3 : Class := { plain "java/io/Closeable" (some 0) with
  accessFlags := 1537
  interfaces := #[2]
  cf := some (fileOf pool3 1 #[] #[] 1537 3 #[5] #[])
  fields := #[]
  methods := #[]
  instanceTypes := #[]
  staticTypes := #[]
  resolved := Array.replicate 14 none
  statics := none }

def pool4 : Array CpInfo := pool [(1, .class_ 2), (0, u "com/example/ballast/ballast/storage/ClusterCatalog"), (1, .class_ 6), (1, u "java/lang/Object"), (7, u "brokers"), (0, u "Ljava/util/SortedMap;"), (2, u "topics"), (2, u "ids"), (2, u "configs"), (2, u "leadership"), (5, u "takenBack"), (0, u "Ljava/util/Set;"), (2, u "deletions"), (2, u "coordinators"), (0, u "[I"), (2, u "targets"), (4, u "moveThrottle"), (0, u "J"), (2, u "producerIdsEnd"), (2, u "term"), (2, u "votedFor"), (0, u "I"), (2, u "snapshotTerm"), (5, u "entries"), (0, u "Ljava/util/List;"), (2, u "leadTerm"), (6, u "commits"), (0, u "Lcom/example/ballast/ballast/storage/ClusterCatalog$Commits;"), (2, u "dir"), (0, u "Ljava/nio/file/Path;"), (2, u "lock"), (0, u "Ljava/nio/channels/FileChannel;"), (2, u "warnings"), (0, u "Ljava/util/function/Consumer;"), (115, u "FORMAT_LINES"), (6, u "WRITTEN"), (7, .class_ 225), (0, u "com/example/ballast/ballast/storage/ClusterCatalog$LogReading"), (23, u "Ljava/lang/String;"), (24, u "snapshotIndex"), (22, .class_ 299), (1, u "com/example/ballast/ballast/storage/ClusterCatalog$RegisteredBroker"), (57, .class_ 358), (0, u "com/example/ballast/ballast/storage/ClusterCatalog$Deletion"), (49, u "THROTTLE"), (0, u "Ljava/util/regex/Pattern;"), (19, u "NUMBER"), (8, .class_ 440), (1, u "com/example/ballast/ballast/storage/ClusterCatalog$Leadership"), (4, u "([I[I)Z"), (71, u "appendFailure"), (0, u "Ljava/io/IOException;"), (4, .class_ 524), (0, u "com/example/ballast/ballast/storage/ClusterCatalog$Entry"), (21, u "lines"), (8, .class_ 557), (1, u "com/example/ballast/ballast/storage/ClusterCatalog$Whole"), (7, .class_ 566), (0, u "com/example/ballast/ballast/storage/ClusterCatalog$Snapshot"), (6, .class_ 574), (0, u "com/example/ballast/ballast/storage/ClusterCatalog$Followed"), (65, u "ledAnew"), (149, .class_ 792), (1, u "com/example/ballast/ballast/storage/ClusterCatalog$Change"), (1, .class_ 796), (1, u "com/example/ballast/ballast/storage/ClusterCatalog$Commits"), (263, .class_ 1061), (0, u "java/io/Closeable"), (0, u "FILE_NAME"), (1, u "LOCK_FILE"), (2, u "WITH_IDS"), (1, u "WITH_MOVES"), (1, u "AS_LOG"), (1, u "WITH_CONFIGS"), (1, u "WITH_PRODUCER_IDS"), (1, u "NO_TERM"), (2, u "NO_VOTE"), (1, u "EARLIER_FORMAT_INDEX"), (2, u "NOT_LEADING"), (0, u "NONE_MOVING"), (0, u "NO_MOVE_THROTTLE"), (0, u "TAKEN_BACK"), (0, u "NO_RACK"), (0, u "NO_START"), (0, u "NO_LEADER"), (0, u "NONE_PENDING"), (0, u "NONE_VOTED"), (0, u "NO_ENTRY"), (0, u "PRODUCER_IDS_END"), (0, u "DRAWN_PRODUCER_IDS"), (0, u "NO_PRODUCER_IDS"), (74, u "isInSyncOf")] 177

def k4c0 : Code := { maxStack := 2, maxLocals := 7, code := prog_270_method_61_code, exceptionTable := #[], attributes := #[] }
def k4m0 : Method := { name := "isInSyncOf", desc := "([I[I)Z", sig := { parameters := [(.array .int), (.array .int)], returnType := some .boolean }, accessFlags := 9, code := some k4c0 }
/-- com/example/ballast/ballast/storage/ClusterCatalog -/
def k4 : Class := { plain "com/example/ballast/ballast/storage/ClusterCatalog" (some 0) with
  accessFlags := 49
  interfaces := #[3]
  cf := some (fileOf pool4 1 #[.nestMembers #[438, 357, 297, 790, 555, 565, 573, 523, 794, 224]] #[{ accessFlags := 9, nameIndex := 1172, descriptorIndex := 445, attributes := #[] }] 49 4 #[1060] #[{ accessFlags := 25, nameIndex := 1062, descriptorIndex := 249, attributes := #[] }, { accessFlags := 26, nameIndex := 1064, descriptorIndex := 249, attributes := #[] }, { accessFlags := 26, nameIndex := 209, descriptorIndex := 70, attributes := #[] }, { accessFlags := 26, nameIndex := 1067, descriptorIndex := 60, attributes := #[] }, { accessFlags := 26, nameIndex := 1069, descriptorIndex := 60, attributes := #[] }, { accessFlags := 26, nameIndex := 1071, descriptorIndex := 60, attributes := #[] }, { accessFlags := 26, nameIndex := 1073, descriptorIndex := 60, attributes := #[] }, { accessFlags := 26, nameIndex := 1075, descriptorIndex := 60, attributes := #[] }, { accessFlags := 26, nameIndex := 216, descriptorIndex := 60, attributes := #[] }, { accessFlags := 25, nameIndex := 1077, descriptorIndex := 50, attributes := #[] }, { accessFlags := 25, nameIndex := 1080, descriptorIndex := 60, attributes := #[] }, { accessFlags := 26, nameIndex := 1082, descriptorIndex := 50, attributes := #[] }, { accessFlags := 26, nameIndex := 1085, descriptorIndex := 249, attributes := #[] }, { accessFlags := 26, nameIndex := 1086, descriptorIndex := 249, attributes := #[] }, { accessFlags := 26, nameIndex := 408, descriptorIndex := 409, attributes := #[] }, { accessFlags := 25, nameIndex := 1087, descriptorIndex := 50, attributes := #[] }, { accessFlags := 26, nameIndex := 1088, descriptorIndex := 249, attributes := #[] }, { accessFlags := 26, nameIndex := 1089, descriptorIndex := 249, attributes := #[] }, { accessFlags := 26, nameIndex := 1090, descriptorIndex := 249, attributes := #[] }, { accessFlags := 26, nameIndex := 1091, descriptorIndex := 249, attributes := #[] }, { accessFlags := 26, nameIndex := 1092, descriptorIndex := 249, attributes := #[] }, { accessFlags := 26, nameIndex := 1093, descriptorIndex := 249, attributes := #[] }, { accessFlags := 26, nameIndex := 429, descriptorIndex := 409, attributes := #[] }, { accessFlags := 26, nameIndex := 1094, descriptorIndex := 50, attributes := #[] }, { accessFlags := 26, nameIndex := 1095, descriptorIndex := 50, attributes := #[] }, { accessFlags := 26, nameIndex := 1096, descriptorIndex := 50, attributes := #[] }, { accessFlags := 26, nameIndex := 1097, descriptorIndex := 50, attributes := #[] }, { accessFlags := 18, nameIndex := 84, descriptorIndex := 85, attributes := #[] }, { accessFlags := 18, nameIndex := 88, descriptorIndex := 89, attributes := #[] }, { accessFlags := 18, nameIndex := 92, descriptorIndex := 93, attributes := #[] }, { accessFlags := 18, nameIndex := 14, descriptorIndex := 15, attributes := #[] }, { accessFlags := 18, nameIndex := 18, descriptorIndex := 15, attributes := #[] }, { accessFlags := 18, nameIndex := 21, descriptorIndex := 15, attributes := #[] }, { accessFlags := 18, nameIndex := 24, descriptorIndex := 15, attributes := #[] }, { accessFlags := 18, nameIndex := 27, descriptorIndex := 15, attributes := #[] }, { accessFlags := 18, nameIndex := 33, descriptorIndex := 34, attributes := #[] }, { accessFlags := 18, nameIndex := 37, descriptorIndex := 15, attributes := #[] }, { accessFlags := 2, nameIndex := 40, descriptorIndex := 41, attributes := #[] }, { accessFlags := 18, nameIndex := 44, descriptorIndex := 15, attributes := #[] }, { accessFlags := 2, nameIndex := 49, descriptorIndex := 50, attributes := #[] }, { accessFlags := 2, nameIndex := 53, descriptorIndex := 50, attributes := #[] }, { accessFlags := 2, nameIndex := 56, descriptorIndex := 50, attributes := #[] }, { accessFlags := 2, nameIndex := 59, descriptorIndex := 60, attributes := #[] }, { accessFlags := 2, nameIndex := 274, descriptorIndex := 50, attributes := #[] }, { accessFlags := 2, nameIndex := 63, descriptorIndex := 50, attributes := #[] }, { accessFlags := 18, nameIndex := 69, descriptorIndex := 70, attributes := #[] }, { accessFlags := 2, nameIndex := 73, descriptorIndex := 50, attributes := #[] }, { accessFlags := 2, nameIndex := 80, descriptorIndex := 81, attributes := #[] }, { accessFlags := 2, nameIndex := 546, descriptorIndex := 50, attributes := #[] }, { accessFlags := 2, nameIndex := 640, descriptorIndex := 60, attributes := #[] }, { accessFlags := 2, nameIndex := 517, descriptorIndex := 518, attributes := #[] }])
  fields := #[{ name := "FILE_NAME", type := (.object "java/lang/String"), accessFlags := 25, slot := 0, constantValue := 0 }, { name := "LOCK_FILE", type := (.object "java/lang/String"), accessFlags := 26, slot := 1, constantValue := 0 }, { name := "FORMAT_LINES", type := (.object "java/util/List"), accessFlags := 26, slot := 2, constantValue := 0 }, { name := "WITH_IDS", type := .int, accessFlags := 26, slot := 3, constantValue := 0 }, { name := "WITH_MOVES", type := .int, accessFlags := 26, slot := 4, constantValue := 0 }, { name := "AS_LOG", type := .int, accessFlags := 26, slot := 5, constantValue := 0 }, { name := "WITH_CONFIGS", type := .int, accessFlags := 26, slot := 6, constantValue := 0 }, { name := "WITH_PRODUCER_IDS", type := .int, accessFlags := 26, slot := 7, constantValue := 0 }, { name := "WRITTEN", type := .int, accessFlags := 26, slot := 8, constantValue := 0 }, { name := "NO_TERM", type := .long, accessFlags := 25, slot := 9, constantValue := 0 }, { name := "NO_VOTE", type := .int, accessFlags := 25, slot := 10, constantValue := 0 }, { name := "EARLIER_FORMAT_INDEX", type := .long, accessFlags := 26, slot := 11, constantValue := 0 }, { name := "NOT_LEADING", type := (.object "java/lang/String"), accessFlags := 26, slot := 12, constantValue := 0 }, { name := "NONE_MOVING", type := (.object "java/lang/String"), accessFlags := 26, slot := 13, constantValue := 0 }, { name := "THROTTLE", type := (.object "java/util/regex/Pattern"), accessFlags := 26, slot := 14, constantValue := 0 }, { name := "NO_MOVE_THROTTLE", type := .long, accessFlags := 25, slot := 15, constantValue := 0 }, { name := "TAKEN_BACK", type := (.object "java/lang/String"), accessFlags := 26, slot := 16, constantValue := 0 }, { name := "NO_RACK", type := (.object "java/lang/String"), accessFlags := 26, slot := 17, constantValue := 0 }, { name := "NO_START", type := (.object "java/lang/String"), accessFlags := 26, slot := 18, constantValue := 0 }, { name := "NO_LEADER", type := (.object "java/lang/String"), accessFlags := 26, slot := 19, constantValue := 0 }, { name := "NONE_PENDING", type := (.object "java/lang/String"), accessFlags := 26, slot := 20, constantValue := 0 }, { name := "NONE_VOTED", type := (.object "java/lang/String"), accessFlags := 26, slot := 21, constantValue := 0 }, { name := "NUMBER", type := (.object "java/util/regex/Pattern"), accessFlags := 26, slot := 22, constantValue := 0 }, { name := "NO_ENTRY", type := .long, accessFlags := 26, slot := 23, constantValue := 0 }, { name := "PRODUCER_IDS_END", type := .long, accessFlags := 26, slot := 24, constantValue := 0 }, { name := "DRAWN_PRODUCER_IDS", type := .long, accessFlags := 26, slot := 25, constantValue := 0 }, { name := "NO_PRODUCER_IDS", type := .long, accessFlags := 26, slot := 26, constantValue := 0 }, { name := "dir", type := (.object "java/nio/file/Path"), accessFlags := 18, slot := 0, constantValue := 0 }, { name := "lock", type := (.object "java/nio/channels/FileChannel"), accessFlags := 18, slot := 1, constantValue := 0 }, { name := "warnings", type := (.object "java/util/function/Consumer"), accessFlags := 18, slot := 2, constantValue := 0 }, { name := "brokers", type := (.object "java/util/SortedMap"), accessFlags := 18, slot := 3, constantValue := 0 }, { name := "topics", type := (.object "java/util/SortedMap"), accessFlags := 18, slot := 4, constantValue := 0 }, { name := "ids", type := (.object "java/util/SortedMap"), accessFlags := 18, slot := 5, constantValue := 0 }, { name := "configs", type := (.object "java/util/SortedMap"), accessFlags := 18, slot := 6, constantValue := 0 }, { name := "leadership", type := (.object "java/util/SortedMap"), accessFlags := 18, slot := 7, constantValue := 0 }, { name := "takenBack", type := (.object "java/util/Set"), accessFlags := 18, slot := 8, constantValue := 0 }, { name := "deletions", type := (.object "java/util/SortedMap"), accessFlags := 18, slot := 9, constantValue := 0 }, { name := "coordinators", type := (.array .int), accessFlags := 2, slot := 10, constantValue := 0 }, { name := "targets", type := (.object "java/util/SortedMap"), accessFlags := 18, slot := 11, constantValue := 0 }, { name := "moveThrottle", type := .long, accessFlags := 2, slot := 12, constantValue := 0 }, { name := "producerIdsEnd", type := .long, accessFlags := 2, slot := 13, constantValue := 0 }, { name := "term", type := .long, accessFlags := 2, slot := 14, constantValue := 0 }, { name := "votedFor", type := .int, accessFlags := 2, slot := 15, constantValue := 0 }, { name := "snapshotIndex", type := .long, accessFlags := 2, slot := 16, constantValue := 0 }, { name := "snapshotTerm", type := .long, accessFlags := 2, slot := 17, constantValue := 0 }, { name := "entries", type := (.object "java/util/List"), accessFlags := 18, slot := 18, constantValue := 0 }, { name := "leadTerm", type := .long, accessFlags := 2, slot := 19, constantValue := 0 }, { name := "commits", type := (.object "com/example/ballast/ballast/storage/ClusterCatalog$Commits"), accessFlags := 2, slot := 20, constantValue := 0 }, { name := "lines", type := .long, accessFlags := 2, slot := 21, constantValue := 0 }, { name := "ledAnew", type := .int, accessFlags := 2, slot := 22, constantValue := 0 }, { name := "appendFailure", type := (.object "java/io/IOException"), accessFlags := 2, slot := 23, constantValue := 0 }]
  methods := #[k4m0]
  instanceTypes := #[(.object "java/nio/file/Path"), (.object "java/nio/channels/FileChannel"), (.object "java/util/function/Consumer"), (.object "java/util/SortedMap"), (.object "java/util/SortedMap"), (.object "java/util/SortedMap"), (.object "java/util/SortedMap"), (.object "java/util/SortedMap"), (.object "java/util/Set"), (.object "java/util/SortedMap"), (.array .int), (.object "java/util/SortedMap"), .long, .long, .long, .int, .long, .long, (.object "java/util/List"), .long, (.object "com/example/ballast/ballast/storage/ClusterCatalog$Commits"), .long, .int, (.object "java/io/IOException")]
  staticTypes := #[(.object "java/lang/String"), (.object "java/lang/String"), (.object "java/util/List"), .int, .int, .int, .int, .int, .int, .long, .int, .long, (.object "java/lang/String"), (.object "java/lang/String"), (.object "java/util/regex/Pattern"), .long, (.object "java/lang/String"), (.object "java/lang/String"), (.object "java/lang/String"), (.object "java/lang/String"), (.object "java/lang/String"), (.object "java/lang/String"), (.object "java/util/regex/Pattern"), .long, .long, .long, .long]
  resolved := Array.replicate 1350 none
  statics := none }

def pool5 : Array CpInfo := pool [(1, u "java/lang/Cloneable"), (0, .class_ 1), (0, u "java/lang/Object"), (0, .class_ 3)] 3

/-- java/lang/Cloneable -/
def k5 : Class := { plain "java/lang/Cloneable" (some 0) with
  accessFlags := 1537
  interfaces := #[]
  cf := some (fileOf pool5 2 #[] #[] 1537 4 #[] #[])
  fields := #[]
  methods := #[]
  instanceTypes := #[]
  staticTypes := #[]
  resolved := Array.replicate 8 none
  statics := none }

def pool6 : Array CpInfo := pool [(1, u "java/io/Serializable"), (0, .class_ 1), (0, u "java/lang/Object"), (0, .class_ 3)] 3

/-- java/io/Serializable -/
def k6 : Class := { plain "java/io/Serializable" (some 0) with
  accessFlags := 1537
  interfaces := #[]
  cf := some (fileOf pool6 2 #[] #[] 1537 4 #[] #[])
  fields := #[]
  methods := #[]
  instanceTypes := #[]
  staticTypes := #[]
  resolved := Array.replicate 8 none
  statics := none }

/-- the primitive byte -/
def k7 : Class := { plain "byte" none with kind := .primitive 'B', accessFlags := 0x411 }
/-- [B -/
def k8 : Class := { plain "[B" (some 0) with kind := .array 7 .byte, interfaces := #[5, 6], accessFlags := 1041 }

/-- the primitive int -/
def k9 : Class := { plain "int" none with kind := .primitive 'I', accessFlags := 0x411 }
/-- [I -/
def k10 : Class := { plain "[I" (some 0) with kind := .array 9 .int, interfaces := #[5, 6], accessFlags := 1041 }

def heap : Heap := #[]
def classes : Array Class := #[k0, k1, k2, k3, k4, k5, k6, k7, k8, k9, k10]
def interned : List (Array UInt16 × Addr) := []
def slotsUsed : Nat := 0
def theMethod : MethodId := ⟨1, 1⟩
def args0 : Array Value := #[.int 3, .int 7, .int 3]
def aboutOver (below : List Frame) : State where
  vm := { classes := classes, interned := interned.toArray }
  heap := heap
  slotsUsed := slotsUsed
  threads := #[{ frames := .invoking theMethod args0 :: below }]
def below0 : List Frame := [.native { method := ⟨0, 0⟩, args := #[] }]
def about1 : State := aboutOver below0
def p0 : Program := .bare "" "" ""
def e0 : Env := launch0.env 0 0 0
theorem w_frames : about1.frames = Frame.invoking theMethod args0 :: below0 := rfl
set_option maxRecDepth 65536 in
theorem w_args : argsFit about1.vm theMethod args0 = true := by decide +kernel
set_option maxRecDepth 65536 in
theorem w_heap : heapFits about1 = true := by decide +kernel
set_option maxRecDepth 65536 in
theorem w_runnable : about1.curStatus? = some .runnable := by decide +kernel
set_option maxRecDepth 65536 in
theorem w_alone : about1.alone = true := by decide +kernel
set_option maxRecDepth 65536 in
theorem w_named : about1.methodNamed? x = some theMethod := by decide +kernel
set_option maxRecDepth 65536 in
theorem w_hears : about1.hears theMethod below0 = true := by decide +kernel
set_option maxRecDepth 65536 in
theorem w_ripe : about1.ripe theMethod args0 below0 = true := by decide +kernel
theorem w_running : about1.status = .running := rfl
set_option maxRecDepth 65536 in
theorem w_room : about1.hasRoom e0.platform room_1 = true :=
  launch0.hasRoom_least _ room_1 (by decide +kernel) (by decide +kernel) (by decide +kernel) (by decide +kernel) (by decide +kernel) (by decide +kernel)
theorem allAtoms_all (ts : List Jvm.Cond) (a : Array Jvm.Value) (st : Jvm.State) : (allAtoms ts).before a st = ts.all (fun c => c.before a st) := by
  induction ts with
  | nil => rfl
  | cons c t ih =>
    show (Jvm.Cond.and c (allAtoms t)).before a st = _
    rw [Jvm.Cond.before_and, ih, List.all_cons]
def words1 : List Jvm.Cond := Jvm.Cond.code x code maxLocals ret :: tables_1
/-- a 'code' word, met by the world's own term for the bytes: nothing is compared byte by byte -/
theorem code_word {y : MethodName} {bytes : ByteArray} {mx : Nat} {rt : Option FieldType} {a : Array Value} {s : State} {m : MethodId} {meth : Method} {c : Code} (h1 : s.methodNamed? y = some m) (h2 : s.vm.method? m = some meth) (h3 : meth.code = some c) (h4 : c.code = bytes)
    (h5 : (c.maxLocals == mx && c.exceptionTable.isEmpty && decide (c.maxStack ≤ mostOperands) && decide (meth.sig.returnType = rt) && !meth.locks && decide (parseMethodDescriptor y.desc = some meth.sig)) = true) : (Jvm.Cond.code y bytes mx rt).before a s = true := by
  simp only [Bool.and_eq_true, beq_iff_eq, Bool.not_eq_true', decide_eq_true_eq] at h5
  obtain ⟨⟨⟨⟨⟨g1, g2⟩, g3⟩, g4⟩, g5⟩, g6⟩ := h5
  simp [Cond.before, Cond.holds, Cond.value, h1, h2, h3, h4, g1, g2, g3, g4, g5, g6]
def isCode : Jvm.Cond → Bool
  | .code _ _ _ _ => true
  | _ => false
theorem all_split {L : List Jvm.Cond} {P : Jvm.Cond → Bool} (h1 : L.all (fun c => isCode c || P c) = true) (h2 : ∀ c ∈ L.filter isCode, P c = true) : L.all P = true := by
  refine List.all_eq_true.mpr fun c hc => ?_
  have h := List.all_eq_true.mp h1 c hc
  rcases Bool.eq_false_or_eq_true (isCode c) with hi | hi
  · exact h2 c (List.mem_filter.mpr ⟨hc, hi⟩)
  · simpa [hi] using h
set_option maxRecDepth 65536 in
theorem w_c0 : (Jvm.Cond.code x code maxLocals ret).before args0 about1 = true := code_word (m := ⟨1, 1⟩) (meth := k1m1) (c := k1c1) (by decide +kernel) rfl rfl rfl (by decide +kernel)
set_option maxRecDepth 65536 in
theorem w_c1 : (Jvm.Cond.code ({ cls := "com/example/ballast/ballast/storage/ClusterCatalogIsInSyncOfPinLaw", name := "hit", desc := "([IIII)Z" } : Jvm.MethodName) method_3_code (4 : Nat) (Option.some Jvm.ClassFile.FieldType.boolean)).before args0 about1 = true := code_word (m := ⟨1, 2⟩) (meth := k1m2) (c := k1c2) (by decide +kernel) rfl rfl rfl (by decide +kernel)
set_option maxRecDepth 65536 in
theorem w_c2 : (Jvm.Cond.code ({ cls := "com/example/ballast/ballast/storage/ClusterCatalog", name := "isInSyncOf", desc := "([I[I)Z" } : Jvm.MethodName) prog_270_method_61_code (7 : Nat) (Option.some Jvm.ClassFile.FieldType.boolean)).before args0 about1 = true := code_word (m := ⟨4, 0⟩) (meth := k4m0) (c := k4c0) (by decide +kernel) rfl rfl rfl (by decide +kernel)
def codes1 : List Jvm.Cond := [Jvm.Cond.code x code maxLocals ret, Jvm.Cond.code ({ cls := "com/example/ballast/ballast/storage/ClusterCatalogIsInSyncOfPinLaw", name := "hit", desc := "([IIII)Z" } : Jvm.MethodName) method_3_code (4 : Nat) (Option.some Jvm.ClassFile.FieldType.boolean), Jvm.Cond.code ({ cls := "com/example/ballast/ballast/storage/ClusterCatalog", name := "isInSyncOf", desc := "([I[I)Z" } : Jvm.MethodName) prog_270_method_61_code (7 : Nat) (Option.some Jvm.ClassFile.FieldType.boolean)]
set_option maxRecDepth 65536 in
theorem codes_eq : words1.filter isCode = codes1 := rfl
theorem w_codes : ∀ c ∈ words1.filter isCode, c.before args0 about1 = true := by
  rw [codes_eq]
  intro c hc
  simp only [codes1, List.mem_cons, List.not_mem_nil, or_false] at hc
  rcases hc with rfl | rfl | rfl
  · exact w_c0
  · exact w_c1
  · exact w_c2
set_option maxRecDepth 65536 in
theorem w_t1 : words1.all (fun c => isCode c || c.before args0 about1) = true := by decide +kernel
theorem w_tables : (allAtoms (Jvm.Cond.code x code maxLocals ret :: tables_1)).before args0 about1 = true := by
  rw [allAtoms_all]
  show words1.all (fun c => c.before args0 about1) = true
  refine all_split ?_ w_codes
  rw [w_t1]
set_option maxRecDepth 65536 in
theorem w_case : (Jvm.Cond.and given_1 narrow_1).before args0 about1 = true := by decide +kernel
theorem w_applies : (headSpec (Jvm.Cond.code x code maxLocals ret :: tables_1) room_1).applies x e0.platform about1 = true :=
  (Spec.applies_iff w_frames).mpr ⟨w_running, w_runnable, w_alone, w_named, w_hears, w_ripe, w_room, w_tables⟩
theorem atStart : AtStart classFile x code maxLocals ret World_1 tables_1 room_1 Calls_1 rest_1 Pre_1 launch0 p0 e0 about1 theMethod args0 below0 :=
  ⟨lists_1, trivial, launch0.admits_env _ _ _, launch0.least_env, fairChoices_fair.cas, fairChoices_fair.clock, w_frames, w_args, w_heap, w_applies, trivial, trivial, w_case⟩
end start1
theorem witness_1 : WitnessClaimed_1 := ⟨start1.p0, start1.e0, start1.about1, start1.theMethod, start1.args0, start1.below0, start1.atStart⟩
end Jvm.Pilot.@@N@@
