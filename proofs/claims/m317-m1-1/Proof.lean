import JvmDerived
import JvmDerived.Pilot.@@N@@Statement
import JvmDerived.Pilot.@@N@@Code
set_option linter.unusedVariables false
set_option linter.unusedSimpArgs false
namespace Jvm.Pilot.@@N@@
open Jvm Jvm.ClassFile Sem Op Lib Jvm.Free Jvm.Stand Jvm.LawKit Jvm.RoadKit Bundle Jvm.Pilot.@@N@@.Jvm.D
section Own
variable {p : Program} {l : Launch} {e : Env} {R : Room} {s : State} {m : MethodId} {args : Array Value} {below : List Frame} {meth : Method} {c : Code} {T T' : State} {locs : List Loc} {cells slots : Nat} {Z : State} {a0 : Array Value} {h h' : Heap} {Q : Option Value → Heap → List Loc → Prop} {Cc Sc : Nat} {pc pc' pt k : Nat} {Ls Ls' : Array Slot} {St St' : List Value} {bs : ByteArray} {ml : Nat} {own nm : String} {rt : Option FieldType}
/-- what stands of a body while it is walked -/
def Cx (Z : State) (a0 : Array Value) (p : Program) (s : State) (m : MethodId) (meth : Method) (c : Code) (bs : ByteArray) (ml : Nat) (own nm : String) (rt : Option FieldType) : Prop :=
  p.tables.exec = Jvm.exec ∧ Z.Warmed39 s.vm ∧ c.code = bs ∧ c.maxLocals = ml ∧ s.vm.findClass own = some m.cls ∧ meth.name = nm ∧ meth.sig.returnType = rt ∧ meth.locks = false ∧ (∀ d ∈ tables_1, d.before a0 Z = true)
theorem Cx.x (C : Cx Z a0 p s m meth c bs ml own nm rt) : p.tables.exec = Jvm.exec := C.1
theorem Cx.z (C : Cx Z a0 p s m meth c bs ml own nm rt) : Z.Warmed39 s.vm := C.2.1
theorem Cx.b (C : Cx Z a0 p s m meth c bs ml own nm rt) : c.code = bs := C.2.2.1
theorem Cx.mx (C : Cx Z a0 p s m meth c bs ml own nm rt) : c.maxLocals = ml := C.2.2.2.1
theorem Cx.o (C : Cx Z a0 p s m meth c bs ml own nm rt) : s.vm.findClass own = some m.cls := C.2.2.2.2.1
theorem Cx.n (C : Cx Z a0 p s m meth c bs ml own nm rt) : meth.name = nm := C.2.2.2.2.2.1
theorem Cx.r (C : Cx Z a0 p s m meth c bs ml own nm rt) : meth.sig.returnType = rt := C.2.2.2.2.2.2.1
theorem Cx.lk (C : Cx Z a0 p s m meth c bs ml own nm rt) : meth.locks = false := C.2.2.2.2.2.2.2.1
theorem Cx.w (C : Cx Z a0 p s m meth c bs ml own nm rt) : ∀ d ∈ tables_1, d.before a0 Z = true := C.2.2.2.2.2.2.2.2
/-- the i-th word of the sheet's tables -/
theorem Cx.t (C : Cx Z a0 p s m meth c bs ml own nm rt) (i : Nat) {d : Jvm.Cond} (hi : tables_1[i]? = some d) : d.before a0 Z = true := C.w d (List.mem_of_getElem? hi)
/-- from here the run comes to its return, and of that return Q holds -/
def Go (p : Program) (e : Env) (below : List Frame) (s : State) (m : MethodId) (Q : Option Value → Heap → List Loc → Prop) (Cc Sc : Nat) (T : State) (pc : Nat) (Ls : Array Slot) (St : List Value) : Prop :=
  ∃ s₂ o, Steps p.tables e below (T.setTop (mkF m pc Ls St)) s₂ ∧ s₂.status = .running ∧ Ended s₂ below o ∧ ∃ v L, o = .returned v ∧ Q v s₂.heap L ∧ FrameEnd s o s₂ L Cc Sc
theorem Go.via (h : ∀ t, Steps p.tables e below (T'.setTop (mkF m pc' Ls' St')) t → Steps p.tables e below (T.setTop (mkF m pc Ls St)) t) (k : Go p e below s m Q Cc Sc T' pc' Ls' St') : Go p e below s m Q Cc Sc T pc Ls St := by
  obtain ⟨s₂, o, h1, h2⟩ := k
  exact ⟨s₂, o, h _ h1, h2⟩
theorem Go.cast (hL : Ls = Ls') (hS : St = St') (k : Go p e below s m Q Cc Sc T pc Ls' St') : Go p e below s m Q Cc Sc T pc Ls St := by
  subst hL hS; exact k
theorem g_enter {x : MethodName} {ws : List Jvm.Cond} {rm : Room} {as' : Array Value} {h0 : Heap} (hpl : plainFor x = true) (hw : ∀ d ∈ tables_1, d.before a0 Z = true) (hef : ∀ m, entryFrame m as' ml = mkF m 0 Ls [])
    (body : ∀ (p : Program) (e : Env) (s : State) (m : MethodId) (below : List Frame) (meth : Method) (c : Code) (T : State), Cx Z a0 p s m meth c bs ml x.cls x.name rt → Stand p l e rm s m as' below meth c T [] 0 0 → T.heap = h0 → Go p e below s m Q rm.cells rm.slots T 0 Ls []) :
    MetFree l x (head1 (Jvm.Cond.code x bs ml rt :: ws) rm) (fun a U => a = as' ∧ Z.Warmed39 U.vm ∧ U.heap = h0) (fun _ _ _ _ _ => True) (fun _ U o U' => ∃ v L, o = .returned v ∧ Q v U'.heap L ∧ FrameEnd U o U' L rm.cells rm.slots) := by
  refine MetFree.of_bodySF hpl hisR ?_
  intro p e s m args below meth c s₁ Bd hml0 hP hK
  obtain ⟨rfl, hZ, hh⟩ := hP
  have e0 : s₁.heap = h0 := by rw [← hh, Bd.state]; rfl
  have C : Cx Z a0 p s m meth c bs ml x.cls x.name rt := ⟨Bd.exec, hZ, Bd.bytes, hml0, findClass_of_methodNamed Bd.named, (name_of_methodNamed Bd.named Bd.method).1, Bd.returns, Bd.notSynchronized, hw⟩
  obtain ⟨s₂, o, k1, k2⟩ := body p e s m below meth c s₁ C (Stand.of_body Bd) e0
  exact ⟨s₂, o, castTop (hef m) k1, k2⟩

theorem g_iload (C : Cx Z a0 p s m meth c bs ml own nm rt) (X : Stand p l e R s m args below meth c T locs cells slots) {v : Int32} (hd : decode bs pc = .ok (.iload k, 2)) (hl : Ls[k]? = some (.val (.int v))) (hp : pc + 2 = pc') (kk : Go p e below s m Q Cc Sc T pc' Ls (.int v :: St)) : Go p e below s m Q Cc Sc T pc Ls St := by
  subst hp
  exact Go.via (fun t q => XS.iload X.here C.x rfl (hb C.b hd) hl q) kk
theorem g_iloadN (C : Cx Z a0 p s m meth c bs ml own nm rt) (X : Stand p l e R s m args below meth c T locs cells slots) {k : Fin 4} {v : Int32} (hd : decode bs pc = .ok (.iload_n k, 1)) (hl : Ls[k.val]? = some (.val (.int v))) (hp : pc + 1 = pc') (kk : Go p e below s m Q Cc Sc T pc' Ls (.int v :: St)) : Go p e below s m Q Cc Sc T pc Ls St := by
  subst hp
  exact Go.via (fun t q => XS.iloadN X.here C.x rfl (hb C.b hd) hl q) kk
theorem g_lload (C : Cx Z a0 p s m meth c bs ml own nm rt) (X : Stand p l e R s m args below meth c T locs cells slots) {v : Int64} (hd : decode bs pc = .ok (.lload k, 2)) (hl : Ls[k]? = some (.val (.long v))) (hp : pc + 2 = pc') (kk : Go p e below s m Q Cc Sc T pc' Ls (.long v :: St)) : Go p e below s m Q Cc Sc T pc Ls St := by
  subst hp
  exact Go.via (fun t q => XS.lload X.here C.x rfl (hb C.b hd) hl q) kk
theorem g_lloadN (C : Cx Z a0 p s m meth c bs ml own nm rt) (X : Stand p l e R s m args below meth c T locs cells slots) {k : Fin 4} {v : Int64} (hd : decode bs pc = .ok (.lload_n k, 1)) (hl : Ls[k.val]? = some (.val (.long v))) (hp : pc + 1 = pc') (kk : Go p e below s m Q Cc Sc T pc' Ls (.long v :: St)) : Go p e below s m Q Cc Sc T pc Ls St := by
  subst hp
  exact Go.via (fun t q => XS.lloadN X.here C.x rfl (hb C.b hd) hl q) kk
theorem g_aload (C : Cx Z a0 p s m meth c bs ml own nm rt) (X : Stand p l e R s m args below meth c T locs cells slots) {v : Addr} (hd : decode bs pc = .ok (.aload k, 2)) (hl : Ls[k]? = some (.val (.ref v))) (hp : pc + 2 = pc') (kk : Go p e below s m Q Cc Sc T pc' Ls (.ref v :: St)) : Go p e below s m Q Cc Sc T pc Ls St := by
  subst hp
  exact Go.via (fun t q => XS.aload X.here C.x rfl (hb C.b hd) hl rfl q) kk
theorem g_aloadN (C : Cx Z a0 p s m meth c bs ml own nm rt) (X : Stand p l e R s m args below meth c T locs cells slots) {k : Fin 4} {v : Addr} (hd : decode bs pc = .ok (.aload_n k, 1)) (hl : Ls[k.val]? = some (.val (.ref v))) (hp : pc + 1 = pc') (kk : Go p e below s m Q Cc Sc T pc' Ls (.ref v :: St)) : Go p e below s m Q Cc Sc T pc Ls St := by
  subst hp
  exact Go.via (fun t q => XS.aloadN X.here C.x rfl (hb C.b hd) hl rfl q) kk
theorem g_istore (C : Cx Z a0 p s m meth c bs ml own nm rt) (X : Stand p l e R s m args below meth c T locs cells slots) {x : Int32} (hd : decode bs pc = .ok (.istore k, 2)) (Ls' : Array Slot) (hl : storeLocals Ls k (.int x) = some Ls') (hp : pc + 2 = pc') (kk : Go p e below s m Q Cc Sc T pc' Ls' St) : Go p e below s m Q Cc Sc T pc Ls (.int x :: St) := by
  subst hp
  exact Go.via (fun t q => XS.istore X.here C.x rfl (hb C.b hd) rfl hl q) kk
theorem g_istoreN (C : Cx Z a0 p s m meth c bs ml own nm rt) (X : Stand p l e R s m args below meth c T locs cells slots) {k : Fin 4} {x : Int32} (hd : decode bs pc = .ok (.istore_n k, 1)) (Ls' : Array Slot) (hl : storeLocals Ls k.val (.int x) = some Ls') (hp : pc + 1 = pc') (kk : Go p e below s m Q Cc Sc T pc' Ls' St) : Go p e below s m Q Cc Sc T pc Ls (.int x :: St) := by
  subst hp
  exact Go.via (fun t q => XS.istoreN X.here C.x rfl (hb C.b hd) rfl hl q) kk
theorem g_istoreV (C : Cx Z a0 p s m meth c bs ml own nm rt) (X : Stand p l e R s m args below meth c T locs cells slots) {x : Int32} (hd : decode bs pc = .ok (.istore k, 2)) (F : Int32 → Array Slot) (hl : storeLocals Ls k (.int x) = some (F x)) (hp : pc + 2 = pc') (kk : ∀ v, v = x → Go p e below s m Q Cc Sc T pc' (F v) St) : Go p e below s m Q Cc Sc T pc Ls (.int x :: St) := g_istore C X hd (F x) hl hp (kk x rfl)
theorem g_istoreNV (C : Cx Z a0 p s m meth c bs ml own nm rt) (X : Stand p l e R s m args below meth c T locs cells slots) {k : Fin 4} {x : Int32} (hd : decode bs pc = .ok (.istore_n k, 1)) (F : Int32 → Array Slot) (hl : storeLocals Ls k.val (.int x) = some (F x)) (hp : pc + 1 = pc') (kk : ∀ v, v = x → Go p e below s m Q Cc Sc T pc' (F v) St) : Go p e below s m Q Cc Sc T pc Ls (.int x :: St) := g_istoreN C X hd (F x) hl hp (kk x rfl)
theorem g_lstore (C : Cx Z a0 p s m meth c bs ml own nm rt) (X : Stand p l e R s m args below meth c T locs cells slots) {x : Int64} (hd : decode bs pc = .ok (.lstore k, 2)) (Ls' : Array Slot) (hl : storeLocals Ls k (.long x) = some Ls') (hp : pc + 2 = pc') (kk : Go p e below s m Q Cc Sc T pc' Ls' St) : Go p e below s m Q Cc Sc T pc Ls (.long x :: St) := by
  subst hp
  exact Go.via (fun t q => XS.lstore X.here C.x rfl (hb C.b hd) rfl hl q) kk
theorem g_lstoreN (C : Cx Z a0 p s m meth c bs ml own nm rt) (X : Stand p l e R s m args below meth c T locs cells slots) {k : Fin 4} {x : Int64} (hd : decode bs pc = .ok (.lstore_n k, 1)) (Ls' : Array Slot) (hl : storeLocals Ls k.val (.long x) = some Ls') (hp : pc + 1 = pc') (kk : Go p e below s m Q Cc Sc T pc' Ls' St) : Go p e below s m Q Cc Sc T pc Ls (.long x :: St) := by
  subst hp
  exact Go.via (fun t q => XS.lstoreN X.here C.x rfl (hb C.b hd) rfl hl q) kk
theorem g_lstoreV (C : Cx Z a0 p s m meth c bs ml own nm rt) (X : Stand p l e R s m args below meth c T locs cells slots) {x : Int64} (hd : decode bs pc = .ok (.lstore k, 2)) (F : Int64 → Array Slot) (hl : storeLocals Ls k (.long x) = some (F x)) (hp : pc + 2 = pc') (kk : ∀ v, v = x → Go p e below s m Q Cc Sc T pc' (F v) St) : Go p e below s m Q Cc Sc T pc Ls (.long x :: St) := g_lstore C X hd (F x) hl hp (kk x rfl)
theorem g_lstoreNV (C : Cx Z a0 p s m meth c bs ml own nm rt) (X : Stand p l e R s m args below meth c T locs cells slots) {k : Fin 4} {x : Int64} (hd : decode bs pc = .ok (.lstore_n k, 1)) (F : Int64 → Array Slot) (hl : storeLocals Ls k.val (.long x) = some (F x)) (hp : pc + 1 = pc') (kk : ∀ v, v = x → Go p e below s m Q Cc Sc T pc' (F v) St) : Go p e below s m Q Cc Sc T pc Ls (.long x :: St) := g_lstoreN C X hd (F x) hl hp (kk x rfl)
theorem g_astore (C : Cx Z a0 p s m meth c bs ml own nm rt) (X : Stand p l e R s m args below meth c T locs cells slots) {x : Addr} (hd : decode bs pc = .ok (.astore k, 2)) (Ls' : Array Slot) (hl : storeLocals Ls k (.ref x) = some Ls') (hp : pc + 2 = pc') (kk : Go p e below s m Q Cc Sc T pc' Ls' St) : Go p e below s m Q Cc Sc T pc Ls (.ref x :: St) := by
  subst hp
  exact Go.via (fun t q => XS.astore X.here C.x rfl (hb C.b hd) rfl rfl hl q) kk
theorem g_astoreN (C : Cx Z a0 p s m meth c bs ml own nm rt) (X : Stand p l e R s m args below meth c T locs cells slots) {k : Fin 4} {x : Addr} (hd : decode bs pc = .ok (.astore_n k, 1)) (Ls' : Array Slot) (hl : storeLocals Ls k.val (.ref x) = some Ls') (hp : pc + 1 = pc') (kk : Go p e below s m Q Cc Sc T pc' Ls' St) : Go p e below s m Q Cc Sc T pc Ls (.ref x :: St) := by
  subst hp
  exact Go.via (fun t q => XS.astoreN X.here C.x rfl (hb C.b hd) rfl rfl hl q) kk
theorem g_astoreV (C : Cx Z a0 p s m meth c bs ml own nm rt) (X : Stand p l e R s m args below meth c T locs cells slots) {x : Addr} (hd : decode bs pc = .ok (.astore k, 2)) (F : Addr → Array Slot) (hl : storeLocals Ls k (.ref x) = some (F x)) (hp : pc + 2 = pc') (kk : ∀ v, v = x → Go p e below s m Q Cc Sc T pc' (F v) St) : Go p e below s m Q Cc Sc T pc Ls (.ref x :: St) := g_astore C X hd (F x) hl hp (kk x rfl)
theorem g_astoreNV (C : Cx Z a0 p s m meth c bs ml own nm rt) (X : Stand p l e R s m args below meth c T locs cells slots) {k : Fin 4} {x : Addr} (hd : decode bs pc = .ok (.astore_n k, 1)) (F : Addr → Array Slot) (hl : storeLocals Ls k.val (.ref x) = some (F x)) (hp : pc + 1 = pc') (kk : ∀ v, v = x → Go p e below s m Q Cc Sc T pc' (F v) St) : Go p e below s m Q Cc Sc T pc Ls (.ref x :: St) := g_astoreN C X hd (F x) hl hp (kk x rfl)
theorem g_iinc (C : Cx Z a0 p s m meth c bs ml own nm rt) (X : Stand p l e R s m args below meth c T locs cells slots) {cst : Int} {x : Int32} (hd : decode bs pc = .ok (.iinc k cst, 3)) (hl : Ls[k]? = some (.val (.int x))) (Ls' : Array Slot) (hl' : storeLocals Ls k (.int (x + Int32.ofInt cst)) = some Ls') (hp : pc + 3 = pc') (kk : Go p e below s m Q Cc Sc T pc' Ls' St) : Go p e below s m Q Cc Sc T pc Ls St := by
  subst hp
  exact Go.via (fun t q => XS.iinc X.here C.x rfl (hb C.b hd) hl hl' q) kk
theorem g_iincV (C : Cx Z a0 p s m meth c bs ml own nm rt) (X : Stand p l e R s m args below meth c T locs cells slots) {cst : Int} {x y : Int32} (hd : decode bs pc = .ok (.iinc k cst, 3)) (hl : Ls[k]? = some (.val (.int x))) (hy : Int32.ofInt cst = y) (F : Int32 → Array Slot) (hl' : storeLocals Ls k (.int (x + y)) = some (F (x + y))) (hp : pc + 3 = pc') (kk : ∀ v, v = x + y → Go p e below s m Q Cc Sc T pc' (F v) St) : Go p e below s m Q Cc Sc T pc Ls St := g_iinc C X hd hl (F (x + y)) (by rw [hy]; exact hl') hp (kk _ rfl)
theorem g_iconst (C : Cx Z a0 p s m meth c bs ml own nm rt) (X : Stand p l e R s m args below meth c T locs cells slots) {i : Int} (v : Int32) (hd : decode bs pc = .ok (.iconst i, 1)) (hv : Int32.ofInt i = v) (hp : pc + 1 = pc') (kk : Go p e below s m Q Cc Sc T pc' Ls (.int v :: St)) : Go p e below s m Q Cc Sc T pc Ls St := by
  subst hp hv
  exact Go.via (fun t q => XS.iconst X.here C.x rfl (hb C.b hd) q) kk
theorem g_bipush (C : Cx Z a0 p s m meth c bs ml own nm rt) (X : Stand p l e R s m args below meth c T locs cells slots) {i : Int} (v : Int32) (hd : decode bs pc = .ok (.bipush i, 2)) (hv : (Int8.ofInt i).toInt32 = v) (hp : pc + 2 = pc') (kk : Go p e below s m Q Cc Sc T pc' Ls (.int v :: St)) : Go p e below s m Q Cc Sc T pc Ls St := by
  subst hp hv
  exact Go.via (fun t q => XS.bipush X.here C.x rfl (hb C.b hd) q) kk
theorem g_sipush (C : Cx Z a0 p s m meth c bs ml own nm rt) (X : Stand p l e R s m args below meth c T locs cells slots) {i : Int} (v : Int32) (hd : decode bs pc = .ok (.sipush i, 3)) (hv : (Int16.ofInt i).toInt32 = v) (hp : pc + 3 = pc') (kk : Go p e below s m Q Cc Sc T pc' Ls (.int v :: St)) : Go p e below s m Q Cc Sc T pc Ls St := by
  subst hp hv
  exact Go.via (fun t q => XS.sipush X.here C.x rfl (hb C.b hd) q) kk
theorem g_lconst (C : Cx Z a0 p s m meth c bs ml own nm rt) (X : Stand p l e R s m args below meth c T locs cells slots) {i : Fin 2} (v : Int64) (hd : decode bs pc = .ok (.lconst i, 1)) (hv : Int64.ofNat i = v) (hp : pc + 1 = pc') (kk : Go p e below s m Q Cc Sc T pc' Ls (.long v :: St)) : Go p e below s m Q Cc Sc T pc Ls St := by
  subst hp hv
  exact Go.via (fun t q => XS.lconst X.here C.x rfl (hb C.b hd) q) kk
theorem g_ldc (C : Cx Z a0 p s m meth c bs ml own nm rt) (X : Stand p l e R s m args below meth c T locs cells slots) {i : Nat} {v : Int32} (hd : decode bs pc = .ok (.ldc i, 2)) (hv : (Jvm.Cond.constant own i v).before a0 Z = true) (hp : pc + 2 = pc') (kk : Go p e below s m Q Cc Sc T pc' Ls (.int v :: St)) : Go p e below s m Q Cc Sc T pc Ls St := by
  subst hp
  exact Go.via (fun t q => X.ldcInt C.x C.o (mvT C.z hv) (g := mkF m pc Ls St) rfl (hb C.b hd) t q) kk
theorem g_ldcL (C : Cx Z a0 p s m meth c bs ml own nm rt) (X : Stand p l e R s m args below meth c T locs cells slots) {i : Nat} {v : Int64} (hd : decode bs pc = .ok (.ldc2_w i, 3)) (hv : (Jvm.Cond.constantLong own i v).before a0 Z = true) (hp : pc + 3 = pc') (kk : Go p e below s m Q Cc Sc T pc' Ls (.long v :: St)) : Go p e below s m Q Cc Sc T pc Ls St := by
  subst hp
  exact Go.via (fun t q => X.ldc2Long C.x C.o (mvT C.z hv) (g := mkF m pc Ls St) rfl (hb C.b hd) t q) kk
theorem g_iadd (C : Cx Z a0 p s m meth c bs ml own nm rt) (X : Stand p l e R s m args below meth c T locs cells slots) {x y : Int32} (hd : decode bs pc = .ok (.iadd, 1))  (hp : pc + 1 = pc') (kk : Go p e below s m Q Cc Sc T pc' Ls (.int (x + y) :: St)) : Go p e below s m Q Cc Sc T pc Ls (.int y :: .int x :: St) := by
  subst hp
  exact Go.via (fun t q => XS.iadd X.here C.x rfl (hb C.b hd) rfl q) kk
theorem g_isub (C : Cx Z a0 p s m meth c bs ml own nm rt) (X : Stand p l e R s m args below meth c T locs cells slots) {x y : Int32} (hd : decode bs pc = .ok (.isub, 1))  (hp : pc + 1 = pc') (kk : Go p e below s m Q Cc Sc T pc' Ls (.int (x - y) :: St)) : Go p e below s m Q Cc Sc T pc Ls (.int y :: .int x :: St) := by
  subst hp
  exact Go.via (fun t q => XS.isub X.here C.x rfl (hb C.b hd) rfl q) kk
theorem g_imul (C : Cx Z a0 p s m meth c bs ml own nm rt) (X : Stand p l e R s m args below meth c T locs cells slots) {x y : Int32} (hd : decode bs pc = .ok (.imul, 1))  (hp : pc + 1 = pc') (kk : Go p e below s m Q Cc Sc T pc' Ls (.int (x * y) :: St)) : Go p e below s m Q Cc Sc T pc Ls (.int y :: .int x :: St) := by
  subst hp
  exact Go.via (fun t q => XS.imul X.here C.x rfl (hb C.b hd) rfl q) kk
theorem g_iand (C : Cx Z a0 p s m meth c bs ml own nm rt) (X : Stand p l e R s m args below meth c T locs cells slots) {x y : Int32} (hd : decode bs pc = .ok (.iand, 1))  (hp : pc + 1 = pc') (kk : Go p e below s m Q Cc Sc T pc' Ls (.int (x &&& y) :: St)) : Go p e below s m Q Cc Sc T pc Ls (.int y :: .int x :: St) := by
  subst hp
  exact Go.via (fun t q => XS.iand X.here C.x rfl (hb C.b hd) rfl q) kk
theorem g_ior (C : Cx Z a0 p s m meth c bs ml own nm rt) (X : Stand p l e R s m args below meth c T locs cells slots) {x y : Int32} (hd : decode bs pc = .ok (.ior, 1))  (hp : pc + 1 = pc') (kk : Go p e below s m Q Cc Sc T pc' Ls (.int (x ||| y) :: St)) : Go p e below s m Q Cc Sc T pc Ls (.int y :: .int x :: St) := by
  subst hp
  exact Go.via (fun t q => XS.ior X.here C.x rfl (hb C.b hd) rfl q) kk
theorem g_ixor (C : Cx Z a0 p s m meth c bs ml own nm rt) (X : Stand p l e R s m args below meth c T locs cells slots) {x y : Int32} (hd : decode bs pc = .ok (.ixor, 1))  (hp : pc + 1 = pc') (kk : Go p e below s m Q Cc Sc T pc' Ls (.int (x ^^^ y) :: St)) : Go p e below s m Q Cc Sc T pc Ls (.int y :: .int x :: St) := by
  subst hp
  exact Go.via (fun t q => XS.ixor X.here C.x rfl (hb C.b hd) rfl q) kk
theorem g_idiv (C : Cx Z a0 p s m meth c bs ml own nm rt) (X : Stand p l e R s m args below meth c T locs cells slots) {x y : Int32} (hd : decode bs pc = .ok (.idiv, 1)) (hy : y ≠ 0) (hp : pc + 1 = pc') (kk : Go p e below s m Q Cc Sc T pc' Ls (.int (x / y) :: St)) : Go p e below s m Q Cc Sc T pc Ls (.int y :: .int x :: St) := by
  subst hp
  exact Go.via (fun t q => XS.idiv X.here C.x rfl (hb C.b hd) rfl hy q) kk
theorem g_ladd (C : Cx Z a0 p s m meth c bs ml own nm rt) (X : Stand p l e R s m args below meth c T locs cells slots) {x y : Int64} (hd : decode bs pc = .ok (.ladd, 1))  (hp : pc + 1 = pc') (kk : Go p e below s m Q Cc Sc T pc' Ls (.long (x + y) :: St)) : Go p e below s m Q Cc Sc T pc Ls (.long y :: .long x :: St) := by
  subst hp
  exact Go.via (fun t q => XS.ladd X.here C.x rfl (hb C.b hd) rfl q) kk
theorem g_lsub (C : Cx Z a0 p s m meth c bs ml own nm rt) (X : Stand p l e R s m args below meth c T locs cells slots) {x y : Int64} (hd : decode bs pc = .ok (.lsub, 1))  (hp : pc + 1 = pc') (kk : Go p e below s m Q Cc Sc T pc' Ls (.long (x - y) :: St)) : Go p e below s m Q Cc Sc T pc Ls (.long y :: .long x :: St) := by
  subst hp
  exact Go.via (fun t q => XS.lsub X.here C.x rfl (hb C.b hd) rfl q) kk
theorem g_lmul (C : Cx Z a0 p s m meth c bs ml own nm rt) (X : Stand p l e R s m args below meth c T locs cells slots) {x y : Int64} (hd : decode bs pc = .ok (.lmul, 1))  (hp : pc + 1 = pc') (kk : Go p e below s m Q Cc Sc T pc' Ls (.long (x * y) :: St)) : Go p e below s m Q Cc Sc T pc Ls (.long y :: .long x :: St) := by
  subst hp
  exact Go.via (fun t q => XS.lmul X.here C.x rfl (hb C.b hd) rfl q) kk
theorem g_land (C : Cx Z a0 p s m meth c bs ml own nm rt) (X : Stand p l e R s m args below meth c T locs cells slots) {x y : Int64} (hd : decode bs pc = .ok (.land, 1))  (hp : pc + 1 = pc') (kk : Go p e below s m Q Cc Sc T pc' Ls (.long (x &&& y) :: St)) : Go p e below s m Q Cc Sc T pc Ls (.long y :: .long x :: St) := by
  subst hp
  exact Go.via (fun t q => XS.land X.here C.x rfl (hb C.b hd) rfl q) kk
theorem g_lor (C : Cx Z a0 p s m meth c bs ml own nm rt) (X : Stand p l e R s m args below meth c T locs cells slots) {x y : Int64} (hd : decode bs pc = .ok (.lor, 1))  (hp : pc + 1 = pc') (kk : Go p e below s m Q Cc Sc T pc' Ls (.long (x ||| y) :: St)) : Go p e below s m Q Cc Sc T pc Ls (.long y :: .long x :: St) := by
  subst hp
  exact Go.via (fun t q => XS.lor X.here C.x rfl (hb C.b hd) rfl q) kk
theorem g_lxor (C : Cx Z a0 p s m meth c bs ml own nm rt) (X : Stand p l e R s m args below meth c T locs cells slots) {x y : Int64} (hd : decode bs pc = .ok (.lxor, 1))  (hp : pc + 1 = pc') (kk : Go p e below s m Q Cc Sc T pc' Ls (.long (x ^^^ y) :: St)) : Go p e below s m Q Cc Sc T pc Ls (.long y :: .long x :: St) := by
  subst hp
  exact Go.via (fun t q => XS.lxor X.here C.x rfl (hb C.b hd) rfl q) kk
theorem g_ldiv (C : Cx Z a0 p s m meth c bs ml own nm rt) (X : Stand p l e R s m args below meth c T locs cells slots) {x y : Int64} (hd : decode bs pc = .ok (.ldiv, 1)) (hy : y ≠ 0) (hp : pc + 1 = pc') (kk : Go p e below s m Q Cc Sc T pc' Ls (.long (x / y) :: St)) : Go p e below s m Q Cc Sc T pc Ls (.long y :: .long x :: St) := by
  subst hp
  exact Go.via (fun t q => XS.ldiv X.here C.x rfl (hb C.b hd) rfl hy q) kk
theorem g_irem (C : Cx Z a0 p s m meth c bs ml own nm rt) (X : Stand p l e R s m args below meth c T locs cells slots) {x y : Int32} (hd : decode bs pc = .ok (.irem, 1)) (hy : y ≠ 0) (hp : pc + 1 = pc') (kk : Go p e below s m Q Cc Sc T pc' Ls (.int (x % y) :: St)) : Go p e below s m Q Cc Sc T pc Ls (.int y :: .int x :: St) := by
  subst hp
  exact Go.via (fun t q => iremM (g := mkF m pc Ls (.int y :: .int x :: St)) X C.x rfl (hb C.b hd) rfl hy q) kk
theorem g_lrem (C : Cx Z a0 p s m meth c bs ml own nm rt) (X : Stand p l e R s m args below meth c T locs cells slots) {x y : Int64} (hd : decode bs pc = .ok (.lrem, 1)) (hy : y ≠ 0) (hp : pc + 1 = pc') (kk : Go p e below s m Q Cc Sc T pc' Ls (.long (x % y) :: St)) : Go p e below s m Q Cc Sc T pc Ls (.long y :: .long x :: St) := by
  subst hp
  rw [← lrem_mod] at kk
  exact Go.via (fun t q => XS.lrem X.here C.x rfl (hb C.b hd) rfl hy q) kk
theorem g_ishl (C : Cx Z a0 p s m meth c bs ml own nm rt) (X : Stand p l e R s m args below meth c T locs cells slots) {x y : Int32} (hd : decode bs pc = .ok (.ishl, 1))  (hp : pc + 1 = pc') (kk : Go p e below s m Q Cc Sc T pc' Ls (.int (x <<< (y &&& 31)) :: St)) : Go p e below s m Q Cc Sc T pc Ls (.int y :: .int x :: St) := by
  subst hp
  exact Go.via (fun t q => XS.ishl X.here C.x rfl (hb C.b hd) rfl q) kk
theorem g_ishr (C : Cx Z a0 p s m meth c bs ml own nm rt) (X : Stand p l e R s m args below meth c T locs cells slots) {x y : Int32} (hd : decode bs pc = .ok (.ishr, 1))  (hp : pc + 1 = pc') (kk : Go p e below s m Q Cc Sc T pc' Ls (.int (x >>> (y &&& 31)) :: St)) : Go p e below s m Q Cc Sc T pc Ls (.int y :: .int x :: St) := by
  subst hp
  exact Go.via (fun t q => XS.ishr X.here C.x rfl (hb C.b hd) rfl q) kk
theorem g_iushr (C : Cx Z a0 p s m meth c bs ml own nm rt) (X : Stand p l e R s m args below meth c T locs cells slots) {x y : Int32} (hd : decode bs pc = .ok (.iushr, 1))  (hp : pc + 1 = pc') (kk : Go p e below s m Q Cc Sc T pc' Ls (.int ((x.toUInt32 >>> (y &&& 31).toUInt32).toInt32) :: St)) : Go p e below s m Q Cc Sc T pc Ls (.int y :: .int x :: St) := by
  subst hp
  exact Go.via (fun t q => XS.iushr X.here C.x rfl (hb C.b hd) rfl q) kk
theorem g_lshl (C : Cx Z a0 p s m meth c bs ml own nm rt) (X : Stand p l e R s m args below meth c T locs cells slots) {x : Int64} {y : Int32} (hd : decode bs pc = .ok (.lshl, 1))  (hp : pc + 1 = pc') (kk : Go p e below s m Q Cc Sc T pc' Ls (.long (x <<< (y &&& 0x3f).toInt64) :: St)) : Go p e below s m Q Cc Sc T pc Ls (.int y :: .long x :: St) := by
  subst hp
  exact Go.via (fun t q => XS.lshl X.here C.x rfl (hb C.b hd) rfl q) kk
theorem g_lshr (C : Cx Z a0 p s m meth c bs ml own nm rt) (X : Stand p l e R s m args below meth c T locs cells slots) {x : Int64} {y : Int32} (hd : decode bs pc = .ok (.lshr, 1))  (hp : pc + 1 = pc') (kk : Go p e below s m Q Cc Sc T pc' Ls (.long (x >>> (y &&& 0x3f).toInt64) :: St)) : Go p e below s m Q Cc Sc T pc Ls (.int y :: .long x :: St) := by
  subst hp
  exact Go.via (fun t q => XS.lshr X.here C.x rfl (hb C.b hd) rfl q) kk
theorem g_lushr (C : Cx Z a0 p s m meth c bs ml own nm rt) (X : Stand p l e R s m args below meth c T locs cells slots) {x : Int64} {y : Int32} (hd : decode bs pc = .ok (.lushr, 1))  (hp : pc + 1 = pc') (kk : Go p e below s m Q Cc Sc T pc' Ls (.long ((x.toUInt64 >>> (y &&& 0x3f).toInt64.toUInt64).toInt64) :: St)) : Go p e below s m Q Cc Sc T pc Ls (.int y :: .long x :: St) := by
  subst hp
  exact Go.via (fun t q => XS.lushr X.here C.x rfl (hb C.b hd) rfl q) kk
theorem g_i2b (C : Cx Z a0 p s m meth c bs ml own nm rt) (X : Stand p l e R s m args below meth c T locs cells slots) {x : Int32} (hd : decode bs pc = .ok (.i2b, 1))  (hp : pc + 1 = pc') (kk : Go p e below s m Q Cc Sc T pc' Ls (.int (x.toInt8.toInt32) :: St)) : Go p e below s m Q Cc Sc T pc Ls (.int x :: St) := by
  subst hp
  exact Go.via (fun t q => XS.i2b X.here C.x rfl (hb C.b hd) rfl q) kk
theorem g_i2l (C : Cx Z a0 p s m meth c bs ml own nm rt) (X : Stand p l e R s m args below meth c T locs cells slots) {x : Int32} (hd : decode bs pc = .ok (.i2l, 1))  (hp : pc + 1 = pc') (kk : Go p e below s m Q Cc Sc T pc' Ls (.long (x.toInt64) :: St)) : Go p e below s m Q Cc Sc T pc Ls (.int x :: St) := by
  subst hp
  exact Go.via (fun t q => XS.i2l X.here C.x rfl (hb C.b hd) rfl q) kk
theorem g_l2i (C : Cx Z a0 p s m meth c bs ml own nm rt) (X : Stand p l e R s m args below meth c T locs cells slots) {x : Int64} (hd : decode bs pc = .ok (.l2i, 1))  (hp : pc + 1 = pc') (kk : Go p e below s m Q Cc Sc T pc' Ls (.int (x.toInt32) :: St)) : Go p e below s m Q Cc Sc T pc Ls (.long x :: St) := by
  subst hp
  exact Go.via (fun t q => XS.l2i X.here C.x rfl (hb C.b hd) rfl q) kk
theorem g_ineg (C : Cx Z a0 p s m meth c bs ml own nm rt) (X : Stand p l e R s m args below meth c T locs cells slots) {x : Int32} (hd : decode bs pc = .ok (.ineg, 1))  (hp : pc + 1 = pc') (kk : Go p e below s m Q Cc Sc T pc' Ls (.int (-x) :: St)) : Go p e below s m Q Cc Sc T pc Ls (.int x :: St) := by
  subst hp
  exact Go.via (fun t q => XS.ineg X.here C.x rfl (hb C.b hd) rfl q) kk
theorem g_lneg (C : Cx Z a0 p s m meth c bs ml own nm rt) (X : Stand p l e R s m args below meth c T locs cells slots) {x : Int64} (hd : decode bs pc = .ok (.lneg, 1))  (hp : pc + 1 = pc') (kk : Go p e below s m Q Cc Sc T pc' Ls (.long (-x) :: St)) : Go p e below s m Q Cc Sc T pc Ls (.long x :: St) := by
  subst hp
  exact Go.via (fun t q => XS.lneg X.here C.x rfl (hb C.b hd) rfl q) kk
theorem g_dup (C : Cx Z a0 p s m meth c bs ml own nm rt) (X : Stand p l e R s m args below meth c T locs cells slots) {x : Value} (hd : decode bs pc = .ok (.dup, 1)) (hc : x.category = 1) (hp : pc + 1 = pc') (kk : Go p e below s m Q Cc Sc T pc' Ls (x :: x :: St)) : Go p e below s m Q Cc Sc T pc Ls (x :: St) := by
  subst hp
  exact Go.via (fun t q => XS.dup X.here C.x rfl (hb C.b hd) rfl hc q) kk
theorem g_pop (C : Cx Z a0 p s m meth c bs ml own nm rt) (X : Stand p l e R s m args below meth c T locs cells slots) {x : Value} (hd : decode bs pc = .ok (.pop, 1)) (hc : x.category = 1) (hp : pc + 1 = pc') (kk : Go p e below s m Q Cc Sc T pc' Ls St) : Go p e below s m Q Cc Sc T pc Ls (x :: St) := by
  subst hp
  exact Go.via (fun t q => XS.pop X.here C.x rfl (hb C.b hd) rfl hc q) kk
theorem g_goto (C : Cx Z a0 p s m meth c bs ml own nm rt) (X : Stand p l e R s m args below meth c T locs cells slots) {o : Int} (hd : decode bs pc = .ok (.goto o, 3)) (ho : 0 ≤ (pc : Int) + o) (hp : ((pc : Int) + o).toNat = pc') (kk : Go p e below s m Q Cc Sc T pc' Ls St) : Go p e below s m Q Cc Sc T pc Ls St := Go.via (fun t q => XS.goto X.here C.x rfl rfl (hb C.b hd) ho hp q) kk
/-- what a comparison says of two ints -/
def Cd (cd : ClassFile.Cond) (x y : Int) : Prop := match cd with | .eq => x = y | .ne => ¬ x = y | .lt => x < y | .ge => y ≤ x | .gt => y < x | .le => x ≤ y
def ng : ClassFile.Cond → ClassFile.Cond | .eq => .ne | .ne => .eq | .lt => .ge | .ge => .lt | .gt => .le | .le => .gt
theorem cd_n {cd : ClassFile.Cond} {x y : Int} (h : ¬ Cd cd x y) : Cd (ng cd) x y := by
  cases cd <;> simp only [Cd, ng] at h ⊢ <;> omega
theorem cd_t {cd : ClassFile.Cond} {x y : Int32} : if_icmp.holds cd x y = true ↔ Cd cd x.toInt y.toInt := by
  cases cd <;> simp [if_icmp.holds, Cd, Int32.lt_iff_toInt_lt, Int32.le_iff_toInt_le, Int32.toInt_inj]
theorem cd_0 {cd : ClassFile.Cond} {x : Int32} : ifCond.holds cd x = true ↔ Cd cd x.toInt 0 := by
  rw [if0, cd_t]; rfl
theorem g_icmp (C : Cx Z a0 p s m meth c bs ml own nm rt) (X : Stand p l e R s m args below meth c T locs cells slots) {cd : ClassFile.Cond} {o : Int} {x y : Int32} (hd : decode bs pc = .ok (.if_icmp cd o, 3)) (ho : 0 ≤ (pc : Int) + o) (hq : ((pc : Int) + o).toNat = pt) (hp : pc + 3 = pc') (kt : Cd cd x.toInt y.toInt → Go p e below s m Q Cc Sc T pt Ls St) (kf : Cd (ng cd) x.toInt y.toInt → Go p e below s m Q Cc Sc T pc' Ls St) : Go p e below s m Q Cc Sc T pc Ls (.int y :: .int x :: St) := by
  subst hp
  by_cases q : Cd cd x.toInt y.toInt
  · exact Go.via (fun t q' => XS.icmpYes X.here C.x rfl rfl (hb C.b hd) rfl (cd_t.mpr q) ho hq q') (kt q)
  · exact Go.via (fun t q' => XS.icmpNo X.here C.x rfl (hb C.b hd) rfl (Bool.eq_false_iff.mpr fun z => q (cd_t.mp z)) q') (kf (cd_n q))
theorem g_if (C : Cx Z a0 p s m meth c bs ml own nm rt) (X : Stand p l e R s m args below meth c T locs cells slots) {cd : ClassFile.Cond} {o : Int} {x : Int32} (hd : decode bs pc = .ok (.ifCond cd o, 3)) (ho : 0 ≤ (pc : Int) + o) (hq : ((pc : Int) + o).toNat = pt) (hp : pc + 3 = pc') (kt : Cd cd x.toInt 0 → Go p e below s m Q Cc Sc T pt Ls St) (kf : Cd (ng cd) x.toInt 0 → Go p e below s m Q Cc Sc T pc' Ls St) : Go p e below s m Q Cc Sc T pc Ls (.int x :: St) := by
  subst hp
  by_cases q : Cd cd x.toInt 0
  · exact Go.via (fun t q' => XS.ifYes X.here C.x rfl rfl (hb C.b hd) rfl (cd_0.mpr q) ho hq q') (kt q)
  · exact Go.via (fun t q' => XS.ifNo X.here C.x rfl (hb C.b hd) rfl (Bool.eq_false_iff.mpr fun z => q (cd_0.mp z)) q') (kf (cd_n q))
theorem cd_l {cd : ClassFile.Cond} {x y : Int64} : Cd cd (lcmpW x y).toInt 0 ↔ Cd cd x.toInt y.toInt := by
  obtain ⟨h1, h2, h3⟩ := c_lcmp x y
  generalize (lcmpW x y).toInt = w at *
  generalize x.toInt = u at *
  generalize y.toInt = v at *
  cases cd <;> simp only [Cd] <;> omega
theorem g_lcmpif (C : Cx Z a0 p s m meth c bs ml own nm rt) (X : Stand p l e R s m args below meth c T locs cells slots) {cd : ClassFile.Cond} {o : Int} {x y : Int64} {pm : Nat} (hd0 : decode bs pc = .ok (.lcmp, 1)) (hm : pc + 1 = pm) (hd : decode bs pm = .ok (.ifCond cd o, 3)) (ho : 0 ≤ (pm : Int) + o) (hq : ((pm : Int) + o).toNat = pt) (hp : pm + 3 = pc') (kt : Cd cd x.toInt y.toInt → Go p e below s m Q Cc Sc T pt Ls St) (kf : Cd (ng cd) x.toInt y.toInt → Go p e below s m Q Cc Sc T pc' Ls St) : Go p e below s m Q Cc Sc T pc Ls (.long y :: .long x :: St) := by
  subst hm
  refine Go.via (fun t q' => XS.lcmp X.here C.x rfl (hb C.b hd0) rfl q') ?_
  exact g_if C X hd ho hq hp (fun z => kt (cd_l.mp z)) (fun z => kf (cd_l.mp z))
theorem g_ireturnN (C : Cx Z a0 p s m meth c bs ml own nm rt) (X : Stand p l e R s m args below meth c T locs cells slots) {z : Int32} {t : FieldType} (hd : decode bs pc = .ok (.ireturn, 1)) (hr : rt = some t) (ht : t = .boolean ∨ t = .byte ∨ t = .char ∨ t = .short) (hQ : Q (some (.int (nar t z))) T.heap locs) (hC : cells ≤ Cc) (hS : slots ≤ Sc) : Go p e below s m Q Cc Sc T pc Ls (.int z :: St) := by
  subst hr
  obtain ⟨fs, hr, hrun, hended, hW, hsame⟩ := X.leave (v := some (.int (nar t z))) (fun h => by rw [C.r] at h; cases h) C.lk
  refine ⟨_, _, ?_, hrun, hended, _, _, rfl, hQ, ⟨_, rfl⟩, hW, hsame.mono hC hS⟩
  exact retN X C.x C.r ht (hb C.b hd) hr
theorem g_ireturn (C : Cx Z a0 p s m meth c bs ml own nm rt) (X : Stand p l e R s m args below meth c T locs cells slots) {z : Int32} (hd : decode bs pc = .ok (.ireturn, 1)) (hr : rt = some .int) (hQ : Q (some (.int z)) T.heap locs) (hC : cells ≤ Cc) (hS : slots ≤ Sc) : Go p e below s m Q Cc Sc T pc Ls (.int z :: St) := by
  subst hr
  obtain ⟨fs, hr, hrun, hended, hW, hsame⟩ := X.leave (v := some (.int z)) (fun h => by rw [C.r] at h; cases h) C.lk
  refine ⟨_, _, ?_, hrun, hended, _, _, rfl, hQ, ⟨_, rfl⟩, hW, hsame.mono hC hS⟩
  exact retOut X C.x C.r rfl (Or.inl ⟨rfl, Or.inl rfl, z, rfl⟩) (hb C.b hd) hr
theorem g_lreturn (C : Cx Z a0 p s m meth c bs ml own nm rt) (X : Stand p l e R s m args below meth c T locs cells slots) {z : Int64} (hd : decode bs pc = .ok (.lreturn, 1)) (hr : rt = some .long) (hQ : Q (some (.long z)) T.heap locs) (hC : cells ≤ Cc) (hS : slots ≤ Sc) : Go p e below s m Q Cc Sc T pc Ls (.long z :: St) := by
  subst hr
  obtain ⟨fs, hr, hrun, hended, hW, hsame⟩ := X.leave (v := some (.long z)) (fun h => by rw [C.r] at h; cases h) C.lk
  refine ⟨_, _, ?_, hrun, hended, _, _, rfl, hQ, ⟨_, rfl⟩, hW, hsame.mono hC hS⟩
  exact retOut X C.x C.r rfl (Or.inr (Or.inl ⟨rfl, rfl, z, rfl⟩)) (hb C.b hd) hr
theorem g_areturn (C : Cx Z a0 p s m meth c bs ml own nm rt) (X : Stand p l e R s m args below meth c T locs cells slots) {z : Addr} {t : FieldType} (hd : decode bs pc = .ok (.areturn, 1)) (hr : rt = some t) (ht : t.isReference = true) (hn : narrow t (.ref z) = .ref z) (hQ : Q (some (.ref z)) T.heap locs) (hC : cells ≤ Cc) (hS : slots ≤ Sc) : Go p e below s m Q Cc Sc T pc Ls (.ref z :: St) := by
  subst hr
  obtain ⟨fs, hr, hrun, hended, hW, hsame⟩ := X.leave (v := some (.ref z)) (fun h => by rw [C.r] at h; cases h) C.lk
  refine ⟨_, _, ?_, hrun, hended, _, _, rfl, hQ, ⟨_, rfl⟩, hW, hsame.mono hC hS⟩
  exact retOut X C.x C.r hn (Or.inr (Or.inr (Or.inr (Or.inr ⟨rfl, ht, rfl⟩)))) (hb C.b hd) hr
theorem g_return (C : Cx Z a0 p s m meth c bs ml own nm rt) (X : Stand p l e R s m args below meth c T locs cells slots)  (hd : decode bs pc = .ok (.return_, 1)) (hr : rt = none) (hQ : Q none T.heap locs) (hC : cells ≤ Cc) (hS : slots ≤ Sc) : Go p e below s m Q Cc Sc T pc Ls [] := by
  subst hr
  obtain ⟨fs, hr, hrun, hended, hW, hsame⟩ := X.leave (v := none) (fun _ => rfl) C.lk
  refine ⟨_, _, ?_, hrun, hended, _, _, rfl, hQ, ⟨_, rfl⟩, hW, hsame.mono hC hS⟩
  exact X.returnOut C.x C.r (hb C.b hd) hr
/-- an array: its kind, its length, what each place holds -/
def Aw (Z : State) (h : Heap) (a : Addr) (ty : FieldType) (n : Nat) (f : Nat → Value) : Prop := ∃ cl : Cell, Arr Z h a cl ty ∧ cl.slots.size = n ∧ n < 2 ^ 31 ∧ ∀ j, j < n → cl.slots[j]? = some (f j)
variable {a b : Addr} {ty : FieldType} {n : Nat} {f f' : Nat → Value}
theorem Aw.ext (A : Aw Z h a ty n f) (E : Ext h h') : Aw Z h' a ty n f := by obtain ⟨cl, A, r⟩ := A; exact ⟨cl, A.ext E, r⟩
theorem Aw.other {sl : Nat} {v : Value} (A : Aw Z h b ty n f) (W : Wr h h' a sl v) (q : b ≠ a) : Aw Z h' b ty n f := by obtain ⟨cl, A, r⟩ := A; exact ⟨cl, A.other W q, r⟩
theorem Aw.keep {ws : List Addr} (A : Aw Z h a ty n f) (K : Keep h h' ws) (q : a ∉ ws) : Aw Z h' a ty n f := by obtain ⟨cl, A, r⟩ := A; exact ⟨cl, ⟨K.2.1 a cl A.1 q, A.2⟩, r⟩
theorem Aw.lt (A : Aw Z h a ty n f) : a < h.size := by obtain ⟨cl, A, r⟩ := A; exact A.lt
theorem Aw.of (A : Aw Z h a ty n f) (q : ∀ j, j < n → f j = f' j) : Aw Z h a ty n f' := by obtain ⟨cl, A, r1, r2, r3⟩ := A; exact ⟨cl, A, r1, r2, fun j hj => by rw [r3 j hj, q j hj]⟩
theorem i_nn {j : Int32} (h0 : 0 ≤ j.toInt) : (j.toNatClampNeg : Int) = j.toInt := by simp only [Int32.toNatClampNeg]; omega
theorem aw_in {cl : Cell} {j : Int32} (S : cl.slots.size = n) (h0 : 0 ≤ j.toInt) (h1 : j.toInt < n) : ¬ (j < 0 ∨ cl.slots.size ≤ j.toNatClampNeg) := by
  have := i_nn h0
  rw [Int32.lt_iff_toInt_lt, S]; simp only [Int32.reduceToInt]; omega
theorem aw_len (q : n < 2 ^ 31) : (n.toInt32).toInt = n := len_toInt q
theorem g_newarray {aty : ArrayType} {nn : Int32} {cap : Nat} (C : Cx Z a0 p s m meth c bs ml own nm rt) (X : Stand p l e R s m args below meth c T locs cells slots) (hd : decode bs pc = .ok (.newarray aty, 2)) (eT : T.heap = h) (w : (Jvm.Cond.arrayClass (newarray.typeOf aty)).before a0 Z = true) (h0 : 0 ≤ nn.toInt) (hcap : nn.toInt ≤ cap) (hb8 : cap * 8 ≤ 536870912) (hc : cells + 1 ≤ R.cells) (hl : slots + cap ≤ R.slots) (hp : pc + 2 = pc')
    (kk : ∀ T' h', Stand p l e R s m args below meth c T' locs (cells + 1) (slots + cap) → T'.heap = h' → Ext h h' → h.size < h'.size → ∀ a, a = h.size → Aw Z h' a (newarray.typeOf aty) nn.toInt.toNat (fun _ => defaultValue (newarray.typeOf aty)) → Go p e below s m Q Cc Sc T' pc' Ls (.ref a :: St)) : Go p e below s m Q Cc Sc T pc Ls (.int nn :: St) := by
  subst hp
  have hn : ¬ nn < 0 := by rw [Int32.lt_iff_toInt_lt]; simp only [Int32.reduceToInt]; omega
  have hi := i_nn h0
  obtain ⟨T', h', cA, X', e', E, A, st⟩ := newP X C.x C.z w eT (g := mkF m pc Ls (.int nn :: St)) rfl (hb C.b hd) rfl hn (cap := cap) (by omega) hb8 hc hl
  have hs : (newA cA (newarray.typeOf aty) nn).slots.size = nn.toInt.toNat := by rw [sz_new]; simp only [Int32.toNatClampNeg]
  have hlt := nn.toInt_lt
  refine Go.via st (kk T' h' X' e' E A.lt _ rfl ⟨_, A, hs, by omega, fun j hj => ?_⟩)
  have : j < nn.toNatClampNeg := by omega
  simp [newA, this]
theorem Aw.set {cl : Cell} {j : Int32} {v : Value} (A : Arr Z h a cl ty) (S : cl.slots.size = n) (M : n < 2 ^ 31) (H : ∀ j, j < n → cl.slots[j]? = some (f j)) (h0 : 0 ≤ j.toInt) (W : Wr h h' a j.toNatClampNeg v) : Aw Z h' a ty n (fun i => if (i : Int) = j.toInt then v else f i) := by
  refine ⟨_, A.same W, by rw [sz_set]; exact S, M, fun i hi => ?_⟩
  have hi0 := i_nn h0
  show _ = some (if (i : Int) = j.toInt then v else f i)
  by_cases q : (i : Int) = j.toInt
  · have : j.toNatClampNeg = i := by omega
    rw [if_pos q, this]
    simp [Cell.setSlot, S, hi]
  · have : j.toNatClampNeg ≠ i := by omega
    rw [if_neg q]
    simp only [Cell.setSlot]
    rw [Array.getElem?_setIfInBounds_ne this]; exact H i hi
theorem g_arraylength (C : Cx Z a0 p s m meth c bs ml own nm rt) (X : Stand p l e R s m args below meth c T locs cells slots) (hd : decode bs pc = .ok (.arraylength, 1)) (eT : T.heap = h) (A : Aw Z h a ty n f) (hp : pc + 1 = pc') (kk : ∀ v : Int32, v.toInt = n → Go p e below s m Q Cc Sc T pc' Ls (.int v :: St)) : Go p e below s m Q Cc Sc T pc Ls (.ref a :: St) := by
  subst hp
  obtain ⟨cl, A, S, M, H⟩ := A
  have : cl.slots.size.toInt32.toInt = n := by rw [S]; exact aw_len M
  exact Go.via (fun t q => X.arraylength C.x (by rw [eT]; exact A.1) (State.isArrayOf_alike C.z.alike A.2.1) (g := mkF m pc Ls (.ref a :: St)) rfl rfl (hb C.b hd) t q) (kk _ this)

theorem g_iastore {j : Int32} {x : Int32} (C : Cx Z a0 p s m meth c bs ml own nm rt) (X : Stand p l e R s m args below meth c T locs cells slots) (hd : decode bs pc = .ok (.iastore, 1)) (eT : T.heap = h) (A : Aw Z h a .int n f) (h0 : 0 ≤ j.toInt) (h1 : j.toInt < n) (hp : pc + 1 = pc')
    (kk : ∀ T' h', Stand p l e R s m args below meth c T' (locs ++ [⟨a, j.toNatClampNeg⟩]) cells slots → T'.heap = h' → Wr h h' a j.toNatClampNeg (.int x) → Aw Z h' a .int n (fun i => if (i : Int) = j.toInt then .int x else f i) → Go p e below s m Q Cc Sc T' pc' Ls St) : Go p e below s m Q Cc Sc T pc Ls (.int x :: .int j :: .ref a :: St) := by
  subst hp
  obtain ⟨cl, A, S, M, H⟩ := A
  obtain ⟨T', h', X', e', W, st⟩ := stI X C.x C.z eT A (j := j) (aw_in S h0 h1) (g := mkF m pc Ls (.int x :: .int j :: .ref a :: St)) rfl rfl (hb C.b hd)
  exact Go.via st (kk T' h' X' e' W (Aw.set A S M H h0 W))
theorem g_bastore {j : Int32} {x : Int32} (C : Cx Z a0 p s m meth c bs ml own nm rt) (X : Stand p l e R s m args below meth c T locs cells slots) (hd : decode bs pc = .ok (.bastore, 1)) (eT : T.heap = h) (A : Aw Z h a .byte n f) (h0 : 0 ≤ j.toInt) (h1 : j.toInt < n) (hp : pc + 1 = pc')
    (kk : ∀ T' h', Stand p l e R s m args below meth c T' (locs ++ [⟨a, j.toNatClampNeg⟩]) cells slots → T'.heap = h' → Wr h h' a j.toNatClampNeg (.int (nar .byte x)) → Aw Z h' a .byte n (fun i => if (i : Int) = j.toInt then .int (nar .byte x) else f i) → Go p e below s m Q Cc Sc T' pc' Ls St) : Go p e below s m Q Cc Sc T pc Ls (.int x :: .int j :: .ref a :: St) := by
  subst hp
  obtain ⟨cl, A, S, M, H⟩ := A
  obtain ⟨T', h', X', e', W, st⟩ := stB X C.x C.z eT A (j := j) (aw_in S h0 h1) (g := mkF m pc Ls (.int x :: .int j :: .ref a :: St)) rfl rfl (hb C.b hd)
  exact Go.via st (kk T' h' X' e' W (Aw.set A S M H h0 W))
theorem g_lastore {j : Int32} {x : Int64} (C : Cx Z a0 p s m meth c bs ml own nm rt) (X : Stand p l e R s m args below meth c T locs cells slots) (hd : decode bs pc = .ok (.lastore, 1)) (eT : T.heap = h) (A : Aw Z h a .long n f) (h0 : 0 ≤ j.toInt) (h1 : j.toInt < n) (hp : pc + 1 = pc')
    (kk : ∀ T' h', Stand p l e R s m args below meth c T' (locs ++ [⟨a, j.toNatClampNeg⟩]) cells slots → T'.heap = h' → Wr h h' a j.toNatClampNeg (.long x) → Aw Z h' a .long n (fun i => if (i : Int) = j.toInt then .long x else f i) → Go p e below s m Q Cc Sc T' pc' Ls St) : Go p e below s m Q Cc Sc T pc Ls (.long x :: .int j :: .ref a :: St) := by
  subst hp
  obtain ⟨cl, A, S, M, H⟩ := A
  obtain ⟨T', h', X', e', W, st⟩ := stJ X C.x C.z eT A (j := j) (aw_in S h0 h1) (g := mkF m pc Ls (.long x :: .int j :: .ref a :: St)) rfl rfl (hb C.b hd)
  exact Go.via st (kk T' h' X' e' W (Aw.set A S M H h0 W))
theorem g_iaload {j : Int32} {v : Value} (C : Cx Z a0 p s m meth c bs ml own nm rt) (X : Stand p l e R s m args below meth c T locs cells slots) (hd : decode bs pc = .ok (.iaload, 1)) (eT : T.heap = h) (A : Aw Z h a .int n f) (h0 : 0 ≤ j.toInt) (h1 : j.toInt < n) (hv : f j.toInt.toNat = v) (hp : pc + 1 = pc') (kk : Go p e below s m Q Cc Sc T pc' Ls (v :: St)) : Go p e below s m Q Cc Sc T pc Ls (.int j :: .ref a :: St) := by
  subst hp
  obtain ⟨cl, A, S, M, H⟩ := A
  have hi := i_nn h0
  have hj : j.toNatClampNeg = j.toInt.toNat := by omega
  have hat : cl.slots[j.toNatClampNeg]? = some v := by rw [hj, H _ (by omega), hv]
  exact Go.via (fun t q => X.iaload C.x (j := j) (v := v) (by rw [eT]; exact A.1) (State.isArrayOf_alike C.z.alike A.2.1) A.2.2 (aw_in S h0 h1) hat (g := mkF m pc Ls (.int j :: .ref a :: St)) rfl rfl (hb C.b hd) t q) kk
theorem g_baload {j : Int32} {v : Value} (C : Cx Z a0 p s m meth c bs ml own nm rt) (X : Stand p l e R s m args below meth c T locs cells slots) (hd : decode bs pc = .ok (.baload, 1)) (eT : T.heap = h) (A : Aw Z h a .byte n f) (h0 : 0 ≤ j.toInt) (h1 : j.toInt < n) (hv : f j.toInt.toNat = v) (hp : pc + 1 = pc') (kk : Go p e below s m Q Cc Sc T pc' Ls (v :: St)) : Go p e below s m Q Cc Sc T pc Ls (.int j :: .ref a :: St) := by
  subst hp
  obtain ⟨cl, A, S, M, H⟩ := A
  have hi := i_nn h0
  have hj : j.toNatClampNeg = j.toInt.toNat := by omega
  have hat : cl.slots[j.toNatClampNeg]? = some v := by rw [hj, H _ (by omega), hv]
  exact Go.via (fun t q => X.baloadBytes C.x (j := j) (v := v) (by rw [eT]; exact A.1) (State.isArrayOf_alike C.z.alike A.2.1) A.2.2 (aw_in S h0 h1) hat (g := mkF m pc Ls (.int j :: .ref a :: St)) rfl rfl (hb C.b hd) t q) kk
theorem g_laload {j : Int32} {v : Value} (C : Cx Z a0 p s m meth c bs ml own nm rt) (X : Stand p l e R s m args below meth c T locs cells slots) (hd : decode bs pc = .ok (.laload, 1)) (eT : T.heap = h) (A : Aw Z h a .long n f) (h0 : 0 ≤ j.toInt) (h1 : j.toInt < n) (hv : f j.toInt.toNat = v) (hp : pc + 1 = pc') (kk : Go p e below s m Q Cc Sc T pc' Ls (v :: St)) : Go p e below s m Q Cc Sc T pc Ls (.int j :: .ref a :: St) := by
  subst hp
  obtain ⟨cl, A, S, M, H⟩ := A
  have hi := i_nn h0
  have hj : j.toNatClampNeg = j.toInt.toNat := by omega
  have hat : cl.slots[j.toNatClampNeg]? = some v := by rw [hj, H _ (by omega), hv]
  exact Go.via (fun t q => X.laload C.x (j := j) (v := v) (by rw [eT]; exact A.1) (State.isArrayOf_alike C.z.alike A.2.1) A.2.2 (aw_in S h0 h1) hat (g := mkF m pc Ls (.int j :: .ref a :: St)) rfl rfl (hb C.b hd) t q) kk
theorem g_callS {y : MethodName} {bytes : ByteArray} {maxL W index : Nat} {ret : Option FieldType} {rm : Room} {argsL rest : List Value} {ps : List FieldType} {r : Option FieldType} {Qc : Option Value → Heap → List Loc → Prop} (C : Cx Z a0 p s m meth c bs ml own nm rt) (X : Stand p l e R s m args below meth c T locs cells slots)
    (hd : decode bs pc = .ok (.invokestatic index, 3)) (eT : T.heap = h)
    (w1 : (Jvm.Cond.methodLink own index y).before a0 Z = true) (w2 : (Jvm.Cond.static y).before a0 Z = true) (w3 : (Jvm.Cond.initialized y.cls).before a0 Z = true) (w4 : (Jvm.Cond.code y bytes maxL ret).before a0 Z = true)
    (hM : MetFree l y (head1 [Jvm.Cond.code y bytes maxL ret] rm) (fun a U => a = argsL.toArray ∧ Z.Warmed39 U.vm ∧ U.heap = h) (fun _ _ _ _ _ => True) (fun _ U o U' => ∃ v L, o = .returned v ∧ Qc v U'.heap L ∧ FrameEnd U o U' L rm.cells rm.slots))
    (hy : y.cls ≠ "java/lang/invoke/MethodHandle" ∧ y.cls ≠ "java/lang/invoke/VarHandle") (hpd : parseMethodDescriptor y.desc = some ⟨ps, r⟩) (hln : argsL.length = ps.length)
    (hst : St = argsL.reverse ++ rest) (hLs : Ls.size = ml) (hW : (rest.map fun v => v.category).sum ≤ W) (hfr : rm.frames + 1 ≤ R.frames) (hlo : W + (maxL + 11) + rm.locals ≤ R.locals) (hce : cells + rm.cells ≤ R.cells) (hsl : slots + rm.slots ≤ R.slots) (hp : pc + 3 = pc')
    (kk : ∀ T' v L, Stand p l e R s m args below meth c T' (locs ++ L) (cells + rm.cells) (slots + rm.slots) → Qc v T'.heap L → Go p e below s m Q Cc Sc T' pc' Ls (v.toList ++ rest)) : Go p e below s m Q Cc Sc T pc Ls St := by
  subst hp
  obtain ⟨v, _, ⟨T', L', k', n'⟩, -, X', ⟨L, hQ, l1, y1, z1⟩, st⟩ := Jvm.LawKit.callS X C.x (y := y) C.o (mvT C.z w1) (mvT C.z w2) (mvT C.z w3) (mvT C.z w4) hy (backOf (W := W) hM C.z w4 w3 hfr hlo) (g := mkF m pc Ls St) rfl (by rw [C.mx]; exact hLs) (argsL := argsL) (rest := rest) (lenOf hpd hln) hst (by show 2 * 0 + _ ≤ _; omega) (hb C.b hd) (fun _ _ => ⟨rfl, eT, hce, hsl⟩)
  dsimp only [Pt.U, Pt.locs, Pt.cells, Pt.slots] at X' l1 y1 z1 st hQ
  subst l1 y1 z1
  exact Go.via st (kk T' v L X' hQ)
theorem g_callC {y : MethodName} {bytes : ByteArray} {maxL W index : Nat} {rm : Room} {argsL rest : List Value} {ps : List FieldType} {r : Option FieldType} {Qc : Option Value → Heap → List Loc → Prop} (C : Cx Z a0 p s m meth c bs ml own nm rt) (X : Stand p l e R s m args below meth c T locs cells slots)
    (hd : decode bs pc = .ok (.invokespecial index, 3)) (eT : T.heap = h) (hy1 : y.name = "<init>") 
    (w1 : (Jvm.Cond.methodLink own index y).before a0 Z = true) (w2 : (Jvm.Cond.instanceMethod y).before a0 Z = true) (w3 : (Jvm.Cond.initialized y.cls).before a0 Z = true) (w4 : (Jvm.Cond.code y bytes maxL none).before a0 Z = true)
    (hM : MetFree l y (head1 [Jvm.Cond.code y bytes maxL none] rm) (fun a' U => a' = (Value.ref a :: argsL).toArray ∧ Z.Warmed39 U.vm ∧ U.heap = h) (fun _ _ _ _ _ => True) (fun _ U o U' => ∃ v L, o = .returned v ∧ Qc v U'.heap L ∧ FrameEnd U o U' L rm.cells rm.slots))
    (hy : y.cls ≠ "java/lang/invoke/MethodHandle" ∧ y.cls ≠ "java/lang/invoke/VarHandle") (hpd : parseMethodDescriptor y.desc = some ⟨ps, r⟩) (hln : argsL.length = ps.length)
    (hst : St = argsL.reverse ++ .ref a :: rest) (hLs : Ls.size = ml) (hW : (rest.map fun v => v.category).sum ≤ W) (hfr : rm.frames + 1 ≤ R.frames) (hlo : W + (maxL + 11) + rm.locals ≤ R.locals) (hce : cells + rm.cells ≤ R.cells) (hsl : slots + rm.slots ≤ R.slots) (hp : pc + 3 = pc')
    (kk : ∀ T' v L, Stand p l e R s m args below meth c T' (locs ++ L) (cells + rm.cells) (slots + rm.slots) → Qc v T'.heap L → Go p e below s m Q Cc Sc T' pc' Ls (v.toList ++ rest)) : Go p e below s m Q Cc Sc T pc Ls St := by
  subst hp
  obtain ⟨v, _, ⟨T', L', k', n'⟩, -, X', ⟨L, hQ, l1, y1, z1⟩, st⟩ := X.specialBack C.x (y := y) hy1 C.o (mvT C.z w1) (mvT C.z w2) (mvT C.z w4) hy (backOf (W := W) hM C.z w4 w3 hfr hlo) (g := mkF m pc Ls St) rfl (by rw [C.mx]; exact hLs) (Steps.refl _) (a := a) (argsL := argsL) (rest := rest) (lenOf hpd hln) hst (by show 2 * 0 + _ ≤ _; omega) (hb C.b hd) (fun _ _ => ⟨rfl, eT, hce, hsl⟩)
  dsimp only [Pt.U, Pt.locs, Pt.cells, Pt.slots] at X' l1 y1 z1 st hQ
  subst l1 y1 z1
  exact Go.via (fun t q => st.trans q) (kk T' v L X' hQ)
theorem g_callV {y : MethodName} {bytes : ByteArray} {maxL W index : Nat} {ret : Option FieldType} {rm : Room} {argsL rest : List Value} {ps : List FieldType} {r : Option FieldType} {Qc : Option Value → Heap → List Loc → Prop} (C : Cx Z a0 p s m meth c bs ml own nm rt) (X : Stand p l e R s m args below meth c T locs cells slots)
    (hd : decode bs pc = .ok (.invokevirtual index, 3)) (eT : T.heap = h) {K : String} (E : Exa Z h a K) (wd : (Jvm.Cond.declares y).before a0 Z = true) (wn : (Jvm.Cond.selects K y y).before a0 Z = true) 
    (w1 : (Jvm.Cond.methodLink own index y).before a0 Z = true) (w2 : (Jvm.Cond.instanceMethod y).before a0 Z = true) (w3 : (Jvm.Cond.initialized y.cls).before a0 Z = true) (w4 : (Jvm.Cond.code y bytes maxL ret).before a0 Z = true)
    (hM : MetFree l y (head1 [Jvm.Cond.code y bytes maxL ret] rm) (fun a' U => a' = (Value.ref a :: argsL).toArray ∧ Z.Warmed39 U.vm ∧ U.heap = h) (fun _ _ _ _ _ => True) (fun _ U o U' => ∃ v L, o = .returned v ∧ Qc v U'.heap L ∧ FrameEnd U o U' L rm.cells rm.slots))
    (hy : y.cls ≠ "java/lang/invoke/MethodHandle" ∧ y.cls ≠ "java/lang/invoke/VarHandle") (hpd : parseMethodDescriptor y.desc = some ⟨ps, r⟩) (hln : argsL.length = ps.length)
    (hst : St = argsL.reverse ++ .ref a :: rest) (hLs : Ls.size = ml) (hW : (rest.map fun v => v.category).sum ≤ W) (hfr : rm.frames + 1 ≤ R.frames) (hlo : W + (maxL + 11) + rm.locals ≤ R.locals) (hce : cells + rm.cells ≤ R.cells) (hsl : slots + rm.slots ≤ R.slots) (hp : pc + 3 = pc')
    (kk : ∀ T' v L, Stand p l e R s m args below meth c T' (locs ++ L) (cells + rm.cells) (slots + rm.slots) → Qc v T'.heap L → Go p e below s m Q Cc Sc T' pc' Ls (v.toList ++ rest)) : Go p e below s m Q Cc Sc T pc Ls St := by
  subst hp
  obtain ⟨cq, kq, qa, qb, qc⟩ := isOf C.z eT E
  obtain ⟨v, _, ⟨T', L', k', n'⟩, -, X', ⟨L, hQ, l1, y1, z1⟩, st⟩ := X.virtualBack C.x (y := y) (z := y) C.o (mvT C.z w1) (mvT C.z wd) (notFace_of_selects (args := #[]) (mvT C.z wn)) (mvT C.z wn) (mvT C.z w2) hy (backOf (W := W) hM C.z w4 w3 hfr hlo) qa qc (g := mkF m pc Ls St) rfl (by rw [C.mx]; exact hLs) (Steps.refl _) (argsL := argsL) (rest := rest) (lenOf hpd hln) hst (by show 2 * 0 + _ ≤ _; omega) (hb C.b hd) (fun _ _ => ⟨rfl, eT, hce, hsl⟩)
  dsimp only [Pt.U, Pt.locs, Pt.cells, Pt.slots] at X' l1 y1 z1 st hQ
  subst l1 y1 z1
  exact Go.via (fun t q => st.trans q) (kk T' v L X' hQ)
theorem g_getfield {R0 O nf df : String} {index : Nat} {v : Value} (C : Cx Z a0 p s m meth c bs ml own nm rt) (X : Stand p l e R s m args below meth c T locs cells slots) (hd : decode bs pc = .ok (.getfield index, 3)) (eT : T.heap = h) (w : (Jvm.Cond.fieldLink own index R0 nf df).before a0 Z = true) (via : Via Z R0 O nf df) (F : Fld Z h a O nf df v) (hp : pc + 3 = pc')
    (kk : ∀ T', Stand p l e R s m args below meth c T' locs cells slots → T'.heap = h → Go p e below s m Q Cc Sc T' pc' Ls (v :: St)) : Go p e below s m Q Cc Sc T pc Ls (.ref a :: St) := by
  subst hp
  obtain ⟨T', X', e', st⟩ := getF X C.x C.z C.o (host := "") (Or.inl w) via eT F (g := mkF m pc Ls (.ref a :: St)) rfl rfl (hb C.b hd)
  exact Go.via st (kk T' X' e')
theorem g_new {K : String} {index n : Nat} (C : Cx Z a0 p s m meth c bs ml own nm rt) (X : Stand p l e R s m args below meth c T locs cells slots) (hd : decode bs pc = .ok (.new index, 3)) (eT : T.heap = h) (w1 : (Jvm.Cond.classLink own index K).before a0 Z = true) (w2 : (Jvm.Cond.instantiable K n).before a0 Z = true) (w3 : (Jvm.Cond.initialized K).before a0 Z = true) (hc : cells + 1 ≤ R.cells) (hl : slots + n ≤ R.slots) (hp : pc + 3 = pc')
    (kk : ∀ T' h', Stand p l e R s m args below meth c T' locs (cells + 1) (slots + n) → T'.heap = h' → Ext h h' → h.size < h'.size → ∀ a, a = h.size → Exa Z h' a K → (∀ {O nf d : String} {ty : FieldType}, Laid Z a0 K O nf d → parseFieldDescriptor d = some ty → Fld Z h' a O nf d (defaultValue ty)) → Go p e below s m Q Cc Sc T' pc' Ls (.ref a :: St)) : Go p e below s m Q Cc Sc T pc Ls St := by
  subst hp
  obtain ⟨T', h', X', e', E, A, D, -, st⟩ := newO X C.x C.z C.o w1 w2 w3 eT (g := mkF m pc Ls St) rfl (hb C.b hd) hc hl
  exact Go.via st (kk T' h' X' e' E A.lt _ rfl A D)
theorem g_putfield {R0 O nf df K : String} {index kk' : Nat} {ty : FieldType} {v old : Value} (C : Cx Z a0 p s m meth c bs ml own nm rt) (X : Stand p l e R s m args below meth c T locs cells slots) (hd : decode bs pc = .ok (.putfield index, 3)) (eT : T.heap = h) (w : (Jvm.Cond.fieldLink own index R0 nf df).before a0 Z = true) (via : Via Z R0 O nf df) (F : Fld Z h a O nf df old) (E : Exa Z h a K) (L : (Jvm.Cond.lays K O nf df).before a0 Z = true ∨ ((Jvm.Cond.laysFinal K O nf df).before a0 Z = true ∧ own = O ∧ nm = "<init>")) (wi : (Jvm.Cond.instantiable K kk').before a0 Z = true) (hty : parseFieldDescriptor df = some ty) (hn : narrow ty v = v) (hf : fits ty v = true) (hp : pc + 3 = pc')
    (kk : ∀ T' h', Stand p l e R s m args below meth c T' (locs ++ [⟨a, Jvm.RoadKit.slotOf Z O nf df⟩]) cells slots → T'.heap = h' → Wr h h' a (Jvm.RoadKit.slotOf Z O nf df) v → Fld Z h' a O nf df v → Exa Z h' a K → Go p e below s m Q Cc Sc T' pc' Ls St) : Go p e below s m Q Cc Sc T pc Ls (v :: .ref a :: St) := by
  subst hp
  obtain ⟨T', h', X', e', W, st⟩ := putF X C.x C.z C.o (host := "") (Or.inl w) via eT F E (L.imp id fun q => ⟨q.1, q.2.1, by rw [C.n]; exact q.2.2⟩) wi hty hn hf (g := mkF m pc Ls (v :: .ref a :: St)) rfl rfl (hb C.b hd)
  exact Go.via st (kk T' h' X' e' W (F.same W) (E.wr W))
theorem g_initO {idx W : Nat} (C : Cx Z a0 p s m meth c bs ml own nm rt) (X : Stand p l e R s m args below meth c T locs cells slots) (hd : decode bs pc = .ok (.invokespecial idx, 3)) (eT : T.heap = h) (w1 : (Jvm.Cond.methodLink own idx Lib.objectInit).before a0 Z = true) (w2 : (Jvm.Cond.instanceMethod Lib.objectInit).before a0 Z = true) (w3 : (Jvm.Cond.code Lib.objectInit ⟨#[0xb1]⟩ 1 none).before a0 Z = true) (hLs : Ls.size = ml) (hf : 1 ≤ R.frames) (hW : (St.map fun v => v.category).sum ≤ W) (hl : W + 12 ≤ R.locals) (hp : pc + 3 = pc')
    (kk : ∀ T', Stand p l e R s m args below meth c T' locs cells slots → T'.heap = h → Go p e below s m Q Cc Sc T' pc' Ls St) : Go p e below s m Q Cc Sc T pc Ls (.ref a :: St) := by
  subst hp
  obtain ⟨T', X', e', st⟩ := initO X C.x C.z C.o w1 w2 w3 eT (g := mkF m pc Ls (.ref a :: St)) rfl (by rw [C.mx]; exact hLs) rfl (hb C.b hd) hf (W := W) (by show 2 * 0 + _ ≤ _; omega) hl
  exact Go.via st (kk T' X' e')
end Own
/-- numbers -/
theorem own_inj32 {x y : Int32} (h : x.toInt = y.toInt) : x = y := Int32.toInt_inj.mp h
theorem own_inj64 {x y : Int64} (h : x.toInt = y.toInt) : x = y := Int64.toInt_inj.mp h
theorem own_nz32 {x : Int32} (h : 1 ≤ x.toInt) : x ≠ 0 := fun q => by rw [q] at h; revert h; decide
theorem own_nz64 {x : Int64} (h : 1 ≤ x.toInt) : x ≠ 0 := fun q => by rw [q] at h; revert h; decide
abbrev LQ (n0 : Nat) : Option Value → Heap → List Loc → Prop := fun v _ L => v = some (.int 1) ∧ Fr n0 L
theorem own_ush0 (x y : Int32) (h : y.toBitVec.toNat % 32 = 0) : (x.toUInt32 >>> (y &&& 31).toUInt32).toInt32 = x := by
  have hz : (y &&& 31) = 0 := by
    apply Int32.toBitVec_inj.mp
    apply BitVec.eq_of_toNat_eq
    rw [Int32.toBitVec_and, BitVec.toNat_and]
    show y.toBitVec.toNat &&& 31 = 0
    rw [show (31 : Nat) = 2 ^ 5 - 1 from rfl, Nat.and_two_pow_sub_one_eq_mod]
    exact h
  rw [hz]
  apply Int32.toBitVec_inj.mp
  show (x.toUInt32 >>> (0 : Int32).toUInt32).toBitVec = x.toBitVec
  rw [UInt32.toBitVec_shiftRight]
  show x.toBitVec >>> ((0 : BitVec 32) % 32) = x.toBitVec
  simp
theorem own_ush (x y : Int32) (k : Nat) (hk : y.toBitVec.toNat % 32 = k) (hx : 0 ≤ x.toInt) : ((x.toUInt32 >>> (y &&& 31).toUInt32).toInt32).toInt = x.toInt / (2 ^ k : Nat) := by
  have hr := rng32 x
  rcases Nat.eq_zero_or_pos k with h0 | h0
  · subst h0
    rw [own_ush0 x y hk]; simp
  · rw [c_iushr x y k hk h0, Int.emod_eq_of_lt hx (by omega)]
theorem own_ushnn (x y : Int32) (hx : 0 ≤ x.toInt) : 0 ≤ ((x.toUInt32 >>> (y &&& 31).toUInt32).toInt32).toInt := by
  rw [own_ush x y _ rfl hx]
  exact Int.ediv_nonneg hx (Int.natCast_nonneg _)
def own_len : Nat → Int → Nat
  | 0, _ => 1
  | k + 1, v => if v < 128 then 1 else own_len k (v / 128) + 1
def own_b (v : Int) (nb j : Nat) : Int := if j + 1 < nb then v / 128 ^ j % 128 - 128 else v / 128 ^ j
theorem own_len1 (k : Nat) (v : Int) : 1 ≤ own_len k v := by
  cases k with
  | zero => exact Nat.le_refl _
  | succ k => unfold own_len; split <;> omega
theorem own_of {n : Int} (h1 : -2147483648 ≤ n) (h2 : n < 2147483648) : (Int32.ofInt n).toInt = n := Int32.toInt_ofInt_of_le h1 h2
theorem own_w1 (r : Int32) (h0 : 0 ≤ r.toInt) (h1 : r.toInt < 128) : nar .byte (r.toInt8.toInt32) = Int32.ofInt r.toInt := by
  apply own_inj32
  rw [own_of (by omega) (by omega)]
  have q1 := c_i2b r
  have q2 := c_i2b (r.toInt8.toInt32)
  show (r.toInt8.toInt32.toInt8.toInt32).toInt = _
  omega
theorem own_e (y : Int32) (a : Int32) (ha : a.toInt % 128 = 0) (hy : 0 ≤ y.toInt) : (((y &&& (127 : Int32)) ||| a).toInt - (a.toInt + y.toInt % 128)) % 4294967296 = 0 := by
  have q1 := c_mask y (127 : Int32) 7 (by decide) (by decide)
  have q1' : (y &&& (127 : Int32)).toInt = y.toInt % 128 := q1
  have q2 := c_or' (y &&& (127 : Int32)) a 7 (by decide) 128 (by decide) ha (by omega) (by omega)
  omega
theorem own_w2 (r : Int32) (h0 : 0 ≤ r.toInt) : nar .byte (((r &&& (127 : Int32)) ||| (128 : Int32)).toInt8.toInt32) = Int32.ofInt (r.toInt % 128 - 128) := by
  apply own_inj32
  rw [own_of (by omega) (by omega)]
  have q0 := own_e r (128 : Int32) (by decide) h0
  rw [show (128 : Int32).toInt = 128 by decide] at q0
  have q1 := c_i2b ((r &&& (127 : Int32)) ||| (128 : Int32))
  have q2 := c_i2b (((r &&& (127 : Int32)) ||| (128 : Int32)).toInt8.toInt32)
  show (((r &&& (127 : Int32)) ||| (128 : Int32)).toInt8.toInt32.toInt8.toInt32).toInt = _
  omega
theorem own_b0 (v : Int) : own_b v 1 0 = v := by
  unfold own_b; simp
theorem own_bS0 (v : Int) (nb : Nat) (h : 1 ≤ nb) : own_b v (nb + 1) 0 = v % 128 - 128 := by
  unfold own_b; rw [if_pos (by omega)]; simp
theorem own_bS (v : Int) (nb j : Nat) (hv : 0 ≤ v) : own_b v (nb + 1) (j + 1) = own_b (v / 128) nb j := by
  unfold own_b
  have e : v / 128 ^ (j + 1) = v / 128 / 128 ^ j := by
    rw [Int.pow_succ, Int.mul_comm, Int.ediv_ediv_of_nonneg (by omega)]
  rw [e]
  by_cases q : j + 1 < nb
  · rw [if_pos q, if_pos (by omega)]
  · rw [if_neg q, if_neg (by omega)]
theorem own_down {k : Nat} {v : Int} (h0 : 0 ≤ v) (h : v < 128 ^ (k + 1 + 1)) : v / 128 < 128 ^ (k + 1) := by
  rw [Int.pow_succ] at h
  generalize (128 : Int) ^ (k + 1) = P at *
  omega
theorem own_len4 (v : Int) : own_len 4 v = if v < 128 then 1 else if v < 16384 then 2 else if v < 2097152 then 3 else if v < 268435456 then 4 else 5 := by
  show (if v < 128 then 1 else (if v / 128 < 128 then 1 else (if v / 128 / 128 < 128 then 1 else (if v / 128 / 128 / 128 < 128 then 1 else 1 + 1) + 1) + 1) + 1) = _
  by_cases h1 : v < 128
  · rw [if_pos h1, if_pos h1]
  · rw [if_neg h1, if_neg h1]
    by_cases h2 : v < 16384
    · rw [if_pos h2, if_pos (by omega)]
    · rw [if_neg h2, if_neg (by omega)]
      by_cases h3 : v < 2097152
      · rw [if_pos h3, if_pos (by omega)]
      · rw [if_neg h3, if_neg (by omega)]
        by_cases h4 : v < 268435456
        · rw [if_pos h4, if_pos (by omega)]
        · rw [if_neg h4, if_neg (by omega)]
theorem own_len5 (v : Int) : own_len 4 v ≤ 5 := by
  rw [own_len4]
  split
  · omega
  · split
    · omega
    · split
      · omega
      · split <;> omega
/-- the bytes from place x on are those of v -/
def own_enc (F : Nat → Value) (x : Nat) (v : Int) (n : Nat) : Prop := ∀ j, j < n → F (x + j) = .int (Int32.ofInt (own_b v n j))
theorem own_shor (acc d sh : Int32) (k : Nat) (hk : k ≤ 31) (hs : sh.toBitVec.toNat % 32 = k) (P : Int) (hP : P = (2 ^ k : Nat)) (h0 : 0 ≤ acc.toInt) (h1 : acc.toInt < P) (d0 : 0 ≤ d.toInt) (d1 : d.toInt * P + acc.toInt < 2147483648) : (acc ||| (d <<< (sh &&& 31))).toInt = acc.toInt + d.toInt * P := by
  have q1 := c_ishl d sh k hs
  have r1 := rng32 (d <<< (sh &&& 31))
  rw [← hP] at q1
  have hP0 : 0 ≤ d.toInt * P := Int.mul_nonneg d0 (by omega)
  have q2 : (d <<< (sh &&& 31)).toInt = d.toInt * P := by omega
  have q3 : (d <<< (sh &&& 31)).toInt % P = 0 := by rw [q2]; exact Int.mul_emod_left _ _
  have q4 := c_or' acc (d <<< (sh &&& 31)) k hk P hP q3 h0 h1
  have r2 := rng32 (acc ||| (d <<< (sh &&& 31)))
  omega
theorem d1_0 : decode prog_8_method_3_code 0 = .ok (.iload_n 2, 1) := by decide +kernel
theorem d1_1 : decode prog_8_method_3_code 1 = .ok (.istore_n 3, 1) := by decide +kernel
theorem d1_2 : decode prog_8_method_3_code 2 = .ok (.iload_n 1, 1) := by decide +kernel
theorem d1_3 : decode prog_8_method_3_code 3 = .ok (.istore 4, 2) := by decide +kernel
theorem d1_5 : decode prog_8_method_3_code 5 = .ok (.iload_n 3, 1) := by decide +kernel
theorem d1_6 : decode prog_8_method_3_code 6 = .ok (.sipush 128, 3) := by decide +kernel
theorem d1_9 : decode prog_8_method_3_code 9 = .ok (.if_icmp .lt 27, 3) := by decide +kernel
theorem d1_12 : decode prog_8_method_3_code 12 = .ok (.aload_n 0, 1) := by decide +kernel
theorem d1_13 : decode prog_8_method_3_code 13 = .ok (.iload 4, 2) := by decide +kernel
theorem d1_15 : decode prog_8_method_3_code 15 = .ok (.iinc 4 1, 3) := by decide +kernel
theorem d1_18 : decode prog_8_method_3_code 18 = .ok (.iload_n 3, 1) := by decide +kernel
theorem d1_19 : decode prog_8_method_3_code 19 = .ok (.bipush 127, 2) := by decide +kernel
theorem d1_21 : decode prog_8_method_3_code 21 = .ok (.iand, 1) := by decide +kernel
theorem d1_22 : decode prog_8_method_3_code 22 = .ok (.sipush 128, 3) := by decide +kernel
theorem d1_25 : decode prog_8_method_3_code 25 = .ok (.ior, 1) := by decide +kernel
theorem d1_26 : decode prog_8_method_3_code 26 = .ok (.i2b, 1) := by decide +kernel
theorem d1_27 : decode prog_8_method_3_code 27 = .ok (.bastore, 1) := by decide +kernel
theorem d1_28 : decode prog_8_method_3_code 28 = .ok (.iload_n 3, 1) := by decide +kernel
theorem d1_29 : decode prog_8_method_3_code 29 = .ok (.bipush 7, 2) := by decide +kernel
theorem d1_31 : decode prog_8_method_3_code 31 = .ok (.iushr, 1) := by decide +kernel
theorem d1_32 : decode prog_8_method_3_code 32 = .ok (.istore_n 3, 1) := by decide +kernel
theorem d1_33 : decode prog_8_method_3_code 33 = .ok (.goto (-28), 3) := by decide +kernel
theorem d1_36 : decode prog_8_method_3_code 36 = .ok (.aload_n 0, 1) := by decide +kernel
theorem d1_37 : decode prog_8_method_3_code 37 = .ok (.iload 4, 2) := by decide +kernel
theorem d1_39 : decode prog_8_method_3_code 39 = .ok (.iinc 4 1, 3) := by decide +kernel
theorem d1_42 : decode prog_8_method_3_code 42 = .ok (.iload_n 3, 1) := by decide +kernel
theorem d1_43 : decode prog_8_method_3_code 43 = .ok (.i2b, 1) := by decide +kernel
theorem d1_44 : decode prog_8_method_3_code 44 = .ok (.bastore, 1) := by decide +kernel
theorem d1_45 : decode prog_8_method_3_code 45 = .ok (.iload 4, 2) := by decide +kernel
theorem d1_47 : decode prog_8_method_3_code 47 = .ok (.ireturn, 1) := by decide +kernel
theorem pn_1 : plainFor (⟨"com/example/overscore/overscore/index/VarInt", "put", "([BII)I"⟩ : MethodName) = true := plainFor_of_name (by first | (simp [plainName, overriddenIn]; done) | decide +kernel)
theorem pd_1 : parseMethodDescriptor "([BII)I" = some ⟨[(.array .byte), .int, .int], some .int⟩ := by decide +kernel
theorem ef_1 (x0 : Addr) (x1 : Int32) (x2 : Int32) (m : MethodId) : entryFrame m #[(.ref x0), (.int x1), (.int x2)] 5 = mkF m 0 #[.val (.ref x0), .val (.int x1), .val (.int x2), .unset, .unset] [] := by first | (simp [entryFrame, mkF, argsToLocals, Value.category]; done) | rfl
theorem d2_0 : decode prog_8_method_4_code 0 = .ok (.iload_n 1, 1) := by decide +kernel
theorem d2_1 : decode prog_8_method_4_code 1 = .ok (.istore 4, 2) := by decide +kernel
theorem d2_3 : decode prog_8_method_4_code 3 = .ok (.iconst 0, 1) := by decide +kernel
theorem d2_4 : decode prog_8_method_4_code 4 = .ok (.istore 5, 2) := by decide +kernel
theorem d2_6 : decode prog_8_method_4_code 6 = .ok (.iload 5, 2) := by decide +kernel
theorem d2_8 : decode prog_8_method_4_code 8 = .ok (.iload_n 3, 1) := by decide +kernel
theorem d2_9 : decode prog_8_method_4_code 9 = .ok (.if_icmp .ge 68, 3) := by decide +kernel
theorem d2_12 : decode prog_8_method_4_code 12 = .ok (.aload_n 0, 1) := by decide +kernel
theorem d2_13 : decode prog_8_method_4_code 13 = .ok (.iload 4, 2) := by decide +kernel
theorem d2_15 : decode prog_8_method_4_code 15 = .ok (.iinc 4 1, 3) := by decide +kernel
theorem d2_18 : decode prog_8_method_4_code 18 = .ok (.baload, 1) := by decide +kernel
theorem d2_19 : decode prog_8_method_4_code 19 = .ok (.istore 6, 2) := by decide +kernel
theorem d2_21 : decode prog_8_method_4_code 21 = .ok (.iload 6, 2) := by decide +kernel
theorem d2_23 : decode prog_8_method_4_code 23 = .ok (.bipush 127, 2) := by decide +kernel
theorem d2_25 : decode prog_8_method_4_code 25 = .ok (.iand, 1) := by decide +kernel
theorem d2_26 : decode prog_8_method_4_code 26 = .ok (.istore 7, 2) := by decide +kernel
theorem d2_28 : decode prog_8_method_4_code 28 = .ok (.bipush 7, 2) := by decide +kernel
theorem d2_30 : decode prog_8_method_4_code 30 = .ok (.istore 8, 2) := by decide +kernel
theorem d2_32 : decode prog_8_method_4_code 32 = .ok (.iload 6, 2) := by decide +kernel
theorem d2_34 : decode prog_8_method_4_code 34 = .ok (.ifCond .ge 31, 3) := by decide +kernel
theorem d2_37 : decode prog_8_method_4_code 37 = .ok (.aload_n 0, 1) := by decide +kernel
theorem d2_38 : decode prog_8_method_4_code 38 = .ok (.iload 4, 2) := by decide +kernel
theorem d2_40 : decode prog_8_method_4_code 40 = .ok (.iinc 4 1, 3) := by decide +kernel
theorem d2_43 : decode prog_8_method_4_code 43 = .ok (.baload, 1) := by decide +kernel
theorem d2_44 : decode prog_8_method_4_code 44 = .ok (.istore 6, 2) := by decide +kernel
theorem d2_46 : decode prog_8_method_4_code 46 = .ok (.iload 7, 2) := by decide +kernel
theorem d2_48 : decode prog_8_method_4_code 48 = .ok (.iload 6, 2) := by decide +kernel
theorem d2_50 : decode prog_8_method_4_code 50 = .ok (.bipush 127, 2) := by decide +kernel
theorem d2_52 : decode prog_8_method_4_code 52 = .ok (.iand, 1) := by decide +kernel
theorem d2_53 : decode prog_8_method_4_code 53 = .ok (.iload 8, 2) := by decide +kernel
theorem d2_55 : decode prog_8_method_4_code 55 = .ok (.ishl, 1) := by decide +kernel
theorem d2_56 : decode prog_8_method_4_code 56 = .ok (.ior, 1) := by decide +kernel
theorem d2_57 : decode prog_8_method_4_code 57 = .ok (.istore 7, 2) := by decide +kernel
theorem d2_59 : decode prog_8_method_4_code 59 = .ok (.iinc 8 7, 3) := by decide +kernel
theorem d2_62 : decode prog_8_method_4_code 62 = .ok (.goto (-30), 3) := by decide +kernel
theorem d2_65 : decode prog_8_method_4_code 65 = .ok (.aload_n 2, 1) := by decide +kernel
theorem d2_66 : decode prog_8_method_4_code 66 = .ok (.iload 5, 2) := by decide +kernel
theorem d2_68 : decode prog_8_method_4_code 68 = .ok (.iload 7, 2) := by decide +kernel
theorem d2_70 : decode prog_8_method_4_code 70 = .ok (.iastore, 1) := by decide +kernel
theorem d2_71 : decode prog_8_method_4_code 71 = .ok (.iinc 5 1, 3) := by decide +kernel
theorem d2_74 : decode prog_8_method_4_code 74 = .ok (.goto (-68), 3) := by decide +kernel
theorem d2_77 : decode prog_8_method_4_code 77 = .ok (.iload 4, 2) := by decide +kernel
theorem d2_79 : decode prog_8_method_4_code 79 = .ok (.ireturn, 1) := by decide +kernel
theorem pn_2 : plainFor (⟨"com/example/overscore/overscore/index/VarInt", "get", "([BI[II)I"⟩ : MethodName) = true := plainFor_of_name (by first | (simp [plainName, overriddenIn]; done) | decide +kernel)
theorem pd_2 : parseMethodDescriptor "([BI[II)I" = some ⟨[(.array .byte), .int, (.array .int), .int], some .int⟩ := by decide +kernel
theorem ef_2 (x0 : Addr) (x1 : Int32) (x2 : Addr) (x3 : Int32) (m : MethodId) : entryFrame m #[(.ref x0), (.int x1), (.ref x2), (.int x3)] 9 = mkF m 0 #[.val (.ref x0), .val (.int x1), .val (.ref x2), .val (.int x3), .unset, .unset, .unset, .unset, .unset] [] := by first | (simp [entryFrame, mkF, argsToLocals, Value.category]; done) | rfl
theorem d3_0 : decode method_2_code 0 = .ok (.iload_n 0, 1) := by decide +kernel
theorem d3_1 : decode method_2_code 1 = .ok (.sipush 128, 3) := by decide +kernel
theorem d3_4 : decode method_2_code 4 = .ok (.if_icmp .ge 5, 3) := by decide +kernel
theorem d3_7 : decode method_2_code 7 = .ok (.iconst 1, 1) := by decide +kernel
theorem d3_8 : decode method_2_code 8 = .ok (.ireturn, 1) := by decide +kernel
theorem d3_9 : decode method_2_code 9 = .ok (.iload_n 0, 1) := by decide +kernel
theorem d3_10 : decode method_2_code 10 = .ok (.sipush 16384, 3) := by decide +kernel
theorem d3_13 : decode method_2_code 13 = .ok (.if_icmp .ge 5, 3) := by decide +kernel
theorem d3_16 : decode method_2_code 16 = .ok (.iconst 2, 1) := by decide +kernel
theorem d3_17 : decode method_2_code 17 = .ok (.ireturn, 1) := by decide +kernel
theorem d3_18 : decode method_2_code 18 = .ok (.iload_n 0, 1) := by decide +kernel
theorem d3_19 : decode method_2_code 19 = .ok (.ldc 7, 2) := by decide +kernel
theorem d3_21 : decode method_2_code 21 = .ok (.if_icmp .ge 5, 3) := by decide +kernel
theorem d3_24 : decode method_2_code 24 = .ok (.iconst 3, 1) := by decide +kernel
theorem d3_25 : decode method_2_code 25 = .ok (.ireturn, 1) := by decide +kernel
theorem d3_26 : decode method_2_code 26 = .ok (.iload_n 0, 1) := by decide +kernel
theorem d3_27 : decode method_2_code 27 = .ok (.ldc 8, 2) := by decide +kernel
theorem d3_29 : decode method_2_code 29 = .ok (.if_icmp .ge 5, 3) := by decide +kernel
theorem d3_32 : decode method_2_code 32 = .ok (.iconst 4, 1) := by decide +kernel
theorem d3_33 : decode method_2_code 33 = .ok (.ireturn, 1) := by decide +kernel
theorem d3_34 : decode method_2_code 34 = .ok (.iconst 5, 1) := by decide +kernel
theorem d3_35 : decode method_2_code 35 = .ok (.ireturn, 1) := by decide +kernel
theorem pn_3 : plainFor (⟨"com/example/overscore/overscore/index/VarIntGetPinLaw", "len", "(I)I"⟩ : MethodName) = true := plainFor_of_name (by first | (simp [plainName, overriddenIn]; done) | decide +kernel)
theorem pd_3 : parseMethodDescriptor "(I)I" = some ⟨[.int], some .int⟩ := by decide +kernel
theorem ef_3 (x0 : Int32) (m : MethodId) : entryFrame m #[(.int x0)] 1 = mkF m 0 #[.val (.int x0)] [] := by first | (simp [entryFrame, mkF, argsToLocals, Value.category]; done) | rfl
theorem pn_0 : plainFor x = true := plainFor_of_name (by first | (simp [plainName, overriddenIn]; done) | decide +kernel)
theorem pd_0 : parseMethodDescriptor "(IIIIII)Z" = some ⟨[.int, .int, .int, .int, .int, .int], some .boolean⟩ := by decide +kernel
theorem ef_0 (x0 : Int32) (x1 : Int32) (x2 : Int32) (x3 : Int32) (x4 : Int32) (x5 : Int32) (m : MethodId) : entryFrame m #[(.int x0), (.int x1), (.int x2), (.int x3), (.int x4), (.int x5)] maxLocals = mkF m 0 #[.val (.int x0), .val (.int x1), .val (.int x2), .val (.int x3), .val (.int x4), .val (.int x5), .unset, .unset, .unset, .unset, .unset, .unset, .unset, .unset, .unset, .unset, .unset, .unset] [] := by first | (simp [entryFrame, mkF, argsToLocals, Value.category, maxLocals]; done) | rfl
set_option maxRecDepth 65536 in
set_option maxHeartbeats 40000000 in
theorem loop_put {p : Program} {l : Launch} {e : Env} {R : Room} {s : State} {m : MethodId} {args : Array Value} {below : List Frame} {meth : Method} {c : Code} {cells slots : Nat} {Z : State} {a0 : Array Value} {Q : Option Value → Heap → List Loc → Prop} {Cc Sc : Nat} {a : Addr} {x1 x2 : Int32} {N n0 : Nat}
    (C : Cx Z a0 p s m meth c prog_8_method_3_code 5 "com/example/overscore/overscore/index/VarInt" "put" (some .int)) (ga : n0 ≤ a) (hC : cells ≤ Cc) (hS : slots ≤ Sc) (hN : N < 2147483648) :
    ∀ (k : Nat) (T0 : State) (locs : List Loc) (h0 : Heap) (f : Nat → Value) (rest nxt : Int32), Stand p l e R s m args below meth c T0 locs cells slots → T0.heap = h0 → Fr n0 locs → n0 ≤ h0.size → Aw Z h0 a .byte N f → 0 ≤ rest.toInt → rest.toInt < 128 ^ (k + 1) → 0 ≤ nxt.toInt → nxt.toInt + k + 1 ≤ N → (∀ h' L' res, Keep h0 h' [a] → Fr n0 L' → res.toInt = nxt.toInt + own_len k rest.toInt → Aw Z h' a .byte N (fun i => if nxt.toInt ≤ i ∧ (i : Int) < nxt.toInt + own_len k rest.toInt then .int (Int32.ofInt (own_b rest.toInt (own_len k rest.toInt) (i - nxt.toInt.toNat))) else f i) → Q (some (.int res)) h' L') →
    Go p e below s m Q Cc Sc T0 5 #[.val (.ref a), .val (.int x1), .val (.int x2), .val (.int rest), .val (.int nxt)] [] := by
  intro k
  induction k with
  | zero =>
    intro T0 locs h0 f rest nxt X0 e0 N0 Z0 A r0 r1 i0 i1 kQ
    have r1 : rest.toInt < 128 := by simpa using r1
    refine g_iloadN C X0 d1_5 rfl rfl ?_
    refine g_sipush C X0 (128 : Int32) d1_6 rfl rfl ?_
    refine g_icmp C X0 d1_9 (by decide) rfl rfl ?_ ?_
    · intro h9
      have h9 : rest.toInt < 128 := h9
      refine g_aloadN C X0 d1_36 rfl rfl ?_
      refine g_iload C X0 d1_37 rfl rfl ?_
      refine g_iincV C X0 d1_39 rfl (y := (1 : Int32)) rfl (fun v__ => #[.val (.ref a), .val (.int x1), .val (.int x2), .val (.int rest), .val (.int v__)]) rfl rfl ?_
      intro v39 h_v39
      have q39 := c_iadd nxt (1 : Int32)
      rw [show (1 : Int32).toInt = 1 by decide, ← h_v39] at q39
      have rq39 := rng32 v39
      have q39 : v39.toInt = nxt.toInt + 1 := by omega
      refine g_iloadN C X0 d1_42 rfl rfl ?_
      refine g_i2b C X0 d1_43 rfl ?_
      refine g_bastore C X0 d1_44 e0 A (by omega) (by omega) rfl ?_
      intro T1 h1_ X1 e1 W1 A1
      have N1 := Fr.snoc X1 N0 ga
      have Z1 : n0 ≤ h1_.size := Nat.le_trans Z0 (Keep.of_wr W1).1
      refine g_iload C X1 d1_45 rfl rfl ?_
      refine g_ireturn C X1 d1_47 rfl ?_ hC hS
      rw [e1]
      have hl : own_len 0 rest.toInt = 1 := by rfl
      refine kQ _ _ _ (Keep.of_wr W1) N1 (by rw [hl]; omega) (Aw.of A1 ?_)
      intro j hj
      rw [hl]
      by_cases q : (j : Int) = nxt.toInt
      · rw [if_pos q, if_pos (by omega), show j - nxt.toInt.toNat = 0 by omega, own_b0, own_w1 rest r0 (by omega)]
      · rw [if_neg q, if_neg (by omega)]
    · intro h9
      have h9 : rest.toInt ≥ 128 := h9
      exfalso; omega
  | succ k ih =>
    intro T0 locs h0 f rest nxt X0 e0 N0 Z0 A r0 r1 i0 i1 kQ
    refine g_iloadN C X0 d1_5 rfl rfl ?_
    refine g_sipush C X0 (128 : Int32) d1_6 rfl rfl ?_
    refine g_icmp C X0 d1_9 (by decide) rfl rfl ?_ ?_
    · intro h9
      have h9 : rest.toInt < 128 := h9
      refine g_aloadN C X0 d1_36 rfl rfl ?_
      refine g_iload C X0 d1_37 rfl rfl ?_
      refine g_iincV C X0 d1_39 rfl (y := (1 : Int32)) rfl (fun v__ => #[.val (.ref a), .val (.int x1), .val (.int x2), .val (.int rest), .val (.int v__)]) rfl rfl ?_
      intro v39 h_v39
      have q39 := c_iadd nxt (1 : Int32)
      rw [show (1 : Int32).toInt = 1 by decide, ← h_v39] at q39
      have rq39 := rng32 v39
      have q39 : v39.toInt = nxt.toInt + 1 := by omega
      refine g_iloadN C X0 d1_42 rfl rfl ?_
      refine g_i2b C X0 d1_43 rfl ?_
      refine g_bastore C X0 d1_44 e0 A (by omega) (by omega) rfl ?_
      intro T1 h1_ X1 e1 W1 A1
      have N1 := Fr.snoc X1 N0 ga
      have Z1 : n0 ≤ h1_.size := Nat.le_trans Z0 (Keep.of_wr W1).1
      refine g_iload C X1 d1_45 rfl rfl ?_
      refine g_ireturn C X1 d1_47 rfl ?_ hC hS
      rw [e1]
      have hl : own_len (k + 1) rest.toInt = 1 := by unfold own_len; rw [if_pos (by omega)]
      refine kQ _ _ _ (Keep.of_wr W1) N1 (by rw [hl]; omega) (Aw.of A1 ?_)
      intro j hj
      rw [hl]
      by_cases q : (j : Int) = nxt.toInt
      · rw [if_pos q, if_pos (by omega), show j - nxt.toInt.toNat = 0 by omega, own_b0, own_w1 rest r0 (by omega)]
      · rw [if_neg q, if_neg (by omega)]
    · intro h9
      have h9 : rest.toInt ≥ 128 := h9
      refine g_aloadN C X0 d1_12 rfl rfl ?_
      refine g_iload C X0 d1_13 rfl rfl ?_
      refine g_iincV C X0 d1_15 rfl (y := (1 : Int32)) rfl (fun v__ => #[.val (.ref a), .val (.int x1), .val (.int x2), .val (.int rest), .val (.int v__)]) rfl rfl ?_
      intro v15 h_v15
      have q15 := c_iadd nxt (1 : Int32)
      rw [show (1 : Int32).toInt = 1 by decide, ← h_v15] at q15
      have rq15 := rng32 v15
      have q15 : v15.toInt = nxt.toInt + 1 := by omega
      refine g_iloadN C X0 d1_18 rfl rfl ?_
      refine g_bipush C X0 (127 : Int32) d1_19 rfl rfl ?_
      refine g_iand C X0 d1_21 rfl ?_
      refine g_sipush C X0 (128 : Int32) d1_22 rfl rfl ?_
      refine g_ior C X0 d1_25 rfl ?_
      refine g_i2b C X0 d1_26 rfl ?_
      refine g_bastore C X0 d1_27 e0 A (by omega) (by omega) rfl ?_
      intro T2 h2_ X2 e2 W2 A2
      have N2 := Fr.snoc X2 N0 ga
      have Z2 : n0 ≤ h2_.size := Nat.le_trans Z0 (Keep.of_wr W2).1
      refine g_iloadN C X2 d1_28 rfl rfl ?_
      refine g_bipush C X2 (7 : Int32) d1_29 rfl rfl ?_
      refine g_iushr C X2 d1_31 rfl ?_
      refine g_istoreNV C X2 d1_32 (fun v__ => #[.val (.ref a), .val (.int x1), .val (.int x2), .val (.int v__), .val (.int v15)]) rfl rfl ?_
      intro v32 h_v32
      have q32 := own_ush rest (7 : Int32) 7 (by decide) r0
      rw [← h_v32] at q32
      have q32 : v32.toInt = rest.toInt / 128 := q32
      refine g_goto C X2 d1_33 (by decide) rfl ?_
      refine ih T2 _ h2_ _ v32 v15 X2 e2 N2 Z2 A2 (by omega) (by rw [q32]; exact own_down r0 r1) (by omega) (by omega) ?_
      intro h' L' res K' N' hres A'
      have hl : own_len (k + 1) rest.toInt = own_len k v32.toInt + 1 := by
        rw [q32]
        show (if rest.toInt < 128 then 1 else own_len k (rest.toInt / 128) + 1) = _
        rw [if_neg (by omega)]
      have hl1 := own_len1 k v32.toInt
      refine kQ h' L' res ((Keep.of_wr W2).trans K' (fun x hx => Or.inl hx)) N' (by rw [hl]; omega) (Aw.of A' ?_)
      intro j hj
      rw [hl]
      by_cases q : v15.toInt ≤ j ∧ (j : Int) < v15.toInt + own_len k v32.toInt
      · rw [if_pos q, if_pos (by omega), show j - nxt.toInt.toNat = (j - v15.toInt.toNat) + 1 by omega, own_bS _ _ _ r0, q32]
      · rw [if_neg q]
        by_cases q2 : (j : Int) = nxt.toInt
        · rw [if_pos q2, if_pos (by omega), show j - nxt.toInt.toNat = 0 by omega, own_bS0 _ _ hl1, own_w2 rest r0]
        · rw [if_neg q2, if_neg (by omega)]
def Q_rm1 (Z : State) (a : Addr) (x1 : Int32) (x2 : Int32) (N : Nat) (f : Nat → Value) (h0 : Heap) (n0 : Nat) (v : Option Value) (h : Heap) (L : List Loc) : Prop := (∃ res : Int32, v = some (.int res) ∧ res.toInt = x1.toInt + own_len 4 x2.toInt) ∧ Fr n0 L ∧ Keep h0 h [a] ∧ Aw Z h a .byte N (fun i => if x1.toInt ≤ i ∧ (i : Int) < x1.toInt + own_len 4 x2.toInt then .int (Int32.ofInt (own_b x2.toInt (own_len 4 x2.toInt) (i - x1.toInt.toNat))) else f i)
set_option maxRecDepth 65536 in
set_option maxHeartbeats 40000000 in
theorem rm1 (l : Launch) (Z : State) (a0 : Array Value) (hw : ∀ d ∈ tables_1, d.before a0 Z = true) (ws : List Jvm.Cond) (a : Addr) (x1 : Int32) (x2 : Int32) (N : Nat) (f : Nat → Value) (h0 : Heap) (n0 : Nat) (Z0 : n0 ≤ h0.size) (ga : n0 ≤ a) (hN : N < 2147483648) (A : Aw Z h0 a .byte N f) (v0 : 0 ≤ x2.toInt) (i0 : 0 ≤ x1.toInt) (i1 : x1.toInt + 5 ≤ N) :
    MetFree l (⟨"com/example/overscore/overscore/index/VarInt", "put", "([BII)I"⟩ : MethodName) (head1 (Jvm.Cond.code (⟨"com/example/overscore/overscore/index/VarInt", "put", "([BII)I"⟩ : MethodName) prog_8_method_3_code 5 (some .int) :: ws) ({ frames := 0, cells := 0, slots := 0, locals := 0 } : Room)) (fun aa U => aa = #[(.ref a), (.int x1), (.int x2)] ∧ Z.Warmed39 U.vm ∧ U.heap = h0) (fun _ _ _ _ _ => True) (fun _ U oo U' => ∃ rv Lr, oo = .returned rv ∧ Q_rm1 Z a x1 x2 N f h0 n0 rv U'.heap Lr ∧ FrameEnd U oo U' Lr ({ frames := 0, cells := 0, slots := 0, locals := 0 } : Room).cells ({ frames := 0, cells := 0, slots := 0, locals := 0 } : Room).slots) := by
  refine g_enter pn_1 hw (ef_1 a x1 x2) ?_
  intro p e s m below meth c T0 C X0 e0
  have C : Cx Z a0 p s m meth c prog_8_method_3_code 5 "com/example/overscore/overscore/index/VarInt" "put" (some .int) := C
  have N0 := Fr.nil n0
  refine g_iloadN C X0 d1_0 rfl rfl ?_
  refine g_istoreN C X0 d1_1 #[.val (.ref a), .val (.int x1), .val (.int x2), .val (.int x2), .unset] rfl rfl ?_
  refine g_iloadN C X0 d1_2 rfl rfl ?_
  refine g_istore C X0 d1_3 #[.val (.ref a), .val (.int x1), .val (.int x2), .val (.int x2), .val (.int x1)] rfl rfl ?_
  have rv := rng32 x2
  have hp5 : (128 : Int) ^ (4 + 1) = 34359738368 := by decide
  exact loop_put C ga (by decide) (by decide) hN 4 _ _ _ f x2 x1 X0 e0 N0 Z0 A v0 (by omega) i0 (by omega) (fun h' L' res K' N' hres A' => ⟨⟨res, rfl, hres⟩, N', K', A'⟩)
def Q_rm3 (Z : State) (x0 : Int32) (h0 : Heap) (n0 : Nat) (v : Option Value) (h : Heap) (L : List Loc) : Prop := (∃ r : Int32, v = some (.int r) ∧ r.toInt = own_len 4 x0.toInt) ∧ Fr n0 L ∧ h = h0
set_option maxRecDepth 65536 in
set_option maxHeartbeats 40000000 in
theorem rm3 (l : Launch) (Z : State) (a0 : Array Value) (hw : ∀ d ∈ tables_1, d.before a0 Z = true) (ws : List Jvm.Cond) (x0 : Int32) (h0 : Heap) (n0 : Nat) (Z0 : n0 ≤ h0.size) :
    MetFree l (⟨"com/example/overscore/overscore/index/VarIntGetPinLaw", "len", "(I)I"⟩ : MethodName) (head1 (Jvm.Cond.code (⟨"com/example/overscore/overscore/index/VarIntGetPinLaw", "len", "(I)I"⟩ : MethodName) method_2_code 1 (some .int) :: ws) ({ frames := 0, cells := 0, slots := 0, locals := 0 } : Room)) (fun aa U => aa = #[(.int x0)] ∧ Z.Warmed39 U.vm ∧ U.heap = h0) (fun _ _ _ _ _ => True) (fun _ U oo U' => ∃ rv Lr, oo = .returned rv ∧ Q_rm3 Z x0 h0 n0 rv U'.heap Lr ∧ FrameEnd U oo U' Lr ({ frames := 0, cells := 0, slots := 0, locals := 0 } : Room).cells ({ frames := 0, cells := 0, slots := 0, locals := 0 } : Room).slots) := by
  refine g_enter pn_3 hw (ef_3 x0) ?_
  intro p e s m below meth c T0 C X0 e0
  have C : Cx Z a0 p s m meth c method_2_code 1 "com/example/overscore/overscore/index/VarIntGetPinLaw" "len" (some .int) := C
  have N0 := Fr.nil n0
  refine g_iloadN C X0 d3_0 rfl rfl ?_
  refine g_sipush C X0 (128 : Int32) d3_1 rfl rfl ?_
  refine g_icmp C X0 d3_4 (by decide) rfl rfl ?_ ?_
  · intro h4
    have h4 : x0.toInt ≥ 128 := h4
    refine g_iloadN C X0 d3_9 rfl rfl ?_
    refine g_sipush C X0 (16384 : Int32) d3_10 rfl rfl ?_
    refine g_icmp C X0 d3_13 (by decide) rfl rfl ?_ ?_
    · intro h13
      have h13 : x0.toInt ≥ 16384 := h13
      refine g_iloadN C X0 d3_18 rfl rfl ?_
      refine g_ldc C X0 d3_19 (C.t 14 rfl) rfl ?_
      refine g_icmp C X0 d3_21 (by decide) rfl rfl ?_ ?_
      · intro h21
        have h21 : x0.toInt ≥ 2097152 := h21
        refine g_iloadN C X0 d3_26 rfl rfl ?_
        refine g_ldc C X0 d3_27 (C.t 15 rfl) rfl ?_
        refine g_icmp C X0 d3_29 (by decide) rfl rfl ?_ ?_
        · intro h29
          have h29 : x0.toInt ≥ 268435456 := h29
          refine g_iconst C X0 (5 : Int32) d3_34 rfl rfl ?_
          exact g_ireturn C X0 d3_35 rfl ⟨⟨_, rfl, by rw [own_len4]; rw [if_neg (by omega)]; rw [if_neg (by omega)]; rw [if_neg (by omega)]; rw [if_neg (by omega)]; rfl⟩, N0, e0⟩ (by decide) (by decide)
        · intro h29
          have h29 : x0.toInt < 268435456 := h29
          refine g_iconst C X0 (4 : Int32) d3_32 rfl rfl ?_
          exact g_ireturn C X0 d3_33 rfl ⟨⟨_, rfl, by rw [own_len4]; rw [if_neg (by omega)]; rw [if_neg (by omega)]; rw [if_neg (by omega)]; rw [if_pos (by omega)]; rfl⟩, N0, e0⟩ (by decide) (by decide)
      · intro h21
        have h21 : x0.toInt < 2097152 := h21
        refine g_iconst C X0 (3 : Int32) d3_24 rfl rfl ?_
        exact g_ireturn C X0 d3_25 rfl ⟨⟨_, rfl, by rw [own_len4]; rw [if_neg (by omega)]; rw [if_neg (by omega)]; rw [if_pos (by omega)]; rfl⟩, N0, e0⟩ (by decide) (by decide)
    · intro h13
      have h13 : x0.toInt < 16384 := h13
      refine g_iconst C X0 (2 : Int32) d3_16 rfl rfl ?_
      exact g_ireturn C X0 d3_17 rfl ⟨⟨_, rfl, by rw [own_len4]; rw [if_neg (by omega)]; rw [if_pos (by omega)]; rfl⟩, N0, e0⟩ (by decide) (by decide)
  · intro h4
    have h4 : x0.toInt < 128 := h4
    refine g_iconst C X0 (1 : Int32) d3_7 rfl rfl ?_
    exact g_ireturn C X0 d3_8 rfl ⟨⟨_, rfl, by rw [own_len4]; rw [if_pos (by omega)]; rfl⟩, N0, e0⟩ (by decide) (by decide)
set_option maxRecDepth 65536 in
set_option maxHeartbeats 40000000 in
theorem dec_a1 {p : Program} {l : Launch} {e : Env} {R : Room} {s : State} {m : MethodId} {args : Array Value} {below : List Frame} {meth : Method} {c : Code} {T0 : State} {locs : List Loc} {cells slots : Nat} {Z : State} {a0 : Array Value} {h0 : Heap} {Q : Option Value → Heap → List Loc → Prop} {Cc Sc : Nat} {a vs : Addr} {x1 x3 nxt kI : Int32} {F : Nat → Value} {N : Nat} {v : Int32}
    (C : Cx Z a0 p s m meth c prog_8_method_4_code 9 "com/example/overscore/overscore/index/VarInt" "get" (some .int)) (X0 : Stand p l e R s m args below meth c T0 locs cells slots) (e0 : T0.heap = h0) (A : Aw Z h0 a .byte N F) (i0 : 0 ≤ nxt.toInt) (i1 : nxt.toInt + 1 ≤ N) (hN : N < 2147483648) (v0 : 0 ≤ v.toInt) (v1 : v.toInt < 128) (hF : own_enc F nxt.toInt.toNat v.toInt 1)
    (kk : ∀ (nx bb sh : Int32), nx.toInt = nxt.toInt + own_len 4 v.toInt → Go p e below s m Q Cc Sc T0 65 #[.val (.ref a), .val (.int x1), .val (.ref vs), .val (.int x3), .val (.int nx), .val (.int kI), .val (.int bb), .val (.int v), .val (.int sh)] []) :
    Go p e below s m Q Cc Sc T0 12 #[.val (.ref a), .val (.int x1), .val (.ref vs), .val (.int x3), .val (.int nxt), .val (.int kI), .unset, .unset, .unset] [] := by
  have b0 : (Int32.ofInt (own_b v.toInt 1 0)).toInt = v.toInt := by
    have q : own_b v.toInt 1 0 = v.toInt := by unfold own_b; rw [if_neg (by decide)]; simp only [Int.reducePow, Int.ediv_one]
    rw [q, own_of (by omega) (by omega)]
  refine g_aloadN C X0 d2_12 rfl rfl ?_
  refine g_iload C X0 d2_13 rfl rfl ?_
  refine g_iincV C X0 d2_15 rfl (y := (1 : Int32)) rfl (fun v__ => #[.val (.ref a), .val (.int x1), .val (.ref vs), .val (.int x3), .val (.int v__), .val (.int kI), .unset, .unset, .unset]) rfl rfl ?_
  intro v15 h_v15
  have q_v15 := c_iadd nxt (1 : Int32)
  rw [show (1 : Int32).toInt = 1 by decide, ← h_v15] at q_v15
  have r_v15 := rng32 v15
  have q_v15 : v15.toInt = nxt.toInt + 1 := by omega
  refine g_baload C X0 d2_18 e0 A (by omega) (by omega) (v := (.int (Int32.ofInt (own_b v.toInt 1 0)))) (by rw [show nxt.toInt.toNat = nxt.toInt.toNat + 0 by omega]; exact hF 0 (by decide)) rfl ?_
  refine g_istoreV C X0 d2_19 (fun v__ => #[.val (.ref a), .val (.int x1), .val (.ref vs), .val (.int x3), .val (.int v15), .val (.int kI), .val (.int v__), .unset, .unset]) rfl rfl ?_
  intro v19 h_v19
  rw [← h_v19] at b0
  refine g_iload C X0 d2_21 rfl rfl ?_
  refine g_bipush C X0 (127 : Int32) d2_23 rfl rfl ?_
  refine g_iand C X0 d2_25 rfl ?_
  refine g_istoreV C X0 d2_26 (fun v__ => #[.val (.ref a), .val (.int x1), .val (.ref vs), .val (.int x3), .val (.int v15), .val (.int kI), .val (.int v19), .val (.int v__), .unset]) rfl rfl ?_
  intro v26 h_v26
  have m0 := c_mask v19 (127 : Int32) 7 (by decide) (by decide)
  rw [← h_v26] at m0
  have m0 : v26.toInt = v.toInt % 128 := by rw [m0]; omega
  refine g_bipush C X0 (7 : Int32) d2_28 rfl rfl ?_
  refine g_istore C X0 d2_30 #[.val (.ref a), .val (.int x1), .val (.ref vs), .val (.int x3), .val (.int v15), .val (.int kI), .val (.int v19), .val (.int v26), .val (.int (7 : Int32))] rfl rfl ?_
  refine g_iload C X0 d2_32 rfl rfl ?_
  refine g_if C X0 d2_34 (by decide) rfl rfl ?_ ?_
  · intro h34
    have h34 : v19.toInt ≥ 0 := h34
    rw [show v26 = v from own_inj32 (by omega)]
    exact kk _ _ _ (by rw [own_len4]; rw [if_pos (by omega)]; omega)
  · intro h34
    have h34 : v19.toInt < 0 := h34
    exfalso; omega
set_option maxRecDepth 65536 in
set_option maxHeartbeats 40000000 in
theorem dec_a2 {p : Program} {l : Launch} {e : Env} {R : Room} {s : State} {m : MethodId} {args : Array Value} {below : List Frame} {meth : Method} {c : Code} {T0 : State} {locs : List Loc} {cells slots : Nat} {Z : State} {a0 : Array Value} {h0 : Heap} {Q : Option Value → Heap → List Loc → Prop} {Cc Sc : Nat} {a vs : Addr} {x1 x3 nxt kI : Int32} {F : Nat → Value} {N : Nat} {v : Int32}
    (C : Cx Z a0 p s m meth c prog_8_method_4_code 9 "com/example/overscore/overscore/index/VarInt" "get" (some .int)) (X0 : Stand p l e R s m args below meth c T0 locs cells slots) (e0 : T0.heap = h0) (A : Aw Z h0 a .byte N F) (i0 : 0 ≤ nxt.toInt) (i1 : nxt.toInt + 2 ≤ N) (hN : N < 2147483648) (v0 : 128 ≤ v.toInt) (v1 : v.toInt < 16384) (hF : own_enc F nxt.toInt.toNat v.toInt 2)
    (kk : ∀ (nx bb sh : Int32), nx.toInt = nxt.toInt + own_len 4 v.toInt → Go p e below s m Q Cc Sc T0 65 #[.val (.ref a), .val (.int x1), .val (.ref vs), .val (.int x3), .val (.int nx), .val (.int kI), .val (.int bb), .val (.int v), .val (.int sh)] []) :
    Go p e below s m Q Cc Sc T0 12 #[.val (.ref a), .val (.int x1), .val (.ref vs), .val (.int x3), .val (.int nxt), .val (.int kI), .unset, .unset, .unset] [] := by
  have b0 : (Int32.ofInt (own_b v.toInt 2 0)).toInt = v.toInt % 128 - 128 := by
    have q : own_b v.toInt 2 0 = v.toInt % 128 - 128 := by unfold own_b; rw [if_pos (by decide)]; simp only [Int.reducePow, Int.ediv_one]
    rw [q, own_of (by omega) (by omega)]
  have b1 : (Int32.ofInt (own_b v.toInt 2 1)).toInt = v.toInt / 128 := by
    have q : own_b v.toInt 2 1 = v.toInt / 128 := by unfold own_b; rw [if_neg (by decide)]; simp only [Int.reducePow, Int.ediv_one]
    rw [q, own_of (by omega) (by omega)]
  refine g_aloadN C X0 d2_12 rfl rfl ?_
  refine g_iload C X0 d2_13 rfl rfl ?_
  refine g_iincV C X0 d2_15 rfl (y := (1 : Int32)) rfl (fun v__ => #[.val (.ref a), .val (.int x1), .val (.ref vs), .val (.int x3), .val (.int v__), .val (.int kI), .unset, .unset, .unset]) rfl rfl ?_
  intro v15 h_v15
  have q_v15 := c_iadd nxt (1 : Int32)
  rw [show (1 : Int32).toInt = 1 by decide, ← h_v15] at q_v15
  have r_v15 := rng32 v15
  have q_v15 : v15.toInt = nxt.toInt + 1 := by omega
  refine g_baload C X0 d2_18 e0 A (by omega) (by omega) (v := (.int (Int32.ofInt (own_b v.toInt 2 0)))) (by rw [show nxt.toInt.toNat = nxt.toInt.toNat + 0 by omega]; exact hF 0 (by decide)) rfl ?_
  refine g_istoreV C X0 d2_19 (fun v__ => #[.val (.ref a), .val (.int x1), .val (.ref vs), .val (.int x3), .val (.int v15), .val (.int kI), .val (.int v__), .unset, .unset]) rfl rfl ?_
  intro v19 h_v19
  rw [← h_v19] at b0
  refine g_iload C X0 d2_21 rfl rfl ?_
  refine g_bipush C X0 (127 : Int32) d2_23 rfl rfl ?_
  refine g_iand C X0 d2_25 rfl ?_
  refine g_istoreV C X0 d2_26 (fun v__ => #[.val (.ref a), .val (.int x1), .val (.ref vs), .val (.int x3), .val (.int v15), .val (.int kI), .val (.int v19), .val (.int v__), .unset]) rfl rfl ?_
  intro v26 h_v26
  have m0 := c_mask v19 (127 : Int32) 7 (by decide) (by decide)
  rw [← h_v26] at m0
  have m0 : v26.toInt = v.toInt % 128 := by rw [m0]; omega
  refine g_bipush C X0 (7 : Int32) d2_28 rfl rfl ?_
  refine g_istore C X0 d2_30 #[.val (.ref a), .val (.int x1), .val (.ref vs), .val (.int x3), .val (.int v15), .val (.int kI), .val (.int v19), .val (.int v26), .val (.int (7 : Int32))] rfl rfl ?_
  refine g_iload C X0 d2_32 rfl rfl ?_
  refine g_if C X0 d2_34 (by decide) rfl rfl ?_ ?_
  · intro h34
    have h34 : v19.toInt ≥ 0 := h34
    exfalso; omega
  · intro h34
    have h34 : v19.toInt < 0 := h34
    refine g_aloadN C X0 d2_37 rfl rfl ?_
    refine g_iload C X0 d2_38 rfl rfl ?_
    refine g_iincV C X0 d2_40 rfl (y := (1 : Int32)) rfl (fun v__ => #[.val (.ref a), .val (.int x1), .val (.ref vs), .val (.int x3), .val (.int v__), .val (.int kI), .val (.int v19), .val (.int v26), .val (.int (7 : Int32))]) rfl rfl ?_
    intro v40 h_v40
    have q_v40 := c_iadd v15 (1 : Int32)
    rw [show (1 : Int32).toInt = 1 by decide, ← h_v40] at q_v40
    have r_v40 := rng32 v40
    have q_v40 : v40.toInt = nxt.toInt + 2 := by omega
    refine g_baload C X0 d2_43 e0 A (by omega) (by omega) (v := (.int (Int32.ofInt (own_b v.toInt 2 1)))) (by rw [show v15.toInt.toNat = nxt.toInt.toNat + 1 by omega]; exact hF 1 (by decide)) rfl ?_
    refine g_istoreV C X0 d2_44 (fun v__ => #[.val (.ref a), .val (.int x1), .val (.ref vs), .val (.int x3), .val (.int v40), .val (.int kI), .val (.int v__), .val (.int v26), .val (.int (7 : Int32))]) rfl rfl ?_
    intro v44 h_v44
    rw [← h_v44] at b1
    refine g_iload C X0 d2_46 rfl rfl ?_
    refine g_iload C X0 d2_48 rfl rfl ?_
    refine g_bipush C X0 (127 : Int32) d2_50 rfl rfl ?_
    refine g_iand C X0 d2_52 rfl ?_
    refine g_iload C X0 d2_53 rfl rfl ?_
    refine g_ishl C X0 d2_55 rfl ?_
    refine g_ior C X0 d2_56 rfl ?_
    refine g_istoreV C X0 d2_57 (fun v__ => #[.val (.ref a), .val (.int x1), .val (.ref vs), .val (.int x3), .val (.int v40), .val (.int kI), .val (.int v44), .val (.int v__), .val (.int (7 : Int32))]) rfl rfl ?_
    intro v57 h_v57
    have d1 := c_mask v44 (127 : Int32) 7 (by decide) (by decide)
    have d1 : (v44 &&& (127 : Int32)).toInt = v.toInt / 128 % 128 := by rw [d1]; omega
    have o1 := own_shor v26 (v44 &&& (127 : Int32)) (7 : Int32) 7 (by decide) (by decide) 128 (by decide) (by omega) (by omega) (by omega) (by omega)
    rw [← h_v57] at o1
    have m1 : v57.toInt = v.toInt % 16384 := by rw [o1]; omega
    refine g_iinc C X0 d2_59 rfl #[.val (.ref a), .val (.int x1), .val (.ref vs), .val (.int x3), .val (.int v40), .val (.int kI), .val (.int v44), .val (.int v57), .val (.int (14 : Int32))] rfl rfl ?_
    refine g_goto C X0 d2_62 (by decide) rfl ?_
    refine g_iload C X0 d2_32 rfl rfl ?_
    refine g_if C X0 d2_34 (by decide) rfl rfl ?_ ?_
    · intro h34
      have h34 : v44.toInt ≥ 0 := h34
      rw [show v57 = v from own_inj32 (by omega)]
      exact kk _ _ _ (by rw [own_len4]; rw [if_neg (by omega)]; rw [if_pos (by omega)]; omega)
    · intro h34
      have h34 : v44.toInt < 0 := h34
      exfalso; omega
set_option maxRecDepth 65536 in
set_option maxHeartbeats 40000000 in
theorem dec_a3 {p : Program} {l : Launch} {e : Env} {R : Room} {s : State} {m : MethodId} {args : Array Value} {below : List Frame} {meth : Method} {c : Code} {T0 : State} {locs : List Loc} {cells slots : Nat} {Z : State} {a0 : Array Value} {h0 : Heap} {Q : Option Value → Heap → List Loc → Prop} {Cc Sc : Nat} {a vs : Addr} {x1 x3 nxt kI : Int32} {F : Nat → Value} {N : Nat} {v : Int32}
    (C : Cx Z a0 p s m meth c prog_8_method_4_code 9 "com/example/overscore/overscore/index/VarInt" "get" (some .int)) (X0 : Stand p l e R s m args below meth c T0 locs cells slots) (e0 : T0.heap = h0) (A : Aw Z h0 a .byte N F) (i0 : 0 ≤ nxt.toInt) (i1 : nxt.toInt + 3 ≤ N) (hN : N < 2147483648) (v0 : 16384 ≤ v.toInt) (v1 : v.toInt < 2097152) (hF : own_enc F nxt.toInt.toNat v.toInt 3)
    (kk : ∀ (nx bb sh : Int32), nx.toInt = nxt.toInt + own_len 4 v.toInt → Go p e below s m Q Cc Sc T0 65 #[.val (.ref a), .val (.int x1), .val (.ref vs), .val (.int x3), .val (.int nx), .val (.int kI), .val (.int bb), .val (.int v), .val (.int sh)] []) :
    Go p e below s m Q Cc Sc T0 12 #[.val (.ref a), .val (.int x1), .val (.ref vs), .val (.int x3), .val (.int nxt), .val (.int kI), .unset, .unset, .unset] [] := by
  have b0 : (Int32.ofInt (own_b v.toInt 3 0)).toInt = v.toInt % 128 - 128 := by
    have q : own_b v.toInt 3 0 = v.toInt % 128 - 128 := by unfold own_b; rw [if_pos (by decide)]; simp only [Int.reducePow, Int.ediv_one]
    rw [q, own_of (by omega) (by omega)]
  have b1 : (Int32.ofInt (own_b v.toInt 3 1)).toInt = v.toInt / 128 % 128 - 128 := by
    have q : own_b v.toInt 3 1 = v.toInt / 128 % 128 - 128 := by unfold own_b; rw [if_pos (by decide)]; simp only [Int.reducePow, Int.ediv_one]
    rw [q, own_of (by omega) (by omega)]
  have b2 : (Int32.ofInt (own_b v.toInt 3 2)).toInt = v.toInt / 16384 := by
    have q : own_b v.toInt 3 2 = v.toInt / 16384 := by unfold own_b; rw [if_neg (by decide)]; simp only [Int.reducePow, Int.ediv_one]
    rw [q, own_of (by omega) (by omega)]
  refine g_aloadN C X0 d2_12 rfl rfl ?_
  refine g_iload C X0 d2_13 rfl rfl ?_
  refine g_iincV C X0 d2_15 rfl (y := (1 : Int32)) rfl (fun v__ => #[.val (.ref a), .val (.int x1), .val (.ref vs), .val (.int x3), .val (.int v__), .val (.int kI), .unset, .unset, .unset]) rfl rfl ?_
  intro v15 h_v15
  have q_v15 := c_iadd nxt (1 : Int32)
  rw [show (1 : Int32).toInt = 1 by decide, ← h_v15] at q_v15
  have r_v15 := rng32 v15
  have q_v15 : v15.toInt = nxt.toInt + 1 := by omega
  refine g_baload C X0 d2_18 e0 A (by omega) (by omega) (v := (.int (Int32.ofInt (own_b v.toInt 3 0)))) (by rw [show nxt.toInt.toNat = nxt.toInt.toNat + 0 by omega]; exact hF 0 (by decide)) rfl ?_
  refine g_istoreV C X0 d2_19 (fun v__ => #[.val (.ref a), .val (.int x1), .val (.ref vs), .val (.int x3), .val (.int v15), .val (.int kI), .val (.int v__), .unset, .unset]) rfl rfl ?_
  intro v19 h_v19
  rw [← h_v19] at b0
  refine g_iload C X0 d2_21 rfl rfl ?_
  refine g_bipush C X0 (127 : Int32) d2_23 rfl rfl ?_
  refine g_iand C X0 d2_25 rfl ?_
  refine g_istoreV C X0 d2_26 (fun v__ => #[.val (.ref a), .val (.int x1), .val (.ref vs), .val (.int x3), .val (.int v15), .val (.int kI), .val (.int v19), .val (.int v__), .unset]) rfl rfl ?_
  intro v26 h_v26
  have m0 := c_mask v19 (127 : Int32) 7 (by decide) (by decide)
  rw [← h_v26] at m0
  have m0 : v26.toInt = v.toInt % 128 := by rw [m0]; omega
  refine g_bipush C X0 (7 : Int32) d2_28 rfl rfl ?_
  refine g_istore C X0 d2_30 #[.val (.ref a), .val (.int x1), .val (.ref vs), .val (.int x3), .val (.int v15), .val (.int kI), .val (.int v19), .val (.int v26), .val (.int (7 : Int32))] rfl rfl ?_
  refine g_iload C X0 d2_32 rfl rfl ?_
  refine g_if C X0 d2_34 (by decide) rfl rfl ?_ ?_
  · intro h34
    have h34 : v19.toInt ≥ 0 := h34
    exfalso; omega
  · intro h34
    have h34 : v19.toInt < 0 := h34
    refine g_aloadN C X0 d2_37 rfl rfl ?_
    refine g_iload C X0 d2_38 rfl rfl ?_
    refine g_iincV C X0 d2_40 rfl (y := (1 : Int32)) rfl (fun v__ => #[.val (.ref a), .val (.int x1), .val (.ref vs), .val (.int x3), .val (.int v__), .val (.int kI), .val (.int v19), .val (.int v26), .val (.int (7 : Int32))]) rfl rfl ?_
    intro v40 h_v40
    have q_v40 := c_iadd v15 (1 : Int32)
    rw [show (1 : Int32).toInt = 1 by decide, ← h_v40] at q_v40
    have r_v40 := rng32 v40
    have q_v40 : v40.toInt = nxt.toInt + 2 := by omega
    refine g_baload C X0 d2_43 e0 A (by omega) (by omega) (v := (.int (Int32.ofInt (own_b v.toInt 3 1)))) (by rw [show v15.toInt.toNat = nxt.toInt.toNat + 1 by omega]; exact hF 1 (by decide)) rfl ?_
    refine g_istoreV C X0 d2_44 (fun v__ => #[.val (.ref a), .val (.int x1), .val (.ref vs), .val (.int x3), .val (.int v40), .val (.int kI), .val (.int v__), .val (.int v26), .val (.int (7 : Int32))]) rfl rfl ?_
    intro v44 h_v44
    rw [← h_v44] at b1
    refine g_iload C X0 d2_46 rfl rfl ?_
    refine g_iload C X0 d2_48 rfl rfl ?_
    refine g_bipush C X0 (127 : Int32) d2_50 rfl rfl ?_
    refine g_iand C X0 d2_52 rfl ?_
    refine g_iload C X0 d2_53 rfl rfl ?_
    refine g_ishl C X0 d2_55 rfl ?_
    refine g_ior C X0 d2_56 rfl ?_
    refine g_istoreV C X0 d2_57 (fun v__ => #[.val (.ref a), .val (.int x1), .val (.ref vs), .val (.int x3), .val (.int v40), .val (.int kI), .val (.int v44), .val (.int v__), .val (.int (7 : Int32))]) rfl rfl ?_
    intro v57 h_v57
    have d1 := c_mask v44 (127 : Int32) 7 (by decide) (by decide)
    have d1 : (v44 &&& (127 : Int32)).toInt = v.toInt / 128 % 128 := by rw [d1]; omega
    have o1 := own_shor v26 (v44 &&& (127 : Int32)) (7 : Int32) 7 (by decide) (by decide) 128 (by decide) (by omega) (by omega) (by omega) (by omega)
    rw [← h_v57] at o1
    have m1 : v57.toInt = v.toInt % 16384 := by rw [o1]; omega
    refine g_iinc C X0 d2_59 rfl #[.val (.ref a), .val (.int x1), .val (.ref vs), .val (.int x3), .val (.int v40), .val (.int kI), .val (.int v44), .val (.int v57), .val (.int (14 : Int32))] rfl rfl ?_
    refine g_goto C X0 d2_62 (by decide) rfl ?_
    refine g_iload C X0 d2_32 rfl rfl ?_
    refine g_if C X0 d2_34 (by decide) rfl rfl ?_ ?_
    · intro h34
      have h34 : v44.toInt ≥ 0 := h34
      exfalso; omega
    · intro h34
      have h34 : v44.toInt < 0 := h34
      refine g_aloadN C X0 d2_37 rfl rfl ?_
      refine g_iload C X0 d2_38 rfl rfl ?_
      refine g_iincV C X0 d2_40 rfl (y := (1 : Int32)) rfl (fun v__ => #[.val (.ref a), .val (.int x1), .val (.ref vs), .val (.int x3), .val (.int v__), .val (.int kI), .val (.int v44), .val (.int v57), .val (.int (14 : Int32))]) rfl rfl ?_
      intro v40_2 h_v40_2
      have q_v40_2 := c_iadd v40 (1 : Int32)
      rw [show (1 : Int32).toInt = 1 by decide, ← h_v40_2] at q_v40_2
      have r_v40_2 := rng32 v40_2
      have q_v40_2 : v40_2.toInt = nxt.toInt + 3 := by omega
      refine g_baload C X0 d2_43 e0 A (by omega) (by omega) (v := (.int (Int32.ofInt (own_b v.toInt 3 2)))) (by rw [show v40.toInt.toNat = nxt.toInt.toNat + 2 by omega]; exact hF 2 (by decide)) rfl ?_
      refine g_istoreV C X0 d2_44 (fun v__ => #[.val (.ref a), .val (.int x1), .val (.ref vs), .val (.int x3), .val (.int v40_2), .val (.int kI), .val (.int v__), .val (.int v57), .val (.int (14 : Int32))]) rfl rfl ?_
      intro v44_2 h_v44_2
      rw [← h_v44_2] at b2
      refine g_iload C X0 d2_46 rfl rfl ?_
      refine g_iload C X0 d2_48 rfl rfl ?_
      refine g_bipush C X0 (127 : Int32) d2_50 rfl rfl ?_
      refine g_iand C X0 d2_52 rfl ?_
      refine g_iload C X0 d2_53 rfl rfl ?_
      refine g_ishl C X0 d2_55 rfl ?_
      refine g_ior C X0 d2_56 rfl ?_
      refine g_istoreV C X0 d2_57 (fun v__ => #[.val (.ref a), .val (.int x1), .val (.ref vs), .val (.int x3), .val (.int v40_2), .val (.int kI), .val (.int v44_2), .val (.int v__), .val (.int (14 : Int32))]) rfl rfl ?_
      intro v57_2 h_v57_2
      have d2 := c_mask v44_2 (127 : Int32) 7 (by decide) (by decide)
      have d2 : (v44_2 &&& (127 : Int32)).toInt = v.toInt / 16384 % 128 := by rw [d2]; omega
      have o2 := own_shor v57 (v44_2 &&& (127 : Int32)) (14 : Int32) 14 (by decide) (by decide) 16384 (by decide) (by omega) (by omega) (by omega) (by omega)
      rw [← h_v57_2] at o2
      have m2 : v57_2.toInt = v.toInt % 2097152 := by rw [o2]; omega
      refine g_iinc C X0 d2_59 rfl #[.val (.ref a), .val (.int x1), .val (.ref vs), .val (.int x3), .val (.int v40_2), .val (.int kI), .val (.int v44_2), .val (.int v57_2), .val (.int (21 : Int32))] rfl rfl ?_
      refine g_goto C X0 d2_62 (by decide) rfl ?_
      refine g_iload C X0 d2_32 rfl rfl ?_
      refine g_if C X0 d2_34 (by decide) rfl rfl ?_ ?_
      · intro h34
        have h34 : v44_2.toInt ≥ 0 := h34
        rw [show v57_2 = v from own_inj32 (by omega)]
        exact kk _ _ _ (by rw [own_len4]; rw [if_neg (by omega)]; rw [if_neg (by omega)]; rw [if_pos (by omega)]; omega)
      · intro h34
        have h34 : v44_2.toInt < 0 := h34
        exfalso; omega
set_option maxRecDepth 65536 in
set_option maxHeartbeats 40000000 in
theorem dec_a4 {p : Program} {l : Launch} {e : Env} {R : Room} {s : State} {m : MethodId} {args : Array Value} {below : List Frame} {meth : Method} {c : Code} {T0 : State} {locs : List Loc} {cells slots : Nat} {Z : State} {a0 : Array Value} {h0 : Heap} {Q : Option Value → Heap → List Loc → Prop} {Cc Sc : Nat} {a vs : Addr} {x1 x3 nxt kI : Int32} {F : Nat → Value} {N : Nat} {v : Int32}
    (C : Cx Z a0 p s m meth c prog_8_method_4_code 9 "com/example/overscore/overscore/index/VarInt" "get" (some .int)) (X0 : Stand p l e R s m args below meth c T0 locs cells slots) (e0 : T0.heap = h0) (A : Aw Z h0 a .byte N F) (i0 : 0 ≤ nxt.toInt) (i1 : nxt.toInt + 4 ≤ N) (hN : N < 2147483648) (v0 : 2097152 ≤ v.toInt) (v1 : v.toInt < 268435456) (hF : own_enc F nxt.toInt.toNat v.toInt 4)
    (kk : ∀ (nx bb sh : Int32), nx.toInt = nxt.toInt + own_len 4 v.toInt → Go p e below s m Q Cc Sc T0 65 #[.val (.ref a), .val (.int x1), .val (.ref vs), .val (.int x3), .val (.int nx), .val (.int kI), .val (.int bb), .val (.int v), .val (.int sh)] []) :
    Go p e below s m Q Cc Sc T0 12 #[.val (.ref a), .val (.int x1), .val (.ref vs), .val (.int x3), .val (.int nxt), .val (.int kI), .unset, .unset, .unset] [] := by
  have b0 : (Int32.ofInt (own_b v.toInt 4 0)).toInt = v.toInt % 128 - 128 := by
    have q : own_b v.toInt 4 0 = v.toInt % 128 - 128 := by unfold own_b; rw [if_pos (by decide)]; simp only [Int.reducePow, Int.ediv_one]
    rw [q, own_of (by omega) (by omega)]
  have b1 : (Int32.ofInt (own_b v.toInt 4 1)).toInt = v.toInt / 128 % 128 - 128 := by
    have q : own_b v.toInt 4 1 = v.toInt / 128 % 128 - 128 := by unfold own_b; rw [if_pos (by decide)]; simp only [Int.reducePow, Int.ediv_one]
    rw [q, own_of (by omega) (by omega)]
  have b2 : (Int32.ofInt (own_b v.toInt 4 2)).toInt = v.toInt / 16384 % 128 - 128 := by
    have q : own_b v.toInt 4 2 = v.toInt / 16384 % 128 - 128 := by unfold own_b; rw [if_pos (by decide)]; simp only [Int.reducePow, Int.ediv_one]
    rw [q, own_of (by omega) (by omega)]
  have b3 : (Int32.ofInt (own_b v.toInt 4 3)).toInt = v.toInt / 2097152 := by
    have q : own_b v.toInt 4 3 = v.toInt / 2097152 := by unfold own_b; rw [if_neg (by decide)]; simp only [Int.reducePow, Int.ediv_one]
    rw [q, own_of (by omega) (by omega)]
  refine g_aloadN C X0 d2_12 rfl rfl ?_
  refine g_iload C X0 d2_13 rfl rfl ?_
  refine g_iincV C X0 d2_15 rfl (y := (1 : Int32)) rfl (fun v__ => #[.val (.ref a), .val (.int x1), .val (.ref vs), .val (.int x3), .val (.int v__), .val (.int kI), .unset, .unset, .unset]) rfl rfl ?_
  intro v15 h_v15
  have q_v15 := c_iadd nxt (1 : Int32)
  rw [show (1 : Int32).toInt = 1 by decide, ← h_v15] at q_v15
  have r_v15 := rng32 v15
  have q_v15 : v15.toInt = nxt.toInt + 1 := by omega
  refine g_baload C X0 d2_18 e0 A (by omega) (by omega) (v := (.int (Int32.ofInt (own_b v.toInt 4 0)))) (by rw [show nxt.toInt.toNat = nxt.toInt.toNat + 0 by omega]; exact hF 0 (by decide)) rfl ?_
  refine g_istoreV C X0 d2_19 (fun v__ => #[.val (.ref a), .val (.int x1), .val (.ref vs), .val (.int x3), .val (.int v15), .val (.int kI), .val (.int v__), .unset, .unset]) rfl rfl ?_
  intro v19 h_v19
  rw [← h_v19] at b0
  refine g_iload C X0 d2_21 rfl rfl ?_
  refine g_bipush C X0 (127 : Int32) d2_23 rfl rfl ?_
  refine g_iand C X0 d2_25 rfl ?_
  refine g_istoreV C X0 d2_26 (fun v__ => #[.val (.ref a), .val (.int x1), .val (.ref vs), .val (.int x3), .val (.int v15), .val (.int kI), .val (.int v19), .val (.int v__), .unset]) rfl rfl ?_
  intro v26 h_v26
  have m0 := c_mask v19 (127 : Int32) 7 (by decide) (by decide)
  rw [← h_v26] at m0
  have m0 : v26.toInt = v.toInt % 128 := by rw [m0]; omega
  refine g_bipush C X0 (7 : Int32) d2_28 rfl rfl ?_
  refine g_istore C X0 d2_30 #[.val (.ref a), .val (.int x1), .val (.ref vs), .val (.int x3), .val (.int v15), .val (.int kI), .val (.int v19), .val (.int v26), .val (.int (7 : Int32))] rfl rfl ?_
  refine g_iload C X0 d2_32 rfl rfl ?_
  refine g_if C X0 d2_34 (by decide) rfl rfl ?_ ?_
  · intro h34
    have h34 : v19.toInt ≥ 0 := h34
    exfalso; omega
  · intro h34
    have h34 : v19.toInt < 0 := h34
    refine g_aloadN C X0 d2_37 rfl rfl ?_
    refine g_iload C X0 d2_38 rfl rfl ?_
    refine g_iincV C X0 d2_40 rfl (y := (1 : Int32)) rfl (fun v__ => #[.val (.ref a), .val (.int x1), .val (.ref vs), .val (.int x3), .val (.int v__), .val (.int kI), .val (.int v19), .val (.int v26), .val (.int (7 : Int32))]) rfl rfl ?_
    intro v40 h_v40
    have q_v40 := c_iadd v15 (1 : Int32)
    rw [show (1 : Int32).toInt = 1 by decide, ← h_v40] at q_v40
    have r_v40 := rng32 v40
    have q_v40 : v40.toInt = nxt.toInt + 2 := by omega
    refine g_baload C X0 d2_43 e0 A (by omega) (by omega) (v := (.int (Int32.ofInt (own_b v.toInt 4 1)))) (by rw [show v15.toInt.toNat = nxt.toInt.toNat + 1 by omega]; exact hF 1 (by decide)) rfl ?_
    refine g_istoreV C X0 d2_44 (fun v__ => #[.val (.ref a), .val (.int x1), .val (.ref vs), .val (.int x3), .val (.int v40), .val (.int kI), .val (.int v__), .val (.int v26), .val (.int (7 : Int32))]) rfl rfl ?_
    intro v44 h_v44
    rw [← h_v44] at b1
    refine g_iload C X0 d2_46 rfl rfl ?_
    refine g_iload C X0 d2_48 rfl rfl ?_
    refine g_bipush C X0 (127 : Int32) d2_50 rfl rfl ?_
    refine g_iand C X0 d2_52 rfl ?_
    refine g_iload C X0 d2_53 rfl rfl ?_
    refine g_ishl C X0 d2_55 rfl ?_
    refine g_ior C X0 d2_56 rfl ?_
    refine g_istoreV C X0 d2_57 (fun v__ => #[.val (.ref a), .val (.int x1), .val (.ref vs), .val (.int x3), .val (.int v40), .val (.int kI), .val (.int v44), .val (.int v__), .val (.int (7 : Int32))]) rfl rfl ?_
    intro v57 h_v57
    have d1 := c_mask v44 (127 : Int32) 7 (by decide) (by decide)
    have d1 : (v44 &&& (127 : Int32)).toInt = v.toInt / 128 % 128 := by rw [d1]; omega
    have o1 := own_shor v26 (v44 &&& (127 : Int32)) (7 : Int32) 7 (by decide) (by decide) 128 (by decide) (by omega) (by omega) (by omega) (by omega)
    rw [← h_v57] at o1
    have m1 : v57.toInt = v.toInt % 16384 := by rw [o1]; omega
    refine g_iinc C X0 d2_59 rfl #[.val (.ref a), .val (.int x1), .val (.ref vs), .val (.int x3), .val (.int v40), .val (.int kI), .val (.int v44), .val (.int v57), .val (.int (14 : Int32))] rfl rfl ?_
    refine g_goto C X0 d2_62 (by decide) rfl ?_
    refine g_iload C X0 d2_32 rfl rfl ?_
    refine g_if C X0 d2_34 (by decide) rfl rfl ?_ ?_
    · intro h34
      have h34 : v44.toInt ≥ 0 := h34
      exfalso; omega
    · intro h34
      have h34 : v44.toInt < 0 := h34
      refine g_aloadN C X0 d2_37 rfl rfl ?_
      refine g_iload C X0 d2_38 rfl rfl ?_
      refine g_iincV C X0 d2_40 rfl (y := (1 : Int32)) rfl (fun v__ => #[.val (.ref a), .val (.int x1), .val (.ref vs), .val (.int x3), .val (.int v__), .val (.int kI), .val (.int v44), .val (.int v57), .val (.int (14 : Int32))]) rfl rfl ?_
      intro v40_2 h_v40_2
      have q_v40_2 := c_iadd v40 (1 : Int32)
      rw [show (1 : Int32).toInt = 1 by decide, ← h_v40_2] at q_v40_2
      have r_v40_2 := rng32 v40_2
      have q_v40_2 : v40_2.toInt = nxt.toInt + 3 := by omega
      refine g_baload C X0 d2_43 e0 A (by omega) (by omega) (v := (.int (Int32.ofInt (own_b v.toInt 4 2)))) (by rw [show v40.toInt.toNat = nxt.toInt.toNat + 2 by omega]; exact hF 2 (by decide)) rfl ?_
      refine g_istoreV C X0 d2_44 (fun v__ => #[.val (.ref a), .val (.int x1), .val (.ref vs), .val (.int x3), .val (.int v40_2), .val (.int kI), .val (.int v__), .val (.int v57), .val (.int (14 : Int32))]) rfl rfl ?_
      intro v44_2 h_v44_2
      rw [← h_v44_2] at b2
      refine g_iload C X0 d2_46 rfl rfl ?_
      refine g_iload C X0 d2_48 rfl rfl ?_
      refine g_bipush C X0 (127 : Int32) d2_50 rfl rfl ?_
      refine g_iand C X0 d2_52 rfl ?_
      refine g_iload C X0 d2_53 rfl rfl ?_
      refine g_ishl C X0 d2_55 rfl ?_
      refine g_ior C X0 d2_56 rfl ?_
      refine g_istoreV C X0 d2_57 (fun v__ => #[.val (.ref a), .val (.int x1), .val (.ref vs), .val (.int x3), .val (.int v40_2), .val (.int kI), .val (.int v44_2), .val (.int v__), .val (.int (14 : Int32))]) rfl rfl ?_
      intro v57_2 h_v57_2
      have d2 := c_mask v44_2 (127 : Int32) 7 (by decide) (by decide)
      have d2 : (v44_2 &&& (127 : Int32)).toInt = v.toInt / 16384 % 128 := by rw [d2]; omega
      have o2 := own_shor v57 (v44_2 &&& (127 : Int32)) (14 : Int32) 14 (by decide) (by decide) 16384 (by decide) (by omega) (by omega) (by omega) (by omega)
      rw [← h_v57_2] at o2
      have m2 : v57_2.toInt = v.toInt % 2097152 := by rw [o2]; omega
      refine g_iinc C X0 d2_59 rfl #[.val (.ref a), .val (.int x1), .val (.ref vs), .val (.int x3), .val (.int v40_2), .val (.int kI), .val (.int v44_2), .val (.int v57_2), .val (.int (21 : Int32))] rfl rfl ?_
      refine g_goto C X0 d2_62 (by decide) rfl ?_
      refine g_iload C X0 d2_32 rfl rfl ?_
      refine g_if C X0 d2_34 (by decide) rfl rfl ?_ ?_
      · intro h34
        have h34 : v44_2.toInt ≥ 0 := h34
        exfalso; omega
      · intro h34
        have h34 : v44_2.toInt < 0 := h34
        refine g_aloadN C X0 d2_37 rfl rfl ?_
        refine g_iload C X0 d2_38 rfl rfl ?_
        refine g_iincV C X0 d2_40 rfl (y := (1 : Int32)) rfl (fun v__ => #[.val (.ref a), .val (.int x1), .val (.ref vs), .val (.int x3), .val (.int v__), .val (.int kI), .val (.int v44_2), .val (.int v57_2), .val (.int (21 : Int32))]) rfl rfl ?_
        intro v40_3 h_v40_3
        have q_v40_3 := c_iadd v40_2 (1 : Int32)
        rw [show (1 : Int32).toInt = 1 by decide, ← h_v40_3] at q_v40_3
        have r_v40_3 := rng32 v40_3
        have q_v40_3 : v40_3.toInt = nxt.toInt + 4 := by omega
        refine g_baload C X0 d2_43 e0 A (by omega) (by omega) (v := (.int (Int32.ofInt (own_b v.toInt 4 3)))) (by rw [show v40_2.toInt.toNat = nxt.toInt.toNat + 3 by omega]; exact hF 3 (by decide)) rfl ?_
        refine g_istoreV C X0 d2_44 (fun v__ => #[.val (.ref a), .val (.int x1), .val (.ref vs), .val (.int x3), .val (.int v40_3), .val (.int kI), .val (.int v__), .val (.int v57_2), .val (.int (21 : Int32))]) rfl rfl ?_
        intro v44_3 h_v44_3
        rw [← h_v44_3] at b3
        refine g_iload C X0 d2_46 rfl rfl ?_
        refine g_iload C X0 d2_48 rfl rfl ?_
        refine g_bipush C X0 (127 : Int32) d2_50 rfl rfl ?_
        refine g_iand C X0 d2_52 rfl ?_
        refine g_iload C X0 d2_53 rfl rfl ?_
        refine g_ishl C X0 d2_55 rfl ?_
        refine g_ior C X0 d2_56 rfl ?_
        refine g_istoreV C X0 d2_57 (fun v__ => #[.val (.ref a), .val (.int x1), .val (.ref vs), .val (.int x3), .val (.int v40_3), .val (.int kI), .val (.int v44_3), .val (.int v__), .val (.int (21 : Int32))]) rfl rfl ?_
        intro v57_3 h_v57_3
        have d3 := c_mask v44_3 (127 : Int32) 7 (by decide) (by decide)
        have d3 : (v44_3 &&& (127 : Int32)).toInt = v.toInt / 2097152 % 128 := by rw [d3]; omega
        have o3 := own_shor v57_2 (v44_3 &&& (127 : Int32)) (21 : Int32) 21 (by decide) (by decide) 2097152 (by decide) (by omega) (by omega) (by omega) (by omega)
        rw [← h_v57_3] at o3
        have m3 : v57_3.toInt = v.toInt % 268435456 := by rw [o3]; omega
        refine g_iinc C X0 d2_59 rfl #[.val (.ref a), .val (.int x1), .val (.ref vs), .val (.int x3), .val (.int v40_3), .val (.int kI), .val (.int v44_3), .val (.int v57_3), .val (.int (28 : Int32))] rfl rfl ?_
        refine g_goto C X0 d2_62 (by decide) rfl ?_
        refine g_iload C X0 d2_32 rfl rfl ?_
        refine g_if C X0 d2_34 (by decide) rfl rfl ?_ ?_
        · intro h34
          have h34 : v44_3.toInt ≥ 0 := h34
          rw [show v57_3 = v from own_inj32 (by omega)]
          exact kk _ _ _ (by rw [own_len4]; rw [if_neg (by omega)]; rw [if_neg (by omega)]; rw [if_neg (by omega)]; rw [if_pos (by omega)]; omega)
        · intro h34
          have h34 : v44_3.toInt < 0 := h34
          exfalso; omega
set_option maxRecDepth 65536 in
set_option maxHeartbeats 40000000 in
theorem dec_a5 {p : Program} {l : Launch} {e : Env} {R : Room} {s : State} {m : MethodId} {args : Array Value} {below : List Frame} {meth : Method} {c : Code} {T0 : State} {locs : List Loc} {cells slots : Nat} {Z : State} {a0 : Array Value} {h0 : Heap} {Q : Option Value → Heap → List Loc → Prop} {Cc Sc : Nat} {a vs : Addr} {x1 x3 nxt kI : Int32} {F : Nat → Value} {N : Nat} {v : Int32}
    (C : Cx Z a0 p s m meth c prog_8_method_4_code 9 "com/example/overscore/overscore/index/VarInt" "get" (some .int)) (X0 : Stand p l e R s m args below meth c T0 locs cells slots) (e0 : T0.heap = h0) (A : Aw Z h0 a .byte N F) (i0 : 0 ≤ nxt.toInt) (i1 : nxt.toInt + 5 ≤ N) (hN : N < 2147483648) (v0 : 268435456 ≤ v.toInt) (v1 : v.toInt < 2147483648) (hF : own_enc F nxt.toInt.toNat v.toInt 5)
    (kk : ∀ (nx bb sh : Int32), nx.toInt = nxt.toInt + own_len 4 v.toInt → Go p e below s m Q Cc Sc T0 65 #[.val (.ref a), .val (.int x1), .val (.ref vs), .val (.int x3), .val (.int nx), .val (.int kI), .val (.int bb), .val (.int v), .val (.int sh)] []) :
    Go p e below s m Q Cc Sc T0 12 #[.val (.ref a), .val (.int x1), .val (.ref vs), .val (.int x3), .val (.int nxt), .val (.int kI), .unset, .unset, .unset] [] := by
  have b0 : (Int32.ofInt (own_b v.toInt 5 0)).toInt = v.toInt % 128 - 128 := by
    have q : own_b v.toInt 5 0 = v.toInt % 128 - 128 := by unfold own_b; rw [if_pos (by decide)]; simp only [Int.reducePow, Int.ediv_one]
    rw [q, own_of (by omega) (by omega)]
  have b1 : (Int32.ofInt (own_b v.toInt 5 1)).toInt = v.toInt / 128 % 128 - 128 := by
    have q : own_b v.toInt 5 1 = v.toInt / 128 % 128 - 128 := by unfold own_b; rw [if_pos (by decide)]; simp only [Int.reducePow, Int.ediv_one]
    rw [q, own_of (by omega) (by omega)]
  have b2 : (Int32.ofInt (own_b v.toInt 5 2)).toInt = v.toInt / 16384 % 128 - 128 := by
    have q : own_b v.toInt 5 2 = v.toInt / 16384 % 128 - 128 := by unfold own_b; rw [if_pos (by decide)]; simp only [Int.reducePow, Int.ediv_one]
    rw [q, own_of (by omega) (by omega)]
  have b3 : (Int32.ofInt (own_b v.toInt 5 3)).toInt = v.toInt / 2097152 % 128 - 128 := by
    have q : own_b v.toInt 5 3 = v.toInt / 2097152 % 128 - 128 := by unfold own_b; rw [if_pos (by decide)]; simp only [Int.reducePow, Int.ediv_one]
    rw [q, own_of (by omega) (by omega)]
  have b4 : (Int32.ofInt (own_b v.toInt 5 4)).toInt = v.toInt / 268435456 := by
    have q : own_b v.toInt 5 4 = v.toInt / 268435456 := by unfold own_b; rw [if_neg (by decide)]; simp only [Int.reducePow, Int.ediv_one]
    rw [q, own_of (by omega) (by omega)]
  refine g_aloadN C X0 d2_12 rfl rfl ?_
  refine g_iload C X0 d2_13 rfl rfl ?_
  refine g_iincV C X0 d2_15 rfl (y := (1 : Int32)) rfl (fun v__ => #[.val (.ref a), .val (.int x1), .val (.ref vs), .val (.int x3), .val (.int v__), .val (.int kI), .unset, .unset, .unset]) rfl rfl ?_
  intro v15 h_v15
  have q_v15 := c_iadd nxt (1 : Int32)
  rw [show (1 : Int32).toInt = 1 by decide, ← h_v15] at q_v15
  have r_v15 := rng32 v15
  have q_v15 : v15.toInt = nxt.toInt + 1 := by omega
  refine g_baload C X0 d2_18 e0 A (by omega) (by omega) (v := (.int (Int32.ofInt (own_b v.toInt 5 0)))) (by rw [show nxt.toInt.toNat = nxt.toInt.toNat + 0 by omega]; exact hF 0 (by decide)) rfl ?_
  refine g_istoreV C X0 d2_19 (fun v__ => #[.val (.ref a), .val (.int x1), .val (.ref vs), .val (.int x3), .val (.int v15), .val (.int kI), .val (.int v__), .unset, .unset]) rfl rfl ?_
  intro v19 h_v19
  rw [← h_v19] at b0
  refine g_iload C X0 d2_21 rfl rfl ?_
  refine g_bipush C X0 (127 : Int32) d2_23 rfl rfl ?_
  refine g_iand C X0 d2_25 rfl ?_
  refine g_istoreV C X0 d2_26 (fun v__ => #[.val (.ref a), .val (.int x1), .val (.ref vs), .val (.int x3), .val (.int v15), .val (.int kI), .val (.int v19), .val (.int v__), .unset]) rfl rfl ?_
  intro v26 h_v26
  have m0 := c_mask v19 (127 : Int32) 7 (by decide) (by decide)
  rw [← h_v26] at m0
  have m0 : v26.toInt = v.toInt % 128 := by rw [m0]; omega
  refine g_bipush C X0 (7 : Int32) d2_28 rfl rfl ?_
  refine g_istore C X0 d2_30 #[.val (.ref a), .val (.int x1), .val (.ref vs), .val (.int x3), .val (.int v15), .val (.int kI), .val (.int v19), .val (.int v26), .val (.int (7 : Int32))] rfl rfl ?_
  refine g_iload C X0 d2_32 rfl rfl ?_
  refine g_if C X0 d2_34 (by decide) rfl rfl ?_ ?_
  · intro h34
    have h34 : v19.toInt ≥ 0 := h34
    exfalso; omega
  · intro h34
    have h34 : v19.toInt < 0 := h34
    refine g_aloadN C X0 d2_37 rfl rfl ?_
    refine g_iload C X0 d2_38 rfl rfl ?_
    refine g_iincV C X0 d2_40 rfl (y := (1 : Int32)) rfl (fun v__ => #[.val (.ref a), .val (.int x1), .val (.ref vs), .val (.int x3), .val (.int v__), .val (.int kI), .val (.int v19), .val (.int v26), .val (.int (7 : Int32))]) rfl rfl ?_
    intro v40 h_v40
    have q_v40 := c_iadd v15 (1 : Int32)
    rw [show (1 : Int32).toInt = 1 by decide, ← h_v40] at q_v40
    have r_v40 := rng32 v40
    have q_v40 : v40.toInt = nxt.toInt + 2 := by omega
    refine g_baload C X0 d2_43 e0 A (by omega) (by omega) (v := (.int (Int32.ofInt (own_b v.toInt 5 1)))) (by rw [show v15.toInt.toNat = nxt.toInt.toNat + 1 by omega]; exact hF 1 (by decide)) rfl ?_
    refine g_istoreV C X0 d2_44 (fun v__ => #[.val (.ref a), .val (.int x1), .val (.ref vs), .val (.int x3), .val (.int v40), .val (.int kI), .val (.int v__), .val (.int v26), .val (.int (7 : Int32))]) rfl rfl ?_
    intro v44 h_v44
    rw [← h_v44] at b1
    refine g_iload C X0 d2_46 rfl rfl ?_
    refine g_iload C X0 d2_48 rfl rfl ?_
    refine g_bipush C X0 (127 : Int32) d2_50 rfl rfl ?_
    refine g_iand C X0 d2_52 rfl ?_
    refine g_iload C X0 d2_53 rfl rfl ?_
    refine g_ishl C X0 d2_55 rfl ?_
    refine g_ior C X0 d2_56 rfl ?_
    refine g_istoreV C X0 d2_57 (fun v__ => #[.val (.ref a), .val (.int x1), .val (.ref vs), .val (.int x3), .val (.int v40), .val (.int kI), .val (.int v44), .val (.int v__), .val (.int (7 : Int32))]) rfl rfl ?_
    intro v57 h_v57
    have d1 := c_mask v44 (127 : Int32) 7 (by decide) (by decide)
    have d1 : (v44 &&& (127 : Int32)).toInt = v.toInt / 128 % 128 := by rw [d1]; omega
    have o1 := own_shor v26 (v44 &&& (127 : Int32)) (7 : Int32) 7 (by decide) (by decide) 128 (by decide) (by omega) (by omega) (by omega) (by omega)
    rw [← h_v57] at o1
    have m1 : v57.toInt = v.toInt % 16384 := by rw [o1]; omega
    refine g_iinc C X0 d2_59 rfl #[.val (.ref a), .val (.int x1), .val (.ref vs), .val (.int x3), .val (.int v40), .val (.int kI), .val (.int v44), .val (.int v57), .val (.int (14 : Int32))] rfl rfl ?_
    refine g_goto C X0 d2_62 (by decide) rfl ?_
    refine g_iload C X0 d2_32 rfl rfl ?_
    refine g_if C X0 d2_34 (by decide) rfl rfl ?_ ?_
    · intro h34
      have h34 : v44.toInt ≥ 0 := h34
      exfalso; omega
    · intro h34
      have h34 : v44.toInt < 0 := h34
      refine g_aloadN C X0 d2_37 rfl rfl ?_
      refine g_iload C X0 d2_38 rfl rfl ?_
      refine g_iincV C X0 d2_40 rfl (y := (1 : Int32)) rfl (fun v__ => #[.val (.ref a), .val (.int x1), .val (.ref vs), .val (.int x3), .val (.int v__), .val (.int kI), .val (.int v44), .val (.int v57), .val (.int (14 : Int32))]) rfl rfl ?_
      intro v40_2 h_v40_2
      have q_v40_2 := c_iadd v40 (1 : Int32)
      rw [show (1 : Int32).toInt = 1 by decide, ← h_v40_2] at q_v40_2
      have r_v40_2 := rng32 v40_2
      have q_v40_2 : v40_2.toInt = nxt.toInt + 3 := by omega
      refine g_baload C X0 d2_43 e0 A (by omega) (by omega) (v := (.int (Int32.ofInt (own_b v.toInt 5 2)))) (by rw [show v40.toInt.toNat = nxt.toInt.toNat + 2 by omega]; exact hF 2 (by decide)) rfl ?_
      refine g_istoreV C X0 d2_44 (fun v__ => #[.val (.ref a), .val (.int x1), .val (.ref vs), .val (.int x3), .val (.int v40_2), .val (.int kI), .val (.int v__), .val (.int v57), .val (.int (14 : Int32))]) rfl rfl ?_
      intro v44_2 h_v44_2
      rw [← h_v44_2] at b2
      refine g_iload C X0 d2_46 rfl rfl ?_
      refine g_iload C X0 d2_48 rfl rfl ?_
      refine g_bipush C X0 (127 : Int32) d2_50 rfl rfl ?_
      refine g_iand C X0 d2_52 rfl ?_
      refine g_iload C X0 d2_53 rfl rfl ?_
      refine g_ishl C X0 d2_55 rfl ?_
      refine g_ior C X0 d2_56 rfl ?_
      refine g_istoreV C X0 d2_57 (fun v__ => #[.val (.ref a), .val (.int x1), .val (.ref vs), .val (.int x3), .val (.int v40_2), .val (.int kI), .val (.int v44_2), .val (.int v__), .val (.int (14 : Int32))]) rfl rfl ?_
      intro v57_2 h_v57_2
      have d2 := c_mask v44_2 (127 : Int32) 7 (by decide) (by decide)
      have d2 : (v44_2 &&& (127 : Int32)).toInt = v.toInt / 16384 % 128 := by rw [d2]; omega
      have o2 := own_shor v57 (v44_2 &&& (127 : Int32)) (14 : Int32) 14 (by decide) (by decide) 16384 (by decide) (by omega) (by omega) (by omega) (by omega)
      rw [← h_v57_2] at o2
      have m2 : v57_2.toInt = v.toInt % 2097152 := by rw [o2]; omega
      refine g_iinc C X0 d2_59 rfl #[.val (.ref a), .val (.int x1), .val (.ref vs), .val (.int x3), .val (.int v40_2), .val (.int kI), .val (.int v44_2), .val (.int v57_2), .val (.int (21 : Int32))] rfl rfl ?_
      refine g_goto C X0 d2_62 (by decide) rfl ?_
      refine g_iload C X0 d2_32 rfl rfl ?_
      refine g_if C X0 d2_34 (by decide) rfl rfl ?_ ?_
      · intro h34
        have h34 : v44_2.toInt ≥ 0 := h34
        exfalso; omega
      · intro h34
        have h34 : v44_2.toInt < 0 := h34
        refine g_aloadN C X0 d2_37 rfl rfl ?_
        refine g_iload C X0 d2_38 rfl rfl ?_
        refine g_iincV C X0 d2_40 rfl (y := (1 : Int32)) rfl (fun v__ => #[.val (.ref a), .val (.int x1), .val (.ref vs), .val (.int x3), .val (.int v__), .val (.int kI), .val (.int v44_2), .val (.int v57_2), .val (.int (21 : Int32))]) rfl rfl ?_
        intro v40_3 h_v40_3
        have q_v40_3 := c_iadd v40_2 (1 : Int32)
        rw [show (1 : Int32).toInt = 1 by decide, ← h_v40_3] at q_v40_3
        have r_v40_3 := rng32 v40_3
        have q_v40_3 : v40_3.toInt = nxt.toInt + 4 := by omega
        refine g_baload C X0 d2_43 e0 A (by omega) (by omega) (v := (.int (Int32.ofInt (own_b v.toInt 5 3)))) (by rw [show v40_2.toInt.toNat = nxt.toInt.toNat + 3 by omega]; exact hF 3 (by decide)) rfl ?_
        refine g_istoreV C X0 d2_44 (fun v__ => #[.val (.ref a), .val (.int x1), .val (.ref vs), .val (.int x3), .val (.int v40_3), .val (.int kI), .val (.int v__), .val (.int v57_2), .val (.int (21 : Int32))]) rfl rfl ?_
        intro v44_3 h_v44_3
        rw [← h_v44_3] at b3
        refine g_iload C X0 d2_46 rfl rfl ?_
        refine g_iload C X0 d2_48 rfl rfl ?_
        refine g_bipush C X0 (127 : Int32) d2_50 rfl rfl ?_
        refine g_iand C X0 d2_52 rfl ?_
        refine g_iload C X0 d2_53 rfl rfl ?_
        refine g_ishl C X0 d2_55 rfl ?_
        refine g_ior C X0 d2_56 rfl ?_
        refine g_istoreV C X0 d2_57 (fun v__ => #[.val (.ref a), .val (.int x1), .val (.ref vs), .val (.int x3), .val (.int v40_3), .val (.int kI), .val (.int v44_3), .val (.int v__), .val (.int (21 : Int32))]) rfl rfl ?_
        intro v57_3 h_v57_3
        have d3 := c_mask v44_3 (127 : Int32) 7 (by decide) (by decide)
        have d3 : (v44_3 &&& (127 : Int32)).toInt = v.toInt / 2097152 % 128 := by rw [d3]; omega
        have o3 := own_shor v57_2 (v44_3 &&& (127 : Int32)) (21 : Int32) 21 (by decide) (by decide) 2097152 (by decide) (by omega) (by omega) (by omega) (by omega)
        rw [← h_v57_3] at o3
        have m3 : v57_3.toInt = v.toInt % 268435456 := by rw [o3]; omega
        refine g_iinc C X0 d2_59 rfl #[.val (.ref a), .val (.int x1), .val (.ref vs), .val (.int x3), .val (.int v40_3), .val (.int kI), .val (.int v44_3), .val (.int v57_3), .val (.int (28 : Int32))] rfl rfl ?_
        refine g_goto C X0 d2_62 (by decide) rfl ?_
        refine g_iload C X0 d2_32 rfl rfl ?_
        refine g_if C X0 d2_34 (by decide) rfl rfl ?_ ?_
        · intro h34
          have h34 : v44_3.toInt ≥ 0 := h34
          exfalso; omega
        · intro h34
          have h34 : v44_3.toInt < 0 := h34
          refine g_aloadN C X0 d2_37 rfl rfl ?_
          refine g_iload C X0 d2_38 rfl rfl ?_
          refine g_iincV C X0 d2_40 rfl (y := (1 : Int32)) rfl (fun v__ => #[.val (.ref a), .val (.int x1), .val (.ref vs), .val (.int x3), .val (.int v__), .val (.int kI), .val (.int v44_3), .val (.int v57_3), .val (.int (28 : Int32))]) rfl rfl ?_
          intro v40_4 h_v40_4
          have q_v40_4 := c_iadd v40_3 (1 : Int32)
          rw [show (1 : Int32).toInt = 1 by decide, ← h_v40_4] at q_v40_4
          have r_v40_4 := rng32 v40_4
          have q_v40_4 : v40_4.toInt = nxt.toInt + 5 := by omega
          refine g_baload C X0 d2_43 e0 A (by omega) (by omega) (v := (.int (Int32.ofInt (own_b v.toInt 5 4)))) (by rw [show v40_3.toInt.toNat = nxt.toInt.toNat + 4 by omega]; exact hF 4 (by decide)) rfl ?_
          refine g_istoreV C X0 d2_44 (fun v__ => #[.val (.ref a), .val (.int x1), .val (.ref vs), .val (.int x3), .val (.int v40_4), .val (.int kI), .val (.int v__), .val (.int v57_3), .val (.int (28 : Int32))]) rfl rfl ?_
          intro v44_4 h_v44_4
          rw [← h_v44_4] at b4
          refine g_iload C X0 d2_46 rfl rfl ?_
          refine g_iload C X0 d2_48 rfl rfl ?_
          refine g_bipush C X0 (127 : Int32) d2_50 rfl rfl ?_
          refine g_iand C X0 d2_52 rfl ?_
          refine g_iload C X0 d2_53 rfl rfl ?_
          refine g_ishl C X0 d2_55 rfl ?_
          refine g_ior C X0 d2_56 rfl ?_
          refine g_istoreV C X0 d2_57 (fun v__ => #[.val (.ref a), .val (.int x1), .val (.ref vs), .val (.int x3), .val (.int v40_4), .val (.int kI), .val (.int v44_4), .val (.int v__), .val (.int (28 : Int32))]) rfl rfl ?_
          intro v57_4 h_v57_4
          have d4 := c_mask v44_4 (127 : Int32) 7 (by decide) (by decide)
          have d4 : (v44_4 &&& (127 : Int32)).toInt = v.toInt / 268435456 % 128 := by rw [d4]; omega
          have o4 := own_shor v57_3 (v44_4 &&& (127 : Int32)) (28 : Int32) 28 (by decide) (by decide) 268435456 (by decide) (by omega) (by omega) (by omega) (by omega)
          rw [← h_v57_4] at o4
          have m4 : v57_4.toInt = v.toInt % 34359738368 := by rw [o4]; omega
          refine g_iinc C X0 d2_59 rfl #[.val (.ref a), .val (.int x1), .val (.ref vs), .val (.int x3), .val (.int v40_4), .val (.int kI), .val (.int v44_4), .val (.int v57_4), .val (.int (35 : Int32))] rfl rfl ?_
          refine g_goto C X0 d2_62 (by decide) rfl ?_
          refine g_iload C X0 d2_32 rfl rfl ?_
          refine g_if C X0 d2_34 (by decide) rfl rfl ?_ ?_
          · intro h34
            have h34 : v44_4.toInt ≥ 0 := h34
            rw [show v57_4 = v from own_inj32 (by omega)]
            exact kk _ _ _ (by rw [own_len4]; rw [if_neg (by omega)]; rw [if_neg (by omega)]; rw [if_neg (by omega)]; rw [if_neg (by omega)]; omega)
          · intro h34
            have h34 : v44_4.toInt < 0 := h34
            exfalso; omega
set_option maxRecDepth 65536 in
set_option maxHeartbeats 40000000 in
theorem dec_a {p : Program} {l : Launch} {e : Env} {R : Room} {s : State} {m : MethodId} {args : Array Value} {below : List Frame} {meth : Method} {c : Code} {T0 : State} {locs : List Loc} {cells slots : Nat} {Z : State} {a0 : Array Value} {h0 : Heap} {Q : Option Value → Heap → List Loc → Prop} {Cc Sc : Nat} {a vs : Addr} {x1 x3 nxt kI : Int32} {F : Nat → Value} {N : Nat} {v : Int32}
    (C : Cx Z a0 p s m meth c prog_8_method_4_code 9 "com/example/overscore/overscore/index/VarInt" "get" (some .int)) (X0 : Stand p l e R s m args below meth c T0 locs cells slots) (e0 : T0.heap = h0) (A : Aw Z h0 a .byte N F) (i0 : 0 ≤ nxt.toInt) (i1 : nxt.toInt + own_len 4 v.toInt ≤ N) (hN : N < 2147483648) (v0 : 0 ≤ v.toInt) (hF : own_enc F nxt.toInt.toNat v.toInt (own_len 4 v.toInt))
    (kk : ∀ (nx bb sh : Int32), nx.toInt = nxt.toInt + own_len 4 v.toInt → Go p e below s m Q Cc Sc T0 65 #[.val (.ref a), .val (.int x1), .val (.ref vs), .val (.int x3), .val (.int nx), .val (.int kI), .val (.int bb), .val (.int v), .val (.int sh)] []) :
    Go p e below s m Q Cc Sc T0 12 #[.val (.ref a), .val (.int x1), .val (.ref vs), .val (.int x3), .val (.int nxt), .val (.int kI), .unset, .unset, .unset] [] := by
  have rv := rng32 v
  have hl := own_len4 v.toInt
  by_cases h1 : v.toInt < 128
  · rw [if_pos h1] at hl
    exact dec_a1 C X0 e0 A i0 (by omega) hN (by omega) (by omega) (hl ▸ hF) kk
  · skip
    by_cases h2 : v.toInt < 16384
    · rw [if_neg h1, if_pos h2] at hl
      exact dec_a2 C X0 e0 A i0 (by omega) hN (by omega) (by omega) (hl ▸ hF) kk
    · skip
      by_cases h3 : v.toInt < 2097152
      · rw [if_neg h1, if_neg h2, if_pos h3] at hl
        exact dec_a3 C X0 e0 A i0 (by omega) hN (by omega) (by omega) (hl ▸ hF) kk
      · skip
        by_cases h4 : v.toInt < 268435456
        · rw [if_neg h1, if_neg h2, if_neg h3, if_pos h4] at hl
          exact dec_a4 C X0 e0 A i0 (by omega) hN (by omega) (by omega) (hl ▸ hF) kk
        · skip
          rw [if_neg h1, if_neg h2, if_neg h3, if_neg h4] at hl
          exact dec_a5 C X0 e0 A i0 (by omega) hN (by omega) (by omega) (hl ▸ hF) kk
set_option maxRecDepth 65536 in
set_option maxHeartbeats 40000000 in
theorem dec_b1 {p : Program} {l : Launch} {e : Env} {R : Room} {s : State} {m : MethodId} {args : Array Value} {below : List Frame} {meth : Method} {c : Code} {T0 : State} {locs : List Loc} {cells slots : Nat} {Z : State} {a0 : Array Value} {h0 : Heap} {Q : Option Value → Heap → List Loc → Prop} {Cc Sc : Nat} {a vs : Addr} {x1 x3 nxt kI : Int32} {F : Nat → Value} {N : Nat} {v : Int32} {ob ov os : Int32}
    (C : Cx Z a0 p s m meth c prog_8_method_4_code 9 "com/example/overscore/overscore/index/VarInt" "get" (some .int)) (X0 : Stand p l e R s m args below meth c T0 locs cells slots) (e0 : T0.heap = h0) (A : Aw Z h0 a .byte N F) (i0 : 0 ≤ nxt.toInt) (i1 : nxt.toInt + 1 ≤ N) (hN : N < 2147483648) (v0 : 0 ≤ v.toInt) (v1 : v.toInt < 128) (hF : own_enc F nxt.toInt.toNat v.toInt 1)
    (kk : ∀ (nx bb sh : Int32), nx.toInt = nxt.toInt + own_len 4 v.toInt → Go p e below s m Q Cc Sc T0 65 #[.val (.ref a), .val (.int x1), .val (.ref vs), .val (.int x3), .val (.int nx), .val (.int kI), .val (.int bb), .val (.int v), .val (.int sh)] []) :
    Go p e below s m Q Cc Sc T0 12 #[.val (.ref a), .val (.int x1), .val (.ref vs), .val (.int x3), .val (.int nxt), .val (.int kI), .val (.int ob), .val (.int ov), .val (.int os)] [] := by
  have b0 : (Int32.ofInt (own_b v.toInt 1 0)).toInt = v.toInt := by
    have q : own_b v.toInt 1 0 = v.toInt := by unfold own_b; rw [if_neg (by decide)]; simp only [Int.reducePow, Int.ediv_one]
    rw [q, own_of (by omega) (by omega)]
  refine g_aloadN C X0 d2_12 rfl rfl ?_
  refine g_iload C X0 d2_13 rfl rfl ?_
  refine g_iincV C X0 d2_15 rfl (y := (1 : Int32)) rfl (fun v__ => #[.val (.ref a), .val (.int x1), .val (.ref vs), .val (.int x3), .val (.int v__), .val (.int kI), .val (.int ob), .val (.int ov), .val (.int os)]) rfl rfl ?_
  intro v15 h_v15
  have q_v15 := c_iadd nxt (1 : Int32)
  rw [show (1 : Int32).toInt = 1 by decide, ← h_v15] at q_v15
  have r_v15 := rng32 v15
  have q_v15 : v15.toInt = nxt.toInt + 1 := by omega
  refine g_baload C X0 d2_18 e0 A (by omega) (by omega) (v := (.int (Int32.ofInt (own_b v.toInt 1 0)))) (by rw [show nxt.toInt.toNat = nxt.toInt.toNat + 0 by omega]; exact hF 0 (by decide)) rfl ?_
  refine g_istoreV C X0 d2_19 (fun v__ => #[.val (.ref a), .val (.int x1), .val (.ref vs), .val (.int x3), .val (.int v15), .val (.int kI), .val (.int v__), .val (.int ov), .val (.int os)]) rfl rfl ?_
  intro v19 h_v19
  rw [← h_v19] at b0
  refine g_iload C X0 d2_21 rfl rfl ?_
  refine g_bipush C X0 (127 : Int32) d2_23 rfl rfl ?_
  refine g_iand C X0 d2_25 rfl ?_
  refine g_istoreV C X0 d2_26 (fun v__ => #[.val (.ref a), .val (.int x1), .val (.ref vs), .val (.int x3), .val (.int v15), .val (.int kI), .val (.int v19), .val (.int v__), .val (.int os)]) rfl rfl ?_
  intro v26 h_v26
  have m0 := c_mask v19 (127 : Int32) 7 (by decide) (by decide)
  rw [← h_v26] at m0
  have m0 : v26.toInt = v.toInt % 128 := by rw [m0]; omega
  refine g_bipush C X0 (7 : Int32) d2_28 rfl rfl ?_
  refine g_istore C X0 d2_30 #[.val (.ref a), .val (.int x1), .val (.ref vs), .val (.int x3), .val (.int v15), .val (.int kI), .val (.int v19), .val (.int v26), .val (.int (7 : Int32))] rfl rfl ?_
  refine g_iload C X0 d2_32 rfl rfl ?_
  refine g_if C X0 d2_34 (by decide) rfl rfl ?_ ?_
  · intro h34
    have h34 : v19.toInt ≥ 0 := h34
    rw [show v26 = v from own_inj32 (by omega)]
    exact kk _ _ _ (by rw [own_len4]; rw [if_pos (by omega)]; omega)
  · intro h34
    have h34 : v19.toInt < 0 := h34
    exfalso; omega
set_option maxRecDepth 65536 in
set_option maxHeartbeats 40000000 in
theorem dec_b2 {p : Program} {l : Launch} {e : Env} {R : Room} {s : State} {m : MethodId} {args : Array Value} {below : List Frame} {meth : Method} {c : Code} {T0 : State} {locs : List Loc} {cells slots : Nat} {Z : State} {a0 : Array Value} {h0 : Heap} {Q : Option Value → Heap → List Loc → Prop} {Cc Sc : Nat} {a vs : Addr} {x1 x3 nxt kI : Int32} {F : Nat → Value} {N : Nat} {v : Int32} {ob ov os : Int32}
    (C : Cx Z a0 p s m meth c prog_8_method_4_code 9 "com/example/overscore/overscore/index/VarInt" "get" (some .int)) (X0 : Stand p l e R s m args below meth c T0 locs cells slots) (e0 : T0.heap = h0) (A : Aw Z h0 a .byte N F) (i0 : 0 ≤ nxt.toInt) (i1 : nxt.toInt + 2 ≤ N) (hN : N < 2147483648) (v0 : 128 ≤ v.toInt) (v1 : v.toInt < 16384) (hF : own_enc F nxt.toInt.toNat v.toInt 2)
    (kk : ∀ (nx bb sh : Int32), nx.toInt = nxt.toInt + own_len 4 v.toInt → Go p e below s m Q Cc Sc T0 65 #[.val (.ref a), .val (.int x1), .val (.ref vs), .val (.int x3), .val (.int nx), .val (.int kI), .val (.int bb), .val (.int v), .val (.int sh)] []) :
    Go p e below s m Q Cc Sc T0 12 #[.val (.ref a), .val (.int x1), .val (.ref vs), .val (.int x3), .val (.int nxt), .val (.int kI), .val (.int ob), .val (.int ov), .val (.int os)] [] := by
  have b0 : (Int32.ofInt (own_b v.toInt 2 0)).toInt = v.toInt % 128 - 128 := by
    have q : own_b v.toInt 2 0 = v.toInt % 128 - 128 := by unfold own_b; rw [if_pos (by decide)]; simp only [Int.reducePow, Int.ediv_one]
    rw [q, own_of (by omega) (by omega)]
  have b1 : (Int32.ofInt (own_b v.toInt 2 1)).toInt = v.toInt / 128 := by
    have q : own_b v.toInt 2 1 = v.toInt / 128 := by unfold own_b; rw [if_neg (by decide)]; simp only [Int.reducePow, Int.ediv_one]
    rw [q, own_of (by omega) (by omega)]
  refine g_aloadN C X0 d2_12 rfl rfl ?_
  refine g_iload C X0 d2_13 rfl rfl ?_
  refine g_iincV C X0 d2_15 rfl (y := (1 : Int32)) rfl (fun v__ => #[.val (.ref a), .val (.int x1), .val (.ref vs), .val (.int x3), .val (.int v__), .val (.int kI), .val (.int ob), .val (.int ov), .val (.int os)]) rfl rfl ?_
  intro v15 h_v15
  have q_v15 := c_iadd nxt (1 : Int32)
  rw [show (1 : Int32).toInt = 1 by decide, ← h_v15] at q_v15
  have r_v15 := rng32 v15
  have q_v15 : v15.toInt = nxt.toInt + 1 := by omega
  refine g_baload C X0 d2_18 e0 A (by omega) (by omega) (v := (.int (Int32.ofInt (own_b v.toInt 2 0)))) (by rw [show nxt.toInt.toNat = nxt.toInt.toNat + 0 by omega]; exact hF 0 (by decide)) rfl ?_
  refine g_istoreV C X0 d2_19 (fun v__ => #[.val (.ref a), .val (.int x1), .val (.ref vs), .val (.int x3), .val (.int v15), .val (.int kI), .val (.int v__), .val (.int ov), .val (.int os)]) rfl rfl ?_
  intro v19 h_v19
  rw [← h_v19] at b0
  refine g_iload C X0 d2_21 rfl rfl ?_
  refine g_bipush C X0 (127 : Int32) d2_23 rfl rfl ?_
  refine g_iand C X0 d2_25 rfl ?_
  refine g_istoreV C X0 d2_26 (fun v__ => #[.val (.ref a), .val (.int x1), .val (.ref vs), .val (.int x3), .val (.int v15), .val (.int kI), .val (.int v19), .val (.int v__), .val (.int os)]) rfl rfl ?_
  intro v26 h_v26
  have m0 := c_mask v19 (127 : Int32) 7 (by decide) (by decide)
  rw [← h_v26] at m0
  have m0 : v26.toInt = v.toInt % 128 := by rw [m0]; omega
  refine g_bipush C X0 (7 : Int32) d2_28 rfl rfl ?_
  refine g_istore C X0 d2_30 #[.val (.ref a), .val (.int x1), .val (.ref vs), .val (.int x3), .val (.int v15), .val (.int kI), .val (.int v19), .val (.int v26), .val (.int (7 : Int32))] rfl rfl ?_
  refine g_iload C X0 d2_32 rfl rfl ?_
  refine g_if C X0 d2_34 (by decide) rfl rfl ?_ ?_
  · intro h34
    have h34 : v19.toInt ≥ 0 := h34
    exfalso; omega
  · intro h34
    have h34 : v19.toInt < 0 := h34
    refine g_aloadN C X0 d2_37 rfl rfl ?_
    refine g_iload C X0 d2_38 rfl rfl ?_
    refine g_iincV C X0 d2_40 rfl (y := (1 : Int32)) rfl (fun v__ => #[.val (.ref a), .val (.int x1), .val (.ref vs), .val (.int x3), .val (.int v__), .val (.int kI), .val (.int v19), .val (.int v26), .val (.int (7 : Int32))]) rfl rfl ?_
    intro v40 h_v40
    have q_v40 := c_iadd v15 (1 : Int32)
    rw [show (1 : Int32).toInt = 1 by decide, ← h_v40] at q_v40
    have r_v40 := rng32 v40
    have q_v40 : v40.toInt = nxt.toInt + 2 := by omega
    refine g_baload C X0 d2_43 e0 A (by omega) (by omega) (v := (.int (Int32.ofInt (own_b v.toInt 2 1)))) (by rw [show v15.toInt.toNat = nxt.toInt.toNat + 1 by omega]; exact hF 1 (by decide)) rfl ?_
    refine g_istoreV C X0 d2_44 (fun v__ => #[.val (.ref a), .val (.int x1), .val (.ref vs), .val (.int x3), .val (.int v40), .val (.int kI), .val (.int v__), .val (.int v26), .val (.int (7 : Int32))]) rfl rfl ?_
    intro v44 h_v44
    rw [← h_v44] at b1
    refine g_iload C X0 d2_46 rfl rfl ?_
    refine g_iload C X0 d2_48 rfl rfl ?_
    refine g_bipush C X0 (127 : Int32) d2_50 rfl rfl ?_
    refine g_iand C X0 d2_52 rfl ?_
    refine g_iload C X0 d2_53 rfl rfl ?_
    refine g_ishl C X0 d2_55 rfl ?_
    refine g_ior C X0 d2_56 rfl ?_
    refine g_istoreV C X0 d2_57 (fun v__ => #[.val (.ref a), .val (.int x1), .val (.ref vs), .val (.int x3), .val (.int v40), .val (.int kI), .val (.int v44), .val (.int v__), .val (.int (7 : Int32))]) rfl rfl ?_
    intro v57 h_v57
    have d1 := c_mask v44 (127 : Int32) 7 (by decide) (by decide)
    have d1 : (v44 &&& (127 : Int32)).toInt = v.toInt / 128 % 128 := by rw [d1]; omega
    have o1 := own_shor v26 (v44 &&& (127 : Int32)) (7 : Int32) 7 (by decide) (by decide) 128 (by decide) (by omega) (by omega) (by omega) (by omega)
    rw [← h_v57] at o1
    have m1 : v57.toInt = v.toInt % 16384 := by rw [o1]; omega
    refine g_iinc C X0 d2_59 rfl #[.val (.ref a), .val (.int x1), .val (.ref vs), .val (.int x3), .val (.int v40), .val (.int kI), .val (.int v44), .val (.int v57), .val (.int (14 : Int32))] rfl rfl ?_
    refine g_goto C X0 d2_62 (by decide) rfl ?_
    refine g_iload C X0 d2_32 rfl rfl ?_
    refine g_if C X0 d2_34 (by decide) rfl rfl ?_ ?_
    · intro h34
      have h34 : v44.toInt ≥ 0 := h34
      rw [show v57 = v from own_inj32 (by omega)]
      exact kk _ _ _ (by rw [own_len4]; rw [if_neg (by omega)]; rw [if_pos (by omega)]; omega)
    · intro h34
      have h34 : v44.toInt < 0 := h34
      exfalso; omega
set_option maxRecDepth 65536 in
set_option maxHeartbeats 40000000 in
theorem dec_b3 {p : Program} {l : Launch} {e : Env} {R : Room} {s : State} {m : MethodId} {args : Array Value} {below : List Frame} {meth : Method} {c : Code} {T0 : State} {locs : List Loc} {cells slots : Nat} {Z : State} {a0 : Array Value} {h0 : Heap} {Q : Option Value → Heap → List Loc → Prop} {Cc Sc : Nat} {a vs : Addr} {x1 x3 nxt kI : Int32} {F : Nat → Value} {N : Nat} {v : Int32} {ob ov os : Int32}
    (C : Cx Z a0 p s m meth c prog_8_method_4_code 9 "com/example/overscore/overscore/index/VarInt" "get" (some .int)) (X0 : Stand p l e R s m args below meth c T0 locs cells slots) (e0 : T0.heap = h0) (A : Aw Z h0 a .byte N F) (i0 : 0 ≤ nxt.toInt) (i1 : nxt.toInt + 3 ≤ N) (hN : N < 2147483648) (v0 : 16384 ≤ v.toInt) (v1 : v.toInt < 2097152) (hF : own_enc F nxt.toInt.toNat v.toInt 3)
    (kk : ∀ (nx bb sh : Int32), nx.toInt = nxt.toInt + own_len 4 v.toInt → Go p e below s m Q Cc Sc T0 65 #[.val (.ref a), .val (.int x1), .val (.ref vs), .val (.int x3), .val (.int nx), .val (.int kI), .val (.int bb), .val (.int v), .val (.int sh)] []) :
    Go p e below s m Q Cc Sc T0 12 #[.val (.ref a), .val (.int x1), .val (.ref vs), .val (.int x3), .val (.int nxt), .val (.int kI), .val (.int ob), .val (.int ov), .val (.int os)] [] := by
  have b0 : (Int32.ofInt (own_b v.toInt 3 0)).toInt = v.toInt % 128 - 128 := by
    have q : own_b v.toInt 3 0 = v.toInt % 128 - 128 := by unfold own_b; rw [if_pos (by decide)]; simp only [Int.reducePow, Int.ediv_one]
    rw [q, own_of (by omega) (by omega)]
  have b1 : (Int32.ofInt (own_b v.toInt 3 1)).toInt = v.toInt / 128 % 128 - 128 := by
    have q : own_b v.toInt 3 1 = v.toInt / 128 % 128 - 128 := by unfold own_b; rw [if_pos (by decide)]; simp only [Int.reducePow, Int.ediv_one]
    rw [q, own_of (by omega) (by omega)]
  have b2 : (Int32.ofInt (own_b v.toInt 3 2)).toInt = v.toInt / 16384 := by
    have q : own_b v.toInt 3 2 = v.toInt / 16384 := by unfold own_b; rw [if_neg (by decide)]; simp only [Int.reducePow, Int.ediv_one]
    rw [q, own_of (by omega) (by omega)]
  refine g_aloadN C X0 d2_12 rfl rfl ?_
  refine g_iload C X0 d2_13 rfl rfl ?_
  refine g_iincV C X0 d2_15 rfl (y := (1 : Int32)) rfl (fun v__ => #[.val (.ref a), .val (.int x1), .val (.ref vs), .val (.int x3), .val (.int v__), .val (.int kI), .val (.int ob), .val (.int ov), .val (.int os)]) rfl rfl ?_
  intro v15 h_v15
  have q_v15 := c_iadd nxt (1 : Int32)
  rw [show (1 : Int32).toInt = 1 by decide, ← h_v15] at q_v15
  have r_v15 := rng32 v15
  have q_v15 : v15.toInt = nxt.toInt + 1 := by omega
  refine g_baload C X0 d2_18 e0 A (by omega) (by omega) (v := (.int (Int32.ofInt (own_b v.toInt 3 0)))) (by rw [show nxt.toInt.toNat = nxt.toInt.toNat + 0 by omega]; exact hF 0 (by decide)) rfl ?_
  refine g_istoreV C X0 d2_19 (fun v__ => #[.val (.ref a), .val (.int x1), .val (.ref vs), .val (.int x3), .val (.int v15), .val (.int kI), .val (.int v__), .val (.int ov), .val (.int os)]) rfl rfl ?_
  intro v19 h_v19
  rw [← h_v19] at b0
  refine g_iload C X0 d2_21 rfl rfl ?_
  refine g_bipush C X0 (127 : Int32) d2_23 rfl rfl ?_
  refine g_iand C X0 d2_25 rfl ?_
  refine g_istoreV C X0 d2_26 (fun v__ => #[.val (.ref a), .val (.int x1), .val (.ref vs), .val (.int x3), .val (.int v15), .val (.int kI), .val (.int v19), .val (.int v__), .val (.int os)]) rfl rfl ?_
  intro v26 h_v26
  have m0 := c_mask v19 (127 : Int32) 7 (by decide) (by decide)
  rw [← h_v26] at m0
  have m0 : v26.toInt = v.toInt % 128 := by rw [m0]; omega
  refine g_bipush C X0 (7 : Int32) d2_28 rfl rfl ?_
  refine g_istore C X0 d2_30 #[.val (.ref a), .val (.int x1), .val (.ref vs), .val (.int x3), .val (.int v15), .val (.int kI), .val (.int v19), .val (.int v26), .val (.int (7 : Int32))] rfl rfl ?_
  refine g_iload C X0 d2_32 rfl rfl ?_
  refine g_if C X0 d2_34 (by decide) rfl rfl ?_ ?_
  · intro h34
    have h34 : v19.toInt ≥ 0 := h34
    exfalso; omega
  · intro h34
    have h34 : v19.toInt < 0 := h34
    refine g_aloadN C X0 d2_37 rfl rfl ?_
    refine g_iload C X0 d2_38 rfl rfl ?_
    refine g_iincV C X0 d2_40 rfl (y := (1 : Int32)) rfl (fun v__ => #[.val (.ref a), .val (.int x1), .val (.ref vs), .val (.int x3), .val (.int v__), .val (.int kI), .val (.int v19), .val (.int v26), .val (.int (7 : Int32))]) rfl rfl ?_
    intro v40 h_v40
    have q_v40 := c_iadd v15 (1 : Int32)
    rw [show (1 : Int32).toInt = 1 by decide, ← h_v40] at q_v40
    have r_v40 := rng32 v40
    have q_v40 : v40.toInt = nxt.toInt + 2 := by omega
    refine g_baload C X0 d2_43 e0 A (by omega) (by omega) (v := (.int (Int32.ofInt (own_b v.toInt 3 1)))) (by rw [show v15.toInt.toNat = nxt.toInt.toNat + 1 by omega]; exact hF 1 (by decide)) rfl ?_
    refine g_istoreV C X0 d2_44 (fun v__ => #[.val (.ref a), .val (.int x1), .val (.ref vs), .val (.int x3), .val (.int v40), .val (.int kI), .val (.int v__), .val (.int v26), .val (.int (7 : Int32))]) rfl rfl ?_
    intro v44 h_v44
    rw [← h_v44] at b1
    refine g_iload C X0 d2_46 rfl rfl ?_
    refine g_iload C X0 d2_48 rfl rfl ?_
    refine g_bipush C X0 (127 : Int32) d2_50 rfl rfl ?_
    refine g_iand C X0 d2_52 rfl ?_
    refine g_iload C X0 d2_53 rfl rfl ?_
    refine g_ishl C X0 d2_55 rfl ?_
    refine g_ior C X0 d2_56 rfl ?_
    refine g_istoreV C X0 d2_57 (fun v__ => #[.val (.ref a), .val (.int x1), .val (.ref vs), .val (.int x3), .val (.int v40), .val (.int kI), .val (.int v44), .val (.int v__), .val (.int (7 : Int32))]) rfl rfl ?_
    intro v57 h_v57
    have d1 := c_mask v44 (127 : Int32) 7 (by decide) (by decide)
    have d1 : (v44 &&& (127 : Int32)).toInt = v.toInt / 128 % 128 := by rw [d1]; omega
    have o1 := own_shor v26 (v44 &&& (127 : Int32)) (7 : Int32) 7 (by decide) (by decide) 128 (by decide) (by omega) (by omega) (by omega) (by omega)
    rw [← h_v57] at o1
    have m1 : v57.toInt = v.toInt % 16384 := by rw [o1]; omega
    refine g_iinc C X0 d2_59 rfl #[.val (.ref a), .val (.int x1), .val (.ref vs), .val (.int x3), .val (.int v40), .val (.int kI), .val (.int v44), .val (.int v57), .val (.int (14 : Int32))] rfl rfl ?_
    refine g_goto C X0 d2_62 (by decide) rfl ?_
    refine g_iload C X0 d2_32 rfl rfl ?_
    refine g_if C X0 d2_34 (by decide) rfl rfl ?_ ?_
    · intro h34
      have h34 : v44.toInt ≥ 0 := h34
      exfalso; omega
    · intro h34
      have h34 : v44.toInt < 0 := h34
      refine g_aloadN C X0 d2_37 rfl rfl ?_
      refine g_iload C X0 d2_38 rfl rfl ?_
      refine g_iincV C X0 d2_40 rfl (y := (1 : Int32)) rfl (fun v__ => #[.val (.ref a), .val (.int x1), .val (.ref vs), .val (.int x3), .val (.int v__), .val (.int kI), .val (.int v44), .val (.int v57), .val (.int (14 : Int32))]) rfl rfl ?_
      intro v40_2 h_v40_2
      have q_v40_2 := c_iadd v40 (1 : Int32)
      rw [show (1 : Int32).toInt = 1 by decide, ← h_v40_2] at q_v40_2
      have r_v40_2 := rng32 v40_2
      have q_v40_2 : v40_2.toInt = nxt.toInt + 3 := by omega
      refine g_baload C X0 d2_43 e0 A (by omega) (by omega) (v := (.int (Int32.ofInt (own_b v.toInt 3 2)))) (by rw [show v40.toInt.toNat = nxt.toInt.toNat + 2 by omega]; exact hF 2 (by decide)) rfl ?_
      refine g_istoreV C X0 d2_44 (fun v__ => #[.val (.ref a), .val (.int x1), .val (.ref vs), .val (.int x3), .val (.int v40_2), .val (.int kI), .val (.int v__), .val (.int v57), .val (.int (14 : Int32))]) rfl rfl ?_
      intro v44_2 h_v44_2
      rw [← h_v44_2] at b2
      refine g_iload C X0 d2_46 rfl rfl ?_
      refine g_iload C X0 d2_48 rfl rfl ?_
      refine g_bipush C X0 (127 : Int32) d2_50 rfl rfl ?_
      refine g_iand C X0 d2_52 rfl ?_
      refine g_iload C X0 d2_53 rfl rfl ?_
      refine g_ishl C X0 d2_55 rfl ?_
      refine g_ior C X0 d2_56 rfl ?_
      refine g_istoreV C X0 d2_57 (fun v__ => #[.val (.ref a), .val (.int x1), .val (.ref vs), .val (.int x3), .val (.int v40_2), .val (.int kI), .val (.int v44_2), .val (.int v__), .val (.int (14 : Int32))]) rfl rfl ?_
      intro v57_2 h_v57_2
      have d2 := c_mask v44_2 (127 : Int32) 7 (by decide) (by decide)
      have d2 : (v44_2 &&& (127 : Int32)).toInt = v.toInt / 16384 % 128 := by rw [d2]; omega
      have o2 := own_shor v57 (v44_2 &&& (127 : Int32)) (14 : Int32) 14 (by decide) (by decide) 16384 (by decide) (by omega) (by omega) (by omega) (by omega)
      rw [← h_v57_2] at o2
      have m2 : v57_2.toInt = v.toInt % 2097152 := by rw [o2]; omega
      refine g_iinc C X0 d2_59 rfl #[.val (.ref a), .val (.int x1), .val (.ref vs), .val (.int x3), .val (.int v40_2), .val (.int kI), .val (.int v44_2), .val (.int v57_2), .val (.int (21 : Int32))] rfl rfl ?_
      refine g_goto C X0 d2_62 (by decide) rfl ?_
      refine g_iload C X0 d2_32 rfl rfl ?_
      refine g_if C X0 d2_34 (by decide) rfl rfl ?_ ?_
      · intro h34
        have h34 : v44_2.toInt ≥ 0 := h34
        rw [show v57_2 = v from own_inj32 (by omega)]
        exact kk _ _ _ (by rw [own_len4]; rw [if_neg (by omega)]; rw [if_neg (by omega)]; rw [if_pos (by omega)]; omega)
      · intro h34
        have h34 : v44_2.toInt < 0 := h34
        exfalso; omega
set_option maxRecDepth 65536 in
set_option maxHeartbeats 40000000 in
theorem dec_b4 {p : Program} {l : Launch} {e : Env} {R : Room} {s : State} {m : MethodId} {args : Array Value} {below : List Frame} {meth : Method} {c : Code} {T0 : State} {locs : List Loc} {cells slots : Nat} {Z : State} {a0 : Array Value} {h0 : Heap} {Q : Option Value → Heap → List Loc → Prop} {Cc Sc : Nat} {a vs : Addr} {x1 x3 nxt kI : Int32} {F : Nat → Value} {N : Nat} {v : Int32} {ob ov os : Int32}
    (C : Cx Z a0 p s m meth c prog_8_method_4_code 9 "com/example/overscore/overscore/index/VarInt" "get" (some .int)) (X0 : Stand p l e R s m args below meth c T0 locs cells slots) (e0 : T0.heap = h0) (A : Aw Z h0 a .byte N F) (i0 : 0 ≤ nxt.toInt) (i1 : nxt.toInt + 4 ≤ N) (hN : N < 2147483648) (v0 : 2097152 ≤ v.toInt) (v1 : v.toInt < 268435456) (hF : own_enc F nxt.toInt.toNat v.toInt 4)
    (kk : ∀ (nx bb sh : Int32), nx.toInt = nxt.toInt + own_len 4 v.toInt → Go p e below s m Q Cc Sc T0 65 #[.val (.ref a), .val (.int x1), .val (.ref vs), .val (.int x3), .val (.int nx), .val (.int kI), .val (.int bb), .val (.int v), .val (.int sh)] []) :
    Go p e below s m Q Cc Sc T0 12 #[.val (.ref a), .val (.int x1), .val (.ref vs), .val (.int x3), .val (.int nxt), .val (.int kI), .val (.int ob), .val (.int ov), .val (.int os)] [] := by
  have b0 : (Int32.ofInt (own_b v.toInt 4 0)).toInt = v.toInt % 128 - 128 := by
    have q : own_b v.toInt 4 0 = v.toInt % 128 - 128 := by unfold own_b; rw [if_pos (by decide)]; simp only [Int.reducePow, Int.ediv_one]
    rw [q, own_of (by omega) (by omega)]
  have b1 : (Int32.ofInt (own_b v.toInt 4 1)).toInt = v.toInt / 128 % 128 - 128 := by
    have q : own_b v.toInt 4 1 = v.toInt / 128 % 128 - 128 := by unfold own_b; rw [if_pos (by decide)]; simp only [Int.reducePow, Int.ediv_one]
    rw [q, own_of (by omega) (by omega)]
  have b2 : (Int32.ofInt (own_b v.toInt 4 2)).toInt = v.toInt / 16384 % 128 - 128 := by
    have q : own_b v.toInt 4 2 = v.toInt / 16384 % 128 - 128 := by unfold own_b; rw [if_pos (by decide)]; simp only [Int.reducePow, Int.ediv_one]
    rw [q, own_of (by omega) (by omega)]
  have b3 : (Int32.ofInt (own_b v.toInt 4 3)).toInt = v.toInt / 2097152 := by
    have q : own_b v.toInt 4 3 = v.toInt / 2097152 := by unfold own_b; rw [if_neg (by decide)]; simp only [Int.reducePow, Int.ediv_one]
    rw [q, own_of (by omega) (by omega)]
  refine g_aloadN C X0 d2_12 rfl rfl ?_
  refine g_iload C X0 d2_13 rfl rfl ?_
  refine g_iincV C X0 d2_15 rfl (y := (1 : Int32)) rfl (fun v__ => #[.val (.ref a), .val (.int x1), .val (.ref vs), .val (.int x3), .val (.int v__), .val (.int kI), .val (.int ob), .val (.int ov), .val (.int os)]) rfl rfl ?_
  intro v15 h_v15
  have q_v15 := c_iadd nxt (1 : Int32)
  rw [show (1 : Int32).toInt = 1 by decide, ← h_v15] at q_v15
  have r_v15 := rng32 v15
  have q_v15 : v15.toInt = nxt.toInt + 1 := by omega
  refine g_baload C X0 d2_18 e0 A (by omega) (by omega) (v := (.int (Int32.ofInt (own_b v.toInt 4 0)))) (by rw [show nxt.toInt.toNat = nxt.toInt.toNat + 0 by omega]; exact hF 0 (by decide)) rfl ?_
  refine g_istoreV C X0 d2_19 (fun v__ => #[.val (.ref a), .val (.int x1), .val (.ref vs), .val (.int x3), .val (.int v15), .val (.int kI), .val (.int v__), .val (.int ov), .val (.int os)]) rfl rfl ?_
  intro v19 h_v19
  rw [← h_v19] at b0
  refine g_iload C X0 d2_21 rfl rfl ?_
  refine g_bipush C X0 (127 : Int32) d2_23 rfl rfl ?_
  refine g_iand C X0 d2_25 rfl ?_
  refine g_istoreV C X0 d2_26 (fun v__ => #[.val (.ref a), .val (.int x1), .val (.ref vs), .val (.int x3), .val (.int v15), .val (.int kI), .val (.int v19), .val (.int v__), .val (.int os)]) rfl rfl ?_
  intro v26 h_v26
  have m0 := c_mask v19 (127 : Int32) 7 (by decide) (by decide)
  rw [← h_v26] at m0
  have m0 : v26.toInt = v.toInt % 128 := by rw [m0]; omega
  refine g_bipush C X0 (7 : Int32) d2_28 rfl rfl ?_
  refine g_istore C X0 d2_30 #[.val (.ref a), .val (.int x1), .val (.ref vs), .val (.int x3), .val (.int v15), .val (.int kI), .val (.int v19), .val (.int v26), .val (.int (7 : Int32))] rfl rfl ?_
  refine g_iload C X0 d2_32 rfl rfl ?_
  refine g_if C X0 d2_34 (by decide) rfl rfl ?_ ?_
  · intro h34
    have h34 : v19.toInt ≥ 0 := h34
    exfalso; omega
  · intro h34
    have h34 : v19.toInt < 0 := h34
    refine g_aloadN C X0 d2_37 rfl rfl ?_
    refine g_iload C X0 d2_38 rfl rfl ?_
    refine g_iincV C X0 d2_40 rfl (y := (1 : Int32)) rfl (fun v__ => #[.val (.ref a), .val (.int x1), .val (.ref vs), .val (.int x3), .val (.int v__), .val (.int kI), .val (.int v19), .val (.int v26), .val (.int (7 : Int32))]) rfl rfl ?_
    intro v40 h_v40
    have q_v40 := c_iadd v15 (1 : Int32)
    rw [show (1 : Int32).toInt = 1 by decide, ← h_v40] at q_v40
    have r_v40 := rng32 v40
    have q_v40 : v40.toInt = nxt.toInt + 2 := by omega
    refine g_baload C X0 d2_43 e0 A (by omega) (by omega) (v := (.int (Int32.ofInt (own_b v.toInt 4 1)))) (by rw [show v15.toInt.toNat = nxt.toInt.toNat + 1 by omega]; exact hF 1 (by decide)) rfl ?_
    refine g_istoreV C X0 d2_44 (fun v__ => #[.val (.ref a), .val (.int x1), .val (.ref vs), .val (.int x3), .val (.int v40), .val (.int kI), .val (.int v__), .val (.int v26), .val (.int (7 : Int32))]) rfl rfl ?_
    intro v44 h_v44
    rw [← h_v44] at b1
    refine g_iload C X0 d2_46 rfl rfl ?_
    refine g_iload C X0 d2_48 rfl rfl ?_
    refine g_bipush C X0 (127 : Int32) d2_50 rfl rfl ?_
    refine g_iand C X0 d2_52 rfl ?_
    refine g_iload C X0 d2_53 rfl rfl ?_
    refine g_ishl C X0 d2_55 rfl ?_
    refine g_ior C X0 d2_56 rfl ?_
    refine g_istoreV C X0 d2_57 (fun v__ => #[.val (.ref a), .val (.int x1), .val (.ref vs), .val (.int x3), .val (.int v40), .val (.int kI), .val (.int v44), .val (.int v__), .val (.int (7 : Int32))]) rfl rfl ?_
    intro v57 h_v57
    have d1 := c_mask v44 (127 : Int32) 7 (by decide) (by decide)
    have d1 : (v44 &&& (127 : Int32)).toInt = v.toInt / 128 % 128 := by rw [d1]; omega
    have o1 := own_shor v26 (v44 &&& (127 : Int32)) (7 : Int32) 7 (by decide) (by decide) 128 (by decide) (by omega) (by omega) (by omega) (by omega)
    rw [← h_v57] at o1
    have m1 : v57.toInt = v.toInt % 16384 := by rw [o1]; omega
    refine g_iinc C X0 d2_59 rfl #[.val (.ref a), .val (.int x1), .val (.ref vs), .val (.int x3), .val (.int v40), .val (.int kI), .val (.int v44), .val (.int v57), .val (.int (14 : Int32))] rfl rfl ?_
    refine g_goto C X0 d2_62 (by decide) rfl ?_
    refine g_iload C X0 d2_32 rfl rfl ?_
    refine g_if C X0 d2_34 (by decide) rfl rfl ?_ ?_
    · intro h34
      have h34 : v44.toInt ≥ 0 := h34
      exfalso; omega
    · intro h34
      have h34 : v44.toInt < 0 := h34
      refine g_aloadN C X0 d2_37 rfl rfl ?_
      refine g_iload C X0 d2_38 rfl rfl ?_
      refine g_iincV C X0 d2_40 rfl (y := (1 : Int32)) rfl (fun v__ => #[.val (.ref a), .val (.int x1), .val (.ref vs), .val (.int x3), .val (.int v__), .val (.int kI), .val (.int v44), .val (.int v57), .val (.int (14 : Int32))]) rfl rfl ?_
      intro v40_2 h_v40_2
      have q_v40_2 := c_iadd v40 (1 : Int32)
      rw [show (1 : Int32).toInt = 1 by decide, ← h_v40_2] at q_v40_2
      have r_v40_2 := rng32 v40_2
      have q_v40_2 : v40_2.toInt = nxt.toInt + 3 := by omega
      refine g_baload C X0 d2_43 e0 A (by omega) (by omega) (v := (.int (Int32.ofInt (own_b v.toInt 4 2)))) (by rw [show v40.toInt.toNat = nxt.toInt.toNat + 2 by omega]; exact hF 2 (by decide)) rfl ?_
      refine g_istoreV C X0 d2_44 (fun v__ => #[.val (.ref a), .val (.int x1), .val (.ref vs), .val (.int x3), .val (.int v40_2), .val (.int kI), .val (.int v__), .val (.int v57), .val (.int (14 : Int32))]) rfl rfl ?_
      intro v44_2 h_v44_2
      rw [← h_v44_2] at b2
      refine g_iload C X0 d2_46 rfl rfl ?_
      refine g_iload C X0 d2_48 rfl rfl ?_
      refine g_bipush C X0 (127 : Int32) d2_50 rfl rfl ?_
      refine g_iand C X0 d2_52 rfl ?_
      refine g_iload C X0 d2_53 rfl rfl ?_
      refine g_ishl C X0 d2_55 rfl ?_
      refine g_ior C X0 d2_56 rfl ?_
      refine g_istoreV C X0 d2_57 (fun v__ => #[.val (.ref a), .val (.int x1), .val (.ref vs), .val (.int x3), .val (.int v40_2), .val (.int kI), .val (.int v44_2), .val (.int v__), .val (.int (14 : Int32))]) rfl rfl ?_
      intro v57_2 h_v57_2
      have d2 := c_mask v44_2 (127 : Int32) 7 (by decide) (by decide)
      have d2 : (v44_2 &&& (127 : Int32)).toInt = v.toInt / 16384 % 128 := by rw [d2]; omega
      have o2 := own_shor v57 (v44_2 &&& (127 : Int32)) (14 : Int32) 14 (by decide) (by decide) 16384 (by decide) (by omega) (by omega) (by omega) (by omega)
      rw [← h_v57_2] at o2
      have m2 : v57_2.toInt = v.toInt % 2097152 := by rw [o2]; omega
      refine g_iinc C X0 d2_59 rfl #[.val (.ref a), .val (.int x1), .val (.ref vs), .val (.int x3), .val (.int v40_2), .val (.int kI), .val (.int v44_2), .val (.int v57_2), .val (.int (21 : Int32))] rfl rfl ?_
      refine g_goto C X0 d2_62 (by decide) rfl ?_
      refine g_iload C X0 d2_32 rfl rfl ?_
      refine g_if C X0 d2_34 (by decide) rfl rfl ?_ ?_
      · intro h34
        have h34 : v44_2.toInt ≥ 0 := h34
        exfalso; omega
      · intro h34
        have h34 : v44_2.toInt < 0 := h34
        refine g_aloadN C X0 d2_37 rfl rfl ?_
        refine g_iload C X0 d2_38 rfl rfl ?_
        refine g_iincV C X0 d2_40 rfl (y := (1 : Int32)) rfl (fun v__ => #[.val (.ref a), .val (.int x1), .val (.ref vs), .val (.int x3), .val (.int v__), .val (.int kI), .val (.int v44_2), .val (.int v57_2), .val (.int (21 : Int32))]) rfl rfl ?_
        intro v40_3 h_v40_3
        have q_v40_3 := c_iadd v40_2 (1 : Int32)
        rw [show (1 : Int32).toInt = 1 by decide, ← h_v40_3] at q_v40_3
        have r_v40_3 := rng32 v40_3
        have q_v40_3 : v40_3.toInt = nxt.toInt + 4 := by omega
        refine g_baload C X0 d2_43 e0 A (by omega) (by omega) (v := (.int (Int32.ofInt (own_b v.toInt 4 3)))) (by rw [show v40_2.toInt.toNat = nxt.toInt.toNat + 3 by omega]; exact hF 3 (by decide)) rfl ?_
        refine g_istoreV C X0 d2_44 (fun v__ => #[.val (.ref a), .val (.int x1), .val (.ref vs), .val (.int x3), .val (.int v40_3), .val (.int kI), .val (.int v__), .val (.int v57_2), .val (.int (21 : Int32))]) rfl rfl ?_
        intro v44_3 h_v44_3
        rw [← h_v44_3] at b3
        refine g_iload C X0 d2_46 rfl rfl ?_
        refine g_iload C X0 d2_48 rfl rfl ?_
        refine g_bipush C X0 (127 : Int32) d2_50 rfl rfl ?_
        refine g_iand C X0 d2_52 rfl ?_
        refine g_iload C X0 d2_53 rfl rfl ?_
        refine g_ishl C X0 d2_55 rfl ?_
        refine g_ior C X0 d2_56 rfl ?_
        refine g_istoreV C X0 d2_57 (fun v__ => #[.val (.ref a), .val (.int x1), .val (.ref vs), .val (.int x3), .val (.int v40_3), .val (.int kI), .val (.int v44_3), .val (.int v__), .val (.int (21 : Int32))]) rfl rfl ?_
        intro v57_3 h_v57_3
        have d3 := c_mask v44_3 (127 : Int32) 7 (by decide) (by decide)
        have d3 : (v44_3 &&& (127 : Int32)).toInt = v.toInt / 2097152 % 128 := by rw [d3]; omega
        have o3 := own_shor v57_2 (v44_3 &&& (127 : Int32)) (21 : Int32) 21 (by decide) (by decide) 2097152 (by decide) (by omega) (by omega) (by omega) (by omega)
        rw [← h_v57_3] at o3
        have m3 : v57_3.toInt = v.toInt % 268435456 := by rw [o3]; omega
        refine g_iinc C X0 d2_59 rfl #[.val (.ref a), .val (.int x1), .val (.ref vs), .val (.int x3), .val (.int v40_3), .val (.int kI), .val (.int v44_3), .val (.int v57_3), .val (.int (28 : Int32))] rfl rfl ?_
        refine g_goto C X0 d2_62 (by decide) rfl ?_
        refine g_iload C X0 d2_32 rfl rfl ?_
        refine g_if C X0 d2_34 (by decide) rfl rfl ?_ ?_
        · intro h34
          have h34 : v44_3.toInt ≥ 0 := h34
          rw [show v57_3 = v from own_inj32 (by omega)]
          exact kk _ _ _ (by rw [own_len4]; rw [if_neg (by omega)]; rw [if_neg (by omega)]; rw [if_neg (by omega)]; rw [if_pos (by omega)]; omega)
        · intro h34
          have h34 : v44_3.toInt < 0 := h34
          exfalso; omega
set_option maxRecDepth 65536 in
set_option maxHeartbeats 40000000 in
theorem dec_b5 {p : Program} {l : Launch} {e : Env} {R : Room} {s : State} {m : MethodId} {args : Array Value} {below : List Frame} {meth : Method} {c : Code} {T0 : State} {locs : List Loc} {cells slots : Nat} {Z : State} {a0 : Array Value} {h0 : Heap} {Q : Option Value → Heap → List Loc → Prop} {Cc Sc : Nat} {a vs : Addr} {x1 x3 nxt kI : Int32} {F : Nat → Value} {N : Nat} {v : Int32} {ob ov os : Int32}
    (C : Cx Z a0 p s m meth c prog_8_method_4_code 9 "com/example/overscore/overscore/index/VarInt" "get" (some .int)) (X0 : Stand p l e R s m args below meth c T0 locs cells slots) (e0 : T0.heap = h0) (A : Aw Z h0 a .byte N F) (i0 : 0 ≤ nxt.toInt) (i1 : nxt.toInt + 5 ≤ N) (hN : N < 2147483648) (v0 : 268435456 ≤ v.toInt) (v1 : v.toInt < 2147483648) (hF : own_enc F nxt.toInt.toNat v.toInt 5)
    (kk : ∀ (nx bb sh : Int32), nx.toInt = nxt.toInt + own_len 4 v.toInt → Go p e below s m Q Cc Sc T0 65 #[.val (.ref a), .val (.int x1), .val (.ref vs), .val (.int x3), .val (.int nx), .val (.int kI), .val (.int bb), .val (.int v), .val (.int sh)] []) :
    Go p e below s m Q Cc Sc T0 12 #[.val (.ref a), .val (.int x1), .val (.ref vs), .val (.int x3), .val (.int nxt), .val (.int kI), .val (.int ob), .val (.int ov), .val (.int os)] [] := by
  have b0 : (Int32.ofInt (own_b v.toInt 5 0)).toInt = v.toInt % 128 - 128 := by
    have q : own_b v.toInt 5 0 = v.toInt % 128 - 128 := by unfold own_b; rw [if_pos (by decide)]; simp only [Int.reducePow, Int.ediv_one]
    rw [q, own_of (by omega) (by omega)]
  have b1 : (Int32.ofInt (own_b v.toInt 5 1)).toInt = v.toInt / 128 % 128 - 128 := by
    have q : own_b v.toInt 5 1 = v.toInt / 128 % 128 - 128 := by unfold own_b; rw [if_pos (by decide)]; simp only [Int.reducePow, Int.ediv_one]
    rw [q, own_of (by omega) (by omega)]
  have b2 : (Int32.ofInt (own_b v.toInt 5 2)).toInt = v.toInt / 16384 % 128 - 128 := by
    have q : own_b v.toInt 5 2 = v.toInt / 16384 % 128 - 128 := by unfold own_b; rw [if_pos (by decide)]; simp only [Int.reducePow, Int.ediv_one]
    rw [q, own_of (by omega) (by omega)]
  have b3 : (Int32.ofInt (own_b v.toInt 5 3)).toInt = v.toInt / 2097152 % 128 - 128 := by
    have q : own_b v.toInt 5 3 = v.toInt / 2097152 % 128 - 128 := by unfold own_b; rw [if_pos (by decide)]; simp only [Int.reducePow, Int.ediv_one]
    rw [q, own_of (by omega) (by omega)]
  have b4 : (Int32.ofInt (own_b v.toInt 5 4)).toInt = v.toInt / 268435456 := by
    have q : own_b v.toInt 5 4 = v.toInt / 268435456 := by unfold own_b; rw [if_neg (by decide)]; simp only [Int.reducePow, Int.ediv_one]
    rw [q, own_of (by omega) (by omega)]
  refine g_aloadN C X0 d2_12 rfl rfl ?_
  refine g_iload C X0 d2_13 rfl rfl ?_
  refine g_iincV C X0 d2_15 rfl (y := (1 : Int32)) rfl (fun v__ => #[.val (.ref a), .val (.int x1), .val (.ref vs), .val (.int x3), .val (.int v__), .val (.int kI), .val (.int ob), .val (.int ov), .val (.int os)]) rfl rfl ?_
  intro v15 h_v15
  have q_v15 := c_iadd nxt (1 : Int32)
  rw [show (1 : Int32).toInt = 1 by decide, ← h_v15] at q_v15
  have r_v15 := rng32 v15
  have q_v15 : v15.toInt = nxt.toInt + 1 := by omega
  refine g_baload C X0 d2_18 e0 A (by omega) (by omega) (v := (.int (Int32.ofInt (own_b v.toInt 5 0)))) (by rw [show nxt.toInt.toNat = nxt.toInt.toNat + 0 by omega]; exact hF 0 (by decide)) rfl ?_
  refine g_istoreV C X0 d2_19 (fun v__ => #[.val (.ref a), .val (.int x1), .val (.ref vs), .val (.int x3), .val (.int v15), .val (.int kI), .val (.int v__), .val (.int ov), .val (.int os)]) rfl rfl ?_
  intro v19 h_v19
  rw [← h_v19] at b0
  refine g_iload C X0 d2_21 rfl rfl ?_
  refine g_bipush C X0 (127 : Int32) d2_23 rfl rfl ?_
  refine g_iand C X0 d2_25 rfl ?_
  refine g_istoreV C X0 d2_26 (fun v__ => #[.val (.ref a), .val (.int x1), .val (.ref vs), .val (.int x3), .val (.int v15), .val (.int kI), .val (.int v19), .val (.int v__), .val (.int os)]) rfl rfl ?_
  intro v26 h_v26
  have m0 := c_mask v19 (127 : Int32) 7 (by decide) (by decide)
  rw [← h_v26] at m0
  have m0 : v26.toInt = v.toInt % 128 := by rw [m0]; omega
  refine g_bipush C X0 (7 : Int32) d2_28 rfl rfl ?_
  refine g_istore C X0 d2_30 #[.val (.ref a), .val (.int x1), .val (.ref vs), .val (.int x3), .val (.int v15), .val (.int kI), .val (.int v19), .val (.int v26), .val (.int (7 : Int32))] rfl rfl ?_
  refine g_iload C X0 d2_32 rfl rfl ?_
  refine g_if C X0 d2_34 (by decide) rfl rfl ?_ ?_
  · intro h34
    have h34 : v19.toInt ≥ 0 := h34
    exfalso; omega
  · intro h34
    have h34 : v19.toInt < 0 := h34
    refine g_aloadN C X0 d2_37 rfl rfl ?_
    refine g_iload C X0 d2_38 rfl rfl ?_
    refine g_iincV C X0 d2_40 rfl (y := (1 : Int32)) rfl (fun v__ => #[.val (.ref a), .val (.int x1), .val (.ref vs), .val (.int x3), .val (.int v__), .val (.int kI), .val (.int v19), .val (.int v26), .val (.int (7 : Int32))]) rfl rfl ?_
    intro v40 h_v40
    have q_v40 := c_iadd v15 (1 : Int32)
    rw [show (1 : Int32).toInt = 1 by decide, ← h_v40] at q_v40
    have r_v40 := rng32 v40
    have q_v40 : v40.toInt = nxt.toInt + 2 := by omega
    refine g_baload C X0 d2_43 e0 A (by omega) (by omega) (v := (.int (Int32.ofInt (own_b v.toInt 5 1)))) (by rw [show v15.toInt.toNat = nxt.toInt.toNat + 1 by omega]; exact hF 1 (by decide)) rfl ?_
    refine g_istoreV C X0 d2_44 (fun v__ => #[.val (.ref a), .val (.int x1), .val (.ref vs), .val (.int x3), .val (.int v40), .val (.int kI), .val (.int v__), .val (.int v26), .val (.int (7 : Int32))]) rfl rfl ?_
    intro v44 h_v44
    rw [← h_v44] at b1
    refine g_iload C X0 d2_46 rfl rfl ?_
    refine g_iload C X0 d2_48 rfl rfl ?_
    refine g_bipush C X0 (127 : Int32) d2_50 rfl rfl ?_
    refine g_iand C X0 d2_52 rfl ?_
    refine g_iload C X0 d2_53 rfl rfl ?_
    refine g_ishl C X0 d2_55 rfl ?_
    refine g_ior C X0 d2_56 rfl ?_
    refine g_istoreV C X0 d2_57 (fun v__ => #[.val (.ref a), .val (.int x1), .val (.ref vs), .val (.int x3), .val (.int v40), .val (.int kI), .val (.int v44), .val (.int v__), .val (.int (7 : Int32))]) rfl rfl ?_
    intro v57 h_v57
    have d1 := c_mask v44 (127 : Int32) 7 (by decide) (by decide)
    have d1 : (v44 &&& (127 : Int32)).toInt = v.toInt / 128 % 128 := by rw [d1]; omega
    have o1 := own_shor v26 (v44 &&& (127 : Int32)) (7 : Int32) 7 (by decide) (by decide) 128 (by decide) (by omega) (by omega) (by omega) (by omega)
    rw [← h_v57] at o1
    have m1 : v57.toInt = v.toInt % 16384 := by rw [o1]; omega
    refine g_iinc C X0 d2_59 rfl #[.val (.ref a), .val (.int x1), .val (.ref vs), .val (.int x3), .val (.int v40), .val (.int kI), .val (.int v44), .val (.int v57), .val (.int (14 : Int32))] rfl rfl ?_
    refine g_goto C X0 d2_62 (by decide) rfl ?_
    refine g_iload C X0 d2_32 rfl rfl ?_
    refine g_if C X0 d2_34 (by decide) rfl rfl ?_ ?_
    · intro h34
      have h34 : v44.toInt ≥ 0 := h34
      exfalso; omega
    · intro h34
      have h34 : v44.toInt < 0 := h34
      refine g_aloadN C X0 d2_37 rfl rfl ?_
      refine g_iload C X0 d2_38 rfl rfl ?_
      refine g_iincV C X0 d2_40 rfl (y := (1 : Int32)) rfl (fun v__ => #[.val (.ref a), .val (.int x1), .val (.ref vs), .val (.int x3), .val (.int v__), .val (.int kI), .val (.int v44), .val (.int v57), .val (.int (14 : Int32))]) rfl rfl ?_
      intro v40_2 h_v40_2
      have q_v40_2 := c_iadd v40 (1 : Int32)
      rw [show (1 : Int32).toInt = 1 by decide, ← h_v40_2] at q_v40_2
      have r_v40_2 := rng32 v40_2
      have q_v40_2 : v40_2.toInt = nxt.toInt + 3 := by omega
      refine g_baload C X0 d2_43 e0 A (by omega) (by omega) (v := (.int (Int32.ofInt (own_b v.toInt 5 2)))) (by rw [show v40.toInt.toNat = nxt.toInt.toNat + 2 by omega]; exact hF 2 (by decide)) rfl ?_
      refine g_istoreV C X0 d2_44 (fun v__ => #[.val (.ref a), .val (.int x1), .val (.ref vs), .val (.int x3), .val (.int v40_2), .val (.int kI), .val (.int v__), .val (.int v57), .val (.int (14 : Int32))]) rfl rfl ?_
      intro v44_2 h_v44_2
      rw [← h_v44_2] at b2
      refine g_iload C X0 d2_46 rfl rfl ?_
      refine g_iload C X0 d2_48 rfl rfl ?_
      refine g_bipush C X0 (127 : Int32) d2_50 rfl rfl ?_
      refine g_iand C X0 d2_52 rfl ?_
      refine g_iload C X0 d2_53 rfl rfl ?_
      refine g_ishl C X0 d2_55 rfl ?_
      refine g_ior C X0 d2_56 rfl ?_
      refine g_istoreV C X0 d2_57 (fun v__ => #[.val (.ref a), .val (.int x1), .val (.ref vs), .val (.int x3), .val (.int v40_2), .val (.int kI), .val (.int v44_2), .val (.int v__), .val (.int (14 : Int32))]) rfl rfl ?_
      intro v57_2 h_v57_2
      have d2 := c_mask v44_2 (127 : Int32) 7 (by decide) (by decide)
      have d2 : (v44_2 &&& (127 : Int32)).toInt = v.toInt / 16384 % 128 := by rw [d2]; omega
      have o2 := own_shor v57 (v44_2 &&& (127 : Int32)) (14 : Int32) 14 (by decide) (by decide) 16384 (by decide) (by omega) (by omega) (by omega) (by omega)
      rw [← h_v57_2] at o2
      have m2 : v57_2.toInt = v.toInt % 2097152 := by rw [o2]; omega
      refine g_iinc C X0 d2_59 rfl #[.val (.ref a), .val (.int x1), .val (.ref vs), .val (.int x3), .val (.int v40_2), .val (.int kI), .val (.int v44_2), .val (.int v57_2), .val (.int (21 : Int32))] rfl rfl ?_
      refine g_goto C X0 d2_62 (by decide) rfl ?_
      refine g_iload C X0 d2_32 rfl rfl ?_
      refine g_if C X0 d2_34 (by decide) rfl rfl ?_ ?_
      · intro h34
        have h34 : v44_2.toInt ≥ 0 := h34
        exfalso; omega
      · intro h34
        have h34 : v44_2.toInt < 0 := h34
        refine g_aloadN C X0 d2_37 rfl rfl ?_
        refine g_iload C X0 d2_38 rfl rfl ?_
        refine g_iincV C X0 d2_40 rfl (y := (1 : Int32)) rfl (fun v__ => #[.val (.ref a), .val (.int x1), .val (.ref vs), .val (.int x3), .val (.int v__), .val (.int kI), .val (.int v44_2), .val (.int v57_2), .val (.int (21 : Int32))]) rfl rfl ?_
        intro v40_3 h_v40_3
        have q_v40_3 := c_iadd v40_2 (1 : Int32)
        rw [show (1 : Int32).toInt = 1 by decide, ← h_v40_3] at q_v40_3
        have r_v40_3 := rng32 v40_3
        have q_v40_3 : v40_3.toInt = nxt.toInt + 4 := by omega
        refine g_baload C X0 d2_43 e0 A (by omega) (by omega) (v := (.int (Int32.ofInt (own_b v.toInt 5 3)))) (by rw [show v40_2.toInt.toNat = nxt.toInt.toNat + 3 by omega]; exact hF 3 (by decide)) rfl ?_
        refine g_istoreV C X0 d2_44 (fun v__ => #[.val (.ref a), .val (.int x1), .val (.ref vs), .val (.int x3), .val (.int v40_3), .val (.int kI), .val (.int v__), .val (.int v57_2), .val (.int (21 : Int32))]) rfl rfl ?_
        intro v44_3 h_v44_3
        rw [← h_v44_3] at b3
        refine g_iload C X0 d2_46 rfl rfl ?_
        refine g_iload C X0 d2_48 rfl rfl ?_
        refine g_bipush C X0 (127 : Int32) d2_50 rfl rfl ?_
        refine g_iand C X0 d2_52 rfl ?_
        refine g_iload C X0 d2_53 rfl rfl ?_
        refine g_ishl C X0 d2_55 rfl ?_
        refine g_ior C X0 d2_56 rfl ?_
        refine g_istoreV C X0 d2_57 (fun v__ => #[.val (.ref a), .val (.int x1), .val (.ref vs), .val (.int x3), .val (.int v40_3), .val (.int kI), .val (.int v44_3), .val (.int v__), .val (.int (21 : Int32))]) rfl rfl ?_
        intro v57_3 h_v57_3
        have d3 := c_mask v44_3 (127 : Int32) 7 (by decide) (by decide)
        have d3 : (v44_3 &&& (127 : Int32)).toInt = v.toInt / 2097152 % 128 := by rw [d3]; omega
        have o3 := own_shor v57_2 (v44_3 &&& (127 : Int32)) (21 : Int32) 21 (by decide) (by decide) 2097152 (by decide) (by omega) (by omega) (by omega) (by omega)
        rw [← h_v57_3] at o3
        have m3 : v57_3.toInt = v.toInt % 268435456 := by rw [o3]; omega
        refine g_iinc C X0 d2_59 rfl #[.val (.ref a), .val (.int x1), .val (.ref vs), .val (.int x3), .val (.int v40_3), .val (.int kI), .val (.int v44_3), .val (.int v57_3), .val (.int (28 : Int32))] rfl rfl ?_
        refine g_goto C X0 d2_62 (by decide) rfl ?_
        refine g_iload C X0 d2_32 rfl rfl ?_
        refine g_if C X0 d2_34 (by decide) rfl rfl ?_ ?_
        · intro h34
          have h34 : v44_3.toInt ≥ 0 := h34
          exfalso; omega
        · intro h34
          have h34 : v44_3.toInt < 0 := h34
          refine g_aloadN C X0 d2_37 rfl rfl ?_
          refine g_iload C X0 d2_38 rfl rfl ?_
          refine g_iincV C X0 d2_40 rfl (y := (1 : Int32)) rfl (fun v__ => #[.val (.ref a), .val (.int x1), .val (.ref vs), .val (.int x3), .val (.int v__), .val (.int kI), .val (.int v44_3), .val (.int v57_3), .val (.int (28 : Int32))]) rfl rfl ?_
          intro v40_4 h_v40_4
          have q_v40_4 := c_iadd v40_3 (1 : Int32)
          rw [show (1 : Int32).toInt = 1 by decide, ← h_v40_4] at q_v40_4
          have r_v40_4 := rng32 v40_4
          have q_v40_4 : v40_4.toInt = nxt.toInt + 5 := by omega
          refine g_baload C X0 d2_43 e0 A (by omega) (by omega) (v := (.int (Int32.ofInt (own_b v.toInt 5 4)))) (by rw [show v40_3.toInt.toNat = nxt.toInt.toNat + 4 by omega]; exact hF 4 (by decide)) rfl ?_
          refine g_istoreV C X0 d2_44 (fun v__ => #[.val (.ref a), .val (.int x1), .val (.ref vs), .val (.int x3), .val (.int v40_4), .val (.int kI), .val (.int v__), .val (.int v57_3), .val (.int (28 : Int32))]) rfl rfl ?_
          intro v44_4 h_v44_4
          rw [← h_v44_4] at b4
          refine g_iload C X0 d2_46 rfl rfl ?_
          refine g_iload C X0 d2_48 rfl rfl ?_
          refine g_bipush C X0 (127 : Int32) d2_50 rfl rfl ?_
          refine g_iand C X0 d2_52 rfl ?_
          refine g_iload C X0 d2_53 rfl rfl ?_
          refine g_ishl C X0 d2_55 rfl ?_
          refine g_ior C X0 d2_56 rfl ?_
          refine g_istoreV C X0 d2_57 (fun v__ => #[.val (.ref a), .val (.int x1), .val (.ref vs), .val (.int x3), .val (.int v40_4), .val (.int kI), .val (.int v44_4), .val (.int v__), .val (.int (28 : Int32))]) rfl rfl ?_
          intro v57_4 h_v57_4
          have d4 := c_mask v44_4 (127 : Int32) 7 (by decide) (by decide)
          have d4 : (v44_4 &&& (127 : Int32)).toInt = v.toInt / 268435456 % 128 := by rw [d4]; omega
          have o4 := own_shor v57_3 (v44_4 &&& (127 : Int32)) (28 : Int32) 28 (by decide) (by decide) 268435456 (by decide) (by omega) (by omega) (by omega) (by omega)
          rw [← h_v57_4] at o4
          have m4 : v57_4.toInt = v.toInt % 34359738368 := by rw [o4]; omega
          refine g_iinc C X0 d2_59 rfl #[.val (.ref a), .val (.int x1), .val (.ref vs), .val (.int x3), .val (.int v40_4), .val (.int kI), .val (.int v44_4), .val (.int v57_4), .val (.int (35 : Int32))] rfl rfl ?_
          refine g_goto C X0 d2_62 (by decide) rfl ?_
          refine g_iload C X0 d2_32 rfl rfl ?_
          refine g_if C X0 d2_34 (by decide) rfl rfl ?_ ?_
          · intro h34
            have h34 : v44_4.toInt ≥ 0 := h34
            rw [show v57_4 = v from own_inj32 (by omega)]
            exact kk _ _ _ (by rw [own_len4]; rw [if_neg (by omega)]; rw [if_neg (by omega)]; rw [if_neg (by omega)]; rw [if_neg (by omega)]; omega)
          · intro h34
            have h34 : v44_4.toInt < 0 := h34
            exfalso; omega
set_option maxRecDepth 65536 in
set_option maxHeartbeats 40000000 in
theorem dec_b {p : Program} {l : Launch} {e : Env} {R : Room} {s : State} {m : MethodId} {args : Array Value} {below : List Frame} {meth : Method} {c : Code} {T0 : State} {locs : List Loc} {cells slots : Nat} {Z : State} {a0 : Array Value} {h0 : Heap} {Q : Option Value → Heap → List Loc → Prop} {Cc Sc : Nat} {a vs : Addr} {x1 x3 nxt kI : Int32} {F : Nat → Value} {N : Nat} {v : Int32} {ob ov os : Int32}
    (C : Cx Z a0 p s m meth c prog_8_method_4_code 9 "com/example/overscore/overscore/index/VarInt" "get" (some .int)) (X0 : Stand p l e R s m args below meth c T0 locs cells slots) (e0 : T0.heap = h0) (A : Aw Z h0 a .byte N F) (i0 : 0 ≤ nxt.toInt) (i1 : nxt.toInt + own_len 4 v.toInt ≤ N) (hN : N < 2147483648) (v0 : 0 ≤ v.toInt) (hF : own_enc F nxt.toInt.toNat v.toInt (own_len 4 v.toInt))
    (kk : ∀ (nx bb sh : Int32), nx.toInt = nxt.toInt + own_len 4 v.toInt → Go p e below s m Q Cc Sc T0 65 #[.val (.ref a), .val (.int x1), .val (.ref vs), .val (.int x3), .val (.int nx), .val (.int kI), .val (.int bb), .val (.int v), .val (.int sh)] []) :
    Go p e below s m Q Cc Sc T0 12 #[.val (.ref a), .val (.int x1), .val (.ref vs), .val (.int x3), .val (.int nxt), .val (.int kI), .val (.int ob), .val (.int ov), .val (.int os)] [] := by
  have rv := rng32 v
  have hl := own_len4 v.toInt
  by_cases h1 : v.toInt < 128
  · rw [if_pos h1] at hl
    exact dec_b1 C X0 e0 A i0 (by omega) hN (by omega) (by omega) (hl ▸ hF) kk
  · skip
    by_cases h2 : v.toInt < 16384
    · rw [if_neg h1, if_pos h2] at hl
      exact dec_b2 C X0 e0 A i0 (by omega) hN (by omega) (by omega) (hl ▸ hF) kk
    · skip
      by_cases h3 : v.toInt < 2097152
      · rw [if_neg h1, if_neg h2, if_pos h3] at hl
        exact dec_b3 C X0 e0 A i0 (by omega) hN (by omega) (by omega) (hl ▸ hF) kk
      · skip
        by_cases h4 : v.toInt < 268435456
        · rw [if_neg h1, if_neg h2, if_neg h3, if_pos h4] at hl
          exact dec_b4 C X0 e0 A i0 (by omega) hN (by omega) (by omega) (hl ▸ hF) kk
        · skip
          rw [if_neg h1, if_neg h2, if_neg h3, if_neg h4] at hl
          exact dec_b5 C X0 e0 A i0 (by omega) hN (by omega) (by omega) (hl ▸ hF) kk
def Q_get0 (Z : State) (a : Addr) (x1 : Int32) (vs : Addr) (x3 : Int32) (N : Nat) (F : Nat → Value) (f2 : Nat → Value) (h0 : Heap) (n0 : Nat) (v : Option Value) (h : Heap) (L : List Loc) : Prop := (∃ res : Int32, v = some (.int res) ∧ res.toInt = x1.toInt) ∧ Fr n0 L ∧ Keep h0 h [vs] ∧ Aw Z h vs .int 2 (fun i => f2 i)
set_option maxRecDepth 65536 in
set_option maxHeartbeats 40000000 in
theorem get0 (l : Launch) (Z : State) (a0 : Array Value) (hw : ∀ d ∈ tables_1, d.before a0 Z = true) (ws : List Jvm.Cond) (a : Addr) (x1 : Int32) (vs : Addr) (x3 : Int32) (hx3 : x3 = (0 : Int32)) (N : Nat) (F : Nat → Value) (f2 : Nat → Value) (h0 : Heap) (n0 : Nat) (Z0 : n0 ≤ h0.size) (gv : n0 ≤ vs) (ne : a ≠ vs) (hN : N < 2147483648) (A : Aw Z h0 a .byte N F) (B : Aw Z h0 vs .int 2 f2) (i0 : 0 ≤ x1.toInt) (i1 : x1.toInt ≤ N) :
    MetFree l (⟨"com/example/overscore/overscore/index/VarInt", "get", "([BI[II)I"⟩ : MethodName) (head1 (Jvm.Cond.code (⟨"com/example/overscore/overscore/index/VarInt", "get", "([BI[II)I"⟩ : MethodName) prog_8_method_4_code 9 (some .int) :: ws) ({ frames := 0, cells := 0, slots := 0, locals := 0 } : Room)) (fun aa U => aa = #[(.ref a), (.int x1), (.ref vs), (.int x3)] ∧ Z.Warmed39 U.vm ∧ U.heap = h0) (fun _ _ _ _ _ => True) (fun _ U oo U' => ∃ rv Lr, oo = .returned rv ∧ Q_get0 Z a x1 vs x3 N F f2 h0 n0 rv U'.heap Lr ∧ FrameEnd U oo U' Lr ({ frames := 0, cells := 0, slots := 0, locals := 0 } : Room).cells ({ frames := 0, cells := 0, slots := 0, locals := 0 } : Room).slots) := by
  refine g_enter pn_2 hw (ef_2 a x1 vs x3) ?_
  intro p e s m below meth c T0 C X0 e0
  have C : Cx Z a0 p s m meth c prog_8_method_4_code 9 "com/example/overscore/overscore/index/VarInt" "get" (some .int) := C
  subst hx3
  have N0 := Fr.nil n0
  have K0 := Keep.refl h0 [vs]
  refine g_iloadN C X0 d2_0 rfl rfl ?_
  refine g_istore C X0 d2_1 #[.val (.ref a), .val (.int x1), .val (.ref vs), .val (.int (0 : Int32)), .val (.int x1), .unset, .unset, .unset, .unset] rfl rfl ?_
  refine g_iconst C X0 (0 : Int32) d2_3 rfl rfl ?_
  refine g_istore C X0 d2_4 #[.val (.ref a), .val (.int x1), .val (.ref vs), .val (.int (0 : Int32)), .val (.int x1), .val (.int (0 : Int32)), .unset, .unset, .unset] rfl rfl ?_
  refine g_iload C X0 d2_6 rfl rfl ?_
  refine g_iloadN C X0 d2_8 rfl rfl ?_
  refine g_icmp C X0 d2_9 (by decide) rfl rfl ?_ ?_
  · intro h9
    have h9 : (0 : Int) ≥ 0 := h9
    refine g_iload C X0 d2_77 rfl rfl ?_
    exact g_ireturn C X0 d2_79 rfl (by rw [e0]; exact ⟨⟨_, rfl, by omega⟩, N0, K0, B⟩) (by decide) (by decide)
  · intro h9
    have h9 : (0 : Int) < 0 := h9
    exact absurd h9 (by decide)
def Q_get1 (Z : State) (a : Addr) (x1 : Int32) (vs : Addr) (x3 : Int32) (N : Nat) (F : Nat → Value) (f2 : Nat → Value) (u0 : Int32) (h0 : Heap) (n0 : Nat) (v : Option Value) (h : Heap) (L : List Loc) : Prop := (∃ res : Int32, v = some (.int res) ∧ res.toInt = x1.toInt + own_len 4 u0.toInt) ∧ Fr n0 L ∧ Keep h0 h [vs] ∧ Aw Z h vs .int 2 (fun i => if (i : Int) = (0 : Int32).toInt then .int u0 else f2 i)
set_option maxRecDepth 65536 in
set_option maxHeartbeats 40000000 in
theorem get1 (l : Launch) (Z : State) (a0 : Array Value) (hw : ∀ d ∈ tables_1, d.before a0 Z = true) (ws : List Jvm.Cond) (a : Addr) (x1 : Int32) (vs : Addr) (x3 : Int32) (hx3 : x3 = (1 : Int32)) (N : Nat) (F : Nat → Value) (f2 : Nat → Value) (u0 : Int32) (h0 : Heap) (n0 : Nat) (Z0 : n0 ≤ h0.size) (gv : n0 ≤ vs) (ne : a ≠ vs) (hN : N < 2147483648) (A : Aw Z h0 a .byte N F) (B : Aw Z h0 vs .int 2 f2) (i0 : 0 ≤ x1.toInt) (p0 : 0 ≤ u0.toInt) (en0 : own_enc F (x1.toInt).toNat u0.toInt (own_len 4 u0.toInt)) (i1 : x1.toInt + own_len 4 u0.toInt ≤ N) :
    MetFree l (⟨"com/example/overscore/overscore/index/VarInt", "get", "([BI[II)I"⟩ : MethodName) (head1 (Jvm.Cond.code (⟨"com/example/overscore/overscore/index/VarInt", "get", "([BI[II)I"⟩ : MethodName) prog_8_method_4_code 9 (some .int) :: ws) ({ frames := 0, cells := 0, slots := 0, locals := 0 } : Room)) (fun aa U => aa = #[(.ref a), (.int x1), (.ref vs), (.int x3)] ∧ Z.Warmed39 U.vm ∧ U.heap = h0) (fun _ _ _ _ _ => True) (fun _ U oo U' => ∃ rv Lr, oo = .returned rv ∧ Q_get1 Z a x1 vs x3 N F f2 u0 h0 n0 rv U'.heap Lr ∧ FrameEnd U oo U' Lr ({ frames := 0, cells := 0, slots := 0, locals := 0 } : Room).cells ({ frames := 0, cells := 0, slots := 0, locals := 0 } : Room).slots) := by
  refine g_enter pn_2 hw (ef_2 a x1 vs x3) ?_
  intro p e s m below meth c T0 C X0 e0
  have C : Cx Z a0 p s m meth c prog_8_method_4_code 9 "com/example/overscore/overscore/index/VarInt" "get" (some .int) := C
  subst hx3
  have N0 := Fr.nil n0
  have K0 := Keep.refl h0 [vs]
  refine g_iloadN C X0 d2_0 rfl rfl ?_
  refine g_istore C X0 d2_1 #[.val (.ref a), .val (.int x1), .val (.ref vs), .val (.int (1 : Int32)), .val (.int x1), .unset, .unset, .unset, .unset] rfl rfl ?_
  refine g_iconst C X0 (0 : Int32) d2_3 rfl rfl ?_
  refine g_istore C X0 d2_4 #[.val (.ref a), .val (.int x1), .val (.ref vs), .val (.int (1 : Int32)), .val (.int x1), .val (.int (0 : Int32)), .unset, .unset, .unset] rfl rfl ?_
  refine g_iload C X0 d2_6 rfl rfl ?_
  refine g_iloadN C X0 d2_8 rfl rfl ?_
  refine g_icmp C X0 d2_9 (by decide) rfl rfl ?_ ?_
  · intro h9
    have h9 : (0 : Int) ≥ 1 := h9
    exact absurd h9 (by decide)
  · intro h9
    have h9 : (0 : Int) < 1 := h9
    refine dec_a (v := u0) C X0 e0 A (by omega) (by omega) hN p0 en0 ?_
    intro nx0 bb0 sh0 hnx0
    refine g_aloadN C X0 d2_65 rfl rfl ?_
    refine g_iload C X0 d2_66 rfl rfl ?_
    refine g_iload C X0 d2_68 rfl rfl ?_
    refine g_iastore C X0 d2_70 e0 B (by decide) (by decide) rfl ?_
    intro T1 h1_ X1 e1 W1 A1
    have N1 := Fr.snoc X1 N0 gv
    have Z1 : n0 ≤ h1_.size := Nat.le_trans Z0 (Keep.of_wr W1).1
    have K1 := K0.wr W1 (Or.inl (List.mem_of_getElem? (i := 0) rfl))
    have A1_a := A.other W1 ne
    refine g_iinc C X1 d2_71 rfl #[.val (.ref a), .val (.int x1), .val (.ref vs), .val (.int (1 : Int32)), .val (.int nx0), .val (.int (1 : Int32)), .val (.int bb0), .val (.int u0), .val (.int sh0)] rfl rfl ?_
    refine g_goto C X1 d2_74 (by decide) rfl ?_
    refine g_iload C X1 d2_6 rfl rfl ?_
    refine g_iloadN C X1 d2_8 rfl rfl ?_
    refine g_icmp C X1 d2_9 (by decide) rfl rfl ?_ ?_
    · intro h9
      have h9 : (1 : Int) ≥ 1 := h9
      refine g_iload C X1 d2_77 rfl rfl ?_
      exact g_ireturn C X1 d2_79 rfl (by rw [e1]; exact ⟨⟨_, rfl, by omega⟩, N1, K1, A1⟩) (by decide) (by decide)
    · intro h9
      have h9 : (1 : Int) < 1 := h9
      exact absurd h9 (by decide)
def Q_get2 (Z : State) (a : Addr) (x1 : Int32) (vs : Addr) (x3 : Int32) (N : Nat) (F : Nat → Value) (f2 : Nat → Value) (u0 : Int32) (u1 : Int32) (h0 : Heap) (n0 : Nat) (v : Option Value) (h : Heap) (L : List Loc) : Prop := (∃ res : Int32, v = some (.int res) ∧ res.toInt = x1.toInt + own_len 4 u0.toInt + own_len 4 u1.toInt) ∧ Fr n0 L ∧ Keep h0 h [vs] ∧ Aw Z h vs .int 2 (fun i => if (i : Int) = (1 : Int32).toInt then .int u1 else if (i : Int) = (0 : Int32).toInt then .int u0 else f2 i)
set_option maxRecDepth 65536 in
set_option maxHeartbeats 40000000 in
theorem get2 (l : Launch) (Z : State) (a0 : Array Value) (hw : ∀ d ∈ tables_1, d.before a0 Z = true) (ws : List Jvm.Cond) (a : Addr) (x1 : Int32) (vs : Addr) (x3 : Int32) (hx3 : x3 = (2 : Int32)) (N : Nat) (F : Nat → Value) (f2 : Nat → Value) (u0 u1 : Int32) (h0 : Heap) (n0 : Nat) (Z0 : n0 ≤ h0.size) (gv : n0 ≤ vs) (ne : a ≠ vs) (hN : N < 2147483648) (A : Aw Z h0 a .byte N F) (B : Aw Z h0 vs .int 2 f2) (i0 : 0 ≤ x1.toInt) (p0 : 0 ≤ u0.toInt) (en0 : own_enc F (x1.toInt).toNat u0.toInt (own_len 4 u0.toInt)) (p1 : 0 ≤ u1.toInt) (en1 : own_enc F (x1.toInt + own_len 4 u0.toInt).toNat u1.toInt (own_len 4 u1.toInt)) (i1 : x1.toInt + own_len 4 u0.toInt + own_len 4 u1.toInt ≤ N) :
    MetFree l (⟨"com/example/overscore/overscore/index/VarInt", "get", "([BI[II)I"⟩ : MethodName) (head1 (Jvm.Cond.code (⟨"com/example/overscore/overscore/index/VarInt", "get", "([BI[II)I"⟩ : MethodName) prog_8_method_4_code 9 (some .int) :: ws) ({ frames := 0, cells := 0, slots := 0, locals := 0 } : Room)) (fun aa U => aa = #[(.ref a), (.int x1), (.ref vs), (.int x3)] ∧ Z.Warmed39 U.vm ∧ U.heap = h0) (fun _ _ _ _ _ => True) (fun _ U oo U' => ∃ rv Lr, oo = .returned rv ∧ Q_get2 Z a x1 vs x3 N F f2 u0 u1 h0 n0 rv U'.heap Lr ∧ FrameEnd U oo U' Lr ({ frames := 0, cells := 0, slots := 0, locals := 0 } : Room).cells ({ frames := 0, cells := 0, slots := 0, locals := 0 } : Room).slots) := by
  refine g_enter pn_2 hw (ef_2 a x1 vs x3) ?_
  intro p e s m below meth c T0 C X0 e0
  have C : Cx Z a0 p s m meth c prog_8_method_4_code 9 "com/example/overscore/overscore/index/VarInt" "get" (some .int) := C
  subst hx3
  have N0 := Fr.nil n0
  have K0 := Keep.refl h0 [vs]
  refine g_iloadN C X0 d2_0 rfl rfl ?_
  refine g_istore C X0 d2_1 #[.val (.ref a), .val (.int x1), .val (.ref vs), .val (.int (2 : Int32)), .val (.int x1), .unset, .unset, .unset, .unset] rfl rfl ?_
  refine g_iconst C X0 (0 : Int32) d2_3 rfl rfl ?_
  refine g_istore C X0 d2_4 #[.val (.ref a), .val (.int x1), .val (.ref vs), .val (.int (2 : Int32)), .val (.int x1), .val (.int (0 : Int32)), .unset, .unset, .unset] rfl rfl ?_
  refine g_iload C X0 d2_6 rfl rfl ?_
  refine g_iloadN C X0 d2_8 rfl rfl ?_
  refine g_icmp C X0 d2_9 (by decide) rfl rfl ?_ ?_
  · intro h9
    have h9 : (0 : Int) ≥ 2 := h9
    exact absurd h9 (by decide)
  · intro h9
    have h9 : (0 : Int) < 2 := h9
    refine dec_a (v := u0) C X0 e0 A (by omega) (by omega) hN p0 en0 ?_
    intro nx0 bb0 sh0 hnx0
    refine g_aloadN C X0 d2_65 rfl rfl ?_
    refine g_iload C X0 d2_66 rfl rfl ?_
    refine g_iload C X0 d2_68 rfl rfl ?_
    refine g_iastore C X0 d2_70 e0 B (by decide) (by decide) rfl ?_
    intro T1 h1_ X1 e1 W1 A1
    have N1 := Fr.snoc X1 N0 gv
    have Z1 : n0 ≤ h1_.size := Nat.le_trans Z0 (Keep.of_wr W1).1
    have K1 := K0.wr W1 (Or.inl (List.mem_of_getElem? (i := 0) rfl))
    have A1_a := A.other W1 ne
    refine g_iinc C X1 d2_71 rfl #[.val (.ref a), .val (.int x1), .val (.ref vs), .val (.int (2 : Int32)), .val (.int nx0), .val (.int (1 : Int32)), .val (.int bb0), .val (.int u0), .val (.int sh0)] rfl rfl ?_
    refine g_goto C X1 d2_74 (by decide) rfl ?_
    refine g_iload C X1 d2_6 rfl rfl ?_
    refine g_iloadN C X1 d2_8 rfl rfl ?_
    refine g_icmp C X1 d2_9 (by decide) rfl rfl ?_ ?_
    · intro h9
      have h9 : (1 : Int) ≥ 2 := h9
      exact absurd h9 (by decide)
    · intro h9
      have h9 : (1 : Int) < 2 := h9
      refine dec_b (v := u1) C X1 e1 A1_a (by omega) (by omega) hN p1 (by rw [show nx0.toInt.toNat = (x1.toInt + own_len 4 u0.toInt).toNat by omega]; exact en1) ?_
      intro nx1 bb1 sh1 hnx1
      refine g_aloadN C X1 d2_65 rfl rfl ?_
      refine g_iload C X1 d2_66 rfl rfl ?_
      refine g_iload C X1 d2_68 rfl rfl ?_
      refine g_iastore C X1 d2_70 e1 A1 (by decide) (by decide) rfl ?_
      intro T2 h2_ X2 e2 W2 A2
      have N2 := Fr.snoc X2 N1 gv
      have Z2 : n0 ≤ h2_.size := Nat.le_trans Z1 (Keep.of_wr W2).1
      have K2 := K1.wr W2 (Or.inl (List.mem_of_getElem? (i := 0) rfl))
      have A2_a := A1_a.other W2 ne
      refine g_iinc C X2 d2_71 rfl #[.val (.ref a), .val (.int x1), .val (.ref vs), .val (.int (2 : Int32)), .val (.int nx1), .val (.int (2 : Int32)), .val (.int bb1), .val (.int u1), .val (.int sh1)] rfl rfl ?_
      refine g_goto C X2 d2_74 (by decide) rfl ?_
      refine g_iload C X2 d2_6 rfl rfl ?_
      refine g_iloadN C X2 d2_8 rfl rfl ?_
      refine g_icmp C X2 d2_9 (by decide) rfl rfl ?_ ?_
      · intro h9
        have h9 : (2 : Int) ≥ 2 := h9
        refine g_iload C X2 d2_77 rfl rfl ?_
        exact g_ireturn C X2 d2_79 rfl (by rw [e2]; exact ⟨⟨_, rfl, by omega⟩, N2, K2, A2⟩) (by decide) (by decide)
      · intro h9
        have h9 : (2 : Int) < 2 := h9
        exact absurd h9 (by decide)
set_option maxRecDepth 65536 in
set_option maxHeartbeats 40000000 in
theorem seg69 {p : Program} {l : Launch} {e : Env} {s : State} {m : MethodId} {args : Array Value} {below : List Frame} {meth : Method} {c : Code} {T0 : State} {locs : List Loc} {Z : State} {a0 : Array Value} {h0 : Heap} {n0 : Nat} {x0 x1 x2 x3 x4 x5 v1 v2 at_ ct g : Int32} {b : Addr} {f : Nat → Value}
    (C : Cx Z a0 p s m meth c code maxLocals "com/example/overscore/overscore/index/VarIntGetPinLaw" "law" ret) (X0 : Stand p l e room_1 s m args below meth c T0 locs 1 16) (e0 : T0.heap = h0) (N0 : Fr n0 locs) (Z0 : n0 ≤ h0.size) (A : Aw Z h0 b .byte 16 f) (gb : n0 ≤ b) (p1 : 0 ≤ v1.toInt) (p2 : 0 ≤ v2.toInt) (a1 : 0 ≤ at_.toInt) (a2 : at_.toInt ≤ 5) (hc : ct = (0 : Int32) ∨ ct = (1 : Int32) ∨ ct = (2 : Int32)) :
    Go p e below s m (LQ n0) room_1.cells room_1.slots T0 69 #[.val (.int x0), .val (.int x1), .val (.int x2), .val (.int x3), .val (.int x4), .val (.int x5), .val (.int v1), .val (.int v2), .val (.int at_), .val (.int ct), .val (.int g), .val (.ref b), .unset, .unset, .unset, .unset, .unset, .unset] [] := by
  have l1 := own_len1 4 v1.toInt
  have l2 := own_len1 4 v2.toInt
  have l3 := own_len5 v1.toInt
  have l4 := own_len5 v2.toInt
  refine g_aload C X0 at_69 rfl rfl ?_
  refine g_iload C X0 at_71 rfl rfl ?_
  refine g_iload C X0 at_73 rfl rfl ?_
  refine g_callS (argsL := [(.ref b), (.int at_), (.int v1)]) (rest := []) (W := 0) C X0 at_75 e0 (C.t 2 rfl) (C.t 3 rfl) (C.t 4 rfl) (C.t 5 rfl) (rm1 l Z a0 C.w [] b at_ v1 16 _ h0 n0 Z0 gb (by decide) A p1 a1 (by omega)) (by decide) pd_1 rfl rfl rfl (Nat.le_of_eq rfl) (by decide) (by decide) (by decide) (by decide) rfl ?_
  intro T1 v1_ L1 X1 hQ1
  obtain ⟨⟨e1, rfl, he1⟩, N1q, K1, A1⟩ := hQ1
  have N1 := Fr.app N0 N1q
  have Z1 : n0 ≤ T1.heap.size := Nat.le_trans Z0 K1.1
  refine g_istore C X1 at_78 #[.val (.int x0), .val (.int x1), .val (.int x2), .val (.int x3), .val (.int x4), .val (.int x5), .val (.int v1), .val (.int v2), .val (.int at_), .val (.int ct), .val (.int g), .val (.ref b), .val (.int e1), .unset, .unset, .unset, .unset, .unset] rfl rfl ?_
  refine g_aload C X1 at_80 rfl rfl ?_
  refine g_iload C X1 at_82 rfl rfl ?_
  refine g_iload C X1 at_84 rfl rfl ?_
  refine g_callS (argsL := [(.ref b), (.int e1), (.int v2)]) (rest := []) (W := 0) C X1 at_86 rfl (C.t 2 rfl) (C.t 3 rfl) (C.t 4 rfl) (C.t 5 rfl) (rm1 l Z a0 C.w [] b e1 v2 16 _ T1.heap n0 Z1 gb (by decide) A1 p2 (by omega) (by omega)) (by decide) pd_1 rfl rfl rfl (Nat.le_of_eq rfl) (by decide) (by decide) (by decide) (by decide) rfl ?_
  intro T2 v2_ L2 X2 hQ2
  obtain ⟨⟨e2, rfl, he2⟩, N2q, K2, A2⟩ := hQ2
  have N2 := Fr.app N1 N2q
  have Z2 : n0 ≤ T2.heap.size := Nat.le_trans Z1 K2.1
  refine g_istore C X2 at_89 #[.val (.int x0), .val (.int x1), .val (.int x2), .val (.int x3), .val (.int x4), .val (.int x5), .val (.int v1), .val (.int v2), .val (.int at_), .val (.int ct), .val (.int g), .val (.ref b), .val (.int e1), .val (.int e2), .unset, .unset, .unset, .unset] rfl rfl ?_
  refine g_aload C X2 at_91 rfl rfl ?_
  refine g_iload C X2 at_93 rfl rfl ?_
  refine g_iload C X2 at_95 rfl rfl ?_
  refine g_bastore C X2 at_97 rfl A2 (by omega) (by omega) rfl ?_
  intro T3 h3_ X3 e3 W3 A3
  have N3 := Fr.snoc X3 N2 gb
  have Z3 : n0 ≤ h3_.size := Nat.le_trans Z2 (Keep.of_wr W3).1
  refine g_iconst C X3 (2 : Int32) at_98 rfl rfl ?_
  refine g_newarray (cap := 2) C X3 at_99 e3 (C.t 6 rfl) (by decide) (by decide) (by decide) (by decide) (by decide) rfl ?_
  intro T4 h4_ X4 e4 E4 lt4 ad4 ha4 A4
  have Z4 : n0 ≤ h4_.size := Nat.le_trans Z3 E4.1
  have ne_b_ad4 : b ≠ ad4 := Nat.ne_of_lt (Nat.lt_of_lt_of_eq A3.lt ha4.symm)
  have A4_b := A3.ext E4
  have g_ad4 : n0 ≤ ad4 := by omega
  refine g_dup C X4 at_101 rfl rfl ?_
  refine g_iconst C X4 (0 : Int32) at_102 rfl rfl ?_
  refine g_iconst C X4 (-1 : Int32) at_103 rfl rfl ?_
  refine g_iastore C X4 at_104 e4 A4 (by decide) (by decide) rfl ?_
  intro T5 h5_ X5 e5 W5 A5
  have N5 := Fr.snoc X5 N3 g_ad4
  have Z5 : n0 ≤ h5_.size := Nat.le_trans Z4 (Keep.of_wr W5).1
  have A5_b := A4_b.other W5 ne_b_ad4
  refine g_dup C X5 at_105 rfl rfl ?_
  refine g_iconst C X5 (1 : Int32) at_106 rfl rfl ?_
  refine g_iconst C X5 (-1 : Int32) at_107 rfl rfl ?_
  refine g_iastore C X5 at_108 e5 A5 (by decide) (by decide) rfl ?_
  intro T6 h6_ X6 e6 W6 A6
  have N6 := Fr.snoc X6 N5 g_ad4
  have Z6 : n0 ≤ h6_.size := Nat.le_trans Z5 (Keep.of_wr W6).1
  have A6_b := A5_b.other W6 ne_b_ad4
  refine g_astore C X6 at_109 #[.val (.int x0), .val (.int x1), .val (.int x2), .val (.int x3), .val (.int x4), .val (.int x5), .val (.int v1), .val (.int v2), .val (.int at_), .val (.int ct), .val (.int g), .val (.ref b), .val (.int e1), .val (.int e2), .val (.ref ad4), .unset, .unset, .unset] rfl rfl ?_
  refine g_aload C X6 at_111 rfl rfl ?_
  refine g_iload C X6 at_113 rfl rfl ?_
  refine g_aload C X6 at_115 rfl rfl ?_
  refine g_iload C X6 at_117 rfl rfl ?_
  have en0 : own_enc (fun i : Nat => if (i : Int) = e2.toInt then Value.int (nar .byte g) else if e1.toInt ≤ i ∧ (i : Int) < e1.toInt + own_len 4 v2.toInt then .int (Int32.ofInt (own_b v2.toInt (own_len 4 v2.toInt) (i - e1.toInt.toNat))) else if at_.toInt ≤ i ∧ (i : Int) < at_.toInt + own_len 4 v1.toInt then .int (Int32.ofInt (own_b v1.toInt (own_len 4 v1.toInt) (i - at_.toInt.toNat))) else f i) at_.toInt.toNat v1.toInt (own_len 4 v1.toInt) := fun j hj => by
    show (if ((at_.toInt.toNat + j : Nat) : Int) = e2.toInt then Value.int (nar .byte g) else if e1.toInt ≤ ((at_.toInt.toNat + j : Nat) : Int) ∧ ((at_.toInt.toNat + j : Nat) : Int) < e1.toInt + own_len 4 v2.toInt then .int (Int32.ofInt (own_b v2.toInt (own_len 4 v2.toInt) (at_.toInt.toNat + j - e1.toInt.toNat))) else if at_.toInt ≤ ((at_.toInt.toNat + j : Nat) : Int) ∧ ((at_.toInt.toNat + j : Nat) : Int) < at_.toInt + own_len 4 v1.toInt then .int (Int32.ofInt (own_b v1.toInt (own_len 4 v1.toInt) (at_.toInt.toNat + j - at_.toInt.toNat))) else f (at_.toInt.toNat + j)) = _
    rw [if_neg (by omega), if_neg (by omega), if_pos (by omega), Nat.add_sub_cancel_left]
  have en1 : own_enc (fun i : Nat => if (i : Int) = e2.toInt then Value.int (nar .byte g) else if e1.toInt ≤ i ∧ (i : Int) < e1.toInt + own_len 4 v2.toInt then .int (Int32.ofInt (own_b v2.toInt (own_len 4 v2.toInt) (i - e1.toInt.toNat))) else if at_.toInt ≤ i ∧ (i : Int) < at_.toInt + own_len 4 v1.toInt then .int (Int32.ofInt (own_b v1.toInt (own_len 4 v1.toInt) (i - at_.toInt.toNat))) else f i) (at_.toInt + own_len 4 v1.toInt).toNat v2.toInt (own_len 4 v2.toInt) := fun j hj => by
    show (if (((at_.toInt + own_len 4 v1.toInt).toNat + j : Nat) : Int) = e2.toInt then Value.int (nar .byte g) else if e1.toInt ≤ (((at_.toInt + own_len 4 v1.toInt).toNat + j : Nat) : Int) ∧ (((at_.toInt + own_len 4 v1.toInt).toNat + j : Nat) : Int) < e1.toInt + own_len 4 v2.toInt then .int (Int32.ofInt (own_b v2.toInt (own_len 4 v2.toInt) ((at_.toInt + own_len 4 v1.toInt).toNat + j - e1.toInt.toNat))) else _) = _
    rw [if_neg (by omega), if_pos (by omega), show (at_.toInt + own_len 4 v1.toInt).toNat + j - e1.toInt.toNat = j by omega]
  rcases hc with rfl | rfl | rfl
  · skip
    refine g_callS (argsL := [(.ref b), (.int at_), (.ref ad4), (.int (0 : Int32))]) (rest := []) (W := 0) C X6 at_119 e6 (C.t 7 rfl) (C.t 8 rfl) (C.t 4 rfl) (C.t 9 rfl) (get0 l Z a0 C.w [] b at_ ad4 (0 : Int32) rfl 16 _ _  h6_ n0 Z6 g_ad4 ne_b_ad4 (by decide) A6_b A6 a1 (by omega)) (by decide) pd_2 rfl rfl rfl (Nat.le_of_eq rfl) (by decide) (by decide) (by decide) (by decide) rfl ?_
    intro T7 v7_ L7 X7 hQ7
    obtain ⟨⟨nx, rfl, hnx⟩, N7q, K7, B7⟩ := hQ7
    have N7 := Fr.app N6 N7q
    have Z7 : n0 ≤ T7.heap.size := Nat.le_trans Z6 K7.1
    have A7_b := A6_b.keep K7 (ninS ne_b_ad4 nin0)
    refine g_istore C X7 at_122 #[.val (.int x0), .val (.int x1), .val (.int x2), .val (.int x3), .val (.int x4), .val (.int x5), .val (.int v1), .val (.int v2), .val (.int at_), .val (.int (0 : Int32)), .val (.int g), .val (.ref b), .val (.int e1), .val (.int e2), .val (.ref ad4), .val (.int nx), .unset, .unset] rfl rfl ?_
    refine g_iload C X7 at_124 rfl rfl ?_
    refine g_if C X7 at_126 (by decide) rfl rfl ?_ ?_
    · intro h126
      have h126 : ¬ (0 : Int) = 0 := h126
      exact absurd h126 (by decide)
    · intro h126
      have h126 : (0 : Int) = 0 := h126
      refine g_iload C X7 at_129 rfl rfl ?_
      refine g_istore C X7 at_131 #[.val (.int x0), .val (.int x1), .val (.int x2), .val (.int x3), .val (.int x4), .val (.int x5), .val (.int v1), .val (.int v2), .val (.int at_), .val (.int (0 : Int32)), .val (.int g), .val (.ref b), .val (.int e1), .val (.int e2), .val (.ref ad4), .val (.int nx), .val (.int at_), .unset] rfl rfl ?_
      refine g_aload C X7 at_133 rfl rfl ?_
      refine g_iconst C X7 (0 : Int32) at_135 rfl rfl ?_
      refine g_iaload C X7 at_136 rfl B7 (by decide) (by decide) (v := (.int (-1 : Int32))) rfl rfl ?_
      refine g_iconst C X7 (-1 : Int32) at_137 rfl rfl ?_
      refine g_icmp C X7 at_138 (by decide) rfl rfl ?_ ?_
      · intro h138
        have h138 : ¬ (-1 : Int) = (-1) := h138
        exact absurd h138 (by decide)
      · intro h138
        have h138 : (-1 : Int) = (-1) := h138
        refine g_aload C X7 at_141 rfl rfl ?_
        refine g_iconst C X7 (1 : Int32) at_143 rfl rfl ?_
        refine g_iaload C X7 at_144 rfl B7 (by decide) (by decide) (v := (.int (-1 : Int32))) rfl rfl ?_
        refine g_iconst C X7 (-1 : Int32) at_145 rfl rfl ?_
        refine g_icmp C X7 at_146 (by decide) rfl rfl ?_ ?_
        · intro h146
          have h146 : ¬ (-1 : Int) = (-1) := h146
          exact absurd h146 (by decide)
        · intro h146
          have h146 : (-1 : Int) = (-1) := h146
          refine g_iconst C X7 (1 : Int32) at_149 rfl rfl ?_
          refine g_goto C X7 at_150 (by decide) rfl ?_
          refine g_istore C X7 at_154 #[.val (.int x0), .val (.int x1), .val (.int x2), .val (.int x3), .val (.int x4), .val (.int x5), .val (.int v1), .val (.int v2), .val (.int at_), .val (.int (0 : Int32)), .val (.int g), .val (.ref b), .val (.int e1), .val (.int e2), .val (.ref ad4), .val (.int nx), .val (.int at_), .val (.int (1 : Int32))] rfl rfl ?_
          refine g_goto C X7 at_156 (by decide) rfl ?_
          refine g_iload C X7 at_243 rfl rfl ?_
          refine g_iload C X7 at_245 rfl rfl ?_
          refine g_icmp C X7 at_247 (by decide) rfl rfl ?_ ?_
          · intro h247
            have h247 : ¬ nx.toInt = at_.toInt := h247
            exfalso; omega
          · intro h247
            have h247 : nx.toInt = at_.toInt := h247
            refine g_iload C X7 at_250 rfl rfl ?_
            refine g_if C X7 at_252 (by decide) rfl rfl ?_ ?_
            · intro h252
              have h252 : (1 : Int) = 0 := h252
              exact absurd h252 (by decide)
            · intro h252
              have h252 : ¬ (1 : Int) = 0 := h252
              refine g_iconst C X7 (1 : Int32) at_255 rfl rfl ?_
              refine g_goto C X7 at_256 (by decide) rfl ?_
              exact g_ireturnN C X7 at_260 rfl (Or.inl rfl) ⟨rfl, N7⟩ (by decide) (by decide)
  · skip
    refine g_callS (argsL := [(.ref b), (.int at_), (.ref ad4), (.int (1 : Int32))]) (rest := []) (W := 0) C X6 at_119 e6 (C.t 7 rfl) (C.t 8 rfl) (C.t 4 rfl) (C.t 9 rfl) (get1 l Z a0 C.w [] b at_ ad4 (1 : Int32) rfl 16 _ _ v1 h6_ n0 Z6 g_ad4 ne_b_ad4 (by decide) A6_b A6 a1 p1 en0 (by omega)) (by decide) pd_2 rfl rfl rfl (Nat.le_of_eq rfl) (by decide) (by decide) (by decide) (by decide) rfl ?_
    intro T8 v8_ L8 X8 hQ8
    obtain ⟨⟨nx, rfl, hnx⟩, N8q, K8, B8⟩ := hQ8
    have N8 := Fr.app N6 N8q
    have Z8 : n0 ≤ T8.heap.size := Nat.le_trans Z6 K8.1
    have A8_b := A6_b.keep K8 (ninS ne_b_ad4 nin0)
    refine g_istore C X8 at_122 #[.val (.int x0), .val (.int x1), .val (.int x2), .val (.int x3), .val (.int x4), .val (.int x5), .val (.int v1), .val (.int v2), .val (.int at_), .val (.int (1 : Int32)), .val (.int g), .val (.ref b), .val (.int e1), .val (.int e2), .val (.ref ad4), .val (.int nx), .unset, .unset] rfl rfl ?_
    refine g_iload C X8 at_124 rfl rfl ?_
    refine g_if C X8 at_126 (by decide) rfl rfl ?_ ?_
    · intro h126
      have h126 : ¬ (1 : Int) = 0 := h126
      refine g_iload C X8 at_159 rfl rfl ?_
      refine g_iconst C X8 (1 : Int32) at_161 rfl rfl ?_
      refine g_icmp C X8 at_162 (by decide) rfl rfl ?_ ?_
      · intro h162
        have h162 : ¬ (1 : Int) = 1 := h162
        exact absurd h162 (by decide)
      · intro h162
        have h162 : (1 : Int) = 1 := h162
        refine g_iload C X8 at_165 rfl rfl ?_
        refine g_iload C X8 at_167 rfl rfl ?_
        refine g_callS (argsL := [(.int v1)]) (rest := [(.int at_)]) (W := 1) C X8 at_169 rfl (C.t 10 rfl) (C.t 11 rfl) (C.t 12 rfl) (C.t 13 rfl) (rm3 l Z a0 C.w [] v1 T8.heap n0 Z8) (by decide) pd_3 rfl rfl rfl (Nat.le_of_eq rfl) (by decide) (by decide) (by decide) (by decide) rfl ?_
        intro T9 v9_ L9 X9 hQ9
        obtain ⟨⟨la, rfl, hla⟩, N9q, hh9⟩ := hQ9
        have N9 := Fr.app N8 N9q
        refine g_iadd C X9 at_172 rfl ?_
        refine g_istoreV C X9 at_173 (fun v__ => #[.val (.int x0), .val (.int x1), .val (.int x2), .val (.int x3), .val (.int x4), .val (.int x5), .val (.int v1), .val (.int v2), .val (.int at_), .val (.int (1 : Int32)), .val (.int g), .val (.ref b), .val (.int e1), .val (.int e2), .val (.ref ad4), .val (.int nx), .val (.int v__), .unset]) rfl rfl ?_
        intro v173 h_v173
        have s1 := c_iadd at_ la
        rw [← h_v173] at s1
        have s2 := rng32 v173
        refine g_aload C X9 at_175 rfl rfl ?_
        refine g_iconst C X9 (0 : Int32) at_177 rfl rfl ?_
        refine g_iaload C X9 at_178 hh9 B8 (by decide) (by decide) (v := (.int v1)) rfl rfl ?_
        refine g_iload C X9 at_179 rfl rfl ?_
        refine g_icmp C X9 at_181 (by decide) rfl rfl ?_ ?_
        · intro h181
          have h181 : ¬ v1.toInt = v1.toInt := h181
          exact absurd rfl h181
        · intro h181
          have h181 : v1.toInt = v1.toInt := h181
          refine g_aload C X9 at_184 rfl rfl ?_
          refine g_iconst C X9 (1 : Int32) at_186 rfl rfl ?_
          refine g_iaload C X9 at_187 hh9 B8 (by decide) (by decide) (v := (.int (-1 : Int32))) rfl rfl ?_
          refine g_iconst C X9 (-1 : Int32) at_188 rfl rfl ?_
          refine g_icmp C X9 at_189 (by decide) rfl rfl ?_ ?_
          · intro h189
            have h189 : ¬ (-1 : Int) = (-1) := h189
            exact absurd h189 (by decide)
          · intro h189
            have h189 : (-1 : Int) = (-1) := h189
            refine g_iconst C X9 (1 : Int32) at_192 rfl rfl ?_
            refine g_goto C X9 at_193 (by decide) rfl ?_
            refine g_istore C X9 at_197 #[.val (.int x0), .val (.int x1), .val (.int x2), .val (.int x3), .val (.int x4), .val (.int x5), .val (.int v1), .val (.int v2), .val (.int at_), .val (.int (1 : Int32)), .val (.int g), .val (.ref b), .val (.int e1), .val (.int e2), .val (.ref ad4), .val (.int nx), .val (.int v173), .val (.int (1 : Int32))] rfl rfl ?_
            refine g_goto C X9 at_199 (by decide) rfl ?_
            refine g_iload C X9 at_243 rfl rfl ?_
            refine g_iload C X9 at_245 rfl rfl ?_
            refine g_icmp C X9 at_247 (by decide) rfl rfl ?_ ?_
            · intro h247
              have h247 : ¬ nx.toInt = v173.toInt := h247
              exfalso; omega
            · intro h247
              have h247 : nx.toInt = v173.toInt := h247
              refine g_iload C X9 at_250 rfl rfl ?_
              refine g_if C X9 at_252 (by decide) rfl rfl ?_ ?_
              · intro h252
                have h252 : (1 : Int) = 0 := h252
                exact absurd h252 (by decide)
              · intro h252
                have h252 : ¬ (1 : Int) = 0 := h252
                refine g_iconst C X9 (1 : Int32) at_255 rfl rfl ?_
                refine g_goto C X9 at_256 (by decide) rfl ?_
                exact g_ireturnN C X9 at_260 rfl (Or.inl rfl) ⟨rfl, N9⟩ (by decide) (by decide)
    · intro h126
      have h126 : (1 : Int) = 0 := h126
      exact absurd h126 (by decide)
  · skip
    refine g_callS (argsL := [(.ref b), (.int at_), (.ref ad4), (.int (2 : Int32))]) (rest := []) (W := 0) C X6 at_119 e6 (C.t 7 rfl) (C.t 8 rfl) (C.t 4 rfl) (C.t 9 rfl) (get2 l Z a0 C.w [] b at_ ad4 (2 : Int32) rfl 16 _ _ v1 v2 h6_ n0 Z6 g_ad4 ne_b_ad4 (by decide) A6_b A6 a1 p1 en0 p2 en1 (by omega)) (by decide) pd_2 rfl rfl rfl (Nat.le_of_eq rfl) (by decide) (by decide) (by decide) (by decide) rfl ?_
    intro T10 v10_ L10 X10 hQ10
    obtain ⟨⟨nx, rfl, hnx⟩, N10q, K10, B10⟩ := hQ10
    have N10 := Fr.app N6 N10q
    have Z10 : n0 ≤ T10.heap.size := Nat.le_trans Z6 K10.1
    have A10_b := A6_b.keep K10 (ninS ne_b_ad4 nin0)
    refine g_istore C X10 at_122 #[.val (.int x0), .val (.int x1), .val (.int x2), .val (.int x3), .val (.int x4), .val (.int x5), .val (.int v1), .val (.int v2), .val (.int at_), .val (.int (2 : Int32)), .val (.int g), .val (.ref b), .val (.int e1), .val (.int e2), .val (.ref ad4), .val (.int nx), .unset, .unset] rfl rfl ?_
    refine g_iload C X10 at_124 rfl rfl ?_
    refine g_if C X10 at_126 (by decide) rfl rfl ?_ ?_
    · intro h126
      have h126 : ¬ (2 : Int) = 0 := h126
      refine g_iload C X10 at_159 rfl rfl ?_
      refine g_iconst C X10 (1 : Int32) at_161 rfl rfl ?_
      refine g_icmp C X10 at_162 (by decide) rfl rfl ?_ ?_
      · intro h162
        have h162 : ¬ (2 : Int) = 1 := h162
        refine g_iload C X10 at_202 rfl rfl ?_
        refine g_iload C X10 at_204 rfl rfl ?_
        refine g_callS (argsL := [(.int v1)]) (rest := [(.int at_)]) (W := 1) C X10 at_206 rfl (C.t 10 rfl) (C.t 11 rfl) (C.t 12 rfl) (C.t 13 rfl) (rm3 l Z a0 C.w [] v1 T10.heap n0 Z10) (by decide) pd_3 rfl rfl rfl (Nat.le_of_eq rfl) (by decide) (by decide) (by decide) (by decide) rfl ?_
        intro T11 v11_ L11 X11 hQ11
        obtain ⟨⟨la, rfl, hla⟩, N11q, hh11⟩ := hQ11
        have N11 := Fr.app N10 N11q
        refine g_iadd C X11 at_209 rfl ?_
        refine g_iload C X11 at_210 rfl rfl ?_
        refine g_callS (argsL := [(.int v2)]) (rest := [(.int (at_ + la))]) (W := 1) C X11 at_212 hh11 (C.t 10 rfl) (C.t 11 rfl) (C.t 12 rfl) (C.t 13 rfl) (rm3 l Z a0 C.w [] v2 T10.heap n0 Z10) (by decide) pd_3 rfl rfl rfl (Nat.le_of_eq rfl) (by decide) (by decide) (by decide) (by decide) rfl ?_
        intro T12 v12_ L12 X12 hQ12
        obtain ⟨⟨lb, rfl, hlb⟩, N12q, hh12⟩ := hQ12
        have N12 := Fr.app N11 N12q
        refine g_iadd C X12 at_215 rfl ?_
        refine g_istoreV C X12 at_216 (fun v__ => #[.val (.int x0), .val (.int x1), .val (.int x2), .val (.int x3), .val (.int x4), .val (.int x5), .val (.int v1), .val (.int v2), .val (.int at_), .val (.int (2 : Int32)), .val (.int g), .val (.ref b), .val (.int e1), .val (.int e2), .val (.ref ad4), .val (.int nx), .val (.int v__), .unset]) rfl rfl ?_
        intro v216 h_v216
        have s1 := c_iadd at_ la
        have s2 := rng32 (at_ + la)
        have s3 := c_iadd (at_ + la) lb
        rw [← h_v216] at s3
        have s4 := rng32 v216
        refine g_aload C X12 at_218 rfl rfl ?_
        refine g_iconst C X12 (0 : Int32) at_220 rfl rfl ?_
        refine g_iaload C X12 at_221 hh12 B10 (by decide) (by decide) (v := (.int v1)) rfl rfl ?_
        refine g_iload C X12 at_222 rfl rfl ?_
        refine g_icmp C X12 at_224 (by decide) rfl rfl ?_ ?_
        · intro h224
          have h224 : ¬ v1.toInt = v1.toInt := h224
          exact absurd rfl h224
        · intro h224
          have h224 : v1.toInt = v1.toInt := h224
          refine g_aload C X12 at_227 rfl rfl ?_
          refine g_iconst C X12 (1 : Int32) at_229 rfl rfl ?_
          refine g_iaload C X12 at_230 hh12 B10 (by decide) (by decide) (v := (.int v2)) rfl rfl ?_
          refine g_iload C X12 at_231 rfl rfl ?_
          refine g_icmp C X12 at_233 (by decide) rfl rfl ?_ ?_
          · intro h233
            have h233 : ¬ v2.toInt = v2.toInt := h233
            exact absurd rfl h233
          · intro h233
            have h233 : v2.toInt = v2.toInt := h233
            refine g_iconst C X12 (1 : Int32) at_236 rfl rfl ?_
            refine g_goto C X12 at_237 (by decide) rfl ?_
            refine g_istore C X12 at_241 #[.val (.int x0), .val (.int x1), .val (.int x2), .val (.int x3), .val (.int x4), .val (.int x5), .val (.int v1), .val (.int v2), .val (.int at_), .val (.int (2 : Int32)), .val (.int g), .val (.ref b), .val (.int e1), .val (.int e2), .val (.ref ad4), .val (.int nx), .val (.int v216), .val (.int (1 : Int32))] rfl rfl ?_
            refine g_iload C X12 at_243 rfl rfl ?_
            refine g_iload C X12 at_245 rfl rfl ?_
            refine g_icmp C X12 at_247 (by decide) rfl rfl ?_ ?_
            · intro h247
              have h247 : ¬ nx.toInt = v216.toInt := h247
              exfalso; omega
            · intro h247
              have h247 : nx.toInt = v216.toInt := h247
              refine g_iload C X12 at_250 rfl rfl ?_
              refine g_if C X12 at_252 (by decide) rfl rfl ?_ ?_
              · intro h252
                have h252 : (1 : Int) = 0 := h252
                exact absurd h252 (by decide)
              · intro h252
                have h252 : ¬ (1 : Int) = 0 := h252
                refine g_iconst C X12 (1 : Int32) at_255 rfl rfl ?_
                refine g_goto C X12 at_256 (by decide) rfl ?_
                exact g_ireturnN C X12 at_260 rfl (Or.inl rfl) ⟨rfl, N12⟩ (by decide) (by decide)
      · intro h162
        have h162 : (2 : Int) = 1 := h162
        exact absurd h162 (by decide)
    · intro h126
      have h126 : (2 : Int) = 0 := h126
      exact absurd h126 (by decide)
set_option maxRecDepth 65536 in
set_option maxHeartbeats 40000000 in
theorem rm0 (l : Launch) (Z : State) (a0 : Array Value) (hw : ∀ d ∈ tables_1, d.before a0 Z = true) (ws : List Jvm.Cond) (x0 : Int32) (x1 : Int32) (x2 : Int32) (x3 : Int32) (x4 : Int32) (x5 : Int32) (h0 : Heap) (n0 : Nat) (Z0 : n0 ≤ h0.size) :
    MetFree l x (head1 (Jvm.Cond.code x code maxLocals ret :: ws) room_1) (fun aa U => aa = #[(.int x0), (.int x1), (.int x2), (.int x3), (.int x4), (.int x5)] ∧ Z.Warmed39 U.vm ∧ U.heap = h0) (fun _ _ _ _ _ => True) (fun _ U oo U' => ∃ rv Lr, oo = .returned rv ∧ LQ n0 rv U'.heap Lr ∧ FrameEnd U oo U' Lr room_1.cells room_1.slots) := by
  refine g_enter pn_0 hw (ef_0 x0 x1 x2 x3 x4 x5) ?_
  intro p e s m below meth c T0 C X0 e0
  have C : Cx Z a0 p s m meth c code maxLocals "com/example/overscore/overscore/index/VarIntGetPinLaw" "law" ret := C
  have N0 := Fr.nil n0
  refine g_iloadN C X0 at_0 rfl rfl ?_
  refine g_ldc C X0 at_1 (C.t 0 rfl) rfl ?_
  refine g_iand C X0 at_3 rfl ?_
  refine g_iloadN C X0 at_4 rfl rfl ?_
  refine g_bipush C X0 (31 : Int32) at_5 rfl rfl ?_
  refine g_iand C X0 at_7 rfl ?_
  refine g_iushr C X0 at_8 rfl ?_
  refine g_istoreV C X0 at_9 (fun v__ => #[.val (.int x0), .val (.int x1), .val (.int x2), .val (.int x3), .val (.int x4), .val (.int x5), .val (.int v__), .unset, .unset, .unset, .unset, .unset, .unset, .unset, .unset, .unset, .unset, .unset]) rfl rfl ?_
  intro v9 h_v9
  have cm9 := c_mask x0 (2147483647 : Int32) 31 (by decide) (by decide)
  have p1 : 0 ≤ v9.toInt := by rw [h_v9]; exact own_ushnn _ _ (by rw [cm9]; omega)
  refine g_iloadN C X0 at_11 rfl rfl ?_
  refine g_ldc C X0 at_12 (C.t 0 rfl) rfl ?_
  refine g_iand C X0 at_14 rfl ?_
  refine g_iloadN C X0 at_15 rfl rfl ?_
  refine g_bipush C X0 (31 : Int32) at_16 rfl rfl ?_
  refine g_iand C X0 at_18 rfl ?_
  refine g_iushr C X0 at_19 rfl ?_
  refine g_istoreV C X0 at_20 (fun v__ => #[.val (.int x0), .val (.int x1), .val (.int x2), .val (.int x3), .val (.int x4), .val (.int x5), .val (.int v9), .val (.int v__), .unset, .unset, .unset, .unset, .unset, .unset, .unset, .unset, .unset, .unset]) rfl rfl ?_
  intro v20 h_v20
  have cm20 := c_mask x2 (2147483647 : Int32) 31 (by decide) (by decide)
  have p2 : 0 ≤ v20.toInt := by rw [h_v20]; exact own_ushnn _ _ (by rw [cm20]; omega)
  refine g_iload C X0 at_22 rfl rfl ?_
  refine g_ldc C X0 at_24 (C.t 0 rfl) rfl ?_
  refine g_iand C X0 at_26 rfl ?_
  refine g_bipush C X0 (6 : Int32) at_27 rfl rfl ?_
  refine g_irem C X0 at_29 (by decide) rfl ?_
  refine g_istoreV C X0 at_30 (fun v__ => #[.val (.int x0), .val (.int x1), .val (.int x2), .val (.int x3), .val (.int x4), .val (.int x5), .val (.int v9), .val (.int v20), .val (.int v__), .unset, .unset, .unset, .unset, .unset, .unset, .unset, .unset, .unset]) rfl rfl ?_
  intro v30 h_v30
  have cm4 := c_mask x4 (2147483647 : Int32) 31 (by decide) (by decide)
  have cr := (c_iremV (x4 &&& (2147483647 : Int32)) (6 : Int32)).1 (by omega) (by decide)
  rw [← h_v30, show (6 : Int32).toInt = 6 by decide] at cr
  refine g_iload C X0 at_32 rfl rfl ?_
  refine g_ldc C X0 at_34 (C.t 0 rfl) rfl ?_
  refine g_iand C X0 at_36 rfl ?_
  refine g_iconst C X0 (3 : Int32) at_37 rfl rfl ?_
  refine g_irem C X0 at_38 (by decide) rfl ?_
  refine g_istoreV C X0 at_39 (fun v__ => #[.val (.int x0), .val (.int x1), .val (.int x2), .val (.int x3), .val (.int x4), .val (.int x5), .val (.int v9), .val (.int v20), .val (.int v30), .val (.int v__), .unset, .unset, .unset, .unset, .unset, .unset, .unset, .unset]) rfl rfl ?_
  intro v39 h_v39
  have cm5 := c_mask x5 (2147483647 : Int32) 31 (by decide) (by decide)
  have cq := (c_iremV (x5 &&& (2147483647 : Int32)) (3 : Int32)).1 (by omega) (by decide)
  rw [← h_v39, show (3 : Int32).toInt = 3 by decide] at cq
  have hc : v39 = (0 : Int32) ∨ v39 = (1 : Int32) ∨ v39 = (2 : Int32) := by
    have q : v39.toInt = 0 ∨ v39.toInt = 1 ∨ v39.toInt = 2 := by omega
    rcases q with q | q | q
    · exact Or.inl (own_inj32 q)
    · exact Or.inr (Or.inl (own_inj32 q))
    · exact Or.inr (Or.inr (own_inj32 q))
  refine g_iload C X0 at_41 rfl rfl ?_
  refine g_bipush C X0 (8 : Int32) at_43 rfl rfl ?_
  refine g_ishr C X0 at_45 rfl ?_
  refine g_i2b C X0 at_46 rfl ?_
  refine g_istoreV C X0 at_47 (fun v__ => #[.val (.int x0), .val (.int x1), .val (.int x2), .val (.int x3), .val (.int x4), .val (.int x5), .val (.int v9), .val (.int v20), .val (.int v30), .val (.int v39), .val (.int v__), .unset, .unset, .unset, .unset, .unset, .unset, .unset]) rfl rfl ?_
  intro v47 h_v47
  refine g_bipush C X0 (16 : Int32) at_49 rfl rfl ?_
  refine g_newarray (cap := 16) C X0 at_51 e0 (C.t 1 rfl) (by decide) (by decide) (by decide) (by decide) (by decide) rfl ?_
  intro T1 h1_ X1 e1 E1 lt1 ad1 ha1 A1
  have Z1 : n0 ≤ h1_.size := Nat.le_trans Z0 E1.1
  have g_ad1 : n0 ≤ ad1 := by omega
  refine g_astore C X1 at_53 #[.val (.int x0), .val (.int x1), .val (.int x2), .val (.int x3), .val (.int x4), .val (.int x5), .val (.int v9), .val (.int v20), .val (.int v30), .val (.int v39), .val (.int v47), .val (.ref ad1), .unset, .unset, .unset, .unset, .unset, .unset] rfl rfl ?_
  refine g_iload C X1 at_55 rfl rfl ?_
  refine g_if C X1 at_57 (by decide) rfl rfl ?_ ?_
  · intro h57
    have h57 : v30.toInt ≤ 0 := h57
    exact seg69 C X1 e1 N0 Z1 A1 g_ad1 p1 p2 (by omega) (by omega) hc
  · intro h57
    have h57 : v30.toInt > 0 := h57
    refine g_aload C X1 at_60 rfl rfl ?_
    refine g_iload C X1 at_62 rfl rfl ?_
    refine g_iconst C X1 (1 : Int32) at_64 rfl rfl ?_
    refine g_isub C X1 at_65 rfl ?_
    refine g_iload C X1 at_66 rfl rfl ?_
    have su := c_isub v30 (1 : Int32)
    rw [show (1 : Int32).toInt = 1 by decide] at su
    have sr := rng32 (v30 - (1 : Int32))
    have s16 : (((16 : Int32).toInt.toNat : Nat) : Int) = 16 := by decide
    refine g_bastore C X1 at_68 e1 A1 (by omega) (by omega) rfl ?_
    intro T2 h2_ X2 e2 W2 A2
    have N2 := Fr.snoc X2 N0 g_ad1
    have Z2 : n0 ≤ h2_.size := Nat.le_trans Z1 (Keep.of_wr W2).1
    exact seg69 C X2 e2 N2 Z2 A2 g_ad1 p1 p2 (by omega) (by omega) hc
set_option maxRecDepth 65536 in
set_option maxHeartbeats 40000000 in
theorem comes_1 {Post : Tables → Env → Array Value → State → Outcome → State → Prop} (hpost : ∀ tb e args s v u, (limb_1_1.after args s (.returned v) u = true ∧ limb_1_2.after args s (.returned v) u = true ∧ True) → FrameEnd s (.returned v) u (Jvm.fieldLocs frame_1_writes args s ++ Jvm.arrayLocs frame_1_arrays args s ++ Jvm.staticLocs frame_1_statics s) 16 128 → Post tb e args s (.returned v) u) :
    ArmFor flags0 classFile x code maxLocals ret World_1 tables_1 room_1 Calls_1 rest_1 Pre_1 Post := by
  intro l hfl _ _ p e ha hc hk s m args below hf hA hF happ hP
  obtain ⟨hcalls, hrest, hpre⟩ := hP
  obtain ⟨-, -, -, hnamed, -, -, -, hat⟩ := (Spec.applies_iff hf).mp happ
  obtain ⟨hg, hn⟩ := and_e (Cond.before_iff.mp (show (Jvm.Cond.and given_1 narrow_1).before args s = true from hpre))
  obtain ⟨q0, g0⟩ := and_e hg
  obtain ⟨q1, g1⟩ := and_e g0
  obtain ⟨q2, g2⟩ := and_e g1
  obtain ⟨q3, g3⟩ := and_e g2
  obtain ⟨q4, g4⟩ := and_e g3
  obtain ⟨q5, g5⟩ := and_e g4
  have q6 := g5
  obtain ⟨w0, w1, w2, w3, w4, w5, rfl⟩ : ∃ w0 w1 w2 w3 w4 w5 : Value, args = #[w0, w1, w2, w3, w4, w5] := by
    have hs : args.size = 6 := by simpa [Cond.value, given_1] using q0
    obtain ⟨L⟩ := args
    match L, hs with
    | [w0, w1, w2, w3, w4, w5], _ => exact ⟨w0, w1, w2, w3, w4, w5, rfl⟩
  have hw := fun d (hd : d ∈ tables_1) => atoms_spec (ws := Jvm.Cond.code x code maxLocals ret :: tables_1) hat d (List.mem_cons_of_mem _ hd)
  obtain ⟨i0, ei0⟩ := is_v q1
  obtain rfl : w0 = (.int i0) := Option.some.inj ei0
  obtain ⟨i1, ei1⟩ := is_v q2
  obtain rfl : w1 = (.int i1) := Option.some.inj ei1
  obtain ⟨i2, ei2⟩ := is_v q3
  obtain rfl : w2 = (.int i2) := Option.some.inj ei2
  obtain ⟨i3, ei3⟩ := is_v q4
  obtain rfl : w3 = (.int i3) := Option.some.inj ei3
  obtain ⟨i4, ei4⟩ := is_v q5
  obtain rfl : w4 = (.int i4) := Option.some.inj ei4
  obtain ⟨i5, ei5⟩ := is_v q6
  obtain rfl : w5 = (.int i5) := Option.some.inj ei5
  obtain ⟨n, o, h1, h2, h3, _, L, rfl, ⟨rfl, N⟩, hq⟩ := rm0 l s _ hw tables_1 i0 i1 i2 i3 i4 i5 s.heap s.heap.size (Nat.le_refl _) p e ha hc hk s m _ below hf ((Spec.applies_iff_loose hf).mp happ).1 ⟨rfl, State.Warmed39.refl s, rfl⟩ trivial
  refine ⟨n, _, h1, h2, h3, hpost _ _ _ _ _ _ ⟨Cond.after_iff.mpr rfl, Cond.after_iff.mpr (eq_i res_at (Term.int_eval (1)) rfl), trivial⟩ ⟨hq.1, hq.2.1, (hq.2.2.sift fun y hy => Or.inr (N y hy)).mono (by decide) (by decide)⟩⟩
theorem main_1_1 : Claimed_1_1 := comes_1 fun _ _ _ _ _ _ h hF => ⟨h.1, hF⟩
theorem main_1_2 : Claimed_1_2 := comes_1 fun _ _ _ _ _ _ h hF => ⟨h.2.1, hF⟩
end Jvm.Pilot.@@N@@
namespace Jvm.Pilot.@@N@@
open Jvm Jvm.ClassFile Sem Op Lib Jvm.Free Jvm.Stand Jvm.Pilot.@@N@@.Jvm.D
/-! MADE BY PROGRAM (witnessworld.py) out of the Statement's table words and the real class files: 9 classes; the members and pool entries that the words name. The judged class is class 1, her method 2. -/
namespace start1
open Jvm.ClassFile
def u (s : String) : CpInfo := .utf8 (stringToUtf16 s)
/-- a pool by its gaps: so many unusable entries, then the entry; so many at the end -/
def gap : Nat → List CpInfo → List CpInfo
  | 0, r => r
  | n + 1, r => .unusable :: gap n r
def poolList (es : List (Nat × CpInfo)) (last : Nat) : List CpInfo := es.foldr (fun e r => gap e.1 (e.2 :: r)) (gap last [])
def pool (es : List (Nat × CpInfo)) (last : Nat) : Array CpInfo := ⟨poolList es last⟩
def fileOf (pool : Array CpInfo) (this : Nat) (attrs : Array Attribute := #[]) (ms : Array MethodInfo := #[]) (fl : Nat := 33) (sup : Nat := 0) (ifs : Array Nat := #[]) (fds : Array FieldInfo := #[]) : ClassFile where
  minorVersion := 0
  majorVersion := 65
  constantPool := pool
  accessFlags := fl
  thisClass := this
  superClass := sup
  interfaces := ifs
  fields := fds
  methods := ms
  attributes := attrs
def plain (name : String) (sup : Option ClassId) : Class where
  name := name
  kind := .ordinary
  loader := none
  accessFlags := 33
  super := sup
  interfaces := #[]
  cf := none
  fields := #[]
  methods := #[]
  instanceTypes := #[]
  staticTypes := #[]
  resolved := #[]
  callSites := []
  init := .initialized
  statics := none
  mirror := none

def pool0 : Array CpInfo := pool [(5, u "<init>"), (0, u "()V"), (1, .class_ 10), (1, u "java/lang/Object")] 113

def k0m0 : Method := { name := "<init>", desc := "()V", sig := { parameters := [], returnType := none }, accessFlags := 1, code := none }
/-- java/lang/Object -/
def k0 : Class := { plain "java/lang/Object" none with
  accessFlags := 33
  interfaces := #[]
  cf := some (fileOf pool0 8 #[] #[{ accessFlags := 1, nameIndex := 5, descriptorIndex := 6, attributes := #[] }] 33 0 #[] #[])
  fields := #[]
  methods := #[k0m0]
  instanceTypes := #[]
  staticTypes := #[]
  resolved := Array.replicate 124 none
  statics := none }

def pool1 : Array CpInfo := pool [(2, .class_ 4), (1, u "java/lang/Object"), (0, u "<init>"), (0, u "()V"), (0, .integer 2097152), (0, .integer 268435456), (0, .integer 2147483647), (0, .methodref 11 12), (0, .class_ 13), (0, .nameAndType 14 15), (0, u "com/example/overscore/overscore/index/VarInt"), (0, u "put"), (0, u "([BII)I"), (0, .methodref 11 17), (0, .nameAndType 18 19), (0, u "get"), (0, u "([BI[II)I"), (0, .methodref 21 22), (0, .class_ 23), (0, .nameAndType 24 25), (0, u "com/example/overscore/overscore/index/VarIntGetPinLaw"), (0, u "len"), (0, u "(I)I"), (3, u "law"), (0, u "(IIIIII)Z")] 6

def k1m0 : Method := { name := "<init>", desc := "()V", sig := { parameters := [], returnType := none }, accessFlags := 2, code := none }
def k1c1 : Code := { maxStack := 2, maxLocals := 1, code := method_2_code, exceptionTable := #[], attributes := #[] }
def k1m1 : Method := { name := "len", desc := "(I)I", sig := { parameters := [.int], returnType := some .int }, accessFlags := 10, code := some k1c1 }
def k1c2 : Code := { maxStack := 4, maxLocals := 18, code := code, exceptionTable := #[], attributes := #[] }
def k1m2 : Method := { name := "law", desc := "(IIIIII)Z", sig := { parameters := [.int, .int, .int, .int, .int, .int], returnType := some .boolean }, accessFlags := 9, code := some k1c2 }
/-- com/example/overscore/overscore/index/VarIntGetPinLaw -/
def k1 : Class := { plain "com/example/overscore/overscore/index/VarIntGetPinLaw" (some 0) with
  accessFlags := 49
  interfaces := #[]
  cf := some (fileOf pool1 21 #[] #[{ accessFlags := 2, nameIndex := 5, descriptorIndex := 6, attributes := #[] }, { accessFlags := 10, nameIndex := 24, descriptorIndex := 25, attributes := #[] }, { accessFlags := 9, nameIndex := 29, descriptorIndex := 30, attributes := #[] }] 49 2 #[] #[])
  fields := #[]
  methods := #[k1m0, k1m1, k1m2]
  instanceTypes := #[]
  staticTypes := #[]
  resolved := Array.replicate 37 none
  statics := none }

def pool2 : Array CpInfo := pool [(2, .class_ 4), (1, u "java/lang/Object"), (0, u "<init>"), (0, u "()V"), (6, .class_ 14), (0, u "com/example/overscore/overscore/index/VarInt"), (0, u "MAX_BYTES"), (0, u "I"), (10, u "put"), (0, u "([BII)I"), (0, u "get"), (0, u "([BI[II)I")] 2

def k2m0 : Method := { name := "<init>", desc := "()V", sig := { parameters := [], returnType := none }, accessFlags := 2, code := none }
def k2c1 : Code := { maxStack := 4, maxLocals := 5, code := prog_8_method_3_code, exceptionTable := #[], attributes := #[] }
def k2m1 : Method := { name := "put", desc := "([BII)I", sig := { parameters := [(.array .byte), .int, .int], returnType := some .int }, accessFlags := 8, code := some k2c1 }
def k2c2 : Code := { maxStack := 3, maxLocals := 9, code := prog_8_method_4_code, exceptionTable := #[], attributes := #[] }
def k2m2 : Method := { name := "get", desc := "([BI[II)I", sig := { parameters := [(.array .byte), .int, (.array .int), .int], returnType := some .int }, accessFlags := 8, code := some k2c2 }
/-- com/example/overscore/overscore/index/VarInt -/
def k2 : Class := { plain "com/example/overscore/overscore/index/VarInt" (some 0) with
  accessFlags := 32
  interfaces := #[]
  cf := some (fileOf pool2 13 #[] #[{ accessFlags := 2, nameIndex := 5, descriptorIndex := 6, attributes := #[] }, { accessFlags := 8, nameIndex := 27, descriptorIndex := 28, attributes := #[] }, { accessFlags := 8, nameIndex := 29, descriptorIndex := 30, attributes := #[] }] 32 2 #[] #[{ accessFlags := 24, nameIndex := 15, descriptorIndex := 16, attributes := #[] }])
  fields := #[{ name := "MAX_BYTES", type := .int, accessFlags := 24, slot := 0, constantValue := 0 }]
  methods := #[k2m0, k2m1, k2m2]
  instanceTypes := #[]
  staticTypes := #[.int]
  resolved := Array.replicate 33 none
  statics := none }

def pool3 : Array CpInfo := pool [(1, u "java/lang/Cloneable"), (0, .class_ 1), (0, u "java/lang/Object"), (0, .class_ 3)] 3

/-- java/lang/Cloneable -/
def k3 : Class := { plain "java/lang/Cloneable" (some 0) with
  accessFlags := 1537
  interfaces := #[]
  cf := some (fileOf pool3 2 #[] #[] 1537 4 #[] #[])
  fields := #[]
  methods := #[]
  instanceTypes := #[]
  staticTypes := #[]
  resolved := Array.replicate 8 none
  statics := none }

def pool4 : Array CpInfo := pool [(1, u "java/io/Serializable"), (0, .class_ 1), (0, u "java/lang/Object"), (0, .class_ 3)] 3

/-- java/io/Serializable -/
def k4 : Class := { plain "java/io/Serializable" (some 0) with
  accessFlags := 1537
  interfaces := #[]
  cf := some (fileOf pool4 2 #[] #[] 1537 4 #[] #[])
  fields := #[]
  methods := #[]
  instanceTypes := #[]
  staticTypes := #[]
  resolved := Array.replicate 8 none
  statics := none }

/-- the primitive byte -/
def k5 : Class := { plain "byte" none with kind := .primitive 'B', accessFlags := 0x411 }
/-- [B -/
def k6 : Class := { plain "[B" (some 0) with kind := .array 5 .byte, interfaces := #[3, 4], accessFlags := 1041 }

/-- the primitive int -/
def k7 : Class := { plain "int" none with kind := .primitive 'I', accessFlags := 0x411 }
/-- [I -/
def k8 : Class := { plain "[I" (some 0) with kind := .array 7 .int, interfaces := #[3, 4], accessFlags := 1041 }

def heap : Heap := #[]
def classes : Array Class := #[k0, k1, k2, k3, k4, k5, k6, k7, k8]
def interned : List (Array UInt16 × Addr) := []
def slotsUsed : Nat := 0
def theMethod : MethodId := ⟨1, 2⟩
def args0 : Array Value := #[.int 300, .int 1, .int 2, .int 0, .int 1, .int 2]
def aboutOver (below : List Frame) : State where
  vm := { classes := classes, interned := interned.toArray }
  heap := heap
  slotsUsed := slotsUsed
  threads := #[{ frames := .invoking theMethod args0 :: below }]
def below0 : List Frame := [.native { method := ⟨0, 0⟩, args := #[] }]
def about1 : State := aboutOver below0
def p0 : Program := .bare "" "" ""
def e0 : Env := launch0.env 0 0 0
theorem w_frames : about1.frames = Frame.invoking theMethod args0 :: below0 := rfl
set_option maxRecDepth 65536 in
theorem w_args : argsFit about1.vm theMethod args0 = true := by decide +kernel
set_option maxRecDepth 65536 in
theorem w_heap : heapFits about1 = true := by decide +kernel
set_option maxRecDepth 65536 in
theorem w_runnable : about1.curStatus? = some .runnable := by decide +kernel
set_option maxRecDepth 65536 in
theorem w_alone : about1.alone = true := by decide +kernel
set_option maxRecDepth 65536 in
theorem w_named : about1.methodNamed? x = some theMethod := by decide +kernel
set_option maxRecDepth 65536 in
theorem w_hears : about1.hears theMethod below0 = true := by decide +kernel
set_option maxRecDepth 65536 in
theorem w_ripe : about1.ripe theMethod args0 below0 = true := by decide +kernel
theorem w_running : about1.status = .running := rfl
set_option maxRecDepth 65536 in
theorem w_room : about1.hasRoom e0.platform room_1 = true :=
  launch0.hasRoom_least _ room_1 (by decide +kernel) (by decide +kernel) (by decide +kernel) (by decide +kernel) (by decide +kernel) (by decide +kernel)
theorem allAtoms_all (ts : List Jvm.Cond) (a : Array Jvm.Value) (st : Jvm.State) : (allAtoms ts).before a st = ts.all (fun c => c.before a st) := by
  induction ts with
  | nil => rfl
  | cons c t ih =>
    show (Jvm.Cond.and c (allAtoms t)).before a st = _
    rw [Jvm.Cond.before_and, ih, List.all_cons]
def words1 : List Jvm.Cond := Jvm.Cond.code x code maxLocals ret :: tables_1
/-- a 'code' word, met by the world's own term for the bytes: nothing is compared byte by byte -/
theorem code_word {y : MethodName} {bytes : ByteArray} {mx : Nat} {rt : Option FieldType} {a : Array Value} {s : State} {m : MethodId} {meth : Method} {c : Code} (h1 : s.methodNamed? y = some m) (h2 : s.vm.method? m = some meth) (h3 : meth.code = some c) (h4 : c.code = bytes)
    (h5 : (c.maxLocals == mx && c.exceptionTable.isEmpty && decide (c.maxStack ≤ mostOperands) && decide (meth.sig.returnType = rt) && !meth.locks && decide (parseMethodDescriptor y.desc = some meth.sig)) = true) : (Jvm.Cond.code y bytes mx rt).before a s = true := by
  simp only [Bool.and_eq_true, beq_iff_eq, Bool.not_eq_true', decide_eq_true_eq] at h5
  obtain ⟨⟨⟨⟨⟨g1, g2⟩, g3⟩, g4⟩, g5⟩, g6⟩ := h5
  simp [Cond.before, Cond.holds, Cond.value, h1, h2, h3, h4, g1, g2, g3, g4, g5, g6]
def isCode : Jvm.Cond → Bool
  | .code _ _ _ _ => true
  | _ => false
theorem all_split {L : List Jvm.Cond} {P : Jvm.Cond → Bool} (h1 : L.all (fun c => isCode c || P c) = true) (h2 : ∀ c ∈ L.filter isCode, P c = true) : L.all P = true := by
  refine List.all_eq_true.mpr fun c hc => ?_
  have h := List.all_eq_true.mp h1 c hc
  rcases Bool.eq_false_or_eq_true (isCode c) with hi | hi
  · exact h2 c (List.mem_filter.mpr ⟨hc, hi⟩)
  · simpa [hi] using h
set_option maxRecDepth 65536 in
theorem w_c0 : (Jvm.Cond.code x code maxLocals ret).before args0 about1 = true := code_word (m := ⟨1, 2⟩) (meth := k1m2) (c := k1c2) (by decide +kernel) rfl rfl rfl (by decide +kernel)
set_option maxRecDepth 65536 in
theorem w_c1 : (Jvm.Cond.code ({ cls := "com/example/overscore/overscore/index/VarInt", name := "put", desc := "([BII)I" } : Jvm.MethodName) prog_8_method_3_code (5 : Nat) (Option.some Jvm.ClassFile.FieldType.int)).before args0 about1 = true := code_word (m := ⟨2, 1⟩) (meth := k2m1) (c := k2c1) (by decide +kernel) rfl rfl rfl (by decide +kernel)
set_option maxRecDepth 65536 in
theorem w_c2 : (Jvm.Cond.code ({ cls := "com/example/overscore/overscore/index/VarInt", name := "get", desc := "([BI[II)I" } : Jvm.MethodName) prog_8_method_4_code (9 : Nat) (Option.some Jvm.ClassFile.FieldType.int)).before args0 about1 = true := code_word (m := ⟨2, 2⟩) (meth := k2m2) (c := k2c2) (by decide +kernel) rfl rfl rfl (by decide +kernel)
set_option maxRecDepth 65536 in
theorem w_c3 : (Jvm.Cond.code ({ cls := "com/example/overscore/overscore/index/VarIntGetPinLaw", name := "len", desc := "(I)I" } : Jvm.MethodName) method_2_code (1 : Nat) (Option.some Jvm.ClassFile.FieldType.int)).before args0 about1 = true := code_word (m := ⟨1, 1⟩) (meth := k1m1) (c := k1c1) (by decide +kernel) rfl rfl rfl (by decide +kernel)
def codes1 : List Jvm.Cond := [Jvm.Cond.code x code maxLocals ret, Jvm.Cond.code ({ cls := "com/example/overscore/overscore/index/VarInt", name := "put", desc := "([BII)I" } : Jvm.MethodName) prog_8_method_3_code (5 : Nat) (Option.some Jvm.ClassFile.FieldType.int), Jvm.Cond.code ({ cls := "com/example/overscore/overscore/index/VarInt", name := "get", desc := "([BI[II)I" } : Jvm.MethodName) prog_8_method_4_code (9 : Nat) (Option.some Jvm.ClassFile.FieldType.int), Jvm.Cond.code ({ cls := "com/example/overscore/overscore/index/VarIntGetPinLaw", name := "len", desc := "(I)I" } : Jvm.MethodName) method_2_code (1 : Nat) (Option.some Jvm.ClassFile.FieldType.int)]
set_option maxRecDepth 65536 in
theorem codes_eq : words1.filter isCode = codes1 := rfl
theorem w_codes : ∀ c ∈ words1.filter isCode, c.before args0 about1 = true := by
  rw [codes_eq]
  intro c hc
  simp only [codes1, List.mem_cons, List.not_mem_nil, or_false] at hc
  rcases hc with rfl | rfl | rfl | rfl
  · exact w_c0
  · exact w_c1
  · exact w_c2
  · exact w_c3
set_option maxRecDepth 65536 in
theorem w_t1 : words1.all (fun c => isCode c || c.before args0 about1) = true := by decide +kernel
theorem w_tables : (allAtoms (Jvm.Cond.code x code maxLocals ret :: tables_1)).before args0 about1 = true := by
  rw [allAtoms_all]
  show words1.all (fun c => c.before args0 about1) = true
  refine all_split ?_ w_codes
  rw [w_t1]
set_option maxRecDepth 65536 in
theorem w_case : (Jvm.Cond.and given_1 narrow_1).before args0 about1 = true := by decide +kernel
theorem w_applies : (headSpec (Jvm.Cond.code x code maxLocals ret :: tables_1) room_1).applies x e0.platform about1 = true :=
  (Spec.applies_iff w_frames).mpr ⟨w_running, w_runnable, w_alone, w_named, w_hears, w_ripe, w_room, w_tables⟩
theorem atStart : AtStart classFile x code maxLocals ret World_1 tables_1 room_1 Calls_1 rest_1 Pre_1 launch0 p0 e0 about1 theMethod args0 below0 :=
  ⟨lists_1, trivial, launch0.admits_env _ _ _, launch0.least_env, fairChoices_fair.cas, fairChoices_fair.clock, w_frames, w_args, w_heap, w_applies, trivial, trivial, w_case⟩
end start1
theorem witness_1 : WitnessClaimed_1 := ⟨start1.p0, start1.e0, start1.about1, start1.theMethod, start1.args0, start1.below0, start1.atStart⟩
end Jvm.Pilot.@@N@@
