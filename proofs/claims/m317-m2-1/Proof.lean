import JvmDerived
import JvmDerived.Pilot.@@N@@Statement
import JvmDerived.Pilot.@@N@@Code
set_option linter.unusedVariables false
set_option linter.unusedSimpArgs false
namespace Jvm.Pilot.@@N@@
open Jvm Jvm.ClassFile Sem Op Lib Jvm.Free Jvm.Stand Jvm.LawKit Jvm.RoadKit Bundle Jvm.Pilot.@@N@@.Jvm.D
section Own
variable {p : Program} {l : Launch} {e : Env} {R : Room} {s : State} {m : MethodId} {args : Array Value} {below : List Frame} {meth : Method} {c : Code} {T T' : State} {locs : List Loc} {cells slots : Nat} {Z : State} {a0 : Array Value} {h h' : Heap} {Q : Option Value → Heap → List Loc → Prop} {Cc Sc : Nat} {pc pc' pt k : Nat} {Ls Ls' : Array Slot} {St St' : List Value} {bs : ByteArray} {ml : Nat} {own nm : String} {rt : Option FieldType}
/-- what stands of a body while it is walked -/
def Cx (Z : State) (a0 : Array Value) (p : Program) (s : State) (m : MethodId) (meth : Method) (c : Code) (bs : ByteArray) (ml : Nat) (own nm : String) (rt : Option FieldType) : Prop :=
  p.tables.exec = Jvm.exec ∧ Z.Warmed39 s.vm ∧ c.code = bs ∧ c.maxLocals = ml ∧ s.vm.findClass own = some m.cls ∧ meth.name = nm ∧ meth.sig.returnType = rt ∧ meth.locks = false ∧ (∀ d ∈ tables_1, d.before a0 Z = true)
theorem Cx.x (C : Cx Z a0 p s m meth c bs ml own nm rt) : p.tables.exec = Jvm.exec := C.1
theorem Cx.z (C : Cx Z a0 p s m meth c bs ml own nm rt) : Z.Warmed39 s.vm := C.2.1
theorem Cx.b (C : Cx Z a0 p s m meth c bs ml own nm rt) : c.code = bs := C.2.2.1
theorem Cx.mx (C : Cx Z a0 p s m meth c bs ml own nm rt) : c.maxLocals = ml := C.2.2.2.1
theorem Cx.o (C : Cx Z a0 p s m meth c bs ml own nm rt) : s.vm.findClass own = some m.cls := C.2.2.2.2.1
theorem Cx.n (C : Cx Z a0 p s m meth c bs ml own nm rt) : meth.name = nm := C.2.2.2.2.2.1
theorem Cx.r (C : Cx Z a0 p s m meth c bs ml own nm rt) : meth.sig.returnType = rt := C.2.2.2.2.2.2.1
theorem Cx.lk (C : Cx Z a0 p s m meth c bs ml own nm rt) : meth.locks = false := C.2.2.2.2.2.2.2.1
theorem Cx.w (C : Cx Z a0 p s m meth c bs ml own nm rt) : ∀ d ∈ tables_1, d.before a0 Z = true := C.2.2.2.2.2.2.2.2
/-- the i-th word of the sheet's tables -/
theorem Cx.t (C : Cx Z a0 p s m meth c bs ml own nm rt) (i : Nat) {d : Jvm.Cond} (hi : tables_1[i]? = some d) : d.before a0 Z = true := C.w d (List.mem_of_getElem? hi)
/-- from here the run comes to its return, and of that return Q holds -/
def Go (p : Program) (e : Env) (below : List Frame) (s : State) (m : MethodId) (Q : Option Value → Heap → List Loc → Prop) (Cc Sc : Nat) (T : State) (pc : Nat) (Ls : Array Slot) (St : List Value) : Prop :=
  ∃ s₂ o, Steps p.tables e below (T.setTop (mkF m pc Ls St)) s₂ ∧ s₂.status = .running ∧ Ended s₂ below o ∧ ∃ v L, o = .returned v ∧ Q v s₂.heap L ∧ FrameEnd s o s₂ L Cc Sc
theorem Go.via (h : ∀ t, Steps p.tables e below (T'.setTop (mkF m pc' Ls' St')) t → Steps p.tables e below (T.setTop (mkF m pc Ls St)) t) (k : Go p e below s m Q Cc Sc T' pc' Ls' St') : Go p e below s m Q Cc Sc T pc Ls St := by
  obtain ⟨s₂, o, h1, h2⟩ := k
  exact ⟨s₂, o, h _ h1, h2⟩
theorem Go.cast (hL : Ls = Ls') (hS : St = St') (k : Go p e below s m Q Cc Sc T pc Ls' St') : Go p e below s m Q Cc Sc T pc Ls St := by
  subst hL hS; exact k
theorem g_enter {x : MethodName} {ws : List Jvm.Cond} {rm : Room} {as' : Array Value} {h0 : Heap} (hpl : plainFor x = true) (hw : ∀ d ∈ tables_1, d.before a0 Z = true) (hef : ∀ m, entryFrame m as' ml = mkF m 0 Ls [])
    (body : ∀ (p : Program) (e : Env) (s : State) (m : MethodId) (below : List Frame) (meth : Method) (c : Code) (T : State), Cx Z a0 p s m meth c bs ml x.cls x.name rt → Stand p l e rm s m as' below meth c T [] 0 0 → T.heap = h0 → Go p e below s m Q rm.cells rm.slots T 0 Ls []) :
    MetFree l x (head1 (Jvm.Cond.code x bs ml rt :: ws) rm) (fun a U => a = as' ∧ Z.Warmed39 U.vm ∧ U.heap = h0) (fun _ _ _ _ _ => True) (fun _ U o U' => ∃ v L, o = .returned v ∧ Q v U'.heap L ∧ FrameEnd U o U' L rm.cells rm.slots) := by
  refine MetFree.of_bodySF hpl hisR ?_
  intro p e s m args below meth c s₁ Bd hml0 hP hK
  obtain ⟨rfl, hZ, hh⟩ := hP
  have e0 : s₁.heap = h0 := by rw [← hh, Bd.state]; rfl
  have C : Cx Z a0 p s m meth c bs ml x.cls x.name rt := ⟨Bd.exec, hZ, Bd.bytes, hml0, findClass_of_methodNamed Bd.named, (name_of_methodNamed Bd.named Bd.method).1, Bd.returns, Bd.notSynchronized, hw⟩
  obtain ⟨s₂, o, k1, k2⟩ := body p e s m below meth c s₁ C (Stand.of_body Bd) e0
  exact ⟨s₂, o, castTop (hef m) k1, k2⟩

theorem g_iload (C : Cx Z a0 p s m meth c bs ml own nm rt) (X : Stand p l e R s m args below meth c T locs cells slots) {v : Int32} (hd : decode bs pc = .ok (.iload k, 2)) (hl : Ls[k]? = some (.val (.int v))) (hp : pc + 2 = pc') (kk : Go p e below s m Q Cc Sc T pc' Ls (.int v :: St)) : Go p e below s m Q Cc Sc T pc Ls St := by
  subst hp
  exact Go.via (fun t q => XS.iload X.here C.x rfl (hb C.b hd) hl q) kk
theorem g_iloadN (C : Cx Z a0 p s m meth c bs ml own nm rt) (X : Stand p l e R s m args below meth c T locs cells slots) {k : Fin 4} {v : Int32} (hd : decode bs pc = .ok (.iload_n k, 1)) (hl : Ls[k.val]? = some (.val (.int v))) (hp : pc + 1 = pc') (kk : Go p e below s m Q Cc Sc T pc' Ls (.int v :: St)) : Go p e below s m Q Cc Sc T pc Ls St := by
  subst hp
  exact Go.via (fun t q => XS.iloadN X.here C.x rfl (hb C.b hd) hl q) kk
theorem g_lload (C : Cx Z a0 p s m meth c bs ml own nm rt) (X : Stand p l e R s m args below meth c T locs cells slots) {v : Int64} (hd : decode bs pc = .ok (.lload k, 2)) (hl : Ls[k]? = some (.val (.long v))) (hp : pc + 2 = pc') (kk : Go p e below s m Q Cc Sc T pc' Ls (.long v :: St)) : Go p e below s m Q Cc Sc T pc Ls St := by
  subst hp
  exact Go.via (fun t q => XS.lload X.here C.x rfl (hb C.b hd) hl q) kk
theorem g_lloadN (C : Cx Z a0 p s m meth c bs ml own nm rt) (X : Stand p l e R s m args below meth c T locs cells slots) {k : Fin 4} {v : Int64} (hd : decode bs pc = .ok (.lload_n k, 1)) (hl : Ls[k.val]? = some (.val (.long v))) (hp : pc + 1 = pc') (kk : Go p e below s m Q Cc Sc T pc' Ls (.long v :: St)) : Go p e below s m Q Cc Sc T pc Ls St := by
  subst hp
  exact Go.via (fun t q => XS.lloadN X.here C.x rfl (hb C.b hd) hl q) kk
theorem g_aload (C : Cx Z a0 p s m meth c bs ml own nm rt) (X : Stand p l e R s m args below meth c T locs cells slots) {v : Addr} (hd : decode bs pc = .ok (.aload k, 2)) (hl : Ls[k]? = some (.val (.ref v))) (hp : pc + 2 = pc') (kk : Go p e below s m Q Cc Sc T pc' Ls (.ref v :: St)) : Go p e below s m Q Cc Sc T pc Ls St := by
  subst hp
  exact Go.via (fun t q => XS.aload X.here C.x rfl (hb C.b hd) hl rfl q) kk
theorem g_aloadN (C : Cx Z a0 p s m meth c bs ml own nm rt) (X : Stand p l e R s m args below meth c T locs cells slots) {k : Fin 4} {v : Addr} (hd : decode bs pc = .ok (.aload_n k, 1)) (hl : Ls[k.val]? = some (.val (.ref v))) (hp : pc + 1 = pc') (kk : Go p e below s m Q Cc Sc T pc' Ls (.ref v :: St)) : Go p e below s m Q Cc Sc T pc Ls St := by
  subst hp
  exact Go.via (fun t q => XS.aloadN X.here C.x rfl (hb C.b hd) hl rfl q) kk
theorem g_istore (C : Cx Z a0 p s m meth c bs ml own nm rt) (X : Stand p l e R s m args below meth c T locs cells slots) {x : Int32} (hd : decode bs pc = .ok (.istore k, 2)) (Ls' : Array Slot) (hl : storeLocals Ls k (.int x) = some Ls') (hp : pc + 2 = pc') (kk : Go p e below s m Q Cc Sc T pc' Ls' St) : Go p e below s m Q Cc Sc T pc Ls (.int x :: St) := by
  subst hp
  exact Go.via (fun t q => XS.istore X.here C.x rfl (hb C.b hd) rfl hl q) kk
theorem g_istoreN (C : Cx Z a0 p s m meth c bs ml own nm rt) (X : Stand p l e R s m args below meth c T locs cells slots) {k : Fin 4} {x : Int32} (hd : decode bs pc = .ok (.istore_n k, 1)) (Ls' : Array Slot) (hl : storeLocals Ls k.val (.int x) = some Ls') (hp : pc + 1 = pc') (kk : Go p e below s m Q Cc Sc T pc' Ls' St) : Go p e below s m Q Cc Sc T pc Ls (.int x :: St) := by
  subst hp
  exact Go.via (fun t q => XS.istoreN X.here C.x rfl (hb C.b hd) rfl hl q) kk
theorem g_istoreV (C : Cx Z a0 p s m meth c bs ml own nm rt) (X : Stand p l e R s m args below meth c T locs cells slots) {x : Int32} (hd : decode bs pc = .ok (.istore k, 2)) (F : Int32 → Array Slot) (hl : storeLocals Ls k (.int x) = some (F x)) (hp : pc + 2 = pc') (kk : ∀ v, v = x → Go p e below s m Q Cc Sc T pc' (F v) St) : Go p e below s m Q Cc Sc T pc Ls (.int x :: St) := g_istore C X hd (F x) hl hp (kk x rfl)
theorem g_istoreNV (C : Cx Z a0 p s m meth c bs ml own nm rt) (X : Stand p l e R s m args below meth c T locs cells slots) {k : Fin 4} {x : Int32} (hd : decode bs pc = .ok (.istore_n k, 1)) (F : Int32 → Array Slot) (hl : storeLocals Ls k.val (.int x) = some (F x)) (hp : pc + 1 = pc') (kk : ∀ v, v = x → Go p e below s m Q Cc Sc T pc' (F v) St) : Go p e below s m Q Cc Sc T pc Ls (.int x :: St) := g_istoreN C X hd (F x) hl hp (kk x rfl)
theorem g_lstore (C : Cx Z a0 p s m meth c bs ml own nm rt) (X : Stand p l e R s m args below meth c T locs cells slots) {x : Int64} (hd : decode bs pc = .ok (.lstore k, 2)) (Ls' : Array Slot) (hl : storeLocals Ls k (.long x) = some Ls') (hp : pc + 2 = pc') (kk : Go p e below s m Q Cc Sc T pc' Ls' St) : Go p e below s m Q Cc Sc T pc Ls (.long x :: St) := by
  subst hp
  exact Go.via (fun t q => XS.lstore X.here C.x rfl (hb C.b hd) rfl hl q) kk
theorem g_lstoreN (C : Cx Z a0 p s m meth c bs ml own nm rt) (X : Stand p l e R s m args below meth c T locs cells slots) {k : Fin 4} {x : Int64} (hd : decode bs pc = .ok (.lstore_n k, 1)) (Ls' : Array Slot) (hl : storeLocals Ls k.val (.long x) = some Ls') (hp : pc + 1 = pc') (kk : Go p e below s m Q Cc Sc T pc' Ls' St) : Go p e below s m Q Cc Sc T pc Ls (.long x :: St) := by
  subst hp
  exact Go.via (fun t q => XS.lstoreN X.here C.x rfl (hb C.b hd) rfl hl q) kk
theorem g_lstoreV (C : Cx Z a0 p s m meth c bs ml own nm rt) (X : Stand p l e R s m args below meth c T locs cells slots) {x : Int64} (hd : decode bs pc = .ok (.lstore k, 2)) (F : Int64 → Array Slot) (hl : storeLocals Ls k (.long x) = some (F x)) (hp : pc + 2 = pc') (kk : ∀ v, v = x → Go p e below s m Q Cc Sc T pc' (F v) St) : Go p e below s m Q Cc Sc T pc Ls (.long x :: St) := g_lstore C X hd (F x) hl hp (kk x rfl)
theorem g_lstoreNV (C : Cx Z a0 p s m meth c bs ml own nm rt) (X : Stand p l e R s m args below meth c T locs cells slots) {k : Fin 4} {x : Int64} (hd : decode bs pc = .ok (.lstore_n k, 1)) (F : Int64 → Array Slot) (hl : storeLocals Ls k.val (.long x) = some (F x)) (hp : pc + 1 = pc') (kk : ∀ v, v = x → Go p e below s m Q Cc Sc T pc' (F v) St) : Go p e below s m Q Cc Sc T pc Ls (.long x :: St) := g_lstoreN C X hd (F x) hl hp (kk x rfl)
theorem g_astore (C : Cx Z a0 p s m meth c bs ml own nm rt) (X : Stand p l e R s m args below meth c T locs cells slots) {x : Addr} (hd : decode bs pc = .ok (.astore k, 2)) (Ls' : Array Slot) (hl : storeLocals Ls k (.ref x) = some Ls') (hp : pc + 2 = pc') (kk : Go p e below s m Q Cc Sc T pc' Ls' St) : Go p e below s m Q Cc Sc T pc Ls (.ref x :: St) := by
  subst hp
  exact Go.via (fun t q => XS.astore X.here C.x rfl (hb C.b hd) rfl rfl hl q) kk
theorem g_astoreN (C : Cx Z a0 p s m meth c bs ml own nm rt) (X : Stand p l e R s m args below meth c T locs cells slots) {k : Fin 4} {x : Addr} (hd : decode bs pc = .ok (.astore_n k, 1)) (Ls' : Array Slot) (hl : storeLocals Ls k.val (.ref x) = some Ls') (hp : pc + 1 = pc') (kk : Go p e below s m Q Cc Sc T pc' Ls' St) : Go p e below s m Q Cc Sc T pc Ls (.ref x :: St) := by
  subst hp
  exact Go.via (fun t q => XS.astoreN X.here C.x rfl (hb C.b hd) rfl rfl hl q) kk
theorem g_astoreV (C : Cx Z a0 p s m meth c bs ml own nm rt) (X : Stand p l e R s m args below meth c T locs cells slots) {x : Addr} (hd : decode bs pc = .ok (.astore k, 2)) (F : Addr → Array Slot) (hl : storeLocals Ls k (.ref x) = some (F x)) (hp : pc + 2 = pc') (kk : ∀ v, v = x → Go p e below s m Q Cc Sc T pc' (F v) St) : Go p e below s m Q Cc Sc T pc Ls (.ref x :: St) := g_astore C X hd (F x) hl hp (kk x rfl)
theorem g_astoreNV (C : Cx Z a0 p s m meth c bs ml own nm rt) (X : Stand p l e R s m args below meth c T locs cells slots) {k : Fin 4} {x : Addr} (hd : decode bs pc = .ok (.astore_n k, 1)) (F : Addr → Array Slot) (hl : storeLocals Ls k.val (.ref x) = some (F x)) (hp : pc + 1 = pc') (kk : ∀ v, v = x → Go p e below s m Q Cc Sc T pc' (F v) St) : Go p e below s m Q Cc Sc T pc Ls (.ref x :: St) := g_astoreN C X hd (F x) hl hp (kk x rfl)
theorem g_iinc (C : Cx Z a0 p s m meth c bs ml own nm rt) (X : Stand p l e R s m args below meth c T locs cells slots) {cst : Int} {x : Int32} (hd : decode bs pc = .ok (.iinc k cst, 3)) (hl : Ls[k]? = some (.val (.int x))) (Ls' : Array Slot) (hl' : storeLocals Ls k (.int (x + Int32.ofInt cst)) = some Ls') (hp : pc + 3 = pc') (kk : Go p e below s m Q Cc Sc T pc' Ls' St) : Go p e below s m Q Cc Sc T pc Ls St := by
  subst hp
  exact Go.via (fun t q => XS.iinc X.here C.x rfl (hb C.b hd) hl hl' q) kk
theorem g_iincV (C : Cx Z a0 p s m meth c bs ml own nm rt) (X : Stand p l e R s m args below meth c T locs cells slots) {cst : Int} {x y : Int32} (hd : decode bs pc = .ok (.iinc k cst, 3)) (hl : Ls[k]? = some (.val (.int x))) (hy : Int32.ofInt cst = y) (F : Int32 → Array Slot) (hl' : storeLocals Ls k (.int (x + y)) = some (F (x + y))) (hp : pc + 3 = pc') (kk : ∀ v, v = x + y → Go p e below s m Q Cc Sc T pc' (F v) St) : Go p e below s m Q Cc Sc T pc Ls St := g_iinc C X hd hl (F (x + y)) (by rw [hy]; exact hl') hp (kk _ rfl)
theorem g_iconst (C : Cx Z a0 p s m meth c bs ml own nm rt) (X : Stand p l e R s m args below meth c T locs cells slots) {i : Int} (v : Int32) (hd : decode bs pc = .ok (.iconst i, 1)) (hv : Int32.ofInt i = v) (hp : pc + 1 = pc') (kk : Go p e below s m Q Cc Sc T pc' Ls (.int v :: St)) : Go p e below s m Q Cc Sc T pc Ls St := by
  subst hp hv
  exact Go.via (fun t q => XS.iconst X.here C.x rfl (hb C.b hd) q) kk
theorem g_bipush (C : Cx Z a0 p s m meth c bs ml own nm rt) (X : Stand p l e R s m args below meth c T locs cells slots) {i : Int} (v : Int32) (hd : decode bs pc = .ok (.bipush i, 2)) (hv : (Int8.ofInt i).toInt32 = v) (hp : pc + 2 = pc') (kk : Go p e below s m Q Cc Sc T pc' Ls (.int v :: St)) : Go p e below s m Q Cc Sc T pc Ls St := by
  subst hp hv
  exact Go.via (fun t q => XS.bipush X.here C.x rfl (hb C.b hd) q) kk
theorem g_sipush (C : Cx Z a0 p s m meth c bs ml own nm rt) (X : Stand p l e R s m args below meth c T locs cells slots) {i : Int} (v : Int32) (hd : decode bs pc = .ok (.sipush i, 3)) (hv : (Int16.ofInt i).toInt32 = v) (hp : pc + 3 = pc') (kk : Go p e below s m Q Cc Sc T pc' Ls (.int v :: St)) : Go p e below s m Q Cc Sc T pc Ls St := by
  subst hp hv
  exact Go.via (fun t q => XS.sipush X.here C.x rfl (hb C.b hd) q) kk
theorem g_lconst (C : Cx Z a0 p s m meth c bs ml own nm rt) (X : Stand p l e R s m args below meth c T locs cells slots) {i : Fin 2} (v : Int64) (hd : decode bs pc = .ok (.lconst i, 1)) (hv : Int64.ofNat i = v) (hp : pc + 1 = pc') (kk : Go p e below s m Q Cc Sc T pc' Ls (.long v :: St)) : Go p e below s m Q Cc Sc T pc Ls St := by
  subst hp hv
  exact Go.via (fun t q => XS.lconst X.here C.x rfl (hb C.b hd) q) kk
theorem g_ldc (C : Cx Z a0 p s m meth c bs ml own nm rt) (X : Stand p l e R s m args below meth c T locs cells slots) {i : Nat} {v : Int32} (hd : decode bs pc = .ok (.ldc i, 2)) (hv : (Jvm.Cond.constant own i v).before a0 Z = true) (hp : pc + 2 = pc') (kk : Go p e below s m Q Cc Sc T pc' Ls (.int v :: St)) : Go p e below s m Q Cc Sc T pc Ls St := by
  subst hp
  exact Go.via (fun t q => X.ldcInt C.x C.o (mvT C.z hv) (g := mkF m pc Ls St) rfl (hb C.b hd) t q) kk
theorem g_ldcL (C : Cx Z a0 p s m meth c bs ml own nm rt) (X : Stand p l e R s m args below meth c T locs cells slots) {i : Nat} {v : Int64} (hd : decode bs pc = .ok (.ldc2_w i, 3)) (hv : (Jvm.Cond.constantLong own i v).before a0 Z = true) (hp : pc + 3 = pc') (kk : Go p e below s m Q Cc Sc T pc' Ls (.long v :: St)) : Go p e below s m Q Cc Sc T pc Ls St := by
  subst hp
  exact Go.via (fun t q => X.ldc2Long C.x C.o (mvT C.z hv) (g := mkF m pc Ls St) rfl (hb C.b hd) t q) kk
theorem g_iadd (C : Cx Z a0 p s m meth c bs ml own nm rt) (X : Stand p l e R s m args below meth c T locs cells slots) {x y : Int32} (hd : decode bs pc = .ok (.iadd, 1))  (hp : pc + 1 = pc') (kk : Go p e below s m Q Cc Sc T pc' Ls (.int (x + y) :: St)) : Go p e below s m Q Cc Sc T pc Ls (.int y :: .int x :: St) := by
  subst hp
  exact Go.via (fun t q => XS.iadd X.here C.x rfl (hb C.b hd) rfl q) kk
theorem g_isub (C : Cx Z a0 p s m meth c bs ml own nm rt) (X : Stand p l e R s m args below meth c T locs cells slots) {x y : Int32} (hd : decode bs pc = .ok (.isub, 1))  (hp : pc + 1 = pc') (kk : Go p e below s m Q Cc Sc T pc' Ls (.int (x - y) :: St)) : Go p e below s m Q Cc Sc T pc Ls (.int y :: .int x :: St) := by
  subst hp
  exact Go.via (fun t q => XS.isub X.here C.x rfl (hb C.b hd) rfl q) kk
theorem g_imul (C : Cx Z a0 p s m meth c bs ml own nm rt) (X : Stand p l e R s m args below meth c T locs cells slots) {x y : Int32} (hd : decode bs pc = .ok (.imul, 1))  (hp : pc + 1 = pc') (kk : Go p e below s m Q Cc Sc T pc' Ls (.int (x * y) :: St)) : Go p e below s m Q Cc Sc T pc Ls (.int y :: .int x :: St) := by
  subst hp
  exact Go.via (fun t q => XS.imul X.here C.x rfl (hb C.b hd) rfl q) kk
theorem g_iand (C : Cx Z a0 p s m meth c bs ml own nm rt) (X : Stand p l e R s m args below meth c T locs cells slots) {x y : Int32} (hd : decode bs pc = .ok (.iand, 1))  (hp : pc + 1 = pc') (kk : Go p e below s m Q Cc Sc T pc' Ls (.int (x &&& y) :: St)) : Go p e below s m Q Cc Sc T pc Ls (.int y :: .int x :: St) := by
  subst hp
  exact Go.via (fun t q => XS.iand X.here C.x rfl (hb C.b hd) rfl q) kk
theorem g_ior (C : Cx Z a0 p s m meth c bs ml own nm rt) (X : Stand p l e R s m args below meth c T locs cells slots) {x y : Int32} (hd : decode bs pc = .ok (.ior, 1))  (hp : pc + 1 = pc') (kk : Go p e below s m Q Cc Sc T pc' Ls (.int (x ||| y) :: St)) : Go p e below s m Q Cc Sc T pc Ls (.int y :: .int x :: St) := by
  subst hp
  exact Go.via (fun t q => XS.ior X.here C.x rfl (hb C.b hd) rfl q) kk
theorem g_ixor (C : Cx Z a0 p s m meth c bs ml own nm rt) (X : Stand p l e R s m args below meth c T locs cells slots) {x y : Int32} (hd : decode bs pc = .ok (.ixor, 1))  (hp : pc + 1 = pc') (kk : Go p e below s m Q Cc Sc T pc' Ls (.int (x ^^^ y) :: St)) : Go p e below s m Q Cc Sc T pc Ls (.int y :: .int x :: St) := by
  subst hp
  exact Go.via (fun t q => XS.ixor X.here C.x rfl (hb C.b hd) rfl q) kk
theorem g_idiv (C : Cx Z a0 p s m meth c bs ml own nm rt) (X : Stand p l e R s m args below meth c T locs cells slots) {x y : Int32} (hd : decode bs pc = .ok (.idiv, 1)) (hy : y ≠ 0) (hp : pc + 1 = pc') (kk : Go p e below s m Q Cc Sc T pc' Ls (.int (x / y) :: St)) : Go p e below s m Q Cc Sc T pc Ls (.int y :: .int x :: St) := by
  subst hp
  exact Go.via (fun t q => XS.idiv X.here C.x rfl (hb C.b hd) rfl hy q) kk
theorem g_ladd (C : Cx Z a0 p s m meth c bs ml own nm rt) (X : Stand p l e R s m args below meth c T locs cells slots) {x y : Int64} (hd : decode bs pc = .ok (.ladd, 1))  (hp : pc + 1 = pc') (kk : Go p e below s m Q Cc Sc T pc' Ls (.long (x + y) :: St)) : Go p e below s m Q Cc Sc T pc Ls (.long y :: .long x :: St) := by
  subst hp
  exact Go.via (fun t q => XS.ladd X.here C.x rfl (hb C.b hd) rfl q) kk
theorem g_lsub (C : Cx Z a0 p s m meth c bs ml own nm rt) (X : Stand p l e R s m args below meth c T locs cells slots) {x y : Int64} (hd : decode bs pc = .ok (.lsub, 1))  (hp : pc + 1 = pc') (kk : Go p e below s m Q Cc Sc T pc' Ls (.long (x - y) :: St)) : Go p e below s m Q Cc Sc T pc Ls (.long y :: .long x :: St) := by
  subst hp
  exact Go.via (fun t q => XS.lsub X.here C.x rfl (hb C.b hd) rfl q) kk
theorem g_lmul (C : Cx Z a0 p s m meth c bs ml own nm rt) (X : Stand p l e R s m args below meth c T locs cells slots) {x y : Int64} (hd : decode bs pc = .ok (.lmul, 1))  (hp : pc + 1 = pc') (kk : Go p e below s m Q Cc Sc T pc' Ls (.long (x * y) :: St)) : Go p e below s m Q Cc Sc T pc Ls (.long y :: .long x :: St) := by
  subst hp
  exact Go.via (fun t q => XS.lmul X.here C.x rfl (hb C.b hd) rfl q) kk
theorem g_land (C : Cx Z a0 p s m meth c bs ml own nm rt) (X : Stand p l e R s m args below meth c T locs cells slots) {x y : Int64} (hd : decode bs pc = .ok (.land, 1))  (hp : pc + 1 = pc') (kk : Go p e below s m Q Cc Sc T pc' Ls (.long (x &&& y) :: St)) : Go p e below s m Q Cc Sc T pc Ls (.long y :: .long x :: St) := by
  subst hp
  exact Go.via (fun t q => XS.land X.here C.x rfl (hb C.b hd) rfl q) kk
theorem g_lor (C : Cx Z a0 p s m meth c bs ml own nm rt) (X : Stand p l e R s m args below meth c T locs cells slots) {x y : Int64} (hd : decode bs pc = .ok (.lor, 1))  (hp : pc + 1 = pc') (kk : Go p e below s m Q Cc Sc T pc' Ls (.long (x ||| y) :: St)) : Go p e below s m Q Cc Sc T pc Ls (.long y :: .long x :: St) := by
  subst hp
  exact Go.via (fun t q => XS.lor X.here C.x rfl (hb C.b hd) rfl q) kk
theorem g_lxor (C : Cx Z a0 p s m meth c bs ml own nm rt) (X : Stand p l e R s m args below meth c T locs cells slots) {x y : Int64} (hd : decode bs pc = .ok (.lxor, 1))  (hp : pc + 1 = pc') (kk : Go p e below s m Q Cc Sc T pc' Ls (.long (x ^^^ y) :: St)) : Go p e below s m Q Cc Sc T pc Ls (.long y :: .long x :: St) := by
  subst hp
  exact Go.via (fun t q => XS.lxor X.here C.x rfl (hb C.b hd) rfl q) kk
theorem g_ldiv (C : Cx Z a0 p s m meth c bs ml own nm rt) (X : Stand p l e R s m args below meth c T locs cells slots) {x y : Int64} (hd : decode bs pc = .ok (.ldiv, 1)) (hy : y ≠ 0) (hp : pc + 1 = pc') (kk : Go p e below s m Q Cc Sc T pc' Ls (.long (x / y) :: St)) : Go p e below s m Q Cc Sc T pc Ls (.long y :: .long x :: St) := by
  subst hp
  exact Go.via (fun t q => XS.ldiv X.here C.x rfl (hb C.b hd) rfl hy q) kk
theorem g_irem (C : Cx Z a0 p s m meth c bs ml own nm rt) (X : Stand p l e R s m args below meth c T locs cells slots) {x y : Int32} (hd : decode bs pc = .ok (.irem, 1)) (hy : y ≠ 0) (hp : pc + 1 = pc') (kk : Go p e below s m Q Cc Sc T pc' Ls (.int (x % y) :: St)) : Go p e below s m Q Cc Sc T pc Ls (.int y :: .int x :: St) := by
  subst hp
  exact Go.via (fun t q => iremM (g := mkF m pc Ls (.int y :: .int x :: St)) X C.x rfl (hb C.b hd) rfl hy q) kk
theorem g_lrem (C : Cx Z a0 p s m meth c bs ml own nm rt) (X : Stand p l e R s m args below meth c T locs cells slots) {x y : Int64} (hd : decode bs pc = .ok (.lrem, 1)) (hy : y ≠ 0) (hp : pc + 1 = pc') (kk : Go p e below s m Q Cc Sc T pc' Ls (.long (x % y) :: St)) : Go p e below s m Q Cc Sc T pc Ls (.long y :: .long x :: St) := by
  subst hp
  rw [← lrem_mod] at kk
  exact Go.via (fun t q => XS.lrem X.here C.x rfl (hb C.b hd) rfl hy q) kk
theorem g_ishl (C : Cx Z a0 p s m meth c bs ml own nm rt) (X : Stand p l e R s m args below meth c T locs cells slots) {x y : Int32} (hd : decode bs pc = .ok (.ishl, 1))  (hp : pc + 1 = pc') (kk : Go p e below s m Q Cc Sc T pc' Ls (.int (x <<< (y &&& 31)) :: St)) : Go p e below s m Q Cc Sc T pc Ls (.int y :: .int x :: St) := by
  subst hp
  exact Go.via (fun t q => XS.ishl X.here C.x rfl (hb C.b hd) rfl q) kk
theorem g_ishr (C : Cx Z a0 p s m meth c bs ml own nm rt) (X : Stand p l e R s m args below meth c T locs cells slots) {x y : Int32} (hd : decode bs pc = .ok (.ishr, 1))  (hp : pc + 1 = pc') (kk : Go p e below s m Q Cc Sc T pc' Ls (.int (x >>> (y &&& 31)) :: St)) : Go p e below s m Q Cc Sc T pc Ls (.int y :: .int x :: St) := by
  subst hp
  exact Go.via (fun t q => XS.ishr X.here C.x rfl (hb C.b hd) rfl q) kk
theorem g_iushr (C : Cx Z a0 p s m meth c bs ml own nm rt) (X : Stand p l e R s m args below meth c T locs cells slots) {x y : Int32} (hd : decode bs pc = .ok (.iushr, 1))  (hp : pc + 1 = pc') (kk : Go p e below s m Q Cc Sc T pc' Ls (.int ((x.toUInt32 >>> (y &&& 31).toUInt32).toInt32) :: St)) : Go p e below s m Q Cc Sc T pc Ls (.int y :: .int x :: St) := by
  subst hp
  exact Go.via (fun t q => XS.iushr X.here C.x rfl (hb C.b hd) rfl q) kk
theorem g_lshl (C : Cx Z a0 p s m meth c bs ml own nm rt) (X : Stand p l e R s m args below meth c T locs cells slots) {x : Int64} {y : Int32} (hd : decode bs pc = .ok (.lshl, 1))  (hp : pc + 1 = pc') (kk : Go p e below s m Q Cc Sc T pc' Ls (.long (x <<< (y &&& 0x3f).toInt64) :: St)) : Go p e below s m Q Cc Sc T pc Ls (.int y :: .long x :: St) := by
  subst hp
  exact Go.via (fun t q => XS.lshl X.here C.x rfl (hb C.b hd) rfl q) kk
theorem g_lshr (C : Cx Z a0 p s m meth c bs ml own nm rt) (X : Stand p l e R s m args below meth c T locs cells slots) {x : Int64} {y : Int32} (hd : decode bs pc = .ok (.lshr, 1))  (hp : pc + 1 = pc') (kk : Go p e below s m Q Cc Sc T pc' Ls (.long (x >>> (y &&& 0x3f).toInt64) :: St)) : Go p e below s m Q Cc Sc T pc Ls (.int y :: .long x :: St) := by
  subst hp
  exact Go.via (fun t q => XS.lshr X.here C.x rfl (hb C.b hd) rfl q) kk
theorem g_lushr (C : Cx Z a0 p s m meth c bs ml own nm rt) (X : Stand p l e R s m args below meth c T locs cells slots) {x : Int64} {y : Int32} (hd : decode bs pc = .ok (.lushr, 1))  (hp : pc + 1 = pc') (kk : Go p e below s m Q Cc Sc T pc' Ls (.long ((x.toUInt64 >>> (y &&& 0x3f).toInt64.toUInt64).toInt64) :: St)) : Go p e below s m Q Cc Sc T pc Ls (.int y :: .long x :: St) := by
  subst hp
  exact Go.via (fun t q => XS.lushr X.here C.x rfl (hb C.b hd) rfl q) kk
theorem g_i2b (C : Cx Z a0 p s m meth c bs ml own nm rt) (X : Stand p l e R s m args below meth c T locs cells slots) {x : Int32} (hd : decode bs pc = .ok (.i2b, 1))  (hp : pc + 1 = pc') (kk : Go p e below s m Q Cc Sc T pc' Ls (.int (x.toInt8.toInt32) :: St)) : Go p e below s m Q Cc Sc T pc Ls (.int x :: St) := by
  subst hp
  exact Go.via (fun t q => XS.i2b X.here C.x rfl (hb C.b hd) rfl q) kk
theorem g_i2l (C : Cx Z a0 p s m meth c bs ml own nm rt) (X : Stand p l e R s m args below meth c T locs cells slots) {x : Int32} (hd : decode bs pc = .ok (.i2l, 1))  (hp : pc + 1 = pc') (kk : Go p e below s m Q Cc Sc T pc' Ls (.long (x.toInt64) :: St)) : Go p e below s m Q Cc Sc T pc Ls (.int x :: St) := by
  subst hp
  exact Go.via (fun t q => XS.i2l X.here C.x rfl (hb C.b hd) rfl q) kk
theorem g_l2i (C : Cx Z a0 p s m meth c bs ml own nm rt) (X : Stand p l e R s m args below meth c T locs cells slots) {x : Int64} (hd : decode bs pc = .ok (.l2i, 1))  (hp : pc + 1 = pc') (kk : Go p e below s m Q Cc Sc T pc' Ls (.int (x.toInt32) :: St)) : Go p e below s m Q Cc Sc T pc Ls (.long x :: St) := by
  subst hp
  exact Go.via (fun t q => XS.l2i X.here C.x rfl (hb C.b hd) rfl q) kk
theorem g_ineg (C : Cx Z a0 p s m meth c bs ml own nm rt) (X : Stand p l e R s m args below meth c T locs cells slots) {x : Int32} (hd : decode bs pc = .ok (.ineg, 1))  (hp : pc + 1 = pc') (kk : Go p e below s m Q Cc Sc T pc' Ls (.int (-x) :: St)) : Go p e below s m Q Cc Sc T pc Ls (.int x :: St) := by
  subst hp
  exact Go.via (fun t q => XS.ineg X.here C.x rfl (hb C.b hd) rfl q) kk
theorem g_lneg (C : Cx Z a0 p s m meth c bs ml own nm rt) (X : Stand p l e R s m args below meth c T locs cells slots) {x : Int64} (hd : decode bs pc = .ok (.lneg, 1))  (hp : pc + 1 = pc') (kk : Go p e below s m Q Cc Sc T pc' Ls (.long (-x) :: St)) : Go p e below s m Q Cc Sc T pc Ls (.long x :: St) := by
  subst hp
  exact Go.via (fun t q => XS.lneg X.here C.x rfl (hb C.b hd) rfl q) kk
theorem g_dup (C : Cx Z a0 p s m meth c bs ml own nm rt) (X : Stand p l e R s m args below meth c T locs cells slots) {x : Value} (hd : decode bs pc = .ok (.dup, 1)) (hc : x.category = 1) (hp : pc + 1 = pc') (kk : Go p e below s m Q Cc Sc T pc' Ls (x :: x :: St)) : Go p e below s m Q Cc Sc T pc Ls (x :: St) := by
  subst hp
  exact Go.via (fun t q => XS.dup X.here C.x rfl (hb C.b hd) rfl hc q) kk
theorem g_pop (C : Cx Z a0 p s m meth c bs ml own nm rt) (X : Stand p l e R s m args below meth c T locs cells slots) {x : Value} (hd : decode bs pc = .ok (.pop, 1)) (hc : x.category = 1) (hp : pc + 1 = pc') (kk : Go p e below s m Q Cc Sc T pc' Ls St) : Go p e below s m Q Cc Sc T pc Ls (x :: St) := by
  subst hp
  exact Go.via (fun t q => XS.pop X.here C.x rfl (hb C.b hd) rfl hc q) kk
theorem g_goto (C : Cx Z a0 p s m meth c bs ml own nm rt) (X : Stand p l e R s m args below meth c T locs cells slots) {o : Int} (hd : decode bs pc = .ok (.goto o, 3)) (ho : 0 ≤ (pc : Int) + o) (hp : ((pc : Int) + o).toNat = pc') (kk : Go p e below s m Q Cc Sc T pc' Ls St) : Go p e below s m Q Cc Sc T pc Ls St := Go.via (fun t q => XS.goto X.here C.x rfl rfl (hb C.b hd) ho hp q) kk
/-- what a comparison says of two ints -/
def Cd (cd : ClassFile.Cond) (x y : Int) : Prop := match cd with | .eq => x = y | .ne => ¬ x = y | .lt => x < y | .ge => y ≤ x | .gt => y < x | .le => x ≤ y
def ng : ClassFile.Cond → ClassFile.Cond | .eq => .ne | .ne => .eq | .lt => .ge | .ge => .lt | .gt => .le | .le => .gt
theorem cd_n {cd : ClassFile.Cond} {x y : Int} (h : ¬ Cd cd x y) : Cd (ng cd) x y := by
  cases cd <;> simp only [Cd, ng] at h ⊢ <;> omega
theorem cd_t {cd : ClassFile.Cond} {x y : Int32} : if_icmp.holds cd x y = true ↔ Cd cd x.toInt y.toInt := by
  cases cd <;> simp [if_icmp.holds, Cd, Int32.lt_iff_toInt_lt, Int32.le_iff_toInt_le, Int32.toInt_inj]
theorem cd_0 {cd : ClassFile.Cond} {x : Int32} : ifCond.holds cd x = true ↔ Cd cd x.toInt 0 := by
  rw [if0, cd_t]; rfl
theorem g_icmp (C : Cx Z a0 p s m meth c bs ml own nm rt) (X : Stand p l e R s m args below meth c T locs cells slots) {cd : ClassFile.Cond} {o : Int} {x y : Int32} (hd : decode bs pc = .ok (.if_icmp cd o, 3)) (ho : 0 ≤ (pc : Int) + o) (hq : ((pc : Int) + o).toNat = pt) (hp : pc + 3 = pc') (kt : Cd cd x.toInt y.toInt → Go p e below s m Q Cc Sc T pt Ls St) (kf : Cd (ng cd) x.toInt y.toInt → Go p e below s m Q Cc Sc T pc' Ls St) : Go p e below s m Q Cc Sc T pc Ls (.int y :: .int x :: St) := by
  subst hp
  by_cases q : Cd cd x.toInt y.toInt
  · exact Go.via (fun t q' => XS.icmpYes X.here C.x rfl rfl (hb C.b hd) rfl (cd_t.mpr q) ho hq q') (kt q)
  · exact Go.via (fun t q' => XS.icmpNo X.here C.x rfl (hb C.b hd) rfl (Bool.eq_false_iff.mpr fun z => q (cd_t.mp z)) q') (kf (cd_n q))
theorem g_if (C : Cx Z a0 p s m meth c bs ml own nm rt) (X : Stand p l e R s m args below meth c T locs cells slots) {cd : ClassFile.Cond} {o : Int} {x : Int32} (hd : decode bs pc = .ok (.ifCond cd o, 3)) (ho : 0 ≤ (pc : Int) + o) (hq : ((pc : Int) + o).toNat = pt) (hp : pc + 3 = pc') (kt : Cd cd x.toInt 0 → Go p e below s m Q Cc Sc T pt Ls St) (kf : Cd (ng cd) x.toInt 0 → Go p e below s m Q Cc Sc T pc' Ls St) : Go p e below s m Q Cc Sc T pc Ls (.int x :: St) := by
  subst hp
  by_cases q : Cd cd x.toInt 0
  · exact Go.via (fun t q' => XS.ifYes X.here C.x rfl rfl (hb C.b hd) rfl (cd_0.mpr q) ho hq q') (kt q)
  · exact Go.via (fun t q' => XS.ifNo X.here C.x rfl (hb C.b hd) rfl (Bool.eq_false_iff.mpr fun z => q (cd_0.mp z)) q') (kf (cd_n q))
theorem cd_l {cd : ClassFile.Cond} {x y : Int64} : Cd cd (lcmpW x y).toInt 0 ↔ Cd cd x.toInt y.toInt := by
  obtain ⟨h1, h2, h3⟩ := c_lcmp x y
  generalize (lcmpW x y).toInt = w at *
  generalize x.toInt = u at *
  generalize y.toInt = v at *
  cases cd <;> simp only [Cd] <;> omega
theorem g_lcmpif (C : Cx Z a0 p s m meth c bs ml own nm rt) (X : Stand p l e R s m args below meth c T locs cells slots) {cd : ClassFile.Cond} {o : Int} {x y : Int64} {pm : Nat} (hd0 : decode bs pc = .ok (.lcmp, 1)) (hm : pc + 1 = pm) (hd : decode bs pm = .ok (.ifCond cd o, 3)) (ho : 0 ≤ (pm : Int) + o) (hq : ((pm : Int) + o).toNat = pt) (hp : pm + 3 = pc') (kt : Cd cd x.toInt y.toInt → Go p e below s m Q Cc Sc T pt Ls St) (kf : Cd (ng cd) x.toInt y.toInt → Go p e below s m Q Cc Sc T pc' Ls St) : Go p e below s m Q Cc Sc T pc Ls (.long y :: .long x :: St) := by
  subst hm
  refine Go.via (fun t q' => XS.lcmp X.here C.x rfl (hb C.b hd0) rfl q') ?_
  exact g_if C X hd ho hq hp (fun z => kt (cd_l.mp z)) (fun z => kf (cd_l.mp z))
theorem g_ireturnN (C : Cx Z a0 p s m meth c bs ml own nm rt) (X : Stand p l e R s m args below meth c T locs cells slots) {z : Int32} {t : FieldType} (hd : decode bs pc = .ok (.ireturn, 1)) (hr : rt = some t) (ht : t = .boolean ∨ t = .byte ∨ t = .char ∨ t = .short) (hQ : Q (some (.int (nar t z))) T.heap locs) (hC : cells ≤ Cc) (hS : slots ≤ Sc) : Go p e below s m Q Cc Sc T pc Ls (.int z :: St) := by
  subst hr
  obtain ⟨fs, hr, hrun, hended, hW, hsame⟩ := X.leave (v := some (.int (nar t z))) (fun h => by rw [C.r] at h; cases h) C.lk
  refine ⟨_, _, ?_, hrun, hended, _, _, rfl, hQ, ⟨_, rfl⟩, hW, hsame.mono hC hS⟩
  exact retN X C.x C.r ht (hb C.b hd) hr
theorem g_ireturn (C : Cx Z a0 p s m meth c bs ml own nm rt) (X : Stand p l e R s m args below meth c T locs cells slots) {z : Int32} (hd : decode bs pc = .ok (.ireturn, 1)) (hr : rt = some .int) (hQ : Q (some (.int z)) T.heap locs) (hC : cells ≤ Cc) (hS : slots ≤ Sc) : Go p e below s m Q Cc Sc T pc Ls (.int z :: St) := by
  subst hr
  obtain ⟨fs, hr, hrun, hended, hW, hsame⟩ := X.leave (v := some (.int z)) (fun h => by rw [C.r] at h; cases h) C.lk
  refine ⟨_, _, ?_, hrun, hended, _, _, rfl, hQ, ⟨_, rfl⟩, hW, hsame.mono hC hS⟩
  exact retOut X C.x C.r rfl (Or.inl ⟨rfl, Or.inl rfl, z, rfl⟩) (hb C.b hd) hr
theorem g_lreturn (C : Cx Z a0 p s m meth c bs ml own nm rt) (X : Stand p l e R s m args below meth c T locs cells slots) {z : Int64} (hd : decode bs pc = .ok (.lreturn, 1)) (hr : rt = some .long) (hQ : Q (some (.long z)) T.heap locs) (hC : cells ≤ Cc) (hS : slots ≤ Sc) : Go p e below s m Q Cc Sc T pc Ls (.long z :: St) := by
  subst hr
  obtain ⟨fs, hr, hrun, hended, hW, hsame⟩ := X.leave (v := some (.long z)) (fun h => by rw [C.r] at h; cases h) C.lk
  refine ⟨_, _, ?_, hrun, hended, _, _, rfl, hQ, ⟨_, rfl⟩, hW, hsame.mono hC hS⟩
  exact retOut X C.x C.r rfl (Or.inr (Or.inl ⟨rfl, rfl, z, rfl⟩)) (hb C.b hd) hr
theorem g_areturn (C : Cx Z a0 p s m meth c bs ml own nm rt) (X : Stand p l e R s m args below meth c T locs cells slots) {z : Addr} {t : FieldType} (hd : decode bs pc = .ok (.areturn, 1)) (hr : rt = some t) (ht : t.isReference = true) (hn : narrow t (.ref z) = .ref z) (hQ : Q (some (.ref z)) T.heap locs) (hC : cells ≤ Cc) (hS : slots ≤ Sc) : Go p e below s m Q Cc Sc T pc Ls (.ref z :: St) := by
  subst hr
  obtain ⟨fs, hr, hrun, hended, hW, hsame⟩ := X.leave (v := some (.ref z)) (fun h => by rw [C.r] at h; cases h) C.lk
  refine ⟨_, _, ?_, hrun, hended, _, _, rfl, hQ, ⟨_, rfl⟩, hW, hsame.mono hC hS⟩
  exact retOut X C.x C.r hn (Or.inr (Or.inr (Or.inr (Or.inr ⟨rfl, ht, rfl⟩)))) (hb C.b hd) hr
theorem g_return (C : Cx Z a0 p s m meth c bs ml own nm rt) (X : Stand p l e R s m args below meth c T locs cells slots)  (hd : decode bs pc = .ok (.return_, 1)) (hr : rt = none) (hQ : Q none T.heap locs) (hC : cells ≤ Cc) (hS : slots ≤ Sc) : Go p e below s m Q Cc Sc T pc Ls [] := by
  subst hr
  obtain ⟨fs, hr, hrun, hended, hW, hsame⟩ := X.leave (v := none) (fun _ => rfl) C.lk
  refine ⟨_, _, ?_, hrun, hended, _, _, rfl, hQ, ⟨_, rfl⟩, hW, hsame.mono hC hS⟩
  exact X.returnOut C.x C.r (hb C.b hd) hr
/-- an array: its kind, its length, what each place holds -/
def Aw (Z : State) (h : Heap) (a : Addr) (ty : FieldType) (n : Nat) (f : Nat → Value) : Prop := ∃ cl : Cell, Arr Z h a cl ty ∧ cl.slots.size = n ∧ n < 2 ^ 31 ∧ ∀ j, j < n → cl.slots[j]? = some (f j)
variable {a b : Addr} {ty : FieldType} {n : Nat} {f f' : Nat → Value}
theorem Aw.ext (A : Aw Z h a ty n f) (E : Ext h h') : Aw Z h' a ty n f := by obtain ⟨cl, A, r⟩ := A; exact ⟨cl, A.ext E, r⟩
theorem Aw.other {sl : Nat} {v : Value} (A : Aw Z h b ty n f) (W : Wr h h' a sl v) (q : b ≠ a) : Aw Z h' b ty n f := by obtain ⟨cl, A, r⟩ := A; exact ⟨cl, A.other W q, r⟩
theorem Aw.keep {ws : List Addr} (A : Aw Z h a ty n f) (K : Keep h h' ws) (q : a ∉ ws) : Aw Z h' a ty n f := by obtain ⟨cl, A, r⟩ := A; exact ⟨cl, ⟨K.2.1 a cl A.1 q, A.2⟩, r⟩
theorem Aw.lt (A : Aw Z h a ty n f) : a < h.size := by obtain ⟨cl, A, r⟩ := A; exact A.lt
theorem Aw.of (A : Aw Z h a ty n f) (q : ∀ j, j < n → f j = f' j) : Aw Z h a ty n f' := by obtain ⟨cl, A, r1, r2, r3⟩ := A; exact ⟨cl, A, r1, r2, fun j hj => by rw [r3 j hj, q j hj]⟩
theorem i_nn {j : Int32} (h0 : 0 ≤ j.toInt) : (j.toNatClampNeg : Int) = j.toInt := by simp only [Int32.toNatClampNeg]; omega
theorem aw_in {cl : Cell} {j : Int32} (S : cl.slots.size = n) (h0 : 0 ≤ j.toInt) (h1 : j.toInt < n) : ¬ (j < 0 ∨ cl.slots.size ≤ j.toNatClampNeg) := by
  have := i_nn h0
  rw [Int32.lt_iff_toInt_lt, S]; simp only [Int32.reduceToInt]; omega
theorem aw_len (q : n < 2 ^ 31) : (n.toInt32).toInt = n := len_toInt q
theorem g_newarray {aty : ArrayType} {nn : Int32} {cap : Nat} (C : Cx Z a0 p s m meth c bs ml own nm rt) (X : Stand p l e R s m args below meth c T locs cells slots) (hd : decode bs pc = .ok (.newarray aty, 2)) (eT : T.heap = h) (w : (Jvm.Cond.arrayClass (newarray.typeOf aty)).before a0 Z = true) (h0 : 0 ≤ nn.toInt) (hcap : nn.toInt ≤ cap) (hb8 : cap * 8 ≤ 536870912) (hc : cells + 1 ≤ R.cells) (hl : slots + cap ≤ R.slots) (hp : pc + 2 = pc')
    (kk : ∀ T' h', Stand p l e R s m args below meth c T' locs (cells + 1) (slots + cap) → T'.heap = h' → Ext h h' → h.size < h'.size → ∀ a, a = h.size → Aw Z h' a (newarray.typeOf aty) nn.toInt.toNat (fun _ => defaultValue (newarray.typeOf aty)) → Go p e below s m Q Cc Sc T' pc' Ls (.ref a :: St)) : Go p e below s m Q Cc Sc T pc Ls (.int nn :: St) := by
  subst hp
  have hn : ¬ nn < 0 := by rw [Int32.lt_iff_toInt_lt]; simp only [Int32.reduceToInt]; omega
  have hi := i_nn h0
  obtain ⟨T', h', cA, X', e', E, A, st⟩ := newP X C.x C.z w eT (g := mkF m pc Ls (.int nn :: St)) rfl (hb C.b hd) rfl hn (cap := cap) (by omega) hb8 hc hl
  have hs : (newA cA (newarray.typeOf aty) nn).slots.size = nn.toInt.toNat := by rw [sz_new]; simp only [Int32.toNatClampNeg]
  have hlt := nn.toInt_lt
  refine Go.via st (kk T' h' X' e' E A.lt _ rfl ⟨_, A, hs, by omega, fun j hj => ?_⟩)
  have : j < nn.toNatClampNeg := by omega
  simp [newA, this]
theorem Aw.set {cl : Cell} {j : Int32} {v : Value} (A : Arr Z h a cl ty) (S : cl.slots.size = n) (M : n < 2 ^ 31) (H : ∀ j, j < n → cl.slots[j]? = some (f j)) (h0 : 0 ≤ j.toInt) (W : Wr h h' a j.toNatClampNeg v) : Aw Z h' a ty n (fun i => if (i : Int) = j.toInt then v else f i) := by
  refine ⟨_, A.same W, by rw [sz_set]; exact S, M, fun i hi => ?_⟩
  have hi0 := i_nn h0
  show _ = some (if (i : Int) = j.toInt then v else f i)
  by_cases q : (i : Int) = j.toInt
  · have : j.toNatClampNeg = i := by omega
    rw [if_pos q, this]
    simp [Cell.setSlot, S, hi]
  · have : j.toNatClampNeg ≠ i := by omega
    rw [if_neg q]
    simp only [Cell.setSlot]
    rw [Array.getElem?_setIfInBounds_ne this]; exact H i hi
theorem g_arraylength (C : Cx Z a0 p s m meth c bs ml own nm rt) (X : Stand p l e R s m args below meth c T locs cells slots) (hd : decode bs pc = .ok (.arraylength, 1)) (eT : T.heap = h) (A : Aw Z h a ty n f) (hp : pc + 1 = pc') (kk : ∀ v : Int32, v.toInt = n → Go p e below s m Q Cc Sc T pc' Ls (.int v :: St)) : Go p e below s m Q Cc Sc T pc Ls (.ref a :: St) := by
  subst hp
  obtain ⟨cl, A, S, M, H⟩ := A
  have : cl.slots.size.toInt32.toInt = n := by rw [S]; exact aw_len M
  exact Go.via (fun t q => X.arraylength C.x (by rw [eT]; exact A.1) (State.isArrayOf_alike C.z.alike A.2.1) (g := mkF m pc Ls (.ref a :: St)) rfl rfl (hb C.b hd) t q) (kk _ this)

theorem g_iastore {j : Int32} {x : Int32} (C : Cx Z a0 p s m meth c bs ml own nm rt) (X : Stand p l e R s m args below meth c T locs cells slots) (hd : decode bs pc = .ok (.iastore, 1)) (eT : T.heap = h) (A : Aw Z h a .int n f) (h0 : 0 ≤ j.toInt) (h1 : j.toInt < n) (hp : pc + 1 = pc')
    (kk : ∀ T' h', Stand p l e R s m args below meth c T' (locs ++ [⟨a, j.toNatClampNeg⟩]) cells slots → T'.heap = h' → Wr h h' a j.toNatClampNeg (.int x) → Aw Z h' a .int n (fun i => if (i : Int) = j.toInt then .int x else f i) → Go p e below s m Q Cc Sc T' pc' Ls St) : Go p e below s m Q Cc Sc T pc Ls (.int x :: .int j :: .ref a :: St) := by
  subst hp
  obtain ⟨cl, A, S, M, H⟩ := A
  obtain ⟨T', h', X', e', W, st⟩ := stI X C.x C.z eT A (j := j) (aw_in S h0 h1) (g := mkF m pc Ls (.int x :: .int j :: .ref a :: St)) rfl rfl (hb C.b hd)
  exact Go.via st (kk T' h' X' e' W (Aw.set A S M H h0 W))
theorem g_bastore {j : Int32} {x : Int32} (C : Cx Z a0 p s m meth c bs ml own nm rt) (X : Stand p l e R s m args below meth c T locs cells slots) (hd : decode bs pc = .ok (.bastore, 1)) (eT : T.heap = h) (A : Aw Z h a .byte n f) (h0 : 0 ≤ j.toInt) (h1 : j.toInt < n) (hp : pc + 1 = pc')
    (kk : ∀ T' h', Stand p l e R s m args below meth c T' (locs ++ [⟨a, j.toNatClampNeg⟩]) cells slots → T'.heap = h' → Wr h h' a j.toNatClampNeg (.int (nar .byte x)) → Aw Z h' a .byte n (fun i => if (i : Int) = j.toInt then .int (nar .byte x) else f i) → Go p e below s m Q Cc Sc T' pc' Ls St) : Go p e below s m Q Cc Sc T pc Ls (.int x :: .int j :: .ref a :: St) := by
  subst hp
  obtain ⟨cl, A, S, M, H⟩ := A
  obtain ⟨T', h', X', e', W, st⟩ := stB X C.x C.z eT A (j := j) (aw_in S h0 h1) (g := mkF m pc Ls (.int x :: .int j :: .ref a :: St)) rfl rfl (hb C.b hd)
  exact Go.via st (kk T' h' X' e' W (Aw.set A S M H h0 W))
theorem g_lastore {j : Int32} {x : Int64} (C : Cx Z a0 p s m meth c bs ml own nm rt) (X : Stand p l e R s m args below meth c T locs cells slots) (hd : decode bs pc = .ok (.lastore, 1)) (eT : T.heap = h) (A : Aw Z h a .long n f) (h0 : 0 ≤ j.toInt) (h1 : j.toInt < n) (hp : pc + 1 = pc')
    (kk : ∀ T' h', Stand p l e R s m args below meth c T' (locs ++ [⟨a, j.toNatClampNeg⟩]) cells slots → T'.heap = h' → Wr h h' a j.toNatClampNeg (.long x) → Aw Z h' a .long n (fun i => if (i : Int) = j.toInt then .long x else f i) → Go p e below s m Q Cc Sc T' pc' Ls St) : Go p e below s m Q Cc Sc T pc Ls (.long x :: .int j :: .ref a :: St) := by
  subst hp
  obtain ⟨cl, A, S, M, H⟩ := A
  obtain ⟨T', h', X', e', W, st⟩ := stJ X C.x C.z eT A (j := j) (aw_in S h0 h1) (g := mkF m pc Ls (.long x :: .int j :: .ref a :: St)) rfl rfl (hb C.b hd)
  exact Go.via st (kk T' h' X' e' W (Aw.set A S M H h0 W))
theorem g_iaload {j : Int32} {v : Value} (C : Cx Z a0 p s m meth c bs ml own nm rt) (X : Stand p l e R s m args below meth c T locs cells slots) (hd : decode bs pc = .ok (.iaload, 1)) (eT : T.heap = h) (A : Aw Z h a .int n f) (h0 : 0 ≤ j.toInt) (h1 : j.toInt < n) (hv : f j.toInt.toNat = v) (hp : pc + 1 = pc') (kk : Go p e below s m Q Cc Sc T pc' Ls (v :: St)) : Go p e below s m Q Cc Sc T pc Ls (.int j :: .ref a :: St) := by
  subst hp
  obtain ⟨cl, A, S, M, H⟩ := A
  have hi := i_nn h0
  have hj : j.toNatClampNeg = j.toInt.toNat := by omega
  have hat : cl.slots[j.toNatClampNeg]? = some v := by rw [hj, H _ (by omega), hv]
  exact Go.via (fun t q => X.iaload C.x (j := j) (v := v) (by rw [eT]; exact A.1) (State.isArrayOf_alike C.z.alike A.2.1) A.2.2 (aw_in S h0 h1) hat (g := mkF m pc Ls (.int j :: .ref a :: St)) rfl rfl (hb C.b hd) t q) kk
theorem g_baload {j : Int32} {v : Value} (C : Cx Z a0 p s m meth c bs ml own nm rt) (X : Stand p l e R s m args below meth c T locs cells slots) (hd : decode bs pc = .ok (.baload, 1)) (eT : T.heap = h) (A : Aw Z h a .byte n f) (h0 : 0 ≤ j.toInt) (h1 : j.toInt < n) (hv : f j.toInt.toNat = v) (hp : pc + 1 = pc') (kk : Go p e below s m Q Cc Sc T pc' Ls (v :: St)) : Go p e below s m Q Cc Sc T pc Ls (.int j :: .ref a :: St) := by
  subst hp
  obtain ⟨cl, A, S, M, H⟩ := A
  have hi := i_nn h0
  have hj : j.toNatClampNeg = j.toInt.toNat := by omega
  have hat : cl.slots[j.toNatClampNeg]? = some v := by rw [hj, H _ (by omega), hv]
  exact Go.via (fun t q => X.baloadBytes C.x (j := j) (v := v) (by rw [eT]; exact A.1) (State.isArrayOf_alike C.z.alike A.2.1) A.2.2 (aw_in S h0 h1) hat (g := mkF m pc Ls (.int j :: .ref a :: St)) rfl rfl (hb C.b hd) t q) kk
theorem g_laload {j : Int32} {v : Value} (C : Cx Z a0 p s m meth c bs ml own nm rt) (X : Stand p l e R s m args below meth c T locs cells slots) (hd : decode bs pc = .ok (.laload, 1)) (eT : T.heap = h) (A : Aw Z h a .long n f) (h0 : 0 ≤ j.toInt) (h1 : j.toInt < n) (hv : f j.toInt.toNat = v) (hp : pc + 1 = pc') (kk : Go p e below s m Q Cc Sc T pc' Ls (v :: St)) : Go p e below s m Q Cc Sc T pc Ls (.int j :: .ref a :: St) := by
  subst hp
  obtain ⟨cl, A, S, M, H⟩ := A
  have hi := i_nn h0
  have hj : j.toNatClampNeg = j.toInt.toNat := by omega
  have hat : cl.slots[j.toNatClampNeg]? = some v := by rw [hj, H _ (by omega), hv]
  exact Go.via (fun t q => X.laload C.x (j := j) (v := v) (by rw [eT]; exact A.1) (State.isArrayOf_alike C.z.alike A.2.1) A.2.2 (aw_in S h0 h1) hat (g := mkF m pc Ls (.int j :: .ref a :: St)) rfl rfl (hb C.b hd) t q) kk
theorem g_callS {y : MethodName} {bytes : ByteArray} {maxL W index : Nat} {ret : Option FieldType} {rm : Room} {argsL rest : List Value} {ps : List FieldType} {r : Option FieldType} {Qc : Option Value → Heap → List Loc → Prop} (C : Cx Z a0 p s m meth c bs ml own nm rt) (X : Stand p l e R s m args below meth c T locs cells slots)
    (hd : decode bs pc = .ok (.invokestatic index, 3)) (eT : T.heap = h)
    (w1 : (Jvm.Cond.methodLink own index y).before a0 Z = true) (w2 : (Jvm.Cond.static y).before a0 Z = true) (w3 : (Jvm.Cond.initialized y.cls).before a0 Z = true) (w4 : (Jvm.Cond.code y bytes maxL ret).before a0 Z = true)
    (hM : MetFree l y (head1 [Jvm.Cond.code y bytes maxL ret] rm) (fun a U => a = argsL.toArray ∧ Z.Warmed39 U.vm ∧ U.heap = h) (fun _ _ _ _ _ => True) (fun _ U o U' => ∃ v L, o = .returned v ∧ Qc v U'.heap L ∧ FrameEnd U o U' L rm.cells rm.slots))
    (hy : y.cls ≠ "java/lang/invoke/MethodHandle" ∧ y.cls ≠ "java/lang/invoke/VarHandle") (hpd : parseMethodDescriptor y.desc = some ⟨ps, r⟩) (hln : argsL.length = ps.length)
    (hst : St = argsL.reverse ++ rest) (hLs : Ls.size = ml) (hW : (rest.map fun v => v.category).sum ≤ W) (hfr : rm.frames + 1 ≤ R.frames) (hlo : W + (maxL + 11) + rm.locals ≤ R.locals) (hce : cells + rm.cells ≤ R.cells) (hsl : slots + rm.slots ≤ R.slots) (hp : pc + 3 = pc')
    (kk : ∀ T' v L, Stand p l e R s m args below meth c T' (locs ++ L) (cells + rm.cells) (slots + rm.slots) → Qc v T'.heap L → Go p e below s m Q Cc Sc T' pc' Ls (v.toList ++ rest)) : Go p e below s m Q Cc Sc T pc Ls St := by
  subst hp
  obtain ⟨v, _, ⟨T', L', k', n'⟩, -, X', ⟨L, hQ, l1, y1, z1⟩, st⟩ := Jvm.LawKit.callS X C.x (y := y) C.o (mvT C.z w1) (mvT C.z w2) (mvT C.z w3) (mvT C.z w4) hy (backOf (W := W) hM C.z w4 w3 hfr hlo) (g := mkF m pc Ls St) rfl (by rw [C.mx]; exact hLs) (argsL := argsL) (rest := rest) (lenOf hpd hln) hst (by show 2 * 0 + _ ≤ _; omega) (hb C.b hd) (fun _ _ => ⟨rfl, eT, hce, hsl⟩)
  dsimp only [Pt.U, Pt.locs, Pt.cells, Pt.slots] at X' l1 y1 z1 st hQ
  subst l1 y1 z1
  exact Go.via st (kk T' v L X' hQ)
theorem g_callC {y : MethodName} {bytes : ByteArray} {maxL W index : Nat} {rm : Room} {argsL rest : List Value} {ps : List FieldType} {r : Option FieldType} {Qc : Option Value → Heap → List Loc → Prop} (C : Cx Z a0 p s m meth c bs ml own nm rt) (X : Stand p l e R s m args below meth c T locs cells slots)
    (hd : decode bs pc = .ok (.invokespecial index, 3)) (eT : T.heap = h) (hy1 : y.name = "<init>") 
    (w1 : (Jvm.Cond.methodLink own index y).before a0 Z = true) (w2 : (Jvm.Cond.instanceMethod y).before a0 Z = true) (w3 : (Jvm.Cond.initialized y.cls).before a0 Z = true) (w4 : (Jvm.Cond.code y bytes maxL none).before a0 Z = true)
    (hM : MetFree l y (head1 [Jvm.Cond.code y bytes maxL none] rm) (fun a' U => a' = (Value.ref a :: argsL).toArray ∧ Z.Warmed39 U.vm ∧ U.heap = h) (fun _ _ _ _ _ => True) (fun _ U o U' => ∃ v L, o = .returned v ∧ Qc v U'.heap L ∧ FrameEnd U o U' L rm.cells rm.slots))
    (hy : y.cls ≠ "java/lang/invoke/MethodHandle" ∧ y.cls ≠ "java/lang/invoke/VarHandle") (hpd : parseMethodDescriptor y.desc = some ⟨ps, r⟩) (hln : argsL.length = ps.length)
    (hst : St = argsL.reverse ++ .ref a :: rest) (hLs : Ls.size = ml) (hW : (rest.map fun v => v.category).sum ≤ W) (hfr : rm.frames + 1 ≤ R.frames) (hlo : W + (maxL + 11) + rm.locals ≤ R.locals) (hce : cells + rm.cells ≤ R.cells) (hsl : slots + rm.slots ≤ R.slots) (hp : pc + 3 = pc')
    (kk : ∀ T' v L, Stand p l e R s m args below meth c T' (locs ++ L) (cells + rm.cells) (slots + rm.slots) → Qc v T'.heap L → Go p e below s m Q Cc Sc T' pc' Ls (v.toList ++ rest)) : Go p e below s m Q Cc Sc T pc Ls St := by
  subst hp
  obtain ⟨v, _, ⟨T', L', k', n'⟩, -, X', ⟨L, hQ, l1, y1, z1⟩, st⟩ := X.specialBack C.x (y := y) hy1 C.o (mvT C.z w1) (mvT C.z w2) (mvT C.z w4) hy (backOf (W := W) hM C.z w4 w3 hfr hlo) (g := mkF m pc Ls St) rfl (by rw [C.mx]; exact hLs) (Steps.refl _) (a := a) (argsL := argsL) (rest := rest) (lenOf hpd hln) hst (by show 2 * 0 + _ ≤ _; omega) (hb C.b hd) (fun _ _ => ⟨rfl, eT, hce, hsl⟩)
  dsimp only [Pt.U, Pt.locs, Pt.cells, Pt.slots] at X' l1 y1 z1 st hQ
  subst l1 y1 z1
  exact Go.via (fun t q => st.trans q) (kk T' v L X' hQ)
theorem g_callV {y : MethodName} {bytes : ByteArray} {maxL W index : Nat} {ret : Option FieldType} {rm : Room} {argsL rest : List Value} {ps : List FieldType} {r : Option FieldType} {Qc : Option Value → Heap → List Loc → Prop} (C : Cx Z a0 p s m meth c bs ml own nm rt) (X : Stand p l e R s m args below meth c T locs cells slots)
    (hd : decode bs pc = .ok (.invokevirtual index, 3)) (eT : T.heap = h) {K : String} (E : Exa Z h a K) (wd : (Jvm.Cond.declares y).before a0 Z = true) (wn : (Jvm.Cond.selects K y y).before a0 Z = true) 
    (w1 : (Jvm.Cond.methodLink own index y).before a0 Z = true) (w2 : (Jvm.Cond.instanceMethod y).before a0 Z = true) (w3 : (Jvm.Cond.initialized y.cls).before a0 Z = true) (w4 : (Jvm.Cond.code y bytes maxL ret).before a0 Z = true)
    (hM : MetFree l y (head1 [Jvm.Cond.code y bytes maxL ret] rm) (fun a' U => a' = (Value.ref a :: argsL).toArray ∧ Z.Warmed39 U.vm ∧ U.heap = h) (fun _ _ _ _ _ => True) (fun _ U o U' => ∃ v L, o = .returned v ∧ Qc v U'.heap L ∧ FrameEnd U o U' L rm.cells rm.slots))
    (hy : y.cls ≠ "java/lang/invoke/MethodHandle" ∧ y.cls ≠ "java/lang/invoke/VarHandle") (hpd : parseMethodDescriptor y.desc = some ⟨ps, r⟩) (hln : argsL.length = ps.length)
    (hst : St = argsL.reverse ++ .ref a :: rest) (hLs : Ls.size = ml) (hW : (rest.map fun v => v.category).sum ≤ W) (hfr : rm.frames + 1 ≤ R.frames) (hlo : W + (maxL + 11) + rm.locals ≤ R.locals) (hce : cells + rm.cells ≤ R.cells) (hsl : slots + rm.slots ≤ R.slots) (hp : pc + 3 = pc')
    (kk : ∀ T' v L, Stand p l e R s m args below meth c T' (locs ++ L) (cells + rm.cells) (slots + rm.slots) → Qc v T'.heap L → Go p e below s m Q Cc Sc T' pc' Ls (v.toList ++ rest)) : Go p e below s m Q Cc Sc T pc Ls St := by
  subst hp
  obtain ⟨cq, kq, qa, qb, qc⟩ := isOf C.z eT E
  obtain ⟨v, _, ⟨T', L', k', n'⟩, -, X', ⟨L, hQ, l1, y1, z1⟩, st⟩ := X.virtualBack C.x (y := y) (z := y) C.o (mvT C.z w1) (mvT C.z wd) (notFace_of_selects (args := #[]) (mvT C.z wn)) (mvT C.z wn) (mvT C.z w2) hy (backOf (W := W) hM C.z w4 w3 hfr hlo) qa qc (g := mkF m pc Ls St) rfl (by rw [C.mx]; exact hLs) (Steps.refl _) (argsL := argsL) (rest := rest) (lenOf hpd hln) hst (by show 2 * 0 + _ ≤ _; omega) (hb C.b hd) (fun _ _ => ⟨rfl, eT, hce, hsl⟩)
  dsimp only [Pt.U, Pt.locs, Pt.cells, Pt.slots] at X' l1 y1 z1 st hQ
  subst l1 y1 z1
  exact Go.via (fun t q => st.trans q) (kk T' v L X' hQ)
theorem g_getfield {R0 O nf df : String} {index : Nat} {v : Value} (C : Cx Z a0 p s m meth c bs ml own nm rt) (X : Stand p l e R s m args below meth c T locs cells slots) (hd : decode bs pc = .ok (.getfield index, 3)) (eT : T.heap = h) (w : (Jvm.Cond.fieldLink own index R0 nf df).before a0 Z = true) (via : Via Z R0 O nf df) (F : Fld Z h a O nf df v) (hp : pc + 3 = pc')
    (kk : ∀ T', Stand p l e R s m args below meth c T' locs cells slots → T'.heap = h → Go p e below s m Q Cc Sc T' pc' Ls (v :: St)) : Go p e below s m Q Cc Sc T pc Ls (.ref a :: St) := by
  subst hp
  obtain ⟨T', X', e', st⟩ := getF X C.x C.z C.o (host := "") (Or.inl w) via eT F (g := mkF m pc Ls (.ref a :: St)) rfl rfl (hb C.b hd)
  exact Go.via st (kk T' X' e')
theorem g_new {K : String} {index n : Nat} (C : Cx Z a0 p s m meth c bs ml own nm rt) (X : Stand p l e R s m args below meth c T locs cells slots) (hd : decode bs pc = .ok (.new index, 3)) (eT : T.heap = h) (w1 : (Jvm.Cond.classLink own index K).before a0 Z = true) (w2 : (Jvm.Cond.instantiable K n).before a0 Z = true) (w3 : (Jvm.Cond.initialized K).before a0 Z = true) (hc : cells + 1 ≤ R.cells) (hl : slots + n ≤ R.slots) (hp : pc + 3 = pc')
    (kk : ∀ T' h', Stand p l e R s m args below meth c T' locs (cells + 1) (slots + n) → T'.heap = h' → Ext h h' → h.size < h'.size → ∀ a, a = h.size → Exa Z h' a K → (∀ {O nf d : String} {ty : FieldType}, Laid Z a0 K O nf d → parseFieldDescriptor d = some ty → Fld Z h' a O nf d (defaultValue ty)) → Go p e below s m Q Cc Sc T' pc' Ls (.ref a :: St)) : Go p e below s m Q Cc Sc T pc Ls St := by
  subst hp
  obtain ⟨T', h', X', e', E, A, D, -, st⟩ := newO X C.x C.z C.o w1 w2 w3 eT (g := mkF m pc Ls St) rfl (hb C.b hd) hc hl
  exact Go.via st (kk T' h' X' e' E A.lt _ rfl A D)
theorem g_putfield {R0 O nf df K : String} {index kk' : Nat} {ty : FieldType} {v old : Value} (C : Cx Z a0 p s m meth c bs ml own nm rt) (X : Stand p l e R s m args below meth c T locs cells slots) (hd : decode bs pc = .ok (.putfield index, 3)) (eT : T.heap = h) (w : (Jvm.Cond.fieldLink own index R0 nf df).before a0 Z = true) (via : Via Z R0 O nf df) (F : Fld Z h a O nf df old) (E : Exa Z h a K) (L : (Jvm.Cond.lays K O nf df).before a0 Z = true ∨ ((Jvm.Cond.laysFinal K O nf df).before a0 Z = true ∧ own = O ∧ nm = "<init>")) (wi : (Jvm.Cond.instantiable K kk').before a0 Z = true) (hty : parseFieldDescriptor df = some ty) (hn : narrow ty v = v) (hf : fits ty v = true) (hp : pc + 3 = pc')
    (kk : ∀ T' h', Stand p l e R s m args below meth c T' (locs ++ [⟨a, Jvm.RoadKit.slotOf Z O nf df⟩]) cells slots → T'.heap = h' → Wr h h' a (Jvm.RoadKit.slotOf Z O nf df) v → Fld Z h' a O nf df v → Exa Z h' a K → Go p e below s m Q Cc Sc T' pc' Ls St) : Go p e below s m Q Cc Sc T pc Ls (v :: .ref a :: St) := by
  subst hp
  obtain ⟨T', h', X', e', W, st⟩ := putF X C.x C.z C.o (host := "") (Or.inl w) via eT F E (L.imp id fun q => ⟨q.1, q.2.1, by rw [C.n]; exact q.2.2⟩) wi hty hn hf (g := mkF m pc Ls (v :: .ref a :: St)) rfl rfl (hb C.b hd)
  exact Go.via st (kk T' h' X' e' W (F.same W) (E.wr W))
theorem g_initO {idx W : Nat} (C : Cx Z a0 p s m meth c bs ml own nm rt) (X : Stand p l e R s m args below meth c T locs cells slots) (hd : decode bs pc = .ok (.invokespecial idx, 3)) (eT : T.heap = h) (w1 : (Jvm.Cond.methodLink own idx Lib.objectInit).before a0 Z = true) (w2 : (Jvm.Cond.instanceMethod Lib.objectInit).before a0 Z = true) (w3 : (Jvm.Cond.code Lib.objectInit ⟨#[0xb1]⟩ 1 none).before a0 Z = true) (hLs : Ls.size = ml) (hf : 1 ≤ R.frames) (hW : (St.map fun v => v.category).sum ≤ W) (hl : W + 12 ≤ R.locals) (hp : pc + 3 = pc')
    (kk : ∀ T', Stand p l e R s m args below meth c T' locs cells slots → T'.heap = h → Go p e below s m Q Cc Sc T' pc' Ls St) : Go p e below s m Q Cc Sc T pc Ls (.ref a :: St) := by
  subst hp
  obtain ⟨T', X', e', st⟩ := initO X C.x C.z C.o w1 w2 w3 eT (g := mkF m pc Ls (.ref a :: St)) rfl (by rw [C.mx]; exact hLs) rfl (hb C.b hd) hf (W := W) (by show 2 * 0 + _ ≤ _; omega) hl
  exact Go.via st (kk T' X' e')
end Own
/-- numbers -/
theorem own_inj32 {x y : Int32} (h : x.toInt = y.toInt) : x = y := Int32.toInt_inj.mp h
theorem own_inj64 {x y : Int64} (h : x.toInt = y.toInt) : x = y := Int64.toInt_inj.mp h
theorem own_nz32 {x : Int32} (h : 1 ≤ x.toInt) : x ≠ 0 := fun q => by rw [q] at h; revert h; decide
theorem own_nz64 {x : Int64} (h : 1 ≤ x.toInt) : x ≠ 0 := fun q => by rw [q] at h; revert h; decide
abbrev LQ (n0 : Nat) : Option Value → Heap → List Loc → Prop := fun v _ L => v = some (.int 1) ∧ Fr n0 L
theorem own_ush0 (x y : Int32) (h : y.toBitVec.toNat % 32 = 0) : (x.toUInt32 >>> (y &&& 31).toUInt32).toInt32 = x := by
  have hz : (y &&& 31) = 0 := by
    apply Int32.toBitVec_inj.mp
    apply BitVec.eq_of_toNat_eq
    rw [Int32.toBitVec_and, BitVec.toNat_and]
    show y.toBitVec.toNat &&& 31 = 0
    rw [show (31 : Nat) = 2 ^ 5 - 1 from rfl, Nat.and_two_pow_sub_one_eq_mod]
    exact h
  rw [hz]
  apply Int32.toBitVec_inj.mp
  show (x.toUInt32 >>> (0 : Int32).toUInt32).toBitVec = x.toBitVec
  rw [UInt32.toBitVec_shiftRight]
  show x.toBitVec >>> ((0 : BitVec 32) % 32) = x.toBitVec
  simp
theorem own_ush (x y : Int32) (k : Nat) (hk : y.toBitVec.toNat % 32 = k) (hx : 0 ≤ x.toInt) : ((x.toUInt32 >>> (y &&& 31).toUInt32).toInt32).toInt = x.toInt / (2 ^ k : Nat) := by
  have hr := rng32 x
  rcases Nat.eq_zero_or_pos k with h0 | h0
  · subst h0
    rw [own_ush0 x y hk]; simp
  · rw [c_iushr x y k hk h0, Int.emod_eq_of_lt hx (by omega)]
theorem own_ushnn (x y : Int32) (hx : 0 ≤ x.toInt) : 0 ≤ ((x.toUInt32 >>> (y &&& 31).toUInt32).toInt32).toInt := by
  rw [own_ush x y _ rfl hx]
  exact Int.ediv_nonneg hx (Int.natCast_nonneg _)
theorem own_of {n : Int} (h1 : -2147483648 ≤ n) (h2 : n < 2147483648) : (Int32.ofInt n).toInt = n := Int32.toInt_ofInt_of_le h1 h2
def own_w (g : Nat → Int32) (W j : Nat) : Int32 := Int32.ofInt (((g (j / W)).toInt / 256 ^ (j % W) + 128) % 256 - 128)
def own_ct (f : Nat → Value) (g : Nat → Int32) (W : Nat) (at' : Int) (m : Nat) : Nat → Value := fun i => if at' ≤ i ∧ (i : Int) < at' + m then .int (own_w g W (i - at'.toNat)) else f i
theorem own_ct0 (f : Nat → Value) (g : Nat → Int32) (W : Nat) (at' : Int) (i : Nat) : f i = own_ct f g W at' 0 i := by
  unfold own_ct; rw [if_neg (by omega)]
theorem own_ctS (f : Nat → Value) (g : Nat → Int32) (W : Nat) (at' : Int) (m : Nat) (x : Int) (h0 : 0 ≤ at') (hx : x = at' + m) (w : Int32) (hw : w = own_w g W m) (i : Nat) : (if (i : Int) = x then Value.int w else own_ct f g W at' m i) = own_ct f g W at' (m + 1) i := by
  unfold own_ct
  by_cases q : (i : Int) = x
  · rw [if_pos q, if_pos (by omega), show i - at'.toNat = m by omega, hw]
  · rw [if_neg q]
    by_cases q2 : at' ≤ i ∧ (i : Int) < at' + m
    · rw [if_pos q2, if_pos (by omega)]
    · rw [if_neg q2, if_neg (by omega)]
theorem own_pbyte (x bI : Int32) (b : Nat) (hb : bI.toInt = b) (h4 : b < 4) : nar .byte (((x.toUInt32 >>> ((bI * (8 : Int32)) &&& 31).toUInt32).toInt32).toInt8.toInt32) = Int32.ofInt ((x.toInt / 256 ^ b + 128) % 256 - 128) := by
  apply own_inj32
  rw [own_of (by omega) (by omega)]
  have rx := rng32 x
  have hc : b = 0 ∨ b = 1 ∨ b = 2 ∨ b = 3 := by omega
  rcases hc with rfl | rfl | rfl | rfl
  · have e : bI = (0 : Int32) := own_inj32 hb
    subst e
    rw [own_ush0 x ((0 : Int32) * (8 : Int32)) (by decide)]
    have q1 := c_i2b x
    have q2 := c_i2b (x.toInt8.toInt32)
    show (x.toInt8.toInt32.toInt8.toInt32).toInt = _
    simp only [Int.reducePow, Int.ediv_one]
    omega
  · have e : bI = (1 : Int32) := own_inj32 hb
    subst e
    have q0 := c_iushr x ((1 : Int32) * (8 : Int32)) 8 (by decide) (by decide)
    have q0 : ((x.toUInt32 >>> (((1 : Int32) * (8 : Int32)) &&& 31).toUInt32).toInt32).toInt = x.toInt % 4294967296 / 256 := q0
    generalize ((x.toUInt32 >>> (((1 : Int32) * (8 : Int32)) &&& 31).toUInt32).toInt32) = y at *
    have q1 := c_i2b y
    have q2 := c_i2b (y.toInt8.toInt32)
    show (y.toInt8.toInt32.toInt8.toInt32).toInt = _
    simp only [Int.reducePow]
    omega
  · have e : bI = (2 : Int32) := own_inj32 hb
    subst e
    have q0 := c_iushr x ((2 : Int32) * (8 : Int32)) 16 (by decide) (by decide)
    have q0 : ((x.toUInt32 >>> (((2 : Int32) * (8 : Int32)) &&& 31).toUInt32).toInt32).toInt = x.toInt % 4294967296 / 65536 := q0
    generalize ((x.toUInt32 >>> (((2 : Int32) * (8 : Int32)) &&& 31).toUInt32).toInt32) = y at *
    have q1 := c_i2b y
    have q2 := c_i2b (y.toInt8.toInt32)
    show (y.toInt8.toInt32.toInt8.toInt32).toInt = _
    simp only [Int.reducePow]
    omega
  · have e : bI = (3 : Int32) := own_inj32 hb
    subst e
    have q0 := c_iushr x ((3 : Int32) * (8 : Int32)) 24 (by decide) (by decide)
    have q0 : ((x.toUInt32 >>> (((3 : Int32) * (8 : Int32)) &&& 31).toUInt32).toInt32).toInt = x.toInt % 4294967296 / 16777216 := q0
    generalize ((x.toUInt32 >>> (((3 : Int32) * (8 : Int32)) &&& 31).toUInt32).toInt32) = y at *
    have q1 := c_i2b y
    have q2 := c_i2b (y.toInt8.toInt32)
    show (y.toInt8.toInt32.toInt8.toInt32).toInt = _
    simp only [Int.reducePow]
    omega
theorem own_wk (g : Nat → Int32) (W kn b : Nat) (hb : b < W) : own_w g W (kn * W + b) = Int32.ofInt (((g kn).toInt / 256 ^ b + 128) % 256 - 128) := by
  unfold own_w
  have e1 : (kn * W + b) / W = kn := by rw [Nat.mul_comm, Nat.mul_add_div (by omega), Nat.div_eq_of_lt hb, Nat.add_zero]
  have e2 : (kn * W + b) % W = b := by rw [Nat.mul_comm, Nat.mul_add_mod, Nat.mod_eq_of_lt hb]
  rw [e1, e2]
/-- a byte that is the b-th of y -/
def own_pk (w : Int32) (y b : Int) : Prop := (b = 0 → w.toInt = (y + 128) % 256 - 128) ∧ (b = 1 → w.toInt = (y / 256 + 128) % 256 - 128) ∧ (b = 2 → w.toInt = (y / 65536 + 128) % 256 - 128) ∧ (b = 3 → w.toInt = (y / 16777216 + 128) % 256 - 128)
def own_gp (w : Int32) (g : Nat → Int32) (rel cw wd : Int) (s : Int32) : Prop := (rel < 0 ∨ cw ≤ rel → w = s) ∧ (0 ≤ rel → rel < cw → own_pk w (g (rel / wd).toNat).toInt (rel % wd))
theorem own_wpk (g : Nat → Int32) (W j : Nat) : own_pk (own_w g W j) (g (j / W)).toInt ((j % W : Nat) : Int) := by
  unfold own_w
  refine ⟨fun h => ?_, fun h => ?_, fun h => ?_, fun h => ?_⟩
  · have e : j % W = 0 := by omega
    rw [e, own_of (by omega) (by omega)]; simp only [Int.reducePow, Int.ediv_one]
  · have e : j % W = 1 := by omega
    rw [e, own_of (by omega) (by omega)]; simp only [Int.reducePow]
  · have e : j % W = 2 := by omega
    rw [e, own_of (by omega) (by omega)]; simp only [Int.reducePow]
  · have e : j % W = 3 := by omega
    rw [e, own_of (by omega) (by omega)]; simp only [Int.reducePow]
theorem own_gpall (g : Nat → Int32) (ct wd at' : Int) (s : Int32) (k : Nat) (h0 : 0 ≤ at') (hc : 0 ≤ ct) (hw : 0 ≤ wd) : ∃ w : Int32, own_ct (fun _ => .int s) g wd.toNat at' (ct.toNat * wd.toNat) k = .int w ∧ own_gp w g (k - at') (ct * wd) wd s := by
  obtain ⟨W, rfl⟩ := Int.eq_ofNat_of_zero_le hw
  obtain ⟨K, rfl⟩ := Int.eq_ofNat_of_zero_le hc
  simp only [Int.toNat_natCast]
  unfold own_ct
  have em : ((K * W : Nat) : Int) = (K : Int) * (W : Int) := Int.natCast_mul K W
  by_cases q : at' ≤ k ∧ (k : Int) < at' + (K * W : Nat)
  · refine ⟨_, if_pos q, fun z => by omega, fun z1 z2 => ?_⟩
    have h := own_wpk g W (k - at'.toNat)
    have e1 : ((k : Int) - at') = ((k - at'.toNat : Nat) : Int) := by omega
    rw [e1, ← Int.natCast_ediv, Int.toNat_natCast, ← Int.natCast_emod]
    exact h
  · exact ⟨s, if_neg q, fun _ => rfl, fun z1 z2 => absurd ⟨by omega, by omega⟩ q⟩
theorem d1_0 : decode prog_5_method_3_code 0 = .ok (.iload 4, 2) := by decide +kernel
theorem d1_2 : decode prog_5_method_3_code 2 = .ok (.istore 5, 2) := by decide +kernel
theorem d1_4 : decode prog_5_method_3_code 4 = .ok (.iconst 0, 1) := by decide +kernel
theorem d1_5 : decode prog_5_method_3_code 5 = .ok (.istore 6, 2) := by decide +kernel
theorem d1_7 : decode prog_5_method_3_code 7 = .ok (.iload 6, 2) := by decide +kernel
theorem d1_9 : decode prog_5_method_3_code 9 = .ok (.iload_n 1, 1) := by decide +kernel
theorem d1_10 : decode prog_5_method_3_code 10 = .ok (.if_icmp .ge 42, 3) := by decide +kernel
theorem d1_13 : decode prog_5_method_3_code 13 = .ok (.iconst 0, 1) := by decide +kernel
theorem d1_14 : decode prog_5_method_3_code 14 = .ok (.istore 7, 2) := by decide +kernel
theorem d1_16 : decode prog_5_method_3_code 16 = .ok (.iload 7, 2) := by decide +kernel
theorem d1_18 : decode prog_5_method_3_code 18 = .ok (.iload_n 2, 1) := by decide +kernel
theorem d1_19 : decode prog_5_method_3_code 19 = .ok (.if_icmp .ge 27, 3) := by decide +kernel
theorem d1_22 : decode prog_5_method_3_code 22 = .ok (.aload_n 3, 1) := by decide +kernel
theorem d1_23 : decode prog_5_method_3_code 23 = .ok (.iload 5, 2) := by decide +kernel
theorem d1_25 : decode prog_5_method_3_code 25 = .ok (.iinc 5 1, 3) := by decide +kernel
theorem d1_28 : decode prog_5_method_3_code 28 = .ok (.aload_n 0, 1) := by decide +kernel
theorem d1_29 : decode prog_5_method_3_code 29 = .ok (.iload 6, 2) := by decide +kernel
theorem d1_31 : decode prog_5_method_3_code 31 = .ok (.iaload, 1) := by decide +kernel
theorem d1_32 : decode prog_5_method_3_code 32 = .ok (.iload 7, 2) := by decide +kernel
theorem d1_34 : decode prog_5_method_3_code 34 = .ok (.bipush 8, 2) := by decide +kernel
theorem d1_36 : decode prog_5_method_3_code 36 = .ok (.imul, 1) := by decide +kernel
theorem d1_37 : decode prog_5_method_3_code 37 = .ok (.iushr, 1) := by decide +kernel
theorem d1_38 : decode prog_5_method_3_code 38 = .ok (.i2b, 1) := by decide +kernel
theorem d1_39 : decode prog_5_method_3_code 39 = .ok (.bastore, 1) := by decide +kernel
theorem d1_40 : decode prog_5_method_3_code 40 = .ok (.iinc 7 1, 3) := by decide +kernel
theorem d1_43 : decode prog_5_method_3_code 43 = .ok (.goto (-27), 3) := by decide +kernel
theorem d1_46 : decode prog_5_method_3_code 46 = .ok (.iinc 6 1, 3) := by decide +kernel
theorem d1_49 : decode prog_5_method_3_code 49 = .ok (.goto (-42), 3) := by decide +kernel
theorem d1_52 : decode prog_5_method_3_code 52 = .ok (.iload 5, 2) := by decide +kernel
theorem d1_54 : decode prog_5_method_3_code 54 = .ok (.ireturn, 1) := by decide +kernel
theorem pn_1 : plainFor (⟨"com/example/overscore/overscore/index/PackedInts", "pack", "([III[BI)I"⟩ : MethodName) = true := plainFor_of_name (by first | (simp [plainName, overriddenIn]; done) | decide +kernel)
theorem pd_1 : parseMethodDescriptor "([III[BI)I" = some ⟨[(.array .int), .int, .int, (.array .byte), .int], some .int⟩ := by decide +kernel
theorem ef_1 (x0 : Addr) (x1 : Int32) (x2 : Int32) (x3 : Addr) (x4 : Int32) (m : MethodId) : entryFrame m #[(.ref x0), (.int x1), (.int x2), (.ref x3), (.int x4)] 8 = mkF m 0 #[.val (.ref x0), .val (.int x1), .val (.int x2), .val (.ref x3), .val (.int x4), .unset, .unset, .unset] [] := by first | (simp [entryFrame, mkF, argsToLocals, Value.category]; done) | rfl
theorem d2_0 : decode method_3_code 0 = .ok (.iload_n 0, 1) := by decide +kernel
theorem d2_1 : decode method_3_code 1 = .ok (.iload_n 1, 1) := by decide +kernel
theorem d2_2 : decode method_3_code 2 = .ok (.isub, 1) := by decide +kernel
theorem d2_3 : decode method_3_code 3 = .ok (.istore 6, 2) := by decide +kernel
theorem d2_5 : decode method_3_code 5 = .ok (.iload 6, 2) := by decide +kernel
theorem d2_7 : decode method_3_code 7 = .ok (.ifCond .lt 11, 3) := by decide +kernel
theorem d2_10 : decode method_3_code 10 = .ok (.iload 6, 2) := by decide +kernel
theorem d2_12 : decode method_3_code 12 = .ok (.iload_n 2, 1) := by decide +kernel
theorem d2_13 : decode method_3_code 13 = .ok (.iload_n 3, 1) := by decide +kernel
theorem d2_14 : decode method_3_code 14 = .ok (.imul, 1) := by decide +kernel
theorem d2_15 : decode method_3_code 15 = .ok (.if_icmp .lt 6, 3) := by decide +kernel
theorem d2_18 : decode method_3_code 18 = .ok (.iload 5, 2) := by decide +kernel
theorem d2_20 : decode method_3_code 20 = .ok (.ireturn, 1) := by decide +kernel
theorem d2_21 : decode method_3_code 21 = .ok (.iload 6, 2) := by decide +kernel
theorem d2_23 : decode method_3_code 23 = .ok (.iload_n 3, 1) := by decide +kernel
theorem d2_24 : decode method_3_code 24 = .ok (.idiv, 1) := by decide +kernel
theorem d2_25 : decode method_3_code 25 = .ok (.istore 7, 2) := by decide +kernel
theorem d2_27 : decode method_3_code 27 = .ok (.iload 6, 2) := by decide +kernel
theorem d2_29 : decode method_3_code 29 = .ok (.iload 7, 2) := by decide +kernel
theorem d2_31 : decode method_3_code 31 = .ok (.iload_n 3, 1) := by decide +kernel
theorem d2_32 : decode method_3_code 32 = .ok (.imul, 1) := by decide +kernel
theorem d2_33 : decode method_3_code 33 = .ok (.isub, 1) := by decide +kernel
theorem d2_34 : decode method_3_code 34 = .ok (.istore 8, 2) := by decide +kernel
theorem d2_36 : decode method_3_code 36 = .ok (.aload 4, 2) := by decide +kernel
theorem d2_38 : decode method_3_code 38 = .ok (.iload 7, 2) := by decide +kernel
theorem d2_40 : decode method_3_code 40 = .ok (.iaload, 1) := by decide +kernel
theorem d2_41 : decode method_3_code 41 = .ok (.istore 9, 2) := by decide +kernel
theorem d2_43 : decode method_3_code 43 = .ok (.iload 8, 2) := by decide +kernel
theorem d2_45 : decode method_3_code 45 = .ok (.ifCond .ne 7, 3) := by decide +kernel
theorem d2_48 : decode method_3_code 48 = .ok (.iload 9, 2) := by decide +kernel
theorem d2_50 : decode method_3_code 50 = .ok (.i2b, 1) := by decide +kernel
theorem d2_51 : decode method_3_code 51 = .ok (.ireturn, 1) := by decide +kernel
theorem d2_52 : decode method_3_code 52 = .ok (.iload 8, 2) := by decide +kernel
theorem d2_54 : decode method_3_code 54 = .ok (.iconst 1, 1) := by decide +kernel
theorem d2_55 : decode method_3_code 55 = .ok (.if_icmp .ne 10, 3) := by decide +kernel
theorem d2_58 : decode method_3_code 58 = .ok (.iload 9, 2) := by decide +kernel
theorem d2_60 : decode method_3_code 60 = .ok (.bipush 8, 2) := by decide +kernel
theorem d2_62 : decode method_3_code 62 = .ok (.ishr, 1) := by decide +kernel
theorem d2_63 : decode method_3_code 63 = .ok (.i2b, 1) := by decide +kernel
theorem d2_64 : decode method_3_code 64 = .ok (.ireturn, 1) := by decide +kernel
theorem d2_65 : decode method_3_code 65 = .ok (.iload 8, 2) := by decide +kernel
theorem d2_67 : decode method_3_code 67 = .ok (.iconst 2, 1) := by decide +kernel
theorem d2_68 : decode method_3_code 68 = .ok (.if_icmp .ne 10, 3) := by decide +kernel
theorem d2_71 : decode method_3_code 71 = .ok (.iload 9, 2) := by decide +kernel
theorem d2_73 : decode method_3_code 73 = .ok (.bipush 16, 2) := by decide +kernel
theorem d2_75 : decode method_3_code 75 = .ok (.ishr, 1) := by decide +kernel
theorem d2_76 : decode method_3_code 76 = .ok (.i2b, 1) := by decide +kernel
theorem d2_77 : decode method_3_code 77 = .ok (.ireturn, 1) := by decide +kernel
theorem d2_78 : decode method_3_code 78 = .ok (.iload 9, 2) := by decide +kernel
theorem d2_80 : decode method_3_code 80 = .ok (.bipush 24, 2) := by decide +kernel
theorem d2_82 : decode method_3_code 82 = .ok (.ishr, 1) := by decide +kernel
theorem d2_83 : decode method_3_code 83 = .ok (.i2b, 1) := by decide +kernel
theorem d2_84 : decode method_3_code 84 = .ok (.ireturn, 1) := by decide +kernel
theorem pn_2 : plainFor (⟨"com/example/overscore/overscore/index/PackedIntsPackPinLaw", "exp", "(IIII[IB)B"⟩ : MethodName) = true := plainFor_of_name (by first | (simp [plainName, overriddenIn]; done) | decide +kernel)
theorem pd_2 : parseMethodDescriptor "(IIII[IB)B" = some ⟨[.int, .int, .int, .int, (.array .int), .byte], some .byte⟩ := by decide +kernel
theorem ef_2 (x0 : Int32) (x1 : Int32) (x2 : Int32) (x3 : Int32) (x4 : Addr) (x5 : Int32) (m : MethodId) : entryFrame m #[(.int x0), (.int x1), (.int x2), (.int x3), (.ref x4), (.int x5)] 10 = mkF m 0 #[.val (.int x0), .val (.int x1), .val (.int x2), .val (.int x3), .val (.ref x4), .val (.int x5), .unset, .unset, .unset, .unset] [] := by first | (simp [entryFrame, mkF, argsToLocals, Value.category]; done) | rfl
theorem pn_0 : plainFor x = true := plainFor_of_name (by first | (simp [plainName, overriddenIn]; done) | decide +kernel)
theorem pd_0 : parseMethodDescriptor "(IIII)Z" = some ⟨[.int, .int, .int, .int], some .boolean⟩ := by decide +kernel
theorem ef_0 (x0 : Int32) (x1 : Int32) (x2 : Int32) (x3 : Int32) (m : MethodId) : entryFrame m #[(.int x0), (.int x1), (.int x2), (.int x3)] maxLocals = mkF m 0 #[.val (.int x0), .val (.int x1), .val (.int x2), .val (.int x3), .unset, .unset, .unset, .unset, .unset, .unset, .unset, .unset] [] := by first | (simp [entryFrame, mkF, argsToLocals, Value.category, maxLocals]; done) | rfl
set_option maxRecDepth 65536 in
set_option maxHeartbeats 40000000 in
theorem loop_in {p : Program} {l : Launch} {e : Env} {R : Room} {s : State} {m_ : MethodId} {args : Array Value} {below : List Frame} {meth : Method} {c : Code} {cells slots : Nat} {Z : State} {a0 : Array Value} {Q : Option Value → Heap → List Loc → Prop} {Cc Sc : Nat} {vs a : Addr} {x1 x2 x4 : Int32} {N NV n0 : Nat} {f : Nat → Value} {g : Nat → Int32} {kI : Int32} {kn : Nat}
    (C : Cx Z a0 p s m_ meth c prog_5_method_3_code 8 "com/example/overscore/overscore/index/PackedInts" "pack" (some .int)) (ga : n0 ≤ a) (ne : vs ≠ a) (hC : cells ≤ Cc) (hS : slots ≤ Sc) (hN : N < 2147483648) (a1 : 0 ≤ x4.toInt) (w1 : 0 ≤ x2.toInt) (w2 : x2.toInt ≤ 4) (k1 : kI.toInt = kn) (k2 : kn < NV) (hfit : x4.toInt + (kn * x2.toInt.toNat + x2.toInt.toNat : Nat) ≤ N) :
    ∀ (r : Nat) (T0 : State) (locs : List Loc) (h0 : Heap) (m : Nat) (nxt bI : Int32), Stand p l e R s m_ args below meth c T0 locs cells slots → T0.heap = h0 → Fr n0 locs → n0 ≤ h0.size → Aw Z h0 a .byte N (own_ct f g x2.toInt.toNat x4.toInt m) → Aw Z h0 vs .int NV (fun j => .int (g j)) → 0 ≤ bI.toInt → bI.toInt + r = x2.toInt → m = kn * x2.toInt.toNat + bI.toInt.toNat → nxt.toInt = x4.toInt + m →
    (∀ T' locs' h' nx bb, Stand p l e R s m_ args below meth c T' locs' cells slots → T'.heap = h' → Fr n0 locs' → n0 ≤ h'.size → Keep h0 h' [a] → Aw Z h' a .byte N (own_ct f g x2.toInt.toNat x4.toInt (kn * x2.toInt.toNat + x2.toInt.toNat)) → Aw Z h' vs .int NV (fun j => .int (g j)) → nx.toInt = x4.toInt + (kn * x2.toInt.toNat + x2.toInt.toNat : Nat) → Go p e below s m_ Q Cc Sc T' 46 #[.val (.ref vs), .val (.int x1), .val (.int x2), .val (.ref a), .val (.int x4), .val (.int nx), .val (.int kI), .val (.int bb)] []) →
    Go p e below s m_ Q Cc Sc T0 16 #[.val (.ref vs), .val (.int x1), .val (.int x2), .val (.ref a), .val (.int x4), .val (.int nxt), .val (.int kI), .val (.int bI)] [] := by
  intro r
  induction r with
  | zero =>
    intro T0 locs h0 m nxt bI X0 e0 N0 Z0 A B b0 br hm hnx kk
    generalize hP : kn * x2.toInt.toNat = P at *
    refine g_iload C X0 d1_16 rfl rfl ?_
    refine g_iloadN C X0 d1_18 rfl rfl ?_
    refine g_icmp C X0 d1_19 (by decide) rfl rfl ?_ ?_
    · intro h19
      have h19 : bI.toInt ≥ x2.toInt := h19
      have ee : m = P + x2.toInt.toNat := by omega
      subst ee
      exact kk T0 _ h0 nxt bI X0 e0 N0 Z0 (Keep.refl _ _) A B hnx
    · intro h19
      have h19 : bI.toInt < x2.toInt := h19
      exfalso; omega
  | succ r ih =>
    intro T0 locs h0 m nxt bI X0 e0 N0 Z0 A B b0 br hm hnx kk
    generalize hP : kn * x2.toInt.toNat = P at *
    refine g_iload C X0 d1_16 rfl rfl ?_
    refine g_iloadN C X0 d1_18 rfl rfl ?_
    refine g_icmp C X0 d1_19 (by decide) rfl rfl ?_ ?_
    · intro h19
      have h19 : bI.toInt ≥ x2.toInt := h19
      exfalso; omega
    · intro h19
      have h19 : bI.toInt < x2.toInt := h19
      refine g_aloadN C X0 d1_22 rfl rfl ?_
      refine g_iload C X0 d1_23 rfl rfl ?_
      refine g_iincV C X0 d1_25 rfl (y := (1 : Int32)) rfl (fun v__ => #[.val (.ref vs), .val (.int x1), .val (.int x2), .val (.ref a), .val (.int x4), .val (.int v__), .val (.int kI), .val (.int bI)]) rfl rfl ?_
      intro v25 h_v25
      have q25 := c_iadd nxt (1 : Int32)
      rw [show (1 : Int32).toInt = 1 by decide, ← h_v25] at q25
      have rq25 := rng32 v25
      have q25 : v25.toInt = nxt.toInt + 1 := by omega
      refine g_aloadN C X0 d1_28 rfl rfl ?_
      refine g_iload C X0 d1_29 rfl rfl ?_
      refine g_iaload C X0 d1_31 e0 B (by omega) (by omega) (v := (.int (g kI.toInt.toNat))) rfl rfl ?_
      refine g_iload C X0 d1_32 rfl rfl ?_
      refine g_bipush C X0 (8 : Int32) d1_34 rfl rfl ?_
      refine g_imul C X0 d1_36 rfl ?_
      refine g_iushr C X0 d1_37 rfl ?_
      refine g_i2b C X0 d1_38 rfl ?_
      refine g_bastore C X0 d1_39 e0 A (by omega) (by omega) rfl ?_
      intro T1 h1_ X1 e1 W1 A1
      have N1 := Fr.snoc X1 N0 ga
      have Z1 : n0 ≤ h1_.size := Nat.le_trans Z0 (Keep.of_wr W1).1
      have A1_vs := B.other W1 ne
      refine g_iincV C X1 d1_40 rfl (y := (1 : Int32)) rfl (fun v__ => #[.val (.ref vs), .val (.int x1), .val (.int x2), .val (.ref a), .val (.int x4), .val (.int v25), .val (.int kI), .val (.int v__)]) rfl rfl ?_
      intro v40 h_v40
      have q40 := c_iadd bI (1 : Int32)
      rw [show (1 : Int32).toInt = 1 by decide, ← h_v40] at q40
      have rq40 := rng32 v40
      have rb := rng32 x2
      have q40 : v40.toInt = bI.toInt + 1 := by omega
      refine g_goto C X1 d1_43 (by decide) rfl ?_
      have hw := own_pbyte (g kI.toInt.toNat) bI bI.toInt.toNat (by omega) (by omega)
      have hk : kI.toInt.toNat = kn := by omega
      rw [hk] at hw
      have hwk := own_wk g x2.toInt.toNat kn bI.toInt.toNat (by omega)
      rw [hP, ← hm] at hwk
      have A' : Aw Z h1_ a .byte N (own_ct f g x2.toInt.toNat x4.toInt (m + 1)) := Aw.of A1 (fun j _ => by
        rw [hk]
        exact own_ctS f g _ _ m nxt.toInt a1 hnx _ (hw.trans hwk.symm) j)
      refine ih T1 _ h1_ (m + 1) v25 v40 X1 e1 N1 Z1 A' A1_vs (by omega) (by omega) (by omega) (by omega) ?_
      intro T' locs' h' nx bb X' e' N' Z' K' AA BB hh
      exact kk T' locs' h' nx bb X' e' N' Z' ((Keep.of_wr W1).trans K' (fun x hx => Or.inl hx)) AA BB hh
set_option maxRecDepth 65536 in
set_option maxHeartbeats 40000000 in
theorem loop_out {p : Program} {l : Launch} {e : Env} {R : Room} {s : State} {m : MethodId} {args : Array Value} {below : List Frame} {meth : Method} {c : Code} {cells slots : Nat} {Z : State} {a0 : Array Value} {Q : Option Value → Heap → List Loc → Prop} {Cc Sc : Nat} {vs a : Addr} {x1 x2 x4 : Int32} {N NV n0 : Nat} {f : Nat → Value} {g : Nat → Int32}
    (C : Cx Z a0 p s m meth c prog_5_method_3_code 8 "com/example/overscore/overscore/index/PackedInts" "pack" (some .int)) (ga : n0 ≤ a) (ne : vs ≠ a) (hC : cells ≤ Cc) (hS : slots ≤ Sc) (hN : N < 2147483648) (a1 : 0 ≤ x4.toInt) (w1 : 0 ≤ x2.toInt) (w2 : x2.toInt ≤ 4) (c1 : 0 ≤ x1.toInt) (c2 : x1.toInt ≤ NV) (hfit : x4.toInt + (x1.toInt.toNat * x2.toInt.toNat : Nat) ≤ N) :
    ∀ (r : Nat) (T0 : State) (locs : List Loc) (h0 : Heap) (nxt kI : Int32) (s7 : Slot), Stand p l e R s m args below meth c T0 locs cells slots → T0.heap = h0 → Fr n0 locs → n0 ≤ h0.size → Aw Z h0 a .byte N (own_ct f g x2.toInt.toNat x4.toInt (kI.toInt.toNat * x2.toInt.toNat)) → Aw Z h0 vs .int NV (fun j => .int (g j)) → 0 ≤ kI.toInt → kI.toInt + r = x1.toInt → nxt.toInt = x4.toInt + (kI.toInt.toNat * x2.toInt.toNat : Nat) → (s7 = .unset ∨ ∃ w, s7 = .val (.int w)) →
    (∀ h' L' res, Keep h0 h' [a] → Fr n0 L' → res.toInt = x4.toInt + (x1.toInt.toNat * x2.toInt.toNat : Nat) → Aw Z h' a .byte N (own_ct f g x2.toInt.toNat x4.toInt (x1.toInt.toNat * x2.toInt.toNat)) → Q (some (.int res)) h' L') →
    Go p e below s m Q Cc Sc T0 7 #[.val (.ref vs), .val (.int x1), .val (.int x2), .val (.ref a), .val (.int x4), .val (.int nxt), .val (.int kI), s7] [] := by
  intro r
  induction r with
  | zero =>
    intro T0 locs h0 nxt kI s7 X0 e0 N0 Z0 A B k0 kr hnx hs kQ
    refine g_iload C X0 d1_7 rfl rfl ?_
    refine g_iloadN C X0 d1_9 rfl rfl ?_
    refine g_icmp C X0 d1_10 (by decide) rfl rfl ?_ ?_
    · intro h10
      have h10 : kI.toInt ≥ x1.toInt := h10
      refine g_iload C X0 d1_52 rfl rfl ?_
      have ek : kI.toInt.toNat = x1.toInt.toNat := by omega
      rw [ek] at A hnx
      exact g_ireturn C X0 d1_54 rfl (by rw [e0]; exact kQ _ _ _ (Keep.refl _ _) N0 hnx A) hC hS
    · intro h10
      have h10 : kI.toInt < x1.toInt := h10
      exfalso; omega
  | succ r ih =>
    intro T0 locs h0 nxt kI s7 X0 e0 N0 Z0 A B k0 kr hnx hs kQ
    rcases hs with rfl | ⟨ow, rfl⟩
    · skip
      refine g_iload C X0 d1_7 rfl rfl ?_
      refine g_iloadN C X0 d1_9 rfl rfl ?_
      refine g_icmp C X0 d1_10 (by decide) rfl rfl ?_ ?_
      · intro h10
        have h10 : kI.toInt ≥ x1.toInt := h10
        exfalso; omega
      · intro h10
        have h10 : kI.toInt < x1.toInt := h10
        refine g_iconst C X0 (0 : Int32) d1_13 rfl rfl ?_
        refine g_istore C X0 d1_14 #[.val (.ref vs), .val (.int x1), .val (.int x2), .val (.ref a), .val (.int x4), .val (.int nxt), .val (.int kI), .val (.int (0 : Int32))] rfl rfl ?_
        have hmul : kI.toInt.toNat * x2.toInt.toNat + x2.toInt.toNat = (kI.toInt.toNat + 1) * x2.toInt.toNat := (Nat.succ_mul _ _).symm
        have hle : (kI.toInt.toNat + 1) * x2.toInt.toNat ≤ x1.toInt.toNat * x2.toInt.toNat := Nat.mul_le_mul_right _ (by omega)
        refine loop_in (f := f) (g := g) (kn := kI.toInt.toNat) C ga ne hC hS hN a1 w1 w2 (by omega) (by omega) (by omega) x2.toInt.toNat T0 _ h0 (kI.toInt.toNat * x2.toInt.toNat) nxt (0 : Int32) X0 e0 N0 Z0 A B (by decide) (by rw [show (0 : Int32).toInt = 0 by decide]; omega) (by rw [show (0 : Int32).toInt.toNat = 0 by decide]; rfl) hnx ?_
        intro T1 locs1 h1 nx bb X1 e1 N1 Z1 K1 A1 B1 hnx1
        have hrx := rng32 x1
        refine g_iincV C X1 d1_46 rfl (y := (1 : Int32)) rfl (fun v__ => #[.val (.ref vs), .val (.int x1), .val (.int x2), .val (.ref a), .val (.int x4), .val (.int nx), .val (.int v__), .val (.int bb)]) rfl rfl ?_
        intro v46 h_v46
        have q46 := c_iadd kI (1 : Int32)
        rw [show (1 : Int32).toInt = 1 by decide, ← h_v46] at q46
        have rq46 := rng32 v46
        have q46 : v46.toInt = kI.toInt + 1 := by omega
        have ek : v46.toInt.toNat = kI.toInt.toNat + 1 := by omega
        refine g_goto C X1 d1_49 (by decide) rfl ?_
        rw [hmul] at A1 hnx1
        rw [← ek] at A1 hnx1
        refine ih T1 _ h1 nx v46 _ X1 e1 N1 Z1 A1 B1 (by omega) (by omega) hnx1 (Or.inr ⟨_, rfl⟩) ?_
        intro h' L' res K' N' hres A'
        exact kQ h' L' res (K1.trans K' (fun x hx => Or.inl hx)) N' hres A'
    · skip
      refine g_iload C X0 d1_7 rfl rfl ?_
      refine g_iloadN C X0 d1_9 rfl rfl ?_
      refine g_icmp C X0 d1_10 (by decide) rfl rfl ?_ ?_
      · intro h10
        have h10 : kI.toInt ≥ x1.toInt := h10
        exfalso; omega
      · intro h10
        have h10 : kI.toInt < x1.toInt := h10
        refine g_iconst C X0 (0 : Int32) d1_13 rfl rfl ?_
        refine g_istore C X0 d1_14 #[.val (.ref vs), .val (.int x1), .val (.int x2), .val (.ref a), .val (.int x4), .val (.int nxt), .val (.int kI), .val (.int (0 : Int32))] rfl rfl ?_
        have hmul : kI.toInt.toNat * x2.toInt.toNat + x2.toInt.toNat = (kI.toInt.toNat + 1) * x2.toInt.toNat := (Nat.succ_mul _ _).symm
        have hle : (kI.toInt.toNat + 1) * x2.toInt.toNat ≤ x1.toInt.toNat * x2.toInt.toNat := Nat.mul_le_mul_right _ (by omega)
        refine loop_in (f := f) (g := g) (kn := kI.toInt.toNat) C ga ne hC hS hN a1 w1 w2 (by omega) (by omega) (by omega) x2.toInt.toNat T0 _ h0 (kI.toInt.toNat * x2.toInt.toNat) nxt (0 : Int32) X0 e0 N0 Z0 A B (by decide) (by rw [show (0 : Int32).toInt = 0 by decide]; omega) (by rw [show (0 : Int32).toInt.toNat = 0 by decide]; rfl) hnx ?_
        intro T1 locs1 h1 nx bb X1 e1 N1 Z1 K1 A1 B1 hnx1
        have hrx := rng32 x1
        refine g_iincV C X1 d1_46 rfl (y := (1 : Int32)) rfl (fun v__ => #[.val (.ref vs), .val (.int x1), .val (.int x2), .val (.ref a), .val (.int x4), .val (.int nx), .val (.int v__), .val (.int bb)]) rfl rfl ?_
        intro v46 h_v46
        have q46 := c_iadd kI (1 : Int32)
        rw [show (1 : Int32).toInt = 1 by decide, ← h_v46] at q46
        have rq46 := rng32 v46
        have q46 : v46.toInt = kI.toInt + 1 := by omega
        have ek : v46.toInt.toNat = kI.toInt.toNat + 1 := by omega
        refine g_goto C X1 d1_49 (by decide) rfl ?_
        rw [hmul] at A1 hnx1
        rw [← ek] at A1 hnx1
        refine ih T1 _ h1 nx v46 _ X1 e1 N1 Z1 A1 B1 (by omega) (by omega) hnx1 (Or.inr ⟨_, rfl⟩) ?_
        intro h' L' res K' N' hres A'
        exact kQ h' L' res (K1.trans K' (fun x hx => Or.inl hx)) N' hres A'
def Q_rm1 (Z : State) (vs : Addr) (x1 : Int32) (x2 : Int32) (a : Addr) (x4 : Int32) (N : Nat) (NV : Nat) (f : Nat → Value) (g : Nat → Int32) (h0 : Heap) (n0 : Nat) (v : Option Value) (h : Heap) (L : List Loc) : Prop := (∃ res : Int32, v = some (.int res) ∧ res.toInt = x4.toInt + (x1.toInt.toNat * x2.toInt.toNat : Nat)) ∧ Fr n0 L ∧ Keep h0 h [a] ∧ Aw Z h a .byte N (own_ct f g x2.toInt.toNat x4.toInt (x1.toInt.toNat * x2.toInt.toNat))
set_option maxRecDepth 65536 in
set_option maxHeartbeats 40000000 in
theorem rm1 (l : Launch) (Z : State) (a0 : Array Value) (hw : ∀ d ∈ tables_1, d.before a0 Z = true) (ws : List Jvm.Cond) (vs : Addr) (x1 : Int32) (x2 : Int32) (a : Addr) (x4 : Int32) (N NV : Nat) (f : Nat → Value) (g : Nat → Int32) (h0 : Heap) (n0 : Nat) (Z0 : n0 ≤ h0.size) (ga : n0 ≤ a) (ne : vs ≠ a) (hN : N < 2147483648) (A : Aw Z h0 a .byte N f) (B : Aw Z h0 vs .int NV (fun j => .int (g j))) (a1 : 0 ≤ x4.toInt) (w1 : 0 ≤ x2.toInt) (w2 : x2.toInt ≤ 4) (c1 : 0 ≤ x1.toInt) (c2 : x1.toInt ≤ NV) (hfit : x4.toInt + (x1.toInt.toNat * x2.toInt.toNat : Nat) ≤ N) :
    MetFree l (⟨"com/example/overscore/overscore/index/PackedInts", "pack", "([III[BI)I"⟩ : MethodName) (head1 (Jvm.Cond.code (⟨"com/example/overscore/overscore/index/PackedInts", "pack", "([III[BI)I"⟩ : MethodName) prog_5_method_3_code 8 (some .int) :: ws) ({ frames := 0, cells := 0, slots := 0, locals := 0 } : Room)) (fun aa U => aa = #[(.ref vs), (.int x1), (.int x2), (.ref a), (.int x4)] ∧ Z.Warmed39 U.vm ∧ U.heap = h0) (fun _ _ _ _ _ => True) (fun _ U oo U' => ∃ rv Lr, oo = .returned rv ∧ Q_rm1 Z vs x1 x2 a x4 N NV f g h0 n0 rv U'.heap Lr ∧ FrameEnd U oo U' Lr ({ frames := 0, cells := 0, slots := 0, locals := 0 } : Room).cells ({ frames := 0, cells := 0, slots := 0, locals := 0 } : Room).slots) := by
  refine g_enter pn_1 hw (ef_1 vs x1 x2 a x4) ?_
  intro p e s m below meth c T0 C X0 e0
  have C : Cx Z a0 p s m meth c prog_5_method_3_code 8 "com/example/overscore/overscore/index/PackedInts" "pack" (some .int) := C
  have N0 := Fr.nil n0
  refine g_iload C X0 d1_0 rfl rfl ?_
  refine g_istore C X0 d1_2 #[.val (.ref vs), .val (.int x1), .val (.int x2), .val (.ref a), .val (.int x4), .val (.int x4), .unset, .unset] rfl rfl ?_
  refine g_iconst C X0 (0 : Int32) d1_4 rfl rfl ?_
  refine g_istore C X0 d1_5 #[.val (.ref vs), .val (.int x1), .val (.int x2), .val (.ref a), .val (.int x4), .val (.int x4), .val (.int (0 : Int32)), .unset] rfl rfl ?_
  have z0 : (0 : Int32).toInt.toNat * x2.toInt.toNat = 0 := by rw [show (0 : Int32).toInt.toNat = 0 by decide, Nat.zero_mul]
  refine loop_out (f := f) (g := g) C ga ne (by decide) (by decide) hN a1 w1 w2 c1 c2 hfit x1.toInt.toNat T0 _ h0 x4 (0 : Int32) _ X0 e0 N0 Z0 ?_ B (by decide) (by rw [show (0 : Int32).toInt = 0 by decide]; omega) (by rw [z0]; omega) (Or.inl rfl) (fun h' L' res K' N' hres A' => ⟨⟨res, rfl, hres⟩, N', K', A'⟩)
  rw [z0]
  exact Aw.of A (fun j _ => own_ct0 f g _ _ j)
def Q_rm2 (Z : State) (x0 : Int32) (x1 : Int32) (x2 : Int32) (x3 : Int32) (vs : Addr) (x5 : Int32) (g : Nat → Int32) (w : Int32) (h0 : Heap) (n0 : Nat) (v : Option Value) (h : Heap) (L : List Loc) : Prop := v = some (.int w) ∧ Fr n0 L ∧ h = h0
set_option maxRecDepth 65536 in
set_option maxHeartbeats 40000000 in
theorem rm2 (l : Launch) (Z : State) (a0 : Array Value) (hw : ∀ d ∈ tables_1, d.before a0 Z = true) (ws : List Jvm.Cond) (x0 : Int32) (x1 : Int32) (x2 : Int32) (x3 : Int32) (vs : Addr) (x5 : Int32) (g : Nat → Int32) (w : Int32) (h0 : Heap) (n0 : Nat) (Z0 : n0 ≤ h0.size) (B : Aw Z h0 vs .int 3 (fun j => .int (g j))) (i0 : 0 ≤ x0.toInt) (i1 : x0.toInt ≤ 15) (a1 : 0 ≤ x1.toInt) (a2 : x1.toInt ≤ 3) (c1 : 0 ≤ x2.toInt) (c2 : x2.toInt ≤ 3) (hwd3 : x3 = (0 : Int32) ∨ x3 = (1 : Int32) ∨ x3 = (2 : Int32) ∨ x3 = (3 : Int32) ∨ x3 = (4 : Int32)) (hs : nar .byte x5 = x5) (hg : own_gp w g (x0.toInt - x1.toInt) (x2.toInt * x3.toInt) x3.toInt x5) :
    MetFree l (⟨"com/example/overscore/overscore/index/PackedIntsPackPinLaw", "exp", "(IIII[IB)B"⟩ : MethodName) (head1 (Jvm.Cond.code (⟨"com/example/overscore/overscore/index/PackedIntsPackPinLaw", "exp", "(IIII[IB)B"⟩ : MethodName) method_3_code 10 (some .byte) :: ws) ({ frames := 0, cells := 0, slots := 0, locals := 0 } : Room)) (fun aa U => aa = #[(.int x0), (.int x1), (.int x2), (.int x3), (.ref vs), (.int x5)] ∧ Z.Warmed39 U.vm ∧ U.heap = h0) (fun _ _ _ _ _ => True) (fun _ U oo U' => ∃ rv Lr, oo = .returned rv ∧ Q_rm2 Z x0 x1 x2 x3 vs x5 g w h0 n0 rv U'.heap Lr ∧ FrameEnd U oo U' Lr ({ frames := 0, cells := 0, slots := 0, locals := 0 } : Room).cells ({ frames := 0, cells := 0, slots := 0, locals := 0 } : Room).slots) := by
  refine g_enter pn_2 hw (ef_2 x0 x1 x2 x3 vs x5) ?_
  intro p e s m below meth c T0 C X0 e0
  have C : Cx Z a0 p s m meth c method_3_code 10 "com/example/overscore/overscore/index/PackedIntsPackPinLaw" "exp" (some .byte) := C
  have N0 := Fr.nil n0
  have j1 := c_isub x0 x1
  have j2 := rng32 (x0 - x1)
  rcases hwd3 with rfl | rfl | rfl | rfl | rfl
  · skip
    rw [show (0 : Int32).toInt = 0 by decide] at hg
    have cw := c_imul x2 (0 : Int32)
    rw [show (0 : Int32).toInt = 0 by decide] at cw
    have cr := rng32 (x2 * (0 : Int32))
    have cw : (x2 * (0 : Int32)).toInt = x2.toInt * 0 := by omega
    refine g_iloadN C X0 d2_0 rfl rfl ?_
    refine g_iloadN C X0 d2_1 rfl rfl ?_
    refine g_isub C X0 d2_2 rfl ?_
    refine g_istoreV C X0 d2_3 (fun v__ => #[.val (.int x0), .val (.int x1), .val (.int x2), .val (.int (0 : Int32)), .val (.ref vs), .val (.int x5), .val (.int v__), .unset, .unset, .unset]) rfl rfl ?_
    intro v3 h_v3
    rw [← h_v3] at j1 j2
    have j3 : v3.toInt = x0.toInt - x1.toInt := by omega
    rw [← j3] at hg
    refine g_iload C X0 d2_5 rfl rfl ?_
    refine g_if C X0 d2_7 (by decide) rfl rfl ?_ ?_
    · intro h7
      have h7 : v3.toInt < 0 := h7
      refine g_iload C X0 d2_18 rfl rfl ?_
      exact g_ireturnN C X0 d2_20 rfl (Or.inr (Or.inl rfl)) ⟨(congrArg (fun z => some (Value.int z)) (hs.trans (hg.1 (by omega)).symm)), N0, e0⟩ (by decide) (by decide)
    · intro h7
      have h7 : v3.toInt ≥ 0 := h7
      refine g_iload C X0 d2_10 rfl rfl ?_
      refine g_iloadN C X0 d2_12 rfl rfl ?_
      refine g_iloadN C X0 d2_13 rfl rfl ?_
      refine g_imul C X0 d2_14 rfl ?_
      refine g_icmp C X0 d2_15 (by decide) rfl rfl ?_ ?_
      · intro h15
        have h15 : v3.toInt < (x2 * (0 : Int32)).toInt := h15
        exfalso; omega
      · intro h15
        have h15 : v3.toInt ≥ (x2 * (0 : Int32)).toInt := h15
        refine g_iload C X0 d2_18 rfl rfl ?_
        exact g_ireturnN C X0 d2_20 rfl (Or.inr (Or.inl rfl)) ⟨(congrArg (fun z => some (Value.int z)) (hs.trans (hg.1 (by omega)).symm)), N0, e0⟩ (by decide) (by decide)
  · skip
    rw [show (1 : Int32).toInt = 1 by decide] at hg
    have cw := c_imul x2 (1 : Int32)
    rw [show (1 : Int32).toInt = 1 by decide] at cw
    have cr := rng32 (x2 * (1 : Int32))
    have cw : (x2 * (1 : Int32)).toInt = x2.toInt * 1 := by omega
    refine g_iloadN C X0 d2_0 rfl rfl ?_
    refine g_iloadN C X0 d2_1 rfl rfl ?_
    refine g_isub C X0 d2_2 rfl ?_
    refine g_istoreV C X0 d2_3 (fun v__ => #[.val (.int x0), .val (.int x1), .val (.int x2), .val (.int (1 : Int32)), .val (.ref vs), .val (.int x5), .val (.int v__), .unset, .unset, .unset]) rfl rfl ?_
    intro v3 h_v3
    rw [← h_v3] at j1 j2
    have j3 : v3.toInt = x0.toInt - x1.toInt := by omega
    rw [← j3] at hg
    refine g_iload C X0 d2_5 rfl rfl ?_
    refine g_if C X0 d2_7 (by decide) rfl rfl ?_ ?_
    · intro h7
      have h7 : v3.toInt < 0 := h7
      refine g_iload C X0 d2_18 rfl rfl ?_
      exact g_ireturnN C X0 d2_20 rfl (Or.inr (Or.inl rfl)) ⟨(congrArg (fun z => some (Value.int z)) (hs.trans (hg.1 (by omega)).symm)), N0, e0⟩ (by decide) (by decide)
    · intro h7
      have h7 : v3.toInt ≥ 0 := h7
      refine g_iload C X0 d2_10 rfl rfl ?_
      refine g_iloadN C X0 d2_12 rfl rfl ?_
      refine g_iloadN C X0 d2_13 rfl rfl ?_
      refine g_imul C X0 d2_14 rfl ?_
      refine g_icmp C X0 d2_15 (by decide) rfl rfl ?_ ?_
      · intro h15
        have h15 : v3.toInt < (x2 * (1 : Int32)).toInt := h15
        refine g_iload C X0 d2_21 rfl rfl ?_
        refine g_iloadN C X0 d2_23 rfl rfl ?_
        refine g_idiv C X0 d2_24 (by decide) rfl ?_
        refine g_istoreV C X0 d2_25 (fun v__ => #[.val (.int x0), .val (.int x1), .val (.int x2), .val (.int (1 : Int32)), .val (.ref vs), .val (.int x5), .val (.int v3), .val (.int v__), .unset, .unset]) rfl rfl ?_
        intro v25 h_v25
        have g2 := hg.2 (by omega) (by omega)
        have kd := (c_idiv v3 (1 : Int32) 1 (by decide) (by decide)).1 (by omega)
        rw [← h_v25] at kd
        have km := c_imul v25 (1 : Int32)
        rw [show (1 : Int32).toInt = 1 by decide] at km
        have kr := rng32 (v25 * (1 : Int32))
        have kd3 : 0 ≤ v25.toInt ∧ v25.toInt ≤ 2 := by omega
        have km : (v25 * (1 : Int32)).toInt = v25.toInt * 1 := by omega
        refine g_iload C X0 d2_27 rfl rfl ?_
        refine g_iload C X0 d2_29 rfl rfl ?_
        refine g_iloadN C X0 d2_31 rfl rfl ?_
        refine g_imul C X0 d2_32 rfl ?_
        refine g_isub C X0 d2_33 rfl ?_
        refine g_istoreV C X0 d2_34 (fun v__ => #[.val (.int x0), .val (.int x1), .val (.int x2), .val (.int (1 : Int32)), .val (.ref vs), .val (.int x5), .val (.int v3), .val (.int v25), .val (.int v__), .unset]) rfl rfl ?_
        intro v34 h_v34
        have bm := c_isub v3 (v25 * (1 : Int32))
        rw [← h_v34] at bm
        have br := rng32 v34
        have bq : v34.toInt = v3.toInt % 1 := by omega
        rw [← bq, ← kd] at g2
        refine g_aload C X0 d2_36 rfl rfl ?_
        refine g_iload C X0 d2_38 rfl rfl ?_
        refine g_iaload C X0 d2_40 e0 B (by omega) (by omega) (v := (.int (g v25.toInt.toNat))) rfl rfl ?_
        refine g_istoreV C X0 d2_41 (fun v__ => #[.val (.int x0), .val (.int x1), .val (.int x2), .val (.int (1 : Int32)), .val (.ref vs), .val (.int x5), .val (.int v3), .val (.int v25), .val (.int v34), .val (.int v__)]) rfl rfl ?_
        intro v41 h_v41
        rw [← h_v41] at g2
        have rx := rng32 v41
        refine g_iload C X0 d2_43 rfl rfl ?_
        refine g_if C X0 d2_45 (by decide) rfl rfl ?_ ?_
        · intro h45
          have h45 : ¬ v34.toInt = 0 := h45
          exfalso; omega
        · intro h45
          have h45 : v34.toInt = 0 := h45
          refine g_iload C X0 d2_48 rfl rfl ?_
          refine g_i2b C X0 d2_50 rfl ?_
          refine g_ireturnN C X0 d2_51 rfl (Or.inr (Or.inl rfl)) ⟨congrArg (fun z => some (Value.int z)) (own_inj32 ?_), N0, e0⟩ (by decide) (by decide)
          have z0 := g2.1 (by omega)
          have y1 := c_i2b v41
          have y2 := c_i2b (v41.toInt8.toInt32)
          show (v41.toInt8.toInt32.toInt8.toInt32).toInt = _
          omega
      · intro h15
        have h15 : v3.toInt ≥ (x2 * (1 : Int32)).toInt := h15
        refine g_iload C X0 d2_18 rfl rfl ?_
        exact g_ireturnN C X0 d2_20 rfl (Or.inr (Or.inl rfl)) ⟨(congrArg (fun z => some (Value.int z)) (hs.trans (hg.1 (by omega)).symm)), N0, e0⟩ (by decide) (by decide)
  · skip
    rw [show (2 : Int32).toInt = 2 by decide] at hg
    have cw := c_imul x2 (2 : Int32)
    rw [show (2 : Int32).toInt = 2 by decide] at cw
    have cr := rng32 (x2 * (2 : Int32))
    have cw : (x2 * (2 : Int32)).toInt = x2.toInt * 2 := by omega
    refine g_iloadN C X0 d2_0 rfl rfl ?_
    refine g_iloadN C X0 d2_1 rfl rfl ?_
    refine g_isub C X0 d2_2 rfl ?_
    refine g_istoreV C X0 d2_3 (fun v__ => #[.val (.int x0), .val (.int x1), .val (.int x2), .val (.int (2 : Int32)), .val (.ref vs), .val (.int x5), .val (.int v__), .unset, .unset, .unset]) rfl rfl ?_
    intro v3 h_v3
    rw [← h_v3] at j1 j2
    have j3 : v3.toInt = x0.toInt - x1.toInt := by omega
    rw [← j3] at hg
    refine g_iload C X0 d2_5 rfl rfl ?_
    refine g_if C X0 d2_7 (by decide) rfl rfl ?_ ?_
    · intro h7
      have h7 : v3.toInt < 0 := h7
      refine g_iload C X0 d2_18 rfl rfl ?_
      exact g_ireturnN C X0 d2_20 rfl (Or.inr (Or.inl rfl)) ⟨(congrArg (fun z => some (Value.int z)) (hs.trans (hg.1 (by omega)).symm)), N0, e0⟩ (by decide) (by decide)
    · intro h7
      have h7 : v3.toInt ≥ 0 := h7
      refine g_iload C X0 d2_10 rfl rfl ?_
      refine g_iloadN C X0 d2_12 rfl rfl ?_
      refine g_iloadN C X0 d2_13 rfl rfl ?_
      refine g_imul C X0 d2_14 rfl ?_
      refine g_icmp C X0 d2_15 (by decide) rfl rfl ?_ ?_
      · intro h15
        have h15 : v3.toInt < (x2 * (2 : Int32)).toInt := h15
        refine g_iload C X0 d2_21 rfl rfl ?_
        refine g_iloadN C X0 d2_23 rfl rfl ?_
        refine g_idiv C X0 d2_24 (by decide) rfl ?_
        refine g_istoreV C X0 d2_25 (fun v__ => #[.val (.int x0), .val (.int x1), .val (.int x2), .val (.int (2 : Int32)), .val (.ref vs), .val (.int x5), .val (.int v3), .val (.int v__), .unset, .unset]) rfl rfl ?_
        intro v25 h_v25
        have g2 := hg.2 (by omega) (by omega)
        have kd := (c_idiv v3 (2 : Int32) 2 (by decide) (by decide)).1 (by omega)
        rw [← h_v25] at kd
        have km := c_imul v25 (2 : Int32)
        rw [show (2 : Int32).toInt = 2 by decide] at km
        have kr := rng32 (v25 * (2 : Int32))
        have kd3 : 0 ≤ v25.toInt ∧ v25.toInt ≤ 2 := by omega
        have km : (v25 * (2 : Int32)).toInt = v25.toInt * 2 := by omega
        refine g_iload C X0 d2_27 rfl rfl ?_
        refine g_iload C X0 d2_29 rfl rfl ?_
        refine g_iloadN C X0 d2_31 rfl rfl ?_
        refine g_imul C X0 d2_32 rfl ?_
        refine g_isub C X0 d2_33 rfl ?_
        refine g_istoreV C X0 d2_34 (fun v__ => #[.val (.int x0), .val (.int x1), .val (.int x2), .val (.int (2 : Int32)), .val (.ref vs), .val (.int x5), .val (.int v3), .val (.int v25), .val (.int v__), .unset]) rfl rfl ?_
        intro v34 h_v34
        have bm := c_isub v3 (v25 * (2 : Int32))
        rw [← h_v34] at bm
        have br := rng32 v34
        have bq : v34.toInt = v3.toInt % 2 := by omega
        rw [← bq, ← kd] at g2
        refine g_aload C X0 d2_36 rfl rfl ?_
        refine g_iload C X0 d2_38 rfl rfl ?_
        refine g_iaload C X0 d2_40 e0 B (by omega) (by omega) (v := (.int (g v25.toInt.toNat))) rfl rfl ?_
        refine g_istoreV C X0 d2_41 (fun v__ => #[.val (.int x0), .val (.int x1), .val (.int x2), .val (.int (2 : Int32)), .val (.ref vs), .val (.int x5), .val (.int v3), .val (.int v25), .val (.int v34), .val (.int v__)]) rfl rfl ?_
        intro v41 h_v41
        rw [← h_v41] at g2
        have rx := rng32 v41
        refine g_iload C X0 d2_43 rfl rfl ?_
        refine g_if C X0 d2_45 (by decide) rfl rfl ?_ ?_
        · intro h45
          have h45 : ¬ v34.toInt = 0 := h45
          refine g_iload C X0 d2_52 rfl rfl ?_
          refine g_iconst C X0 (1 : Int32) d2_54 rfl rfl ?_
          refine g_icmp C X0 d2_55 (by decide) rfl rfl ?_ ?_
          · intro h55
            have h55 : ¬ v34.toInt = 1 := h55
            exfalso; omega
          · intro h55
            have h55 : v34.toInt = 1 := h55
            refine g_iload C X0 d2_58 rfl rfl ?_
            refine g_bipush C X0 (8 : Int32) d2_60 rfl rfl ?_
            refine g_ishr C X0 d2_62 rfl ?_
            refine g_i2b C X0 d2_63 rfl ?_
            refine g_ireturnN C X0 d2_64 rfl (Or.inr (Or.inl rfl)) ⟨congrArg (fun z => some (Value.int z)) (own_inj32 ?_), N0, e0⟩ (by decide) (by decide)
            have z0 := g2.2.1 (by omega)
            have sh := c_ishr v41 (8 : Int32) 8 (by decide)
            have sh : (v41 >>> ((8 : Int32) &&& 31)).toInt = v41.toInt / 256 := sh
            have y1 := c_i2b (v41 >>> ((8 : Int32) &&& 31))
            have y2 := c_i2b ((v41 >>> ((8 : Int32) &&& 31)).toInt8.toInt32)
            show ((v41 >>> ((8 : Int32) &&& 31)).toInt8.toInt32.toInt8.toInt32).toInt = _
            omega
        · intro h45
          have h45 : v34.toInt = 0 := h45
          refine g_iload C X0 d2_48 rfl rfl ?_
          refine g_i2b C X0 d2_50 rfl ?_
          refine g_ireturnN C X0 d2_51 rfl (Or.inr (Or.inl rfl)) ⟨congrArg (fun z => some (Value.int z)) (own_inj32 ?_), N0, e0⟩ (by decide) (by decide)
          have z0 := g2.1 (by omega)
          have y1 := c_i2b v41
          have y2 := c_i2b (v41.toInt8.toInt32)
          show (v41.toInt8.toInt32.toInt8.toInt32).toInt = _
          omega
      · intro h15
        have h15 : v3.toInt ≥ (x2 * (2 : Int32)).toInt := h15
        refine g_iload C X0 d2_18 rfl rfl ?_
        exact g_ireturnN C X0 d2_20 rfl (Or.inr (Or.inl rfl)) ⟨(congrArg (fun z => some (Value.int z)) (hs.trans (hg.1 (by omega)).symm)), N0, e0⟩ (by decide) (by decide)
  · skip
    rw [show (3 : Int32).toInt = 3 by decide] at hg
    have cw := c_imul x2 (3 : Int32)
    rw [show (3 : Int32).toInt = 3 by decide] at cw
    have cr := rng32 (x2 * (3 : Int32))
    have cw : (x2 * (3 : Int32)).toInt = x2.toInt * 3 := by omega
    refine g_iloadN C X0 d2_0 rfl rfl ?_
    refine g_iloadN C X0 d2_1 rfl rfl ?_
    refine g_isub C X0 d2_2 rfl ?_
    refine g_istoreV C X0 d2_3 (fun v__ => #[.val (.int x0), .val (.int x1), .val (.int x2), .val (.int (3 : Int32)), .val (.ref vs), .val (.int x5), .val (.int v__), .unset, .unset, .unset]) rfl rfl ?_
    intro v3 h_v3
    rw [← h_v3] at j1 j2
    have j3 : v3.toInt = x0.toInt - x1.toInt := by omega
    rw [← j3] at hg
    refine g_iload C X0 d2_5 rfl rfl ?_
    refine g_if C X0 d2_7 (by decide) rfl rfl ?_ ?_
    · intro h7
      have h7 : v3.toInt < 0 := h7
      refine g_iload C X0 d2_18 rfl rfl ?_
      exact g_ireturnN C X0 d2_20 rfl (Or.inr (Or.inl rfl)) ⟨(congrArg (fun z => some (Value.int z)) (hs.trans (hg.1 (by omega)).symm)), N0, e0⟩ (by decide) (by decide)
    · intro h7
      have h7 : v3.toInt ≥ 0 := h7
      refine g_iload C X0 d2_10 rfl rfl ?_
      refine g_iloadN C X0 d2_12 rfl rfl ?_
      refine g_iloadN C X0 d2_13 rfl rfl ?_
      refine g_imul C X0 d2_14 rfl ?_
      refine g_icmp C X0 d2_15 (by decide) rfl rfl ?_ ?_
      · intro h15
        have h15 : v3.toInt < (x2 * (3 : Int32)).toInt := h15
        refine g_iload C X0 d2_21 rfl rfl ?_
        refine g_iloadN C X0 d2_23 rfl rfl ?_
        refine g_idiv C X0 d2_24 (by decide) rfl ?_
        refine g_istoreV C X0 d2_25 (fun v__ => #[.val (.int x0), .val (.int x1), .val (.int x2), .val (.int (3 : Int32)), .val (.ref vs), .val (.int x5), .val (.int v3), .val (.int v__), .unset, .unset]) rfl rfl ?_
        intro v25 h_v25
        have g2 := hg.2 (by omega) (by omega)
        have kd := (c_idiv v3 (3 : Int32) 3 (by decide) (by decide)).1 (by omega)
        rw [← h_v25] at kd
        have km := c_imul v25 (3 : Int32)
        rw [show (3 : Int32).toInt = 3 by decide] at km
        have kr := rng32 (v25 * (3 : Int32))
        have kd3 : 0 ≤ v25.toInt ∧ v25.toInt ≤ 2 := by omega
        have km : (v25 * (3 : Int32)).toInt = v25.toInt * 3 := by omega
        refine g_iload C X0 d2_27 rfl rfl ?_
        refine g_iload C X0 d2_29 rfl rfl ?_
        refine g_iloadN C X0 d2_31 rfl rfl ?_
        refine g_imul C X0 d2_32 rfl ?_
        refine g_isub C X0 d2_33 rfl ?_
        refine g_istoreV C X0 d2_34 (fun v__ => #[.val (.int x0), .val (.int x1), .val (.int x2), .val (.int (3 : Int32)), .val (.ref vs), .val (.int x5), .val (.int v3), .val (.int v25), .val (.int v__), .unset]) rfl rfl ?_
        intro v34 h_v34
        have bm := c_isub v3 (v25 * (3 : Int32))
        rw [← h_v34] at bm
        have br := rng32 v34
        have bq : v34.toInt = v3.toInt % 3 := by omega
        rw [← bq, ← kd] at g2
        refine g_aload C X0 d2_36 rfl rfl ?_
        refine g_iload C X0 d2_38 rfl rfl ?_
        refine g_iaload C X0 d2_40 e0 B (by omega) (by omega) (v := (.int (g v25.toInt.toNat))) rfl rfl ?_
        refine g_istoreV C X0 d2_41 (fun v__ => #[.val (.int x0), .val (.int x1), .val (.int x2), .val (.int (3 : Int32)), .val (.ref vs), .val (.int x5), .val (.int v3), .val (.int v25), .val (.int v34), .val (.int v__)]) rfl rfl ?_
        intro v41 h_v41
        rw [← h_v41] at g2
        have rx := rng32 v41
        refine g_iload C X0 d2_43 rfl rfl ?_
        refine g_if C X0 d2_45 (by decide) rfl rfl ?_ ?_
        · intro h45
          have h45 : ¬ v34.toInt = 0 := h45
          refine g_iload C X0 d2_52 rfl rfl ?_
          refine g_iconst C X0 (1 : Int32) d2_54 rfl rfl ?_
          refine g_icmp C X0 d2_55 (by decide) rfl rfl ?_ ?_
          · intro h55
            have h55 : ¬ v34.toInt = 1 := h55
            refine g_iload C X0 d2_65 rfl rfl ?_
            refine g_iconst C X0 (2 : Int32) d2_67 rfl rfl ?_
            refine g_icmp C X0 d2_68 (by decide) rfl rfl ?_ ?_
            · intro h68
              have h68 : ¬ v34.toInt = 2 := h68
              exfalso; omega
            · intro h68
              have h68 : v34.toInt = 2 := h68
              refine g_iload C X0 d2_71 rfl rfl ?_
              refine g_bipush C X0 (16 : Int32) d2_73 rfl rfl ?_
              refine g_ishr C X0 d2_75 rfl ?_
              refine g_i2b C X0 d2_76 rfl ?_
              refine g_ireturnN C X0 d2_77 rfl (Or.inr (Or.inl rfl)) ⟨congrArg (fun z => some (Value.int z)) (own_inj32 ?_), N0, e0⟩ (by decide) (by decide)
              have z0 := g2.2.2.1 (by omega)
              have sh := c_ishr v41 (16 : Int32) 16 (by decide)
              have sh : (v41 >>> ((16 : Int32) &&& 31)).toInt = v41.toInt / 65536 := sh
              have y1 := c_i2b (v41 >>> ((16 : Int32) &&& 31))
              have y2 := c_i2b ((v41 >>> ((16 : Int32) &&& 31)).toInt8.toInt32)
              show ((v41 >>> ((16 : Int32) &&& 31)).toInt8.toInt32.toInt8.toInt32).toInt = _
              omega
          · intro h55
            have h55 : v34.toInt = 1 := h55
            refine g_iload C X0 d2_58 rfl rfl ?_
            refine g_bipush C X0 (8 : Int32) d2_60 rfl rfl ?_
            refine g_ishr C X0 d2_62 rfl ?_
            refine g_i2b C X0 d2_63 rfl ?_
            refine g_ireturnN C X0 d2_64 rfl (Or.inr (Or.inl rfl)) ⟨congrArg (fun z => some (Value.int z)) (own_inj32 ?_), N0, e0⟩ (by decide) (by decide)
            have z0 := g2.2.1 (by omega)
            have sh := c_ishr v41 (8 : Int32) 8 (by decide)
            have sh : (v41 >>> ((8 : Int32) &&& 31)).toInt = v41.toInt / 256 := sh
            have y1 := c_i2b (v41 >>> ((8 : Int32) &&& 31))
            have y2 := c_i2b ((v41 >>> ((8 : Int32) &&& 31)).toInt8.toInt32)
            show ((v41 >>> ((8 : Int32) &&& 31)).toInt8.toInt32.toInt8.toInt32).toInt = _
            omega
        · intro h45
          have h45 : v34.toInt = 0 := h45
          refine g_iload C X0 d2_48 rfl rfl ?_
          refine g_i2b C X0 d2_50 rfl ?_
          refine g_ireturnN C X0 d2_51 rfl (Or.inr (Or.inl rfl)) ⟨congrArg (fun z => some (Value.int z)) (own_inj32 ?_), N0, e0⟩ (by decide) (by decide)
          have z0 := g2.1 (by omega)
          have y1 := c_i2b v41
          have y2 := c_i2b (v41.toInt8.toInt32)
          show (v41.toInt8.toInt32.toInt8.toInt32).toInt = _
          omega
      · intro h15
        have h15 : v3.toInt ≥ (x2 * (3 : Int32)).toInt := h15
        refine g_iload C X0 d2_18 rfl rfl ?_
        exact g_ireturnN C X0 d2_20 rfl (Or.inr (Or.inl rfl)) ⟨(congrArg (fun z => some (Value.int z)) (hs.trans (hg.1 (by omega)).symm)), N0, e0⟩ (by decide) (by decide)
  · skip
    rw [show (4 : Int32).toInt = 4 by decide] at hg
    have cw := c_imul x2 (4 : Int32)
    rw [show (4 : Int32).toInt = 4 by decide] at cw
    have cr := rng32 (x2 * (4 : Int32))
    have cw : (x2 * (4 : Int32)).toInt = x2.toInt * 4 := by omega
    refine g_iloadN C X0 d2_0 rfl rfl ?_
    refine g_iloadN C X0 d2_1 rfl rfl ?_
    refine g_isub C X0 d2_2 rfl ?_
    refine g_istoreV C X0 d2_3 (fun v__ => #[.val (.int x0), .val (.int x1), .val (.int x2), .val (.int (4 : Int32)), .val (.ref vs), .val (.int x5), .val (.int v__), .unset, .unset, .unset]) rfl rfl ?_
    intro v3 h_v3
    rw [← h_v3] at j1 j2
    have j3 : v3.toInt = x0.toInt - x1.toInt := by omega
    rw [← j3] at hg
    refine g_iload C X0 d2_5 rfl rfl ?_
    refine g_if C X0 d2_7 (by decide) rfl rfl ?_ ?_
    · intro h7
      have h7 : v3.toInt < 0 := h7
      refine g_iload C X0 d2_18 rfl rfl ?_
      exact g_ireturnN C X0 d2_20 rfl (Or.inr (Or.inl rfl)) ⟨(congrArg (fun z => some (Value.int z)) (hs.trans (hg.1 (by omega)).symm)), N0, e0⟩ (by decide) (by decide)
    · intro h7
      have h7 : v3.toInt ≥ 0 := h7
      refine g_iload C X0 d2_10 rfl rfl ?_
      refine g_iloadN C X0 d2_12 rfl rfl ?_
      refine g_iloadN C X0 d2_13 rfl rfl ?_
      refine g_imul C X0 d2_14 rfl ?_
      refine g_icmp C X0 d2_15 (by decide) rfl rfl ?_ ?_
      · intro h15
        have h15 : v3.toInt < (x2 * (4 : Int32)).toInt := h15
        refine g_iload C X0 d2_21 rfl rfl ?_
        refine g_iloadN C X0 d2_23 rfl rfl ?_
        refine g_idiv C X0 d2_24 (by decide) rfl ?_
        refine g_istoreV C X0 d2_25 (fun v__ => #[.val (.int x0), .val (.int x1), .val (.int x2), .val (.int (4 : Int32)), .val (.ref vs), .val (.int x5), .val (.int v3), .val (.int v__), .unset, .unset]) rfl rfl ?_
        intro v25 h_v25
        have g2 := hg.2 (by omega) (by omega)
        have kd := (c_idiv v3 (4 : Int32) 4 (by decide) (by decide)).1 (by omega)
        rw [← h_v25] at kd
        have km := c_imul v25 (4 : Int32)
        rw [show (4 : Int32).toInt = 4 by decide] at km
        have kr := rng32 (v25 * (4 : Int32))
        have kd3 : 0 ≤ v25.toInt ∧ v25.toInt ≤ 2 := by omega
        have km : (v25 * (4 : Int32)).toInt = v25.toInt * 4 := by omega
        refine g_iload C X0 d2_27 rfl rfl ?_
        refine g_iload C X0 d2_29 rfl rfl ?_
        refine g_iloadN C X0 d2_31 rfl rfl ?_
        refine g_imul C X0 d2_32 rfl ?_
        refine g_isub C X0 d2_33 rfl ?_
        refine g_istoreV C X0 d2_34 (fun v__ => #[.val (.int x0), .val (.int x1), .val (.int x2), .val (.int (4 : Int32)), .val (.ref vs), .val (.int x5), .val (.int v3), .val (.int v25), .val (.int v__), .unset]) rfl rfl ?_
        intro v34 h_v34
        have bm := c_isub v3 (v25 * (4 : Int32))
        rw [← h_v34] at bm
        have br := rng32 v34
        have bq : v34.toInt = v3.toInt % 4 := by omega
        rw [← bq, ← kd] at g2
        refine g_aload C X0 d2_36 rfl rfl ?_
        refine g_iload C X0 d2_38 rfl rfl ?_
        refine g_iaload C X0 d2_40 e0 B (by omega) (by omega) (v := (.int (g v25.toInt.toNat))) rfl rfl ?_
        refine g_istoreV C X0 d2_41 (fun v__ => #[.val (.int x0), .val (.int x1), .val (.int x2), .val (.int (4 : Int32)), .val (.ref vs), .val (.int x5), .val (.int v3), .val (.int v25), .val (.int v34), .val (.int v__)]) rfl rfl ?_
        intro v41 h_v41
        rw [← h_v41] at g2
        have rx := rng32 v41
        refine g_iload C X0 d2_43 rfl rfl ?_
        refine g_if C X0 d2_45 (by decide) rfl rfl ?_ ?_
        · intro h45
          have h45 : ¬ v34.toInt = 0 := h45
          refine g_iload C X0 d2_52 rfl rfl ?_
          refine g_iconst C X0 (1 : Int32) d2_54 rfl rfl ?_
          refine g_icmp C X0 d2_55 (by decide) rfl rfl ?_ ?_
          · intro h55
            have h55 : ¬ v34.toInt = 1 := h55
            refine g_iload C X0 d2_65 rfl rfl ?_
            refine g_iconst C X0 (2 : Int32) d2_67 rfl rfl ?_
            refine g_icmp C X0 d2_68 (by decide) rfl rfl ?_ ?_
            · intro h68
              have h68 : ¬ v34.toInt = 2 := h68
              refine g_iload C X0 d2_78 rfl rfl ?_
              refine g_bipush C X0 (24 : Int32) d2_80 rfl rfl ?_
              refine g_ishr C X0 d2_82 rfl ?_
              refine g_i2b C X0 d2_83 rfl ?_
              refine g_ireturnN C X0 d2_84 rfl (Or.inr (Or.inl rfl)) ⟨congrArg (fun z => some (Value.int z)) (own_inj32 ?_), N0, e0⟩ (by decide) (by decide)
              have z0 := g2.2.2.2 (by omega)
              have sh := c_ishr v41 (24 : Int32) 24 (by decide)
              have sh : (v41 >>> ((24 : Int32) &&& 31)).toInt = v41.toInt / 16777216 := sh
              have y1 := c_i2b (v41 >>> ((24 : Int32) &&& 31))
              have y2 := c_i2b ((v41 >>> ((24 : Int32) &&& 31)).toInt8.toInt32)
              show ((v41 >>> ((24 : Int32) &&& 31)).toInt8.toInt32.toInt8.toInt32).toInt = _
              omega
            · intro h68
              have h68 : v34.toInt = 2 := h68
              refine g_iload C X0 d2_71 rfl rfl ?_
              refine g_bipush C X0 (16 : Int32) d2_73 rfl rfl ?_
              refine g_ishr C X0 d2_75 rfl ?_
              refine g_i2b C X0 d2_76 rfl ?_
              refine g_ireturnN C X0 d2_77 rfl (Or.inr (Or.inl rfl)) ⟨congrArg (fun z => some (Value.int z)) (own_inj32 ?_), N0, e0⟩ (by decide) (by decide)
              have z0 := g2.2.2.1 (by omega)
              have sh := c_ishr v41 (16 : Int32) 16 (by decide)
              have sh : (v41 >>> ((16 : Int32) &&& 31)).toInt = v41.toInt / 65536 := sh
              have y1 := c_i2b (v41 >>> ((16 : Int32) &&& 31))
              have y2 := c_i2b ((v41 >>> ((16 : Int32) &&& 31)).toInt8.toInt32)
              show ((v41 >>> ((16 : Int32) &&& 31)).toInt8.toInt32.toInt8.toInt32).toInt = _
              omega
          · intro h55
            have h55 : v34.toInt = 1 := h55
            refine g_iload C X0 d2_58 rfl rfl ?_
            refine g_bipush C X0 (8 : Int32) d2_60 rfl rfl ?_
            refine g_ishr C X0 d2_62 rfl ?_
            refine g_i2b C X0 d2_63 rfl ?_
            refine g_ireturnN C X0 d2_64 rfl (Or.inr (Or.inl rfl)) ⟨congrArg (fun z => some (Value.int z)) (own_inj32 ?_), N0, e0⟩ (by decide) (by decide)
            have z0 := g2.2.1 (by omega)
            have sh := c_ishr v41 (8 : Int32) 8 (by decide)
            have sh : (v41 >>> ((8 : Int32) &&& 31)).toInt = v41.toInt / 256 := sh
            have y1 := c_i2b (v41 >>> ((8 : Int32) &&& 31))
            have y2 := c_i2b ((v41 >>> ((8 : Int32) &&& 31)).toInt8.toInt32)
            show ((v41 >>> ((8 : Int32) &&& 31)).toInt8.toInt32.toInt8.toInt32).toInt = _
            omega
        · intro h45
          have h45 : v34.toInt = 0 := h45
          refine g_iload C X0 d2_48 rfl rfl ?_
          refine g_i2b C X0 d2_50 rfl ?_
          refine g_ireturnN C X0 d2_51 rfl (Or.inr (Or.inl rfl)) ⟨congrArg (fun z => some (Value.int z)) (own_inj32 ?_), N0, e0⟩ (by decide) (by decide)
          have z0 := g2.1 (by omega)
          have y1 := c_i2b v41
          have y2 := c_i2b (v41.toInt8.toInt32)
          show (v41.toInt8.toInt32.toInt8.toInt32).toInt = _
          omega
      · intro h15
        have h15 : v3.toInt ≥ (x2 * (4 : Int32)).toInt := h15
        refine g_iload C X0 d2_18 rfl rfl ?_
        exact g_ireturnN C X0 d2_20 rfl (Or.inr (Or.inl rfl)) ⟨(congrArg (fun z => some (Value.int z)) (hs.trans (hg.1 (by omega)).symm)), N0, e0⟩ (by decide) (by decide)
set_option maxRecDepth 65536 in
set_option maxHeartbeats 40000000 in
theorem rm0 (l : Launch) (Z : State) (a0 : Array Value) (hw : ∀ d ∈ tables_1, d.before a0 Z = true) (ws : List Jvm.Cond) (x0 : Int32) (x1 : Int32) (x2 : Int32) (x3 : Int32) (h0 : Heap) (n0 : Nat) (Z0 : n0 ≤ h0.size) :
    MetFree l x (head1 (Jvm.Cond.code x code maxLocals ret :: ws) room_1) (fun aa U => aa = #[(.int x0), (.int x1), (.int x2), (.int x3)] ∧ Z.Warmed39 U.vm ∧ U.heap = h0) (fun _ _ _ _ _ => True) (fun _ U oo U' => ∃ rv Lr, oo = .returned rv ∧ LQ n0 rv U'.heap Lr ∧ FrameEnd U oo U' Lr room_1.cells room_1.slots) := by
  refine g_enter pn_0 hw (ef_0 x0 x1 x2 x3) ?_
  intro p e s m below meth c T0 C X0 e0
  have C : Cx Z a0 p s m meth c code maxLocals "com/example/overscore/overscore/index/PackedIntsPackPinLaw" "law" ret := C
  have N0 := Fr.nil n0
  refine g_iloadN C X0 at_0 rfl rfl ?_
  refine g_iconst C X0 (3 : Int32) at_1 rfl rfl ?_
  refine g_iand C X0 at_2 rfl ?_
  refine g_istoreV C X0 at_3 (fun v__ => #[.val (.int x0), .val (.int x1), .val (.int x2), .val (.int x3), .val (.int v__), .unset, .unset, .unset, .unset, .unset, .unset, .unset]) rfl rfl ?_
  intro v3 h_v3
  have c3 := c_mask x3 (3 : Int32) 2 (by decide) (by decide)
  rw [← h_v3] at c3
  have c3 : 0 ≤ v3.toInt ∧ v3.toInt ≤ 3 := by rw [c3]; omega
  refine g_iloadN C X0 at_5 rfl rfl ?_
  refine g_iconst C X0 (2 : Int32) at_6 rfl rfl ?_
  refine g_iushr C X0 at_7 rfl ?_
  refine g_bipush C X0 (7 : Int32) at_8 rfl rfl ?_
  refine g_iand C X0 at_10 rfl ?_
  refine g_iconst C X0 (5 : Int32) at_11 rfl rfl ?_
  refine g_irem C X0 at_12 (by decide) rfl ?_
  refine g_istoreV C X0 at_13 (fun v__ => #[.val (.int x0), .val (.int x1), .val (.int x2), .val (.int x3), .val (.int v3), .val (.int v__), .unset, .unset, .unset, .unset, .unset, .unset]) rfl rfl ?_
  intro v13 h_v13
  have c4 := c_mask ((x3.toUInt32 >>> ((2 : Int32) &&& 31).toUInt32).toInt32) (7 : Int32) 3 (by decide) (by decide)
  have cr := (c_iremV (((x3.toUInt32 >>> ((2 : Int32) &&& 31).toUInt32).toInt32) &&& (7 : Int32)) (5 : Int32)).1 (by omega) (by decide)
  rw [← h_v13, show (5 : Int32).toInt = 5 by decide] at cr
  have hwd : v13 = (0 : Int32) ∨ v13 = (1 : Int32) ∨ v13 = (2 : Int32) ∨ v13 = (3 : Int32) ∨ v13 = (4 : Int32) := by
    have q : v13.toInt = 0 ∨ v13.toInt = 1 ∨ v13.toInt = 2 ∨ v13.toInt = 3 ∨ v13.toInt = 4 := by omega
    rcases q with q | q | q | q | q
    · exact Or.inl (own_inj32 q)
    · exact Or.inr (Or.inl (own_inj32 q))
    · exact Or.inr (Or.inr (Or.inl (own_inj32 q)))
    · exact Or.inr (Or.inr (Or.inr (Or.inl (own_inj32 q))))
    · exact Or.inr (Or.inr (Or.inr (Or.inr (own_inj32 q))))
  have wb : 0 ≤ v13.toInt ∧ v13.toInt ≤ 4 := by omega
  refine g_iloadN C X0 at_15 rfl rfl ?_
  refine g_iconst C X0 (5 : Int32) at_16 rfl rfl ?_
  refine g_iushr C X0 at_17 rfl ?_
  refine g_iconst C X0 (3 : Int32) at_18 rfl rfl ?_
  refine g_iand C X0 at_19 rfl ?_
  refine g_istoreV C X0 at_20 (fun v__ => #[.val (.int x0), .val (.int x1), .val (.int x2), .val (.int x3), .val (.int v3), .val (.int v13), .val (.int v__), .unset, .unset, .unset, .unset, .unset]) rfl rfl ?_
  intro v20 h_v20
  have c5 := c_mask ((x3.toUInt32 >>> ((5 : Int32) &&& 31).toUInt32).toInt32) (3 : Int32) 2 (by decide) (by decide)
  rw [← h_v20] at c5
  have c5 : 0 ≤ v20.toInt ∧ v20.toInt ≤ 3 := by rw [c5]; omega
  refine g_iloadN C X0 at_22 rfl rfl ?_
  refine g_bipush C X0 (8 : Int32) at_23 rfl rfl ?_
  refine g_iushr C X0 at_25 rfl ?_
  refine g_i2b C X0 at_26 rfl ?_
  refine g_istoreV C X0 at_27 (fun v__ => #[.val (.int x0), .val (.int x1), .val (.int x2), .val (.int x3), .val (.int v3), .val (.int v13), .val (.int v20), .val (.int v__), .unset, .unset, .unset, .unset]) rfl rfl ?_
  intro v27 h_v27
  have hnar : nar .byte v27 = v27 := by
    rw [h_v27]
    apply own_inj32
    generalize ((x3.toUInt32 >>> ((8 : Int32) &&& 31).toUInt32).toInt32) = y
    have q1 := c_i2b y
    have q2 := c_i2b (y.toInt8.toInt32)
    show (y.toInt8.toInt32.toInt8.toInt32).toInt = _
    omega
  refine g_iconst C X0 (3 : Int32) at_29 rfl rfl ?_
  refine g_newarray (cap := 3) C X0 at_30 e0 (C.t 0 rfl) (by decide) (by decide) (by decide) (by decide) (by decide) rfl ?_
  intro T1 h1_ X1 e1 E1 lt1 ad1 ha1 A1
  have Z1 : n0 ≤ h1_.size := Nat.le_trans Z0 E1.1
  have g_ad1 : n0 ≤ ad1 := by omega
  refine g_dup C X1 at_32 rfl rfl ?_
  refine g_iconst C X1 (0 : Int32) at_33 rfl rfl ?_
  refine g_iloadN C X1 at_34 rfl rfl ?_
  refine g_iastore C X1 at_35 e1 A1 (by decide) (by decide) rfl ?_
  intro T2 h2_ X2 e2 W2 A2
  have N2 := Fr.snoc X2 N0 g_ad1
  have Z2 : n0 ≤ h2_.size := Nat.le_trans Z1 (Keep.of_wr W2).1
  refine g_dup C X2 at_36 rfl rfl ?_
  refine g_iconst C X2 (1 : Int32) at_37 rfl rfl ?_
  refine g_iloadN C X2 at_38 rfl rfl ?_
  refine g_iastore C X2 at_39 e2 A2 (by decide) (by decide) rfl ?_
  intro T3 h3_ X3 e3 W3 A3
  have N3 := Fr.snoc X3 N2 g_ad1
  have Z3 : n0 ≤ h3_.size := Nat.le_trans Z2 (Keep.of_wr W3).1
  refine g_dup C X3 at_40 rfl rfl ?_
  refine g_iconst C X3 (2 : Int32) at_41 rfl rfl ?_
  refine g_iloadN C X3 at_42 rfl rfl ?_
  refine g_iastore C X3 at_43 e3 A3 (by decide) (by decide) rfl ?_
  intro T4 h4_ X4 e4 W4 A4
  have N4 := Fr.snoc X4 N3 g_ad1
  have Z4 : n0 ≤ h4_.size := Nat.le_trans Z3 (Keep.of_wr W4).1
  refine g_astore C X4 at_44 #[.val (.int x0), .val (.int x1), .val (.int x2), .val (.int x3), .val (.int v3), .val (.int v13), .val (.int v20), .val (.int v27), .val (.ref ad1), .unset, .unset, .unset] rfl rfl ?_
  refine g_bipush C X4 (16 : Int32) at_46 rfl rfl ?_
  refine g_newarray (cap := 16) C X4 at_48 e4 (C.t 1 rfl) (by decide) (by decide) (by decide) (by decide) (by decide) rfl ?_
  intro T5 h5_ X5 e5 E5 lt5 ad5 ha5 A5
  have Z5 : n0 ≤ h5_.size := Nat.le_trans Z4 E5.1
  have ne_ad1_ad5 : ad1 ≠ ad5 := Nat.ne_of_lt (Nat.lt_of_lt_of_eq A4.lt ha5.symm)
  have A5_ad1 := A4.ext E5
  have g_ad5 : n0 ≤ ad5 := by omega
  refine g_dup C X5 at_50 rfl rfl ?_
  refine g_iconst C X5 (0 : Int32) at_51 rfl rfl ?_
  refine g_iload C X5 at_52 rfl rfl ?_
  refine g_bastore C X5 at_54 e5 A5 (by decide) (by decide) rfl ?_
  intro T6 h6_ X6 e6 W6 A6
  have N6 := Fr.snoc X6 N4 g_ad5
  have Z6 : n0 ≤ h6_.size := Nat.le_trans Z5 (Keep.of_wr W6).1
  have A6_ad1 := A5_ad1.other W6 ne_ad1_ad5
  refine g_dup C X6 at_55 rfl rfl ?_
  refine g_iconst C X6 (1 : Int32) at_56 rfl rfl ?_
  refine g_iload C X6 at_57 rfl rfl ?_
  refine g_bastore C X6 at_59 e6 A6 (by decide) (by decide) rfl ?_
  intro T7 h7_ X7 e7 W7 A7
  have N7 := Fr.snoc X7 N6 g_ad5
  have Z7 : n0 ≤ h7_.size := Nat.le_trans Z6 (Keep.of_wr W7).1
  have A7_ad1 := A6_ad1.other W7 ne_ad1_ad5
  refine g_dup C X7 at_60 rfl rfl ?_
  refine g_iconst C X7 (2 : Int32) at_61 rfl rfl ?_
  refine g_iload C X7 at_62 rfl rfl ?_
  refine g_bastore C X7 at_64 e7 A7 (by decide) (by decide) rfl ?_
  intro T8 h8_ X8 e8 W8 A8
  have N8 := Fr.snoc X8 N7 g_ad5
  have Z8 : n0 ≤ h8_.size := Nat.le_trans Z7 (Keep.of_wr W8).1
  have A8_ad1 := A7_ad1.other W8 ne_ad1_ad5
  refine g_dup C X8 at_65 rfl rfl ?_
  refine g_iconst C X8 (3 : Int32) at_66 rfl rfl ?_
  refine g_iload C X8 at_67 rfl rfl ?_
  refine g_bastore C X8 at_69 e8 A8 (by decide) (by decide) rfl ?_
  intro T9 h9_ X9 e9 W9 A9
  have N9 := Fr.snoc X9 N8 g_ad5
  have Z9 : n0 ≤ h9_.size := Nat.le_trans Z8 (Keep.of_wr W9).1
  have A9_ad1 := A8_ad1.other W9 ne_ad1_ad5
  refine g_dup C X9 at_70 rfl rfl ?_
  refine g_iconst C X9 (4 : Int32) at_71 rfl rfl ?_
  refine g_iload C X9 at_72 rfl rfl ?_
  refine g_bastore C X9 at_74 e9 A9 (by decide) (by decide) rfl ?_
  intro T10 h10_ X10 e10 W10 A10
  have N10 := Fr.snoc X10 N9 g_ad5
  have Z10 : n0 ≤ h10_.size := Nat.le_trans Z9 (Keep.of_wr W10).1
  have A10_ad1 := A9_ad1.other W10 ne_ad1_ad5
  refine g_dup C X10 at_75 rfl rfl ?_
  refine g_iconst C X10 (5 : Int32) at_76 rfl rfl ?_
  refine g_iload C X10 at_77 rfl rfl ?_
  refine g_bastore C X10 at_79 e10 A10 (by decide) (by decide) rfl ?_
  intro T11 h11_ X11 e11 W11 A11
  have N11 := Fr.snoc X11 N10 g_ad5
  have Z11 : n0 ≤ h11_.size := Nat.le_trans Z10 (Keep.of_wr W11).1
  have A11_ad1 := A10_ad1.other W11 ne_ad1_ad5
  refine g_dup C X11 at_80 rfl rfl ?_
  refine g_bipush C X11 (6 : Int32) at_81 rfl rfl ?_
  refine g_iload C X11 at_83 rfl rfl ?_
  refine g_bastore C X11 at_85 e11 A11 (by decide) (by decide) rfl ?_
  intro T12 h12_ X12 e12 W12 A12
  have N12 := Fr.snoc X12 N11 g_ad5
  have Z12 : n0 ≤ h12_.size := Nat.le_trans Z11 (Keep.of_wr W12).1
  have A12_ad1 := A11_ad1.other W12 ne_ad1_ad5
  refine g_dup C X12 at_86 rfl rfl ?_
  refine g_bipush C X12 (7 : Int32) at_87 rfl rfl ?_
  refine g_iload C X12 at_89 rfl rfl ?_
  refine g_bastore C X12 at_91 e12 A12 (by decide) (by decide) rfl ?_
  intro T13 h13_ X13 e13 W13 A13
  have N13 := Fr.snoc X13 N12 g_ad5
  have Z13 : n0 ≤ h13_.size := Nat.le_trans Z12 (Keep.of_wr W13).1
  have A13_ad1 := A12_ad1.other W13 ne_ad1_ad5
  refine g_dup C X13 at_92 rfl rfl ?_
  refine g_bipush C X13 (8 : Int32) at_93 rfl rfl ?_
  refine g_iload C X13 at_95 rfl rfl ?_
  refine g_bastore C X13 at_97 e13 A13 (by decide) (by decide) rfl ?_
  intro T14 h14_ X14 e14 W14 A14
  have N14 := Fr.snoc X14 N13 g_ad5
  have Z14 : n0 ≤ h14_.size := Nat.le_trans Z13 (Keep.of_wr W14).1
  have A14_ad1 := A13_ad1.other W14 ne_ad1_ad5
  refine g_dup C X14 at_98 rfl rfl ?_
  refine g_bipush C X14 (9 : Int32) at_99 rfl rfl ?_
  refine g_iload C X14 at_101 rfl rfl ?_
  refine g_bastore C X14 at_103 e14 A14 (by decide) (by decide) rfl ?_
  intro T15 h15_ X15 e15 W15 A15
  have N15 := Fr.snoc X15 N14 g_ad5
  have Z15 : n0 ≤ h15_.size := Nat.le_trans Z14 (Keep.of_wr W15).1
  have A15_ad1 := A14_ad1.other W15 ne_ad1_ad5
  refine g_dup C X15 at_104 rfl rfl ?_
  refine g_bipush C X15 (10 : Int32) at_105 rfl rfl ?_
  refine g_iload C X15 at_107 rfl rfl ?_
  refine g_bastore C X15 at_109 e15 A15 (by decide) (by decide) rfl ?_
  intro T16 h16_ X16 e16 W16 A16
  have N16 := Fr.snoc X16 N15 g_ad5
  have Z16 : n0 ≤ h16_.size := Nat.le_trans Z15 (Keep.of_wr W16).1
  have A16_ad1 := A15_ad1.other W16 ne_ad1_ad5
  refine g_dup C X16 at_110 rfl rfl ?_
  refine g_bipush C X16 (11 : Int32) at_111 rfl rfl ?_
  refine g_iload C X16 at_113 rfl rfl ?_
  refine g_bastore C X16 at_115 e16 A16 (by decide) (by decide) rfl ?_
  intro T17 h17_ X17 e17 W17 A17
  have N17 := Fr.snoc X17 N16 g_ad5
  have Z17 : n0 ≤ h17_.size := Nat.le_trans Z16 (Keep.of_wr W17).1
  have A17_ad1 := A16_ad1.other W17 ne_ad1_ad5
  refine g_dup C X17 at_116 rfl rfl ?_
  refine g_bipush C X17 (12 : Int32) at_117 rfl rfl ?_
  refine g_iload C X17 at_119 rfl rfl ?_
  refine g_bastore C X17 at_121 e17 A17 (by decide) (by decide) rfl ?_
  intro T18 h18_ X18 e18 W18 A18
  have N18 := Fr.snoc X18 N17 g_ad5
  have Z18 : n0 ≤ h18_.size := Nat.le_trans Z17 (Keep.of_wr W18).1
  have A18_ad1 := A17_ad1.other W18 ne_ad1_ad5
  refine g_dup C X18 at_122 rfl rfl ?_
  refine g_bipush C X18 (13 : Int32) at_123 rfl rfl ?_
  refine g_iload C X18 at_125 rfl rfl ?_
  refine g_bastore C X18 at_127 e18 A18 (by decide) (by decide) rfl ?_
  intro T19 h19_ X19 e19 W19 A19
  have N19 := Fr.snoc X19 N18 g_ad5
  have Z19 : n0 ≤ h19_.size := Nat.le_trans Z18 (Keep.of_wr W19).1
  have A19_ad1 := A18_ad1.other W19 ne_ad1_ad5
  refine g_dup C X19 at_128 rfl rfl ?_
  refine g_bipush C X19 (14 : Int32) at_129 rfl rfl ?_
  refine g_iload C X19 at_131 rfl rfl ?_
  refine g_bastore C X19 at_133 e19 A19 (by decide) (by decide) rfl ?_
  intro T20 h20_ X20 e20 W20 A20
  have N20 := Fr.snoc X20 N19 g_ad5
  have Z20 : n0 ≤ h20_.size := Nat.le_trans Z19 (Keep.of_wr W20).1
  have A20_ad1 := A19_ad1.other W20 ne_ad1_ad5
  refine g_dup C X20 at_134 rfl rfl ?_
  refine g_bipush C X20 (15 : Int32) at_135 rfl rfl ?_
  refine g_iload C X20 at_137 rfl rfl ?_
  refine g_bastore C X20 at_139 e20 A20 (by decide) (by decide) rfl ?_
  intro T21 h21_ X21 e21 W21 A21
  have N21 := Fr.snoc X21 N20 g_ad5
  have Z21 : n0 ≤ h21_.size := Nat.le_trans Z20 (Keep.of_wr W21).1
  have A21_ad1 := A20_ad1.other W21 ne_ad1_ad5
  refine g_astore C X21 at_140 #[.val (.int x0), .val (.int x1), .val (.int x2), .val (.int x3), .val (.int v3), .val (.int v13), .val (.int v20), .val (.int v27), .val (.ref ad1), .val (.ref ad5), .unset, .unset] rfl rfl ?_
  refine g_aload C X21 at_142 rfl rfl ?_
  refine g_iload C X21 at_144 rfl rfl ?_
  refine g_iload C X21 at_146 rfl rfl ?_
  refine g_aload C X21 at_148 rfl rfl ?_
  refine g_iload C X21 at_150 rfl rfl ?_
  have Aq : Aw Z h21_ ad5 .byte 16 (fun _ => .int v27) := Aw.of A21 (by
    intro j hj
    have hj : j < 16 := hj
    have hj : j = 0 ∨ j = 1 ∨ j = 2 ∨ j = 3 ∨ j = 4 ∨ j = 5 ∨ j = 6 ∨ j = 7 ∨ j = 8 ∨ j = 9 ∨ j = 10 ∨ j = 11 ∨ j = 12 ∨ j = 13 ∨ j = 14 ∨ j = 15 := by omega
    rcases hj with rfl | rfl | rfl | rfl | rfl | rfl | rfl | rfl | rfl | rfl | rfl | rfl | rfl | rfl | rfl | rfl <;> exact congrArg Value.int hnar)
  have Bq : Aw Z h21_ ad1 .int 3 (fun j => .int ((fun j => ([x0, x1, x2] : List Int32).getD j 0) j)) := Aw.of A21_ad1 (by
    intro j hj
    have hj : j < 3 := hj
    have hj : j = 0 ∨ j = 1 ∨ j = 2 := by omega
    rcases hj with rfl | rfl | rfl <;> rfl)
  have hM : v3.toInt.toNat * v13.toInt.toNat ≤ 3 * 4 := Nat.mul_le_mul (by omega) (by omega)
  have hM2 : ((v3.toInt.toNat * v13.toInt.toNat : Nat) : Int) = v3.toInt * v13.toInt := by rw [Int.natCast_mul, Int.toNat_of_nonneg c3.1, Int.toNat_of_nonneg wb.1]
  refine g_callS (argsL := [(.ref ad1), (.int v3), (.int v13), (.ref ad5), (.int v20)]) (rest := []) (W := 0) C X21 at_152 e21 (C.t 2 rfl) (C.t 3 rfl) (C.t 4 rfl) (C.t 5 rfl) (rm1 l Z a0 C.w [] ad1 v3 v13 ad5 v20 16 3 _ (fun j => ([x0, x1, x2] : List Int32).getD j 0) h21_ n0 Z21 g_ad5 ne_ad1_ad5 (by decide) Aq Bq c5.1 wb.1 wb.2 c3.1 (by omega) (by omega)) (by decide) pd_1 rfl rfl rfl (Nat.le_of_eq rfl) (by decide) (by decide) (by decide) (by decide) rfl ?_
  intro T22 v22_ L22 X22 hQ22
  obtain ⟨⟨en, rfl, hen⟩, N22q, K22, A22⟩ := hQ22
  have N22 := Fr.app N21 N22q
  have Z22 : n0 ≤ T22.heap.size := Nat.le_trans Z21 K22.1
  have A22_ad1 := Bq.keep K22 (ninS ne_ad1_ad5 nin0)
  have mu := c_imul v3 v13
  have mr := rng32 (v3 * v13)
  have ad := c_iadd v20 (v3 * v13)
  have ar := rng32 (v20 + (v3 * v13))
  have hend : en.toInt = (v20 + (v3 * v13)).toInt := by
    generalize v3.toInt * v13.toInt = P at *
    omega
  obtain ⟨w0, hw0, hg0⟩ := own_gpall (fun j => ([x0, x1, x2] : List Int32).getD j 0) v3.toInt v13.toInt v20.toInt v27 0 c5.1 c3.1 wb.1
  obtain ⟨w1, hw1, hg1⟩ := own_gpall (fun j => ([x0, x1, x2] : List Int32).getD j 0) v3.toInt v13.toInt v20.toInt v27 1 c5.1 c3.1 wb.1
  obtain ⟨w2, hw2, hg2⟩ := own_gpall (fun j => ([x0, x1, x2] : List Int32).getD j 0) v3.toInt v13.toInt v20.toInt v27 2 c5.1 c3.1 wb.1
  obtain ⟨w3, hw3, hg3⟩ := own_gpall (fun j => ([x0, x1, x2] : List Int32).getD j 0) v3.toInt v13.toInt v20.toInt v27 3 c5.1 c3.1 wb.1
  obtain ⟨w4, hw4, hg4⟩ := own_gpall (fun j => ([x0, x1, x2] : List Int32).getD j 0) v3.toInt v13.toInt v20.toInt v27 4 c5.1 c3.1 wb.1
  obtain ⟨w5, hw5, hg5⟩ := own_gpall (fun j => ([x0, x1, x2] : List Int32).getD j 0) v3.toInt v13.toInt v20.toInt v27 5 c5.1 c3.1 wb.1
  obtain ⟨w6, hw6, hg6⟩ := own_gpall (fun j => ([x0, x1, x2] : List Int32).getD j 0) v3.toInt v13.toInt v20.toInt v27 6 c5.1 c3.1 wb.1
  obtain ⟨w7, hw7, hg7⟩ := own_gpall (fun j => ([x0, x1, x2] : List Int32).getD j 0) v3.toInt v13.toInt v20.toInt v27 7 c5.1 c3.1 wb.1
  obtain ⟨w8, hw8, hg8⟩ := own_gpall (fun j => ([x0, x1, x2] : List Int32).getD j 0) v3.toInt v13.toInt v20.toInt v27 8 c5.1 c3.1 wb.1
  obtain ⟨w9, hw9, hg9⟩ := own_gpall (fun j => ([x0, x1, x2] : List Int32).getD j 0) v3.toInt v13.toInt v20.toInt v27 9 c5.1 c3.1 wb.1
  obtain ⟨w10, hw10, hg10⟩ := own_gpall (fun j => ([x0, x1, x2] : List Int32).getD j 0) v3.toInt v13.toInt v20.toInt v27 10 c5.1 c3.1 wb.1
  obtain ⟨w11, hw11, hg11⟩ := own_gpall (fun j => ([x0, x1, x2] : List Int32).getD j 0) v3.toInt v13.toInt v20.toInt v27 11 c5.1 c3.1 wb.1
  obtain ⟨w12, hw12, hg12⟩ := own_gpall (fun j => ([x0, x1, x2] : List Int32).getD j 0) v3.toInt v13.toInt v20.toInt v27 12 c5.1 c3.1 wb.1
  obtain ⟨w13, hw13, hg13⟩ := own_gpall (fun j => ([x0, x1, x2] : List Int32).getD j 0) v3.toInt v13.toInt v20.toInt v27 13 c5.1 c3.1 wb.1
  obtain ⟨w14, hw14, hg14⟩ := own_gpall (fun j => ([x0, x1, x2] : List Int32).getD j 0) v3.toInt v13.toInt v20.toInt v27 14 c5.1 c3.1 wb.1
  obtain ⟨w15, hw15, hg15⟩ := own_gpall (fun j => ([x0, x1, x2] : List Int32).getD j 0) v3.toInt v13.toInt v20.toInt v27 15 c5.1 c3.1 wb.1
  refine g_istore C X22 at_155 #[.val (.int x0), .val (.int x1), .val (.int x2), .val (.int x3), .val (.int v3), .val (.int v13), .val (.int v20), .val (.int v27), .val (.ref ad1), .val (.ref ad5), .val (.int en), .unset] rfl rfl ?_
  refine g_iload C X22 at_157 rfl rfl ?_
  refine g_iload C X22 at_159 rfl rfl ?_
  refine g_iload C X22 at_161 rfl rfl ?_
  refine g_iload C X22 at_163 rfl rfl ?_
  refine g_imul C X22 at_165 rfl ?_
  refine g_iadd C X22 at_166 rfl ?_
  refine g_icmp C X22 at_167 (by decide) rfl rfl ?_ ?_
  · intro h167
    have h167 : ¬ en.toInt = (v20 + (v3 * v13)).toInt := h167
    exact absurd hend h167
  · intro h167
    have h167 : en.toInt = (v20 + (v3 * v13)).toInt := h167
    refine g_iconst C X22 (1 : Int32) at_170 rfl rfl ?_
    refine g_goto C X22 at_171 (by decide) rfl ?_
    refine g_istore C X22 at_175 #[.val (.int x0), .val (.int x1), .val (.int x2), .val (.int x3), .val (.int v3), .val (.int v13), .val (.int v20), .val (.int v27), .val (.ref ad1), .val (.ref ad5), .val (.int en), .val (.int (1 : Int32))] rfl rfl ?_
    refine g_iload C X22 at_177 rfl rfl ?_
    refine g_if C X22 at_179 (by decide) rfl rfl ?_ ?_
    · intro h179
      have h179 : (1 : Int) = 0 := h179
      exact absurd h179 (by decide)
    · intro h179
      have h179 : ¬ (1 : Int) = 0 := h179
      refine g_aload C X22 at_182 rfl rfl ?_
      refine g_iconst C X22 (0 : Int32) at_184 rfl rfl ?_
      refine g_baload C X22 at_185 rfl A22 (by decide) (by decide) (v := (.int w0)) hw0 rfl ?_
      refine g_iconst C X22 (0 : Int32) at_186 rfl rfl ?_
      refine g_iload C X22 at_187 rfl rfl ?_
      refine g_iload C X22 at_189 rfl rfl ?_
      refine g_iload C X22 at_191 rfl rfl ?_
      refine g_aload C X22 at_193 rfl rfl ?_
      refine g_iload C X22 at_195 rfl rfl ?_
      refine g_callS (argsL := [(.int (0 : Int32)), (.int v20), (.int v3), (.int v13), (.ref ad1), (.int v27)]) (rest := [(.int w0)]) (W := 1) C X22 at_197 rfl (C.t 6 rfl) (C.t 7 rfl) (C.t 8 rfl) (C.t 9 rfl) (rm2 l Z a0 C.w [] (0 : Int32) v20 v3 v13 ad1 v27 (fun j => ([x0, x1, x2] : List Int32).getD j 0) w0 T22.heap n0 Z22 A22_ad1 (by decide) (by decide) c5.1 c5.2 c3.1 c3.2 hwd hnar hg0) (by decide) pd_2 rfl rfl rfl (Nat.le_of_eq rfl) (by decide) (by decide) (by decide) (by decide) rfl ?_
      intro T23 v23_ L23 X23 hQ23
      obtain ⟨rfl, N23q, hh23⟩ := hQ23
      have N23 := Fr.app N22 N23q
      refine g_icmp C X23 at_200 (by decide) rfl rfl ?_ ?_
      · intro h200
        have h200 : ¬ w0.toInt = w0.toInt := h200
        exact absurd rfl h200
      · intro h200
        have h200 : w0.toInt = w0.toInt := h200
        refine g_iconst C X23 (1 : Int32) at_203 rfl rfl ?_
        refine g_goto C X23 at_204 (by decide) rfl ?_
        refine g_istore C X23 at_208 #[.val (.int x0), .val (.int x1), .val (.int x2), .val (.int x3), .val (.int v3), .val (.int v13), .val (.int v20), .val (.int v27), .val (.ref ad1), .val (.ref ad5), .val (.int en), .val (.int (1 : Int32))] rfl rfl ?_
        refine g_iload C X23 at_210 rfl rfl ?_
        refine g_if C X23 at_212 (by decide) rfl rfl ?_ ?_
        · intro h212
          have h212 : (1 : Int) = 0 := h212
          exact absurd h212 (by decide)
        · intro h212
          have h212 : ¬ (1 : Int) = 0 := h212
          refine g_aload C X23 at_215 rfl rfl ?_
          refine g_iconst C X23 (1 : Int32) at_217 rfl rfl ?_
          refine g_baload C X23 at_218 hh23 A22 (by decide) (by decide) (v := (.int w1)) hw1 rfl ?_
          refine g_iconst C X23 (1 : Int32) at_219 rfl rfl ?_
          refine g_iload C X23 at_220 rfl rfl ?_
          refine g_iload C X23 at_222 rfl rfl ?_
          refine g_iload C X23 at_224 rfl rfl ?_
          refine g_aload C X23 at_226 rfl rfl ?_
          refine g_iload C X23 at_228 rfl rfl ?_
          refine g_callS (argsL := [(.int (1 : Int32)), (.int v20), (.int v3), (.int v13), (.ref ad1), (.int v27)]) (rest := [(.int w1)]) (W := 1) C X23 at_230 hh23 (C.t 6 rfl) (C.t 7 rfl) (C.t 8 rfl) (C.t 9 rfl) (rm2 l Z a0 C.w [] (1 : Int32) v20 v3 v13 ad1 v27 (fun j => ([x0, x1, x2] : List Int32).getD j 0) w1 T22.heap n0 Z22 A22_ad1 (by decide) (by decide) c5.1 c5.2 c3.1 c3.2 hwd hnar hg1) (by decide) pd_2 rfl rfl rfl (Nat.le_of_eq rfl) (by decide) (by decide) (by decide) (by decide) rfl ?_
          intro T24 v24_ L24 X24 hQ24
          obtain ⟨rfl, N24q, hh24⟩ := hQ24
          have N24 := Fr.app N23 N24q
          refine g_icmp C X24 at_233 (by decide) rfl rfl ?_ ?_
          · intro h233
            have h233 : ¬ w1.toInt = w1.toInt := h233
            exact absurd rfl h233
          · intro h233
            have h233 : w1.toInt = w1.toInt := h233
            refine g_iconst C X24 (1 : Int32) at_236 rfl rfl ?_
            refine g_goto C X24 at_237 (by decide) rfl ?_
            refine g_istore C X24 at_241 #[.val (.int x0), .val (.int x1), .val (.int x2), .val (.int x3), .val (.int v3), .val (.int v13), .val (.int v20), .val (.int v27), .val (.ref ad1), .val (.ref ad5), .val (.int en), .val (.int (1 : Int32))] rfl rfl ?_
            refine g_iload C X24 at_243 rfl rfl ?_
            refine g_if C X24 at_245 (by decide) rfl rfl ?_ ?_
            · intro h245
              have h245 : (1 : Int) = 0 := h245
              exact absurd h245 (by decide)
            · intro h245
              have h245 : ¬ (1 : Int) = 0 := h245
              refine g_aload C X24 at_248 rfl rfl ?_
              refine g_iconst C X24 (2 : Int32) at_250 rfl rfl ?_
              refine g_baload C X24 at_251 hh24 A22 (by decide) (by decide) (v := (.int w2)) hw2 rfl ?_
              refine g_iconst C X24 (2 : Int32) at_252 rfl rfl ?_
              refine g_iload C X24 at_253 rfl rfl ?_
              refine g_iload C X24 at_255 rfl rfl ?_
              refine g_iload C X24 at_257 rfl rfl ?_
              refine g_aload C X24 at_259 rfl rfl ?_
              refine g_iload C X24 at_261 rfl rfl ?_
              refine g_callS (argsL := [(.int (2 : Int32)), (.int v20), (.int v3), (.int v13), (.ref ad1), (.int v27)]) (rest := [(.int w2)]) (W := 1) C X24 at_263 hh24 (C.t 6 rfl) (C.t 7 rfl) (C.t 8 rfl) (C.t 9 rfl) (rm2 l Z a0 C.w [] (2 : Int32) v20 v3 v13 ad1 v27 (fun j => ([x0, x1, x2] : List Int32).getD j 0) w2 T22.heap n0 Z22 A22_ad1 (by decide) (by decide) c5.1 c5.2 c3.1 c3.2 hwd hnar hg2) (by decide) pd_2 rfl rfl rfl (Nat.le_of_eq rfl) (by decide) (by decide) (by decide) (by decide) rfl ?_
              intro T25 v25_ L25 X25 hQ25
              obtain ⟨rfl, N25q, hh25⟩ := hQ25
              have N25 := Fr.app N24 N25q
              refine g_icmp C X25 at_266 (by decide) rfl rfl ?_ ?_
              · intro h266
                have h266 : ¬ w2.toInt = w2.toInt := h266
                exact absurd rfl h266
              · intro h266
                have h266 : w2.toInt = w2.toInt := h266
                refine g_iconst C X25 (1 : Int32) at_269 rfl rfl ?_
                refine g_goto C X25 at_270 (by decide) rfl ?_
                refine g_istore C X25 at_274 #[.val (.int x0), .val (.int x1), .val (.int x2), .val (.int x3), .val (.int v3), .val (.int v13), .val (.int v20), .val (.int v27), .val (.ref ad1), .val (.ref ad5), .val (.int en), .val (.int (1 : Int32))] rfl rfl ?_
                refine g_iload C X25 at_276 rfl rfl ?_
                refine g_if C X25 at_278 (by decide) rfl rfl ?_ ?_
                · intro h278
                  have h278 : (1 : Int) = 0 := h278
                  exact absurd h278 (by decide)
                · intro h278
                  have h278 : ¬ (1 : Int) = 0 := h278
                  refine g_aload C X25 at_281 rfl rfl ?_
                  refine g_iconst C X25 (3 : Int32) at_283 rfl rfl ?_
                  refine g_baload C X25 at_284 hh25 A22 (by decide) (by decide) (v := (.int w3)) hw3 rfl ?_
                  refine g_iconst C X25 (3 : Int32) at_285 rfl rfl ?_
                  refine g_iload C X25 at_286 rfl rfl ?_
                  refine g_iload C X25 at_288 rfl rfl ?_
                  refine g_iload C X25 at_290 rfl rfl ?_
                  refine g_aload C X25 at_292 rfl rfl ?_
                  refine g_iload C X25 at_294 rfl rfl ?_
                  refine g_callS (argsL := [(.int (3 : Int32)), (.int v20), (.int v3), (.int v13), (.ref ad1), (.int v27)]) (rest := [(.int w3)]) (W := 1) C X25 at_296 hh25 (C.t 6 rfl) (C.t 7 rfl) (C.t 8 rfl) (C.t 9 rfl) (rm2 l Z a0 C.w [] (3 : Int32) v20 v3 v13 ad1 v27 (fun j => ([x0, x1, x2] : List Int32).getD j 0) w3 T22.heap n0 Z22 A22_ad1 (by decide) (by decide) c5.1 c5.2 c3.1 c3.2 hwd hnar hg3) (by decide) pd_2 rfl rfl rfl (Nat.le_of_eq rfl) (by decide) (by decide) (by decide) (by decide) rfl ?_
                  intro T26 v26_ L26 X26 hQ26
                  obtain ⟨rfl, N26q, hh26⟩ := hQ26
                  have N26 := Fr.app N25 N26q
                  refine g_icmp C X26 at_299 (by decide) rfl rfl ?_ ?_
                  · intro h299
                    have h299 : ¬ w3.toInt = w3.toInt := h299
                    exact absurd rfl h299
                  · intro h299
                    have h299 : w3.toInt = w3.toInt := h299
                    refine g_iconst C X26 (1 : Int32) at_302 rfl rfl ?_
                    refine g_goto C X26 at_303 (by decide) rfl ?_
                    refine g_istore C X26 at_307 #[.val (.int x0), .val (.int x1), .val (.int x2), .val (.int x3), .val (.int v3), .val (.int v13), .val (.int v20), .val (.int v27), .val (.ref ad1), .val (.ref ad5), .val (.int en), .val (.int (1 : Int32))] rfl rfl ?_
                    refine g_iload C X26 at_309 rfl rfl ?_
                    refine g_if C X26 at_311 (by decide) rfl rfl ?_ ?_
                    · intro h311
                      have h311 : (1 : Int) = 0 := h311
                      exact absurd h311 (by decide)
                    · intro h311
                      have h311 : ¬ (1 : Int) = 0 := h311
                      refine g_aload C X26 at_314 rfl rfl ?_
                      refine g_iconst C X26 (4 : Int32) at_316 rfl rfl ?_
                      refine g_baload C X26 at_317 hh26 A22 (by decide) (by decide) (v := (.int w4)) hw4 rfl ?_
                      refine g_iconst C X26 (4 : Int32) at_318 rfl rfl ?_
                      refine g_iload C X26 at_319 rfl rfl ?_
                      refine g_iload C X26 at_321 rfl rfl ?_
                      refine g_iload C X26 at_323 rfl rfl ?_
                      refine g_aload C X26 at_325 rfl rfl ?_
                      refine g_iload C X26 at_327 rfl rfl ?_
                      refine g_callS (argsL := [(.int (4 : Int32)), (.int v20), (.int v3), (.int v13), (.ref ad1), (.int v27)]) (rest := [(.int w4)]) (W := 1) C X26 at_329 hh26 (C.t 6 rfl) (C.t 7 rfl) (C.t 8 rfl) (C.t 9 rfl) (rm2 l Z a0 C.w [] (4 : Int32) v20 v3 v13 ad1 v27 (fun j => ([x0, x1, x2] : List Int32).getD j 0) w4 T22.heap n0 Z22 A22_ad1 (by decide) (by decide) c5.1 c5.2 c3.1 c3.2 hwd hnar hg4) (by decide) pd_2 rfl rfl rfl (Nat.le_of_eq rfl) (by decide) (by decide) (by decide) (by decide) rfl ?_
                      intro T27 v27_ L27 X27 hQ27
                      obtain ⟨rfl, N27q, hh27⟩ := hQ27
                      have N27 := Fr.app N26 N27q
                      refine g_icmp C X27 at_332 (by decide) rfl rfl ?_ ?_
                      · intro h332
                        have h332 : ¬ w4.toInt = w4.toInt := h332
                        exact absurd rfl h332
                      · intro h332
                        have h332 : w4.toInt = w4.toInt := h332
                        refine g_iconst C X27 (1 : Int32) at_335 rfl rfl ?_
                        refine g_goto C X27 at_336 (by decide) rfl ?_
                        refine g_istore C X27 at_340 #[.val (.int x0), .val (.int x1), .val (.int x2), .val (.int x3), .val (.int v3), .val (.int v13), .val (.int v20), .val (.int v27), .val (.ref ad1), .val (.ref ad5), .val (.int en), .val (.int (1 : Int32))] rfl rfl ?_
                        refine g_iload C X27 at_342 rfl rfl ?_
                        refine g_if C X27 at_344 (by decide) rfl rfl ?_ ?_
                        · intro h344
                          have h344 : (1 : Int) = 0 := h344
                          exact absurd h344 (by decide)
                        · intro h344
                          have h344 : ¬ (1 : Int) = 0 := h344
                          refine g_aload C X27 at_347 rfl rfl ?_
                          refine g_iconst C X27 (5 : Int32) at_349 rfl rfl ?_
                          refine g_baload C X27 at_350 hh27 A22 (by decide) (by decide) (v := (.int w5)) hw5 rfl ?_
                          refine g_iconst C X27 (5 : Int32) at_351 rfl rfl ?_
                          refine g_iload C X27 at_352 rfl rfl ?_
                          refine g_iload C X27 at_354 rfl rfl ?_
                          refine g_iload C X27 at_356 rfl rfl ?_
                          refine g_aload C X27 at_358 rfl rfl ?_
                          refine g_iload C X27 at_360 rfl rfl ?_
                          refine g_callS (argsL := [(.int (5 : Int32)), (.int v20), (.int v3), (.int v13), (.ref ad1), (.int v27)]) (rest := [(.int w5)]) (W := 1) C X27 at_362 hh27 (C.t 6 rfl) (C.t 7 rfl) (C.t 8 rfl) (C.t 9 rfl) (rm2 l Z a0 C.w [] (5 : Int32) v20 v3 v13 ad1 v27 (fun j => ([x0, x1, x2] : List Int32).getD j 0) w5 T22.heap n0 Z22 A22_ad1 (by decide) (by decide) c5.1 c5.2 c3.1 c3.2 hwd hnar hg5) (by decide) pd_2 rfl rfl rfl (Nat.le_of_eq rfl) (by decide) (by decide) (by decide) (by decide) rfl ?_
                          intro T28 v28_ L28 X28 hQ28
                          obtain ⟨rfl, N28q, hh28⟩ := hQ28
                          have N28 := Fr.app N27 N28q
                          refine g_icmp C X28 at_365 (by decide) rfl rfl ?_ ?_
                          · intro h365
                            have h365 : ¬ w5.toInt = w5.toInt := h365
                            exact absurd rfl h365
                          · intro h365
                            have h365 : w5.toInt = w5.toInt := h365
                            refine g_iconst C X28 (1 : Int32) at_368 rfl rfl ?_
                            refine g_goto C X28 at_369 (by decide) rfl ?_
                            refine g_istore C X28 at_373 #[.val (.int x0), .val (.int x1), .val (.int x2), .val (.int x3), .val (.int v3), .val (.int v13), .val (.int v20), .val (.int v27), .val (.ref ad1), .val (.ref ad5), .val (.int en), .val (.int (1 : Int32))] rfl rfl ?_
                            refine g_iload C X28 at_375 rfl rfl ?_
                            refine g_if C X28 at_377 (by decide) rfl rfl ?_ ?_
                            · intro h377
                              have h377 : (1 : Int) = 0 := h377
                              exact absurd h377 (by decide)
                            · intro h377
                              have h377 : ¬ (1 : Int) = 0 := h377
                              refine g_aload C X28 at_380 rfl rfl ?_
                              refine g_bipush C X28 (6 : Int32) at_382 rfl rfl ?_
                              refine g_baload C X28 at_384 hh28 A22 (by decide) (by decide) (v := (.int w6)) hw6 rfl ?_
                              refine g_bipush C X28 (6 : Int32) at_385 rfl rfl ?_
                              refine g_iload C X28 at_387 rfl rfl ?_
                              refine g_iload C X28 at_389 rfl rfl ?_
                              refine g_iload C X28 at_391 rfl rfl ?_
                              refine g_aload C X28 at_393 rfl rfl ?_
                              refine g_iload C X28 at_395 rfl rfl ?_
                              refine g_callS (argsL := [(.int (6 : Int32)), (.int v20), (.int v3), (.int v13), (.ref ad1), (.int v27)]) (rest := [(.int w6)]) (W := 1) C X28 at_397 hh28 (C.t 6 rfl) (C.t 7 rfl) (C.t 8 rfl) (C.t 9 rfl) (rm2 l Z a0 C.w [] (6 : Int32) v20 v3 v13 ad1 v27 (fun j => ([x0, x1, x2] : List Int32).getD j 0) w6 T22.heap n0 Z22 A22_ad1 (by decide) (by decide) c5.1 c5.2 c3.1 c3.2 hwd hnar hg6) (by decide) pd_2 rfl rfl rfl (Nat.le_of_eq rfl) (by decide) (by decide) (by decide) (by decide) rfl ?_
                              intro T29 v29_ L29 X29 hQ29
                              obtain ⟨rfl, N29q, hh29⟩ := hQ29
                              have N29 := Fr.app N28 N29q
                              refine g_icmp C X29 at_400 (by decide) rfl rfl ?_ ?_
                              · intro h400
                                have h400 : ¬ w6.toInt = w6.toInt := h400
                                exact absurd rfl h400
                              · intro h400
                                have h400 : w6.toInt = w6.toInt := h400
                                refine g_iconst C X29 (1 : Int32) at_403 rfl rfl ?_
                                refine g_goto C X29 at_404 (by decide) rfl ?_
                                refine g_istore C X29 at_408 #[.val (.int x0), .val (.int x1), .val (.int x2), .val (.int x3), .val (.int v3), .val (.int v13), .val (.int v20), .val (.int v27), .val (.ref ad1), .val (.ref ad5), .val (.int en), .val (.int (1 : Int32))] rfl rfl ?_
                                refine g_iload C X29 at_410 rfl rfl ?_
                                refine g_if C X29 at_412 (by decide) rfl rfl ?_ ?_
                                · intro h412
                                  have h412 : (1 : Int) = 0 := h412
                                  exact absurd h412 (by decide)
                                · intro h412
                                  have h412 : ¬ (1 : Int) = 0 := h412
                                  refine g_aload C X29 at_415 rfl rfl ?_
                                  refine g_bipush C X29 (7 : Int32) at_417 rfl rfl ?_
                                  refine g_baload C X29 at_419 hh29 A22 (by decide) (by decide) (v := (.int w7)) hw7 rfl ?_
                                  refine g_bipush C X29 (7 : Int32) at_420 rfl rfl ?_
                                  refine g_iload C X29 at_422 rfl rfl ?_
                                  refine g_iload C X29 at_424 rfl rfl ?_
                                  refine g_iload C X29 at_426 rfl rfl ?_
                                  refine g_aload C X29 at_428 rfl rfl ?_
                                  refine g_iload C X29 at_430 rfl rfl ?_
                                  refine g_callS (argsL := [(.int (7 : Int32)), (.int v20), (.int v3), (.int v13), (.ref ad1), (.int v27)]) (rest := [(.int w7)]) (W := 1) C X29 at_432 hh29 (C.t 6 rfl) (C.t 7 rfl) (C.t 8 rfl) (C.t 9 rfl) (rm2 l Z a0 C.w [] (7 : Int32) v20 v3 v13 ad1 v27 (fun j => ([x0, x1, x2] : List Int32).getD j 0) w7 T22.heap n0 Z22 A22_ad1 (by decide) (by decide) c5.1 c5.2 c3.1 c3.2 hwd hnar hg7) (by decide) pd_2 rfl rfl rfl (Nat.le_of_eq rfl) (by decide) (by decide) (by decide) (by decide) rfl ?_
                                  intro T30 v30_ L30 X30 hQ30
                                  obtain ⟨rfl, N30q, hh30⟩ := hQ30
                                  have N30 := Fr.app N29 N30q
                                  refine g_icmp C X30 at_435 (by decide) rfl rfl ?_ ?_
                                  · intro h435
                                    have h435 : ¬ w7.toInt = w7.toInt := h435
                                    exact absurd rfl h435
                                  · intro h435
                                    have h435 : w7.toInt = w7.toInt := h435
                                    refine g_iconst C X30 (1 : Int32) at_438 rfl rfl ?_
                                    refine g_goto C X30 at_439 (by decide) rfl ?_
                                    refine g_istore C X30 at_443 #[.val (.int x0), .val (.int x1), .val (.int x2), .val (.int x3), .val (.int v3), .val (.int v13), .val (.int v20), .val (.int v27), .val (.ref ad1), .val (.ref ad5), .val (.int en), .val (.int (1 : Int32))] rfl rfl ?_
                                    refine g_iload C X30 at_445 rfl rfl ?_
                                    refine g_if C X30 at_447 (by decide) rfl rfl ?_ ?_
                                    · intro h447
                                      have h447 : (1 : Int) = 0 := h447
                                      exact absurd h447 (by decide)
                                    · intro h447
                                      have h447 : ¬ (1 : Int) = 0 := h447
                                      refine g_aload C X30 at_450 rfl rfl ?_
                                      refine g_bipush C X30 (8 : Int32) at_452 rfl rfl ?_
                                      refine g_baload C X30 at_454 hh30 A22 (by decide) (by decide) (v := (.int w8)) hw8 rfl ?_
                                      refine g_bipush C X30 (8 : Int32) at_455 rfl rfl ?_
                                      refine g_iload C X30 at_457 rfl rfl ?_
                                      refine g_iload C X30 at_459 rfl rfl ?_
                                      refine g_iload C X30 at_461 rfl rfl ?_
                                      refine g_aload C X30 at_463 rfl rfl ?_
                                      refine g_iload C X30 at_465 rfl rfl ?_
                                      refine g_callS (argsL := [(.int (8 : Int32)), (.int v20), (.int v3), (.int v13), (.ref ad1), (.int v27)]) (rest := [(.int w8)]) (W := 1) C X30 at_467 hh30 (C.t 6 rfl) (C.t 7 rfl) (C.t 8 rfl) (C.t 9 rfl) (rm2 l Z a0 C.w [] (8 : Int32) v20 v3 v13 ad1 v27 (fun j => ([x0, x1, x2] : List Int32).getD j 0) w8 T22.heap n0 Z22 A22_ad1 (by decide) (by decide) c5.1 c5.2 c3.1 c3.2 hwd hnar hg8) (by decide) pd_2 rfl rfl rfl (Nat.le_of_eq rfl) (by decide) (by decide) (by decide) (by decide) rfl ?_
                                      intro T31 v31_ L31 X31 hQ31
                                      obtain ⟨rfl, N31q, hh31⟩ := hQ31
                                      have N31 := Fr.app N30 N31q
                                      refine g_icmp C X31 at_470 (by decide) rfl rfl ?_ ?_
                                      · intro h470
                                        have h470 : ¬ w8.toInt = w8.toInt := h470
                                        exact absurd rfl h470
                                      · intro h470
                                        have h470 : w8.toInt = w8.toInt := h470
                                        refine g_iconst C X31 (1 : Int32) at_473 rfl rfl ?_
                                        refine g_goto C X31 at_474 (by decide) rfl ?_
                                        refine g_istore C X31 at_478 #[.val (.int x0), .val (.int x1), .val (.int x2), .val (.int x3), .val (.int v3), .val (.int v13), .val (.int v20), .val (.int v27), .val (.ref ad1), .val (.ref ad5), .val (.int en), .val (.int (1 : Int32))] rfl rfl ?_
                                        refine g_iload C X31 at_480 rfl rfl ?_
                                        refine g_if C X31 at_482 (by decide) rfl rfl ?_ ?_
                                        · intro h482
                                          have h482 : (1 : Int) = 0 := h482
                                          exact absurd h482 (by decide)
                                        · intro h482
                                          have h482 : ¬ (1 : Int) = 0 := h482
                                          refine g_aload C X31 at_485 rfl rfl ?_
                                          refine g_bipush C X31 (9 : Int32) at_487 rfl rfl ?_
                                          refine g_baload C X31 at_489 hh31 A22 (by decide) (by decide) (v := (.int w9)) hw9 rfl ?_
                                          refine g_bipush C X31 (9 : Int32) at_490 rfl rfl ?_
                                          refine g_iload C X31 at_492 rfl rfl ?_
                                          refine g_iload C X31 at_494 rfl rfl ?_
                                          refine g_iload C X31 at_496 rfl rfl ?_
                                          refine g_aload C X31 at_498 rfl rfl ?_
                                          refine g_iload C X31 at_500 rfl rfl ?_
                                          refine g_callS (argsL := [(.int (9 : Int32)), (.int v20), (.int v3), (.int v13), (.ref ad1), (.int v27)]) (rest := [(.int w9)]) (W := 1) C X31 at_502 hh31 (C.t 6 rfl) (C.t 7 rfl) (C.t 8 rfl) (C.t 9 rfl) (rm2 l Z a0 C.w [] (9 : Int32) v20 v3 v13 ad1 v27 (fun j => ([x0, x1, x2] : List Int32).getD j 0) w9 T22.heap n0 Z22 A22_ad1 (by decide) (by decide) c5.1 c5.2 c3.1 c3.2 hwd hnar hg9) (by decide) pd_2 rfl rfl rfl (Nat.le_of_eq rfl) (by decide) (by decide) (by decide) (by decide) rfl ?_
                                          intro T32 v32_ L32 X32 hQ32
                                          obtain ⟨rfl, N32q, hh32⟩ := hQ32
                                          have N32 := Fr.app N31 N32q
                                          refine g_icmp C X32 at_505 (by decide) rfl rfl ?_ ?_
                                          · intro h505
                                            have h505 : ¬ w9.toInt = w9.toInt := h505
                                            exact absurd rfl h505
                                          · intro h505
                                            have h505 : w9.toInt = w9.toInt := h505
                                            refine g_iconst C X32 (1 : Int32) at_508 rfl rfl ?_
                                            refine g_goto C X32 at_509 (by decide) rfl ?_
                                            refine g_istore C X32 at_513 #[.val (.int x0), .val (.int x1), .val (.int x2), .val (.int x3), .val (.int v3), .val (.int v13), .val (.int v20), .val (.int v27), .val (.ref ad1), .val (.ref ad5), .val (.int en), .val (.int (1 : Int32))] rfl rfl ?_
                                            refine g_iload C X32 at_515 rfl rfl ?_
                                            refine g_if C X32 at_517 (by decide) rfl rfl ?_ ?_
                                            · intro h517
                                              have h517 : (1 : Int) = 0 := h517
                                              exact absurd h517 (by decide)
                                            · intro h517
                                              have h517 : ¬ (1 : Int) = 0 := h517
                                              refine g_aload C X32 at_520 rfl rfl ?_
                                              refine g_bipush C X32 (10 : Int32) at_522 rfl rfl ?_
                                              refine g_baload C X32 at_524 hh32 A22 (by decide) (by decide) (v := (.int w10)) hw10 rfl ?_
                                              refine g_bipush C X32 (10 : Int32) at_525 rfl rfl ?_
                                              refine g_iload C X32 at_527 rfl rfl ?_
                                              refine g_iload C X32 at_529 rfl rfl ?_
                                              refine g_iload C X32 at_531 rfl rfl ?_
                                              refine g_aload C X32 at_533 rfl rfl ?_
                                              refine g_iload C X32 at_535 rfl rfl ?_
                                              refine g_callS (argsL := [(.int (10 : Int32)), (.int v20), (.int v3), (.int v13), (.ref ad1), (.int v27)]) (rest := [(.int w10)]) (W := 1) C X32 at_537 hh32 (C.t 6 rfl) (C.t 7 rfl) (C.t 8 rfl) (C.t 9 rfl) (rm2 l Z a0 C.w [] (10 : Int32) v20 v3 v13 ad1 v27 (fun j => ([x0, x1, x2] : List Int32).getD j 0) w10 T22.heap n0 Z22 A22_ad1 (by decide) (by decide) c5.1 c5.2 c3.1 c3.2 hwd hnar hg10) (by decide) pd_2 rfl rfl rfl (Nat.le_of_eq rfl) (by decide) (by decide) (by decide) (by decide) rfl ?_
                                              intro T33 v33_ L33 X33 hQ33
                                              obtain ⟨rfl, N33q, hh33⟩ := hQ33
                                              have N33 := Fr.app N32 N33q
                                              refine g_icmp C X33 at_540 (by decide) rfl rfl ?_ ?_
                                              · intro h540
                                                have h540 : ¬ w10.toInt = w10.toInt := h540
                                                exact absurd rfl h540
                                              · intro h540
                                                have h540 : w10.toInt = w10.toInt := h540
                                                refine g_iconst C X33 (1 : Int32) at_543 rfl rfl ?_
                                                refine g_goto C X33 at_544 (by decide) rfl ?_
                                                refine g_istore C X33 at_548 #[.val (.int x0), .val (.int x1), .val (.int x2), .val (.int x3), .val (.int v3), .val (.int v13), .val (.int v20), .val (.int v27), .val (.ref ad1), .val (.ref ad5), .val (.int en), .val (.int (1 : Int32))] rfl rfl ?_
                                                refine g_iload C X33 at_550 rfl rfl ?_
                                                refine g_if C X33 at_552 (by decide) rfl rfl ?_ ?_
                                                · intro h552
                                                  have h552 : (1 : Int) = 0 := h552
                                                  exact absurd h552 (by decide)
                                                · intro h552
                                                  have h552 : ¬ (1 : Int) = 0 := h552
                                                  refine g_aload C X33 at_555 rfl rfl ?_
                                                  refine g_bipush C X33 (11 : Int32) at_557 rfl rfl ?_
                                                  refine g_baload C X33 at_559 hh33 A22 (by decide) (by decide) (v := (.int w11)) hw11 rfl ?_
                                                  refine g_bipush C X33 (11 : Int32) at_560 rfl rfl ?_
                                                  refine g_iload C X33 at_562 rfl rfl ?_
                                                  refine g_iload C X33 at_564 rfl rfl ?_
                                                  refine g_iload C X33 at_566 rfl rfl ?_
                                                  refine g_aload C X33 at_568 rfl rfl ?_
                                                  refine g_iload C X33 at_570 rfl rfl ?_
                                                  refine g_callS (argsL := [(.int (11 : Int32)), (.int v20), (.int v3), (.int v13), (.ref ad1), (.int v27)]) (rest := [(.int w11)]) (W := 1) C X33 at_572 hh33 (C.t 6 rfl) (C.t 7 rfl) (C.t 8 rfl) (C.t 9 rfl) (rm2 l Z a0 C.w [] (11 : Int32) v20 v3 v13 ad1 v27 (fun j => ([x0, x1, x2] : List Int32).getD j 0) w11 T22.heap n0 Z22 A22_ad1 (by decide) (by decide) c5.1 c5.2 c3.1 c3.2 hwd hnar hg11) (by decide) pd_2 rfl rfl rfl (Nat.le_of_eq rfl) (by decide) (by decide) (by decide) (by decide) rfl ?_
                                                  intro T34 v34_ L34 X34 hQ34
                                                  obtain ⟨rfl, N34q, hh34⟩ := hQ34
                                                  have N34 := Fr.app N33 N34q
                                                  refine g_icmp C X34 at_575 (by decide) rfl rfl ?_ ?_
                                                  · intro h575
                                                    have h575 : ¬ w11.toInt = w11.toInt := h575
                                                    exact absurd rfl h575
                                                  · intro h575
                                                    have h575 : w11.toInt = w11.toInt := h575
                                                    refine g_iconst C X34 (1 : Int32) at_578 rfl rfl ?_
                                                    refine g_goto C X34 at_579 (by decide) rfl ?_
                                                    refine g_istore C X34 at_583 #[.val (.int x0), .val (.int x1), .val (.int x2), .val (.int x3), .val (.int v3), .val (.int v13), .val (.int v20), .val (.int v27), .val (.ref ad1), .val (.ref ad5), .val (.int en), .val (.int (1 : Int32))] rfl rfl ?_
                                                    refine g_iload C X34 at_585 rfl rfl ?_
                                                    refine g_if C X34 at_587 (by decide) rfl rfl ?_ ?_
                                                    · intro h587
                                                      have h587 : (1 : Int) = 0 := h587
                                                      exact absurd h587 (by decide)
                                                    · intro h587
                                                      have h587 : ¬ (1 : Int) = 0 := h587
                                                      refine g_aload C X34 at_590 rfl rfl ?_
                                                      refine g_bipush C X34 (12 : Int32) at_592 rfl rfl ?_
                                                      refine g_baload C X34 at_594 hh34 A22 (by decide) (by decide) (v := (.int w12)) hw12 rfl ?_
                                                      refine g_bipush C X34 (12 : Int32) at_595 rfl rfl ?_
                                                      refine g_iload C X34 at_597 rfl rfl ?_
                                                      refine g_iload C X34 at_599 rfl rfl ?_
                                                      refine g_iload C X34 at_601 rfl rfl ?_
                                                      refine g_aload C X34 at_603 rfl rfl ?_
                                                      refine g_iload C X34 at_605 rfl rfl ?_
                                                      refine g_callS (argsL := [(.int (12 : Int32)), (.int v20), (.int v3), (.int v13), (.ref ad1), (.int v27)]) (rest := [(.int w12)]) (W := 1) C X34 at_607 hh34 (C.t 6 rfl) (C.t 7 rfl) (C.t 8 rfl) (C.t 9 rfl) (rm2 l Z a0 C.w [] (12 : Int32) v20 v3 v13 ad1 v27 (fun j => ([x0, x1, x2] : List Int32).getD j 0) w12 T22.heap n0 Z22 A22_ad1 (by decide) (by decide) c5.1 c5.2 c3.1 c3.2 hwd hnar hg12) (by decide) pd_2 rfl rfl rfl (Nat.le_of_eq rfl) (by decide) (by decide) (by decide) (by decide) rfl ?_
                                                      intro T35 v35_ L35 X35 hQ35
                                                      obtain ⟨rfl, N35q, hh35⟩ := hQ35
                                                      have N35 := Fr.app N34 N35q
                                                      refine g_icmp C X35 at_610 (by decide) rfl rfl ?_ ?_
                                                      · intro h610
                                                        have h610 : ¬ w12.toInt = w12.toInt := h610
                                                        exact absurd rfl h610
                                                      · intro h610
                                                        have h610 : w12.toInt = w12.toInt := h610
                                                        refine g_iconst C X35 (1 : Int32) at_613 rfl rfl ?_
                                                        refine g_goto C X35 at_614 (by decide) rfl ?_
                                                        refine g_istore C X35 at_618 #[.val (.int x0), .val (.int x1), .val (.int x2), .val (.int x3), .val (.int v3), .val (.int v13), .val (.int v20), .val (.int v27), .val (.ref ad1), .val (.ref ad5), .val (.int en), .val (.int (1 : Int32))] rfl rfl ?_
                                                        refine g_iload C X35 at_620 rfl rfl ?_
                                                        refine g_if C X35 at_622 (by decide) rfl rfl ?_ ?_
                                                        · intro h622
                                                          have h622 : (1 : Int) = 0 := h622
                                                          exact absurd h622 (by decide)
                                                        · intro h622
                                                          have h622 : ¬ (1 : Int) = 0 := h622
                                                          refine g_aload C X35 at_625 rfl rfl ?_
                                                          refine g_bipush C X35 (13 : Int32) at_627 rfl rfl ?_
                                                          refine g_baload C X35 at_629 hh35 A22 (by decide) (by decide) (v := (.int w13)) hw13 rfl ?_
                                                          refine g_bipush C X35 (13 : Int32) at_630 rfl rfl ?_
                                                          refine g_iload C X35 at_632 rfl rfl ?_
                                                          refine g_iload C X35 at_634 rfl rfl ?_
                                                          refine g_iload C X35 at_636 rfl rfl ?_
                                                          refine g_aload C X35 at_638 rfl rfl ?_
                                                          refine g_iload C X35 at_640 rfl rfl ?_
                                                          refine g_callS (argsL := [(.int (13 : Int32)), (.int v20), (.int v3), (.int v13), (.ref ad1), (.int v27)]) (rest := [(.int w13)]) (W := 1) C X35 at_642 hh35 (C.t 6 rfl) (C.t 7 rfl) (C.t 8 rfl) (C.t 9 rfl) (rm2 l Z a0 C.w [] (13 : Int32) v20 v3 v13 ad1 v27 (fun j => ([x0, x1, x2] : List Int32).getD j 0) w13 T22.heap n0 Z22 A22_ad1 (by decide) (by decide) c5.1 c5.2 c3.1 c3.2 hwd hnar hg13) (by decide) pd_2 rfl rfl rfl (Nat.le_of_eq rfl) (by decide) (by decide) (by decide) (by decide) rfl ?_
                                                          intro T36 v36_ L36 X36 hQ36
                                                          obtain ⟨rfl, N36q, hh36⟩ := hQ36
                                                          have N36 := Fr.app N35 N36q
                                                          refine g_icmp C X36 at_645 (by decide) rfl rfl ?_ ?_
                                                          · intro h645
                                                            have h645 : ¬ w13.toInt = w13.toInt := h645
                                                            exact absurd rfl h645
                                                          · intro h645
                                                            have h645 : w13.toInt = w13.toInt := h645
                                                            refine g_iconst C X36 (1 : Int32) at_648 rfl rfl ?_
                                                            refine g_goto C X36 at_649 (by decide) rfl ?_
                                                            refine g_istore C X36 at_653 #[.val (.int x0), .val (.int x1), .val (.int x2), .val (.int x3), .val (.int v3), .val (.int v13), .val (.int v20), .val (.int v27), .val (.ref ad1), .val (.ref ad5), .val (.int en), .val (.int (1 : Int32))] rfl rfl ?_
                                                            refine g_iload C X36 at_655 rfl rfl ?_
                                                            refine g_if C X36 at_657 (by decide) rfl rfl ?_ ?_
                                                            · intro h657
                                                              have h657 : (1 : Int) = 0 := h657
                                                              exact absurd h657 (by decide)
                                                            · intro h657
                                                              have h657 : ¬ (1 : Int) = 0 := h657
                                                              refine g_aload C X36 at_660 rfl rfl ?_
                                                              refine g_bipush C X36 (14 : Int32) at_662 rfl rfl ?_
                                                              refine g_baload C X36 at_664 hh36 A22 (by decide) (by decide) (v := (.int w14)) hw14 rfl ?_
                                                              refine g_bipush C X36 (14 : Int32) at_665 rfl rfl ?_
                                                              refine g_iload C X36 at_667 rfl rfl ?_
                                                              refine g_iload C X36 at_669 rfl rfl ?_
                                                              refine g_iload C X36 at_671 rfl rfl ?_
                                                              refine g_aload C X36 at_673 rfl rfl ?_
                                                              refine g_iload C X36 at_675 rfl rfl ?_
                                                              refine g_callS (argsL := [(.int (14 : Int32)), (.int v20), (.int v3), (.int v13), (.ref ad1), (.int v27)]) (rest := [(.int w14)]) (W := 1) C X36 at_677 hh36 (C.t 6 rfl) (C.t 7 rfl) (C.t 8 rfl) (C.t 9 rfl) (rm2 l Z a0 C.w [] (14 : Int32) v20 v3 v13 ad1 v27 (fun j => ([x0, x1, x2] : List Int32).getD j 0) w14 T22.heap n0 Z22 A22_ad1 (by decide) (by decide) c5.1 c5.2 c3.1 c3.2 hwd hnar hg14) (by decide) pd_2 rfl rfl rfl (Nat.le_of_eq rfl) (by decide) (by decide) (by decide) (by decide) rfl ?_
                                                              intro T37 v37_ L37 X37 hQ37
                                                              obtain ⟨rfl, N37q, hh37⟩ := hQ37
                                                              have N37 := Fr.app N36 N37q
                                                              refine g_icmp C X37 at_680 (by decide) rfl rfl ?_ ?_
                                                              · intro h680
                                                                have h680 : ¬ w14.toInt = w14.toInt := h680
                                                                exact absurd rfl h680
                                                              · intro h680
                                                                have h680 : w14.toInt = w14.toInt := h680
                                                                refine g_iconst C X37 (1 : Int32) at_683 rfl rfl ?_
                                                                refine g_goto C X37 at_684 (by decide) rfl ?_
                                                                refine g_istore C X37 at_688 #[.val (.int x0), .val (.int x1), .val (.int x2), .val (.int x3), .val (.int v3), .val (.int v13), .val (.int v20), .val (.int v27), .val (.ref ad1), .val (.ref ad5), .val (.int en), .val (.int (1 : Int32))] rfl rfl ?_
                                                                refine g_iload C X37 at_690 rfl rfl ?_
                                                                refine g_if C X37 at_692 (by decide) rfl rfl ?_ ?_
                                                                · intro h692
                                                                  have h692 : (1 : Int) = 0 := h692
                                                                  exact absurd h692 (by decide)
                                                                · intro h692
                                                                  have h692 : ¬ (1 : Int) = 0 := h692
                                                                  refine g_aload C X37 at_695 rfl rfl ?_
                                                                  refine g_bipush C X37 (15 : Int32) at_697 rfl rfl ?_
                                                                  refine g_baload C X37 at_699 hh37 A22 (by decide) (by decide) (v := (.int w15)) hw15 rfl ?_
                                                                  refine g_bipush C X37 (15 : Int32) at_700 rfl rfl ?_
                                                                  refine g_iload C X37 at_702 rfl rfl ?_
                                                                  refine g_iload C X37 at_704 rfl rfl ?_
                                                                  refine g_iload C X37 at_706 rfl rfl ?_
                                                                  refine g_aload C X37 at_708 rfl rfl ?_
                                                                  refine g_iload C X37 at_710 rfl rfl ?_
                                                                  refine g_callS (argsL := [(.int (15 : Int32)), (.int v20), (.int v3), (.int v13), (.ref ad1), (.int v27)]) (rest := [(.int w15)]) (W := 1) C X37 at_712 hh37 (C.t 6 rfl) (C.t 7 rfl) (C.t 8 rfl) (C.t 9 rfl) (rm2 l Z a0 C.w [] (15 : Int32) v20 v3 v13 ad1 v27 (fun j => ([x0, x1, x2] : List Int32).getD j 0) w15 T22.heap n0 Z22 A22_ad1 (by decide) (by decide) c5.1 c5.2 c3.1 c3.2 hwd hnar hg15) (by decide) pd_2 rfl rfl rfl (Nat.le_of_eq rfl) (by decide) (by decide) (by decide) (by decide) rfl ?_
                                                                  intro T38 v38_ L38 X38 hQ38
                                                                  obtain ⟨rfl, N38q, hh38⟩ := hQ38
                                                                  have N38 := Fr.app N37 N38q
                                                                  refine g_icmp C X38 at_715 (by decide) rfl rfl ?_ ?_
                                                                  · intro h715
                                                                    have h715 : ¬ w15.toInt = w15.toInt := h715
                                                                    exact absurd rfl h715
                                                                  · intro h715
                                                                    have h715 : w15.toInt = w15.toInt := h715
                                                                    refine g_iconst C X38 (1 : Int32) at_718 rfl rfl ?_
                                                                    refine g_goto C X38 at_719 (by decide) rfl ?_
                                                                    refine g_istore C X38 at_723 #[.val (.int x0), .val (.int x1), .val (.int x2), .val (.int x3), .val (.int v3), .val (.int v13), .val (.int v20), .val (.int v27), .val (.ref ad1), .val (.ref ad5), .val (.int en), .val (.int (1 : Int32))] rfl rfl ?_
                                                                    refine g_iload C X38 at_725 rfl rfl ?_
                                                                    exact g_ireturnN C X38 at_727 rfl (Or.inl rfl) ⟨rfl, N38⟩ (by decide) (by decide)
set_option maxRecDepth 65536 in
set_option maxHeartbeats 40000000 in
theorem comes_1 {Post : Tables → Env → Array Value → State → Outcome → State → Prop} (hpost : ∀ tb e args s v u, (limb_1_1.after args s (.returned v) u = true ∧ limb_1_2.after args s (.returned v) u = true ∧ True) → FrameEnd s (.returned v) u (Jvm.fieldLocs frame_1_writes args s ++ Jvm.arrayLocs frame_1_arrays args s ++ Jvm.staticLocs frame_1_statics s) 16 128 → Post tb e args s (.returned v) u) :
    ArmFor flags0 classFile x code maxLocals ret World_1 tables_1 room_1 Calls_1 rest_1 Pre_1 Post := by
  intro l hfl _ _ p e ha hc hk s m args below hf hA hF happ hP
  obtain ⟨hcalls, hrest, hpre⟩ := hP
  obtain ⟨-, -, -, hnamed, -, -, -, hat⟩ := (Spec.applies_iff hf).mp happ
  obtain ⟨hg, hn⟩ := and_e (Cond.before_iff.mp (show (Jvm.Cond.and given_1 narrow_1).before args s = true from hpre))
  obtain ⟨q0, g0⟩ := and_e hg
  obtain ⟨q1, g1⟩ := and_e g0
  obtain ⟨q2, g2⟩ := and_e g1
  obtain ⟨q3, g3⟩ := and_e g2
  have q4 := g3
  obtain ⟨w0, w1, w2, w3, rfl⟩ : ∃ w0 w1 w2 w3 : Value, args = #[w0, w1, w2, w3] := by
    have hs : args.size = 4 := by simpa [Cond.value, given_1] using q0
    obtain ⟨L⟩ := args
    match L, hs with
    | [w0, w1, w2, w3], _ => exact ⟨w0, w1, w2, w3, rfl⟩
  have hw := fun d (hd : d ∈ tables_1) => atoms_spec (ws := Jvm.Cond.code x code maxLocals ret :: tables_1) hat d (List.mem_cons_of_mem _ hd)
  obtain ⟨i0, ei0⟩ := is_v q1
  obtain rfl : w0 = (.int i0) := Option.some.inj ei0
  obtain ⟨i1, ei1⟩ := is_v q2
  obtain rfl : w1 = (.int i1) := Option.some.inj ei1
  obtain ⟨i2, ei2⟩ := is_v q3
  obtain rfl : w2 = (.int i2) := Option.some.inj ei2
  obtain ⟨i3, ei3⟩ := is_v q4
  obtain rfl : w3 = (.int i3) := Option.some.inj ei3
  obtain ⟨n, o, h1, h2, h3, _, L, rfl, ⟨rfl, N⟩, hq⟩ := rm0 l s _ hw tables_1 i0 i1 i2 i3 s.heap s.heap.size (Nat.le_refl _) p e ha hc hk s m _ below hf ((Spec.applies_iff_loose hf).mp happ).1 ⟨rfl, State.Warmed39.refl s, rfl⟩ trivial
  refine ⟨n, _, h1, h2, h3, hpost _ _ _ _ _ _ ⟨Cond.after_iff.mpr rfl, Cond.after_iff.mpr (eq_i res_at (Term.int_eval (1)) rfl), trivial⟩ ⟨hq.1, hq.2.1, (hq.2.2.sift fun y hy => Or.inr (N y hy)).mono (by decide) (by decide)⟩⟩
theorem main_1_1 : Claimed_1_1 := comes_1 fun _ _ _ _ _ _ h hF => ⟨h.1, hF⟩
theorem main_1_2 : Claimed_1_2 := comes_1 fun _ _ _ _ _ _ h hF => ⟨h.2.1, hF⟩
end Jvm.Pilot.@@N@@
namespace Jvm.Pilot.@@N@@
open Jvm Jvm.ClassFile Sem Op Lib Jvm.Free Jvm.Stand Jvm.Pilot.@@N@@.Jvm.D
/-! MADE BY PROGRAM (witnessworld.py) out of the Statement's table words and the real class files: 9 classes; the members and pool entries that the words name. The judged class is class 1, her method 1. -/
namespace start1
open Jvm.ClassFile
def u (s : String) : CpInfo := .utf8 (stringToUtf16 s)
/-- a pool by its gaps: so many unusable entries, then the entry; so many at the end -/
def gap : Nat → List CpInfo → List CpInfo
  | 0, r => r
  | n + 1, r => .unusable :: gap n r
def poolList (es : List (Nat × CpInfo)) (last : Nat) : List CpInfo := es.foldr (fun e r => gap e.1 (e.2 :: r)) (gap last [])
def pool (es : List (Nat × CpInfo)) (last : Nat) : Array CpInfo := ⟨poolList es last⟩
def fileOf (pool : Array CpInfo) (this : Nat) (attrs : Array Attribute := #[]) (ms : Array MethodInfo := #[]) (fl : Nat := 33) (sup : Nat := 0) (ifs : Array Nat := #[]) (fds : Array FieldInfo := #[]) : ClassFile where
  minorVersion := 0
  majorVersion := 65
  constantPool := pool
  accessFlags := fl
  thisClass := this
  superClass := sup
  interfaces := ifs
  fields := fds
  methods := ms
  attributes := attrs
def plain (name : String) (sup : Option ClassId) : Class where
  name := name
  kind := .ordinary
  loader := none
  accessFlags := 33
  super := sup
  interfaces := #[]
  cf := none
  fields := #[]
  methods := #[]
  instanceTypes := #[]
  staticTypes := #[]
  resolved := #[]
  callSites := []
  init := .initialized
  statics := none
  mirror := none

def pool0 : Array CpInfo := pool [(5, u "<init>"), (0, u "()V"), (1, .class_ 10), (1, u "java/lang/Object")] 113

def k0m0 : Method := { name := "<init>", desc := "()V", sig := { parameters := [], returnType := none }, accessFlags := 1, code := none }
/-- java/lang/Object -/
def k0 : Class := { plain "java/lang/Object" none with
  accessFlags := 33
  interfaces := #[]
  cf := some (fileOf pool0 8 #[] #[{ accessFlags := 1, nameIndex := 5, descriptorIndex := 6, attributes := #[] }] 33 0 #[] #[])
  fields := #[]
  methods := #[k0m0]
  instanceTypes := #[]
  staticTypes := #[]
  resolved := Array.replicate 124 none
  statics := none }

def pool1 : Array CpInfo := pool [(2, .class_ 4), (1, u "java/lang/Object"), (0, u "<init>"), (0, u "()V"), (0, .methodref 8 9), (0, .class_ 10), (0, .nameAndType 11 12), (0, u "com/example/overscore/overscore/index/PackedInts"), (0, u "pack"), (0, u "([III[BI)I"), (0, .methodref 14 15), (0, .class_ 16), (0, .nameAndType 17 18), (0, u "com/example/overscore/overscore/index/PackedIntsPackPinLaw"), (0, u "exp"), (0, u "(IIII[IB)B"), (2, u "law"), (0, u "(IIII)Z")] 7

def k1m0 : Method := { name := "<init>", desc := "()V", sig := { parameters := [], returnType := none }, accessFlags := 1, code := none }
def k1c1 : Code := { maxStack := 7, maxLocals := 12, code := code, exceptionTable := #[], attributes := #[] }
def k1m1 : Method := { name := "law", desc := "(IIII)Z", sig := { parameters := [.int, .int, .int, .int], returnType := some .boolean }, accessFlags := 9, code := some k1c1 }
def k1c2 : Code := { maxStack := 3, maxLocals := 10, code := method_3_code, exceptionTable := #[], attributes := #[] }
def k1m2 : Method := { name := "exp", desc := "(IIII[IB)B", sig := { parameters := [.int, .int, .int, .int, (.array .int), .byte], returnType := some .byte }, accessFlags := 10, code := some k1c2 }
/-- com/example/overscore/overscore/index/PackedIntsPackPinLaw -/
def k1 : Class := { plain "com/example/overscore/overscore/index/PackedIntsPackPinLaw" (some 0) with
  accessFlags := 49
  interfaces := #[]
  cf := some (fileOf pool1 14 #[] #[{ accessFlags := 1, nameIndex := 5, descriptorIndex := 6, attributes := #[] }, { accessFlags := 9, nameIndex := 21, descriptorIndex := 22, attributes := #[] }, { accessFlags := 10, nameIndex := 17, descriptorIndex := 18, attributes := #[] }] 49 2 #[] #[])
  fields := #[]
  methods := #[k1m0, k1m1, k1m2]
  instanceTypes := #[]
  staticTypes := #[]
  resolved := Array.replicate 30 none
  statics := none }

def pool2 : Array CpInfo := pool [(2, .class_ 4), (1, u "java/lang/Object"), (0, u "<init>"), (0, u "()V"), (9, .class_ 18), (1, u "com/example/overscore/overscore/index/PackedInts"), (0, u "SHORTS"), (0, u "Ljava/lang/invoke/VarHandle;"), (13, u "INTS"), (23, u "pack"), (0, u "([III[BI)I")] 7

def k2m0 : Method := { name := "<init>", desc := "()V", sig := { parameters := [], returnType := none }, accessFlags := 2, code := none }
def k2c1 : Code := { maxStack := 5, maxLocals := 8, code := prog_5_method_3_code, exceptionTable := #[], attributes := #[] }
def k2m1 : Method := { name := "pack", desc := "([III[BI)I", sig := { parameters := [(.array .int), .int, .int, (.array .byte), .int], returnType := some .int }, accessFlags := 8, code := some k2c1 }
/-- com/example/overscore/overscore/index/PackedInts -/
def k2 : Class := { plain "com/example/overscore/overscore/index/PackedInts" (some 0) with
  accessFlags := 32
  interfaces := #[]
  cf := some (fileOf pool2 16 #[] #[{ accessFlags := 2, nameIndex := 5, descriptorIndex := 6, attributes := #[] }, { accessFlags := 8, nameIndex := 58, descriptorIndex := 59, attributes := #[] }] 32 2 #[] #[{ accessFlags := 26, nameIndex := 19, descriptorIndex := 20, attributes := #[] }, { accessFlags := 26, nameIndex := 34, descriptorIndex := 20, attributes := #[] }])
  fields := #[{ name := "SHORTS", type := (.object "java/lang/invoke/VarHandle"), accessFlags := 26, slot := 0, constantValue := 0 }, { name := "INTS", type := (.object "java/lang/invoke/VarHandle"), accessFlags := 26, slot := 1, constantValue := 0 }]
  methods := #[k2m0, k2m1]
  instanceTypes := #[]
  staticTypes := #[(.object "java/lang/invoke/VarHandle"), (.object "java/lang/invoke/VarHandle")]
  resolved := Array.replicate 67 none
  statics := none }

def pool3 : Array CpInfo := pool [(1, u "java/lang/Cloneable"), (0, .class_ 1), (0, u "java/lang/Object"), (0, .class_ 3)] 3

/-- java/lang/Cloneable -/
def k3 : Class := { plain "java/lang/Cloneable" (some 0) with
  accessFlags := 1537
  interfaces := #[]
  cf := some (fileOf pool3 2 #[] #[] 1537 4 #[] #[])
  fields := #[]
  methods := #[]
  instanceTypes := #[]
  staticTypes := #[]
  resolved := Array.replicate 8 none
  statics := none }

def pool4 : Array CpInfo := pool [(1, u "java/io/Serializable"), (0, .class_ 1), (0, u "java/lang/Object"), (0, .class_ 3)] 3

/-- java/io/Serializable -/
def k4 : Class := { plain "java/io/Serializable" (some 0) with
  accessFlags := 1537
  interfaces := #[]
  cf := some (fileOf pool4 2 #[] #[] 1537 4 #[] #[])
  fields := #[]
  methods := #[]
  instanceTypes := #[]
  staticTypes := #[]
  resolved := Array.replicate 8 none
  statics := none }

/-- the primitive byte -/
def k5 : Class := { plain "byte" none with kind := .primitive 'B', accessFlags := 0x411 }
/-- [B -/
def k6 : Class := { plain "[B" (some 0) with kind := .array 5 .byte, interfaces := #[3, 4], accessFlags := 1041 }

/-- the primitive int -/
def k7 : Class := { plain "int" none with kind := .primitive 'I', accessFlags := 0x411 }
/-- [I -/
def k8 : Class := { plain "[I" (some 0) with kind := .array 7 .int, interfaces := #[3, 4], accessFlags := 1041 }

def heap : Heap := #[]
def classes : Array Class := #[k0, k1, k2, k3, k4, k5, k6, k7, k8]
def interned : List (Array UInt16 × Addr) := []
def slotsUsed : Nat := 0
def theMethod : MethodId := ⟨1, 1⟩
def args0 : Array Value := #[.int 300, .int 1, .int 2, .int 14]
def aboutOver (below : List Frame) : State where
  vm := { classes := classes, interned := interned.toArray }
  heap := heap
  slotsUsed := slotsUsed
  threads := #[{ frames := .invoking theMethod args0 :: below }]
def below0 : List Frame := [.native { method := ⟨0, 0⟩, args := #[] }]
def about1 : State := aboutOver below0
def p0 : Program := .bare "" "" ""
def e0 : Env := launch0.env 0 0 0
theorem w_frames : about1.frames = Frame.invoking theMethod args0 :: below0 := rfl
set_option maxRecDepth 65536 in
theorem w_args : argsFit about1.vm theMethod args0 = true := by decide +kernel
set_option maxRecDepth 65536 in
theorem w_heap : heapFits about1 = true := by decide +kernel
set_option maxRecDepth 65536 in
theorem w_runnable : about1.curStatus? = some .runnable := by decide +kernel
set_option maxRecDepth 65536 in
theorem w_alone : about1.alone = true := by decide +kernel
set_option maxRecDepth 65536 in
theorem w_named : about1.methodNamed? x = some theMethod := by decide +kernel
set_option maxRecDepth 65536 in
theorem w_hears : about1.hears theMethod below0 = true := by decide +kernel
set_option maxRecDepth 65536 in
theorem w_ripe : about1.ripe theMethod args0 below0 = true := by decide +kernel
theorem w_running : about1.status = .running := rfl
set_option maxRecDepth 65536 in
theorem w_room : about1.hasRoom e0.platform room_1 = true :=
  launch0.hasRoom_least _ room_1 (by decide +kernel) (by decide +kernel) (by decide +kernel) (by decide +kernel) (by decide +kernel) (by decide +kernel)
theorem allAtoms_all (ts : List Jvm.Cond) (a : Array Jvm.Value) (st : Jvm.State) : (allAtoms ts).before a st = ts.all (fun c => c.before a st) := by
  induction ts with
  | nil => rfl
  | cons c t ih =>
    show (Jvm.Cond.and c (allAtoms t)).before a st = _
    rw [Jvm.Cond.before_and, ih, List.all_cons]
def words1 : List Jvm.Cond := Jvm.Cond.code x code maxLocals ret :: tables_1
/-- a 'code' word, met by the world's own term for the bytes: nothing is compared byte by byte -/
theorem code_word {y : MethodName} {bytes : ByteArray} {mx : Nat} {rt : Option FieldType} {a : Array Value} {s : State} {m : MethodId} {meth : Method} {c : Code} (h1 : s.methodNamed? y = some m) (h2 : s.vm.method? m = some meth) (h3 : meth.code = some c) (h4 : c.code = bytes)
    (h5 : (c.maxLocals == mx && c.exceptionTable.isEmpty && decide (c.maxStack ≤ mostOperands) && decide (meth.sig.returnType = rt) && !meth.locks && decide (parseMethodDescriptor y.desc = some meth.sig)) = true) : (Jvm.Cond.code y bytes mx rt).before a s = true := by
  simp only [Bool.and_eq_true, beq_iff_eq, Bool.not_eq_true', decide_eq_true_eq] at h5
  obtain ⟨⟨⟨⟨⟨g1, g2⟩, g3⟩, g4⟩, g5⟩, g6⟩ := h5
  simp [Cond.before, Cond.holds, Cond.value, h1, h2, h3, h4, g1, g2, g3, g4, g5, g6]
def isCode : Jvm.Cond → Bool
  | .code _ _ _ _ => true
  | _ => false
theorem all_split {L : List Jvm.Cond} {P : Jvm.Cond → Bool} (h1 : L.all (fun c => isCode c || P c) = true) (h2 : ∀ c ∈ L.filter isCode, P c = true) : L.all P = true := by
  refine List.all_eq_true.mpr fun c hc => ?_
  have h := List.all_eq_true.mp h1 c hc
  rcases Bool.eq_false_or_eq_true (isCode c) with hi | hi
  · exact h2 c (List.mem_filter.mpr ⟨hc, hi⟩)
  · simpa [hi] using h
set_option maxRecDepth 65536 in
theorem w_c0 : (Jvm.Cond.code x code maxLocals ret).before args0 about1 = true := code_word (m := ⟨1, 1⟩) (meth := k1m1) (c := k1c1) (by decide +kernel) rfl rfl rfl (by decide +kernel)
set_option maxRecDepth 65536 in
theorem w_c1 : (Jvm.Cond.code ({ cls := "com/example/overscore/overscore/index/PackedInts", name := "pack", desc := "([III[BI)I" } : Jvm.MethodName) prog_5_method_3_code (8 : Nat) (Option.some Jvm.ClassFile.FieldType.int)).before args0 about1 = true := code_word (m := ⟨2, 1⟩) (meth := k2m1) (c := k2c1) (by decide +kernel) rfl rfl rfl (by decide +kernel)
set_option maxRecDepth 65536 in
theorem w_c2 : (Jvm.Cond.code ({ cls := "com/example/overscore/overscore/index/PackedIntsPackPinLaw", name := "exp", desc := "(IIII[IB)B" } : Jvm.MethodName) method_3_code (10 : Nat) (Option.some Jvm.ClassFile.FieldType.byte)).before args0 about1 = true := code_word (m := ⟨1, 2⟩) (meth := k1m2) (c := k1c2) (by decide +kernel) rfl rfl rfl (by decide +kernel)
def codes1 : List Jvm.Cond := [Jvm.Cond.code x code maxLocals ret, Jvm.Cond.code ({ cls := "com/example/overscore/overscore/index/PackedInts", name := "pack", desc := "([III[BI)I" } : Jvm.MethodName) prog_5_method_3_code (8 : Nat) (Option.some Jvm.ClassFile.FieldType.int), Jvm.Cond.code ({ cls := "com/example/overscore/overscore/index/PackedIntsPackPinLaw", name := "exp", desc := "(IIII[IB)B" } : Jvm.MethodName) method_3_code (10 : Nat) (Option.some Jvm.ClassFile.FieldType.byte)]
set_option maxRecDepth 65536 in
theorem codes_eq : words1.filter isCode = codes1 := rfl
theorem w_codes : ∀ c ∈ words1.filter isCode, c.before args0 about1 = true := by
  rw [codes_eq]
  intro c hc
  simp only [codes1, List.mem_cons, List.not_mem_nil, or_false] at hc
  rcases hc with rfl | rfl | rfl
  · exact w_c0
  · exact w_c1
  · exact w_c2
set_option maxRecDepth 65536 in
theorem w_t1 : words1.all (fun c => isCode c || c.before args0 about1) = true := by decide +kernel
theorem w_tables : (allAtoms (Jvm.Cond.code x code maxLocals ret :: tables_1)).before args0 about1 = true := by
  rw [allAtoms_all]
  show words1.all (fun c => c.before args0 about1) = true
  refine all_split ?_ w_codes
  rw [w_t1]
set_option maxRecDepth 65536 in
theorem w_case : (Jvm.Cond.and given_1 narrow_1).before args0 about1 = true := by decide +kernel
theorem w_applies : (headSpec (Jvm.Cond.code x code maxLocals ret :: tables_1) room_1).applies x e0.platform about1 = true :=
  (Spec.applies_iff w_frames).mpr ⟨w_running, w_runnable, w_alone, w_named, w_hears, w_ripe, w_room, w_tables⟩
theorem atStart : AtStart classFile x code maxLocals ret World_1 tables_1 room_1 Calls_1 rest_1 Pre_1 launch0 p0 e0 about1 theMethod args0 below0 :=
  ⟨lists_1, trivial, launch0.admits_env _ _ _, launch0.least_env, fairChoices_fair.cas, fairChoices_fair.clock, w_frames, w_args, w_heap, w_applies, trivial, trivial, w_case⟩
end start1
theorem witness_1 : WitnessClaimed_1 := ⟨start1.p0, start1.e0, start1.about1, start1.theMethod, start1.args0, start1.below0, start1.atStart⟩
end Jvm.Pilot.@@N@@
