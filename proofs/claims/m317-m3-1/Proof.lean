import JvmDerived
import JvmDerived.Pilot.@@N@@Statement
import JvmDerived.Pilot.@@N@@Code
set_option linter.unusedVariables false
set_option linter.unusedSimpArgs false
namespace Jvm.Pilot.@@N@@
open Jvm Jvm.ClassFile Sem Op Lib Jvm.Free Jvm.Stand Jvm.LawKit Jvm.RoadKit Bundle Jvm.Pilot.@@N@@.Jvm.D
section Own
variable {p : Program} {l : Launch} {e : Env} {R : Room} {s : State} {m : MethodId} {args : Array Value} {below : List Frame} {meth : Method} {c : Code} {T T' : State} {locs : List Loc} {cells slots : Nat} {Z : State} {a0 : Array Value} {h h' : Heap} {Q : Option Value → Heap → List Loc → Prop} {Cc Sc : Nat} {pc pc' pt k : Nat} {Ls Ls' : Array Slot} {St St' : List Value} {bs : ByteArray} {ml : Nat} {own nm : String} {rt : Option FieldType}
/-- what stands of a body while it is walked -/
def Cx (Z : State) (a0 : Array Value) (p : Program) (s : State) (m : MethodId) (meth : Method) (c : Code) (bs : ByteArray) (ml : Nat) (own nm : String) (rt : Option FieldType) : Prop :=
  p.tables.exec = Jvm.exec ∧ Z.Warmed39 s.vm ∧ c.code = bs ∧ c.maxLocals = ml ∧ s.vm.findClass own = some m.cls ∧ meth.name = nm ∧ meth.sig.returnType = rt ∧ meth.locks = false ∧ (∀ d ∈ tables_1, d.before a0 Z = true)
theorem Cx.x (C : Cx Z a0 p s m meth c bs ml own nm rt) : p.tables.exec = Jvm.exec := C.1
theorem Cx.z (C : Cx Z a0 p s m meth c bs ml own nm rt) : Z.Warmed39 s.vm := C.2.1
theorem Cx.b (C : Cx Z a0 p s m meth c bs ml own nm rt) : c.code = bs := C.2.2.1
theorem Cx.mx (C : Cx Z a0 p s m meth c bs ml own nm rt) : c.maxLocals = ml := C.2.2.2.1
theorem Cx.o (C : Cx Z a0 p s m meth c bs ml own nm rt) : s.vm.findClass own = some m.cls := C.2.2.2.2.1
theorem Cx.n (C : Cx Z a0 p s m meth c bs ml own nm rt) : meth.name = nm := C.2.2.2.2.2.1
theorem Cx.r (C : Cx Z a0 p s m meth c bs ml own nm rt) : meth.sig.returnType = rt := C.2.2.2.2.2.2.1
theorem Cx.lk (C : Cx Z a0 p s m meth c bs ml own nm rt) : meth.locks = false := C.2.2.2.2.2.2.2.1
theorem Cx.w (C : Cx Z a0 p s m meth c bs ml own nm rt) : ∀ d ∈ tables_1, d.before a0 Z = true := C.2.2.2.2.2.2.2.2
/-- the i-th word of the sheet's tables -/
theorem Cx.t (C : Cx Z a0 p s m meth c bs ml own nm rt) (i : Nat) {d : Jvm.Cond} (hi : tables_1[i]? = some d) : d.before a0 Z = true := C.w d (List.mem_of_getElem? hi)
/-- from here the run comes to its return, and of that return Q holds -/
def Go (p : Program) (e : Env) (below : List Frame) (s : State) (m : MethodId) (Q : Option Value → Heap → List Loc → Prop) (Cc Sc : Nat) (T : State) (pc : Nat) (Ls : Array Slot) (St : List Value) : Prop :=
  ∃ s₂ o, Steps p.tables e below (T.setTop (mkF m pc Ls St)) s₂ ∧ s₂.status = .running ∧ Ended s₂ below o ∧ ∃ v L, o = .returned v ∧ Q v s₂.heap L ∧ FrameEnd s o s₂ L Cc Sc
theorem Go.via (h : ∀ t, Steps p.tables e below (T'.setTop (mkF m pc' Ls' St')) t → Steps p.tables e below (T.setTop (mkF m pc Ls St)) t) (k : Go p e below s m Q Cc Sc T' pc' Ls' St') : Go p e below s m Q Cc Sc T pc Ls St := by
  obtain ⟨s₂, o, h1, h2⟩ := k
  exact ⟨s₂, o, h _ h1, h2⟩
theorem Go.cast (hL : Ls = Ls') (hS : St = St') (k : Go p e below s m Q Cc Sc T pc Ls' St') : Go p e below s m Q Cc Sc T pc Ls St := by
  subst hL hS; exact k
theorem g_enter {x : MethodName} {ws : List Jvm.Cond} {rm : Room} {as' : Array Value} {h0 : Heap} (hpl : plainFor x = true) (hw : ∀ d ∈ tables_1, d.before a0 Z = true) (hef : ∀ m, entryFrame m as' ml = mkF m 0 Ls [])
    (body : ∀ (p : Program) (e : Env) (s : State) (m : MethodId) (below : List Frame) (meth : Method) (c : Code) (T : State), Cx Z a0 p s m meth c bs ml x.cls x.name rt → Stand p l e rm s m as' below meth c T [] 0 0 → T.heap = h0 → Go p e below s m Q rm.cells rm.slots T 0 Ls []) :
    MetFree l x (head1 (Jvm.Cond.code x bs ml rt :: ws) rm) (fun a U => a = as' ∧ Z.Warmed39 U.vm ∧ U.heap = h0) (fun _ _ _ _ _ => True) (fun _ U o U' => ∃ v L, o = .returned v ∧ Q v U'.heap L ∧ FrameEnd U o U' L rm.cells rm.slots) := by
  refine MetFree.of_bodySF hpl hisR ?_
  intro p e s m args below meth c s₁ Bd hml0 hP hK
  obtain ⟨rfl, hZ, hh⟩ := hP
  have e0 : s₁.heap = h0 := by rw [← hh, Bd.state]; rfl
  have C : Cx Z a0 p s m meth c bs ml x.cls x.name rt := ⟨Bd.exec, hZ, Bd.bytes, hml0, findClass_of_methodNamed Bd.named, (name_of_methodNamed Bd.named Bd.method).1, Bd.returns, Bd.notSynchronized, hw⟩
  obtain ⟨s₂, o, k1, k2⟩ := body p e s m below meth c s₁ C (Stand.of_body Bd) e0
  exact ⟨s₂, o, castTop (hef m) k1, k2⟩

theorem g_iload (C : Cx Z a0 p s m meth c bs ml own nm rt) (X : Stand p l e R s m args below meth c T locs cells slots) {v : Int32} (hd : decode bs pc = .ok (.iload k, 2)) (hl : Ls[k]? = some (.val (.int v))) (hp : pc + 2 = pc') (kk : Go p e below s m Q Cc Sc T pc' Ls (.int v :: St)) : Go p e below s m Q Cc Sc T pc Ls St := by
  subst hp
  exact Go.via (fun t q => XS.iload X.here C.x rfl (hb C.b hd) hl q) kk
theorem g_iloadN (C : Cx Z a0 p s m meth c bs ml own nm rt) (X : Stand p l e R s m args below meth c T locs cells slots) {k : Fin 4} {v : Int32} (hd : decode bs pc = .ok (.iload_n k, 1)) (hl : Ls[k.val]? = some (.val (.int v))) (hp : pc + 1 = pc') (kk : Go p e below s m Q Cc Sc T pc' Ls (.int v :: St)) : Go p e below s m Q Cc Sc T pc Ls St := by
  subst hp
  exact Go.via (fun t q => XS.iloadN X.here C.x rfl (hb C.b hd) hl q) kk
theorem g_lload (C : Cx Z a0 p s m meth c bs ml own nm rt) (X : Stand p l e R s m args below meth c T locs cells slots) {v : Int64} (hd : decode bs pc = .ok (.lload k, 2)) (hl : Ls[k]? = some (.val (.long v))) (hp : pc + 2 = pc') (kk : Go p e below s m Q Cc Sc T pc' Ls (.long v :: St)) : Go p e below s m Q Cc Sc T pc Ls St := by
  subst hp
  exact Go.via (fun t q => XS.lload X.here C.x rfl (hb C.b hd) hl q) kk
theorem g_lloadN (C : Cx Z a0 p s m meth c bs ml own nm rt) (X : Stand p l e R s m args below meth c T locs cells slots) {k : Fin 4} {v : Int64} (hd : decode bs pc = .ok (.lload_n k, 1)) (hl : Ls[k.val]? = some (.val (.long v))) (hp : pc + 1 = pc') (kk : Go p e below s m Q Cc Sc T pc' Ls (.long v :: St)) : Go p e below s m Q Cc Sc T pc Ls St := by
  subst hp
  exact Go.via (fun t q => XS.lloadN X.here C.x rfl (hb C.b hd) hl q) kk
theorem g_aload (C : Cx Z a0 p s m meth c bs ml own nm rt) (X : Stand p l e R s m args below meth c T locs cells slots) {v : Addr} (hd : decode bs pc = .ok (.aload k, 2)) (hl : Ls[k]? = some (.val (.ref v))) (hp : pc + 2 = pc') (kk : Go p e below s m Q Cc Sc T pc' Ls (.ref v :: St)) : Go p e below s m Q Cc Sc T pc Ls St := by
  subst hp
  exact Go.via (fun t q => XS.aload X.here C.x rfl (hb C.b hd) hl rfl q) kk
theorem g_aloadN (C : Cx Z a0 p s m meth c bs ml own nm rt) (X : Stand p l e R s m args below meth c T locs cells slots) {k : Fin 4} {v : Addr} (hd : decode bs pc = .ok (.aload_n k, 1)) (hl : Ls[k.val]? = some (.val (.ref v))) (hp : pc + 1 = pc') (kk : Go p e below s m Q Cc Sc T pc' Ls (.ref v :: St)) : Go p e below s m Q Cc Sc T pc Ls St := by
  subst hp
  exact Go.via (fun t q => XS.aloadN X.here C.x rfl (hb C.b hd) hl rfl q) kk
theorem g_istore (C : Cx Z a0 p s m meth c bs ml own nm rt) (X : Stand p l e R s m args below meth c T locs cells slots) {x : Int32} (hd : decode bs pc = .ok (.istore k, 2)) (Ls' : Array Slot) (hl : storeLocals Ls k (.int x) = some Ls') (hp : pc + 2 = pc') (kk : Go p e below s m Q Cc Sc T pc' Ls' St) : Go p e below s m Q Cc Sc T pc Ls (.int x :: St) := by
  subst hp
  exact Go.via (fun t q => XS.istore X.here C.x rfl (hb C.b hd) rfl hl q) kk
theorem g_istoreN (C : Cx Z a0 p s m meth c bs ml own nm rt) (X : Stand p l e R s m args below meth c T locs cells slots) {k : Fin 4} {x : Int32} (hd : decode bs pc = .ok (.istore_n k, 1)) (Ls' : Array Slot) (hl : storeLocals Ls k.val (.int x) = some Ls') (hp : pc + 1 = pc') (kk : Go p e below s m Q Cc Sc T pc' Ls' St) : Go p e below s m Q Cc Sc T pc Ls (.int x :: St) := by
  subst hp
  exact Go.via (fun t q => XS.istoreN X.here C.x rfl (hb C.b hd) rfl hl q) kk
theorem g_istoreV (C : Cx Z a0 p s m meth c bs ml own nm rt) (X : Stand p l e R s m args below meth c T locs cells slots) {x : Int32} (hd : decode bs pc = .ok (.istore k, 2)) (F : Int32 → Array Slot) (hl : storeLocals Ls k (.int x) = some (F x)) (hp : pc + 2 = pc') (kk : ∀ v, v = x → Go p e below s m Q Cc Sc T pc' (F v) St) : Go p e below s m Q Cc Sc T pc Ls (.int x :: St) := g_istore C X hd (F x) hl hp (kk x rfl)
theorem g_istoreNV (C : Cx Z a0 p s m meth c bs ml own nm rt) (X : Stand p l e R s m args below meth c T locs cells slots) {k : Fin 4} {x : Int32} (hd : decode bs pc = .ok (.istore_n k, 1)) (F : Int32 → Array Slot) (hl : storeLocals Ls k.val (.int x) = some (F x)) (hp : pc + 1 = pc') (kk : ∀ v, v = x → Go p e below s m Q Cc Sc T pc' (F v) St) : Go p e below s m Q Cc Sc T pc Ls (.int x :: St) := g_istoreN C X hd (F x) hl hp (kk x rfl)
theorem g_lstore (C : Cx Z a0 p s m meth c bs ml own nm rt) (X : Stand p l e R s m args below meth c T locs cells slots) {x : Int64} (hd : decode bs pc = .ok (.lstore k, 2)) (Ls' : Array Slot) (hl : storeLocals Ls k (.long x) = some Ls') (hp : pc + 2 = pc') (kk : Go p e below s m Q Cc Sc T pc' Ls' St) : Go p e below s m Q Cc Sc T pc Ls (.long x :: St) := by
  subst hp
  exact Go.via (fun t q => XS.lstore X.here C.x rfl (hb C.b hd) rfl hl q) kk
theorem g_lstoreN (C : Cx Z a0 p s m meth c bs ml own nm rt) (X : Stand p l e R s m args below meth c T locs cells slots) {k : Fin 4} {x : Int64} (hd : decode bs pc = .ok (.lstore_n k, 1)) (Ls' : Array Slot) (hl : storeLocals Ls k.val (.long x) = some Ls') (hp : pc + 1 = pc') (kk : Go p e below s m Q Cc Sc T pc' Ls' St) : Go p e below s m Q Cc Sc T pc Ls (.long x :: St) := by
  subst hp
  exact Go.via (fun t q => XS.lstoreN X.here C.x rfl (hb C.b hd) rfl hl q) kk
theorem g_lstoreV (C : Cx Z a0 p s m meth c bs ml own nm rt) (X : Stand p l e R s m args below meth c T locs cells slots) {x : Int64} (hd : decode bs pc = .ok (.lstore k, 2)) (F : Int64 → Array Slot) (hl : storeLocals Ls k (.long x) = some (F x)) (hp : pc + 2 = pc') (kk : ∀ v, v = x → Go p e below s m Q Cc Sc T pc' (F v) St) : Go p e below s m Q Cc Sc T pc Ls (.long x :: St) := g_lstore C X hd (F x) hl hp (kk x rfl)
theorem g_lstoreNV (C : Cx Z a0 p s m meth c bs ml own nm rt) (X : Stand p l e R s m args below meth c T locs cells slots) {k : Fin 4} {x : Int64} (hd : decode bs pc = .ok (.lstore_n k, 1)) (F : Int64 → Array Slot) (hl : storeLocals Ls k.val (.long x) = some (F x)) (hp : pc + 1 = pc') (kk : ∀ v, v = x → Go p e below s m Q Cc Sc T pc' (F v) St) : Go p e below s m Q Cc Sc T pc Ls (.long x :: St) := g_lstoreN C X hd (F x) hl hp (kk x rfl)
theorem g_astore (C : Cx Z a0 p s m meth c bs ml own nm rt) (X : Stand p l e R s m args below meth c T locs cells slots) {x : Addr} (hd : decode bs pc = .ok (.astore k, 2)) (Ls' : Array Slot) (hl : storeLocals Ls k (.ref x) = some Ls') (hp : pc + 2 = pc') (kk : Go p e below s m Q Cc Sc T pc' Ls' St) : Go p e below s m Q Cc Sc T pc Ls (.ref x :: St) := by
  subst hp
  exact Go.via (fun t q => XS.astore X.here C.x rfl (hb C.b hd) rfl rfl hl q) kk
theorem g_astoreN (C : Cx Z a0 p s m meth c bs ml own nm rt) (X : Stand p l e R s m args below meth c T locs cells slots) {k : Fin 4} {x : Addr} (hd : decode bs pc = .ok (.astore_n k, 1)) (Ls' : Array Slot) (hl : storeLocals Ls k.val (.ref x) = some Ls') (hp : pc + 1 = pc') (kk : Go p e below s m Q Cc Sc T pc' Ls' St) : Go p e below s m Q Cc Sc T pc Ls (.ref x :: St) := by
  subst hp
  exact Go.via (fun t q => XS.astoreN X.here C.x rfl (hb C.b hd) rfl rfl hl q) kk
theorem g_astoreV (C : Cx Z a0 p s m meth c bs ml own nm rt) (X : Stand p l e R s m args below meth c T locs cells slots) {x : Addr} (hd : decode bs pc = .ok (.astore k, 2)) (F : Addr → Array Slot) (hl : storeLocals Ls k (.ref x) = some (F x)) (hp : pc + 2 = pc') (kk : ∀ v, v = x → Go p e below s m Q Cc Sc T pc' (F v) St) : Go p e below s m Q Cc Sc T pc Ls (.ref x :: St) := g_astore C X hd (F x) hl hp (kk x rfl)
theorem g_astoreNV (C : Cx Z a0 p s m meth c bs ml own nm rt) (X : Stand p l e R s m args below meth c T locs cells slots) {k : Fin 4} {x : Addr} (hd : decode bs pc = .ok (.astore_n k, 1)) (F : Addr → Array Slot) (hl : storeLocals Ls k.val (.ref x) = some (F x)) (hp : pc + 1 = pc') (kk : ∀ v, v = x → Go p e below s m Q Cc Sc T pc' (F v) St) : Go p e below s m Q Cc Sc T pc Ls (.ref x :: St) := g_astoreN C X hd (F x) hl hp (kk x rfl)
theorem g_iinc (C : Cx Z a0 p s m meth c bs ml own nm rt) (X : Stand p l e R s m args below meth c T locs cells slots) {cst : Int} {x : Int32} (hd : decode bs pc = .ok (.iinc k cst, 3)) (hl : Ls[k]? = some (.val (.int x))) (Ls' : Array Slot) (hl' : storeLocals Ls k (.int (x + Int32.ofInt cst)) = some Ls') (hp : pc + 3 = pc') (kk : Go p e below s m Q Cc Sc T pc' Ls' St) : Go p e below s m Q Cc Sc T pc Ls St := by
  subst hp
  exact Go.via (fun t q => XS.iinc X.here C.x rfl (hb C.b hd) hl hl' q) kk
theorem g_iincV (C : Cx Z a0 p s m meth c bs ml own nm rt) (X : Stand p l e R s m args below meth c T locs cells slots) {cst : Int} {x y : Int32} (hd : decode bs pc = .ok (.iinc k cst, 3)) (hl : Ls[k]? = some (.val (.int x))) (hy : Int32.ofInt cst = y) (F : Int32 → Array Slot) (hl' : storeLocals Ls k (.int (x + y)) = some (F (x + y))) (hp : pc + 3 = pc') (kk : ∀ v, v = x + y → Go p e below s m Q Cc Sc T pc' (F v) St) : Go p e below s m Q Cc Sc T pc Ls St := g_iinc C X hd hl (F (x + y)) (by rw [hy]; exact hl') hp (kk _ rfl)
theorem g_iconst (C : Cx Z a0 p s m meth c bs ml own nm rt) (X : Stand p l e R s m args below meth c T locs cells slots) {i : Int} (v : Int32) (hd : decode bs pc = .ok (.iconst i, 1)) (hv : Int32.ofInt i = v) (hp : pc + 1 = pc') (kk : Go p e below s m Q Cc Sc T pc' Ls (.int v :: St)) : Go p e below s m Q Cc Sc T pc Ls St := by
  subst hp hv
  exact Go.via (fun t q => XS.iconst X.here C.x rfl (hb C.b hd) q) kk
theorem g_bipush (C : Cx Z a0 p s m meth c bs ml own nm rt) (X : Stand p l e R s m args below meth c T locs cells slots) {i : Int} (v : Int32) (hd : decode bs pc = .ok (.bipush i, 2)) (hv : (Int8.ofInt i).toInt32 = v) (hp : pc + 2 = pc') (kk : Go p e below s m Q Cc Sc T pc' Ls (.int v :: St)) : Go p e below s m Q Cc Sc T pc Ls St := by
  subst hp hv
  exact Go.via (fun t q => XS.bipush X.here C.x rfl (hb C.b hd) q) kk
theorem g_sipush (C : Cx Z a0 p s m meth c bs ml own nm rt) (X : Stand p l e R s m args below meth c T locs cells slots) {i : Int} (v : Int32) (hd : decode bs pc = .ok (.sipush i, 3)) (hv : (Int16.ofInt i).toInt32 = v) (hp : pc + 3 = pc') (kk : Go p e below s m Q Cc Sc T pc' Ls (.int v :: St)) : Go p e below s m Q Cc Sc T pc Ls St := by
  subst hp hv
  exact Go.via (fun t q => XS.sipush X.here C.x rfl (hb C.b hd) q) kk
theorem g_lconst (C : Cx Z a0 p s m meth c bs ml own nm rt) (X : Stand p l e R s m args below meth c T locs cells slots) {i : Fin 2} (v : Int64) (hd : decode bs pc = .ok (.lconst i, 1)) (hv : Int64.ofNat i = v) (hp : pc + 1 = pc') (kk : Go p e below s m Q Cc Sc T pc' Ls (.long v :: St)) : Go p e below s m Q Cc Sc T pc Ls St := by
  subst hp hv
  exact Go.via (fun t q => XS.lconst X.here C.x rfl (hb C.b hd) q) kk
theorem g_ldc (C : Cx Z a0 p s m meth c bs ml own nm rt) (X : Stand p l e R s m args below meth c T locs cells slots) {i : Nat} {v : Int32} (hd : decode bs pc = .ok (.ldc i, 2)) (hv : (Jvm.Cond.constant own i v).before a0 Z = true) (hp : pc + 2 = pc') (kk : Go p e below s m Q Cc Sc T pc' Ls (.int v :: St)) : Go p e below s m Q Cc Sc T pc Ls St := by
  subst hp
  exact Go.via (fun t q => X.ldcInt C.x C.o (mvT C.z hv) (g := mkF m pc Ls St) rfl (hb C.b hd) t q) kk
theorem g_ldcL (C : Cx Z a0 p s m meth c bs ml own nm rt) (X : Stand p l e R s m args below meth c T locs cells slots) {i : Nat} {v : Int64} (hd : decode bs pc = .ok (.ldc2_w i, 3)) (hv : (Jvm.Cond.constantLong own i v).before a0 Z = true) (hp : pc + 3 = pc') (kk : Go p e below s m Q Cc Sc T pc' Ls (.long v :: St)) : Go p e below s m Q Cc Sc T pc Ls St := by
  subst hp
  exact Go.via (fun t q => X.ldc2Long C.x C.o (mvT C.z hv) (g := mkF m pc Ls St) rfl (hb C.b hd) t q) kk
theorem g_iadd (C : Cx Z a0 p s m meth c bs ml own nm rt) (X : Stand p l e R s m args below meth c T locs cells slots) {x y : Int32} (hd : decode bs pc = .ok (.iadd, 1))  (hp : pc + 1 = pc') (kk : Go p e below s m Q Cc Sc T pc' Ls (.int (x + y) :: St)) : Go p e below s m Q Cc Sc T pc Ls (.int y :: .int x :: St) := by
  subst hp
  exact Go.via (fun t q => XS.iadd X.here C.x rfl (hb C.b hd) rfl q) kk
theorem g_isub (C : Cx Z a0 p s m meth c bs ml own nm rt) (X : Stand p l e R s m args below meth c T locs cells slots) {x y : Int32} (hd : decode bs pc = .ok (.isub, 1))  (hp : pc + 1 = pc') (kk : Go p e below s m Q Cc Sc T pc' Ls (.int (x - y) :: St)) : Go p e below s m Q Cc Sc T pc Ls (.int y :: .int x :: St) := by
  subst hp
  exact Go.via (fun t q => XS.isub X.here C.x rfl (hb C.b hd) rfl q) kk
theorem g_imul (C : Cx Z a0 p s m meth c bs ml own nm rt) (X : Stand p l e R s m args below meth c T locs cells slots) {x y : Int32} (hd : decode bs pc = .ok (.imul, 1))  (hp : pc + 1 = pc') (kk : Go p e below s m Q Cc Sc T pc' Ls (.int (x * y) :: St)) : Go p e below s m Q Cc Sc T pc Ls (.int y :: .int x :: St) := by
  subst hp
  exact Go.via (fun t q => XS.imul X.here C.x rfl (hb C.b hd) rfl q) kk
theorem g_iand (C : Cx Z a0 p s m meth c bs ml own nm rt) (X : Stand p l e R s m args below meth c T locs cells slots) {x y : Int32} (hd : decode bs pc = .ok (.iand, 1))  (hp : pc + 1 = pc') (kk : Go p e below s m Q Cc Sc T pc' Ls (.int (x &&& y) :: St)) : Go p e below s m Q Cc Sc T pc Ls (.int y :: .int x :: St) := by
  subst hp
  exact Go.via (fun t q => XS.iand X.here C.x rfl (hb C.b hd) rfl q) kk
theorem g_ior (C : Cx Z a0 p s m meth c bs ml own nm rt) (X : Stand p l e R s m args below meth c T locs cells slots) {x y : Int32} (hd : decode bs pc = .ok (.ior, 1))  (hp : pc + 1 = pc') (kk : Go p e below s m Q Cc Sc T pc' Ls (.int (x ||| y) :: St)) : Go p e below s m Q Cc Sc T pc Ls (.int y :: .int x :: St) := by
  subst hp
  exact Go.via (fun t q => XS.ior X.here C.x rfl (hb C.b hd) rfl q) kk
theorem g_ixor (C : Cx Z a0 p s m meth c bs ml own nm rt) (X : Stand p l e R s m args below meth c T locs cells slots) {x y : Int32} (hd : decode bs pc = .ok (.ixor, 1))  (hp : pc + 1 = pc') (kk : Go p e below s m Q Cc Sc T pc' Ls (.int (x ^^^ y) :: St)) : Go p e below s m Q Cc Sc T pc Ls (.int y :: .int x :: St) := by
  subst hp
  exact Go.via (fun t q => XS.ixor X.here C.x rfl (hb C.b hd) rfl q) kk
theorem g_idiv (C : Cx Z a0 p s m meth c bs ml own nm rt) (X : Stand p l e R s m args below meth c T locs cells slots) {x y : Int32} (hd : decode bs pc = .ok (.idiv, 1)) (hy : y ≠ 0) (hp : pc + 1 = pc') (kk : Go p e below s m Q Cc Sc T pc' Ls (.int (x / y) :: St)) : Go p e below s m Q Cc Sc T pc Ls (.int y :: .int x :: St) := by
  subst hp
  exact Go.via (fun t q => XS.idiv X.here C.x rfl (hb C.b hd) rfl hy q) kk
theorem g_ladd (C : Cx Z a0 p s m meth c bs ml own nm rt) (X : Stand p l e R s m args below meth c T locs cells slots) {x y : Int64} (hd : decode bs pc = .ok (.ladd, 1))  (hp : pc + 1 = pc') (kk : Go p e below s m Q Cc Sc T pc' Ls (.long (x + y) :: St)) : Go p e below s m Q Cc Sc T pc Ls (.long y :: .long x :: St) := by
  subst hp
  exact Go.via (fun t q => XS.ladd X.here C.x rfl (hb C.b hd) rfl q) kk
theorem g_lsub (C : Cx Z a0 p s m meth c bs ml own nm rt) (X : Stand p l e R s m args below meth c T locs cells slots) {x y : Int64} (hd : decode bs pc = .ok (.lsub, 1))  (hp : pc + 1 = pc') (kk : Go p e below s m Q Cc Sc T pc' Ls (.long (x - y) :: St)) : Go p e below s m Q Cc Sc T pc Ls (.long y :: .long x :: St) := by
  subst hp
  exact Go.via (fun t q => XS.lsub X.here C.x rfl (hb C.b hd) rfl q) kk
theorem g_lmul (C : Cx Z a0 p s m meth c bs ml own nm rt) (X : Stand p l e R s m args below meth c T locs cells slots) {x y : Int64} (hd : decode bs pc = .ok (.lmul, 1))  (hp : pc + 1 = pc') (kk : Go p e below s m Q Cc Sc T pc' Ls (.long (x * y) :: St)) : Go p e below s m Q Cc Sc T pc Ls (.long y :: .long x :: St) := by
  subst hp
  exact Go.via (fun t q => XS.lmul X.here C.x rfl (hb C.b hd) rfl q) kk
theorem g_land (C : Cx Z a0 p s m meth c bs ml own nm rt) (X : Stand p l e R s m args below meth c T locs cells slots) {x y : Int64} (hd : decode bs pc = .ok (.land, 1))  (hp : pc + 1 = pc') (kk : Go p e below s m Q Cc Sc T pc' Ls (.long (x &&& y) :: St)) : Go p e below s m Q Cc Sc T pc Ls (.long y :: .long x :: St) := by
  subst hp
  exact Go.via (fun t q => XS.land X.here C.x rfl (hb C.b hd) rfl q) kk
theorem g_lor (C : Cx Z a0 p s m meth c bs ml own nm rt) (X : Stand p l e R s m args below meth c T locs cells slots) {x y : Int64} (hd : decode bs pc = .ok (.lor, 1))  (hp : pc + 1 = pc') (kk : Go p e below s m Q Cc Sc T pc' Ls (.long (x ||| y) :: St)) : Go p e below s m Q Cc Sc T pc Ls (.long y :: .long x :: St) := by
  subst hp
  exact Go.via (fun t q => XS.lor X.here C.x rfl (hb C.b hd) rfl q) kk
theorem g_lxor (C : Cx Z a0 p s m meth c bs ml own nm rt) (X : Stand p l e R s m args below meth c T locs cells slots) {x y : Int64} (hd : decode bs pc = .ok (.lxor, 1))  (hp : pc + 1 = pc') (kk : Go p e below s m Q Cc Sc T pc' Ls (.long (x ^^^ y) :: St)) : Go p e below s m Q Cc Sc T pc Ls (.long y :: .long x :: St) := by
  subst hp
  exact Go.via (fun t q => XS.lxor X.here C.x rfl (hb C.b hd) rfl q) kk
theorem g_ldiv (C : Cx Z a0 p s m meth c bs ml own nm rt) (X : Stand p l e R s m args below meth c T locs cells slots) {x y : Int64} (hd : decode bs pc = .ok (.ldiv, 1)) (hy : y ≠ 0) (hp : pc + 1 = pc') (kk : Go p e below s m Q Cc Sc T pc' Ls (.long (x / y) :: St)) : Go p e below s m Q Cc Sc T pc Ls (.long y :: .long x :: St) := by
  subst hp
  exact Go.via (fun t q => XS.ldiv X.here C.x rfl (hb C.b hd) rfl hy q) kk
theorem g_irem (C : Cx Z a0 p s m meth c bs ml own nm rt) (X : Stand p l e R s m args below meth c T locs cells slots) {x y : Int32} (hd : decode bs pc = .ok (.irem, 1)) (hy : y ≠ 0) (hp : pc + 1 = pc') (kk : Go p e below s m Q Cc Sc T pc' Ls (.int (x % y) :: St)) : Go p e below s m Q Cc Sc T pc Ls (.int y :: .int x :: St) := by
  subst hp
  exact Go.via (fun t q => iremM (g := mkF m pc Ls (.int y :: .int x :: St)) X C.x rfl (hb C.b hd) rfl hy q) kk
theorem g_lrem (C : Cx Z a0 p s m meth c bs ml own nm rt) (X : Stand p l e R s m args below meth c T locs cells slots) {x y : Int64} (hd : decode bs pc = .ok (.lrem, 1)) (hy : y ≠ 0) (hp : pc + 1 = pc') (kk : Go p e below s m Q Cc Sc T pc' Ls (.long (x % y) :: St)) : Go p e below s m Q Cc Sc T pc Ls (.long y :: .long x :: St) := by
  subst hp
  rw [← lrem_mod] at kk
  exact Go.via (fun t q => XS.lrem X.here C.x rfl (hb C.b hd) rfl hy q) kk
theorem g_ishl (C : Cx Z a0 p s m meth c bs ml own nm rt) (X : Stand p l e R s m args below meth c T locs cells slots) {x y : Int32} (hd : decode bs pc = .ok (.ishl, 1))  (hp : pc + 1 = pc') (kk : Go p e below s m Q Cc Sc T pc' Ls (.int (x <<< (y &&& 31)) :: St)) : Go p e below s m Q Cc Sc T pc Ls (.int y :: .int x :: St) := by
  subst hp
  exact Go.via (fun t q => XS.ishl X.here C.x rfl (hb C.b hd) rfl q) kk
theorem g_ishr (C : Cx Z a0 p s m meth c bs ml own nm rt) (X : Stand p l e R s m args below meth c T locs cells slots) {x y : Int32} (hd : decode bs pc = .ok (.ishr, 1))  (hp : pc + 1 = pc') (kk : Go p e below s m Q Cc Sc T pc' Ls (.int (x >>> (y &&& 31)) :: St)) : Go p e below s m Q Cc Sc T pc Ls (.int y :: .int x :: St) := by
  subst hp
  exact Go.via (fun t q => XS.ishr X.here C.x rfl (hb C.b hd) rfl q) kk
theorem g_iushr (C : Cx Z a0 p s m meth c bs ml own nm rt) (X : Stand p l e R s m args below meth c T locs cells slots) {x y : Int32} (hd : decode bs pc = .ok (.iushr, 1))  (hp : pc + 1 = pc') (kk : Go p e below s m Q Cc Sc T pc' Ls (.int ((x.toUInt32 >>> (y &&& 31).toUInt32).toInt32) :: St)) : Go p e below s m Q Cc Sc T pc Ls (.int y :: .int x :: St) := by
  subst hp
  exact Go.via (fun t q => XS.iushr X.here C.x rfl (hb C.b hd) rfl q) kk
theorem g_lshl (C : Cx Z a0 p s m meth c bs ml own nm rt) (X : Stand p l e R s m args below meth c T locs cells slots) {x : Int64} {y : Int32} (hd : decode bs pc = .ok (.lshl, 1))  (hp : pc + 1 = pc') (kk : Go p e below s m Q Cc Sc T pc' Ls (.long (x <<< (y &&& 0x3f).toInt64) :: St)) : Go p e below s m Q Cc Sc T pc Ls (.int y :: .long x :: St) := by
  subst hp
  exact Go.via (fun t q => XS.lshl X.here C.x rfl (hb C.b hd) rfl q) kk
theorem g_lshr (C : Cx Z a0 p s m meth c bs ml own nm rt) (X : Stand p l e R s m args below meth c T locs cells slots) {x : Int64} {y : Int32} (hd : decode bs pc = .ok (.lshr, 1))  (hp : pc + 1 = pc') (kk : Go p e below s m Q Cc Sc T pc' Ls (.long (x >>> (y &&& 0x3f).toInt64) :: St)) : Go p e below s m Q Cc Sc T pc Ls (.int y :: .long x :: St) := by
  subst hp
  exact Go.via (fun t q => XS.lshr X.here C.x rfl (hb C.b hd) rfl q) kk
theorem g_lushr (C : Cx Z a0 p s m meth c bs ml own nm rt) (X : Stand p l e R s m args below meth c T locs cells slots) {x : Int64} {y : Int32} (hd : decode bs pc = .ok (.lushr, 1))  (hp : pc + 1 = pc') (kk : Go p e below s m Q Cc Sc T pc' Ls (.long ((x.toUInt64 >>> (y &&& 0x3f).toInt64.toUInt64).toInt64) :: St)) : Go p e below s m Q Cc Sc T pc Ls (.int y :: .long x :: St) := by
  subst hp
  exact Go.via (fun t q => XS.lushr X.here C.x rfl (hb C.b hd) rfl q) kk
theorem g_i2b (C : Cx Z a0 p s m meth c bs ml own nm rt) (X : Stand p l e R s m args below meth c T locs cells slots) {x : Int32} (hd : decode bs pc = .ok (.i2b, 1))  (hp : pc + 1 = pc') (kk : Go p e below s m Q Cc Sc T pc' Ls (.int (x.toInt8.toInt32) :: St)) : Go p e below s m Q Cc Sc T pc Ls (.int x :: St) := by
  subst hp
  exact Go.via (fun t q => XS.i2b X.here C.x rfl (hb C.b hd) rfl q) kk
theorem g_i2l (C : Cx Z a0 p s m meth c bs ml own nm rt) (X : Stand p l e R s m args below meth c T locs cells slots) {x : Int32} (hd : decode bs pc = .ok (.i2l, 1))  (hp : pc + 1 = pc') (kk : Go p e below s m Q Cc Sc T pc' Ls (.long (x.toInt64) :: St)) : Go p e below s m Q Cc Sc T pc Ls (.int x :: St) := by
  subst hp
  exact Go.via (fun t q => XS.i2l X.here C.x rfl (hb C.b hd) rfl q) kk
theorem g_l2i (C : Cx Z a0 p s m meth c bs ml own nm rt) (X : Stand p l e R s m args below meth c T locs cells slots) {x : Int64} (hd : decode bs pc = .ok (.l2i, 1))  (hp : pc + 1 = pc') (kk : Go p e below s m Q Cc Sc T pc' Ls (.int (x.toInt32) :: St)) : Go p e below s m Q Cc Sc T pc Ls (.long x :: St) := by
  subst hp
  exact Go.via (fun t q => XS.l2i X.here C.x rfl (hb C.b hd) rfl q) kk
theorem g_ineg (C : Cx Z a0 p s m meth c bs ml own nm rt) (X : Stand p l e R s m args below meth c T locs cells slots) {x : Int32} (hd : decode bs pc = .ok (.ineg, 1))  (hp : pc + 1 = pc') (kk : Go p e below s m Q Cc Sc T pc' Ls (.int (-x) :: St)) : Go p e below s m Q Cc Sc T pc Ls (.int x :: St) := by
  subst hp
  exact Go.via (fun t q => XS.ineg X.here C.x rfl (hb C.b hd) rfl q) kk
theorem g_lneg (C : Cx Z a0 p s m meth c bs ml own nm rt) (X : Stand p l e R s m args below meth c T locs cells slots) {x : Int64} (hd : decode bs pc = .ok (.lneg, 1))  (hp : pc + 1 = pc') (kk : Go p e below s m Q Cc Sc T pc' Ls (.long (-x) :: St)) : Go p e below s m Q Cc Sc T pc Ls (.long x :: St) := by
  subst hp
  exact Go.via (fun t q => XS.lneg X.here C.x rfl (hb C.b hd) rfl q) kk
theorem g_dup (C : Cx Z a0 p s m meth c bs ml own nm rt) (X : Stand p l e R s m args below meth c T locs cells slots) {x : Value} (hd : decode bs pc = .ok (.dup, 1)) (hc : x.category = 1) (hp : pc + 1 = pc') (kk : Go p e below s m Q Cc Sc T pc' Ls (x :: x :: St)) : Go p e below s m Q Cc Sc T pc Ls (x :: St) := by
  subst hp
  exact Go.via (fun t q => XS.dup X.here C.x rfl (hb C.b hd) rfl hc q) kk
theorem g_pop (C : Cx Z a0 p s m meth c bs ml own nm rt) (X : Stand p l e R s m args below meth c T locs cells slots) {x : Value} (hd : decode bs pc = .ok (.pop, 1)) (hc : x.category = 1) (hp : pc + 1 = pc') (kk : Go p e below s m Q Cc Sc T pc' Ls St) : Go p e below s m Q Cc Sc T pc Ls (x :: St) := by
  subst hp
  exact Go.via (fun t q => XS.pop X.here C.x rfl (hb C.b hd) rfl hc q) kk
theorem g_goto (C : Cx Z a0 p s m meth c bs ml own nm rt) (X : Stand p l e R s m args below meth c T locs cells slots) {o : Int} (hd : decode bs pc = .ok (.goto o, 3)) (ho : 0 ≤ (pc : Int) + o) (hp : ((pc : Int) + o).toNat = pc') (kk : Go p e below s m Q Cc Sc T pc' Ls St) : Go p e below s m Q Cc Sc T pc Ls St := Go.via (fun t q => XS.goto X.here C.x rfl rfl (hb C.b hd) ho hp q) kk
/-- what a comparison says of two ints -/
def Cd (cd : ClassFile.Cond) (x y : Int) : Prop := match cd with | .eq => x = y | .ne => ¬ x = y | .lt => x < y | .ge => y ≤ x | .gt => y < x | .le => x ≤ y
def ng : ClassFile.Cond → ClassFile.Cond | .eq => .ne | .ne => .eq | .lt => .ge | .ge => .lt | .gt => .le | .le => .gt
theorem cd_n {cd : ClassFile.Cond} {x y : Int} (h : ¬ Cd cd x y) : Cd (ng cd) x y := by
  cases cd <;> simp only [Cd, ng] at h ⊢ <;> omega
theorem cd_t {cd : ClassFile.Cond} {x y : Int32} : if_icmp.holds cd x y = true ↔ Cd cd x.toInt y.toInt := by
  cases cd <;> simp [if_icmp.holds, Cd, Int32.lt_iff_toInt_lt, Int32.le_iff_toInt_le, Int32.toInt_inj]
theorem cd_0 {cd : ClassFile.Cond} {x : Int32} : ifCond.holds cd x = true ↔ Cd cd x.toInt 0 := by
  rw [if0, cd_t]; rfl
theorem g_icmp (C : Cx Z a0 p s m meth c bs ml own nm rt) (X : Stand p l e R s m args below meth c T locs cells slots) {cd : ClassFile.Cond} {o : Int} {x y : Int32} (hd : decode bs pc = .ok (.if_icmp cd o, 3)) (ho : 0 ≤ (pc : Int) + o) (hq : ((pc : Int) + o).toNat = pt) (hp : pc + 3 = pc') (kt : Cd cd x.toInt y.toInt → Go p e below s m Q Cc Sc T pt Ls St) (kf : Cd (ng cd) x.toInt y.toInt → Go p e below s m Q Cc Sc T pc' Ls St) : Go p e below s m Q Cc Sc T pc Ls (.int y :: .int x :: St) := by
  subst hp
  by_cases q : Cd cd x.toInt y.toInt
  · exact Go.via (fun t q' => XS.icmpYes X.here C.x rfl rfl (hb C.b hd) rfl (cd_t.mpr q) ho hq q') (kt q)
  · exact Go.via (fun t q' => XS.icmpNo X.here C.x rfl (hb C.b hd) rfl (Bool.eq_false_iff.mpr fun z => q (cd_t.mp z)) q') (kf (cd_n q))
theorem g_if (C : Cx Z a0 p s m meth c bs ml own nm rt) (X : Stand p l e R s m args below meth c T locs cells slots) {cd : ClassFile.Cond} {o : Int} {x : Int32} (hd : decode bs pc = .ok (.ifCond cd o, 3)) (ho : 0 ≤ (pc : Int) + o) (hq : ((pc : Int) + o).toNat = pt) (hp : pc + 3 = pc') (kt : Cd cd x.toInt 0 → Go p e below s m Q Cc Sc T pt Ls St) (kf : Cd (ng cd) x.toInt 0 → Go p e below s m Q Cc Sc T pc' Ls St) : Go p e below s m Q Cc Sc T pc Ls (.int x :: St) := by
  subst hp
  by_cases q : Cd cd x.toInt 0
  · exact Go.via (fun t q' => XS.ifYes X.here C.x rfl rfl (hb C.b hd) rfl (cd_0.mpr q) ho hq q') (kt q)
  · exact Go.via (fun t q' => XS.ifNo X.here C.x rfl (hb C.b hd) rfl (Bool.eq_false_iff.mpr fun z => q (cd_0.mp z)) q') (kf (cd_n q))
theorem cd_l {cd : ClassFile.Cond} {x y : Int64} : Cd cd (lcmpW x y).toInt 0 ↔ Cd cd x.toInt y.toInt := by
  obtain ⟨h1, h2, h3⟩ := c_lcmp x y
  generalize (lcmpW x y).toInt = w at *
  generalize x.toInt = u at *
  generalize y.toInt = v at *
  cases cd <;> simp only [Cd] <;> omega
theorem g_lcmpif (C : Cx Z a0 p s m meth c bs ml own nm rt) (X : Stand p l e R s m args below meth c T locs cells slots) {cd : ClassFile.Cond} {o : Int} {x y : Int64} {pm : Nat} (hd0 : decode bs pc = .ok (.lcmp, 1)) (hm : pc + 1 = pm) (hd : decode bs pm = .ok (.ifCond cd o, 3)) (ho : 0 ≤ (pm : Int) + o) (hq : ((pm : Int) + o).toNat = pt) (hp : pm + 3 = pc') (kt : Cd cd x.toInt y.toInt → Go p e below s m Q Cc Sc T pt Ls St) (kf : Cd (ng cd) x.toInt y.toInt → Go p e below s m Q Cc Sc T pc' Ls St) : Go p e below s m Q Cc Sc T pc Ls (.long y :: .long x :: St) := by
  subst hm
  refine Go.via (fun t q' => XS.lcmp X.here C.x rfl (hb C.b hd0) rfl q') ?_
  exact g_if C X hd ho hq hp (fun z => kt (cd_l.mp z)) (fun z => kf (cd_l.mp z))
theorem g_ireturnN (C : Cx Z a0 p s m meth c bs ml own nm rt) (X : Stand p l e R s m args below meth c T locs cells slots) {z : Int32} {t : FieldType} (hd : decode bs pc = .ok (.ireturn, 1)) (hr : rt = some t) (ht : t = .boolean ∨ t = .byte ∨ t = .char ∨ t = .short) (hQ : Q (some (.int (nar t z))) T.heap locs) (hC : cells ≤ Cc) (hS : slots ≤ Sc) : Go p e below s m Q Cc Sc T pc Ls (.int z :: St) := by
  subst hr
  obtain ⟨fs, hr, hrun, hended, hW, hsame⟩ := X.leave (v := some (.int (nar t z))) (fun h => by rw [C.r] at h; cases h) C.lk
  refine ⟨_, _, ?_, hrun, hended, _, _, rfl, hQ, ⟨_, rfl⟩, hW, hsame.mono hC hS⟩
  exact retN X C.x C.r ht (hb C.b hd) hr
theorem g_ireturn (C : Cx Z a0 p s m meth c bs ml own nm rt) (X : Stand p l e R s m args below meth c T locs cells slots) {z : Int32} (hd : decode bs pc = .ok (.ireturn, 1)) (hr : rt = some .int) (hQ : Q (some (.int z)) T.heap locs) (hC : cells ≤ Cc) (hS : slots ≤ Sc) : Go p e below s m Q Cc Sc T pc Ls (.int z :: St) := by
  subst hr
  obtain ⟨fs, hr, hrun, hended, hW, hsame⟩ := X.leave (v := some (.int z)) (fun h => by rw [C.r] at h; cases h) C.lk
  refine ⟨_, _, ?_, hrun, hended, _, _, rfl, hQ, ⟨_, rfl⟩, hW, hsame.mono hC hS⟩
  exact retOut X C.x C.r rfl (Or.inl ⟨rfl, Or.inl rfl, z, rfl⟩) (hb C.b hd) hr
theorem g_lreturn (C : Cx Z a0 p s m meth c bs ml own nm rt) (X : Stand p l e R s m args below meth c T locs cells slots) {z : Int64} (hd : decode bs pc = .ok (.lreturn, 1)) (hr : rt = some .long) (hQ : Q (some (.long z)) T.heap locs) (hC : cells ≤ Cc) (hS : slots ≤ Sc) : Go p e below s m Q Cc Sc T pc Ls (.long z :: St) := by
  subst hr
  obtain ⟨fs, hr, hrun, hended, hW, hsame⟩ := X.leave (v := some (.long z)) (fun h => by rw [C.r] at h; cases h) C.lk
  refine ⟨_, _, ?_, hrun, hended, _, _, rfl, hQ, ⟨_, rfl⟩, hW, hsame.mono hC hS⟩
  exact retOut X C.x C.r rfl (Or.inr (Or.inl ⟨rfl, rfl, z, rfl⟩)) (hb C.b hd) hr
theorem g_areturn (C : Cx Z a0 p s m meth c bs ml own nm rt) (X : Stand p l e R s m args below meth c T locs cells slots) {z : Addr} {t : FieldType} (hd : decode bs pc = .ok (.areturn, 1)) (hr : rt = some t) (ht : t.isReference = true) (hn : narrow t (.ref z) = .ref z) (hQ : Q (some (.ref z)) T.heap locs) (hC : cells ≤ Cc) (hS : slots ≤ Sc) : Go p e below s m Q Cc Sc T pc Ls (.ref z :: St) := by
  subst hr
  obtain ⟨fs, hr, hrun, hended, hW, hsame⟩ := X.leave (v := some (.ref z)) (fun h => by rw [C.r] at h; cases h) C.lk
  refine ⟨_, _, ?_, hrun, hended, _, _, rfl, hQ, ⟨_, rfl⟩, hW, hsame.mono hC hS⟩
  exact retOut X C.x C.r hn (Or.inr (Or.inr (Or.inr (Or.inr ⟨rfl, ht, rfl⟩)))) (hb C.b hd) hr
theorem g_return (C : Cx Z a0 p s m meth c bs ml own nm rt) (X : Stand p l e R s m args below meth c T locs cells slots)  (hd : decode bs pc = .ok (.return_, 1)) (hr : rt = none) (hQ : Q none T.heap locs) (hC : cells ≤ Cc) (hS : slots ≤ Sc) : Go p e below s m Q Cc Sc T pc Ls [] := by
  subst hr
  obtain ⟨fs, hr, hrun, hended, hW, hsame⟩ := X.leave (v := none) (fun _ => rfl) C.lk
  refine ⟨_, _, ?_, hrun, hended, _, _, rfl, hQ, ⟨_, rfl⟩, hW, hsame.mono hC hS⟩
  exact X.returnOut C.x C.r (hb C.b hd) hr
/-- an array: its kind, its length, what each place holds -/
def Aw (Z : State) (h : Heap) (a : Addr) (ty : FieldType) (n : Nat) (f : Nat → Value) : Prop := ∃ cl : Cell, Arr Z h a cl ty ∧ cl.slots.size = n ∧ n < 2 ^ 31 ∧ ∀ j, j < n → cl.slots[j]? = some (f j)
variable {a b : Addr} {ty : FieldType} {n : Nat} {f f' : Nat → Value}
theorem Aw.ext (A : Aw Z h a ty n f) (E : Ext h h') : Aw Z h' a ty n f := by obtain ⟨cl, A, r⟩ := A; exact ⟨cl, A.ext E, r⟩
theorem Aw.other {sl : Nat} {v : Value} (A : Aw Z h b ty n f) (W : Wr h h' a sl v) (q : b ≠ a) : Aw Z h' b ty n f := by obtain ⟨cl, A, r⟩ := A; exact ⟨cl, A.other W q, r⟩
theorem Aw.keep {ws : List Addr} (A : Aw Z h a ty n f) (K : Keep h h' ws) (q : a ∉ ws) : Aw Z h' a ty n f := by obtain ⟨cl, A, r⟩ := A; exact ⟨cl, ⟨K.2.1 a cl A.1 q, A.2⟩, r⟩
theorem Aw.lt (A : Aw Z h a ty n f) : a < h.size := by obtain ⟨cl, A, r⟩ := A; exact A.lt
theorem Aw.of (A : Aw Z h a ty n f) (q : ∀ j, j < n → f j = f' j) : Aw Z h a ty n f' := by obtain ⟨cl, A, r1, r2, r3⟩ := A; exact ⟨cl, A, r1, r2, fun j hj => by rw [r3 j hj, q j hj]⟩
theorem i_nn {j : Int32} (h0 : 0 ≤ j.toInt) : (j.toNatClampNeg : Int) = j.toInt := by simp only [Int32.toNatClampNeg]; omega
theorem aw_in {cl : Cell} {j : Int32} (S : cl.slots.size = n) (h0 : 0 ≤ j.toInt) (h1 : j.toInt < n) : ¬ (j < 0 ∨ cl.slots.size ≤ j.toNatClampNeg) := by
  have := i_nn h0
  rw [Int32.lt_iff_toInt_lt, S]; simp only [Int32.reduceToInt]; omega
theorem aw_len (q : n < 2 ^ 31) : (n.toInt32).toInt = n := len_toInt q
theorem g_newarray {aty : ArrayType} {nn : Int32} {cap : Nat} (C : Cx Z a0 p s m meth c bs ml own nm rt) (X : Stand p l e R s m args below meth c T locs cells slots) (hd : decode bs pc = .ok (.newarray aty, 2)) (eT : T.heap = h) (w : (Jvm.Cond.arrayClass (newarray.typeOf aty)).before a0 Z = true) (h0 : 0 ≤ nn.toInt) (hcap : nn.toInt ≤ cap) (hb8 : cap * 8 ≤ 536870912) (hc : cells + 1 ≤ R.cells) (hl : slots + cap ≤ R.slots) (hp : pc + 2 = pc')
    (kk : ∀ T' h', Stand p l e R s m args below meth c T' locs (cells + 1) (slots + cap) → T'.heap = h' → Ext h h' → h.size < h'.size → ∀ a, a = h.size → Aw Z h' a (newarray.typeOf aty) nn.toInt.toNat (fun _ => defaultValue (newarray.typeOf aty)) → Go p e below s m Q Cc Sc T' pc' Ls (.ref a :: St)) : Go p e below s m Q Cc Sc T pc Ls (.int nn :: St) := by
  subst hp
  have hn : ¬ nn < 0 := by rw [Int32.lt_iff_toInt_lt]; simp only [Int32.reduceToInt]; omega
  have hi := i_nn h0
  obtain ⟨T', h', cA, X', e', E, A, st⟩ := newP X C.x C.z w eT (g := mkF m pc Ls (.int nn :: St)) rfl (hb C.b hd) rfl hn (cap := cap) (by omega) hb8 hc hl
  have hs : (newA cA (newarray.typeOf aty) nn).slots.size = nn.toInt.toNat := by rw [sz_new]; simp only [Int32.toNatClampNeg]
  have hlt := nn.toInt_lt
  refine Go.via st (kk T' h' X' e' E A.lt _ rfl ⟨_, A, hs, by omega, fun j hj => ?_⟩)
  have : j < nn.toNatClampNeg := by omega
  simp [newA, this]
theorem Aw.set {cl : Cell} {j : Int32} {v : Value} (A : Arr Z h a cl ty) (S : cl.slots.size = n) (M : n < 2 ^ 31) (H : ∀ j, j < n → cl.slots[j]? = some (f j)) (h0 : 0 ≤ j.toInt) (W : Wr h h' a j.toNatClampNeg v) : Aw Z h' a ty n (fun i => if (i : Int) = j.toInt then v else f i) := by
  refine ⟨_, A.same W, by rw [sz_set]; exact S, M, fun i hi => ?_⟩
  have hi0 := i_nn h0
  show _ = some (if (i : Int) = j.toInt then v else f i)
  by_cases q : (i : Int) = j.toInt
  · have : j.toNatClampNeg = i := by omega
    rw [if_pos q, this]
    simp [Cell.setSlot, S, hi]
  · have : j.toNatClampNeg ≠ i := by omega
    rw [if_neg q]
    simp only [Cell.setSlot]
    rw [Array.getElem?_setIfInBounds_ne this]; exact H i hi
theorem g_arraylength (C : Cx Z a0 p s m meth c bs ml own nm rt) (X : Stand p l e R s m args below meth c T locs cells slots) (hd : decode bs pc = .ok (.arraylength, 1)) (eT : T.heap = h) (A : Aw Z h a ty n f) (hp : pc + 1 = pc') (kk : ∀ v : Int32, v.toInt = n → Go p e below s m Q Cc Sc T pc' Ls (.int v :: St)) : Go p e below s m Q Cc Sc T pc Ls (.ref a :: St) := by
  subst hp
  obtain ⟨cl, A, S, M, H⟩ := A
  have : cl.slots.size.toInt32.toInt = n := by rw [S]; exact aw_len M
  exact Go.via (fun t q => X.arraylength C.x (by rw [eT]; exact A.1) (State.isArrayOf_alike C.z.alike A.2.1) (g := mkF m pc Ls (.ref a :: St)) rfl rfl (hb C.b hd) t q) (kk _ this)

theorem g_iastore {j : Int32} {x : Int32} (C : Cx Z a0 p s m meth c bs ml own nm rt) (X : Stand p l e R s m args below meth c T locs cells slots) (hd : decode bs pc = .ok (.iastore, 1)) (eT : T.heap = h) (A : Aw Z h a .int n f) (h0 : 0 ≤ j.toInt) (h1 : j.toInt < n) (hp : pc + 1 = pc')
    (kk : ∀ T' h', Stand p l e R s m args below meth c T' (locs ++ [⟨a, j.toNatClampNeg⟩]) cells slots → T'.heap = h' → Wr h h' a j.toNatClampNeg (.int x) → Aw Z h' a .int n (fun i => if (i : Int) = j.toInt then .int x else f i) → Go p e below s m Q Cc Sc T' pc' Ls St) : Go p e below s m Q Cc Sc T pc Ls (.int x :: .int j :: .ref a :: St) := by
  subst hp
  obtain ⟨cl, A, S, M, H⟩ := A
  obtain ⟨T', h', X', e', W, st⟩ := stI X C.x C.z eT A (j := j) (aw_in S h0 h1) (g := mkF m pc Ls (.int x :: .int j :: .ref a :: St)) rfl rfl (hb C.b hd)
  exact Go.via st (kk T' h' X' e' W (Aw.set A S M H h0 W))
theorem g_bastore {j : Int32} {x : Int32} (C : Cx Z a0 p s m meth c bs ml own nm rt) (X : Stand p l e R s m args below meth c T locs cells slots) (hd : decode bs pc = .ok (.bastore, 1)) (eT : T.heap = h) (A : Aw Z h a .byte n f) (h0 : 0 ≤ j.toInt) (h1 : j.toInt < n) (hp : pc + 1 = pc')
    (kk : ∀ T' h', Stand p l e R s m args below meth c T' (locs ++ [⟨a, j.toNatClampNeg⟩]) cells slots → T'.heap = h' → Wr h h' a j.toNatClampNeg (.int (nar .byte x)) → Aw Z h' a .byte n (fun i => if (i : Int) = j.toInt then .int (nar .byte x) else f i) → Go p e below s m Q Cc Sc T' pc' Ls St) : Go p e below s m Q Cc Sc T pc Ls (.int x :: .int j :: .ref a :: St) := by
  subst hp
  obtain ⟨cl, A, S, M, H⟩ := A
  obtain ⟨T', h', X', e', W, st⟩ := stB X C.x C.z eT A (j := j) (aw_in S h0 h1) (g := mkF m pc Ls (.int x :: .int j :: .ref a :: St)) rfl rfl (hb C.b hd)
  exact Go.via st (kk T' h' X' e' W (Aw.set A S M H h0 W))
theorem g_lastore {j : Int32} {x : Int64} (C : Cx Z a0 p s m meth c bs ml own nm rt) (X : Stand p l e R s m args below meth c T locs cells slots) (hd : decode bs pc = .ok (.lastore, 1)) (eT : T.heap = h) (A : Aw Z h a .long n f) (h0 : 0 ≤ j.toInt) (h1 : j.toInt < n) (hp : pc + 1 = pc')
    (kk : ∀ T' h', Stand p l e R s m args below meth c T' (locs ++ [⟨a, j.toNatClampNeg⟩]) cells slots → T'.heap = h' → Wr h h' a j.toNatClampNeg (.long x) → Aw Z h' a .long n (fun i => if (i : Int) = j.toInt then .long x else f i) → Go p e below s m Q Cc Sc T' pc' Ls St) : Go p e below s m Q Cc Sc T pc Ls (.long x :: .int j :: .ref a :: St) := by
  subst hp
  obtain ⟨cl, A, S, M, H⟩ := A
  obtain ⟨T', h', X', e', W, st⟩ := stJ X C.x C.z eT A (j := j) (aw_in S h0 h1) (g := mkF m pc Ls (.long x :: .int j :: .ref a :: St)) rfl rfl (hb C.b hd)
  exact Go.via st (kk T' h' X' e' W (Aw.set A S M H h0 W))
theorem g_iaload {j : Int32} {v : Value} (C : Cx Z a0 p s m meth c bs ml own nm rt) (X : Stand p l e R s m args below meth c T locs cells slots) (hd : decode bs pc = .ok (.iaload, 1)) (eT : T.heap = h) (A : Aw Z h a .int n f) (h0 : 0 ≤ j.toInt) (h1 : j.toInt < n) (hv : f j.toInt.toNat = v) (hp : pc + 1 = pc') (kk : Go p e below s m Q Cc Sc T pc' Ls (v :: St)) : Go p e below s m Q Cc Sc T pc Ls (.int j :: .ref a :: St) := by
  subst hp
  obtain ⟨cl, A, S, M, H⟩ := A
  have hi := i_nn h0
  have hj : j.toNatClampNeg = j.toInt.toNat := by omega
  have hat : cl.slots[j.toNatClampNeg]? = some v := by rw [hj, H _ (by omega), hv]
  exact Go.via (fun t q => X.iaload C.x (j := j) (v := v) (by rw [eT]; exact A.1) (State.isArrayOf_alike C.z.alike A.2.1) A.2.2 (aw_in S h0 h1) hat (g := mkF m pc Ls (.int j :: .ref a :: St)) rfl rfl (hb C.b hd) t q) kk
theorem g_baload {j : Int32} {v : Value} (C : Cx Z a0 p s m meth c bs ml own nm rt) (X : Stand p l e R s m args below meth c T locs cells slots) (hd : decode bs pc = .ok (.baload, 1)) (eT : T.heap = h) (A : Aw Z h a .byte n f) (h0 : 0 ≤ j.toInt) (h1 : j.toInt < n) (hv : f j.toInt.toNat = v) (hp : pc + 1 = pc') (kk : Go p e below s m Q Cc Sc T pc' Ls (v :: St)) : Go p e below s m Q Cc Sc T pc Ls (.int j :: .ref a :: St) := by
  subst hp
  obtain ⟨cl, A, S, M, H⟩ := A
  have hi := i_nn h0
  have hj : j.toNatClampNeg = j.toInt.toNat := by omega
  have hat : cl.slots[j.toNatClampNeg]? = some v := by rw [hj, H _ (by omega), hv]
  exact Go.via (fun t q => X.baloadBytes C.x (j := j) (v := v) (by rw [eT]; exact A.1) (State.isArrayOf_alike C.z.alike A.2.1) A.2.2 (aw_in S h0 h1) hat (g := mkF m pc Ls (.int j :: .ref a :: St)) rfl rfl (hb C.b hd) t q) kk
theorem g_laload {j : Int32} {v : Value} (C : Cx Z a0 p s m meth c bs ml own nm rt) (X : Stand p l e R s m args below meth c T locs cells slots) (hd : decode bs pc = .ok (.laload, 1)) (eT : T.heap = h) (A : Aw Z h a .long n f) (h0 : 0 ≤ j.toInt) (h1 : j.toInt < n) (hv : f j.toInt.toNat = v) (hp : pc + 1 = pc') (kk : Go p e below s m Q Cc Sc T pc' Ls (v :: St)) : Go p e below s m Q Cc Sc T pc Ls (.int j :: .ref a :: St) := by
  subst hp
  obtain ⟨cl, A, S, M, H⟩ := A
  have hi := i_nn h0
  have hj : j.toNatClampNeg = j.toInt.toNat := by omega
  have hat : cl.slots[j.toNatClampNeg]? = some v := by rw [hj, H _ (by omega), hv]
  exact Go.via (fun t q => X.laload C.x (j := j) (v := v) (by rw [eT]; exact A.1) (State.isArrayOf_alike C.z.alike A.2.1) A.2.2 (aw_in S h0 h1) hat (g := mkF m pc Ls (.int j :: .ref a :: St)) rfl rfl (hb C.b hd) t q) kk
theorem g_callS {y : MethodName} {bytes : ByteArray} {maxL W index : Nat} {ret : Option FieldType} {rm : Room} {argsL rest : List Value} {ps : List FieldType} {r : Option FieldType} {Qc : Option Value → Heap → List Loc → Prop} (C : Cx Z a0 p s m meth c bs ml own nm rt) (X : Stand p l e R s m args below meth c T locs cells slots)
    (hd : decode bs pc = .ok (.invokestatic index, 3)) (eT : T.heap = h)
    (w1 : (Jvm.Cond.methodLink own index y).before a0 Z = true) (w2 : (Jvm.Cond.static y).before a0 Z = true) (w3 : (Jvm.Cond.initialized y.cls).before a0 Z = true) (w4 : (Jvm.Cond.code y bytes maxL ret).before a0 Z = true)
    (hM : MetFree l y (head1 [Jvm.Cond.code y bytes maxL ret] rm) (fun a U => a = argsL.toArray ∧ Z.Warmed39 U.vm ∧ U.heap = h) (fun _ _ _ _ _ => True) (fun _ U o U' => ∃ v L, o = .returned v ∧ Qc v U'.heap L ∧ FrameEnd U o U' L rm.cells rm.slots))
    (hy : y.cls ≠ "java/lang/invoke/MethodHandle" ∧ y.cls ≠ "java/lang/invoke/VarHandle") (hpd : parseMethodDescriptor y.desc = some ⟨ps, r⟩) (hln : argsL.length = ps.length)
    (hst : St = argsL.reverse ++ rest) (hLs : Ls.size = ml) (hW : (rest.map fun v => v.category).sum ≤ W) (hfr : rm.frames + 1 ≤ R.frames) (hlo : W + (maxL + 11) + rm.locals ≤ R.locals) (hce : cells + rm.cells ≤ R.cells) (hsl : slots + rm.slots ≤ R.slots) (hp : pc + 3 = pc')
    (kk : ∀ T' v L, Stand p l e R s m args below meth c T' (locs ++ L) (cells + rm.cells) (slots + rm.slots) → Qc v T'.heap L → Go p e below s m Q Cc Sc T' pc' Ls (v.toList ++ rest)) : Go p e below s m Q Cc Sc T pc Ls St := by
  subst hp
  obtain ⟨v, _, ⟨T', L', k', n'⟩, -, X', ⟨L, hQ, l1, y1, z1⟩, st⟩ := Jvm.LawKit.callS X C.x (y := y) C.o (mvT C.z w1) (mvT C.z w2) (mvT C.z w3) (mvT C.z w4) hy (backOf (W := W) hM C.z w4 w3 hfr hlo) (g := mkF m pc Ls St) rfl (by rw [C.mx]; exact hLs) (argsL := argsL) (rest := rest) (lenOf hpd hln) hst (by show 2 * 0 + _ ≤ _; omega) (hb C.b hd) (fun _ _ => ⟨rfl, eT, hce, hsl⟩)
  dsimp only [Pt.U, Pt.locs, Pt.cells, Pt.slots] at X' l1 y1 z1 st hQ
  subst l1 y1 z1
  exact Go.via st (kk T' v L X' hQ)
theorem g_callC {y : MethodName} {bytes : ByteArray} {maxL W index : Nat} {rm : Room} {argsL rest : List Value} {ps : List FieldType} {r : Option FieldType} {Qc : Option Value → Heap → List Loc → Prop} (C : Cx Z a0 p s m meth c bs ml own nm rt) (X : Stand p l e R s m args below meth c T locs cells slots)
    (hd : decode bs pc = .ok (.invokespecial index, 3)) (eT : T.heap = h) (hy1 : y.name = "<init>") 
    (w1 : (Jvm.Cond.methodLink own index y).before a0 Z = true) (w2 : (Jvm.Cond.instanceMethod y).before a0 Z = true) (w3 : (Jvm.Cond.initialized y.cls).before a0 Z = true) (w4 : (Jvm.Cond.code y bytes maxL none).before a0 Z = true)
    (hM : MetFree l y (head1 [Jvm.Cond.code y bytes maxL none] rm) (fun a' U => a' = (Value.ref a :: argsL).toArray ∧ Z.Warmed39 U.vm ∧ U.heap = h) (fun _ _ _ _ _ => True) (fun _ U o U' => ∃ v L, o = .returned v ∧ Qc v U'.heap L ∧ FrameEnd U o U' L rm.cells rm.slots))
    (hy : y.cls ≠ "java/lang/invoke/MethodHandle" ∧ y.cls ≠ "java/lang/invoke/VarHandle") (hpd : parseMethodDescriptor y.desc = some ⟨ps, r⟩) (hln : argsL.length = ps.length)
    (hst : St = argsL.reverse ++ .ref a :: rest) (hLs : Ls.size = ml) (hW : (rest.map fun v => v.category).sum ≤ W) (hfr : rm.frames + 1 ≤ R.frames) (hlo : W + (maxL + 11) + rm.locals ≤ R.locals) (hce : cells + rm.cells ≤ R.cells) (hsl : slots + rm.slots ≤ R.slots) (hp : pc + 3 = pc')
    (kk : ∀ T' v L, Stand p l e R s m args below meth c T' (locs ++ L) (cells + rm.cells) (slots + rm.slots) → Qc v T'.heap L → Go p e below s m Q Cc Sc T' pc' Ls (v.toList ++ rest)) : Go p e below s m Q Cc Sc T pc Ls St := by
  subst hp
  obtain ⟨v, _, ⟨T', L', k', n'⟩, -, X', ⟨L, hQ, l1, y1, z1⟩, st⟩ := X.specialBack C.x (y := y) hy1 C.o (mvT C.z w1) (mvT C.z w2) (mvT C.z w4) hy (backOf (W := W) hM C.z w4 w3 hfr hlo) (g := mkF m pc Ls St) rfl (by rw [C.mx]; exact hLs) (Steps.refl _) (a := a) (argsL := argsL) (rest := rest) (lenOf hpd hln) hst (by show 2 * 0 + _ ≤ _; omega) (hb C.b hd) (fun _ _ => ⟨rfl, eT, hce, hsl⟩)
  dsimp only [Pt.U, Pt.locs, Pt.cells, Pt.slots] at X' l1 y1 z1 st hQ
  subst l1 y1 z1
  exact Go.via (fun t q => st.trans q) (kk T' v L X' hQ)
theorem g_callV {y : MethodName} {bytes : ByteArray} {maxL W index : Nat} {ret : Option FieldType} {rm : Room} {argsL rest : List Value} {ps : List FieldType} {r : Option FieldType} {Qc : Option Value → Heap → List Loc → Prop} (C : Cx Z a0 p s m meth c bs ml own nm rt) (X : Stand p l e R s m args below meth c T locs cells slots)
    (hd : decode bs pc = .ok (.invokevirtual index, 3)) (eT : T.heap = h) {K : String} (E : Exa Z h a K) (wd : (Jvm.Cond.declares y).before a0 Z = true) (wn : (Jvm.Cond.selects K y y).before a0 Z = true) 
    (w1 : (Jvm.Cond.methodLink own index y).before a0 Z = true) (w2 : (Jvm.Cond.instanceMethod y).before a0 Z = true) (w3 : (Jvm.Cond.initialized y.cls).before a0 Z = true) (w4 : (Jvm.Cond.code y bytes maxL ret).before a0 Z = true)
    (hM : MetFree l y (head1 [Jvm.Cond.code y bytes maxL ret] rm) (fun a' U => a' = (Value.ref a :: argsL).toArray ∧ Z.Warmed39 U.vm ∧ U.heap = h) (fun _ _ _ _ _ => True) (fun _ U o U' => ∃ v L, o = .returned v ∧ Qc v U'.heap L ∧ FrameEnd U o U' L rm.cells rm.slots))
    (hy : y.cls ≠ "java/lang/invoke/MethodHandle" ∧ y.cls ≠ "java/lang/invoke/VarHandle") (hpd : parseMethodDescriptor y.desc = some ⟨ps, r⟩) (hln : argsL.length = ps.length)
    (hst : St = argsL.reverse ++ .ref a :: rest) (hLs : Ls.size = ml) (hW : (rest.map fun v => v.category).sum ≤ W) (hfr : rm.frames + 1 ≤ R.frames) (hlo : W + (maxL + 11) + rm.locals ≤ R.locals) (hce : cells + rm.cells ≤ R.cells) (hsl : slots + rm.slots ≤ R.slots) (hp : pc + 3 = pc')
    (kk : ∀ T' v L, Stand p l e R s m args below meth c T' (locs ++ L) (cells + rm.cells) (slots + rm.slots) → Qc v T'.heap L → Go p e below s m Q Cc Sc T' pc' Ls (v.toList ++ rest)) : Go p e below s m Q Cc Sc T pc Ls St := by
  subst hp
  obtain ⟨cq, kq, qa, qb, qc⟩ := isOf C.z eT E
  obtain ⟨v, _, ⟨T', L', k', n'⟩, -, X', ⟨L, hQ, l1, y1, z1⟩, st⟩ := X.virtualBack C.x (y := y) (z := y) C.o (mvT C.z w1) (mvT C.z wd) (notFace_of_selects (args := #[]) (mvT C.z wn)) (mvT C.z wn) (mvT C.z w2) hy (backOf (W := W) hM C.z w4 w3 hfr hlo) qa qc (g := mkF m pc Ls St) rfl (by rw [C.mx]; exact hLs) (Steps.refl _) (argsL := argsL) (rest := rest) (lenOf hpd hln) hst (by show 2 * 0 + _ ≤ _; omega) (hb C.b hd) (fun _ _ => ⟨rfl, eT, hce, hsl⟩)
  dsimp only [Pt.U, Pt.locs, Pt.cells, Pt.slots] at X' l1 y1 z1 st hQ
  subst l1 y1 z1
  exact Go.via (fun t q => st.trans q) (kk T' v L X' hQ)
theorem g_getfield {R0 O nf df : String} {index : Nat} {v : Value} (C : Cx Z a0 p s m meth c bs ml own nm rt) (X : Stand p l e R s m args below meth c T locs cells slots) (hd : decode bs pc = .ok (.getfield index, 3)) (eT : T.heap = h) (w : (Jvm.Cond.fieldLink own index R0 nf df).before a0 Z = true) (via : Via Z R0 O nf df) (F : Fld Z h a O nf df v) (hp : pc + 3 = pc')
    (kk : ∀ T', Stand p l e R s m args below meth c T' locs cells slots → T'.heap = h → Go p e below s m Q Cc Sc T' pc' Ls (v :: St)) : Go p e below s m Q Cc Sc T pc Ls (.ref a :: St) := by
  subst hp
  obtain ⟨T', X', e', st⟩ := getF X C.x C.z C.o (host := "") (Or.inl w) via eT F (g := mkF m pc Ls (.ref a :: St)) rfl rfl (hb C.b hd)
  exact Go.via st (kk T' X' e')
theorem g_new {K : String} {index n : Nat} (C : Cx Z a0 p s m meth c bs ml own nm rt) (X : Stand p l e R s m args below meth c T locs cells slots) (hd : decode bs pc = .ok (.new index, 3)) (eT : T.heap = h) (w1 : (Jvm.Cond.classLink own index K).before a0 Z = true) (w2 : (Jvm.Cond.instantiable K n).before a0 Z = true) (w3 : (Jvm.Cond.initialized K).before a0 Z = true) (hc : cells + 1 ≤ R.cells) (hl : slots + n ≤ R.slots) (hp : pc + 3 = pc')
    (kk : ∀ T' h', Stand p l e R s m args below meth c T' locs (cells + 1) (slots + n) → T'.heap = h' → Ext h h' → h.size < h'.size → ∀ a, a = h.size → Exa Z h' a K → (∀ {O nf d : String} {ty : FieldType}, Laid Z a0 K O nf d → parseFieldDescriptor d = some ty → Fld Z h' a O nf d (defaultValue ty)) → Go p e below s m Q Cc Sc T' pc' Ls (.ref a :: St)) : Go p e below s m Q Cc Sc T pc Ls St := by
  subst hp
  obtain ⟨T', h', X', e', E, A, D, -, st⟩ := newO X C.x C.z C.o w1 w2 w3 eT (g := mkF m pc Ls St) rfl (hb C.b hd) hc hl
  exact Go.via st (kk T' h' X' e' E A.lt _ rfl A D)
theorem g_putfield {R0 O nf df K : String} {index kk' : Nat} {ty : FieldType} {v old : Value} (C : Cx Z a0 p s m meth c bs ml own nm rt) (X : Stand p l e R s m args below meth c T locs cells slots) (hd : decode bs pc = .ok (.putfield index, 3)) (eT : T.heap = h) (w : (Jvm.Cond.fieldLink own index R0 nf df).before a0 Z = true) (via : Via Z R0 O nf df) (F : Fld Z h a O nf df old) (E : Exa Z h a K) (L : (Jvm.Cond.lays K O nf df).before a0 Z = true ∨ ((Jvm.Cond.laysFinal K O nf df).before a0 Z = true ∧ own = O ∧ nm = "<init>")) (wi : (Jvm.Cond.instantiable K kk').before a0 Z = true) (hty : parseFieldDescriptor df = some ty) (hn : narrow ty v = v) (hf : fits ty v = true) (hp : pc + 3 = pc')
    (kk : ∀ T' h', Stand p l e R s m args below meth c T' (locs ++ [⟨a, Jvm.RoadKit.slotOf Z O nf df⟩]) cells slots → T'.heap = h' → Wr h h' a (Jvm.RoadKit.slotOf Z O nf df) v → Fld Z h' a O nf df v → Exa Z h' a K → Go p e below s m Q Cc Sc T' pc' Ls St) : Go p e below s m Q Cc Sc T pc Ls (v :: .ref a :: St) := by
  subst hp
  obtain ⟨T', h', X', e', W, st⟩ := putF X C.x C.z C.o (host := "") (Or.inl w) via eT F E (L.imp id fun q => ⟨q.1, q.2.1, by rw [C.n]; exact q.2.2⟩) wi hty hn hf (g := mkF m pc Ls (v :: .ref a :: St)) rfl rfl (hb C.b hd)
  exact Go.via st (kk T' h' X' e' W (F.same W) (E.wr W))
theorem g_initO {idx W : Nat} (C : Cx Z a0 p s m meth c bs ml own nm rt) (X : Stand p l e R s m args below meth c T locs cells slots) (hd : decode bs pc = .ok (.invokespecial idx, 3)) (eT : T.heap = h) (w1 : (Jvm.Cond.methodLink own idx Lib.objectInit).before a0 Z = true) (w2 : (Jvm.Cond.instanceMethod Lib.objectInit).before a0 Z = true) (w3 : (Jvm.Cond.code Lib.objectInit ⟨#[0xb1]⟩ 1 none).before a0 Z = true) (hLs : Ls.size = ml) (hf : 1 ≤ R.frames) (hW : (St.map fun v => v.category).sum ≤ W) (hl : W + 12 ≤ R.locals) (hp : pc + 3 = pc')
    (kk : ∀ T', Stand p l e R s m args below meth c T' locs cells slots → T'.heap = h → Go p e below s m Q Cc Sc T' pc' Ls St) : Go p e below s m Q Cc Sc T pc Ls (.ref a :: St) := by
  subst hp
  obtain ⟨T', X', e', st⟩ := initO X C.x C.z C.o w1 w2 w3 eT (g := mkF m pc Ls (.ref a :: St)) rfl (by rw [C.mx]; exact hLs) rfl (hb C.b hd) hf (W := W) (by show 2 * 0 + _ ≤ _; omega) hl
  exact Go.via st (kk T' X' e')
end Own
/-- numbers -/
theorem own_inj32 {x y : Int32} (h : x.toInt = y.toInt) : x = y := Int32.toInt_inj.mp h
theorem own_inj64 {x y : Int64} (h : x.toInt = y.toInt) : x = y := Int64.toInt_inj.mp h
theorem own_nz32 {x : Int32} (h : 1 ≤ x.toInt) : x ≠ 0 := fun q => by rw [q] at h; revert h; decide
theorem own_nz64 {x : Int64} (h : 1 ≤ x.toInt) : x ≠ 0 := fun q => by rw [q] at h; revert h; decide
abbrev LQ (n0 : Nat) : Option Value → Heap → List Loc → Prop := fun v _ L => v = some (.int 1) ∧ Fr n0 L
theorem own_ush0 (x y : Int32) (h : y.toBitVec.toNat % 32 = 0) : (x.toUInt32 >>> (y &&& 31).toUInt32).toInt32 = x := by
  have hz : (y &&& 31) = 0 := by
    apply Int32.toBitVec_inj.mp
    apply BitVec.eq_of_toNat_eq
    rw [Int32.toBitVec_and, BitVec.toNat_and]
    show y.toBitVec.toNat &&& 31 = 0
    rw [show (31 : Nat) = 2 ^ 5 - 1 from rfl, Nat.and_two_pow_sub_one_eq_mod]
    exact h
  rw [hz]
  apply Int32.toBitVec_inj.mp
  show (x.toUInt32 >>> (0 : Int32).toUInt32).toBitVec = x.toBitVec
  rw [UInt32.toBitVec_shiftRight]
  show x.toBitVec >>> ((0 : BitVec 32) % 32) = x.toBitVec
  simp
theorem own_ush (x y : Int32) (k : Nat) (hk : y.toBitVec.toNat % 32 = k) (hx : 0 ≤ x.toInt) : ((x.toUInt32 >>> (y &&& 31).toUInt32).toInt32).toInt = x.toInt / (2 ^ k : Nat) := by
  have hr := rng32 x
  rcases Nat.eq_zero_or_pos k with h0 | h0
  · subst h0
    rw [own_ush0 x y hk]; simp
  · rw [c_iushr x y k hk h0, Int.emod_eq_of_lt hx (by omega)]
theorem own_ushnn (x y : Int32) (hx : 0 ≤ x.toInt) : 0 ≤ ((x.toUInt32 >>> (y &&& 31).toUInt32).toInt32).toInt := by
  rw [own_ush x y _ rfl hx]
  exact Int.ediv_nonneg hx (Int.natCast_nonneg _)
def own_len : Nat → Int → Nat
  | 0, _ => 1
  | k + 1, v => if v < 128 then 1 else own_len k (v / 128) + 1
def own_b (v : Int) (nb j : Nat) : Int := if j + 1 < nb then v / 128 ^ j % 128 - 128 else v / 128 ^ j
theorem own_len1 (k : Nat) (v : Int) : 1 ≤ own_len k v := by
  cases k with
  | zero => exact Nat.le_refl _
  | succ k => unfold own_len; split <;> omega
theorem own_of {n : Int} (h1 : -2147483648 ≤ n) (h2 : n < 2147483648) : (Int32.ofInt n).toInt = n := Int32.toInt_ofInt_of_le h1 h2
theorem own_w1 (r : Int32) (h0 : 0 ≤ r.toInt) (h1 : r.toInt < 128) : nar .byte (r.toInt8.toInt32) = Int32.ofInt r.toInt := by
  apply own_inj32
  rw [own_of (by omega) (by omega)]
  have q1 := c_i2b r
  have q2 := c_i2b (r.toInt8.toInt32)
  show (r.toInt8.toInt32.toInt8.toInt32).toInt = _
  omega
theorem own_e (y : Int32) (a : Int32) (ha : a.toInt % 128 = 0) (hy : 0 ≤ y.toInt) : (((y &&& (127 : Int32)) ||| a).toInt - (a.toInt + y.toInt % 128)) % 4294967296 = 0 := by
  have q1 := c_mask y (127 : Int32) 7 (by decide) (by decide)
  have q1' : (y &&& (127 : Int32)).toInt = y.toInt % 128 := q1
  have q2 := c_or' (y &&& (127 : Int32)) a 7 (by decide) 128 (by decide) ha (by omega) (by omega)
  omega
theorem own_w2 (r : Int32) (h0 : 0 ≤ r.toInt) : nar .byte (((r &&& (127 : Int32)) ||| (128 : Int32)).toInt8.toInt32) = Int32.ofInt (r.toInt % 128 - 128) := by
  apply own_inj32
  rw [own_of (by omega) (by omega)]
  have q0 := own_e r (128 : Int32) (by decide) h0
  rw [show (128 : Int32).toInt = 128 by decide] at q0
  have q1 := c_i2b ((r &&& (127 : Int32)) ||| (128 : Int32))
  have q2 := c_i2b (((r &&& (127 : Int32)) ||| (128 : Int32)).toInt8.toInt32)
  show (((r &&& (127 : Int32)) ||| (128 : Int32)).toInt8.toInt32.toInt8.toInt32).toInt = _
  omega
theorem own_b0 (v : Int) : own_b v 1 0 = v := by
  unfold own_b; simp
theorem own_bS0 (v : Int) (nb : Nat) (h : 1 ≤ nb) : own_b v (nb + 1) 0 = v % 128 - 128 := by
  unfold own_b; rw [if_pos (by omega)]; simp
theorem own_bS (v : Int) (nb j : Nat) (hv : 0 ≤ v) : own_b v (nb + 1) (j + 1) = own_b (v / 128) nb j := by
  unfold own_b
  have e : v / 128 ^ (j + 1) = v / 128 / 128 ^ j := by
    rw [Int.pow_succ, Int.mul_comm, Int.ediv_ediv_of_nonneg (by omega)]
  rw [e]
  by_cases q : j + 1 < nb
  · rw [if_pos q, if_pos (by omega)]
  · rw [if_neg q, if_neg (by omega)]
theorem own_down {k : Nat} {v : Int} (h0 : 0 ≤ v) (h : v < 128 ^ (k + 1 + 1)) : v / 128 < 128 ^ (k + 1) := by
  rw [Int.pow_succ] at h
  generalize (128 : Int) ^ (k + 1) = P at *
  omega
theorem own_len4 (v : Int) : own_len 4 v = if v < 128 then 1 else if v < 16384 then 2 else if v < 2097152 then 3 else if v < 268435456 then 4 else 5 := by
  show (if v < 128 then 1 else (if v / 128 < 128 then 1 else (if v / 128 / 128 < 128 then 1 else (if v / 128 / 128 / 128 < 128 then 1 else 1 + 1) + 1) + 1) + 1) = _
  by_cases h1 : v < 128
  · rw [if_pos h1, if_pos h1]
  · rw [if_neg h1, if_neg h1]
    by_cases h2 : v < 16384
    · rw [if_pos h2, if_pos (by omega)]
    · rw [if_neg h2, if_neg (by omega)]
      by_cases h3 : v < 2097152
      · rw [if_pos h3, if_pos (by omega)]
      · rw [if_neg h3, if_neg (by omega)]
        by_cases h4 : v < 268435456
        · rw [if_pos h4, if_pos (by omega)]
        · rw [if_neg h4, if_neg (by omega)]
theorem own_bytes (v : Int) (j : Nat) (h0 : 0 ≤ v) (hv : v < 2147483648) (hj : j < own_len 4 v) :
    (j + 1 < own_len 4 v ∧ own_b v (own_len 4 v) j = v / 128 ^ j % 128 - 128) ∨ (j + 1 = own_len 4 v ∧ own_b v (own_len 4 v) j = v / 128 ^ j ∧ 0 ≤ v / 128 ^ j ∧ v / 128 ^ j < 128) := by
  by_cases q : j + 1 < own_len 4 v
  · left; refine ⟨q, ?_⟩
    unfold own_b; rw [if_pos q]
  · right
    have hj' : j + 1 = own_len 4 v := by omega
    refine ⟨hj', ?_, ?_⟩
    · unfold own_b; rw [if_neg q]
    · rw [own_len4] at hj'
      split at hj'
      · have : j = 0 := by omega
        subst this; simp only [Int.reducePow]; omega
      · split at hj'
        · have : j = 1 := by omega
          subst this; simp only [Int.reducePow]; omega
        · split at hj'
          · have : j = 2 := by omega
            subst this; simp only [Int.reducePow]; omega
          · split at hj'
            · have : j = 3 := by omega
              subst this; simp only [Int.reducePow]; omega
            · have : j = 4 := by omega
              subst this; simp only [Int.reducePow]; omega
/-- what a byte must be so that 'ok' says yes -/
def own_good (w : Int32) (k at' : Int) (n : Int) (v : Int) (fill : Int32) : Prop :=
  (k < at' ∨ at' + n ≤ k → w = fill) ∧ (at' ≤ k → k < at' + n → (k + 1 < at' + n ∧ w.toInt = v / 128 ^ (k - at').toNat % 128 - 128 ∨ k + 1 = at' + n ∧ w.toInt = v / 128 ^ (k - at').toNat ∧ 0 ≤ v / 128 ^ (k - at').toNat ∧ v / 128 ^ (k - at').toNat < 128))
theorem d1_0 : decode prog_8_method_3_code 0 = .ok (.iload_n 2, 1) := by decide +kernel
theorem d1_1 : decode prog_8_method_3_code 1 = .ok (.istore_n 3, 1) := by decide +kernel
theorem d1_2 : decode prog_8_method_3_code 2 = .ok (.iload_n 1, 1) := by decide +kernel
theorem d1_3 : decode prog_8_method_3_code 3 = .ok (.istore 4, 2) := by decide +kernel
theorem d1_5 : decode prog_8_method_3_code 5 = .ok (.iload_n 3, 1) := by decide +kernel
theorem d1_6 : decode prog_8_method_3_code 6 = .ok (.sipush 128, 3) := by decide +kernel
theorem d1_9 : decode prog_8_method_3_code 9 = .ok (.if_icmp .lt 27, 3) := by decide +kernel
theorem d1_12 : decode prog_8_method_3_code 12 = .ok (.aload_n 0, 1) := by decide +kernel
theorem d1_13 : decode prog_8_method_3_code 13 = .ok (.iload 4, 2) := by decide +kernel
theorem d1_15 : decode prog_8_method_3_code 15 = .ok (.iinc 4 1, 3) := by decide +kernel
theorem d1_18 : decode prog_8_method_3_code 18 = .ok (.iload_n 3, 1) := by decide +kernel
theorem d1_19 : decode prog_8_method_3_code 19 = .ok (.bipush 127, 2) := by decide +kernel
theorem d1_21 : decode prog_8_method_3_code 21 = .ok (.iand, 1) := by decide +kernel
theorem d1_22 : decode prog_8_method_3_code 22 = .ok (.sipush 128, 3) := by decide +kernel
theorem d1_25 : decode prog_8_method_3_code 25 = .ok (.ior, 1) := by decide +kernel
theorem d1_26 : decode prog_8_method_3_code 26 = .ok (.i2b, 1) := by decide +kernel
theorem d1_27 : decode prog_8_method_3_code 27 = .ok (.bastore, 1) := by decide +kernel
theorem d1_28 : decode prog_8_method_3_code 28 = .ok (.iload_n 3, 1) := by decide +kernel
theorem d1_29 : decode prog_8_method_3_code 29 = .ok (.bipush 7, 2) := by decide +kernel
theorem d1_31 : decode prog_8_method_3_code 31 = .ok (.iushr, 1) := by decide +kernel
theorem d1_32 : decode prog_8_method_3_code 32 = .ok (.istore_n 3, 1) := by decide +kernel
theorem d1_33 : decode prog_8_method_3_code 33 = .ok (.goto (-28), 3) := by decide +kernel
theorem d1_36 : decode prog_8_method_3_code 36 = .ok (.aload_n 0, 1) := by decide +kernel
theorem d1_37 : decode prog_8_method_3_code 37 = .ok (.iload 4, 2) := by decide +kernel
theorem d1_39 : decode prog_8_method_3_code 39 = .ok (.iinc 4 1, 3) := by decide +kernel
theorem d1_42 : decode prog_8_method_3_code 42 = .ok (.iload_n 3, 1) := by decide +kernel
theorem d1_43 : decode prog_8_method_3_code 43 = .ok (.i2b, 1) := by decide +kernel
theorem d1_44 : decode prog_8_method_3_code 44 = .ok (.bastore, 1) := by decide +kernel
theorem d1_45 : decode prog_8_method_3_code 45 = .ok (.iload 4, 2) := by decide +kernel
theorem d1_47 : decode prog_8_method_3_code 47 = .ok (.ireturn, 1) := by decide +kernel
theorem pn_1 : plainFor (⟨"com/example/overscore/overscore/index/VarInt", "put", "([BII)I"⟩ : MethodName) = true := plainFor_of_name (by first | (simp [plainName, overriddenIn]; done) | decide +kernel)
theorem pd_1 : parseMethodDescriptor "([BII)I" = some ⟨[(.array .byte), .int, .int], some .int⟩ := by decide +kernel
theorem ef_1 (x0 : Addr) (x1 : Int32) (x2 : Int32) (m : MethodId) : entryFrame m #[(.ref x0), (.int x1), (.int x2)] 5 = mkF m 0 #[.val (.ref x0), .val (.int x1), .val (.int x2), .unset, .unset] [] := by first | (simp [entryFrame, mkF, argsToLocals, Value.category]; done) | rfl
theorem d2_0 : decode method_3_code 0 = .ok (.iload_n 1, 1) := by decide +kernel
theorem d2_1 : decode method_3_code 1 = .ok (.iload_n 2, 1) := by decide +kernel
theorem d2_2 : decode method_3_code 2 = .ok (.isub, 1) := by decide +kernel
theorem d2_3 : decode method_3_code 3 = .ok (.istore 6, 2) := by decide +kernel
theorem d2_5 : decode method_3_code 5 = .ok (.iload 6, 2) := by decide +kernel
theorem d2_7 : decode method_3_code 7 = .ok (.ifCond .lt 9, 3) := by decide +kernel
theorem d2_10 : decode method_3_code 10 = .ok (.iload 6, 2) := by decide +kernel
theorem d2_12 : decode method_3_code 12 = .ok (.iload_n 3, 1) := by decide +kernel
theorem d2_13 : decode method_3_code 13 = .ok (.if_icmp .lt 17, 3) := by decide +kernel
theorem d2_16 : decode method_3_code 16 = .ok (.aload_n 0, 1) := by decide +kernel
theorem d2_17 : decode method_3_code 17 = .ok (.iload_n 1, 1) := by decide +kernel
theorem d2_18 : decode method_3_code 18 = .ok (.baload, 1) := by decide +kernel
theorem d2_19 : decode method_3_code 19 = .ok (.iload 5, 2) := by decide +kernel
theorem d2_21 : decode method_3_code 21 = .ok (.if_icmp .ne 7, 3) := by decide +kernel
theorem d2_24 : decode method_3_code 24 = .ok (.iconst 1, 1) := by decide +kernel
theorem d2_25 : decode method_3_code 25 = .ok (.goto 4, 3) := by decide +kernel
theorem d2_28 : decode method_3_code 28 = .ok (.iconst 0, 1) := by decide +kernel
theorem d2_29 : decode method_3_code 29 = .ok (.ireturn, 1) := by decide +kernel
theorem d2_30 : decode method_3_code 30 = .ok (.iload 4, 2) := by decide +kernel
theorem d2_32 : decode method_3_code 32 = .ok (.bipush 7, 2) := by decide +kernel
theorem d2_34 : decode method_3_code 34 = .ok (.iload 6, 2) := by decide +kernel
theorem d2_36 : decode method_3_code 36 = .ok (.imul, 1) := by decide +kernel
theorem d2_37 : decode method_3_code 37 = .ok (.iushr, 1) := by decide +kernel
theorem d2_38 : decode method_3_code 38 = .ok (.bipush 127, 2) := by decide +kernel
theorem d2_40 : decode method_3_code 40 = .ok (.iand, 1) := by decide +kernel
theorem d2_41 : decode method_3_code 41 = .ok (.iload 6, 2) := by decide +kernel
theorem d2_43 : decode method_3_code 43 = .ok (.iload_n 3, 1) := by decide +kernel
theorem d2_44 : decode method_3_code 44 = .ok (.iconst 1, 1) := by decide +kernel
theorem d2_45 : decode method_3_code 45 = .ok (.isub, 1) := by decide +kernel
theorem d2_46 : decode method_3_code 46 = .ok (.if_icmp .ge 9, 3) := by decide +kernel
theorem d2_49 : decode method_3_code 49 = .ok (.sipush 128, 3) := by decide +kernel
theorem d2_52 : decode method_3_code 52 = .ok (.goto 4, 3) := by decide +kernel
theorem d2_55 : decode method_3_code 55 = .ok (.iconst 0, 1) := by decide +kernel
theorem d2_56 : decode method_3_code 56 = .ok (.ior, 1) := by decide +kernel
theorem d2_57 : decode method_3_code 57 = .ok (.istore 7, 2) := by decide +kernel
theorem d2_59 : decode method_3_code 59 = .ok (.aload_n 0, 1) := by decide +kernel
theorem d2_60 : decode method_3_code 60 = .ok (.iload_n 1, 1) := by decide +kernel
theorem d2_61 : decode method_3_code 61 = .ok (.baload, 1) := by decide +kernel
theorem d2_62 : decode method_3_code 62 = .ok (.iload 7, 2) := by decide +kernel
theorem d2_64 : decode method_3_code 64 = .ok (.i2b, 1) := by decide +kernel
theorem d2_65 : decode method_3_code 65 = .ok (.if_icmp .ne 7, 3) := by decide +kernel
theorem d2_68 : decode method_3_code 68 = .ok (.iconst 1, 1) := by decide +kernel
theorem d2_69 : decode method_3_code 69 = .ok (.goto 4, 3) := by decide +kernel
theorem d2_72 : decode method_3_code 72 = .ok (.iconst 0, 1) := by decide +kernel
theorem d2_73 : decode method_3_code 73 = .ok (.ireturn, 1) := by decide +kernel
theorem pn_2 : plainFor (⟨"com/example/overscore/overscore/index/VarIntPutPinLaw", "ok", "([BIIIIB)Z"⟩ : MethodName) = true := plainFor_of_name (by first | (simp [plainName, overriddenIn]; done) | decide +kernel)
theorem pd_2 : parseMethodDescriptor "([BIIIIB)Z" = some ⟨[(.array .byte), .int, .int, .int, .int, .byte], some .boolean⟩ := by decide +kernel
theorem ef_2 (x0 : Addr) (x1 : Int32) (x2 : Int32) (x3 : Int32) (x4 : Int32) (x5 : Int32) (m : MethodId) : entryFrame m #[(.ref x0), (.int x1), (.int x2), (.int x3), (.int x4), (.int x5)] 8 = mkF m 0 #[.val (.ref x0), .val (.int x1), .val (.int x2), .val (.int x3), .val (.int x4), .val (.int x5), .unset, .unset] [] := by first | (simp [entryFrame, mkF, argsToLocals, Value.category]; done) | rfl
theorem pn_0 : plainFor x = true := plainFor_of_name (by first | (simp [plainName, overriddenIn]; done) | decide +kernel)
theorem pd_0 : parseMethodDescriptor "(IIII)Z" = some ⟨[.int, .int, .int, .int], some .boolean⟩ := by decide +kernel
theorem ef_0 (x0 : Int32) (x1 : Int32) (x2 : Int32) (x3 : Int32) (m : MethodId) : entryFrame m #[(.int x0), (.int x1), (.int x2), (.int x3)] maxLocals = mkF m 0 #[.val (.int x0), .val (.int x1), .val (.int x2), .val (.int x3), .unset, .unset, .unset, .unset, .unset, .unset] [] := by first | (simp [entryFrame, mkF, argsToLocals, Value.category, maxLocals]; done) | rfl
set_option maxRecDepth 65536 in
set_option maxHeartbeats 40000000 in
theorem loop_put {p : Program} {l : Launch} {e : Env} {R : Room} {s : State} {m : MethodId} {args : Array Value} {below : List Frame} {meth : Method} {c : Code} {cells slots : Nat} {Z : State} {a0 : Array Value} {Q : Option Value → Heap → List Loc → Prop} {Cc Sc : Nat} {a : Addr} {x1 x2 : Int32} {N n0 : Nat}
    (C : Cx Z a0 p s m meth c prog_8_method_3_code 5 "com/example/overscore/overscore/index/VarInt" "put" (some .int)) (ga : n0 ≤ a) (hC : cells ≤ Cc) (hS : slots ≤ Sc) (hN : N < 2147483648) :
    ∀ (k : Nat) (T0 : State) (locs : List Loc) (h0 : Heap) (f : Nat → Value) (rest nxt : Int32), Stand p l e R s m args below meth c T0 locs cells slots → T0.heap = h0 → Fr n0 locs → n0 ≤ h0.size → Aw Z h0 a .byte N f → 0 ≤ rest.toInt → rest.toInt < 128 ^ (k + 1) → 0 ≤ nxt.toInt → nxt.toInt + k + 1 ≤ N → (∀ h' L' res, Keep h0 h' [a] → Fr n0 L' → res.toInt = nxt.toInt + own_len k rest.toInt → Aw Z h' a .byte N (fun i => if nxt.toInt ≤ i ∧ (i : Int) < nxt.toInt + own_len k rest.toInt then .int (Int32.ofInt (own_b rest.toInt (own_len k rest.toInt) (i - nxt.toInt.toNat))) else f i) → Q (some (.int res)) h' L') →
    Go p e below s m Q Cc Sc T0 5 #[.val (.ref a), .val (.int x1), .val (.int x2), .val (.int rest), .val (.int nxt)] [] := by
  intro k
  induction k with
  | zero =>
    intro T0 locs h0 f rest nxt X0 e0 N0 Z0 A r0 r1 i0 i1 kQ
    have r1 : rest.toInt < 128 := by simpa using r1
    refine g_iloadN C X0 d1_5 rfl rfl ?_
    refine g_sipush C X0 (128 : Int32) d1_6 rfl rfl ?_
    refine g_icmp C X0 d1_9 (by decide) rfl rfl ?_ ?_
    · intro h9
      have h9 : rest.toInt < 128 := h9
      refine g_aloadN C X0 d1_36 rfl rfl ?_
      refine g_iload C X0 d1_37 rfl rfl ?_
      refine g_iincV C X0 d1_39 rfl (y := (1 : Int32)) rfl (fun v__ => #[.val (.ref a), .val (.int x1), .val (.int x2), .val (.int rest), .val (.int v__)]) rfl rfl ?_
      intro v39 h_v39
      have q39 := c_iadd nxt (1 : Int32)
      rw [show (1 : Int32).toInt = 1 by decide, ← h_v39] at q39
      have rq39 := rng32 v39
      have q39 : v39.toInt = nxt.toInt + 1 := by omega
      refine g_iloadN C X0 d1_42 rfl rfl ?_
      refine g_i2b C X0 d1_43 rfl ?_
      refine g_bastore C X0 d1_44 e0 A (by omega) (by omega) rfl ?_
      intro T1 h1_ X1 e1 W1 A1
      have N1 := Fr.snoc X1 N0 ga
      have Z1 : n0 ≤ h1_.size := Nat.le_trans Z0 (Keep.of_wr W1).1
      refine g_iload C X1 d1_45 rfl rfl ?_
      refine g_ireturn C X1 d1_47 rfl ?_ hC hS
      rw [e1]
      have hl : own_len 0 rest.toInt = 1 := by rfl
      refine kQ _ _ _ (Keep.of_wr W1) N1 (by rw [hl]; omega) (Aw.of A1 ?_)
      intro j hj
      rw [hl]
      by_cases q : (j : Int) = nxt.toInt
      · rw [if_pos q, if_pos (by omega), show j - nxt.toInt.toNat = 0 by omega, own_b0, own_w1 rest r0 (by omega)]
      · rw [if_neg q, if_neg (by omega)]
    · intro h9
      have h9 : rest.toInt ≥ 128 := h9
      exfalso; omega
  | succ k ih =>
    intro T0 locs h0 f rest nxt X0 e0 N0 Z0 A r0 r1 i0 i1 kQ
    refine g_iloadN C X0 d1_5 rfl rfl ?_
    refine g_sipush C X0 (128 : Int32) d1_6 rfl rfl ?_
    refine g_icmp C X0 d1_9 (by decide) rfl rfl ?_ ?_
    · intro h9
      have h9 : rest.toInt < 128 := h9
      refine g_aloadN C X0 d1_36 rfl rfl ?_
      refine g_iload C X0 d1_37 rfl rfl ?_
      refine g_iincV C X0 d1_39 rfl (y := (1 : Int32)) rfl (fun v__ => #[.val (.ref a), .val (.int x1), .val (.int x2), .val (.int rest), .val (.int v__)]) rfl rfl ?_
      intro v39 h_v39
      have q39 := c_iadd nxt (1 : Int32)
      rw [show (1 : Int32).toInt = 1 by decide, ← h_v39] at q39
      have rq39 := rng32 v39
      have q39 : v39.toInt = nxt.toInt + 1 := by omega
      refine g_iloadN C X0 d1_42 rfl rfl ?_
      refine g_i2b C X0 d1_43 rfl ?_
      refine g_bastore C X0 d1_44 e0 A (by omega) (by omega) rfl ?_
      intro T1 h1_ X1 e1 W1 A1
      have N1 := Fr.snoc X1 N0 ga
      have Z1 : n0 ≤ h1_.size := Nat.le_trans Z0 (Keep.of_wr W1).1
      refine g_iload C X1 d1_45 rfl rfl ?_
      refine g_ireturn C X1 d1_47 rfl ?_ hC hS
      rw [e1]
      have hl : own_len (k + 1) rest.toInt = 1 := by unfold own_len; rw [if_pos (by omega)]
      refine kQ _ _ _ (Keep.of_wr W1) N1 (by rw [hl]; omega) (Aw.of A1 ?_)
      intro j hj
      rw [hl]
      by_cases q : (j : Int) = nxt.toInt
      · rw [if_pos q, if_pos (by omega), show j - nxt.toInt.toNat = 0 by omega, own_b0, own_w1 rest r0 (by omega)]
      · rw [if_neg q, if_neg (by omega)]
    · intro h9
      have h9 : rest.toInt ≥ 128 := h9
      refine g_aloadN C X0 d1_12 rfl rfl ?_
      refine g_iload C X0 d1_13 rfl rfl ?_
      refine g_iincV C X0 d1_15 rfl (y := (1 : Int32)) rfl (fun v__ => #[.val (.ref a), .val (.int x1), .val (.int x2), .val (.int rest), .val (.int v__)]) rfl rfl ?_
      intro v15 h_v15
      have q15 := c_iadd nxt (1 : Int32)
      rw [show (1 : Int32).toInt = 1 by decide, ← h_v15] at q15
      have rq15 := rng32 v15
      have q15 : v15.toInt = nxt.toInt + 1 := by omega
      refine g_iloadN C X0 d1_18 rfl rfl ?_
      refine g_bipush C X0 (127 : Int32) d1_19 rfl rfl ?_
      refine g_iand C X0 d1_21 rfl ?_
      refine g_sipush C X0 (128 : Int32) d1_22 rfl rfl ?_
      refine g_ior C X0 d1_25 rfl ?_
      refine g_i2b C X0 d1_26 rfl ?_
      refine g_bastore C X0 d1_27 e0 A (by omega) (by omega) rfl ?_
      intro T2 h2_ X2 e2 W2 A2
      have N2 := Fr.snoc X2 N0 ga
      have Z2 : n0 ≤ h2_.size := Nat.le_trans Z0 (Keep.of_wr W2).1
      refine g_iloadN C X2 d1_28 rfl rfl ?_
      refine g_bipush C X2 (7 : Int32) d1_29 rfl rfl ?_
      refine g_iushr C X2 d1_31 rfl ?_
      refine g_istoreNV C X2 d1_32 (fun v__ => #[.val (.ref a), .val (.int x1), .val (.int x2), .val (.int v__), .val (.int v15)]) rfl rfl ?_
      intro v32 h_v32
      have q32 := own_ush rest (7 : Int32) 7 (by decide) r0
      rw [← h_v32] at q32
      have q32 : v32.toInt = rest.toInt / 128 := q32
      refine g_goto C X2 d1_33 (by decide) rfl ?_
      refine ih T2 _ h2_ _ v32 v15 X2 e2 N2 Z2 A2 (by omega) (by rw [q32]; exact own_down r0 r1) (by omega) (by omega) ?_
      intro h' L' res K' N' hres A'
      have hl : own_len (k + 1) rest.toInt = own_len k v32.toInt + 1 := by
        rw [q32]
        show (if rest.toInt < 128 then 1 else own_len k (rest.toInt / 128) + 1) = _
        rw [if_neg (by omega)]
      have hl1 := own_len1 k v32.toInt
      refine kQ h' L' res ((Keep.of_wr W2).trans K' (fun x hx => Or.inl hx)) N' (by rw [hl]; omega) (Aw.of A' ?_)
      intro j hj
      rw [hl]
      by_cases q : v15.toInt ≤ j ∧ (j : Int) < v15.toInt + own_len k v32.toInt
      · rw [if_pos q, if_pos (by omega), show j - nxt.toInt.toNat = (j - v15.toInt.toNat) + 1 by omega, own_bS _ _ _ r0, q32]
      · rw [if_neg q]
        by_cases q2 : (j : Int) = nxt.toInt
        · rw [if_pos q2, if_pos (by omega), show j - nxt.toInt.toNat = 0 by omega, own_bS0 _ _ hl1, own_w2 rest r0]
        · rw [if_neg q2, if_neg (by omega)]
def Q_rm1 (Z : State) (a : Addr) (x1 : Int32) (x2 : Int32) (N : Nat) (f : Nat → Value) (h0 : Heap) (n0 : Nat) (v : Option Value) (h : Heap) (L : List Loc) : Prop := (∃ res : Int32, v = some (.int res) ∧ res.toInt = x1.toInt + own_len 4 x2.toInt) ∧ Fr n0 L ∧ Keep h0 h [a] ∧ Aw Z h a .byte N (fun i => if x1.toInt ≤ i ∧ (i : Int) < x1.toInt + own_len 4 x2.toInt then .int (Int32.ofInt (own_b x2.toInt (own_len 4 x2.toInt) (i - x1.toInt.toNat))) else f i)
set_option maxRecDepth 65536 in
set_option maxHeartbeats 40000000 in
theorem rm1 (l : Launch) (Z : State) (a0 : Array Value) (hw : ∀ d ∈ tables_1, d.before a0 Z = true) (ws : List Jvm.Cond) (a : Addr) (x1 : Int32) (x2 : Int32) (N : Nat) (f : Nat → Value) (h0 : Heap) (n0 : Nat) (Z0 : n0 ≤ h0.size) (ga : n0 ≤ a) (hN : N < 2147483648) (A : Aw Z h0 a .byte N f) (v0 : 0 ≤ x2.toInt) (i0 : 0 ≤ x1.toInt) (i1 : x1.toInt + 5 ≤ N) :
    MetFree l (⟨"com/example/overscore/overscore/index/VarInt", "put", "([BII)I"⟩ : MethodName) (head1 (Jvm.Cond.code (⟨"com/example/overscore/overscore/index/VarInt", "put", "([BII)I"⟩ : MethodName) prog_8_method_3_code 5 (some .int) :: ws) ({ frames := 0, cells := 0, slots := 0, locals := 0 } : Room)) (fun aa U => aa = #[(.ref a), (.int x1), (.int x2)] ∧ Z.Warmed39 U.vm ∧ U.heap = h0) (fun _ _ _ _ _ => True) (fun _ U oo U' => ∃ rv Lr, oo = .returned rv ∧ Q_rm1 Z a x1 x2 N f h0 n0 rv U'.heap Lr ∧ FrameEnd U oo U' Lr ({ frames := 0, cells := 0, slots := 0, locals := 0 } : Room).cells ({ frames := 0, cells := 0, slots := 0, locals := 0 } : Room).slots) := by
  refine g_enter pn_1 hw (ef_1 a x1 x2) ?_
  intro p e s m below meth c T0 C X0 e0
  have C : Cx Z a0 p s m meth c prog_8_method_3_code 5 "com/example/overscore/overscore/index/VarInt" "put" (some .int) := C
  have N0 := Fr.nil n0
  refine g_iloadN C X0 d1_0 rfl rfl ?_
  refine g_istoreN C X0 d1_1 #[.val (.ref a), .val (.int x1), .val (.int x2), .val (.int x2), .unset] rfl rfl ?_
  refine g_iloadN C X0 d1_2 rfl rfl ?_
  refine g_istore C X0 d1_3 #[.val (.ref a), .val (.int x1), .val (.int x2), .val (.int x2), .val (.int x1)] rfl rfl ?_
  have rv := rng32 x2
  have hp5 : (128 : Int) ^ (4 + 1) = 34359738368 := by decide
  exact loop_put C ga (by decide) (by decide) hN 4 _ _ _ f x2 x1 X0 e0 N0 Z0 A v0 (by omega) i0 (by omega) (fun h' L' res K' N' hres A' => ⟨⟨res, rfl, hres⟩, N', K', A'⟩)
def Q_rm2 (Z : State) (a : Addr) (x1 : Int32) (x2 : Int32) (x3 : Int32) (x4 : Int32) (x5 : Int32) (N : Nat) (f : Nat → Value) (w : Int32) (h0 : Heap) (n0 : Nat) (v : Option Value) (h : Heap) (L : List Loc) : Prop := v = some (.int 1) ∧ Fr n0 L ∧ h = h0
set_option maxRecDepth 65536 in
set_option maxHeartbeats 40000000 in
theorem rm2 (l : Launch) (Z : State) (a0 : Array Value) (hw : ∀ d ∈ tables_1, d.before a0 Z = true) (ws : List Jvm.Cond) (a : Addr) (x1 : Int32) (x2 : Int32) (x3 : Int32) (x4 : Int32) (x5 : Int32) (N : Nat) (f : Nat → Value) (w : Int32) (h0 : Heap) (n0 : Nat) (Z0 : n0 ≤ h0.size) (A : Aw Z h0 a .byte N f) (k0 : 0 ≤ x1.toInt) (k1 : x1.toInt < N) (hf : f x1.toInt.toNat = .int w) (a0_ : 0 ≤ x2.toInt) (a1_ : x2.toInt ≤ 4) (n1 : 1 ≤ x3.toInt) (n2 : x3.toInt ≤ 5) (v0 : 0 ≤ x4.toInt) (k2 : x1.toInt ≤ 100) (hg : own_good w x1.toInt x2.toInt x3.toInt x4.toInt x5) :
    MetFree l (⟨"com/example/overscore/overscore/index/VarIntPutPinLaw", "ok", "([BIIIIB)Z"⟩ : MethodName) (head1 (Jvm.Cond.code (⟨"com/example/overscore/overscore/index/VarIntPutPinLaw", "ok", "([BIIIIB)Z"⟩ : MethodName) method_3_code 8 (some .boolean) :: ws) ({ frames := 0, cells := 0, slots := 0, locals := 0 } : Room)) (fun aa U => aa = #[(.ref a), (.int x1), (.int x2), (.int x3), (.int x4), (.int x5)] ∧ Z.Warmed39 U.vm ∧ U.heap = h0) (fun _ _ _ _ _ => True) (fun _ U oo U' => ∃ rv Lr, oo = .returned rv ∧ Q_rm2 Z a x1 x2 x3 x4 x5 N f w h0 n0 rv U'.heap Lr ∧ FrameEnd U oo U' Lr ({ frames := 0, cells := 0, slots := 0, locals := 0 } : Room).cells ({ frames := 0, cells := 0, slots := 0, locals := 0 } : Room).slots) := by
  refine g_enter pn_2 hw (ef_2 a x1 x2 x3 x4 x5) ?_
  intro p e s m below meth c T0 C X0 e0
  have C : Cx Z a0 p s m meth c method_3_code 8 "com/example/overscore/overscore/index/VarIntPutPinLaw" "ok" (some .boolean) := C
  have N0 := Fr.nil n0
  have j1 := c_isub x1 x2
  have j2 := rng32 (x1 - x2)
  have m1 := c_isub x3 (1 : Int32)
  have m2 := rng32 (x3 - (1 : Int32))
  rw [show (1 : Int32).toInt = 1 by decide] at m1
  have rw4 := rng32 x4
  refine g_iloadN C X0 d2_0 rfl rfl ?_
  refine g_iloadN C X0 d2_1 rfl rfl ?_
  refine g_isub C X0 d2_2 rfl ?_
  refine g_istoreV C X0 d2_3 (fun v__ => #[.val (.ref a), .val (.int x1), .val (.int x2), .val (.int x3), .val (.int x4), .val (.int x5), .val (.int v__), .unset]) rfl rfl ?_
  intro v3 h_v3
  rw [← h_v3] at j1 j2
  have j3 : v3.toInt = x1.toInt - x2.toInt := by omega
  refine g_iload C X0 d2_5 rfl rfl ?_
  refine g_if C X0 d2_7 (by decide) rfl rfl ?_ ?_
  · intro h7
    have h7 : v3.toInt < 0 := h7
    refine g_aloadN C X0 d2_16 rfl rfl ?_
    refine g_iloadN C X0 d2_17 rfl rfl ?_
    refine g_baload C X0 d2_18 e0 A (by omega) (by omega) (v := (.int w)) hf rfl ?_
    refine g_iload C X0 d2_19 rfl rfl ?_
    refine g_icmp C X0 d2_21 (by decide) rfl rfl ?_ ?_
    · intro h21
      have h21 : ¬ w.toInt = x5.toInt := h21
      exact absurd (congrArg Int32.toInt (hg.1 (by omega))) h21
    · intro h21
      have h21 : w.toInt = x5.toInt := h21
      refine g_iconst C X0 (1 : Int32) d2_24 rfl rfl ?_
      refine g_goto C X0 d2_25 (by decide) rfl ?_
      exact g_ireturnN C X0 d2_29 rfl (Or.inl rfl) ⟨rfl, N0, e0⟩ (by decide) (by decide)
  · intro h7
    have h7 : v3.toInt ≥ 0 := h7
    refine g_iload C X0 d2_10 rfl rfl ?_
    refine g_iloadN C X0 d2_12 rfl rfl ?_
    refine g_icmp C X0 d2_13 (by decide) rfl rfl ?_ ?_
    · intro h13
      have h13 : v3.toInt < x3.toInt := h13
      have g2 := hg.2 (by omega) (by omega)
      have hj : v3 = (0 : Int32) ∨ v3 = (1 : Int32) ∨ v3 = (2 : Int32) ∨ v3 = (3 : Int32) ∨ v3 = (4 : Int32) := by
        have q : v3.toInt = 0 ∨ v3.toInt = 1 ∨ v3.toInt = 2 ∨ v3.toInt = 3 ∨ v3.toInt = 4 := by omega
        rcases q with q | q | q | q | q
        · exact Or.inl (own_inj32 q)
        · exact Or.inr (Or.inl (own_inj32 q))
        · exact Or.inr (Or.inr (Or.inl (own_inj32 q)))
        · exact Or.inr (Or.inr (Or.inr (Or.inl (own_inj32 q))))
        · exact Or.inr (Or.inr (Or.inr (Or.inr (own_inj32 q))))
      clear h_v3
      rcases hj with rfl | rfl | rfl | rfl | rfl
      · skip
        rw [show (0 : Int32).toInt = 0 by decide] at j3
        rw [show (x1.toInt - x2.toInt).toNat = 0 by omega] at g2
        simp only [Int.reducePow, Int.ediv_one] at g2
        have us := own_ush x4 ((7 : Int32) * (0 : Int32)) 0 (by decide) v0
        have us : ((x4.toUInt32 >>> (((7 : Int32) * (0 : Int32)) &&& 31).toUInt32).toInt32).toInt = x4.toInt / 1 := us
        have us0 : 0 ≤ ((x4.toUInt32 >>> (((7 : Int32) * (0 : Int32)) &&& 31).toUInt32).toInt32).toInt := own_ushnn _ _ v0
        refine g_iload C X0 d2_30 rfl rfl ?_
        refine g_bipush C X0 (7 : Int32) d2_32 rfl rfl ?_
        refine g_iload C X0 d2_34 rfl rfl ?_
        refine g_imul C X0 d2_36 rfl ?_
        refine g_iushr C X0 d2_37 rfl ?_
        refine g_bipush C X0 (127 : Int32) d2_38 rfl rfl ?_
        refine g_iand C X0 d2_40 rfl ?_
        refine g_iload C X0 d2_41 rfl rfl ?_
        refine g_iloadN C X0 d2_43 rfl rfl ?_
        refine g_iconst C X0 (1 : Int32) d2_44 rfl rfl ?_
        refine g_isub C X0 d2_45 rfl ?_
        refine g_icmp C X0 d2_46 (by decide) rfl rfl ?_ ?_
        · intro h46
          have h46 : 0 ≥ (x3 - (1 : Int32)).toInt := h46
          refine g_iconst C X0 (0 : Int32) d2_55 rfl rfl ?_
          refine g_ior C X0 d2_56 rfl ?_
          refine g_istoreV C X0 d2_57 (fun v__ => #[.val (.ref a), .val (.int x1), .val (.int x2), .val (.int x3), .val (.int x4), .val (.int x5), .val (.int (0 : Int32)), .val (.int v__)]) rfl rfl ?_
          intro v57 h_v57
          refine g_aloadN C X0 d2_59 rfl rfl ?_
          refine g_iloadN C X0 d2_60 rfl rfl ?_
          refine g_baload C X0 d2_61 e0 A (by omega) (by omega) (v := (.int w)) hf rfl ?_
          refine g_iload C X0 d2_62 rfl rfl ?_
          refine g_i2b C X0 d2_64 rfl ?_
          refine g_icmp C X0 d2_65 (by decide) rfl rfl ?_ ?_
          · intro h65
            have h65 : ¬ w.toInt = (v57.toInt8.toInt32).toInt := h65
            exfalso
            have q1 := own_e ((x4.toUInt32 >>> (((7 : Int32) * (0 : Int32)) &&& 31).toUInt32).toInt32) (0 : Int32) (by decide) us0
            rw [show (0 : Int32).toInt = 0 by decide, us, ← h_v57] at q1
            have q2 := c_i2b v57
            have q3 := rng32 v57
            omega
          · intro h65
            have h65 : w.toInt = (v57.toInt8.toInt32).toInt := h65
            refine g_iconst C X0 (1 : Int32) d2_68 rfl rfl ?_
            refine g_goto C X0 d2_69 (by decide) rfl ?_
            exact g_ireturnN C X0 d2_73 rfl (Or.inl rfl) ⟨rfl, N0, e0⟩ (by decide) (by decide)
        · intro h46
          have h46 : 0 < (x3 - (1 : Int32)).toInt := h46
          refine g_sipush C X0 (128 : Int32) d2_49 rfl rfl ?_
          refine g_goto C X0 d2_52 (by decide) rfl ?_
          refine g_ior C X0 d2_56 rfl ?_
          refine g_istoreV C X0 d2_57 (fun v__ => #[.val (.ref a), .val (.int x1), .val (.int x2), .val (.int x3), .val (.int x4), .val (.int x5), .val (.int (0 : Int32)), .val (.int v__)]) rfl rfl ?_
          intro v57 h_v57
          refine g_aloadN C X0 d2_59 rfl rfl ?_
          refine g_iloadN C X0 d2_60 rfl rfl ?_
          refine g_baload C X0 d2_61 e0 A (by omega) (by omega) (v := (.int w)) hf rfl ?_
          refine g_iload C X0 d2_62 rfl rfl ?_
          refine g_i2b C X0 d2_64 rfl ?_
          refine g_icmp C X0 d2_65 (by decide) rfl rfl ?_ ?_
          · intro h65
            have h65 : ¬ w.toInt = (v57.toInt8.toInt32).toInt := h65
            exfalso
            have q1 := own_e ((x4.toUInt32 >>> (((7 : Int32) * (0 : Int32)) &&& 31).toUInt32).toInt32) (128 : Int32) (by decide) us0
            rw [show (128 : Int32).toInt = 128 by decide, us, ← h_v57] at q1
            have q2 := c_i2b v57
            have q3 := rng32 v57
            omega
          · intro h65
            have h65 : w.toInt = (v57.toInt8.toInt32).toInt := h65
            refine g_iconst C X0 (1 : Int32) d2_68 rfl rfl ?_
            refine g_goto C X0 d2_69 (by decide) rfl ?_
            exact g_ireturnN C X0 d2_73 rfl (Or.inl rfl) ⟨rfl, N0, e0⟩ (by decide) (by decide)
      · skip
        rw [show (1 : Int32).toInt = 1 by decide] at j3
        rw [show (x1.toInt - x2.toInt).toNat = 1 by omega] at g2
        simp only [Int.reducePow, Int.ediv_one] at g2
        have us := own_ush x4 ((7 : Int32) * (1 : Int32)) 7 (by decide) v0
        have us : ((x4.toUInt32 >>> (((7 : Int32) * (1 : Int32)) &&& 31).toUInt32).toInt32).toInt = x4.toInt / 128 := us
        have us0 : 0 ≤ ((x4.toUInt32 >>> (((7 : Int32) * (1 : Int32)) &&& 31).toUInt32).toInt32).toInt := own_ushnn _ _ v0
        refine g_iload C X0 d2_30 rfl rfl ?_
        refine g_bipush C X0 (7 : Int32) d2_32 rfl rfl ?_
        refine g_iload C X0 d2_34 rfl rfl ?_
        refine g_imul C X0 d2_36 rfl ?_
        refine g_iushr C X0 d2_37 rfl ?_
        refine g_bipush C X0 (127 : Int32) d2_38 rfl rfl ?_
        refine g_iand C X0 d2_40 rfl ?_
        refine g_iload C X0 d2_41 rfl rfl ?_
        refine g_iloadN C X0 d2_43 rfl rfl ?_
        refine g_iconst C X0 (1 : Int32) d2_44 rfl rfl ?_
        refine g_isub C X0 d2_45 rfl ?_
        refine g_icmp C X0 d2_46 (by decide) rfl rfl ?_ ?_
        · intro h46
          have h46 : 1 ≥ (x3 - (1 : Int32)).toInt := h46
          refine g_iconst C X0 (0 : Int32) d2_55 rfl rfl ?_
          refine g_ior C X0 d2_56 rfl ?_
          refine g_istoreV C X0 d2_57 (fun v__ => #[.val (.ref a), .val (.int x1), .val (.int x2), .val (.int x3), .val (.int x4), .val (.int x5), .val (.int (1 : Int32)), .val (.int v__)]) rfl rfl ?_
          intro v57 h_v57
          refine g_aloadN C X0 d2_59 rfl rfl ?_
          refine g_iloadN C X0 d2_60 rfl rfl ?_
          refine g_baload C X0 d2_61 e0 A (by omega) (by omega) (v := (.int w)) hf rfl ?_
          refine g_iload C X0 d2_62 rfl rfl ?_
          refine g_i2b C X0 d2_64 rfl ?_
          refine g_icmp C X0 d2_65 (by decide) rfl rfl ?_ ?_
          · intro h65
            have h65 : ¬ w.toInt = (v57.toInt8.toInt32).toInt := h65
            exfalso
            have q1 := own_e ((x4.toUInt32 >>> (((7 : Int32) * (1 : Int32)) &&& 31).toUInt32).toInt32) (0 : Int32) (by decide) us0
            rw [show (0 : Int32).toInt = 0 by decide, us, ← h_v57] at q1
            have q2 := c_i2b v57
            have q3 := rng32 v57
            omega
          · intro h65
            have h65 : w.toInt = (v57.toInt8.toInt32).toInt := h65
            refine g_iconst C X0 (1 : Int32) d2_68 rfl rfl ?_
            refine g_goto C X0 d2_69 (by decide) rfl ?_
            exact g_ireturnN C X0 d2_73 rfl (Or.inl rfl) ⟨rfl, N0, e0⟩ (by decide) (by decide)
        · intro h46
          have h46 : 1 < (x3 - (1 : Int32)).toInt := h46
          refine g_sipush C X0 (128 : Int32) d2_49 rfl rfl ?_
          refine g_goto C X0 d2_52 (by decide) rfl ?_
          refine g_ior C X0 d2_56 rfl ?_
          refine g_istoreV C X0 d2_57 (fun v__ => #[.val (.ref a), .val (.int x1), .val (.int x2), .val (.int x3), .val (.int x4), .val (.int x5), .val (.int (1 : Int32)), .val (.int v__)]) rfl rfl ?_
          intro v57 h_v57
          refine g_aloadN C X0 d2_59 rfl rfl ?_
          refine g_iloadN C X0 d2_60 rfl rfl ?_
          refine g_baload C X0 d2_61 e0 A (by omega) (by omega) (v := (.int w)) hf rfl ?_
          refine g_iload C X0 d2_62 rfl rfl ?_
          refine g_i2b C X0 d2_64 rfl ?_
          refine g_icmp C X0 d2_65 (by decide) rfl rfl ?_ ?_
          · intro h65
            have h65 : ¬ w.toInt = (v57.toInt8.toInt32).toInt := h65
            exfalso
            have q1 := own_e ((x4.toUInt32 >>> (((7 : Int32) * (1 : Int32)) &&& 31).toUInt32).toInt32) (128 : Int32) (by decide) us0
            rw [show (128 : Int32).toInt = 128 by decide, us, ← h_v57] at q1
            have q2 := c_i2b v57
            have q3 := rng32 v57
            omega
          · intro h65
            have h65 : w.toInt = (v57.toInt8.toInt32).toInt := h65
            refine g_iconst C X0 (1 : Int32) d2_68 rfl rfl ?_
            refine g_goto C X0 d2_69 (by decide) rfl ?_
            exact g_ireturnN C X0 d2_73 rfl (Or.inl rfl) ⟨rfl, N0, e0⟩ (by decide) (by decide)
      · skip
        rw [show (2 : Int32).toInt = 2 by decide] at j3
        rw [show (x1.toInt - x2.toInt).toNat = 2 by omega] at g2
        simp only [Int.reducePow, Int.ediv_one] at g2
        have us := own_ush x4 ((7 : Int32) * (2 : Int32)) 14 (by decide) v0
        have us : ((x4.toUInt32 >>> (((7 : Int32) * (2 : Int32)) &&& 31).toUInt32).toInt32).toInt = x4.toInt / 16384 := us
        have us0 : 0 ≤ ((x4.toUInt32 >>> (((7 : Int32) * (2 : Int32)) &&& 31).toUInt32).toInt32).toInt := own_ushnn _ _ v0
        refine g_iload C X0 d2_30 rfl rfl ?_
        refine g_bipush C X0 (7 : Int32) d2_32 rfl rfl ?_
        refine g_iload C X0 d2_34 rfl rfl ?_
        refine g_imul C X0 d2_36 rfl ?_
        refine g_iushr C X0 d2_37 rfl ?_
        refine g_bipush C X0 (127 : Int32) d2_38 rfl rfl ?_
        refine g_iand C X0 d2_40 rfl ?_
        refine g_iload C X0 d2_41 rfl rfl ?_
        refine g_iloadN C X0 d2_43 rfl rfl ?_
        refine g_iconst C X0 (1 : Int32) d2_44 rfl rfl ?_
        refine g_isub C X0 d2_45 rfl ?_
        refine g_icmp C X0 d2_46 (by decide) rfl rfl ?_ ?_
        · intro h46
          have h46 : 2 ≥ (x3 - (1 : Int32)).toInt := h46
          refine g_iconst C X0 (0 : Int32) d2_55 rfl rfl ?_
          refine g_ior C X0 d2_56 rfl ?_
          refine g_istoreV C X0 d2_57 (fun v__ => #[.val (.ref a), .val (.int x1), .val (.int x2), .val (.int x3), .val (.int x4), .val (.int x5), .val (.int (2 : Int32)), .val (.int v__)]) rfl rfl ?_
          intro v57 h_v57
          refine g_aloadN C X0 d2_59 rfl rfl ?_
          refine g_iloadN C X0 d2_60 rfl rfl ?_
          refine g_baload C X0 d2_61 e0 A (by omega) (by omega) (v := (.int w)) hf rfl ?_
          refine g_iload C X0 d2_62 rfl rfl ?_
          refine g_i2b C X0 d2_64 rfl ?_
          refine g_icmp C X0 d2_65 (by decide) rfl rfl ?_ ?_
          · intro h65
            have h65 : ¬ w.toInt = (v57.toInt8.toInt32).toInt := h65
            exfalso
            have q1 := own_e ((x4.toUInt32 >>> (((7 : Int32) * (2 : Int32)) &&& 31).toUInt32).toInt32) (0 : Int32) (by decide) us0
            rw [show (0 : Int32).toInt = 0 by decide, us, ← h_v57] at q1
            have q2 := c_i2b v57
            have q3 := rng32 v57
            omega
          · intro h65
            have h65 : w.toInt = (v57.toInt8.toInt32).toInt := h65
            refine g_iconst C X0 (1 : Int32) d2_68 rfl rfl ?_
            refine g_goto C X0 d2_69 (by decide) rfl ?_
            exact g_ireturnN C X0 d2_73 rfl (Or.inl rfl) ⟨rfl, N0, e0⟩ (by decide) (by decide)
        · intro h46
          have h46 : 2 < (x3 - (1 : Int32)).toInt := h46
          refine g_sipush C X0 (128 : Int32) d2_49 rfl rfl ?_
          refine g_goto C X0 d2_52 (by decide) rfl ?_
          refine g_ior C X0 d2_56 rfl ?_
          refine g_istoreV C X0 d2_57 (fun v__ => #[.val (.ref a), .val (.int x1), .val (.int x2), .val (.int x3), .val (.int x4), .val (.int x5), .val (.int (2 : Int32)), .val (.int v__)]) rfl rfl ?_
          intro v57 h_v57
          refine g_aloadN C X0 d2_59 rfl rfl ?_
          refine g_iloadN C X0 d2_60 rfl rfl ?_
          refine g_baload C X0 d2_61 e0 A (by omega) (by omega) (v := (.int w)) hf rfl ?_
          refine g_iload C X0 d2_62 rfl rfl ?_
          refine g_i2b C X0 d2_64 rfl ?_
          refine g_icmp C X0 d2_65 (by decide) rfl rfl ?_ ?_
          · intro h65
            have h65 : ¬ w.toInt = (v57.toInt8.toInt32).toInt := h65
            exfalso
            have q1 := own_e ((x4.toUInt32 >>> (((7 : Int32) * (2 : Int32)) &&& 31).toUInt32).toInt32) (128 : Int32) (by decide) us0
            rw [show (128 : Int32).toInt = 128 by decide, us, ← h_v57] at q1
            have q2 := c_i2b v57
            have q3 := rng32 v57
            omega
          · intro h65
            have h65 : w.toInt = (v57.toInt8.toInt32).toInt := h65
            refine g_iconst C X0 (1 : Int32) d2_68 rfl rfl ?_
            refine g_goto C X0 d2_69 (by decide) rfl ?_
            exact g_ireturnN C X0 d2_73 rfl (Or.inl rfl) ⟨rfl, N0, e0⟩ (by decide) (by decide)
      · skip
        rw [show (3 : Int32).toInt = 3 by decide] at j3
        rw [show (x1.toInt - x2.toInt).toNat = 3 by omega] at g2
        simp only [Int.reducePow, Int.ediv_one] at g2
        have us := own_ush x4 ((7 : Int32) * (3 : Int32)) 21 (by decide) v0
        have us : ((x4.toUInt32 >>> (((7 : Int32) * (3 : Int32)) &&& 31).toUInt32).toInt32).toInt = x4.toInt / 2097152 := us
        have us0 : 0 ≤ ((x4.toUInt32 >>> (((7 : Int32) * (3 : Int32)) &&& 31).toUInt32).toInt32).toInt := own_ushnn _ _ v0
        refine g_iload C X0 d2_30 rfl rfl ?_
        refine g_bipush C X0 (7 : Int32) d2_32 rfl rfl ?_
        refine g_iload C X0 d2_34 rfl rfl ?_
        refine g_imul C X0 d2_36 rfl ?_
        refine g_iushr C X0 d2_37 rfl ?_
        refine g_bipush C X0 (127 : Int32) d2_38 rfl rfl ?_
        refine g_iand C X0 d2_40 rfl ?_
        refine g_iload C X0 d2_41 rfl rfl ?_
        refine g_iloadN C X0 d2_43 rfl rfl ?_
        refine g_iconst C X0 (1 : Int32) d2_44 rfl rfl ?_
        refine g_isub C X0 d2_45 rfl ?_
        refine g_icmp C X0 d2_46 (by decide) rfl rfl ?_ ?_
        · intro h46
          have h46 : 3 ≥ (x3 - (1 : Int32)).toInt := h46
          refine g_iconst C X0 (0 : Int32) d2_55 rfl rfl ?_
          refine g_ior C X0 d2_56 rfl ?_
          refine g_istoreV C X0 d2_57 (fun v__ => #[.val (.ref a), .val (.int x1), .val (.int x2), .val (.int x3), .val (.int x4), .val (.int x5), .val (.int (3 : Int32)), .val (.int v__)]) rfl rfl ?_
          intro v57 h_v57
          refine g_aloadN C X0 d2_59 rfl rfl ?_
          refine g_iloadN C X0 d2_60 rfl rfl ?_
          refine g_baload C X0 d2_61 e0 A (by omega) (by omega) (v := (.int w)) hf rfl ?_
          refine g_iload C X0 d2_62 rfl rfl ?_
          refine g_i2b C X0 d2_64 rfl ?_
          refine g_icmp C X0 d2_65 (by decide) rfl rfl ?_ ?_
          · intro h65
            have h65 : ¬ w.toInt = (v57.toInt8.toInt32).toInt := h65
            exfalso
            have q1 := own_e ((x4.toUInt32 >>> (((7 : Int32) * (3 : Int32)) &&& 31).toUInt32).toInt32) (0 : Int32) (by decide) us0
            rw [show (0 : Int32).toInt = 0 by decide, us, ← h_v57] at q1
            have q2 := c_i2b v57
            have q3 := rng32 v57
            omega
          · intro h65
            have h65 : w.toInt = (v57.toInt8.toInt32).toInt := h65
            refine g_iconst C X0 (1 : Int32) d2_68 rfl rfl ?_
            refine g_goto C X0 d2_69 (by decide) rfl ?_
            exact g_ireturnN C X0 d2_73 rfl (Or.inl rfl) ⟨rfl, N0, e0⟩ (by decide) (by decide)
        · intro h46
          have h46 : 3 < (x3 - (1 : Int32)).toInt := h46
          refine g_sipush C X0 (128 : Int32) d2_49 rfl rfl ?_
          refine g_goto C X0 d2_52 (by decide) rfl ?_
          refine g_ior C X0 d2_56 rfl ?_
          refine g_istoreV C X0 d2_57 (fun v__ => #[.val (.ref a), .val (.int x1), .val (.int x2), .val (.int x3), .val (.int x4), .val (.int x5), .val (.int (3 : Int32)), .val (.int v__)]) rfl rfl ?_
          intro v57 h_v57
          refine g_aloadN C X0 d2_59 rfl rfl ?_
          refine g_iloadN C X0 d2_60 rfl rfl ?_
          refine g_baload C X0 d2_61 e0 A (by omega) (by omega) (v := (.int w)) hf rfl ?_
          refine g_iload C X0 d2_62 rfl rfl ?_
          refine g_i2b C X0 d2_64 rfl ?_
          refine g_icmp C X0 d2_65 (by decide) rfl rfl ?_ ?_
          · intro h65
            have h65 : ¬ w.toInt = (v57.toInt8.toInt32).toInt := h65
            exfalso
            have q1 := own_e ((x4.toUInt32 >>> (((7 : Int32) * (3 : Int32)) &&& 31).toUInt32).toInt32) (128 : Int32) (by decide) us0
            rw [show (128 : Int32).toInt = 128 by decide, us, ← h_v57] at q1
            have q2 := c_i2b v57
            have q3 := rng32 v57
            omega
          · intro h65
            have h65 : w.toInt = (v57.toInt8.toInt32).toInt := h65
            refine g_iconst C X0 (1 : Int32) d2_68 rfl rfl ?_
            refine g_goto C X0 d2_69 (by decide) rfl ?_
            exact g_ireturnN C X0 d2_73 rfl (Or.inl rfl) ⟨rfl, N0, e0⟩ (by decide) (by decide)
      · skip
        rw [show (4 : Int32).toInt = 4 by decide] at j3
        rw [show (x1.toInt - x2.toInt).toNat = 4 by omega] at g2
        simp only [Int.reducePow, Int.ediv_one] at g2
        have us := own_ush x4 ((7 : Int32) * (4 : Int32)) 28 (by decide) v0
        have us : ((x4.toUInt32 >>> (((7 : Int32) * (4 : Int32)) &&& 31).toUInt32).toInt32).toInt = x4.toInt / 268435456 := us
        have us0 : 0 ≤ ((x4.toUInt32 >>> (((7 : Int32) * (4 : Int32)) &&& 31).toUInt32).toInt32).toInt := own_ushnn _ _ v0
        refine g_iload C X0 d2_30 rfl rfl ?_
        refine g_bipush C X0 (7 : Int32) d2_32 rfl rfl ?_
        refine g_iload C X0 d2_34 rfl rfl ?_
        refine g_imul C X0 d2_36 rfl ?_
        refine g_iushr C X0 d2_37 rfl ?_
        refine g_bipush C X0 (127 : Int32) d2_38 rfl rfl ?_
        refine g_iand C X0 d2_40 rfl ?_
        refine g_iload C X0 d2_41 rfl rfl ?_
        refine g_iloadN C X0 d2_43 rfl rfl ?_
        refine g_iconst C X0 (1 : Int32) d2_44 rfl rfl ?_
        refine g_isub C X0 d2_45 rfl ?_
        refine g_icmp C X0 d2_46 (by decide) rfl rfl ?_ ?_
        · intro h46
          have h46 : 4 ≥ (x3 - (1 : Int32)).toInt := h46
          refine g_iconst C X0 (0 : Int32) d2_55 rfl rfl ?_
          refine g_ior C X0 d2_56 rfl ?_
          refine g_istoreV C X0 d2_57 (fun v__ => #[.val (.ref a), .val (.int x1), .val (.int x2), .val (.int x3), .val (.int x4), .val (.int x5), .val (.int (4 : Int32)), .val (.int v__)]) rfl rfl ?_
          intro v57 h_v57
          refine g_aloadN C X0 d2_59 rfl rfl ?_
          refine g_iloadN C X0 d2_60 rfl rfl ?_
          refine g_baload C X0 d2_61 e0 A (by omega) (by omega) (v := (.int w)) hf rfl ?_
          refine g_iload C X0 d2_62 rfl rfl ?_
          refine g_i2b C X0 d2_64 rfl ?_
          refine g_icmp C X0 d2_65 (by decide) rfl rfl ?_ ?_
          · intro h65
            have h65 : ¬ w.toInt = (v57.toInt8.toInt32).toInt := h65
            exfalso
            have q1 := own_e ((x4.toUInt32 >>> (((7 : Int32) * (4 : Int32)) &&& 31).toUInt32).toInt32) (0 : Int32) (by decide) us0
            rw [show (0 : Int32).toInt = 0 by decide, us, ← h_v57] at q1
            have q2 := c_i2b v57
            have q3 := rng32 v57
            omega
          · intro h65
            have h65 : w.toInt = (v57.toInt8.toInt32).toInt := h65
            refine g_iconst C X0 (1 : Int32) d2_68 rfl rfl ?_
            refine g_goto C X0 d2_69 (by decide) rfl ?_
            exact g_ireturnN C X0 d2_73 rfl (Or.inl rfl) ⟨rfl, N0, e0⟩ (by decide) (by decide)
        · intro h46
          have h46 : 4 < (x3 - (1 : Int32)).toInt := h46
          refine g_sipush C X0 (128 : Int32) d2_49 rfl rfl ?_
          refine g_goto C X0 d2_52 (by decide) rfl ?_
          refine g_ior C X0 d2_56 rfl ?_
          refine g_istoreV C X0 d2_57 (fun v__ => #[.val (.ref a), .val (.int x1), .val (.int x2), .val (.int x3), .val (.int x4), .val (.int x5), .val (.int (4 : Int32)), .val (.int v__)]) rfl rfl ?_
          intro v57 h_v57
          refine g_aloadN C X0 d2_59 rfl rfl ?_
          refine g_iloadN C X0 d2_60 rfl rfl ?_
          refine g_baload C X0 d2_61 e0 A (by omega) (by omega) (v := (.int w)) hf rfl ?_
          refine g_iload C X0 d2_62 rfl rfl ?_
          refine g_i2b C X0 d2_64 rfl ?_
          refine g_icmp C X0 d2_65 (by decide) rfl rfl ?_ ?_
          · intro h65
            have h65 : ¬ w.toInt = (v57.toInt8.toInt32).toInt := h65
            exfalso
            have q1 := own_e ((x4.toUInt32 >>> (((7 : Int32) * (4 : Int32)) &&& 31).toUInt32).toInt32) (128 : Int32) (by decide) us0
            rw [show (128 : Int32).toInt = 128 by decide, us, ← h_v57] at q1
            have q2 := c_i2b v57
            have q3 := rng32 v57
            omega
          · intro h65
            have h65 : w.toInt = (v57.toInt8.toInt32).toInt := h65
            refine g_iconst C X0 (1 : Int32) d2_68 rfl rfl ?_
            refine g_goto C X0 d2_69 (by decide) rfl ?_
            exact g_ireturnN C X0 d2_73 rfl (Or.inl rfl) ⟨rfl, N0, e0⟩ (by decide) (by decide)
    · intro h13
      have h13 : v3.toInt ≥ x3.toInt := h13
      refine g_aloadN C X0 d2_16 rfl rfl ?_
      refine g_iloadN C X0 d2_17 rfl rfl ?_
      refine g_baload C X0 d2_18 e0 A (by omega) (by omega) (v := (.int w)) hf rfl ?_
      refine g_iload C X0 d2_19 rfl rfl ?_
      refine g_icmp C X0 d2_21 (by decide) rfl rfl ?_ ?_
      · intro h21
        have h21 : ¬ w.toInt = x5.toInt := h21
        exact absurd (congrArg Int32.toInt (hg.1 (by omega))) h21
      · intro h21
        have h21 : w.toInt = x5.toInt := h21
        refine g_iconst C X0 (1 : Int32) d2_24 rfl rfl ?_
        refine g_goto C X0 d2_25 (by decide) rfl ?_
        exact g_ireturnN C X0 d2_29 rfl (Or.inl rfl) ⟨rfl, N0, e0⟩ (by decide) (by decide)
theorem own_all (vv at_ fi : Int32) (k : Nat) (v0 : 0 ≤ vv.toInt) (a1 : 0 ≤ at_.toInt) : ∃ w : Int32, (fun i : Nat => if at_.toInt ≤ i ∧ (i : Int) < at_.toInt + own_len 4 vv.toInt then Value.int (Int32.ofInt (own_b vv.toInt (own_len 4 vv.toInt) (i - at_.toInt.toNat))) else Value.int fi) k = .int w ∧ own_good w k at_.toInt (own_len 4 vv.toInt) vv.toInt fi := by
  have rv := rng32 vv
  by_cases q : at_.toInt ≤ k ∧ (k : Int) < at_.toInt + own_len 4 vv.toInt
  · refine ⟨_, if_pos q, fun z => by omega, fun _ _ => ?_⟩
    have e : ((k : Int) - at_.toInt).toNat = k - at_.toInt.toNat := by omega
    rw [e]
    have hb := own_bytes vv.toInt (k - at_.toInt.toNat) v0 (by omega) (by omega)
    rcases hb with ⟨h1, h2⟩ | ⟨h1, h2, h3, h4⟩
    · left; refine ⟨by omega, ?_⟩
      rw [h2, own_of (by omega) (by omega)]
    · right; refine ⟨by omega, ?_, h3, h4⟩
      rw [h2, own_of (by omega) (by omega)]
  · exact ⟨fi, if_neg q, fun _ => rfl, fun z1 z2 => absurd ⟨z1, z2⟩ q⟩
set_option maxRecDepth 65536 in
set_option maxHeartbeats 40000000 in
theorem seg145 {p : Program} {l : Launch} {e : Env} {s : State} {m : MethodId} {args : Array Value} {below : List Frame} {meth : Method} {c : Code} {T0 : State} {locs : List Loc} {Z : State} {a0 : Array Value} {h0 : Heap} {n0 : Nat} {x0 x1 x2 x3 vv at_ fi rs nb : Int32} {b : Addr}
    (C : Cx Z a0 p s m meth c code maxLocals "com/example/overscore/overscore/index/VarIntPutPinLaw" "law" ret) (X0 : Stand p l e room_1 s m args below meth c T0 locs 1 9) (e0 : T0.heap = h0) (N0 : Fr n0 locs) (Z0 : n0 ≤ h0.size) (A : Aw Z h0 b .byte 9 (fun i : Nat => if at_.toInt ≤ i ∧ (i : Int) < at_.toInt + own_len 4 vv.toInt then Value.int (Int32.ofInt (own_b vv.toInt (own_len 4 vv.toInt) (i - at_.toInt.toNat))) else Value.int fi)) (v0 : 0 ≤ vv.toInt) (a1 : 0 ≤ at_.toInt) (a2 : at_.toInt ≤ 4) (hn : nb.toInt = own_len 4 vv.toInt) (hr : rs.toInt = at_.toInt + own_len 4 vv.toInt) :
    Go p e below s m (LQ n0) room_1.cells room_1.slots T0 145 #[.val (.int x0), .val (.int x1), .val (.int x2), .val (.int x3), .val (.int vv), .val (.int at_), .val (.int fi), .val (.ref b), .val (.int rs), .val (.int nb)] [] := by
  have hL : 1 ≤ nb.toInt ∧ nb.toInt ≤ 5 := by
    rw [hn, own_len4]
    split
    · omega
    · split
      · omega
      · split
        · omega
        · split <;> omega
  have q1 := c_iadd at_ nb
  have q2 := rng32 (at_ + nb)
  refine g_iload C X0 at_145 rfl rfl ?_
  refine g_iload C X0 at_147 rfl rfl ?_
  refine g_iload C X0 at_149 rfl rfl ?_
  refine g_iadd C X0 at_151 rfl ?_
  refine g_icmp C X0 at_152 (by decide) rfl rfl ?_ ?_
  · intro h152
    have h152 : rs.toInt = (at_ + nb).toInt := h152
    refine g_aload C X0 at_157 rfl rfl ?_
    refine g_iconst C X0 (0 : Int32) at_159 rfl rfl ?_
    refine g_iload C X0 at_160 rfl rfl ?_
    refine g_iload C X0 at_162 rfl rfl ?_
    refine g_iload C X0 at_164 rfl rfl ?_
    refine g_iload C X0 at_166 rfl rfl ?_
    obtain ⟨w0, hw0, hg0⟩ := own_all vv at_ fi 0 v0 a1
    rw [← hn] at hg0
    refine g_callS (argsL := [(.ref b), (.int (0 : Int32)), (.int at_), (.int nb), (.int vv), (.int fi)]) (rest := []) (W := 0) C X0 at_168 e0 (C.t 6 rfl) (C.t 7 rfl) (C.t 8 rfl) (C.t 9 rfl) (rm2 l Z a0 C.w [] b (0 : Int32) at_ nb vv fi 9 _ w0 h0 n0 Z0 A (by decide) (by decide) hw0 a1 a2 hL.1 hL.2 v0 (by decide) hg0) (by decide) pd_2 rfl rfl rfl (Nat.le_of_eq rfl) (by decide) (by decide) (by decide) (by decide) rfl ?_
    intro T1 v1_ L1 X1 hQ1
    obtain ⟨rfl, N1q, hh1⟩ := hQ1
    have N1 := Fr.app N0 N1q
    refine g_if C X1 at_171 (by decide) rfl rfl ?_ ?_
    · intro h171
      have h171 : (1 : Int) = 0 := h171
      exact absurd h171 (by decide)
    · intro h171
      have h171 : ¬ (1 : Int) = 0 := h171
      refine g_aload C X1 at_174 rfl rfl ?_
      refine g_iconst C X1 (1 : Int32) at_176 rfl rfl ?_
      refine g_iload C X1 at_177 rfl rfl ?_
      refine g_iload C X1 at_179 rfl rfl ?_
      refine g_iload C X1 at_181 rfl rfl ?_
      refine g_iload C X1 at_183 rfl rfl ?_
      obtain ⟨w1, hw1, hg1⟩ := own_all vv at_ fi 1 v0 a1
      rw [← hn] at hg1
      refine g_callS (argsL := [(.ref b), (.int (1 : Int32)), (.int at_), (.int nb), (.int vv), (.int fi)]) (rest := []) (W := 0) C X1 at_185 hh1 (C.t 6 rfl) (C.t 7 rfl) (C.t 8 rfl) (C.t 9 rfl) (rm2 l Z a0 C.w [] b (1 : Int32) at_ nb vv fi 9 _ w1 h0 n0 Z0 A (by decide) (by decide) hw1 a1 a2 hL.1 hL.2 v0 (by decide) hg1) (by decide) pd_2 rfl rfl rfl (Nat.le_of_eq rfl) (by decide) (by decide) (by decide) (by decide) rfl ?_
      intro T2 v2_ L2 X2 hQ2
      obtain ⟨rfl, N2q, hh2⟩ := hQ2
      have N2 := Fr.app N1 N2q
      refine g_if C X2 at_188 (by decide) rfl rfl ?_ ?_
      · intro h188
        have h188 : (1 : Int) = 0 := h188
        exact absurd h188 (by decide)
      · intro h188
        have h188 : ¬ (1 : Int) = 0 := h188
        refine g_aload C X2 at_191 rfl rfl ?_
        refine g_iconst C X2 (2 : Int32) at_193 rfl rfl ?_
        refine g_iload C X2 at_194 rfl rfl ?_
        refine g_iload C X2 at_196 rfl rfl ?_
        refine g_iload C X2 at_198 rfl rfl ?_
        refine g_iload C X2 at_200 rfl rfl ?_
        obtain ⟨w2, hw2, hg2⟩ := own_all vv at_ fi 2 v0 a1
        rw [← hn] at hg2
        refine g_callS (argsL := [(.ref b), (.int (2 : Int32)), (.int at_), (.int nb), (.int vv), (.int fi)]) (rest := []) (W := 0) C X2 at_202 hh2 (C.t 6 rfl) (C.t 7 rfl) (C.t 8 rfl) (C.t 9 rfl) (rm2 l Z a0 C.w [] b (2 : Int32) at_ nb vv fi 9 _ w2 h0 n0 Z0 A (by decide) (by decide) hw2 a1 a2 hL.1 hL.2 v0 (by decide) hg2) (by decide) pd_2 rfl rfl rfl (Nat.le_of_eq rfl) (by decide) (by decide) (by decide) (by decide) rfl ?_
        intro T3 v3_ L3 X3 hQ3
        obtain ⟨rfl, N3q, hh3⟩ := hQ3
        have N3 := Fr.app N2 N3q
        refine g_if C X3 at_205 (by decide) rfl rfl ?_ ?_
        · intro h205
          have h205 : (1 : Int) = 0 := h205
          exact absurd h205 (by decide)
        · intro h205
          have h205 : ¬ (1 : Int) = 0 := h205
          refine g_aload C X3 at_208 rfl rfl ?_
          refine g_iconst C X3 (3 : Int32) at_210 rfl rfl ?_
          refine g_iload C X3 at_211 rfl rfl ?_
          refine g_iload C X3 at_213 rfl rfl ?_
          refine g_iload C X3 at_215 rfl rfl ?_
          refine g_iload C X3 at_217 rfl rfl ?_
          obtain ⟨w3, hw3, hg3⟩ := own_all vv at_ fi 3 v0 a1
          rw [← hn] at hg3
          refine g_callS (argsL := [(.ref b), (.int (3 : Int32)), (.int at_), (.int nb), (.int vv), (.int fi)]) (rest := []) (W := 0) C X3 at_219 hh3 (C.t 6 rfl) (C.t 7 rfl) (C.t 8 rfl) (C.t 9 rfl) (rm2 l Z a0 C.w [] b (3 : Int32) at_ nb vv fi 9 _ w3 h0 n0 Z0 A (by decide) (by decide) hw3 a1 a2 hL.1 hL.2 v0 (by decide) hg3) (by decide) pd_2 rfl rfl rfl (Nat.le_of_eq rfl) (by decide) (by decide) (by decide) (by decide) rfl ?_
          intro T4 v4_ L4 X4 hQ4
          obtain ⟨rfl, N4q, hh4⟩ := hQ4
          have N4 := Fr.app N3 N4q
          refine g_if C X4 at_222 (by decide) rfl rfl ?_ ?_
          · intro h222
            have h222 : (1 : Int) = 0 := h222
            exact absurd h222 (by decide)
          · intro h222
            have h222 : ¬ (1 : Int) = 0 := h222
            refine g_aload C X4 at_225 rfl rfl ?_
            refine g_iconst C X4 (4 : Int32) at_227 rfl rfl ?_
            refine g_iload C X4 at_228 rfl rfl ?_
            refine g_iload C X4 at_230 rfl rfl ?_
            refine g_iload C X4 at_232 rfl rfl ?_
            refine g_iload C X4 at_234 rfl rfl ?_
            obtain ⟨w4, hw4, hg4⟩ := own_all vv at_ fi 4 v0 a1
            rw [← hn] at hg4
            refine g_callS (argsL := [(.ref b), (.int (4 : Int32)), (.int at_), (.int nb), (.int vv), (.int fi)]) (rest := []) (W := 0) C X4 at_236 hh4 (C.t 6 rfl) (C.t 7 rfl) (C.t 8 rfl) (C.t 9 rfl) (rm2 l Z a0 C.w [] b (4 : Int32) at_ nb vv fi 9 _ w4 h0 n0 Z0 A (by decide) (by decide) hw4 a1 a2 hL.1 hL.2 v0 (by decide) hg4) (by decide) pd_2 rfl rfl rfl (Nat.le_of_eq rfl) (by decide) (by decide) (by decide) (by decide) rfl ?_
            intro T5 v5_ L5 X5 hQ5
            obtain ⟨rfl, N5q, hh5⟩ := hQ5
            have N5 := Fr.app N4 N5q
            refine g_if C X5 at_239 (by decide) rfl rfl ?_ ?_
            · intro h239
              have h239 : (1 : Int) = 0 := h239
              exact absurd h239 (by decide)
            · intro h239
              have h239 : ¬ (1 : Int) = 0 := h239
              refine g_aload C X5 at_242 rfl rfl ?_
              refine g_iconst C X5 (5 : Int32) at_244 rfl rfl ?_
              refine g_iload C X5 at_245 rfl rfl ?_
              refine g_iload C X5 at_247 rfl rfl ?_
              refine g_iload C X5 at_249 rfl rfl ?_
              refine g_iload C X5 at_251 rfl rfl ?_
              obtain ⟨w5, hw5, hg5⟩ := own_all vv at_ fi 5 v0 a1
              rw [← hn] at hg5
              refine g_callS (argsL := [(.ref b), (.int (5 : Int32)), (.int at_), (.int nb), (.int vv), (.int fi)]) (rest := []) (W := 0) C X5 at_253 hh5 (C.t 6 rfl) (C.t 7 rfl) (C.t 8 rfl) (C.t 9 rfl) (rm2 l Z a0 C.w [] b (5 : Int32) at_ nb vv fi 9 _ w5 h0 n0 Z0 A (by decide) (by decide) hw5 a1 a2 hL.1 hL.2 v0 (by decide) hg5) (by decide) pd_2 rfl rfl rfl (Nat.le_of_eq rfl) (by decide) (by decide) (by decide) (by decide) rfl ?_
              intro T6 v6_ L6 X6 hQ6
              obtain ⟨rfl, N6q, hh6⟩ := hQ6
              have N6 := Fr.app N5 N6q
              refine g_if C X6 at_256 (by decide) rfl rfl ?_ ?_
              · intro h256
                have h256 : (1 : Int) = 0 := h256
                exact absurd h256 (by decide)
              · intro h256
                have h256 : ¬ (1 : Int) = 0 := h256
                refine g_aload C X6 at_259 rfl rfl ?_
                refine g_bipush C X6 (6 : Int32) at_261 rfl rfl ?_
                refine g_iload C X6 at_263 rfl rfl ?_
                refine g_iload C X6 at_265 rfl rfl ?_
                refine g_iload C X6 at_267 rfl rfl ?_
                refine g_iload C X6 at_269 rfl rfl ?_
                obtain ⟨w6, hw6, hg6⟩ := own_all vv at_ fi 6 v0 a1
                rw [← hn] at hg6
                refine g_callS (argsL := [(.ref b), (.int (6 : Int32)), (.int at_), (.int nb), (.int vv), (.int fi)]) (rest := []) (W := 0) C X6 at_271 hh6 (C.t 6 rfl) (C.t 7 rfl) (C.t 8 rfl) (C.t 9 rfl) (rm2 l Z a0 C.w [] b (6 : Int32) at_ nb vv fi 9 _ w6 h0 n0 Z0 A (by decide) (by decide) hw6 a1 a2 hL.1 hL.2 v0 (by decide) hg6) (by decide) pd_2 rfl rfl rfl (Nat.le_of_eq rfl) (by decide) (by decide) (by decide) (by decide) rfl ?_
                intro T7 v7_ L7 X7 hQ7
                obtain ⟨rfl, N7q, hh7⟩ := hQ7
                have N7 := Fr.app N6 N7q
                refine g_if C X7 at_274 (by decide) rfl rfl ?_ ?_
                · intro h274
                  have h274 : (1 : Int) = 0 := h274
                  exact absurd h274 (by decide)
                · intro h274
                  have h274 : ¬ (1 : Int) = 0 := h274
                  refine g_aload C X7 at_277 rfl rfl ?_
                  refine g_bipush C X7 (7 : Int32) at_279 rfl rfl ?_
                  refine g_iload C X7 at_281 rfl rfl ?_
                  refine g_iload C X7 at_283 rfl rfl ?_
                  refine g_iload C X7 at_285 rfl rfl ?_
                  refine g_iload C X7 at_287 rfl rfl ?_
                  obtain ⟨w7, hw7, hg7⟩ := own_all vv at_ fi 7 v0 a1
                  rw [← hn] at hg7
                  refine g_callS (argsL := [(.ref b), (.int (7 : Int32)), (.int at_), (.int nb), (.int vv), (.int fi)]) (rest := []) (W := 0) C X7 at_289 hh7 (C.t 6 rfl) (C.t 7 rfl) (C.t 8 rfl) (C.t 9 rfl) (rm2 l Z a0 C.w [] b (7 : Int32) at_ nb vv fi 9 _ w7 h0 n0 Z0 A (by decide) (by decide) hw7 a1 a2 hL.1 hL.2 v0 (by decide) hg7) (by decide) pd_2 rfl rfl rfl (Nat.le_of_eq rfl) (by decide) (by decide) (by decide) (by decide) rfl ?_
                  intro T8 v8_ L8 X8 hQ8
                  obtain ⟨rfl, N8q, hh8⟩ := hQ8
                  have N8 := Fr.app N7 N8q
                  refine g_if C X8 at_292 (by decide) rfl rfl ?_ ?_
                  · intro h292
                    have h292 : (1 : Int) = 0 := h292
                    exact absurd h292 (by decide)
                  · intro h292
                    have h292 : ¬ (1 : Int) = 0 := h292
                    refine g_aload C X8 at_295 rfl rfl ?_
                    refine g_bipush C X8 (8 : Int32) at_297 rfl rfl ?_
                    refine g_iload C X8 at_299 rfl rfl ?_
                    refine g_iload C X8 at_301 rfl rfl ?_
                    refine g_iload C X8 at_303 rfl rfl ?_
                    refine g_iload C X8 at_305 rfl rfl ?_
                    obtain ⟨w8, hw8, hg8⟩ := own_all vv at_ fi 8 v0 a1
                    rw [← hn] at hg8
                    refine g_callS (argsL := [(.ref b), (.int (8 : Int32)), (.int at_), (.int nb), (.int vv), (.int fi)]) (rest := []) (W := 0) C X8 at_307 hh8 (C.t 6 rfl) (C.t 7 rfl) (C.t 8 rfl) (C.t 9 rfl) (rm2 l Z a0 C.w [] b (8 : Int32) at_ nb vv fi 9 _ w8 h0 n0 Z0 A (by decide) (by decide) hw8 a1 a2 hL.1 hL.2 v0 (by decide) hg8) (by decide) pd_2 rfl rfl rfl (Nat.le_of_eq rfl) (by decide) (by decide) (by decide) (by decide) rfl ?_
                    intro T9 v9_ L9 X9 hQ9
                    obtain ⟨rfl, N9q, hh9⟩ := hQ9
                    have N9 := Fr.app N8 N9q
                    refine g_if C X9 at_310 (by decide) rfl rfl ?_ ?_
                    · intro h310
                      have h310 : (1 : Int) = 0 := h310
                      exact absurd h310 (by decide)
                    · intro h310
                      have h310 : ¬ (1 : Int) = 0 := h310
                      refine g_iconst C X9 (1 : Int32) at_313 rfl rfl ?_
                      refine g_goto C X9 at_314 (by decide) rfl ?_
                      exact g_ireturnN C X9 at_318 rfl (Or.inl rfl) ⟨rfl, N9⟩ (by decide) (by decide)
  · intro h152
    have h152 : ¬ rs.toInt = (at_ + nb).toInt := h152
    exfalso; omega
set_option maxRecDepth 65536 in
set_option maxHeartbeats 40000000 in
theorem rm0 (l : Launch) (Z : State) (a0 : Array Value) (hw : ∀ d ∈ tables_1, d.before a0 Z = true) (ws : List Jvm.Cond) (x0 : Int32) (x1 : Int32) (x2 : Int32) (x3 : Int32) (h0 : Heap) (n0 : Nat) (Z0 : n0 ≤ h0.size) :
    MetFree l x (head1 (Jvm.Cond.code x code maxLocals ret :: ws) room_1) (fun aa U => aa = #[(.int x0), (.int x1), (.int x2), (.int x3)] ∧ Z.Warmed39 U.vm ∧ U.heap = h0) (fun _ _ _ _ _ => True) (fun _ U oo U' => ∃ rv Lr, oo = .returned rv ∧ LQ n0 rv U'.heap Lr ∧ FrameEnd U oo U' Lr room_1.cells room_1.slots) := by
  refine g_enter pn_0 hw (ef_0 x0 x1 x2 x3) ?_
  intro p e s m below meth c T0 C X0 e0
  have C : Cx Z a0 p s m meth c code maxLocals "com/example/overscore/overscore/index/VarIntPutPinLaw" "law" ret := C
  have N0 := Fr.nil n0
  refine g_iloadN C X0 at_0 rfl rfl ?_
  refine g_ldc C X0 at_1 (C.t 0 rfl) rfl ?_
  refine g_iand C X0 at_3 rfl ?_
  refine g_iloadN C X0 at_4 rfl rfl ?_
  refine g_bipush C X0 (31 : Int32) at_5 rfl rfl ?_
  refine g_iand C X0 at_7 rfl ?_
  refine g_iushr C X0 at_8 rfl ?_
  refine g_istoreV C X0 at_9 (fun v__ => #[.val (.int x0), .val (.int x1), .val (.int x2), .val (.int x3), .val (.int v__), .unset, .unset, .unset, .unset, .unset]) rfl rfl ?_
  intro v9 h_v9
  have cm0 := c_mask x0 (2147483647 : Int32) 31 (by decide) (by decide)
  have v0 : 0 ≤ v9.toInt := by rw [h_v9]; exact own_ushnn _ _ (by rw [cm0]; omega)
  refine g_iloadN C X0 at_11 rfl rfl ?_
  refine g_ldc C X0 at_12 (C.t 0 rfl) rfl ?_
  refine g_iand C X0 at_14 rfl ?_
  refine g_iconst C X0 (5 : Int32) at_15 rfl rfl ?_
  refine g_irem C X0 at_16 (by decide) rfl ?_
  refine g_istoreV C X0 at_17 (fun v__ => #[.val (.int x0), .val (.int x1), .val (.int x2), .val (.int x3), .val (.int v9), .val (.int v__), .unset, .unset, .unset, .unset]) rfl rfl ?_
  intro v17 h_v17
  have cm1 := c_mask x1 (2147483647 : Int32) 31 (by decide) (by decide)
  have cr := (c_iremV (x1 &&& (2147483647 : Int32)) (5 : Int32)).1 (by omega) (by decide)
  rw [← h_v17, show (5 : Int32).toInt = 5 by decide] at cr
  refine g_iloadN C X0 at_19 rfl rfl ?_
  refine g_i2b C X0 at_20 rfl ?_
  refine g_istoreV C X0 at_21 (fun v__ => #[.val (.int x0), .val (.int x1), .val (.int x2), .val (.int x3), .val (.int v9), .val (.int v17), .val (.int v__), .unset, .unset, .unset]) rfl rfl ?_
  intro v21 h_v21
  have hnar : nar .byte v21 = v21 := by
    rw [h_v21]
    apply own_inj32
    have q1 := c_i2b x2
    have q2 := c_i2b (x2.toInt8.toInt32)
    show (x2.toInt8.toInt32.toInt8.toInt32).toInt = _
    omega
  refine g_bipush C X0 (9 : Int32) at_23 rfl rfl ?_
  refine g_newarray (cap := 9) C X0 at_25 e0 (C.t 1 rfl) (by decide) (by decide) (by decide) (by decide) (by decide) rfl ?_
  intro T1 h1_ X1 e1 E1 lt1 ad1 ha1 A1
  have Z1 : n0 ≤ h1_.size := Nat.le_trans Z0 E1.1
  have g_ad1 : n0 ≤ ad1 := by omega
  refine g_dup C X1 at_27 rfl rfl ?_
  refine g_iconst C X1 (0 : Int32) at_28 rfl rfl ?_
  refine g_iload C X1 at_29 rfl rfl ?_
  refine g_bastore C X1 at_31 e1 A1 (by decide) (by decide) rfl ?_
  intro T2 h2_ X2 e2 W2 A2
  have N2 := Fr.snoc X2 N0 g_ad1
  have Z2 : n0 ≤ h2_.size := Nat.le_trans Z1 (Keep.of_wr W2).1
  refine g_dup C X2 at_32 rfl rfl ?_
  refine g_iconst C X2 (1 : Int32) at_33 rfl rfl ?_
  refine g_iload C X2 at_34 rfl rfl ?_
  refine g_bastore C X2 at_36 e2 A2 (by decide) (by decide) rfl ?_
  intro T3 h3_ X3 e3 W3 A3
  have N3 := Fr.snoc X3 N2 g_ad1
  have Z3 : n0 ≤ h3_.size := Nat.le_trans Z2 (Keep.of_wr W3).1
  refine g_dup C X3 at_37 rfl rfl ?_
  refine g_iconst C X3 (2 : Int32) at_38 rfl rfl ?_
  refine g_iload C X3 at_39 rfl rfl ?_
  refine g_bastore C X3 at_41 e3 A3 (by decide) (by decide) rfl ?_
  intro T4 h4_ X4 e4 W4 A4
  have N4 := Fr.snoc X4 N3 g_ad1
  have Z4 : n0 ≤ h4_.size := Nat.le_trans Z3 (Keep.of_wr W4).1
  refine g_dup C X4 at_42 rfl rfl ?_
  refine g_iconst C X4 (3 : Int32) at_43 rfl rfl ?_
  refine g_iload C X4 at_44 rfl rfl ?_
  refine g_bastore C X4 at_46 e4 A4 (by decide) (by decide) rfl ?_
  intro T5 h5_ X5 e5 W5 A5
  have N5 := Fr.snoc X5 N4 g_ad1
  have Z5 : n0 ≤ h5_.size := Nat.le_trans Z4 (Keep.of_wr W5).1
  refine g_dup C X5 at_47 rfl rfl ?_
  refine g_iconst C X5 (4 : Int32) at_48 rfl rfl ?_
  refine g_iload C X5 at_49 rfl rfl ?_
  refine g_bastore C X5 at_51 e5 A5 (by decide) (by decide) rfl ?_
  intro T6 h6_ X6 e6 W6 A6
  have N6 := Fr.snoc X6 N5 g_ad1
  have Z6 : n0 ≤ h6_.size := Nat.le_trans Z5 (Keep.of_wr W6).1
  refine g_dup C X6 at_52 rfl rfl ?_
  refine g_iconst C X6 (5 : Int32) at_53 rfl rfl ?_
  refine g_iload C X6 at_54 rfl rfl ?_
  refine g_bastore C X6 at_56 e6 A6 (by decide) (by decide) rfl ?_
  intro T7 h7_ X7 e7 W7 A7
  have N7 := Fr.snoc X7 N6 g_ad1
  have Z7 : n0 ≤ h7_.size := Nat.le_trans Z6 (Keep.of_wr W7).1
  refine g_dup C X7 at_57 rfl rfl ?_
  refine g_bipush C X7 (6 : Int32) at_58 rfl rfl ?_
  refine g_iload C X7 at_60 rfl rfl ?_
  refine g_bastore C X7 at_62 e7 A7 (by decide) (by decide) rfl ?_
  intro T8 h8_ X8 e8 W8 A8
  have N8 := Fr.snoc X8 N7 g_ad1
  have Z8 : n0 ≤ h8_.size := Nat.le_trans Z7 (Keep.of_wr W8).1
  refine g_dup C X8 at_63 rfl rfl ?_
  refine g_bipush C X8 (7 : Int32) at_64 rfl rfl ?_
  refine g_iload C X8 at_66 rfl rfl ?_
  refine g_bastore C X8 at_68 e8 A8 (by decide) (by decide) rfl ?_
  intro T9 h9_ X9 e9 W9 A9
  have N9 := Fr.snoc X9 N8 g_ad1
  have Z9 : n0 ≤ h9_.size := Nat.le_trans Z8 (Keep.of_wr W9).1
  refine g_dup C X9 at_69 rfl rfl ?_
  refine g_bipush C X9 (8 : Int32) at_70 rfl rfl ?_
  refine g_iload C X9 at_72 rfl rfl ?_
  refine g_bastore C X9 at_74 e9 A9 (by decide) (by decide) rfl ?_
  intro T10 h10_ X10 e10 W10 A10
  have N10 := Fr.snoc X10 N9 g_ad1
  have Z10 : n0 ≤ h10_.size := Nat.le_trans Z9 (Keep.of_wr W10).1
  refine g_astore C X10 at_75 #[.val (.int x0), .val (.int x1), .val (.int x2), .val (.int x3), .val (.int v9), .val (.int v17), .val (.int v21), .val (.ref ad1), .unset, .unset] rfl rfl ?_
  refine g_aload C X10 at_77 rfl rfl ?_
  refine g_iload C X10 at_79 rfl rfl ?_
  refine g_iload C X10 at_81 rfl rfl ?_
  have Aq : Aw Z h10_ ad1 .byte 9 (fun _ => .int v21) := Aw.of A10 (by
    intro j hj
    have hj : j < 9 := hj
    have hj : j = 0 ∨ j = 1 ∨ j = 2 ∨ j = 3 ∨ j = 4 ∨ j = 5 ∨ j = 6 ∨ j = 7 ∨ j = 8 := by omega
    rcases hj with rfl | rfl | rfl | rfl | rfl | rfl | rfl | rfl | rfl <;> exact congrArg Value.int hnar)
  refine g_callS (argsL := [(.ref ad1), (.int v17), (.int v9)]) (rest := []) (W := 0) C X10 at_83 e10 (C.t 2 rfl) (C.t 3 rfl) (C.t 4 rfl) (C.t 5 rfl) (rm1 l Z a0 C.w [] ad1 v17 v9 9 _ h10_ n0 Z10 g_ad1 (by decide) Aq v0 (by omega) (by omega)) (by decide) pd_1 rfl rfl rfl (Nat.le_of_eq rfl) (by decide) (by decide) (by decide) (by decide) rfl ?_
  intro T11 v11_ L11 X11 hQ11
  obtain ⟨⟨rs, rfl, hrs⟩, N11q, K11, A11⟩ := hQ11
  have N11 := Fr.app N10 N11q
  have Z11 : n0 ≤ T11.heap.size := Nat.le_trans Z10 K11.1
  have hl4 := own_len4 v9.toInt
  refine g_istore C X11 at_86 #[.val (.int x0), .val (.int x1), .val (.int x2), .val (.int x3), .val (.int v9), .val (.int v17), .val (.int v21), .val (.ref ad1), .val (.int rs), .unset] rfl rfl ?_
  refine g_iload C X11 at_88 rfl rfl ?_
  refine g_sipush C X11 (128 : Int32) at_90 rfl rfl ?_
  refine g_icmp C X11 at_93 (by decide) rfl rfl ?_ ?_
  · intro h93
    have h93 : v9.toInt ≥ 128 := h93
    refine g_iload C X11 at_102 rfl rfl ?_
    refine g_sipush C X11 (16384 : Int32) at_104 rfl rfl ?_
    refine g_icmp C X11 at_107 (by decide) rfl rfl ?_ ?_
    · intro h107
      have h107 : v9.toInt ≥ 16384 := h107
      refine g_iload C X11 at_116 rfl rfl ?_
      refine g_ldc C X11 at_118 (C.t 10 rfl) rfl ?_
      refine g_icmp C X11 at_120 (by decide) rfl rfl ?_ ?_
      · intro h120
        have h120 : v9.toInt ≥ 2097152 := h120
        refine g_iload C X11 at_129 rfl rfl ?_
        refine g_ldc C X11 at_131 (C.t 11 rfl) rfl ?_
        refine g_icmp C X11 at_133 (by decide) rfl rfl ?_ ?_
        · intro h133
          have h133 : v9.toInt ≥ 268435456 := h133
          refine g_iconst C X11 (5 : Int32) at_142 rfl rfl ?_
          refine g_istore C X11 at_143 #[.val (.int x0), .val (.int x1), .val (.int x2), .val (.int x3), .val (.int v9), .val (.int v17), .val (.int v21), .val (.ref ad1), .val (.int rs), .val (.int (5 : Int32))] rfl rfl ?_
          have hn4 : own_len 4 v9.toInt = 5 := by
            rw [hl4]; rw [if_neg (by omega)]; rw [if_neg (by omega)]; rw [if_neg (by omega)]; rw [if_neg (by omega)]
          exact seg145 C X11 rfl N11 Z11 A11 v0 (by omega) (by omega) (by rw [hn4]; rfl) hrs
        · intro h133
          have h133 : v9.toInt < 268435456 := h133
          refine g_iconst C X11 (4 : Int32) at_136 rfl rfl ?_
          refine g_istore C X11 at_137 #[.val (.int x0), .val (.int x1), .val (.int x2), .val (.int x3), .val (.int v9), .val (.int v17), .val (.int v21), .val (.ref ad1), .val (.int rs), .val (.int (4 : Int32))] rfl rfl ?_
          refine g_goto C X11 at_139 (by decide) rfl ?_
          have hn4 : own_len 4 v9.toInt = 4 := by
            rw [hl4]; rw [if_neg (by omega)]; rw [if_neg (by omega)]; rw [if_neg (by omega)]; rw [if_pos (by omega)]
          exact seg145 C X11 rfl N11 Z11 A11 v0 (by omega) (by omega) (by rw [hn4]; rfl) hrs
      · intro h120
        have h120 : v9.toInt < 2097152 := h120
        refine g_iconst C X11 (3 : Int32) at_123 rfl rfl ?_
        refine g_istore C X11 at_124 #[.val (.int x0), .val (.int x1), .val (.int x2), .val (.int x3), .val (.int v9), .val (.int v17), .val (.int v21), .val (.ref ad1), .val (.int rs), .val (.int (3 : Int32))] rfl rfl ?_
        refine g_goto C X11 at_126 (by decide) rfl ?_
        have hn4 : own_len 4 v9.toInt = 3 := by
          rw [hl4]; rw [if_neg (by omega)]; rw [if_neg (by omega)]; rw [if_pos (by omega)]
        exact seg145 C X11 rfl N11 Z11 A11 v0 (by omega) (by omega) (by rw [hn4]; rfl) hrs
    · intro h107
      have h107 : v9.toInt < 16384 := h107
      refine g_iconst C X11 (2 : Int32) at_110 rfl rfl ?_
      refine g_istore C X11 at_111 #[.val (.int x0), .val (.int x1), .val (.int x2), .val (.int x3), .val (.int v9), .val (.int v17), .val (.int v21), .val (.ref ad1), .val (.int rs), .val (.int (2 : Int32))] rfl rfl ?_
      refine g_goto C X11 at_113 (by decide) rfl ?_
      have hn4 : own_len 4 v9.toInt = 2 := by
        rw [hl4]; rw [if_neg (by omega)]; rw [if_pos (by omega)]
      exact seg145 C X11 rfl N11 Z11 A11 v0 (by omega) (by omega) (by rw [hn4]; rfl) hrs
  · intro h93
    have h93 : v9.toInt < 128 := h93
    refine g_iconst C X11 (1 : Int32) at_96 rfl rfl ?_
    refine g_istore C X11 at_97 #[.val (.int x0), .val (.int x1), .val (.int x2), .val (.int x3), .val (.int v9), .val (.int v17), .val (.int v21), .val (.ref ad1), .val (.int rs), .val (.int (1 : Int32))] rfl rfl ?_
    refine g_goto C X11 at_99 (by decide) rfl ?_
    have hn4 : own_len 4 v9.toInt = 1 := by
      rw [hl4]; rw [if_pos (by omega)]
    exact seg145 C X11 rfl N11 Z11 A11 v0 (by omega) (by omega) (by rw [hn4]; rfl) hrs
set_option maxRecDepth 65536 in
set_option maxHeartbeats 40000000 in
theorem comes_1 {Post : Tables → Env → Array Value → State → Outcome → State → Prop} (hpost : ∀ tb e args s v u, (limb_1_1.after args s (.returned v) u = true ∧ limb_1_2.after args s (.returned v) u = true ∧ True) → FrameEnd s (.returned v) u (Jvm.fieldLocs frame_1_writes args s ++ Jvm.arrayLocs frame_1_arrays args s ++ Jvm.staticLocs frame_1_statics s) 16 128 → Post tb e args s (.returned v) u) :
    ArmFor flags0 classFile x code maxLocals ret World_1 tables_1 room_1 Calls_1 rest_1 Pre_1 Post := by
  intro l hfl _ _ p e ha hc hk s m args below hf hA hF happ hP
  obtain ⟨hcalls, hrest, hpre⟩ := hP
  obtain ⟨-, -, -, hnamed, -, -, -, hat⟩ := (Spec.applies_iff hf).mp happ
  obtain ⟨hg, hn⟩ := and_e (Cond.before_iff.mp (show (Jvm.Cond.and given_1 narrow_1).before args s = true from hpre))
  obtain ⟨q0, g0⟩ := and_e hg
  obtain ⟨q1, g1⟩ := and_e g0
  obtain ⟨q2, g2⟩ := and_e g1
  obtain ⟨q3, g3⟩ := and_e g2
  have q4 := g3
  obtain ⟨w0, w1, w2, w3, rfl⟩ : ∃ w0 w1 w2 w3 : Value, args = #[w0, w1, w2, w3] := by
    have hs : args.size = 4 := by simpa [Cond.value, given_1] using q0
    obtain ⟨L⟩ := args
    match L, hs with
    | [w0, w1, w2, w3], _ => exact ⟨w0, w1, w2, w3, rfl⟩
  have hw := fun d (hd : d ∈ tables_1) => atoms_spec (ws := Jvm.Cond.code x code maxLocals ret :: tables_1) hat d (List.mem_cons_of_mem _ hd)
  obtain ⟨i0, ei0⟩ := is_v q1
  obtain rfl : w0 = (.int i0) := Option.some.inj ei0
  obtain ⟨i1, ei1⟩ := is_v q2
  obtain rfl : w1 = (.int i1) := Option.some.inj ei1
  obtain ⟨i2, ei2⟩ := is_v q3
  obtain rfl : w2 = (.int i2) := Option.some.inj ei2
  obtain ⟨i3, ei3⟩ := is_v q4
  obtain rfl : w3 = (.int i3) := Option.some.inj ei3
  obtain ⟨n, o, h1, h2, h3, _, L, rfl, ⟨rfl, N⟩, hq⟩ := rm0 l s _ hw tables_1 i0 i1 i2 i3 s.heap s.heap.size (Nat.le_refl _) p e ha hc hk s m _ below hf ((Spec.applies_iff_loose hf).mp happ).1 ⟨rfl, State.Warmed39.refl s, rfl⟩ trivial
  refine ⟨n, _, h1, h2, h3, hpost _ _ _ _ _ _ ⟨Cond.after_iff.mpr rfl, Cond.after_iff.mpr (eq_i res_at (Term.int_eval (1)) rfl), trivial⟩ ⟨hq.1, hq.2.1, (hq.2.2.sift fun y hy => Or.inr (N y hy)).mono (by decide) (by decide)⟩⟩
theorem main_1_1 : Claimed_1_1 := comes_1 fun _ _ _ _ _ _ h hF => ⟨h.1, hF⟩
theorem main_1_2 : Claimed_1_2 := comes_1 fun _ _ _ _ _ _ h hF => ⟨h.2.1, hF⟩
end Jvm.Pilot.@@N@@
namespace Jvm.Pilot.@@N@@
open Jvm Jvm.ClassFile Sem Op Lib Jvm.Free Jvm.Stand Jvm.Pilot.@@N@@.Jvm.D
/-! MADE BY PROGRAM (witnessworld.py) out of the Statement's table words and the real class files: 9 classes; the members and pool entries that the words name. The judged class is class 1, her method 1. -/
namespace start1
open Jvm.ClassFile
def u (s : String) : CpInfo := .utf8 (stringToUtf16 s)
/-- a pool by its gaps: so many unusable entries, then the entry; so many at the end -/
def gap : Nat → List CpInfo → List CpInfo
  | 0, r => r
  | n + 1, r => .unusable :: gap n r
def poolList (es : List (Nat × CpInfo)) (last : Nat) : List CpInfo := es.foldr (fun e r => gap e.1 (e.2 :: r)) (gap last [])
def pool (es : List (Nat × CpInfo)) (last : Nat) : Array CpInfo := ⟨poolList es last⟩
def fileOf (pool : Array CpInfo) (this : Nat) (attrs : Array Attribute := #[]) (ms : Array MethodInfo := #[]) (fl : Nat := 33) (sup : Nat := 0) (ifs : Array Nat := #[]) (fds : Array FieldInfo := #[]) : ClassFile where
  minorVersion := 0
  majorVersion := 65
  constantPool := pool
  accessFlags := fl
  thisClass := this
  superClass := sup
  interfaces := ifs
  fields := fds
  methods := ms
  attributes := attrs
def plain (name : String) (sup : Option ClassId) : Class where
  name := name
  kind := .ordinary
  loader := none
  accessFlags := 33
  super := sup
  interfaces := #[]
  cf := none
  fields := #[]
  methods := #[]
  instanceTypes := #[]
  staticTypes := #[]
  resolved := #[]
  callSites := []
  init := .initialized
  statics := none
  mirror := none

def pool0 : Array CpInfo := pool [(5, u "<init>"), (0, u "()V"), (1, .class_ 10), (1, u "java/lang/Object")] 113

def k0m0 : Method := { name := "<init>", desc := "()V", sig := { parameters := [], returnType := none }, accessFlags := 1, code := none }
/-- java/lang/Object -/
def k0 : Class := { plain "java/lang/Object" none with
  accessFlags := 33
  interfaces := #[]
  cf := some (fileOf pool0 8 #[] #[{ accessFlags := 1, nameIndex := 5, descriptorIndex := 6, attributes := #[] }] 33 0 #[] #[])
  fields := #[]
  methods := #[k0m0]
  instanceTypes := #[]
  staticTypes := #[]
  resolved := Array.replicate 124 none
  statics := none }

def pool1 : Array CpInfo := pool [(2, .class_ 4), (1, u "java/lang/Object"), (0, u "<init>"), (0, u "()V"), (0, .integer 2147483647), (0, .methodref 9 10), (0, .class_ 11), (0, .nameAndType 12 13), (0, u "com/example/overscore/overscore/index/VarInt"), (0, u "put"), (0, u "([BII)I"), (0, .integer 2097152), (0, .integer 268435456), (0, .methodref 17 18), (0, .class_ 19), (0, .nameAndType 20 21), (0, u "com/example/overscore/overscore/index/VarIntPutPinLaw"), (0, u "ok"), (0, u "([BIIIIB)Z"), (2, u "law"), (0, u "(IIII)Z")] 5

def k1m0 : Method := { name := "<init>", desc := "()V", sig := { parameters := [], returnType := none }, accessFlags := 1, code := none }
def k1c1 : Code := { maxStack := 6, maxLocals := 10, code := code, exceptionTable := #[], attributes := #[] }
def k1m1 : Method := { name := "law", desc := "(IIII)Z", sig := { parameters := [.int, .int, .int, .int], returnType := some .boolean }, accessFlags := 9, code := some k1c1 }
def k1c2 : Code := { maxStack := 4, maxLocals := 8, code := method_3_code, exceptionTable := #[], attributes := #[] }
def k1m2 : Method := { name := "ok", desc := "([BIIIIB)Z", sig := { parameters := [(.array .byte), .int, .int, .int, .int, .byte], returnType := some .boolean }, accessFlags := 10, code := some k1c2 }
/-- com/example/overscore/overscore/index/VarIntPutPinLaw -/
def k1 : Class := { plain "com/example/overscore/overscore/index/VarIntPutPinLaw" (some 0) with
  accessFlags := 49
  interfaces := #[]
  cf := some (fileOf pool1 17 #[] #[{ accessFlags := 1, nameIndex := 5, descriptorIndex := 6, attributes := #[] }, { accessFlags := 9, nameIndex := 24, descriptorIndex := 25, attributes := #[] }, { accessFlags := 10, nameIndex := 20, descriptorIndex := 21, attributes := #[] }] 49 2 #[] #[])
  fields := #[]
  methods := #[k1m0, k1m1, k1m2]
  instanceTypes := #[]
  staticTypes := #[]
  resolved := Array.replicate 31 none
  statics := none }

def pool2 : Array CpInfo := pool [(2, .class_ 4), (1, u "java/lang/Object"), (0, u "<init>"), (0, u "()V"), (6, .class_ 14), (0, u "com/example/overscore/overscore/index/VarInt"), (0, u "MAX_BYTES"), (0, u "I"), (10, u "put"), (0, u "([BII)I")] 4

def k2m0 : Method := { name := "<init>", desc := "()V", sig := { parameters := [], returnType := none }, accessFlags := 2, code := none }
def k2c1 : Code := { maxStack := 4, maxLocals := 5, code := prog_8_method_3_code, exceptionTable := #[], attributes := #[] }
def k2m1 : Method := { name := "put", desc := "([BII)I", sig := { parameters := [(.array .byte), .int, .int], returnType := some .int }, accessFlags := 8, code := some k2c1 }
/-- com/example/overscore/overscore/index/VarInt -/
def k2 : Class := { plain "com/example/overscore/overscore/index/VarInt" (some 0) with
  accessFlags := 32
  interfaces := #[]
  cf := some (fileOf pool2 13 #[] #[{ accessFlags := 2, nameIndex := 5, descriptorIndex := 6, attributes := #[] }, { accessFlags := 8, nameIndex := 27, descriptorIndex := 28, attributes := #[] }] 32 2 #[] #[{ accessFlags := 24, nameIndex := 15, descriptorIndex := 16, attributes := #[] }])
  fields := #[{ name := "MAX_BYTES", type := .int, accessFlags := 24, slot := 0, constantValue := 0 }]
  methods := #[k2m0, k2m1]
  instanceTypes := #[]
  staticTypes := #[.int]
  resolved := Array.replicate 33 none
  statics := none }

def pool3 : Array CpInfo := pool [(1, u "java/lang/Cloneable"), (0, .class_ 1), (0, u "java/lang/Object"), (0, .class_ 3)] 3

/-- java/lang/Cloneable -/
def k3 : Class := { plain "java/lang/Cloneable" (some 0) with
  accessFlags := 1537
  interfaces := #[]
  cf := some (fileOf pool3 2 #[] #[] 1537 4 #[] #[])
  fields := #[]
  methods := #[]
  instanceTypes := #[]
  staticTypes := #[]
  resolved := Array.replicate 8 none
  statics := none }

def pool4 : Array CpInfo := pool [(1, u "java/io/Serializable"), (0, .class_ 1), (0, u "java/lang/Object"), (0, .class_ 3)] 3

/-- java/io/Serializable -/
def k4 : Class := { plain "java/io/Serializable" (some 0) with
  accessFlags := 1537
  interfaces := #[]
  cf := some (fileOf pool4 2 #[] #[] 1537 4 #[] #[])
  fields := #[]
  methods := #[]
  instanceTypes := #[]
  staticTypes := #[]
  resolved := Array.replicate 8 none
  statics := none }

/-- the primitive byte -/
def k5 : Class := { plain "byte" none with kind := .primitive 'B', accessFlags := 0x411 }
/-- [B -/
def k6 : Class := { plain "[B" (some 0) with kind := .array 5 .byte, interfaces := #[3, 4], accessFlags := 1041 }

/-- the primitive int -/
def k7 : Class := { plain "int" none with kind := .primitive 'I', accessFlags := 0x411 }
/-- [I -/
def k8 : Class := { plain "[I" (some 0) with kind := .array 7 .int, interfaces := #[3, 4], accessFlags := 1041 }

def heap : Heap := #[]
def classes : Array Class := #[k0, k1, k2, k3, k4, k5, k6, k7, k8]
def interned : List (Array UInt16 × Addr) := []
def slotsUsed : Nat := 0
def theMethod : MethodId := ⟨1, 1⟩
def args0 : Array Value := #[.int 300, .int 1, .int 2, .int 0]
def aboutOver (below : List Frame) : State where
  vm := { classes := classes, interned := interned.toArray }
  heap := heap
  slotsUsed := slotsUsed
  threads := #[{ frames := .invoking theMethod args0 :: below }]
def below0 : List Frame := [.native { method := ⟨0, 0⟩, args := #[] }]
def about1 : State := aboutOver below0
def p0 : Program := .bare "" "" ""
def e0 : Env := launch0.env 0 0 0
theorem w_frames : about1.frames = Frame.invoking theMethod args0 :: below0 := rfl
set_option maxRecDepth 65536 in
theorem w_args : argsFit about1.vm theMethod args0 = true := by decide +kernel
set_option maxRecDepth 65536 in
theorem w_heap : heapFits about1 = true := by decide +kernel
set_option maxRecDepth 65536 in
theorem w_runnable : about1.curStatus? = some .runnable := by decide +kernel
set_option maxRecDepth 65536 in
theorem w_alone : about1.alone = true := by decide +kernel
set_option maxRecDepth 65536 in
theorem w_named : about1.methodNamed? x = some theMethod := by decide +kernel
set_option maxRecDepth 65536 in
theorem w_hears : about1.hears theMethod below0 = true := by decide +kernel
set_option maxRecDepth 65536 in
theorem w_ripe : about1.ripe theMethod args0 below0 = true := by decide +kernel
theorem w_running : about1.status = .running := rfl
set_option maxRecDepth 65536 in
theorem w_room : about1.hasRoom e0.platform room_1 = true :=
  launch0.hasRoom_least _ room_1 (by decide +kernel) (by decide +kernel) (by decide +kernel) (by decide +kernel) (by decide +kernel) (by decide +kernel)
theorem allAtoms_all (ts : List Jvm.Cond) (a : Array Jvm.Value) (st : Jvm.State) : (allAtoms ts).before a st = ts.all (fun c => c.before a st) := by
  induction ts with
  | nil => rfl
  | cons c t ih =>
    show (Jvm.Cond.and c (allAtoms t)).before a st = _
    rw [Jvm.Cond.before_and, ih, List.all_cons]
def words1 : List Jvm.Cond := Jvm.Cond.code x code maxLocals ret :: tables_1
/-- a 'code' word, met by the world's own term for the bytes: nothing is compared byte by byte -/
theorem code_word {y : MethodName} {bytes : ByteArray} {mx : Nat} {rt : Option FieldType} {a : Array Value} {s : State} {m : MethodId} {meth : Method} {c : Code} (h1 : s.methodNamed? y = some m) (h2 : s.vm.method? m = some meth) (h3 : meth.code = some c) (h4 : c.code = bytes)
    (h5 : (c.maxLocals == mx && c.exceptionTable.isEmpty && decide (c.maxStack ≤ mostOperands) && decide (meth.sig.returnType = rt) && !meth.locks && decide (parseMethodDescriptor y.desc = some meth.sig)) = true) : (Jvm.Cond.code y bytes mx rt).before a s = true := by
  simp only [Bool.and_eq_true, beq_iff_eq, Bool.not_eq_true', decide_eq_true_eq] at h5
  obtain ⟨⟨⟨⟨⟨g1, g2⟩, g3⟩, g4⟩, g5⟩, g6⟩ := h5
  simp [Cond.before, Cond.holds, Cond.value, h1, h2, h3, h4, g1, g2, g3, g4, g5, g6]
def isCode : Jvm.Cond → Bool
  | .code _ _ _ _ => true
  | _ => false
theorem all_split {L : List Jvm.Cond} {P : Jvm.Cond → Bool} (h1 : L.all (fun c => isCode c || P c) = true) (h2 : ∀ c ∈ L.filter isCode, P c = true) : L.all P = true := by
  refine List.all_eq_true.mpr fun c hc => ?_
  have h := List.all_eq_true.mp h1 c hc
  rcases Bool.eq_false_or_eq_true (isCode c) with hi | hi
  · exact h2 c (List.mem_filter.mpr ⟨hc, hi⟩)
  · simpa [hi] using h
set_option maxRecDepth 65536 in
theorem w_c0 : (Jvm.Cond.code x code maxLocals ret).before args0 about1 = true := code_word (m := ⟨1, 1⟩) (meth := k1m1) (c := k1c1) (by decide +kernel) rfl rfl rfl (by decide +kernel)
set_option maxRecDepth 65536 in
theorem w_c1 : (Jvm.Cond.code ({ cls := "com/example/overscore/overscore/index/VarInt", name := "put", desc := "([BII)I" } : Jvm.MethodName) prog_8_method_3_code (5 : Nat) (Option.some Jvm.ClassFile.FieldType.int)).before args0 about1 = true := code_word (m := ⟨2, 1⟩) (meth := k2m1) (c := k2c1) (by decide +kernel) rfl rfl rfl (by decide +kernel)
set_option maxRecDepth 65536 in
theorem w_c2 : (Jvm.Cond.code ({ cls := "com/example/overscore/overscore/index/VarIntPutPinLaw", name := "ok", desc := "([BIIIIB)Z" } : Jvm.MethodName) method_3_code (8 : Nat) (Option.some Jvm.ClassFile.FieldType.boolean)).before args0 about1 = true := code_word (m := ⟨1, 2⟩) (meth := k1m2) (c := k1c2) (by decide +kernel) rfl rfl rfl (by decide +kernel)
def codes1 : List Jvm.Cond := [Jvm.Cond.code x code maxLocals ret, Jvm.Cond.code ({ cls := "com/example/overscore/overscore/index/VarInt", name := "put", desc := "([BII)I" } : Jvm.MethodName) prog_8_method_3_code (5 : Nat) (Option.some Jvm.ClassFile.FieldType.int), Jvm.Cond.code ({ cls := "com/example/overscore/overscore/index/VarIntPutPinLaw", name := "ok", desc := "([BIIIIB)Z" } : Jvm.MethodName) method_3_code (8 : Nat) (Option.some Jvm.ClassFile.FieldType.boolean)]
set_option maxRecDepth 65536 in
theorem codes_eq : words1.filter isCode = codes1 := rfl
theorem w_codes : ∀ c ∈ words1.filter isCode, c.before args0 about1 = true := by
  rw [codes_eq]
  intro c hc
  simp only [codes1, List.mem_cons, List.not_mem_nil, or_false] at hc
  rcases hc with rfl | rfl | rfl
  · exact w_c0
  · exact w_c1
  · exact w_c2
set_option maxRecDepth 65536 in
theorem w_t1 : words1.all (fun c => isCode c || c.before args0 about1) = true := by decide +kernel
theorem w_tables : (allAtoms (Jvm.Cond.code x code maxLocals ret :: tables_1)).before args0 about1 = true := by
  rw [allAtoms_all]
  show words1.all (fun c => c.before args0 about1) = true
  refine all_split ?_ w_codes
  rw [w_t1]
set_option maxRecDepth 65536 in
theorem w_case : (Jvm.Cond.and given_1 narrow_1).before args0 about1 = true := by decide +kernel
theorem w_applies : (headSpec (Jvm.Cond.code x code maxLocals ret :: tables_1) room_1).applies x e0.platform about1 = true :=
  (Spec.applies_iff w_frames).mpr ⟨w_running, w_runnable, w_alone, w_named, w_hears, w_ripe, w_room, w_tables⟩
theorem atStart : AtStart classFile x code maxLocals ret World_1 tables_1 room_1 Calls_1 rest_1 Pre_1 launch0 p0 e0 about1 theMethod args0 below0 :=
  ⟨lists_1, trivial, launch0.admits_env _ _ _, launch0.least_env, fairChoices_fair.cas, fairChoices_fair.clock, w_frames, w_args, w_heap, w_applies, trivial, trivial, w_case⟩
end start1
theorem witness_1 : WitnessClaimed_1 := ⟨start1.p0, start1.e0, start1.about1, start1.theMethod, start1.args0, start1.below0, start1.atStart⟩
end Jvm.Pilot.@@N@@
