import JvmDerived
import JvmDerived.Pilot.@@N@@Statement
import JvmDerived.Pilot.@@N@@Code
set_option linter.unusedVariables false
set_option linter.unusedSimpArgs false
namespace Jvm.Pilot.@@N@@
open Jvm Jvm.ClassFile Sem Op Lib Jvm.Free Jvm.Stand Jvm.LawKit Jvm.RoadKit Bundle Jvm.Pilot.@@N@@.Jvm.D
section Own
variable {p : Program} {l : Launch} {e : Env} {R : Room} {s : State} {m : MethodId} {args : Array Value} {below : List Frame} {meth : Method} {c : Code} {T T' : State} {locs : List Loc} {cells slots : Nat} {Z : State} {a0 : Array Value} {h h' : Heap} {Q : Option Value → Heap → List Loc → Prop} {Cc Sc : Nat} {pc pc' pt k : Nat} {Ls Ls' : Array Slot} {St St' : List Value} {bs : ByteArray} {ml : Nat} {own nm : String} {rt : Option FieldType}
/-- what stands of a body while it is walked -/
def Cx (Z : State) (a0 : Array Value) (p : Program) (s : State) (m : MethodId) (meth : Method) (c : Code) (bs : ByteArray) (ml : Nat) (own nm : String) (rt : Option FieldType) : Prop :=
  p.tables.exec = Jvm.exec ∧ Z.Warmed39 s.vm ∧ c.code = bs ∧ c.maxLocals = ml ∧ s.vm.findClass own = some m.cls ∧ meth.name = nm ∧ meth.sig.returnType = rt ∧ meth.locks = false ∧ (∀ d ∈ tables_1, d.before a0 Z = true)
theorem Cx.x (C : Cx Z a0 p s m meth c bs ml own nm rt) : p.tables.exec = Jvm.exec := C.1
theorem Cx.z (C : Cx Z a0 p s m meth c bs ml own nm rt) : Z.Warmed39 s.vm := C.2.1
theorem Cx.b (C : Cx Z a0 p s m meth c bs ml own nm rt) : c.code = bs := C.2.2.1
theorem Cx.mx (C : Cx Z a0 p s m meth c bs ml own nm rt) : c.maxLocals = ml := C.2.2.2.1
theorem Cx.o (C : Cx Z a0 p s m meth c bs ml own nm rt) : s.vm.findClass own = some m.cls := C.2.2.2.2.1
theorem Cx.n (C : Cx Z a0 p s m meth c bs ml own nm rt) : meth.name = nm := C.2.2.2.2.2.1
theorem Cx.r (C : Cx Z a0 p s m meth c bs ml own nm rt) : meth.sig.returnType = rt := C.2.2.2.2.2.2.1
theorem Cx.lk (C : Cx Z a0 p s m meth c bs ml own nm rt) : meth.locks = false := C.2.2.2.2.2.2.2.1
theorem Cx.w (C : Cx Z a0 p s m meth c bs ml own nm rt) : ∀ d ∈ tables_1, d.before a0 Z = true := C.2.2.2.2.2.2.2.2
/-- the i-th word of the sheet's tables -/
theorem Cx.t (C : Cx Z a0 p s m meth c bs ml own nm rt) (i : Nat) {d : Jvm.Cond} (hi : tables_1[i]? = some d) : d.before a0 Z = true := C.w d (List.mem_of_getElem? hi)
/-- from here the run comes to its return, and of that return Q holds -/
def Go (p : Program) (e : Env) (below : List Frame) (s : State) (m : MethodId) (Q : Option Value → Heap → List Loc → Prop) (Cc Sc : Nat) (T : State) (pc : Nat) (Ls : Array Slot) (St : List Value) : Prop :=
  ∃ s₂ o, Steps p.tables e below (T.setTop (mkF m pc Ls St)) s₂ ∧ s₂.status = .running ∧ Ended s₂ below o ∧ ∃ v L, o = .returned v ∧ Q v s₂.heap L ∧ FrameEnd s o s₂ L Cc Sc
theorem Go.via (h : ∀ t, Steps p.tables e below (T'.setTop (mkF m pc' Ls' St')) t → Steps p.tables e below (T.setTop (mkF m pc Ls St)) t) (k : Go p e below s m Q Cc Sc T' pc' Ls' St') : Go p e below s m Q Cc Sc T pc Ls St := by
  obtain ⟨s₂, o, h1, h2⟩ := k
  exact ⟨s₂, o, h _ h1, h2⟩
theorem Go.cast (hL : Ls = Ls') (hS : St = St') (k : Go p e below s m Q Cc Sc T pc Ls' St') : Go p e below s m Q Cc Sc T pc Ls St := by
  subst hL hS; exact k
theorem g_enter {x : MethodName} {ws : List Jvm.Cond} {rm : Room} {as' : Array Value} {h0 : Heap} (hpl : plainFor x = true) (hw : ∀ d ∈ tables_1, d.before a0 Z = true) (hef : ∀ m, entryFrame m as' ml = mkF m 0 Ls [])
    (body : ∀ (p : Program) (e : Env) (s : State) (m : MethodId) (below : List Frame) (meth : Method) (c : Code) (T : State), Cx Z a0 p s m meth c bs ml x.cls x.name rt → Stand p l e rm s m as' below meth c T [] 0 0 → T.heap = h0 → Go p e below s m Q rm.cells rm.slots T 0 Ls []) :
    MetFree l x (head1 (Jvm.Cond.code x bs ml rt :: ws) rm) (fun a U => a = as' ∧ Z.Warmed39 U.vm ∧ U.heap = h0) (fun _ _ _ _ _ => True) (fun _ U o U' => ∃ v L, o = .returned v ∧ Q v U'.heap L ∧ FrameEnd U o U' L rm.cells rm.slots) := by
  refine MetFree.of_bodySF hpl hisR ?_
  intro p e s m args below meth c s₁ Bd hml0 hP hK
  obtain ⟨rfl, hZ, hh⟩ := hP
  have e0 : s₁.heap = h0 := by rw [← hh, Bd.state]; rfl
  have C : Cx Z a0 p s m meth c bs ml x.cls x.name rt := ⟨Bd.exec, hZ, Bd.bytes, hml0, findClass_of_methodNamed Bd.named, (name_of_methodNamed Bd.named Bd.method).1, Bd.returns, Bd.notSynchronized, hw⟩
  obtain ⟨s₂, o, k1, k2⟩ := body p e s m below meth c s₁ C (Stand.of_body Bd) e0
  exact ⟨s₂, o, castTop (hef m) k1, k2⟩

theorem g_iload (C : Cx Z a0 p s m meth c bs ml own nm rt) (X : Stand p l e R s m args below meth c T locs cells slots) {v : Int32} (hd : decode bs pc = .ok (.iload k, 2)) (hl : Ls[k]? = some (.val (.int v))) (hp : pc + 2 = pc') (kk : Go p e below s m Q Cc Sc T pc' Ls (.int v :: St)) : Go p e below s m Q Cc Sc T pc Ls St := by
  subst hp
  exact Go.via (fun t q => XS.iload X.here C.x rfl (hb C.b hd) hl q) kk
theorem g_iloadN (C : Cx Z a0 p s m meth c bs ml own nm rt) (X : Stand p l e R s m args below meth c T locs cells slots) {k : Fin 4} {v : Int32} (hd : decode bs pc = .ok (.iload_n k, 1)) (hl : Ls[k.val]? = some (.val (.int v))) (hp : pc + 1 = pc') (kk : Go p e below s m Q Cc Sc T pc' Ls (.int v :: St)) : Go p e below s m Q Cc Sc T pc Ls St := by
  subst hp
  exact Go.via (fun t q => XS.iloadN X.here C.x rfl (hb C.b hd) hl q) kk
theorem g_lload (C : Cx Z a0 p s m meth c bs ml own nm rt) (X : Stand p l e R s m args below meth c T locs cells slots) {v : Int64} (hd : decode bs pc = .ok (.lload k, 2)) (hl : Ls[k]? = some (.val (.long v))) (hp : pc + 2 = pc') (kk : Go p e below s m Q Cc Sc T pc' Ls (.long v :: St)) : Go p e below s m Q Cc Sc T pc Ls St := by
  subst hp
  exact Go.via (fun t q => XS.lload X.here C.x rfl (hb C.b hd) hl q) kk
theorem g_lloadN (C : Cx Z a0 p s m meth c bs ml own nm rt) (X : Stand p l e R s m args below meth c T locs cells slots) {k : Fin 4} {v : Int64} (hd : decode bs pc = .ok (.lload_n k, 1)) (hl : Ls[k.val]? = some (.val (.long v))) (hp : pc + 1 = pc') (kk : Go p e below s m Q Cc Sc T pc' Ls (.long v :: St)) : Go p e below s m Q Cc Sc T pc Ls St := by
  subst hp
  exact Go.via (fun t q => XS.lloadN X.here C.x rfl (hb C.b hd) hl q) kk
theorem g_aload (C : Cx Z a0 p s m meth c bs ml own nm rt) (X : Stand p l e R s m args below meth c T locs cells slots) {v : Addr} (hd : decode bs pc = .ok (.aload k, 2)) (hl : Ls[k]? = some (.val (.ref v))) (hp : pc + 2 = pc') (kk : Go p e below s m Q Cc Sc T pc' Ls (.ref v :: St)) : Go p e below s m Q Cc Sc T pc Ls St := by
  subst hp
  exact Go.via (fun t q => XS.aload X.here C.x rfl (hb C.b hd) hl rfl q) kk
theorem g_aloadN (C : Cx Z a0 p s m meth c bs ml own nm rt) (X : Stand p l e R s m args below meth c T locs cells slots) {k : Fin 4} {v : Addr} (hd : decode bs pc = .ok (.aload_n k, 1)) (hl : Ls[k.val]? = some (.val (.ref v))) (hp : pc + 1 = pc') (kk : Go p e below s m Q Cc Sc T pc' Ls (.ref v :: St)) : Go p e below s m Q Cc Sc T pc Ls St := by
  subst hp
  exact Go.via (fun t q => XS.aloadN X.here C.x rfl (hb C.b hd) hl rfl q) kk
theorem g_istore (C : Cx Z a0 p s m meth c bs ml own nm rt) (X : Stand p l e R s m args below meth c T locs cells slots) {x : Int32} (hd : decode bs pc = .ok (.istore k, 2)) (Ls' : Array Slot) (hl : storeLocals Ls k (.int x) = some Ls') (hp : pc + 2 = pc') (kk : Go p e below s m Q Cc Sc T pc' Ls' St) : Go p e below s m Q Cc Sc T pc Ls (.int x :: St) := by
  subst hp
  exact Go.via (fun t q => XS.istore X.here C.x rfl (hb C.b hd) rfl hl q) kk
theorem g_istoreN (C : Cx Z a0 p s m meth c bs ml own nm rt) (X : Stand p l e R s m args below meth c T locs cells slots) {k : Fin 4} {x : Int32} (hd : decode bs pc = .ok (.istore_n k, 1)) (Ls' : Array Slot) (hl : storeLocals Ls k.val (.int x) = some Ls') (hp : pc + 1 = pc') (kk : Go p e below s m Q Cc Sc T pc' Ls' St) : Go p e below s m Q Cc Sc T pc Ls (.int x :: St) := by
  subst hp
  exact Go.via (fun t q => XS.istoreN X.here C.x rfl (hb C.b hd) rfl hl q) kk
theorem g_istoreV (C : Cx Z a0 p s m meth c bs ml own nm rt) (X : Stand p l e R s m args below meth c T locs cells slots) {x : Int32} (hd : decode bs pc = .ok (.istore k, 2)) (F : Int32 → Array Slot) (hl : storeLocals Ls k (.int x) = some (F x)) (hp : pc + 2 = pc') (kk : ∀ v, v = x → Go p e below s m Q Cc Sc T pc' (F v) St) : Go p e below s m Q Cc Sc T pc Ls (.int x :: St) := g_istore C X hd (F x) hl hp (kk x rfl)
theorem g_istoreNV (C : Cx Z a0 p s m meth c bs ml own nm rt) (X : Stand p l e R s m args below meth c T locs cells slots) {k : Fin 4} {x : Int32} (hd : decode bs pc = .ok (.istore_n k, 1)) (F : Int32 → Array Slot) (hl : storeLocals Ls k.val (.int x) = some (F x)) (hp : pc + 1 = pc') (kk : ∀ v, v = x → Go p e below s m Q Cc Sc T pc' (F v) St) : Go p e below s m Q Cc Sc T pc Ls (.int x :: St) := g_istoreN C X hd (F x) hl hp (kk x rfl)
theorem g_lstore (C : Cx Z a0 p s m meth c bs ml own nm rt) (X : Stand p l e R s m args below meth c T locs cells slots) {x : Int64} (hd : decode bs pc = .ok (.lstore k, 2)) (Ls' : Array Slot) (hl : storeLocals Ls k (.long x) = some Ls') (hp : pc + 2 = pc') (kk : Go p e below s m Q Cc Sc T pc' Ls' St) : Go p e below s m Q Cc Sc T pc Ls (.long x :: St) := by
  subst hp
  exact Go.via (fun t q => XS.lstore X.here C.x rfl (hb C.b hd) rfl hl q) kk
theorem g_lstoreN (C : Cx Z a0 p s m meth c bs ml own nm rt) (X : Stand p l e R s m args below meth c T locs cells slots) {k : Fin 4} {x : Int64} (hd : decode bs pc = .ok (.lstore_n k, 1)) (Ls' : Array Slot) (hl : storeLocals Ls k.val (.long x) = some Ls') (hp : pc + 1 = pc') (kk : Go p e below s m Q Cc Sc T pc' Ls' St) : Go p e below s m Q Cc Sc T pc Ls (.long x :: St) := by
  subst hp
  exact Go.via (fun t q => XS.lstoreN X.here C.x rfl (hb C.b hd) rfl hl q) kk
theorem g_lstoreV (C : Cx Z a0 p s m meth c bs ml own nm rt) (X : Stand p l e R s m args below meth c T locs cells slots) {x : Int64} (hd : decode bs pc = .ok (.lstore k, 2)) (F : Int64 → Array Slot) (hl : storeLocals Ls k (.long x) = some (F x)) (hp : pc + 2 = pc') (kk : ∀ v, v = x → Go p e below s m Q Cc Sc T pc' (F v) St) : Go p e below s m Q Cc Sc T pc Ls (.long x :: St) := g_lstore C X hd (F x) hl hp (kk x rfl)
theorem g_lstoreNV (C : Cx Z a0 p s m meth c bs ml own nm rt) (X : Stand p l e R s m args below meth c T locs cells slots) {k : Fin 4} {x : Int64} (hd : decode bs pc = .ok (.lstore_n k, 1)) (F : Int64 → Array Slot) (hl : storeLocals Ls k.val (.long x) = some (F x)) (hp : pc + 1 = pc') (kk : ∀ v, v = x → Go p e below s m Q Cc Sc T pc' (F v) St) : Go p e below s m Q Cc Sc T pc Ls (.long x :: St) := g_lstoreN C X hd (F x) hl hp (kk x rfl)
theorem g_astore (C : Cx Z a0 p s m meth c bs ml own nm rt) (X : Stand p l e R s m args below meth c T locs cells slots) {x : Addr} (hd : decode bs pc = .ok (.astore k, 2)) (Ls' : Array Slot) (hl : storeLocals Ls k (.ref x) = some Ls') (hp : pc + 2 = pc') (kk : Go p e below s m Q Cc Sc T pc' Ls' St) : Go p e below s m Q Cc Sc T pc Ls (.ref x :: St) := by
  subst hp
  exact Go.via (fun t q => XS.astore X.here C.x rfl (hb C.b hd) rfl rfl hl q) kk
theorem g_astoreN (C : Cx Z a0 p s m meth c bs ml own nm rt) (X : Stand p l e R s m args below meth c T locs cells slots) {k : Fin 4} {x : Addr} (hd : decode bs pc = .ok (.astore_n k, 1)) (Ls' : Array Slot) (hl : storeLocals Ls k.val (.ref x) = some Ls') (hp : pc + 1 = pc') (kk : Go p e below s m Q Cc Sc T pc' Ls' St) : Go p e below s m Q Cc Sc T pc Ls (.ref x :: St) := by
  subst hp
  exact Go.via (fun t q => XS.astoreN X.here C.x rfl (hb C.b hd) rfl rfl hl q) kk
theorem g_astoreV (C : Cx Z a0 p s m meth c bs ml own nm rt) (X : Stand p l e R s m args below meth c T locs cells slots) {x : Addr} (hd : decode bs pc = .ok (.astore k, 2)) (F : Addr → Array Slot) (hl : storeLocals Ls k (.ref x) = some (F x)) (hp : pc + 2 = pc') (kk : ∀ v, v = x → Go p e below s m Q Cc Sc T pc' (F v) St) : Go p e below s m Q Cc Sc T pc Ls (.ref x :: St) := g_astore C X hd (F x) hl hp (kk x rfl)
theorem g_astoreNV (C : Cx Z a0 p s m meth c bs ml own nm rt) (X : Stand p l e R s m args below meth c T locs cells slots) {k : Fin 4} {x : Addr} (hd : decode bs pc = .ok (.astore_n k, 1)) (F : Addr → Array Slot) (hl : storeLocals Ls k.val (.ref x) = some (F x)) (hp : pc + 1 = pc') (kk : ∀ v, v = x → Go p e below s m Q Cc Sc T pc' (F v) St) : Go p e below s m Q Cc Sc T pc Ls (.ref x :: St) := g_astoreN C X hd (F x) hl hp (kk x rfl)
theorem g_iinc (C : Cx Z a0 p s m meth c bs ml own nm rt) (X : Stand p l e R s m args below meth c T locs cells slots) {cst : Int} {x : Int32} (hd : decode bs pc = .ok (.iinc k cst, 3)) (hl : Ls[k]? = some (.val (.int x))) (Ls' : Array Slot) (hl' : storeLocals Ls k (.int (x + Int32.ofInt cst)) = some Ls') (hp : pc + 3 = pc') (kk : Go p e below s m Q Cc Sc T pc' Ls' St) : Go p e below s m Q Cc Sc T pc Ls St := by
  subst hp
  exact Go.via (fun t q => XS.iinc X.here C.x rfl (hb C.b hd) hl hl' q) kk
theorem g_iincV (C : Cx Z a0 p s m meth c bs ml own nm rt) (X : Stand p l e R s m args below meth c T locs cells slots) {cst : Int} {x y : Int32} (hd : decode bs pc = .ok (.iinc k cst, 3)) (hl : Ls[k]? = some (.val (.int x))) (hy : Int32.ofInt cst = y) (F : Int32 → Array Slot) (hl' : storeLocals Ls k (.int (x + y)) = some (F (x + y))) (hp : pc + 3 = pc') (kk : ∀ v, v = x + y → Go p e below s m Q Cc Sc T pc' (F v) St) : Go p e below s m Q Cc Sc T pc Ls St := g_iinc C X hd hl (F (x + y)) (by rw [hy]; exact hl') hp (kk _ rfl)
theorem g_iconst (C : Cx Z a0 p s m meth c bs ml own nm rt) (X : Stand p l e R s m args below meth c T locs cells slots) {i : Int} (v : Int32) (hd : decode bs pc = .ok (.iconst i, 1)) (hv : Int32.ofInt i = v) (hp : pc + 1 = pc') (kk : Go p e below s m Q Cc Sc T pc' Ls (.int v :: St)) : Go p e below s m Q Cc Sc T pc Ls St := by
  subst hp hv
  exact Go.via (fun t q => XS.iconst X.here C.x rfl (hb C.b hd) q) kk
theorem g_bipush (C : Cx Z a0 p s m meth c bs ml own nm rt) (X : Stand p l e R s m args below meth c T locs cells slots) {i : Int} (v : Int32) (hd : decode bs pc = .ok (.bipush i, 2)) (hv : (Int8.ofInt i).toInt32 = v) (hp : pc + 2 = pc') (kk : Go p e below s m Q Cc Sc T pc' Ls (.int v :: St)) : Go p e below s m Q Cc Sc T pc Ls St := by
  subst hp hv
  exact Go.via (fun t q => XS.bipush X.here C.x rfl (hb C.b hd) q) kk
theorem g_sipush (C : Cx Z a0 p s m meth c bs ml own nm rt) (X : Stand p l e R s m args below meth c T locs cells slots) {i : Int} (v : Int32) (hd : decode bs pc = .ok (.sipush i, 3)) (hv : (Int16.ofInt i).toInt32 = v) (hp : pc + 3 = pc') (kk : Go p e below s m Q Cc Sc T pc' Ls (.int v :: St)) : Go p e below s m Q Cc Sc T pc Ls St := by
  subst hp hv
  exact Go.via (fun t q => XS.sipush X.here C.x rfl (hb C.b hd) q) kk
theorem g_lconst (C : Cx Z a0 p s m meth c bs ml own nm rt) (X : Stand p l e R s m args below meth c T locs cells slots) {i : Fin 2} (v : Int64) (hd : decode bs pc = .ok (.lconst i, 1)) (hv : Int64.ofNat i = v) (hp : pc + 1 = pc') (kk : Go p e below s m Q Cc Sc T pc' Ls (.long v :: St)) : Go p e below s m Q Cc Sc T pc Ls St := by
  subst hp hv
  exact Go.via (fun t q => XS.lconst X.here C.x rfl (hb C.b hd) q) kk
theorem g_ldc (C : Cx Z a0 p s m meth c bs ml own nm rt) (X : Stand p l e R s m args below meth c T locs cells slots) {i : Nat} {v : Int32} (hd : decode bs pc = .ok (.ldc i, 2)) (hv : (Jvm.Cond.constant own i v).before a0 Z = true) (hp : pc + 2 = pc') (kk : Go p e below s m Q Cc Sc T pc' Ls (.int v :: St)) : Go p e below s m Q Cc Sc T pc Ls St := by
  subst hp
  exact Go.via (fun t q => X.ldcInt C.x C.o (mvT C.z hv) (g := mkF m pc Ls St) rfl (hb C.b hd) t q) kk
theorem g_ldcL (C : Cx Z a0 p s m meth c bs ml own nm rt) (X : Stand p l e R s m args below meth c T locs cells slots) {i : Nat} {v : Int64} (hd : decode bs pc = .ok (.ldc2_w i, 3)) (hv : (Jvm.Cond.constantLong own i v).before a0 Z = true) (hp : pc + 3 = pc') (kk : Go p e below s m Q Cc Sc T pc' Ls (.long v :: St)) : Go p e below s m Q Cc Sc T pc Ls St := by
  subst hp
  exact Go.via (fun t q => X.ldc2Long C.x C.o (mvT C.z hv) (g := mkF m pc Ls St) rfl (hb C.b hd) t q) kk
theorem g_iadd (C : Cx Z a0 p s m meth c bs ml own nm rt) (X : Stand p l e R s m args below meth c T locs cells slots) {x y : Int32} (hd : decode bs pc = .ok (.iadd, 1))  (hp : pc + 1 = pc') (kk : Go p e below s m Q Cc Sc T pc' Ls (.int (x + y) :: St)) : Go p e below s m Q Cc Sc T pc Ls (.int y :: .int x :: St) := by
  subst hp
  exact Go.via (fun t q => XS.iadd X.here C.x rfl (hb C.b hd) rfl q) kk
theorem g_isub (C : Cx Z a0 p s m meth c bs ml own nm rt) (X : Stand p l e R s m args below meth c T locs cells slots) {x y : Int32} (hd : decode bs pc = .ok (.isub, 1))  (hp : pc + 1 = pc') (kk : Go p e below s m Q Cc Sc T pc' Ls (.int (x - y) :: St)) : Go p e below s m Q Cc Sc T pc Ls (.int y :: .int x :: St) := by
  subst hp
  exact Go.via (fun t q => XS.isub X.here C.x rfl (hb C.b hd) rfl q) kk
theorem g_imul (C : Cx Z a0 p s m meth c bs ml own nm rt) (X : Stand p l e R s m args below meth c T locs cells slots) {x y : Int32} (hd : decode bs pc = .ok (.imul, 1))  (hp : pc + 1 = pc') (kk : Go p e below s m Q Cc Sc T pc' Ls (.int (x * y) :: St)) : Go p e below s m Q Cc Sc T pc Ls (.int y :: .int x :: St) := by
  subst hp
  exact Go.via (fun t q => XS.imul X.here C.x rfl (hb C.b hd) rfl q) kk
theorem g_iand (C : Cx Z a0 p s m meth c bs ml own nm rt) (X : Stand p l e R s m args below meth c T locs cells slots) {x y : Int32} (hd : decode bs pc = .ok (.iand, 1))  (hp : pc + 1 = pc') (kk : Go p e below s m Q Cc Sc T pc' Ls (.int (x &&& y) :: St)) : Go p e below s m Q Cc Sc T pc Ls (.int y :: .int x :: St) := by
  subst hp
  exact Go.via (fun t q => XS.iand X.here C.x rfl (hb C.b hd) rfl q) kk
theorem g_ior (C : Cx Z a0 p s m meth c bs ml own nm rt) (X : Stand p l e R s m args below meth c T locs cells slots) {x y : Int32} (hd : decode bs pc = .ok (.ior, 1))  (hp : pc + 1 = pc') (kk : Go p e below s m Q Cc Sc T pc' Ls (.int (x ||| y) :: St)) : Go p e below s m Q Cc Sc T pc Ls (.int y :: .int x :: St) := by
  subst hp
  exact Go.via (fun t q => XS.ior X.here C.x rfl (hb C.b hd) rfl q) kk
theorem g_ixor (C : Cx Z a0 p s m meth c bs ml own nm rt) (X : Stand p l e R s m args below meth c T locs cells slots) {x y : Int32} (hd : decode bs pc = .ok (.ixor, 1))  (hp : pc + 1 = pc') (kk : Go p e below s m Q Cc Sc T pc' Ls (.int (x ^^^ y) :: St)) : Go p e below s m Q Cc Sc T pc Ls (.int y :: .int x :: St) := by
  subst hp
  exact Go.via (fun t q => XS.ixor X.here C.x rfl (hb C.b hd) rfl q) kk
theorem g_idiv (C : Cx Z a0 p s m meth c bs ml own nm rt) (X : Stand p l e R s m args below meth c T locs cells slots) {x y : Int32} (hd : decode bs pc = .ok (.idiv, 1)) (hy : y ≠ 0) (hp : pc + 1 = pc') (kk : Go p e below s m Q Cc Sc T pc' Ls (.int (x / y) :: St)) : Go p e below s m Q Cc Sc T pc Ls (.int y :: .int x :: St) := by
  subst hp
  exact Go.via (fun t q => XS.idiv X.here C.x rfl (hb C.b hd) rfl hy q) kk
theorem g_ladd (C : Cx Z a0 p s m meth c bs ml own nm rt) (X : Stand p l e R s m args below meth c T locs cells slots) {x y : Int64} (hd : decode bs pc = .ok (.ladd, 1))  (hp : pc + 1 = pc') (kk : Go p e below s m Q Cc Sc T pc' Ls (.long (x + y) :: St)) : Go p e below s m Q Cc Sc T pc Ls (.long y :: .long x :: St) := by
  subst hp
  exact Go.via (fun t q => XS.ladd X.here C.x rfl (hb C.b hd) rfl q) kk
theorem g_lsub (C : Cx Z a0 p s m meth c bs ml own nm rt) (X : Stand p l e R s m args below meth c T locs cells slots) {x y : Int64} (hd : decode bs pc = .ok (.lsub, 1))  (hp : pc + 1 = pc') (kk : Go p e below s m Q Cc Sc T pc' Ls (.long (x - y) :: St)) : Go p e below s m Q Cc Sc T pc Ls (.long y :: .long x :: St) := by
  subst hp
  exact Go.via (fun t q => XS.lsub X.here C.x rfl (hb C.b hd) rfl q) kk
theorem g_lmul (C : Cx Z a0 p s m meth c bs ml own nm rt) (X : Stand p l e R s m args below meth c T locs cells slots) {x y : Int64} (hd : decode bs pc = .ok (.lmul, 1))  (hp : pc + 1 = pc') (kk : Go p e below s m Q Cc Sc T pc' Ls (.long (x * y) :: St)) : Go p e below s m Q Cc Sc T pc Ls (.long y :: .long x :: St) := by
  subst hp
  exact Go.via (fun t q => XS.lmul X.here C.x rfl (hb C.b hd) rfl q) kk
theorem g_land (C : Cx Z a0 p s m meth c bs ml own nm rt) (X : Stand p l e R s m args below meth c T locs cells slots) {x y : Int64} (hd : decode bs pc = .ok (.land, 1))  (hp : pc + 1 = pc') (kk : Go p e below s m Q Cc Sc T pc' Ls (.long (x &&& y) :: St)) : Go p e below s m Q Cc Sc T pc Ls (.long y :: .long x :: St) := by
  subst hp
  exact Go.via (fun t q => XS.land X.here C.x rfl (hb C.b hd) rfl q) kk
theorem g_lor (C : Cx Z a0 p s m meth c bs ml own nm rt) (X : Stand p l e R s m args below meth c T locs cells slots) {x y : Int64} (hd : decode bs pc = .ok (.lor, 1))  (hp : pc + 1 = pc') (kk : Go p e below s m Q Cc Sc T pc' Ls (.long (x ||| y) :: St)) : Go p e below s m Q Cc Sc T pc Ls (.long y :: .long x :: St) := by
  subst hp
  exact Go.via (fun t q => XS.lor X.here C.x rfl (hb C.b hd) rfl q) kk
theorem g_lxor (C : Cx Z a0 p s m meth c bs ml own nm rt) (X : Stand p l e R s m args below meth c T locs cells slots) {x y : Int64} (hd : decode bs pc = .ok (.lxor, 1))  (hp : pc + 1 = pc') (kk : Go p e below s m Q Cc Sc T pc' Ls (.long (x ^^^ y) :: St)) : Go p e below s m Q Cc Sc T pc Ls (.long y :: .long x :: St) := by
  subst hp
  exact Go.via (fun t q => XS.lxor X.here C.x rfl (hb C.b hd) rfl q) kk
theorem g_ldiv (C : Cx Z a0 p s m meth c bs ml own nm rt) (X : Stand p l e R s m args below meth c T locs cells slots) {x y : Int64} (hd : decode bs pc = .ok (.ldiv, 1)) (hy : y ≠ 0) (hp : pc + 1 = pc') (kk : Go p e below s m Q Cc Sc T pc' Ls (.long (x / y) :: St)) : Go p e below s m Q Cc Sc T pc Ls (.long y :: .long x :: St) := by
  subst hp
  exact Go.via (fun t q => XS.ldiv X.here C.x rfl (hb C.b hd) rfl hy q) kk
theorem g_irem (C : Cx Z a0 p s m meth c bs ml own nm rt) (X : Stand p l e R s m args below meth c T locs cells slots) {x y : Int32} (hd : decode bs pc = .ok (.irem, 1)) (hy : y ≠ 0) (hp : pc + 1 = pc') (kk : Go p e below s m Q Cc Sc T pc' Ls (.int (x % y) :: St)) : Go p e below s m Q Cc Sc T pc Ls (.int y :: .int x :: St) := by
  subst hp
  exact Go.via (fun t q => iremM (g := mkF m pc Ls (.int y :: .int x :: St)) X C.x rfl (hb C.b hd) rfl hy q) kk
theorem g_lrem (C : Cx Z a0 p s m meth c bs ml own nm rt) (X : Stand p l e R s m args below meth c T locs cells slots) {x y : Int64} (hd : decode bs pc = .ok (.lrem, 1)) (hy : y ≠ 0) (hp : pc + 1 = pc') (kk : Go p e below s m Q Cc Sc T pc' Ls (.long (x % y) :: St)) : Go p e below s m Q Cc Sc T pc Ls (.long y :: .long x :: St) := by
  subst hp
  rw [← lrem_mod] at kk
  exact Go.via (fun t q => XS.lrem X.here C.x rfl (hb C.b hd) rfl hy q) kk
theorem g_ishl (C : Cx Z a0 p s m meth c bs ml own nm rt) (X : Stand p l e R s m args below meth c T locs cells slots) {x y : Int32} (hd : decode bs pc = .ok (.ishl, 1))  (hp : pc + 1 = pc') (kk : Go p e below s m Q Cc Sc T pc' Ls (.int (x <<< (y &&& 31)) :: St)) : Go p e below s m Q Cc Sc T pc Ls (.int y :: .int x :: St) := by
  subst hp
  exact Go.via (fun t q => XS.ishl X.here C.x rfl (hb C.b hd) rfl q) kk
theorem g_ishr (C : Cx Z a0 p s m meth c bs ml own nm rt) (X : Stand p l e R s m args below meth c T locs cells slots) {x y : Int32} (hd : decode bs pc = .ok (.ishr, 1))  (hp : pc + 1 = pc') (kk : Go p e below s m Q Cc Sc T pc' Ls (.int (x >>> (y &&& 31)) :: St)) : Go p e below s m Q Cc Sc T pc Ls (.int y :: .int x :: St) := by
  subst hp
  exact Go.via (fun t q => XS.ishr X.here C.x rfl (hb C.b hd) rfl q) kk
theorem g_iushr (C : Cx Z a0 p s m meth c bs ml own nm rt) (X : Stand p l e R s m args below meth c T locs cells slots) {x y : Int32} (hd : decode bs pc = .ok (.iushr, 1))  (hp : pc + 1 = pc') (kk : Go p e below s m Q Cc Sc T pc' Ls (.int ((x.toUInt32 >>> (y &&& 31).toUInt32).toInt32) :: St)) : Go p e below s m Q Cc Sc T pc Ls (.int y :: .int x :: St) := by
  subst hp
  exact Go.via (fun t q => XS.iushr X.here C.x rfl (hb C.b hd) rfl q) kk
theorem g_lshl (C : Cx Z a0 p s m meth c bs ml own nm rt) (X : Stand p l e R s m args below meth c T locs cells slots) {x : Int64} {y : Int32} (hd : decode bs pc = .ok (.lshl, 1))  (hp : pc + 1 = pc') (kk : Go p e below s m Q Cc Sc T pc' Ls (.long (x <<< (y &&& 0x3f).toInt64) :: St)) : Go p e below s m Q Cc Sc T pc Ls (.int y :: .long x :: St) := by
  subst hp
  exact Go.via (fun t q => XS.lshl X.here C.x rfl (hb C.b hd) rfl q) kk
theorem g_lshr (C : Cx Z a0 p s m meth c bs ml own nm rt) (X : Stand p l e R s m args below meth c T locs cells slots) {x : Int64} {y : Int32} (hd : decode bs pc = .ok (.lshr, 1))  (hp : pc + 1 = pc') (kk : Go p e below s m Q Cc Sc T pc' Ls (.long (x >>> (y &&& 0x3f).toInt64) :: St)) : Go p e below s m Q Cc Sc T pc Ls (.int y :: .long x :: St) := by
  subst hp
  exact Go.via (fun t q => XS.lshr X.here C.x rfl (hb C.b hd) rfl q) kk
theorem g_lushr (C : Cx Z a0 p s m meth c bs ml own nm rt) (X : Stand p l e R s m args below meth c T locs cells slots) {x : Int64} {y : Int32} (hd : decode bs pc = .ok (.lushr, 1))  (hp : pc + 1 = pc') (kk : Go p e below s m Q Cc Sc T pc' Ls (.long ((x.toUInt64 >>> (y &&& 0x3f).toInt64.toUInt64).toInt64) :: St)) : Go p e below s m Q Cc Sc T pc Ls (.int y :: .long x :: St) := by
  subst hp
  exact Go.via (fun t q => XS.lushr X.here C.x rfl (hb C.b hd) rfl q) kk
theorem g_i2b (C : Cx Z a0 p s m meth c bs ml own nm rt) (X : Stand p l e R s m args below meth c T locs cells slots) {x : Int32} (hd : decode bs pc = .ok (.i2b, 1))  (hp : pc + 1 = pc') (kk : Go p e below s m Q Cc Sc T pc' Ls (.int (x.toInt8.toInt32) :: St)) : Go p e below s m Q Cc Sc T pc Ls (.int x :: St) := by
  subst hp
  exact Go.via (fun t q => XS.i2b X.here C.x rfl (hb C.b hd) rfl q) kk
theorem g_i2l (C : Cx Z a0 p s m meth c bs ml own nm rt) (X : Stand p l e R s m args below meth c T locs cells slots) {x : Int32} (hd : decode bs pc = .ok (.i2l, 1))  (hp : pc + 1 = pc') (kk : Go p e below s m Q Cc Sc T pc' Ls (.long (x.toInt64) :: St)) : Go p e below s m Q Cc Sc T pc Ls (.int x :: St) := by
  subst hp
  exact Go.via (fun t q => XS.i2l X.here C.x rfl (hb C.b hd) rfl q) kk
theorem g_l2i (C : Cx Z a0 p s m meth c bs ml own nm rt) (X : Stand p l e R s m args below meth c T locs cells slots) {x : Int64} (hd : decode bs pc = .ok (.l2i, 1))  (hp : pc + 1 = pc') (kk : Go p e below s m Q Cc Sc T pc' Ls (.int (x.toInt32) :: St)) : Go p e below s m Q Cc Sc T pc Ls (.long x :: St) := by
  subst hp
  exact Go.via (fun t q => XS.l2i X.here C.x rfl (hb C.b hd) rfl q) kk
theorem g_ineg (C : Cx Z a0 p s m meth c bs ml own nm rt) (X : Stand p l e R s m args below meth c T locs cells slots) {x : Int32} (hd : decode bs pc = .ok (.ineg, 1))  (hp : pc + 1 = pc') (kk : Go p e below s m Q Cc Sc T pc' Ls (.int (-x) :: St)) : Go p e below s m Q Cc Sc T pc Ls (.int x :: St) := by
  subst hp
  exact Go.via (fun t q => XS.ineg X.here C.x rfl (hb C.b hd) rfl q) kk
theorem g_lneg (C : Cx Z a0 p s m meth c bs ml own nm rt) (X : Stand p l e R s m args below meth c T locs cells slots) {x : Int64} (hd : decode bs pc = .ok (.lneg, 1))  (hp : pc + 1 = pc') (kk : Go p e below s m Q Cc Sc T pc' Ls (.long (-x) :: St)) : Go p e below s m Q Cc Sc T pc Ls (.long x :: St) := by
  subst hp
  exact Go.via (fun t q => XS.lneg X.here C.x rfl (hb C.b hd) rfl q) kk
theorem g_dup (C : Cx Z a0 p s m meth c bs ml own nm rt) (X : Stand p l e R s m args below meth c T locs cells slots) {x : Value} (hd : decode bs pc = .ok (.dup, 1)) (hc : x.category = 1) (hp : pc + 1 = pc') (kk : Go p e below s m Q Cc Sc T pc' Ls (x :: x :: St)) : Go p e below s m Q Cc Sc T pc Ls (x :: St) := by
  subst hp
  exact Go.via (fun t q => XS.dup X.here C.x rfl (hb C.b hd) rfl hc q) kk
theorem g_pop (C : Cx Z a0 p s m meth c bs ml own nm rt) (X : Stand p l e R s m args below meth c T locs cells slots) {x : Value} (hd : decode bs pc = .ok (.pop, 1)) (hc : x.category = 1) (hp : pc + 1 = pc') (kk : Go p e below s m Q Cc Sc T pc' Ls St) : Go p e below s m Q Cc Sc T pc Ls (x :: St) := by
  subst hp
  exact Go.via (fun t q => XS.pop X.here C.x rfl (hb C.b hd) rfl hc q) kk
theorem g_goto (C : Cx Z a0 p s m meth c bs ml own nm rt) (X : Stand p l e R s m args below meth c T locs cells slots) {o : Int} (hd : decode bs pc = .ok (.goto o, 3)) (ho : 0 ≤ (pc : Int) + o) (hp : ((pc : Int) + o).toNat = pc') (kk : Go p e below s m Q Cc Sc T pc' Ls St) : Go p e below s m Q Cc Sc T pc Ls St := Go.via (fun t q => XS.goto X.here C.x rfl rfl (hb C.b hd) ho hp q) kk
/-- what a comparison says of two ints -/
def Cd (cd : ClassFile.Cond) (x y : Int) : Prop := match cd with | .eq => x = y | .ne => ¬ x = y | .lt => x < y | .ge => y ≤ x | .gt => y < x | .le => x ≤ y
def ng : ClassFile.Cond → ClassFile.Cond | .eq => .ne | .ne => .eq | .lt => .ge | .ge => .lt | .gt => .le | .le => .gt
theorem cd_n {cd : ClassFile.Cond} {x y : Int} (h : ¬ Cd cd x y) : Cd (ng cd) x y := by
  cases cd <;> simp only [Cd, ng] at h ⊢ <;> omega
theorem cd_t {cd : ClassFile.Cond} {x y : Int32} : if_icmp.holds cd x y = true ↔ Cd cd x.toInt y.toInt := by
  cases cd <;> simp [if_icmp.holds, Cd, Int32.lt_iff_toInt_lt, Int32.le_iff_toInt_le, Int32.toInt_inj]
theorem cd_0 {cd : ClassFile.Cond} {x : Int32} : ifCond.holds cd x = true ↔ Cd cd x.toInt 0 := by
  rw [if0, cd_t]; rfl
theorem g_icmp (C : Cx Z a0 p s m meth c bs ml own nm rt) (X : Stand p l e R s m args below meth c T locs cells slots) {cd : ClassFile.Cond} {o : Int} {x y : Int32} (hd : decode bs pc = .ok (.if_icmp cd o, 3)) (ho : 0 ≤ (pc : Int) + o) (hq : ((pc : Int) + o).toNat = pt) (hp : pc + 3 = pc') (kt : Cd cd x.toInt y.toInt → Go p e below s m Q Cc Sc T pt Ls St) (kf : Cd (ng cd) x.toInt y.toInt → Go p e below s m Q Cc Sc T pc' Ls St) : Go p e below s m Q Cc Sc T pc Ls (.int y :: .int x :: St) := by
  subst hp
  by_cases q : Cd cd x.toInt y.toInt
  · exact Go.via (fun t q' => XS.icmpYes X.here C.x rfl rfl (hb C.b hd) rfl (cd_t.mpr q) ho hq q') (kt q)
  · exact Go.via (fun t q' => XS.icmpNo X.here C.x rfl (hb C.b hd) rfl (Bool.eq_false_iff.mpr fun z => q (cd_t.mp z)) q') (kf (cd_n q))
theorem g_if (C : Cx Z a0 p s m meth c bs ml own nm rt) (X : Stand p l e R s m args below meth c T locs cells slots) {cd : ClassFile.Cond} {o : Int} {x : Int32} (hd : decode bs pc = .ok (.ifCond cd o, 3)) (ho : 0 ≤ (pc : Int) + o) (hq : ((pc : Int) + o).toNat = pt) (hp : pc + 3 = pc') (kt : Cd cd x.toInt 0 → Go p e below s m Q Cc Sc T pt Ls St) (kf : Cd (ng cd) x.toInt 0 → Go p e below s m Q Cc Sc T pc' Ls St) : Go p e below s m Q Cc Sc T pc Ls (.int x :: St) := by
  subst hp
  by_cases q : Cd cd x.toInt 0
  · exact Go.via (fun t q' => XS.ifYes X.here C.x rfl rfl (hb C.b hd) rfl (cd_0.mpr q) ho hq q') (kt q)
  · exact Go.via (fun t q' => XS.ifNo X.here C.x rfl (hb C.b hd) rfl (Bool.eq_false_iff.mpr fun z => q (cd_0.mp z)) q') (kf (cd_n q))
theorem cd_l {cd : ClassFile.Cond} {x y : Int64} : Cd cd (lcmpW x y).toInt 0 ↔ Cd cd x.toInt y.toInt := by
  obtain ⟨h1, h2, h3⟩ := c_lcmp x y
  generalize (lcmpW x y).toInt = w at *
  generalize x.toInt = u at *
  generalize y.toInt = v at *
  cases cd <;> simp only [Cd] <;> omega
theorem g_lcmpif (C : Cx Z a0 p s m meth c bs ml own nm rt) (X : Stand p l e R s m args below meth c T locs cells slots) {cd : ClassFile.Cond} {o : Int} {x y : Int64} {pm : Nat} (hd0 : decode bs pc = .ok (.lcmp, 1)) (hm : pc + 1 = pm) (hd : decode bs pm = .ok (.ifCond cd o, 3)) (ho : 0 ≤ (pm : Int) + o) (hq : ((pm : Int) + o).toNat = pt) (hp : pm + 3 = pc') (kt : Cd cd x.toInt y.toInt → Go p e below s m Q Cc Sc T pt Ls St) (kf : Cd (ng cd) x.toInt y.toInt → Go p e below s m Q Cc Sc T pc' Ls St) : Go p e below s m Q Cc Sc T pc Ls (.long y :: .long x :: St) := by
  subst hm
  refine Go.via (fun t q' => XS.lcmp X.here C.x rfl (hb C.b hd0) rfl q') ?_
  exact g_if C X hd ho hq hp (fun z => kt (cd_l.mp z)) (fun z => kf (cd_l.mp z))
theorem g_ireturnN (C : Cx Z a0 p s m meth c bs ml own nm rt) (X : Stand p l e R s m args below meth c T locs cells slots) {z : Int32} {t : FieldType} (hd : decode bs pc = .ok (.ireturn, 1)) (hr : rt = some t) (ht : t = .boolean ∨ t = .byte ∨ t = .char ∨ t = .short) (hQ : Q (some (.int (nar t z))) T.heap locs) (hC : cells ≤ Cc) (hS : slots ≤ Sc) : Go p e below s m Q Cc Sc T pc Ls (.int z :: St) := by
  subst hr
  obtain ⟨fs, hr, hrun, hended, hW, hsame⟩ := X.leave (v := some (.int (nar t z))) (fun h => by rw [C.r] at h; cases h) C.lk
  refine ⟨_, _, ?_, hrun, hended, _, _, rfl, hQ, ⟨_, rfl⟩, hW, hsame.mono hC hS⟩
  exact retN X C.x C.r ht (hb C.b hd) hr
theorem g_ireturn (C : Cx Z a0 p s m meth c bs ml own nm rt) (X : Stand p l e R s m args below meth c T locs cells slots) {z : Int32} (hd : decode bs pc = .ok (.ireturn, 1)) (hr : rt = some .int) (hQ : Q (some (.int z)) T.heap locs) (hC : cells ≤ Cc) (hS : slots ≤ Sc) : Go p e below s m Q Cc Sc T pc Ls (.int z :: St) := by
  subst hr
  obtain ⟨fs, hr, hrun, hended, hW, hsame⟩ := X.leave (v := some (.int z)) (fun h => by rw [C.r] at h; cases h) C.lk
  refine ⟨_, _, ?_, hrun, hended, _, _, rfl, hQ, ⟨_, rfl⟩, hW, hsame.mono hC hS⟩
  exact retOut X C.x C.r rfl (Or.inl ⟨rfl, Or.inl rfl, z, rfl⟩) (hb C.b hd) hr
theorem g_lreturn (C : Cx Z a0 p s m meth c bs ml own nm rt) (X : Stand p l e R s m args below meth c T locs cells slots) {z : Int64} (hd : decode bs pc = .ok (.lreturn, 1)) (hr : rt = some .long) (hQ : Q (some (.long z)) T.heap locs) (hC : cells ≤ Cc) (hS : slots ≤ Sc) : Go p e below s m Q Cc Sc T pc Ls (.long z :: St) := by
  subst hr
  obtain ⟨fs, hr, hrun, hended, hW, hsame⟩ := X.leave (v := some (.long z)) (fun h => by rw [C.r] at h; cases h) C.lk
  refine ⟨_, _, ?_, hrun, hended, _, _, rfl, hQ, ⟨_, rfl⟩, hW, hsame.mono hC hS⟩
  exact retOut X C.x C.r rfl (Or.inr (Or.inl ⟨rfl, rfl, z, rfl⟩)) (hb C.b hd) hr
theorem g_areturn (C : Cx Z a0 p s m meth c bs ml own nm rt) (X : Stand p l e R s m args below meth c T locs cells slots) {z : Addr} {t : FieldType} (hd : decode bs pc = .ok (.areturn, 1)) (hr : rt = some t) (ht : t.isReference = true) (hn : narrow t (.ref z) = .ref z) (hQ : Q (some (.ref z)) T.heap locs) (hC : cells ≤ Cc) (hS : slots ≤ Sc) : Go p e below s m Q Cc Sc T pc Ls (.ref z :: St) := by
  subst hr
  obtain ⟨fs, hr, hrun, hended, hW, hsame⟩ := X.leave (v := some (.ref z)) (fun h => by rw [C.r] at h; cases h) C.lk
  refine ⟨_, _, ?_, hrun, hended, _, _, rfl, hQ, ⟨_, rfl⟩, hW, hsame.mono hC hS⟩
  exact retOut X C.x C.r hn (Or.inr (Or.inr (Or.inr (Or.inr ⟨rfl, ht, rfl⟩)))) (hb C.b hd) hr
theorem g_return (C : Cx Z a0 p s m meth c bs ml own nm rt) (X : Stand p l e R s m args below meth c T locs cells slots)  (hd : decode bs pc = .ok (.return_, 1)) (hr : rt = none) (hQ : Q none T.heap locs) (hC : cells ≤ Cc) (hS : slots ≤ Sc) : Go p e below s m Q Cc Sc T pc Ls [] := by
  subst hr
  obtain ⟨fs, hr, hrun, hended, hW, hsame⟩ := X.leave (v := none) (fun _ => rfl) C.lk
  refine ⟨_, _, ?_, hrun, hended, _, _, rfl, hQ, ⟨_, rfl⟩, hW, hsame.mono hC hS⟩
  exact X.returnOut C.x C.r (hb C.b hd) hr
/-- an array: its kind, its length, what each place holds -/
def Aw (Z : State) (h : Heap) (a : Addr) (ty : FieldType) (n : Nat) (f : Nat → Value) : Prop := ∃ cl : Cell, Arr Z h a cl ty ∧ cl.slots.size = n ∧ n < 2 ^ 31 ∧ ∀ j, j < n → cl.slots[j]? = some (f j)
variable {a b : Addr} {ty : FieldType} {n : Nat} {f f' : Nat → Value}
theorem Aw.ext (A : Aw Z h a ty n f) (E : Ext h h') : Aw Z h' a ty n f := by obtain ⟨cl, A, r⟩ := A; exact ⟨cl, A.ext E, r⟩
theorem Aw.other {sl : Nat} {v : Value} (A : Aw Z h b ty n f) (W : Wr h h' a sl v) (q : b ≠ a) : Aw Z h' b ty n f := by obtain ⟨cl, A, r⟩ := A; exact ⟨cl, A.other W q, r⟩
theorem Aw.keep {ws : List Addr} (A : Aw Z h a ty n f) (K : Keep h h' ws) (q : a ∉ ws) : Aw Z h' a ty n f := by obtain ⟨cl, A, r⟩ := A; exact ⟨cl, ⟨K.2.1 a cl A.1 q, A.2⟩, r⟩
theorem Aw.lt (A : Aw Z h a ty n f) : a < h.size := by obtain ⟨cl, A, r⟩ := A; exact A.lt
theorem Aw.of (A : Aw Z h a ty n f) (q : ∀ j, j < n → f j = f' j) : Aw Z h a ty n f' := by obtain ⟨cl, A, r1, r2, r3⟩ := A; exact ⟨cl, A, r1, r2, fun j hj => by rw [r3 j hj, q j hj]⟩
theorem i_nn {j : Int32} (h0 : 0 ≤ j.toInt) : (j.toNatClampNeg : Int) = j.toInt := by simp only [Int32.toNatClampNeg]; omega
theorem aw_in {cl : Cell} {j : Int32} (S : cl.slots.size = n) (h0 : 0 ≤ j.toInt) (h1 : j.toInt < n) : ¬ (j < 0 ∨ cl.slots.size ≤ j.toNatClampNeg) := by
  have := i_nn h0
  rw [Int32.lt_iff_toInt_lt, S]; simp only [Int32.reduceToInt]; omega
theorem aw_len (q : n < 2 ^ 31) : (n.toInt32).toInt = n := len_toInt q
theorem g_newarray {aty : ArrayType} {nn : Int32} {cap : Nat} (C : Cx Z a0 p s m meth c bs ml own nm rt) (X : Stand p l e R s m args below meth c T locs cells slots) (hd : decode bs pc = .ok (.newarray aty, 2)) (eT : T.heap = h) (w : (Jvm.Cond.arrayClass (newarray.typeOf aty)).before a0 Z = true) (h0 : 0 ≤ nn.toInt) (hcap : nn.toInt ≤ cap) (hb8 : cap * 8 ≤ 536870912) (hc : cells + 1 ≤ R.cells) (hl : slots + cap ≤ R.slots) (hp : pc + 2 = pc')
    (kk : ∀ T' h', Stand p l e R s m args below meth c T' locs (cells + 1) (slots + cap) → T'.heap = h' → Ext h h' → h.size < h'.size → ∀ a, a = h.size → Aw Z h' a (newarray.typeOf aty) nn.toInt.toNat (fun _ => defaultValue (newarray.typeOf aty)) → Go p e below s m Q Cc Sc T' pc' Ls (.ref a :: St)) : Go p e below s m Q Cc Sc T pc Ls (.int nn :: St) := by
  subst hp
  have hn : ¬ nn < 0 := by rw [Int32.lt_iff_toInt_lt]; simp only [Int32.reduceToInt]; omega
  have hi := i_nn h0
  obtain ⟨T', h', cA, X', e', E, A, st⟩ := newP X C.x C.z w eT (g := mkF m pc Ls (.int nn :: St)) rfl (hb C.b hd) rfl hn (cap := cap) (by omega) hb8 hc hl
  have hs : (newA cA (newarray.typeOf aty) nn).slots.size = nn.toInt.toNat := by rw [sz_new]; simp only [Int32.toNatClampNeg]
  have hlt := nn.toInt_lt
  refine Go.via st (kk T' h' X' e' E A.lt _ rfl ⟨_, A, hs, by omega, fun j hj => ?_⟩)
  have : j < nn.toNatClampNeg := by omega
  simp [newA, this]
theorem Aw.set {cl : Cell} {j : Int32} {v : Value} (A : Arr Z h a cl ty) (S : cl.slots.size = n) (M : n < 2 ^ 31) (H : ∀ j, j < n → cl.slots[j]? = some (f j)) (h0 : 0 ≤ j.toInt) (W : Wr h h' a j.toNatClampNeg v) : Aw Z h' a ty n (fun i => if (i : Int) = j.toInt then v else f i) := by
  refine ⟨_, A.same W, by rw [sz_set]; exact S, M, fun i hi => ?_⟩
  have hi0 := i_nn h0
  show _ = some (if (i : Int) = j.toInt then v else f i)
  by_cases q : (i : Int) = j.toInt
  · have : j.toNatClampNeg = i := by omega
    rw [if_pos q, this]
    simp [Cell.setSlot, S, hi]
  · have : j.toNatClampNeg ≠ i := by omega
    rw [if_neg q]
    simp only [Cell.setSlot]
    rw [Array.getElem?_setIfInBounds_ne this]; exact H i hi
theorem g_arraylength (C : Cx Z a0 p s m meth c bs ml own nm rt) (X : Stand p l e R s m args below meth c T locs cells slots) (hd : decode bs pc = .ok (.arraylength, 1)) (eT : T.heap = h) (A : Aw Z h a ty n f) (hp : pc + 1 = pc') (kk : ∀ v : Int32, v.toInt = n → Go p e below s m Q Cc Sc T pc' Ls (.int v :: St)) : Go p e below s m Q Cc Sc T pc Ls (.ref a :: St) := by
  subst hp
  obtain ⟨cl, A, S, M, H⟩ := A
  have : cl.slots.size.toInt32.toInt = n := by rw [S]; exact aw_len M
  exact Go.via (fun t q => X.arraylength C.x (by rw [eT]; exact A.1) (State.isArrayOf_alike C.z.alike A.2.1) (g := mkF m pc Ls (.ref a :: St)) rfl rfl (hb C.b hd) t q) (kk _ this)

theorem g_iastore {j : Int32} {x : Int32} (C : Cx Z a0 p s m meth c bs ml own nm rt) (X : Stand p l e R s m args below meth c T locs cells slots) (hd : decode bs pc = .ok (.iastore, 1)) (eT : T.heap = h) (A : Aw Z h a .int n f) (h0 : 0 ≤ j.toInt) (h1 : j.toInt < n) (hp : pc + 1 = pc')
    (kk : ∀ T' h', Stand p l e R s m args below meth c T' (locs ++ [⟨a, j.toNatClampNeg⟩]) cells slots → T'.heap = h' → Wr h h' a j.toNatClampNeg (.int x) → Aw Z h' a .int n (fun i => if (i : Int) = j.toInt then .int x else f i) → Go p e below s m Q Cc Sc T' pc' Ls St) : Go p e below s m Q Cc Sc T pc Ls (.int x :: .int j :: .ref a :: St) := by
  subst hp
  obtain ⟨cl, A, S, M, H⟩ := A
  obtain ⟨T', h', X', e', W, st⟩ := stI X C.x C.z eT A (j := j) (aw_in S h0 h1) (g := mkF m pc Ls (.int x :: .int j :: .ref a :: St)) rfl rfl (hb C.b hd)
  exact Go.via st (kk T' h' X' e' W (Aw.set A S M H h0 W))
theorem g_bastore {j : Int32} {x : Int32} (C : Cx Z a0 p s m meth c bs ml own nm rt) (X : Stand p l e R s m args below meth c T locs cells slots) (hd : decode bs pc = .ok (.bastore, 1)) (eT : T.heap = h) (A : Aw Z h a .byte n f) (h0 : 0 ≤ j.toInt) (h1 : j.toInt < n) (hp : pc + 1 = pc')
    (kk : ∀ T' h', Stand p l e R s m args below meth c T' (locs ++ [⟨a, j.toNatClampNeg⟩]) cells slots → T'.heap = h' → Wr h h' a j.toNatClampNeg (.int (nar .byte x)) → Aw Z h' a .byte n (fun i => if (i : Int) = j.toInt then .int (nar .byte x) else f i) → Go p e below s m Q Cc Sc T' pc' Ls St) : Go p e below s m Q Cc Sc T pc Ls (.int x :: .int j :: .ref a :: St) := by
  subst hp
  obtain ⟨cl, A, S, M, H⟩ := A
  obtain ⟨T', h', X', e', W, st⟩ := stB X C.x C.z eT A (j := j) (aw_in S h0 h1) (g := mkF m pc Ls (.int x :: .int j :: .ref a :: St)) rfl rfl (hb C.b hd)
  exact Go.via st (kk T' h' X' e' W (Aw.set A S M H h0 W))
theorem g_lastore {j : Int32} {x : Int64} (C : Cx Z a0 p s m meth c bs ml own nm rt) (X : Stand p l e R s m args below meth c T locs cells slots) (hd : decode bs pc = .ok (.lastore, 1)) (eT : T.heap = h) (A : Aw Z h a .long n f) (h0 : 0 ≤ j.toInt) (h1 : j.toInt < n) (hp : pc + 1 = pc')
    (kk : ∀ T' h', Stand p l e R s m args below meth c T' (locs ++ [⟨a, j.toNatClampNeg⟩]) cells slots → T'.heap = h' → Wr h h' a j.toNatClampNeg (.long x) → Aw Z h' a .long n (fun i => if (i : Int) = j.toInt then .long x else f i) → Go p e below s m Q Cc Sc T' pc' Ls St) : Go p e below s m Q Cc Sc T pc Ls (.long x :: .int j :: .ref a :: St) := by
  subst hp
  obtain ⟨cl, A, S, M, H⟩ := A
  obtain ⟨T', h', X', e', W, st⟩ := stJ X C.x C.z eT A (j := j) (aw_in S h0 h1) (g := mkF m pc Ls (.long x :: .int j :: .ref a :: St)) rfl rfl (hb C.b hd)
  exact Go.via st (kk T' h' X' e' W (Aw.set A S M H h0 W))
theorem g_iaload {j : Int32} {v : Value} (C : Cx Z a0 p s m meth c bs ml own nm rt) (X : Stand p l e R s m args below meth c T locs cells slots) (hd : decode bs pc = .ok (.iaload, 1)) (eT : T.heap = h) (A : Aw Z h a .int n f) (h0 : 0 ≤ j.toInt) (h1 : j.toInt < n) (hv : f j.toInt.toNat = v) (hp : pc + 1 = pc') (kk : Go p e below s m Q Cc Sc T pc' Ls (v :: St)) : Go p e below s m Q Cc Sc T pc Ls (.int j :: .ref a :: St) := by
  subst hp
  obtain ⟨cl, A, S, M, H⟩ := A
  have hi := i_nn h0
  have hj : j.toNatClampNeg = j.toInt.toNat := by omega
  have hat : cl.slots[j.toNatClampNeg]? = some v := by rw [hj, H _ (by omega), hv]
  exact Go.via (fun t q => X.iaload C.x (j := j) (v := v) (by rw [eT]; exact A.1) (State.isArrayOf_alike C.z.alike A.2.1) A.2.2 (aw_in S h0 h1) hat (g := mkF m pc Ls (.int j :: .ref a :: St)) rfl rfl (hb C.b hd) t q) kk
theorem g_baload {j : Int32} {v : Value} (C : Cx Z a0 p s m meth c bs ml own nm rt) (X : Stand p l e R s m args below meth c T locs cells slots) (hd : decode bs pc = .ok (.baload, 1)) (eT : T.heap = h) (A : Aw Z h a .byte n f) (h0 : 0 ≤ j.toInt) (h1 : j.toInt < n) (hv : f j.toInt.toNat = v) (hp : pc + 1 = pc') (kk : Go p e below s m Q Cc Sc T pc' Ls (v :: St)) : Go p e below s m Q Cc Sc T pc Ls (.int j :: .ref a :: St) := by
  subst hp
  obtain ⟨cl, A, S, M, H⟩ := A
  have hi := i_nn h0
  have hj : j.toNatClampNeg = j.toInt.toNat := by omega
  have hat : cl.slots[j.toNatClampNeg]? = some v := by rw [hj, H _ (by omega), hv]
  exact Go.via (fun t q => X.baloadBytes C.x (j := j) (v := v) (by rw [eT]; exact A.1) (State.isArrayOf_alike C.z.alike A.2.1) A.2.2 (aw_in S h0 h1) hat (g := mkF m pc Ls (.int j :: .ref a :: St)) rfl rfl (hb C.b hd) t q) kk
theorem g_laload {j : Int32} {v : Value} (C : Cx Z a0 p s m meth c bs ml own nm rt) (X : Stand p l e R s m args below meth c T locs cells slots) (hd : decode bs pc = .ok (.laload, 1)) (eT : T.heap = h) (A : Aw Z h a .long n f) (h0 : 0 ≤ j.toInt) (h1 : j.toInt < n) (hv : f j.toInt.toNat = v) (hp : pc + 1 = pc') (kk : Go p e below s m Q Cc Sc T pc' Ls (v :: St)) : Go p e below s m Q Cc Sc T pc Ls (.int j :: .ref a :: St) := by
  subst hp
  obtain ⟨cl, A, S, M, H⟩ := A
  have hi := i_nn h0
  have hj : j.toNatClampNeg = j.toInt.toNat := by omega
  have hat : cl.slots[j.toNatClampNeg]? = some v := by rw [hj, H _ (by omega), hv]
  exact Go.via (fun t q => X.laload C.x (j := j) (v := v) (by rw [eT]; exact A.1) (State.isArrayOf_alike C.z.alike A.2.1) A.2.2 (aw_in S h0 h1) hat (g := mkF m pc Ls (.int j :: .ref a :: St)) rfl rfl (hb C.b hd) t q) kk
theorem g_callS {y : MethodName} {bytes : ByteArray} {maxL W index : Nat} {ret : Option FieldType} {rm : Room} {argsL rest : List Value} {ps : List FieldType} {r : Option FieldType} {Qc : Option Value → Heap → List Loc → Prop} (C : Cx Z a0 p s m meth c bs ml own nm rt) (X : Stand p l e R s m args below meth c T locs cells slots)
    (hd : decode bs pc = .ok (.invokestatic index, 3)) (eT : T.heap = h)
    (w1 : (Jvm.Cond.methodLink own index y).before a0 Z = true) (w2 : (Jvm.Cond.static y).before a0 Z = true) (w3 : (Jvm.Cond.initialized y.cls).before a0 Z = true) (w4 : (Jvm.Cond.code y bytes maxL ret).before a0 Z = true)
    (hM : MetFree l y (head1 [Jvm.Cond.code y bytes maxL ret] rm) (fun a U => a = argsL.toArray ∧ Z.Warmed39 U.vm ∧ U.heap = h) (fun _ _ _ _ _ => True) (fun _ U o U' => ∃ v L, o = .returned v ∧ Qc v U'.heap L ∧ FrameEnd U o U' L rm.cells rm.slots))
    (hy : y.cls ≠ "java/lang/invoke/MethodHandle" ∧ y.cls ≠ "java/lang/invoke/VarHandle") (hpd : parseMethodDescriptor y.desc = some ⟨ps, r⟩) (hln : argsL.length = ps.length)
    (hst : St = argsL.reverse ++ rest) (hLs : Ls.size = ml) (hW : (rest.map fun v => v.category).sum ≤ W) (hfr : rm.frames + 1 ≤ R.frames) (hlo : W + (maxL + 11) + rm.locals ≤ R.locals) (hce : cells + rm.cells ≤ R.cells) (hsl : slots + rm.slots ≤ R.slots) (hp : pc + 3 = pc')
    (kk : ∀ T' v L, Stand p l e R s m args below meth c T' (locs ++ L) (cells + rm.cells) (slots + rm.slots) → Qc v T'.heap L → Go p e below s m Q Cc Sc T' pc' Ls (v.toList ++ rest)) : Go p e below s m Q Cc Sc T pc Ls St := by
  subst hp
  obtain ⟨v, _, ⟨T', L', k', n'⟩, -, X', ⟨L, hQ, l1, y1, z1⟩, st⟩ := Jvm.LawKit.callS X C.x (y := y) C.o (mvT C.z w1) (mvT C.z w2) (mvT C.z w3) (mvT C.z w4) hy (backOf (W := W) hM C.z w4 w3 hfr hlo) (g := mkF m pc Ls St) rfl (by rw [C.mx]; exact hLs) (argsL := argsL) (rest := rest) (lenOf hpd hln) hst (by show 2 * 0 + _ ≤ _; omega) (hb C.b hd) (fun _ _ => ⟨rfl, eT, hce, hsl⟩)
  dsimp only [Pt.U, Pt.locs, Pt.cells, Pt.slots] at X' l1 y1 z1 st hQ
  subst l1 y1 z1
  exact Go.via st (kk T' v L X' hQ)
theorem g_callC {y : MethodName} {bytes : ByteArray} {maxL W index : Nat} {rm : Room} {argsL rest : List Value} {ps : List FieldType} {r : Option FieldType} {Qc : Option Value → Heap → List Loc → Prop} (C : Cx Z a0 p s m meth c bs ml own nm rt) (X : Stand p l e R s m args below meth c T locs cells slots)
    (hd : decode bs pc = .ok (.invokespecial index, 3)) (eT : T.heap = h) (hy1 : y.name = "<init>") 
    (w1 : (Jvm.Cond.methodLink own index y).before a0 Z = true) (w2 : (Jvm.Cond.instanceMethod y).before a0 Z = true) (w3 : (Jvm.Cond.initialized y.cls).before a0 Z = true) (w4 : (Jvm.Cond.code y bytes maxL none).before a0 Z = true)
    (hM : MetFree l y (head1 [Jvm.Cond.code y bytes maxL none] rm) (fun a' U => a' = (Value.ref a :: argsL).toArray ∧ Z.Warmed39 U.vm ∧ U.heap = h) (fun _ _ _ _ _ => True) (fun _ U o U' => ∃ v L, o = .returned v ∧ Qc v U'.heap L ∧ FrameEnd U o U' L rm.cells rm.slots))
    (hy : y.cls ≠ "java/lang/invoke/MethodHandle" ∧ y.cls ≠ "java/lang/invoke/VarHandle") (hpd : parseMethodDescriptor y.desc = some ⟨ps, r⟩) (hln : argsL.length = ps.length)
    (hst : St = argsL.reverse ++ .ref a :: rest) (hLs : Ls.size = ml) (hW : (rest.map fun v => v.category).sum ≤ W) (hfr : rm.frames + 1 ≤ R.frames) (hlo : W + (maxL + 11) + rm.locals ≤ R.locals) (hce : cells + rm.cells ≤ R.cells) (hsl : slots + rm.slots ≤ R.slots) (hp : pc + 3 = pc')
    (kk : ∀ T' v L, Stand p l e R s m args below meth c T' (locs ++ L) (cells + rm.cells) (slots + rm.slots) → Qc v T'.heap L → Go p e below s m Q Cc Sc T' pc' Ls (v.toList ++ rest)) : Go p e below s m Q Cc Sc T pc Ls St := by
  subst hp
  obtain ⟨v, _, ⟨T', L', k', n'⟩, -, X', ⟨L, hQ, l1, y1, z1⟩, st⟩ := X.specialBack C.x (y := y) hy1 C.o (mvT C.z w1) (mvT C.z w2) (mvT C.z w4) hy (backOf (W := W) hM C.z w4 w3 hfr hlo) (g := mkF m pc Ls St) rfl (by rw [C.mx]; exact hLs) (Steps.refl _) (a := a) (argsL := argsL) (rest := rest) (lenOf hpd hln) hst (by show 2 * 0 + _ ≤ _; omega) (hb C.b hd) (fun _ _ => ⟨rfl, eT, hce, hsl⟩)
  dsimp only [Pt.U, Pt.locs, Pt.cells, Pt.slots] at X' l1 y1 z1 st hQ
  subst l1 y1 z1
  exact Go.via (fun t q => st.trans q) (kk T' v L X' hQ)
theorem g_callV {y : MethodName} {bytes : ByteArray} {maxL W index : Nat} {ret : Option FieldType} {rm : Room} {argsL rest : List Value} {ps : List FieldType} {r : Option FieldType} {Qc : Option Value → Heap → List Loc → Prop} (C : Cx Z a0 p s m meth c bs ml own nm rt) (X : Stand p l e R s m args below meth c T locs cells slots)
    (hd : decode bs pc = .ok (.invokevirtual index, 3)) (eT : T.heap = h) {K : String} (E : Exa Z h a K) (wd : (Jvm.Cond.declares y).before a0 Z = true) (wn : (Jvm.Cond.selects K y y).before a0 Z = true) 
    (w1 : (Jvm.Cond.methodLink own index y).before a0 Z = true) (w2 : (Jvm.Cond.instanceMethod y).before a0 Z = true) (w3 : (Jvm.Cond.initialized y.cls).before a0 Z = true) (w4 : (Jvm.Cond.code y bytes maxL ret).before a0 Z = true)
    (hM : MetFree l y (head1 [Jvm.Cond.code y bytes maxL ret] rm) (fun a' U => a' = (Value.ref a :: argsL).toArray ∧ Z.Warmed39 U.vm ∧ U.heap = h) (fun _ _ _ _ _ => True) (fun _ U o U' => ∃ v L, o = .returned v ∧ Qc v U'.heap L ∧ FrameEnd U o U' L rm.cells rm.slots))
    (hy : y.cls ≠ "java/lang/invoke/MethodHandle" ∧ y.cls ≠ "java/lang/invoke/VarHandle") (hpd : parseMethodDescriptor y.desc = some ⟨ps, r⟩) (hln : argsL.length = ps.length)
    (hst : St = argsL.reverse ++ .ref a :: rest) (hLs : Ls.size = ml) (hW : (rest.map fun v => v.category).sum ≤ W) (hfr : rm.frames + 1 ≤ R.frames) (hlo : W + (maxL + 11) + rm.locals ≤ R.locals) (hce : cells + rm.cells ≤ R.cells) (hsl : slots + rm.slots ≤ R.slots) (hp : pc + 3 = pc')
    (kk : ∀ T' v L, Stand p l e R s m args below meth c T' (locs ++ L) (cells + rm.cells) (slots + rm.slots) → Qc v T'.heap L → Go p e below s m Q Cc Sc T' pc' Ls (v.toList ++ rest)) : Go p e below s m Q Cc Sc T pc Ls St := by
  subst hp
  obtain ⟨cq, kq, qa, qb, qc⟩ := isOf C.z eT E
  obtain ⟨v, _, ⟨T', L', k', n'⟩, -, X', ⟨L, hQ, l1, y1, z1⟩, st⟩ := X.virtualBack C.x (y := y) (z := y) C.o (mvT C.z w1) (mvT C.z wd) (notFace_of_selects (args := #[]) (mvT C.z wn)) (mvT C.z wn) (mvT C.z w2) hy (backOf (W := W) hM C.z w4 w3 hfr hlo) qa qc (g := mkF m pc Ls St) rfl (by rw [C.mx]; exact hLs) (Steps.refl _) (argsL := argsL) (rest := rest) (lenOf hpd hln) hst (by show 2 * 0 + _ ≤ _; omega) (hb C.b hd) (fun _ _ => ⟨rfl, eT, hce, hsl⟩)
  dsimp only [Pt.U, Pt.locs, Pt.cells, Pt.slots] at X' l1 y1 z1 st hQ
  subst l1 y1 z1
  exact Go.via (fun t q => st.trans q) (kk T' v L X' hQ)
theorem g_getfield {R0 O nf df : String} {index : Nat} {v : Value} (C : Cx Z a0 p s m meth c bs ml own nm rt) (X : Stand p l e R s m args below meth c T locs cells slots) (hd : decode bs pc = .ok (.getfield index, 3)) (eT : T.heap = h) (w : (Jvm.Cond.fieldLink own index R0 nf df).before a0 Z = true) (via : Via Z R0 O nf df) (F : Fld Z h a O nf df v) (hp : pc + 3 = pc')
    (kk : ∀ T', Stand p l e R s m args below meth c T' locs cells slots → T'.heap = h → Go p e below s m Q Cc Sc T' pc' Ls (v :: St)) : Go p e below s m Q Cc Sc T pc Ls (.ref a :: St) := by
  subst hp
  obtain ⟨T', X', e', st⟩ := getF X C.x C.z C.o (host := "") (Or.inl w) via eT F (g := mkF m pc Ls (.ref a :: St)) rfl rfl (hb C.b hd)
  exact Go.via st (kk T' X' e')
theorem g_new {K : String} {index n : Nat} (C : Cx Z a0 p s m meth c bs ml own nm rt) (X : Stand p l e R s m args below meth c T locs cells slots) (hd : decode bs pc = .ok (.new index, 3)) (eT : T.heap = h) (w1 : (Jvm.Cond.classLink own index K).before a0 Z = true) (w2 : (Jvm.Cond.instantiable K n).before a0 Z = true) (w3 : (Jvm.Cond.initialized K).before a0 Z = true) (hc : cells + 1 ≤ R.cells) (hl : slots + n ≤ R.slots) (hp : pc + 3 = pc')
    (kk : ∀ T' h', Stand p l e R s m args below meth c T' locs (cells + 1) (slots + n) → T'.heap = h' → Ext h h' → h.size < h'.size → ∀ a, a = h.size → Exa Z h' a K → (∀ {O nf d : String} {ty : FieldType}, Laid Z a0 K O nf d → parseFieldDescriptor d = some ty → Fld Z h' a O nf d (defaultValue ty)) → Go p e below s m Q Cc Sc T' pc' Ls (.ref a :: St)) : Go p e below s m Q Cc Sc T pc Ls St := by
  subst hp
  obtain ⟨T', h', X', e', E, A, D, -, st⟩ := newO X C.x C.z C.o w1 w2 w3 eT (g := mkF m pc Ls St) rfl (hb C.b hd) hc hl
  exact Go.via st (kk T' h' X' e' E A.lt _ rfl A D)
theorem g_putfield {R0 O nf df K : String} {index kk' : Nat} {ty : FieldType} {v old : Value} (C : Cx Z a0 p s m meth c bs ml own nm rt) (X : Stand p l e R s m args below meth c T locs cells slots) (hd : decode bs pc = .ok (.putfield index, 3)) (eT : T.heap = h) (w : (Jvm.Cond.fieldLink own index R0 nf df).before a0 Z = true) (via : Via Z R0 O nf df) (F : Fld Z h a O nf df old) (E : Exa Z h a K) (L : (Jvm.Cond.lays K O nf df).before a0 Z = true ∨ ((Jvm.Cond.laysFinal K O nf df).before a0 Z = true ∧ own = O ∧ nm = "<init>")) (wi : (Jvm.Cond.instantiable K kk').before a0 Z = true) (hty : parseFieldDescriptor df = some ty) (hn : narrow ty v = v) (hf : fits ty v = true) (hp : pc + 3 = pc')
    (kk : ∀ T' h', Stand p l e R s m args below meth c T' (locs ++ [⟨a, Jvm.RoadKit.slotOf Z O nf df⟩]) cells slots → T'.heap = h' → Wr h h' a (Jvm.RoadKit.slotOf Z O nf df) v → Fld Z h' a O nf df v → Exa Z h' a K → Go p e below s m Q Cc Sc T' pc' Ls St) : Go p e below s m Q Cc Sc T pc Ls (v :: .ref a :: St) := by
  subst hp
  obtain ⟨T', h', X', e', W, st⟩ := putF X C.x C.z C.o (host := "") (Or.inl w) via eT F E (L.imp id fun q => ⟨q.1, q.2.1, by rw [C.n]; exact q.2.2⟩) wi hty hn hf (g := mkF m pc Ls (v :: .ref a :: St)) rfl rfl (hb C.b hd)
  exact Go.via st (kk T' h' X' e' W (F.same W) (E.wr W))
theorem g_initO {idx W : Nat} (C : Cx Z a0 p s m meth c bs ml own nm rt) (X : Stand p l e R s m args below meth c T locs cells slots) (hd : decode bs pc = .ok (.invokespecial idx, 3)) (eT : T.heap = h) (w1 : (Jvm.Cond.methodLink own idx Lib.objectInit).before a0 Z = true) (w2 : (Jvm.Cond.instanceMethod Lib.objectInit).before a0 Z = true) (w3 : (Jvm.Cond.code Lib.objectInit ⟨#[0xb1]⟩ 1 none).before a0 Z = true) (hLs : Ls.size = ml) (hf : 1 ≤ R.frames) (hW : (St.map fun v => v.category).sum ≤ W) (hl : W + 12 ≤ R.locals) (hp : pc + 3 = pc')
    (kk : ∀ T', Stand p l e R s m args below meth c T' locs cells slots → T'.heap = h → Go p e below s m Q Cc Sc T' pc' Ls St) : Go p e below s m Q Cc Sc T pc Ls (.ref a :: St) := by
  subst hp
  obtain ⟨T', X', e', st⟩ := initO X C.x C.z C.o w1 w2 w3 eT (g := mkF m pc Ls (.ref a :: St)) rfl (by rw [C.mx]; exact hLs) rfl (hb C.b hd) hf (W := W) (by show 2 * 0 + _ ≤ _; omega) hl
  exact Go.via st (kk T' X' e')
end Own
/-- numbers -/
theorem own_inj32 {x y : Int32} (h : x.toInt = y.toInt) : x = y := Int32.toInt_inj.mp h
theorem own_inj64 {x y : Int64} (h : x.toInt = y.toInt) : x = y := Int64.toInt_inj.mp h
theorem own_nz32 {x : Int32} (h : 1 ≤ x.toInt) : x ≠ 0 := fun q => by rw [q] at h; revert h; decide
theorem own_nz64 {x : Int64} (h : 1 ≤ x.toInt) : x ≠ 0 := fun q => by rw [q] at h; revert h; decide
abbrev LQ (n0 : Nat) : Option Value → Heap → List Loc → Prop := fun v _ L => v = some (.int 1) ∧ Fr n0 L
def own_sum (g : Nat → Int64) : Nat → Int64
  | 0 => 0
  | k + 1 => own_sum g k + g k
theorem d2_0 : decode jdk_30_method_1_code 0 = .ok (.aload_n 0, 1) := by decide +kernel
theorem d2_1 : decode jdk_30_method_1_code 1 = .ok (.invokespecial 1, 3) := by decide +kernel
theorem d2_4 : decode jdk_30_method_1_code 4 = .ok (.return_, 1) := by decide +kernel
theorem pn_2 : plainFor (⟨"java/lang/Record", "<init>", "()V"⟩ : MethodName) = true := plainFor_of_name (by first | (simp [plainName, overriddenIn]; done) | decide +kernel)
theorem pd_2 : parseMethodDescriptor "()V" = some ⟨[], none⟩ := by decide +kernel
theorem ef_2 (x0 : Addr) (m : MethodId) : entryFrame m #[(.ref x0)] 1 = mkF m 0 #[.val (.ref x0)] [] := by first | (simp [entryFrame, mkF, argsToLocals, Value.category]; done) | rfl
theorem d1_0 : decode prog_32_method_1_code 0 = .ok (.aload_n 0, 1) := by decide +kernel
theorem d1_1 : decode prog_32_method_1_code 1 = .ok (.invokespecial 1, 3) := by decide +kernel
theorem d1_4 : decode prog_32_method_1_code 4 = .ok (.aload_n 0, 1) := by decide +kernel
theorem d1_5 : decode prog_32_method_1_code 5 = .ok (.aload_n 1, 1) := by decide +kernel
theorem d1_6 : decode prog_32_method_1_code 6 = .ok (.putfield 7, 3) := by decide +kernel
theorem d1_9 : decode prog_32_method_1_code 9 = .ok (.aload_n 0, 1) := by decide +kernel
theorem d1_10 : decode prog_32_method_1_code 10 = .ok (.lload_n 2, 1) := by decide +kernel
theorem d1_11 : decode prog_32_method_1_code 11 = .ok (.putfield 13, 3) := by decide +kernel
theorem d1_14 : decode prog_32_method_1_code 14 = .ok (.aload_n 0, 1) := by decide +kernel
theorem d1_15 : decode prog_32_method_1_code 15 = .ok (.lload 4, 2) := by decide +kernel
theorem d1_17 : decode prog_32_method_1_code 17 = .ok (.putfield 17, 3) := by decide +kernel
theorem d1_20 : decode prog_32_method_1_code 20 = .ok (.aload_n 0, 1) := by decide +kernel
theorem d1_21 : decode prog_32_method_1_code 21 = .ok (.lload 6, 2) := by decide +kernel
theorem d1_23 : decode prog_32_method_1_code 23 = .ok (.putfield 20, 3) := by decide +kernel
theorem d1_26 : decode prog_32_method_1_code 26 = .ok (.return_, 1) := by decide +kernel
theorem pn_1 : plainFor (⟨"com/example/throtl/throtl/service/WindowCount", "<init>", "([JJJJ)V"⟩ : MethodName) = true := plainFor_of_name (by first | (simp [plainName, overriddenIn]; done) | decide +kernel)
theorem pd_1 : parseMethodDescriptor "([JJJJ)V" = some ⟨[(.array .long), .long, .long, .long], none⟩ := by decide +kernel
theorem ef_1 (x0 : Addr) (x1 : Addr) (x2 : Int64) (x3 : Int64) (x4 : Int64) (m : MethodId) : entryFrame m #[(.ref x0), (.ref x1), (.long x2), (.long x3), (.long x4)] 8 = mkF m 0 #[.val (.ref x0), .val (.ref x1), .val (.long x2), .second, .val (.long x3), .second, .val (.long x4), .second] [] := by first | (simp [entryFrame, mkF, argsToLocals, Value.category]; done) | rfl
theorem d4_0 : decode prog_32_method_3_code 0 = .ok (.lconst 0, 1) := by decide +kernel
theorem d4_1 : decode prog_32_method_3_code 1 = .ok (.lstore_n 1, 1) := by decide +kernel
theorem d4_2 : decode prog_32_method_3_code 2 = .ok (.aload_n 0, 1) := by decide +kernel
theorem d4_3 : decode prog_32_method_3_code 3 = .ok (.getfield 7, 3) := by decide +kernel
theorem d4_6 : decode prog_32_method_3_code 6 = .ok (.astore_n 3, 1) := by decide +kernel
theorem d4_7 : decode prog_32_method_3_code 7 = .ok (.aload_n 3, 1) := by decide +kernel
theorem d4_8 : decode prog_32_method_3_code 8 = .ok (.arraylength, 1) := by decide +kernel
theorem d4_9 : decode prog_32_method_3_code 9 = .ok (.istore 4, 2) := by decide +kernel
theorem d4_11 : decode prog_32_method_3_code 11 = .ok (.iconst 0, 1) := by decide +kernel
theorem d4_12 : decode prog_32_method_3_code 12 = .ok (.istore 5, 2) := by decide +kernel
theorem d4_14 : decode prog_32_method_3_code 14 = .ok (.iload 5, 2) := by decide +kernel
theorem d4_16 : decode prog_32_method_3_code 16 = .ok (.iload 4, 2) := by decide +kernel
theorem d4_18 : decode prog_32_method_3_code 18 = .ok (.if_icmp .ge 20, 3) := by decide +kernel
theorem d4_21 : decode prog_32_method_3_code 21 = .ok (.aload_n 3, 1) := by decide +kernel
theorem d4_22 : decode prog_32_method_3_code 22 = .ok (.iload 5, 2) := by decide +kernel
theorem d4_24 : decode prog_32_method_3_code 24 = .ok (.laload, 1) := by decide +kernel
theorem d4_25 : decode prog_32_method_3_code 25 = .ok (.lstore 6, 2) := by decide +kernel
theorem d4_27 : decode prog_32_method_3_code 27 = .ok (.lload_n 1, 1) := by decide +kernel
theorem d4_28 : decode prog_32_method_3_code 28 = .ok (.lload 6, 2) := by decide +kernel
theorem d4_30 : decode prog_32_method_3_code 30 = .ok (.ladd, 1) := by decide +kernel
theorem d4_31 : decode prog_32_method_3_code 31 = .ok (.lstore_n 1, 1) := by decide +kernel
theorem d4_32 : decode prog_32_method_3_code 32 = .ok (.iinc 5 1, 3) := by decide +kernel
theorem d4_35 : decode prog_32_method_3_code 35 = .ok (.goto (-21), 3) := by decide +kernel
theorem d4_38 : decode prog_32_method_3_code 38 = .ok (.lload_n 1, 1) := by decide +kernel
theorem d4_39 : decode prog_32_method_3_code 39 = .ok (.lreturn, 1) := by decide +kernel
theorem pn_4 : plainFor (⟨"com/example/throtl/throtl/service/WindowCount", "own", "()J"⟩ : MethodName) = true := plainFor_of_name (by first | (simp [plainName, overriddenIn]; done) | decide +kernel)
theorem pd_4 : parseMethodDescriptor "()J" = some ⟨[], some .long⟩ := by decide +kernel
theorem ef_4 (x0 : Addr) (m : MethodId) : entryFrame m #[(.ref x0)] 8 = mkF m 0 #[.val (.ref x0), .unset, .unset, .unset, .unset, .unset, .unset, .unset] [] := by first | (simp [entryFrame, mkF, argsToLocals, Value.category]; done) | rfl
theorem pn_0 : plainFor x = true := plainFor_of_name (by first | (simp [plainName, overriddenIn]; done) | decide +kernel)
theorem pd_0 : parseMethodDescriptor "(IJJJJJ)Z" = some ⟨[.int, .long, .long, .long, .long, .long], some .boolean⟩ := by decide +kernel
theorem ef_0 (x0 : Int32) (x1 : Int64) (x2 : Int64) (x3 : Int64) (x4 : Int64) (x5 : Int64) (m : MethodId) : entryFrame m #[(.int x0), (.long x1), (.long x2), (.long x3), (.long x4), (.long x5)] maxLocals = mkF m 0 #[.val (.int x0), .val (.long x1), .second, .val (.long x2), .second, .val (.long x3), .second, .val (.long x4), .second, .val (.long x5), .second, .unset, .unset, .unset, .unset, .unset, .unset, .unset, .unset] [] := by first | (simp [entryFrame, mkF, argsToLocals, Value.category, maxLocals]; done) | rfl
def Q_rm2 (Z : State) (o : Addr) (h0 : Heap) (n0 : Nat) (v : Option Value) (h : Heap) (L : List Loc) : Prop := v = none ∧ Fr n0 L ∧ h = h0
set_option maxRecDepth 65536 in
set_option maxHeartbeats 40000000 in
theorem rm2 (l : Launch) (Z : State) (a0 : Array Value) (hw : ∀ d ∈ tables_1, d.before a0 Z = true) (ws : List Jvm.Cond) (o : Addr) (h0 : Heap) (n0 : Nat) (Z0 : n0 ≤ h0.size) :
    MetFree l (⟨"java/lang/Record", "<init>", "()V"⟩ : MethodName) (head1 (Jvm.Cond.code (⟨"java/lang/Record", "<init>", "()V"⟩ : MethodName) jdk_30_method_1_code 1 none :: ws) ({ frames := 1, cells := 0, slots := 0, locals := 12 } : Room)) (fun aa U => aa = #[(.ref o)] ∧ Z.Warmed39 U.vm ∧ U.heap = h0) (fun _ _ _ _ _ => True) (fun _ U oo U' => ∃ rv Lr, oo = .returned rv ∧ Q_rm2 Z o h0 n0 rv U'.heap Lr ∧ FrameEnd U oo U' Lr ({ frames := 1, cells := 0, slots := 0, locals := 12 } : Room).cells ({ frames := 1, cells := 0, slots := 0, locals := 12 } : Room).slots) := by
  refine g_enter pn_2 hw (ef_2 o) ?_
  intro p e s m below meth c T0 C X0 e0
  have C : Cx Z a0 p s m meth c jdk_30_method_1_code 1 "java/lang/Record" "<init>" none := C
  have N0 := Fr.nil n0
  refine g_aloadN C X0 d2_0 rfl rfl ?_
  refine g_initO (W := 0) C X0 d2_1 e0 (C.t 13 rfl) (C.t 14 rfl) (C.t 15 rfl) rfl (by decide) (Nat.le_of_eq rfl) (by decide) rfl ?_
  intro T1 X1 e1
  exact g_return C X1 d2_4 rfl ⟨rfl, N0, e1⟩ (by decide) (by decide)
def Q_rm1 (Z : State) (o : Addr) (t : Addr) (x2 : Int64) (x3 : Int64) (x4 : Int64) (h0 : Heap) (n0 : Nat) (v : Option Value) (h : Heap) (L : List Loc) : Prop := v = none ∧ Fr n0 L ∧ Keep h0 h [o] ∧ Exa Z h o "com/example/throtl/throtl/service/WindowCount" ∧ Fld Z h o "com/example/throtl/throtl/service/WindowCount" "slices" "[J" (.ref t) ∧ Fld Z h o "com/example/throtl/throtl/service/WindowCount" "previous" "J" (.long x2) ∧ Fld Z h o "com/example/throtl/throtl/service/WindowCount" "tailSeconds" "J" (.long x3) ∧ Fld Z h o "com/example/throtl/throtl/service/WindowCount" "periodSeconds" "J" (.long x4)
set_option maxRecDepth 65536 in
set_option maxHeartbeats 40000000 in
theorem rm1 (l : Launch) (Z : State) (a0 : Array Value) (hw : ∀ d ∈ tables_1, d.before a0 Z = true) (ws : List Jvm.Cond) (o : Addr) (t : Addr) (x2 : Int64) (x3 : Int64) (x4 : Int64) (h0 : Heap) (n0 : Nat) (Z0 : n0 ≤ h0.size) (EX : Exa Z h0 o "com/example/throtl/throtl/service/WindowCount") (D : ∀ {O nf d : String} {ty : FieldType}, Laid Z a0 "com/example/throtl/throtl/service/WindowCount" O nf d → parseFieldDescriptor d = some ty → Fld Z h0 o O nf d (defaultValue ty)) (ga : n0 ≤ o) :
    MetFree l (⟨"com/example/throtl/throtl/service/WindowCount", "<init>", "([JJJJ)V"⟩ : MethodName) (head1 (Jvm.Cond.code (⟨"com/example/throtl/throtl/service/WindowCount", "<init>", "([JJJJ)V"⟩ : MethodName) prog_32_method_1_code 8 none :: ws) ({ frames := 2, cells := 0, slots := 0, locals := 24 } : Room)) (fun aa U => aa = #[(.ref o), (.ref t), (.long x2), (.long x3), (.long x4)] ∧ Z.Warmed39 U.vm ∧ U.heap = h0) (fun _ _ _ _ _ => True) (fun _ U oo U' => ∃ rv Lr, oo = .returned rv ∧ Q_rm1 Z o t x2 x3 x4 h0 n0 rv U'.heap Lr ∧ FrameEnd U oo U' Lr ({ frames := 2, cells := 0, slots := 0, locals := 24 } : Room).cells ({ frames := 2, cells := 0, slots := 0, locals := 24 } : Room).slots) := by
  refine g_enter pn_1 hw (ef_1 o t x2 x3 x4) ?_
  intro p e s m below meth c T0 C X0 e0
  have C : Cx Z a0 p s m meth c prog_32_method_1_code 8 "com/example/throtl/throtl/service/WindowCount" "<init>" none := C
  have N0 := Fr.nil n0
  have K0 := Keep.refl h0 [o]
  have F_slices : Fld Z h0 o "com/example/throtl/throtl/service/WindowCount" "slices" "[J" _ := D (Or.inr (C.t 17 rfl)) (ty := (.array .long)) (by decide)
  have F_previous : Fld Z h0 o "com/example/throtl/throtl/service/WindowCount" "previous" "J" _ := D (Or.inr (C.t 19 rfl)) (ty := .long) (by decide)
  have F_tailSeconds : Fld Z h0 o "com/example/throtl/throtl/service/WindowCount" "tailSeconds" "J" _ := D (Or.inr (C.t 21 rfl)) (ty := .long) (by decide)
  have F_periodSeconds : Fld Z h0 o "com/example/throtl/throtl/service/WindowCount" "periodSeconds" "J" _ := D (Or.inr (C.t 23 rfl)) (ty := .long) (by decide)
  refine g_aloadN C X0 d1_0 rfl rfl ?_
  refine g_callC (a := o) (argsL := []) (rest := []) (W := 0) C X0 d1_1 e0 rfl (C.t 8 rfl) (C.t 9 rfl) (C.t 11 rfl) (C.t 12 rfl) (rm2 l Z a0 C.w [] o h0 n0 Z0) (by decide) pd_2 rfl rfl rfl (Nat.le_of_eq rfl) (by decide) (by decide) (by decide) (by decide) rfl ?_
  intro T1 v1_ L1 X1 hQ1
  obtain ⟨rfl, N1q, hh1⟩ := hQ1
  have N1 := Fr.app N0 N1q
  refine g_aloadN C X1 d1_4 rfl rfl ?_
  refine g_aloadN C X1 d1_5 rfl rfl ?_
  refine g_putfield C X1 d1_6 hh1 (C.t 16 rfl) Via.refl F_slices EX (Or.inr ⟨(C.t 17 rfl), rfl, rfl⟩) (C.t 3 rfl) (ty := (.array .long)) (by decide) rfl rfl rfl ?_
  intro T2 h2_ X2 e2 W2 F2_o_slices EE2_o
  have N2 := Fr.snoc X2 N1 ga
  have Z2 : n0 ≤ h2_.size := Nat.le_trans Z0 (Keep.of_wr W2).1
  have K2 := K0.wr W2 (Or.inl (List.mem_of_getElem? (i := 0) rfl))
  have F2_o_previous := F_previous.other W2 (Or.inr (slot_ne (Or.inr (C.t 19 rfl)) (Or.inr (C.t 17 rfl)) (by decide) (t := .long) (t' := (.array .long)) (by decide) (by decide)))
  have F2_o_tailSeconds := F_tailSeconds.other W2 (Or.inr (slot_ne (Or.inr (C.t 21 rfl)) (Or.inr (C.t 17 rfl)) (by decide) (t := .long) (t' := (.array .long)) (by decide) (by decide)))
  have F2_o_periodSeconds := F_periodSeconds.other W2 (Or.inr (slot_ne (Or.inr (C.t 23 rfl)) (Or.inr (C.t 17 rfl)) (by decide) (t := .long) (t' := (.array .long)) (by decide) (by decide)))
  refine g_aloadN C X2 d1_9 rfl rfl ?_
  refine g_lloadN C X2 d1_10 rfl rfl ?_
  refine g_putfield C X2 d1_11 e2 (C.t 18 rfl) Via.refl F2_o_previous EE2_o (Or.inr ⟨(C.t 19 rfl), rfl, rfl⟩) (C.t 3 rfl) (ty := .long) (by decide) rfl rfl rfl ?_
  intro T3 h3_ X3 e3 W3 F3_o_previous EE3_o
  have N3 := Fr.snoc X3 N2 ga
  have Z3 : n0 ≤ h3_.size := Nat.le_trans Z2 (Keep.of_wr W3).1
  have K3 := K2.wr W3 (Or.inl (List.mem_of_getElem? (i := 0) rfl))
  have F3_o_slices := F2_o_slices.other W3 (Or.inr (slot_ne (Or.inr (C.t 17 rfl)) (Or.inr (C.t 19 rfl)) (by decide) (t := (.array .long)) (t' := .long) (by decide) (by decide)))
  have F3_o_tailSeconds := F2_o_tailSeconds.other W3 (Or.inr (slot_ne (Or.inr (C.t 21 rfl)) (Or.inr (C.t 19 rfl)) (by decide) (t := .long) (t' := .long) (by decide) (by decide)))
  have F3_o_periodSeconds := F2_o_periodSeconds.other W3 (Or.inr (slot_ne (Or.inr (C.t 23 rfl)) (Or.inr (C.t 19 rfl)) (by decide) (t := .long) (t' := .long) (by decide) (by decide)))
  refine g_aloadN C X3 d1_14 rfl rfl ?_
  refine g_lload C X3 d1_15 rfl rfl ?_
  refine g_putfield C X3 d1_17 e3 (C.t 20 rfl) Via.refl F3_o_tailSeconds EE3_o (Or.inr ⟨(C.t 21 rfl), rfl, rfl⟩) (C.t 3 rfl) (ty := .long) (by decide) rfl rfl rfl ?_
  intro T4 h4_ X4 e4 W4 F4_o_tailSeconds EE4_o
  have N4 := Fr.snoc X4 N3 ga
  have Z4 : n0 ≤ h4_.size := Nat.le_trans Z3 (Keep.of_wr W4).1
  have K4 := K3.wr W4 (Or.inl (List.mem_of_getElem? (i := 0) rfl))
  have F4_o_slices := F3_o_slices.other W4 (Or.inr (slot_ne (Or.inr (C.t 17 rfl)) (Or.inr (C.t 21 rfl)) (by decide) (t := (.array .long)) (t' := .long) (by decide) (by decide)))
  have F4_o_previous := F3_o_previous.other W4 (Or.inr (slot_ne (Or.inr (C.t 19 rfl)) (Or.inr (C.t 21 rfl)) (by decide) (t := .long) (t' := .long) (by decide) (by decide)))
  have F4_o_periodSeconds := F3_o_periodSeconds.other W4 (Or.inr (slot_ne (Or.inr (C.t 23 rfl)) (Or.inr (C.t 21 rfl)) (by decide) (t := .long) (t' := .long) (by decide) (by decide)))
  refine g_aloadN C X4 d1_20 rfl rfl ?_
  refine g_lload C X4 d1_21 rfl rfl ?_
  refine g_putfield C X4 d1_23 e4 (C.t 22 rfl) Via.refl F4_o_periodSeconds EE4_o (Or.inr ⟨(C.t 23 rfl), rfl, rfl⟩) (C.t 3 rfl) (ty := .long) (by decide) rfl rfl rfl ?_
  intro T5 h5_ X5 e5 W5 F5_o_periodSeconds EE5_o
  have N5 := Fr.snoc X5 N4 ga
  have Z5 : n0 ≤ h5_.size := Nat.le_trans Z4 (Keep.of_wr W5).1
  have K5 := K4.wr W5 (Or.inl (List.mem_of_getElem? (i := 0) rfl))
  have F5_o_slices := F4_o_slices.other W5 (Or.inr (slot_ne (Or.inr (C.t 17 rfl)) (Or.inr (C.t 23 rfl)) (by decide) (t := (.array .long)) (t' := .long) (by decide) (by decide)))
  have F5_o_previous := F4_o_previous.other W5 (Or.inr (slot_ne (Or.inr (C.t 19 rfl)) (Or.inr (C.t 23 rfl)) (by decide) (t := .long) (t' := .long) (by decide) (by decide)))
  have F5_o_tailSeconds := F4_o_tailSeconds.other W5 (Or.inr (slot_ne (Or.inr (C.t 21 rfl)) (Or.inr (C.t 23 rfl)) (by decide) (t := .long) (t' := .long) (by decide) (by decide)))
  exact g_return C X5 d1_26 rfl (by rw [e5]; exact ⟨rfl, N5, K5, EE5_o, F5_o_slices, F5_o_previous, F5_o_tailSeconds, F5_o_periodSeconds⟩) (by decide) (by decide)
set_option maxRecDepth 65536 in
set_option maxHeartbeats 40000000 in
theorem loop4 {p : Program} {l : Launch} {e : Env} {R : Room} {s : State} {m : MethodId} {args : Array Value} {below : List Frame} {meth : Method} {c : Code} {T0 : State} {locs : List Loc} {cells slots : Nat} {Z : State} {a0 : Array Value} {h0 : Heap} {Q : Option Value → Heap → List Loc → Prop} {Cc Sc : Nat} {o t : Addr} {n : Nat} {g : Nat → Int64} {nv : Int32}
    (C : Cx Z a0 p s m meth c prog_32_method_3_code 8 "com/example/throtl/throtl/service/WindowCount" "own" (some .long)) (X0 : Stand p l e R s m args below meth c T0 locs cells slots) (e0 : T0.heap = h0) (A : Aw Z h0 t .long n (fun j => .long (g j))) (hn : nv.toInt = n) (hC : cells ≤ Cc) (hS : slots ≤ Sc) (kQ : Q (some (.long (own_sum g n))) h0 locs) :
    ∀ (k : Nat) (iv : Int32) (S : Int64) (s6 s7 : Slot), 0 ≤ iv.toInt → iv.toInt + k = n → S = own_sum g iv.toInt.toNat → (s6 = .unset ∧ s7 = .unset ∨ ∃ w, s6 = .val (.long w) ∧ s7 = .second) →
    Go p e below s m Q Cc Sc T0 14 #[.val (.ref o), .val (.long S), .second, .val (.ref t), .val (.int nv), .val (.int iv), s6, s7] [] := by
  intro k
  induction k with
  | zero =>
    intro iv S s6 s7 i0 ik hsum hs
    refine g_iload C X0 d4_14 rfl rfl ?_
    refine g_iload C X0 d4_16 rfl rfl ?_
    refine g_icmp C X0 d4_18 (by decide) rfl rfl ?_ ?_
    · intro h18
      have h18 : iv.toInt ≥ nv.toInt := h18
      refine g_lloadN C X0 d4_38 rfl rfl ?_
      have hnn : iv.toInt.toNat = n := by omega
      rw [hnn] at hsum
      subst hsum
      exact g_lreturn C X0 d4_39 rfl (by rw [e0]; exact kQ) hC hS
    · intro h18
      have h18 : iv.toInt < nv.toInt := h18
      exfalso; omega
  | succ k ih =>
    intro iv S s6 s7 i0 ik hsum hs
    have hnr := rng32 nv
    rcases hs with ⟨rfl, rfl⟩ | ⟨wo, rfl, rfl⟩
    · skip
      refine g_iload C X0 d4_14 rfl rfl ?_
      refine g_iload C X0 d4_16 rfl rfl ?_
      refine g_icmp C X0 d4_18 (by decide) rfl rfl ?_ ?_
      · intro h18
        have h18 : iv.toInt ≥ nv.toInt := h18
        exfalso; omega
      · intro h18
        have h18 : iv.toInt < nv.toInt := h18
        refine g_aloadN C X0 d4_21 rfl rfl ?_
        refine g_iload C X0 d4_22 rfl rfl ?_
        refine g_laload C X0 d4_24 e0 A (by omega) (by omega) (v := (.long (g iv.toInt.toNat))) rfl rfl ?_
        refine g_lstoreV C X0 d4_25 (fun v__ => #[.val (.ref o), .val (.long S), .second, .val (.ref t), .val (.int nv), .val (.int iv), .val (.long v__), .second]) rfl rfl ?_
        intro v25 h_v25
        refine g_lloadN C X0 d4_27 rfl rfl ?_
        refine g_lload C X0 d4_28 rfl rfl ?_
        refine g_ladd C X0 d4_30 rfl ?_
        refine g_lstoreNV C X0 d4_31 (fun v__ => #[.val (.ref o), .val (.long v__), .second, .val (.ref t), .val (.int nv), .val (.int iv), .val (.long v25), .second]) rfl rfl ?_
        intro v31 h_v31
        refine g_iincV C X0 d4_32 rfl (y := (1 : Int32)) rfl (fun v__ => #[.val (.ref o), .val (.long v31), .second, .val (.ref t), .val (.int nv), .val (.int v__), .val (.long v25), .second]) rfl rfl ?_
        intro v32 h_v32
        refine g_goto C X0 d4_35 (by decide) rfl ?_
        have q1 := c_iadd iv (1 : Int32)
        rw [show (1 : Int32).toInt = 1 by decide, ← h_v32] at q1
        have r1 := rng32 v32
        have q2 : v32.toInt = iv.toInt + 1 := by omega
        refine ih v32 v31 _ _ (by omega) (by omega) ?_ (Or.inr ⟨_, rfl, rfl⟩)
        have q3 : v32.toInt.toNat = iv.toInt.toNat + 1 := by omega
        rw [q3, h_v31, h_v25, hsum]
        rfl
    · skip
      refine g_iload C X0 d4_14 rfl rfl ?_
      refine g_iload C X0 d4_16 rfl rfl ?_
      refine g_icmp C X0 d4_18 (by decide) rfl rfl ?_ ?_
      · intro h18
        have h18 : iv.toInt ≥ nv.toInt := h18
        exfalso; omega
      · intro h18
        have h18 : iv.toInt < nv.toInt := h18
        refine g_aloadN C X0 d4_21 rfl rfl ?_
        refine g_iload C X0 d4_22 rfl rfl ?_
        refine g_laload C X0 d4_24 e0 A (by omega) (by omega) (v := (.long (g iv.toInt.toNat))) rfl rfl ?_
        refine g_lstoreV C X0 d4_25 (fun v__ => #[.val (.ref o), .val (.long S), .second, .val (.ref t), .val (.int nv), .val (.int iv), .val (.long v__), .second]) rfl rfl ?_
        intro v25 h_v25
        refine g_lloadN C X0 d4_27 rfl rfl ?_
        refine g_lload C X0 d4_28 rfl rfl ?_
        refine g_ladd C X0 d4_30 rfl ?_
        refine g_lstoreNV C X0 d4_31 (fun v__ => #[.val (.ref o), .val (.long v__), .second, .val (.ref t), .val (.int nv), .val (.int iv), .val (.long v25), .second]) rfl rfl ?_
        intro v31 h_v31
        refine g_iincV C X0 d4_32 rfl (y := (1 : Int32)) rfl (fun v__ => #[.val (.ref o), .val (.long v31), .second, .val (.ref t), .val (.int nv), .val (.int v__), .val (.long v25), .second]) rfl rfl ?_
        intro v32 h_v32
        refine g_goto C X0 d4_35 (by decide) rfl ?_
        have q1 := c_iadd iv (1 : Int32)
        rw [show (1 : Int32).toInt = 1 by decide, ← h_v32] at q1
        have r1 := rng32 v32
        have q2 : v32.toInt = iv.toInt + 1 := by omega
        refine ih v32 v31 _ _ (by omega) (by omega) ?_ (Or.inr ⟨_, rfl, rfl⟩)
        have q3 : v32.toInt.toNat = iv.toInt.toNat + 1 := by omega
        rw [q3, h_v31, h_v25, hsum]
        rfl
def Q_rm4 (Z : State) (o : Addr) (t : Addr) (n : Nat) (g : Nat → Int64) (h0 : Heap) (n0 : Nat) (v : Option Value) (h : Heap) (L : List Loc) : Prop := v = some (.long (own_sum g n)) ∧ Fr n0 L ∧ h = h0
set_option maxRecDepth 65536 in
set_option maxHeartbeats 40000000 in
theorem rm4 (l : Launch) (Z : State) (a0 : Array Value) (hw : ∀ d ∈ tables_1, d.before a0 Z = true) (ws : List Jvm.Cond) (o : Addr) (t : Addr) (n : Nat) (g : Nat → Int64) (h0 : Heap) (n0 : Nat) (Z0 : n0 ≤ h0.size) (F1 : Fld Z h0 o "com/example/throtl/throtl/service/WindowCount" "slices" "[J" (.ref t)) (A : Aw Z h0 t .long n (fun j => .long (g j))) :
    MetFree l (⟨"com/example/throtl/throtl/service/WindowCount", "own", "()J"⟩ : MethodName) (head1 (Jvm.Cond.code (⟨"com/example/throtl/throtl/service/WindowCount", "own", "()J"⟩ : MethodName) prog_32_method_3_code 8 (some .long) :: ws) ({ frames := 0, cells := 0, slots := 0, locals := 0 } : Room)) (fun aa U => aa = #[(.ref o)] ∧ Z.Warmed39 U.vm ∧ U.heap = h0) (fun _ _ _ _ _ => True) (fun _ U oo U' => ∃ rv Lr, oo = .returned rv ∧ Q_rm4 Z o t n g h0 n0 rv U'.heap Lr ∧ FrameEnd U oo U' Lr ({ frames := 0, cells := 0, slots := 0, locals := 0 } : Room).cells ({ frames := 0, cells := 0, slots := 0, locals := 0 } : Room).slots) := by
  refine g_enter pn_4 hw (ef_4 o) ?_
  intro p e s m below meth c T0 C X0 e0
  have C : Cx Z a0 p s m meth c prog_32_method_3_code 8 "com/example/throtl/throtl/service/WindowCount" "own" (some .long) := C
  have N0 := Fr.nil n0
  refine g_lconst C X0 (0 : Int64) d4_0 rfl rfl ?_
  refine g_lstoreN C X0 d4_1 #[.val (.ref o), .val (.long (0 : Int64)), .second, .unset, .unset, .unset, .unset, .unset] rfl rfl ?_
  refine g_aloadN C X0 d4_2 rfl rfl ?_
  refine g_getfield C X0 d4_3 e0 (C.t 16 rfl) Via.refl F1 rfl ?_
  intro T1 X1 e1
  refine g_astoreN C X1 d4_6 #[.val (.ref o), .val (.long (0 : Int64)), .second, .val (.ref t), .unset, .unset, .unset, .unset] rfl rfl ?_
  refine g_aloadN C X1 d4_7 rfl rfl ?_
  refine g_arraylength C X1 d4_8 e1 A rfl ?_
  intro n8 h_n8
  refine g_istore C X1 d4_9 #[.val (.ref o), .val (.long (0 : Int64)), .second, .val (.ref t), .val (.int n8), .unset, .unset, .unset] rfl rfl ?_
  refine g_iconst C X1 (0 : Int32) d4_11 rfl rfl ?_
  refine g_istore C X1 d4_12 #[.val (.ref o), .val (.long (0 : Int64)), .second, .val (.ref t), .val (.int n8), .val (.int (0 : Int32)), .unset, .unset] rfl rfl ?_
  exact loop4 C X1 e1 A h_n8 (by decide) (by decide) ⟨rfl, N0, rfl⟩ n (0 : Int32) (0 : Int64) _ _ (by decide) (by rw [show (0 : Int32).toInt = 0 by decide]; omega) rfl (Or.inl ⟨rfl, rfl⟩)
set_option maxRecDepth 65536 in
set_option maxHeartbeats 40000000 in
theorem seg8_0 {p : Program} {l : Launch} {e : Env} {s : State} {m : MethodId} {args : Array Value} {below : List Frame} {meth : Method} {c : Code} {T0 : State} {locs : List Loc} {Z : State} {a0 : Array Value} {h0 : Heap} {n0 : Nat} {x0 : Int32} {x1 x2 x3 x4 x5 : Int64}
    (C : Cx Z a0 p s m meth c code maxLocals "com/example/throtl/throtl/service/WindowCountOwnPinLaw" "law" ret) (X0 : Stand p l e room_1 s m args below meth c T0 locs 0 0) (e0 : T0.heap = h0) (N0 : Fr n0 locs) (Z0 : n0 ≤ h0.size)  :
    Go p e below s m (LQ n0) room_1.cells room_1.slots T0 8 #[.val (.int x0), .val (.long x1), .second, .val (.long x2), .second, .val (.long x3), .second, .val (.long x4), .second, .val (.long x5), .second, .val (.int (0 : Int32)), .unset, .unset, .unset, .unset, .unset, .unset, .unset] [] := by
  refine g_iload C X0 at_8 rfl rfl ?_
  refine g_newarray (cap := 0) C X0 at_10 e0 (C.t 1 rfl) (by decide) (by decide) (by decide) (by decide) (by decide) rfl ?_
  intro T1 h1_ X1 e1 E1 lt1 ad1 ha1 A1
  have Z1 : n0 ≤ h1_.size := Nat.le_trans Z0 E1.1
  have g_ad1 : n0 ≤ ad1 := by omega
  refine g_astore C X1 at_12 #[.val (.int x0), .val (.long x1), .second, .val (.long x2), .second, .val (.long x3), .second, .val (.long x4), .second, .val (.long x5), .second, .val (.int (0 : Int32)), .val (.ref ad1), .unset, .unset, .unset, .unset, .unset, .unset] rfl rfl ?_
  refine g_iload C X1 at_14 rfl rfl ?_
  refine g_if C X1 at_16 (by decide) rfl rfl ?_ ?_
  · intro h16
    have h16 : (0 : Int) ≤ 0 := h16
    refine g_iload C X1 at_24 rfl rfl ?_
    refine g_iconst C X1 (1 : Int32) at_26 rfl rfl ?_
    refine g_icmp C X1 at_27 (by decide) rfl rfl ?_ ?_
    · intro h27
      have h27 : (0 : Int) ≤ 1 := h27
      refine g_iload C X1 at_35 rfl rfl ?_
      refine g_iconst C X1 (2 : Int32) at_37 rfl rfl ?_
      refine g_icmp C X1 at_38 (by decide) rfl rfl ?_ ?_
      · intro h38
        have h38 : (0 : Int) ≤ 2 := h38
        refine g_iload C X1 at_47 rfl rfl ?_
        refine g_iconst C X1 (3 : Int32) at_49 rfl rfl ?_
        refine g_icmp C X1 at_50 (by decide) rfl rfl ?_ ?_
        · intro h50
          have h50 : (0 : Int) ≤ 3 := h50
          refine g_lconst C X1 (0 : Int64) at_59 rfl rfl ?_
          refine g_lstore C X1 at_60 #[.val (.int x0), .val (.long x1), .second, .val (.long x2), .second, .val (.long x3), .second, .val (.long x4), .second, .val (.long x5), .second, .val (.int (0 : Int32)), .val (.ref ad1), .val (.long (0 : Int64)), .second, .unset, .unset, .unset, .unset] rfl rfl ?_
          refine g_iload C X1 at_62 rfl rfl ?_
          refine g_if C X1 at_64 (by decide) rfl rfl ?_ ?_
          · intro h64
            have h64 : (0 : Int) ≤ 0 := h64
            refine g_iload C X1 at_73 rfl rfl ?_
            refine g_iconst C X1 (1 : Int32) at_75 rfl rfl ?_
            refine g_icmp C X1 at_76 (by decide) rfl rfl ?_ ?_
            · intro h76
              have h76 : (0 : Int) ≤ 1 := h76
              refine g_iload C X1 at_85 rfl rfl ?_
              refine g_iconst C X1 (2 : Int32) at_87 rfl rfl ?_
              refine g_icmp C X1 at_88 (by decide) rfl rfl ?_ ?_
              · intro h88
                have h88 : (0 : Int) ≤ 2 := h88
                refine g_iload C X1 at_98 rfl rfl ?_
                refine g_iconst C X1 (3 : Int32) at_100 rfl rfl ?_
                refine g_icmp C X1 at_101 (by decide) rfl rfl ?_ ?_
                · intro h101
                  have h101 : (0 : Int) ≤ 3 := h101
                  refine g_new C X1 at_111 e1 (C.t 2 rfl) (C.t 3 rfl) (C.t 4 rfl) (by decide) (by decide) rfl ?_
                  intro T2 h2_ X2 e2 E2 lt2 ad2 ha2 EX2 D2
                  have Z2 : n0 ≤ h2_.size := Nat.le_trans Z1 E2.1
                  have ne_ad1_ad2 : ad1 ≠ ad2 := Nat.ne_of_lt (Nat.lt_of_lt_of_eq A1.lt ha2.symm)
                  have A2_ad1 := A1.ext E2
                  have g_ad2 : n0 ≤ ad2 := by omega
                  refine g_dup C X2 at_114 rfl rfl ?_
                  refine g_aload C X2 at_115 rfl rfl ?_
                  refine g_lload C X2 at_117 rfl rfl ?_
                  refine g_lload C X2 at_119 rfl rfl ?_
                  refine g_lload C X2 at_121 rfl rfl ?_
                  refine g_callC (a := ad2) (argsL := [(.ref ad1), (.long x5), (.long x5), (.long x5)]) (rest := [(.ref ad2)]) (W := 1) C X2 at_123 e2 rfl (C.t 5 rfl) (C.t 6 rfl) (C.t 4 rfl) (C.t 7 rfl) (rm1 l Z a0 C.w [] ad2 ad1 x5 x5 x5 h2_ n0 Z2 EX2 D2 g_ad2 ) (by decide) pd_1 rfl rfl rfl (Nat.le_of_eq rfl) (by decide) (by decide) (by decide) (by decide) rfl ?_
                  intro T3 v3_ L3 X3 hQ3
                  obtain ⟨rfl, N3q, K3, EY3, Fc3_slices, Fc3_previous, Fc3_tailSeconds, Fc3_periodSeconds⟩ := hQ3
                  have N3 := Fr.app N0 N3q
                  have Z3 : n0 ≤ T3.heap.size := Nat.le_trans Z2 K3.1
                  have A3_ad1 := A2_ad1.keep K3 (ninS ne_ad1_ad2 nin0)
                  refine g_astore C X3 at_126 #[.val (.int x0), .val (.long x1), .second, .val (.long x2), .second, .val (.long x3), .second, .val (.long x4), .second, .val (.long x5), .second, .val (.int (0 : Int32)), .val (.ref ad1), .val (.long (0 : Int64)), .second, .val (.ref ad2), .unset, .unset, .unset] rfl rfl ?_
                  refine g_aload C X3 at_128 rfl rfl ?_
                  have Aq : Aw Z T3.heap ad1 .long 0 (fun j => .long ((fun j => ([] : List Int64).getD j 0) j)) := Aw.of A3_ad1 (by
                    intro j hj
                    have hj : j < 0 := hj
                    omega)
                  refine g_callV (a := ad2) (argsL := []) (rest := []) (W := 0) C X3 at_130 rfl EY3 (C.t 25 rfl) (C.t 27 rfl) (C.t 24 rfl) (C.t 26 rfl) (C.t 4 rfl) (C.t 28 rfl) (rm4 l Z a0 C.w [] ad2 ad1 0 (fun j => ([] : List Int64).getD j 0) T3.heap n0 Z3 Fc3_slices Aq) (by decide) pd_4 rfl rfl rfl (Nat.le_of_eq rfl) (by decide) (by decide) (by decide) (by decide) rfl ?_
                  intro T4 v4_ L4 X4 hQ4
                  obtain ⟨rfl, N4q, hh4⟩ := hQ4
                  have N4 := Fr.app N3 N4q
                  refine g_lstoreV C X4 at_133 (fun v__ => #[.val (.int x0), .val (.long x1), .second, .val (.long x2), .second, .val (.long x3), .second, .val (.long x4), .second, .val (.long x5), .second, .val (.int (0 : Int32)), .val (.ref ad1), .val (.long (0 : Int64)), .second, .val (.ref ad2), .val (.long v__), .second, .unset]) rfl rfl ?_
                  intro v133 h_v133
                  refine g_iconst C X4 (1 : Int32) at_135 rfl rfl ?_
                  refine g_istore C X4 at_136 #[.val (.int x0), .val (.long x1), .second, .val (.long x2), .second, .val (.long x3), .second, .val (.long x4), .second, .val (.long x5), .second, .val (.int (0 : Int32)), .val (.ref ad1), .val (.long (0 : Int64)), .second, .val (.ref ad2), .val (.long v133), .second, .val (.int (1 : Int32))] rfl rfl ?_
                  refine g_iload C X4 at_138 rfl rfl ?_
                  refine g_if C X4 at_140 (by decide) rfl rfl ?_ ?_
                  · intro h140
                    have h140 : (0 : Int) ≤ 0 := h140
                    refine g_iload C X4 at_164 rfl rfl ?_
                    refine g_iconst C X4 (1 : Int32) at_166 rfl rfl ?_
                    refine g_icmp C X4 at_167 (by decide) rfl rfl ?_ ?_
                    · intro h167
                      have h167 : (0 : Int) ≤ 1 := h167
                      refine g_iload C X4 at_191 rfl rfl ?_
                      refine g_iconst C X4 (2 : Int32) at_193 rfl rfl ?_
                      refine g_icmp C X4 at_194 (by decide) rfl rfl ?_ ?_
                      · intro h194
                        have h194 : (0 : Int) ≤ 2 := h194
                        refine g_iload C X4 at_219 rfl rfl ?_
                        refine g_iconst C X4 (3 : Int32) at_221 rfl rfl ?_
                        refine g_icmp C X4 at_222 (by decide) rfl rfl ?_ ?_
                        · intro h222
                          have h222 : (0 : Int) ≤ 3 := h222
                          refine g_lload C X4 at_247 rfl rfl ?_
                          refine g_lload C X4 at_249 rfl rfl ?_
                          refine g_lcmpif C X4 at_251 rfl at_252 (by decide) rfl rfl ?_ ?_
                          · intro h252
                            have h252 : ¬ v133.toInt = 0 := h252
                            exact absurd (by rw [h_v133]; rfl) h252
                          · intro h252
                            have h252 : v133.toInt = 0 := h252
                            refine g_iload C X4 at_255 rfl rfl ?_
                            refine g_if C X4 at_257 (by decide) rfl rfl ?_ ?_
                            · intro h257
                              have h257 : (1 : Int) = 0 := h257
                              exact absurd h257 (by decide)
                            · intro h257
                              have h257 : ¬ (1 : Int) = 0 := h257
                              refine g_iconst C X4 (1 : Int32) at_260 rfl rfl ?_
                              refine g_goto C X4 at_261 (by decide) rfl ?_
                              exact g_ireturnN C X4 at_265 rfl (Or.inl rfl) ⟨rfl, N4⟩ (by decide) (by decide)
                        · intro h222
                          have h222 : (0 : Int) > 3 := h222
                          exact absurd h222 (by decide)
                      · intro h194
                        have h194 : (0 : Int) > 2 := h194
                        exact absurd h194 (by decide)
                    · intro h167
                      have h167 : (0 : Int) > 1 := h167
                      exact absurd h167 (by decide)
                  · intro h140
                    have h140 : (0 : Int) > 0 := h140
                    exact absurd h140 (by decide)
                · intro h101
                  have h101 : (0 : Int) > 3 := h101
                  exact absurd h101 (by decide)
              · intro h88
                have h88 : (0 : Int) > 2 := h88
                exact absurd h88 (by decide)
            · intro h76
              have h76 : (0 : Int) > 1 := h76
              exact absurd h76 (by decide)
          · intro h64
            have h64 : (0 : Int) > 0 := h64
            exact absurd h64 (by decide)
        · intro h50
          have h50 : (0 : Int) > 3 := h50
          exact absurd h50 (by decide)
      · intro h38
        have h38 : (0 : Int) > 2 := h38
        exact absurd h38 (by decide)
    · intro h27
      have h27 : (0 : Int) > 1 := h27
      exact absurd h27 (by decide)
  · intro h16
    have h16 : (0 : Int) > 0 := h16
    exact absurd h16 (by decide)
set_option maxRecDepth 65536 in
set_option maxHeartbeats 40000000 in
theorem seg8_1 {p : Program} {l : Launch} {e : Env} {s : State} {m : MethodId} {args : Array Value} {below : List Frame} {meth : Method} {c : Code} {T0 : State} {locs : List Loc} {Z : State} {a0 : Array Value} {h0 : Heap} {n0 : Nat} {x0 : Int32} {x1 x2 x3 x4 x5 : Int64}
    (C : Cx Z a0 p s m meth c code maxLocals "com/example/throtl/throtl/service/WindowCountOwnPinLaw" "law" ret) (X0 : Stand p l e room_1 s m args below meth c T0 locs 0 0) (e0 : T0.heap = h0) (N0 : Fr n0 locs) (Z0 : n0 ≤ h0.size)  :
    Go p e below s m (LQ n0) room_1.cells room_1.slots T0 8 #[.val (.int x0), .val (.long x1), .second, .val (.long x2), .second, .val (.long x3), .second, .val (.long x4), .second, .val (.long x5), .second, .val (.int (1 : Int32)), .unset, .unset, .unset, .unset, .unset, .unset, .unset] [] := by
  refine g_iload C X0 at_8 rfl rfl ?_
  refine g_newarray (cap := 1) C X0 at_10 e0 (C.t 1 rfl) (by decide) (by decide) (by decide) (by decide) (by decide) rfl ?_
  intro T1 h1_ X1 e1 E1 lt1 ad1 ha1 A1
  have Z1 : n0 ≤ h1_.size := Nat.le_trans Z0 E1.1
  have g_ad1 : n0 ≤ ad1 := by omega
  refine g_astore C X1 at_12 #[.val (.int x0), .val (.long x1), .second, .val (.long x2), .second, .val (.long x3), .second, .val (.long x4), .second, .val (.long x5), .second, .val (.int (1 : Int32)), .val (.ref ad1), .unset, .unset, .unset, .unset, .unset, .unset] rfl rfl ?_
  refine g_iload C X1 at_14 rfl rfl ?_
  refine g_if C X1 at_16 (by decide) rfl rfl ?_ ?_
  · intro h16
    have h16 : (1 : Int) ≤ 0 := h16
    exact absurd h16 (by decide)
  · intro h16
    have h16 : (1 : Int) > 0 := h16
    refine g_aload C X1 at_19 rfl rfl ?_
    refine g_iconst C X1 (0 : Int32) at_21 rfl rfl ?_
    refine g_lloadN C X1 at_22 rfl rfl ?_
    refine g_lastore C X1 at_23 e1 A1 (by decide) (by decide) rfl ?_
    intro T2 h2_ X2 e2 W2 A2
    have N2 := Fr.snoc X2 N0 g_ad1
    have Z2 : n0 ≤ h2_.size := Nat.le_trans Z1 (Keep.of_wr W2).1
    refine g_iload C X2 at_24 rfl rfl ?_
    refine g_iconst C X2 (1 : Int32) at_26 rfl rfl ?_
    refine g_icmp C X2 at_27 (by decide) rfl rfl ?_ ?_
    · intro h27
      have h27 : (1 : Int) ≤ 1 := h27
      refine g_iload C X2 at_35 rfl rfl ?_
      refine g_iconst C X2 (2 : Int32) at_37 rfl rfl ?_
      refine g_icmp C X2 at_38 (by decide) rfl rfl ?_ ?_
      · intro h38
        have h38 : (1 : Int) ≤ 2 := h38
        refine g_iload C X2 at_47 rfl rfl ?_
        refine g_iconst C X2 (3 : Int32) at_49 rfl rfl ?_
        refine g_icmp C X2 at_50 (by decide) rfl rfl ?_ ?_
        · intro h50
          have h50 : (1 : Int) ≤ 3 := h50
          refine g_lconst C X2 (0 : Int64) at_59 rfl rfl ?_
          refine g_lstore C X2 at_60 #[.val (.int x0), .val (.long x1), .second, .val (.long x2), .second, .val (.long x3), .second, .val (.long x4), .second, .val (.long x5), .second, .val (.int (1 : Int32)), .val (.ref ad1), .val (.long (0 : Int64)), .second, .unset, .unset, .unset, .unset] rfl rfl ?_
          refine g_iload C X2 at_62 rfl rfl ?_
          refine g_if C X2 at_64 (by decide) rfl rfl ?_ ?_
          · intro h64
            have h64 : (1 : Int) ≤ 0 := h64
            exact absurd h64 (by decide)
          · intro h64
            have h64 : (1 : Int) > 0 := h64
            refine g_lload C X2 at_67 rfl rfl ?_
            refine g_lloadN C X2 at_69 rfl rfl ?_
            refine g_ladd C X2 at_70 rfl ?_
            refine g_lstoreV C X2 at_71 (fun v__ => #[.val (.int x0), .val (.long x1), .second, .val (.long x2), .second, .val (.long x3), .second, .val (.long x4), .second, .val (.long x5), .second, .val (.int (1 : Int32)), .val (.ref ad1), .val (.long v__), .second, .unset, .unset, .unset, .unset]) rfl rfl ?_
            intro v71 h_v71
            refine g_iload C X2 at_73 rfl rfl ?_
            refine g_iconst C X2 (1 : Int32) at_75 rfl rfl ?_
            refine g_icmp C X2 at_76 (by decide) rfl rfl ?_ ?_
            · intro h76
              have h76 : (1 : Int) ≤ 1 := h76
              refine g_iload C X2 at_85 rfl rfl ?_
              refine g_iconst C X2 (2 : Int32) at_87 rfl rfl ?_
              refine g_icmp C X2 at_88 (by decide) rfl rfl ?_ ?_
              · intro h88
                have h88 : (1 : Int) ≤ 2 := h88
                refine g_iload C X2 at_98 rfl rfl ?_
                refine g_iconst C X2 (3 : Int32) at_100 rfl rfl ?_
                refine g_icmp C X2 at_101 (by decide) rfl rfl ?_ ?_
                · intro h101
                  have h101 : (1 : Int) ≤ 3 := h101
                  refine g_new C X2 at_111 e2 (C.t 2 rfl) (C.t 3 rfl) (C.t 4 rfl) (by decide) (by decide) rfl ?_
                  intro T3 h3_ X3 e3 E3 lt3 ad3 ha3 EX3 D3
                  have Z3 : n0 ≤ h3_.size := Nat.le_trans Z2 E3.1
                  have ne_ad1_ad3 : ad1 ≠ ad3 := Nat.ne_of_lt (Nat.lt_of_lt_of_eq A2.lt ha3.symm)
                  have A3_ad1 := A2.ext E3
                  have g_ad3 : n0 ≤ ad3 := by omega
                  refine g_dup C X3 at_114 rfl rfl ?_
                  refine g_aload C X3 at_115 rfl rfl ?_
                  refine g_lload C X3 at_117 rfl rfl ?_
                  refine g_lload C X3 at_119 rfl rfl ?_
                  refine g_lload C X3 at_121 rfl rfl ?_
                  refine g_callC (a := ad3) (argsL := [(.ref ad1), (.long x5), (.long x5), (.long x5)]) (rest := [(.ref ad3)]) (W := 1) C X3 at_123 e3 rfl (C.t 5 rfl) (C.t 6 rfl) (C.t 4 rfl) (C.t 7 rfl) (rm1 l Z a0 C.w [] ad3 ad1 x5 x5 x5 h3_ n0 Z3 EX3 D3 g_ad3 ) (by decide) pd_1 rfl rfl rfl (Nat.le_of_eq rfl) (by decide) (by decide) (by decide) (by decide) rfl ?_
                  intro T4 v4_ L4 X4 hQ4
                  obtain ⟨rfl, N4q, K4, EY4, Fc4_slices, Fc4_previous, Fc4_tailSeconds, Fc4_periodSeconds⟩ := hQ4
                  have N4 := Fr.app N2 N4q
                  have Z4 : n0 ≤ T4.heap.size := Nat.le_trans Z3 K4.1
                  have A4_ad1 := A3_ad1.keep K4 (ninS ne_ad1_ad3 nin0)
                  refine g_astore C X4 at_126 #[.val (.int x0), .val (.long x1), .second, .val (.long x2), .second, .val (.long x3), .second, .val (.long x4), .second, .val (.long x5), .second, .val (.int (1 : Int32)), .val (.ref ad1), .val (.long v71), .second, .val (.ref ad3), .unset, .unset, .unset] rfl rfl ?_
                  refine g_aload C X4 at_128 rfl rfl ?_
                  have Aq : Aw Z T4.heap ad1 .long 1 (fun j => .long ((fun j => ([x1] : List Int64).getD j 0) j)) := Aw.of A4_ad1 (by
                    intro j hj
                    have hj : j < 1 := hj
                    have hj : j = 0 := by omega
                    rcases hj with rfl <;> rfl)
                  refine g_callV (a := ad3) (argsL := []) (rest := []) (W := 0) C X4 at_130 rfl EY4 (C.t 25 rfl) (C.t 27 rfl) (C.t 24 rfl) (C.t 26 rfl) (C.t 4 rfl) (C.t 28 rfl) (rm4 l Z a0 C.w [] ad3 ad1 1 (fun j => ([x1] : List Int64).getD j 0) T4.heap n0 Z4 Fc4_slices Aq) (by decide) pd_4 rfl rfl rfl (Nat.le_of_eq rfl) (by decide) (by decide) (by decide) (by decide) rfl ?_
                  intro T5 v5_ L5 X5 hQ5
                  obtain ⟨rfl, N5q, hh5⟩ := hQ5
                  have N5 := Fr.app N4 N5q
                  refine g_lstoreV C X5 at_133 (fun v__ => #[.val (.int x0), .val (.long x1), .second, .val (.long x2), .second, .val (.long x3), .second, .val (.long x4), .second, .val (.long x5), .second, .val (.int (1 : Int32)), .val (.ref ad1), .val (.long v71), .second, .val (.ref ad3), .val (.long v__), .second, .unset]) rfl rfl ?_
                  intro v133 h_v133
                  refine g_iconst C X5 (1 : Int32) at_135 rfl rfl ?_
                  refine g_istore C X5 at_136 #[.val (.int x0), .val (.long x1), .second, .val (.long x2), .second, .val (.long x3), .second, .val (.long x4), .second, .val (.long x5), .second, .val (.int (1 : Int32)), .val (.ref ad1), .val (.long v71), .second, .val (.ref ad3), .val (.long v133), .second, .val (.int (1 : Int32))] rfl rfl ?_
                  refine g_iload C X5 at_138 rfl rfl ?_
                  refine g_if C X5 at_140 (by decide) rfl rfl ?_ ?_
                  · intro h140
                    have h140 : (1 : Int) ≤ 0 := h140
                    exact absurd h140 (by decide)
                  · intro h140
                    have h140 : (1 : Int) > 0 := h140
                    refine g_iload C X5 at_143 rfl rfl ?_
                    refine g_if C X5 at_145 (by decide) rfl rfl ?_ ?_
                    · intro h145
                      have h145 : (1 : Int) = 0 := h145
                      exact absurd h145 (by decide)
                    · intro h145
                      have h145 : ¬ (1 : Int) = 0 := h145
                      refine g_aload C X5 at_148 rfl rfl ?_
                      refine g_iconst C X5 (0 : Int32) at_150 rfl rfl ?_
                      refine g_laload C X5 at_151 hh5 A4_ad1 (by decide) (by decide) (v := (.long x1)) rfl rfl ?_
                      refine g_lloadN C X5 at_152 rfl rfl ?_
                      refine g_lcmpif C X5 at_153 rfl at_154 (by decide) rfl rfl ?_ ?_
                      · intro h154
                        have h154 : ¬ x1.toInt = x1.toInt := h154
                        exact absurd rfl h154
                      · intro h154
                        have h154 : x1.toInt = x1.toInt := h154
                        refine g_iconst C X5 (1 : Int32) at_157 rfl rfl ?_
                        refine g_goto C X5 at_158 (by decide) rfl ?_
                        refine g_istore C X5 at_162 #[.val (.int x0), .val (.long x1), .second, .val (.long x2), .second, .val (.long x3), .second, .val (.long x4), .second, .val (.long x5), .second, .val (.int (1 : Int32)), .val (.ref ad1), .val (.long v71), .second, .val (.ref ad3), .val (.long v133), .second, .val (.int (1 : Int32))] rfl rfl ?_
                        refine g_iload C X5 at_164 rfl rfl ?_
                        refine g_iconst C X5 (1 : Int32) at_166 rfl rfl ?_
                        refine g_icmp C X5 at_167 (by decide) rfl rfl ?_ ?_
                        · intro h167
                          have h167 : (1 : Int) ≤ 1 := h167
                          refine g_iload C X5 at_191 rfl rfl ?_
                          refine g_iconst C X5 (2 : Int32) at_193 rfl rfl ?_
                          refine g_icmp C X5 at_194 (by decide) rfl rfl ?_ ?_
                          · intro h194
                            have h194 : (1 : Int) ≤ 2 := h194
                            refine g_iload C X5 at_219 rfl rfl ?_
                            refine g_iconst C X5 (3 : Int32) at_221 rfl rfl ?_
                            refine g_icmp C X5 at_222 (by decide) rfl rfl ?_ ?_
                            · intro h222
                              have h222 : (1 : Int) ≤ 3 := h222
                              refine g_lload C X5 at_247 rfl rfl ?_
                              refine g_lload C X5 at_249 rfl rfl ?_
                              refine g_lcmpif C X5 at_251 rfl at_252 (by decide) rfl rfl ?_ ?_
                              · intro h252
                                have h252 : ¬ v133.toInt = v71.toInt := h252
                                exact absurd (by rw [h_v133, h_v71]; rfl) h252
                              · intro h252
                                have h252 : v133.toInt = v71.toInt := h252
                                refine g_iload C X5 at_255 rfl rfl ?_
                                refine g_if C X5 at_257 (by decide) rfl rfl ?_ ?_
                                · intro h257
                                  have h257 : (1 : Int) = 0 := h257
                                  exact absurd h257 (by decide)
                                · intro h257
                                  have h257 : ¬ (1 : Int) = 0 := h257
                                  refine g_iconst C X5 (1 : Int32) at_260 rfl rfl ?_
                                  refine g_goto C X5 at_261 (by decide) rfl ?_
                                  exact g_ireturnN C X5 at_265 rfl (Or.inl rfl) ⟨rfl, N5⟩ (by decide) (by decide)
                            · intro h222
                              have h222 : (1 : Int) > 3 := h222
                              exact absurd h222 (by decide)
                          · intro h194
                            have h194 : (1 : Int) > 2 := h194
                            exact absurd h194 (by decide)
                        · intro h167
                          have h167 : (1 : Int) > 1 := h167
                          exact absurd h167 (by decide)
                · intro h101
                  have h101 : (1 : Int) > 3 := h101
                  exact absurd h101 (by decide)
              · intro h88
                have h88 : (1 : Int) > 2 := h88
                exact absurd h88 (by decide)
            · intro h76
              have h76 : (1 : Int) > 1 := h76
              exact absurd h76 (by decide)
        · intro h50
          have h50 : (1 : Int) > 3 := h50
          exact absurd h50 (by decide)
      · intro h38
        have h38 : (1 : Int) > 2 := h38
        exact absurd h38 (by decide)
    · intro h27
      have h27 : (1 : Int) > 1 := h27
      exact absurd h27 (by decide)
set_option maxRecDepth 65536 in
set_option maxHeartbeats 40000000 in
theorem seg8_2 {p : Program} {l : Launch} {e : Env} {s : State} {m : MethodId} {args : Array Value} {below : List Frame} {meth : Method} {c : Code} {T0 : State} {locs : List Loc} {Z : State} {a0 : Array Value} {h0 : Heap} {n0 : Nat} {x0 : Int32} {x1 x2 x3 x4 x5 : Int64}
    (C : Cx Z a0 p s m meth c code maxLocals "com/example/throtl/throtl/service/WindowCountOwnPinLaw" "law" ret) (X0 : Stand p l e room_1 s m args below meth c T0 locs 0 0) (e0 : T0.heap = h0) (N0 : Fr n0 locs) (Z0 : n0 ≤ h0.size)  :
    Go p e below s m (LQ n0) room_1.cells room_1.slots T0 8 #[.val (.int x0), .val (.long x1), .second, .val (.long x2), .second, .val (.long x3), .second, .val (.long x4), .second, .val (.long x5), .second, .val (.int (2 : Int32)), .unset, .unset, .unset, .unset, .unset, .unset, .unset] [] := by
  refine g_iload C X0 at_8 rfl rfl ?_
  refine g_newarray (cap := 2) C X0 at_10 e0 (C.t 1 rfl) (by decide) (by decide) (by decide) (by decide) (by decide) rfl ?_
  intro T1 h1_ X1 e1 E1 lt1 ad1 ha1 A1
  have Z1 : n0 ≤ h1_.size := Nat.le_trans Z0 E1.1
  have g_ad1 : n0 ≤ ad1 := by omega
  refine g_astore C X1 at_12 #[.val (.int x0), .val (.long x1), .second, .val (.long x2), .second, .val (.long x3), .second, .val (.long x4), .second, .val (.long x5), .second, .val (.int (2 : Int32)), .val (.ref ad1), .unset, .unset, .unset, .unset, .unset, .unset] rfl rfl ?_
  refine g_iload C X1 at_14 rfl rfl ?_
  refine g_if C X1 at_16 (by decide) rfl rfl ?_ ?_
  · intro h16
    have h16 : (2 : Int) ≤ 0 := h16
    exact absurd h16 (by decide)
  · intro h16
    have h16 : (2 : Int) > 0 := h16
    refine g_aload C X1 at_19 rfl rfl ?_
    refine g_iconst C X1 (0 : Int32) at_21 rfl rfl ?_
    refine g_lloadN C X1 at_22 rfl rfl ?_
    refine g_lastore C X1 at_23 e1 A1 (by decide) (by decide) rfl ?_
    intro T2 h2_ X2 e2 W2 A2
    have N2 := Fr.snoc X2 N0 g_ad1
    have Z2 : n0 ≤ h2_.size := Nat.le_trans Z1 (Keep.of_wr W2).1
    refine g_iload C X2 at_24 rfl rfl ?_
    refine g_iconst C X2 (1 : Int32) at_26 rfl rfl ?_
    refine g_icmp C X2 at_27 (by decide) rfl rfl ?_ ?_
    · intro h27
      have h27 : (2 : Int) ≤ 1 := h27
      exact absurd h27 (by decide)
    · intro h27
      have h27 : (2 : Int) > 1 := h27
      refine g_aload C X2 at_30 rfl rfl ?_
      refine g_iconst C X2 (1 : Int32) at_32 rfl rfl ?_
      refine g_lloadN C X2 at_33 rfl rfl ?_
      refine g_lastore C X2 at_34 e2 A2 (by decide) (by decide) rfl ?_
      intro T3 h3_ X3 e3 W3 A3
      have N3 := Fr.snoc X3 N2 g_ad1
      have Z3 : n0 ≤ h3_.size := Nat.le_trans Z2 (Keep.of_wr W3).1
      refine g_iload C X3 at_35 rfl rfl ?_
      refine g_iconst C X3 (2 : Int32) at_37 rfl rfl ?_
      refine g_icmp C X3 at_38 (by decide) rfl rfl ?_ ?_
      · intro h38
        have h38 : (2 : Int) ≤ 2 := h38
        refine g_iload C X3 at_47 rfl rfl ?_
        refine g_iconst C X3 (3 : Int32) at_49 rfl rfl ?_
        refine g_icmp C X3 at_50 (by decide) rfl rfl ?_ ?_
        · intro h50
          have h50 : (2 : Int) ≤ 3 := h50
          refine g_lconst C X3 (0 : Int64) at_59 rfl rfl ?_
          refine g_lstore C X3 at_60 #[.val (.int x0), .val (.long x1), .second, .val (.long x2), .second, .val (.long x3), .second, .val (.long x4), .second, .val (.long x5), .second, .val (.int (2 : Int32)), .val (.ref ad1), .val (.long (0 : Int64)), .second, .unset, .unset, .unset, .unset] rfl rfl ?_
          refine g_iload C X3 at_62 rfl rfl ?_
          refine g_if C X3 at_64 (by decide) rfl rfl ?_ ?_
          · intro h64
            have h64 : (2 : Int) ≤ 0 := h64
            exact absurd h64 (by decide)
          · intro h64
            have h64 : (2 : Int) > 0 := h64
            refine g_lload C X3 at_67 rfl rfl ?_
            refine g_lloadN C X3 at_69 rfl rfl ?_
            refine g_ladd C X3 at_70 rfl ?_
            refine g_lstoreV C X3 at_71 (fun v__ => #[.val (.int x0), .val (.long x1), .second, .val (.long x2), .second, .val (.long x3), .second, .val (.long x4), .second, .val (.long x5), .second, .val (.int (2 : Int32)), .val (.ref ad1), .val (.long v__), .second, .unset, .unset, .unset, .unset]) rfl rfl ?_
            intro v71 h_v71
            refine g_iload C X3 at_73 rfl rfl ?_
            refine g_iconst C X3 (1 : Int32) at_75 rfl rfl ?_
            refine g_icmp C X3 at_76 (by decide) rfl rfl ?_ ?_
            · intro h76
              have h76 : (2 : Int) ≤ 1 := h76
              exact absurd h76 (by decide)
            · intro h76
              have h76 : (2 : Int) > 1 := h76
              refine g_lload C X3 at_79 rfl rfl ?_
              refine g_lloadN C X3 at_81 rfl rfl ?_
              refine g_ladd C X3 at_82 rfl ?_
              refine g_lstoreV C X3 at_83 (fun v__ => #[.val (.int x0), .val (.long x1), .second, .val (.long x2), .second, .val (.long x3), .second, .val (.long x4), .second, .val (.long x5), .second, .val (.int (2 : Int32)), .val (.ref ad1), .val (.long v__), .second, .unset, .unset, .unset, .unset]) rfl rfl ?_
              intro v83 h_v83
              refine g_iload C X3 at_85 rfl rfl ?_
              refine g_iconst C X3 (2 : Int32) at_87 rfl rfl ?_
              refine g_icmp C X3 at_88 (by decide) rfl rfl ?_ ?_
              · intro h88
                have h88 : (2 : Int) ≤ 2 := h88
                refine g_iload C X3 at_98 rfl rfl ?_
                refine g_iconst C X3 (3 : Int32) at_100 rfl rfl ?_
                refine g_icmp C X3 at_101 (by decide) rfl rfl ?_ ?_
                · intro h101
                  have h101 : (2 : Int) ≤ 3 := h101
                  refine g_new C X3 at_111 e3 (C.t 2 rfl) (C.t 3 rfl) (C.t 4 rfl) (by decide) (by decide) rfl ?_
                  intro T4 h4_ X4 e4 E4 lt4 ad4 ha4 EX4 D4
                  have Z4 : n0 ≤ h4_.size := Nat.le_trans Z3 E4.1
                  have ne_ad1_ad4 : ad1 ≠ ad4 := Nat.ne_of_lt (Nat.lt_of_lt_of_eq A3.lt ha4.symm)
                  have A4_ad1 := A3.ext E4
                  have g_ad4 : n0 ≤ ad4 := by omega
                  refine g_dup C X4 at_114 rfl rfl ?_
                  refine g_aload C X4 at_115 rfl rfl ?_
                  refine g_lload C X4 at_117 rfl rfl ?_
                  refine g_lload C X4 at_119 rfl rfl ?_
                  refine g_lload C X4 at_121 rfl rfl ?_
                  refine g_callC (a := ad4) (argsL := [(.ref ad1), (.long x5), (.long x5), (.long x5)]) (rest := [(.ref ad4)]) (W := 1) C X4 at_123 e4 rfl (C.t 5 rfl) (C.t 6 rfl) (C.t 4 rfl) (C.t 7 rfl) (rm1 l Z a0 C.w [] ad4 ad1 x5 x5 x5 h4_ n0 Z4 EX4 D4 g_ad4 ) (by decide) pd_1 rfl rfl rfl (Nat.le_of_eq rfl) (by decide) (by decide) (by decide) (by decide) rfl ?_
                  intro T5 v5_ L5 X5 hQ5
                  obtain ⟨rfl, N5q, K5, EY5, Fc5_slices, Fc5_previous, Fc5_tailSeconds, Fc5_periodSeconds⟩ := hQ5
                  have N5 := Fr.app N3 N5q
                  have Z5 : n0 ≤ T5.heap.size := Nat.le_trans Z4 K5.1
                  have A5_ad1 := A4_ad1.keep K5 (ninS ne_ad1_ad4 nin0)
                  refine g_astore C X5 at_126 #[.val (.int x0), .val (.long x1), .second, .val (.long x2), .second, .val (.long x3), .second, .val (.long x4), .second, .val (.long x5), .second, .val (.int (2 : Int32)), .val (.ref ad1), .val (.long v83), .second, .val (.ref ad4), .unset, .unset, .unset] rfl rfl ?_
                  refine g_aload C X5 at_128 rfl rfl ?_
                  have Aq : Aw Z T5.heap ad1 .long 2 (fun j => .long ((fun j => ([x1, x2] : List Int64).getD j 0) j)) := Aw.of A5_ad1 (by
                    intro j hj
                    have hj : j < 2 := hj
                    have hj : j = 0 ∨ j = 1 := by omega
                    rcases hj with rfl | rfl <;> rfl)
                  refine g_callV (a := ad4) (argsL := []) (rest := []) (W := 0) C X5 at_130 rfl EY5 (C.t 25 rfl) (C.t 27 rfl) (C.t 24 rfl) (C.t 26 rfl) (C.t 4 rfl) (C.t 28 rfl) (rm4 l Z a0 C.w [] ad4 ad1 2 (fun j => ([x1, x2] : List Int64).getD j 0) T5.heap n0 Z5 Fc5_slices Aq) (by decide) pd_4 rfl rfl rfl (Nat.le_of_eq rfl) (by decide) (by decide) (by decide) (by decide) rfl ?_
                  intro T6 v6_ L6 X6 hQ6
                  obtain ⟨rfl, N6q, hh6⟩ := hQ6
                  have N6 := Fr.app N5 N6q
                  refine g_lstoreV C X6 at_133 (fun v__ => #[.val (.int x0), .val (.long x1), .second, .val (.long x2), .second, .val (.long x3), .second, .val (.long x4), .second, .val (.long x5), .second, .val (.int (2 : Int32)), .val (.ref ad1), .val (.long v83), .second, .val (.ref ad4), .val (.long v__), .second, .unset]) rfl rfl ?_
                  intro v133 h_v133
                  refine g_iconst C X6 (1 : Int32) at_135 rfl rfl ?_
                  refine g_istore C X6 at_136 #[.val (.int x0), .val (.long x1), .second, .val (.long x2), .second, .val (.long x3), .second, .val (.long x4), .second, .val (.long x5), .second, .val (.int (2 : Int32)), .val (.ref ad1), .val (.long v83), .second, .val (.ref ad4), .val (.long v133), .second, .val (.int (1 : Int32))] rfl rfl ?_
                  refine g_iload C X6 at_138 rfl rfl ?_
                  refine g_if C X6 at_140 (by decide) rfl rfl ?_ ?_
                  · intro h140
                    have h140 : (2 : Int) ≤ 0 := h140
                    exact absurd h140 (by decide)
                  · intro h140
                    have h140 : (2 : Int) > 0 := h140
                    refine g_iload C X6 at_143 rfl rfl ?_
                    refine g_if C X6 at_145 (by decide) rfl rfl ?_ ?_
                    · intro h145
                      have h145 : (1 : Int) = 0 := h145
                      exact absurd h145 (by decide)
                    · intro h145
                      have h145 : ¬ (1 : Int) = 0 := h145
                      refine g_aload C X6 at_148 rfl rfl ?_
                      refine g_iconst C X6 (0 : Int32) at_150 rfl rfl ?_
                      refine g_laload C X6 at_151 hh6 A5_ad1 (by decide) (by decide) (v := (.long x1)) rfl rfl ?_
                      refine g_lloadN C X6 at_152 rfl rfl ?_
                      refine g_lcmpif C X6 at_153 rfl at_154 (by decide) rfl rfl ?_ ?_
                      · intro h154
                        have h154 : ¬ x1.toInt = x1.toInt := h154
                        exact absurd rfl h154
                      · intro h154
                        have h154 : x1.toInt = x1.toInt := h154
                        refine g_iconst C X6 (1 : Int32) at_157 rfl rfl ?_
                        refine g_goto C X6 at_158 (by decide) rfl ?_
                        refine g_istore C X6 at_162 #[.val (.int x0), .val (.long x1), .second, .val (.long x2), .second, .val (.long x3), .second, .val (.long x4), .second, .val (.long x5), .second, .val (.int (2 : Int32)), .val (.ref ad1), .val (.long v83), .second, .val (.ref ad4), .val (.long v133), .second, .val (.int (1 : Int32))] rfl rfl ?_
                        refine g_iload C X6 at_164 rfl rfl ?_
                        refine g_iconst C X6 (1 : Int32) at_166 rfl rfl ?_
                        refine g_icmp C X6 at_167 (by decide) rfl rfl ?_ ?_
                        · intro h167
                          have h167 : (2 : Int) ≤ 1 := h167
                          exact absurd h167 (by decide)
                        · intro h167
                          have h167 : (2 : Int) > 1 := h167
                          refine g_iload C X6 at_170 rfl rfl ?_
                          refine g_if C X6 at_172 (by decide) rfl rfl ?_ ?_
                          · intro h172
                            have h172 : (1 : Int) = 0 := h172
                            exact absurd h172 (by decide)
                          · intro h172
                            have h172 : ¬ (1 : Int) = 0 := h172
                            refine g_aload C X6 at_175 rfl rfl ?_
                            refine g_iconst C X6 (1 : Int32) at_177 rfl rfl ?_
                            refine g_laload C X6 at_178 hh6 A5_ad1 (by decide) (by decide) (v := (.long x2)) rfl rfl ?_
                            refine g_lloadN C X6 at_179 rfl rfl ?_
                            refine g_lcmpif C X6 at_180 rfl at_181 (by decide) rfl rfl ?_ ?_
                            · intro h181
                              have h181 : ¬ x2.toInt = x2.toInt := h181
                              exact absurd rfl h181
                            · intro h181
                              have h181 : x2.toInt = x2.toInt := h181
                              refine g_iconst C X6 (1 : Int32) at_184 rfl rfl ?_
                              refine g_goto C X6 at_185 (by decide) rfl ?_
                              refine g_istore C X6 at_189 #[.val (.int x0), .val (.long x1), .second, .val (.long x2), .second, .val (.long x3), .second, .val (.long x4), .second, .val (.long x5), .second, .val (.int (2 : Int32)), .val (.ref ad1), .val (.long v83), .second, .val (.ref ad4), .val (.long v133), .second, .val (.int (1 : Int32))] rfl rfl ?_
                              refine g_iload C X6 at_191 rfl rfl ?_
                              refine g_iconst C X6 (2 : Int32) at_193 rfl rfl ?_
                              refine g_icmp C X6 at_194 (by decide) rfl rfl ?_ ?_
                              · intro h194
                                have h194 : (2 : Int) ≤ 2 := h194
                                refine g_iload C X6 at_219 rfl rfl ?_
                                refine g_iconst C X6 (3 : Int32) at_221 rfl rfl ?_
                                refine g_icmp C X6 at_222 (by decide) rfl rfl ?_ ?_
                                · intro h222
                                  have h222 : (2 : Int) ≤ 3 := h222
                                  refine g_lload C X6 at_247 rfl rfl ?_
                                  refine g_lload C X6 at_249 rfl rfl ?_
                                  refine g_lcmpif C X6 at_251 rfl at_252 (by decide) rfl rfl ?_ ?_
                                  · intro h252
                                    have h252 : ¬ v133.toInt = v83.toInt := h252
                                    exact absurd (by rw [h_v133, h_v83, h_v71]; rfl) h252
                                  · intro h252
                                    have h252 : v133.toInt = v83.toInt := h252
                                    refine g_iload C X6 at_255 rfl rfl ?_
                                    refine g_if C X6 at_257 (by decide) rfl rfl ?_ ?_
                                    · intro h257
                                      have h257 : (1 : Int) = 0 := h257
                                      exact absurd h257 (by decide)
                                    · intro h257
                                      have h257 : ¬ (1 : Int) = 0 := h257
                                      refine g_iconst C X6 (1 : Int32) at_260 rfl rfl ?_
                                      refine g_goto C X6 at_261 (by decide) rfl ?_
                                      exact g_ireturnN C X6 at_265 rfl (Or.inl rfl) ⟨rfl, N6⟩ (by decide) (by decide)
                                · intro h222
                                  have h222 : (2 : Int) > 3 := h222
                                  exact absurd h222 (by decide)
                              · intro h194
                                have h194 : (2 : Int) > 2 := h194
                                exact absurd h194 (by decide)
                · intro h101
                  have h101 : (2 : Int) > 3 := h101
                  exact absurd h101 (by decide)
              · intro h88
                have h88 : (2 : Int) > 2 := h88
                exact absurd h88 (by decide)
        · intro h50
          have h50 : (2 : Int) > 3 := h50
          exact absurd h50 (by decide)
      · intro h38
        have h38 : (2 : Int) > 2 := h38
        exact absurd h38 (by decide)
set_option maxRecDepth 65536 in
set_option maxHeartbeats 40000000 in
theorem seg8_3 {p : Program} {l : Launch} {e : Env} {s : State} {m : MethodId} {args : Array Value} {below : List Frame} {meth : Method} {c : Code} {T0 : State} {locs : List Loc} {Z : State} {a0 : Array Value} {h0 : Heap} {n0 : Nat} {x0 : Int32} {x1 x2 x3 x4 x5 : Int64}
    (C : Cx Z a0 p s m meth c code maxLocals "com/example/throtl/throtl/service/WindowCountOwnPinLaw" "law" ret) (X0 : Stand p l e room_1 s m args below meth c T0 locs 0 0) (e0 : T0.heap = h0) (N0 : Fr n0 locs) (Z0 : n0 ≤ h0.size)  :
    Go p e below s m (LQ n0) room_1.cells room_1.slots T0 8 #[.val (.int x0), .val (.long x1), .second, .val (.long x2), .second, .val (.long x3), .second, .val (.long x4), .second, .val (.long x5), .second, .val (.int (3 : Int32)), .unset, .unset, .unset, .unset, .unset, .unset, .unset] [] := by
  refine g_iload C X0 at_8 rfl rfl ?_
  refine g_newarray (cap := 3) C X0 at_10 e0 (C.t 1 rfl) (by decide) (by decide) (by decide) (by decide) (by decide) rfl ?_
  intro T1 h1_ X1 e1 E1 lt1 ad1 ha1 A1
  have Z1 : n0 ≤ h1_.size := Nat.le_trans Z0 E1.1
  have g_ad1 : n0 ≤ ad1 := by omega
  refine g_astore C X1 at_12 #[.val (.int x0), .val (.long x1), .second, .val (.long x2), .second, .val (.long x3), .second, .val (.long x4), .second, .val (.long x5), .second, .val (.int (3 : Int32)), .val (.ref ad1), .unset, .unset, .unset, .unset, .unset, .unset] rfl rfl ?_
  refine g_iload C X1 at_14 rfl rfl ?_
  refine g_if C X1 at_16 (by decide) rfl rfl ?_ ?_
  · intro h16
    have h16 : (3 : Int) ≤ 0 := h16
    exact absurd h16 (by decide)
  · intro h16
    have h16 : (3 : Int) > 0 := h16
    refine g_aload C X1 at_19 rfl rfl ?_
    refine g_iconst C X1 (0 : Int32) at_21 rfl rfl ?_
    refine g_lloadN C X1 at_22 rfl rfl ?_
    refine g_lastore C X1 at_23 e1 A1 (by decide) (by decide) rfl ?_
    intro T2 h2_ X2 e2 W2 A2
    have N2 := Fr.snoc X2 N0 g_ad1
    have Z2 : n0 ≤ h2_.size := Nat.le_trans Z1 (Keep.of_wr W2).1
    refine g_iload C X2 at_24 rfl rfl ?_
    refine g_iconst C X2 (1 : Int32) at_26 rfl rfl ?_
    refine g_icmp C X2 at_27 (by decide) rfl rfl ?_ ?_
    · intro h27
      have h27 : (3 : Int) ≤ 1 := h27
      exact absurd h27 (by decide)
    · intro h27
      have h27 : (3 : Int) > 1 := h27
      refine g_aload C X2 at_30 rfl rfl ?_
      refine g_iconst C X2 (1 : Int32) at_32 rfl rfl ?_
      refine g_lloadN C X2 at_33 rfl rfl ?_
      refine g_lastore C X2 at_34 e2 A2 (by decide) (by decide) rfl ?_
      intro T3 h3_ X3 e3 W3 A3
      have N3 := Fr.snoc X3 N2 g_ad1
      have Z3 : n0 ≤ h3_.size := Nat.le_trans Z2 (Keep.of_wr W3).1
      refine g_iload C X3 at_35 rfl rfl ?_
      refine g_iconst C X3 (2 : Int32) at_37 rfl rfl ?_
      refine g_icmp C X3 at_38 (by decide) rfl rfl ?_ ?_
      · intro h38
        have h38 : (3 : Int) ≤ 2 := h38
        exact absurd h38 (by decide)
      · intro h38
        have h38 : (3 : Int) > 2 := h38
        refine g_aload C X3 at_41 rfl rfl ?_
        refine g_iconst C X3 (2 : Int32) at_43 rfl rfl ?_
        refine g_lload C X3 at_44 rfl rfl ?_
        refine g_lastore C X3 at_46 e3 A3 (by decide) (by decide) rfl ?_
        intro T4 h4_ X4 e4 W4 A4
        have N4 := Fr.snoc X4 N3 g_ad1
        have Z4 : n0 ≤ h4_.size := Nat.le_trans Z3 (Keep.of_wr W4).1
        refine g_iload C X4 at_47 rfl rfl ?_
        refine g_iconst C X4 (3 : Int32) at_49 rfl rfl ?_
        refine g_icmp C X4 at_50 (by decide) rfl rfl ?_ ?_
        · intro h50
          have h50 : (3 : Int) ≤ 3 := h50
          refine g_lconst C X4 (0 : Int64) at_59 rfl rfl ?_
          refine g_lstore C X4 at_60 #[.val (.int x0), .val (.long x1), .second, .val (.long x2), .second, .val (.long x3), .second, .val (.long x4), .second, .val (.long x5), .second, .val (.int (3 : Int32)), .val (.ref ad1), .val (.long (0 : Int64)), .second, .unset, .unset, .unset, .unset] rfl rfl ?_
          refine g_iload C X4 at_62 rfl rfl ?_
          refine g_if C X4 at_64 (by decide) rfl rfl ?_ ?_
          · intro h64
            have h64 : (3 : Int) ≤ 0 := h64
            exact absurd h64 (by decide)
          · intro h64
            have h64 : (3 : Int) > 0 := h64
            refine g_lload C X4 at_67 rfl rfl ?_
            refine g_lloadN C X4 at_69 rfl rfl ?_
            refine g_ladd C X4 at_70 rfl ?_
            refine g_lstoreV C X4 at_71 (fun v__ => #[.val (.int x0), .val (.long x1), .second, .val (.long x2), .second, .val (.long x3), .second, .val (.long x4), .second, .val (.long x5), .second, .val (.int (3 : Int32)), .val (.ref ad1), .val (.long v__), .second, .unset, .unset, .unset, .unset]) rfl rfl ?_
            intro v71 h_v71
            refine g_iload C X4 at_73 rfl rfl ?_
            refine g_iconst C X4 (1 : Int32) at_75 rfl rfl ?_
            refine g_icmp C X4 at_76 (by decide) rfl rfl ?_ ?_
            · intro h76
              have h76 : (3 : Int) ≤ 1 := h76
              exact absurd h76 (by decide)
            · intro h76
              have h76 : (3 : Int) > 1 := h76
              refine g_lload C X4 at_79 rfl rfl ?_
              refine g_lloadN C X4 at_81 rfl rfl ?_
              refine g_ladd C X4 at_82 rfl ?_
              refine g_lstoreV C X4 at_83 (fun v__ => #[.val (.int x0), .val (.long x1), .second, .val (.long x2), .second, .val (.long x3), .second, .val (.long x4), .second, .val (.long x5), .second, .val (.int (3 : Int32)), .val (.ref ad1), .val (.long v__), .second, .unset, .unset, .unset, .unset]) rfl rfl ?_
              intro v83 h_v83
              refine g_iload C X4 at_85 rfl rfl ?_
              refine g_iconst C X4 (2 : Int32) at_87 rfl rfl ?_
              refine g_icmp C X4 at_88 (by decide) rfl rfl ?_ ?_
              · intro h88
                have h88 : (3 : Int) ≤ 2 := h88
                exact absurd h88 (by decide)
              · intro h88
                have h88 : (3 : Int) > 2 := h88
                refine g_lload C X4 at_91 rfl rfl ?_
                refine g_lload C X4 at_93 rfl rfl ?_
                refine g_ladd C X4 at_95 rfl ?_
                refine g_lstoreV C X4 at_96 (fun v__ => #[.val (.int x0), .val (.long x1), .second, .val (.long x2), .second, .val (.long x3), .second, .val (.long x4), .second, .val (.long x5), .second, .val (.int (3 : Int32)), .val (.ref ad1), .val (.long v__), .second, .unset, .unset, .unset, .unset]) rfl rfl ?_
                intro v96 h_v96
                refine g_iload C X4 at_98 rfl rfl ?_
                refine g_iconst C X4 (3 : Int32) at_100 rfl rfl ?_
                refine g_icmp C X4 at_101 (by decide) rfl rfl ?_ ?_
                · intro h101
                  have h101 : (3 : Int) ≤ 3 := h101
                  refine g_new C X4 at_111 e4 (C.t 2 rfl) (C.t 3 rfl) (C.t 4 rfl) (by decide) (by decide) rfl ?_
                  intro T5 h5_ X5 e5 E5 lt5 ad5 ha5 EX5 D5
                  have Z5 : n0 ≤ h5_.size := Nat.le_trans Z4 E5.1
                  have ne_ad1_ad5 : ad1 ≠ ad5 := Nat.ne_of_lt (Nat.lt_of_lt_of_eq A4.lt ha5.symm)
                  have A5_ad1 := A4.ext E5
                  have g_ad5 : n0 ≤ ad5 := by omega
                  refine g_dup C X5 at_114 rfl rfl ?_
                  refine g_aload C X5 at_115 rfl rfl ?_
                  refine g_lload C X5 at_117 rfl rfl ?_
                  refine g_lload C X5 at_119 rfl rfl ?_
                  refine g_lload C X5 at_121 rfl rfl ?_
                  refine g_callC (a := ad5) (argsL := [(.ref ad1), (.long x5), (.long x5), (.long x5)]) (rest := [(.ref ad5)]) (W := 1) C X5 at_123 e5 rfl (C.t 5 rfl) (C.t 6 rfl) (C.t 4 rfl) (C.t 7 rfl) (rm1 l Z a0 C.w [] ad5 ad1 x5 x5 x5 h5_ n0 Z5 EX5 D5 g_ad5 ) (by decide) pd_1 rfl rfl rfl (Nat.le_of_eq rfl) (by decide) (by decide) (by decide) (by decide) rfl ?_
                  intro T6 v6_ L6 X6 hQ6
                  obtain ⟨rfl, N6q, K6, EY6, Fc6_slices, Fc6_previous, Fc6_tailSeconds, Fc6_periodSeconds⟩ := hQ6
                  have N6 := Fr.app N4 N6q
                  have Z6 : n0 ≤ T6.heap.size := Nat.le_trans Z5 K6.1
                  have A6_ad1 := A5_ad1.keep K6 (ninS ne_ad1_ad5 nin0)
                  refine g_astore C X6 at_126 #[.val (.int x0), .val (.long x1), .second, .val (.long x2), .second, .val (.long x3), .second, .val (.long x4), .second, .val (.long x5), .second, .val (.int (3 : Int32)), .val (.ref ad1), .val (.long v96), .second, .val (.ref ad5), .unset, .unset, .unset] rfl rfl ?_
                  refine g_aload C X6 at_128 rfl rfl ?_
                  have Aq : Aw Z T6.heap ad1 .long 3 (fun j => .long ((fun j => ([x1, x2, x3] : List Int64).getD j 0) j)) := Aw.of A6_ad1 (by
                    intro j hj
                    have hj : j < 3 := hj
                    have hj : j = 0 ∨ j = 1 ∨ j = 2 := by omega
                    rcases hj with rfl | rfl | rfl <;> rfl)
                  refine g_callV (a := ad5) (argsL := []) (rest := []) (W := 0) C X6 at_130 rfl EY6 (C.t 25 rfl) (C.t 27 rfl) (C.t 24 rfl) (C.t 26 rfl) (C.t 4 rfl) (C.t 28 rfl) (rm4 l Z a0 C.w [] ad5 ad1 3 (fun j => ([x1, x2, x3] : List Int64).getD j 0) T6.heap n0 Z6 Fc6_slices Aq) (by decide) pd_4 rfl rfl rfl (Nat.le_of_eq rfl) (by decide) (by decide) (by decide) (by decide) rfl ?_
                  intro T7 v7_ L7 X7 hQ7
                  obtain ⟨rfl, N7q, hh7⟩ := hQ7
                  have N7 := Fr.app N6 N7q
                  refine g_lstoreV C X7 at_133 (fun v__ => #[.val (.int x0), .val (.long x1), .second, .val (.long x2), .second, .val (.long x3), .second, .val (.long x4), .second, .val (.long x5), .second, .val (.int (3 : Int32)), .val (.ref ad1), .val (.long v96), .second, .val (.ref ad5), .val (.long v__), .second, .unset]) rfl rfl ?_
                  intro v133 h_v133
                  refine g_iconst C X7 (1 : Int32) at_135 rfl rfl ?_
                  refine g_istore C X7 at_136 #[.val (.int x0), .val (.long x1), .second, .val (.long x2), .second, .val (.long x3), .second, .val (.long x4), .second, .val (.long x5), .second, .val (.int (3 : Int32)), .val (.ref ad1), .val (.long v96), .second, .val (.ref ad5), .val (.long v133), .second, .val (.int (1 : Int32))] rfl rfl ?_
                  refine g_iload C X7 at_138 rfl rfl ?_
                  refine g_if C X7 at_140 (by decide) rfl rfl ?_ ?_
                  · intro h140
                    have h140 : (3 : Int) ≤ 0 := h140
                    exact absurd h140 (by decide)
                  · intro h140
                    have h140 : (3 : Int) > 0 := h140
                    refine g_iload C X7 at_143 rfl rfl ?_
                    refine g_if C X7 at_145 (by decide) rfl rfl ?_ ?_
                    · intro h145
                      have h145 : (1 : Int) = 0 := h145
                      exact absurd h145 (by decide)
                    · intro h145
                      have h145 : ¬ (1 : Int) = 0 := h145
                      refine g_aload C X7 at_148 rfl rfl ?_
                      refine g_iconst C X7 (0 : Int32) at_150 rfl rfl ?_
                      refine g_laload C X7 at_151 hh7 A6_ad1 (by decide) (by decide) (v := (.long x1)) rfl rfl ?_
                      refine g_lloadN C X7 at_152 rfl rfl ?_
                      refine g_lcmpif C X7 at_153 rfl at_154 (by decide) rfl rfl ?_ ?_
                      · intro h154
                        have h154 : ¬ x1.toInt = x1.toInt := h154
                        exact absurd rfl h154
                      · intro h154
                        have h154 : x1.toInt = x1.toInt := h154
                        refine g_iconst C X7 (1 : Int32) at_157 rfl rfl ?_
                        refine g_goto C X7 at_158 (by decide) rfl ?_
                        refine g_istore C X7 at_162 #[.val (.int x0), .val (.long x1), .second, .val (.long x2), .second, .val (.long x3), .second, .val (.long x4), .second, .val (.long x5), .second, .val (.int (3 : Int32)), .val (.ref ad1), .val (.long v96), .second, .val (.ref ad5), .val (.long v133), .second, .val (.int (1 : Int32))] rfl rfl ?_
                        refine g_iload C X7 at_164 rfl rfl ?_
                        refine g_iconst C X7 (1 : Int32) at_166 rfl rfl ?_
                        refine g_icmp C X7 at_167 (by decide) rfl rfl ?_ ?_
                        · intro h167
                          have h167 : (3 : Int) ≤ 1 := h167
                          exact absurd h167 (by decide)
                        · intro h167
                          have h167 : (3 : Int) > 1 := h167
                          refine g_iload C X7 at_170 rfl rfl ?_
                          refine g_if C X7 at_172 (by decide) rfl rfl ?_ ?_
                          · intro h172
                            have h172 : (1 : Int) = 0 := h172
                            exact absurd h172 (by decide)
                          · intro h172
                            have h172 : ¬ (1 : Int) = 0 := h172
                            refine g_aload C X7 at_175 rfl rfl ?_
                            refine g_iconst C X7 (1 : Int32) at_177 rfl rfl ?_
                            refine g_laload C X7 at_178 hh7 A6_ad1 (by decide) (by decide) (v := (.long x2)) rfl rfl ?_
                            refine g_lloadN C X7 at_179 rfl rfl ?_
                            refine g_lcmpif C X7 at_180 rfl at_181 (by decide) rfl rfl ?_ ?_
                            · intro h181
                              have h181 : ¬ x2.toInt = x2.toInt := h181
                              exact absurd rfl h181
                            · intro h181
                              have h181 : x2.toInt = x2.toInt := h181
                              refine g_iconst C X7 (1 : Int32) at_184 rfl rfl ?_
                              refine g_goto C X7 at_185 (by decide) rfl ?_
                              refine g_istore C X7 at_189 #[.val (.int x0), .val (.long x1), .second, .val (.long x2), .second, .val (.long x3), .second, .val (.long x4), .second, .val (.long x5), .second, .val (.int (3 : Int32)), .val (.ref ad1), .val (.long v96), .second, .val (.ref ad5), .val (.long v133), .second, .val (.int (1 : Int32))] rfl rfl ?_
                              refine g_iload C X7 at_191 rfl rfl ?_
                              refine g_iconst C X7 (2 : Int32) at_193 rfl rfl ?_
                              refine g_icmp C X7 at_194 (by decide) rfl rfl ?_ ?_
                              · intro h194
                                have h194 : (3 : Int) ≤ 2 := h194
                                exact absurd h194 (by decide)
                              · intro h194
                                have h194 : (3 : Int) > 2 := h194
                                refine g_iload C X7 at_197 rfl rfl ?_
                                refine g_if C X7 at_199 (by decide) rfl rfl ?_ ?_
                                · intro h199
                                  have h199 : (1 : Int) = 0 := h199
                                  exact absurd h199 (by decide)
                                · intro h199
                                  have h199 : ¬ (1 : Int) = 0 := h199
                                  refine g_aload C X7 at_202 rfl rfl ?_
                                  refine g_iconst C X7 (2 : Int32) at_204 rfl rfl ?_
                                  refine g_laload C X7 at_205 hh7 A6_ad1 (by decide) (by decide) (v := (.long x3)) rfl rfl ?_
                                  refine g_lload C X7 at_206 rfl rfl ?_
                                  refine g_lcmpif C X7 at_208 rfl at_209 (by decide) rfl rfl ?_ ?_
                                  · intro h209
                                    have h209 : ¬ x3.toInt = x3.toInt := h209
                                    exact absurd rfl h209
                                  · intro h209
                                    have h209 : x3.toInt = x3.toInt := h209
                                    refine g_iconst C X7 (1 : Int32) at_212 rfl rfl ?_
                                    refine g_goto C X7 at_213 (by decide) rfl ?_
                                    refine g_istore C X7 at_217 #[.val (.int x0), .val (.long x1), .second, .val (.long x2), .second, .val (.long x3), .second, .val (.long x4), .second, .val (.long x5), .second, .val (.int (3 : Int32)), .val (.ref ad1), .val (.long v96), .second, .val (.ref ad5), .val (.long v133), .second, .val (.int (1 : Int32))] rfl rfl ?_
                                    refine g_iload C X7 at_219 rfl rfl ?_
                                    refine g_iconst C X7 (3 : Int32) at_221 rfl rfl ?_
                                    refine g_icmp C X7 at_222 (by decide) rfl rfl ?_ ?_
                                    · intro h222
                                      have h222 : (3 : Int) ≤ 3 := h222
                                      refine g_lload C X7 at_247 rfl rfl ?_
                                      refine g_lload C X7 at_249 rfl rfl ?_
                                      refine g_lcmpif C X7 at_251 rfl at_252 (by decide) rfl rfl ?_ ?_
                                      · intro h252
                                        have h252 : ¬ v133.toInt = v96.toInt := h252
                                        exact absurd (by rw [h_v133, h_v96, h_v83, h_v71]; rfl) h252
                                      · intro h252
                                        have h252 : v133.toInt = v96.toInt := h252
                                        refine g_iload C X7 at_255 rfl rfl ?_
                                        refine g_if C X7 at_257 (by decide) rfl rfl ?_ ?_
                                        · intro h257
                                          have h257 : (1 : Int) = 0 := h257
                                          exact absurd h257 (by decide)
                                        · intro h257
                                          have h257 : ¬ (1 : Int) = 0 := h257
                                          refine g_iconst C X7 (1 : Int32) at_260 rfl rfl ?_
                                          refine g_goto C X7 at_261 (by decide) rfl ?_
                                          exact g_ireturnN C X7 at_265 rfl (Or.inl rfl) ⟨rfl, N7⟩ (by decide) (by decide)
                                    · intro h222
                                      have h222 : (3 : Int) > 3 := h222
                                      exact absurd h222 (by decide)
                · intro h101
                  have h101 : (3 : Int) > 3 := h101
                  exact absurd h101 (by decide)
        · intro h50
          have h50 : (3 : Int) > 3 := h50
          exact absurd h50 (by decide)
set_option maxRecDepth 65536 in
set_option maxHeartbeats 40000000 in
theorem seg8_4 {p : Program} {l : Launch} {e : Env} {s : State} {m : MethodId} {args : Array Value} {below : List Frame} {meth : Method} {c : Code} {T0 : State} {locs : List Loc} {Z : State} {a0 : Array Value} {h0 : Heap} {n0 : Nat} {x0 : Int32} {x1 x2 x3 x4 x5 : Int64}
    (C : Cx Z a0 p s m meth c code maxLocals "com/example/throtl/throtl/service/WindowCountOwnPinLaw" "law" ret) (X0 : Stand p l e room_1 s m args below meth c T0 locs 0 0) (e0 : T0.heap = h0) (N0 : Fr n0 locs) (Z0 : n0 ≤ h0.size)  :
    Go p e below s m (LQ n0) room_1.cells room_1.slots T0 8 #[.val (.int x0), .val (.long x1), .second, .val (.long x2), .second, .val (.long x3), .second, .val (.long x4), .second, .val (.long x5), .second, .val (.int (4 : Int32)), .unset, .unset, .unset, .unset, .unset, .unset, .unset] [] := by
  refine g_iload C X0 at_8 rfl rfl ?_
  refine g_newarray (cap := 4) C X0 at_10 e0 (C.t 1 rfl) (by decide) (by decide) (by decide) (by decide) (by decide) rfl ?_
  intro T1 h1_ X1 e1 E1 lt1 ad1 ha1 A1
  have Z1 : n0 ≤ h1_.size := Nat.le_trans Z0 E1.1
  have g_ad1 : n0 ≤ ad1 := by omega
  refine g_astore C X1 at_12 #[.val (.int x0), .val (.long x1), .second, .val (.long x2), .second, .val (.long x3), .second, .val (.long x4), .second, .val (.long x5), .second, .val (.int (4 : Int32)), .val (.ref ad1), .unset, .unset, .unset, .unset, .unset, .unset] rfl rfl ?_
  refine g_iload C X1 at_14 rfl rfl ?_
  refine g_if C X1 at_16 (by decide) rfl rfl ?_ ?_
  · intro h16
    have h16 : (4 : Int) ≤ 0 := h16
    exact absurd h16 (by decide)
  · intro h16
    have h16 : (4 : Int) > 0 := h16
    refine g_aload C X1 at_19 rfl rfl ?_
    refine g_iconst C X1 (0 : Int32) at_21 rfl rfl ?_
    refine g_lloadN C X1 at_22 rfl rfl ?_
    refine g_lastore C X1 at_23 e1 A1 (by decide) (by decide) rfl ?_
    intro T2 h2_ X2 e2 W2 A2
    have N2 := Fr.snoc X2 N0 g_ad1
    have Z2 : n0 ≤ h2_.size := Nat.le_trans Z1 (Keep.of_wr W2).1
    refine g_iload C X2 at_24 rfl rfl ?_
    refine g_iconst C X2 (1 : Int32) at_26 rfl rfl ?_
    refine g_icmp C X2 at_27 (by decide) rfl rfl ?_ ?_
    · intro h27
      have h27 : (4 : Int) ≤ 1 := h27
      exact absurd h27 (by decide)
    · intro h27
      have h27 : (4 : Int) > 1 := h27
      refine g_aload C X2 at_30 rfl rfl ?_
      refine g_iconst C X2 (1 : Int32) at_32 rfl rfl ?_
      refine g_lloadN C X2 at_33 rfl rfl ?_
      refine g_lastore C X2 at_34 e2 A2 (by decide) (by decide) rfl ?_
      intro T3 h3_ X3 e3 W3 A3
      have N3 := Fr.snoc X3 N2 g_ad1
      have Z3 : n0 ≤ h3_.size := Nat.le_trans Z2 (Keep.of_wr W3).1
      refine g_iload C X3 at_35 rfl rfl ?_
      refine g_iconst C X3 (2 : Int32) at_37 rfl rfl ?_
      refine g_icmp C X3 at_38 (by decide) rfl rfl ?_ ?_
      · intro h38
        have h38 : (4 : Int) ≤ 2 := h38
        exact absurd h38 (by decide)
      · intro h38
        have h38 : (4 : Int) > 2 := h38
        refine g_aload C X3 at_41 rfl rfl ?_
        refine g_iconst C X3 (2 : Int32) at_43 rfl rfl ?_
        refine g_lload C X3 at_44 rfl rfl ?_
        refine g_lastore C X3 at_46 e3 A3 (by decide) (by decide) rfl ?_
        intro T4 h4_ X4 e4 W4 A4
        have N4 := Fr.snoc X4 N3 g_ad1
        have Z4 : n0 ≤ h4_.size := Nat.le_trans Z3 (Keep.of_wr W4).1
        refine g_iload C X4 at_47 rfl rfl ?_
        refine g_iconst C X4 (3 : Int32) at_49 rfl rfl ?_
        refine g_icmp C X4 at_50 (by decide) rfl rfl ?_ ?_
        · intro h50
          have h50 : (4 : Int) ≤ 3 := h50
          exact absurd h50 (by decide)
        · intro h50
          have h50 : (4 : Int) > 3 := h50
          refine g_aload C X4 at_53 rfl rfl ?_
          refine g_iconst C X4 (3 : Int32) at_55 rfl rfl ?_
          refine g_lload C X4 at_56 rfl rfl ?_
          refine g_lastore C X4 at_58 e4 A4 (by decide) (by decide) rfl ?_
          intro T5 h5_ X5 e5 W5 A5
          have N5 := Fr.snoc X5 N4 g_ad1
          have Z5 : n0 ≤ h5_.size := Nat.le_trans Z4 (Keep.of_wr W5).1
          refine g_lconst C X5 (0 : Int64) at_59 rfl rfl ?_
          refine g_lstore C X5 at_60 #[.val (.int x0), .val (.long x1), .second, .val (.long x2), .second, .val (.long x3), .second, .val (.long x4), .second, .val (.long x5), .second, .val (.int (4 : Int32)), .val (.ref ad1), .val (.long (0 : Int64)), .second, .unset, .unset, .unset, .unset] rfl rfl ?_
          refine g_iload C X5 at_62 rfl rfl ?_
          refine g_if C X5 at_64 (by decide) rfl rfl ?_ ?_
          · intro h64
            have h64 : (4 : Int) ≤ 0 := h64
            exact absurd h64 (by decide)
          · intro h64
            have h64 : (4 : Int) > 0 := h64
            refine g_lload C X5 at_67 rfl rfl ?_
            refine g_lloadN C X5 at_69 rfl rfl ?_
            refine g_ladd C X5 at_70 rfl ?_
            refine g_lstoreV C X5 at_71 (fun v__ => #[.val (.int x0), .val (.long x1), .second, .val (.long x2), .second, .val (.long x3), .second, .val (.long x4), .second, .val (.long x5), .second, .val (.int (4 : Int32)), .val (.ref ad1), .val (.long v__), .second, .unset, .unset, .unset, .unset]) rfl rfl ?_
            intro v71 h_v71
            refine g_iload C X5 at_73 rfl rfl ?_
            refine g_iconst C X5 (1 : Int32) at_75 rfl rfl ?_
            refine g_icmp C X5 at_76 (by decide) rfl rfl ?_ ?_
            · intro h76
              have h76 : (4 : Int) ≤ 1 := h76
              exact absurd h76 (by decide)
            · intro h76
              have h76 : (4 : Int) > 1 := h76
              refine g_lload C X5 at_79 rfl rfl ?_
              refine g_lloadN C X5 at_81 rfl rfl ?_
              refine g_ladd C X5 at_82 rfl ?_
              refine g_lstoreV C X5 at_83 (fun v__ => #[.val (.int x0), .val (.long x1), .second, .val (.long x2), .second, .val (.long x3), .second, .val (.long x4), .second, .val (.long x5), .second, .val (.int (4 : Int32)), .val (.ref ad1), .val (.long v__), .second, .unset, .unset, .unset, .unset]) rfl rfl ?_
              intro v83 h_v83
              refine g_iload C X5 at_85 rfl rfl ?_
              refine g_iconst C X5 (2 : Int32) at_87 rfl rfl ?_
              refine g_icmp C X5 at_88 (by decide) rfl rfl ?_ ?_
              · intro h88
                have h88 : (4 : Int) ≤ 2 := h88
                exact absurd h88 (by decide)
              · intro h88
                have h88 : (4 : Int) > 2 := h88
                refine g_lload C X5 at_91 rfl rfl ?_
                refine g_lload C X5 at_93 rfl rfl ?_
                refine g_ladd C X5 at_95 rfl ?_
                refine g_lstoreV C X5 at_96 (fun v__ => #[.val (.int x0), .val (.long x1), .second, .val (.long x2), .second, .val (.long x3), .second, .val (.long x4), .second, .val (.long x5), .second, .val (.int (4 : Int32)), .val (.ref ad1), .val (.long v__), .second, .unset, .unset, .unset, .unset]) rfl rfl ?_
                intro v96 h_v96
                refine g_iload C X5 at_98 rfl rfl ?_
                refine g_iconst C X5 (3 : Int32) at_100 rfl rfl ?_
                refine g_icmp C X5 at_101 (by decide) rfl rfl ?_ ?_
                · intro h101
                  have h101 : (4 : Int) ≤ 3 := h101
                  exact absurd h101 (by decide)
                · intro h101
                  have h101 : (4 : Int) > 3 := h101
                  refine g_lload C X5 at_104 rfl rfl ?_
                  refine g_lload C X5 at_106 rfl rfl ?_
                  refine g_ladd C X5 at_108 rfl ?_
                  refine g_lstoreV C X5 at_109 (fun v__ => #[.val (.int x0), .val (.long x1), .second, .val (.long x2), .second, .val (.long x3), .second, .val (.long x4), .second, .val (.long x5), .second, .val (.int (4 : Int32)), .val (.ref ad1), .val (.long v__), .second, .unset, .unset, .unset, .unset]) rfl rfl ?_
                  intro v109 h_v109
                  refine g_new C X5 at_111 e5 (C.t 2 rfl) (C.t 3 rfl) (C.t 4 rfl) (by decide) (by decide) rfl ?_
                  intro T6 h6_ X6 e6 E6 lt6 ad6 ha6 EX6 D6
                  have Z6 : n0 ≤ h6_.size := Nat.le_trans Z5 E6.1
                  have ne_ad1_ad6 : ad1 ≠ ad6 := Nat.ne_of_lt (Nat.lt_of_lt_of_eq A5.lt ha6.symm)
                  have A6_ad1 := A5.ext E6
                  have g_ad6 : n0 ≤ ad6 := by omega
                  refine g_dup C X6 at_114 rfl rfl ?_
                  refine g_aload C X6 at_115 rfl rfl ?_
                  refine g_lload C X6 at_117 rfl rfl ?_
                  refine g_lload C X6 at_119 rfl rfl ?_
                  refine g_lload C X6 at_121 rfl rfl ?_
                  refine g_callC (a := ad6) (argsL := [(.ref ad1), (.long x5), (.long x5), (.long x5)]) (rest := [(.ref ad6)]) (W := 1) C X6 at_123 e6 rfl (C.t 5 rfl) (C.t 6 rfl) (C.t 4 rfl) (C.t 7 rfl) (rm1 l Z a0 C.w [] ad6 ad1 x5 x5 x5 h6_ n0 Z6 EX6 D6 g_ad6 ) (by decide) pd_1 rfl rfl rfl (Nat.le_of_eq rfl) (by decide) (by decide) (by decide) (by decide) rfl ?_
                  intro T7 v7_ L7 X7 hQ7
                  obtain ⟨rfl, N7q, K7, EY7, Fc7_slices, Fc7_previous, Fc7_tailSeconds, Fc7_periodSeconds⟩ := hQ7
                  have N7 := Fr.app N5 N7q
                  have Z7 : n0 ≤ T7.heap.size := Nat.le_trans Z6 K7.1
                  have A7_ad1 := A6_ad1.keep K7 (ninS ne_ad1_ad6 nin0)
                  refine g_astore C X7 at_126 #[.val (.int x0), .val (.long x1), .second, .val (.long x2), .second, .val (.long x3), .second, .val (.long x4), .second, .val (.long x5), .second, .val (.int (4 : Int32)), .val (.ref ad1), .val (.long v109), .second, .val (.ref ad6), .unset, .unset, .unset] rfl rfl ?_
                  refine g_aload C X7 at_128 rfl rfl ?_
                  have Aq : Aw Z T7.heap ad1 .long 4 (fun j => .long ((fun j => ([x1, x2, x3, x4] : List Int64).getD j 0) j)) := Aw.of A7_ad1 (by
                    intro j hj
                    have hj : j < 4 := hj
                    have hj : j = 0 ∨ j = 1 ∨ j = 2 ∨ j = 3 := by omega
                    rcases hj with rfl | rfl | rfl | rfl <;> rfl)
                  refine g_callV (a := ad6) (argsL := []) (rest := []) (W := 0) C X7 at_130 rfl EY7 (C.t 25 rfl) (C.t 27 rfl) (C.t 24 rfl) (C.t 26 rfl) (C.t 4 rfl) (C.t 28 rfl) (rm4 l Z a0 C.w [] ad6 ad1 4 (fun j => ([x1, x2, x3, x4] : List Int64).getD j 0) T7.heap n0 Z7 Fc7_slices Aq) (by decide) pd_4 rfl rfl rfl (Nat.le_of_eq rfl) (by decide) (by decide) (by decide) (by decide) rfl ?_
                  intro T8 v8_ L8 X8 hQ8
                  obtain ⟨rfl, N8q, hh8⟩ := hQ8
                  have N8 := Fr.app N7 N8q
                  refine g_lstoreV C X8 at_133 (fun v__ => #[.val (.int x0), .val (.long x1), .second, .val (.long x2), .second, .val (.long x3), .second, .val (.long x4), .second, .val (.long x5), .second, .val (.int (4 : Int32)), .val (.ref ad1), .val (.long v109), .second, .val (.ref ad6), .val (.long v__), .second, .unset]) rfl rfl ?_
                  intro v133 h_v133
                  refine g_iconst C X8 (1 : Int32) at_135 rfl rfl ?_
                  refine g_istore C X8 at_136 #[.val (.int x0), .val (.long x1), .second, .val (.long x2), .second, .val (.long x3), .second, .val (.long x4), .second, .val (.long x5), .second, .val (.int (4 : Int32)), .val (.ref ad1), .val (.long v109), .second, .val (.ref ad6), .val (.long v133), .second, .val (.int (1 : Int32))] rfl rfl ?_
                  refine g_iload C X8 at_138 rfl rfl ?_
                  refine g_if C X8 at_140 (by decide) rfl rfl ?_ ?_
                  · intro h140
                    have h140 : (4 : Int) ≤ 0 := h140
                    exact absurd h140 (by decide)
                  · intro h140
                    have h140 : (4 : Int) > 0 := h140
                    refine g_iload C X8 at_143 rfl rfl ?_
                    refine g_if C X8 at_145 (by decide) rfl rfl ?_ ?_
                    · intro h145
                      have h145 : (1 : Int) = 0 := h145
                      exact absurd h145 (by decide)
                    · intro h145
                      have h145 : ¬ (1 : Int) = 0 := h145
                      refine g_aload C X8 at_148 rfl rfl ?_
                      refine g_iconst C X8 (0 : Int32) at_150 rfl rfl ?_
                      refine g_laload C X8 at_151 hh8 A7_ad1 (by decide) (by decide) (v := (.long x1)) rfl rfl ?_
                      refine g_lloadN C X8 at_152 rfl rfl ?_
                      refine g_lcmpif C X8 at_153 rfl at_154 (by decide) rfl rfl ?_ ?_
                      · intro h154
                        have h154 : ¬ x1.toInt = x1.toInt := h154
                        exact absurd rfl h154
                      · intro h154
                        have h154 : x1.toInt = x1.toInt := h154
                        refine g_iconst C X8 (1 : Int32) at_157 rfl rfl ?_
                        refine g_goto C X8 at_158 (by decide) rfl ?_
                        refine g_istore C X8 at_162 #[.val (.int x0), .val (.long x1), .second, .val (.long x2), .second, .val (.long x3), .second, .val (.long x4), .second, .val (.long x5), .second, .val (.int (4 : Int32)), .val (.ref ad1), .val (.long v109), .second, .val (.ref ad6), .val (.long v133), .second, .val (.int (1 : Int32))] rfl rfl ?_
                        refine g_iload C X8 at_164 rfl rfl ?_
                        refine g_iconst C X8 (1 : Int32) at_166 rfl rfl ?_
                        refine g_icmp C X8 at_167 (by decide) rfl rfl ?_ ?_
                        · intro h167
                          have h167 : (4 : Int) ≤ 1 := h167
                          exact absurd h167 (by decide)
                        · intro h167
                          have h167 : (4 : Int) > 1 := h167
                          refine g_iload C X8 at_170 rfl rfl ?_
                          refine g_if C X8 at_172 (by decide) rfl rfl ?_ ?_
                          · intro h172
                            have h172 : (1 : Int) = 0 := h172
                            exact absurd h172 (by decide)
                          · intro h172
                            have h172 : ¬ (1 : Int) = 0 := h172
                            refine g_aload C X8 at_175 rfl rfl ?_
                            refine g_iconst C X8 (1 : Int32) at_177 rfl rfl ?_
                            refine g_laload C X8 at_178 hh8 A7_ad1 (by decide) (by decide) (v := (.long x2)) rfl rfl ?_
                            refine g_lloadN C X8 at_179 rfl rfl ?_
                            refine g_lcmpif C X8 at_180 rfl at_181 (by decide) rfl rfl ?_ ?_
                            · intro h181
                              have h181 : ¬ x2.toInt = x2.toInt := h181
                              exact absurd rfl h181
                            · intro h181
                              have h181 : x2.toInt = x2.toInt := h181
                              refine g_iconst C X8 (1 : Int32) at_184 rfl rfl ?_
                              refine g_goto C X8 at_185 (by decide) rfl ?_
                              refine g_istore C X8 at_189 #[.val (.int x0), .val (.long x1), .second, .val (.long x2), .second, .val (.long x3), .second, .val (.long x4), .second, .val (.long x5), .second, .val (.int (4 : Int32)), .val (.ref ad1), .val (.long v109), .second, .val (.ref ad6), .val (.long v133), .second, .val (.int (1 : Int32))] rfl rfl ?_
                              refine g_iload C X8 at_191 rfl rfl ?_
                              refine g_iconst C X8 (2 : Int32) at_193 rfl rfl ?_
                              refine g_icmp C X8 at_194 (by decide) rfl rfl ?_ ?_
                              · intro h194
                                have h194 : (4 : Int) ≤ 2 := h194
                                exact absurd h194 (by decide)
                              · intro h194
                                have h194 : (4 : Int) > 2 := h194
                                refine g_iload C X8 at_197 rfl rfl ?_
                                refine g_if C X8 at_199 (by decide) rfl rfl ?_ ?_
                                · intro h199
                                  have h199 : (1 : Int) = 0 := h199
                                  exact absurd h199 (by decide)
                                · intro h199
                                  have h199 : ¬ (1 : Int) = 0 := h199
                                  refine g_aload C X8 at_202 rfl rfl ?_
                                  refine g_iconst C X8 (2 : Int32) at_204 rfl rfl ?_
                                  refine g_laload C X8 at_205 hh8 A7_ad1 (by decide) (by decide) (v := (.long x3)) rfl rfl ?_
                                  refine g_lload C X8 at_206 rfl rfl ?_
                                  refine g_lcmpif C X8 at_208 rfl at_209 (by decide) rfl rfl ?_ ?_
                                  · intro h209
                                    have h209 : ¬ x3.toInt = x3.toInt := h209
                                    exact absurd rfl h209
                                  · intro h209
                                    have h209 : x3.toInt = x3.toInt := h209
                                    refine g_iconst C X8 (1 : Int32) at_212 rfl rfl ?_
                                    refine g_goto C X8 at_213 (by decide) rfl ?_
                                    refine g_istore C X8 at_217 #[.val (.int x0), .val (.long x1), .second, .val (.long x2), .second, .val (.long x3), .second, .val (.long x4), .second, .val (.long x5), .second, .val (.int (4 : Int32)), .val (.ref ad1), .val (.long v109), .second, .val (.ref ad6), .val (.long v133), .second, .val (.int (1 : Int32))] rfl rfl ?_
                                    refine g_iload C X8 at_219 rfl rfl ?_
                                    refine g_iconst C X8 (3 : Int32) at_221 rfl rfl ?_
                                    refine g_icmp C X8 at_222 (by decide) rfl rfl ?_ ?_
                                    · intro h222
                                      have h222 : (4 : Int) ≤ 3 := h222
                                      exact absurd h222 (by decide)
                                    · intro h222
                                      have h222 : (4 : Int) > 3 := h222
                                      refine g_iload C X8 at_225 rfl rfl ?_
                                      refine g_if C X8 at_227 (by decide) rfl rfl ?_ ?_
                                      · intro h227
                                        have h227 : (1 : Int) = 0 := h227
                                        exact absurd h227 (by decide)
                                      · intro h227
                                        have h227 : ¬ (1 : Int) = 0 := h227
                                        refine g_aload C X8 at_230 rfl rfl ?_
                                        refine g_iconst C X8 (3 : Int32) at_232 rfl rfl ?_
                                        refine g_laload C X8 at_233 hh8 A7_ad1 (by decide) (by decide) (v := (.long x4)) rfl rfl ?_
                                        refine g_lload C X8 at_234 rfl rfl ?_
                                        refine g_lcmpif C X8 at_236 rfl at_237 (by decide) rfl rfl ?_ ?_
                                        · intro h237
                                          have h237 : ¬ x4.toInt = x4.toInt := h237
                                          exact absurd rfl h237
                                        · intro h237
                                          have h237 : x4.toInt = x4.toInt := h237
                                          refine g_iconst C X8 (1 : Int32) at_240 rfl rfl ?_
                                          refine g_goto C X8 at_241 (by decide) rfl ?_
                                          refine g_istore C X8 at_245 #[.val (.int x0), .val (.long x1), .second, .val (.long x2), .second, .val (.long x3), .second, .val (.long x4), .second, .val (.long x5), .second, .val (.int (4 : Int32)), .val (.ref ad1), .val (.long v109), .second, .val (.ref ad6), .val (.long v133), .second, .val (.int (1 : Int32))] rfl rfl ?_
                                          refine g_lload C X8 at_247 rfl rfl ?_
                                          refine g_lload C X8 at_249 rfl rfl ?_
                                          refine g_lcmpif C X8 at_251 rfl at_252 (by decide) rfl rfl ?_ ?_
                                          · intro h252
                                            have h252 : ¬ v133.toInt = v109.toInt := h252
                                            exact absurd (by rw [h_v133, h_v109, h_v96, h_v83, h_v71]; rfl) h252
                                          · intro h252
                                            have h252 : v133.toInt = v109.toInt := h252
                                            refine g_iload C X8 at_255 rfl rfl ?_
                                            refine g_if C X8 at_257 (by decide) rfl rfl ?_ ?_
                                            · intro h257
                                              have h257 : (1 : Int) = 0 := h257
                                              exact absurd h257 (by decide)
                                            · intro h257
                                              have h257 : ¬ (1 : Int) = 0 := h257
                                              refine g_iconst C X8 (1 : Int32) at_260 rfl rfl ?_
                                              refine g_goto C X8 at_261 (by decide) rfl ?_
                                              exact g_ireturnN C X8 at_265 rfl (Or.inl rfl) ⟨rfl, N8⟩ (by decide) (by decide)
set_option maxRecDepth 65536 in
set_option maxHeartbeats 40000000 in
theorem rm0 (l : Launch) (Z : State) (a0 : Array Value) (hw : ∀ d ∈ tables_1, d.before a0 Z = true) (ws : List Jvm.Cond) (x0 : Int32) (x1 : Int64) (x2 : Int64) (x3 : Int64) (x4 : Int64) (x5 : Int64) (h0 : Heap) (n0 : Nat) (Z0 : n0 ≤ h0.size) :
    MetFree l x (head1 (Jvm.Cond.code x code maxLocals ret :: ws) room_1) (fun aa U => aa = #[(.int x0), (.long x1), (.long x2), (.long x3), (.long x4), (.long x5)] ∧ Z.Warmed39 U.vm ∧ U.heap = h0) (fun _ _ _ _ _ => True) (fun _ U oo U' => ∃ rv Lr, oo = .returned rv ∧ LQ n0 rv U'.heap Lr ∧ FrameEnd U oo U' Lr room_1.cells room_1.slots) := by
  refine g_enter pn_0 hw (ef_0 x0 x1 x2 x3 x4 x5) ?_
  intro p e s m below meth c T0 C X0 e0
  have C : Cx Z a0 p s m meth c code maxLocals "com/example/throtl/throtl/service/WindowCountOwnPinLaw" "law" ret := C
  have N0 := Fr.nil n0
  refine g_iloadN C X0 at_0 rfl rfl ?_
  refine g_ldc C X0 at_1 (C.t 0 rfl) rfl ?_
  refine g_iand C X0 at_3 rfl ?_
  refine g_iconst C X0 (5 : Int32) at_4 rfl rfl ?_
  refine g_irem C X0 at_5 (by decide) rfl ?_
  refine g_istoreV C X0 at_6 (fun v__ => #[.val (.int x0), .val (.long x1), .second, .val (.long x2), .second, .val (.long x3), .second, .val (.long x4), .second, .val (.long x5), .second, .val (.int v__), .unset, .unset, .unset, .unset, .unset, .unset, .unset]) rfl rfl ?_
  intro ln h_ln
  have cm := c_mask x0 (2147483647 : Int32) 31 (by decide) (by decide)
  have cr := (c_iremV (x0 &&& (2147483647 : Int32)) (5 : Int32)).1 (by omega) (by decide)
  rw [← h_ln, show (5 : Int32).toInt = 5 by decide] at cr
  have hl : ln = (0 : Int32) ∨ ln = (1 : Int32) ∨ ln = (2 : Int32) ∨ ln = (3 : Int32) ∨ ln = (4 : Int32) := by
    have q : ln.toInt = 0 ∨ ln.toInt = 1 ∨ ln.toInt = 2 ∨ ln.toInt = 3 ∨ ln.toInt = 4 := by omega
    rcases q with q | q | q | q | q
    · exact Or.inl (own_inj32 q)
    · exact Or.inr (Or.inl (own_inj32 q))
    · exact Or.inr (Or.inr (Or.inl (own_inj32 q)))
    · exact Or.inr (Or.inr (Or.inr (Or.inl (own_inj32 q))))
    · exact Or.inr (Or.inr (Or.inr (Or.inr (own_inj32 q))))
  clear h_ln cr cm
  rcases hl with rfl | rfl | rfl | rfl | rfl
  · exact seg8_0 C X0 e0 N0 Z0
  · exact seg8_1 C X0 e0 N0 Z0
  · exact seg8_2 C X0 e0 N0 Z0
  · exact seg8_3 C X0 e0 N0 Z0
  · exact seg8_4 C X0 e0 N0 Z0
set_option maxRecDepth 65536 in
set_option maxHeartbeats 40000000 in
theorem comes_1 {Post : Tables → Env → Array Value → State → Outcome → State → Prop} (hpost : ∀ tb e args s v u, (limb_1_1.after args s (.returned v) u = true ∧ limb_1_2.after args s (.returned v) u = true ∧ True) → FrameEnd s (.returned v) u (Jvm.fieldLocs frame_1_writes args s ++ Jvm.arrayLocs frame_1_arrays args s ++ Jvm.staticLocs frame_1_statics s) 16 128 → Post tb e args s (.returned v) u) :
    ArmFor flags0 classFile x code maxLocals ret World_1 tables_1 room_1 Calls_1 rest_1 Pre_1 Post := by
  intro l hfl _ _ p e ha hc hk s m args below hf hA hF happ hP
  obtain ⟨hcalls, hrest, hpre⟩ := hP
  obtain ⟨-, -, -, hnamed, -, -, -, hat⟩ := (Spec.applies_iff hf).mp happ
  obtain ⟨hg, hn⟩ := and_e (Cond.before_iff.mp (show (Jvm.Cond.and given_1 narrow_1).before args s = true from hpre))
  obtain ⟨q0, g0⟩ := and_e hg
  obtain ⟨q1, g1⟩ := and_e g0
  obtain ⟨q2, g2⟩ := and_e g1
  obtain ⟨q3, g3⟩ := and_e g2
  obtain ⟨q4, g4⟩ := and_e g3
  obtain ⟨q5, g5⟩ := and_e g4
  have q6 := g5
  obtain ⟨w0, w1, w2, w3, w4, w5, rfl⟩ : ∃ w0 w1 w2 w3 w4 w5 : Value, args = #[w0, w1, w2, w3, w4, w5] := by
    have hs : args.size = 6 := by simpa [Cond.value, given_1] using q0
    obtain ⟨L⟩ := args
    match L, hs with
    | [w0, w1, w2, w3, w4, w5], _ => exact ⟨w0, w1, w2, w3, w4, w5, rfl⟩
  have hw := fun d (hd : d ∈ tables_1) => atoms_spec (ws := Jvm.Cond.code x code maxLocals ret :: tables_1) hat d (List.mem_cons_of_mem _ hd)
  obtain ⟨i0, ei0⟩ := is_v q1
  obtain rfl : w0 = (.int i0) := Option.some.inj ei0
  obtain ⟨i1, ei1⟩ := isL_v q2
  obtain rfl : w1 = (.long i1) := Option.some.inj ei1
  obtain ⟨i2, ei2⟩ := isL_v q3
  obtain rfl : w2 = (.long i2) := Option.some.inj ei2
  obtain ⟨i3, ei3⟩ := isL_v q4
  obtain rfl : w3 = (.long i3) := Option.some.inj ei3
  obtain ⟨i4, ei4⟩ := isL_v q5
  obtain rfl : w4 = (.long i4) := Option.some.inj ei4
  obtain ⟨i5, ei5⟩ := isL_v q6
  obtain rfl : w5 = (.long i5) := Option.some.inj ei5
  obtain ⟨n, o, h1, h2, h3, _, L, rfl, ⟨rfl, N⟩, hq⟩ := rm0 l s _ hw tables_1 i0 i1 i2 i3 i4 i5 s.heap s.heap.size (Nat.le_refl _) p e ha hc hk s m _ below hf ((Spec.applies_iff_loose hf).mp happ).1 ⟨rfl, State.Warmed39.refl s, rfl⟩ trivial
  refine ⟨n, _, h1, h2, h3, hpost _ _ _ _ _ _ ⟨Cond.after_iff.mpr rfl, Cond.after_iff.mpr (eq_i res_at (Term.int_eval (1)) rfl), trivial⟩ ⟨hq.1, hq.2.1, (hq.2.2.sift fun y hy => Or.inr (N y hy)).mono (by decide) (by decide)⟩⟩
theorem main_1_1 : Claimed_1_1 := comes_1 fun _ _ _ _ _ _ h hF => ⟨h.1, hF⟩
theorem main_1_2 : Claimed_1_2 := comes_1 fun _ _ _ _ _ _ h hF => ⟨h.2.1, hF⟩
end Jvm.Pilot.@@N@@
namespace Jvm.Pilot.@@N@@
open Jvm Jvm.ClassFile Sem Op Lib Jvm.Free Jvm.Stand Jvm.Pilot.@@N@@.Jvm.D
/-! MADE BY PROGRAM (witnessworld.py) out of the Statement's table words and the real class files: 12 classes; the members and pool entries that the words name. The judged class is class 1, her method 1. -/
namespace start1
open Jvm.ClassFile
def u (s : String) : CpInfo := .utf8 (stringToUtf16 s)
/-- a pool by its gaps: so many unusable entries, then the entry; so many at the end -/
def gap : Nat → List CpInfo → List CpInfo
  | 0, r => r
  | n + 1, r => .unusable :: gap n r
def poolList (es : List (Nat × CpInfo)) (last : Nat) : List CpInfo := es.foldr (fun e r => gap e.1 (e.2 :: r)) (gap last [])
def pool (es : List (Nat × CpInfo)) (last : Nat) : Array CpInfo := ⟨poolList es last⟩
def fileOf (pool : Array CpInfo) (this : Nat) (attrs : Array Attribute := #[]) (ms : Array MethodInfo := #[]) (fl : Nat := 33) (sup : Nat := 0) (ifs : Array Nat := #[]) (fds : Array FieldInfo := #[]) : ClassFile where
  minorVersion := 0
  majorVersion := 65
  constantPool := pool
  accessFlags := fl
  thisClass := this
  superClass := sup
  interfaces := ifs
  fields := fds
  methods := ms
  attributes := attrs
def plain (name : String) (sup : Option ClassId) : Class where
  name := name
  kind := .ordinary
  loader := none
  accessFlags := 33
  super := sup
  interfaces := #[]
  cf := none
  fields := #[]
  methods := #[]
  instanceTypes := #[]
  staticTypes := #[]
  resolved := #[]
  callSites := []
  init := .initialized
  statics := none
  mirror := none

def pool0 : Array CpInfo := pool [(5, u "<init>"), (0, u "()V"), (1, .class_ 10), (1, u "java/lang/Object")] 113

def k0c0 : Code := { maxStack := 0, maxLocals := 1, code := object_method_1_code, exceptionTable := #[], attributes := #[] }
def k0m0 : Method := { name := "<init>", desc := "()V", sig := { parameters := [], returnType := none }, accessFlags := 1, code := some k0c0 }
/-- java/lang/Object -/
def k0 : Class := { plain "java/lang/Object" none with
  accessFlags := 33
  interfaces := #[]
  cf := some (fileOf pool0 8 #[] #[{ accessFlags := 1, nameIndex := 5, descriptorIndex := 6, attributes := #[] }] 33 0 #[] #[])
  fields := #[]
  methods := #[k0m0]
  instanceTypes := #[]
  staticTypes := #[]
  resolved := Array.replicate 124 none
  statics := none }

def pool1 : Array CpInfo := pool [(2, .class_ 4), (1, u "java/lang/Object"), (0, u "<init>"), (0, u "()V"), (0, .integer 2147483647), (0, .class_ 9), (0, u "com/example/throtl/throtl/service/WindowCount"), (0, .methodref 8 11), (0, .nameAndType 5 12), (0, u "([JJJJ)V"), (0, .methodref 8 14), (0, .nameAndType 15 16), (0, u "own"), (0, u "()J"), (0, .class_ 18), (0, u "com/example/throtl/throtl/service/WindowCountOwnPinLaw"), (2, u "law"), (0, u "(IJJJJJ)Z")] 5

def k1m0 : Method := { name := "<init>", desc := "()V", sig := { parameters := [], returnType := none }, accessFlags := 1, code := none }
def k1c1 : Code := { maxStack := 9, maxLocals := 19, code := code, exceptionTable := #[], attributes := #[] }
def k1m1 : Method := { name := "law", desc := "(IJJJJJ)Z", sig := { parameters := [.int, .long, .long, .long, .long, .long], returnType := some .boolean }, accessFlags := 9, code := some k1c1 }
/-- com/example/throtl/throtl/service/WindowCountOwnPinLaw -/
def k1 : Class := { plain "com/example/throtl/throtl/service/WindowCountOwnPinLaw" (some 0) with
  accessFlags := 49
  interfaces := #[]
  cf := some (fileOf pool1 17 #[] #[{ accessFlags := 1, nameIndex := 5, descriptorIndex := 6, attributes := #[] }, { accessFlags := 9, nameIndex := 21, descriptorIndex := 22, attributes := #[] }] 49 2 #[] #[])
  fields := #[]
  methods := #[k1m0, k1m1]
  instanceTypes := #[]
  staticTypes := #[]
  resolved := Array.replicate 28 none
  statics := none }

def pool2 : Array CpInfo := pool [(1, .methodref 2 3), (0, .class_ 4), (0, .nameAndType 5 6), (0, u "java/lang/Object"), (0, u "<init>"), (0, u "()V"), (0, .class_ 8), (0, u "java/lang/Record")] 13

def k2c0 : Code := { maxStack := 1, maxLocals := 1, code := jdk_30_method_1_code, exceptionTable := #[], attributes := #[] }
def k2m0 : Method := { name := "<init>", desc := "()V", sig := { parameters := [], returnType := none }, accessFlags := 4, code := some k2c0 }
/-- java/lang/Record -/
def k2 : Class := { plain "java/lang/Record" (some 0) with
  accessFlags := 1057
  interfaces := #[]
  cf := some (fileOf pool2 7 #[] #[{ accessFlags := 4, nameIndex := 5, descriptorIndex := 6, attributes := #[] }] 1057 2 #[] #[])
  fields := #[]
  methods := #[k2m0]
  instanceTypes := #[]
  staticTypes := #[]
  resolved := Array.replicate 22 none
  statics := none }

def pool3 : Array CpInfo := pool [(1, .methodref 2 3), (0, .class_ 4), (0, .nameAndType 5 6), (0, u "java/lang/Record"), (0, u "<init>"), (0, u "()V"), (0, .fieldref 8 9), (0, .class_ 10), (0, .nameAndType 11 12), (0, u "com/example/throtl/throtl/service/WindowCount"), (0, u "slices"), (0, u "[J"), (0, .fieldref 8 14), (0, .nameAndType 15 16), (0, u "previous"), (0, u "J"), (0, .fieldref 8 18), (0, .nameAndType 19 16), (0, u "tailSeconds"), (0, .fieldref 8 21), (0, .nameAndType 22 16), (0, u "periodSeconds"), (15, u "own"), (0, u "()J"), (36, u "([JJJJ)V"), (50, u "MAX_SECONDS"), (1, u "MAX_COUNT")] 48

def k3c0 : Code := { maxStack := 3, maxLocals := 8, code := prog_32_method_1_code, exceptionTable := #[], attributes := #[] }
def k3m0 : Method := { name := "<init>", desc := "([JJJJ)V", sig := { parameters := [(.array .long), .long, .long, .long], returnType := none }, accessFlags := 0, code := some k3c0 }
def k3c1 : Code := { maxStack := 4, maxLocals := 8, code := prog_32_method_3_code, exceptionTable := #[], attributes := #[] }
def k3m1 : Method := { name := "own", desc := "()J", sig := { parameters := [], returnType := some .long }, accessFlags := 0, code := some k3c1 }
/-- com/example/throtl/throtl/service/WindowCount -/
def k3 : Class := { plain "com/example/throtl/throtl/service/WindowCount" (some 2) with
  accessFlags := 48
  interfaces := #[]
  cf := some (fileOf pool3 8 #[] #[{ accessFlags := 0, nameIndex := 5, descriptorIndex := 76, attributes := #[] }, { accessFlags := 0, nameIndex := 38, descriptorIndex := 39, attributes := #[] }] 48 2 #[] #[{ accessFlags := 18, nameIndex := 11, descriptorIndex := 12, attributes := #[] }, { accessFlags := 18, nameIndex := 15, descriptorIndex := 16, attributes := #[] }, { accessFlags := 18, nameIndex := 19, descriptorIndex := 16, attributes := #[] }, { accessFlags := 18, nameIndex := 22, descriptorIndex := 16, attributes := #[] }, { accessFlags := 24, nameIndex := 127, descriptorIndex := 16, attributes := #[] }, { accessFlags := 26, nameIndex := 129, descriptorIndex := 16, attributes := #[] }])
  fields := #[{ name := "slices", type := (.array .long), accessFlags := 18, slot := 0, constantValue := 0 }, { name := "previous", type := .long, accessFlags := 18, slot := 1, constantValue := 0 }, { name := "tailSeconds", type := .long, accessFlags := 18, slot := 2, constantValue := 0 }, { name := "periodSeconds", type := .long, accessFlags := 18, slot := 3, constantValue := 0 }, { name := "MAX_SECONDS", type := .long, accessFlags := 24, slot := 0, constantValue := 0 }, { name := "MAX_COUNT", type := .long, accessFlags := 26, slot := 1, constantValue := 0 }]
  methods := #[k3m0, k3m1]
  instanceTypes := #[(.array .long), .long, .long, .long]
  staticTypes := #[.long, .long]
  resolved := Array.replicate 178 none
  statics := none }

def pool4 : Array CpInfo := pool [(1, u "java/lang/Cloneable"), (0, .class_ 1), (0, u "java/lang/Object"), (0, .class_ 3)] 3

/-- java/lang/Cloneable -/
def k4 : Class := { plain "java/lang/Cloneable" (some 0) with
  accessFlags := 1537
  interfaces := #[]
  cf := some (fileOf pool4 2 #[] #[] 1537 4 #[] #[])
  fields := #[]
  methods := #[]
  instanceTypes := #[]
  staticTypes := #[]
  resolved := Array.replicate 8 none
  statics := none }

def pool5 : Array CpInfo := pool [(1, u "java/io/Serializable"), (0, .class_ 1), (0, u "java/lang/Object"), (0, .class_ 3)] 3

/-- java/io/Serializable -/
def k5 : Class := { plain "java/io/Serializable" (some 0) with
  accessFlags := 1537
  interfaces := #[]
  cf := some (fileOf pool5 2 #[] #[] 1537 4 #[] #[])
  fields := #[]
  methods := #[]
  instanceTypes := #[]
  staticTypes := #[]
  resolved := Array.replicate 8 none
  statics := none }

/-- the primitive byte -/
def k6 : Class := { plain "byte" none with kind := .primitive 'B', accessFlags := 0x411 }
/-- [B -/
def k7 : Class := { plain "[B" (some 0) with kind := .array 6 .byte, interfaces := #[4, 5], accessFlags := 1041 }

/-- the primitive int -/
def k8 : Class := { plain "int" none with kind := .primitive 'I', accessFlags := 0x411 }
/-- [I -/
def k9 : Class := { plain "[I" (some 0) with kind := .array 8 .int, interfaces := #[4, 5], accessFlags := 1041 }

/-- the primitive long -/
def k10 : Class := { plain "long" none with kind := .primitive 'J', accessFlags := 0x411 }
/-- [J -/
def k11 : Class := { plain "[J" (some 0) with kind := .array 10 .long, interfaces := #[4, 5], accessFlags := 1041 }

def heap : Heap := #[]
def classes : Array Class := #[k0, k1, k2, k3, k4, k5, k6, k7, k8, k9, k10, k11]
def interned : List (Array UInt16 × Addr) := []
def slotsUsed : Nat := 0
def theMethod : MethodId := ⟨1, 1⟩
def args0 : Array Value := #[.int 3, .long 7, .long 3, .long 4, .long 4, .long 4]
def aboutOver (below : List Frame) : State where
  vm := { classes := classes, interned := interned.toArray }
  heap := heap
  slotsUsed := slotsUsed
  threads := #[{ frames := .invoking theMethod args0 :: below }]
def below0 : List Frame := [.native { method := ⟨0, 0⟩, args := #[] }]
def about1 : State := aboutOver below0
def p0 : Program := .bare "" "" ""
def e0 : Env := launch0.env 0 0 0
theorem w_frames : about1.frames = Frame.invoking theMethod args0 :: below0 := rfl
set_option maxRecDepth 65536 in
theorem w_args : argsFit about1.vm theMethod args0 = true := by decide +kernel
set_option maxRecDepth 65536 in
theorem w_heap : heapFits about1 = true := by decide +kernel
set_option maxRecDepth 65536 in
theorem w_runnable : about1.curStatus? = some .runnable := by decide +kernel
set_option maxRecDepth 65536 in
theorem w_alone : about1.alone = true := by decide +kernel
set_option maxRecDepth 65536 in
theorem w_named : about1.methodNamed? x = some theMethod := by decide +kernel
set_option maxRecDepth 65536 in
theorem w_hears : about1.hears theMethod below0 = true := by decide +kernel
set_option maxRecDepth 65536 in
theorem w_ripe : about1.ripe theMethod args0 below0 = true := by decide +kernel
theorem w_running : about1.status = .running := rfl
set_option maxRecDepth 65536 in
theorem w_room : about1.hasRoom e0.platform room_1 = true :=
  launch0.hasRoom_least _ room_1 (by decide +kernel) (by decide +kernel) (by decide +kernel) (by decide +kernel) (by decide +kernel) (by decide +kernel)
theorem allAtoms_all (ts : List Jvm.Cond) (a : Array Jvm.Value) (st : Jvm.State) : (allAtoms ts).before a st = ts.all (fun c => c.before a st) := by
  induction ts with
  | nil => rfl
  | cons c t ih =>
    show (Jvm.Cond.and c (allAtoms t)).before a st = _
    rw [Jvm.Cond.before_and, ih, List.all_cons]
def words1 : List Jvm.Cond := Jvm.Cond.code x code maxLocals ret :: tables_1
/-- a 'code' word, met by the world's own term for the bytes: nothing is compared byte by byte -/
theorem code_word {y : MethodName} {bytes : ByteArray} {mx : Nat} {rt : Option FieldType} {a : Array Value} {s : State} {m : MethodId} {meth : Method} {c : Code} (h1 : s.methodNamed? y = some m) (h2 : s.vm.method? m = some meth) (h3 : meth.code = some c) (h4 : c.code = bytes)
    (h5 : (c.maxLocals == mx && c.exceptionTable.isEmpty && decide (c.maxStack ≤ mostOperands) && decide (meth.sig.returnType = rt) && !meth.locks && decide (parseMethodDescriptor y.desc = some meth.sig)) = true) : (Jvm.Cond.code y bytes mx rt).before a s = true := by
  simp only [Bool.and_eq_true, beq_iff_eq, Bool.not_eq_true', decide_eq_true_eq] at h5
  obtain ⟨⟨⟨⟨⟨g1, g2⟩, g3⟩, g4⟩, g5⟩, g6⟩ := h5
  simp [Cond.before, Cond.holds, Cond.value, h1, h2, h3, h4, g1, g2, g3, g4, g5, g6]
def isCode : Jvm.Cond → Bool
  | .code _ _ _ _ => true
  | _ => false
theorem all_split {L : List Jvm.Cond} {P : Jvm.Cond → Bool} (h1 : L.all (fun c => isCode c || P c) = true) (h2 : ∀ c ∈ L.filter isCode, P c = true) : L.all P = true := by
  refine List.all_eq_true.mpr fun c hc => ?_
  have h := List.all_eq_true.mp h1 c hc
  rcases Bool.eq_false_or_eq_true (isCode c) with hi | hi
  · exact h2 c (List.mem_filter.mpr ⟨hc, hi⟩)
  · simpa [hi] using h
set_option maxRecDepth 65536 in
theorem w_c0 : (Jvm.Cond.code x code maxLocals ret).before args0 about1 = true := code_word (m := ⟨1, 1⟩) (meth := k1m1) (c := k1c1) (by decide +kernel) rfl rfl rfl (by decide +kernel)
set_option maxRecDepth 65536 in
theorem w_c1 : (Jvm.Cond.code ({ cls := "com/example/throtl/throtl/service/WindowCount", name := "<init>", desc := "([JJJJ)V" } : Jvm.MethodName) prog_32_method_1_code (8 : Nat) (Option.none : Option Jvm.ClassFile.FieldType)).before args0 about1 = true := code_word (m := ⟨3, 0⟩) (meth := k3m0) (c := k3c0) (by decide +kernel) rfl rfl rfl (by decide +kernel)
set_option maxRecDepth 65536 in
theorem w_c2 : (Jvm.Cond.code ({ cls := "java/lang/Record", name := "<init>", desc := "()V" } : Jvm.MethodName) jdk_30_method_1_code (1 : Nat) (Option.none : Option Jvm.ClassFile.FieldType)).before args0 about1 = true := code_word (m := ⟨2, 0⟩) (meth := k2m0) (c := k2c0) (by decide +kernel) rfl rfl rfl (by decide +kernel)
set_option maxRecDepth 65536 in
theorem w_c3 : (Jvm.Cond.code ({ cls := "java/lang/Object", name := "<init>", desc := "()V" } : Jvm.MethodName) object_method_1_code (1 : Nat) (Option.none : Option Jvm.ClassFile.FieldType)).before args0 about1 = true := code_word (m := ⟨0, 0⟩) (meth := k0m0) (c := k0c0) (by decide +kernel) rfl rfl rfl (by decide +kernel)
set_option maxRecDepth 65536 in
theorem w_c4 : (Jvm.Cond.code ({ cls := "com/example/throtl/throtl/service/WindowCount", name := "own", desc := "()J" } : Jvm.MethodName) prog_32_method_3_code (8 : Nat) (Option.some Jvm.ClassFile.FieldType.long)).before args0 about1 = true := code_word (m := ⟨3, 1⟩) (meth := k3m1) (c := k3c1) (by decide +kernel) rfl rfl rfl (by decide +kernel)
def codes1 : List Jvm.Cond := [Jvm.Cond.code x code maxLocals ret, Jvm.Cond.code ({ cls := "com/example/throtl/throtl/service/WindowCount", name := "<init>", desc := "([JJJJ)V" } : Jvm.MethodName) prog_32_method_1_code (8 : Nat) (Option.none : Option Jvm.ClassFile.FieldType), Jvm.Cond.code ({ cls := "java/lang/Record", name := "<init>", desc := "()V" } : Jvm.MethodName) jdk_30_method_1_code (1 : Nat) (Option.none : Option Jvm.ClassFile.FieldType), Jvm.Cond.code ({ cls := "java/lang/Object", name := "<init>", desc := "()V" } : Jvm.MethodName) object_method_1_code (1 : Nat) (Option.none : Option Jvm.ClassFile.FieldType), Jvm.Cond.code ({ cls := "com/example/throtl/throtl/service/WindowCount", name := "own", desc := "()J" } : Jvm.MethodName) prog_32_method_3_code (8 : Nat) (Option.some Jvm.ClassFile.FieldType.long)]
set_option maxRecDepth 65536 in
theorem codes_eq : words1.filter isCode = codes1 := rfl
theorem w_codes : ∀ c ∈ words1.filter isCode, c.before args0 about1 = true := by
  rw [codes_eq]
  intro c hc
  simp only [codes1, List.mem_cons, List.not_mem_nil, or_false] at hc
  rcases hc with rfl | rfl | rfl | rfl | rfl
  · exact w_c0
  · exact w_c1
  · exact w_c2
  · exact w_c3
  · exact w_c4
set_option maxRecDepth 65536 in
theorem w_t1 : (words1.take 24).all (fun c => isCode c || c.before args0 about1) = true := by decide +kernel
set_option maxRecDepth 65536 in
theorem w_t2 : (words1.drop 24).all (fun c => isCode c || c.before args0 about1) = true := by decide +kernel
theorem w_tables : (allAtoms (Jvm.Cond.code x code maxLocals ret :: tables_1)).before args0 about1 = true := by
  rw [allAtoms_all]
  show words1.all (fun c => c.before args0 about1) = true
  refine all_split ?_ w_codes
  rw [← List.take_append_drop 24 words1, List.all_append, w_t1, w_t2]
  rfl
set_option maxRecDepth 65536 in
theorem w_case : (Jvm.Cond.and given_1 narrow_1).before args0 about1 = true := by decide +kernel
theorem w_applies : (headSpec (Jvm.Cond.code x code maxLocals ret :: tables_1) room_1).applies x e0.platform about1 = true :=
  (Spec.applies_iff w_frames).mpr ⟨w_running, w_runnable, w_alone, w_named, w_hears, w_ripe, w_room, w_tables⟩
theorem atStart : AtStart classFile x code maxLocals ret World_1 tables_1 room_1 Calls_1 rest_1 Pre_1 launch0 p0 e0 about1 theMethod args0 below0 :=
  ⟨lists_1, trivial, launch0.admits_env _ _ _, launch0.least_env, fairChoices_fair.cas, fairChoices_fair.clock, w_frames, w_args, w_heap, w_applies, trivial, trivial, w_case⟩
end start1
theorem witness_1 : WitnessClaimed_1 := ⟨start1.p0, start1.e0, start1.about1, start1.theMethod, start1.args0, start1.below0, start1.atStart⟩
end Jvm.Pilot.@@N@@
