import JvmDerived
import JvmDerived.Pilot.@@N@@Statement
import JvmDerived.Pilot.@@N@@Code
set_option linter.unusedVariables false
set_option linter.unusedSimpArgs false
namespace Jvm.Pilot.@@N@@
open Jvm Jvm.ClassFile Sem Op Lib Jvm.Free Jvm.Stand Jvm.LawKit Jvm.RoadKit Bundle Jvm.Pilot.@@N@@.Jvm.D
section Own
variable {p : Program} {l : Launch} {e : Env} {R : Room} {s : State} {m : MethodId} {args : Array Value} {below : List Frame} {meth : Method} {c : Code} {T T' : State} {locs : List Loc} {cells slots : Nat} {Z : State} {a0 : Array Value} {h h' : Heap} {Q : Option Value → Heap → List Loc → Prop} {Cc Sc : Nat} {pc pc' pt k : Nat} {Ls Ls' : Array Slot} {St St' : List Value} {bs : ByteArray} {ml : Nat} {own nm : String} {rt : Option FieldType}
/-- what stands of a body while it is walked -/
def Cx (Z : State) (a0 : Array Value) (p : Program) (s : State) (m : MethodId) (meth : Method) (c : Code) (bs : ByteArray) (ml : Nat) (own nm : String) (rt : Option FieldType) : Prop :=
  p.tables.exec = Jvm.exec ∧ Z.Warmed39 s.vm ∧ c.code = bs ∧ c.maxLocals = ml ∧ s.vm.findClass own = some m.cls ∧ meth.name = nm ∧ meth.sig.returnType = rt ∧ meth.locks = false ∧ (∀ d ∈ tables_1, d.before a0 Z = true)
theorem Cx.x (C : Cx Z a0 p s m meth c bs ml own nm rt) : p.tables.exec = Jvm.exec := C.1
theorem Cx.z (C : Cx Z a0 p s m meth c bs ml own nm rt) : Z.Warmed39 s.vm := C.2.1
theorem Cx.b (C : Cx Z a0 p s m meth c bs ml own nm rt) : c.code = bs := C.2.2.1
theorem Cx.mx (C : Cx Z a0 p s m meth c bs ml own nm rt) : c.maxLocals = ml := C.2.2.2.1
theorem Cx.o (C : Cx Z a0 p s m meth c bs ml own nm rt) : s.vm.findClass own = some m.cls := C.2.2.2.2.1
theorem Cx.n (C : Cx Z a0 p s m meth c bs ml own nm rt) : meth.name = nm := C.2.2.2.2.2.1
theorem Cx.r (C : Cx Z a0 p s m meth c bs ml own nm rt) : meth.sig.returnType = rt := C.2.2.2.2.2.2.1
theorem Cx.lk (C : Cx Z a0 p s m meth c bs ml own nm rt) : meth.locks = false := C.2.2.2.2.2.2.2.1
theorem Cx.w (C : Cx Z a0 p s m meth c bs ml own nm rt) : ∀ d ∈ tables_1, d.before a0 Z = true := C.2.2.2.2.2.2.2.2
/-- the i-th word of the sheet's tables -/
theorem Cx.t (C : Cx Z a0 p s m meth c bs ml own nm rt) (i : Nat) {d : Jvm.Cond} (hi : tables_1[i]? = some d) : d.before a0 Z = true := C.w d (List.mem_of_getElem? hi)
/-- from here the run comes to its return, and of that return Q holds -/
def Go (p : Program) (e : Env) (below : List Frame) (s : State) (m : MethodId) (Q : Option Value → Heap → List Loc → Prop) (Cc Sc : Nat) (T : State) (pc : Nat) (Ls : Array Slot) (St : List Value) : Prop :=
  ∃ s₂ o, Steps p.tables e below (T.setTop (mkF m pc Ls St)) s₂ ∧ s₂.status = .running ∧ Ended s₂ below o ∧ ∃ v L, o = .returned v ∧ Q v s₂.heap L ∧ FrameEnd s o s₂ L Cc Sc
theorem Go.via (h : ∀ t, Steps p.tables e below (T'.setTop (mkF m pc' Ls' St')) t → Steps p.tables e below (T.setTop (mkF m pc Ls St)) t) (k : Go p e below s m Q Cc Sc T' pc' Ls' St') : Go p e below s m Q Cc Sc T pc Ls St := by
  obtain ⟨s₂, o, h1, h2⟩ := k
  exact ⟨s₂, o, h _ h1, h2⟩
theorem Go.cast (hL : Ls = Ls') (hS : St = St') (k : Go p e below s m Q Cc Sc T pc Ls' St') : Go p e below s m Q Cc Sc T pc Ls St := by
  subst hL hS; exact k
theorem g_enter {x : MethodName} {ws : List Jvm.Cond} {rm : Room} {as' : Array Value} {h0 : Heap} (hpl : plainFor x = true) (hw : ∀ d ∈ tables_1, d.before a0 Z = true) (hef : ∀ m, entryFrame m as' ml = mkF m 0 Ls [])
    (body : ∀ (p : Program) (e : Env) (s : State) (m : MethodId) (below : List Frame) (meth : Method) (c : Code) (T : State), Cx Z a0 p s m meth c bs ml x.cls x.name rt → Stand p l e rm s m as' below meth c T [] 0 0 → T.heap = h0 → Go p e below s m Q rm.cells rm.slots T 0 Ls []) :
    MetFree l x (head1 (Jvm.Cond.code x bs ml rt :: ws) rm) (fun a U => a = as' ∧ Z.Warmed39 U.vm ∧ U.heap = h0) (fun _ _ _ _ _ => True) (fun _ U o U' => ∃ v L, o = .returned v ∧ Q v U'.heap L ∧ FrameEnd U o U' L rm.cells rm.slots) := by
  refine MetFree.of_bodySF hpl hisR ?_
  intro p e s m args below meth c s₁ Bd hml0 hP hK
  obtain ⟨rfl, hZ, hh⟩ := hP
  have e0 : s₁.heap = h0 := by rw [← hh, Bd.state]; rfl
  have C : Cx Z a0 p s m meth c bs ml x.cls x.name rt := ⟨Bd.exec, hZ, Bd.bytes, hml0, findClass_of_methodNamed Bd.named, (name_of_methodNamed Bd.named Bd.method).1, Bd.returns, Bd.notSynchronized, hw⟩
  obtain ⟨s₂, o, k1, k2⟩ := body p e s m below meth c s₁ C (Stand.of_body Bd) e0
  exact ⟨s₂, o, castTop (hef m) k1, k2⟩

theorem g_iload (C : Cx Z a0 p s m meth c bs ml own nm rt) (X : Stand p l e R s m args below meth c T locs cells slots) {v : Int32} (hd : decode bs pc = .ok (.iload k, 2)) (hl : Ls[k]? = some (.val (.int v))) (hp : pc + 2 = pc') (kk : Go p e below s m Q Cc Sc T pc' Ls (.int v :: St)) : Go p e below s m Q Cc Sc T pc Ls St := by
  subst hp
  exact Go.via (fun t q => XS.iload X.here C.x rfl (hb C.b hd) hl q) kk
theorem g_iloadN (C : Cx Z a0 p s m meth c bs ml own nm rt) (X : Stand p l e R s m args below meth c T locs cells slots) {k : Fin 4} {v : Int32} (hd : decode bs pc = .ok (.iload_n k, 1)) (hl : Ls[k.val]? = some (.val (.int v))) (hp : pc + 1 = pc') (kk : Go p e below s m Q Cc Sc T pc' Ls (.int v :: St)) : Go p e below s m Q Cc Sc T pc Ls St := by
  subst hp
  exact Go.via (fun t q => XS.iloadN X.here C.x rfl (hb C.b hd) hl q) kk
theorem g_lload (C : Cx Z a0 p s m meth c bs ml own nm rt) (X : Stand p l e R s m args below meth c T locs cells slots) {v : Int64} (hd : decode bs pc = .ok (.lload k, 2)) (hl : Ls[k]? = some (.val (.long v))) (hp : pc + 2 = pc') (kk : Go p e below s m Q Cc Sc T pc' Ls (.long v :: St)) : Go p e below s m Q Cc Sc T pc Ls St := by
  subst hp
  exact Go.via (fun t q => XS.lload X.here C.x rfl (hb C.b hd) hl q) kk
theorem g_lloadN (C : Cx Z a0 p s m meth c bs ml own nm rt) (X : Stand p l e R s m args below meth c T locs cells slots) {k : Fin 4} {v : Int64} (hd : decode bs pc = .ok (.lload_n k, 1)) (hl : Ls[k.val]? = some (.val (.long v))) (hp : pc + 1 = pc') (kk : Go p e below s m Q Cc Sc T pc' Ls (.long v :: St)) : Go p e below s m Q Cc Sc T pc Ls St := by
  subst hp
  exact Go.via (fun t q => XS.lloadN X.here C.x rfl (hb C.b hd) hl q) kk
theorem g_aload (C : Cx Z a0 p s m meth c bs ml own nm rt) (X : Stand p l e R s m args below meth c T locs cells slots) {v : Addr} (hd : decode bs pc = .ok (.aload k, 2)) (hl : Ls[k]? = some (.val (.ref v))) (hp : pc + 2 = pc') (kk : Go p e below s m Q Cc Sc T pc' Ls (.ref v :: St)) : Go p e below s m Q Cc Sc T pc Ls St := by
  subst hp
  exact Go.via (fun t q => XS.aload X.here C.x rfl (hb C.b hd) hl rfl q) kk
theorem g_aloadN (C : Cx Z a0 p s m meth c bs ml own nm rt) (X : Stand p l e R s m args below meth c T locs cells slots) {k : Fin 4} {v : Addr} (hd : decode bs pc = .ok (.aload_n k, 1)) (hl : Ls[k.val]? = some (.val (.ref v))) (hp : pc + 1 = pc') (kk : Go p e below s m Q Cc Sc T pc' Ls (.ref v :: St)) : Go p e below s m Q Cc Sc T pc Ls St := by
  subst hp
  exact Go.via (fun t q => XS.aloadN X.here C.x rfl (hb C.b hd) hl rfl q) kk
theorem g_istore (C : Cx Z a0 p s m meth c bs ml own nm rt) (X : Stand p l e R s m args below meth c T locs cells slots) {x : Int32} (hd : decode bs pc = .ok (.istore k, 2)) (Ls' : Array Slot) (hl : storeLocals Ls k (.int x) = some Ls') (hp : pc + 2 = pc') (kk : Go p e below s m Q Cc Sc T pc' Ls' St) : Go p e below s m Q Cc Sc T pc Ls (.int x :: St) := by
  subst hp
  exact Go.via (fun t q => XS.istore X.here C.x rfl (hb C.b hd) rfl hl q) kk
theorem g_istoreN (C : Cx Z a0 p s m meth c bs ml own nm rt) (X : Stand p l e R s m args below meth c T locs cells slots) {k : Fin 4} {x : Int32} (hd : decode bs pc = .ok (.istore_n k, 1)) (Ls' : Array Slot) (hl : storeLocals Ls k.val (.int x) = some Ls') (hp : pc + 1 = pc') (kk : Go p e below s m Q Cc Sc T pc' Ls' St) : Go p e below s m Q Cc Sc T pc Ls (.int x :: St) := by
  subst hp
  exact Go.via (fun t q => XS.istoreN X.here C.x rfl (hb C.b hd) rfl hl q) kk
theorem g_istoreV (C : Cx Z a0 p s m meth c bs ml own nm rt) (X : Stand p l e R s m args below meth c T locs cells slots) {x : Int32} (hd : decode bs pc = .ok (.istore k, 2)) (F : Int32 → Array Slot) (hl : storeLocals Ls k (.int x) = some (F x)) (hp : pc + 2 = pc') (kk : ∀ v, v = x → Go p e below s m Q Cc Sc T pc' (F v) St) : Go p e below s m Q Cc Sc T pc Ls (.int x :: St) := g_istore C X hd (F x) hl hp (kk x rfl)
theorem g_istoreNV (C : Cx Z a0 p s m meth c bs ml own nm rt) (X : Stand p l e R s m args below meth c T locs cells slots) {k : Fin 4} {x : Int32} (hd : decode bs pc = .ok (.istore_n k, 1)) (F : Int32 → Array Slot) (hl : storeLocals Ls k.val (.int x) = some (F x)) (hp : pc + 1 = pc') (kk : ∀ v, v = x → Go p e below s m Q Cc Sc T pc' (F v) St) : Go p e below s m Q Cc Sc T pc Ls (.int x :: St) := g_istoreN C X hd (F x) hl hp (kk x rfl)
theorem g_lstore (C : Cx Z a0 p s m meth c bs ml own nm rt) (X : Stand p l e R s m args below meth c T locs cells slots) {x : Int64} (hd : decode bs pc = .ok (.lstore k, 2)) (Ls' : Array Slot) (hl : storeLocals Ls k (.long x) = some Ls') (hp : pc + 2 = pc') (kk : Go p e below s m Q Cc Sc T pc' Ls' St) : Go p e below s m Q Cc Sc T pc Ls (.long x :: St) := by
  subst hp
  exact Go.via (fun t q => XS.lstore X.here C.x rfl (hb C.b hd) rfl hl q) kk
theorem g_lstoreN (C : Cx Z a0 p s m meth c bs ml own nm rt) (X : Stand p l e R s m args below meth c T locs cells slots) {k : Fin 4} {x : Int64} (hd : decode bs pc = .ok (.lstore_n k, 1)) (Ls' : Array Slot) (hl : storeLocals Ls k.val (.long x) = some Ls') (hp : pc + 1 = pc') (kk : Go p e below s m Q Cc Sc T pc' Ls' St) : Go p e below s m Q Cc Sc T pc Ls (.long x :: St) := by
  subst hp
  exact Go.via (fun t q => XS.lstoreN X.here C.x rfl (hb C.b hd) rfl hl q) kk
theorem g_lstoreV (C : Cx Z a0 p s m meth c bs ml own nm rt) (X : Stand p l e R s m args below meth c T locs cells slots) {x : Int64} (hd : decode bs pc = .ok (.lstore k, 2)) (F : Int64 → Array Slot) (hl : storeLocals Ls k (.long x) = some (F x)) (hp : pc + 2 = pc') (kk : ∀ v, v = x → Go p e below s m Q Cc Sc T pc' (F v) St) : Go p e below s m Q Cc Sc T pc Ls (.long x :: St) := g_lstore C X hd (F x) hl hp (kk x rfl)
theorem g_lstoreNV (C : Cx Z a0 p s m meth c bs ml own nm rt) (X : Stand p l e R s m args below meth c T locs cells slots) {k : Fin 4} {x : Int64} (hd : decode bs pc = .ok (.lstore_n k, 1)) (F : Int64 → Array Slot) (hl : storeLocals Ls k.val (.long x) = some (F x)) (hp : pc + 1 = pc') (kk : ∀ v, v = x → Go p e below s m Q Cc Sc T pc' (F v) St) : Go p e below s m Q Cc Sc T pc Ls (.long x :: St) := g_lstoreN C X hd (F x) hl hp (kk x rfl)
theorem g_astore (C : Cx Z a0 p s m meth c bs ml own nm rt) (X : Stand p l e R s m args below meth c T locs cells slots) {x : Addr} (hd : decode bs pc = .ok (.astore k, 2)) (Ls' : Array Slot) (hl : storeLocals Ls k (.ref x) = some Ls') (hp : pc + 2 = pc') (kk : Go p e below s m Q Cc Sc T pc' Ls' St) : Go p e below s m Q Cc Sc T pc Ls (.ref x :: St) := by
  subst hp
  exact Go.via (fun t q => XS.astore X.here C.x rfl (hb C.b hd) rfl rfl hl q) kk
theorem g_astoreN (C : Cx Z a0 p s m meth c bs ml own nm rt) (X : Stand p l e R s m args below meth c T locs cells slots) {k : Fin 4} {x : Addr} (hd : decode bs pc = .ok (.astore_n k, 1)) (Ls' : Array Slot) (hl : storeLocals Ls k.val (.ref x) = some Ls') (hp : pc + 1 = pc') (kk : Go p e below s m Q Cc Sc T pc' Ls' St) : Go p e below s m Q Cc Sc T pc Ls (.ref x :: St) := by
  subst hp
  exact Go.via (fun t q => XS.astoreN X.here C.x rfl (hb C.b hd) rfl rfl hl q) kk
theorem g_astoreV (C : Cx Z a0 p s m meth c bs ml own nm rt) (X : Stand p l e R s m args below meth c T locs cells slots) {x : Addr} (hd : decode bs pc = .ok (.astore k, 2)) (F : Addr → Array Slot) (hl : storeLocals Ls k (.ref x) = some (F x)) (hp : pc + 2 = pc') (kk : ∀ v, v = x → Go p e below s m Q Cc Sc T pc' (F v) St) : Go p e below s m Q Cc Sc T pc Ls (.ref x :: St) := g_astore C X hd (F x) hl hp (kk x rfl)
theorem g_astoreNV (C : Cx Z a0 p s m meth c bs ml own nm rt) (X : Stand p l e R s m args below meth c T locs cells slots) {k : Fin 4} {x : Addr} (hd : decode bs pc = .ok (.astore_n k, 1)) (F : Addr → Array Slot) (hl : storeLocals Ls k.val (.ref x) = some (F x)) (hp : pc + 1 = pc') (kk : ∀ v, v = x → Go p e below s m Q Cc Sc T pc' (F v) St) : Go p e below s m Q Cc Sc T pc Ls (.ref x :: St) := g_astoreN C X hd (F x) hl hp (kk x rfl)
theorem g_iinc (C : Cx Z a0 p s m meth c bs ml own nm rt) (X : Stand p l e R s m args below meth c T locs cells slots) {cst : Int} {x : Int32} (hd : decode bs pc = .ok (.iinc k cst, 3)) (hl : Ls[k]? = some (.val (.int x))) (Ls' : Array Slot) (hl' : storeLocals Ls k (.int (x + Int32.ofInt cst)) = some Ls') (hp : pc + 3 = pc') (kk : Go p e below s m Q Cc Sc T pc' Ls' St) : Go p e below s m Q Cc Sc T pc Ls St := by
  subst hp
  exact Go.via (fun t q => XS.iinc X.here C.x rfl (hb C.b hd) hl hl' q) kk
theorem g_iincV (C : Cx Z a0 p s m meth c bs ml own nm rt) (X : Stand p l e R s m args below meth c T locs cells slots) {cst : Int} {x y : Int32} (hd : decode bs pc = .ok (.iinc k cst, 3)) (hl : Ls[k]? = some (.val (.int x))) (hy : Int32.ofInt cst = y) (F : Int32 → Array Slot) (hl' : storeLocals Ls k (.int (x + y)) = some (F (x + y))) (hp : pc + 3 = pc') (kk : ∀ v, v = x + y → Go p e below s m Q Cc Sc T pc' (F v) St) : Go p e below s m Q Cc Sc T pc Ls St := g_iinc C X hd hl (F (x + y)) (by rw [hy]; exact hl') hp (kk _ rfl)
theorem g_iconst (C : Cx Z a0 p s m meth c bs ml own nm rt) (X : Stand p l e R s m args below meth c T locs cells slots) {i : Int} (v : Int32) (hd : decode bs pc = .ok (.iconst i, 1)) (hv : Int32.ofInt i = v) (hp : pc + 1 = pc') (kk : Go p e below s m Q Cc Sc T pc' Ls (.int v :: St)) : Go p e below s m Q Cc Sc T pc Ls St := by
  subst hp hv
  exact Go.via (fun t q => XS.iconst X.here C.x rfl (hb C.b hd) q) kk
theorem g_bipush (C : Cx Z a0 p s m meth c bs ml own nm rt) (X : Stand p l e R s m args below meth c T locs cells slots) {i : Int} (v : Int32) (hd : decode bs pc = .ok (.bipush i, 2)) (hv : (Int8.ofInt i).toInt32 = v) (hp : pc + 2 = pc') (kk : Go p e below s m Q Cc Sc T pc' Ls (.int v :: St)) : Go p e below s m Q Cc Sc T pc Ls St := by
  subst hp hv
  exact Go.via (fun t q => XS.bipush X.here C.x rfl (hb C.b hd) q) kk
theorem g_sipush (C : Cx Z a0 p s m meth c bs ml own nm rt) (X : Stand p l e R s m args below meth c T locs cells slots) {i : Int} (v : Int32) (hd : decode bs pc = .ok (.sipush i, 3)) (hv : (Int16.ofInt i).toInt32 = v) (hp : pc + 3 = pc') (kk : Go p e below s m Q Cc Sc T pc' Ls (.int v :: St)) : Go p e below s m Q Cc Sc T pc Ls St := by
  subst hp hv
  exact Go.via (fun t q => XS.sipush X.here C.x rfl (hb C.b hd) q) kk
theorem g_lconst (C : Cx Z a0 p s m meth c bs ml own nm rt) (X : Stand p l e R s m args below meth c T locs cells slots) {i : Fin 2} (v : Int64) (hd : decode bs pc = .ok (.lconst i, 1)) (hv : Int64.ofNat i = v) (hp : pc + 1 = pc') (kk : Go p e below s m Q Cc Sc T pc' Ls (.long v :: St)) : Go p e below s m Q Cc Sc T pc Ls St := by
  subst hp hv
  exact Go.via (fun t q => XS.lconst X.here C.x rfl (hb C.b hd) q) kk
theorem g_ldc (C : Cx Z a0 p s m meth c bs ml own nm rt) (X : Stand p l e R s m args below meth c T locs cells slots) {i : Nat} {v : Int32} (hd : decode bs pc = .ok (.ldc i, 2)) (hv : (Jvm.Cond.constant own i v).before a0 Z = true) (hp : pc + 2 = pc') (kk : Go p e below s m Q Cc Sc T pc' Ls (.int v :: St)) : Go p e below s m Q Cc Sc T pc Ls St := by
  subst hp
  exact Go.via (fun t q => X.ldcInt C.x C.o (mvT C.z hv) (g := mkF m pc Ls St) rfl (hb C.b hd) t q) kk
theorem g_ldcL (C : Cx Z a0 p s m meth c bs ml own nm rt) (X : Stand p l e R s m args below meth c T locs cells slots) {i : Nat} {v : Int64} (hd : decode bs pc = .ok (.ldc2_w i, 3)) (hv : (Jvm.Cond.constantLong own i v).before a0 Z = true) (hp : pc + 3 = pc') (kk : Go p e below s m Q Cc Sc T pc' Ls (.long v :: St)) : Go p e below s m Q Cc Sc T pc Ls St := by
  subst hp
  exact Go.via (fun t q => X.ldc2Long C.x C.o (mvT C.z hv) (g := mkF m pc Ls St) rfl (hb C.b hd) t q) kk
theorem g_iadd (C : Cx Z a0 p s m meth c bs ml own nm rt) (X : Stand p l e R s m args below meth c T locs cells slots) {x y : Int32} (hd : decode bs pc = .ok (.iadd, 1))  (hp : pc + 1 = pc') (kk : Go p e below s m Q Cc Sc T pc' Ls (.int (x + y) :: St)) : Go p e below s m Q Cc Sc T pc Ls (.int y :: .int x :: St) := by
  subst hp
  exact Go.via (fun t q => XS.iadd X.here C.x rfl (hb C.b hd) rfl q) kk
theorem g_isub (C : Cx Z a0 p s m meth c bs ml own nm rt) (X : Stand p l e R s m args below meth c T locs cells slots) {x y : Int32} (hd : decode bs pc = .ok (.isub, 1))  (hp : pc + 1 = pc') (kk : Go p e below s m Q Cc Sc T pc' Ls (.int (x - y) :: St)) : Go p e below s m Q Cc Sc T pc Ls (.int y :: .int x :: St) := by
  subst hp
  exact Go.via (fun t q => XS.isub X.here C.x rfl (hb C.b hd) rfl q) kk
theorem g_imul (C : Cx Z a0 p s m meth c bs ml own nm rt) (X : Stand p l e R s m args below meth c T locs cells slots) {x y : Int32} (hd : decode bs pc = .ok (.imul, 1))  (hp : pc + 1 = pc') (kk : Go p e below s m Q Cc Sc T pc' Ls (.int (x * y) :: St)) : Go p e below s m Q Cc Sc T pc Ls (.int y :: .int x :: St) := by
  subst hp
  exact Go.via (fun t q => XS.imul X.here C.x rfl (hb C.b hd) rfl q) kk
theorem g_iand (C : Cx Z a0 p s m meth c bs ml own nm rt) (X : Stand p l e R s m args below meth c T locs cells slots) {x y : Int32} (hd : decode bs pc = .ok (.iand, 1))  (hp : pc + 1 = pc') (kk : Go p e below s m Q Cc Sc T pc' Ls (.int (x &&& y) :: St)) : Go p e below s m Q Cc Sc T pc Ls (.int y :: .int x :: St) := by
  subst hp
  exact Go.via (fun t q => XS.iand X.here C.x rfl (hb C.b hd) rfl q) kk
theorem g_ior (C : Cx Z a0 p s m meth c bs ml own nm rt) (X : Stand p l e R s m args below meth c T locs cells slots) {x y : Int32} (hd : decode bs pc = .ok (.ior, 1))  (hp : pc + 1 = pc') (kk : Go p e below s m Q Cc Sc T pc' Ls (.int (x ||| y) :: St)) : Go p e below s m Q Cc Sc T pc Ls (.int y :: .int x :: St) := by
  subst hp
  exact Go.via (fun t q => XS.ior X.here C.x rfl (hb C.b hd) rfl q) kk
theorem g_ixor (C : Cx Z a0 p s m meth c bs ml own nm rt) (X : Stand p l e R s m args below meth c T locs cells slots) {x y : Int32} (hd : decode bs pc = .ok (.ixor, 1))  (hp : pc + 1 = pc') (kk : Go p e below s m Q Cc Sc T pc' Ls (.int (x ^^^ y) :: St)) : Go p e below s m Q Cc Sc T pc Ls (.int y :: .int x :: St) := by
  subst hp
  exact Go.via (fun t q => XS.ixor X.here C.x rfl (hb C.b hd) rfl q) kk
theorem g_idiv (C : Cx Z a0 p s m meth c bs ml own nm rt) (X : Stand p l e R s m args below meth c T locs cells slots) {x y : Int32} (hd : decode bs pc = .ok (.idiv, 1)) (hy : y ≠ 0) (hp : pc + 1 = pc') (kk : Go p e below s m Q Cc Sc T pc' Ls (.int (x / y) :: St)) : Go p e below s m Q Cc Sc T pc Ls (.int y :: .int x :: St) := by
  subst hp
  exact Go.via (fun t q => XS.idiv X.here C.x rfl (hb C.b hd) rfl hy q) kk
theorem g_ladd (C : Cx Z a0 p s m meth c bs ml own nm rt) (X : Stand p l e R s m args below meth c T locs cells slots) {x y : Int64} (hd : decode bs pc = .ok (.ladd, 1))  (hp : pc + 1 = pc') (kk : Go p e below s m Q Cc Sc T pc' Ls (.long (x + y) :: St)) : Go p e below s m Q Cc Sc T pc Ls (.long y :: .long x :: St) := by
  subst hp
  exact Go.via (fun t q => XS.ladd X.here C.x rfl (hb C.b hd) rfl q) kk
theorem g_lsub (C : Cx Z a0 p s m meth c bs ml own nm rt) (X : Stand p l e R s m args below meth c T locs cells slots) {x y : Int64} (hd : decode bs pc = .ok (.lsub, 1))  (hp : pc + 1 = pc') (kk : Go p e below s m Q Cc Sc T pc' Ls (.long (x - y) :: St)) : Go p e below s m Q Cc Sc T pc Ls (.long y :: .long x :: St) := by
  subst hp
  exact Go.via (fun t q => XS.lsub X.here C.x rfl (hb C.b hd) rfl q) kk
theorem g_lmul (C : Cx Z a0 p s m meth c bs ml own nm rt) (X : Stand p l e R s m args below meth c T locs cells slots) {x y : Int64} (hd : decode bs pc = .ok (.lmul, 1))  (hp : pc + 1 = pc') (kk : Go p e below s m Q Cc Sc T pc' Ls (.long (x * y) :: St)) : Go p e below s m Q Cc Sc T pc Ls (.long y :: .long x :: St) := by
  subst hp
  exact Go.via (fun t q => XS.lmul X.here C.x rfl (hb C.b hd) rfl q) kk
theorem g_land (C : Cx Z a0 p s m meth c bs ml own nm rt) (X : Stand p l e R s m args below meth c T locs cells slots) {x y : Int64} (hd : decode bs pc = .ok (.land, 1))  (hp : pc + 1 = pc') (kk : Go p e below s m Q Cc Sc T pc' Ls (.long (x &&& y) :: St)) : Go p e below s m Q Cc Sc T pc Ls (.long y :: .long x :: St) := by
  subst hp
  exact Go.via (fun t q => XS.land X.here C.x rfl (hb C.b hd) rfl q) kk
theorem g_lor (C : Cx Z a0 p s m meth c bs ml own nm rt) (X : Stand p l e R s m args below meth c T locs cells slots) {x y : Int64} (hd : decode bs pc = .ok (.lor, 1))  (hp : pc + 1 = pc') (kk : Go p e below s m Q Cc Sc T pc' Ls (.long (x ||| y) :: St)) : Go p e below s m Q Cc Sc T pc Ls (.long y :: .long x :: St) := by
  subst hp
  exact Go.via (fun t q => XS.lor X.here C.x rfl (hb C.b hd) rfl q) kk
theorem g_lxor (C : Cx Z a0 p s m meth c bs ml own nm rt) (X : Stand p l e R s m args below meth c T locs cells slots) {x y : Int64} (hd : decode bs pc = .ok (.lxor, 1))  (hp : pc + 1 = pc') (kk : Go p e below s m Q Cc Sc T pc' Ls (.long (x ^^^ y) :: St)) : Go p e below s m Q Cc Sc T pc Ls (.long y :: .long x :: St) := by
  subst hp
  exact Go.via (fun t q => XS.lxor X.here C.x rfl (hb C.b hd) rfl q) kk
theorem g_ldiv (C : Cx Z a0 p s m meth c bs ml own nm rt) (X : Stand p l e R s m args below meth c T locs cells slots) {x y : Int64} (hd : decode bs pc = .ok (.ldiv, 1)) (hy : y ≠ 0) (hp : pc + 1 = pc') (kk : Go p e below s m Q Cc Sc T pc' Ls (.long (x / y) :: St)) : Go p e below s m Q Cc Sc T pc Ls (.long y :: .long x :: St) := by
  subst hp
  exact Go.via (fun t q => XS.ldiv X.here C.x rfl (hb C.b hd) rfl hy q) kk
theorem g_irem (C : Cx Z a0 p s m meth c bs ml own nm rt) (X : Stand p l e R s m args below meth c T locs cells slots) {x y : Int32} (hd : decode bs pc = .ok (.irem, 1)) (hy : y ≠ 0) (hp : pc + 1 = pc') (kk : Go p e below s m Q Cc Sc T pc' Ls (.int (x % y) :: St)) : Go p e below s m Q Cc Sc T pc Ls (.int y :: .int x :: St) := by
  subst hp
  exact Go.via (fun t q => iremM (g := mkF m pc Ls (.int y :: .int x :: St)) X C.x rfl (hb C.b hd) rfl hy q) kk
theorem g_lrem (C : Cx Z a0 p s m meth c bs ml own nm rt) (X : Stand p l e R s m args below meth c T locs cells slots) {x y : Int64} (hd : decode bs pc = .ok (.lrem, 1)) (hy : y ≠ 0) (hp : pc + 1 = pc') (kk : Go p e below s m Q Cc Sc T pc' Ls (.long (x % y) :: St)) : Go p e below s m Q Cc Sc T pc Ls (.long y :: .long x :: St) := by
  subst hp
  rw [← lrem_mod] at kk
  exact Go.via (fun t q => XS.lrem X.here C.x rfl (hb C.b hd) rfl hy q) kk
theorem g_ishl (C : Cx Z a0 p s m meth c bs ml own nm rt) (X : Stand p l e R s m args below meth c T locs cells slots) {x y : Int32} (hd : decode bs pc = .ok (.ishl, 1))  (hp : pc + 1 = pc') (kk : Go p e below s m Q Cc Sc T pc' Ls (.int (x <<< (y &&& 31)) :: St)) : Go p e below s m Q Cc Sc T pc Ls (.int y :: .int x :: St) := by
  subst hp
  exact Go.via (fun t q => XS.ishl X.here C.x rfl (hb C.b hd) rfl q) kk
theorem g_ishr (C : Cx Z a0 p s m meth c bs ml own nm rt) (X : Stand p l e R s m args below meth c T locs cells slots) {x y : Int32} (hd : decode bs pc = .ok (.ishr, 1))  (hp : pc + 1 = pc') (kk : Go p e below s m Q Cc Sc T pc' Ls (.int (x >>> (y &&& 31)) :: St)) : Go p e below s m Q Cc Sc T pc Ls (.int y :: .int x :: St) := by
  subst hp
  exact Go.via (fun t q => XS.ishr X.here C.x rfl (hb C.b hd) rfl q) kk
theorem g_iushr (C : Cx Z a0 p s m meth c bs ml own nm rt) (X : Stand p l e R s m args below meth c T locs cells slots) {x y : Int32} (hd : decode bs pc = .ok (.iushr, 1))  (hp : pc + 1 = pc') (kk : Go p e below s m Q Cc Sc T pc' Ls (.int ((x.toUInt32 >>> (y &&& 31).toUInt32).toInt32) :: St)) : Go p e below s m Q Cc Sc T pc Ls (.int y :: .int x :: St) := by
  subst hp
  exact Go.via (fun t q => XS.iushr X.here C.x rfl (hb C.b hd) rfl q) kk
theorem g_lshl (C : Cx Z a0 p s m meth c bs ml own nm rt) (X : Stand p l e R s m args below meth c T locs cells slots) {x : Int64} {y : Int32} (hd : decode bs pc = .ok (.lshl, 1))  (hp : pc + 1 = pc') (kk : Go p e below s m Q Cc Sc T pc' Ls (.long (x <<< (y &&& 0x3f).toInt64) :: St)) : Go p e below s m Q Cc Sc T pc Ls (.int y :: .long x :: St) := by
  subst hp
  exact Go.via (fun t q => XS.lshl X.here C.x rfl (hb C.b hd) rfl q) kk
theorem g_lshr (C : Cx Z a0 p s m meth c bs ml own nm rt) (X : Stand p l e R s m args below meth c T locs cells slots) {x : Int64} {y : Int32} (hd : decode bs pc = .ok (.lshr, 1))  (hp : pc + 1 = pc') (kk : Go p e below s m Q Cc Sc T pc' Ls (.long (x >>> (y &&& 0x3f).toInt64) :: St)) : Go p e below s m Q Cc Sc T pc Ls (.int y :: .long x :: St) := by
  subst hp
  exact Go.via (fun t q => XS.lshr X.here C.x rfl (hb C.b hd) rfl q) kk
theorem g_lushr (C : Cx Z a0 p s m meth c bs ml own nm rt) (X : Stand p l e R s m args below meth c T locs cells slots) {x : Int64} {y : Int32} (hd : decode bs pc = .ok (.lushr, 1))  (hp : pc + 1 = pc') (kk : Go p e below s m Q Cc Sc T pc' Ls (.long ((x.toUInt64 >>> (y &&& 0x3f).toInt64.toUInt64).toInt64) :: St)) : Go p e below s m Q Cc Sc T pc Ls (.int y :: .long x :: St) := by
  subst hp
  exact Go.via (fun t q => XS.lushr X.here C.x rfl (hb C.b hd) rfl q) kk
theorem g_i2b (C : Cx Z a0 p s m meth c bs ml own nm rt) (X : Stand p l e R s m args below meth c T locs cells slots) {x : Int32} (hd : decode bs pc = .ok (.i2b, 1))  (hp : pc + 1 = pc') (kk : Go p e below s m Q Cc Sc T pc' Ls (.int (x.toInt8.toInt32) :: St)) : Go p e below s m Q Cc Sc T pc Ls (.int x :: St) := by
  subst hp
  exact Go.via (fun t q => XS.i2b X.here C.x rfl (hb C.b hd) rfl q) kk
theorem g_i2l (C : Cx Z a0 p s m meth c bs ml own nm rt) (X : Stand p l e R s m args below meth c T locs cells slots) {x : Int32} (hd : decode bs pc = .ok (.i2l, 1))  (hp : pc + 1 = pc') (kk : Go p e below s m Q Cc Sc T pc' Ls (.long (x.toInt64) :: St)) : Go p e below s m Q Cc Sc T pc Ls (.int x :: St) := by
  subst hp
  exact Go.via (fun t q => XS.i2l X.here C.x rfl (hb C.b hd) rfl q) kk
theorem g_l2i (C : Cx Z a0 p s m meth c bs ml own nm rt) (X : Stand p l e R s m args below meth c T locs cells slots) {x : Int64} (hd : decode bs pc = .ok (.l2i, 1))  (hp : pc + 1 = pc') (kk : Go p e below s m Q Cc Sc T pc' Ls (.int (x.toInt32) :: St)) : Go p e below s m Q Cc Sc T pc Ls (.long x :: St) := by
  subst hp
  exact Go.via (fun t q => XS.l2i X.here C.x rfl (hb C.b hd) rfl q) kk
theorem g_ineg (C : Cx Z a0 p s m meth c bs ml own nm rt) (X : Stand p l e R s m args below meth c T locs cells slots) {x : Int32} (hd : decode bs pc = .ok (.ineg, 1))  (hp : pc + 1 = pc') (kk : Go p e below s m Q Cc Sc T pc' Ls (.int (-x) :: St)) : Go p e below s m Q Cc Sc T pc Ls (.int x :: St) := by
  subst hp
  exact Go.via (fun t q => XS.ineg X.here C.x rfl (hb C.b hd) rfl q) kk
theorem g_lneg (C : Cx Z a0 p s m meth c bs ml own nm rt) (X : Stand p l e R s m args below meth c T locs cells slots) {x : Int64} (hd : decode bs pc = .ok (.lneg, 1))  (hp : pc + 1 = pc') (kk : Go p e below s m Q Cc Sc T pc' Ls (.long (-x) :: St)) : Go p e below s m Q Cc Sc T pc Ls (.long x :: St) := by
  subst hp
  exact Go.via (fun t q => XS.lneg X.here C.x rfl (hb C.b hd) rfl q) kk
theorem g_dup (C : Cx Z a0 p s m meth c bs ml own nm rt) (X : Stand p l e R s m args below meth c T locs cells slots) {x : Value} (hd : decode bs pc = .ok (.dup, 1)) (hc : x.category = 1) (hp : pc + 1 = pc') (kk : Go p e below s m Q Cc Sc T pc' Ls (x :: x :: St)) : Go p e below s m Q Cc Sc T pc Ls (x :: St) := by
  subst hp
  exact Go.via (fun t q => XS.dup X.here C.x rfl (hb C.b hd) rfl hc q) kk
theorem g_pop (C : Cx Z a0 p s m meth c bs ml own nm rt) (X : Stand p l e R s m args below meth c T locs cells slots) {x : Value} (hd : decode bs pc = .ok (.pop, 1)) (hc : x.category = 1) (hp : pc + 1 = pc') (kk : Go p e below s m Q Cc Sc T pc' Ls St) : Go p e below s m Q Cc Sc T pc Ls (x :: St) := by
  subst hp
  exact Go.via (fun t q => XS.pop X.here C.x rfl (hb C.b hd) rfl hc q) kk
theorem g_goto (C : Cx Z a0 p s m meth c bs ml own nm rt) (X : Stand p l e R s m args below meth c T locs cells slots) {o : Int} (hd : decode bs pc = .ok (.goto o, 3)) (ho : 0 ≤ (pc : Int) + o) (hp : ((pc : Int) + o).toNat = pc') (kk : Go p e below s m Q Cc Sc T pc' Ls St) : Go p e below s m Q Cc Sc T pc Ls St := Go.via (fun t q => XS.goto X.here C.x rfl rfl (hb C.b hd) ho hp q) kk
/-- what a comparison says of two ints -/
def Cd (cd : ClassFile.Cond) (x y : Int) : Prop := match cd with | .eq => x = y | .ne => ¬ x = y | .lt => x < y | .ge => y ≤ x | .gt => y < x | .le => x ≤ y
def ng : ClassFile.Cond → ClassFile.Cond | .eq => .ne | .ne => .eq | .lt => .ge | .ge => .lt | .gt => .le | .le => .gt
theorem cd_n {cd : ClassFile.Cond} {x y : Int} (h : ¬ Cd cd x y) : Cd (ng cd) x y := by
  cases cd <;> simp only [Cd, ng] at h ⊢ <;> omega
theorem cd_t {cd : ClassFile.Cond} {x y : Int32} : if_icmp.holds cd x y = true ↔ Cd cd x.toInt y.toInt := by
  cases cd <;> simp [if_icmp.holds, Cd, Int32.lt_iff_toInt_lt, Int32.le_iff_toInt_le, Int32.toInt_inj]
theorem cd_0 {cd : ClassFile.Cond} {x : Int32} : ifCond.holds cd x = true ↔ Cd cd x.toInt 0 := by
  rw [if0, cd_t]; rfl
theorem g_icmp (C : Cx Z a0 p s m meth c bs ml own nm rt) (X : Stand p l e R s m args below meth c T locs cells slots) {cd : ClassFile.Cond} {o : Int} {x y : Int32} (hd : decode bs pc = .ok (.if_icmp cd o, 3)) (ho : 0 ≤ (pc : Int) + o) (hq : ((pc : Int) + o).toNat = pt) (hp : pc + 3 = pc') (kt : Cd cd x.toInt y.toInt → Go p e below s m Q Cc Sc T pt Ls St) (kf : Cd (ng cd) x.toInt y.toInt → Go p e below s m Q Cc Sc T pc' Ls St) : Go p e below s m Q Cc Sc T pc Ls (.int y :: .int x :: St) := by
  subst hp
  by_cases q : Cd cd x.toInt y.toInt
  · exact Go.via (fun t q' => XS.icmpYes X.here C.x rfl rfl (hb C.b hd) rfl (cd_t.mpr q) ho hq q') (kt q)
  · exact Go.via (fun t q' => XS.icmpNo X.here C.x rfl (hb C.b hd) rfl (Bool.eq_false_iff.mpr fun z => q (cd_t.mp z)) q') (kf (cd_n q))
theorem g_if (C : Cx Z a0 p s m meth c bs ml own nm rt) (X : Stand p l e R s m args below meth c T locs cells slots) {cd : ClassFile.Cond} {o : Int} {x : Int32} (hd : decode bs pc = .ok (.ifCond cd o, 3)) (ho : 0 ≤ (pc : Int) + o) (hq : ((pc : Int) + o).toNat = pt) (hp : pc + 3 = pc') (kt : Cd cd x.toInt 0 → Go p e below s m Q Cc Sc T pt Ls St) (kf : Cd (ng cd) x.toInt 0 → Go p e below s m Q Cc Sc T pc' Ls St) : Go p e below s m Q Cc Sc T pc Ls (.int x :: St) := by
  subst hp
  by_cases q : Cd cd x.toInt 0
  · exact Go.via (fun t q' => XS.ifYes X.here C.x rfl rfl (hb C.b hd) rfl (cd_0.mpr q) ho hq q') (kt q)
  · exact Go.via (fun t q' => XS.ifNo X.here C.x rfl (hb C.b hd) rfl (Bool.eq_false_iff.mpr fun z => q (cd_0.mp z)) q') (kf (cd_n q))
theorem cd_l {cd : ClassFile.Cond} {x y : Int64} : Cd cd (lcmpW x y).toInt 0 ↔ Cd cd x.toInt y.toInt := by
  obtain ⟨h1, h2, h3⟩ := c_lcmp x y
  generalize (lcmpW x y).toInt = w at *
  generalize x.toInt = u at *
  generalize y.toInt = v at *
  cases cd <;> simp only [Cd] <;> omega
theorem g_lcmpif (C : Cx Z a0 p s m meth c bs ml own nm rt) (X : Stand p l e R s m args below meth c T locs cells slots) {cd : ClassFile.Cond} {o : Int} {x y : Int64} {pm : Nat} (hd0 : decode bs pc = .ok (.lcmp, 1)) (hm : pc + 1 = pm) (hd : decode bs pm = .ok (.ifCond cd o, 3)) (ho : 0 ≤ (pm : Int) + o) (hq : ((pm : Int) + o).toNat = pt) (hp : pm + 3 = pc') (kt : Cd cd x.toInt y.toInt → Go p e below s m Q Cc Sc T pt Ls St) (kf : Cd (ng cd) x.toInt y.toInt → Go p e below s m Q Cc Sc T pc' Ls St) : Go p e below s m Q Cc Sc T pc Ls (.long y :: .long x :: St) := by
  subst hm
  refine Go.via (fun t q' => XS.lcmp X.here C.x rfl (hb C.b hd0) rfl q') ?_
  exact g_if C X hd ho hq hp (fun z => kt (cd_l.mp z)) (fun z => kf (cd_l.mp z))
theorem g_ireturnN (C : Cx Z a0 p s m meth c bs ml own nm rt) (X : Stand p l e R s m args below meth c T locs cells slots) {z : Int32} {t : FieldType} (hd : decode bs pc = .ok (.ireturn, 1)) (hr : rt = some t) (ht : t = .boolean ∨ t = .byte ∨ t = .char ∨ t = .short) (hQ : Q (some (.int (nar t z))) T.heap locs) (hC : cells ≤ Cc) (hS : slots ≤ Sc) : Go p e below s m Q Cc Sc T pc Ls (.int z :: St) := by
  subst hr
  obtain ⟨fs, hr, hrun, hended, hW, hsame⟩ := X.leave (v := some (.int (nar t z))) (fun h => by rw [C.r] at h; cases h) C.lk
  refine ⟨_, _, ?_, hrun, hended, _, _, rfl, hQ, ⟨_, rfl⟩, hW, hsame.mono hC hS⟩
  exact retN X C.x C.r ht (hb C.b hd) hr
theorem g_ireturn (C : Cx Z a0 p s m meth c bs ml own nm rt) (X : Stand p l e R s m args below meth c T locs cells slots) {z : Int32} (hd : decode bs pc = .ok (.ireturn, 1)) (hr : rt = some .int) (hQ : Q (some (.int z)) T.heap locs) (hC : cells ≤ Cc) (hS : slots ≤ Sc) : Go p e below s m Q Cc Sc T pc Ls (.int z :: St) := by
  subst hr
  obtain ⟨fs, hr, hrun, hended, hW, hsame⟩ := X.leave (v := some (.int z)) (fun h => by rw [C.r] at h; cases h) C.lk
  refine ⟨_, _, ?_, hrun, hended, _, _, rfl, hQ, ⟨_, rfl⟩, hW, hsame.mono hC hS⟩
  exact retOut X C.x C.r rfl (Or.inl ⟨rfl, Or.inl rfl, z, rfl⟩) (hb C.b hd) hr
theorem g_lreturn (C : Cx Z a0 p s m meth c bs ml own nm rt) (X : Stand p l e R s m args below meth c T locs cells slots) {z : Int64} (hd : decode bs pc = .ok (.lreturn, 1)) (hr : rt = some .long) (hQ : Q (some (.long z)) T.heap locs) (hC : cells ≤ Cc) (hS : slots ≤ Sc) : Go p e below s m Q Cc Sc T pc Ls (.long z :: St) := by
  subst hr
  obtain ⟨fs, hr, hrun, hended, hW, hsame⟩ := X.leave (v := some (.long z)) (fun h => by rw [C.r] at h; cases h) C.lk
  refine ⟨_, _, ?_, hrun, hended, _, _, rfl, hQ, ⟨_, rfl⟩, hW, hsame.mono hC hS⟩
  exact retOut X C.x C.r rfl (Or.inr (Or.inl ⟨rfl, rfl, z, rfl⟩)) (hb C.b hd) hr
theorem g_areturn (C : Cx Z a0 p s m meth c bs ml own nm rt) (X : Stand p l e R s m args below meth c T locs cells slots) {z : Addr} {t : FieldType} (hd : decode bs pc = .ok (.areturn, 1)) (hr : rt = some t) (ht : t.isReference = true) (hn : narrow t (.ref z) = .ref z) (hQ : Q (some (.ref z)) T.heap locs) (hC : cells ≤ Cc) (hS : slots ≤ Sc) : Go p e below s m Q Cc Sc T pc Ls (.ref z :: St) := by
  subst hr
  obtain ⟨fs, hr, hrun, hended, hW, hsame⟩ := X.leave (v := some (.ref z)) (fun h => by rw [C.r] at h; cases h) C.lk
  refine ⟨_, _, ?_, hrun, hended, _, _, rfl, hQ, ⟨_, rfl⟩, hW, hsame.mono hC hS⟩
  exact retOut X C.x C.r hn (Or.inr (Or.inr (Or.inr (Or.inr ⟨rfl, ht, rfl⟩)))) (hb C.b hd) hr
theorem g_return (C : Cx Z a0 p s m meth c bs ml own nm rt) (X : Stand p l e R s m args below meth c T locs cells slots)  (hd : decode bs pc = .ok (.return_, 1)) (hr : rt = none) (hQ : Q none T.heap locs) (hC : cells ≤ Cc) (hS : slots ≤ Sc) : Go p e below s m Q Cc Sc T pc Ls [] := by
  subst hr
  obtain ⟨fs, hr, hrun, hended, hW, hsame⟩ := X.leave (v := none) (fun _ => rfl) C.lk
  refine ⟨_, _, ?_, hrun, hended, _, _, rfl, hQ, ⟨_, rfl⟩, hW, hsame.mono hC hS⟩
  exact X.returnOut C.x C.r (hb C.b hd) hr
/-- an array: its kind, its length, what each place holds -/
def Aw (Z : State) (h : Heap) (a : Addr) (ty : FieldType) (n : Nat) (f : Nat → Value) : Prop := ∃ cl : Cell, Arr Z h a cl ty ∧ cl.slots.size = n ∧ n < 2 ^ 31 ∧ ∀ j, j < n → cl.slots[j]? = some (f j)
variable {a b : Addr} {ty : FieldType} {n : Nat} {f f' : Nat → Value}
theorem Aw.ext (A : Aw Z h a ty n f) (E : Ext h h') : Aw Z h' a ty n f := by obtain ⟨cl, A, r⟩ := A; exact ⟨cl, A.ext E, r⟩
theorem Aw.other {sl : Nat} {v : Value} (A : Aw Z h b ty n f) (W : Wr h h' a sl v) (q : b ≠ a) : Aw Z h' b ty n f := by obtain ⟨cl, A, r⟩ := A; exact ⟨cl, A.other W q, r⟩
theorem Aw.keep {ws : List Addr} (A : Aw Z h a ty n f) (K : Keep h h' ws) (q : a ∉ ws) : Aw Z h' a ty n f := by obtain ⟨cl, A, r⟩ := A; exact ⟨cl, ⟨K.2.1 a cl A.1 q, A.2⟩, r⟩
theorem Aw.lt (A : Aw Z h a ty n f) : a < h.size := by obtain ⟨cl, A, r⟩ := A; exact A.lt
theorem Aw.of (A : Aw Z h a ty n f) (q : ∀ j, j < n → f j = f' j) : Aw Z h a ty n f' := by obtain ⟨cl, A, r1, r2, r3⟩ := A; exact ⟨cl, A, r1, r2, fun j hj => by rw [r3 j hj, q j hj]⟩
theorem i_nn {j : Int32} (h0 : 0 ≤ j.toInt) : (j.toNatClampNeg : Int) = j.toInt := by simp only [Int32.toNatClampNeg]; omega
theorem aw_in {cl : Cell} {j : Int32} (S : cl.slots.size = n) (h0 : 0 ≤ j.toInt) (h1 : j.toInt < n) : ¬ (j < 0 ∨ cl.slots.size ≤ j.toNatClampNeg) := by
  have := i_nn h0
  rw [Int32.lt_iff_toInt_lt, S]; simp only [Int32.reduceToInt]; omega
theorem aw_len (q : n < 2 ^ 31) : (n.toInt32).toInt = n := len_toInt q
theorem g_newarray {aty : ArrayType} {nn : Int32} {cap : Nat} (C : Cx Z a0 p s m meth c bs ml own nm rt) (X : Stand p l e R s m args below meth c T locs cells slots) (hd : decode bs pc = .ok (.newarray aty, 2)) (eT : T.heap = h) (w : (Jvm.Cond.arrayClass (newarray.typeOf aty)).before a0 Z = true) (h0 : 0 ≤ nn.toInt) (hcap : nn.toInt ≤ cap) (hb8 : cap * 8 ≤ 536870912) (hc : cells + 1 ≤ R.cells) (hl : slots + cap ≤ R.slots) (hp : pc + 2 = pc')
    (kk : ∀ T' h', Stand p l e R s m args below meth c T' locs (cells + 1) (slots + cap) → T'.heap = h' → Ext h h' → h.size < h'.size → ∀ a, a = h.size → Aw Z h' a (newarray.typeOf aty) nn.toInt.toNat (fun _ => defaultValue (newarray.typeOf aty)) → Go p e below s m Q Cc Sc T' pc' Ls (.ref a :: St)) : Go p e below s m Q Cc Sc T pc Ls (.int nn :: St) := by
  subst hp
  have hn : ¬ nn < 0 := by rw [Int32.lt_iff_toInt_lt]; simp only [Int32.reduceToInt]; omega
  have hi := i_nn h0
  obtain ⟨T', h', cA, X', e', E, A, st⟩ := newP X C.x C.z w eT (g := mkF m pc Ls (.int nn :: St)) rfl (hb C.b hd) rfl hn (cap := cap) (by omega) hb8 hc hl
  have hs : (newA cA (newarray.typeOf aty) nn).slots.size = nn.toInt.toNat := by rw [sz_new]; simp only [Int32.toNatClampNeg]
  have hlt := nn.toInt_lt
  refine Go.via st (kk T' h' X' e' E A.lt _ rfl ⟨_, A, hs, by omega, fun j hj => ?_⟩)
  have : j < nn.toNatClampNeg := by omega
  simp [newA, this]
theorem Aw.set {cl : Cell} {j : Int32} {v : Value} (A : Arr Z h a cl ty) (S : cl.slots.size = n) (M : n < 2 ^ 31) (H : ∀ j, j < n → cl.slots[j]? = some (f j)) (h0 : 0 ≤ j.toInt) (W : Wr h h' a j.toNatClampNeg v) : Aw Z h' a ty n (fun i => if (i : Int) = j.toInt then v else f i) := by
  refine ⟨_, A.same W, by rw [sz_set]; exact S, M, fun i hi => ?_⟩
  have hi0 := i_nn h0
  show _ = some (if (i : Int) = j.toInt then v else f i)
  by_cases q : (i : Int) = j.toInt
  · have : j.toNatClampNeg = i := by omega
    rw [if_pos q, this]
    simp [Cell.setSlot, S, hi]
  · have : j.toNatClampNeg ≠ i := by omega
    rw [if_neg q]
    simp only [Cell.setSlot]
    rw [Array.getElem?_setIfInBounds_ne this]; exact H i hi
theorem g_arraylength (C : Cx Z a0 p s m meth c bs ml own nm rt) (X : Stand p l e R s m args below meth c T locs cells slots) (hd : decode bs pc = .ok (.arraylength, 1)) (eT : T.heap = h) (A : Aw Z h a ty n f) (hp : pc + 1 = pc') (kk : ∀ v : Int32, v.toInt = n → Go p e below s m Q Cc Sc T pc' Ls (.int v :: St)) : Go p e below s m Q Cc Sc T pc Ls (.ref a :: St) := by
  subst hp
  obtain ⟨cl, A, S, M, H⟩ := A
  have : cl.slots.size.toInt32.toInt = n := by rw [S]; exact aw_len M
  exact Go.via (fun t q => X.arraylength C.x (by rw [eT]; exact A.1) (State.isArrayOf_alike C.z.alike A.2.1) (g := mkF m pc Ls (.ref a :: St)) rfl rfl (hb C.b hd) t q) (kk _ this)

theorem g_iastore {j : Int32} {x : Int32} (C : Cx Z a0 p s m meth c bs ml own nm rt) (X : Stand p l e R s m args below meth c T locs cells slots) (hd : decode bs pc = .ok (.iastore, 1)) (eT : T.heap = h) (A : Aw Z h a .int n f) (h0 : 0 ≤ j.toInt) (h1 : j.toInt < n) (hp : pc + 1 = pc')
    (kk : ∀ T' h', Stand p l e R s m args below meth c T' (locs ++ [⟨a, j.toNatClampNeg⟩]) cells slots → T'.heap = h' → Wr h h' a j.toNatClampNeg (.int x) → Aw Z h' a .int n (fun i => if (i : Int) = j.toInt then .int x else f i) → Go p e below s m Q Cc Sc T' pc' Ls St) : Go p e below s m Q Cc Sc T pc Ls (.int x :: .int j :: .ref a :: St) := by
  subst hp
  obtain ⟨cl, A, S, M, H⟩ := A
  obtain ⟨T', h', X', e', W, st⟩ := stI X C.x C.z eT A (j := j) (aw_in S h0 h1) (g := mkF m pc Ls (.int x :: .int j :: .ref a :: St)) rfl rfl (hb C.b hd)
  exact Go.via st (kk T' h' X' e' W (Aw.set A S M H h0 W))
theorem g_bastore {j : Int32} {x : Int32} (C : Cx Z a0 p s m meth c bs ml own nm rt) (X : Stand p l e R s m args below meth c T locs cells slots) (hd : decode bs pc = .ok (.bastore, 1)) (eT : T.heap = h) (A : Aw Z h a .byte n f) (h0 : 0 ≤ j.toInt) (h1 : j.toInt < n) (hp : pc + 1 = pc')
    (kk : ∀ T' h', Stand p l e R s m args below meth c T' (locs ++ [⟨a, j.toNatClampNeg⟩]) cells slots → T'.heap = h' → Wr h h' a j.toNatClampNeg (.int (nar .byte x)) → Aw Z h' a .byte n (fun i => if (i : Int) = j.toInt then .int (nar .byte x) else f i) → Go p e below s m Q Cc Sc T' pc' Ls St) : Go p e below s m Q Cc Sc T pc Ls (.int x :: .int j :: .ref a :: St) := by
  subst hp
  obtain ⟨cl, A, S, M, H⟩ := A
  obtain ⟨T', h', X', e', W, st⟩ := stB X C.x C.z eT A (j := j) (aw_in S h0 h1) (g := mkF m pc Ls (.int x :: .int j :: .ref a :: St)) rfl rfl (hb C.b hd)
  exact Go.via st (kk T' h' X' e' W (Aw.set A S M H h0 W))
theorem g_lastore {j : Int32} {x : Int64} (C : Cx Z a0 p s m meth c bs ml own nm rt) (X : Stand p l e R s m args below meth c T locs cells slots) (hd : decode bs pc = .ok (.lastore, 1)) (eT : T.heap = h) (A : Aw Z h a .long n f) (h0 : 0 ≤ j.toInt) (h1 : j.toInt < n) (hp : pc + 1 = pc')
    (kk : ∀ T' h', Stand p l e R s m args below meth c T' (locs ++ [⟨a, j.toNatClampNeg⟩]) cells slots → T'.heap = h' → Wr h h' a j.toNatClampNeg (.long x) → Aw Z h' a .long n (fun i => if (i : Int) = j.toInt then .long x else f i) → Go p e below s m Q Cc Sc T' pc' Ls St) : Go p e below s m Q Cc Sc T pc Ls (.long x :: .int j :: .ref a :: St) := by
  subst hp
  obtain ⟨cl, A, S, M, H⟩ := A
  obtain ⟨T', h', X', e', W, st⟩ := stJ X C.x C.z eT A (j := j) (aw_in S h0 h1) (g := mkF m pc Ls (.long x :: .int j :: .ref a :: St)) rfl rfl (hb C.b hd)
  exact Go.via st (kk T' h' X' e' W (Aw.set A S M H h0 W))
theorem g_iaload {j : Int32} {v : Value} (C : Cx Z a0 p s m meth c bs ml own nm rt) (X : Stand p l e R s m args below meth c T locs cells slots) (hd : decode bs pc = .ok (.iaload, 1)) (eT : T.heap = h) (A : Aw Z h a .int n f) (h0 : 0 ≤ j.toInt) (h1 : j.toInt < n) (hv : f j.toInt.toNat = v) (hp : pc + 1 = pc') (kk : Go p e below s m Q Cc Sc T pc' Ls (v :: St)) : Go p e below s m Q Cc Sc T pc Ls (.int j :: .ref a :: St) := by
  subst hp
  obtain ⟨cl, A, S, M, H⟩ := A
  have hi := i_nn h0
  have hj : j.toNatClampNeg = j.toInt.toNat := by omega
  have hat : cl.slots[j.toNatClampNeg]? = some v := by rw [hj, H _ (by omega), hv]
  exact Go.via (fun t q => X.iaload C.x (j := j) (v := v) (by rw [eT]; exact A.1) (State.isArrayOf_alike C.z.alike A.2.1) A.2.2 (aw_in S h0 h1) hat (g := mkF m pc Ls (.int j :: .ref a :: St)) rfl rfl (hb C.b hd) t q) kk
theorem g_baload {j : Int32} {v : Value} (C : Cx Z a0 p s m meth c bs ml own nm rt) (X : Stand p l e R s m args below meth c T locs cells slots) (hd : decode bs pc = .ok (.baload, 1)) (eT : T.heap = h) (A : Aw Z h a .byte n f) (h0 : 0 ≤ j.toInt) (h1 : j.toInt < n) (hv : f j.toInt.toNat = v) (hp : pc + 1 = pc') (kk : Go p e below s m Q Cc Sc T pc' Ls (v :: St)) : Go p e below s m Q Cc Sc T pc Ls (.int j :: .ref a :: St) := by
  subst hp
  obtain ⟨cl, A, S, M, H⟩ := A
  have hi := i_nn h0
  have hj : j.toNatClampNeg = j.toInt.toNat := by omega
  have hat : cl.slots[j.toNatClampNeg]? = some v := by rw [hj, H _ (by omega), hv]
  exact Go.via (fun t q => X.baloadBytes C.x (j := j) (v := v) (by rw [eT]; exact A.1) (State.isArrayOf_alike C.z.alike A.2.1) A.2.2 (aw_in S h0 h1) hat (g := mkF m pc Ls (.int j :: .ref a :: St)) rfl rfl (hb C.b hd) t q) kk
theorem g_laload {j : Int32} {v : Value} (C : Cx Z a0 p s m meth c bs ml own nm rt) (X : Stand p l e R s m args below meth c T locs cells slots) (hd : decode bs pc = .ok (.laload, 1)) (eT : T.heap = h) (A : Aw Z h a .long n f) (h0 : 0 ≤ j.toInt) (h1 : j.toInt < n) (hv : f j.toInt.toNat = v) (hp : pc + 1 = pc') (kk : Go p e below s m Q Cc Sc T pc' Ls (v :: St)) : Go p e below s m Q Cc Sc T pc Ls (.int j :: .ref a :: St) := by
  subst hp
  obtain ⟨cl, A, S, M, H⟩ := A
  have hi := i_nn h0
  have hj : j.toNatClampNeg = j.toInt.toNat := by omega
  have hat : cl.slots[j.toNatClampNeg]? = some v := by rw [hj, H _ (by omega), hv]
  exact Go.via (fun t q => X.laload C.x (j := j) (v := v) (by rw [eT]; exact A.1) (State.isArrayOf_alike C.z.alike A.2.1) A.2.2 (aw_in S h0 h1) hat (g := mkF m pc Ls (.int j :: .ref a :: St)) rfl rfl (hb C.b hd) t q) kk
theorem g_callS {y : MethodName} {bytes : ByteArray} {maxL W index : Nat} {ret : Option FieldType} {rm : Room} {argsL rest : List Value} {ps : List FieldType} {r : Option FieldType} {Qc : Option Value → Heap → List Loc → Prop} (C : Cx Z a0 p s m meth c bs ml own nm rt) (X : Stand p l e R s m args below meth c T locs cells slots)
    (hd : decode bs pc = .ok (.invokestatic index, 3)) (eT : T.heap = h)
    (w1 : (Jvm.Cond.methodLink own index y).before a0 Z = true) (w2 : (Jvm.Cond.static y).before a0 Z = true) (w3 : (Jvm.Cond.initialized y.cls).before a0 Z = true) (w4 : (Jvm.Cond.code y bytes maxL ret).before a0 Z = true)
    (hM : MetFree l y (head1 [Jvm.Cond.code y bytes maxL ret] rm) (fun a U => a = argsL.toArray ∧ Z.Warmed39 U.vm ∧ U.heap = h) (fun _ _ _ _ _ => True) (fun _ U o U' => ∃ v L, o = .returned v ∧ Qc v U'.heap L ∧ FrameEnd U o U' L rm.cells rm.slots))
    (hy : y.cls ≠ "java/lang/invoke/MethodHandle" ∧ y.cls ≠ "java/lang/invoke/VarHandle") (hpd : parseMethodDescriptor y.desc = some ⟨ps, r⟩) (hln : argsL.length = ps.length)
    (hst : St = argsL.reverse ++ rest) (hLs : Ls.size = ml) (hW : (rest.map fun v => v.category).sum ≤ W) (hfr : rm.frames + 1 ≤ R.frames) (hlo : W + (maxL + 11) + rm.locals ≤ R.locals) (hce : cells + rm.cells ≤ R.cells) (hsl : slots + rm.slots ≤ R.slots) (hp : pc + 3 = pc')
    (kk : ∀ T' v L, Stand p l e R s m args below meth c T' (locs ++ L) (cells + rm.cells) (slots + rm.slots) → Qc v T'.heap L → Go p e below s m Q Cc Sc T' pc' Ls (v.toList ++ rest)) : Go p e below s m Q Cc Sc T pc Ls St := by
  subst hp
  obtain ⟨v, _, ⟨T', L', k', n'⟩, -, X', ⟨L, hQ, l1, y1, z1⟩, st⟩ := Jvm.LawKit.callS X C.x (y := y) C.o (mvT C.z w1) (mvT C.z w2) (mvT C.z w3) (mvT C.z w4) hy (backOf (W := W) hM C.z w4 w3 hfr hlo) (g := mkF m pc Ls St) rfl (by rw [C.mx]; exact hLs) (argsL := argsL) (rest := rest) (lenOf hpd hln) hst (by show 2 * 0 + _ ≤ _; omega) (hb C.b hd) (fun _ _ => ⟨rfl, eT, hce, hsl⟩)
  dsimp only [Pt.U, Pt.locs, Pt.cells, Pt.slots] at X' l1 y1 z1 st hQ
  subst l1 y1 z1
  exact Go.via st (kk T' v L X' hQ)
theorem g_callC {y : MethodName} {bytes : ByteArray} {maxL W index : Nat} {rm : Room} {argsL rest : List Value} {ps : List FieldType} {r : Option FieldType} {Qc : Option Value → Heap → List Loc → Prop} (C : Cx Z a0 p s m meth c bs ml own nm rt) (X : Stand p l e R s m args below meth c T locs cells slots)
    (hd : decode bs pc = .ok (.invokespecial index, 3)) (eT : T.heap = h) (hy1 : y.name = "<init>") 
    (w1 : (Jvm.Cond.methodLink own index y).before a0 Z = true) (w2 : (Jvm.Cond.instanceMethod y).before a0 Z = true) (w3 : (Jvm.Cond.initialized y.cls).before a0 Z = true) (w4 : (Jvm.Cond.code y bytes maxL none).before a0 Z = true)
    (hM : MetFree l y (head1 [Jvm.Cond.code y bytes maxL none] rm) (fun a' U => a' = (Value.ref a :: argsL).toArray ∧ Z.Warmed39 U.vm ∧ U.heap = h) (fun _ _ _ _ _ => True) (fun _ U o U' => ∃ v L, o = .returned v ∧ Qc v U'.heap L ∧ FrameEnd U o U' L rm.cells rm.slots))
    (hy : y.cls ≠ "java/lang/invoke/MethodHandle" ∧ y.cls ≠ "java/lang/invoke/VarHandle") (hpd : parseMethodDescriptor y.desc = some ⟨ps, r⟩) (hln : argsL.length = ps.length)
    (hst : St = argsL.reverse ++ .ref a :: rest) (hLs : Ls.size = ml) (hW : (rest.map fun v => v.category).sum ≤ W) (hfr : rm.frames + 1 ≤ R.frames) (hlo : W + (maxL + 11) + rm.locals ≤ R.locals) (hce : cells + rm.cells ≤ R.cells) (hsl : slots + rm.slots ≤ R.slots) (hp : pc + 3 = pc')
    (kk : ∀ T' v L, Stand p l e R s m args below meth c T' (locs ++ L) (cells + rm.cells) (slots + rm.slots) → Qc v T'.heap L → Go p e below s m Q Cc Sc T' pc' Ls (v.toList ++ rest)) : Go p e below s m Q Cc Sc T pc Ls St := by
  subst hp
  obtain ⟨v, _, ⟨T', L', k', n'⟩, -, X', ⟨L, hQ, l1, y1, z1⟩, st⟩ := X.specialBack C.x (y := y) hy1 C.o (mvT C.z w1) (mvT C.z w2) (mvT C.z w4) hy (backOf (W := W) hM C.z w4 w3 hfr hlo) (g := mkF m pc Ls St) rfl (by rw [C.mx]; exact hLs) (Steps.refl _) (a := a) (argsL := argsL) (rest := rest) (lenOf hpd hln) hst (by show 2 * 0 + _ ≤ _; omega) (hb C.b hd) (fun _ _ => ⟨rfl, eT, hce, hsl⟩)
  dsimp only [Pt.U, Pt.locs, Pt.cells, Pt.slots] at X' l1 y1 z1 st hQ
  subst l1 y1 z1
  exact Go.via (fun t q => st.trans q) (kk T' v L X' hQ)
theorem g_callV {y : MethodName} {bytes : ByteArray} {maxL W index : Nat} {ret : Option FieldType} {rm : Room} {argsL rest : List Value} {ps : List FieldType} {r : Option FieldType} {Qc : Option Value → Heap → List Loc → Prop} (C : Cx Z a0 p s m meth c bs ml own nm rt) (X : Stand p l e R s m args below meth c T locs cells slots)
    (hd : decode bs pc = .ok (.invokevirtual index, 3)) (eT : T.heap = h) {K : String} (E : Exa Z h a K) (wd : (Jvm.Cond.declares y).before a0 Z = true) (wn : (Jvm.Cond.selects K y y).before a0 Z = true) 
    (w1 : (Jvm.Cond.methodLink own index y).before a0 Z = true) (w2 : (Jvm.Cond.instanceMethod y).before a0 Z = true) (w3 : (Jvm.Cond.initialized y.cls).before a0 Z = true) (w4 : (Jvm.Cond.code y bytes maxL ret).before a0 Z = true)
    (hM : MetFree l y (head1 [Jvm.Cond.code y bytes maxL ret] rm) (fun a' U => a' = (Value.ref a :: argsL).toArray ∧ Z.Warmed39 U.vm ∧ U.heap = h) (fun _ _ _ _ _ => True) (fun _ U o U' => ∃ v L, o = .returned v ∧ Qc v U'.heap L ∧ FrameEnd U o U' L rm.cells rm.slots))
    (hy : y.cls ≠ "java/lang/invoke/MethodHandle" ∧ y.cls ≠ "java/lang/invoke/VarHandle") (hpd : parseMethodDescriptor y.desc = some ⟨ps, r⟩) (hln : argsL.length = ps.length)
    (hst : St = argsL.reverse ++ .ref a :: rest) (hLs : Ls.size = ml) (hW : (rest.map fun v => v.category).sum ≤ W) (hfr : rm.frames + 1 ≤ R.frames) (hlo : W + (maxL + 11) + rm.locals ≤ R.locals) (hce : cells + rm.cells ≤ R.cells) (hsl : slots + rm.slots ≤ R.slots) (hp : pc + 3 = pc')
    (kk : ∀ T' v L, Stand p l e R s m args below meth c T' (locs ++ L) (cells + rm.cells) (slots + rm.slots) → Qc v T'.heap L → Go p e below s m Q Cc Sc T' pc' Ls (v.toList ++ rest)) : Go p e below s m Q Cc Sc T pc Ls St := by
  subst hp
  obtain ⟨cq, kq, qa, qb, qc⟩ := isOf C.z eT E
  obtain ⟨v, _, ⟨T', L', k', n'⟩, -, X', ⟨L, hQ, l1, y1, z1⟩, st⟩ := X.virtualBack C.x (y := y) (z := y) C.o (mvT C.z w1) (mvT C.z wd) (notFace_of_selects (args := #[]) (mvT C.z wn)) (mvT C.z wn) (mvT C.z w2) hy (backOf (W := W) hM C.z w4 w3 hfr hlo) qa qc (g := mkF m pc Ls St) rfl (by rw [C.mx]; exact hLs) (Steps.refl _) (argsL := argsL) (rest := rest) (lenOf hpd hln) hst (by show 2 * 0 + _ ≤ _; omega) (hb C.b hd) (fun _ _ => ⟨rfl, eT, hce, hsl⟩)
  dsimp only [Pt.U, Pt.locs, Pt.cells, Pt.slots] at X' l1 y1 z1 st hQ
  subst l1 y1 z1
  exact Go.via (fun t q => st.trans q) (kk T' v L X' hQ)
theorem g_getfield {R0 O nf df : String} {index : Nat} {v : Value} (C : Cx Z a0 p s m meth c bs ml own nm rt) (X : Stand p l e R s m args below meth c T locs cells slots) (hd : decode bs pc = .ok (.getfield index, 3)) (eT : T.heap = h) (w : (Jvm.Cond.fieldLink own index R0 nf df).before a0 Z = true) (via : Via Z R0 O nf df) (F : Fld Z h a O nf df v) (hp : pc + 3 = pc')
    (kk : ∀ T', Stand p l e R s m args below meth c T' locs cells slots → T'.heap = h → Go p e below s m Q Cc Sc T' pc' Ls (v :: St)) : Go p e below s m Q Cc Sc T pc Ls (.ref a :: St) := by
  subst hp
  obtain ⟨T', X', e', st⟩ := getF X C.x C.z C.o (host := "") (Or.inl w) via eT F (g := mkF m pc Ls (.ref a :: St)) rfl rfl (hb C.b hd)
  exact Go.via st (kk T' X' e')
theorem g_new {K : String} {index n : Nat} (C : Cx Z a0 p s m meth c bs ml own nm rt) (X : Stand p l e R s m args below meth c T locs cells slots) (hd : decode bs pc = .ok (.new index, 3)) (eT : T.heap = h) (w1 : (Jvm.Cond.classLink own index K).before a0 Z = true) (w2 : (Jvm.Cond.instantiable K n).before a0 Z = true) (w3 : (Jvm.Cond.initialized K).before a0 Z = true) (hc : cells + 1 ≤ R.cells) (hl : slots + n ≤ R.slots) (hp : pc + 3 = pc')
    (kk : ∀ T' h', Stand p l e R s m args below meth c T' locs (cells + 1) (slots + n) → T'.heap = h' → Ext h h' → h.size < h'.size → ∀ a, a = h.size → Exa Z h' a K → (∀ {O nf d : String} {ty : FieldType}, Laid Z a0 K O nf d → parseFieldDescriptor d = some ty → Fld Z h' a O nf d (defaultValue ty)) → Go p e below s m Q Cc Sc T' pc' Ls (.ref a :: St)) : Go p e below s m Q Cc Sc T pc Ls St := by
  subst hp
  obtain ⟨T', h', X', e', E, A, D, -, st⟩ := newO X C.x C.z C.o w1 w2 w3 eT (g := mkF m pc Ls St) rfl (hb C.b hd) hc hl
  exact Go.via st (kk T' h' X' e' E A.lt _ rfl A D)
theorem g_putfield {R0 O nf df K : String} {index kk' : Nat} {ty : FieldType} {v old : Value} (C : Cx Z a0 p s m meth c bs ml own nm rt) (X : Stand p l e R s m args below meth c T locs cells slots) (hd : decode bs pc = .ok (.putfield index, 3)) (eT : T.heap = h) (w : (Jvm.Cond.fieldLink own index R0 nf df).before a0 Z = true) (via : Via Z R0 O nf df) (F : Fld Z h a O nf df old) (E : Exa Z h a K) (L : (Jvm.Cond.lays K O nf df).before a0 Z = true ∨ ((Jvm.Cond.laysFinal K O nf df).before a0 Z = true ∧ own = O ∧ nm = "<init>")) (wi : (Jvm.Cond.instantiable K kk').before a0 Z = true) (hty : parseFieldDescriptor df = some ty) (hn : narrow ty v = v) (hf : fits ty v = true) (hp : pc + 3 = pc')
    (kk : ∀ T' h', Stand p l e R s m args below meth c T' (locs ++ [⟨a, Jvm.RoadKit.slotOf Z O nf df⟩]) cells slots → T'.heap = h' → Wr h h' a (Jvm.RoadKit.slotOf Z O nf df) v → Fld Z h' a O nf df v → Exa Z h' a K → Go p e below s m Q Cc Sc T' pc' Ls St) : Go p e below s m Q Cc Sc T pc Ls (v :: .ref a :: St) := by
  subst hp
  obtain ⟨T', h', X', e', W, st⟩ := putF X C.x C.z C.o (host := "") (Or.inl w) via eT F E (L.imp id fun q => ⟨q.1, q.2.1, by rw [C.n]; exact q.2.2⟩) wi hty hn hf (g := mkF m pc Ls (v :: .ref a :: St)) rfl rfl (hb C.b hd)
  exact Go.via st (kk T' h' X' e' W (F.same W) (E.wr W))
theorem g_initO {idx W : Nat} (C : Cx Z a0 p s m meth c bs ml own nm rt) (X : Stand p l e R s m args below meth c T locs cells slots) (hd : decode bs pc = .ok (.invokespecial idx, 3)) (eT : T.heap = h) (w1 : (Jvm.Cond.methodLink own idx Lib.objectInit).before a0 Z = true) (w2 : (Jvm.Cond.instanceMethod Lib.objectInit).before a0 Z = true) (w3 : (Jvm.Cond.code Lib.objectInit ⟨#[0xb1]⟩ 1 none).before a0 Z = true) (hLs : Ls.size = ml) (hf : 1 ≤ R.frames) (hW : (St.map fun v => v.category).sum ≤ W) (hl : W + 12 ≤ R.locals) (hp : pc + 3 = pc')
    (kk : ∀ T', Stand p l e R s m args below meth c T' locs cells slots → T'.heap = h → Go p e below s m Q Cc Sc T' pc' Ls St) : Go p e below s m Q Cc Sc T pc Ls (.ref a :: St) := by
  subst hp
  obtain ⟨T', X', e', st⟩ := initO X C.x C.z C.o w1 w2 w3 eT (g := mkF m pc Ls (.ref a :: St)) rfl (by rw [C.mx]; exact hLs) rfl (hb C.b hd) hf (W := W) (by show 2 * 0 + _ ≤ _; omega) hl
  exact Go.via st (kk T' X' e')
end Own
/-- numbers -/
theorem own_inj32 {x y : Int32} (h : x.toInt = y.toInt) : x = y := Int32.toInt_inj.mp h
theorem own_inj64 {x y : Int64} (h : x.toInt = y.toInt) : x = y := Int64.toInt_inj.mp h
theorem own_nz32 {x : Int32} (h : 1 ≤ x.toInt) : x ≠ 0 := fun q => by rw [q] at h; revert h; decide
theorem own_nz64 {x : Int64} (h : 1 ≤ x.toInt) : x ≠ 0 := fun q => by rw [q] at h; revert h; decide
abbrev LQ (n0 : Nat) : Option Value → Heap → List Loc → Prop := fun v _ L => v = some (.int 1) ∧ Fr n0 L
theorem d2_0 : decode jdk_30_method_1_code 0 = .ok (.aload_n 0, 1) := by decide +kernel
theorem d2_1 : decode jdk_30_method_1_code 1 = .ok (.invokespecial 1, 3) := by decide +kernel
theorem d2_4 : decode jdk_30_method_1_code 4 = .ok (.return_, 1) := by decide +kernel
theorem pn_2 : plainFor (⟨"java/lang/Record", "<init>", "()V"⟩ : MethodName) = true := plainFor_of_name (by first | (simp [plainName, overriddenIn]; done) | decide +kernel)
theorem pd_2 : parseMethodDescriptor "()V" = some ⟨[], none⟩ := by decide +kernel
theorem ef_2 (x0 : Addr) (m : MethodId) : entryFrame m #[(.ref x0)] 1 = mkF m 0 #[.val (.ref x0)] [] := by first | (simp [entryFrame, mkF, argsToLocals, Value.category]; done) | rfl
theorem d1_0 : decode prog_31_method_1_code 0 = .ok (.aload_n 0, 1) := by decide +kernel
theorem d1_1 : decode prog_31_method_1_code 1 = .ok (.invokespecial 1, 3) := by decide +kernel
theorem d1_4 : decode prog_31_method_1_code 4 = .ok (.aload_n 0, 1) := by decide +kernel
theorem d1_5 : decode prog_31_method_1_code 5 = .ok (.lload_n 1, 1) := by decide +kernel
theorem d1_6 : decode prog_31_method_1_code 6 = .ok (.putfield 7, 3) := by decide +kernel
theorem d1_9 : decode prog_31_method_1_code 9 = .ok (.aload_n 0, 1) := by decide +kernel
theorem d1_10 : decode prog_31_method_1_code 10 = .ok (.lload_n 3, 1) := by decide +kernel
theorem d1_11 : decode prog_31_method_1_code 11 = .ok (.putfield 13, 3) := by decide +kernel
theorem d1_14 : decode prog_31_method_1_code 14 = .ok (.return_, 1) := by decide +kernel
theorem pn_1 : plainFor (⟨"com/example/throtl/throtl/service/TokenBucket", "<init>", "(JJ)V"⟩ : MethodName) = true := plainFor_of_name (by first | (simp [plainName, overriddenIn]; done) | decide +kernel)
theorem pd_1 : parseMethodDescriptor "(JJ)V" = some ⟨[.long, .long], none⟩ := by decide +kernel
theorem ef_1 (x0 : Addr) (x1 : Int64) (x2 : Int64) (m : MethodId) : entryFrame m #[(.ref x0), (.long x1), (.long x2)] 5 = mkF m 0 #[.val (.ref x0), .val (.long x1), .second, .val (.long x2), .second] [] := by first | (simp [entryFrame, mkF, argsToLocals, Value.category]; done) | rfl
theorem d4_0 : decode prog_31_method_10_code 0 = .ok (.aload_n 0, 1) := by decide +kernel
theorem d4_1 : decode prog_31_method_10_code 1 = .ok (.getfield 7, 3) := by decide +kernel
theorem d4_4 : decode prog_31_method_10_code 4 = .ok (.lload_n 1, 1) := by decide +kernel
theorem d4_5 : decode prog_31_method_10_code 5 = .ok (.lsub, 1) := by decide +kernel
theorem d4_6 : decode prog_31_method_10_code 6 = .ok (.aload_n 0, 1) := by decide +kernel
theorem d4_7 : decode prog_31_method_10_code 7 = .ok (.getfield 13, 3) := by decide +kernel
theorem d4_10 : decode prog_31_method_10_code 10 = .ok (.lconst 0, 1) := by decide +kernel
theorem d4_11 : decode prog_31_method_10_code 11 = .ok (.lcmp, 1) := by decide +kernel
theorem d4_12 : decode prog_31_method_10_code 12 = .ok (.ifCond .le 7, 3) := by decide +kernel
theorem d4_15 : decode prog_31_method_10_code 15 = .ok (.iconst 1, 1) := by decide +kernel
theorem d4_16 : decode prog_31_method_10_code 16 = .ok (.goto 4, 3) := by decide +kernel
theorem d4_19 : decode prog_31_method_10_code 19 = .ok (.iconst 0, 1) := by decide +kernel
theorem d4_20 : decode prog_31_method_10_code 20 = .ok (.i2l, 1) := by decide +kernel
theorem d4_21 : decode prog_31_method_10_code 21 = .ok (.ladd, 1) := by decide +kernel
theorem d4_22 : decode prog_31_method_10_code 22 = .ok (.lreturn, 1) := by decide +kernel
theorem pn_4 : plainFor (⟨"com/example/throtl/throtl/service/TokenBucket", "secondsToFullAfter", "(J)J"⟩ : MethodName) = true := plainFor_of_name (by first | (simp [plainName, overriddenIn]; done) | decide +kernel)
theorem pd_4 : parseMethodDescriptor "(J)J" = some ⟨[.long], some .long⟩ := by decide +kernel
theorem ef_4 (x0 : Addr) (x1 : Int64) (m : MethodId) : entryFrame m #[(.ref x0), (.long x1)] 3 = mkF m 0 #[.val (.ref x0), .val (.long x1), .second] [] := by first | (simp [entryFrame, mkF, argsToLocals, Value.category]; done) | rfl
theorem pn_0 : plainFor x = true := plainFor_of_name (by first | (simp [plainName, overriddenIn]; done) | decide +kernel)
theorem pd_0 : parseMethodDescriptor "(JJJ)Z" = some ⟨[.long, .long, .long], some .boolean⟩ := by decide +kernel
theorem ef_0 (x0 : Int64) (x1 : Int64) (x2 : Int64) (m : MethodId) : entryFrame m #[(.long x0), (.long x1), (.long x2)] maxLocals = mkF m 0 #[.val (.long x0), .second, .val (.long x1), .second, .val (.long x2), .second, .unset, .unset, .unset, .unset, .unset, .unset, .unset, .unset, .unset, .unset, .unset, .unset, .unset, .unset] [] := by first | (simp [entryFrame, mkF, argsToLocals, Value.category, maxLocals]; done) | rfl
def Q_rm2 (Z : State) (o : Addr) (h0 : Heap) (n0 : Nat) (v : Option Value) (h : Heap) (L : List Loc) : Prop := v = none ∧ Fr n0 L ∧ h = h0
set_option maxRecDepth 65536 in
set_option maxHeartbeats 40000000 in
theorem rm2 (l : Launch) (Z : State) (a0 : Array Value) (hw : ∀ d ∈ tables_1, d.before a0 Z = true) (ws : List Jvm.Cond) (o : Addr) (h0 : Heap) (n0 : Nat) (Z0 : n0 ≤ h0.size) :
    MetFree l (⟨"java/lang/Record", "<init>", "()V"⟩ : MethodName) (head1 (Jvm.Cond.code (⟨"java/lang/Record", "<init>", "()V"⟩ : MethodName) jdk_30_method_1_code 1 none :: ws) ({ frames := 1, cells := 0, slots := 0, locals := 12 } : Room)) (fun aa U => aa = #[(.ref o)] ∧ Z.Warmed39 U.vm ∧ U.heap = h0) (fun _ _ _ _ _ => True) (fun _ U oo U' => ∃ rv Lr, oo = .returned rv ∧ Q_rm2 Z o h0 n0 rv U'.heap Lr ∧ FrameEnd U oo U' Lr ({ frames := 1, cells := 0, slots := 0, locals := 12 } : Room).cells ({ frames := 1, cells := 0, slots := 0, locals := 12 } : Room).slots) := by
  refine g_enter pn_2 hw (ef_2 o) ?_
  intro p e s m below meth c T0 C X0 e0
  have C : Cx Z a0 p s m meth c jdk_30_method_1_code 1 "java/lang/Record" "<init>" none := C
  have N0 := Fr.nil n0
  refine g_aloadN C X0 d2_0 rfl rfl ?_
  refine g_initO (W := 0) C X0 d2_1 e0 (C.t 11 rfl) (C.t 12 rfl) (C.t 13 rfl) rfl (by decide) (Nat.le_of_eq rfl) (by decide) rfl ?_
  intro T1 X1 e1
  exact g_return C X1 d2_4 rfl ⟨rfl, N0, e1⟩ (by decide) (by decide)
def Q_rm1 (Z : State) (o : Addr) (x1 : Int64) (x2 : Int64) (h0 : Heap) (n0 : Nat) (v : Option Value) (h : Heap) (L : List Loc) : Prop := v = none ∧ Fr n0 L ∧ Keep h0 h [o] ∧ Exa Z h o "com/example/throtl/throtl/service/TokenBucket" ∧ Fld Z h o "com/example/throtl/throtl/service/TokenBucket" "second" "J" (.long x1) ∧ Fld Z h o "com/example/throtl/throtl/service/TokenBucket" "fraction" "J" (.long x2)
set_option maxRecDepth 65536 in
set_option maxHeartbeats 40000000 in
theorem rm1 (l : Launch) (Z : State) (a0 : Array Value) (hw : ∀ d ∈ tables_1, d.before a0 Z = true) (ws : List Jvm.Cond) (o : Addr) (x1 : Int64) (x2 : Int64) (h0 : Heap) (n0 : Nat) (Z0 : n0 ≤ h0.size) (EX : Exa Z h0 o "com/example/throtl/throtl/service/TokenBucket") (D : ∀ {O nf d : String} {ty : FieldType}, Laid Z a0 "com/example/throtl/throtl/service/TokenBucket" O nf d → parseFieldDescriptor d = some ty → Fld Z h0 o O nf d (defaultValue ty)) (ga : n0 ≤ o) :
    MetFree l (⟨"com/example/throtl/throtl/service/TokenBucket", "<init>", "(JJ)V"⟩ : MethodName) (head1 (Jvm.Cond.code (⟨"com/example/throtl/throtl/service/TokenBucket", "<init>", "(JJ)V"⟩ : MethodName) prog_31_method_1_code 5 none :: ws) ({ frames := 2, cells := 0, slots := 0, locals := 24 } : Room)) (fun aa U => aa = #[(.ref o), (.long x1), (.long x2)] ∧ Z.Warmed39 U.vm ∧ U.heap = h0) (fun _ _ _ _ _ => True) (fun _ U oo U' => ∃ rv Lr, oo = .returned rv ∧ Q_rm1 Z o x1 x2 h0 n0 rv U'.heap Lr ∧ FrameEnd U oo U' Lr ({ frames := 2, cells := 0, slots := 0, locals := 24 } : Room).cells ({ frames := 2, cells := 0, slots := 0, locals := 24 } : Room).slots) := by
  refine g_enter pn_1 hw (ef_1 o x1 x2) ?_
  intro p e s m below meth c T0 C X0 e0
  have C : Cx Z a0 p s m meth c prog_31_method_1_code 5 "com/example/throtl/throtl/service/TokenBucket" "<init>" none := C
  have N0 := Fr.nil n0
  have K0 := Keep.refl h0 [o]
  have F_second : Fld Z h0 o "com/example/throtl/throtl/service/TokenBucket" "second" "J" _ := D (Or.inr (C.t 15 rfl)) (ty := .long) (by decide)
  have F_fraction : Fld Z h0 o "com/example/throtl/throtl/service/TokenBucket" "fraction" "J" _ := D (Or.inr (C.t 17 rfl)) (ty := .long) (by decide)
  refine g_aloadN C X0 d1_0 rfl rfl ?_
  refine g_callC (a := o) (argsL := []) (rest := []) (W := 0) C X0 d1_1 e0 rfl (C.t 6 rfl) (C.t 7 rfl) (C.t 9 rfl) (C.t 10 rfl) (rm2 l Z a0 C.w [] o h0 n0 Z0) (by decide) pd_2 rfl rfl rfl (Nat.le_of_eq rfl) (by decide) (by decide) (by decide) (by decide) rfl ?_
  intro T1 v1_ L1 X1 hQ1
  obtain ⟨rfl, N1q, hh1⟩ := hQ1
  have N1 := Fr.app N0 N1q
  refine g_aloadN C X1 d1_4 rfl rfl ?_
  refine g_lloadN C X1 d1_5 rfl rfl ?_
  refine g_putfield C X1 d1_6 hh1 (C.t 14 rfl) Via.refl F_second EX (Or.inr ⟨(C.t 15 rfl), rfl, rfl⟩) (C.t 1 rfl) (ty := .long) (by decide) rfl rfl rfl ?_
  intro T2 h2_ X2 e2 W2 F2_o_second EE2_o
  have N2 := Fr.snoc X2 N1 ga
  have Z2 : n0 ≤ h2_.size := Nat.le_trans Z0 (Keep.of_wr W2).1
  have K2 := K0.wr W2 (Or.inl (List.mem_of_getElem? (i := 0) rfl))
  have F2_o_fraction := F_fraction.other W2 (Or.inr (slot_ne (Or.inr (C.t 17 rfl)) (Or.inr (C.t 15 rfl)) (by decide) (t := .long) (t' := .long) (by decide) (by decide)))
  refine g_aloadN C X2 d1_9 rfl rfl ?_
  refine g_lloadN C X2 d1_10 rfl rfl ?_
  refine g_putfield C X2 d1_11 e2 (C.t 16 rfl) Via.refl F2_o_fraction EE2_o (Or.inr ⟨(C.t 17 rfl), rfl, rfl⟩) (C.t 1 rfl) (ty := .long) (by decide) rfl rfl rfl ?_
  intro T3 h3_ X3 e3 W3 F3_o_fraction EE3_o
  have N3 := Fr.snoc X3 N2 ga
  have Z3 : n0 ≤ h3_.size := Nat.le_trans Z2 (Keep.of_wr W3).1
  have K3 := K2.wr W3 (Or.inl (List.mem_of_getElem? (i := 0) rfl))
  have F3_o_second := F2_o_second.other W3 (Or.inr (slot_ne (Or.inr (C.t 15 rfl)) (Or.inr (C.t 17 rfl)) (by decide) (t := .long) (t' := .long) (by decide) (by decide)))
  exact g_return C X3 d1_14 rfl (by rw [e3]; exact ⟨rfl, N3, K3, EE3_o, F3_o_second, F3_o_fraction⟩) (by decide) (by decide)
def Q_rm4 (Z : State) (o : Addr) (x1 : Int64) (sc : Int64) (fr : Int64) (h0 : Heap) (n0 : Nat) (v : Option Value) (h : Heap) (L : List Loc) : Prop := (∃ r : Int64, v = some (.long r) ∧ (0 < fr.toInt ∧ r = (sc - x1) + (1 : Int32).toInt64 ∨ fr.toInt ≤ 0 ∧ r = (sc - x1) + (0 : Int32).toInt64)) ∧ Fr n0 L ∧ h = h0
set_option maxRecDepth 65536 in
set_option maxHeartbeats 40000000 in
theorem rm4 (l : Launch) (Z : State) (a0 : Array Value) (hw : ∀ d ∈ tables_1, d.before a0 Z = true) (ws : List Jvm.Cond) (o : Addr) (x1 : Int64) (sc fr : Int64) (h0 : Heap) (n0 : Nat) (Z0 : n0 ≤ h0.size) (F1 : Fld Z h0 o "com/example/throtl/throtl/service/TokenBucket" "second" "J" (.long sc)) (F2 : Fld Z h0 o "com/example/throtl/throtl/service/TokenBucket" "fraction" "J" (.long fr)) :
    MetFree l (⟨"com/example/throtl/throtl/service/TokenBucket", "secondsToFullAfter", "(J)J"⟩ : MethodName) (head1 (Jvm.Cond.code (⟨"com/example/throtl/throtl/service/TokenBucket", "secondsToFullAfter", "(J)J"⟩ : MethodName) prog_31_method_10_code 3 (some .long) :: ws) ({ frames := 0, cells := 0, slots := 0, locals := 0 } : Room)) (fun aa U => aa = #[(.ref o), (.long x1)] ∧ Z.Warmed39 U.vm ∧ U.heap = h0) (fun _ _ _ _ _ => True) (fun _ U oo U' => ∃ rv Lr, oo = .returned rv ∧ Q_rm4 Z o x1 sc fr h0 n0 rv U'.heap Lr ∧ FrameEnd U oo U' Lr ({ frames := 0, cells := 0, slots := 0, locals := 0 } : Room).cells ({ frames := 0, cells := 0, slots := 0, locals := 0 } : Room).slots) := by
  refine g_enter pn_4 hw (ef_4 o x1) ?_
  intro p e s m below meth c T0 C X0 e0
  have C : Cx Z a0 p s m meth c prog_31_method_10_code 3 "com/example/throtl/throtl/service/TokenBucket" "secondsToFullAfter" (some .long) := C
  have N0 := Fr.nil n0
  refine g_aloadN C X0 d4_0 rfl rfl ?_
  refine g_getfield C X0 d4_1 e0 (C.t 14 rfl) Via.refl F1 rfl ?_
  intro T1 X1 e1
  refine g_lloadN C X1 d4_4 rfl rfl ?_
  refine g_lsub C X1 d4_5 rfl ?_
  refine g_aloadN C X1 d4_6 rfl rfl ?_
  refine g_getfield C X1 d4_7 e1 (C.t 16 rfl) Via.refl F2 rfl ?_
  intro T2 X2 e2
  refine g_lconst C X2 (0 : Int64) d4_10 rfl rfl ?_
  refine g_lcmpif C X2 d4_11 rfl d4_12 (by decide) rfl rfl ?_ ?_
  · intro h12
    have h12 : fr.toInt ≤ 0 := h12
    refine g_iconst C X2 (0 : Int32) d4_19 rfl rfl ?_
    refine g_i2l C X2 d4_20 rfl ?_
    refine g_ladd C X2 d4_21 rfl ?_
    exact g_lreturn C X2 d4_22 rfl ⟨⟨_, rfl, by first | exact Or.inl ⟨h12, rfl⟩ | exact Or.inr ⟨h12, rfl⟩⟩, N0, e2⟩ (by decide) (by decide)
  · intro h12
    have h12 : fr.toInt > 0 := h12
    refine g_iconst C X2 (1 : Int32) d4_15 rfl rfl ?_
    refine g_goto C X2 d4_16 (by decide) rfl ?_
    refine g_i2l C X2 d4_20 rfl ?_
    refine g_ladd C X2 d4_21 rfl ?_
    exact g_lreturn C X2 d4_22 rfl ⟨⟨_, rfl, by first | exact Or.inl ⟨h12, rfl⟩ | exact Or.inr ⟨h12, rfl⟩⟩, N0, e2⟩ (by decide) (by decide)
set_option maxRecDepth 65536 in
set_option maxHeartbeats 40000000 in
theorem seg58 {p : Program} {l : Launch} {e : Env} {s : State} {m : MethodId} {args : Array Value} {below : List Frame} {meth : Method} {c : Code} {T0 : State} {locs : List Loc} {Z : State} {a0 : Array Value} {h0 : Heap} {n0 : Nat} {x0 x1 x2 t sc fr r : Int64}
    (C : Cx Z a0 p s m meth c code maxLocals "com/example/throtl/throtl/service/TokenBucketSecondsToFullAfterPinLaw" "law" ret) (X0 : Stand p l e room_1 s m args below meth c T0 locs 1 2) (e0 : T0.heap = h0) (N0 : Fr n0 locs) (Z0 : n0 ≤ h0.size) (b1 : 0 ≤ fr.toInt) (b2 : -4503599627370496 ≤ t.toInt) (b3 : t.toInt < 4503599627370496) (b4 : t.toInt ≤ sc.toInt) (b5 : sc.toInt < 18014398509481984) (br : 0 < fr.toInt ∧ r = (sc - t) + (1 : Int32).toInt64 ∨ fr.toInt ≤ 0 ∧ r = (sc - t) + (0 : Int32).toInt64) :
    Go p e below s m (LQ n0) room_1.cells room_1.slots T0 58 #[.val (.long x0), .second, .val (.long x1), .second, .val (.long x2), .second, .val (.long t), .second, .val (.long sc), .second, .val (.long fr), .second, .unset, .unset, .unset, .unset, .unset, .unset, .unset, .unset] [(.long r)] := by
  have br' : 0 < fr.toInt ∧ r.toInt = sc.toInt - t.toInt + 1 ∨ fr.toInt ≤ 0 ∧ r.toInt = sc.toInt - t.toInt := by
    have q1 := c_lsub sc t
    have r1 := rng64 (sc - t)
    have q2 := c_ladd (sc - t) (1 : Int32).toInt64
    have q3 := c_ladd (sc - t) (0 : Int32).toInt64
    have r2 := rng64 ((sc - t) + (1 : Int32).toInt64)
    have r3 := rng64 ((sc - t) + (0 : Int32).toInt64)
    rw [show (1 : Int32).toInt64.toInt = 1 by decide] at q2
    rw [show (0 : Int32).toInt64.toInt = 0 by decide] at q3
    rcases br with ⟨u, v⟩ | ⟨u, v⟩
    · left; refine ⟨u, ?_⟩; rw [v]; omega
    · right; refine ⟨u, ?_⟩; rw [v]; omega
  clear br
  refine g_lstore C X0 at_58 #[.val (.long x0), .second, .val (.long x1), .second, .val (.long x2), .second, .val (.long t), .second, .val (.long sc), .second, .val (.long fr), .second, .val (.long r), .second, .unset, .unset, .unset, .unset, .unset, .unset] rfl rfl ?_
  refine g_lload C X0 at_60 rfl rfl ?_
  refine g_lload C X0 at_62 rfl rfl ?_
  refine g_ladd C X0 at_64 rfl ?_
  refine g_lstoreV C X0 at_65 (fun v__ => #[.val (.long x0), .second, .val (.long x1), .second, .val (.long x2), .second, .val (.long t), .second, .val (.long sc), .second, .val (.long fr), .second, .val (.long r), .second, .val (.long v__), .second, .unset, .unset, .unset, .unset]) rfl rfl ?_
  intro v65 h_v65
  have q1 := c_ladd t r
  have r1 := rng64 (t + r)
  rw [← h_v65] at q1 r1
  have q2 : v65.toInt = t.toInt + r.toInt := by omega
  refine g_lload C X0 at_67 rfl rfl ?_
  refine g_lload C X0 at_69 rfl rfl ?_
  refine g_lcmpif C X0 at_71 rfl at_72 (by decide) rfl rfl ?_ ?_
  · intro h72
    have h72 : v65.toInt > sc.toInt := h72
    refine g_iconst C X0 (1 : Int32) at_90 rfl rfl ?_
    refine g_goto C X0 at_91 (by decide) rfl ?_
    refine g_istore C X0 at_95 #[.val (.long x0), .second, .val (.long x1), .second, .val (.long x2), .second, .val (.long t), .second, .val (.long sc), .second, .val (.long fr), .second, .val (.long r), .second, .val (.long v65), .second, .val (.int (1 : Int32)), .unset, .unset, .unset] rfl rfl ?_
    refine g_lload C X0 at_97 rfl rfl ?_
    refine g_lconst C X0 (1 : Int64) at_99 rfl rfl ?_
    refine g_lsub C X0 at_100 rfl ?_
    refine g_lstoreV C X0 at_101 (fun v__ => #[.val (.long x0), .second, .val (.long x1), .second, .val (.long x2), .second, .val (.long t), .second, .val (.long sc), .second, .val (.long fr), .second, .val (.long r), .second, .val (.long v65), .second, .val (.int (1 : Int32)), .val (.long v__), .second, .unset]) rfl rfl ?_
    intro v101 h_v101
    have q3 := c_lsub v65 (1 : Int64)
    rw [show (1 : Int64).toInt = 1 by decide, ← h_v101] at q3
    have r3 := rng64 v101
    have q4 : v101.toInt = v65.toInt - 1 := by omega
    refine g_lload C X0 at_103 rfl rfl ?_
    refine g_lload C X0 at_105 rfl rfl ?_
    refine g_lcmpif C X0 at_107 rfl at_108 (by decide) rfl rfl ?_ ?_
    · intro h108
      have h108 : v101.toInt < sc.toInt := h108
      refine g_iconst C X0 (1 : Int32) at_126 rfl rfl ?_
      refine g_goto C X0 at_127 (by decide) rfl ?_
      refine g_istore C X0 at_131 #[.val (.long x0), .second, .val (.long x1), .second, .val (.long x2), .second, .val (.long t), .second, .val (.long sc), .second, .val (.long fr), .second, .val (.long r), .second, .val (.long v65), .second, .val (.int (1 : Int32)), .val (.long v101), .second, .val (.int (1 : Int32))] rfl rfl ?_
      refine g_lload C X0 at_133 rfl rfl ?_
      refine g_lconst C X0 (0 : Int64) at_135 rfl rfl ?_
      refine g_lcmpif C X0 at_136 rfl at_137 (by decide) rfl rfl ?_ ?_
      · intro h137
        have h137 : r.toInt < 0 := h137
        refine g_iconst C X0 (0 : Int32) at_154 rfl rfl ?_
        exfalso; omega
      · intro h137
        have h137 : r.toInt ≥ 0 := h137
        refine g_iload C X0 at_140 rfl rfl ?_
        refine g_if C X0 at_142 (by decide) rfl rfl ?_ ?_
        · intro h142
          have h142 : (1 : Int) = 0 := h142
          exact absurd h142 (by decide)
        · intro h142
          have h142 : ¬ (1 : Int) = 0 := h142
          refine g_iload C X0 at_145 rfl rfl ?_
          refine g_if C X0 at_147 (by decide) rfl rfl ?_ ?_
          · intro h147
            have h147 : (1 : Int) = 0 := h147
            exact absurd h147 (by decide)
          · intro h147
            have h147 : ¬ (1 : Int) = 0 := h147
            refine g_iconst C X0 (1 : Int32) at_150 rfl rfl ?_
            refine g_goto C X0 at_151 (by decide) rfl ?_
            exact g_ireturnN C X0 at_155 rfl (Or.inl rfl) ⟨rfl, N0⟩ (by decide) (by decide)
    · intro h108
      have h108 : v101.toInt ≥ sc.toInt := h108
      refine g_lload C X0 at_111 rfl rfl ?_
      refine g_lload C X0 at_113 rfl rfl ?_
      refine g_lcmpif C X0 at_115 rfl at_116 (by decide) rfl rfl ?_ ?_
      · intro h116
        have h116 : ¬ v101.toInt = sc.toInt := h116
        refine g_iconst C X0 (0 : Int32) at_130 rfl rfl ?_
        refine g_istore C X0 at_131 #[.val (.long x0), .second, .val (.long x1), .second, .val (.long x2), .second, .val (.long t), .second, .val (.long sc), .second, .val (.long fr), .second, .val (.long r), .second, .val (.long v65), .second, .val (.int (1 : Int32)), .val (.long v101), .second, .val (.int (0 : Int32))] rfl rfl ?_
        refine g_lload C X0 at_133 rfl rfl ?_
        refine g_lconst C X0 (0 : Int64) at_135 rfl rfl ?_
        refine g_lcmpif C X0 at_136 rfl at_137 (by decide) rfl rfl ?_ ?_
        · intro h137
          have h137 : r.toInt < 0 := h137
          refine g_iconst C X0 (0 : Int32) at_154 rfl rfl ?_
          exfalso; omega
        · intro h137
          have h137 : r.toInt ≥ 0 := h137
          refine g_iload C X0 at_140 rfl rfl ?_
          refine g_if C X0 at_142 (by decide) rfl rfl ?_ ?_
          · intro h142
            have h142 : (1 : Int) = 0 := h142
            exact absurd h142 (by decide)
          · intro h142
            have h142 : ¬ (1 : Int) = 0 := h142
            refine g_iload C X0 at_145 rfl rfl ?_
            refine g_if C X0 at_147 (by decide) rfl rfl ?_ ?_
            · intro h147
              have h147 : (0 : Int) = 0 := h147
              refine g_iconst C X0 (0 : Int32) at_154 rfl rfl ?_
              exfalso; omega
            · intro h147
              have h147 : ¬ (0 : Int) = 0 := h147
              exact absurd h147 (by decide)
      · intro h116
        have h116 : v101.toInt = sc.toInt := h116
        refine g_lload C X0 at_119 rfl rfl ?_
        refine g_lconst C X0 (0 : Int64) at_121 rfl rfl ?_
        refine g_lcmpif C X0 at_122 rfl at_123 (by decide) rfl rfl ?_ ?_
        · intro h123
          have h123 : fr.toInt ≤ 0 := h123
          refine g_iconst C X0 (0 : Int32) at_130 rfl rfl ?_
          refine g_istore C X0 at_131 #[.val (.long x0), .second, .val (.long x1), .second, .val (.long x2), .second, .val (.long t), .second, .val (.long sc), .second, .val (.long fr), .second, .val (.long r), .second, .val (.long v65), .second, .val (.int (1 : Int32)), .val (.long v101), .second, .val (.int (0 : Int32))] rfl rfl ?_
          refine g_lload C X0 at_133 rfl rfl ?_
          refine g_lconst C X0 (0 : Int64) at_135 rfl rfl ?_
          refine g_lcmpif C X0 at_136 rfl at_137 (by decide) rfl rfl ?_ ?_
          · intro h137
            have h137 : r.toInt < 0 := h137
            refine g_iconst C X0 (0 : Int32) at_154 rfl rfl ?_
            exfalso; omega
          · intro h137
            have h137 : r.toInt ≥ 0 := h137
            refine g_iload C X0 at_140 rfl rfl ?_
            refine g_if C X0 at_142 (by decide) rfl rfl ?_ ?_
            · intro h142
              have h142 : (1 : Int) = 0 := h142
              exact absurd h142 (by decide)
            · intro h142
              have h142 : ¬ (1 : Int) = 0 := h142
              refine g_iload C X0 at_145 rfl rfl ?_
              refine g_if C X0 at_147 (by decide) rfl rfl ?_ ?_
              · intro h147
                have h147 : (0 : Int) = 0 := h147
                refine g_iconst C X0 (0 : Int32) at_154 rfl rfl ?_
                exfalso; omega
              · intro h147
                have h147 : ¬ (0 : Int) = 0 := h147
                exact absurd h147 (by decide)
        · intro h123
          have h123 : fr.toInt > 0 := h123
          refine g_iconst C X0 (1 : Int32) at_126 rfl rfl ?_
          refine g_goto C X0 at_127 (by decide) rfl ?_
          refine g_istore C X0 at_131 #[.val (.long x0), .second, .val (.long x1), .second, .val (.long x2), .second, .val (.long t), .second, .val (.long sc), .second, .val (.long fr), .second, .val (.long r), .second, .val (.long v65), .second, .val (.int (1 : Int32)), .val (.long v101), .second, .val (.int (1 : Int32))] rfl rfl ?_
          refine g_lload C X0 at_133 rfl rfl ?_
          refine g_lconst C X0 (0 : Int64) at_135 rfl rfl ?_
          refine g_lcmpif C X0 at_136 rfl at_137 (by decide) rfl rfl ?_ ?_
          · intro h137
            have h137 : r.toInt < 0 := h137
            refine g_iconst C X0 (0 : Int32) at_154 rfl rfl ?_
            exfalso; omega
          · intro h137
            have h137 : r.toInt ≥ 0 := h137
            refine g_iload C X0 at_140 rfl rfl ?_
            refine g_if C X0 at_142 (by decide) rfl rfl ?_ ?_
            · intro h142
              have h142 : (1 : Int) = 0 := h142
              exact absurd h142 (by decide)
            · intro h142
              have h142 : ¬ (1 : Int) = 0 := h142
              refine g_iload C X0 at_145 rfl rfl ?_
              refine g_if C X0 at_147 (by decide) rfl rfl ?_ ?_
              · intro h147
                have h147 : (1 : Int) = 0 := h147
                exact absurd h147 (by decide)
              · intro h147
                have h147 : ¬ (1 : Int) = 0 := h147
                refine g_iconst C X0 (1 : Int32) at_150 rfl rfl ?_
                refine g_goto C X0 at_151 (by decide) rfl ?_
                exact g_ireturnN C X0 at_155 rfl (Or.inl rfl) ⟨rfl, N0⟩ (by decide) (by decide)
  · intro h72
    have h72 : v65.toInt ≤ sc.toInt := h72
    refine g_lload C X0 at_75 rfl rfl ?_
    refine g_lload C X0 at_77 rfl rfl ?_
    refine g_lcmpif C X0 at_79 rfl at_80 (by decide) rfl rfl ?_ ?_
    · intro h80
      have h80 : ¬ v65.toInt = sc.toInt := h80
      refine g_iconst C X0 (0 : Int32) at_94 rfl rfl ?_
      refine g_istore C X0 at_95 #[.val (.long x0), .second, .val (.long x1), .second, .val (.long x2), .second, .val (.long t), .second, .val (.long sc), .second, .val (.long fr), .second, .val (.long r), .second, .val (.long v65), .second, .val (.int (0 : Int32)), .unset, .unset, .unset] rfl rfl ?_
      refine g_lload C X0 at_97 rfl rfl ?_
      refine g_lconst C X0 (1 : Int64) at_99 rfl rfl ?_
      refine g_lsub C X0 at_100 rfl ?_
      refine g_lstoreV C X0 at_101 (fun v__ => #[.val (.long x0), .second, .val (.long x1), .second, .val (.long x2), .second, .val (.long t), .second, .val (.long sc), .second, .val (.long fr), .second, .val (.long r), .second, .val (.long v65), .second, .val (.int (0 : Int32)), .val (.long v__), .second, .unset]) rfl rfl ?_
      intro v101 h_v101
      have q3 := c_lsub v65 (1 : Int64)
      rw [show (1 : Int64).toInt = 1 by decide, ← h_v101] at q3
      have r3 := rng64 v101
      have q4 : v101.toInt = v65.toInt - 1 := by omega
      refine g_lload C X0 at_103 rfl rfl ?_
      refine g_lload C X0 at_105 rfl rfl ?_
      refine g_lcmpif C X0 at_107 rfl at_108 (by decide) rfl rfl ?_ ?_
      · intro h108
        have h108 : v101.toInt < sc.toInt := h108
        refine g_iconst C X0 (1 : Int32) at_126 rfl rfl ?_
        refine g_goto C X0 at_127 (by decide) rfl ?_
        refine g_istore C X0 at_131 #[.val (.long x0), .second, .val (.long x1), .second, .val (.long x2), .second, .val (.long t), .second, .val (.long sc), .second, .val (.long fr), .second, .val (.long r), .second, .val (.long v65), .second, .val (.int (0 : Int32)), .val (.long v101), .second, .val (.int (1 : Int32))] rfl rfl ?_
        refine g_lload C X0 at_133 rfl rfl ?_
        refine g_lconst C X0 (0 : Int64) at_135 rfl rfl ?_
        refine g_lcmpif C X0 at_136 rfl at_137 (by decide) rfl rfl ?_ ?_
        · intro h137
          have h137 : r.toInt < 0 := h137
          refine g_iconst C X0 (0 : Int32) at_154 rfl rfl ?_
          exfalso; omega
        · intro h137
          have h137 : r.toInt ≥ 0 := h137
          refine g_iload C X0 at_140 rfl rfl ?_
          refine g_if C X0 at_142 (by decide) rfl rfl ?_ ?_
          · intro h142
            have h142 : (0 : Int) = 0 := h142
            refine g_iconst C X0 (0 : Int32) at_154 rfl rfl ?_
            exfalso; omega
          · intro h142
            have h142 : ¬ (0 : Int) = 0 := h142
            exact absurd h142 (by decide)
      · intro h108
        have h108 : v101.toInt ≥ sc.toInt := h108
        refine g_lload C X0 at_111 rfl rfl ?_
        refine g_lload C X0 at_113 rfl rfl ?_
        refine g_lcmpif C X0 at_115 rfl at_116 (by decide) rfl rfl ?_ ?_
        · intro h116
          have h116 : ¬ v101.toInt = sc.toInt := h116
          refine g_iconst C X0 (0 : Int32) at_130 rfl rfl ?_
          refine g_istore C X0 at_131 #[.val (.long x0), .second, .val (.long x1), .second, .val (.long x2), .second, .val (.long t), .second, .val (.long sc), .second, .val (.long fr), .second, .val (.long r), .second, .val (.long v65), .second, .val (.int (0 : Int32)), .val (.long v101), .second, .val (.int (0 : Int32))] rfl rfl ?_
          refine g_lload C X0 at_133 rfl rfl ?_
          refine g_lconst C X0 (0 : Int64) at_135 rfl rfl ?_
          refine g_lcmpif C X0 at_136 rfl at_137 (by decide) rfl rfl ?_ ?_
          · intro h137
            have h137 : r.toInt < 0 := h137
            refine g_iconst C X0 (0 : Int32) at_154 rfl rfl ?_
            exfalso; omega
          · intro h137
            have h137 : r.toInt ≥ 0 := h137
            refine g_iload C X0 at_140 rfl rfl ?_
            refine g_if C X0 at_142 (by decide) rfl rfl ?_ ?_
            · intro h142
              have h142 : (0 : Int) = 0 := h142
              refine g_iconst C X0 (0 : Int32) at_154 rfl rfl ?_
              exfalso; omega
            · intro h142
              have h142 : ¬ (0 : Int) = 0 := h142
              exact absurd h142 (by decide)
        · intro h116
          have h116 : v101.toInt = sc.toInt := h116
          refine g_lload C X0 at_119 rfl rfl ?_
          refine g_lconst C X0 (0 : Int64) at_121 rfl rfl ?_
          refine g_lcmpif C X0 at_122 rfl at_123 (by decide) rfl rfl ?_ ?_
          · intro h123
            have h123 : fr.toInt ≤ 0 := h123
            refine g_iconst C X0 (0 : Int32) at_130 rfl rfl ?_
            refine g_istore C X0 at_131 #[.val (.long x0), .second, .val (.long x1), .second, .val (.long x2), .second, .val (.long t), .second, .val (.long sc), .second, .val (.long fr), .second, .val (.long r), .second, .val (.long v65), .second, .val (.int (0 : Int32)), .val (.long v101), .second, .val (.int (0 : Int32))] rfl rfl ?_
            refine g_lload C X0 at_133 rfl rfl ?_
            refine g_lconst C X0 (0 : Int64) at_135 rfl rfl ?_
            refine g_lcmpif C X0 at_136 rfl at_137 (by decide) rfl rfl ?_ ?_
            · intro h137
              have h137 : r.toInt < 0 := h137
              refine g_iconst C X0 (0 : Int32) at_154 rfl rfl ?_
              exfalso; omega
            · intro h137
              have h137 : r.toInt ≥ 0 := h137
              refine g_iload C X0 at_140 rfl rfl ?_
              refine g_if C X0 at_142 (by decide) rfl rfl ?_ ?_
              · intro h142
                have h142 : (0 : Int) = 0 := h142
                refine g_iconst C X0 (0 : Int32) at_154 rfl rfl ?_
                exfalso; omega
              · intro h142
                have h142 : ¬ (0 : Int) = 0 := h142
                exact absurd h142 (by decide)
          · intro h123
            have h123 : fr.toInt > 0 := h123
            refine g_iconst C X0 (1 : Int32) at_126 rfl rfl ?_
            refine g_goto C X0 at_127 (by decide) rfl ?_
            refine g_istore C X0 at_131 #[.val (.long x0), .second, .val (.long x1), .second, .val (.long x2), .second, .val (.long t), .second, .val (.long sc), .second, .val (.long fr), .second, .val (.long r), .second, .val (.long v65), .second, .val (.int (0 : Int32)), .val (.long v101), .second, .val (.int (1 : Int32))] rfl rfl ?_
            refine g_lload C X0 at_133 rfl rfl ?_
            refine g_lconst C X0 (0 : Int64) at_135 rfl rfl ?_
            refine g_lcmpif C X0 at_136 rfl at_137 (by decide) rfl rfl ?_ ?_
            · intro h137
              have h137 : r.toInt < 0 := h137
              refine g_iconst C X0 (0 : Int32) at_154 rfl rfl ?_
              exfalso; omega
            · intro h137
              have h137 : r.toInt ≥ 0 := h137
              refine g_iload C X0 at_140 rfl rfl ?_
              refine g_if C X0 at_142 (by decide) rfl rfl ?_ ?_
              · intro h142
                have h142 : (0 : Int) = 0 := h142
                refine g_iconst C X0 (0 : Int32) at_154 rfl rfl ?_
                exfalso; omega
              · intro h142
                have h142 : ¬ (0 : Int) = 0 := h142
                exact absurd h142 (by decide)
    · intro h80
      have h80 : v65.toInt = sc.toInt := h80
      refine g_lload C X0 at_83 rfl rfl ?_
      refine g_lconst C X0 (0 : Int64) at_85 rfl rfl ?_
      refine g_lcmpif C X0 at_86 rfl at_87 (by decide) rfl rfl ?_ ?_
      · intro h87
        have h87 : ¬ fr.toInt = 0 := h87
        refine g_iconst C X0 (0 : Int32) at_94 rfl rfl ?_
        refine g_istore C X0 at_95 #[.val (.long x0), .second, .val (.long x1), .second, .val (.long x2), .second, .val (.long t), .second, .val (.long sc), .second, .val (.long fr), .second, .val (.long r), .second, .val (.long v65), .second, .val (.int (0 : Int32)), .unset, .unset, .unset] rfl rfl ?_
        refine g_lload C X0 at_97 rfl rfl ?_
        refine g_lconst C X0 (1 : Int64) at_99 rfl rfl ?_
        refine g_lsub C X0 at_100 rfl ?_
        refine g_lstoreV C X0 at_101 (fun v__ => #[.val (.long x0), .second, .val (.long x1), .second, .val (.long x2), .second, .val (.long t), .second, .val (.long sc), .second, .val (.long fr), .second, .val (.long r), .second, .val (.long v65), .second, .val (.int (0 : Int32)), .val (.long v__), .second, .unset]) rfl rfl ?_
        intro v101 h_v101
        have q3 := c_lsub v65 (1 : Int64)
        rw [show (1 : Int64).toInt = 1 by decide, ← h_v101] at q3
        have r3 := rng64 v101
        have q4 : v101.toInt = v65.toInt - 1 := by omega
        refine g_lload C X0 at_103 rfl rfl ?_
        refine g_lload C X0 at_105 rfl rfl ?_
        refine g_lcmpif C X0 at_107 rfl at_108 (by decide) rfl rfl ?_ ?_
        · intro h108
          have h108 : v101.toInt < sc.toInt := h108
          refine g_iconst C X0 (1 : Int32) at_126 rfl rfl ?_
          refine g_goto C X0 at_127 (by decide) rfl ?_
          refine g_istore C X0 at_131 #[.val (.long x0), .second, .val (.long x1), .second, .val (.long x2), .second, .val (.long t), .second, .val (.long sc), .second, .val (.long fr), .second, .val (.long r), .second, .val (.long v65), .second, .val (.int (0 : Int32)), .val (.long v101), .second, .val (.int (1 : Int32))] rfl rfl ?_
          refine g_lload C X0 at_133 rfl rfl ?_
          refine g_lconst C X0 (0 : Int64) at_135 rfl rfl ?_
          refine g_lcmpif C X0 at_136 rfl at_137 (by decide) rfl rfl ?_ ?_
          · intro h137
            have h137 : r.toInt < 0 := h137
            refine g_iconst C X0 (0 : Int32) at_154 rfl rfl ?_
            exfalso; omega
          · intro h137
            have h137 : r.toInt ≥ 0 := h137
            refine g_iload C X0 at_140 rfl rfl ?_
            refine g_if C X0 at_142 (by decide) rfl rfl ?_ ?_
            · intro h142
              have h142 : (0 : Int) = 0 := h142
              refine g_iconst C X0 (0 : Int32) at_154 rfl rfl ?_
              exfalso; omega
            · intro h142
              have h142 : ¬ (0 : Int) = 0 := h142
              exact absurd h142 (by decide)
        · intro h108
          have h108 : v101.toInt ≥ sc.toInt := h108
          refine g_lload C X0 at_111 rfl rfl ?_
          refine g_lload C X0 at_113 rfl rfl ?_
          refine g_lcmpif C X0 at_115 rfl at_116 (by decide) rfl rfl ?_ ?_
          · intro h116
            have h116 : ¬ v101.toInt = sc.toInt := h116
            refine g_iconst C X0 (0 : Int32) at_130 rfl rfl ?_
            refine g_istore C X0 at_131 #[.val (.long x0), .second, .val (.long x1), .second, .val (.long x2), .second, .val (.long t), .second, .val (.long sc), .second, .val (.long fr), .second, .val (.long r), .second, .val (.long v65), .second, .val (.int (0 : Int32)), .val (.long v101), .second, .val (.int (0 : Int32))] rfl rfl ?_
            refine g_lload C X0 at_133 rfl rfl ?_
            refine g_lconst C X0 (0 : Int64) at_135 rfl rfl ?_
            refine g_lcmpif C X0 at_136 rfl at_137 (by decide) rfl rfl ?_ ?_
            · intro h137
              have h137 : r.toInt < 0 := h137
              refine g_iconst C X0 (0 : Int32) at_154 rfl rfl ?_
              exfalso; omega
            · intro h137
              have h137 : r.toInt ≥ 0 := h137
              refine g_iload C X0 at_140 rfl rfl ?_
              refine g_if C X0 at_142 (by decide) rfl rfl ?_ ?_
              · intro h142
                have h142 : (0 : Int) = 0 := h142
                refine g_iconst C X0 (0 : Int32) at_154 rfl rfl ?_
                exfalso; omega
              · intro h142
                have h142 : ¬ (0 : Int) = 0 := h142
                exact absurd h142 (by decide)
          · intro h116
            have h116 : v101.toInt = sc.toInt := h116
            refine g_lload C X0 at_119 rfl rfl ?_
            refine g_lconst C X0 (0 : Int64) at_121 rfl rfl ?_
            refine g_lcmpif C X0 at_122 rfl at_123 (by decide) rfl rfl ?_ ?_
            · intro h123
              have h123 : fr.toInt ≤ 0 := h123
              refine g_iconst C X0 (0 : Int32) at_130 rfl rfl ?_
              refine g_istore C X0 at_131 #[.val (.long x0), .second, .val (.long x1), .second, .val (.long x2), .second, .val (.long t), .second, .val (.long sc), .second, .val (.long fr), .second, .val (.long r), .second, .val (.long v65), .second, .val (.int (0 : Int32)), .val (.long v101), .second, .val (.int (0 : Int32))] rfl rfl ?_
              refine g_lload C X0 at_133 rfl rfl ?_
              refine g_lconst C X0 (0 : Int64) at_135 rfl rfl ?_
              refine g_lcmpif C X0 at_136 rfl at_137 (by decide) rfl rfl ?_ ?_
              · intro h137
                have h137 : r.toInt < 0 := h137
                refine g_iconst C X0 (0 : Int32) at_154 rfl rfl ?_
                exfalso; omega
              · intro h137
                have h137 : r.toInt ≥ 0 := h137
                refine g_iload C X0 at_140 rfl rfl ?_
                refine g_if C X0 at_142 (by decide) rfl rfl ?_ ?_
                · intro h142
                  have h142 : (0 : Int) = 0 := h142
                  refine g_iconst C X0 (0 : Int32) at_154 rfl rfl ?_
                  exfalso; omega
                · intro h142
                  have h142 : ¬ (0 : Int) = 0 := h142
                  exact absurd h142 (by decide)
            · intro h123
              have h123 : fr.toInt > 0 := h123
              refine g_iconst C X0 (1 : Int32) at_126 rfl rfl ?_
              refine g_goto C X0 at_127 (by decide) rfl ?_
              refine g_istore C X0 at_131 #[.val (.long x0), .second, .val (.long x1), .second, .val (.long x2), .second, .val (.long t), .second, .val (.long sc), .second, .val (.long fr), .second, .val (.long r), .second, .val (.long v65), .second, .val (.int (0 : Int32)), .val (.long v101), .second, .val (.int (1 : Int32))] rfl rfl ?_
              refine g_lload C X0 at_133 rfl rfl ?_
              refine g_lconst C X0 (0 : Int64) at_135 rfl rfl ?_
              refine g_lcmpif C X0 at_136 rfl at_137 (by decide) rfl rfl ?_ ?_
              · intro h137
                have h137 : r.toInt < 0 := h137
                refine g_iconst C X0 (0 : Int32) at_154 rfl rfl ?_
                exfalso; omega
              · intro h137
                have h137 : r.toInt ≥ 0 := h137
                refine g_iload C X0 at_140 rfl rfl ?_
                refine g_if C X0 at_142 (by decide) rfl rfl ?_ ?_
                · intro h142
                  have h142 : (0 : Int) = 0 := h142
                  refine g_iconst C X0 (0 : Int32) at_154 rfl rfl ?_
                  exfalso; omega
                · intro h142
                  have h142 : ¬ (0 : Int) = 0 := h142
                  exact absurd h142 (by decide)
      · intro h87
        have h87 : fr.toInt = 0 := h87
        refine g_iconst C X0 (1 : Int32) at_90 rfl rfl ?_
        refine g_goto C X0 at_91 (by decide) rfl ?_
        refine g_istore C X0 at_95 #[.val (.long x0), .second, .val (.long x1), .second, .val (.long x2), .second, .val (.long t), .second, .val (.long sc), .second, .val (.long fr), .second, .val (.long r), .second, .val (.long v65), .second, .val (.int (1 : Int32)), .unset, .unset, .unset] rfl rfl ?_
        refine g_lload C X0 at_97 rfl rfl ?_
        refine g_lconst C X0 (1 : Int64) at_99 rfl rfl ?_
        refine g_lsub C X0 at_100 rfl ?_
        refine g_lstoreV C X0 at_101 (fun v__ => #[.val (.long x0), .second, .val (.long x1), .second, .val (.long x2), .second, .val (.long t), .second, .val (.long sc), .second, .val (.long fr), .second, .val (.long r), .second, .val (.long v65), .second, .val (.int (1 : Int32)), .val (.long v__), .second, .unset]) rfl rfl ?_
        intro v101 h_v101
        have q3 := c_lsub v65 (1 : Int64)
        rw [show (1 : Int64).toInt = 1 by decide, ← h_v101] at q3
        have r3 := rng64 v101
        have q4 : v101.toInt = v65.toInt - 1 := by omega
        refine g_lload C X0 at_103 rfl rfl ?_
        refine g_lload C X0 at_105 rfl rfl ?_
        refine g_lcmpif C X0 at_107 rfl at_108 (by decide) rfl rfl ?_ ?_
        · intro h108
          have h108 : v101.toInt < sc.toInt := h108
          refine g_iconst C X0 (1 : Int32) at_126 rfl rfl ?_
          refine g_goto C X0 at_127 (by decide) rfl ?_
          refine g_istore C X0 at_131 #[.val (.long x0), .second, .val (.long x1), .second, .val (.long x2), .second, .val (.long t), .second, .val (.long sc), .second, .val (.long fr), .second, .val (.long r), .second, .val (.long v65), .second, .val (.int (1 : Int32)), .val (.long v101), .second, .val (.int (1 : Int32))] rfl rfl ?_
          refine g_lload C X0 at_133 rfl rfl ?_
          refine g_lconst C X0 (0 : Int64) at_135 rfl rfl ?_
          refine g_lcmpif C X0 at_136 rfl at_137 (by decide) rfl rfl ?_ ?_
          · intro h137
            have h137 : r.toInt < 0 := h137
            refine g_iconst C X0 (0 : Int32) at_154 rfl rfl ?_
            exfalso; omega
          · intro h137
            have h137 : r.toInt ≥ 0 := h137
            refine g_iload C X0 at_140 rfl rfl ?_
            refine g_if C X0 at_142 (by decide) rfl rfl ?_ ?_
            · intro h142
              have h142 : (1 : Int) = 0 := h142
              exact absurd h142 (by decide)
            · intro h142
              have h142 : ¬ (1 : Int) = 0 := h142
              refine g_iload C X0 at_145 rfl rfl ?_
              refine g_if C X0 at_147 (by decide) rfl rfl ?_ ?_
              · intro h147
                have h147 : (1 : Int) = 0 := h147
                exact absurd h147 (by decide)
              · intro h147
                have h147 : ¬ (1 : Int) = 0 := h147
                refine g_iconst C X0 (1 : Int32) at_150 rfl rfl ?_
                refine g_goto C X0 at_151 (by decide) rfl ?_
                exact g_ireturnN C X0 at_155 rfl (Or.inl rfl) ⟨rfl, N0⟩ (by decide) (by decide)
        · intro h108
          have h108 : v101.toInt ≥ sc.toInt := h108
          refine g_lload C X0 at_111 rfl rfl ?_
          refine g_lload C X0 at_113 rfl rfl ?_
          refine g_lcmpif C X0 at_115 rfl at_116 (by decide) rfl rfl ?_ ?_
          · intro h116
            have h116 : ¬ v101.toInt = sc.toInt := h116
            refine g_iconst C X0 (0 : Int32) at_130 rfl rfl ?_
            refine g_istore C X0 at_131 #[.val (.long x0), .second, .val (.long x1), .second, .val (.long x2), .second, .val (.long t), .second, .val (.long sc), .second, .val (.long fr), .second, .val (.long r), .second, .val (.long v65), .second, .val (.int (1 : Int32)), .val (.long v101), .second, .val (.int (0 : Int32))] rfl rfl ?_
            refine g_lload C X0 at_133 rfl rfl ?_
            refine g_lconst C X0 (0 : Int64) at_135 rfl rfl ?_
            refine g_lcmpif C X0 at_136 rfl at_137 (by decide) rfl rfl ?_ ?_
            · intro h137
              have h137 : r.toInt < 0 := h137
              refine g_iconst C X0 (0 : Int32) at_154 rfl rfl ?_
              exfalso; omega
            · intro h137
              have h137 : r.toInt ≥ 0 := h137
              refine g_iload C X0 at_140 rfl rfl ?_
              refine g_if C X0 at_142 (by decide) rfl rfl ?_ ?_
              · intro h142
                have h142 : (1 : Int) = 0 := h142
                exact absurd h142 (by decide)
              · intro h142
                have h142 : ¬ (1 : Int) = 0 := h142
                refine g_iload C X0 at_145 rfl rfl ?_
                refine g_if C X0 at_147 (by decide) rfl rfl ?_ ?_
                · intro h147
                  have h147 : (0 : Int) = 0 := h147
                  refine g_iconst C X0 (0 : Int32) at_154 rfl rfl ?_
                  exfalso; omega
                · intro h147
                  have h147 : ¬ (0 : Int) = 0 := h147
                  exact absurd h147 (by decide)
          · intro h116
            have h116 : v101.toInt = sc.toInt := h116
            refine g_lload C X0 at_119 rfl rfl ?_
            refine g_lconst C X0 (0 : Int64) at_121 rfl rfl ?_
            refine g_lcmpif C X0 at_122 rfl at_123 (by decide) rfl rfl ?_ ?_
            · intro h123
              have h123 : fr.toInt ≤ 0 := h123
              refine g_iconst C X0 (0 : Int32) at_130 rfl rfl ?_
              refine g_istore C X0 at_131 #[.val (.long x0), .second, .val (.long x1), .second, .val (.long x2), .second, .val (.long t), .second, .val (.long sc), .second, .val (.long fr), .second, .val (.long r), .second, .val (.long v65), .second, .val (.int (1 : Int32)), .val (.long v101), .second, .val (.int (0 : Int32))] rfl rfl ?_
              refine g_lload C X0 at_133 rfl rfl ?_
              refine g_lconst C X0 (0 : Int64) at_135 rfl rfl ?_
              refine g_lcmpif C X0 at_136 rfl at_137 (by decide) rfl rfl ?_ ?_
              · intro h137
                have h137 : r.toInt < 0 := h137
                refine g_iconst C X0 (0 : Int32) at_154 rfl rfl ?_
                exfalso; omega
              · intro h137
                have h137 : r.toInt ≥ 0 := h137
                refine g_iload C X0 at_140 rfl rfl ?_
                refine g_if C X0 at_142 (by decide) rfl rfl ?_ ?_
                · intro h142
                  have h142 : (1 : Int) = 0 := h142
                  exact absurd h142 (by decide)
                · intro h142
                  have h142 : ¬ (1 : Int) = 0 := h142
                  refine g_iload C X0 at_145 rfl rfl ?_
                  refine g_if C X0 at_147 (by decide) rfl rfl ?_ ?_
                  · intro h147
                    have h147 : (0 : Int) = 0 := h147
                    refine g_iconst C X0 (0 : Int32) at_154 rfl rfl ?_
                    exfalso; omega
                  · intro h147
                    have h147 : ¬ (0 : Int) = 0 := h147
                    exact absurd h147 (by decide)
            · intro h123
              have h123 : fr.toInt > 0 := h123
              refine g_iconst C X0 (1 : Int32) at_126 rfl rfl ?_
              refine g_goto C X0 at_127 (by decide) rfl ?_
              refine g_istore C X0 at_131 #[.val (.long x0), .second, .val (.long x1), .second, .val (.long x2), .second, .val (.long t), .second, .val (.long sc), .second, .val (.long fr), .second, .val (.long r), .second, .val (.long v65), .second, .val (.int (1 : Int32)), .val (.long v101), .second, .val (.int (1 : Int32))] rfl rfl ?_
              refine g_lload C X0 at_133 rfl rfl ?_
              refine g_lconst C X0 (0 : Int64) at_135 rfl rfl ?_
              refine g_lcmpif C X0 at_136 rfl at_137 (by decide) rfl rfl ?_ ?_
              · intro h137
                have h137 : r.toInt < 0 := h137
                refine g_iconst C X0 (0 : Int32) at_154 rfl rfl ?_
                exfalso; omega
              · intro h137
                have h137 : r.toInt ≥ 0 := h137
                refine g_iload C X0 at_140 rfl rfl ?_
                refine g_if C X0 at_142 (by decide) rfl rfl ?_ ?_
                · intro h142
                  have h142 : (1 : Int) = 0 := h142
                  exact absurd h142 (by decide)
                · intro h142
                  have h142 : ¬ (1 : Int) = 0 := h142
                  refine g_iload C X0 at_145 rfl rfl ?_
                  refine g_if C X0 at_147 (by decide) rfl rfl ?_ ?_
                  · intro h147
                    have h147 : (1 : Int) = 0 := h147
                    exact absurd h147 (by decide)
                  · intro h147
                    have h147 : ¬ (1 : Int) = 0 := h147
                    refine g_iconst C X0 (1 : Int32) at_150 rfl rfl ?_
                    refine g_goto C X0 at_151 (by decide) rfl ?_
                    exact g_ireturnN C X0 at_155 rfl (Or.inl rfl) ⟨rfl, N0⟩ (by decide) (by decide)
set_option maxRecDepth 65536 in
set_option maxHeartbeats 40000000 in
theorem seg40 {p : Program} {l : Launch} {e : Env} {s : State} {m : MethodId} {args : Array Value} {below : List Frame} {meth : Method} {c : Code} {T0 : State} {locs : List Loc} {Z : State} {a0 : Array Value} {h0 : Heap} {n0 : Nat} {x0 x1 x2 t sc fr : Int64}
    (C : Cx Z a0 p s m meth c code maxLocals "com/example/throtl/throtl/service/TokenBucketSecondsToFullAfterPinLaw" "law" ret) (X0 : Stand p l e room_1 s m args below meth c T0 locs 0 0) (e0 : T0.heap = h0) (N0 : Fr n0 locs) (Z0 : n0 ≤ h0.size) (b1 : 0 ≤ fr.toInt) (b2 : -4503599627370496 ≤ t.toInt) (b3 : t.toInt < 4503599627370496) (b4 : t.toInt ≤ sc.toInt) (b5 : sc.toInt < 18014398509481984) :
    Go p e below s m (LQ n0) room_1.cells room_1.slots T0 40 #[.val (.long x0), .second, .val (.long x1), .second, .val (.long x2), .second, .val (.long t), .second, .val (.long sc), .second, .unset, .unset, .unset, .unset, .unset, .unset, .unset, .unset, .unset, .unset] [(.long fr)] := by
  refine g_lstore C X0 at_40 #[.val (.long x0), .second, .val (.long x1), .second, .val (.long x2), .second, .val (.long t), .second, .val (.long sc), .second, .val (.long fr), .second, .unset, .unset, .unset, .unset, .unset, .unset, .unset, .unset] rfl rfl ?_
  refine g_new C X0 at_42 e0 (C.t 0 rfl) (C.t 1 rfl) (C.t 2 rfl) (by decide) (by decide) rfl ?_
  intro T1 h1_ X1 e1 E1 lt1 ad1 ha1 EX1 D1
  have Z1 : n0 ≤ h1_.size := Nat.le_trans Z0 E1.1
  have g_ad1 : n0 ≤ ad1 := by omega
  refine g_dup C X1 at_45 rfl rfl ?_
  refine g_lload C X1 at_46 rfl rfl ?_
  refine g_lload C X1 at_48 rfl rfl ?_
  refine g_callC (a := ad1) (argsL := [(.long sc), (.long fr)]) (rest := [(.ref ad1)]) (W := 1) C X1 at_50 e1 rfl (C.t 3 rfl) (C.t 4 rfl) (C.t 2 rfl) (C.t 5 rfl) (rm1 l Z a0 C.w [] ad1 sc fr h1_ n0 Z1 EX1 D1 g_ad1 ) (by decide) pd_1 rfl rfl rfl (Nat.le_of_eq rfl) (by decide) (by decide) (by decide) (by decide) rfl ?_
  intro T2 v2_ L2 X2 hQ2
  obtain ⟨rfl, N2q, K2, EY2, Fc2_second, Fc2_fraction⟩ := hQ2
  have N2 := Fr.app N0 N2q
  have Z2 : n0 ≤ T2.heap.size := Nat.le_trans Z1 K2.1
  refine g_lload C X2 at_53 rfl rfl ?_
  refine g_callV (a := ad1) (argsL := [(.long t)]) (rest := []) (W := 0) C X2 at_55 rfl EY2 (C.t 19 rfl) (C.t 21 rfl) (C.t 18 rfl) (C.t 20 rfl) (C.t 2 rfl) (C.t 22 rfl) (rm4 l Z a0 C.w [] ad1 t sc fr T2.heap n0 Z2 Fc2_second Fc2_fraction) (by decide) pd_4 rfl rfl rfl (Nat.le_of_eq rfl) (by decide) (by decide) (by decide) (by decide) rfl ?_
  intro T3 v3_ L3 X3 hQ3
  obtain ⟨⟨r3, rfl, hr3⟩, N3q, hh3⟩ := hQ3
  have N3 := Fr.app N2 N3q
  exact seg58 C X3 hh3 N3 Z2 b1 b2 b3 b4 b5 hr3
set_option maxRecDepth 65536 in
set_option maxHeartbeats 40000000 in
theorem rm0 (l : Launch) (Z : State) (a0 : Array Value) (hw : ∀ d ∈ tables_1, d.before a0 Z = true) (ws : List Jvm.Cond) (x0 : Int64) (x1 : Int64) (x2 : Int64) (h0 : Heap) (n0 : Nat) (Z0 : n0 ≤ h0.size) :
    MetFree l x (head1 (Jvm.Cond.code x code maxLocals ret :: ws) room_1) (fun aa U => aa = #[(.long x0), (.long x1), (.long x2)] ∧ Z.Warmed39 U.vm ∧ U.heap = h0) (fun _ _ _ _ _ => True) (fun _ U oo U' => ∃ rv Lr, oo = .returned rv ∧ LQ n0 rv U'.heap Lr ∧ FrameEnd U oo U' Lr room_1.cells room_1.slots) := by
  refine g_enter pn_0 hw (ef_0 x0 x1 x2) ?_
  intro p e s m below meth c T0 C X0 e0
  have C : Cx Z a0 p s m meth c code maxLocals "com/example/throtl/throtl/service/TokenBucketSecondsToFullAfterPinLaw" "law" ret := C
  have N0 := Fr.nil n0
  refine g_lloadN C X0 at_0 rfl rfl ?_
  refine g_bipush C X0 (11 : Int32) at_1 rfl rfl ?_
  refine g_lshr C X0 at_3 rfl ?_
  refine g_lstoreV C X0 at_4 (fun v__ => #[.val (.long x0), .second, .val (.long x1), .second, .val (.long x2), .second, .val (.long v__), .second, .unset, .unset, .unset, .unset, .unset, .unset, .unset, .unset, .unset, .unset, .unset, .unset]) rfl rfl ?_
  intro v4 h_v4
  have q1 := c_lshr x0 (11 : Int32) 11 (by decide)
  rw [← h_v4] at q1
  have r0 := rng64 x0
  have b : -4503599627370496 ≤ v4.toInt ∧ v4.toInt < 4503599627370496 := by rw [q1]; omega
  refine g_lload C X0 at_6 rfl rfl ?_
  refine g_lloadN C X0 at_8 rfl rfl ?_
  refine g_bipush C X0 (11 : Int32) at_9 rfl rfl ?_
  refine g_lushr C X0 at_11 rfl ?_
  refine g_ladd C X0 at_12 rfl ?_
  refine g_lstoreV C X0 at_13 (fun v__ => #[.val (.long x0), .second, .val (.long x1), .second, .val (.long x2), .second, .val (.long v4), .second, .val (.long v__), .second, .unset, .unset, .unset, .unset, .unset, .unset, .unset, .unset, .unset, .unset]) rfl rfl ?_
  intro v13 h_v13
  have q2 := c_lushr x1 (11 : Int32) 11 (by decide) (by decide)
  have q3 := c_ladd v4 ((x1.toUInt64 >>> ((11 : Int32) &&& 0x3f).toInt64.toUInt64).toInt64)
  rw [← h_v13, q2] at q3
  have r3 := rng64 v13
  refine g_lload C X0 at_15 rfl rfl ?_
  refine g_lconst C X0 (1 : Int64) at_17 rfl rfl ?_
  refine g_land C X0 at_18 rfl ?_
  refine g_lconst C X0 (0 : Int64) at_19 rfl rfl ?_
  refine g_lcmpif C X0 at_20 rfl at_21 (by decide) rfl rfl ?_ ?_
  · intro h21
    have h21 : ¬ (x2 &&& (1 : Int64)).toInt = 0 := h21
    refine g_lload C X0 at_28 rfl rfl ?_
    refine g_iconst C X0 (1 : Int32) at_30 rfl rfl ?_
    refine g_lushr C X0 at_31 rfl ?_
    refine g_ldcL C X0 at_32 (C.t 23 rfl) rfl ?_
    refine g_land C X0 at_35 rfl ?_
    refine g_ldcL C X0 at_36 (C.t 24 rfl) rfl ?_
    refine g_lrem C X0 at_39 (by decide) rfl ?_
    have q5 := c_maskL ((x2.toUInt64 >>> ((1 : Int32) &&& 0x3f).toInt64.toUInt64).toInt64) (2147483647 : Int64) 31 (by decide) (by decide)
    have q6 : 0 ≤ ((((x2.toUInt64 >>> ((1 : Int32) &&& 0x3f).toInt64.toUInt64).toInt64) &&& (2147483647 : Int64)) % (1000000000 : Int64)).toInt := by
      rw [Int64.toInt_mod, q5, Int.tmod_eq_emod_of_nonneg (by omega)]
      exact Int.emod_nonneg _ (by decide)
    exact seg40 C X0 e0 N0 Z0 q6 (by omega) (by omega) (by omega) (by omega)
  · intro h21
    have h21 : (x2 &&& (1 : Int64)).toInt = 0 := h21
    refine g_lconst C X0 (0 : Int64) at_24 rfl rfl ?_
    refine g_goto C X0 at_25 (by decide) rfl ?_
    exact seg40 C X0 e0 N0 Z0 (by decide) (by omega) (by omega) (by omega) (by omega)
set_option maxRecDepth 65536 in
set_option maxHeartbeats 40000000 in
theorem comes_1 {Post : Tables → Env → Array Value → State → Outcome → State → Prop} (hpost : ∀ tb e args s v u, (limb_1_1.after args s (.returned v) u = true ∧ limb_1_2.after args s (.returned v) u = true ∧ True) → FrameEnd s (.returned v) u (Jvm.fieldLocs frame_1_writes args s ++ Jvm.arrayLocs frame_1_arrays args s ++ Jvm.staticLocs frame_1_statics s) 16 128 → Post tb e args s (.returned v) u) :
    ArmFor flags0 classFile x code maxLocals ret World_1 tables_1 room_1 Calls_1 rest_1 Pre_1 Post := by
  intro l hfl _ _ p e ha hc hk s m args below hf hA hF happ hP
  obtain ⟨hcalls, hrest, hpre⟩ := hP
  obtain ⟨-, -, -, hnamed, -, -, -, hat⟩ := (Spec.applies_iff hf).mp happ
  obtain ⟨hg, hn⟩ := and_e (Cond.before_iff.mp (show (Jvm.Cond.and given_1 narrow_1).before args s = true from hpre))
  obtain ⟨q0, g0⟩ := and_e hg
  obtain ⟨q1, g1⟩ := and_e g0
  obtain ⟨q2, g2⟩ := and_e g1
  have q3 := g2
  obtain ⟨w0, w1, w2, rfl⟩ : ∃ w0 w1 w2 : Value, args = #[w0, w1, w2] := by
    have hs : args.size = 3 := by simpa [Cond.value, given_1] using q0
    obtain ⟨L⟩ := args
    match L, hs with
    | [w0, w1, w2], _ => exact ⟨w0, w1, w2, rfl⟩
  have hw := fun d (hd : d ∈ tables_1) => atoms_spec (ws := Jvm.Cond.code x code maxLocals ret :: tables_1) hat d (List.mem_cons_of_mem _ hd)
  obtain ⟨i0, ei0⟩ := isL_v q1
  obtain rfl : w0 = (.long i0) := Option.some.inj ei0
  obtain ⟨i1, ei1⟩ := isL_v q2
  obtain rfl : w1 = (.long i1) := Option.some.inj ei1
  obtain ⟨i2, ei2⟩ := isL_v q3
  obtain rfl : w2 = (.long i2) := Option.some.inj ei2
  obtain ⟨n, o, h1, h2, h3, _, L, rfl, ⟨rfl, N⟩, hq⟩ := rm0 l s _ hw tables_1 i0 i1 i2 s.heap s.heap.size (Nat.le_refl _) p e ha hc hk s m _ below hf ((Spec.applies_iff_loose hf).mp happ).1 ⟨rfl, State.Warmed39.refl s, rfl⟩ trivial
  refine ⟨n, _, h1, h2, h3, hpost _ _ _ _ _ _ ⟨Cond.after_iff.mpr rfl, Cond.after_iff.mpr (eq_i res_at (Term.int_eval (1)) rfl), trivial⟩ ⟨hq.1, hq.2.1, (hq.2.2.sift fun y hy => Or.inr (N y hy)).mono (by decide) (by decide)⟩⟩
theorem main_1_1 : Claimed_1_1 := comes_1 fun _ _ _ _ _ _ h hF => ⟨h.1, hF⟩
theorem main_1_2 : Claimed_1_2 := comes_1 fun _ _ _ _ _ _ h hF => ⟨h.2.1, hF⟩
end Jvm.Pilot.@@N@@
namespace Jvm.Pilot.@@N@@
open Jvm Jvm.ClassFile Sem Op Lib Jvm.Free Jvm.Stand Jvm.Pilot.@@N@@.Jvm.D
/-! MADE BY PROGRAM (witnessworld.py) out of the Statement's table words and the real class files: 10 classes; the members and pool entries that the words name. The judged class is class 1, her method 1. -/
namespace start1
open Jvm.ClassFile
def u (s : String) : CpInfo := .utf8 (stringToUtf16 s)
/-- a pool by its gaps: so many unusable entries, then the entry; so many at the end -/
def gap : Nat → List CpInfo → List CpInfo
  | 0, r => r
  | n + 1, r => .unusable :: gap n r
def poolList (es : List (Nat × CpInfo)) (last : Nat) : List CpInfo := es.foldr (fun e r => gap e.1 (e.2 :: r)) (gap last [])
def pool (es : List (Nat × CpInfo)) (last : Nat) : Array CpInfo := ⟨poolList es last⟩
def fileOf (pool : Array CpInfo) (this : Nat) (attrs : Array Attribute := #[]) (ms : Array MethodInfo := #[]) (fl : Nat := 33) (sup : Nat := 0) (ifs : Array Nat := #[]) (fds : Array FieldInfo := #[]) : ClassFile where
  minorVersion := 0
  majorVersion := 65
  constantPool := pool
  accessFlags := fl
  thisClass := this
  superClass := sup
  interfaces := ifs
  fields := fds
  methods := ms
  attributes := attrs
def plain (name : String) (sup : Option ClassId) : Class where
  name := name
  kind := .ordinary
  loader := none
  accessFlags := 33
  super := sup
  interfaces := #[]
  cf := none
  fields := #[]
  methods := #[]
  instanceTypes := #[]
  staticTypes := #[]
  resolved := #[]
  callSites := []
  init := .initialized
  statics := none
  mirror := none

def pool0 : Array CpInfo := pool [(5, u "<init>"), (0, u "()V"), (1, .class_ 10), (1, u "java/lang/Object")] 113

def k0c0 : Code := { maxStack := 0, maxLocals := 1, code := object_method_1_code, exceptionTable := #[], attributes := #[] }
def k0m0 : Method := { name := "<init>", desc := "()V", sig := { parameters := [], returnType := none }, accessFlags := 1, code := some k0c0 }
/-- java/lang/Object -/
def k0 : Class := { plain "java/lang/Object" none with
  accessFlags := 33
  interfaces := #[]
  cf := some (fileOf pool0 8 #[] #[{ accessFlags := 1, nameIndex := 5, descriptorIndex := 6, attributes := #[] }] 33 0 #[] #[])
  fields := #[]
  methods := #[k0m0]
  instanceTypes := #[]
  staticTypes := #[]
  resolved := Array.replicate 124 none
  statics := none }

def pool1 : Array CpInfo := pool [(2, .class_ 4), (1, u "java/lang/Object"), (0, u "<init>"), (0, u "()V"), (0, .long 2147483647), (1, .long 1000000000), (1, .class_ 12), (0, u "com/example/throtl/throtl/service/TokenBucket"), (0, .methodref 11 14), (0, .nameAndType 5 15), (0, u "(JJ)V"), (0, .methodref 11 17), (0, .nameAndType 18 19), (0, u "secondsToFullAfter"), (0, u "(J)J"), (0, .class_ 21), (0, u "com/example/throtl/throtl/service/TokenBucketSecondsToFullAfterPinLaw"), (2, u "law"), (0, u "(JJJ)Z")] 3

def k1m0 : Method := { name := "<init>", desc := "()V", sig := { parameters := [], returnType := none }, accessFlags := 1, code := none }
def k1c1 : Code := { maxStack := 6, maxLocals := 20, code := code, exceptionTable := #[], attributes := #[] }
def k1m1 : Method := { name := "law", desc := "(JJJ)Z", sig := { parameters := [.long, .long, .long], returnType := some .boolean }, accessFlags := 9, code := some k1c1 }
/-- com/example/throtl/throtl/service/TokenBucketSecondsToFullAfterPinLaw -/
def k1 : Class := { plain "com/example/throtl/throtl/service/TokenBucketSecondsToFullAfterPinLaw" (some 0) with
  accessFlags := 49
  interfaces := #[]
  cf := some (fileOf pool1 20 #[] #[{ accessFlags := 1, nameIndex := 5, descriptorIndex := 6, attributes := #[] }, { accessFlags := 9, nameIndex := 24, descriptorIndex := 25, attributes := #[] }] 49 2 #[] #[])
  fields := #[]
  methods := #[k1m0, k1m1]
  instanceTypes := #[]
  staticTypes := #[]
  resolved := Array.replicate 29 none
  statics := none }

def pool2 : Array CpInfo := pool [(1, .methodref 2 3), (0, .class_ 4), (0, .nameAndType 5 6), (0, u "java/lang/Object"), (0, u "<init>"), (0, u "()V"), (0, .class_ 8), (0, u "java/lang/Record")] 13

def k2c0 : Code := { maxStack := 1, maxLocals := 1, code := jdk_30_method_1_code, exceptionTable := #[], attributes := #[] }
def k2m0 : Method := { name := "<init>", desc := "()V", sig := { parameters := [], returnType := none }, accessFlags := 4, code := some k2c0 }
/-- java/lang/Record -/
def k2 : Class := { plain "java/lang/Record" (some 0) with
  accessFlags := 1057
  interfaces := #[]
  cf := some (fileOf pool2 7 #[] #[{ accessFlags := 4, nameIndex := 5, descriptorIndex := 6, attributes := #[] }] 1057 2 #[] #[])
  fields := #[]
  methods := #[k2m0]
  instanceTypes := #[]
  staticTypes := #[]
  resolved := Array.replicate 22 none
  statics := none }

def pool3 : Array CpInfo := pool [(1, .methodref 2 3), (0, .class_ 4), (0, .nameAndType 5 6), (0, u "java/lang/Record"), (0, u "<init>"), (0, u "()V"), (0, .fieldref 8 9), (0, .class_ 10), (0, .nameAndType 11 12), (0, u "com/example/throtl/throtl/service/TokenBucket"), (0, u "second"), (0, u "J"), (0, .fieldref 8 14), (0, .nameAndType 15 12), (0, u "fraction"), (15, u "(JJ)V"), (47, u "secondsToFullAfter"), (0, u "(J)J"), (21, u "MAX_SECONDS")] 46

def k3c0 : Code := { maxStack := 3, maxLocals := 5, code := prog_31_method_1_code, exceptionTable := #[], attributes := #[] }
def k3m0 : Method := { name := "<init>", desc := "(JJ)V", sig := { parameters := [.long, .long], returnType := none }, accessFlags := 0, code := some k3c0 }
def k3c1 : Code := { maxStack := 6, maxLocals := 3, code := prog_31_method_10_code, exceptionTable := #[], attributes := #[] }
def k3m1 : Method := { name := "secondsToFullAfter", desc := "(J)J", sig := { parameters := [.long], returnType := some .long }, accessFlags := 0, code := some k3c1 }
/-- com/example/throtl/throtl/service/TokenBucket -/
def k3 : Class := { plain "com/example/throtl/throtl/service/TokenBucket" (some 2) with
  accessFlags := 48
  interfaces := #[]
  cf := some (fileOf pool3 8 #[] #[{ accessFlags := 0, nameIndex := 5, descriptorIndex := 31, attributes := #[] }, { accessFlags := 0, nameIndex := 79, descriptorIndex := 80, attributes := #[] }] 48 2 #[] #[{ accessFlags := 18, nameIndex := 11, descriptorIndex := 12, attributes := #[] }, { accessFlags := 18, nameIndex := 15, descriptorIndex := 12, attributes := #[] }, { accessFlags := 24, nameIndex := 102, descriptorIndex := 12, attributes := #[] }])
  fields := #[{ name := "second", type := .long, accessFlags := 18, slot := 0, constantValue := 0 }, { name := "fraction", type := .long, accessFlags := 18, slot := 1, constantValue := 0 }, { name := "MAX_SECONDS", type := .long, accessFlags := 24, slot := 0, constantValue := 0 }]
  methods := #[k3m0, k3m1]
  instanceTypes := #[.long, .long]
  staticTypes := #[.long]
  resolved := Array.replicate 149 none
  statics := none }

def pool4 : Array CpInfo := pool [(1, u "java/lang/Cloneable"), (0, .class_ 1), (0, u "java/lang/Object"), (0, .class_ 3)] 3

/-- java/lang/Cloneable -/
def k4 : Class := { plain "java/lang/Cloneable" (some 0) with
  accessFlags := 1537
  interfaces := #[]
  cf := some (fileOf pool4 2 #[] #[] 1537 4 #[] #[])
  fields := #[]
  methods := #[]
  instanceTypes := #[]
  staticTypes := #[]
  resolved := Array.replicate 8 none
  statics := none }

def pool5 : Array CpInfo := pool [(1, u "java/io/Serializable"), (0, .class_ 1), (0, u "java/lang/Object"), (0, .class_ 3)] 3

/-- java/io/Serializable -/
def k5 : Class := { plain "java/io/Serializable" (some 0) with
  accessFlags := 1537
  interfaces := #[]
  cf := some (fileOf pool5 2 #[] #[] 1537 4 #[] #[])
  fields := #[]
  methods := #[]
  instanceTypes := #[]
  staticTypes := #[]
  resolved := Array.replicate 8 none
  statics := none }

/-- the primitive byte -/
def k6 : Class := { plain "byte" none with kind := .primitive 'B', accessFlags := 0x411 }
/-- [B -/
def k7 : Class := { plain "[B" (some 0) with kind := .array 6 .byte, interfaces := #[4, 5], accessFlags := 1041 }

/-- the primitive int -/
def k8 : Class := { plain "int" none with kind := .primitive 'I', accessFlags := 0x411 }
/-- [I -/
def k9 : Class := { plain "[I" (some 0) with kind := .array 8 .int, interfaces := #[4, 5], accessFlags := 1041 }

def heap : Heap := #[]
def classes : Array Class := #[k0, k1, k2, k3, k4, k5, k6, k7, k8, k9]
def interned : List (Array UInt16 × Addr) := []
def slotsUsed : Nat := 0
def theMethod : MethodId := ⟨1, 1⟩
def args0 : Array Value := #[.long 5, .long 7, .long 3]
def aboutOver (below : List Frame) : State where
  vm := { classes := classes, interned := interned.toArray }
  heap := heap
  slotsUsed := slotsUsed
  threads := #[{ frames := .invoking theMethod args0 :: below }]
def below0 : List Frame := [.native { method := ⟨0, 0⟩, args := #[] }]
def about1 : State := aboutOver below0
def p0 : Program := .bare "" "" ""
def e0 : Env := launch0.env 0 0 0
theorem w_frames : about1.frames = Frame.invoking theMethod args0 :: below0 := rfl
set_option maxRecDepth 65536 in
theorem w_args : argsFit about1.vm theMethod args0 = true := by decide +kernel
set_option maxRecDepth 65536 in
theorem w_heap : heapFits about1 = true := by decide +kernel
set_option maxRecDepth 65536 in
theorem w_runnable : about1.curStatus? = some .runnable := by decide +kernel
set_option maxRecDepth 65536 in
theorem w_alone : about1.alone = true := by decide +kernel
set_option maxRecDepth 65536 in
theorem w_named : about1.methodNamed? x = some theMethod := by decide +kernel
set_option maxRecDepth 65536 in
theorem w_hears : about1.hears theMethod below0 = true := by decide +kernel
set_option maxRecDepth 65536 in
theorem w_ripe : about1.ripe theMethod args0 below0 = true := by decide +kernel
theorem w_running : about1.status = .running := rfl
set_option maxRecDepth 65536 in
theorem w_room : about1.hasRoom e0.platform room_1 = true :=
  launch0.hasRoom_least _ room_1 (by decide +kernel) (by decide +kernel) (by decide +kernel) (by decide +kernel) (by decide +kernel) (by decide +kernel)
theorem allAtoms_all (ts : List Jvm.Cond) (a : Array Jvm.Value) (st : Jvm.State) : (allAtoms ts).before a st = ts.all (fun c => c.before a st) := by
  induction ts with
  | nil => rfl
  | cons c t ih =>
    show (Jvm.Cond.and c (allAtoms t)).before a st = _
    rw [Jvm.Cond.before_and, ih, List.all_cons]
def words1 : List Jvm.Cond := Jvm.Cond.code x code maxLocals ret :: tables_1
/-- a 'code' word, met by the world's own term for the bytes: nothing is compared byte by byte -/
theorem code_word {y : MethodName} {bytes : ByteArray} {mx : Nat} {rt : Option FieldType} {a : Array Value} {s : State} {m : MethodId} {meth : Method} {c : Code} (h1 : s.methodNamed? y = some m) (h2 : s.vm.method? m = some meth) (h3 : meth.code = some c) (h4 : c.code = bytes)
    (h5 : (c.maxLocals == mx && c.exceptionTable.isEmpty && decide (c.maxStack ≤ mostOperands) && decide (meth.sig.returnType = rt) && !meth.locks && decide (parseMethodDescriptor y.desc = some meth.sig)) = true) : (Jvm.Cond.code y bytes mx rt).before a s = true := by
  simp only [Bool.and_eq_true, beq_iff_eq, Bool.not_eq_true', decide_eq_true_eq] at h5
  obtain ⟨⟨⟨⟨⟨g1, g2⟩, g3⟩, g4⟩, g5⟩, g6⟩ := h5
  simp [Cond.before, Cond.holds, Cond.value, h1, h2, h3, h4, g1, g2, g3, g4, g5, g6]
def isCode : Jvm.Cond → Bool
  | .code _ _ _ _ => true
  | _ => false
theorem all_split {L : List Jvm.Cond} {P : Jvm.Cond → Bool} (h1 : L.all (fun c => isCode c || P c) = true) (h2 : ∀ c ∈ L.filter isCode, P c = true) : L.all P = true := by
  refine List.all_eq_true.mpr fun c hc => ?_
  have h := List.all_eq_true.mp h1 c hc
  rcases Bool.eq_false_or_eq_true (isCode c) with hi | hi
  · exact h2 c (List.mem_filter.mpr ⟨hc, hi⟩)
  · simpa [hi] using h
set_option maxRecDepth 65536 in
theorem w_c0 : (Jvm.Cond.code x code maxLocals ret).before args0 about1 = true := code_word (m := ⟨1, 1⟩) (meth := k1m1) (c := k1c1) (by decide +kernel) rfl rfl rfl (by decide +kernel)
set_option maxRecDepth 65536 in
theorem w_c1 : (Jvm.Cond.code ({ cls := "com/example/throtl/throtl/service/TokenBucket", name := "<init>", desc := "(JJ)V" } : Jvm.MethodName) prog_31_method_1_code (5 : Nat) (Option.none : Option Jvm.ClassFile.FieldType)).before args0 about1 = true := code_word (m := ⟨3, 0⟩) (meth := k3m0) (c := k3c0) (by decide +kernel) rfl rfl rfl (by decide +kernel)
set_option maxRecDepth 65536 in
theorem w_c2 : (Jvm.Cond.code ({ cls := "java/lang/Record", name := "<init>", desc := "()V" } : Jvm.MethodName) jdk_30_method_1_code (1 : Nat) (Option.none : Option Jvm.ClassFile.FieldType)).before args0 about1 = true := code_word (m := ⟨2, 0⟩) (meth := k2m0) (c := k2c0) (by decide +kernel) rfl rfl rfl (by decide +kernel)
set_option maxRecDepth 65536 in
theorem w_c3 : (Jvm.Cond.code ({ cls := "java/lang/Object", name := "<init>", desc := "()V" } : Jvm.MethodName) object_method_1_code (1 : Nat) (Option.none : Option Jvm.ClassFile.FieldType)).before args0 about1 = true := code_word (m := ⟨0, 0⟩) (meth := k0m0) (c := k0c0) (by decide +kernel) rfl rfl rfl (by decide +kernel)
set_option maxRecDepth 65536 in
theorem w_c4 : (Jvm.Cond.code ({ cls := "com/example/throtl/throtl/service/TokenBucket", name := "secondsToFullAfter", desc := "(J)J" } : Jvm.MethodName) prog_31_method_10_code (3 : Nat) (Option.some Jvm.ClassFile.FieldType.long)).before args0 about1 = true := code_word (m := ⟨3, 1⟩) (meth := k3m1) (c := k3c1) (by decide +kernel) rfl rfl rfl (by decide +kernel)
def codes1 : List Jvm.Cond := [Jvm.Cond.code x code maxLocals ret, Jvm.Cond.code ({ cls := "com/example/throtl/throtl/service/TokenBucket", name := "<init>", desc := "(JJ)V" } : Jvm.MethodName) prog_31_method_1_code (5 : Nat) (Option.none : Option Jvm.ClassFile.FieldType), Jvm.Cond.code ({ cls := "java/lang/Record", name := "<init>", desc := "()V" } : Jvm.MethodName) jdk_30_method_1_code (1 : Nat) (Option.none : Option Jvm.ClassFile.FieldType), Jvm.Cond.code ({ cls := "java/lang/Object", name := "<init>", desc := "()V" } : Jvm.MethodName) object_method_1_code (1 : Nat) (Option.none : Option Jvm.ClassFile.FieldType), Jvm.Cond.code ({ cls := "com/example/throtl/throtl/service/TokenBucket", name := "secondsToFullAfter", desc := "(J)J" } : Jvm.MethodName) prog_31_method_10_code (3 : Nat) (Option.some Jvm.ClassFile.FieldType.long)]
set_option maxRecDepth 65536 in
theorem codes_eq : words1.filter isCode = codes1 := rfl
theorem w_codes : ∀ c ∈ words1.filter isCode, c.before args0 about1 = true := by
  rw [codes_eq]
  intro c hc
  simp only [codes1, List.mem_cons, List.not_mem_nil, or_false] at hc
  rcases hc with rfl | rfl | rfl | rfl | rfl
  · exact w_c0
  · exact w_c1
  · exact w_c2
  · exact w_c3
  · exact w_c4
set_option maxRecDepth 65536 in
theorem w_t1 : (words1.take 24).all (fun c => isCode c || c.before args0 about1) = true := by decide +kernel
set_option maxRecDepth 65536 in
theorem w_t2 : (words1.drop 24).all (fun c => isCode c || c.before args0 about1) = true := by decide +kernel
theorem w_tables : (allAtoms (Jvm.Cond.code x code maxLocals ret :: tables_1)).before args0 about1 = true := by
  rw [allAtoms_all]
  show words1.all (fun c => c.before args0 about1) = true
  refine all_split ?_ w_codes
  rw [← List.take_append_drop 24 words1, List.all_append, w_t1, w_t2]
  rfl
set_option maxRecDepth 65536 in
theorem w_case : (Jvm.Cond.and given_1 narrow_1).before args0 about1 = true := by decide +kernel
theorem w_applies : (headSpec (Jvm.Cond.code x code maxLocals ret :: tables_1) room_1).applies x e0.platform about1 = true :=
  (Spec.applies_iff w_frames).mpr ⟨w_running, w_runnable, w_alone, w_named, w_hears, w_ripe, w_room, w_tables⟩
theorem atStart : AtStart classFile x code maxLocals ret World_1 tables_1 room_1 Calls_1 rest_1 Pre_1 launch0 p0 e0 about1 theMethod args0 below0 :=
  ⟨lists_1, trivial, launch0.admits_env _ _ _, launch0.least_env, fairChoices_fair.cas, fairChoices_fair.clock, w_frames, w_args, w_heap, w_applies, trivial, trivial, w_case⟩
end start1
theorem witness_1 : WitnessClaimed_1 := ⟨start1.p0, start1.e0, start1.about1, start1.theMethod, start1.args0, start1.below0, start1.atStart⟩
end Jvm.Pilot.@@N@@
