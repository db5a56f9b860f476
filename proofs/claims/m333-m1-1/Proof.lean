import JvmDerived
import JvmDerived.Pilot.@@N@@Statement
import JvmDerived.Pilot.@@N@@Code
set_option linter.unusedVariables false
set_option linter.unusedSimpArgs false
namespace Jvm.Pilot.@@N@@
open Jvm Jvm.ClassFile Sem Op Lib Jvm.Free Jvm.Stand Jvm.LawKit Jvm.RoadKit Bundle Jvm.Pilot.@@N@@.Jvm.D
section Own
variable {p : Program} {l : Launch} {e : Env} {R : Room} {s : State} {m : MethodId} {args : Array Value} {below : List Frame} {meth : Method} {c : Code} {T T' : State} {locs : List Loc} {cells slots : Nat} {Z : State} {a0 : Array Value} {h h' : Heap} {Q : Option Value → Heap → List Loc → Prop} {Cc Sc : Nat} {pc pc' pt k : Nat} {Ls Ls' : Array Slot} {St St' : List Value} {bs : ByteArray} {ml : Nat} {own nm : String} {rt : Option FieldType}
/-- what stands of a body while it is walked -/
def Cx (Z : State) (a0 : Array Value) (p : Program) (s : State) (m : MethodId) (meth : Method) (c : Code) (bs : ByteArray) (ml : Nat) (own nm : String) (rt : Option FieldType) : Prop :=
  p.tables.exec = Jvm.exec ∧ Z.Warmed39 s.vm ∧ c.code = bs ∧ c.maxLocals = ml ∧ s.vm.findClass own = some m.cls ∧ meth.name = nm ∧ meth.sig.returnType = rt ∧ meth.locks = false ∧ (∀ d ∈ tables_1, d.before a0 Z = true)
theorem Cx.x (C : Cx Z a0 p s m meth c bs ml own nm rt) : p.tables.exec = Jvm.exec := C.1
theorem Cx.z (C : Cx Z a0 p s m meth c bs ml own nm rt) : Z.Warmed39 s.vm := C.2.1
theorem Cx.b (C : Cx Z a0 p s m meth c bs ml own nm rt) : c.code = bs := C.2.2.1
theorem Cx.mx (C : Cx Z a0 p s m meth c bs ml own nm rt) : c.maxLocals = ml := C.2.2.2.1
theorem Cx.o (C : Cx Z a0 p s m meth c bs ml own nm rt) : s.vm.findClass own = some m.cls := C.2.2.2.2.1
theorem Cx.n (C : Cx Z a0 p s m meth c bs ml own nm rt) : meth.name = nm := C.2.2.2.2.2.1
theorem Cx.r (C : Cx Z a0 p s m meth c bs ml own nm rt) : meth.sig.returnType = rt := C.2.2.2.2.2.2.1
theorem Cx.lk (C : Cx Z a0 p s m meth c bs ml own nm rt) : meth.locks = false := C.2.2.2.2.2.2.2.1
theorem Cx.w (C : Cx Z a0 p s m meth c bs ml own nm rt) : ∀ d ∈ tables_1, d.before a0 Z = true := C.2.2.2.2.2.2.2.2
/-- the i-th word of the sheet's tables -/
theorem Cx.t (C : Cx Z a0 p s m meth c bs ml own nm rt) (i : Nat) {d : Jvm.Cond} (hi : tables_1[i]? = some d) : d.before a0 Z = true := C.w d (List.mem_of_getElem? hi)
/-- from here the run comes to its return, and of that return Q holds -/
def Go (p : Program) (e : Env) (below : List Frame) (s : State) (m : MethodId) (Q : Option Value → Heap → List Loc → Prop) (Cc Sc : Nat) (T : State) (pc : Nat) (Ls : Array Slot) (St : List Value) : Prop :=
  ∃ s₂ o, Steps p.tables e below (T.setTop (mkF m pc Ls St)) s₂ ∧ s₂.status = .running ∧ Ended s₂ below o ∧ ∃ v L, o = .returned v ∧ Q v s₂.heap L ∧ FrameEnd s o s₂ L Cc Sc
theorem Go.via (h : ∀ t, Steps p.tables e below (T'.setTop (mkF m pc' Ls' St')) t → Steps p.tables e below (T.setTop (mkF m pc Ls St)) t) (k : Go p e below s m Q Cc Sc T' pc' Ls' St') : Go p e below s m Q Cc Sc T pc Ls St := by
  obtain ⟨s₂, o, h1, h2⟩ := k
  exact ⟨s₂, o, h _ h1, h2⟩
theorem Go.cast (hL : Ls = Ls') (hS : St = St') (k : Go p e below s m Q Cc Sc T pc Ls' St') : Go p e below s m Q Cc Sc T pc Ls St := by
  subst hL hS; exact k
theorem g_enter {x : MethodName} {ws : List Jvm.Cond} {rm : Room} {as' : Array Value} {h0 : Heap} (hpl : plainFor x = true) (hw : ∀ d ∈ tables_1, d.before a0 Z = true) (hef : ∀ m, entryFrame m as' ml = mkF m 0 Ls [])
    (body : ∀ (p : Program) (e : Env) (s : State) (m : MethodId) (below : List Frame) (meth : Method) (c : Code) (T : State), Cx Z a0 p s m meth c bs ml x.cls x.name rt → Stand p l e rm s m as' below meth c T [] 0 0 → T.heap = h0 → Go p e below s m Q rm.cells rm.slots T 0 Ls []) :
    MetFree l x (head1 (Jvm.Cond.code x bs ml rt :: ws) rm) (fun a U => a = as' ∧ Z.Warmed39 U.vm ∧ U.heap = h0) (fun _ _ _ _ _ => True) (fun _ U o U' => ∃ v L, o = .returned v ∧ Q v U'.heap L ∧ FrameEnd U o U' L rm.cells rm.slots) := by
  refine MetFree.of_bodySF hpl hisR ?_
  intro p e s m args below meth c s₁ Bd hml0 hP hK
  obtain ⟨rfl, hZ, hh⟩ := hP
  have e0 : s₁.heap = h0 := by rw [← hh, Bd.state]; rfl
  have C : Cx Z a0 p s m meth c bs ml x.cls x.name rt := ⟨Bd.exec, hZ, Bd.bytes, hml0, findClass_of_methodNamed Bd.named, (name_of_methodNamed Bd.named Bd.method).1, Bd.returns, Bd.notSynchronized, hw⟩
  obtain ⟨s₂, o, k1, k2⟩ := body p e s m below meth c s₁ C (Stand.of_body Bd) e0
  exact ⟨s₂, o, castTop (hef m) k1, k2⟩

theorem g_iload (C : Cx Z a0 p s m meth c bs ml own nm rt) (X : Stand p l e R s m args below meth c T locs cells slots) {v : Int32} (hd : decode bs pc = .ok (.iload k, 2)) (hl : Ls[k]? = some (.val (.int v))) (hp : pc + 2 = pc') (kk : Go p e below s m Q Cc Sc T pc' Ls (.int v :: St)) : Go p e below s m Q Cc Sc T pc Ls St := by
  subst hp
  exact Go.via (fun t q => XS.iload X.here C.x rfl (hb C.b hd) hl q) kk
theorem g_iloadN (C : Cx Z a0 p s m meth c bs ml own nm rt) (X : Stand p l e R s m args below meth c T locs cells slots) {k : Fin 4} {v : Int32} (hd : decode bs pc = .ok (.iload_n k, 1)) (hl : Ls[k.val]? = some (.val (.int v))) (hp : pc + 1 = pc') (kk : Go p e below s m Q Cc Sc T pc' Ls (.int v :: St)) : Go p e below s m Q Cc Sc T pc Ls St := by
  subst hp
  exact Go.via (fun t q => XS.iloadN X.here C.x rfl (hb C.b hd) hl q) kk
theorem g_lload (C : Cx Z a0 p s m meth c bs ml own nm rt) (X : Stand p l e R s m args below meth c T locs cells slots) {v : Int64} (hd : decode bs pc = .ok (.lload k, 2)) (hl : Ls[k]? = some (.val (.long v))) (hp : pc + 2 = pc') (kk : Go p e below s m Q Cc Sc T pc' Ls (.long v :: St)) : Go p e below s m Q Cc Sc T pc Ls St := by
  subst hp
  exact Go.via (fun t q => XS.lload X.here C.x rfl (hb C.b hd) hl q) kk
theorem g_lloadN (C : Cx Z a0 p s m meth c bs ml own nm rt) (X : Stand p l e R s m args below meth c T locs cells slots) {k : Fin 4} {v : Int64} (hd : decode bs pc = .ok (.lload_n k, 1)) (hl : Ls[k.val]? = some (.val (.long v))) (hp : pc + 1 = pc') (kk : Go p e below s m Q Cc Sc T pc' Ls (.long v :: St)) : Go p e below s m Q Cc Sc T pc Ls St := by
  subst hp
  exact Go.via (fun t q => XS.lloadN X.here C.x rfl (hb C.b hd) hl q) kk
theorem g_aload (C : Cx Z a0 p s m meth c bs ml own nm rt) (X : Stand p l e R s m args below meth c T locs cells slots) {v : Addr} (hd : decode bs pc = .ok (.aload k, 2)) (hl : Ls[k]? = some (.val (.ref v))) (hp : pc + 2 = pc') (kk : Go p e below s m Q Cc Sc T pc' Ls (.ref v :: St)) : Go p e below s m Q Cc Sc T pc Ls St := by
  subst hp
  exact Go.via (fun t q => XS.aload X.here C.x rfl (hb C.b hd) hl rfl q) kk
theorem g_aloadN (C : Cx Z a0 p s m meth c bs ml own nm rt) (X : Stand p l e R s m args below meth c T locs cells slots) {k : Fin 4} {v : Addr} (hd : decode bs pc = .ok (.aload_n k, 1)) (hl : Ls[k.val]? = some (.val (.ref v))) (hp : pc + 1 = pc') (kk : Go p e below s m Q Cc Sc T pc' Ls (.ref v :: St)) : Go p e below s m Q Cc Sc T pc Ls St := by
  subst hp
  exact Go.via (fun t q => XS.aloadN X.here C.x rfl (hb C.b hd) hl rfl q) kk
theorem g_istore (C : Cx Z a0 p s m meth c bs ml own nm rt) (X : Stand p l e R s m args below meth c T locs cells slots) {x : Int32} (hd : decode bs pc = .ok (.istore k, 2)) (Ls' : Array Slot) (hl : storeLocals Ls k (.int x) = some Ls') (hp : pc + 2 = pc') (kk : Go p e below s m Q Cc Sc T pc' Ls' St) : Go p e below s m Q Cc Sc T pc Ls (.int x :: St) := by
  subst hp
  exact Go.via (fun t q => XS.istore X.here C.x rfl (hb C.b hd) rfl hl q) kk
theorem g_istoreN (C : Cx Z a0 p s m meth c bs ml own nm rt) (X : Stand p l e R s m args below meth c T locs cells slots) {k : Fin 4} {x : Int32} (hd : decode bs pc = .ok (.istore_n k, 1)) (Ls' : Array Slot) (hl : storeLocals Ls k.val (.int x) = some Ls') (hp : pc + 1 = pc') (kk : Go p e below s m Q Cc Sc T pc' Ls' St) : Go p e below s m Q Cc Sc T pc Ls (.int x :: St) := by
  subst hp
  exact Go.via (fun t q => XS.istoreN X.here C.x rfl (hb C.b hd) rfl hl q) kk
theorem g_istoreV (C : Cx Z a0 p s m meth c bs ml own nm rt) (X : Stand p l e R s m args below meth c T locs cells slots) {x : Int32} (hd : decode bs pc = .ok (.istore k, 2)) (F : Int32 → Array Slot) (hl : storeLocals Ls k (.int x) = some (F x)) (hp : pc + 2 = pc') (kk : ∀ v, v = x → Go p e below s m Q Cc Sc T pc' (F v) St) : Go p e below s m Q Cc Sc T pc Ls (.int x :: St) := g_istore C X hd (F x) hl hp (kk x rfl)
theorem g_istoreNV (C : Cx Z a0 p s m meth c bs ml own nm rt) (X : Stand p l e R s m args below meth c T locs cells slots) {k : Fin 4} {x : Int32} (hd : decode bs pc = .ok (.istore_n k, 1)) (F : Int32 → Array Slot) (hl : storeLocals Ls k.val (.int x) = some (F x)) (hp : pc + 1 = pc') (kk : ∀ v, v = x → Go p e below s m Q Cc Sc T pc' (F v) St) : Go p e below s m Q Cc Sc T pc Ls (.int x :: St) := g_istoreN C X hd (F x) hl hp (kk x rfl)
theorem g_lstore (C : Cx Z a0 p s m meth c bs ml own nm rt) (X : Stand p l e R s m args below meth c T locs cells slots) {x : Int64} (hd : decode bs pc = .ok (.lstore k, 2)) (Ls' : Array Slot) (hl : storeLocals Ls k (.long x) = some Ls') (hp : pc + 2 = pc') (kk : Go p e below s m Q Cc Sc T pc' Ls' St) : Go p e below s m Q Cc Sc T pc Ls (.long x :: St) := by
  subst hp
  exact Go.via (fun t q => XS.lstore X.here C.x rfl (hb C.b hd) rfl hl q) kk
theorem g_lstoreN (C : Cx Z a0 p s m meth c bs ml own nm rt) (X : Stand p l e R s m args below meth c T locs cells slots) {k : Fin 4} {x : Int64} (hd : decode bs pc = .ok (.lstore_n k, 1)) (Ls' : Array Slot) (hl : storeLocals Ls k.val (.long x) = some Ls') (hp : pc + 1 = pc') (kk : Go p e below s m Q Cc Sc T pc' Ls' St) : Go p e below s m Q Cc Sc T pc Ls (.long x :: St) := by
  subst hp
  exact Go.via (fun t q => XS.lstoreN X.here C.x rfl (hb C.b hd) rfl hl q) kk
theorem g_lstoreV (C : Cx Z a0 p s m meth c bs ml own nm rt) (X : Stand p l e R s m args below meth c T locs cells slots) {x : Int64} (hd : decode bs pc = .ok (.lstore k, 2)) (F : Int64 → Array Slot) (hl : storeLocals Ls k (.long x) = some (F x)) (hp : pc + 2 = pc') (kk : ∀ v, v = x → Go p e below s m Q Cc Sc T pc' (F v) St) : Go p e below s m Q Cc Sc T pc Ls (.long x :: St) := g_lstore C X hd (F x) hl hp (kk x rfl)
theorem g_lstoreNV (C : Cx Z a0 p s m meth c bs ml own nm rt) (X : Stand p l e R s m args below meth c T locs cells slots) {k : Fin 4} {x : Int64} (hd : decode bs pc = .ok (.lstore_n k, 1)) (F : Int64 → Array Slot) (hl : storeLocals Ls k.val (.long x) = some (F x)) (hp : pc + 1 = pc') (kk : ∀ v, v = x → Go p e below s m Q Cc Sc T pc' (F v) St) : Go p e below s m Q Cc Sc T pc Ls (.long x :: St) := g_lstoreN C X hd (F x) hl hp (kk x rfl)
theorem g_astore (C : Cx Z a0 p s m meth c bs ml own nm rt) (X : Stand p l e R s m args below meth c T locs cells slots) {x : Addr} (hd : decode bs pc = .ok (.astore k, 2)) (Ls' : Array Slot) (hl : storeLocals Ls k (.ref x) = some Ls') (hp : pc + 2 = pc') (kk : Go p e below s m Q Cc Sc T pc' Ls' St) : Go p e below s m Q Cc Sc T pc Ls (.ref x :: St) := by
  subst hp
  exact Go.via (fun t q => XS.astore X.here C.x rfl (hb C.b hd) rfl rfl hl q) kk
theorem g_astoreN (C : Cx Z a0 p s m meth c bs ml own nm rt) (X : Stand p l e R s m args below meth c T locs cells slots) {k : Fin 4} {x : Addr} (hd : decode bs pc = .ok (.astore_n k, 1)) (Ls' : Array Slot) (hl : storeLocals Ls k.val (.ref x) = some Ls') (hp : pc + 1 = pc') (kk : Go p e below s m Q Cc Sc T pc' Ls' St) : Go p e below s m Q Cc Sc T pc Ls (.ref x :: St) := by
  subst hp
  exact Go.via (fun t q => XS.astoreN X.here C.x rfl (hb C.b hd) rfl rfl hl q) kk
theorem g_astoreV (C : Cx Z a0 p s m meth c bs ml own nm rt) (X : Stand p l e R s m args below meth c T locs cells slots) {x : Addr} (hd : decode bs pc = .ok (.astore k, 2)) (F : Addr → Array Slot) (hl : storeLocals Ls k (.ref x) = some (F x)) (hp : pc + 2 = pc') (kk : ∀ v, v = x → Go p e below s m Q Cc Sc T pc' (F v) St) : Go p e below s m Q Cc Sc T pc Ls (.ref x :: St) := g_astore C X hd (F x) hl hp (kk x rfl)
theorem g_astoreNV (C : Cx Z a0 p s m meth c bs ml own nm rt) (X : Stand p l e R s m args below meth c T locs cells slots) {k : Fin 4} {x : Addr} (hd : decode bs pc = .ok (.astore_n k, 1)) (F : Addr → Array Slot) (hl : storeLocals Ls k.val (.ref x) = some (F x)) (hp : pc + 1 = pc') (kk : ∀ v, v = x → Go p e below s m Q Cc Sc T pc' (F v) St) : Go p e below s m Q Cc Sc T pc Ls (.ref x :: St) := g_astoreN C X hd (F x) hl hp (kk x rfl)
theorem g_iinc (C : Cx Z a0 p s m meth c bs ml own nm rt) (X : Stand p l e R s m args below meth c T locs cells slots) {cst : Int} {x : Int32} (hd : decode bs pc = .ok (.iinc k cst, 3)) (hl : Ls[k]? = some (.val (.int x))) (Ls' : Array Slot) (hl' : storeLocals Ls k (.int (x + Int32.ofInt cst)) = some Ls') (hp : pc + 3 = pc') (kk : Go p e below s m Q Cc Sc T pc' Ls' St) : Go p e below s m Q Cc Sc T pc Ls St := by
  subst hp
  exact Go.via (fun t q => XS.iinc X.here C.x rfl (hb C.b hd) hl hl' q) kk
theorem g_iincV (C : Cx Z a0 p s m meth c bs ml own nm rt) (X : Stand p l e R s m args below meth c T locs cells slots) {cst : Int} {x y : Int32} (hd : decode bs pc = .ok (.iinc k cst, 3)) (hl : Ls[k]? = some (.val (.int x))) (hy : Int32.ofInt cst = y) (F : Int32 → Array Slot) (hl' : storeLocals Ls k (.int (x + y)) = some (F (x + y))) (hp : pc + 3 = pc') (kk : ∀ v, v = x + y → Go p e below s m Q Cc Sc T pc' (F v) St) : Go p e below s m Q Cc Sc T pc Ls St := g_iinc C X hd hl (F (x + y)) (by rw [hy]; exact hl') hp (kk _ rfl)
theorem g_iconst (C : Cx Z a0 p s m meth c bs ml own nm rt) (X : Stand p l e R s m args below meth c T locs cells slots) {i : Int} (v : Int32) (hd : decode bs pc = .ok (.iconst i, 1)) (hv : Int32.ofInt i = v) (hp : pc + 1 = pc') (kk : Go p e below s m Q Cc Sc T pc' Ls (.int v :: St)) : Go p e below s m Q Cc Sc T pc Ls St := by
  subst hp hv
  exact Go.via (fun t q => XS.iconst X.here C.x rfl (hb C.b hd) q) kk
theorem g_bipush (C : Cx Z a0 p s m meth c bs ml own nm rt) (X : Stand p l e R s m args below meth c T locs cells slots) {i : Int} (v : Int32) (hd : decode bs pc = .ok (.bipush i, 2)) (hv : (Int8.ofInt i).toInt32 = v) (hp : pc + 2 = pc') (kk : Go p e below s m Q Cc Sc T pc' Ls (.int v :: St)) : Go p e below s m Q Cc Sc T pc Ls St := by
  subst hp hv
  exact Go.via (fun t q => XS.bipush X.here C.x rfl (hb C.b hd) q) kk
theorem g_sipush (C : Cx Z a0 p s m meth c bs ml own nm rt) (X : Stand p l e R s m args below meth c T locs cells slots) {i : Int} (v : Int32) (hd : decode bs pc = .ok (.sipush i, 3)) (hv : (Int16.ofInt i).toInt32 = v) (hp : pc + 3 = pc') (kk : Go p e below s m Q Cc Sc T pc' Ls (.int v :: St)) : Go p e below s m Q Cc Sc T pc Ls St := by
  subst hp hv
  exact Go.via (fun t q => XS.sipush X.here C.x rfl (hb C.b hd) q) kk
theorem g_lconst (C : Cx Z a0 p s m meth c bs ml own nm rt) (X : Stand p l e R s m args below meth c T locs cells slots) {i : Fin 2} (v : Int64) (hd : decode bs pc = .ok (.lconst i, 1)) (hv : Int64.ofNat i = v) (hp : pc + 1 = pc') (kk : Go p e below s m Q Cc Sc T pc' Ls (.long v :: St)) : Go p e below s m Q Cc Sc T pc Ls St := by
  subst hp hv
  exact Go.via (fun t q => XS.lconst X.here C.x rfl (hb C.b hd) q) kk
theorem g_ldc (C : Cx Z a0 p s m meth c bs ml own nm rt) (X : Stand p l e R s m args below meth c T locs cells slots) {i : Nat} {v : Int32} (hd : decode bs pc = .ok (.ldc i, 2)) (hv : (Jvm.Cond.constant own i v).before a0 Z = true) (hp : pc + 2 = pc') (kk : Go p e below s m Q Cc Sc T pc' Ls (.int v :: St)) : Go p e below s m Q Cc Sc T pc Ls St := by
  subst hp
  exact Go.via (fun t q => X.ldcInt C.x C.o (mvT C.z hv) (g := mkF m pc Ls St) rfl (hb C.b hd) t q) kk
theorem g_ldcL (C : Cx Z a0 p s m meth c bs ml own nm rt) (X : Stand p l e R s m args below meth c T locs cells slots) {i : Nat} {v : Int64} (hd : decode bs pc = .ok (.ldc2_w i, 3)) (hv : (Jvm.Cond.constantLong own i v).before a0 Z = true) (hp : pc + 3 = pc') (kk : Go p e below s m Q Cc Sc T pc' Ls (.long v :: St)) : Go p e below s m Q Cc Sc T pc Ls St := by
  subst hp
  exact Go.via (fun t q => X.ldc2Long C.x C.o (mvT C.z hv) (g := mkF m pc Ls St) rfl (hb C.b hd) t q) kk
theorem g_iadd (C : Cx Z a0 p s m meth c bs ml own nm rt) (X : Stand p l e R s m args below meth c T locs cells slots) {x y : Int32} (hd : decode bs pc = .ok (.iadd, 1))  (hp : pc + 1 = pc') (kk : Go p e below s m Q Cc Sc T pc' Ls (.int (x + y) :: St)) : Go p e below s m Q Cc Sc T pc Ls (.int y :: .int x :: St) := by
  subst hp
  exact Go.via (fun t q => XS.iadd X.here C.x rfl (hb C.b hd) rfl q) kk
theorem g_isub (C : Cx Z a0 p s m meth c bs ml own nm rt) (X : Stand p l e R s m args below meth c T locs cells slots) {x y : Int32} (hd : decode bs pc = .ok (.isub, 1))  (hp : pc + 1 = pc') (kk : Go p e below s m Q Cc Sc T pc' Ls (.int (x - y) :: St)) : Go p e below s m Q Cc Sc T pc Ls (.int y :: .int x :: St) := by
  subst hp
  exact Go.via (fun t q => XS.isub X.here C.x rfl (hb C.b hd) rfl q) kk
theorem g_imul (C : Cx Z a0 p s m meth c bs ml own nm rt) (X : Stand p l e R s m args below meth c T locs cells slots) {x y : Int32} (hd : decode bs pc = .ok (.imul, 1))  (hp : pc + 1 = pc') (kk : Go p e below s m Q Cc Sc T pc' Ls (.int (x * y) :: St)) : Go p e below s m Q Cc Sc T pc Ls (.int y :: .int x :: St) := by
  subst hp
  exact Go.via (fun t q => XS.imul X.here C.x rfl (hb C.b hd) rfl q) kk
theorem g_iand (C : Cx Z a0 p s m meth c bs ml own nm rt) (X : Stand p l e R s m args below meth c T locs cells slots) {x y : Int32} (hd : decode bs pc = .ok (.iand, 1))  (hp : pc + 1 = pc') (kk : Go p e below s m Q Cc Sc T pc' Ls (.int (x &&& y) :: St)) : Go p e below s m Q Cc Sc T pc Ls (.int y :: .int x :: St) := by
  subst hp
  exact Go.via (fun t q => XS.iand X.here C.x rfl (hb C.b hd) rfl q) kk
theorem g_ior (C : Cx Z a0 p s m meth c bs ml own nm rt) (X : Stand p l e R s m args below meth c T locs cells slots) {x y : Int32} (hd : decode bs pc = .ok (.ior, 1))  (hp : pc + 1 = pc') (kk : Go p e below s m Q Cc Sc T pc' Ls (.int (x ||| y) :: St)) : Go p e below s m Q Cc Sc T pc Ls (.int y :: .int x :: St) := by
  subst hp
  exact Go.via (fun t q => XS.ior X.here C.x rfl (hb C.b hd) rfl q) kk
theorem g_ixor (C : Cx Z a0 p s m meth c bs ml own nm rt) (X : Stand p l e R s m args below meth c T locs cells slots) {x y : Int32} (hd : decode bs pc = .ok (.ixor, 1))  (hp : pc + 1 = pc') (kk : Go p e below s m Q Cc Sc T pc' Ls (.int (x ^^^ y) :: St)) : Go p e below s m Q Cc Sc T pc Ls (.int y :: .int x :: St) := by
  subst hp
  exact Go.via (fun t q => XS.ixor X.here C.x rfl (hb C.b hd) rfl q) kk
theorem g_idiv (C : Cx Z a0 p s m meth c bs ml own nm rt) (X : Stand p l e R s m args below meth c T locs cells slots) {x y : Int32} (hd : decode bs pc = .ok (.idiv, 1)) (hy : y ≠ 0) (hp : pc + 1 = pc') (kk : Go p e below s m Q Cc Sc T pc' Ls (.int (x / y) :: St)) : Go p e below s m Q Cc Sc T pc Ls (.int y :: .int x :: St) := by
  subst hp
  exact Go.via (fun t q => XS.idiv X.here C.x rfl (hb C.b hd) rfl hy q) kk
theorem g_ladd (C : Cx Z a0 p s m meth c bs ml own nm rt) (X : Stand p l e R s m args below meth c T locs cells slots) {x y : Int64} (hd : decode bs pc = .ok (.ladd, 1))  (hp : pc + 1 = pc') (kk : Go p e below s m Q Cc Sc T pc' Ls (.long (x + y) :: St)) : Go p e below s m Q Cc Sc T pc Ls (.long y :: .long x :: St) := by
  subst hp
  exact Go.via (fun t q => XS.ladd X.here C.x rfl (hb C.b hd) rfl q) kk
theorem g_lsub (C : Cx Z a0 p s m meth c bs ml own nm rt) (X : Stand p l e R s m args below meth c T locs cells slots) {x y : Int64} (hd : decode bs pc = .ok (.lsub, 1))  (hp : pc + 1 = pc') (kk : Go p e below s m Q Cc Sc T pc' Ls (.long (x - y) :: St)) : Go p e below s m Q Cc Sc T pc Ls (.long y :: .long x :: St) := by
  subst hp
  exact Go.via (fun t q => XS.lsub X.here C.x rfl (hb C.b hd) rfl q) kk
theorem g_lmul (C : Cx Z a0 p s m meth c bs ml own nm rt) (X : Stand p l e R s m args below meth c T locs cells slots) {x y : Int64} (hd : decode bs pc = .ok (.lmul, 1))  (hp : pc + 1 = pc') (kk : Go p e below s m Q Cc Sc T pc' Ls (.long (x * y) :: St)) : Go p e below s m Q Cc Sc T pc Ls (.long y :: .long x :: St) := by
  subst hp
  exact Go.via (fun t q => XS.lmul X.here C.x rfl (hb C.b hd) rfl q) kk
theorem g_land (C : Cx Z a0 p s m meth c bs ml own nm rt) (X : Stand p l e R s m args below meth c T locs cells slots) {x y : Int64} (hd : decode bs pc = .ok (.land, 1))  (hp : pc + 1 = pc') (kk : Go p e below s m Q Cc Sc T pc' Ls (.long (x &&& y) :: St)) : Go p e below s m Q Cc Sc T pc Ls (.long y :: .long x :: St) := by
  subst hp
  exact Go.via (fun t q => XS.land X.here C.x rfl (hb C.b hd) rfl q) kk
theorem g_lor (C : Cx Z a0 p s m meth c bs ml own nm rt) (X : Stand p l e R s m args below meth c T locs cells slots) {x y : Int64} (hd : decode bs pc = .ok (.lor, 1))  (hp : pc + 1 = pc') (kk : Go p e below s m Q Cc Sc T pc' Ls (.long (x ||| y) :: St)) : Go p e below s m Q Cc Sc T pc Ls (.long y :: .long x :: St) := by
  subst hp
  exact Go.via (fun t q => XS.lor X.here C.x rfl (hb C.b hd) rfl q) kk
theorem g_lxor (C : Cx Z a0 p s m meth c bs ml own nm rt) (X : Stand p l e R s m args below meth c T locs cells slots) {x y : Int64} (hd : decode bs pc = .ok (.lxor, 1))  (hp : pc + 1 = pc') (kk : Go p e below s m Q Cc Sc T pc' Ls (.long (x ^^^ y) :: St)) : Go p e below s m Q Cc Sc T pc Ls (.long y :: .long x :: St) := by
  subst hp
  exact Go.via (fun t q => XS.lxor X.here C.x rfl (hb C.b hd) rfl q) kk
theorem g_ldiv (C : Cx Z a0 p s m meth c bs ml own nm rt) (X : Stand p l e R s m args below meth c T locs cells slots) {x y : Int64} (hd : decode bs pc = .ok (.ldiv, 1)) (hy : y ≠ 0) (hp : pc + 1 = pc') (kk : Go p e below s m Q Cc Sc T pc' Ls (.long (x / y) :: St)) : Go p e below s m Q Cc Sc T pc Ls (.long y :: .long x :: St) := by
  subst hp
  exact Go.via (fun t q => XS.ldiv X.here C.x rfl (hb C.b hd) rfl hy q) kk
theorem g_irem (C : Cx Z a0 p s m meth c bs ml own nm rt) (X : Stand p l e R s m args below meth c T locs cells slots) {x y : Int32} (hd : decode bs pc = .ok (.irem, 1)) (hy : y ≠ 0) (hp : pc + 1 = pc') (kk : Go p e below s m Q Cc Sc T pc' Ls (.int (x % y) :: St)) : Go p e below s m Q Cc Sc T pc Ls (.int y :: .int x :: St) := by
  subst hp
  exact Go.via (fun t q => iremM (g := mkF m pc Ls (.int y :: .int x :: St)) X C.x rfl (hb C.b hd) rfl hy q) kk
theorem g_lrem (C : Cx Z a0 p s m meth c bs ml own nm rt) (X : Stand p l e R s m args below meth c T locs cells slots) {x y : Int64} (hd : decode bs pc = .ok (.lrem, 1)) (hy : y ≠ 0) (hp : pc + 1 = pc') (kk : Go p e below s m Q Cc Sc T pc' Ls (.long (x % y) :: St)) : Go p e below s m Q Cc Sc T pc Ls (.long y :: .long x :: St) := by
  subst hp
  rw [← lrem_mod] at kk
  exact Go.via (fun t q => XS.lrem X.here C.x rfl (hb C.b hd) rfl hy q) kk
theorem g_ishl (C : Cx Z a0 p s m meth c bs ml own nm rt) (X : Stand p l e R s m args below meth c T locs cells slots) {x y : Int32} (hd : decode bs pc = .ok (.ishl, 1))  (hp : pc + 1 = pc') (kk : Go p e below s m Q Cc Sc T pc' Ls (.int (x <<< (y &&& 31)) :: St)) : Go p e below s m Q Cc Sc T pc Ls (.int y :: .int x :: St) := by
  subst hp
  exact Go.via (fun t q => XS.ishl X.here C.x rfl (hb C.b hd) rfl q) kk
theorem g_ishr (C : Cx Z a0 p s m meth c bs ml own nm rt) (X : Stand p l e R s m args below meth c T locs cells slots) {x y : Int32} (hd : decode bs pc = .ok (.ishr, 1))  (hp : pc + 1 = pc') (kk : Go p e below s m Q Cc Sc T pc' Ls (.int (x >>> (y &&& 31)) :: St)) : Go p e below s m Q Cc Sc T pc Ls (.int y :: .int x :: St) := by
  subst hp
  exact Go.via (fun t q => XS.ishr X.here C.x rfl (hb C.b hd) rfl q) kk
theorem g_iushr (C : Cx Z a0 p s m meth c bs ml own nm rt) (X : Stand p l e R s m args below meth c T locs cells slots) {x y : Int32} (hd : decode bs pc = .ok (.iushr, 1))  (hp : pc + 1 = pc') (kk : Go p e below s m Q Cc Sc T pc' Ls (.int ((x.toUInt32 >>> (y &&& 31).toUInt32).toInt32) :: St)) : Go p e below s m Q Cc Sc T pc Ls (.int y :: .int x :: St) := by
  subst hp
  exact Go.via (fun t q => XS.iushr X.here C.x rfl (hb C.b hd) rfl q) kk
theorem g_lshl (C : Cx Z a0 p s m meth c bs ml own nm rt) (X : Stand p l e R s m args below meth c T locs cells slots) {x : Int64} {y : Int32} (hd : decode bs pc = .ok (.lshl, 1))  (hp : pc + 1 = pc') (kk : Go p e below s m Q Cc Sc T pc' Ls (.long (x <<< (y &&& 0x3f).toInt64) :: St)) : Go p e below s m Q Cc Sc T pc Ls (.int y :: .long x :: St) := by
  subst hp
  exact Go.via (fun t q => XS.lshl X.here C.x rfl (hb C.b hd) rfl q) kk
theorem g_lshr (C : Cx Z a0 p s m meth c bs ml own nm rt) (X : Stand p l e R s m args below meth c T locs cells slots) {x : Int64} {y : Int32} (hd : decode bs pc = .ok (.lshr, 1))  (hp : pc + 1 = pc') (kk : Go p e below s m Q Cc Sc T pc' Ls (.long (x >>> (y &&& 0x3f).toInt64) :: St)) : Go p e below s m Q Cc Sc T pc Ls (.int y :: .long x :: St) := by
  subst hp
  exact Go.via (fun t q => XS.lshr X.here C.x rfl (hb C.b hd) rfl q) kk
theorem g_lushr (C : Cx Z a0 p s m meth c bs ml own nm rt) (X : Stand p l e R s m args below meth c T locs cells slots) {x : Int64} {y : Int32} (hd : decode bs pc = .ok (.lushr, 1))  (hp : pc + 1 = pc') (kk : Go p e below s m Q Cc Sc T pc' Ls (.long ((x.toUInt64 >>> (y &&& 0x3f).toInt64.toUInt64).toInt64) :: St)) : Go p e below s m Q Cc Sc T pc Ls (.int y :: .long x :: St) := by
  subst hp
  exact Go.via (fun t q => XS.lushr X.here C.x rfl (hb C.b hd) rfl q) kk
theorem g_i2b (C : Cx Z a0 p s m meth c bs ml own nm rt) (X : Stand p l e R s m args below meth c T locs cells slots) {x : Int32} (hd : decode bs pc = .ok (.i2b, 1))  (hp : pc + 1 = pc') (kk : Go p e below s m Q Cc Sc T pc' Ls (.int (x.toInt8.toInt32) :: St)) : Go p e below s m Q Cc Sc T pc Ls (.int x :: St) := by
  subst hp
  exact Go.via (fun t q => XS.i2b X.here C.x rfl (hb C.b hd) rfl q) kk
theorem g_i2l (C : Cx Z a0 p s m meth c bs ml own nm rt) (X : Stand p l e R s m args below meth c T locs cells slots) {x : Int32} (hd : decode bs pc = .ok (.i2l, 1))  (hp : pc + 1 = pc') (kk : Go p e below s m Q Cc Sc T pc' Ls (.long (x.toInt64) :: St)) : Go p e below s m Q Cc Sc T pc Ls (.int x :: St) := by
  subst hp
  exact Go.via (fun t q => XS.i2l X.here C.x rfl (hb C.b hd) rfl q) kk
theorem g_l2i (C : Cx Z a0 p s m meth c bs ml own nm rt) (X : Stand p l e R s m args below meth c T locs cells slots) {x : Int64} (hd : decode bs pc = .ok (.l2i, 1))  (hp : pc + 1 = pc') (kk : Go p e below s m Q Cc Sc T pc' Ls (.int (x.toInt32) :: St)) : Go p e below s m Q Cc Sc T pc Ls (.long x :: St) := by
  subst hp
  exact Go.via (fun t q => XS.l2i X.here C.x rfl (hb C.b hd) rfl q) kk
theorem g_ineg (C : Cx Z a0 p s m meth c bs ml own nm rt) (X : Stand p l e R s m args below meth c T locs cells slots) {x : Int32} (hd : decode bs pc = .ok (.ineg, 1))  (hp : pc + 1 = pc') (kk : Go p e below s m Q Cc Sc T pc' Ls (.int (-x) :: St)) : Go p e below s m Q Cc Sc T pc Ls (.int x :: St) := by
  subst hp
  exact Go.via (fun t q => XS.ineg X.here C.x rfl (hb C.b hd) rfl q) kk
theorem g_lneg (C : Cx Z a0 p s m meth c bs ml own nm rt) (X : Stand p l e R s m args below meth c T locs cells slots) {x : Int64} (hd : decode bs pc = .ok (.lneg, 1))  (hp : pc + 1 = pc') (kk : Go p e below s m Q Cc Sc T pc' Ls (.long (-x) :: St)) : Go p e below s m Q Cc Sc T pc Ls (.long x :: St) := by
  subst hp
  exact Go.via (fun t q => XS.lneg X.here C.x rfl (hb C.b hd) rfl q) kk
theorem g_dup (C : Cx Z a0 p s m meth c bs ml own nm rt) (X : Stand p l e R s m args below meth c T locs cells slots) {x : Value} (hd : decode bs pc = .ok (.dup, 1)) (hc : x.category = 1) (hp : pc + 1 = pc') (kk : Go p e below s m Q Cc Sc T pc' Ls (x :: x :: St)) : Go p e below s m Q Cc Sc T pc Ls (x :: St) := by
  subst hp
  exact Go.via (fun t q => XS.dup X.here C.x rfl (hb C.b hd) rfl hc q) kk
theorem g_pop (C : Cx Z a0 p s m meth c bs ml own nm rt) (X : Stand p l e R s m args below meth c T locs cells slots) {x : Value} (hd : decode bs pc = .ok (.pop, 1)) (hc : x.category = 1) (hp : pc + 1 = pc') (kk : Go p e below s m Q Cc Sc T pc' Ls St) : Go p e below s m Q Cc Sc T pc Ls (x :: St) := by
  subst hp
  exact Go.via (fun t q => XS.pop X.here C.x rfl (hb C.b hd) rfl hc q) kk
theorem g_goto (C : Cx Z a0 p s m meth c bs ml own nm rt) (X : Stand p l e R s m args below meth c T locs cells slots) {o : Int} (hd : decode bs pc = .ok (.goto o, 3)) (ho : 0 ≤ (pc : Int) + o) (hp : ((pc : Int) + o).toNat = pc') (kk : Go p e below s m Q Cc Sc T pc' Ls St) : Go p e below s m Q Cc Sc T pc Ls St := Go.via (fun t q => XS.goto X.here C.x rfl rfl (hb C.b hd) ho hp q) kk
/-- what a comparison says of two ints -/
def Cd (cd : ClassFile.Cond) (x y : Int) : Prop := match cd with | .eq => x = y | .ne => ¬ x = y | .lt => x < y | .ge => y ≤ x | .gt => y < x | .le => x ≤ y
def ng : ClassFile.Cond → ClassFile.Cond | .eq => .ne | .ne => .eq | .lt => .ge | .ge => .lt | .gt => .le | .le => .gt
theorem cd_n {cd : ClassFile.Cond} {x y : Int} (h : ¬ Cd cd x y) : Cd (ng cd) x y := by
  cases cd <;> simp only [Cd, ng] at h ⊢ <;> omega
theorem cd_t {cd : ClassFile.Cond} {x y : Int32} : if_icmp.holds cd x y = true ↔ Cd cd x.toInt y.toInt := by
  cases cd <;> simp [if_icmp.holds, Cd, Int32.lt_iff_toInt_lt, Int32.le_iff_toInt_le, Int32.toInt_inj]
theorem cd_0 {cd : ClassFile.Cond} {x : Int32} : ifCond.holds cd x = true ↔ Cd cd x.toInt 0 := by
  rw [if0, cd_t]; rfl
theorem g_icmp (C : Cx Z a0 p s m meth c bs ml own nm rt) (X : Stand p l e R s m args below meth c T locs cells slots) {cd : ClassFile.Cond} {o : Int} {x y : Int32} (hd : decode bs pc = .ok (.if_icmp cd o, 3)) (ho : 0 ≤ (pc : Int) + o) (hq : ((pc : Int) + o).toNat = pt) (hp : pc + 3 = pc') (kt : Cd cd x.toInt y.toInt → Go p e below s m Q Cc Sc T pt Ls St) (kf : Cd (ng cd) x.toInt y.toInt → Go p e below s m Q Cc Sc T pc' Ls St) : Go p e below s m Q Cc Sc T pc Ls (.int y :: .int x :: St) := by
  subst hp
  by_cases q : Cd cd x.toInt y.toInt
  · exact Go.via (fun t q' => XS.icmpYes X.here C.x rfl rfl (hb C.b hd) rfl (cd_t.mpr q) ho hq q') (kt q)
  · exact Go.via (fun t q' => XS.icmpNo X.here C.x rfl (hb C.b hd) rfl (Bool.eq_false_iff.mpr fun z => q (cd_t.mp z)) q') (kf (cd_n q))
theorem g_if (C : Cx Z a0 p s m meth c bs ml own nm rt) (X : Stand p l e R s m args below meth c T locs cells slots) {cd : ClassFile.Cond} {o : Int} {x : Int32} (hd : decode bs pc = .ok (.ifCond cd o, 3)) (ho : 0 ≤ (pc : Int) + o) (hq : ((pc : Int) + o).toNat = pt) (hp : pc + 3 = pc') (kt : Cd cd x.toInt 0 → Go p e below s m Q Cc Sc T pt Ls St) (kf : Cd (ng cd) x.toInt 0 → Go p e below s m Q Cc Sc T pc' Ls St) : Go p e below s m Q Cc Sc T pc Ls (.int x :: St) := by
  subst hp
  by_cases q : Cd cd x.toInt 0
  · exact Go.via (fun t q' => XS.ifYes X.here C.x rfl rfl (hb C.b hd) rfl (cd_0.mpr q) ho hq q') (kt q)
  · exact Go.via (fun t q' => XS.ifNo X.here C.x rfl (hb C.b hd) rfl (Bool.eq_false_iff.mpr fun z => q (cd_0.mp z)) q') (kf (cd_n q))
theorem cd_l {cd : ClassFile.Cond} {x y : Int64} : Cd cd (lcmpW x y).toInt 0 ↔ Cd cd x.toInt y.toInt := by
  obtain ⟨h1, h2, h3⟩ := c_lcmp x y
  generalize (lcmpW x y).toInt = w at *
  generalize x.toInt = u at *
  generalize y.toInt = v at *
  cases cd <;> simp only [Cd] <;> omega
theorem g_lcmpif (C : Cx Z a0 p s m meth c bs ml own nm rt) (X : Stand p l e R s m args below meth c T locs cells slots) {cd : ClassFile.Cond} {o : Int} {x y : Int64} {pm : Nat} (hd0 : decode bs pc = .ok (.lcmp, 1)) (hm : pc + 1 = pm) (hd : decode bs pm = .ok (.ifCond cd o, 3)) (ho : 0 ≤ (pm : Int) + o) (hq : ((pm : Int) + o).toNat = pt) (hp : pm + 3 = pc') (kt : Cd cd x.toInt y.toInt → Go p e below s m Q Cc Sc T pt Ls St) (kf : Cd (ng cd) x.toInt y.toInt → Go p e below s m Q Cc Sc T pc' Ls St) : Go p e below s m Q Cc Sc T pc Ls (.long y :: .long x :: St) := by
  subst hm
  refine Go.via (fun t q' => XS.lcmp X.here C.x rfl (hb C.b hd0) rfl q') ?_
  exact g_if C X hd ho hq hp (fun z => kt (cd_l.mp z)) (fun z => kf (cd_l.mp z))
theorem g_ireturnN (C : Cx Z a0 p s m meth c bs ml own nm rt) (X : Stand p l e R s m args below meth c T locs cells slots) {z : Int32} {t : FieldType} (hd : decode bs pc = .ok (.ireturn, 1)) (hr : rt = some t) (ht : t = .boolean ∨ t = .byte ∨ t = .char ∨ t = .short) (hQ : Q (some (.int (nar t z))) T.heap locs) (hC : cells ≤ Cc) (hS : slots ≤ Sc) : Go p e below s m Q Cc Sc T pc Ls (.int z :: St) := by
  subst hr
  obtain ⟨fs, hr, hrun, hended, hW, hsame⟩ := X.leave (v := some (.int (nar t z))) (fun h => by rw [C.r] at h; cases h) C.lk
  refine ⟨_, _, ?_, hrun, hended, _, _, rfl, hQ, ⟨_, rfl⟩, hW, hsame.mono hC hS⟩
  exact retN X C.x C.r ht (hb C.b hd) hr
theorem g_ireturn (C : Cx Z a0 p s m meth c bs ml own nm rt) (X : Stand p l e R s m args below meth c T locs cells slots) {z : Int32} (hd : decode bs pc = .ok (.ireturn, 1)) (hr : rt = some .int) (hQ : Q (some (.int z)) T.heap locs) (hC : cells ≤ Cc) (hS : slots ≤ Sc) : Go p e below s m Q Cc Sc T pc Ls (.int z :: St) := by
  subst hr
  obtain ⟨fs, hr, hrun, hended, hW, hsame⟩ := X.leave (v := some (.int z)) (fun h => by rw [C.r] at h; cases h) C.lk
  refine ⟨_, _, ?_, hrun, hended, _, _, rfl, hQ, ⟨_, rfl⟩, hW, hsame.mono hC hS⟩
  exact retOut X C.x C.r rfl (Or.inl ⟨rfl, Or.inl rfl, z, rfl⟩) (hb C.b hd) hr
theorem g_lreturn (C : Cx Z a0 p s m meth c bs ml own nm rt) (X : Stand p l e R s m args below meth c T locs cells slots) {z : Int64} (hd : decode bs pc = .ok (.lreturn, 1)) (hr : rt = some .long) (hQ : Q (some (.long z)) T.heap locs) (hC : cells ≤ Cc) (hS : slots ≤ Sc) : Go p e below s m Q Cc Sc T pc Ls (.long z :: St) := by
  subst hr
  obtain ⟨fs, hr, hrun, hended, hW, hsame⟩ := X.leave (v := some (.long z)) (fun h => by rw [C.r] at h; cases h) C.lk
  refine ⟨_, _, ?_, hrun, hended, _, _, rfl, hQ, ⟨_, rfl⟩, hW, hsame.mono hC hS⟩
  exact retOut X C.x C.r rfl (Or.inr (Or.inl ⟨rfl, rfl, z, rfl⟩)) (hb C.b hd) hr
theorem g_areturn (C : Cx Z a0 p s m meth c bs ml own nm rt) (X : Stand p l e R s m args below meth c T locs cells slots) {z : Addr} {t : FieldType} (hd : decode bs pc = .ok (.areturn, 1)) (hr : rt = some t) (ht : t.isReference = true) (hn : narrow t (.ref z) = .ref z) (hQ : Q (some (.ref z)) T.heap locs) (hC : cells ≤ Cc) (hS : slots ≤ Sc) : Go p e below s m Q Cc Sc T pc Ls (.ref z :: St) := by
  subst hr
  obtain ⟨fs, hr, hrun, hended, hW, hsame⟩ := X.leave (v := some (.ref z)) (fun h => by rw [C.r] at h; cases h) C.lk
  refine ⟨_, _, ?_, hrun, hended, _, _, rfl, hQ, ⟨_, rfl⟩, hW, hsame.mono hC hS⟩
  exact retOut X C.x C.r hn (Or.inr (Or.inr (Or.inr (Or.inr ⟨rfl, ht, rfl⟩)))) (hb C.b hd) hr
theorem g_return (C : Cx Z a0 p s m meth c bs ml own nm rt) (X : Stand p l e R s m args below meth c T locs cells slots)  (hd : decode bs pc = .ok (.return_, 1)) (hr : rt = none) (hQ : Q none T.heap locs) (hC : cells ≤ Cc) (hS : slots ≤ Sc) : Go p e below s m Q Cc Sc T pc Ls [] := by
  subst hr
  obtain ⟨fs, hr, hrun, hended, hW, hsame⟩ := X.leave (v := none) (fun _ => rfl) C.lk
  refine ⟨_, _, ?_, hrun, hended, _, _, rfl, hQ, ⟨_, rfl⟩, hW, hsame.mono hC hS⟩
  exact X.returnOut C.x C.r (hb C.b hd) hr
/-- an array: its kind, its length, what each place holds -/
def Aw (Z : State) (h : Heap) (a : Addr) (ty : FieldType) (n : Nat) (f : Nat → Value) : Prop := ∃ cl : Cell, Arr Z h a cl ty ∧ cl.slots.size = n ∧ n < 2 ^ 31 ∧ ∀ j, j < n → cl.slots[j]? = some (f j)
variable {a b : Addr} {ty : FieldType} {n : Nat} {f f' : Nat → Value}
theorem Aw.ext (A : Aw Z h a ty n f) (E : Ext h h') : Aw Z h' a ty n f := by obtain ⟨cl, A, r⟩ := A; exact ⟨cl, A.ext E, r⟩
theorem Aw.other {sl : Nat} {v : Value} (A : Aw Z h b ty n f) (W : Wr h h' a sl v) (q : b ≠ a) : Aw Z h' b ty n f := by obtain ⟨cl, A, r⟩ := A; exact ⟨cl, A.other W q, r⟩
theorem Aw.keep {ws : List Addr} (A : Aw Z h a ty n f) (K : Keep h h' ws) (q : a ∉ ws) : Aw Z h' a ty n f := by obtain ⟨cl, A, r⟩ := A; exact ⟨cl, ⟨K.2.1 a cl A.1 q, A.2⟩, r⟩
theorem Aw.lt (A : Aw Z h a ty n f) : a < h.size := by obtain ⟨cl, A, r⟩ := A; exact A.lt
theorem Aw.of (A : Aw Z h a ty n f) (q : ∀ j, j < n → f j = f' j) : Aw Z h a ty n f' := by obtain ⟨cl, A, r1, r2, r3⟩ := A; exact ⟨cl, A, r1, r2, fun j hj => by rw [r3 j hj, q j hj]⟩
theorem i_nn {j : Int32} (h0 : 0 ≤ j.toInt) : (j.toNatClampNeg : Int) = j.toInt := by simp only [Int32.toNatClampNeg]; omega
theorem aw_in {cl : Cell} {j : Int32} (S : cl.slots.size = n) (h0 : 0 ≤ j.toInt) (h1 : j.toInt < n) : ¬ (j < 0 ∨ cl.slots.size ≤ j.toNatClampNeg) := by
  have := i_nn h0
  rw [Int32.lt_iff_toInt_lt, S]; simp only [Int32.reduceToInt]; omega
theorem aw_len (q : n < 2 ^ 31) : (n.toInt32).toInt = n := len_toInt q
theorem g_newarray {aty : ArrayType} {nn : Int32} {cap : Nat} (C : Cx Z a0 p s m meth c bs ml own nm rt) (X : Stand p l e R s m args below meth c T locs cells slots) (hd : decode bs pc = .ok (.newarray aty, 2)) (eT : T.heap = h) (w : (Jvm.Cond.arrayClass (newarray.typeOf aty)).before a0 Z = true) (h0 : 0 ≤ nn.toInt) (hcap : nn.toInt ≤ cap) (hb8 : cap * 8 ≤ 536870912) (hc : cells + 1 ≤ R.cells) (hl : slots + cap ≤ R.slots) (hp : pc + 2 = pc')
    (kk : ∀ T' h', Stand p l e R s m args below meth c T' locs (cells + 1) (slots + cap) → T'.heap = h' → Ext h h' → h.size < h'.size → ∀ a, a = h.size → Aw Z h' a (newarray.typeOf aty) nn.toInt.toNat (fun _ => defaultValue (newarray.typeOf aty)) → Go p e below s m Q Cc Sc T' pc' Ls (.ref a :: St)) : Go p e below s m Q Cc Sc T pc Ls (.int nn :: St) := by
  subst hp
  have hn : ¬ nn < 0 := by rw [Int32.lt_iff_toInt_lt]; simp only [Int32.reduceToInt]; omega
  have hi := i_nn h0
  obtain ⟨T', h', cA, X', e', E, A, st⟩ := newP X C.x C.z w eT (g := mkF m pc Ls (.int nn :: St)) rfl (hb C.b hd) rfl hn (cap := cap) (by omega) hb8 hc hl
  have hs : (newA cA (newarray.typeOf aty) nn).slots.size = nn.toInt.toNat := by rw [sz_new]; simp only [Int32.toNatClampNeg]
  have hlt := nn.toInt_lt
  refine Go.via st (kk T' h' X' e' E A.lt _ rfl ⟨_, A, hs, by omega, fun j hj => ?_⟩)
  have : j < nn.toNatClampNeg := by omega
  simp [newA, this]
theorem Aw.set {cl : Cell} {j : Int32} {v : Value} (A : Arr Z h a cl ty) (S : cl.slots.size = n) (M : n < 2 ^ 31) (H : ∀ j, j < n → cl.slots[j]? = some (f j)) (h0 : 0 ≤ j.toInt) (W : Wr h h' a j.toNatClampNeg v) : Aw Z h' a ty n (fun i => if (i : Int) = j.toInt then v else f i) := by
  refine ⟨_, A.same W, by rw [sz_set]; exact S, M, fun i hi => ?_⟩
  have hi0 := i_nn h0
  show _ = some (if (i : Int) = j.toInt then v else f i)
  by_cases q : (i : Int) = j.toInt
  · have : j.toNatClampNeg = i := by omega
    rw [if_pos q, this]
    simp [Cell.setSlot, S, hi]
  · have : j.toNatClampNeg ≠ i := by omega
    rw [if_neg q]
    simp only [Cell.setSlot]
    rw [Array.getElem?_setIfInBounds_ne this]; exact H i hi
theorem g_arraylength (C : Cx Z a0 p s m meth c bs ml own nm rt) (X : Stand p l e R s m args below meth c T locs cells slots) (hd : decode bs pc = .ok (.arraylength, 1)) (eT : T.heap = h) (A : Aw Z h a ty n f) (hp : pc + 1 = pc') (kk : ∀ v : Int32, v.toInt = n → Go p e below s m Q Cc Sc T pc' Ls (.int v :: St)) : Go p e below s m Q Cc Sc T pc Ls (.ref a :: St) := by
  subst hp
  obtain ⟨cl, A, S, M, H⟩ := A
  have : cl.slots.size.toInt32.toInt = n := by rw [S]; exact aw_len M
  exact Go.via (fun t q => X.arraylength C.x (by rw [eT]; exact A.1) (State.isArrayOf_alike C.z.alike A.2.1) (g := mkF m pc Ls (.ref a :: St)) rfl rfl (hb C.b hd) t q) (kk _ this)

theorem g_iastore {j : Int32} {x : Int32} (C : Cx Z a0 p s m meth c bs ml own nm rt) (X : Stand p l e R s m args below meth c T locs cells slots) (hd : decode bs pc = .ok (.iastore, 1)) (eT : T.heap = h) (A : Aw Z h a .int n f) (h0 : 0 ≤ j.toInt) (h1 : j.toInt < n) (hp : pc + 1 = pc')
    (kk : ∀ T' h', Stand p l e R s m args below meth c T' (locs ++ [⟨a, j.toNatClampNeg⟩]) cells slots → T'.heap = h' → Wr h h' a j.toNatClampNeg (.int x) → Aw Z h' a .int n (fun i => if (i : Int) = j.toInt then .int x else f i) → Go p e below s m Q Cc Sc T' pc' Ls St) : Go p e below s m Q Cc Sc T pc Ls (.int x :: .int j :: .ref a :: St) := by
  subst hp
  obtain ⟨cl, A, S, M, H⟩ := A
  obtain ⟨T', h', X', e', W, st⟩ := stI X C.x C.z eT A (j := j) (aw_in S h0 h1) (g := mkF m pc Ls (.int x :: .int j :: .ref a :: St)) rfl rfl (hb C.b hd)
  exact Go.via st (kk T' h' X' e' W (Aw.set A S M H h0 W))
theorem g_bastore {j : Int32} {x : Int32} (C : Cx Z a0 p s m meth c bs ml own nm rt) (X : Stand p l e R s m args below meth c T locs cells slots) (hd : decode bs pc = .ok (.bastore, 1)) (eT : T.heap = h) (A : Aw Z h a .byte n f) (h0 : 0 ≤ j.toInt) (h1 : j.toInt < n) (hp : pc + 1 = pc')
    (kk : ∀ T' h', Stand p l e R s m args below meth c T' (locs ++ [⟨a, j.toNatClampNeg⟩]) cells slots → T'.heap = h' → Wr h h' a j.toNatClampNeg (.int (nar .byte x)) → Aw Z h' a .byte n (fun i => if (i : Int) = j.toInt then .int (nar .byte x) else f i) → Go p e below s m Q Cc Sc T' pc' Ls St) : Go p e below s m Q Cc Sc T pc Ls (.int x :: .int j :: .ref a :: St) := by
  subst hp
  obtain ⟨cl, A, S, M, H⟩ := A
  obtain ⟨T', h', X', e', W, st⟩ := stB X C.x C.z eT A (j := j) (aw_in S h0 h1) (g := mkF m pc Ls (.int x :: .int j :: .ref a :: St)) rfl rfl (hb C.b hd)
  exact Go.via st (kk T' h' X' e' W (Aw.set A S M H h0 W))
theorem g_lastore {j : Int32} {x : Int64} (C : Cx Z a0 p s m meth c bs ml own nm rt) (X : Stand p l e R s m args below meth c T locs cells slots) (hd : decode bs pc = .ok (.lastore, 1)) (eT : T.heap = h) (A : Aw Z h a .long n f) (h0 : 0 ≤ j.toInt) (h1 : j.toInt < n) (hp : pc + 1 = pc')
    (kk : ∀ T' h', Stand p l e R s m args below meth c T' (locs ++ [⟨a, j.toNatClampNeg⟩]) cells slots → T'.heap = h' → Wr h h' a j.toNatClampNeg (.long x) → Aw Z h' a .long n (fun i => if (i : Int) = j.toInt then .long x else f i) → Go p e below s m Q Cc Sc T' pc' Ls St) : Go p e below s m Q Cc Sc T pc Ls (.long x :: .int j :: .ref a :: St) := by
  subst hp
  obtain ⟨cl, A, S, M, H⟩ := A
  obtain ⟨T', h', X', e', W, st⟩ := stJ X C.x C.z eT A (j := j) (aw_in S h0 h1) (g := mkF m pc Ls (.long x :: .int j :: .ref a :: St)) rfl rfl (hb C.b hd)
  exact Go.via st (kk T' h' X' e' W (Aw.set A S M H h0 W))
theorem g_iaload {j : Int32} {v : Value} (C : Cx Z a0 p s m meth c bs ml own nm rt) (X : Stand p l e R s m args below meth c T locs cells slots) (hd : decode bs pc = .ok (.iaload, 1)) (eT : T.heap = h) (A : Aw Z h a .int n f) (h0 : 0 ≤ j.toInt) (h1 : j.toInt < n) (hv : f j.toInt.toNat = v) (hp : pc + 1 = pc') (kk : Go p e below s m Q Cc Sc T pc' Ls (v :: St)) : Go p e below s m Q Cc Sc T pc Ls (.int j :: .ref a :: St) := by
  subst hp
  obtain ⟨cl, A, S, M, H⟩ := A
  have hi := i_nn h0
  have hj : j.toNatClampNeg = j.toInt.toNat := by omega
  have hat : cl.slots[j.toNatClampNeg]? = some v := by rw [hj, H _ (by omega), hv]
  exact Go.via (fun t q => X.iaload C.x (j := j) (v := v) (by rw [eT]; exact A.1) (State.isArrayOf_alike C.z.alike A.2.1) A.2.2 (aw_in S h0 h1) hat (g := mkF m pc Ls (.int j :: .ref a :: St)) rfl rfl (hb C.b hd) t q) kk
theorem g_baload {j : Int32} {v : Value} (C : Cx Z a0 p s m meth c bs ml own nm rt) (X : Stand p l e R s m args below meth c T locs cells slots) (hd : decode bs pc = .ok (.baload, 1)) (eT : T.heap = h) (A : Aw Z h a .byte n f) (h0 : 0 ≤ j.toInt) (h1 : j.toInt < n) (hv : f j.toInt.toNat = v) (hp : pc + 1 = pc') (kk : Go p e below s m Q Cc Sc T pc' Ls (v :: St)) : Go p e below s m Q Cc Sc T pc Ls (.int j :: .ref a :: St) := by
  subst hp
  obtain ⟨cl, A, S, M, H⟩ := A
  have hi := i_nn h0
  have hj : j.toNatClampNeg = j.toInt.toNat := by omega
  have hat : cl.slots[j.toNatClampNeg]? = some v := by rw [hj, H _ (by omega), hv]
  exact Go.via (fun t q => X.baloadBytes C.x (j := j) (v := v) (by rw [eT]; exact A.1) (State.isArrayOf_alike C.z.alike A.2.1) A.2.2 (aw_in S h0 h1) hat (g := mkF m pc Ls (.int j :: .ref a :: St)) rfl rfl (hb C.b hd) t q) kk
theorem g_laload {j : Int32} {v : Value} (C : Cx Z a0 p s m meth c bs ml own nm rt) (X : Stand p l e R s m args below meth c T locs cells slots) (hd : decode bs pc = .ok (.laload, 1)) (eT : T.heap = h) (A : Aw Z h a .long n f) (h0 : 0 ≤ j.toInt) (h1 : j.toInt < n) (hv : f j.toInt.toNat = v) (hp : pc + 1 = pc') (kk : Go p e below s m Q Cc Sc T pc' Ls (v :: St)) : Go p e below s m Q Cc Sc T pc Ls (.int j :: .ref a :: St) := by
  subst hp
  obtain ⟨cl, A, S, M, H⟩ := A
  have hi := i_nn h0
  have hj : j.toNatClampNeg = j.toInt.toNat := by omega
  have hat : cl.slots[j.toNatClampNeg]? = some v := by rw [hj, H _ (by omega), hv]
  exact Go.via (fun t q => X.laload C.x (j := j) (v := v) (by rw [eT]; exact A.1) (State.isArrayOf_alike C.z.alike A.2.1) A.2.2 (aw_in S h0 h1) hat (g := mkF m pc Ls (.int j :: .ref a :: St)) rfl rfl (hb C.b hd) t q) kk
theorem g_callS {y : MethodName} {bytes : ByteArray} {maxL W index : Nat} {ret : Option FieldType} {rm : Room} {argsL rest : List Value} {ps : List FieldType} {r : Option FieldType} {Qc : Option Value → Heap → List Loc → Prop} (C : Cx Z a0 p s m meth c bs ml own nm rt) (X : Stand p l e R s m args below meth c T locs cells slots)
    (hd : decode bs pc = .ok (.invokestatic index, 3)) (eT : T.heap = h)
    (w1 : (Jvm.Cond.methodLink own index y).before a0 Z = true) (w2 : (Jvm.Cond.static y).before a0 Z = true) (w3 : (Jvm.Cond.initialized y.cls).before a0 Z = true) (w4 : (Jvm.Cond.code y bytes maxL ret).before a0 Z = true)
    (hM : MetFree l y (head1 [Jvm.Cond.code y bytes maxL ret] rm) (fun a U => a = argsL.toArray ∧ Z.Warmed39 U.vm ∧ U.heap = h) (fun _ _ _ _ _ => True) (fun _ U o U' => ∃ v L, o = .returned v ∧ Qc v U'.heap L ∧ FrameEnd U o U' L rm.cells rm.slots))
    (hy : y.cls ≠ "java/lang/invoke/MethodHandle" ∧ y.cls ≠ "java/lang/invoke/VarHandle") (hpd : parseMethodDescriptor y.desc = some ⟨ps, r⟩) (hln : argsL.length = ps.length)
    (hst : St = argsL.reverse ++ rest) (hLs : Ls.size = ml) (hW : (rest.map fun v => v.category).sum ≤ W) (hfr : rm.frames + 1 ≤ R.frames) (hlo : W + (maxL + 11) + rm.locals ≤ R.locals) (hce : cells + rm.cells ≤ R.cells) (hsl : slots + rm.slots ≤ R.slots) (hp : pc + 3 = pc')
    (kk : ∀ T' v L, Stand p l e R s m args below meth c T' (locs ++ L) (cells + rm.cells) (slots + rm.slots) → Qc v T'.heap L → Go p e below s m Q Cc Sc T' pc' Ls (v.toList ++ rest)) : Go p e below s m Q Cc Sc T pc Ls St := by
  subst hp
  obtain ⟨v, _, ⟨T', L', k', n'⟩, -, X', ⟨L, hQ, l1, y1, z1⟩, st⟩ := Jvm.LawKit.callS X C.x (y := y) C.o (mvT C.z w1) (mvT C.z w2) (mvT C.z w3) (mvT C.z w4) hy (backOf (W := W) hM C.z w4 w3 hfr hlo) (g := mkF m pc Ls St) rfl (by rw [C.mx]; exact hLs) (argsL := argsL) (rest := rest) (lenOf hpd hln) hst (by show 2 * 0 + _ ≤ _; omega) (hb C.b hd) (fun _ _ => ⟨rfl, eT, hce, hsl⟩)
  dsimp only [Pt.U, Pt.locs, Pt.cells, Pt.slots] at X' l1 y1 z1 st hQ
  subst l1 y1 z1
  exact Go.via st (kk T' v L X' hQ)
theorem g_callC {y : MethodName} {bytes : ByteArray} {maxL W index : Nat} {rm : Room} {argsL rest : List Value} {ps : List FieldType} {r : Option FieldType} {Qc : Option Value → Heap → List Loc → Prop} (C : Cx Z a0 p s m meth c bs ml own nm rt) (X : Stand p l e R s m args below meth c T locs cells slots)
    (hd : decode bs pc = .ok (.invokespecial index, 3)) (eT : T.heap = h) (hy1 : y.name = "<init>") 
    (w1 : (Jvm.Cond.methodLink own index y).before a0 Z = true) (w2 : (Jvm.Cond.instanceMethod y).before a0 Z = true) (w3 : (Jvm.Cond.initialized y.cls).before a0 Z = true) (w4 : (Jvm.Cond.code y bytes maxL none).before a0 Z = true)
    (hM : MetFree l y (head1 [Jvm.Cond.code y bytes maxL none] rm) (fun a' U => a' = (Value.ref a :: argsL).toArray ∧ Z.Warmed39 U.vm ∧ U.heap = h) (fun _ _ _ _ _ => True) (fun _ U o U' => ∃ v L, o = .returned v ∧ Qc v U'.heap L ∧ FrameEnd U o U' L rm.cells rm.slots))
    (hy : y.cls ≠ "java/lang/invoke/MethodHandle" ∧ y.cls ≠ "java/lang/invoke/VarHandle") (hpd : parseMethodDescriptor y.desc = some ⟨ps, r⟩) (hln : argsL.length = ps.length)
    (hst : St = argsL.reverse ++ .ref a :: rest) (hLs : Ls.size = ml) (hW : (rest.map fun v => v.category).sum ≤ W) (hfr : rm.frames + 1 ≤ R.frames) (hlo : W + (maxL + 11) + rm.locals ≤ R.locals) (hce : cells + rm.cells ≤ R.cells) (hsl : slots + rm.slots ≤ R.slots) (hp : pc + 3 = pc')
    (kk : ∀ T' v L, Stand p l e R s m args below meth c T' (locs ++ L) (cells + rm.cells) (slots + rm.slots) → Qc v T'.heap L → Go p e below s m Q Cc Sc T' pc' Ls (v.toList ++ rest)) : Go p e below s m Q Cc Sc T pc Ls St := by
  subst hp
  obtain ⟨v, _, ⟨T', L', k', n'⟩, -, X', ⟨L, hQ, l1, y1, z1⟩, st⟩ := X.specialBack C.x (y := y) hy1 C.o (mvT C.z w1) (mvT C.z w2) (mvT C.z w4) hy (backOf (W := W) hM C.z w4 w3 hfr hlo) (g := mkF m pc Ls St) rfl (by rw [C.mx]; exact hLs) (Steps.refl _) (a := a) (argsL := argsL) (rest := rest) (lenOf hpd hln) hst (by show 2 * 0 + _ ≤ _; omega) (hb C.b hd) (fun _ _ => ⟨rfl, eT, hce, hsl⟩)
  dsimp only [Pt.U, Pt.locs, Pt.cells, Pt.slots] at X' l1 y1 z1 st hQ
  subst l1 y1 z1
  exact Go.via (fun t q => st.trans q) (kk T' v L X' hQ)
theorem g_callV {y : MethodName} {bytes : ByteArray} {maxL W index : Nat} {ret : Option FieldType} {rm : Room} {argsL rest : List Value} {ps : List FieldType} {r : Option FieldType} {Qc : Option Value → Heap → List Loc → Prop} (C : Cx Z a0 p s m meth c bs ml own nm rt) (X : Stand p l e R s m args below meth c T locs cells slots)
    (hd : decode bs pc = .ok (.invokevirtual index, 3)) (eT : T.heap = h) {K : String} (E : Exa Z h a K) (wd : (Jvm.Cond.declares y).before a0 Z = true) (wn : (Jvm.Cond.selects K y y).before a0 Z = true) 
    (w1 : (Jvm.Cond.methodLink own index y).before a0 Z = true) (w2 : (Jvm.Cond.instanceMethod y).before a0 Z = true) (w3 : (Jvm.Cond.initialized y.cls).before a0 Z = true) (w4 : (Jvm.Cond.code y bytes maxL ret).before a0 Z = true)
    (hM : MetFree l y (head1 [Jvm.Cond.code y bytes maxL ret] rm) (fun a' U => a' = (Value.ref a :: argsL).toArray ∧ Z.Warmed39 U.vm ∧ U.heap = h) (fun _ _ _ _ _ => True) (fun _ U o U' => ∃ v L, o = .returned v ∧ Qc v U'.heap L ∧ FrameEnd U o U' L rm.cells rm.slots))
    (hy : y.cls ≠ "java/lang/invoke/MethodHandle" ∧ y.cls ≠ "java/lang/invoke/VarHandle") (hpd : parseMethodDescriptor y.desc = some ⟨ps, r⟩) (hln : argsL.length = ps.length)
    (hst : St = argsL.reverse ++ .ref a :: rest) (hLs : Ls.size = ml) (hW : (rest.map fun v => v.category).sum ≤ W) (hfr : rm.frames + 1 ≤ R.frames) (hlo : W + (maxL + 11) + rm.locals ≤ R.locals) (hce : cells + rm.cells ≤ R.cells) (hsl : slots + rm.slots ≤ R.slots) (hp : pc + 3 = pc')
    (kk : ∀ T' v L, Stand p l e R s m args below meth c T' (locs ++ L) (cells + rm.cells) (slots + rm.slots) → Qc v T'.heap L → Go p e below s m Q Cc Sc T' pc' Ls (v.toList ++ rest)) : Go p e below s m Q Cc Sc T pc Ls St := by
  subst hp
  obtain ⟨cq, kq, qa, qb, qc⟩ := isOf C.z eT E
  obtain ⟨v, _, ⟨T', L', k', n'⟩, -, X', ⟨L, hQ, l1, y1, z1⟩, st⟩ := X.virtualBack C.x (y := y) (z := y) C.o (mvT C.z w1) (mvT C.z wd) (notFace_of_selects (args := #[]) (mvT C.z wn)) (mvT C.z wn) (mvT C.z w2) hy (backOf (W := W) hM C.z w4 w3 hfr hlo) qa qc (g := mkF m pc Ls St) rfl (by rw [C.mx]; exact hLs) (Steps.refl _) (argsL := argsL) (rest := rest) (lenOf hpd hln) hst (by show 2 * 0 + _ ≤ _; omega) (hb C.b hd) (fun _ _ => ⟨rfl, eT, hce, hsl⟩)
  dsimp only [Pt.U, Pt.locs, Pt.cells, Pt.slots] at X' l1 y1 z1 st hQ
  subst l1 y1 z1
  exact Go.via (fun t q => st.trans q) (kk T' v L X' hQ)
theorem g_getfield {R0 O nf df : String} {index : Nat} {v : Value} (C : Cx Z a0 p s m meth c bs ml own nm rt) (X : Stand p l e R s m args below meth c T locs cells slots) (hd : decode bs pc = .ok (.getfield index, 3)) (eT : T.heap = h) (w : (Jvm.Cond.fieldLink own index R0 nf df).before a0 Z = true) (via : Via Z R0 O nf df) (F : Fld Z h a O nf df v) (hp : pc + 3 = pc')
    (kk : ∀ T', Stand p l e R s m args below meth c T' locs cells slots → T'.heap = h → Go p e below s m Q Cc Sc T' pc' Ls (v :: St)) : Go p e below s m Q Cc Sc T pc Ls (.ref a :: St) := by
  subst hp
  obtain ⟨T', X', e', st⟩ := getF X C.x C.z C.o (host := "") (Or.inl w) via eT F (g := mkF m pc Ls (.ref a :: St)) rfl rfl (hb C.b hd)
  exact Go.via st (kk T' X' e')
theorem g_new {K : String} {index n : Nat} (C : Cx Z a0 p s m meth c bs ml own nm rt) (X : Stand p l e R s m args below meth c T locs cells slots) (hd : decode bs pc = .ok (.new index, 3)) (eT : T.heap = h) (w1 : (Jvm.Cond.classLink own index K).before a0 Z = true) (w2 : (Jvm.Cond.instantiable K n).before a0 Z = true) (w3 : (Jvm.Cond.initialized K).before a0 Z = true) (hc : cells + 1 ≤ R.cells) (hl : slots + n ≤ R.slots) (hp : pc + 3 = pc')
    (kk : ∀ T' h', Stand p l e R s m args below meth c T' locs (cells + 1) (slots + n) → T'.heap = h' → Ext h h' → h.size < h'.size → ∀ a, a = h.size → Exa Z h' a K → (∀ {O nf d : String} {ty : FieldType}, Laid Z a0 K O nf d → parseFieldDescriptor d = some ty → Fld Z h' a O nf d (defaultValue ty)) → Go p e below s m Q Cc Sc T' pc' Ls (.ref a :: St)) : Go p e below s m Q Cc Sc T pc Ls St := by
  subst hp
  obtain ⟨T', h', X', e', E, A, D, -, st⟩ := newO X C.x C.z C.o w1 w2 w3 eT (g := mkF m pc Ls St) rfl (hb C.b hd) hc hl
  exact Go.via st (kk T' h' X' e' E A.lt _ rfl A D)
theorem g_putfield {R0 O nf df K : String} {index kk' : Nat} {ty : FieldType} {v old : Value} (C : Cx Z a0 p s m meth c bs ml own nm rt) (X : Stand p l e R s m args below meth c T locs cells slots) (hd : decode bs pc = .ok (.putfield index, 3)) (eT : T.heap = h) (w : (Jvm.Cond.fieldLink own index R0 nf df).before a0 Z = true) (via : Via Z R0 O nf df) (F : Fld Z h a O nf df old) (E : Exa Z h a K) (L : (Jvm.Cond.lays K O nf df).before a0 Z = true ∨ ((Jvm.Cond.laysFinal K O nf df).before a0 Z = true ∧ own = O ∧ nm = "<init>")) (wi : (Jvm.Cond.instantiable K kk').before a0 Z = true) (hty : parseFieldDescriptor df = some ty) (hn : narrow ty v = v) (hf : fits ty v = true) (hp : pc + 3 = pc')
    (kk : ∀ T' h', Stand p l e R s m args below meth c T' (locs ++ [⟨a, Jvm.RoadKit.slotOf Z O nf df⟩]) cells slots → T'.heap = h' → Wr h h' a (Jvm.RoadKit.slotOf Z O nf df) v → Fld Z h' a O nf df v → Exa Z h' a K → Go p e below s m Q Cc Sc T' pc' Ls St) : Go p e below s m Q Cc Sc T pc Ls (v :: .ref a :: St) := by
  subst hp
  obtain ⟨T', h', X', e', W, st⟩ := putF X C.x C.z C.o (host := "") (Or.inl w) via eT F E (L.imp id fun q => ⟨q.1, q.2.1, by rw [C.n]; exact q.2.2⟩) wi hty hn hf (g := mkF m pc Ls (v :: .ref a :: St)) rfl rfl (hb C.b hd)
  exact Go.via st (kk T' h' X' e' W (F.same W) (E.wr W))
theorem g_initO {idx W : Nat} (C : Cx Z a0 p s m meth c bs ml own nm rt) (X : Stand p l e R s m args below meth c T locs cells slots) (hd : decode bs pc = .ok (.invokespecial idx, 3)) (eT : T.heap = h) (w1 : (Jvm.Cond.methodLink own idx Lib.objectInit).before a0 Z = true) (w2 : (Jvm.Cond.instanceMethod Lib.objectInit).before a0 Z = true) (w3 : (Jvm.Cond.code Lib.objectInit ⟨#[0xb1]⟩ 1 none).before a0 Z = true) (hLs : Ls.size = ml) (hf : 1 ≤ R.frames) (hW : (St.map fun v => v.category).sum ≤ W) (hl : W + 12 ≤ R.locals) (hp : pc + 3 = pc')
    (kk : ∀ T', Stand p l e R s m args below meth c T' locs cells slots → T'.heap = h → Go p e below s m Q Cc Sc T' pc' Ls St) : Go p e below s m Q Cc Sc T pc Ls (.ref a :: St) := by
  subst hp
  obtain ⟨T', X', e', st⟩ := initO X C.x C.z C.o w1 w2 w3 eT (g := mkF m pc Ls (.ref a :: St)) rfl (by rw [C.mx]; exact hLs) rfl (hb C.b hd) hf (W := W) (by show 2 * 0 + _ ≤ _; omega) hl
  exact Go.via st (kk T' X' e')
end Own
/-- numbers -/
theorem own_inj32 {x y : Int32} (h : x.toInt = y.toInt) : x = y := Int32.toInt_inj.mp h
theorem own_inj64 {x y : Int64} (h : x.toInt = y.toInt) : x = y := Int64.toInt_inj.mp h
theorem own_nz32 {x : Int32} (h : 1 ≤ x.toInt) : x ≠ 0 := fun q => by rw [q] at h; revert h; decide
theorem own_nz64 {x : Int64} (h : 1 ≤ x.toInt) : x ≠ 0 := fun q => by rw [q] at h; revert h; decide
abbrev LQ (n0 : Nat) : Option Value → Heap → List Loc → Prop := fun v _ L => v = some (.int 1) ∧ Fr n0 L
def own_get : Value → Int32
  | .int w => w
  | _ => 0
theorem own_ints {Z : State} {h : Heap} {a : Addr} {ty : FieldType} {n : Nat} {F : Nat → Value} (A : Aw Z h a ty n F) (hq : ∀ j, j < n → F j = .int (own_get (F j))) : ∃ f : Nat → Int32, Aw Z h a ty n (fun j => .int (f j)) := ⟨fun j => own_get (F j), A.of hq⟩
theorem d1_0 : decode method_3_code 0 = .ok (.iload 5, 2) := by decide +kernel
theorem d1_2 : decode method_3_code 2 = .ok (.iload 4, 2) := by decide +kernel
theorem d1_4 : decode method_3_code 4 = .ok (.if_icmp .ge 18, 3) := by decide +kernel
theorem d1_7 : decode method_3_code 7 = .ok (.aload_n 0, 1) := by decide +kernel
theorem d1_8 : decode method_3_code 8 = .ok (.iload_n 1, 1) := by decide +kernel
theorem d1_9 : decode method_3_code 9 = .ok (.iload 5, 2) := by decide +kernel
theorem d1_11 : decode method_3_code 11 = .ok (.iadd, 1) := by decide +kernel
theorem d1_12 : decode method_3_code 12 = .ok (.baload, 1) := by decide +kernel
theorem d1_13 : decode method_3_code 13 = .ok (.aload_n 2, 1) := by decide +kernel
theorem d1_14 : decode method_3_code 14 = .ok (.iload_n 3, 1) := by decide +kernel
theorem d1_15 : decode method_3_code 15 = .ok (.iload 5, 2) := by decide +kernel
theorem d1_17 : decode method_3_code 17 = .ok (.iadd, 1) := by decide +kernel
theorem d1_18 : decode method_3_code 18 = .ok (.baload, 1) := by decide +kernel
theorem d1_19 : decode method_3_code 19 = .ok (.if_icmp .ne 7, 3) := by decide +kernel
theorem d1_22 : decode method_3_code 22 = .ok (.iconst 1, 1) := by decide +kernel
theorem d1_23 : decode method_3_code 23 = .ok (.goto 4, 3) := by decide +kernel
theorem d1_26 : decode method_3_code 26 = .ok (.iconst 0, 1) := by decide +kernel
theorem d1_27 : decode method_3_code 27 = .ok (.ireturn, 1) := by decide +kernel
theorem pn_1 : plainFor (⟨"com/example/framewright/framewright/ModifiedUtf8SameBytesPinLaw", "eq", "([BI[BIII)Z"⟩ : MethodName) = true := plainFor_of_name (by first | (simp [plainName, overriddenIn]; done) | decide +kernel)
theorem pd_1 : parseMethodDescriptor "([BI[BIII)Z" = some ⟨[(.array .byte), .int, (.array .byte), .int, .int, .int], some .boolean⟩ := by decide +kernel
theorem ef_1 (x0 : Addr) (x1 : Int32) (x2 : Addr) (x3 : Int32) (x4 : Int32) (x5 : Int32) (m : MethodId) : entryFrame m #[(.ref x0), (.int x1), (.ref x2), (.int x3), (.int x4), (.int x5)] 6 = mkF m 0 #[.val (.ref x0), .val (.int x1), .val (.ref x2), .val (.int x3), .val (.int x4), .val (.int x5)] [] := by first | (simp [entryFrame, mkF, argsToLocals, Value.category]; done) | rfl
theorem d2_0 : decode prog_17_method_7_code 0 = .ok (.iload_n 2, 1) := by decide +kernel
theorem d2_1 : decode prog_17_method_7_code 1 = .ok (.iload_n 1, 1) := by decide +kernel
theorem d2_2 : decode prog_17_method_7_code 2 = .ok (.isub, 1) := by decide +kernel
theorem d2_3 : decode prog_17_method_7_code 3 = .ok (.iload 5, 2) := by decide +kernel
theorem d2_5 : decode prog_17_method_7_code 5 = .ok (.iload 4, 2) := by decide +kernel
theorem d2_7 : decode prog_17_method_7_code 7 = .ok (.isub, 1) := by decide +kernel
theorem d2_8 : decode prog_17_method_7_code 8 = .ok (.if_icmp .eq 5, 3) := by decide +kernel
theorem d2_11 : decode prog_17_method_7_code 11 = .ok (.iconst 0, 1) := by decide +kernel
theorem d2_12 : decode prog_17_method_7_code 12 = .ok (.ireturn, 1) := by decide +kernel
theorem d2_13 : decode prog_17_method_7_code 13 = .ok (.iconst 0, 1) := by decide +kernel
theorem d2_14 : decode prog_17_method_7_code 14 = .ok (.istore 6, 2) := by decide +kernel
theorem d2_16 : decode prog_17_method_7_code 16 = .ok (.iload 6, 2) := by decide +kernel
theorem d2_18 : decode prog_17_method_7_code 18 = .ok (.iload_n 2, 1) := by decide +kernel
theorem d2_19 : decode prog_17_method_7_code 19 = .ok (.iload_n 1, 1) := by decide +kernel
theorem d2_20 : decode prog_17_method_7_code 20 = .ok (.isub, 1) := by decide +kernel
theorem d2_21 : decode prog_17_method_7_code 21 = .ok (.if_icmp .ge 27, 3) := by decide +kernel
theorem d2_24 : decode prog_17_method_7_code 24 = .ok (.aload_n 0, 1) := by decide +kernel
theorem d2_25 : decode prog_17_method_7_code 25 = .ok (.iload_n 1, 1) := by decide +kernel
theorem d2_26 : decode prog_17_method_7_code 26 = .ok (.iload 6, 2) := by decide +kernel
theorem d2_28 : decode prog_17_method_7_code 28 = .ok (.iadd, 1) := by decide +kernel
theorem d2_29 : decode prog_17_method_7_code 29 = .ok (.baload, 1) := by decide +kernel
theorem d2_30 : decode prog_17_method_7_code 30 = .ok (.aload_n 3, 1) := by decide +kernel
theorem d2_31 : decode prog_17_method_7_code 31 = .ok (.iload 4, 2) := by decide +kernel
theorem d2_33 : decode prog_17_method_7_code 33 = .ok (.iload 6, 2) := by decide +kernel
theorem d2_35 : decode prog_17_method_7_code 35 = .ok (.iadd, 1) := by decide +kernel
theorem d2_36 : decode prog_17_method_7_code 36 = .ok (.baload, 1) := by decide +kernel
theorem d2_37 : decode prog_17_method_7_code 37 = .ok (.if_icmp .eq 5, 3) := by decide +kernel
theorem d2_40 : decode prog_17_method_7_code 40 = .ok (.iconst 0, 1) := by decide +kernel
theorem d2_41 : decode prog_17_method_7_code 41 = .ok (.ireturn, 1) := by decide +kernel
theorem d2_42 : decode prog_17_method_7_code 42 = .ok (.iinc 6 1, 3) := by decide +kernel
theorem d2_45 : decode prog_17_method_7_code 45 = .ok (.goto (-29), 3) := by decide +kernel
theorem d2_48 : decode prog_17_method_7_code 48 = .ok (.iconst 1, 1) := by decide +kernel
theorem d2_49 : decode prog_17_method_7_code 49 = .ok (.ireturn, 1) := by decide +kernel
theorem pn_2 : plainFor (⟨"com/example/framewright/framewright/ModifiedUtf8", "sameBytes", "([BII[BII)Z"⟩ : MethodName) = true := plainFor_of_name (by first | (simp [plainName, overriddenIn]; done) | decide +kernel)
theorem pd_2 : parseMethodDescriptor "([BII[BII)Z" = some ⟨[(.array .byte), .int, .int, (.array .byte), .int, .int], some .boolean⟩ := by decide +kernel
theorem ef_2 (x0 : Addr) (x1 : Int32) (x2 : Int32) (x3 : Addr) (x4 : Int32) (x5 : Int32) (m : MethodId) : entryFrame m #[(.ref x0), (.int x1), (.int x2), (.ref x3), (.int x4), (.int x5)] 7 = mkF m 0 #[.val (.ref x0), .val (.int x1), .val (.int x2), .val (.ref x3), .val (.int x4), .val (.int x5), .unset] [] := by first | (simp [entryFrame, mkF, argsToLocals, Value.category]; done) | rfl
theorem d3_0 : decode jdk_29_method_69_code 0 = .ok (.iload_n 0, 1) := by decide +kernel
theorem d3_1 : decode jdk_29_method_69_code 1 = .ok (.iload_n 1, 1) := by decide +kernel
theorem d3_2 : decode jdk_29_method_69_code 2 = .ok (.if_icmp .gt 7, 3) := by decide +kernel
theorem d3_5 : decode jdk_29_method_69_code 5 = .ok (.iload_n 0, 1) := by decide +kernel
theorem d3_6 : decode jdk_29_method_69_code 6 = .ok (.goto 4, 3) := by decide +kernel
theorem d3_9 : decode jdk_29_method_69_code 9 = .ok (.iload_n 1, 1) := by decide +kernel
theorem d3_10 : decode jdk_29_method_69_code 10 = .ok (.ireturn, 1) := by decide +kernel
theorem pn_3 : plainFor (⟨"java/lang/Math", "min", "(II)I"⟩ : MethodName) = true := Jvm.Free.JP.mathPlain rfl (by decide +kernel)
theorem pd_3 : parseMethodDescriptor "(II)I" = some ⟨[.int, .int], some .int⟩ := by decide +kernel
theorem ef_3 (x0 : Int32) (x1 : Int32) (m : MethodId) : entryFrame m #[(.int x0), (.int x1)] 2 = mkF m 0 #[.val (.int x0), .val (.int x1)] [] := by first | (simp [entryFrame, mkF, argsToLocals, Value.category]; done) | rfl
theorem pn_0 : plainFor x = true := plainFor_of_name (by first | (simp [plainName, overriddenIn]; done) | decide +kernel)
theorem pd_0 : parseMethodDescriptor "(III)Z" = some ⟨[.int, .int, .int], some .boolean⟩ := by decide +kernel
theorem ef_0 (x0 : Int32) (x1 : Int32) (x2 : Int32) (m : MethodId) : entryFrame m #[(.int x0), (.int x1), (.int x2)] maxLocals = mkF m 0 #[.val (.int x0), .val (.int x1), .val (.int x2), .unset, .unset, .unset, .unset, .unset, .unset, .unset, .unset, .unset, .unset] [] := by first | (simp [entryFrame, mkF, argsToLocals, Value.category, maxLocals]; done) | rfl
def Q_rm3 (Z : State) (x0 : Int32) (x1 : Int32) (h0 : Heap) (n0 : Nat) (v : Option Value) (h : Heap) (L : List Loc) : Prop := (∃ r : Int32, v = some (.int r) ∧ r.toInt ≤ x0.toInt ∧ r.toInt ≤ x1.toInt ∧ (r.toInt = x0.toInt ∨ r.toInt = x1.toInt)) ∧ Fr n0 L ∧ h = h0
set_option maxRecDepth 65536 in
set_option maxHeartbeats 40000000 in
theorem rm3 (l : Launch) (Z : State) (a0 : Array Value) (hw : ∀ d ∈ tables_1, d.before a0 Z = true) (ws : List Jvm.Cond) (x0 : Int32) (x1 : Int32) (h0 : Heap) (n0 : Nat) (Z0 : n0 ≤ h0.size) :
    MetFree l (⟨"java/lang/Math", "min", "(II)I"⟩ : MethodName) (head1 (Jvm.Cond.code (⟨"java/lang/Math", "min", "(II)I"⟩ : MethodName) jdk_29_method_69_code 2 (some .int) :: ws) ({ frames := 0, cells := 0, slots := 0, locals := 0 } : Room)) (fun aa U => aa = #[(.int x0), (.int x1)] ∧ Z.Warmed39 U.vm ∧ U.heap = h0) (fun _ _ _ _ _ => True) (fun _ U oo U' => ∃ rv Lr, oo = .returned rv ∧ Q_rm3 Z x0 x1 h0 n0 rv U'.heap Lr ∧ FrameEnd U oo U' Lr ({ frames := 0, cells := 0, slots := 0, locals := 0 } : Room).cells ({ frames := 0, cells := 0, slots := 0, locals := 0 } : Room).slots) := by
  refine g_enter pn_3 hw (ef_3 x0 x1) ?_
  intro p e s m below meth c T0 C X0 e0
  have C : Cx Z a0 p s m meth c jdk_29_method_69_code 2 "java/lang/Math" "min" (some .int) := C
  have N0 := Fr.nil n0
  refine g_iloadN C X0 d3_0 rfl rfl ?_
  refine g_iloadN C X0 d3_1 rfl rfl ?_
  refine g_icmp C X0 d3_2 (by decide) rfl rfl ?_ ?_
  · intro h2
    have h2 : x0.toInt > x1.toInt := h2
    refine g_iloadN C X0 d3_9 rfl rfl ?_
    exact g_ireturn C X0 d3_10 rfl ⟨⟨_, rfl, by omega, by omega, by omega⟩, N0, e0⟩ (by decide) (by decide)
  · intro h2
    have h2 : x0.toInt ≤ x1.toInt := h2
    refine g_iloadN C X0 d3_5 rfl rfl ?_
    refine g_goto C X0 d3_6 (by decide) rfl ?_
    exact g_ireturn C X0 d3_10 rfl ⟨⟨_, rfl, by omega, by omega, by omega⟩, N0, e0⟩ (by decide) (by decide)
def Q_rm1 (Z : State) (a : Addr) (x1 : Int32) (b : Addr) (x3 : Int32) (x4 : Int32) (x5 : Int32) (f : Nat → Int32) (g : Nat → Int32) (h0 : Heap) (n0 : Nat) (v : Option Value) (h : Heap) (L : List Loc) : Prop := (∃ r : Int32, v = some (.int r) ∧ (r = 1 ∧ (x4.toInt ≤ x5.toInt ∨ f (x1.toInt + x5.toInt).toNat = g (x3.toInt + x5.toInt).toNat) ∨ r = 0 ∧ ¬ (x4.toInt ≤ x5.toInt ∨ f (x1.toInt + x5.toInt).toNat = g (x3.toInt + x5.toInt).toNat))) ∧ Fr n0 L ∧ h = h0
set_option maxRecDepth 65536 in
set_option maxHeartbeats 40000000 in
theorem rm1 (l : Launch) (Z : State) (a0 : Array Value) (hw : ∀ d ∈ tables_1, d.before a0 Z = true) (ws : List Jvm.Cond) (a : Addr) (x1 : Int32) (b : Addr) (x3 : Int32) (x4 : Int32) (x5 : Int32) (f g : Nat → Int32) (h0 : Heap) (n0 : Nat) (Z0 : n0 ≤ h0.size) (A : Aw Z h0 a .byte 4 (fun j => .int (f j))) (B : Aw Z h0 b .byte 4 (fun j => .int (g j))) (a1 : 0 ≤ x1.toInt) (a2 : 0 ≤ x3.toInt) (k0 : 0 ≤ x5.toInt) (k1 : x1.toInt + x4.toInt ≤ 4) (k2 : x3.toInt + x4.toInt ≤ 4) :
    MetFree l (⟨"com/example/framewright/framewright/ModifiedUtf8SameBytesPinLaw", "eq", "([BI[BIII)Z"⟩ : MethodName) (head1 (Jvm.Cond.code (⟨"com/example/framewright/framewright/ModifiedUtf8SameBytesPinLaw", "eq", "([BI[BIII)Z"⟩ : MethodName) method_3_code 6 (some .boolean) :: ws) ({ frames := 0, cells := 0, slots := 0, locals := 0 } : Room)) (fun aa U => aa = #[(.ref a), (.int x1), (.ref b), (.int x3), (.int x4), (.int x5)] ∧ Z.Warmed39 U.vm ∧ U.heap = h0) (fun _ _ _ _ _ => True) (fun _ U oo U' => ∃ rv Lr, oo = .returned rv ∧ Q_rm1 Z a x1 b x3 x4 x5 f g h0 n0 rv U'.heap Lr ∧ FrameEnd U oo U' Lr ({ frames := 0, cells := 0, slots := 0, locals := 0 } : Room).cells ({ frames := 0, cells := 0, slots := 0, locals := 0 } : Room).slots) := by
  refine g_enter pn_1 hw (ef_1 a x1 b x3 x4 x5) ?_
  intro p e s m below meth c T0 C X0 e0
  have C : Cx Z a0 p s m meth c method_3_code 6 "com/example/framewright/framewright/ModifiedUtf8SameBytesPinLaw" "eq" (some .boolean) := C
  have N0 := Fr.nil n0
  have q1 := c_iadd x1 x5
  have q2 := c_iadd x3 x5
  have r1 := rng32 (x1 + x5)
  have r2 := rng32 (x3 + x5)
  refine g_iload C X0 d1_0 rfl rfl ?_
  refine g_iload C X0 d1_2 rfl rfl ?_
  refine g_icmp C X0 d1_4 (by decide) rfl rfl ?_ ?_
  · intro h4
    have h4 : x5.toInt ≥ x4.toInt := h4
    refine g_iconst C X0 (1 : Int32) d1_22 rfl rfl ?_
    refine g_goto C X0 d1_23 (by decide) rfl ?_
    exact g_ireturnN C X0 d1_27 rfl (Or.inl rfl) ⟨⟨(1 : Int32), rfl, Or.inl ⟨rfl, Or.inl (by omega)⟩⟩, N0, e0⟩ (by decide) (by decide)
  · intro h4
    have h4 : x5.toInt < x4.toInt := h4
    refine g_aloadN C X0 d1_7 rfl rfl ?_
    refine g_iloadN C X0 d1_8 rfl rfl ?_
    refine g_iload C X0 d1_9 rfl rfl ?_
    refine g_iadd C X0 d1_11 rfl ?_
    have e1 : (x1 + x5).toInt = x1.toInt + x5.toInt := by omega
    have e2 : (x3 + x5).toInt = x3.toInt + x5.toInt := by omega
    refine g_baload C X0 d1_12 e0 A (by omega) (by omega) (v := (.int (f (x1 + x5).toInt.toNat))) rfl rfl ?_
    refine g_aloadN C X0 d1_13 rfl rfl ?_
    refine g_iloadN C X0 d1_14 rfl rfl ?_
    refine g_iload C X0 d1_15 rfl rfl ?_
    refine g_iadd C X0 d1_17 rfl ?_
    refine g_baload C X0 d1_18 e0 B (by omega) (by omega) (v := (.int (g (x3 + x5).toInt.toNat))) rfl rfl ?_
    refine g_icmp C X0 d1_19 (by decide) rfl rfl ?_ ?_
    · intro h19
      have h19 : ¬ (f (x1 + x5).toInt.toNat).toInt = (g (x3 + x5).toInt.toNat).toInt := h19
      refine g_iconst C X0 (0 : Int32) d1_26 rfl rfl ?_
      exact g_ireturnN C X0 d1_27 rfl (Or.inl rfl) ⟨⟨(0 : Int32), rfl, Or.inr ⟨rfl, fun z => z.elim (fun q => by omega) (fun q => h19 (by rw [e1, e2, q]))⟩⟩, N0, e0⟩ (by decide) (by decide)
    · intro h19
      have h19 : (f (x1 + x5).toInt.toNat).toInt = (g (x3 + x5).toInt.toNat).toInt := h19
      refine g_iconst C X0 (1 : Int32) d1_22 rfl rfl ?_
      refine g_goto C X0 d1_23 (by decide) rfl ?_
      exact g_ireturnN C X0 d1_27 rfl (Or.inl rfl) ⟨⟨(1 : Int32), rfl, Or.inl ⟨rfl, Or.inr (by rw [e1, e2] at h19; exact own_inj32 h19)⟩⟩, N0, e0⟩ (by decide) (by decide)
set_option maxRecDepth 65536 in
set_option maxHeartbeats 40000000 in
theorem loop2 {p : Program} {l : Launch} {e : Env} {R : Room} {s : State} {m : MethodId} {args : Array Value} {below : List Frame} {meth : Method} {c : Code} {T0 : State} {locs : List Loc} {cells slots : Nat} {Z : State} {a0 : Array Value} {h0 : Heap} {Cc Sc : Nat} {a b : Addr} {x1 x2 x4 x5 : Int32} {f g : Nat → Int32} {n0 : Nat}
    (C : Cx Z a0 p s m meth c prog_17_method_7_code 7 "com/example/framewright/framewright/ModifiedUtf8" "sameBytes" (some .boolean)) (X0 : Stand p l e R s m args below meth c T0 locs cells slots) (e0 : T0.heap = h0) (A : Aw Z h0 a .byte 4 (fun j => .int (f j))) (B : Aw Z h0 b .byte 4 (fun j => .int (g j))) (N0 : Fr n0 locs) (hC : cells ≤ Cc) (hS : slots ≤ Sc) (a1 : 0 ≤ x1.toInt) (a2 : x1.toInt ≤ x2.toInt) (a3 : x2.toInt ≤ 4) (b1 : 0 ≤ x4.toInt) (b2 : x4.toInt ≤ x5.toInt) (b3 : x5.toInt ≤ 4) (hl : x2.toInt - x1.toInt = x5.toInt - x4.toInt) :
    ∀ (k : Nat) (iv : Int32), 0 ≤ iv.toInt → iv.toInt + k = x2.toInt - x1.toInt → (∀ j : Nat, (j : Int) < iv.toInt → f (x1.toInt + j).toNat = g (x4.toInt + j).toNat) →
    Go p e below s m (fun v h L => (∃ r : Int32, v = some (.int r) ∧ (r = 1 ∧ (x2.toInt - x1.toInt = x5.toInt - x4.toInt ∧ ∀ k : Nat, (k : Int) < x2.toInt - x1.toInt → f (x1.toInt + k).toNat = g (x4.toInt + k).toNat) ∨ r = 0 ∧ ¬ (x2.toInt - x1.toInt = x5.toInt - x4.toInt ∧ ∀ k : Nat, (k : Int) < x2.toInt - x1.toInt → f (x1.toInt + k).toNat = g (x4.toInt + k).toNat))) ∧ Fr n0 L ∧ h = h0) Cc Sc T0 16 #[.val (.ref a), .val (.int x1), .val (.int x2), .val (.ref b), .val (.int x4), .val (.int x5), .val (.int iv)] [] := by
  intro k
  have q1 := c_isub x2 x1
  have r1 := rng32 (x2 - x1)
  induction k with
  | zero =>
    intro iv i0 ik hp
    refine g_iload C X0 d2_16 rfl rfl ?_
    refine g_iloadN C X0 d2_18 rfl rfl ?_
    refine g_iloadN C X0 d2_19 rfl rfl ?_
    refine g_isub C X0 d2_20 rfl ?_
    refine g_icmp C X0 d2_21 (by decide) rfl rfl ?_ ?_
    · intro h21
      have h21 : iv.toInt ≥ (x2 - x1).toInt := h21
      refine g_iconst C X0 (1 : Int32) d2_48 rfl rfl ?_
      exact g_ireturnN C X0 d2_49 rfl (Or.inl rfl) ⟨⟨(1 : Int32), rfl, Or.inl ⟨rfl, hl, fun j hj => hp j (by omega)⟩⟩, N0, e0⟩ hC hS
    · intro h21
      have h21 : iv.toInt < (x2 - x1).toInt := h21
      exfalso; omega
  | succ k ih =>
    intro iv i0 ik hp
    refine g_iload C X0 d2_16 rfl rfl ?_
    refine g_iloadN C X0 d2_18 rfl rfl ?_
    refine g_iloadN C X0 d2_19 rfl rfl ?_
    refine g_isub C X0 d2_20 rfl ?_
    refine g_icmp C X0 d2_21 (by decide) rfl rfl ?_ ?_
    · intro h21
      have h21 : iv.toInt ≥ (x2 - x1).toInt := h21
      exfalso; omega
    · intro h21
      have h21 : iv.toInt < (x2 - x1).toInt := h21
      refine g_aloadN C X0 d2_24 rfl rfl ?_
      refine g_iloadN C X0 d2_25 rfl rfl ?_
      refine g_iload C X0 d2_26 rfl rfl ?_
      refine g_iadd C X0 d2_28 rfl ?_
      have q3 := c_iadd x1 iv
      have q4 := c_iadd x4 iv
      have r3 := rng32 (x1 + iv)
      have r4 := rng32 (x4 + iv)
      have e1 : (x1 + iv).toInt = x1.toInt + iv.toInt := by omega
      have e2 : (x4 + iv).toInt = x4.toInt + iv.toInt := by omega
      refine g_baload C X0 d2_29 e0 A (by omega) (by omega) (v := (.int (f (x1 + iv).toInt.toNat))) rfl rfl ?_
      refine g_aloadN C X0 d2_30 rfl rfl ?_
      refine g_iload C X0 d2_31 rfl rfl ?_
      refine g_iload C X0 d2_33 rfl rfl ?_
      refine g_iadd C X0 d2_35 rfl ?_
      refine g_baload C X0 d2_36 e0 B (by omega) (by omega) (v := (.int (g (x4 + iv).toInt.toNat))) rfl rfl ?_
      refine g_icmp C X0 d2_37 (by decide) rfl rfl ?_ ?_
      · intro h37
        have h37 : (f (x1 + iv).toInt.toNat).toInt = (g (x4 + iv).toInt.toNat).toInt := h37
        refine g_iincV C X0 d2_42 rfl (y := (1 : Int32)) rfl (fun v__ => #[.val (.ref a), .val (.int x1), .val (.int x2), .val (.ref b), .val (.int x4), .val (.int x5), .val (.int v__)]) rfl rfl ?_
        intro v42 h_v42
        refine g_goto C X0 d2_45 (by decide) rfl ?_
        have q5 := c_iadd iv (1 : Int32)
        rw [show (1 : Int32).toInt = 1 by decide, ← h_v42] at q5
        have r5 := rng32 v42
        have q6 : v42.toInt = iv.toInt + 1 := by omega
        refine ih v42 (by omega) (by omega) (fun j hj => ?_)
        by_cases q : (j : Int) < iv.toInt
        · exact hp j q
        · have ej : (j : Int) = iv.toInt := by omega
          rw [ej, ← e1, ← e2]
          exact own_inj32 h37
      · intro h37
        have h37 : ¬ (f (x1 + iv).toInt.toNat).toInt = (g (x4 + iv).toInt.toNat).toInt := h37
        refine g_iconst C X0 (0 : Int32) d2_40 rfl rfl ?_
        exact g_ireturnN C X0 d2_41 rfl (Or.inl rfl) ⟨⟨(0 : Int32), rfl, Or.inr ⟨rfl, fun z => h37 (by rw [e1, e2]; have := z.2 iv.toInt.toNat (by omega); rw [Int.toNat_of_nonneg i0] at this; rw [this])⟩⟩, N0, e0⟩ hC hS
def Q_rm2 (Z : State) (a : Addr) (x1 : Int32) (x2 : Int32) (b : Addr) (x4 : Int32) (x5 : Int32) (f : Nat → Int32) (g : Nat → Int32) (h0 : Heap) (n0 : Nat) (v : Option Value) (h : Heap) (L : List Loc) : Prop := (∃ r : Int32, v = some (.int r) ∧ (r = 1 ∧ (x2.toInt - x1.toInt = x5.toInt - x4.toInt ∧ ∀ k : Nat, (k : Int) < x2.toInt - x1.toInt → f (x1.toInt + k).toNat = g (x4.toInt + k).toNat) ∨ r = 0 ∧ ¬ (x2.toInt - x1.toInt = x5.toInt - x4.toInt ∧ ∀ k : Nat, (k : Int) < x2.toInt - x1.toInt → f (x1.toInt + k).toNat = g (x4.toInt + k).toNat))) ∧ Fr n0 L ∧ h = h0
set_option maxRecDepth 65536 in
set_option maxHeartbeats 40000000 in
theorem rm2 (l : Launch) (Z : State) (a0 : Array Value) (hw : ∀ d ∈ tables_1, d.before a0 Z = true) (ws : List Jvm.Cond) (a : Addr) (x1 : Int32) (x2 : Int32) (b : Addr) (x4 : Int32) (x5 : Int32) (f g : Nat → Int32) (h0 : Heap) (n0 : Nat) (Z0 : n0 ≤ h0.size) (A : Aw Z h0 a .byte 4 (fun j => .int (f j))) (B : Aw Z h0 b .byte 4 (fun j => .int (g j))) (a1 : 0 ≤ x1.toInt) (a2 : x1.toInt ≤ x2.toInt) (a3 : x2.toInt ≤ 4) (b1 : 0 ≤ x4.toInt) (b2 : x4.toInt ≤ x5.toInt) (b3 : x5.toInt ≤ 4) :
    MetFree l (⟨"com/example/framewright/framewright/ModifiedUtf8", "sameBytes", "([BII[BII)Z"⟩ : MethodName) (head1 (Jvm.Cond.code (⟨"com/example/framewright/framewright/ModifiedUtf8", "sameBytes", "([BII[BII)Z"⟩ : MethodName) prog_17_method_7_code 7 (some .boolean) :: ws) ({ frames := 0, cells := 0, slots := 0, locals := 0 } : Room)) (fun aa U => aa = #[(.ref a), (.int x1), (.int x2), (.ref b), (.int x4), (.int x5)] ∧ Z.Warmed39 U.vm ∧ U.heap = h0) (fun _ _ _ _ _ => True) (fun _ U oo U' => ∃ rv Lr, oo = .returned rv ∧ Q_rm2 Z a x1 x2 b x4 x5 f g h0 n0 rv U'.heap Lr ∧ FrameEnd U oo U' Lr ({ frames := 0, cells := 0, slots := 0, locals := 0 } : Room).cells ({ frames := 0, cells := 0, slots := 0, locals := 0 } : Room).slots) := by
  refine g_enter pn_2 hw (ef_2 a x1 x2 b x4 x5) ?_
  intro p e s m below meth c T0 C X0 e0
  have C : Cx Z a0 p s m meth c prog_17_method_7_code 7 "com/example/framewright/framewright/ModifiedUtf8" "sameBytes" (some .boolean) := C
  have N0 := Fr.nil n0
  have q1 := c_isub x2 x1
  have r1 := rng32 (x2 - x1)
  have q2 := c_isub x5 x4
  have r2 := rng32 (x5 - x4)
  refine g_iloadN C X0 d2_0 rfl rfl ?_
  refine g_iloadN C X0 d2_1 rfl rfl ?_
  refine g_isub C X0 d2_2 rfl ?_
  refine g_iload C X0 d2_3 rfl rfl ?_
  refine g_iload C X0 d2_5 rfl rfl ?_
  refine g_isub C X0 d2_7 rfl ?_
  refine g_icmp C X0 d2_8 (by decide) rfl rfl ?_ ?_
  · intro h8
    have h8 : (x2 - x1).toInt = (x5 - x4).toInt := h8
    refine g_iconst C X0 (0 : Int32) d2_13 rfl rfl ?_
    refine g_istore C X0 d2_14 #[.val (.ref a), .val (.int x1), .val (.int x2), .val (.ref b), .val (.int x4), .val (.int x5), .val (.int (0 : Int32))] rfl rfl ?_
    exact loop2 C X0 e0 A B N0 (by decide) (by decide) a1 a2 a3 b1 b2 b3 (by omega) (x2.toInt - x1.toInt).toNat (0 : Int32) (by decide) (by rw [show (0 : Int32).toInt = 0 by decide]; omega) (fun j hj => by rw [show (0 : Int32).toInt = 0 by decide] at hj; omega)
  · intro h8
    have h8 : ¬ (x2 - x1).toInt = (x5 - x4).toInt := h8
    refine g_iconst C X0 (0 : Int32) d2_11 rfl rfl ?_
    exact g_ireturnN C X0 d2_12 rfl (Or.inl rfl) ⟨⟨(0 : Int32), rfl, Or.inr ⟨rfl, fun z => h8 (by omega)⟩⟩, N0, e0⟩ (by decide) (by decide)
set_option maxRecDepth 65536 in
set_option maxHeartbeats 40000000 in
theorem seg275 {p : Program} {l : Launch} {e : Env} {s : State} {m : MethodId} {args : Array Value} {below : List Frame} {meth : Method} {c : Code} {T0 : State} {locs : List Loc} {Z : State} {a0 : Array Value} {h0 : Heap} {n0 : Nat} {x0 x1 x2 aS aL bS bL ro di ex : Int32} {a b : Addr} {f g : Nat → Int32}
    (C : Cx Z a0 p s m meth c code maxLocals "com/example/framewright/framewright/ModifiedUtf8SameBytesPinLaw" "law" ret) (X0 : Stand p l e room_1 s m args below meth c T0 locs 2 8) (e0 : T0.heap = h0) (N0 : Fr n0 locs) (Z0 : n0 ≤ h0.size) (A : Aw Z h0 a .byte 4 (fun j => .int (f j))) (B : Aw Z h0 b .byte 4 (fun j => .int (g j))) (a1 : 0 ≤ aS.toInt) (a2 : 0 ≤ aL.toInt) (a3 : aS.toInt + aL.toInt ≤ 4) (b1 : 0 ≤ bS.toInt) (b2 : 0 ≤ bL.toInt) (b3 : bS.toInt + bL.toInt ≤ 4) (hex : ex = 1 ∧ (aL.toInt = bL.toInt ∧ ∀ k : Nat, (k : Int) < aL.toInt → f (aS.toInt + k).toNat = g (bS.toInt + k).toNat) ∨ ex = 0 ∧ ¬ (aL.toInt = bL.toInt ∧ ∀ k : Nat, (k : Int) < aL.toInt → f (aS.toInt + k).toNat = g (bS.toInt + k).toNat)) :
    Go p e below s m (LQ n0) room_1.cells room_1.slots T0 275 #[.val (.int x0), .val (.int x1), .val (.int x2), .val (.int aS), .val (.int aL), .val (.int bS), .val (.int bL), .val (.int ro), .val (.int di), .val (.ref a), .val (.ref b), .unset, .unset] [(.int ex)] := by
  have q1 := c_iadd aS aL
  have r1 := rng32 (aS + aL)
  have q2 := c_iadd bS bL
  have r2 := rng32 (bS + bL)
  have e1 : (aS + aL).toInt = aS.toInt + aL.toInt := by omega
  have e2 : (bS + bL).toInt = bS.toInt + bL.toInt := by omega
  refine g_istore C X0 at_275 #[.val (.int x0), .val (.int x1), .val (.int x2), .val (.int aS), .val (.int aL), .val (.int bS), .val (.int bL), .val (.int ro), .val (.int di), .val (.ref a), .val (.ref b), .val (.int ex), .unset] rfl rfl ?_
  refine g_aload C X0 at_277 rfl rfl ?_
  refine g_iloadN C X0 at_279 rfl rfl ?_
  refine g_iloadN C X0 at_280 rfl rfl ?_
  refine g_iload C X0 at_281 rfl rfl ?_
  refine g_iadd C X0 at_283 rfl ?_
  refine g_aload C X0 at_284 rfl rfl ?_
  refine g_iload C X0 at_286 rfl rfl ?_
  refine g_iload C X0 at_288 rfl rfl ?_
  refine g_iload C X0 at_290 rfl rfl ?_
  refine g_iadd C X0 at_292 rfl ?_
  refine g_callS (argsL := [(.ref a), (.int aS), (.int (aS + aL)), (.ref b), (.int bS), (.int (bS + bL))]) (rest := []) (W := 0) C X0 at_293 e0 (C.t 5 rfl) (C.t 6 rfl) (C.t 7 rfl) (C.t 8 rfl) (rm2 l Z a0 C.w [] a aS (aS + aL) b bS (bS + bL) f g h0 n0 Z0 A B a1 (by omega) (by omega) b1 (by omega) (by omega)) (by decide) pd_2 rfl rfl rfl (Nat.le_of_eq rfl) (by decide) (by decide) (by decide) (by decide) rfl ?_
  intro T1 v1_ L1 X1 hQ1
  obtain ⟨⟨r1, rfl, hr1⟩, N1q, hh1⟩ := hQ1
  have N1 := Fr.app N0 N1q
  rw [e1, e2, show aS.toInt + aL.toInt - aS.toInt = aL.toInt by omega, show bS.toInt + bL.toInt - bS.toInt = bL.toInt by omega] at hr1
  have hsame : r1 = ex := by
    rcases hr1 with ⟨rfl, u⟩ | ⟨rfl, u⟩ <;> rcases hex with ⟨rfl, v⟩ | ⟨rfl, v⟩
    · rfl
    · exact absurd u v
    · exact absurd v u
    · rfl
  refine g_istore C X1 at_296 #[.val (.int x0), .val (.int x1), .val (.int x2), .val (.int aS), .val (.int aL), .val (.int bS), .val (.int bL), .val (.int ro), .val (.int di), .val (.ref a), .val (.ref b), .val (.int ex), .val (.int r1)] rfl rfl ?_
  refine g_iload C X1 at_298 rfl rfl ?_
  refine g_iload C X1 at_300 rfl rfl ?_
  refine g_icmp C X1 at_302 (by decide) rfl rfl ?_ ?_
  · intro h302
    have h302 : ¬ r1.toInt = ex.toInt := h302
    exact absurd (congrArg Int32.toInt hsame) h302
  · intro h302
    have h302 : r1.toInt = ex.toInt := h302
    refine g_iconst C X1 (1 : Int32) at_305 rfl rfl ?_
    refine g_goto C X1 at_306 (by decide) rfl ?_
    exact g_ireturnN C X1 at_310 rfl (Or.inl rfl) ⟨rfl, N1⟩ (by decide) (by decide)
set_option maxRecDepth 65536 in
set_option maxHeartbeats 40000000 in
theorem seg79 {p : Program} {l : Launch} {e : Env} {s : State} {m : MethodId} {args : Array Value} {below : List Frame} {meth : Method} {c : Code} {T0 : State} {locs : List Loc} {Z : State} {a0 : Array Value} {h0 : Heap} {n0 : Nat} {x0 x1 x2 aS aL bS bL ro di : Int32}
    (C : Cx Z a0 p s m meth c code maxLocals "com/example/framewright/framewright/ModifiedUtf8SameBytesPinLaw" "law" ret) (X0 : Stand p l e room_1 s m args below meth c T0 locs 0 0) (e0 : T0.heap = h0) (N0 : Fr n0 locs) (Z0 : n0 ≤ h0.size) (a1 : 0 ≤ aS.toInt) (a2 : 0 ≤ aL.toInt) (a3 : aS.toInt + aL.toInt ≤ 4) (b1 : 0 ≤ bS.toInt) (b2 : 0 ≤ bL.toInt) (b3 : bS.toInt + bL.toInt ≤ 4) :
    Go p e below s m (LQ n0) room_1.cells room_1.slots T0 79 #[.val (.int x0), .val (.int x1), .val (.int x2), .val (.int aS), .val (.int aL), .val (.int bS), .val (.int bL), .val (.int ro), .unset, .unset, .unset, .unset, .unset] [(.int di)] := by
  refine g_istore C X0 at_79 #[.val (.int x0), .val (.int x1), .val (.int x2), .val (.int aS), .val (.int aL), .val (.int bS), .val (.int bL), .val (.int ro), .val (.int di), .unset, .unset, .unset, .unset] rfl rfl ?_
  refine g_iconst C X0 (4 : Int32) at_81 rfl rfl ?_
  refine g_newarray (cap := 4) C X0 at_82 e0 (C.t 0 rfl) (by decide) (by decide) (by decide) (by decide) (by decide) rfl ?_
  intro T1 h1_ X1 e1 E1 lt1 ad1 ha1 A1
  have Z1 : n0 ≤ h1_.size := Nat.le_trans Z0 E1.1
  have g_ad1 : n0 ≤ ad1 := by omega
  refine g_astore C X1 at_84 #[.val (.int x0), .val (.int x1), .val (.int x2), .val (.int aS), .val (.int aL), .val (.int bS), .val (.int bL), .val (.int ro), .val (.int di), .val (.ref ad1), .unset, .unset, .unset] rfl rfl ?_
  refine g_aload C X1 at_86 rfl rfl ?_
  refine g_iconst C X1 (0 : Int32) at_88 rfl rfl ?_
  refine g_iloadN C X1 at_89 rfl rfl ?_
  refine g_i2b C X1 at_90 rfl ?_
  refine g_bastore C X1 at_91 e1 A1 (by decide) (by decide) rfl ?_
  intro T2 h2_ X2 e2 W2 A2
  have N2 := Fr.snoc X2 N0 g_ad1
  have Z2 : n0 ≤ h2_.size := Nat.le_trans Z1 (Keep.of_wr W2).1
  refine g_aload C X2 at_92 rfl rfl ?_
  refine g_iconst C X2 (1 : Int32) at_94 rfl rfl ?_
  refine g_iloadN C X2 at_95 rfl rfl ?_
  refine g_bipush C X2 (8 : Int32) at_96 rfl rfl ?_
  refine g_iushr C X2 at_98 rfl ?_
  refine g_i2b C X2 at_99 rfl ?_
  refine g_bastore C X2 at_100 e2 A2 (by decide) (by decide) rfl ?_
  intro T3 h3_ X3 e3 W3 A3
  have N3 := Fr.snoc X3 N2 g_ad1
  have Z3 : n0 ≤ h3_.size := Nat.le_trans Z2 (Keep.of_wr W3).1
  refine g_aload C X3 at_101 rfl rfl ?_
  refine g_iconst C X3 (2 : Int32) at_103 rfl rfl ?_
  refine g_iloadN C X3 at_104 rfl rfl ?_
  refine g_bipush C X3 (16 : Int32) at_105 rfl rfl ?_
  refine g_iushr C X3 at_107 rfl ?_
  refine g_i2b C X3 at_108 rfl ?_
  refine g_bastore C X3 at_109 e3 A3 (by decide) (by decide) rfl ?_
  intro T4 h4_ X4 e4 W4 A4
  have N4 := Fr.snoc X4 N3 g_ad1
  have Z4 : n0 ≤ h4_.size := Nat.le_trans Z3 (Keep.of_wr W4).1
  refine g_aload C X4 at_110 rfl rfl ?_
  refine g_iconst C X4 (3 : Int32) at_112 rfl rfl ?_
  refine g_iloadN C X4 at_113 rfl rfl ?_
  refine g_bipush C X4 (24 : Int32) at_114 rfl rfl ?_
  refine g_iushr C X4 at_116 rfl ?_
  refine g_i2b C X4 at_117 rfl ?_
  refine g_bastore C X4 at_118 e4 A4 (by decide) (by decide) rfl ?_
  intro T5 h5_ X5 e5 W5 A5
  have N5 := Fr.snoc X5 N4 g_ad1
  have Z5 : n0 ≤ h5_.size := Nat.le_trans Z4 (Keep.of_wr W5).1
  obtain ⟨fa, AA⟩ := own_ints A5 (by
    intro j hj
    have hj : j < 4 := hj
    have hj : j = 0 ∨ j = 1 ∨ j = 2 ∨ j = 3 := by omega
    rcases hj with rfl | rfl | rfl | rfl <;> rfl)
  have AA : Aw Z h5_ ad1 .byte 4 (fun j => .int (fa j)) := AA
  refine g_iconst C X5 (4 : Int32) at_119 rfl rfl ?_
  refine g_newarray (cap := 4) C X5 at_120 e5 (C.t 0 rfl) (by decide) (by decide) (by decide) (by decide) (by decide) rfl ?_
  intro T6 h6_ X6 e6 E6 lt6 ad6 ha6 A6
  have Z6 : n0 ≤ h6_.size := Nat.le_trans Z5 E6.1
  have ne_ad1_ad6 : ad1 ≠ ad6 := Nat.ne_of_lt (Nat.lt_of_lt_of_eq AA.lt ha6.symm)
  have A6_ad1 := AA.ext E6
  have g_ad6 : n0 ≤ ad6 := by omega
  refine g_astore C X6 at_122 #[.val (.int x0), .val (.int x1), .val (.int x2), .val (.int aS), .val (.int aL), .val (.int bS), .val (.int bL), .val (.int ro), .val (.int di), .val (.ref ad1), .val (.ref ad6), .unset, .unset] rfl rfl ?_
  refine g_aload C X6 at_124 rfl rfl ?_
  refine g_iconst C X6 (0 : Int32) at_126 rfl rfl ?_
  refine g_aload C X6 at_127 rfl rfl ?_
  refine g_iload C X6 at_129 rfl rfl ?_
  refine g_iconst C X6 (3 : Int32) at_131 rfl rfl ?_
  refine g_iand C X6 at_132 rfl ?_
  have mk133 := c_mask ro (3 : Int32) 2 (by decide) (by decide)
  have mk133 : (ro &&& (3 : Int32)).toInt = ro.toInt % 4 := mk133
  refine g_baload C X6 at_133 e6 A6_ad1 (by omega) (by omega) (v := (.int (fa (ro &&& (3 : Int32)).toInt.toNat))) rfl rfl ?_
  refine g_iload C X6 at_134 rfl rfl ?_
  refine g_ixor C X6 at_136 rfl ?_
  refine g_i2b C X6 at_137 rfl ?_
  refine g_bastore C X6 at_138 e6 A6 (by decide) (by decide) rfl ?_
  intro T7 h7_ X7 e7 W7 A7
  have N7 := Fr.snoc X7 N5 g_ad6
  have Z7 : n0 ≤ h7_.size := Nat.le_trans Z6 (Keep.of_wr W7).1
  have A7_ad1 := A6_ad1.other W7 ne_ad1_ad6
  refine g_aload C X7 at_139 rfl rfl ?_
  refine g_iconst C X7 (1 : Int32) at_141 rfl rfl ?_
  refine g_aload C X7 at_142 rfl rfl ?_
  refine g_iconst C X7 (1 : Int32) at_144 rfl rfl ?_
  refine g_iload C X7 at_145 rfl rfl ?_
  refine g_iadd C X7 at_147 rfl ?_
  refine g_iconst C X7 (3 : Int32) at_148 rfl rfl ?_
  refine g_iand C X7 at_149 rfl ?_
  have mk150 := c_mask ((1 : Int32) + ro) (3 : Int32) 2 (by decide) (by decide)
  have mk150 : (((1 : Int32) + ro) &&& (3 : Int32)).toInt = ((1 : Int32) + ro).toInt % 4 := mk150
  refine g_baload C X7 at_150 e7 A7_ad1 (by omega) (by omega) (v := (.int (fa (((1 : Int32) + ro) &&& (3 : Int32)).toInt.toNat))) rfl rfl ?_
  refine g_iload C X7 at_151 rfl rfl ?_
  refine g_bipush C X7 (8 : Int32) at_153 rfl rfl ?_
  refine g_iushr C X7 at_155 rfl ?_
  refine g_ixor C X7 at_156 rfl ?_
  refine g_i2b C X7 at_157 rfl ?_
  refine g_bastore C X7 at_158 e7 A7 (by decide) (by decide) rfl ?_
  intro T8 h8_ X8 e8 W8 A8
  have N8 := Fr.snoc X8 N7 g_ad6
  have Z8 : n0 ≤ h8_.size := Nat.le_trans Z7 (Keep.of_wr W8).1
  have A8_ad1 := A7_ad1.other W8 ne_ad1_ad6
  refine g_aload C X8 at_159 rfl rfl ?_
  refine g_iconst C X8 (2 : Int32) at_161 rfl rfl ?_
  refine g_aload C X8 at_162 rfl rfl ?_
  refine g_iconst C X8 (2 : Int32) at_164 rfl rfl ?_
  refine g_iload C X8 at_165 rfl rfl ?_
  refine g_iadd C X8 at_167 rfl ?_
  refine g_iconst C X8 (3 : Int32) at_168 rfl rfl ?_
  refine g_iand C X8 at_169 rfl ?_
  have mk170 := c_mask ((2 : Int32) + ro) (3 : Int32) 2 (by decide) (by decide)
  have mk170 : (((2 : Int32) + ro) &&& (3 : Int32)).toInt = ((2 : Int32) + ro).toInt % 4 := mk170
  refine g_baload C X8 at_170 e8 A8_ad1 (by omega) (by omega) (v := (.int (fa (((2 : Int32) + ro) &&& (3 : Int32)).toInt.toNat))) rfl rfl ?_
  refine g_iload C X8 at_171 rfl rfl ?_
  refine g_bipush C X8 (16 : Int32) at_173 rfl rfl ?_
  refine g_iushr C X8 at_175 rfl ?_
  refine g_ixor C X8 at_176 rfl ?_
  refine g_i2b C X8 at_177 rfl ?_
  refine g_bastore C X8 at_178 e8 A8 (by decide) (by decide) rfl ?_
  intro T9 h9_ X9 e9 W9 A9
  have N9 := Fr.snoc X9 N8 g_ad6
  have Z9 : n0 ≤ h9_.size := Nat.le_trans Z8 (Keep.of_wr W9).1
  have A9_ad1 := A8_ad1.other W9 ne_ad1_ad6
  refine g_aload C X9 at_179 rfl rfl ?_
  refine g_iconst C X9 (3 : Int32) at_181 rfl rfl ?_
  refine g_aload C X9 at_182 rfl rfl ?_
  refine g_iconst C X9 (3 : Int32) at_184 rfl rfl ?_
  refine g_iload C X9 at_185 rfl rfl ?_
  refine g_iadd C X9 at_187 rfl ?_
  refine g_iconst C X9 (3 : Int32) at_188 rfl rfl ?_
  refine g_iand C X9 at_189 rfl ?_
  have mk190 := c_mask ((3 : Int32) + ro) (3 : Int32) 2 (by decide) (by decide)
  have mk190 : (((3 : Int32) + ro) &&& (3 : Int32)).toInt = ((3 : Int32) + ro).toInt % 4 := mk190
  refine g_baload C X9 at_190 e9 A9_ad1 (by omega) (by omega) (v := (.int (fa (((3 : Int32) + ro) &&& (3 : Int32)).toInt.toNat))) rfl rfl ?_
  refine g_iload C X9 at_191 rfl rfl ?_
  refine g_bipush C X9 (24 : Int32) at_193 rfl rfl ?_
  refine g_iushr C X9 at_195 rfl ?_
  refine g_ixor C X9 at_196 rfl ?_
  refine g_i2b C X9 at_197 rfl ?_
  refine g_bastore C X9 at_198 e9 A9 (by decide) (by decide) rfl ?_
  intro T10 h10_ X10 e10 W10 A10
  have N10 := Fr.snoc X10 N9 g_ad6
  have Z10 : n0 ≤ h10_.size := Nat.le_trans Z9 (Keep.of_wr W10).1
  have A10_ad1 := A9_ad1.other W10 ne_ad1_ad6
  obtain ⟨fb, BB⟩ := own_ints A10 (by
    intro j hj
    have hj : j < 4 := hj
    have hj : j = 0 ∨ j = 1 ∨ j = 2 ∨ j = 3 := by omega
    rcases hj with rfl | rfl | rfl | rfl <;> rfl)
  have BB : Aw Z h10_ ad6 .byte 4 (fun j => .int (fb j)) := BB
  refine g_iload C X10 at_199 rfl rfl ?_
  refine g_iload C X10 at_201 rfl rfl ?_
  refine g_icmp C X10 at_203 (by decide) rfl rfl ?_ ?_
  · intro h203
    have h203 : ¬ aL.toInt = bL.toInt := h203
    refine g_iconst C X10 (0 : Int32) at_274 rfl rfl ?_
    exact seg275 C X10 e10 N10 Z10 A10_ad1 BB a1 a2 a3 b1 b2 b3 (Or.inr ⟨rfl, fun z => h203 z.1⟩)
  · intro h203
    have h203 : aL.toInt = bL.toInt := h203
    refine g_aload C X10 at_206 rfl rfl ?_
    refine g_iloadN C X10 at_208 rfl rfl ?_
    refine g_aload C X10 at_209 rfl rfl ?_
    refine g_iload C X10 at_211 rfl rfl ?_
    refine g_iload C X10 at_213 rfl rfl ?_
    refine g_iconst C X10 (0 : Int32) at_215 rfl rfl ?_
    refine g_callS (argsL := [(.ref ad1), (.int aS), (.ref ad6), (.int bS), (.int aL), (.int (0 : Int32))]) (rest := []) (W := 0) C X10 at_216 e10 (C.t 1 rfl) (C.t 2 rfl) (C.t 3 rfl) (C.t 4 rfl) (rm1 l Z a0 C.w [] ad1 aS ad6 bS aL (0 : Int32) fa fb h10_ n0 Z10 A10_ad1 BB a1 b1 (by decide) a3 (by omega)) (by decide) pd_1 rfl rfl rfl (Nat.le_of_eq rfl) (by decide) (by decide) (by decide) (by decide) rfl ?_
    intro T11 v11_ L11 X11 hQ11
    obtain ⟨⟨r11, rfl, hr11⟩, N11q, hh11⟩ := hQ11
    have N11 := Fr.app N10 N11q
    rw [show (0 : Int32).toInt = 0 by decide] at hr11
    rcases hr11 with ⟨rfl, u0⟩ | ⟨rfl, u0⟩
    · skip
      refine g_if C X11 at_219 (by decide) rfl rfl ?_ ?_
      · intro h219
        have h219 : (1 : Int) = 0 := h219
        exact absurd h219 (by decide)
      · intro h219
        have h219 : ¬ (1 : Int) = 0 := h219
        refine g_aload C X11 at_222 rfl rfl ?_
        refine g_iloadN C X11 at_224 rfl rfl ?_
        refine g_aload C X11 at_225 rfl rfl ?_
        refine g_iload C X11 at_227 rfl rfl ?_
        refine g_iload C X11 at_229 rfl rfl ?_
        refine g_iconst C X11 (1 : Int32) at_231 rfl rfl ?_
        refine g_callS (argsL := [(.ref ad1), (.int aS), (.ref ad6), (.int bS), (.int aL), (.int (1 : Int32))]) (rest := []) (W := 0) C X11 at_232 hh11 (C.t 1 rfl) (C.t 2 rfl) (C.t 3 rfl) (C.t 4 rfl) (rm1 l Z a0 C.w [] ad1 aS ad6 bS aL (1 : Int32) fa fb h10_ n0 Z10 A10_ad1 BB a1 b1 (by decide) a3 (by omega)) (by decide) pd_1 rfl rfl rfl (Nat.le_of_eq rfl) (by decide) (by decide) (by decide) (by decide) rfl ?_
        intro T12 v12_ L12 X12 hQ12
        obtain ⟨⟨r12, rfl, hr12⟩, N12q, hh12⟩ := hQ12
        have N12 := Fr.app N11 N12q
        rw [show (1 : Int32).toInt = 1 by decide] at hr12
        rcases hr12 with ⟨rfl, u1⟩ | ⟨rfl, u1⟩
        · skip
          refine g_if C X12 at_235 (by decide) rfl rfl ?_ ?_
          · intro h235
            have h235 : (1 : Int) = 0 := h235
            exact absurd h235 (by decide)
          · intro h235
            have h235 : ¬ (1 : Int) = 0 := h235
            refine g_aload C X12 at_238 rfl rfl ?_
            refine g_iloadN C X12 at_240 rfl rfl ?_
            refine g_aload C X12 at_241 rfl rfl ?_
            refine g_iload C X12 at_243 rfl rfl ?_
            refine g_iload C X12 at_245 rfl rfl ?_
            refine g_iconst C X12 (2 : Int32) at_247 rfl rfl ?_
            refine g_callS (argsL := [(.ref ad1), (.int aS), (.ref ad6), (.int bS), (.int aL), (.int (2 : Int32))]) (rest := []) (W := 0) C X12 at_248 hh12 (C.t 1 rfl) (C.t 2 rfl) (C.t 3 rfl) (C.t 4 rfl) (rm1 l Z a0 C.w [] ad1 aS ad6 bS aL (2 : Int32) fa fb h10_ n0 Z10 A10_ad1 BB a1 b1 (by decide) a3 (by omega)) (by decide) pd_1 rfl rfl rfl (Nat.le_of_eq rfl) (by decide) (by decide) (by decide) (by decide) rfl ?_
            intro T13 v13_ L13 X13 hQ13
            obtain ⟨⟨r13, rfl, hr13⟩, N13q, hh13⟩ := hQ13
            have N13 := Fr.app N12 N13q
            rw [show (2 : Int32).toInt = 2 by decide] at hr13
            rcases hr13 with ⟨rfl, u2⟩ | ⟨rfl, u2⟩
            · skip
              refine g_if C X13 at_251 (by decide) rfl rfl ?_ ?_
              · intro h251
                have h251 : (1 : Int) = 0 := h251
                exact absurd h251 (by decide)
              · intro h251
                have h251 : ¬ (1 : Int) = 0 := h251
                refine g_aload C X13 at_254 rfl rfl ?_
                refine g_iloadN C X13 at_256 rfl rfl ?_
                refine g_aload C X13 at_257 rfl rfl ?_
                refine g_iload C X13 at_259 rfl rfl ?_
                refine g_iload C X13 at_261 rfl rfl ?_
                refine g_iconst C X13 (3 : Int32) at_263 rfl rfl ?_
                refine g_callS (argsL := [(.ref ad1), (.int aS), (.ref ad6), (.int bS), (.int aL), (.int (3 : Int32))]) (rest := []) (W := 0) C X13 at_264 hh13 (C.t 1 rfl) (C.t 2 rfl) (C.t 3 rfl) (C.t 4 rfl) (rm1 l Z a0 C.w [] ad1 aS ad6 bS aL (3 : Int32) fa fb h10_ n0 Z10 A10_ad1 BB a1 b1 (by decide) a3 (by omega)) (by decide) pd_1 rfl rfl rfl (Nat.le_of_eq rfl) (by decide) (by decide) (by decide) (by decide) rfl ?_
                intro T14 v14_ L14 X14 hQ14
                obtain ⟨⟨r14, rfl, hr14⟩, N14q, hh14⟩ := hQ14
                have N14 := Fr.app N13 N14q
                rw [show (3 : Int32).toInt = 3 by decide] at hr14
                rcases hr14 with ⟨rfl, u3⟩ | ⟨rfl, u3⟩
                · skip
                  refine g_if C X14 at_267 (by decide) rfl rfl ?_ ?_
                  · intro h267
                    have h267 : (1 : Int) = 0 := h267
                    exact absurd h267 (by decide)
                  · intro h267
                    have h267 : ¬ (1 : Int) = 0 := h267
                    refine g_iconst C X14 (1 : Int32) at_270 rfl rfl ?_
                    refine g_goto C X14 at_271 (by decide) rfl ?_
                    exact seg275 C X14 hh14 N14 Z10 A10_ad1 BB a1 a2 a3 b1 b2 b3 (Or.inl ⟨rfl, by omega, fun k hk => by
                      have hk2 : k = 0 ∨ k = 1 ∨ k = 2 ∨ k = 3 := by omega
                      rcases hk2 with rfl | rfl | rfl | rfl
                      · exact u0.resolve_left (by omega)
                      · exact u1.resolve_left (by omega)
                      · exact u2.resolve_left (by omega)
                      · exact u3.resolve_left (by omega)⟩)
                · skip
                  refine g_if C X14 at_267 (by decide) rfl rfl ?_ ?_
                  · intro h267
                    have h267 : (0 : Int) = 0 := h267
                    refine g_iconst C X14 (0 : Int32) at_274 rfl rfl ?_
                    exact seg275 C X14 hh14 N14 Z10 A10_ad1 BB a1 a2 a3 b1 b2 b3 (Or.inr ⟨rfl, fun z => u3 ((Decidable.em (aL.toInt ≤ 3)).imp id (fun q => z.2 3 (by omega)))⟩)
                  · intro h267
                    have h267 : ¬ (0 : Int) = 0 := h267
                    exact absurd h267 (by decide)
            · skip
              refine g_if C X13 at_251 (by decide) rfl rfl ?_ ?_
              · intro h251
                have h251 : (0 : Int) = 0 := h251
                refine g_iconst C X13 (0 : Int32) at_274 rfl rfl ?_
                exact seg275 C X13 hh13 N13 Z10 A10_ad1 BB a1 a2 a3 b1 b2 b3 (Or.inr ⟨rfl, fun z => u2 ((Decidable.em (aL.toInt ≤ 2)).imp id (fun q => z.2 2 (by omega)))⟩)
              · intro h251
                have h251 : ¬ (0 : Int) = 0 := h251
                exact absurd h251 (by decide)
        · skip
          refine g_if C X12 at_235 (by decide) rfl rfl ?_ ?_
          · intro h235
            have h235 : (0 : Int) = 0 := h235
            refine g_iconst C X12 (0 : Int32) at_274 rfl rfl ?_
            exact seg275 C X12 hh12 N12 Z10 A10_ad1 BB a1 a2 a3 b1 b2 b3 (Or.inr ⟨rfl, fun z => u1 ((Decidable.em (aL.toInt ≤ 1)).imp id (fun q => z.2 1 (by omega)))⟩)
          · intro h235
            have h235 : ¬ (0 : Int) = 0 := h235
            exact absurd h235 (by decide)
    · skip
      refine g_if C X11 at_219 (by decide) rfl rfl ?_ ?_
      · intro h219
        have h219 : (0 : Int) = 0 := h219
        refine g_iconst C X11 (0 : Int32) at_274 rfl rfl ?_
        exact seg275 C X11 hh11 N11 Z10 A10_ad1 BB a1 a2 a3 b1 b2 b3 (Or.inr ⟨rfl, fun z => u0 ((Decidable.em (aL.toInt ≤ 0)).imp id (fun q => z.2 0 (by omega)))⟩)
      · intro h219
        have h219 : ¬ (0 : Int) = 0 := h219
        exact absurd h219 (by decide)
set_option maxRecDepth 65536 in
set_option maxHeartbeats 40000000 in
theorem seg57 {p : Program} {l : Launch} {e : Env} {s : State} {m : MethodId} {args : Array Value} {below : List Frame} {meth : Method} {c : Code} {T0 : State} {locs : List Loc} {Z : State} {a0 : Array Value} {h0 : Heap} {n0 : Nat} {x0 x1 x2 aS aL bS bL : Int32}
    (C : Cx Z a0 p s m meth c code maxLocals "com/example/framewright/framewright/ModifiedUtf8SameBytesPinLaw" "law" ret) (X0 : Stand p l e room_1 s m args below meth c T0 locs 0 0) (e0 : T0.heap = h0) (N0 : Fr n0 locs) (Z0 : n0 ≤ h0.size) (a1 : 0 ≤ aS.toInt) (a2 : 0 ≤ aL.toInt) (a3 : aS.toInt + aL.toInt ≤ 4) (b1 : 0 ≤ bS.toInt) (b2 : 0 ≤ bL.toInt) (b3 : bS.toInt + bL.toInt ≤ 4) :
    Go p e below s m (LQ n0) room_1.cells room_1.slots T0 57 #[.val (.int x0), .val (.int x1), .val (.int x2), .val (.int aS), .val (.int aL), .val (.int bS), .val (.int bL), .unset, .unset, .unset, .unset, .unset, .unset] [] := by
  refine g_iloadN C X0 at_57 rfl rfl ?_
  refine g_bipush C X0 (10 : Int32) at_58 rfl rfl ?_
  refine g_iushr C X0 at_60 rfl ?_
  refine g_iconst C X0 (3 : Int32) at_61 rfl rfl ?_
  refine g_iand C X0 at_62 rfl ?_
  refine g_istoreV C X0 at_63 (fun v__ => #[.val (.int x0), .val (.int x1), .val (.int x2), .val (.int aS), .val (.int aL), .val (.int bS), .val (.int bL), .val (.int v__), .unset, .unset, .unset, .unset, .unset]) rfl rfl ?_
  intro v63 h_v63
  refine g_iloadN C X0 at_65 rfl rfl ?_
  refine g_bipush C X0 (12 : Int32) at_66 rfl rfl ?_
  refine g_iushr C X0 at_68 rfl ?_
  refine g_iconst C X0 (1 : Int32) at_69 rfl rfl ?_
  refine g_iand C X0 at_70 rfl ?_
  refine g_if C X0 at_71 (by decide) rfl rfl ?_ ?_
  · intro h71
    have h71 : (((x2.toUInt32 >>> ((12 : Int32) &&& 31).toUInt32).toInt32) &&& (1 : Int32)).toInt = 0 := h71
    refine g_iloadN C X0 at_78 rfl rfl ?_
    exact seg79 C X0 e0 N0 Z0 a1 a2 a3 b1 b2 b3
  · intro h71
    have h71 : ¬ (((x2.toUInt32 >>> ((12 : Int32) &&& 31).toUInt32).toInt32) &&& (1 : Int32)).toInt = 0 := h71
    refine g_iconst C X0 (0 : Int32) at_74 rfl rfl ?_
    refine g_goto C X0 at_75 (by decide) rfl ?_
    exact seg79 C X0 e0 N0 Z0 a1 a2 a3 b1 b2 b3
set_option maxRecDepth 65536 in
set_option maxHeartbeats 40000000 in
theorem rm0 (l : Launch) (Z : State) (a0 : Array Value) (hw : ∀ d ∈ tables_1, d.before a0 Z = true) (ws : List Jvm.Cond) (x0 : Int32) (x1 : Int32) (x2 : Int32) (h0 : Heap) (n0 : Nat) (Z0 : n0 ≤ h0.size) :
    MetFree l x (head1 (Jvm.Cond.code x code maxLocals ret :: ws) room_1) (fun aa U => aa = #[(.int x0), (.int x1), (.int x2)] ∧ Z.Warmed39 U.vm ∧ U.heap = h0) (fun _ _ _ _ _ => True) (fun _ U oo U' => ∃ rv Lr, oo = .returned rv ∧ LQ n0 rv U'.heap Lr ∧ FrameEnd U oo U' Lr room_1.cells room_1.slots) := by
  refine g_enter pn_0 hw (ef_0 x0 x1 x2) ?_
  intro p e s m below meth c T0 C X0 e0
  have C : Cx Z a0 p s m meth c code maxLocals "com/example/framewright/framewright/ModifiedUtf8SameBytesPinLaw" "law" ret := C
  have N0 := Fr.nil n0
  refine g_iloadN C X0 at_0 rfl rfl ?_
  refine g_iconst C X0 (3 : Int32) at_1 rfl rfl ?_
  refine g_iand C X0 at_2 rfl ?_
  refine g_istoreNV C X0 at_3 (fun v__ => #[.val (.int x0), .val (.int x1), .val (.int x2), .val (.int v__), .unset, .unset, .unset, .unset, .unset, .unset, .unset, .unset, .unset]) rfl rfl ?_
  intro v3 h_v3
  have c3 := c_mask x2 (3 : Int32) 2 (by decide) (by decide)
  rw [← h_v3] at c3
  have c3 : 0 ≤ v3.toInt ∧ v3.toInt ≤ 3 := by rw [c3]; omega
  have s3 := c_isub (5 : Int32) v3
  rw [show (5 : Int32).toInt = 5 by decide] at s3
  have t3 := rng32 ((5 : Int32) - v3)
  have d3 : ((5 : Int32) - v3).toInt = 5 - v3.toInt := by omega
  refine g_iloadN C X0 at_4 rfl rfl ?_
  refine g_iconst C X0 (2 : Int32) at_5 rfl rfl ?_
  refine g_iushr C X0 at_6 rfl ?_
  refine g_bipush C X0 (7 : Int32) at_7 rfl rfl ?_
  refine g_iand C X0 at_9 rfl ?_
  refine g_iconst C X0 (5 : Int32) at_10 rfl rfl ?_
  refine g_iloadN C X0 at_11 rfl rfl ?_
  refine g_isub C X0 at_12 rfl ?_
  refine g_irem C X0 at_13 (own_nz32 (by omega)) rfl ?_
  refine g_istoreV C X0 at_14 (fun v__ => #[.val (.int x0), .val (.int x1), .val (.int x2), .val (.int v3), .val (.int v__), .unset, .unset, .unset, .unset, .unset, .unset, .unset, .unset]) rfl rfl ?_
  intro v14 h_v14
  have c14 := c_mask ((x2.toUInt32 >>> ((2 : Int32) &&& 31).toUInt32).toInt32) (7 : Int32) 3 (by decide) (by decide)
  have r14 := (c_iremV (((x2.toUInt32 >>> ((2 : Int32) &&& 31).toUInt32).toInt32) &&& (7 : Int32)) ((5 : Int32) - v3)).1 (by omega) (by omega)
  rw [← h_v14, d3] at r14
  refine g_iloadN C X0 at_16 rfl rfl ?_
  refine g_iconst C X0 (5 : Int32) at_17 rfl rfl ?_
  refine g_iushr C X0 at_18 rfl ?_
  refine g_iconst C X0 (3 : Int32) at_19 rfl rfl ?_
  refine g_iand C X0 at_20 rfl ?_
  refine g_istoreV C X0 at_21 (fun v__ => #[.val (.int x0), .val (.int x1), .val (.int x2), .val (.int v3), .val (.int v14), .val (.int v__), .unset, .unset, .unset, .unset, .unset, .unset, .unset]) rfl rfl ?_
  intro v21 h_v21
  have c21 := c_mask ((x2.toUInt32 >>> ((5 : Int32) &&& 31).toUInt32).toInt32) (3 : Int32) 2 (by decide) (by decide)
  rw [← h_v21] at c21
  have c21 : 0 ≤ v21.toInt ∧ v21.toInt ≤ 3 := by rw [c21]; omega
  have s21 := c_isub (5 : Int32) v21
  rw [show (5 : Int32).toInt = 5 by decide] at s21
  have t21 := rng32 ((5 : Int32) - v21)
  have d21 : ((5 : Int32) - v21).toInt = 5 - v21.toInt := by omega
  have f21 := c_isub (4 : Int32) v21
  rw [show (4 : Int32).toInt = 4 by decide] at f21
  have g21 := rng32 ((4 : Int32) - v21)
  have e21 : ((4 : Int32) - v21).toInt = 4 - v21.toInt := by omega
  refine g_iloadN C X0 at_23 rfl rfl ?_
  refine g_bipush C X0 (7 : Int32) at_24 rfl rfl ?_
  refine g_iushr C X0 at_26 rfl ?_
  refine g_bipush C X0 (7 : Int32) at_27 rfl rfl ?_
  refine g_iand C X0 at_29 rfl ?_
  refine g_iconst C X0 (5 : Int32) at_30 rfl rfl ?_
  refine g_iload C X0 at_31 rfl rfl ?_
  refine g_isub C X0 at_33 rfl ?_
  refine g_irem C X0 at_34 (own_nz32 (by omega)) rfl ?_
  refine g_istoreV C X0 at_35 (fun v__ => #[.val (.int x0), .val (.int x1), .val (.int x2), .val (.int v3), .val (.int v14), .val (.int v21), .val (.int v__), .unset, .unset, .unset, .unset, .unset, .unset]) rfl rfl ?_
  intro v35 h_v35
  have c35 := c_mask ((x2.toUInt32 >>> ((7 : Int32) &&& 31).toUInt32).toInt32) (7 : Int32) 3 (by decide) (by decide)
  have r35 := (c_iremV (((x2.toUInt32 >>> ((7 : Int32) &&& 31).toUInt32).toInt32) &&& (7 : Int32)) ((5 : Int32) - v21)).1 (by omega) (by omega)
  rw [← h_v35, d21] at r35
  refine g_iloadN C X0 at_37 rfl rfl ?_
  refine g_bipush C X0 (13 : Int32) at_38 rfl rfl ?_
  refine g_iushr C X0 at_40 rfl ?_
  refine g_iconst C X0 (1 : Int32) at_41 rfl rfl ?_
  refine g_iand C X0 at_42 rfl ?_
  refine g_if C X0 at_43 (by decide) rfl rfl ?_ ?_
  · intro h43
    have h43 : (((x2.toUInt32 >>> ((13 : Int32) &&& 31).toUInt32).toInt32) &&& (1 : Int32)).toInt = 0 := h43
    exact seg57 C X0 e0 N0 Z0 (by omega) (by omega) (by omega) (by omega) (by omega) (by omega)
  · intro h43
    have h43 : ¬ (((x2.toUInt32 >>> ((13 : Int32) &&& 31).toUInt32).toInt32) &&& (1 : Int32)).toInt = 0 := h43
    refine g_iload C X0 at_46 rfl rfl ?_
    refine g_iconst C X0 (4 : Int32) at_48 rfl rfl ?_
    refine g_iload C X0 at_49 rfl rfl ?_
    refine g_isub C X0 at_51 rfl ?_
    refine g_callS (argsL := [(.int v14), (.int ((4 : Int32) - v21))]) (rest := []) (W := 0) C X0 at_52 e0 (C.t 9 rfl) (C.t 10 rfl) (C.t 11 rfl) (C.t 12 rfl) (rm3 l Z a0 C.w [] v14 ((4 : Int32) - v21) h0 n0 Z0) (by decide) pd_3 rfl rfl rfl (Nat.le_of_eq rfl) (by decide) (by decide) (by decide) (by decide) rfl ?_
    intro T1 v1_ L1 X1 hQ1
    obtain ⟨⟨mn, rfl, m1, m2, m3⟩, N1q, hh1⟩ := hQ1
    have N1 := Fr.app N0 N1q
    refine g_istore C X1 at_55 #[.val (.int x0), .val (.int x1), .val (.int x2), .val (.int v3), .val (.int v14), .val (.int v21), .val (.int mn), .unset, .unset, .unset, .unset, .unset, .unset] rfl rfl ?_
    exact seg57 C X1 hh1 N1 Z0 (by omega) (by omega) (by omega) (by omega) (by omega) (by omega)
set_option maxRecDepth 65536 in
set_option maxHeartbeats 40000000 in
theorem comes_1 {Post : Tables → Env → Array Value → State → Outcome → State → Prop} (hpost : ∀ tb e args s v u, (limb_1_1.after args s (.returned v) u = true ∧ limb_1_2.after args s (.returned v) u = true ∧ True) → FrameEnd s (.returned v) u (Jvm.fieldLocs frame_1_writes args s ++ Jvm.arrayLocs frame_1_arrays args s ++ Jvm.staticLocs frame_1_statics s) 16 128 → Post tb e args s (.returned v) u) :
    ArmFor flags0 classFile x code maxLocals ret World_1 tables_1 room_1 Calls_1 rest_1 Pre_1 Post := by
  intro l hfl _ _ p e ha hc hk s m args below hf hA hF happ hP
  obtain ⟨hcalls, hrest, hpre⟩ := hP
  obtain ⟨-, -, -, hnamed, -, -, -, hat⟩ := (Spec.applies_iff hf).mp happ
  obtain ⟨hg, hn⟩ := and_e (Cond.before_iff.mp (show (Jvm.Cond.and given_1 narrow_1).before args s = true from hpre))
  obtain ⟨q0, g0⟩ := and_e hg
  obtain ⟨q1, g1⟩ := and_e g0
  obtain ⟨q2, g2⟩ := and_e g1
  have q3 := g2
  obtain ⟨w0, w1, w2, rfl⟩ : ∃ w0 w1 w2 : Value, args = #[w0, w1, w2] := by
    have hs : args.size = 3 := by simpa [Cond.value, given_1] using q0
    obtain ⟨L⟩ := args
    match L, hs with
    | [w0, w1, w2], _ => exact ⟨w0, w1, w2, rfl⟩
  have hw := fun d (hd : d ∈ tables_1) => atoms_spec (ws := Jvm.Cond.code x code maxLocals ret :: tables_1) hat d (List.mem_cons_of_mem _ hd)
  obtain ⟨i0, ei0⟩ := is_v q1
  obtain rfl : w0 = (.int i0) := Option.some.inj ei0
  obtain ⟨i1, ei1⟩ := is_v q2
  obtain rfl : w1 = (.int i1) := Option.some.inj ei1
  obtain ⟨i2, ei2⟩ := is_v q3
  obtain rfl : w2 = (.int i2) := Option.some.inj ei2
  obtain ⟨n, o, h1, h2, h3, _, L, rfl, ⟨rfl, N⟩, hq⟩ := rm0 l s _ hw tables_1 i0 i1 i2 s.heap s.heap.size (Nat.le_refl _) p e ha hc hk s m _ below hf ((Spec.applies_iff_loose hf).mp happ).1 ⟨rfl, State.Warmed39.refl s, rfl⟩ trivial
  refine ⟨n, _, h1, h2, h3, hpost _ _ _ _ _ _ ⟨Cond.after_iff.mpr rfl, Cond.after_iff.mpr (eq_i res_at (Term.int_eval (1)) rfl), trivial⟩ ⟨hq.1, hq.2.1, (hq.2.2.sift fun y hy => Or.inr (N y hy)).mono (by decide) (by decide)⟩⟩
theorem main_1_1 : Claimed_1_1 := comes_1 fun _ _ _ _ _ _ h hF => ⟨h.1, hF⟩
theorem main_1_2 : Claimed_1_2 := comes_1 fun _ _ _ _ _ _ h hF => ⟨h.2.1, hF⟩
end Jvm.Pilot.@@N@@
namespace Jvm.Pilot.@@N@@
open Jvm Jvm.ClassFile Sem Op Lib Jvm.Free Jvm.Stand Jvm.Pilot.@@N@@.Jvm.D
/-! MADE BY PROGRAM (witnessworld.py) out of the Statement's table words and the real class files: 10 classes; the members and pool entries that the words name. The judged class is class 1, her method 1. -/
namespace start1
open Jvm.ClassFile
def u (s : String) : CpInfo := .utf8 (stringToUtf16 s)
/-- a pool by its gaps: so many unusable entries, then the entry; so many at the end -/
def gap : Nat → List CpInfo → List CpInfo
  | 0, r => r
  | n + 1, r => .unusable :: gap n r
def poolList (es : List (Nat × CpInfo)) (last : Nat) : List CpInfo := es.foldr (fun e r => gap e.1 (e.2 :: r)) (gap last [])
def pool (es : List (Nat × CpInfo)) (last : Nat) : Array CpInfo := ⟨poolList es last⟩
def fileOf (pool : Array CpInfo) (this : Nat) (attrs : Array Attribute := #[]) (ms : Array MethodInfo := #[]) (fl : Nat := 33) (sup : Nat := 0) (ifs : Array Nat := #[]) (fds : Array FieldInfo := #[]) : ClassFile where
  minorVersion := 0
  majorVersion := 65
  constantPool := pool
  accessFlags := fl
  thisClass := this
  superClass := sup
  interfaces := ifs
  fields := fds
  methods := ms
  attributes := attrs
def plain (name : String) (sup : Option ClassId) : Class where
  name := name
  kind := .ordinary
  loader := none
  accessFlags := 33
  super := sup
  interfaces := #[]
  cf := none
  fields := #[]
  methods := #[]
  instanceTypes := #[]
  staticTypes := #[]
  resolved := #[]
  callSites := []
  init := .initialized
  statics := none
  mirror := none

def pool0 : Array CpInfo := pool [(5, u "<init>"), (0, u "()V"), (1, .class_ 10), (1, u "java/lang/Object")] 113

def k0m0 : Method := { name := "<init>", desc := "()V", sig := { parameters := [], returnType := none }, accessFlags := 1, code := none }
/-- java/lang/Object -/
def k0 : Class := { plain "java/lang/Object" none with
  accessFlags := 33
  interfaces := #[]
  cf := some (fileOf pool0 8 #[] #[{ accessFlags := 1, nameIndex := 5, descriptorIndex := 6, attributes := #[] }] 33 0 #[] #[])
  fields := #[]
  methods := #[k0m0]
  instanceTypes := #[]
  staticTypes := #[]
  resolved := Array.replicate 124 none
  statics := none }

def pool1 : Array CpInfo := pool [(2, .class_ 4), (1, u "java/lang/Object"), (0, u "<init>"), (0, u "()V"), (0, .methodref 8 9), (0, .class_ 10), (0, .nameAndType 11 12), (0, u "java/lang/Math"), (0, u "min"), (0, u "(II)I"), (0, .methodref 14 15), (0, .class_ 16), (0, .nameAndType 17 18), (0, u "com/example/framewright/framewright/ModifiedUtf8SameBytesPinLaw"), (0, u "eq"), (0, u "([BI[BIII)Z"), (0, .methodref 20 21), (0, .class_ 22), (0, .nameAndType 23 24), (0, u "com/example/framewright/framewright/ModifiedUtf8"), (0, u "sameBytes"), (0, u "([BII[BII)Z"), (2, u "law"), (0, u "(III)Z")] 5

def k1m0 : Method := { name := "<init>", desc := "()V", sig := { parameters := [], returnType := none }, accessFlags := 2, code := none }
def k1c1 : Code := { maxStack := 7, maxLocals := 13, code := code, exceptionTable := #[], attributes := #[] }
def k1m1 : Method := { name := "law", desc := "(III)Z", sig := { parameters := [.int, .int, .int], returnType := some .boolean }, accessFlags := 9, code := some k1c1 }
def k1c2 : Code := { maxStack := 4, maxLocals := 6, code := method_3_code, exceptionTable := #[], attributes := #[] }
def k1m2 : Method := { name := "eq", desc := "([BI[BIII)Z", sig := { parameters := [(.array .byte), .int, (.array .byte), .int, .int, .int], returnType := some .boolean }, accessFlags := 10, code := some k1c2 }
/-- com/example/framewright/framewright/ModifiedUtf8SameBytesPinLaw -/
def k1 : Class := { plain "com/example/framewright/framewright/ModifiedUtf8SameBytesPinLaw" (some 0) with
  accessFlags := 49
  interfaces := #[]
  cf := some (fileOf pool1 14 #[] #[{ accessFlags := 2, nameIndex := 5, descriptorIndex := 6, attributes := #[] }, { accessFlags := 9, nameIndex := 27, descriptorIndex := 28, attributes := #[] }, { accessFlags := 10, nameIndex := 17, descriptorIndex := 18, attributes := #[] }] 49 2 #[] #[])
  fields := #[]
  methods := #[k1m0, k1m1, k1m2]
  instanceTypes := #[]
  staticTypes := #[]
  resolved := Array.replicate 34 none
  statics := none }

def pool2 : Array CpInfo := pool [(2, .class_ 4), (1, u "java/lang/Object"), (0, u "<init>"), (0, u "()V"), (1, .class_ 10), (1, u "com/example/framewright/framewright/ModifiedUtf8"), (69, u "sameBytes"), (0, u "([BII[BII)Z")] 17

def k2m0 : Method := { name := "<init>", desc := "()V", sig := { parameters := [], returnType := none }, accessFlags := 2, code := none }
def k2c1 : Code := { maxStack := 4, maxLocals := 7, code := prog_17_method_7_code, exceptionTable := #[], attributes := #[] }
def k2m1 : Method := { name := "sameBytes", desc := "([BII[BII)Z", sig := { parameters := [(.array .byte), .int, .int, (.array .byte), .int, .int], returnType := some .boolean }, accessFlags := 8, code := some k2c1 }
/-- com/example/framewright/framewright/ModifiedUtf8 -/
def k2 : Class := { plain "com/example/framewright/framewright/ModifiedUtf8" (some 0) with
  accessFlags := 48
  interfaces := #[]
  cf := some (fileOf pool2 8 #[] #[{ accessFlags := 2, nameIndex := 5, descriptorIndex := 6, attributes := #[] }, { accessFlags := 8, nameIndex := 80, descriptorIndex := 81, attributes := #[] }] 48 2 #[] #[])
  fields := #[]
  methods := #[k2m0, k2m1]
  instanceTypes := #[]
  staticTypes := #[]
  resolved := Array.replicate 99 none
  statics := none }

def pool3 : Array CpInfo := pool [(1, .class_ 2), (0, u "java/lang/Math"), (1, .class_ 6), (1, u "java/lang/Object"), (0, u "<init>"), (0, u "()V"), (89, .class_ 100), (1, u "java/lang/Math$RandomNumberGeneratorHolder"), (71, u "negativeZeroFloatBits"), (0, u "J"), (2, u "negativeZeroDoubleBits"), (24, u "min"), (43, u "$assertionsDisabled"), (0, u "Z"), (88, u "(II)I"), (2, u "twoToTheDoubleScaleDown"), (0, u "D"), (4, u "twoToTheDoubleScaleUp"), (9, u "E"), (3, u "PI"), (2, u "TAU"), (2, u "DEGREES_TO_RADIANS"), (0, u "RADIANS_TO_DEGREES")] 94

def k3m0 : Method := { name := "<init>", desc := "()V", sig := { parameters := [], returnType := none }, accessFlags := 2, code := none }
def k3c1 : Code := { maxStack := 2, maxLocals := 2, code := jdk_29_method_69_code, exceptionTable := #[], attributes := #[] }
def k3m1 : Method := { name := "min", desc := "(II)I", sig := { parameters := [.int, .int], returnType := some .int }, accessFlags := 9, code := some k3c1 }
/-- java/lang/Math -/
def k3 : Class := { plain "java/lang/Math" (some 0) with
  accessFlags := 49
  interfaces := #[]
  cf := some (fileOf pool3 1 #[.nestMembers #[98]] #[{ accessFlags := 2, nameIndex := 7, descriptorIndex := 8, attributes := #[] }, { accessFlags := 9, nameIndex := 201, descriptorIndex := 335, attributes := #[] }] 49 4 #[] #[{ accessFlags := 25, nameIndex := 354, descriptorIndex := 339, attributes := #[] }, { accessFlags := 25, nameIndex := 358, descriptorIndex := 339, attributes := #[] }, { accessFlags := 25, nameIndex := 361, descriptorIndex := 339, attributes := #[] }, { accessFlags := 26, nameIndex := 364, descriptorIndex := 339, attributes := #[] }, { accessFlags := 26, nameIndex := 365, descriptorIndex := 339, attributes := #[] }, { accessFlags := 26, nameIndex := 172, descriptorIndex := 173, attributes := #[] }, { accessFlags := 26, nameIndex := 176, descriptorIndex := 173, attributes := #[] }, { accessFlags := 8, nameIndex := 344, descriptorIndex := 339, attributes := #[] }, { accessFlags := 8, nameIndex := 338, descriptorIndex := 339, attributes := #[] }, { accessFlags := 4120, nameIndex := 245, descriptorIndex := 246, attributes := #[] }])
  fields := #[{ name := "E", type := .double, accessFlags := 25, slot := 0, constantValue := 0 }, { name := "PI", type := .double, accessFlags := 25, slot := 1, constantValue := 0 }, { name := "TAU", type := .double, accessFlags := 25, slot := 2, constantValue := 0 }, { name := "DEGREES_TO_RADIANS", type := .double, accessFlags := 26, slot := 3, constantValue := 0 }, { name := "RADIANS_TO_DEGREES", type := .double, accessFlags := 26, slot := 4, constantValue := 0 }, { name := "negativeZeroFloatBits", type := .long, accessFlags := 26, slot := 5, constantValue := 0 }, { name := "negativeZeroDoubleBits", type := .long, accessFlags := 26, slot := 6, constantValue := 0 }, { name := "twoToTheDoubleScaleUp", type := .double, accessFlags := 8, slot := 7, constantValue := 0 }, { name := "twoToTheDoubleScaleDown", type := .double, accessFlags := 8, slot := 8, constantValue := 0 }, { name := "$assertionsDisabled", type := .boolean, accessFlags := 4120, slot := 9, constantValue := 0 }]
  methods := #[k3m0, k3m1]
  instanceTypes := #[]
  staticTypes := #[.double, .double, .double, .double, .double, .long, .long, .double, .double, .boolean]
  resolved := Array.replicate 460 none
  statics := none }

def pool4 : Array CpInfo := pool [(1, u "java/lang/Cloneable"), (0, .class_ 1), (0, u "java/lang/Object"), (0, .class_ 3)] 3

/-- java/lang/Cloneable -/
def k4 : Class := { plain "java/lang/Cloneable" (some 0) with
  accessFlags := 1537
  interfaces := #[]
  cf := some (fileOf pool4 2 #[] #[] 1537 4 #[] #[])
  fields := #[]
  methods := #[]
  instanceTypes := #[]
  staticTypes := #[]
  resolved := Array.replicate 8 none
  statics := none }

def pool5 : Array CpInfo := pool [(1, u "java/io/Serializable"), (0, .class_ 1), (0, u "java/lang/Object"), (0, .class_ 3)] 3

/-- java/io/Serializable -/
def k5 : Class := { plain "java/io/Serializable" (some 0) with
  accessFlags := 1537
  interfaces := #[]
  cf := some (fileOf pool5 2 #[] #[] 1537 4 #[] #[])
  fields := #[]
  methods := #[]
  instanceTypes := #[]
  staticTypes := #[]
  resolved := Array.replicate 8 none
  statics := none }

/-- the primitive byte -/
def k6 : Class := { plain "byte" none with kind := .primitive 'B', accessFlags := 0x411 }
/-- [B -/
def k7 : Class := { plain "[B" (some 0) with kind := .array 6 .byte, interfaces := #[4, 5], accessFlags := 1041 }

/-- the primitive int -/
def k8 : Class := { plain "int" none with kind := .primitive 'I', accessFlags := 0x411 }
/-- [I -/
def k9 : Class := { plain "[I" (some 0) with kind := .array 8 .int, interfaces := #[4, 5], accessFlags := 1041 }

def heap : Heap := #[]
def classes : Array Class := #[k0, k1, k2, k3, k4, k5, k6, k7, k8, k9]
def interned : List (Array UInt16 × Addr) := []
def slotsUsed : Nat := 0
def theMethod : MethodId := ⟨1, 1⟩
def args0 : Array Value := #[.int 300, .int 1, .int 2]
def aboutOver (below : List Frame) : State where
  vm := { classes := classes, interned := interned.toArray }
  heap := heap
  slotsUsed := slotsUsed
  threads := #[{ frames := .invoking theMethod args0 :: below }]
def below0 : List Frame := [.native { method := ⟨0, 0⟩, args := #[] }]
def about1 : State := aboutOver below0
def p0 : Program := .bare "" "" ""
def e0 : Env := launch0.env 0 0 0
theorem w_frames : about1.frames = Frame.invoking theMethod args0 :: below0 := rfl
set_option maxRecDepth 65536 in
theorem w_args : argsFit about1.vm theMethod args0 = true := by decide +kernel
set_option maxRecDepth 65536 in
theorem w_heap : heapFits about1 = true := by decide +kernel
set_option maxRecDepth 65536 in
theorem w_runnable : about1.curStatus? = some .runnable := by decide +kernel
set_option maxRecDepth 65536 in
theorem w_alone : about1.alone = true := by decide +kernel
set_option maxRecDepth 65536 in
theorem w_named : about1.methodNamed? x = some theMethod := by decide +kernel
set_option maxRecDepth 65536 in
theorem w_hears : about1.hears theMethod below0 = true := by decide +kernel
set_option maxRecDepth 65536 in
theorem w_ripe : about1.ripe theMethod args0 below0 = true := by decide +kernel
theorem w_running : about1.status = .running := rfl
set_option maxRecDepth 65536 in
theorem w_room : about1.hasRoom e0.platform room_1 = true :=
  launch0.hasRoom_least _ room_1 (by decide +kernel) (by decide +kernel) (by decide +kernel) (by decide +kernel) (by decide +kernel) (by decide +kernel)
theorem allAtoms_all (ts : List Jvm.Cond) (a : Array Jvm.Value) (st : Jvm.State) : (allAtoms ts).before a st = ts.all (fun c => c.before a st) := by
  induction ts with
  | nil => rfl
  | cons c t ih =>
    show (Jvm.Cond.and c (allAtoms t)).before a st = _
    rw [Jvm.Cond.before_and, ih, List.all_cons]
def words1 : List Jvm.Cond := Jvm.Cond.code x code maxLocals ret :: tables_1
/-- a 'code' word, met by the world's own term for the bytes: nothing is compared byte by byte -/
theorem code_word {y : MethodName} {bytes : ByteArray} {mx : Nat} {rt : Option FieldType} {a : Array Value} {s : State} {m : MethodId} {meth : Method} {c : Code} (h1 : s.methodNamed? y = some m) (h2 : s.vm.method? m = some meth) (h3 : meth.code = some c) (h4 : c.code = bytes)
    (h5 : (c.maxLocals == mx && c.exceptionTable.isEmpty && decide (c.maxStack ≤ mostOperands) && decide (meth.sig.returnType = rt) && !meth.locks && decide (parseMethodDescriptor y.desc = some meth.sig)) = true) : (Jvm.Cond.code y bytes mx rt).before a s = true := by
  simp only [Bool.and_eq_true, beq_iff_eq, Bool.not_eq_true', decide_eq_true_eq] at h5
  obtain ⟨⟨⟨⟨⟨g1, g2⟩, g3⟩, g4⟩, g5⟩, g6⟩ := h5
  simp [Cond.before, Cond.holds, Cond.value, h1, h2, h3, h4, g1, g2, g3, g4, g5, g6]
def isCode : Jvm.Cond → Bool
  | .code _ _ _ _ => true
  | _ => false
theorem all_split {L : List Jvm.Cond} {P : Jvm.Cond → Bool} (h1 : L.all (fun c => isCode c || P c) = true) (h2 : ∀ c ∈ L.filter isCode, P c = true) : L.all P = true := by
  refine List.all_eq_true.mpr fun c hc => ?_
  have h := List.all_eq_true.mp h1 c hc
  rcases Bool.eq_false_or_eq_true (isCode c) with hi | hi
  · exact h2 c (List.mem_filter.mpr ⟨hc, hi⟩)
  · simpa [hi] using h
set_option maxRecDepth 65536 in
theorem w_c0 : (Jvm.Cond.code x code maxLocals ret).before args0 about1 = true := code_word (m := ⟨1, 1⟩) (meth := k1m1) (c := k1c1) (by decide +kernel) rfl rfl rfl (by decide +kernel)
set_option maxRecDepth 65536 in
theorem w_c1 : (Jvm.Cond.code ({ cls := "com/example/framewright/framewright/ModifiedUtf8SameBytesPinLaw", name := "eq", desc := "([BI[BIII)Z" } : Jvm.MethodName) method_3_code (6 : Nat) (Option.some Jvm.ClassFile.FieldType.boolean)).before args0 about1 = true := code_word (m := ⟨1, 2⟩) (meth := k1m2) (c := k1c2) (by decide +kernel) rfl rfl rfl (by decide +kernel)
set_option maxRecDepth 65536 in
theorem w_c2 : (Jvm.Cond.code ({ cls := "com/example/framewright/framewright/ModifiedUtf8", name := "sameBytes", desc := "([BII[BII)Z" } : Jvm.MethodName) prog_17_method_7_code (7 : Nat) (Option.some Jvm.ClassFile.FieldType.boolean)).before args0 about1 = true := code_word (m := ⟨2, 1⟩) (meth := k2m1) (c := k2c1) (by decide +kernel) rfl rfl rfl (by decide +kernel)
set_option maxRecDepth 65536 in
theorem w_c3 : (Jvm.Cond.code ({ cls := "java/lang/Math", name := "min", desc := "(II)I" } : Jvm.MethodName) jdk_29_method_69_code (2 : Nat) (Option.some Jvm.ClassFile.FieldType.int)).before args0 about1 = true := code_word (m := ⟨3, 1⟩) (meth := k3m1) (c := k3c1) (by decide +kernel) rfl rfl rfl (by decide +kernel)
def codes1 : List Jvm.Cond := [Jvm.Cond.code x code maxLocals ret, Jvm.Cond.code ({ cls := "com/example/framewright/framewright/ModifiedUtf8SameBytesPinLaw", name := "eq", desc := "([BI[BIII)Z" } : Jvm.MethodName) method_3_code (6 : Nat) (Option.some Jvm.ClassFile.FieldType.boolean), Jvm.Cond.code ({ cls := "com/example/framewright/framewright/ModifiedUtf8", name := "sameBytes", desc := "([BII[BII)Z" } : Jvm.MethodName) prog_17_method_7_code (7 : Nat) (Option.some Jvm.ClassFile.FieldType.boolean), Jvm.Cond.code ({ cls := "java/lang/Math", name := "min", desc := "(II)I" } : Jvm.MethodName) jdk_29_method_69_code (2 : Nat) (Option.some Jvm.ClassFile.FieldType.int)]
set_option maxRecDepth 65536 in
theorem codes_eq : words1.filter isCode = codes1 := rfl
theorem w_codes : ∀ c ∈ words1.filter isCode, c.before args0 about1 = true := by
  rw [codes_eq]
  intro c hc
  simp only [codes1, List.mem_cons, List.not_mem_nil, or_false] at hc
  rcases hc with rfl | rfl | rfl | rfl
  · exact w_c0
  · exact w_c1
  · exact w_c2
  · exact w_c3
set_option maxRecDepth 65536 in
theorem w_t1 : words1.all (fun c => isCode c || c.before args0 about1) = true := by decide +kernel
theorem w_tables : (allAtoms (Jvm.Cond.code x code maxLocals ret :: tables_1)).before args0 about1 = true := by
  rw [allAtoms_all]
  show words1.all (fun c => c.before args0 about1) = true
  refine all_split ?_ w_codes
  rw [w_t1]
set_option maxRecDepth 65536 in
theorem w_case : (Jvm.Cond.and given_1 narrow_1).before args0 about1 = true := by decide +kernel
theorem w_applies : (headSpec (Jvm.Cond.code x code maxLocals ret :: tables_1) room_1).applies x e0.platform about1 = true :=
  (Spec.applies_iff w_frames).mpr ⟨w_running, w_runnable, w_alone, w_named, w_hears, w_ripe, w_room, w_tables⟩
theorem atStart : AtStart classFile x code maxLocals ret World_1 tables_1 room_1 Calls_1 rest_1 Pre_1 launch0 p0 e0 about1 theMethod args0 below0 :=
  ⟨lists_1, trivial, launch0.admits_env _ _ _, launch0.least_env, fairChoices_fair.cas, fairChoices_fair.clock, w_frames, w_args, w_heap, w_applies, trivial, trivial, w_case⟩
end start1
theorem witness_1 : WitnessClaimed_1 := ⟨start1.p0, start1.e0, start1.about1, start1.theMethod, start1.args0, start1.below0, start1.atStart⟩
end Jvm.Pilot.@@N@@
