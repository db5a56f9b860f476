import JvmDerived
import JvmDerived.Pilot.@@N@@Statement
import JvmDerived.Pilot.@@N@@Code
set_option linter.unusedVariables false
set_option linter.unusedSimpArgs false
namespace Jvm.Pilot.@@N@@
open Jvm Jvm.ClassFile Sem Op Lib Jvm.Free Jvm.Stand Jvm.LawKit Jvm.RoadKit Bundle Jvm.Pilot.@@N@@.Jvm.D
section Own
variable {p : Program} {l : Launch} {e : Env} {R : Room} {s : State} {m : MethodId} {args : Array Value} {below : List Frame} {meth : Method} {c : Code} {T T' : State} {locs : List Loc} {cells slots : Nat} {Z : State} {a0 : Array Value} {h h' : Heap} {Q : Option Value → Heap → List Loc → Prop} {Cc Sc : Nat} {pc pc' pt k : Nat} {Ls Ls' : Array Slot} {St St' : List Value} {bs : ByteArray} {ml : Nat} {own nm : String} {rt : Option FieldType}
/-- what stands of a body while it is walked -/
def Cx (Z : State) (a0 : Array Value) (p : Program) (s : State) (m : MethodId) (meth : Method) (c : Code) (bs : ByteArray) (ml : Nat) (own nm : String) (rt : Option FieldType) : Prop :=
  p.tables.exec = Jvm.exec ∧ Z.Warmed39 s.vm ∧ c.code = bs ∧ c.maxLocals = ml ∧ s.vm.findClass own = some m.cls ∧ meth.name = nm ∧ meth.sig.returnType = rt ∧ meth.locks = false ∧ (∀ d ∈ tables_1, d.before a0 Z = true)
theorem Cx.x (C : Cx Z a0 p s m meth c bs ml own nm rt) : p.tables.exec = Jvm.exec := C.1
theorem Cx.z (C : Cx Z a0 p s m meth c bs ml own nm rt) : Z.Warmed39 s.vm := C.2.1
theorem Cx.b (C : Cx Z a0 p s m meth c bs ml own nm rt) : c.code = bs := C.2.2.1
theorem Cx.mx (C : Cx Z a0 p s m meth c bs ml own nm rt) : c.maxLocals = ml := C.2.2.2.1
theorem Cx.o (C : Cx Z a0 p s m meth c bs ml own nm rt) : s.vm.findClass own = some m.cls := C.2.2.2.2.1
theorem Cx.n (C : Cx Z a0 p s m meth c bs ml own nm rt) : meth.name = nm := C.2.2.2.2.2.1
theorem Cx.r (C : Cx Z a0 p s m meth c bs ml own nm rt) : meth.sig.returnType = rt := C.2.2.2.2.2.2.1
theorem Cx.lk (C : Cx Z a0 p s m meth c bs ml own nm rt) : meth.locks = false := C.2.2.2.2.2.2.2.1
theorem Cx.w (C : Cx Z a0 p s m meth c bs ml own nm rt) : ∀ d ∈ tables_1, d.before a0 Z = true := C.2.2.2.2.2.2.2.2
/-- the i-th word of the sheet's tables -/
theorem Cx.t (C : Cx Z a0 p s m meth c bs ml own nm rt) (i : Nat) {d : Jvm.Cond} (hi : tables_1[i]? = some d) : d.before a0 Z = true := C.w d (List.mem_of_getElem? hi)
/-- from here the run comes to its return, and of that return Q holds -/
def Go (p : Program) (e : Env) (below : List Frame) (s : State) (m : MethodId) (Q : Option Value → Heap → List Loc → Prop) (Cc Sc : Nat) (T : State) (pc : Nat) (Ls : Array Slot) (St : List Value) : Prop :=
  ∃ s₂ o, Steps p.tables e below (T.setTop (mkF m pc Ls St)) s₂ ∧ s₂.status = .running ∧ Ended s₂ below o ∧ ∃ v L, o = .returned v ∧ Q v s₂.heap L ∧ FrameEnd s o s₂ L Cc Sc
theorem Go.via (h : ∀ t, Steps p.tables e below (T'.setTop (mkF m pc' Ls' St')) t → Steps p.tables e below (T.setTop (mkF m pc Ls St)) t) (k : Go p e below s m Q Cc Sc T' pc' Ls' St') : Go p e below s m Q Cc Sc T pc Ls St := by
  obtain ⟨s₂, o, h1, h2⟩ := k
  exact ⟨s₂, o, h _ h1, h2⟩
theorem Go.cast (hL : Ls = Ls') (hS : St = St') (k : Go p e below s m Q Cc Sc T pc Ls' St') : Go p e below s m Q Cc Sc T pc Ls St := by
  subst hL hS; exact k
theorem g_enter {x : MethodName} {ws : List Jvm.Cond} {rm : Room} {as' : Array Value} {h0 : Heap} (hpl : plainFor x = true) (hw : ∀ d ∈ tables_1, d.before a0 Z = true) (hef : ∀ m, entryFrame m as' ml = mkF m 0 Ls [])
    (body : ∀ (p : Program) (e : Env) (s : State) (m : MethodId) (below : List Frame) (meth : Method) (c : Code) (T : State), Cx Z a0 p s m meth c bs ml x.cls x.name rt → Stand p l e rm s m as' below meth c T [] 0 0 → T.heap = h0 → Go p e below s m Q rm.cells rm.slots T 0 Ls []) :
    MetFree l x (head1 (Jvm.Cond.code x bs ml rt :: ws) rm) (fun a U => a = as' ∧ Z.Warmed39 U.vm ∧ U.heap = h0) (fun _ _ _ _ _ => True) (fun _ U o U' => ∃ v L, o = .returned v ∧ Q v U'.heap L ∧ FrameEnd U o U' L rm.cells rm.slots) := by
  refine MetFree.of_bodySF hpl hisR ?_
  intro p e s m args below meth c s₁ Bd hml0 hP hK
  obtain ⟨rfl, hZ, hh⟩ := hP
  have e0 : s₁.heap = h0 := by rw [← hh, Bd.state]; rfl
  have C : Cx Z a0 p s m meth c bs ml x.cls x.name rt := ⟨Bd.exec, hZ, Bd.bytes, hml0, findClass_of_methodNamed Bd.named, (name_of_methodNamed Bd.named Bd.method).1, Bd.returns, Bd.notSynchronized, hw⟩
  obtain ⟨s₂, o, k1, k2⟩ := body p e s m below meth c s₁ C (Stand.of_body Bd) e0
  exact ⟨s₂, o, castTop (hef m) k1, k2⟩

theorem g_iload (C : Cx Z a0 p s m meth c bs ml own nm rt) (X : Stand p l e R s m args below meth c T locs cells slots) {v : Int32} (hd : decode bs pc = .ok (.iload k, 2)) (hl : Ls[k]? = some (.val (.int v))) (hp : pc + 2 = pc') (kk : Go p e below s m Q Cc Sc T pc' Ls (.int v :: St)) : Go p e below s m Q Cc Sc T pc Ls St := by
  subst hp
  exact Go.via (fun t q => XS.iload X.here C.x rfl (hb C.b hd) hl q) kk
theorem g_iloadN (C : Cx Z a0 p s m meth c bs ml own nm rt) (X : Stand p l e R s m args below meth c T locs cells slots) {k : Fin 4} {v : Int32} (hd : decode bs pc = .ok (.iload_n k, 1)) (hl : Ls[k.val]? = some (.val (.int v))) (hp : pc + 1 = pc') (kk : Go p e below s m Q Cc Sc T pc' Ls (.int v :: St)) : Go p e below s m Q Cc Sc T pc Ls St := by
  subst hp
  exact Go.via (fun t q => XS.iloadN X.here C.x rfl (hb C.b hd) hl q) kk
theorem g_lload (C : Cx Z a0 p s m meth c bs ml own nm rt) (X : Stand p l e R s m args below meth c T locs cells slots) {v : Int64} (hd : decode bs pc = .ok (.lload k, 2)) (hl : Ls[k]? = some (.val (.long v))) (hp : pc + 2 = pc') (kk : Go p e below s m Q Cc Sc T pc' Ls (.long v :: St)) : Go p e below s m Q Cc Sc T pc Ls St := by
  subst hp
  exact Go.via (fun t q => XS.lload X.here C.x rfl (hb C.b hd) hl q) kk
theorem g_lloadN (C : Cx Z a0 p s m meth c bs ml own nm rt) (X : Stand p l e R s m args below meth c T locs cells slots) {k : Fin 4} {v : Int64} (hd : decode bs pc = .ok (.lload_n k, 1)) (hl : Ls[k.val]? = some (.val (.long v))) (hp : pc + 1 = pc') (kk : Go p e below s m Q Cc Sc T pc' Ls (.long v :: St)) : Go p e below s m Q Cc Sc T pc Ls St := by
  subst hp
  exact Go.via (fun t q => XS.lloadN X.here C.x rfl (hb C.b hd) hl q) kk
theorem g_aload (C : Cx Z a0 p s m meth c bs ml own nm rt) (X : Stand p l e R s m args below meth c T locs cells slots) {v : Addr} (hd : decode bs pc = .ok (.aload k, 2)) (hl : Ls[k]? = some (.val (.ref v))) (hp : pc + 2 = pc') (kk : Go p e below s m Q Cc Sc T pc' Ls (.ref v :: St)) : Go p e below s m Q Cc Sc T pc Ls St := by
  subst hp
  exact Go.via (fun t q => XS.aload X.here C.x rfl (hb C.b hd) hl rfl q) kk
theorem g_aloadN (C : Cx Z a0 p s m meth c bs ml own nm rt) (X : Stand p l e R s m args below meth c T locs cells slots) {k : Fin 4} {v : Addr} (hd : decode bs pc = .ok (.aload_n k, 1)) (hl : Ls[k.val]? = some (.val (.ref v))) (hp : pc + 1 = pc') (kk : Go p e below s m Q Cc Sc T pc' Ls (.ref v :: St)) : Go p e below s m Q Cc Sc T pc Ls St := by
  subst hp
  exact Go.via (fun t q => XS.aloadN X.here C.x rfl (hb C.b hd) hl rfl q) kk
theorem g_istore (C : Cx Z a0 p s m meth c bs ml own nm rt) (X : Stand p l e R s m args below meth c T locs cells slots) {x : Int32} (hd : decode bs pc = .ok (.istore k, 2)) (Ls' : Array Slot) (hl : storeLocals Ls k (.int x) = some Ls') (hp : pc + 2 = pc') (kk : Go p e below s m Q Cc Sc T pc' Ls' St) : Go p e below s m Q Cc Sc T pc Ls (.int x :: St) := by
  subst hp
  exact Go.via (fun t q => XS.istore X.here C.x rfl (hb C.b hd) rfl hl q) kk
theorem g_istoreN (C : Cx Z a0 p s m meth c bs ml own nm rt) (X : Stand p l e R s m args below meth c T locs cells slots) {k : Fin 4} {x : Int32} (hd : decode bs pc = .ok (.istore_n k, 1)) (Ls' : Array Slot) (hl : storeLocals Ls k.val (.int x) = some Ls') (hp : pc + 1 = pc') (kk : Go p e below s m Q Cc Sc T pc' Ls' St) : Go p e below s m Q Cc Sc T pc Ls (.int x :: St) := by
  subst hp
  exact Go.via (fun t q => XS.istoreN X.here C.x rfl (hb C.b hd) rfl hl q) kk
theorem g_istoreV (C : Cx Z a0 p s m meth c bs ml own nm rt) (X : Stand p l e R s m args below meth c T locs cells slots) {x : Int32} (hd : decode bs pc = .ok (.istore k, 2)) (F : Int32 → Array Slot) (hl : storeLocals Ls k (.int x) = some (F x)) (hp : pc + 2 = pc') (kk : ∀ v, v = x → Go p e below s m Q Cc Sc T pc' (F v) St) : Go p e below s m Q Cc Sc T pc Ls (.int x :: St) := g_istore C X hd (F x) hl hp (kk x rfl)
theorem g_istoreNV (C : Cx Z a0 p s m meth c bs ml own nm rt) (X : Stand p l e R s m args below meth c T locs cells slots) {k : Fin 4} {x : Int32} (hd : decode bs pc = .ok (.istore_n k, 1)) (F : Int32 → Array Slot) (hl : storeLocals Ls k.val (.int x) = some (F x)) (hp : pc + 1 = pc') (kk : ∀ v, v = x → Go p e below s m Q Cc Sc T pc' (F v) St) : Go p e below s m Q Cc Sc T pc Ls (.int x :: St) := g_istoreN C X hd (F x) hl hp (kk x rfl)
theorem g_lstore (C : Cx Z a0 p s m meth c bs ml own nm rt) (X : Stand p l e R s m args below meth c T locs cells slots) {x : Int64} (hd : decode bs pc = .ok (.lstore k, 2)) (Ls' : Array Slot) (hl : storeLocals Ls k (.long x) = some Ls') (hp : pc + 2 = pc') (kk : Go p e below s m Q Cc Sc T pc' Ls' St) : Go p e below s m Q Cc Sc T pc Ls (.long x :: St) := by
  subst hp
  exact Go.via (fun t q => XS.lstore X.here C.x rfl (hb C.b hd) rfl hl q) kk
theorem g_lstoreN (C : Cx Z a0 p s m meth c bs ml own nm rt) (X : Stand p l e R s m args below meth c T locs cells slots) {k : Fin 4} {x : Int64} (hd : decode bs pc = .ok (.lstore_n k, 1)) (Ls' : Array Slot) (hl : storeLocals Ls k.val (.long x) = some Ls') (hp : pc + 1 = pc') (kk : Go p e below s m Q Cc Sc T pc' Ls' St) : Go p e below s m Q Cc Sc T pc Ls (.long x :: St) := by
  subst hp
  exact Go.via (fun t q => XS.lstoreN X.here C.x rfl (hb C.b hd) rfl hl q) kk
theorem g_lstoreV (C : Cx Z a0 p s m meth c bs ml own nm rt) (X : Stand p l e R s m args below meth c T locs cells slots) {x : Int64} (hd : decode bs pc = .ok (.lstore k, 2)) (F : Int64 → Array Slot) (hl : storeLocals Ls k (.long x) = some (F x)) (hp : pc + 2 = pc') (kk : ∀ v, v = x → Go p e below s m Q Cc Sc T pc' (F v) St) : Go p e below s m Q Cc Sc T pc Ls (.long x :: St) := g_lstore C X hd (F x) hl hp (kk x rfl)
theorem g_lstoreNV (C : Cx Z a0 p s m meth c bs ml own nm rt) (X : Stand p l e R s m args below meth c T locs cells slots) {k : Fin 4} {x : Int64} (hd : decode bs pc = .ok (.lstore_n k, 1)) (F : Int64 → Array Slot) (hl : storeLocals Ls k.val (.long x) = some (F x)) (hp : pc + 1 = pc') (kk : ∀ v, v = x → Go p e below s m Q Cc Sc T pc' (F v) St) : Go p e below s m Q Cc Sc T pc Ls (.long x :: St) := g_lstoreN C X hd (F x) hl hp (kk x rfl)
theorem g_astore (C : Cx Z a0 p s m meth c bs ml own nm rt) (X : Stand p l e R s m args below meth c T locs cells slots) {x : Addr} (hd : decode bs pc = .ok (.astore k, 2)) (Ls' : Array Slot) (hl : storeLocals Ls k (.ref x) = some Ls') (hp : pc + 2 = pc') (kk : Go p e below s m Q Cc Sc T pc' Ls' St) : Go p e below s m Q Cc Sc T pc Ls (.ref x :: St) := by
  subst hp
  exact Go.via (fun t q => XS.astore X.here C.x rfl (hb C.b hd) rfl rfl hl q) kk
theorem g_astoreN (C : Cx Z a0 p s m meth c bs ml own nm rt) (X : Stand p l e R s m args below meth c T locs cells slots) {k : Fin 4} {x : Addr} (hd : decode bs pc = .ok (.astore_n k, 1)) (Ls' : Array Slot) (hl : storeLocals Ls k.val (.ref x) = some Ls') (hp : pc + 1 = pc') (kk : Go p e below s m Q Cc Sc T pc' Ls' St) : Go p e below s m Q Cc Sc T pc Ls (.ref x :: St) := by
  subst hp
  exact Go.via (fun t q => XS.astoreN X.here C.x rfl (hb C.b hd) rfl rfl hl q) kk
theorem g_astoreV (C : Cx Z a0 p s m meth c bs ml own nm rt) (X : Stand p l e R s m args below meth c T locs cells slots) {x : Addr} (hd : decode bs pc = .ok (.astore k, 2)) (F : Addr → Array Slot) (hl : storeLocals Ls k (.ref x) = some (F x)) (hp : pc + 2 = pc') (kk : ∀ v, v = x → Go p e below s m Q Cc Sc T pc' (F v) St) : Go p e below s m Q Cc Sc T pc Ls (.ref x :: St) := g_astore C X hd (F x) hl hp (kk x rfl)
theorem g_astoreNV (C : Cx Z a0 p s m meth c bs ml own nm rt) (X : Stand p l e R s m args below meth c T locs cells slots) {k : Fin 4} {x : Addr} (hd : decode bs pc = .ok (.astore_n k, 1)) (F : Addr → Array Slot) (hl : storeLocals Ls k.val (.ref x) = some (F x)) (hp : pc + 1 = pc') (kk : ∀ v, v = x → Go p e below s m Q Cc Sc T pc' (F v) St) : Go p e below s m Q Cc Sc T pc Ls (.ref x :: St) := g_astoreN C X hd (F x) hl hp (kk x rfl)
theorem g_iinc (C : Cx Z a0 p s m meth c bs ml own nm rt) (X : Stand p l e R s m args below meth c T locs cells slots) {cst : Int} {x : Int32} (hd : decode bs pc = .ok (.iinc k cst, 3)) (hl : Ls[k]? = some (.val (.int x))) (Ls' : Array Slot) (hl' : storeLocals Ls k (.int (x + Int32.ofInt cst)) = some Ls') (hp : pc + 3 = pc') (kk : Go p e below s m Q Cc Sc T pc' Ls' St) : Go p e below s m Q Cc Sc T pc Ls St := by
  subst hp
  exact Go.via (fun t q => XS.iinc X.here C.x rfl (hb C.b hd) hl hl' q) kk
theorem g_iincV (C : Cx Z a0 p s m meth c bs ml own nm rt) (X : Stand p l e R s m args below meth c T locs cells slots) {cst : Int} {x y : Int32} (hd : decode bs pc = .ok (.iinc k cst, 3)) (hl : Ls[k]? = some (.val (.int x))) (hy : Int32.ofInt cst = y) (F : Int32 → Array Slot) (hl' : storeLocals Ls k (.int (x + y)) = some (F (x + y))) (hp : pc + 3 = pc') (kk : ∀ v, v = x + y → Go p e below s m Q Cc Sc T pc' (F v) St) : Go p e below s m Q Cc Sc T pc Ls St := g_iinc C X hd hl (F (x + y)) (by rw [hy]; exact hl') hp (kk _ rfl)
theorem g_iconst (C : Cx Z a0 p s m meth c bs ml own nm rt) (X : Stand p l e R s m args below meth c T locs cells slots) {i : Int} (v : Int32) (hd : decode bs pc = .ok (.iconst i, 1)) (hv : Int32.ofInt i = v) (hp : pc + 1 = pc') (kk : Go p e below s m Q Cc Sc T pc' Ls (.int v :: St)) : Go p e below s m Q Cc Sc T pc Ls St := by
  subst hp hv
  exact Go.via (fun t q => XS.iconst X.here C.x rfl (hb C.b hd) q) kk
theorem g_bipush (C : Cx Z a0 p s m meth c bs ml own nm rt) (X : Stand p l e R s m args below meth c T locs cells slots) {i : Int} (v : Int32) (hd : decode bs pc = .ok (.bipush i, 2)) (hv : (Int8.ofInt i).toInt32 = v) (hp : pc + 2 = pc') (kk : Go p e below s m Q Cc Sc T pc' Ls (.int v :: St)) : Go p e below s m Q Cc Sc T pc Ls St := by
  subst hp hv
  exact Go.via (fun t q => XS.bipush X.here C.x rfl (hb C.b hd) q) kk
theorem g_sipush (C : Cx Z a0 p s m meth c bs ml own nm rt) (X : Stand p l e R s m args below meth c T locs cells slots) {i : Int} (v : Int32) (hd : decode bs pc = .ok (.sipush i, 3)) (hv : (Int16.ofInt i).toInt32 = v) (hp : pc + 3 = pc') (kk : Go p e below s m Q Cc Sc T pc' Ls (.int v :: St)) : Go p e below s m Q Cc Sc T pc Ls St := by
  subst hp hv
  exact Go.via (fun t q => XS.sipush X.here C.x rfl (hb C.b hd) q) kk
theorem g_lconst (C : Cx Z a0 p s m meth c bs ml own nm rt) (X : Stand p l e R s m args below meth c T locs cells slots) {i : Fin 2} (v : Int64) (hd : decode bs pc = .ok (.lconst i, 1)) (hv : Int64.ofNat i = v) (hp : pc + 1 = pc') (kk : Go p e below s m Q Cc Sc T pc' Ls (.long v :: St)) : Go p e below s m Q Cc Sc T pc Ls St := by
  subst hp hv
  exact Go.via (fun t q => XS.lconst X.here C.x rfl (hb C.b hd) q) kk
theorem g_ldc (C : Cx Z a0 p s m meth c bs ml own nm rt) (X : Stand p l e R s m args below meth c T locs cells slots) {i : Nat} {v : Int32} (hd : decode bs pc = .ok (.ldc i, 2)) (hv : (Jvm.Cond.constant own i v).before a0 Z = true) (hp : pc + 2 = pc') (kk : Go p e below s m Q Cc Sc T pc' Ls (.int v :: St)) : Go p e below s m Q Cc Sc T pc Ls St := by
  subst hp
  exact Go.via (fun t q => X.ldcInt C.x C.o (mvT C.z hv) (g := mkF m pc Ls St) rfl (hb C.b hd) t q) kk
theorem g_ldcL (C : Cx Z a0 p s m meth c bs ml own nm rt) (X : Stand p l e R s m args below meth c T locs cells slots) {i : Nat} {v : Int64} (hd : decode bs pc = .ok (.ldc2_w i, 3)) (hv : (Jvm.Cond.constantLong own i v).before a0 Z = true) (hp : pc + 3 = pc') (kk : Go p e below s m Q Cc Sc T pc' Ls (.long v :: St)) : Go p e below s m Q Cc Sc T pc Ls St := by
  subst hp
  exact Go.via (fun t q => X.ldc2Long C.x C.o (mvT C.z hv) (g := mkF m pc Ls St) rfl (hb C.b hd) t q) kk
theorem g_iadd (C : Cx Z a0 p s m meth c bs ml own nm rt) (X : Stand p l e R s m args below meth c T locs cells slots) {x y : Int32} (hd : decode bs pc = .ok (.iadd, 1))  (hp : pc + 1 = pc') (kk : Go p e below s m Q Cc Sc T pc' Ls (.int (x + y) :: St)) : Go p e below s m Q Cc Sc T pc Ls (.int y :: .int x :: St) := by
  subst hp
  exact Go.via (fun t q => XS.iadd X.here C.x rfl (hb C.b hd) rfl q) kk
theorem g_isub (C : Cx Z a0 p s m meth c bs ml own nm rt) (X : Stand p l e R s m args below meth c T locs cells slots) {x y : Int32} (hd : decode bs pc = .ok (.isub, 1))  (hp : pc + 1 = pc') (kk : Go p e below s m Q Cc Sc T pc' Ls (.int (x - y) :: St)) : Go p e below s m Q Cc Sc T pc Ls (.int y :: .int x :: St) := by
  subst hp
  exact Go.via (fun t q => XS.isub X.here C.x rfl (hb C.b hd) rfl q) kk
theorem g_imul (C : Cx Z a0 p s m meth c bs ml own nm rt) (X : Stand p l e R s m args below meth c T locs cells slots) {x y : Int32} (hd : decode bs pc = .ok (.imul, 1))  (hp : pc + 1 = pc') (kk : Go p e below s m Q Cc Sc T pc' Ls (.int (x * y) :: St)) : Go p e below s m Q Cc Sc T pc Ls (.int y :: .int x :: St) := by
  subst hp
  exact Go.via (fun t q => XS.imul X.here C.x rfl (hb C.b hd) rfl q) kk
theorem g_iand (C : Cx Z a0 p s m meth c bs ml own nm rt) (X : Stand p l e R s m args below meth c T locs cells slots) {x y : Int32} (hd : decode bs pc = .ok (.iand, 1))  (hp : pc + 1 = pc') (kk : Go p e below s m Q Cc Sc T pc' Ls (.int (x &&& y) :: St)) : Go p e below s m Q Cc Sc T pc Ls (.int y :: .int x :: St) := by
  subst hp
  exact Go.via (fun t q => XS.iand X.here C.x rfl (hb C.b hd) rfl q) kk
theorem g_ior (C : Cx Z a0 p s m meth c bs ml own nm rt) (X : Stand p l e R s m args below meth c T locs cells slots) {x y : Int32} (hd : decode bs pc = .ok (.ior, 1))  (hp : pc + 1 = pc') (kk : Go p e below s m Q Cc Sc T pc' Ls (.int (x ||| y) :: St)) : Go p e below s m Q Cc Sc T pc Ls (.int y :: .int x :: St) := by
  subst hp
  exact Go.via (fun t q => XS.ior X.here C.x rfl (hb C.b hd) rfl q) kk
theorem g_ixor (C : Cx Z a0 p s m meth c bs ml own nm rt) (X : Stand p l e R s m args below meth c T locs cells slots) {x y : Int32} (hd : decode bs pc = .ok (.ixor, 1))  (hp : pc + 1 = pc') (kk : Go p e below s m Q Cc Sc T pc' Ls (.int (x ^^^ y) :: St)) : Go p e below s m Q Cc Sc T pc Ls (.int y :: .int x :: St) := by
  subst hp
  exact Go.via (fun t q => XS.ixor X.here C.x rfl (hb C.b hd) rfl q) kk
theorem g_idiv (C : Cx Z a0 p s m meth c bs ml own nm rt) (X : Stand p l e R s m args below meth c T locs cells slots) {x y : Int32} (hd : decode bs pc = .ok (.idiv, 1)) (hy : y ≠ 0) (hp : pc + 1 = pc') (kk : Go p e below s m Q Cc Sc T pc' Ls (.int (x / y) :: St)) : Go p e below s m Q Cc Sc T pc Ls (.int y :: .int x :: St) := by
  subst hp
  exact Go.via (fun t q => XS.idiv X.here C.x rfl (hb C.b hd) rfl hy q) kk
theorem g_ladd (C : Cx Z a0 p s m meth c bs ml own nm rt) (X : Stand p l e R s m args below meth c T locs cells slots) {x y : Int64} (hd : decode bs pc = .ok (.ladd, 1))  (hp : pc + 1 = pc') (kk : Go p e below s m Q Cc Sc T pc' Ls (.long (x + y) :: St)) : Go p e below s m Q Cc Sc T pc Ls (.long y :: .long x :: St) := by
  subst hp
  exact Go.via (fun t q => XS.ladd X.here C.x rfl (hb C.b hd) rfl q) kk
theorem g_lsub (C : Cx Z a0 p s m meth c bs ml own nm rt) (X : Stand p l e R s m args below meth c T locs cells slots) {x y : Int64} (hd : decode bs pc = .ok (.lsub, 1))  (hp : pc + 1 = pc') (kk : Go p e below s m Q Cc Sc T pc' Ls (.long (x - y) :: St)) : Go p e below s m Q Cc Sc T pc Ls (.long y :: .long x :: St) := by
  subst hp
  exact Go.via (fun t q => XS.lsub X.here C.x rfl (hb C.b hd) rfl q) kk
theorem g_lmul (C : Cx Z a0 p s m meth c bs ml own nm rt) (X : Stand p l e R s m args below meth c T locs cells slots) {x y : Int64} (hd : decode bs pc = .ok (.lmul, 1))  (hp : pc + 1 = pc') (kk : Go p e below s m Q Cc Sc T pc' Ls (.long (x * y) :: St)) : Go p e below s m Q Cc Sc T pc Ls (.long y :: .long x :: St) := by
  subst hp
  exact Go.via (fun t q => XS.lmul X.here C.x rfl (hb C.b hd) rfl q) kk
theorem g_land (C : Cx Z a0 p s m meth c bs ml own nm rt) (X : Stand p l e R s m args below meth c T locs cells slots) {x y : Int64} (hd : decode bs pc = .ok (.land, 1))  (hp : pc + 1 = pc') (kk : Go p e below s m Q Cc Sc T pc' Ls (.long (x &&& y) :: St)) : Go p e below s m Q Cc Sc T pc Ls (.long y :: .long x :: St) := by
  subst hp
  exact Go.via (fun t q => XS.land X.here C.x rfl (hb C.b hd) rfl q) kk
theorem g_lor (C : Cx Z a0 p s m meth c bs ml own nm rt) (X : Stand p l e R s m args below meth c T locs cells slots) {x y : Int64} (hd : decode bs pc = .ok (.lor, 1))  (hp : pc + 1 = pc') (kk : Go p e below s m Q Cc Sc T pc' Ls (.long (x ||| y) :: St)) : Go p e below s m Q Cc Sc T pc Ls (.long y :: .long x :: St) := by
  subst hp
  exact Go.via (fun t q => XS.lor X.here C.x rfl (hb C.b hd) rfl q) kk
theorem g_lxor (C : Cx Z a0 p s m meth c bs ml own nm rt) (X : Stand p l e R s m args below meth c T locs cells slots) {x y : Int64} (hd : decode bs pc = .ok (.lxor, 1))  (hp : pc + 1 = pc') (kk : Go p e below s m Q Cc Sc T pc' Ls (.long (x ^^^ y) :: St)) : Go p e below s m Q Cc Sc T pc Ls (.long y :: .long x :: St) := by
  subst hp
  exact Go.via (fun t q => XS.lxor X.here C.x rfl (hb C.b hd) rfl q) kk
theorem g_ldiv (C : Cx Z a0 p s m meth c bs ml own nm rt) (X : Stand p l e R s m args below meth c T locs cells slots) {x y : Int64} (hd : decode bs pc = .ok (.ldiv, 1)) (hy : y ≠ 0) (hp : pc + 1 = pc') (kk : Go p e below s m Q Cc Sc T pc' Ls (.long (x / y) :: St)) : Go p e below s m Q Cc Sc T pc Ls (.long y :: .long x :: St) := by
  subst hp
  exact Go.via (fun t q => XS.ldiv X.here C.x rfl (hb C.b hd) rfl hy q) kk
theorem g_irem (C : Cx Z a0 p s m meth c bs ml own nm rt) (X : Stand p l e R s m args below meth c T locs cells slots) {x y : Int32} (hd : decode bs pc = .ok (.irem, 1)) (hy : y ≠ 0) (hp : pc + 1 = pc') (kk : Go p e below s m Q Cc Sc T pc' Ls (.int (x % y) :: St)) : Go p e below s m Q Cc Sc T pc Ls (.int y :: .int x :: St) := by
  subst hp
  exact Go.via (fun t q => iremM (g := mkF m pc Ls (.int y :: .int x :: St)) X C.x rfl (hb C.b hd) rfl hy q) kk
theorem g_lrem (C : Cx Z a0 p s m meth c bs ml own nm rt) (X : Stand p l e R s m args below meth c T locs cells slots) {x y : Int64} (hd : decode bs pc = .ok (.lrem, 1)) (hy : y ≠ 0) (hp : pc + 1 = pc') (kk : Go p e below s m Q Cc Sc T pc' Ls (.long (x % y) :: St)) : Go p e below s m Q Cc Sc T pc Ls (.long y :: .long x :: St) := by
  subst hp
  rw [← lrem_mod] at kk
  exact Go.via (fun t q => XS.lrem X.here C.x rfl (hb C.b hd) rfl hy q) kk
theorem g_ishl (C : Cx Z a0 p s m meth c bs ml own nm rt) (X : Stand p l e R s m args below meth c T locs cells slots) {x y : Int32} (hd : decode bs pc = .ok (.ishl, 1))  (hp : pc + 1 = pc') (kk : Go p e below s m Q Cc Sc T pc' Ls (.int (x <<< (y &&& 31)) :: St)) : Go p e below s m Q Cc Sc T pc Ls (.int y :: .int x :: St) := by
  subst hp
  exact Go.via (fun t q => XS.ishl X.here C.x rfl (hb C.b hd) rfl q) kk
theorem g_ishr (C : Cx Z a0 p s m meth c bs ml own nm rt) (X : Stand p l e R s m args below meth c T locs cells slots) {x y : Int32} (hd : decode bs pc = .ok (.ishr, 1))  (hp : pc + 1 = pc') (kk : Go p e below s m Q Cc Sc T pc' Ls (.int (x >>> (y &&& 31)) :: St)) : Go p e below s m Q Cc Sc T pc Ls (.int y :: .int x :: St) := by
  subst hp
  exact Go.via (fun t q => XS.ishr X.here C.x rfl (hb C.b hd) rfl q) kk
theorem g_iushr (C : Cx Z a0 p s m meth c bs ml own nm rt) (X : Stand p l e R s m args below meth c T locs cells slots) {x y : Int32} (hd : decode bs pc = .ok (.iushr, 1))  (hp : pc + 1 = pc') (kk : Go p e below s m Q Cc Sc T pc' Ls (.int ((x.toUInt32 >>> (y &&& 31).toUInt32).toInt32) :: St)) : Go p e below s m Q Cc Sc T pc Ls (.int y :: .int x :: St) := by
  subst hp
  exact Go.via (fun t q => XS.iushr X.here C.x rfl (hb C.b hd) rfl q) kk
theorem g_lshl (C : Cx Z a0 p s m meth c bs ml own nm rt) (X : Stand p l e R s m args below meth c T locs cells slots) {x : Int64} {y : Int32} (hd : decode bs pc = .ok (.lshl, 1))  (hp : pc + 1 = pc') (kk : Go p e below s m Q Cc Sc T pc' Ls (.long (x <<< (y &&& 0x3f).toInt64) :: St)) : Go p e below s m Q Cc Sc T pc Ls (.int y :: .long x :: St) := by
  subst hp
  exact Go.via (fun t q => XS.lshl X.here C.x rfl (hb C.b hd) rfl q) kk
theorem g_lshr (C : Cx Z a0 p s m meth c bs ml own nm rt) (X : Stand p l e R s m args below meth c T locs cells slots) {x : Int64} {y : Int32} (hd : decode bs pc = .ok (.lshr, 1))  (hp : pc + 1 = pc') (kk : Go p e below s m Q Cc Sc T pc' Ls (.long (x >>> (y &&& 0x3f).toInt64) :: St)) : Go p e below s m Q Cc Sc T pc Ls (.int y :: .long x :: St) := by
  subst hp
  exact Go.via (fun t q => XS.lshr X.here C.x rfl (hb C.b hd) rfl q) kk
theorem g_lushr (C : Cx Z a0 p s m meth c bs ml own nm rt) (X : Stand p l e R s m args below meth c T locs cells slots) {x : Int64} {y : Int32} (hd : decode bs pc = .ok (.lushr, 1))  (hp : pc + 1 = pc') (kk : Go p e below s m Q Cc Sc T pc' Ls (.long ((x.toUInt64 >>> (y &&& 0x3f).toInt64.toUInt64).toInt64) :: St)) : Go p e below s m Q Cc Sc T pc Ls (.int y :: .long x :: St) := by
  subst hp
  exact Go.via (fun t q => XS.lushr X.here C.x rfl (hb C.b hd) rfl q) kk
theorem g_i2b (C : Cx Z a0 p s m meth c bs ml own nm rt) (X : Stand p l e R s m args below meth c T locs cells slots) {x : Int32} (hd : decode bs pc = .ok (.i2b, 1))  (hp : pc + 1 = pc') (kk : Go p e below s m Q Cc Sc T pc' Ls (.int (x.toInt8.toInt32) :: St)) : Go p e below s m Q Cc Sc T pc Ls (.int x :: St) := by
  subst hp
  exact Go.via (fun t q => XS.i2b X.here C.x rfl (hb C.b hd) rfl q) kk
theorem g_i2l (C : Cx Z a0 p s m meth c bs ml own nm rt) (X : Stand p l e R s m args below meth c T locs cells slots) {x : Int32} (hd : decode bs pc = .ok (.i2l, 1))  (hp : pc + 1 = pc') (kk : Go p e below s m Q Cc Sc T pc' Ls (.long (x.toInt64) :: St)) : Go p e below s m Q Cc Sc T pc Ls (.int x :: St) := by
  subst hp
  exact Go.via (fun t q => XS.i2l X.here C.x rfl (hb C.b hd) rfl q) kk
theorem g_l2i (C : Cx Z a0 p s m meth c bs ml own nm rt) (X : Stand p l e R s m args below meth c T locs cells slots) {x : Int64} (hd : decode bs pc = .ok (.l2i, 1))  (hp : pc + 1 = pc') (kk : Go p e below s m Q Cc Sc T pc' Ls (.int (x.toInt32) :: St)) : Go p e below s m Q Cc Sc T pc Ls (.long x :: St) := by
  subst hp
  exact Go.via (fun t q => XS.l2i X.here C.x rfl (hb C.b hd) rfl q) kk
theorem g_ineg (C : Cx Z a0 p s m meth c bs ml own nm rt) (X : Stand p l e R s m args below meth c T locs cells slots) {x : Int32} (hd : decode bs pc = .ok (.ineg, 1))  (hp : pc + 1 = pc') (kk : Go p e below s m Q Cc Sc T pc' Ls (.int (-x) :: St)) : Go p e below s m Q Cc Sc T pc Ls (.int x :: St) := by
  subst hp
  exact Go.via (fun t q => XS.ineg X.here C.x rfl (hb C.b hd) rfl q) kk
theorem g_lneg (C : Cx Z a0 p s m meth c bs ml own nm rt) (X : Stand p l e R s m args below meth c T locs cells slots) {x : Int64} (hd : decode bs pc = .ok (.lneg, 1))  (hp : pc + 1 = pc') (kk : Go p e below s m Q Cc Sc T pc' Ls (.long (-x) :: St)) : Go p e below s m Q Cc Sc T pc Ls (.long x :: St) := by
  subst hp
  exact Go.via (fun t q => XS.lneg X.here C.x rfl (hb C.b hd) rfl q) kk
theorem g_dup (C : Cx Z a0 p s m meth c bs ml own nm rt) (X : Stand p l e R s m args below meth c T locs cells slots) {x : Value} (hd : decode bs pc = .ok (.dup, 1)) (hc : x.category = 1) (hp : pc + 1 = pc') (kk : Go p e below s m Q Cc Sc T pc' Ls (x :: x :: St)) : Go p e below s m Q Cc Sc T pc Ls (x :: St) := by
  subst hp
  exact Go.via (fun t q => XS.dup X.here C.x rfl (hb C.b hd) rfl hc q) kk
theorem g_pop (C : Cx Z a0 p s m meth c bs ml own nm rt) (X : Stand p l e R s m args below meth c T locs cells slots) {x : Value} (hd : decode bs pc = .ok (.pop, 1)) (hc : x.category = 1) (hp : pc + 1 = pc') (kk : Go p e below s m Q Cc Sc T pc' Ls St) : Go p e below s m Q Cc Sc T pc Ls (x :: St) := by
  subst hp
  exact Go.via (fun t q => XS.pop X.here C.x rfl (hb C.b hd) rfl hc q) kk
theorem g_goto (C : Cx Z a0 p s m meth c bs ml own nm rt) (X : Stand p l e R s m args below meth c T locs cells slots) {o : Int} (hd : decode bs pc = .ok (.goto o, 3)) (ho : 0 ≤ (pc : Int) + o) (hp : ((pc : Int) + o).toNat = pc') (kk : Go p e below s m Q Cc Sc T pc' Ls St) : Go p e below s m Q Cc Sc T pc Ls St := Go.via (fun t q => XS.goto X.here C.x rfl rfl (hb C.b hd) ho hp q) kk
/-- what a comparison says of two ints -/
def Cd (cd : ClassFile.Cond) (x y : Int) : Prop := match cd with | .eq => x = y | .ne => ¬ x = y | .lt => x < y | .ge => y ≤ x | .gt => y < x | .le => x ≤ y
def ng : ClassFile.Cond → ClassFile.Cond | .eq => .ne | .ne => .eq | .lt => .ge | .ge => .lt | .gt => .le | .le => .gt
theorem cd_n {cd : ClassFile.Cond} {x y : Int} (h : ¬ Cd cd x y) : Cd (ng cd) x y := by
  cases cd <;> simp only [Cd, ng] at h ⊢ <;> omega
theorem cd_t {cd : ClassFile.Cond} {x y : Int32} : if_icmp.holds cd x y = true ↔ Cd cd x.toInt y.toInt := by
  cases cd <;> simp [if_icmp.holds, Cd, Int32.lt_iff_toInt_lt, Int32.le_iff_toInt_le, Int32.toInt_inj]
theorem cd_0 {cd : ClassFile.Cond} {x : Int32} : ifCond.holds cd x = true ↔ Cd cd x.toInt 0 := by
  rw [if0, cd_t]; rfl
theorem g_icmp (C : Cx Z a0 p s m meth c bs ml own nm rt) (X : Stand p l e R s m args below meth c T locs cells slots) {cd : ClassFile.Cond} {o : Int} {x y : Int32} (hd : decode bs pc = .ok (.if_icmp cd o, 3)) (ho : 0 ≤ (pc : Int) + o) (hq : ((pc : Int) + o).toNat = pt) (hp : pc + 3 = pc') (kt : Cd cd x.toInt y.toInt → Go p e below s m Q Cc Sc T pt Ls St) (kf : Cd (ng cd) x.toInt y.toInt → Go p e below s m Q Cc Sc T pc' Ls St) : Go p e below s m Q Cc Sc T pc Ls (.int y :: .int x :: St) := by
  subst hp
  by_cases q : Cd cd x.toInt y.toInt
  · exact Go.via (fun t q' => XS.icmpYes X.here C.x rfl rfl (hb C.b hd) rfl (cd_t.mpr q) ho hq q') (kt q)
  · exact Go.via (fun t q' => XS.icmpNo X.here C.x rfl (hb C.b hd) rfl (Bool.eq_false_iff.mpr fun z => q (cd_t.mp z)) q') (kf (cd_n q))
theorem g_if (C : Cx Z a0 p s m meth c bs ml own nm rt) (X : Stand p l e R s m args below meth c T locs cells slots) {cd : ClassFile.Cond} {o : Int} {x : Int32} (hd : decode bs pc = .ok (.ifCond cd o, 3)) (ho : 0 ≤ (pc : Int) + o) (hq : ((pc : Int) + o).toNat = pt) (hp : pc + 3 = pc') (kt : Cd cd x.toInt 0 → Go p e below s m Q Cc Sc T pt Ls St) (kf : Cd (ng cd) x.toInt 0 → Go p e below s m Q Cc Sc T pc' Ls St) : Go p e below s m Q Cc Sc T pc Ls (.int x :: St) := by
  subst hp
  by_cases q : Cd cd x.toInt 0
  · exact Go.via (fun t q' => XS.ifYes X.here C.x rfl rfl (hb C.b hd) rfl (cd_0.mpr q) ho hq q') (kt q)
  · exact Go.via (fun t q' => XS.ifNo X.here C.x rfl (hb C.b hd) rfl (Bool.eq_false_iff.mpr fun z => q (cd_0.mp z)) q') (kf (cd_n q))
theorem cd_l {cd : ClassFile.Cond} {x y : Int64} : Cd cd (lcmpW x y).toInt 0 ↔ Cd cd x.toInt y.toInt := by
  obtain ⟨h1, h2, h3⟩ := c_lcmp x y
  generalize (lcmpW x y).toInt = w at *
  generalize x.toInt = u at *
  generalize y.toInt = v at *
  cases cd <;> simp only [Cd] <;> omega
theorem g_lcmpif (C : Cx Z a0 p s m meth c bs ml own nm rt) (X : Stand p l e R s m args below meth c T locs cells slots) {cd : ClassFile.Cond} {o : Int} {x y : Int64} {pm : Nat} (hd0 : decode bs pc = .ok (.lcmp, 1)) (hm : pc + 1 = pm) (hd : decode bs pm = .ok (.ifCond cd o, 3)) (ho : 0 ≤ (pm : Int) + o) (hq : ((pm : Int) + o).toNat = pt) (hp : pm + 3 = pc') (kt : Cd cd x.toInt y.toInt → Go p e below s m Q Cc Sc T pt Ls St) (kf : Cd (ng cd) x.toInt y.toInt → Go p e below s m Q Cc Sc T pc' Ls St) : Go p e below s m Q Cc Sc T pc Ls (.long y :: .long x :: St) := by
  subst hm
  refine Go.via (fun t q' => XS.lcmp X.here C.x rfl (hb C.b hd0) rfl q') ?_
  exact g_if C X hd ho hq hp (fun z => kt (cd_l.mp z)) (fun z => kf (cd_l.mp z))
theorem g_ireturnN (C : Cx Z a0 p s m meth c bs ml own nm rt) (X : Stand p l e R s m args below meth c T locs cells slots) {z : Int32} {t : FieldType} (hd : decode bs pc = .ok (.ireturn, 1)) (hr : rt = some t) (ht : t = .boolean ∨ t = .byte ∨ t = .char ∨ t = .short) (hQ : Q (some (.int (nar t z))) T.heap locs) (hC : cells ≤ Cc) (hS : slots ≤ Sc) : Go p e below s m Q Cc Sc T pc Ls (.int z :: St) := by
  subst hr
  obtain ⟨fs, hr, hrun, hended, hW, hsame⟩ := X.leave (v := some (.int (nar t z))) (fun h => by rw [C.r] at h; cases h) C.lk
  refine ⟨_, _, ?_, hrun, hended, _, _, rfl, hQ, ⟨_, rfl⟩, hW, hsame.mono hC hS⟩
  exact retN X C.x C.r ht (hb C.b hd) hr
theorem g_ireturn (C : Cx Z a0 p s m meth c bs ml own nm rt) (X : Stand p l e R s m args below meth c T locs cells slots) {z : Int32} (hd : decode bs pc = .ok (.ireturn, 1)) (hr : rt = some .int) (hQ : Q (some (.int z)) T.heap locs) (hC : cells ≤ Cc) (hS : slots ≤ Sc) : Go p e below s m Q Cc Sc T pc Ls (.int z :: St) := by
  subst hr
  obtain ⟨fs, hr, hrun, hended, hW, hsame⟩ := X.leave (v := some (.int z)) (fun h => by rw [C.r] at h; cases h) C.lk
  refine ⟨_, _, ?_, hrun, hended, _, _, rfl, hQ, ⟨_, rfl⟩, hW, hsame.mono hC hS⟩
  exact retOut X C.x C.r rfl (Or.inl ⟨rfl, Or.inl rfl, z, rfl⟩) (hb C.b hd) hr
theorem g_lreturn (C : Cx Z a0 p s m meth c bs ml own nm rt) (X : Stand p l e R s m args below meth c T locs cells slots) {z : Int64} (hd : decode bs pc = .ok (.lreturn, 1)) (hr : rt = some .long) (hQ : Q (some (.long z)) T.heap locs) (hC : cells ≤ Cc) (hS : slots ≤ Sc) : Go p e below s m Q Cc Sc T pc Ls (.long z :: St) := by
  subst hr
  obtain ⟨fs, hr, hrun, hended, hW, hsame⟩ := X.leave (v := some (.long z)) (fun h => by rw [C.r] at h; cases h) C.lk
  refine ⟨_, _, ?_, hrun, hended, _, _, rfl, hQ, ⟨_, rfl⟩, hW, hsame.mono hC hS⟩
  exact retOut X C.x C.r rfl (Or.inr (Or.inl ⟨rfl, rfl, z, rfl⟩)) (hb C.b hd) hr
theorem g_areturn (C : Cx Z a0 p s m meth c bs ml own nm rt) (X : Stand p l e R s m args below meth c T locs cells slots) {z : Addr} {t : FieldType} (hd : decode bs pc = .ok (.areturn, 1)) (hr : rt = some t) (ht : t.isReference = true) (hn : narrow t (.ref z) = .ref z) (hQ : Q (some (.ref z)) T.heap locs) (hC : cells ≤ Cc) (hS : slots ≤ Sc) : Go p e below s m Q Cc Sc T pc Ls (.ref z :: St) := by
  subst hr
  obtain ⟨fs, hr, hrun, hended, hW, hsame⟩ := X.leave (v := some (.ref z)) (fun h => by rw [C.r] at h; cases h) C.lk
  refine ⟨_, _, ?_, hrun, hended, _, _, rfl, hQ, ⟨_, rfl⟩, hW, hsame.mono hC hS⟩
  exact retOut X C.x C.r hn (Or.inr (Or.inr (Or.inr (Or.inr ⟨rfl, ht, rfl⟩)))) (hb C.b hd) hr
theorem g_return (C : Cx Z a0 p s m meth c bs ml own nm rt) (X : Stand p l e R s m args below meth c T locs cells slots)  (hd : decode bs pc = .ok (.return_, 1)) (hr : rt = none) (hQ : Q none T.heap locs) (hC : cells ≤ Cc) (hS : slots ≤ Sc) : Go p e below s m Q Cc Sc T pc Ls [] := by
  subst hr
  obtain ⟨fs, hr, hrun, hended, hW, hsame⟩ := X.leave (v := none) (fun _ => rfl) C.lk
  refine ⟨_, _, ?_, hrun, hended, _, _, rfl, hQ, ⟨_, rfl⟩, hW, hsame.mono hC hS⟩
  exact X.returnOut C.x C.r (hb C.b hd) hr
/-- an array: its kind, its length, what each place holds -/
def Aw (Z : State) (h : Heap) (a : Addr) (ty : FieldType) (n : Nat) (f : Nat → Value) : Prop := ∃ cl : Cell, Arr Z h a cl ty ∧ cl.slots.size = n ∧ n < 2 ^ 31 ∧ ∀ j, j < n → cl.slots[j]? = some (f j)
variable {a b : Addr} {ty : FieldType} {n : Nat} {f f' : Nat → Value}
theorem Aw.ext (A : Aw Z h a ty n f) (E : Ext h h') : Aw Z h' a ty n f := by obtain ⟨cl, A, r⟩ := A; exact ⟨cl, A.ext E, r⟩
theorem Aw.other {sl : Nat} {v : Value} (A : Aw Z h b ty n f) (W : Wr h h' a sl v) (q : b ≠ a) : Aw Z h' b ty n f := by obtain ⟨cl, A, r⟩ := A; exact ⟨cl, A.other W q, r⟩
theorem Aw.keep {ws : List Addr} (A : Aw Z h a ty n f) (K : Keep h h' ws) (q : a ∉ ws) : Aw Z h' a ty n f := by obtain ⟨cl, A, r⟩ := A; exact ⟨cl, ⟨K.2.1 a cl A.1 q, A.2⟩, r⟩
theorem Aw.lt (A : Aw Z h a ty n f) : a < h.size := by obtain ⟨cl, A, r⟩ := A; exact A.lt
theorem Aw.of (A : Aw Z h a ty n f) (q : ∀ j, j < n → f j = f' j) : Aw Z h a ty n f' := by obtain ⟨cl, A, r1, r2, r3⟩ := A; exact ⟨cl, A, r1, r2, fun j hj => by rw [r3 j hj, q j hj]⟩
theorem i_nn {j : Int32} (h0 : 0 ≤ j.toInt) : (j.toNatClampNeg : Int) = j.toInt := by simp only [Int32.toNatClampNeg]; omega
theorem aw_in {cl : Cell} {j : Int32} (S : cl.slots.size = n) (h0 : 0 ≤ j.toInt) (h1 : j.toInt < n) : ¬ (j < 0 ∨ cl.slots.size ≤ j.toNatClampNeg) := by
  have := i_nn h0
  rw [Int32.lt_iff_toInt_lt, S]; simp only [Int32.reduceToInt]; omega
theorem aw_len (q : n < 2 ^ 31) : (n.toInt32).toInt = n := len_toInt q
theorem g_newarray {aty : ArrayType} {nn : Int32} {cap : Nat} (C : Cx Z a0 p s m meth c bs ml own nm rt) (X : Stand p l e R s m args below meth c T locs cells slots) (hd : decode bs pc = .ok (.newarray aty, 2)) (eT : T.heap = h) (w : (Jvm.Cond.arrayClass (newarray.typeOf aty)).before a0 Z = true) (h0 : 0 ≤ nn.toInt) (hcap : nn.toInt ≤ cap) (hb8 : cap * 8 ≤ 536870912) (hc : cells + 1 ≤ R.cells) (hl : slots + cap ≤ R.slots) (hp : pc + 2 = pc')
    (kk : ∀ T' h', Stand p l e R s m args below meth c T' locs (cells + 1) (slots + cap) → T'.heap = h' → Ext h h' → h.size < h'.size → ∀ a, a = h.size → Aw Z h' a (newarray.typeOf aty) nn.toInt.toNat (fun _ => defaultValue (newarray.typeOf aty)) → Go p e below s m Q Cc Sc T' pc' Ls (.ref a :: St)) : Go p e below s m Q Cc Sc T pc Ls (.int nn :: St) := by
  subst hp
  have hn : ¬ nn < 0 := by rw [Int32.lt_iff_toInt_lt]; simp only [Int32.reduceToInt]; omega
  have hi := i_nn h0
  obtain ⟨T', h', cA, X', e', E, A, st⟩ := newP X C.x C.z w eT (g := mkF m pc Ls (.int nn :: St)) rfl (hb C.b hd) rfl hn (cap := cap) (by omega) hb8 hc hl
  have hs : (newA cA (newarray.typeOf aty) nn).slots.size = nn.toInt.toNat := by rw [sz_new]; simp only [Int32.toNatClampNeg]
  have hlt := nn.toInt_lt
  refine Go.via st (kk T' h' X' e' E A.lt _ rfl ⟨_, A, hs, by omega, fun j hj => ?_⟩)
  have : j < nn.toNatClampNeg := by omega
  simp [newA, this]
theorem Aw.set {cl : Cell} {j : Int32} {v : Value} (A : Arr Z h a cl ty) (S : cl.slots.size = n) (M : n < 2 ^ 31) (H : ∀ j, j < n → cl.slots[j]? = some (f j)) (h0 : 0 ≤ j.toInt) (W : Wr h h' a j.toNatClampNeg v) : Aw Z h' a ty n (fun i => if (i : Int) = j.toInt then v else f i) := by
  refine ⟨_, A.same W, by rw [sz_set]; exact S, M, fun i hi => ?_⟩
  have hi0 := i_nn h0
  show _ = some (if (i : Int) = j.toInt then v else f i)
  by_cases q : (i : Int) = j.toInt
  · have : j.toNatClampNeg = i := by omega
    rw [if_pos q, this]
    simp [Cell.setSlot, S, hi]
  · have : j.toNatClampNeg ≠ i := by omega
    rw [if_neg q]
    simp only [Cell.setSlot]
    rw [Array.getElem?_setIfInBounds_ne this]; exact H i hi
theorem g_arraylength (C : Cx Z a0 p s m meth c bs ml own nm rt) (X : Stand p l e R s m args below meth c T locs cells slots) (hd : decode bs pc = .ok (.arraylength, 1)) (eT : T.heap = h) (A : Aw Z h a ty n f) (hp : pc + 1 = pc') (kk : ∀ v : Int32, v.toInt = n → Go p e below s m Q Cc Sc T pc' Ls (.int v :: St)) : Go p e below s m Q Cc Sc T pc Ls (.ref a :: St) := by
  subst hp
  obtain ⟨cl, A, S, M, H⟩ := A
  have : cl.slots.size.toInt32.toInt = n := by rw [S]; exact aw_len M
  exact Go.via (fun t q => X.arraylength C.x (by rw [eT]; exact A.1) (State.isArrayOf_alike C.z.alike A.2.1) (g := mkF m pc Ls (.ref a :: St)) rfl rfl (hb C.b hd) t q) (kk _ this)

theorem g_iastore {j : Int32} {x : Int32} (C : Cx Z a0 p s m meth c bs ml own nm rt) (X : Stand p l e R s m args below meth c T locs cells slots) (hd : decode bs pc = .ok (.iastore, 1)) (eT : T.heap = h) (A : Aw Z h a .int n f) (h0 : 0 ≤ j.toInt) (h1 : j.toInt < n) (hp : pc + 1 = pc')
    (kk : ∀ T' h', Stand p l e R s m args below meth c T' (locs ++ [⟨a, j.toNatClampNeg⟩]) cells slots → T'.heap = h' → Wr h h' a j.toNatClampNeg (.int x) → Aw Z h' a .int n (fun i => if (i : Int) = j.toInt then .int x else f i) → Go p e below s m Q Cc Sc T' pc' Ls St) : Go p e below s m Q Cc Sc T pc Ls (.int x :: .int j :: .ref a :: St) := by
  subst hp
  obtain ⟨cl, A, S, M, H⟩ := A
  obtain ⟨T', h', X', e', W, st⟩ := stI X C.x C.z eT A (j := j) (aw_in S h0 h1) (g := mkF m pc Ls (.int x :: .int j :: .ref a :: St)) rfl rfl (hb C.b hd)
  exact Go.via st (kk T' h' X' e' W (Aw.set A S M H h0 W))
theorem g_bastore {j : Int32} {x : Int32} (C : Cx Z a0 p s m meth c bs ml own nm rt) (X : Stand p l e R s m args below meth c T locs cells slots) (hd : decode bs pc = .ok (.bastore, 1)) (eT : T.heap = h) (A : Aw Z h a .byte n f) (h0 : 0 ≤ j.toInt) (h1 : j.toInt < n) (hp : pc + 1 = pc')
    (kk : ∀ T' h', Stand p l e R s m args below meth c T' (locs ++ [⟨a, j.toNatClampNeg⟩]) cells slots → T'.heap = h' → Wr h h' a j.toNatClampNeg (.int (nar .byte x)) → Aw Z h' a .byte n (fun i => if (i : Int) = j.toInt then .int (nar .byte x) else f i) → Go p e below s m Q Cc Sc T' pc' Ls St) : Go p e below s m Q Cc Sc T pc Ls (.int x :: .int j :: .ref a :: St) := by
  subst hp
  obtain ⟨cl, A, S, M, H⟩ := A
  obtain ⟨T', h', X', e', W, st⟩ := stB X C.x C.z eT A (j := j) (aw_in S h0 h1) (g := mkF m pc Ls (.int x :: .int j :: .ref a :: St)) rfl rfl (hb C.b hd)
  exact Go.via st (kk T' h' X' e' W (Aw.set A S M H h0 W))
theorem g_lastore {j : Int32} {x : Int64} (C : Cx Z a0 p s m meth c bs ml own nm rt) (X : Stand p l e R s m args below meth c T locs cells slots) (hd : decode bs pc = .ok (.lastore, 1)) (eT : T.heap = h) (A : Aw Z h a .long n f) (h0 : 0 ≤ j.toInt) (h1 : j.toInt < n) (hp : pc + 1 = pc')
    (kk : ∀ T' h', Stand p l e R s m args below meth c T' (locs ++ [⟨a, j.toNatClampNeg⟩]) cells slots → T'.heap = h' → Wr h h' a j.toNatClampNeg (.long x) → Aw Z h' a .long n (fun i => if (i : Int) = j.toInt then .long x else f i) → Go p e below s m Q Cc Sc T' pc' Ls St) : Go p e below s m Q Cc Sc T pc Ls (.long x :: .int j :: .ref a :: St) := by
  subst hp
  obtain ⟨cl, A, S, M, H⟩ := A
  obtain ⟨T', h', X', e', W, st⟩ := stJ X C.x C.z eT A (j := j) (aw_in S h0 h1) (g := mkF m pc Ls (.long x :: .int j :: .ref a :: St)) rfl rfl (hb C.b hd)
  exact Go.via st (kk T' h' X' e' W (Aw.set A S M H h0 W))
theorem g_iaload {j : Int32} {v : Value} (C : Cx Z a0 p s m meth c bs ml own nm rt) (X : Stand p l e R s m args below meth c T locs cells slots) (hd : decode bs pc = .ok (.iaload, 1)) (eT : T.heap = h) (A : Aw Z h a .int n f) (h0 : 0 ≤ j.toInt) (h1 : j.toInt < n) (hv : f j.toInt.toNat = v) (hp : pc + 1 = pc') (kk : Go p e below s m Q Cc Sc T pc' Ls (v :: St)) : Go p e below s m Q Cc Sc T pc Ls (.int j :: .ref a :: St) := by
  subst hp
  obtain ⟨cl, A, S, M, H⟩ := A
  have hi := i_nn h0
  have hj : j.toNatClampNeg = j.toInt.toNat := by omega
  have hat : cl.slots[j.toNatClampNeg]? = some v := by rw [hj, H _ (by omega), hv]
  exact Go.via (fun t q => X.iaload C.x (j := j) (v := v) (by rw [eT]; exact A.1) (State.isArrayOf_alike C.z.alike A.2.1) A.2.2 (aw_in S h0 h1) hat (g := mkF m pc Ls (.int j :: .ref a :: St)) rfl rfl (hb C.b hd) t q) kk
theorem g_baload {j : Int32} {v : Value} (C : Cx Z a0 p s m meth c bs ml own nm rt) (X : Stand p l e R s m args below meth c T locs cells slots) (hd : decode bs pc = .ok (.baload, 1)) (eT : T.heap = h) (A : Aw Z h a .byte n f) (h0 : 0 ≤ j.toInt) (h1 : j.toInt < n) (hv : f j.toInt.toNat = v) (hp : pc + 1 = pc') (kk : Go p e below s m Q Cc Sc T pc' Ls (v :: St)) : Go p e below s m Q Cc Sc T pc Ls (.int j :: .ref a :: St) := by
  subst hp
  obtain ⟨cl, A, S, M, H⟩ := A
  have hi := i_nn h0
  have hj : j.toNatClampNeg = j.toInt.toNat := by omega
  have hat : cl.slots[j.toNatClampNeg]? = some v := by rw [hj, H _ (by omega), hv]
  exact Go.via (fun t q => X.baloadBytes C.x (j := j) (v := v) (by rw [eT]; exact A.1) (State.isArrayOf_alike C.z.alike A.2.1) A.2.2 (aw_in S h0 h1) hat (g := mkF m pc Ls (.int j :: .ref a :: St)) rfl rfl (hb C.b hd) t q) kk
theorem g_laload {j : Int32} {v : Value} (C : Cx Z a0 p s m meth c bs ml own nm rt) (X : Stand p l e R s m args below meth c T locs cells slots) (hd : decode bs pc = .ok (.laload, 1)) (eT : T.heap = h) (A : Aw Z h a .long n f) (h0 : 0 ≤ j.toInt) (h1 : j.toInt < n) (hv : f j.toInt.toNat = v) (hp : pc + 1 = pc') (kk : Go p e below s m Q Cc Sc T pc' Ls (v :: St)) : Go p e below s m Q Cc Sc T pc Ls (.int j :: .ref a :: St) := by
  subst hp
  obtain ⟨cl, A, S, M, H⟩ := A
  have hi := i_nn h0
  have hj : j.toNatClampNeg = j.toInt.toNat := by omega
  have hat : cl.slots[j.toNatClampNeg]? = some v := by rw [hj, H _ (by omega), hv]
  exact Go.via (fun t q => X.laload C.x (j := j) (v := v) (by rw [eT]; exact A.1) (State.isArrayOf_alike C.z.alike A.2.1) A.2.2 (aw_in S h0 h1) hat (g := mkF m pc Ls (.int j :: .ref a :: St)) rfl rfl (hb C.b hd) t q) kk
theorem g_callS {y : MethodName} {bytes : ByteArray} {maxL W index : Nat} {ret : Option FieldType} {rm : Room} {argsL rest : List Value} {ps : List FieldType} {r : Option FieldType} {Qc : Option Value → Heap → List Loc → Prop} (C : Cx Z a0 p s m meth c bs ml own nm rt) (X : Stand p l e R s m args below meth c T locs cells slots)
    (hd : decode bs pc = .ok (.invokestatic index, 3)) (eT : T.heap = h)
    (w1 : (Jvm.Cond.methodLink own index y).before a0 Z = true) (w2 : (Jvm.Cond.static y).before a0 Z = true) (w3 : (Jvm.Cond.initialized y.cls).before a0 Z = true) (w4 : (Jvm.Cond.code y bytes maxL ret).before a0 Z = true)
    (hM : MetFree l y (head1 [Jvm.Cond.code y bytes maxL ret] rm) (fun a U => a = argsL.toArray ∧ Z.Warmed39 U.vm ∧ U.heap = h) (fun _ _ _ _ _ => True) (fun _ U o U' => ∃ v L, o = .returned v ∧ Qc v U'.heap L ∧ FrameEnd U o U' L rm.cells rm.slots))
    (hy : y.cls ≠ "java/lang/invoke/MethodHandle" ∧ y.cls ≠ "java/lang/invoke/VarHandle") (hpd : parseMethodDescriptor y.desc = some ⟨ps, r⟩) (hln : argsL.length = ps.length)
    (hst : St = argsL.reverse ++ rest) (hLs : Ls.size = ml) (hW : (rest.map fun v => v.category).sum ≤ W) (hfr : rm.frames + 1 ≤ R.frames) (hlo : W + (maxL + 11) + rm.locals ≤ R.locals) (hce : cells + rm.cells ≤ R.cells) (hsl : slots + rm.slots ≤ R.slots) (hp : pc + 3 = pc')
    (kk : ∀ T' v L, Stand p l e R s m args below meth c T' (locs ++ L) (cells + rm.cells) (slots + rm.slots) → Qc v T'.heap L → Go p e below s m Q Cc Sc T' pc' Ls (v.toList ++ rest)) : Go p e below s m Q Cc Sc T pc Ls St := by
  subst hp
  obtain ⟨v, _, ⟨T', L', k', n'⟩, -, X', ⟨L, hQ, l1, y1, z1⟩, st⟩ := Jvm.LawKit.callS X C.x (y := y) C.o (mvT C.z w1) (mvT C.z w2) (mvT C.z w3) (mvT C.z w4) hy (backOf (W := W) hM C.z w4 w3 hfr hlo) (g := mkF m pc Ls St) rfl (by rw [C.mx]; exact hLs) (argsL := argsL) (rest := rest) (lenOf hpd hln) hst (by show 2 * 0 + _ ≤ _; omega) (hb C.b hd) (fun _ _ => ⟨rfl, eT, hce, hsl⟩)
  dsimp only [Pt.U, Pt.locs, Pt.cells, Pt.slots] at X' l1 y1 z1 st hQ
  subst l1 y1 z1
  exact Go.via st (kk T' v L X' hQ)
theorem g_callC {y : MethodName} {bytes : ByteArray} {maxL W index : Nat} {rm : Room} {argsL rest : List Value} {ps : List FieldType} {r : Option FieldType} {Qc : Option Value → Heap → List Loc → Prop} (C : Cx Z a0 p s m meth c bs ml own nm rt) (X : Stand p l e R s m args below meth c T locs cells slots)
    (hd : decode bs pc = .ok (.invokespecial index, 3)) (eT : T.heap = h) (hy1 : y.name = "<init>") 
    (w1 : (Jvm.Cond.methodLink own index y).before a0 Z = true) (w2 : (Jvm.Cond.instanceMethod y).before a0 Z = true) (w3 : (Jvm.Cond.initialized y.cls).before a0 Z = true) (w4 : (Jvm.Cond.code y bytes maxL none).before a0 Z = true)
    (hM : MetFree l y (head1 [Jvm.Cond.code y bytes maxL none] rm) (fun a' U => a' = (Value.ref a :: argsL).toArray ∧ Z.Warmed39 U.vm ∧ U.heap = h) (fun _ _ _ _ _ => True) (fun _ U o U' => ∃ v L, o = .returned v ∧ Qc v U'.heap L ∧ FrameEnd U o U' L rm.cells rm.slots))
    (hy : y.cls ≠ "java/lang/invoke/MethodHandle" ∧ y.cls ≠ "java/lang/invoke/VarHandle") (hpd : parseMethodDescriptor y.desc = some ⟨ps, r⟩) (hln : argsL.length = ps.length)
    (hst : St = argsL.reverse ++ .ref a :: rest) (hLs : Ls.size = ml) (hW : (rest.map fun v => v.category).sum ≤ W) (hfr : rm.frames + 1 ≤ R.frames) (hlo : W + (maxL + 11) + rm.locals ≤ R.locals) (hce : cells + rm.cells ≤ R.cells) (hsl : slots + rm.slots ≤ R.slots) (hp : pc + 3 = pc')
    (kk : ∀ T' v L, Stand p l e R s m args below meth c T' (locs ++ L) (cells + rm.cells) (slots + rm.slots) → Qc v T'.heap L → Go p e below s m Q Cc Sc T' pc' Ls (v.toList ++ rest)) : Go p e below s m Q Cc Sc T pc Ls St := by
  subst hp
  obtain ⟨v, _, ⟨T', L', k', n'⟩, -, X', ⟨L, hQ, l1, y1, z1⟩, st⟩ := X.specialBack C.x (y := y) hy1 C.o (mvT C.z w1) (mvT C.z w2) (mvT C.z w4) hy (backOf (W := W) hM C.z w4 w3 hfr hlo) (g := mkF m pc Ls St) rfl (by rw [C.mx]; exact hLs) (Steps.refl _) (a := a) (argsL := argsL) (rest := rest) (lenOf hpd hln) hst (by show 2 * 0 + _ ≤ _; omega) (hb C.b hd) (fun _ _ => ⟨rfl, eT, hce, hsl⟩)
  dsimp only [Pt.U, Pt.locs, Pt.cells, Pt.slots] at X' l1 y1 z1 st hQ
  subst l1 y1 z1
  exact Go.via (fun t q => st.trans q) (kk T' v L X' hQ)
theorem g_callV {y : MethodName} {bytes : ByteArray} {maxL W index : Nat} {ret : Option FieldType} {rm : Room} {argsL rest : List Value} {ps : List FieldType} {r : Option FieldType} {Qc : Option Value → Heap → List Loc → Prop} (C : Cx Z a0 p s m meth c bs ml own nm rt) (X : Stand p l e R s m args below meth c T locs cells slots)
    (hd : decode bs pc = .ok (.invokevirtual index, 3)) (eT : T.heap = h) {K : String} (E : Exa Z h a K) (wd : (Jvm.Cond.declares y).before a0 Z = true) (wn : (Jvm.Cond.selects K y y).before a0 Z = true) 
    (w1 : (Jvm.Cond.methodLink own index y).before a0 Z = true) (w2 : (Jvm.Cond.instanceMethod y).before a0 Z = true) (w3 : (Jvm.Cond.initialized y.cls).before a0 Z = true) (w4 : (Jvm.Cond.code y bytes maxL ret).before a0 Z = true)
    (hM : MetFree l y (head1 [Jvm.Cond.code y bytes maxL ret] rm) (fun a' U => a' = (Value.ref a :: argsL).toArray ∧ Z.Warmed39 U.vm ∧ U.heap = h) (fun _ _ _ _ _ => True) (fun _ U o U' => ∃ v L, o = .returned v ∧ Qc v U'.heap L ∧ FrameEnd U o U' L rm.cells rm.slots))
    (hy : y.cls ≠ "java/lang/invoke/MethodHandle" ∧ y.cls ≠ "java/lang/invoke/VarHandle") (hpd : parseMethodDescriptor y.desc = some ⟨ps, r⟩) (hln : argsL.length = ps.length)
    (hst : St = argsL.reverse ++ .ref a :: rest) (hLs : Ls.size = ml) (hW : (rest.map fun v => v.category).sum ≤ W) (hfr : rm.frames + 1 ≤ R.frames) (hlo : W + (maxL + 11) + rm.locals ≤ R.locals) (hce : cells + rm.cells ≤ R.cells) (hsl : slots + rm.slots ≤ R.slots) (hp : pc + 3 = pc')
    (kk : ∀ T' v L, Stand p l e R s m args below meth c T' (locs ++ L) (cells + rm.cells) (slots + rm.slots) → Qc v T'.heap L → Go p e below s m Q Cc Sc T' pc' Ls (v.toList ++ rest)) : Go p e below s m Q Cc Sc T pc Ls St := by
  subst hp
  obtain ⟨cq, kq, qa, qb, qc⟩ := isOf C.z eT E
  obtain ⟨v, _, ⟨T', L', k', n'⟩, -, X', ⟨L, hQ, l1, y1, z1⟩, st⟩ := X.virtualBack C.x (y := y) (z := y) C.o (mvT C.z w1) (mvT C.z wd) (notFace_of_selects (args := #[]) (mvT C.z wn)) (mvT C.z wn) (mvT C.z w2) hy (backOf (W := W) hM C.z w4 w3 hfr hlo) qa qc (g := mkF m pc Ls St) rfl (by rw [C.mx]; exact hLs) (Steps.refl _) (argsL := argsL) (rest := rest) (lenOf hpd hln) hst (by show 2 * 0 + _ ≤ _; omega) (hb C.b hd) (fun _ _ => ⟨rfl, eT, hce, hsl⟩)
  dsimp only [Pt.U, Pt.locs, Pt.cells, Pt.slots] at X' l1 y1 z1 st hQ
  subst l1 y1 z1
  exact Go.via (fun t q => st.trans q) (kk T' v L X' hQ)
theorem g_getfield {R0 O nf df : String} {index : Nat} {v : Value} (C : Cx Z a0 p s m meth c bs ml own nm rt) (X : Stand p l e R s m args below meth c T locs cells slots) (hd : decode bs pc = .ok (.getfield index, 3)) (eT : T.heap = h) (w : (Jvm.Cond.fieldLink own index R0 nf df).before a0 Z = true) (via : Via Z R0 O nf df) (F : Fld Z h a O nf df v) (hp : pc + 3 = pc')
    (kk : ∀ T', Stand p l e R s m args below meth c T' locs cells slots → T'.heap = h → Go p e below s m Q Cc Sc T' pc' Ls (v :: St)) : Go p e below s m Q Cc Sc T pc Ls (.ref a :: St) := by
  subst hp
  obtain ⟨T', X', e', st⟩ := getF X C.x C.z C.o (host := "") (Or.inl w) via eT F (g := mkF m pc Ls (.ref a :: St)) rfl rfl (hb C.b hd)
  exact Go.via st (kk T' X' e')
theorem g_new {K : String} {index n : Nat} (C : Cx Z a0 p s m meth c bs ml own nm rt) (X : Stand p l e R s m args below meth c T locs cells slots) (hd : decode bs pc = .ok (.new index, 3)) (eT : T.heap = h) (w1 : (Jvm.Cond.classLink own index K).before a0 Z = true) (w2 : (Jvm.Cond.instantiable K n).before a0 Z = true) (w3 : (Jvm.Cond.initialized K).before a0 Z = true) (hc : cells + 1 ≤ R.cells) (hl : slots + n ≤ R.slots) (hp : pc + 3 = pc')
    (kk : ∀ T' h', Stand p l e R s m args below meth c T' locs (cells + 1) (slots + n) → T'.heap = h' → Ext h h' → h.size < h'.size → ∀ a, a = h.size → Exa Z h' a K → (∀ {O nf d : String} {ty : FieldType}, Laid Z a0 K O nf d → parseFieldDescriptor d = some ty → Fld Z h' a O nf d (defaultValue ty)) → Go p e below s m Q Cc Sc T' pc' Ls (.ref a :: St)) : Go p e below s m Q Cc Sc T pc Ls St := by
  subst hp
  obtain ⟨T', h', X', e', E, A, D, -, st⟩ := newO X C.x C.z C.o w1 w2 w3 eT (g := mkF m pc Ls St) rfl (hb C.b hd) hc hl
  exact Go.via st (kk T' h' X' e' E A.lt _ rfl A D)
theorem g_putfield {R0 O nf df K : String} {index kk' : Nat} {ty : FieldType} {v old : Value} (C : Cx Z a0 p s m meth c bs ml own nm rt) (X : Stand p l e R s m args below meth c T locs cells slots) (hd : decode bs pc = .ok (.putfield index, 3)) (eT : T.heap = h) (w : (Jvm.Cond.fieldLink own index R0 nf df).before a0 Z = true) (via : Via Z R0 O nf df) (F : Fld Z h a O nf df old) (E : Exa Z h a K) (L : (Jvm.Cond.lays K O nf df).before a0 Z = true ∨ ((Jvm.Cond.laysFinal K O nf df).before a0 Z = true ∧ own = O ∧ nm = "<init>")) (wi : (Jvm.Cond.instantiable K kk').before a0 Z = true) (hty : parseFieldDescriptor df = some ty) (hn : narrow ty v = v) (hf : fits ty v = true) (hp : pc + 3 = pc')
    (kk : ∀ T' h', Stand p l e R s m args below meth c T' (locs ++ [⟨a, Jvm.RoadKit.slotOf Z O nf df⟩]) cells slots → T'.heap = h' → Wr h h' a (Jvm.RoadKit.slotOf Z O nf df) v → Fld Z h' a O nf df v → Exa Z h' a K → Go p e below s m Q Cc Sc T' pc' Ls St) : Go p e below s m Q Cc Sc T pc Ls (v :: .ref a :: St) := by
  subst hp
  obtain ⟨T', h', X', e', W, st⟩ := putF X C.x C.z C.o (host := "") (Or.inl w) via eT F E (L.imp id fun q => ⟨q.1, q.2.1, by rw [C.n]; exact q.2.2⟩) wi hty hn hf (g := mkF m pc Ls (v :: .ref a :: St)) rfl rfl (hb C.b hd)
  exact Go.via st (kk T' h' X' e' W (F.same W) (E.wr W))
theorem g_initO {idx W : Nat} (C : Cx Z a0 p s m meth c bs ml own nm rt) (X : Stand p l e R s m args below meth c T locs cells slots) (hd : decode bs pc = .ok (.invokespecial idx, 3)) (eT : T.heap = h) (w1 : (Jvm.Cond.methodLink own idx Lib.objectInit).before a0 Z = true) (w2 : (Jvm.Cond.instanceMethod Lib.objectInit).before a0 Z = true) (w3 : (Jvm.Cond.code Lib.objectInit ⟨#[0xb1]⟩ 1 none).before a0 Z = true) (hLs : Ls.size = ml) (hf : 1 ≤ R.frames) (hW : (St.map fun v => v.category).sum ≤ W) (hl : W + 12 ≤ R.locals) (hp : pc + 3 = pc')
    (kk : ∀ T', Stand p l e R s m args below meth c T' locs cells slots → T'.heap = h → Go p e below s m Q Cc Sc T' pc' Ls St) : Go p e below s m Q Cc Sc T pc Ls (.ref a :: St) := by
  subst hp
  obtain ⟨T', X', e', st⟩ := initO X C.x C.z C.o w1 w2 w3 eT (g := mkF m pc Ls (.ref a :: St)) rfl (by rw [C.mx]; exact hLs) rfl (hb C.b hd) hf (W := W) (by show 2 * 0 + _ ≤ _; omega) hl
  exact Go.via st (kk T' X' e')
end Own
/-- numbers -/
theorem own_inj32 {x y : Int32} (h : x.toInt = y.toInt) : x = y := Int32.toInt_inj.mp h
theorem own_inj64 {x y : Int64} (h : x.toInt = y.toInt) : x = y := Int64.toInt_inj.mp h
theorem own_nz32 {x : Int32} (h : 1 ≤ x.toInt) : x ≠ 0 := fun q => by rw [q] at h; revert h; decide
theorem own_nz64 {x : Int64} (h : 1 ≤ x.toInt) : x ≠ 0 := fun q => by rw [q] at h; revert h; decide
abbrev LQ (n0 : Nat) : Option Value → Heap → List Loc → Prop := fun v _ L => v = some (.int 1) ∧ Fr n0 L
section Own2
variable {p : Program} {l : Launch} {e : Env} {R : Room} {s : State} {m : MethodId} {args : Array Value} {below : List Frame} {meth : Method} {c : Code} {T T' : State} {locs : List Loc} {cells slots : Nat} {Z : State} {a0 : Array Value} {h h' : Heap} {Q : Option Value → Heap → List Loc → Prop} {Cc Sc : Nat} {pc pc' pt k : Nat} {Ls Ls' : Array Slot} {St St' : List Value} {bs : ByteArray} {ml : Nat} {own nm : String} {rt : Option FieldType}
theorem g_callSN {y : MethodName} {host : String} {bytes : ByteArray} {maxL W index : Nat} {ret : Option FieldType} {rm : Room} {argsL rest : List Value} {ps : List FieldType} {r : Option FieldType} {Qc : Option Value → Heap → List Loc → Prop} (C : Cx Z a0 p s m meth c bs ml own nm rt) (X : Stand p l e R s m args below meth c T locs cells slots)
    (hd : decode bs pc = .ok (.invokestatic index, 3)) (eT : T.heap = h)
    (w1 : (Jvm.Cond.methodLinkNest own index y host).before a0 Z = true) (w2 : (Jvm.Cond.static y).before a0 Z = true) (w3 : (Jvm.Cond.initialized y.cls).before a0 Z = true) (w4 : (Jvm.Cond.code y bytes maxL ret).before a0 Z = true)
    (hM : MetFree l y (head1 [Jvm.Cond.code y bytes maxL ret] rm) (fun a U => a = argsL.toArray ∧ Z.Warmed39 U.vm ∧ U.heap = h) (fun _ _ _ _ _ => True) (fun _ U o U' => ∃ v L, o = .returned v ∧ Qc v U'.heap L ∧ FrameEnd U o U' L rm.cells rm.slots))
    (hy : y.cls ≠ "java/lang/invoke/MethodHandle" ∧ y.cls ≠ "java/lang/invoke/VarHandle") (hpd : parseMethodDescriptor y.desc = some ⟨ps, r⟩) (hln : argsL.length = ps.length)
    (hst : St = argsL.reverse ++ rest) (hLs : Ls.size = ml) (hW : (rest.map fun v => v.category).sum ≤ W) (hfr : rm.frames + 1 ≤ R.frames) (hlo : W + (maxL + 11) + rm.locals ≤ R.locals) (hce : cells + rm.cells ≤ R.cells) (hsl : slots + rm.slots ≤ R.slots) (hp : pc + 3 = pc')
    (kk : ∀ T' v L, Stand p l e R s m args below meth c T' (locs ++ L) (cells + rm.cells) (slots + rm.slots) → Qc v T'.heap L → Go p e below s m Q Cc Sc T' pc' Ls (v.toList ++ rest)) : Go p e below s m Q Cc Sc T pc Ls St := by
  subst hp
  have hcode : (Jvm.Cond.code y bytes maxL ret).before args s = true := mvT C.z w4
  obtain ⟨mk, hnamed⟩ := Cond.code_named hcode
  obtain ⟨methM, cM, hmethM, -, -, -, -, -, -, hsigM⟩ := Cond.code_spec hnamed hcode
  obtain ⟨kP, hkP, -⟩ := className_of_methodNamed hnamed
  obtain ⟨vm₁, X₁, st₁⟩ := X.invokestaticNest C.x C.o (Cond.methodLinkNest_wide C.z w1 :) hnamed hmethM (Cond.static_spec hnamed hmethM (mvT C.z w2 (args := args))) hkP (Cond.initialized_spec (findClass_of_methodNamed hnamed) hkP (mvT C.z w3 (args := args))) hy (g := mkF m pc Ls St) rfl (argsL := argsL) (rest := rest) (lenOf hpd hln _ hsigM) hst (hb C.b hd)
  have hB : Back l R p e below s args y 3 W _ _ := backOf (W := W) hM C.z w4 w3 hfr hlo
  obtain ⟨v, ⟨T', L', k', n'⟩, X', ⟨L, hQ, l1, y1, z1⟩, st⟩ := hB m meth c ⟨T.setVm vm₁, locs, cells, slots⟩ (mkF m pc Ls rest) (.invokestatic index) mk argsL.toArray X₁ rfl (by rw [C.mx]; exact hLs) (hb C.b hd) (by show 2 * 0 + (rest.map fun v => v.category).sum ≤ W; omega) (X₁.named hnamed) ⟨rfl, eT, hce, hsl⟩
  dsimp only [Pt.U, Pt.locs, Pt.cells, Pt.slots] at X' l1 y1 z1 st hQ
  subst l1 y1 z1
  refine Go.via (fun t q => st₁ t fun acts => ?_) (kk T' v L X' hQ)
  rw [doInvoke_state]
  exact st.trans q
end Own2
/-- where the entries end -/
def own_end (n : Int) (v0 v1 v2 : Int32) (e : Int) : Prop := (e = 3 ∧ 3 ≤ n ∧ ¬ v2.toInt = 0) ∨ (e = 2 ∧ 2 ≤ n ∧ ¬ v1.toInt = 0 ∧ (n < 3 ∨ v2.toInt = 0)) ∨ (e = 1 ∧ 1 ≤ n ∧ ¬ v0.toInt = 0 ∧ (n < 3 ∨ v2.toInt = 0) ∧ (n < 2 ∨ v1.toInt = 0)) ∨ (e = 0 ∧ (n < 3 ∨ v2.toInt = 0) ∧ (n < 2 ∨ v1.toInt = 0) ∧ (n < 1 ∨ v0.toInt = 0))
theorem own_end1 {n : Int} {v0 v1 v2 : Int32} {e e' : Int} (h : own_end n v0 v1 v2 e) (h' : own_end n v0 v1 v2 e') : e = e' := by
  unfold own_end at h h'
  omega
theorem own_endb {n : Int} {v0 v1 v2 : Int32} {e : Int} (hn : 0 ≤ n) (h : own_end n v0 v1 v2 e) : 0 ≤ e ∧ e ≤ n ∧ e ≤ 3 := by
  unfold own_end at h
  omega
theorem d1_0 : decode method_3_code 0 = .ok (.iload_n 0, 1) := by decide +kernel
theorem d1_1 : decode method_3_code 1 = .ok (.ifCond .ne 5, 3) := by decide +kernel
theorem d1_4 : decode method_3_code 4 = .ok (.iconst 0, 1) := by decide +kernel
theorem d1_5 : decode method_3_code 5 = .ok (.ireturn, 1) := by decide +kernel
theorem d1_6 : decode method_3_code 6 = .ok (.iload_n 0, 1) := by decide +kernel
theorem d1_7 : decode method_3_code 7 = .ok (.iconst 1, 1) := by decide +kernel
theorem d1_8 : decode method_3_code 8 = .ok (.if_icmp .ne 5, 3) := by decide +kernel
theorem d1_11 : decode method_3_code 11 = .ok (.iload_n 1, 1) := by decide +kernel
theorem d1_12 : decode method_3_code 12 = .ok (.ireturn, 1) := by decide +kernel
theorem d1_13 : decode method_3_code 13 = .ok (.iload_n 0, 1) := by decide +kernel
theorem d1_14 : decode method_3_code 14 = .ok (.iconst 2, 1) := by decide +kernel
theorem d1_15 : decode method_3_code 15 = .ok (.if_icmp .ne 5, 3) := by decide +kernel
theorem d1_18 : decode method_3_code 18 = .ok (.iload_n 2, 1) := by decide +kernel
theorem d1_19 : decode method_3_code 19 = .ok (.ireturn, 1) := by decide +kernel
theorem d1_20 : decode method_3_code 20 = .ok (.iload_n 1, 1) := by decide +kernel
theorem d1_21 : decode method_3_code 21 = .ok (.iconst 1, 1) := by decide +kernel
theorem d1_22 : decode method_3_code 22 = .ok (.iadd, 1) := by decide +kernel
theorem d1_23 : decode method_3_code 23 = .ok (.ireturn, 1) := by decide +kernel
theorem pn_1 : plainFor (⟨"com/example/framewright/framewright/StackMapTableWriterStartsWithPinLaw", "pick", "(III)I"⟩ : MethodName) = true := plainFor_of_name (by first | (simp [plainName, overriddenIn]; done) | decide +kernel)
theorem pd_1 : parseMethodDescriptor "(III)I" = some ⟨[.int, .int, .int], some .int⟩ := by decide +kernel
theorem ef_1 (x0 : Int32) (x1 : Int32) (x2 : Int32) (m : MethodId) : entryFrame m #[(.int x0), (.int x1), (.int x2)] 3 = mkF m 0 #[.val (.int x0), .val (.int x1), .val (.int x2)] [] := by first | (simp [entryFrame, mkF, argsToLocals, Value.category]; done) | rfl
theorem d2_0 : decode method_4_code 0 = .ok (.iload_n 0, 1) := by decide +kernel
theorem d2_1 : decode method_4_code 1 = .ok (.ifCond .ne 7, 3) := by decide +kernel
theorem d2_4 : decode method_4_code 4 = .ok (.iconst 0, 1) := by decide +kernel
theorem d2_5 : decode method_4_code 5 = .ok (.newarray .int, 2) := by decide +kernel
theorem d2_7 : decode method_4_code 7 = .ok (.areturn, 1) := by decide +kernel
theorem d2_8 : decode method_4_code 8 = .ok (.iload_n 0, 1) := by decide +kernel
theorem d2_9 : decode method_4_code 9 = .ok (.iconst 1, 1) := by decide +kernel
theorem d2_10 : decode method_4_code 10 = .ok (.if_icmp .ne 11, 3) := by decide +kernel
theorem d2_13 : decode method_4_code 13 = .ok (.iconst 1, 1) := by decide +kernel
theorem d2_14 : decode method_4_code 14 = .ok (.newarray .int, 2) := by decide +kernel
theorem d2_16 : decode method_4_code 16 = .ok (.dup, 1) := by decide +kernel
theorem d2_17 : decode method_4_code 17 = .ok (.iconst 0, 1) := by decide +kernel
theorem d2_18 : decode method_4_code 18 = .ok (.iload_n 1, 1) := by decide +kernel
theorem d2_19 : decode method_4_code 19 = .ok (.iastore, 1) := by decide +kernel
theorem d2_20 : decode method_4_code 20 = .ok (.areturn, 1) := by decide +kernel
theorem d2_21 : decode method_4_code 21 = .ok (.iload_n 0, 1) := by decide +kernel
theorem d2_22 : decode method_4_code 22 = .ok (.iconst 2, 1) := by decide +kernel
theorem d2_23 : decode method_4_code 23 = .ok (.if_icmp .ne 15, 3) := by decide +kernel
theorem d2_26 : decode method_4_code 26 = .ok (.iconst 2, 1) := by decide +kernel
theorem d2_27 : decode method_4_code 27 = .ok (.newarray .int, 2) := by decide +kernel
theorem d2_29 : decode method_4_code 29 = .ok (.dup, 1) := by decide +kernel
theorem d2_30 : decode method_4_code 30 = .ok (.iconst 0, 1) := by decide +kernel
theorem d2_31 : decode method_4_code 31 = .ok (.iload_n 1, 1) := by decide +kernel
theorem d2_32 : decode method_4_code 32 = .ok (.iastore, 1) := by decide +kernel
theorem d2_33 : decode method_4_code 33 = .ok (.dup, 1) := by decide +kernel
theorem d2_34 : decode method_4_code 34 = .ok (.iconst 1, 1) := by decide +kernel
theorem d2_35 : decode method_4_code 35 = .ok (.iload_n 2, 1) := by decide +kernel
theorem d2_36 : decode method_4_code 36 = .ok (.iastore, 1) := by decide +kernel
theorem d2_37 : decode method_4_code 37 = .ok (.areturn, 1) := by decide +kernel
theorem d2_38 : decode method_4_code 38 = .ok (.iconst 3, 1) := by decide +kernel
theorem d2_39 : decode method_4_code 39 = .ok (.newarray .int, 2) := by decide +kernel
theorem d2_41 : decode method_4_code 41 = .ok (.dup, 1) := by decide +kernel
theorem d2_42 : decode method_4_code 42 = .ok (.iconst 0, 1) := by decide +kernel
theorem d2_43 : decode method_4_code 43 = .ok (.iload_n 1, 1) := by decide +kernel
theorem d2_44 : decode method_4_code 44 = .ok (.iastore, 1) := by decide +kernel
theorem d2_45 : decode method_4_code 45 = .ok (.dup, 1) := by decide +kernel
theorem d2_46 : decode method_4_code 46 = .ok (.iconst 1, 1) := by decide +kernel
theorem d2_47 : decode method_4_code 47 = .ok (.iload_n 2, 1) := by decide +kernel
theorem d2_48 : decode method_4_code 48 = .ok (.iastore, 1) := by decide +kernel
theorem d2_49 : decode method_4_code 49 = .ok (.dup, 1) := by decide +kernel
theorem d2_50 : decode method_4_code 50 = .ok (.iconst 2, 1) := by decide +kernel
theorem d2_51 : decode method_4_code 51 = .ok (.iload_n 3, 1) := by decide +kernel
theorem d2_52 : decode method_4_code 52 = .ok (.iastore, 1) := by decide +kernel
theorem d2_53 : decode method_4_code 53 = .ok (.areturn, 1) := by decide +kernel
theorem pn_2 : plainFor (⟨"com/example/framewright/framewright/StackMapTableWriterStartsWithPinLaw", "make", "(IIII)[I"⟩ : MethodName) = true := plainFor_of_name (by first | (simp [plainName, overriddenIn]; done) | decide +kernel)
theorem pd_2 : parseMethodDescriptor "(IIII)[I" = some ⟨[.int, .int, .int, .int], some (.array .int)⟩ := by decide +kernel
theorem ef_2 (x0 : Int32) (x1 : Int32) (x2 : Int32) (x3 : Int32) (m : MethodId) : entryFrame m #[(.int x0), (.int x1), (.int x2), (.int x3)] 4 = mkF m 0 #[.val (.int x0), .val (.int x1), .val (.int x2), .val (.int x3)] [] := by first | (simp [entryFrame, mkF, argsToLocals, Value.category]; done) | rfl
theorem d6_0 : decode prog_32_method_5_code 0 = .ok (.iload_n 0, 1) := by decide +kernel
theorem d6_1 : decode prog_32_method_5_code 1 = .ok (.iconst 4, 1) := by decide +kernel
theorem d6_2 : decode prog_32_method_5_code 2 = .ok (.if_icmp .eq 8, 3) := by decide +kernel
theorem d6_5 : decode prog_32_method_5_code 5 = .ok (.iload_n 0, 1) := by decide +kernel
theorem d6_6 : decode prog_32_method_5_code 6 = .ok (.iconst 3, 1) := by decide +kernel
theorem d6_7 : decode prog_32_method_5_code 7 = .ok (.if_icmp .ne 7, 3) := by decide +kernel
theorem d6_10 : decode prog_32_method_5_code 10 = .ok (.iconst 1, 1) := by decide +kernel
theorem d6_11 : decode prog_32_method_5_code 11 = .ok (.goto 4, 3) := by decide +kernel
theorem d6_14 : decode prog_32_method_5_code 14 = .ok (.iconst 0, 1) := by decide +kernel
theorem d6_15 : decode prog_32_method_5_code 15 = .ok (.ireturn, 1) := by decide +kernel
theorem pn_6 : plainFor (⟨"com/example/framewright/framewright/Types", "isTwoSlots", "(I)Z"⟩ : MethodName) = true := plainFor_of_name (by first | (simp [plainName, overriddenIn]; done) | decide +kernel)
theorem pd_6 : parseMethodDescriptor "(I)Z" = some ⟨[.int], some .boolean⟩ := by decide +kernel
theorem ef_6 (x0 : Int32) (m : MethodId) : entryFrame m #[(.int x0)] 1 = mkF m 0 #[.val (.int x0)] [] := by first | (simp [entryFrame, mkF, argsToLocals, Value.category]; done) | rfl
theorem d5_0 : decode prog_22_method_11_code 0 = .ok (.iconst 0, 1) := by decide +kernel
theorem d5_1 : decode prog_22_method_11_code 1 = .ok (.istore_n 2, 1) := by decide +kernel
theorem d5_2 : decode prog_22_method_11_code 2 = .ok (.iconst 0, 1) := by decide +kernel
theorem d5_3 : decode prog_22_method_11_code 3 = .ok (.istore_n 3, 1) := by decide +kernel
theorem d5_4 : decode prog_22_method_11_code 4 = .ok (.iload_n 3, 1) := by decide +kernel
theorem d5_5 : decode prog_22_method_11_code 5 = .ok (.iload_n 1, 1) := by decide +kernel
theorem d5_6 : decode prog_22_method_11_code 6 = .ok (.if_icmp .ge 26, 3) := by decide +kernel
theorem d5_9 : decode prog_22_method_11_code 9 = .ok (.iinc 2 1, 3) := by decide +kernel
theorem d5_12 : decode prog_22_method_11_code 12 = .ok (.iload_n 3, 1) := by decide +kernel
theorem d5_13 : decode prog_22_method_11_code 13 = .ok (.aload_n 0, 1) := by decide +kernel
theorem d5_14 : decode prog_22_method_11_code 14 = .ok (.iload_n 3, 1) := by decide +kernel
theorem d5_15 : decode prog_22_method_11_code 15 = .ok (.iaload, 1) := by decide +kernel
theorem d5_16 : decode prog_22_method_11_code 16 = .ok (.invokestatic 158, 3) := by decide +kernel
theorem d5_19 : decode prog_22_method_11_code 19 = .ok (.ifCond .eq 7, 3) := by decide +kernel
theorem d5_22 : decode prog_22_method_11_code 22 = .ok (.iconst 2, 1) := by decide +kernel
theorem d5_23 : decode prog_22_method_11_code 23 = .ok (.goto 4, 3) := by decide +kernel
theorem d5_26 : decode prog_22_method_11_code 26 = .ok (.iconst 1, 1) := by decide +kernel
theorem d5_27 : decode prog_22_method_11_code 27 = .ok (.iadd, 1) := by decide +kernel
theorem d5_28 : decode prog_22_method_11_code 28 = .ok (.istore_n 3, 1) := by decide +kernel
theorem d5_29 : decode prog_22_method_11_code 29 = .ok (.goto (-25), 3) := by decide +kernel
theorem d5_32 : decode prog_22_method_11_code 32 = .ok (.iload_n 2, 1) := by decide +kernel
theorem d5_33 : decode prog_22_method_11_code 33 = .ok (.ireturn, 1) := by decide +kernel
theorem pn_5 : plainFor (⟨"com/example/framewright/framewright/StackMapTableWriter", "entryCount", "([II)I"⟩ : MethodName) = true := plainFor_of_name (by first | (simp [plainName, overriddenIn]; done) | decide +kernel)
theorem pd_5 : parseMethodDescriptor "([II)I" = some ⟨[(.array .int), .int], some .int⟩ := by decide +kernel
theorem ef_5 (x0 : Addr) (x1 : Int32) (m : MethodId) : entryFrame m #[(.ref x0), (.int x1)] 4 = mkF m 0 #[.val (.ref x0), .val (.int x1), .unset, .unset] [] := by first | (simp [entryFrame, mkF, argsToLocals, Value.category]; done) | rfl
theorem d3_0 : decode prog_23_method_1_code 0 = .ok (.aload_n 0, 1) := by decide +kernel
theorem d3_1 : decode prog_23_method_1_code 1 = .ok (.invokespecial 1, 3) := by decide +kernel
theorem d3_4 : decode prog_23_method_1_code 4 = .ok (.aload_n 0, 1) := by decide +kernel
theorem d3_5 : decode prog_23_method_1_code 5 = .ok (.iconst (-1), 1) := by decide +kernel
theorem d3_6 : decode prog_23_method_1_code 6 = .ok (.putfield 7, 3) := by decide +kernel
theorem d3_9 : decode prog_23_method_1_code 9 = .ok (.aload_n 1, 1) := by decide +kernel
theorem d3_10 : decode prog_23_method_1_code 10 = .ok (.arraylength, 1) := by decide +kernel
theorem d3_11 : decode prog_23_method_1_code 11 = .ok (.istore_n 2, 1) := by decide +kernel
theorem d3_12 : decode prog_23_method_1_code 12 = .ok (.iload_n 2, 1) := by decide +kernel
theorem d3_13 : decode prog_23_method_1_code 13 = .ok (.ifCond .le 17, 3) := by decide +kernel
theorem d3_16 : decode prog_23_method_1_code 16 = .ok (.aload_n 1, 1) := by decide +kernel
theorem d3_17 : decode prog_23_method_1_code 17 = .ok (.iload_n 2, 1) := by decide +kernel
theorem d3_18 : decode prog_23_method_1_code 18 = .ok (.iconst 1, 1) := by decide +kernel
theorem d3_19 : decode prog_23_method_1_code 19 = .ok (.isub, 1) := by decide +kernel
theorem d3_20 : decode prog_23_method_1_code 20 = .ok (.iaload, 1) := by decide +kernel
theorem d3_21 : decode prog_23_method_1_code 21 = .ok (.ifCond .ne 9, 3) := by decide +kernel
theorem d3_24 : decode prog_23_method_1_code 24 = .ok (.iinc 2 (-1), 3) := by decide +kernel
theorem d3_27 : decode prog_23_method_1_code 27 = .ok (.goto (-15), 3) := by decide +kernel
theorem d3_30 : decode prog_23_method_1_code 30 = .ok (.aload_n 0, 1) := by decide +kernel
theorem d3_31 : decode prog_23_method_1_code 31 = .ok (.aload_n 1, 1) := by decide +kernel
theorem d3_32 : decode prog_23_method_1_code 32 = .ok (.putfield 13, 3) := by decide +kernel
theorem d3_35 : decode prog_23_method_1_code 35 = .ok (.aload_n 0, 1) := by decide +kernel
theorem d3_36 : decode prog_23_method_1_code 36 = .ok (.iload_n 2, 1) := by decide +kernel
theorem d3_37 : decode prog_23_method_1_code 37 = .ok (.putfield 17, 3) := by decide +kernel
theorem d3_40 : decode prog_23_method_1_code 40 = .ok (.aload_n 0, 1) := by decide +kernel
theorem d3_41 : decode prog_23_method_1_code 41 = .ok (.aload_n 1, 1) := by decide +kernel
theorem d3_42 : decode prog_23_method_1_code 42 = .ok (.iload_n 2, 1) := by decide +kernel
theorem d3_43 : decode prog_23_method_1_code 43 = .ok (.invokestatic 20, 3) := by decide +kernel
theorem d3_46 : decode prog_23_method_1_code 46 = .ok (.putfield 26, 3) := by decide +kernel
theorem d3_49 : decode prog_23_method_1_code 49 = .ok (.return_, 1) := by decide +kernel
theorem pn_3 : plainFor (⟨"com/example/framewright/framewright/StackMapTableWriter$Locals", "<init>", "([I)V"⟩ : MethodName) = true := plainFor_of_name (by first | (simp [plainName, overriddenIn]; done) | decide +kernel)
theorem pd_3 : parseMethodDescriptor "([I)V" = some ⟨[(.array .int)], none⟩ := by decide +kernel
theorem ef_3 (x0 : Addr) (x1 : Addr) (m : MethodId) : entryFrame m #[(.ref x0), (.ref x1)] 3 = mkF m 0 #[.val (.ref x0), .val (.ref x1), .unset] [] := by first | (simp [entryFrame, mkF, argsToLocals, Value.category]; done) | rfl
theorem d7_0 : decode prog_23_method_3_code 0 = .ok (.aload_n 1, 1) := by decide +kernel
theorem d7_1 : decode prog_23_method_3_code 1 = .ok (.getfield 17, 3) := by decide +kernel
theorem d7_4 : decode prog_23_method_3_code 4 = .ok (.aload_n 0, 1) := by decide +kernel
theorem d7_5 : decode prog_23_method_3_code 5 = .ok (.getfield 17, 3) := by decide +kernel
theorem d7_8 : decode prog_23_method_3_code 8 = .ok (.if_icmp .le 5, 3) := by decide +kernel
theorem d7_11 : decode prog_23_method_3_code 11 = .ok (.iconst 0, 1) := by decide +kernel
theorem d7_12 : decode prog_23_method_3_code 12 = .ok (.ireturn, 1) := by decide +kernel
theorem d7_13 : decode prog_23_method_3_code 13 = .ok (.iconst 0, 1) := by decide +kernel
theorem d7_14 : decode prog_23_method_3_code 14 = .ok (.istore_n 2, 1) := by decide +kernel
theorem d7_15 : decode prog_23_method_3_code 15 = .ok (.iload_n 2, 1) := by decide +kernel
theorem d7_16 : decode prog_23_method_3_code 16 = .ok (.aload_n 1, 1) := by decide +kernel
theorem d7_17 : decode prog_23_method_3_code 17 = .ok (.getfield 17, 3) := by decide +kernel
theorem d7_20 : decode prog_23_method_3_code 20 = .ok (.if_icmp .ge 26, 3) := by decide +kernel
theorem d7_23 : decode prog_23_method_3_code 23 = .ok (.aload_n 0, 1) := by decide +kernel
theorem d7_24 : decode prog_23_method_3_code 24 = .ok (.getfield 13, 3) := by decide +kernel
theorem d7_27 : decode prog_23_method_3_code 27 = .ok (.iload_n 2, 1) := by decide +kernel
theorem d7_28 : decode prog_23_method_3_code 28 = .ok (.iaload, 1) := by decide +kernel
theorem d7_29 : decode prog_23_method_3_code 29 = .ok (.aload_n 1, 1) := by decide +kernel
theorem d7_30 : decode prog_23_method_3_code 30 = .ok (.getfield 13, 3) := by decide +kernel
theorem d7_33 : decode prog_23_method_3_code 33 = .ok (.iload_n 2, 1) := by decide +kernel
theorem d7_34 : decode prog_23_method_3_code 34 = .ok (.iaload, 1) := by decide +kernel
theorem d7_35 : decode prog_23_method_3_code 35 = .ok (.if_icmp .eq 5, 3) := by decide +kernel
theorem d7_38 : decode prog_23_method_3_code 38 = .ok (.iconst 0, 1) := by decide +kernel
theorem d7_39 : decode prog_23_method_3_code 39 = .ok (.ireturn, 1) := by decide +kernel
theorem d7_40 : decode prog_23_method_3_code 40 = .ok (.iinc 2 1, 3) := by decide +kernel
theorem d7_43 : decode prog_23_method_3_code 43 = .ok (.goto (-28), 3) := by decide +kernel
theorem d7_46 : decode prog_23_method_3_code 46 = .ok (.iconst 1, 1) := by decide +kernel
theorem d7_47 : decode prog_23_method_3_code 47 = .ok (.ireturn, 1) := by decide +kernel
theorem pn_7 : plainFor (⟨"com/example/framewright/framewright/StackMapTableWriter$Locals", "startsWith", "(Lcom/example/framewright/framewright/StackMapTableWriter$Locals;)Z"⟩ : MethodName) = true := plainFor_of_name (by first | (simp [plainName, overriddenIn]; done) | decide +kernel)
theorem pd_7 : parseMethodDescriptor "(Lcom/example/framewright/framewright/StackMapTableWriter$Locals;)Z" = some ⟨[(.object "com/example/framewright/framewright/StackMapTableWriter$Locals")], some .boolean⟩ := by decide +kernel
theorem ef_7 (x0 : Addr) (x1 : Addr) (m : MethodId) : entryFrame m #[(.ref x0), (.ref x1)] 3 = mkF m 0 #[.val (.ref x0), .val (.ref x1), .unset] [] := by first | (simp [entryFrame, mkF, argsToLocals, Value.category]; done) | rfl
theorem d8_0 : decode method_5_code 0 = .ok (.iload_n 0, 1) := by decide +kernel
theorem d8_1 : decode method_5_code 1 = .ok (.iconst 3, 1) := by decide +kernel
theorem d8_2 : decode method_5_code 2 = .ok (.if_icmp .lt 9, 3) := by decide +kernel
theorem d8_5 : decode method_5_code 5 = .ok (.iload_n 3, 1) := by decide +kernel
theorem d8_6 : decode method_5_code 6 = .ok (.ifCond .eq 5, 3) := by decide +kernel
theorem d8_9 : decode method_5_code 9 = .ok (.iconst 3, 1) := by decide +kernel
theorem d8_10 : decode method_5_code 10 = .ok (.ireturn, 1) := by decide +kernel
theorem d8_11 : decode method_5_code 11 = .ok (.iload_n 0, 1) := by decide +kernel
theorem d8_12 : decode method_5_code 12 = .ok (.iconst 2, 1) := by decide +kernel
theorem d8_13 : decode method_5_code 13 = .ok (.if_icmp .lt 9, 3) := by decide +kernel
theorem d8_16 : decode method_5_code 16 = .ok (.iload_n 2, 1) := by decide +kernel
theorem d8_17 : decode method_5_code 17 = .ok (.ifCond .eq 5, 3) := by decide +kernel
theorem d8_20 : decode method_5_code 20 = .ok (.iconst 2, 1) := by decide +kernel
theorem d8_21 : decode method_5_code 21 = .ok (.ireturn, 1) := by decide +kernel
theorem d8_22 : decode method_5_code 22 = .ok (.iload_n 0, 1) := by decide +kernel
theorem d8_23 : decode method_5_code 23 = .ok (.iconst 1, 1) := by decide +kernel
theorem d8_24 : decode method_5_code 24 = .ok (.if_icmp .lt 9, 3) := by decide +kernel
theorem d8_27 : decode method_5_code 27 = .ok (.iload_n 1, 1) := by decide +kernel
theorem d8_28 : decode method_5_code 28 = .ok (.ifCond .eq 5, 3) := by decide +kernel
theorem d8_31 : decode method_5_code 31 = .ok (.iconst 1, 1) := by decide +kernel
theorem d8_32 : decode method_5_code 32 = .ok (.ireturn, 1) := by decide +kernel
theorem d8_33 : decode method_5_code 33 = .ok (.iconst 0, 1) := by decide +kernel
theorem d8_34 : decode method_5_code 34 = .ok (.ireturn, 1) := by decide +kernel
theorem pn_8 : plainFor (⟨"com/example/framewright/framewright/StackMapTableWriterStartsWithPinLaw", "end", "(IIII)I"⟩ : MethodName) = true := plainFor_of_name (by first | (simp [plainName, overriddenIn]; done) | decide +kernel)
theorem pd_8 : parseMethodDescriptor "(IIII)I" = some ⟨[.int, .int, .int, .int], some .int⟩ := by decide +kernel
theorem ef_8 (x0 : Int32) (x1 : Int32) (x2 : Int32) (x3 : Int32) (m : MethodId) : entryFrame m #[(.int x0), (.int x1), (.int x2), (.int x3)] 4 = mkF m 0 #[.val (.int x0), .val (.int x1), .val (.int x2), .val (.int x3)] [] := by first | (simp [entryFrame, mkF, argsToLocals, Value.category]; done) | rfl
theorem pn_0 : plainFor x = true := plainFor_of_name (by first | (simp [plainName, overriddenIn]; done) | decide +kernel)
theorem pd_0 : parseMethodDescriptor "(IIIIJ)Z" = some ⟨[.int, .int, .int, .int, .long], some .boolean⟩ := by decide +kernel
theorem ef_0 (x0 : Int32) (x1 : Int32) (x2 : Int32) (x3 : Int32) (x4 : Int64) (m : MethodId) : entryFrame m #[(.int x0), (.int x1), (.int x2), (.int x3), (.long x4)] maxLocals = mkF m 0 #[.val (.int x0), .val (.int x1), .val (.int x2), .val (.int x3), .val (.long x4), .second, .unset, .unset, .unset, .unset, .unset, .unset, .unset, .unset, .unset, .unset, .unset, .unset, .unset, .unset, .unset, .unset] [] := by first | (simp [entryFrame, mkF, argsToLocals, Value.category, maxLocals]; done) | rfl
def Q_rm1 (Z : State) (x0 : Int32) (x1 : Int32) (x2 : Int32) (h0 : Heap) (n0 : Nat) (v : Option Value) (h : Heap) (L : List Loc) : Prop := (∃ r : Int32, v = some (.int r)) ∧ Fr n0 L ∧ h = h0
set_option maxRecDepth 65536 in
set_option maxHeartbeats 40000000 in
theorem rm1 (l : Launch) (Z : State) (a0 : Array Value) (hw : ∀ d ∈ tables_1, d.before a0 Z = true) (ws : List Jvm.Cond) (x0 : Int32) (x1 : Int32) (x2 : Int32) (h0 : Heap) (n0 : Nat) (Z0 : n0 ≤ h0.size) :
    MetFree l (⟨"com/example/framewright/framewright/StackMapTableWriterStartsWithPinLaw", "pick", "(III)I"⟩ : MethodName) (head1 (Jvm.Cond.code (⟨"com/example/framewright/framewright/StackMapTableWriterStartsWithPinLaw", "pick", "(III)I"⟩ : MethodName) method_3_code 3 (some .int) :: ws) ({ frames := 0, cells := 0, slots := 0, locals := 0 } : Room)) (fun aa U => aa = #[(.int x0), (.int x1), (.int x2)] ∧ Z.Warmed39 U.vm ∧ U.heap = h0) (fun _ _ _ _ _ => True) (fun _ U oo U' => ∃ rv Lr, oo = .returned rv ∧ Q_rm1 Z x0 x1 x2 h0 n0 rv U'.heap Lr ∧ FrameEnd U oo U' Lr ({ frames := 0, cells := 0, slots := 0, locals := 0 } : Room).cells ({ frames := 0, cells := 0, slots := 0, locals := 0 } : Room).slots) := by
  refine g_enter pn_1 hw (ef_1 x0 x1 x2) ?_
  intro p e s m below meth c T0 C X0 e0
  have C : Cx Z a0 p s m meth c method_3_code 3 "com/example/framewright/framewright/StackMapTableWriterStartsWithPinLaw" "pick" (some .int) := C
  have N0 := Fr.nil n0
  refine g_iloadN C X0 d1_0 rfl rfl ?_
  refine g_if C X0 d1_1 (by decide) rfl rfl ?_ ?_
  · intro h1
    have h1 : ¬ x0.toInt = 0 := h1
    refine g_iloadN C X0 d1_6 rfl rfl ?_
    refine g_iconst C X0 (1 : Int32) d1_7 rfl rfl ?_
    refine g_icmp C X0 d1_8 (by decide) rfl rfl ?_ ?_
    · intro h8
      have h8 : ¬ x0.toInt = 1 := h8
      refine g_iloadN C X0 d1_13 rfl rfl ?_
      refine g_iconst C X0 (2 : Int32) d1_14 rfl rfl ?_
      refine g_icmp C X0 d1_15 (by decide) rfl rfl ?_ ?_
      · intro h15
        have h15 : ¬ x0.toInt = 2 := h15
        refine g_iloadN C X0 d1_20 rfl rfl ?_
        refine g_iconst C X0 (1 : Int32) d1_21 rfl rfl ?_
        refine g_iadd C X0 d1_22 rfl ?_
        exact g_ireturn C X0 d1_23 rfl ⟨⟨_, rfl⟩, N0, e0⟩ (by decide) (by decide)
      · intro h15
        have h15 : x0.toInt = 2 := h15
        refine g_iloadN C X0 d1_18 rfl rfl ?_
        exact g_ireturn C X0 d1_19 rfl ⟨⟨_, rfl⟩, N0, e0⟩ (by decide) (by decide)
    · intro h8
      have h8 : x0.toInt = 1 := h8
      refine g_iloadN C X0 d1_11 rfl rfl ?_
      exact g_ireturn C X0 d1_12 rfl ⟨⟨_, rfl⟩, N0, e0⟩ (by decide) (by decide)
  · intro h1
    have h1 : x0.toInt = 0 := h1
    refine g_iconst C X0 (0 : Int32) d1_4 rfl rfl ?_
    exact g_ireturn C X0 d1_5 rfl ⟨⟨_, rfl⟩, N0, e0⟩ (by decide) (by decide)
def Q_rm8 (Z : State) (x0 : Int32) (x1 : Int32) (x2 : Int32) (x3 : Int32) (h0 : Heap) (n0 : Nat) (v : Option Value) (h : Heap) (L : List Loc) : Prop := (∃ r : Int32, v = some (.int r) ∧ own_end x0.toInt x1 x2 x3 r.toInt) ∧ Fr n0 L ∧ h = h0
set_option maxRecDepth 65536 in
set_option maxHeartbeats 40000000 in
theorem rm8 (l : Launch) (Z : State) (a0 : Array Value) (hw : ∀ d ∈ tables_1, d.before a0 Z = true) (ws : List Jvm.Cond) (x0 : Int32) (x1 : Int32) (x2 : Int32) (x3 : Int32) (h0 : Heap) (n0 : Nat) (Z0 : n0 ≤ h0.size) :
    MetFree l (⟨"com/example/framewright/framewright/StackMapTableWriterStartsWithPinLaw", "end", "(IIII)I"⟩ : MethodName) (head1 (Jvm.Cond.code (⟨"com/example/framewright/framewright/StackMapTableWriterStartsWithPinLaw", "end", "(IIII)I"⟩ : MethodName) method_5_code 4 (some .int) :: ws) ({ frames := 0, cells := 0, slots := 0, locals := 0 } : Room)) (fun aa U => aa = #[(.int x0), (.int x1), (.int x2), (.int x3)] ∧ Z.Warmed39 U.vm ∧ U.heap = h0) (fun _ _ _ _ _ => True) (fun _ U oo U' => ∃ rv Lr, oo = .returned rv ∧ Q_rm8 Z x0 x1 x2 x3 h0 n0 rv U'.heap Lr ∧ FrameEnd U oo U' Lr ({ frames := 0, cells := 0, slots := 0, locals := 0 } : Room).cells ({ frames := 0, cells := 0, slots := 0, locals := 0 } : Room).slots) := by
  refine g_enter pn_8 hw (ef_8 x0 x1 x2 x3) ?_
  intro p e s m below meth c T0 C X0 e0
  have C : Cx Z a0 p s m meth c method_5_code 4 "com/example/framewright/framewright/StackMapTableWriterStartsWithPinLaw" "end" (some .int) := C
  have N0 := Fr.nil n0
  refine g_iloadN C X0 d8_0 rfl rfl ?_
  refine g_iconst C X0 (3 : Int32) d8_1 rfl rfl ?_
  refine g_icmp C X0 d8_2 (by decide) rfl rfl ?_ ?_
  · intro h2
    have h2 : x0.toInt < 3 := h2
    refine g_iloadN C X0 d8_11 rfl rfl ?_
    refine g_iconst C X0 (2 : Int32) d8_12 rfl rfl ?_
    refine g_icmp C X0 d8_13 (by decide) rfl rfl ?_ ?_
    · intro h13
      have h13 : x0.toInt < 2 := h13
      refine g_iloadN C X0 d8_22 rfl rfl ?_
      refine g_iconst C X0 (1 : Int32) d8_23 rfl rfl ?_
      refine g_icmp C X0 d8_24 (by decide) rfl rfl ?_ ?_
      · intro h24
        have h24 : x0.toInt < 1 := h24
        refine g_iconst C X0 (0 : Int32) d8_33 rfl rfl ?_
        exact g_ireturn C X0 d8_34 rfl ⟨⟨(0 : Int32), rfl, by rw [show (0 : Int32).toInt = 0 by decide]; unfold own_end; omega⟩, N0, e0⟩ (by decide) (by decide)
      · intro h24
        have h24 : x0.toInt ≥ 1 := h24
        refine g_iloadN C X0 d8_27 rfl rfl ?_
        refine g_if C X0 d8_28 (by decide) rfl rfl ?_ ?_
        · intro h28
          have h28 : x1.toInt = 0 := h28
          refine g_iconst C X0 (0 : Int32) d8_33 rfl rfl ?_
          exact g_ireturn C X0 d8_34 rfl ⟨⟨(0 : Int32), rfl, by rw [show (0 : Int32).toInt = 0 by decide]; unfold own_end; omega⟩, N0, e0⟩ (by decide) (by decide)
        · intro h28
          have h28 : ¬ x1.toInt = 0 := h28
          refine g_iconst C X0 (1 : Int32) d8_31 rfl rfl ?_
          exact g_ireturn C X0 d8_32 rfl ⟨⟨(1 : Int32), rfl, by rw [show (1 : Int32).toInt = 1 by decide]; unfold own_end; omega⟩, N0, e0⟩ (by decide) (by decide)
    · intro h13
      have h13 : x0.toInt ≥ 2 := h13
      refine g_iloadN C X0 d8_16 rfl rfl ?_
      refine g_if C X0 d8_17 (by decide) rfl rfl ?_ ?_
      · intro h17
        have h17 : x2.toInt = 0 := h17
        refine g_iloadN C X0 d8_22 rfl rfl ?_
        refine g_iconst C X0 (1 : Int32) d8_23 rfl rfl ?_
        refine g_icmp C X0 d8_24 (by decide) rfl rfl ?_ ?_
        · intro h24
          have h24 : x0.toInt < 1 := h24
          refine g_iconst C X0 (0 : Int32) d8_33 rfl rfl ?_
          exact g_ireturn C X0 d8_34 rfl ⟨⟨(0 : Int32), rfl, by rw [show (0 : Int32).toInt = 0 by decide]; unfold own_end; omega⟩, N0, e0⟩ (by decide) (by decide)
        · intro h24
          have h24 : x0.toInt ≥ 1 := h24
          refine g_iloadN C X0 d8_27 rfl rfl ?_
          refine g_if C X0 d8_28 (by decide) rfl rfl ?_ ?_
          · intro h28
            have h28 : x1.toInt = 0 := h28
            refine g_iconst C X0 (0 : Int32) d8_33 rfl rfl ?_
            exact g_ireturn C X0 d8_34 rfl ⟨⟨(0 : Int32), rfl, by rw [show (0 : Int32).toInt = 0 by decide]; unfold own_end; omega⟩, N0, e0⟩ (by decide) (by decide)
          · intro h28
            have h28 : ¬ x1.toInt = 0 := h28
            refine g_iconst C X0 (1 : Int32) d8_31 rfl rfl ?_
            exact g_ireturn C X0 d8_32 rfl ⟨⟨(1 : Int32), rfl, by rw [show (1 : Int32).toInt = 1 by decide]; unfold own_end; omega⟩, N0, e0⟩ (by decide) (by decide)
      · intro h17
        have h17 : ¬ x2.toInt = 0 := h17
        refine g_iconst C X0 (2 : Int32) d8_20 rfl rfl ?_
        exact g_ireturn C X0 d8_21 rfl ⟨⟨(2 : Int32), rfl, by rw [show (2 : Int32).toInt = 2 by decide]; unfold own_end; omega⟩, N0, e0⟩ (by decide) (by decide)
  · intro h2
    have h2 : x0.toInt ≥ 3 := h2
    refine g_iloadN C X0 d8_5 rfl rfl ?_
    refine g_if C X0 d8_6 (by decide) rfl rfl ?_ ?_
    · intro h6
      have h6 : x3.toInt = 0 := h6
      refine g_iloadN C X0 d8_11 rfl rfl ?_
      refine g_iconst C X0 (2 : Int32) d8_12 rfl rfl ?_
      refine g_icmp C X0 d8_13 (by decide) rfl rfl ?_ ?_
      · intro h13
        have h13 : x0.toInt < 2 := h13
        refine g_iloadN C X0 d8_22 rfl rfl ?_
        refine g_iconst C X0 (1 : Int32) d8_23 rfl rfl ?_
        refine g_icmp C X0 d8_24 (by decide) rfl rfl ?_ ?_
        · intro h24
          have h24 : x0.toInt < 1 := h24
          refine g_iconst C X0 (0 : Int32) d8_33 rfl rfl ?_
          exact g_ireturn C X0 d8_34 rfl ⟨⟨(0 : Int32), rfl, by rw [show (0 : Int32).toInt = 0 by decide]; unfold own_end; omega⟩, N0, e0⟩ (by decide) (by decide)
        · intro h24
          have h24 : x0.toInt ≥ 1 := h24
          refine g_iloadN C X0 d8_27 rfl rfl ?_
          refine g_if C X0 d8_28 (by decide) rfl rfl ?_ ?_
          · intro h28
            have h28 : x1.toInt = 0 := h28
            refine g_iconst C X0 (0 : Int32) d8_33 rfl rfl ?_
            exact g_ireturn C X0 d8_34 rfl ⟨⟨(0 : Int32), rfl, by rw [show (0 : Int32).toInt = 0 by decide]; unfold own_end; omega⟩, N0, e0⟩ (by decide) (by decide)
          · intro h28
            have h28 : ¬ x1.toInt = 0 := h28
            refine g_iconst C X0 (1 : Int32) d8_31 rfl rfl ?_
            exact g_ireturn C X0 d8_32 rfl ⟨⟨(1 : Int32), rfl, by rw [show (1 : Int32).toInt = 1 by decide]; unfold own_end; omega⟩, N0, e0⟩ (by decide) (by decide)
      · intro h13
        have h13 : x0.toInt ≥ 2 := h13
        refine g_iloadN C X0 d8_16 rfl rfl ?_
        refine g_if C X0 d8_17 (by decide) rfl rfl ?_ ?_
        · intro h17
          have h17 : x2.toInt = 0 := h17
          refine g_iloadN C X0 d8_22 rfl rfl ?_
          refine g_iconst C X0 (1 : Int32) d8_23 rfl rfl ?_
          refine g_icmp C X0 d8_24 (by decide) rfl rfl ?_ ?_
          · intro h24
            have h24 : x0.toInt < 1 := h24
            refine g_iconst C X0 (0 : Int32) d8_33 rfl rfl ?_
            exact g_ireturn C X0 d8_34 rfl ⟨⟨(0 : Int32), rfl, by rw [show (0 : Int32).toInt = 0 by decide]; unfold own_end; omega⟩, N0, e0⟩ (by decide) (by decide)
          · intro h24
            have h24 : x0.toInt ≥ 1 := h24
            refine g_iloadN C X0 d8_27 rfl rfl ?_
            refine g_if C X0 d8_28 (by decide) rfl rfl ?_ ?_
            · intro h28
              have h28 : x1.toInt = 0 := h28
              refine g_iconst C X0 (0 : Int32) d8_33 rfl rfl ?_
              exact g_ireturn C X0 d8_34 rfl ⟨⟨(0 : Int32), rfl, by rw [show (0 : Int32).toInt = 0 by decide]; unfold own_end; omega⟩, N0, e0⟩ (by decide) (by decide)
            · intro h28
              have h28 : ¬ x1.toInt = 0 := h28
              refine g_iconst C X0 (1 : Int32) d8_31 rfl rfl ?_
              exact g_ireturn C X0 d8_32 rfl ⟨⟨(1 : Int32), rfl, by rw [show (1 : Int32).toInt = 1 by decide]; unfold own_end; omega⟩, N0, e0⟩ (by decide) (by decide)
        · intro h17
          have h17 : ¬ x2.toInt = 0 := h17
          refine g_iconst C X0 (2 : Int32) d8_20 rfl rfl ?_
          exact g_ireturn C X0 d8_21 rfl ⟨⟨(2 : Int32), rfl, by rw [show (2 : Int32).toInt = 2 by decide]; unfold own_end; omega⟩, N0, e0⟩ (by decide) (by decide)
    · intro h6
      have h6 : ¬ x3.toInt = 0 := h6
      refine g_iconst C X0 (3 : Int32) d8_9 rfl rfl ?_
      exact g_ireturn C X0 d8_10 rfl ⟨⟨(3 : Int32), rfl, by rw [show (3 : Int32).toInt = 3 by decide]; unfold own_end; omega⟩, N0, e0⟩ (by decide) (by decide)
def Q_rm6 (Z : State) (x0 : Int32) (h0 : Heap) (n0 : Nat) (v : Option Value) (h : Heap) (L : List Loc) : Prop := (∃ r : Int32, v = some (.int r) ∧ (r = 1 ∨ r = 0)) ∧ Fr n0 L ∧ h = h0
set_option maxRecDepth 65536 in
set_option maxHeartbeats 40000000 in
theorem rm6 (l : Launch) (Z : State) (a0 : Array Value) (hw : ∀ d ∈ tables_1, d.before a0 Z = true) (ws : List Jvm.Cond) (x0 : Int32) (h0 : Heap) (n0 : Nat) (Z0 : n0 ≤ h0.size) :
    MetFree l (⟨"com/example/framewright/framewright/Types", "isTwoSlots", "(I)Z"⟩ : MethodName) (head1 (Jvm.Cond.code (⟨"com/example/framewright/framewright/Types", "isTwoSlots", "(I)Z"⟩ : MethodName) prog_32_method_5_code 1 (some .boolean) :: ws) ({ frames := 0, cells := 0, slots := 0, locals := 0 } : Room)) (fun aa U => aa = #[(.int x0)] ∧ Z.Warmed39 U.vm ∧ U.heap = h0) (fun _ _ _ _ _ => True) (fun _ U oo U' => ∃ rv Lr, oo = .returned rv ∧ Q_rm6 Z x0 h0 n0 rv U'.heap Lr ∧ FrameEnd U oo U' Lr ({ frames := 0, cells := 0, slots := 0, locals := 0 } : Room).cells ({ frames := 0, cells := 0, slots := 0, locals := 0 } : Room).slots) := by
  refine g_enter pn_6 hw (ef_6 x0) ?_
  intro p e s m below meth c T0 C X0 e0
  have C : Cx Z a0 p s m meth c prog_32_method_5_code 1 "com/example/framewright/framewright/Types" "isTwoSlots" (some .boolean) := C
  have N0 := Fr.nil n0
  refine g_iloadN C X0 d6_0 rfl rfl ?_
  refine g_iconst C X0 (4 : Int32) d6_1 rfl rfl ?_
  refine g_icmp C X0 d6_2 (by decide) rfl rfl ?_ ?_
  · intro h2
    have h2 : x0.toInt = 4 := h2
    refine g_iconst C X0 (1 : Int32) d6_10 rfl rfl ?_
    refine g_goto C X0 d6_11 (by decide) rfl ?_
    exact g_ireturnN C X0 d6_15 rfl (Or.inl rfl) ⟨⟨(1 : Int32), rfl, Or.inl rfl⟩, N0, e0⟩ (by decide) (by decide)
  · intro h2
    have h2 : ¬ x0.toInt = 4 := h2
    refine g_iloadN C X0 d6_5 rfl rfl ?_
    refine g_iconst C X0 (3 : Int32) d6_6 rfl rfl ?_
    refine g_icmp C X0 d6_7 (by decide) rfl rfl ?_ ?_
    · intro h7
      have h7 : ¬ x0.toInt = 3 := h7
      refine g_iconst C X0 (0 : Int32) d6_14 rfl rfl ?_
      exact g_ireturnN C X0 d6_15 rfl (Or.inl rfl) ⟨⟨(0 : Int32), rfl, Or.inr rfl⟩, N0, e0⟩ (by decide) (by decide)
    · intro h7
      have h7 : x0.toInt = 3 := h7
      refine g_iconst C X0 (1 : Int32) d6_10 rfl rfl ?_
      refine g_goto C X0 d6_11 (by decide) rfl ?_
      exact g_ireturnN C X0 d6_15 rfl (Or.inl rfl) ⟨⟨(1 : Int32), rfl, Or.inl rfl⟩, N0, e0⟩ (by decide) (by decide)
def Q_rm5 (Z : State) (t : Addr) (x1 : Int32) (N : Nat) (g : Nat → Int32) (h0 : Heap) (n0 : Nat) (v : Option Value) (h : Heap) (L : List Loc) : Prop := (∃ r : Int32, v = some (.int r)) ∧ Fr n0 L ∧ h = h0
set_option maxRecDepth 65536 in
set_option maxHeartbeats 40000000 in
theorem rm5 (l : Launch) (Z : State) (a0 : Array Value) (hw : ∀ d ∈ tables_1, d.before a0 Z = true) (ws : List Jvm.Cond) (t : Addr) (x1 : Int32) (N : Nat) (g : Nat → Int32) (h0 : Heap) (n0 : Nat) (Z0 : n0 ≤ h0.size) (A : Aw Z h0 t .int N (fun j => .int (g j))) (hk : (x1 = (0 : Int32) ∨ x1 = (1 : Int32) ∨ x1 = (2 : Int32) ∨ x1 = (3 : Int32))) (hN : x1.toInt ≤ N) :
    MetFree l (⟨"com/example/framewright/framewright/StackMapTableWriter", "entryCount", "([II)I"⟩ : MethodName) (head1 (Jvm.Cond.code (⟨"com/example/framewright/framewright/StackMapTableWriter", "entryCount", "([II)I"⟩ : MethodName) prog_22_method_11_code 4 (some .int) :: ws) ({ frames := 1, cells := 0, slots := 0, locals := 13 } : Room)) (fun aa U => aa = #[(.ref t), (.int x1)] ∧ Z.Warmed39 U.vm ∧ U.heap = h0) (fun _ _ _ _ _ => True) (fun _ U oo U' => ∃ rv Lr, oo = .returned rv ∧ Q_rm5 Z t x1 N g h0 n0 rv U'.heap Lr ∧ FrameEnd U oo U' Lr ({ frames := 1, cells := 0, slots := 0, locals := 13 } : Room).cells ({ frames := 1, cells := 0, slots := 0, locals := 13 } : Room).slots) := by
  refine g_enter pn_5 hw (ef_5 t x1) ?_
  intro p e s m below meth c T0 C X0 e0
  have C : Cx Z a0 p s m meth c prog_22_method_11_code 4 "com/example/framewright/framewright/StackMapTableWriter" "entryCount" (some .int) := C
  have N0 := Fr.nil n0
  rcases hk with rfl | rfl | rfl | rfl
  · skip
    have hN : (0 : Int) ≤ N := hN
    refine g_iconst C X0 (0 : Int32) d5_0 rfl rfl ?_
    refine g_istoreN C X0 d5_1 #[.val (.ref t), .val (.int (0 : Int32)), .val (.int (0 : Int32)), .unset] rfl rfl ?_
    refine g_iconst C X0 (0 : Int32) d5_2 rfl rfl ?_
    refine g_istoreN C X0 d5_3 #[.val (.ref t), .val (.int (0 : Int32)), .val (.int (0 : Int32)), .val (.int (0 : Int32))] rfl rfl ?_
    refine g_iloadN C X0 d5_4 rfl rfl ?_
    refine g_iloadN C X0 d5_5 rfl rfl ?_
    refine g_icmp C X0 d5_6 (by decide) rfl rfl ?_ ?_
    · intro h6
      have h6 : (0 : Int) ≥ 0 := h6
      refine g_iloadN C X0 d5_32 rfl rfl ?_
      exact g_ireturn C X0 d5_33 rfl ⟨⟨_, rfl⟩, N0, e0⟩ (by decide) (by decide)
    · intro h6
      have h6 : (0 : Int) < 0 := h6
      exact absurd h6 (by decide)
  · skip
    have hN : (1 : Int) ≤ N := hN
    refine g_iconst C X0 (0 : Int32) d5_0 rfl rfl ?_
    refine g_istoreN C X0 d5_1 #[.val (.ref t), .val (.int (1 : Int32)), .val (.int (0 : Int32)), .unset] rfl rfl ?_
    refine g_iconst C X0 (0 : Int32) d5_2 rfl rfl ?_
    refine g_istoreN C X0 d5_3 #[.val (.ref t), .val (.int (1 : Int32)), .val (.int (0 : Int32)), .val (.int (0 : Int32))] rfl rfl ?_
    refine g_iloadN C X0 d5_4 rfl rfl ?_
    refine g_iloadN C X0 d5_5 rfl rfl ?_
    refine g_icmp C X0 d5_6 (by decide) rfl rfl ?_ ?_
    · intro h6
      have h6 : (0 : Int) ≥ 1 := h6
      exact absurd h6 (by decide)
    · intro h6
      have h6 : (0 : Int) < 1 := h6
      refine g_iinc C X0 d5_9 rfl #[.val (.ref t), .val (.int (1 : Int32)), .val (.int (1 : Int32)), .val (.int (0 : Int32))] rfl rfl ?_
      refine g_iloadN C X0 d5_12 rfl rfl ?_
      refine g_aloadN C X0 d5_13 rfl rfl ?_
      refine g_iloadN C X0 d5_14 rfl rfl ?_
      refine g_iaload C X0 d5_15 e0 A (by decide) (by rw [show (0 : Int32).toInt = 0 by decide]; omega) (v := (.int (g 0))) rfl rfl ?_
      refine g_callS (argsL := [(.int (g 0))]) (rest := [(.int (0 : Int32))]) (W := 1) C X0 d5_16 e0 (C.t 30 rfl) (C.t 31 rfl) (C.t 32 rfl) (C.t 33 rfl) (rm6 l Z a0 C.w [] (g 0) h0 n0 Z0) (by decide) pd_6 rfl rfl rfl (Nat.le_of_eq rfl) (by decide) (by decide) (by decide) (by decide) rfl ?_
      intro T1 v1_ L1 X1 hQ1
      obtain ⟨⟨q1, rfl, hq1⟩, N1q, hh1⟩ := hQ1
      have N1 := Fr.app N0 N1q
      rcases hq1 with rfl | rfl
      · skip
        refine g_if C X1 d5_19 (by decide) rfl rfl ?_ ?_
        · intro h19
          have h19 : (1 : Int) = 0 := h19
          exact absurd h19 (by decide)
        · intro h19
          have h19 : ¬ (1 : Int) = 0 := h19
          refine g_iconst C X1 (2 : Int32) d5_22 rfl rfl ?_
          refine g_goto C X1 d5_23 (by decide) rfl ?_
          refine g_iadd C X1 d5_27 rfl ?_
          refine g_istoreN C X1 d5_28 #[.val (.ref t), .val (.int (1 : Int32)), .val (.int (1 : Int32)), .val (.int (2 : Int32))] rfl rfl ?_
          refine g_goto C X1 d5_29 (by decide) rfl ?_
          refine g_iloadN C X1 d5_4 rfl rfl ?_
          refine g_iloadN C X1 d5_5 rfl rfl ?_
          refine g_icmp C X1 d5_6 (by decide) rfl rfl ?_ ?_
          · intro h6
            have h6 : (2 : Int) ≥ 1 := h6
            refine g_iloadN C X1 d5_32 rfl rfl ?_
            exact g_ireturn C X1 d5_33 rfl ⟨⟨_, rfl⟩, N1, hh1⟩ (by decide) (by decide)
          · intro h6
            have h6 : (2 : Int) < 1 := h6
            exact absurd h6 (by decide)
      · skip
        refine g_if C X1 d5_19 (by decide) rfl rfl ?_ ?_
        · intro h19
          have h19 : (0 : Int) = 0 := h19
          refine g_iconst C X1 (1 : Int32) d5_26 rfl rfl ?_
          refine g_iadd C X1 d5_27 rfl ?_
          refine g_istoreN C X1 d5_28 #[.val (.ref t), .val (.int (1 : Int32)), .val (.int (1 : Int32)), .val (.int (1 : Int32))] rfl rfl ?_
          refine g_goto C X1 d5_29 (by decide) rfl ?_
          refine g_iloadN C X1 d5_4 rfl rfl ?_
          refine g_iloadN C X1 d5_5 rfl rfl ?_
          refine g_icmp C X1 d5_6 (by decide) rfl rfl ?_ ?_
          · intro h6
            have h6 : (1 : Int) ≥ 1 := h6
            refine g_iloadN C X1 d5_32 rfl rfl ?_
            exact g_ireturn C X1 d5_33 rfl ⟨⟨_, rfl⟩, N1, hh1⟩ (by decide) (by decide)
          · intro h6
            have h6 : (1 : Int) < 1 := h6
            exact absurd h6 (by decide)
        · intro h19
          have h19 : ¬ (0 : Int) = 0 := h19
          exact absurd h19 (by decide)
  · skip
    have hN : (2 : Int) ≤ N := hN
    refine g_iconst C X0 (0 : Int32) d5_0 rfl rfl ?_
    refine g_istoreN C X0 d5_1 #[.val (.ref t), .val (.int (2 : Int32)), .val (.int (0 : Int32)), .unset] rfl rfl ?_
    refine g_iconst C X0 (0 : Int32) d5_2 rfl rfl ?_
    refine g_istoreN C X0 d5_3 #[.val (.ref t), .val (.int (2 : Int32)), .val (.int (0 : Int32)), .val (.int (0 : Int32))] rfl rfl ?_
    refine g_iloadN C X0 d5_4 rfl rfl ?_
    refine g_iloadN C X0 d5_5 rfl rfl ?_
    refine g_icmp C X0 d5_6 (by decide) rfl rfl ?_ ?_
    · intro h6
      have h6 : (0 : Int) ≥ 2 := h6
      exact absurd h6 (by decide)
    · intro h6
      have h6 : (0 : Int) < 2 := h6
      refine g_iinc C X0 d5_9 rfl #[.val (.ref t), .val (.int (2 : Int32)), .val (.int (1 : Int32)), .val (.int (0 : Int32))] rfl rfl ?_
      refine g_iloadN C X0 d5_12 rfl rfl ?_
      refine g_aloadN C X0 d5_13 rfl rfl ?_
      refine g_iloadN C X0 d5_14 rfl rfl ?_
      refine g_iaload C X0 d5_15 e0 A (by decide) (by rw [show (0 : Int32).toInt = 0 by decide]; omega) (v := (.int (g 0))) rfl rfl ?_
      refine g_callS (argsL := [(.int (g 0))]) (rest := [(.int (0 : Int32))]) (W := 1) C X0 d5_16 e0 (C.t 30 rfl) (C.t 31 rfl) (C.t 32 rfl) (C.t 33 rfl) (rm6 l Z a0 C.w [] (g 0) h0 n0 Z0) (by decide) pd_6 rfl rfl rfl (Nat.le_of_eq rfl) (by decide) (by decide) (by decide) (by decide) rfl ?_
      intro T2 v2_ L2 X2 hQ2
      obtain ⟨⟨q2, rfl, hq2⟩, N2q, hh2⟩ := hQ2
      have N2 := Fr.app N0 N2q
      rcases hq2 with rfl | rfl
      · skip
        refine g_if C X2 d5_19 (by decide) rfl rfl ?_ ?_
        · intro h19
          have h19 : (1 : Int) = 0 := h19
          exact absurd h19 (by decide)
        · intro h19
          have h19 : ¬ (1 : Int) = 0 := h19
          refine g_iconst C X2 (2 : Int32) d5_22 rfl rfl ?_
          refine g_goto C X2 d5_23 (by decide) rfl ?_
          refine g_iadd C X2 d5_27 rfl ?_
          refine g_istoreN C X2 d5_28 #[.val (.ref t), .val (.int (2 : Int32)), .val (.int (1 : Int32)), .val (.int (2 : Int32))] rfl rfl ?_
          refine g_goto C X2 d5_29 (by decide) rfl ?_
          refine g_iloadN C X2 d5_4 rfl rfl ?_
          refine g_iloadN C X2 d5_5 rfl rfl ?_
          refine g_icmp C X2 d5_6 (by decide) rfl rfl ?_ ?_
          · intro h6
            have h6 : (2 : Int) ≥ 2 := h6
            refine g_iloadN C X2 d5_32 rfl rfl ?_
            exact g_ireturn C X2 d5_33 rfl ⟨⟨_, rfl⟩, N2, hh2⟩ (by decide) (by decide)
          · intro h6
            have h6 : (2 : Int) < 2 := h6
            exact absurd h6 (by decide)
      · skip
        refine g_if C X2 d5_19 (by decide) rfl rfl ?_ ?_
        · intro h19
          have h19 : (0 : Int) = 0 := h19
          refine g_iconst C X2 (1 : Int32) d5_26 rfl rfl ?_
          refine g_iadd C X2 d5_27 rfl ?_
          refine g_istoreN C X2 d5_28 #[.val (.ref t), .val (.int (2 : Int32)), .val (.int (1 : Int32)), .val (.int (1 : Int32))] rfl rfl ?_
          refine g_goto C X2 d5_29 (by decide) rfl ?_
          refine g_iloadN C X2 d5_4 rfl rfl ?_
          refine g_iloadN C X2 d5_5 rfl rfl ?_
          refine g_icmp C X2 d5_6 (by decide) rfl rfl ?_ ?_
          · intro h6
            have h6 : (1 : Int) ≥ 2 := h6
            exact absurd h6 (by decide)
          · intro h6
            have h6 : (1 : Int) < 2 := h6
            refine g_iinc C X2 d5_9 rfl #[.val (.ref t), .val (.int (2 : Int32)), .val (.int (2 : Int32)), .val (.int (1 : Int32))] rfl rfl ?_
            refine g_iloadN C X2 d5_12 rfl rfl ?_
            refine g_aloadN C X2 d5_13 rfl rfl ?_
            refine g_iloadN C X2 d5_14 rfl rfl ?_
            refine g_iaload C X2 d5_15 hh2 A (by decide) (by rw [show (1 : Int32).toInt = 1 by decide]; omega) (v := (.int (g 1))) rfl rfl ?_
            refine g_callS (argsL := [(.int (g 1))]) (rest := [(.int (1 : Int32))]) (W := 1) C X2 d5_16 hh2 (C.t 30 rfl) (C.t 31 rfl) (C.t 32 rfl) (C.t 33 rfl) (rm6 l Z a0 C.w [] (g 1) h0 n0 Z0) (by decide) pd_6 rfl rfl rfl (Nat.le_of_eq rfl) (by decide) (by decide) (by decide) (by decide) rfl ?_
            intro T3 v3_ L3 X3 hQ3
            obtain ⟨⟨q3, rfl, hq3⟩, N3q, hh3⟩ := hQ3
            have N3 := Fr.app N2 N3q
            rcases hq3 with rfl | rfl
            · skip
              refine g_if C X3 d5_19 (by decide) rfl rfl ?_ ?_
              · intro h19
                have h19 : (1 : Int) = 0 := h19
                exact absurd h19 (by decide)
              · intro h19
                have h19 : ¬ (1 : Int) = 0 := h19
                refine g_iconst C X3 (2 : Int32) d5_22 rfl rfl ?_
                refine g_goto C X3 d5_23 (by decide) rfl ?_
                refine g_iadd C X3 d5_27 rfl ?_
                refine g_istoreN C X3 d5_28 #[.val (.ref t), .val (.int (2 : Int32)), .val (.int (2 : Int32)), .val (.int (3 : Int32))] rfl rfl ?_
                refine g_goto C X3 d5_29 (by decide) rfl ?_
                refine g_iloadN C X3 d5_4 rfl rfl ?_
                refine g_iloadN C X3 d5_5 rfl rfl ?_
                refine g_icmp C X3 d5_6 (by decide) rfl rfl ?_ ?_
                · intro h6
                  have h6 : (3 : Int) ≥ 2 := h6
                  refine g_iloadN C X3 d5_32 rfl rfl ?_
                  exact g_ireturn C X3 d5_33 rfl ⟨⟨_, rfl⟩, N3, hh3⟩ (by decide) (by decide)
                · intro h6
                  have h6 : (3 : Int) < 2 := h6
                  exact absurd h6 (by decide)
            · skip
              refine g_if C X3 d5_19 (by decide) rfl rfl ?_ ?_
              · intro h19
                have h19 : (0 : Int) = 0 := h19
                refine g_iconst C X3 (1 : Int32) d5_26 rfl rfl ?_
                refine g_iadd C X3 d5_27 rfl ?_
                refine g_istoreN C X3 d5_28 #[.val (.ref t), .val (.int (2 : Int32)), .val (.int (2 : Int32)), .val (.int (2 : Int32))] rfl rfl ?_
                refine g_goto C X3 d5_29 (by decide) rfl ?_
                refine g_iloadN C X3 d5_4 rfl rfl ?_
                refine g_iloadN C X3 d5_5 rfl rfl ?_
                refine g_icmp C X3 d5_6 (by decide) rfl rfl ?_ ?_
                · intro h6
                  have h6 : (2 : Int) ≥ 2 := h6
                  refine g_iloadN C X3 d5_32 rfl rfl ?_
                  exact g_ireturn C X3 d5_33 rfl ⟨⟨_, rfl⟩, N3, hh3⟩ (by decide) (by decide)
                · intro h6
                  have h6 : (2 : Int) < 2 := h6
                  exact absurd h6 (by decide)
              · intro h19
                have h19 : ¬ (0 : Int) = 0 := h19
                exact absurd h19 (by decide)
        · intro h19
          have h19 : ¬ (0 : Int) = 0 := h19
          exact absurd h19 (by decide)
  · skip
    have hN : (3 : Int) ≤ N := hN
    refine g_iconst C X0 (0 : Int32) d5_0 rfl rfl ?_
    refine g_istoreN C X0 d5_1 #[.val (.ref t), .val (.int (3 : Int32)), .val (.int (0 : Int32)), .unset] rfl rfl ?_
    refine g_iconst C X0 (0 : Int32) d5_2 rfl rfl ?_
    refine g_istoreN C X0 d5_3 #[.val (.ref t), .val (.int (3 : Int32)), .val (.int (0 : Int32)), .val (.int (0 : Int32))] rfl rfl ?_
    refine g_iloadN C X0 d5_4 rfl rfl ?_
    refine g_iloadN C X0 d5_5 rfl rfl ?_
    refine g_icmp C X0 d5_6 (by decide) rfl rfl ?_ ?_
    · intro h6
      have h6 : (0 : Int) ≥ 3 := h6
      exact absurd h6 (by decide)
    · intro h6
      have h6 : (0 : Int) < 3 := h6
      refine g_iinc C X0 d5_9 rfl #[.val (.ref t), .val (.int (3 : Int32)), .val (.int (1 : Int32)), .val (.int (0 : Int32))] rfl rfl ?_
      refine g_iloadN C X0 d5_12 rfl rfl ?_
      refine g_aloadN C X0 d5_13 rfl rfl ?_
      refine g_iloadN C X0 d5_14 rfl rfl ?_
      refine g_iaload C X0 d5_15 e0 A (by decide) (by rw [show (0 : Int32).toInt = 0 by decide]; omega) (v := (.int (g 0))) rfl rfl ?_
      refine g_callS (argsL := [(.int (g 0))]) (rest := [(.int (0 : Int32))]) (W := 1) C X0 d5_16 e0 (C.t 30 rfl) (C.t 31 rfl) (C.t 32 rfl) (C.t 33 rfl) (rm6 l Z a0 C.w [] (g 0) h0 n0 Z0) (by decide) pd_6 rfl rfl rfl (Nat.le_of_eq rfl) (by decide) (by decide) (by decide) (by decide) rfl ?_
      intro T4 v4_ L4 X4 hQ4
      obtain ⟨⟨q4, rfl, hq4⟩, N4q, hh4⟩ := hQ4
      have N4 := Fr.app N0 N4q
      rcases hq4 with rfl | rfl
      · skip
        refine g_if C X4 d5_19 (by decide) rfl rfl ?_ ?_
        · intro h19
          have h19 : (1 : Int) = 0 := h19
          exact absurd h19 (by decide)
        · intro h19
          have h19 : ¬ (1 : Int) = 0 := h19
          refine g_iconst C X4 (2 : Int32) d5_22 rfl rfl ?_
          refine g_goto C X4 d5_23 (by decide) rfl ?_
          refine g_iadd C X4 d5_27 rfl ?_
          refine g_istoreN C X4 d5_28 #[.val (.ref t), .val (.int (3 : Int32)), .val (.int (1 : Int32)), .val (.int (2 : Int32))] rfl rfl ?_
          refine g_goto C X4 d5_29 (by decide) rfl ?_
          refine g_iloadN C X4 d5_4 rfl rfl ?_
          refine g_iloadN C X4 d5_5 rfl rfl ?_
          refine g_icmp C X4 d5_6 (by decide) rfl rfl ?_ ?_
          · intro h6
            have h6 : (2 : Int) ≥ 3 := h6
            exact absurd h6 (by decide)
          · intro h6
            have h6 : (2 : Int) < 3 := h6
            refine g_iinc C X4 d5_9 rfl #[.val (.ref t), .val (.int (3 : Int32)), .val (.int (2 : Int32)), .val (.int (2 : Int32))] rfl rfl ?_
            refine g_iloadN C X4 d5_12 rfl rfl ?_
            refine g_aloadN C X4 d5_13 rfl rfl ?_
            refine g_iloadN C X4 d5_14 rfl rfl ?_
            refine g_iaload C X4 d5_15 hh4 A (by decide) (by rw [show (2 : Int32).toInt = 2 by decide]; omega) (v := (.int (g 2))) rfl rfl ?_
            refine g_callS (argsL := [(.int (g 2))]) (rest := [(.int (2 : Int32))]) (W := 1) C X4 d5_16 hh4 (C.t 30 rfl) (C.t 31 rfl) (C.t 32 rfl) (C.t 33 rfl) (rm6 l Z a0 C.w [] (g 2) h0 n0 Z0) (by decide) pd_6 rfl rfl rfl (Nat.le_of_eq rfl) (by decide) (by decide) (by decide) (by decide) rfl ?_
            intro T5 v5_ L5 X5 hQ5
            obtain ⟨⟨q5, rfl, hq5⟩, N5q, hh5⟩ := hQ5
            have N5 := Fr.app N4 N5q
            rcases hq5 with rfl | rfl
            · skip
              refine g_if C X5 d5_19 (by decide) rfl rfl ?_ ?_
              · intro h19
                have h19 : (1 : Int) = 0 := h19
                exact absurd h19 (by decide)
              · intro h19
                have h19 : ¬ (1 : Int) = 0 := h19
                refine g_iconst C X5 (2 : Int32) d5_22 rfl rfl ?_
                refine g_goto C X5 d5_23 (by decide) rfl ?_
                refine g_iadd C X5 d5_27 rfl ?_
                refine g_istoreN C X5 d5_28 #[.val (.ref t), .val (.int (3 : Int32)), .val (.int (2 : Int32)), .val (.int (4 : Int32))] rfl rfl ?_
                refine g_goto C X5 d5_29 (by decide) rfl ?_
                refine g_iloadN C X5 d5_4 rfl rfl ?_
                refine g_iloadN C X5 d5_5 rfl rfl ?_
                refine g_icmp C X5 d5_6 (by decide) rfl rfl ?_ ?_
                · intro h6
                  have h6 : (4 : Int) ≥ 3 := h6
                  refine g_iloadN C X5 d5_32 rfl rfl ?_
                  exact g_ireturn C X5 d5_33 rfl ⟨⟨_, rfl⟩, N5, hh5⟩ (by decide) (by decide)
                · intro h6
                  have h6 : (4 : Int) < 3 := h6
                  exact absurd h6 (by decide)
            · skip
              refine g_if C X5 d5_19 (by decide) rfl rfl ?_ ?_
              · intro h19
                have h19 : (0 : Int) = 0 := h19
                refine g_iconst C X5 (1 : Int32) d5_26 rfl rfl ?_
                refine g_iadd C X5 d5_27 rfl ?_
                refine g_istoreN C X5 d5_28 #[.val (.ref t), .val (.int (3 : Int32)), .val (.int (2 : Int32)), .val (.int (3 : Int32))] rfl rfl ?_
                refine g_goto C X5 d5_29 (by decide) rfl ?_
                refine g_iloadN C X5 d5_4 rfl rfl ?_
                refine g_iloadN C X5 d5_5 rfl rfl ?_
                refine g_icmp C X5 d5_6 (by decide) rfl rfl ?_ ?_
                · intro h6
                  have h6 : (3 : Int) ≥ 3 := h6
                  refine g_iloadN C X5 d5_32 rfl rfl ?_
                  exact g_ireturn C X5 d5_33 rfl ⟨⟨_, rfl⟩, N5, hh5⟩ (by decide) (by decide)
                · intro h6
                  have h6 : (3 : Int) < 3 := h6
                  exact absurd h6 (by decide)
              · intro h19
                have h19 : ¬ (0 : Int) = 0 := h19
                exact absurd h19 (by decide)
      · skip
        refine g_if C X4 d5_19 (by decide) rfl rfl ?_ ?_
        · intro h19
          have h19 : (0 : Int) = 0 := h19
          refine g_iconst C X4 (1 : Int32) d5_26 rfl rfl ?_
          refine g_iadd C X4 d5_27 rfl ?_
          refine g_istoreN C X4 d5_28 #[.val (.ref t), .val (.int (3 : Int32)), .val (.int (1 : Int32)), .val (.int (1 : Int32))] rfl rfl ?_
          refine g_goto C X4 d5_29 (by decide) rfl ?_
          refine g_iloadN C X4 d5_4 rfl rfl ?_
          refine g_iloadN C X4 d5_5 rfl rfl ?_
          refine g_icmp C X4 d5_6 (by decide) rfl rfl ?_ ?_
          · intro h6
            have h6 : (1 : Int) ≥ 3 := h6
            exact absurd h6 (by decide)
          · intro h6
            have h6 : (1 : Int) < 3 := h6
            refine g_iinc C X4 d5_9 rfl #[.val (.ref t), .val (.int (3 : Int32)), .val (.int (2 : Int32)), .val (.int (1 : Int32))] rfl rfl ?_
            refine g_iloadN C X4 d5_12 rfl rfl ?_
            refine g_aloadN C X4 d5_13 rfl rfl ?_
            refine g_iloadN C X4 d5_14 rfl rfl ?_
            refine g_iaload C X4 d5_15 hh4 A (by decide) (by rw [show (1 : Int32).toInt = 1 by decide]; omega) (v := (.int (g 1))) rfl rfl ?_
            refine g_callS (argsL := [(.int (g 1))]) (rest := [(.int (1 : Int32))]) (W := 1) C X4 d5_16 hh4 (C.t 30 rfl) (C.t 31 rfl) (C.t 32 rfl) (C.t 33 rfl) (rm6 l Z a0 C.w [] (g 1) h0 n0 Z0) (by decide) pd_6 rfl rfl rfl (Nat.le_of_eq rfl) (by decide) (by decide) (by decide) (by decide) rfl ?_
            intro T6 v6_ L6 X6 hQ6
            obtain ⟨⟨q6, rfl, hq6⟩, N6q, hh6⟩ := hQ6
            have N6 := Fr.app N4 N6q
            rcases hq6 with rfl | rfl
            · skip
              refine g_if C X6 d5_19 (by decide) rfl rfl ?_ ?_
              · intro h19
                have h19 : (1 : Int) = 0 := h19
                exact absurd h19 (by decide)
              · intro h19
                have h19 : ¬ (1 : Int) = 0 := h19
                refine g_iconst C X6 (2 : Int32) d5_22 rfl rfl ?_
                refine g_goto C X6 d5_23 (by decide) rfl ?_
                refine g_iadd C X6 d5_27 rfl ?_
                refine g_istoreN C X6 d5_28 #[.val (.ref t), .val (.int (3 : Int32)), .val (.int (2 : Int32)), .val (.int (3 : Int32))] rfl rfl ?_
                refine g_goto C X6 d5_29 (by decide) rfl ?_
                refine g_iloadN C X6 d5_4 rfl rfl ?_
                refine g_iloadN C X6 d5_5 rfl rfl ?_
                refine g_icmp C X6 d5_6 (by decide) rfl rfl ?_ ?_
                · intro h6
                  have h6 : (3 : Int) ≥ 3 := h6
                  refine g_iloadN C X6 d5_32 rfl rfl ?_
                  exact g_ireturn C X6 d5_33 rfl ⟨⟨_, rfl⟩, N6, hh6⟩ (by decide) (by decide)
                · intro h6
                  have h6 : (3 : Int) < 3 := h6
                  exact absurd h6 (by decide)
            · skip
              refine g_if C X6 d5_19 (by decide) rfl rfl ?_ ?_
              · intro h19
                have h19 : (0 : Int) = 0 := h19
                refine g_iconst C X6 (1 : Int32) d5_26 rfl rfl ?_
                refine g_iadd C X6 d5_27 rfl ?_
                refine g_istoreN C X6 d5_28 #[.val (.ref t), .val (.int (3 : Int32)), .val (.int (2 : Int32)), .val (.int (2 : Int32))] rfl rfl ?_
                refine g_goto C X6 d5_29 (by decide) rfl ?_
                refine g_iloadN C X6 d5_4 rfl rfl ?_
                refine g_iloadN C X6 d5_5 rfl rfl ?_
                refine g_icmp C X6 d5_6 (by decide) rfl rfl ?_ ?_
                · intro h6
                  have h6 : (2 : Int) ≥ 3 := h6
                  exact absurd h6 (by decide)
                · intro h6
                  have h6 : (2 : Int) < 3 := h6
                  refine g_iinc C X6 d5_9 rfl #[.val (.ref t), .val (.int (3 : Int32)), .val (.int (3 : Int32)), .val (.int (2 : Int32))] rfl rfl ?_
                  refine g_iloadN C X6 d5_12 rfl rfl ?_
                  refine g_aloadN C X6 d5_13 rfl rfl ?_
                  refine g_iloadN C X6 d5_14 rfl rfl ?_
                  refine g_iaload C X6 d5_15 hh6 A (by decide) (by rw [show (2 : Int32).toInt = 2 by decide]; omega) (v := (.int (g 2))) rfl rfl ?_
                  refine g_callS (argsL := [(.int (g 2))]) (rest := [(.int (2 : Int32))]) (W := 1) C X6 d5_16 hh6 (C.t 30 rfl) (C.t 31 rfl) (C.t 32 rfl) (C.t 33 rfl) (rm6 l Z a0 C.w [] (g 2) h0 n0 Z0) (by decide) pd_6 rfl rfl rfl (Nat.le_of_eq rfl) (by decide) (by decide) (by decide) (by decide) rfl ?_
                  intro T7 v7_ L7 X7 hQ7
                  obtain ⟨⟨q7, rfl, hq7⟩, N7q, hh7⟩ := hQ7
                  have N7 := Fr.app N6 N7q
                  rcases hq7 with rfl | rfl
                  · skip
                    refine g_if C X7 d5_19 (by decide) rfl rfl ?_ ?_
                    · intro h19
                      have h19 : (1 : Int) = 0 := h19
                      exact absurd h19 (by decide)
                    · intro h19
                      have h19 : ¬ (1 : Int) = 0 := h19
                      refine g_iconst C X7 (2 : Int32) d5_22 rfl rfl ?_
                      refine g_goto C X7 d5_23 (by decide) rfl ?_
                      refine g_iadd C X7 d5_27 rfl ?_
                      refine g_istoreN C X7 d5_28 #[.val (.ref t), .val (.int (3 : Int32)), .val (.int (3 : Int32)), .val (.int (4 : Int32))] rfl rfl ?_
                      refine g_goto C X7 d5_29 (by decide) rfl ?_
                      refine g_iloadN C X7 d5_4 rfl rfl ?_
                      refine g_iloadN C X7 d5_5 rfl rfl ?_
                      refine g_icmp C X7 d5_6 (by decide) rfl rfl ?_ ?_
                      · intro h6
                        have h6 : (4 : Int) ≥ 3 := h6
                        refine g_iloadN C X7 d5_32 rfl rfl ?_
                        exact g_ireturn C X7 d5_33 rfl ⟨⟨_, rfl⟩, N7, hh7⟩ (by decide) (by decide)
                      · intro h6
                        have h6 : (4 : Int) < 3 := h6
                        exact absurd h6 (by decide)
                  · skip
                    refine g_if C X7 d5_19 (by decide) rfl rfl ?_ ?_
                    · intro h19
                      have h19 : (0 : Int) = 0 := h19
                      refine g_iconst C X7 (1 : Int32) d5_26 rfl rfl ?_
                      refine g_iadd C X7 d5_27 rfl ?_
                      refine g_istoreN C X7 d5_28 #[.val (.ref t), .val (.int (3 : Int32)), .val (.int (3 : Int32)), .val (.int (3 : Int32))] rfl rfl ?_
                      refine g_goto C X7 d5_29 (by decide) rfl ?_
                      refine g_iloadN C X7 d5_4 rfl rfl ?_
                      refine g_iloadN C X7 d5_5 rfl rfl ?_
                      refine g_icmp C X7 d5_6 (by decide) rfl rfl ?_ ?_
                      · intro h6
                        have h6 : (3 : Int) ≥ 3 := h6
                        refine g_iloadN C X7 d5_32 rfl rfl ?_
                        exact g_ireturn C X7 d5_33 rfl ⟨⟨_, rfl⟩, N7, hh7⟩ (by decide) (by decide)
                      · intro h6
                        have h6 : (3 : Int) < 3 := h6
                        exact absurd h6 (by decide)
                    · intro h19
                      have h19 : ¬ (0 : Int) = 0 := h19
                      exact absurd h19 (by decide)
              · intro h19
                have h19 : ¬ (0 : Int) = 0 := h19
                exact absurd h19 (by decide)
        · intro h19
          have h19 : ¬ (0 : Int) = 0 := h19
          exact absurd h19 (by decide)
def Q_rm2 (Z : State) (x0 : Int32) (x1 : Int32) (x2 : Int32) (x3 : Int32) (h0 : Heap) (n0 : Nat) (v : Option Value) (h : Heap) (L : List Loc) : Prop := (∃ t : Addr, v = some (.ref t) ∧ n0 ≤ t ∧ h0.size ≤ t ∧ Aw Z h t .int x0.toInt.toNat (fun j => .int (([x1, x2, x3] : List Int32).getD j 0))) ∧ Fr n0 L ∧ Keep h0 h []
set_option maxRecDepth 65536 in
set_option maxHeartbeats 40000000 in
theorem rm2 (l : Launch) (Z : State) (a0 : Array Value) (hw : ∀ d ∈ tables_1, d.before a0 Z = true) (ws : List Jvm.Cond) (x0 : Int32) (x1 : Int32) (x2 : Int32) (x3 : Int32) (h0 : Heap) (n0 : Nat) (Z0 : n0 ≤ h0.size) (h3 : x0 = (0 : Int32) ∨ x0 = (1 : Int32) ∨ x0 = (2 : Int32) ∨ x0 = (3 : Int32)) :
    MetFree l (⟨"com/example/framewright/framewright/StackMapTableWriterStartsWithPinLaw", "make", "(IIII)[I"⟩ : MethodName) (head1 (Jvm.Cond.code (⟨"com/example/framewright/framewright/StackMapTableWriterStartsWithPinLaw", "make", "(IIII)[I"⟩ : MethodName) method_4_code 4 (some (.array .int)) :: ws) ({ frames := 0, cells := 1, slots := 3, locals := 0 } : Room)) (fun aa U => aa = #[(.int x0), (.int x1), (.int x2), (.int x3)] ∧ Z.Warmed39 U.vm ∧ U.heap = h0) (fun _ _ _ _ _ => True) (fun _ U oo U' => ∃ rv Lr, oo = .returned rv ∧ Q_rm2 Z x0 x1 x2 x3 h0 n0 rv U'.heap Lr ∧ FrameEnd U oo U' Lr ({ frames := 0, cells := 1, slots := 3, locals := 0 } : Room).cells ({ frames := 0, cells := 1, slots := 3, locals := 0 } : Room).slots) := by
  refine g_enter pn_2 hw (ef_2 x0 x1 x2 x3) ?_
  intro p e s m below meth c T0 C X0 e0
  have C : Cx Z a0 p s m meth c method_4_code 4 "com/example/framewright/framewright/StackMapTableWriterStartsWithPinLaw" "make" (some (.array .int)) := C
  have N0 := Fr.nil n0
  have K0 := Keep.refl h0 []
  rcases h3 with rfl | rfl | rfl | rfl
  · skip
    refine g_iloadN C X0 d2_0 rfl rfl ?_
    refine g_if C X0 d2_1 (by decide) rfl rfl ?_ ?_
    · intro h1
      have h1 : ¬ (0 : Int) = 0 := h1
      exact absurd h1 (by decide)
    · intro h1
      have h1 : (0 : Int) = 0 := h1
      refine g_iconst C X0 (0 : Int32) d2_4 rfl rfl ?_
      refine g_newarray (cap := 0) C X0 d2_5 e0 (C.t 8 rfl) (by decide) (by decide) (by decide) (by decide) (by decide) rfl ?_
      intro T1 h1_ X1 e1 E1 lt1 ad1 ha1 A1
      have Z1 : n0 ≤ h1_.size := Nat.le_trans Z0 E1.1
      have K1 := K0.ext E1
      have g_ad1 : n0 ≤ ad1 := by omega
      refine g_areturn C X1 d2_7 rfl rfl rfl ?_ (by decide) (by decide)
      rw [e1]
      refine ⟨⟨ad1, rfl, g_ad1, by omega, Aw.of A1 ?_⟩, N0, K1⟩
      intro j hj
      have hj : j < 0 := hj
      omega
  · skip
    refine g_iloadN C X0 d2_0 rfl rfl ?_
    refine g_if C X0 d2_1 (by decide) rfl rfl ?_ ?_
    · intro h1
      have h1 : ¬ (1 : Int) = 0 := h1
      refine g_iloadN C X0 d2_8 rfl rfl ?_
      refine g_iconst C X0 (1 : Int32) d2_9 rfl rfl ?_
      refine g_icmp C X0 d2_10 (by decide) rfl rfl ?_ ?_
      · intro h10
        have h10 : ¬ (1 : Int) = 1 := h10
        exact absurd h10 (by decide)
      · intro h10
        have h10 : (1 : Int) = 1 := h10
        refine g_iconst C X0 (1 : Int32) d2_13 rfl rfl ?_
        refine g_newarray (cap := 1) C X0 d2_14 e0 (C.t 8 rfl) (by decide) (by decide) (by decide) (by decide) (by decide) rfl ?_
        intro T2 h2_ X2 e2 E2 lt2 ad2 ha2 A2
        have Z2 : n0 ≤ h2_.size := Nat.le_trans Z0 E2.1
        have K2 := K0.ext E2
        have g_ad2 : n0 ≤ ad2 := by omega
        refine g_dup C X2 d2_16 rfl rfl ?_
        refine g_iconst C X2 (0 : Int32) d2_17 rfl rfl ?_
        refine g_iloadN C X2 d2_18 rfl rfl ?_
        refine g_iastore C X2 d2_19 e2 A2 (by decide) (by decide) rfl ?_
        intro T3 h3_ X3 e3 W3 A3
        have N3 := Fr.snoc X3 N0 g_ad2
        have Z3 : n0 ≤ h3_.size := Nat.le_trans Z2 (Keep.of_wr W3).1
        have K3 := K2.wr W3 (Or.inr (by omega))
        refine g_areturn C X3 d2_20 rfl rfl rfl ?_ (by decide) (by decide)
        rw [e3]
        refine ⟨⟨ad2, rfl, g_ad2, by omega, Aw.of A3 ?_⟩, N3, K3⟩
        intro j hj
        have hj : j < 1 := hj
        have hj : j = 0 := by omega
        rcases hj with rfl <;> rfl
    · intro h1
      have h1 : (1 : Int) = 0 := h1
      exact absurd h1 (by decide)
  · skip
    refine g_iloadN C X0 d2_0 rfl rfl ?_
    refine g_if C X0 d2_1 (by decide) rfl rfl ?_ ?_
    · intro h1
      have h1 : ¬ (2 : Int) = 0 := h1
      refine g_iloadN C X0 d2_8 rfl rfl ?_
      refine g_iconst C X0 (1 : Int32) d2_9 rfl rfl ?_
      refine g_icmp C X0 d2_10 (by decide) rfl rfl ?_ ?_
      · intro h10
        have h10 : ¬ (2 : Int) = 1 := h10
        refine g_iloadN C X0 d2_21 rfl rfl ?_
        refine g_iconst C X0 (2 : Int32) d2_22 rfl rfl ?_
        refine g_icmp C X0 d2_23 (by decide) rfl rfl ?_ ?_
        · intro h23
          have h23 : ¬ (2 : Int) = 2 := h23
          exact absurd h23 (by decide)
        · intro h23
          have h23 : (2 : Int) = 2 := h23
          refine g_iconst C X0 (2 : Int32) d2_26 rfl rfl ?_
          refine g_newarray (cap := 2) C X0 d2_27 e0 (C.t 8 rfl) (by decide) (by decide) (by decide) (by decide) (by decide) rfl ?_
          intro T4 h4_ X4 e4 E4 lt4 ad4 ha4 A4
          have Z4 : n0 ≤ h4_.size := Nat.le_trans Z0 E4.1
          have K4 := K0.ext E4
          have g_ad4 : n0 ≤ ad4 := by omega
          refine g_dup C X4 d2_29 rfl rfl ?_
          refine g_iconst C X4 (0 : Int32) d2_30 rfl rfl ?_
          refine g_iloadN C X4 d2_31 rfl rfl ?_
          refine g_iastore C X4 d2_32 e4 A4 (by decide) (by decide) rfl ?_
          intro T5 h5_ X5 e5 W5 A5
          have N5 := Fr.snoc X5 N0 g_ad4
          have Z5 : n0 ≤ h5_.size := Nat.le_trans Z4 (Keep.of_wr W5).1
          have K5 := K4.wr W5 (Or.inr (by omega))
          refine g_dup C X5 d2_33 rfl rfl ?_
          refine g_iconst C X5 (1 : Int32) d2_34 rfl rfl ?_
          refine g_iloadN C X5 d2_35 rfl rfl ?_
          refine g_iastore C X5 d2_36 e5 A5 (by decide) (by decide) rfl ?_
          intro T6 h6_ X6 e6 W6 A6
          have N6 := Fr.snoc X6 N5 g_ad4
          have Z6 : n0 ≤ h6_.size := Nat.le_trans Z5 (Keep.of_wr W6).1
          have K6 := K5.wr W6 (Or.inr (by omega))
          refine g_areturn C X6 d2_37 rfl rfl rfl ?_ (by decide) (by decide)
          rw [e6]
          refine ⟨⟨ad4, rfl, g_ad4, by omega, Aw.of A6 ?_⟩, N6, K6⟩
          intro j hj
          have hj : j < 2 := hj
          have hj : j = 0 ∨ j = 1 := by omega
          rcases hj with rfl | rfl <;> rfl
      · intro h10
        have h10 : (2 : Int) = 1 := h10
        exact absurd h10 (by decide)
    · intro h1
      have h1 : (2 : Int) = 0 := h1
      exact absurd h1 (by decide)
  · skip
    refine g_iloadN C X0 d2_0 rfl rfl ?_
    refine g_if C X0 d2_1 (by decide) rfl rfl ?_ ?_
    · intro h1
      have h1 : ¬ (3 : Int) = 0 := h1
      refine g_iloadN C X0 d2_8 rfl rfl ?_
      refine g_iconst C X0 (1 : Int32) d2_9 rfl rfl ?_
      refine g_icmp C X0 d2_10 (by decide) rfl rfl ?_ ?_
      · intro h10
        have h10 : ¬ (3 : Int) = 1 := h10
        refine g_iloadN C X0 d2_21 rfl rfl ?_
        refine g_iconst C X0 (2 : Int32) d2_22 rfl rfl ?_
        refine g_icmp C X0 d2_23 (by decide) rfl rfl ?_ ?_
        · intro h23
          have h23 : ¬ (3 : Int) = 2 := h23
          refine g_iconst C X0 (3 : Int32) d2_38 rfl rfl ?_
          refine g_newarray (cap := 3) C X0 d2_39 e0 (C.t 8 rfl) (by decide) (by decide) (by decide) (by decide) (by decide) rfl ?_
          intro T7 h7_ X7 e7 E7 lt7 ad7 ha7 A7
          have Z7 : n0 ≤ h7_.size := Nat.le_trans Z0 E7.1
          have K7 := K0.ext E7
          have g_ad7 : n0 ≤ ad7 := by omega
          refine g_dup C X7 d2_41 rfl rfl ?_
          refine g_iconst C X7 (0 : Int32) d2_42 rfl rfl ?_
          refine g_iloadN C X7 d2_43 rfl rfl ?_
          refine g_iastore C X7 d2_44 e7 A7 (by decide) (by decide) rfl ?_
          intro T8 h8_ X8 e8 W8 A8
          have N8 := Fr.snoc X8 N0 g_ad7
          have Z8 : n0 ≤ h8_.size := Nat.le_trans Z7 (Keep.of_wr W8).1
          have K8 := K7.wr W8 (Or.inr (by omega))
          refine g_dup C X8 d2_45 rfl rfl ?_
          refine g_iconst C X8 (1 : Int32) d2_46 rfl rfl ?_
          refine g_iloadN C X8 d2_47 rfl rfl ?_
          refine g_iastore C X8 d2_48 e8 A8 (by decide) (by decide) rfl ?_
          intro T9 h9_ X9 e9 W9 A9
          have N9 := Fr.snoc X9 N8 g_ad7
          have Z9 : n0 ≤ h9_.size := Nat.le_trans Z8 (Keep.of_wr W9).1
          have K9 := K8.wr W9 (Or.inr (by omega))
          refine g_dup C X9 d2_49 rfl rfl ?_
          refine g_iconst C X9 (2 : Int32) d2_50 rfl rfl ?_
          refine g_iloadN C X9 d2_51 rfl rfl ?_
          refine g_iastore C X9 d2_52 e9 A9 (by decide) (by decide) rfl ?_
          intro T10 h10_ X10 e10 W10 A10
          have N10 := Fr.snoc X10 N9 g_ad7
          have Z10 : n0 ≤ h10_.size := Nat.le_trans Z9 (Keep.of_wr W10).1
          have K10 := K9.wr W10 (Or.inr (by omega))
          refine g_areturn C X10 d2_53 rfl rfl rfl ?_ (by decide) (by decide)
          rw [e10]
          refine ⟨⟨ad7, rfl, g_ad7, by omega, Aw.of A10 ?_⟩, N10, K10⟩
          intro j hj
          have hj : j < 3 := hj
          have hj : j = 0 ∨ j = 1 ∨ j = 2 := by omega
          rcases hj with rfl | rfl | rfl <;> rfl
        · intro h23
          have h23 : (3 : Int) = 2 := h23
          exact absurd h23 (by decide)
      · intro h10
        have h10 : (3 : Int) = 1 := h10
        exact absurd h10 (by decide)
    · intro h1
      have h1 : (3 : Int) = 0 := h1
      exact absurd h1 (by decide)
def Q_rm3 (Z : State) (o : Addr) (t : Addr) (N : Nat) (v0 : Int32) (v1 : Int32) (v2 : Int32) (h0 : Heap) (n0 : Nat) (v : Option Value) (h : Heap) (L : List Loc) : Prop := v = none ∧ Fr n0 L ∧ Keep h0 h [o] ∧ Exa Z h o "com/example/framewright/framewright/StackMapTableWriter$Locals" ∧ Fld Z h o "com/example/framewright/framewright/StackMapTableWriter$Locals" "slots" "[I" (.ref t) ∧ ∃ e : Int32, Fld Z h o "com/example/framewright/framewright/StackMapTableWriter$Locals" "end" "I" (.int e) ∧ own_end N v0 v1 v2 e.toInt
set_option maxRecDepth 65536 in
set_option maxHeartbeats 40000000 in
theorem rm3 (l : Launch) (Z : State) (a0 : Array Value) (hw : ∀ d ∈ tables_1, d.before a0 Z = true) (ws : List Jvm.Cond) (o : Addr) (t : Addr) (N : Nat) (v0 v1 v2 : Int32) (h0 : Heap) (n0 : Nat) (Z0 : n0 ≤ h0.size) (EX : Exa Z h0 o "com/example/framewright/framewright/StackMapTableWriter$Locals") (D : ∀ {O nf d : String} {ty : FieldType}, Laid Z a0 "com/example/framewright/framewright/StackMapTableWriter$Locals" O nf d → parseFieldDescriptor d = some ty → Fld Z h0 o O nf d (defaultValue ty)) (ga : n0 ≤ o) (ne : t ≠ o) (A : Aw Z h0 t .int N (fun j => .int (([v0, v1, v2] : List Int32).getD j 0))) (h3 : N = 0 ∨ N = 1 ∨ N = 2 ∨ N = 3) :
    MetFree l (⟨"com/example/framewright/framewright/StackMapTableWriter$Locals", "<init>", "([I)V"⟩ : MethodName) (head1 (Jvm.Cond.code (⟨"com/example/framewright/framewright/StackMapTableWriter$Locals", "<init>", "([I)V"⟩ : MethodName) prog_23_method_1_code 3 none :: ws) ({ frames := 2, cells := 0, slots := 0, locals := 29 } : Room)) (fun aa U => aa = #[(.ref o), (.ref t)] ∧ Z.Warmed39 U.vm ∧ U.heap = h0) (fun _ _ _ _ _ => True) (fun _ U oo U' => ∃ rv Lr, oo = .returned rv ∧ Q_rm3 Z o t N v0 v1 v2 h0 n0 rv U'.heap Lr ∧ FrameEnd U oo U' Lr ({ frames := 2, cells := 0, slots := 0, locals := 29 } : Room).cells ({ frames := 2, cells := 0, slots := 0, locals := 29 } : Room).slots) := by
  refine g_enter pn_3 hw (ef_3 o t) ?_
  intro p e s m below meth c T0 C X0 e0
  have C : Cx Z a0 p s m meth c prog_23_method_1_code 3 "com/example/framewright/framewright/StackMapTableWriter$Locals" "<init>" none := C
  have N0 := Fr.nil n0
  have K0 := Keep.refl h0 [o]
  have F_slots : Fld Z h0 o "com/example/framewright/framewright/StackMapTableWriter$Locals" "slots" "[I" _ := D (Or.inr (C.t 21 rfl)) (ty := (.array .int)) (by decide)
  have F_end : Fld Z h0 o "com/example/framewright/framewright/StackMapTableWriter$Locals" "end" "I" _ := D (Or.inr (C.t 23 rfl)) (ty := .int) (by decide)
  have F_entries : Fld Z h0 o "com/example/framewright/framewright/StackMapTableWriter$Locals" "entries" "I" _ := D (Or.inr (C.t 29 rfl)) (ty := .int) (by decide)
  have F_size : Fld Z h0 o "com/example/framewright/framewright/StackMapTableWriter$Locals" "size" "I" _ := D (Or.inl (C.t 19 rfl)) (ty := .int) (by decide)
  rcases h3 with rfl | rfl | rfl | rfl
  · skip
    refine g_aloadN C X0 d3_0 rfl rfl ?_
    refine g_initO (W := 0) C X0 d3_1 e0 (C.t 15 rfl) (C.t 16 rfl) (C.t 17 rfl) rfl (by decide) (Nat.le_of_eq rfl) (by decide) rfl ?_
    intro T1 X1 e1
    refine g_aloadN C X1 d3_4 rfl rfl ?_
    refine g_iconst C X1 (-1 : Int32) d3_5 rfl rfl ?_
    refine g_putfield C X1 d3_6 e1 (C.t 18 rfl) Via.refl F_size EX (Or.inl (C.t 19 rfl)) (C.t 10 rfl) (ty := .int) (by decide) rfl rfl rfl ?_
    intro T2 h2_ X2 e2 W2 F2_o_size EE2_o
    have N2 := Fr.snoc X2 N0 ga
    have Z2 : n0 ≤ h2_.size := Nat.le_trans Z0 (Keep.of_wr W2).1
    have K2 := K0.wr W2 (Or.inl (List.mem_of_getElem? (i := 0) rfl))
    have A2_t := A.other W2 ne
    have F2_o_slots := F_slots.other W2 (Or.inr (slot_ne (Or.inr (C.t 21 rfl)) (Or.inl (C.t 19 rfl)) (by decide) (t := (.array .int)) (t' := .int) (by decide) (by decide)))
    have F2_o_end := F_end.other W2 (Or.inr (slot_ne (Or.inr (C.t 23 rfl)) (Or.inl (C.t 19 rfl)) (by decide) (t := .int) (t' := .int) (by decide) (by decide)))
    have F2_o_entries := F_entries.other W2 (Or.inr (slot_ne (Or.inr (C.t 29 rfl)) (Or.inl (C.t 19 rfl)) (by decide) (t := .int) (t' := .int) (by decide) (by decide)))
    refine g_aloadN C X2 d3_9 rfl rfl ?_
    refine g_arraylength C X2 d3_10 e2 A2_t rfl ?_
    intro n10 h_n10
    obtain rfl : n10 = (0 : Int32) := own_inj32 (y := (0 : Int32)) h_n10
    refine g_istoreN C X2 d3_11 #[.val (.ref o), .val (.ref t), .val (.int (0 : Int32))] rfl rfl ?_
    refine g_iloadN C X2 d3_12 rfl rfl ?_
    refine g_if C X2 d3_13 (by decide) rfl rfl ?_ ?_
    · intro h13
      have h13 : (0 : Int) ≤ 0 := h13
      refine g_aloadN C X2 d3_30 rfl rfl ?_
      refine g_aloadN C X2 d3_31 rfl rfl ?_
      refine g_putfield C X2 d3_32 e2 (C.t 20 rfl) Via.refl F2_o_slots EE2_o (Or.inr ⟨(C.t 21 rfl), rfl, rfl⟩) (C.t 10 rfl) (ty := (.array .int)) (by decide) rfl rfl rfl ?_
      intro T3 h3_ X3 e3 W3 F3_o_slots EE3_o
      have N3 := Fr.snoc X3 N2 ga
      have Z3 : n0 ≤ h3_.size := Nat.le_trans Z2 (Keep.of_wr W3).1
      have K3 := K2.wr W3 (Or.inl (List.mem_of_getElem? (i := 0) rfl))
      have A3_t := A2_t.other W3 ne
      have F3_o_end := F2_o_end.other W3 (Or.inr (slot_ne (Or.inr (C.t 23 rfl)) (Or.inr (C.t 21 rfl)) (by decide) (t := .int) (t' := (.array .int)) (by decide) (by decide)))
      have F3_o_entries := F2_o_entries.other W3 (Or.inr (slot_ne (Or.inr (C.t 29 rfl)) (Or.inr (C.t 21 rfl)) (by decide) (t := .int) (t' := (.array .int)) (by decide) (by decide)))
      have F3_o_size := F2_o_size.other W3 (Or.inr (slot_ne (Or.inl (C.t 19 rfl)) (Or.inr (C.t 21 rfl)) (by decide) (t := .int) (t' := (.array .int)) (by decide) (by decide)))
      refine g_aloadN C X3 d3_35 rfl rfl ?_
      refine g_iloadN C X3 d3_36 rfl rfl ?_
      refine g_putfield C X3 d3_37 e3 (C.t 22 rfl) Via.refl F3_o_end EE3_o (Or.inr ⟨(C.t 23 rfl), rfl, rfl⟩) (C.t 10 rfl) (ty := .int) (by decide) rfl rfl rfl ?_
      intro T4 h4_ X4 e4 W4 F4_o_end EE4_o
      have N4 := Fr.snoc X4 N3 ga
      have Z4 : n0 ≤ h4_.size := Nat.le_trans Z3 (Keep.of_wr W4).1
      have K4 := K3.wr W4 (Or.inl (List.mem_of_getElem? (i := 0) rfl))
      have A4_t := A3_t.other W4 ne
      have F4_o_slots := F3_o_slots.other W4 (Or.inr (slot_ne (Or.inr (C.t 21 rfl)) (Or.inr (C.t 23 rfl)) (by decide) (t := (.array .int)) (t' := .int) (by decide) (by decide)))
      have F4_o_entries := F3_o_entries.other W4 (Or.inr (slot_ne (Or.inr (C.t 29 rfl)) (Or.inr (C.t 23 rfl)) (by decide) (t := .int) (t' := .int) (by decide) (by decide)))
      have F4_o_size := F3_o_size.other W4 (Or.inr (slot_ne (Or.inl (C.t 19 rfl)) (Or.inr (C.t 23 rfl)) (by decide) (t := .int) (t' := .int) (by decide) (by decide)))
      refine g_aloadN C X4 d3_40 rfl rfl ?_
      refine g_aloadN C X4 d3_41 rfl rfl ?_
      refine g_iloadN C X4 d3_42 rfl rfl ?_
      refine g_callSN (argsL := [(.ref t), (.int (0 : Int32))]) (rest := [(.ref o)]) (W := 1) C X4 d3_43 e4 (C.t 24 rfl) (C.t 25 rfl) (C.t 26 rfl) (C.t 27 rfl) (rm5 l Z a0 C.w [] t (0 : Int32) 0 (fun j => ([v0, v1, v2] : List Int32).getD j 0) h4_ n0 Z4 A4_t (Or.inl rfl) (by decide)) (by decide) pd_5 rfl rfl rfl (Nat.le_of_eq rfl) (by decide) (by decide) (by decide) (by decide) rfl ?_
      intro T5 v5_ L5 X5 hQ5
      obtain ⟨⟨ec, rfl⟩, N5q, hh5⟩ := hQ5
      have N5 := Fr.app N4 N5q
      refine g_putfield C X5 d3_46 hh5 (C.t 28 rfl) Via.refl F4_o_entries EE4_o (Or.inr ⟨(C.t 29 rfl), rfl, rfl⟩) (C.t 10 rfl) (ty := .int) (by decide) rfl rfl rfl ?_
      intro T6 h6_ X6 e6 W6 F6_o_entries EE6_o
      have N6 := Fr.snoc X6 N5 ga
      have Z6 : n0 ≤ h6_.size := Nat.le_trans Z4 (Keep.of_wr W6).1
      have K6 := K4.wr W6 (Or.inl (List.mem_of_getElem? (i := 0) rfl))
      have A6_t := A4_t.other W6 ne
      have F6_o_slots := F4_o_slots.other W6 (Or.inr (slot_ne (Or.inr (C.t 21 rfl)) (Or.inr (C.t 29 rfl)) (by decide) (t := (.array .int)) (t' := .int) (by decide) (by decide)))
      have F6_o_end := F4_o_end.other W6 (Or.inr (slot_ne (Or.inr (C.t 23 rfl)) (Or.inr (C.t 29 rfl)) (by decide) (t := .int) (t' := .int) (by decide) (by decide)))
      have F6_o_size := F4_o_size.other W6 (Or.inr (slot_ne (Or.inl (C.t 19 rfl)) (Or.inr (C.t 29 rfl)) (by decide) (t := .int) (t' := .int) (by decide) (by decide)))
      exact g_return C X6 d3_49 rfl (by rw [e6]; exact ⟨rfl, N6, K6, EE6_o, F6_o_slots, (0 : Int32), F6_o_end, by rw [show (0 : Int32).toInt = 0 by decide]; unfold own_end; omega⟩) (by decide) (by decide)
    · intro h13
      have h13 : (0 : Int) > 0 := h13
      exact absurd h13 (by decide)
  · skip
    refine g_aloadN C X0 d3_0 rfl rfl ?_
    refine g_initO (W := 0) C X0 d3_1 e0 (C.t 15 rfl) (C.t 16 rfl) (C.t 17 rfl) rfl (by decide) (Nat.le_of_eq rfl) (by decide) rfl ?_
    intro T7 X7 e7
    refine g_aloadN C X7 d3_4 rfl rfl ?_
    refine g_iconst C X7 (-1 : Int32) d3_5 rfl rfl ?_
    refine g_putfield C X7 d3_6 e7 (C.t 18 rfl) Via.refl F_size EX (Or.inl (C.t 19 rfl)) (C.t 10 rfl) (ty := .int) (by decide) rfl rfl rfl ?_
    intro T8 h8_ X8 e8 W8 F8_o_size EE8_o
    have N8 := Fr.snoc X8 N0 ga
    have Z8 : n0 ≤ h8_.size := Nat.le_trans Z0 (Keep.of_wr W8).1
    have K8 := K0.wr W8 (Or.inl (List.mem_of_getElem? (i := 0) rfl))
    have A8_t := A.other W8 ne
    have F8_o_slots := F_slots.other W8 (Or.inr (slot_ne (Or.inr (C.t 21 rfl)) (Or.inl (C.t 19 rfl)) (by decide) (t := (.array .int)) (t' := .int) (by decide) (by decide)))
    have F8_o_end := F_end.other W8 (Or.inr (slot_ne (Or.inr (C.t 23 rfl)) (Or.inl (C.t 19 rfl)) (by decide) (t := .int) (t' := .int) (by decide) (by decide)))
    have F8_o_entries := F_entries.other W8 (Or.inr (slot_ne (Or.inr (C.t 29 rfl)) (Or.inl (C.t 19 rfl)) (by decide) (t := .int) (t' := .int) (by decide) (by decide)))
    refine g_aloadN C X8 d3_9 rfl rfl ?_
    refine g_arraylength C X8 d3_10 e8 A8_t rfl ?_
    intro n10 h_n10
    obtain rfl : n10 = (1 : Int32) := own_inj32 (y := (1 : Int32)) h_n10
    refine g_istoreN C X8 d3_11 #[.val (.ref o), .val (.ref t), .val (.int (1 : Int32))] rfl rfl ?_
    refine g_iloadN C X8 d3_12 rfl rfl ?_
    refine g_if C X8 d3_13 (by decide) rfl rfl ?_ ?_
    · intro h13
      have h13 : (1 : Int) ≤ 0 := h13
      exact absurd h13 (by decide)
    · intro h13
      have h13 : (1 : Int) > 0 := h13
      refine g_aloadN C X8 d3_16 rfl rfl ?_
      refine g_iloadN C X8 d3_17 rfl rfl ?_
      refine g_iconst C X8 (1 : Int32) d3_18 rfl rfl ?_
      refine g_isub C X8 d3_19 rfl ?_
      refine g_iaload C X8 d3_20 e8 A8_t (by decide) (by decide) (v := (.int v0)) rfl rfl ?_
      refine g_if C X8 d3_21 (by decide) rfl rfl ?_ ?_
      · intro h21
        have h21 : ¬ v0.toInt = 0 := h21
        refine g_aloadN C X8 d3_30 rfl rfl ?_
        refine g_aloadN C X8 d3_31 rfl rfl ?_
        refine g_putfield C X8 d3_32 e8 (C.t 20 rfl) Via.refl F8_o_slots EE8_o (Or.inr ⟨(C.t 21 rfl), rfl, rfl⟩) (C.t 10 rfl) (ty := (.array .int)) (by decide) rfl rfl rfl ?_
        intro T9 h9_ X9 e9 W9 F9_o_slots EE9_o
        have N9 := Fr.snoc X9 N8 ga
        have Z9 : n0 ≤ h9_.size := Nat.le_trans Z8 (Keep.of_wr W9).1
        have K9 := K8.wr W9 (Or.inl (List.mem_of_getElem? (i := 0) rfl))
        have A9_t := A8_t.other W9 ne
        have F9_o_end := F8_o_end.other W9 (Or.inr (slot_ne (Or.inr (C.t 23 rfl)) (Or.inr (C.t 21 rfl)) (by decide) (t := .int) (t' := (.array .int)) (by decide) (by decide)))
        have F9_o_entries := F8_o_entries.other W9 (Or.inr (slot_ne (Or.inr (C.t 29 rfl)) (Or.inr (C.t 21 rfl)) (by decide) (t := .int) (t' := (.array .int)) (by decide) (by decide)))
        have F9_o_size := F8_o_size.other W9 (Or.inr (slot_ne (Or.inl (C.t 19 rfl)) (Or.inr (C.t 21 rfl)) (by decide) (t := .int) (t' := (.array .int)) (by decide) (by decide)))
        refine g_aloadN C X9 d3_35 rfl rfl ?_
        refine g_iloadN C X9 d3_36 rfl rfl ?_
        refine g_putfield C X9 d3_37 e9 (C.t 22 rfl) Via.refl F9_o_end EE9_o (Or.inr ⟨(C.t 23 rfl), rfl, rfl⟩) (C.t 10 rfl) (ty := .int) (by decide) rfl rfl rfl ?_
        intro T10 h10_ X10 e10 W10 F10_o_end EE10_o
        have N10 := Fr.snoc X10 N9 ga
        have Z10 : n0 ≤ h10_.size := Nat.le_trans Z9 (Keep.of_wr W10).1
        have K10 := K9.wr W10 (Or.inl (List.mem_of_getElem? (i := 0) rfl))
        have A10_t := A9_t.other W10 ne
        have F10_o_slots := F9_o_slots.other W10 (Or.inr (slot_ne (Or.inr (C.t 21 rfl)) (Or.inr (C.t 23 rfl)) (by decide) (t := (.array .int)) (t' := .int) (by decide) (by decide)))
        have F10_o_entries := F9_o_entries.other W10 (Or.inr (slot_ne (Or.inr (C.t 29 rfl)) (Or.inr (C.t 23 rfl)) (by decide) (t := .int) (t' := .int) (by decide) (by decide)))
        have F10_o_size := F9_o_size.other W10 (Or.inr (slot_ne (Or.inl (C.t 19 rfl)) (Or.inr (C.t 23 rfl)) (by decide) (t := .int) (t' := .int) (by decide) (by decide)))
        refine g_aloadN C X10 d3_40 rfl rfl ?_
        refine g_aloadN C X10 d3_41 rfl rfl ?_
        refine g_iloadN C X10 d3_42 rfl rfl ?_
        refine g_callSN (argsL := [(.ref t), (.int (1 : Int32))]) (rest := [(.ref o)]) (W := 1) C X10 d3_43 e10 (C.t 24 rfl) (C.t 25 rfl) (C.t 26 rfl) (C.t 27 rfl) (rm5 l Z a0 C.w [] t (1 : Int32) 1 (fun j => ([v0, v1, v2] : List Int32).getD j 0) h10_ n0 Z10 A10_t (Or.inr (Or.inl rfl)) (by decide)) (by decide) pd_5 rfl rfl rfl (Nat.le_of_eq rfl) (by decide) (by decide) (by decide) (by decide) rfl ?_
        intro T11 v11_ L11 X11 hQ11
        obtain ⟨⟨ec, rfl⟩, N11q, hh11⟩ := hQ11
        have N11 := Fr.app N10 N11q
        refine g_putfield C X11 d3_46 hh11 (C.t 28 rfl) Via.refl F10_o_entries EE10_o (Or.inr ⟨(C.t 29 rfl), rfl, rfl⟩) (C.t 10 rfl) (ty := .int) (by decide) rfl rfl rfl ?_
        intro T12 h12_ X12 e12 W12 F12_o_entries EE12_o
        have N12 := Fr.snoc X12 N11 ga
        have Z12 : n0 ≤ h12_.size := Nat.le_trans Z10 (Keep.of_wr W12).1
        have K12 := K10.wr W12 (Or.inl (List.mem_of_getElem? (i := 0) rfl))
        have A12_t := A10_t.other W12 ne
        have F12_o_slots := F10_o_slots.other W12 (Or.inr (slot_ne (Or.inr (C.t 21 rfl)) (Or.inr (C.t 29 rfl)) (by decide) (t := (.array .int)) (t' := .int) (by decide) (by decide)))
        have F12_o_end := F10_o_end.other W12 (Or.inr (slot_ne (Or.inr (C.t 23 rfl)) (Or.inr (C.t 29 rfl)) (by decide) (t := .int) (t' := .int) (by decide) (by decide)))
        have F12_o_size := F10_o_size.other W12 (Or.inr (slot_ne (Or.inl (C.t 19 rfl)) (Or.inr (C.t 29 rfl)) (by decide) (t := .int) (t' := .int) (by decide) (by decide)))
        exact g_return C X12 d3_49 rfl (by rw [e12]; exact ⟨rfl, N12, K12, EE12_o, F12_o_slots, (1 : Int32), F12_o_end, by rw [show (1 : Int32).toInt = 1 by decide]; unfold own_end; omega⟩) (by decide) (by decide)
      · intro h21
        have h21 : v0.toInt = 0 := h21
        refine g_iinc C X8 d3_24 rfl #[.val (.ref o), .val (.ref t), .val (.int (0 : Int32))] rfl rfl ?_
        refine g_goto C X8 d3_27 (by decide) rfl ?_
        refine g_iloadN C X8 d3_12 rfl rfl ?_
        refine g_if C X8 d3_13 (by decide) rfl rfl ?_ ?_
        · intro h13
          have h13 : (0 : Int) ≤ 0 := h13
          refine g_aloadN C X8 d3_30 rfl rfl ?_
          refine g_aloadN C X8 d3_31 rfl rfl ?_
          refine g_putfield C X8 d3_32 e8 (C.t 20 rfl) Via.refl F8_o_slots EE8_o (Or.inr ⟨(C.t 21 rfl), rfl, rfl⟩) (C.t 10 rfl) (ty := (.array .int)) (by decide) rfl rfl rfl ?_
          intro T13 h13_ X13 e13 W13 F13_o_slots EE13_o
          have N13 := Fr.snoc X13 N8 ga
          have Z13 : n0 ≤ h13_.size := Nat.le_trans Z8 (Keep.of_wr W13).1
          have K13 := K8.wr W13 (Or.inl (List.mem_of_getElem? (i := 0) rfl))
          have A13_t := A8_t.other W13 ne
          have F13_o_end := F8_o_end.other W13 (Or.inr (slot_ne (Or.inr (C.t 23 rfl)) (Or.inr (C.t 21 rfl)) (by decide) (t := .int) (t' := (.array .int)) (by decide) (by decide)))
          have F13_o_entries := F8_o_entries.other W13 (Or.inr (slot_ne (Or.inr (C.t 29 rfl)) (Or.inr (C.t 21 rfl)) (by decide) (t := .int) (t' := (.array .int)) (by decide) (by decide)))
          have F13_o_size := F8_o_size.other W13 (Or.inr (slot_ne (Or.inl (C.t 19 rfl)) (Or.inr (C.t 21 rfl)) (by decide) (t := .int) (t' := (.array .int)) (by decide) (by decide)))
          refine g_aloadN C X13 d3_35 rfl rfl ?_
          refine g_iloadN C X13 d3_36 rfl rfl ?_
          refine g_putfield C X13 d3_37 e13 (C.t 22 rfl) Via.refl F13_o_end EE13_o (Or.inr ⟨(C.t 23 rfl), rfl, rfl⟩) (C.t 10 rfl) (ty := .int) (by decide) rfl rfl rfl ?_
          intro T14 h14_ X14 e14 W14 F14_o_end EE14_o
          have N14 := Fr.snoc X14 N13 ga
          have Z14 : n0 ≤ h14_.size := Nat.le_trans Z13 (Keep.of_wr W14).1
          have K14 := K13.wr W14 (Or.inl (List.mem_of_getElem? (i := 0) rfl))
          have A14_t := A13_t.other W14 ne
          have F14_o_slots := F13_o_slots.other W14 (Or.inr (slot_ne (Or.inr (C.t 21 rfl)) (Or.inr (C.t 23 rfl)) (by decide) (t := (.array .int)) (t' := .int) (by decide) (by decide)))
          have F14_o_entries := F13_o_entries.other W14 (Or.inr (slot_ne (Or.inr (C.t 29 rfl)) (Or.inr (C.t 23 rfl)) (by decide) (t := .int) (t' := .int) (by decide) (by decide)))
          have F14_o_size := F13_o_size.other W14 (Or.inr (slot_ne (Or.inl (C.t 19 rfl)) (Or.inr (C.t 23 rfl)) (by decide) (t := .int) (t' := .int) (by decide) (by decide)))
          refine g_aloadN C X14 d3_40 rfl rfl ?_
          refine g_aloadN C X14 d3_41 rfl rfl ?_
          refine g_iloadN C X14 d3_42 rfl rfl ?_
          refine g_callSN (argsL := [(.ref t), (.int (0 : Int32))]) (rest := [(.ref o)]) (W := 1) C X14 d3_43 e14 (C.t 24 rfl) (C.t 25 rfl) (C.t 26 rfl) (C.t 27 rfl) (rm5 l Z a0 C.w [] t (0 : Int32) 1 (fun j => ([v0, v1, v2] : List Int32).getD j 0) h14_ n0 Z14 A14_t (Or.inl rfl) (by decide)) (by decide) pd_5 rfl rfl rfl (Nat.le_of_eq rfl) (by decide) (by decide) (by decide) (by decide) rfl ?_
          intro T15 v15_ L15 X15 hQ15
          obtain ⟨⟨ec, rfl⟩, N15q, hh15⟩ := hQ15
          have N15 := Fr.app N14 N15q
          refine g_putfield C X15 d3_46 hh15 (C.t 28 rfl) Via.refl F14_o_entries EE14_o (Or.inr ⟨(C.t 29 rfl), rfl, rfl⟩) (C.t 10 rfl) (ty := .int) (by decide) rfl rfl rfl ?_
          intro T16 h16_ X16 e16 W16 F16_o_entries EE16_o
          have N16 := Fr.snoc X16 N15 ga
          have Z16 : n0 ≤ h16_.size := Nat.le_trans Z14 (Keep.of_wr W16).1
          have K16 := K14.wr W16 (Or.inl (List.mem_of_getElem? (i := 0) rfl))
          have A16_t := A14_t.other W16 ne
          have F16_o_slots := F14_o_slots.other W16 (Or.inr (slot_ne (Or.inr (C.t 21 rfl)) (Or.inr (C.t 29 rfl)) (by decide) (t := (.array .int)) (t' := .int) (by decide) (by decide)))
          have F16_o_end := F14_o_end.other W16 (Or.inr (slot_ne (Or.inr (C.t 23 rfl)) (Or.inr (C.t 29 rfl)) (by decide) (t := .int) (t' := .int) (by decide) (by decide)))
          have F16_o_size := F14_o_size.other W16 (Or.inr (slot_ne (Or.inl (C.t 19 rfl)) (Or.inr (C.t 29 rfl)) (by decide) (t := .int) (t' := .int) (by decide) (by decide)))
          exact g_return C X16 d3_49 rfl (by rw [e16]; exact ⟨rfl, N16, K16, EE16_o, F16_o_slots, (0 : Int32), F16_o_end, by rw [show (0 : Int32).toInt = 0 by decide]; unfold own_end; omega⟩) (by decide) (by decide)
        · intro h13
          have h13 : (0 : Int) > 0 := h13
          exact absurd h13 (by decide)
  · skip
    refine g_aloadN C X0 d3_0 rfl rfl ?_
    refine g_initO (W := 0) C X0 d3_1 e0 (C.t 15 rfl) (C.t 16 rfl) (C.t 17 rfl) rfl (by decide) (Nat.le_of_eq rfl) (by decide) rfl ?_
    intro T17 X17 e17
    refine g_aloadN C X17 d3_4 rfl rfl ?_
    refine g_iconst C X17 (-1 : Int32) d3_5 rfl rfl ?_
    refine g_putfield C X17 d3_6 e17 (C.t 18 rfl) Via.refl F_size EX (Or.inl (C.t 19 rfl)) (C.t 10 rfl) (ty := .int) (by decide) rfl rfl rfl ?_
    intro T18 h18_ X18 e18 W18 F18_o_size EE18_o
    have N18 := Fr.snoc X18 N0 ga
    have Z18 : n0 ≤ h18_.size := Nat.le_trans Z0 (Keep.of_wr W18).1
    have K18 := K0.wr W18 (Or.inl (List.mem_of_getElem? (i := 0) rfl))
    have A18_t := A.other W18 ne
    have F18_o_slots := F_slots.other W18 (Or.inr (slot_ne (Or.inr (C.t 21 rfl)) (Or.inl (C.t 19 rfl)) (by decide) (t := (.array .int)) (t' := .int) (by decide) (by decide)))
    have F18_o_end := F_end.other W18 (Or.inr (slot_ne (Or.inr (C.t 23 rfl)) (Or.inl (C.t 19 rfl)) (by decide) (t := .int) (t' := .int) (by decide) (by decide)))
    have F18_o_entries := F_entries.other W18 (Or.inr (slot_ne (Or.inr (C.t 29 rfl)) (Or.inl (C.t 19 rfl)) (by decide) (t := .int) (t' := .int) (by decide) (by decide)))
    refine g_aloadN C X18 d3_9 rfl rfl ?_
    refine g_arraylength C X18 d3_10 e18 A18_t rfl ?_
    intro n10 h_n10
    obtain rfl : n10 = (2 : Int32) := own_inj32 (y := (2 : Int32)) h_n10
    refine g_istoreN C X18 d3_11 #[.val (.ref o), .val (.ref t), .val (.int (2 : Int32))] rfl rfl ?_
    refine g_iloadN C X18 d3_12 rfl rfl ?_
    refine g_if C X18 d3_13 (by decide) rfl rfl ?_ ?_
    · intro h13
      have h13 : (2 : Int) ≤ 0 := h13
      exact absurd h13 (by decide)
    · intro h13
      have h13 : (2 : Int) > 0 := h13
      refine g_aloadN C X18 d3_16 rfl rfl ?_
      refine g_iloadN C X18 d3_17 rfl rfl ?_
      refine g_iconst C X18 (1 : Int32) d3_18 rfl rfl ?_
      refine g_isub C X18 d3_19 rfl ?_
      refine g_iaload C X18 d3_20 e18 A18_t (by decide) (by decide) (v := (.int v1)) rfl rfl ?_
      refine g_if C X18 d3_21 (by decide) rfl rfl ?_ ?_
      · intro h21
        have h21 : ¬ v1.toInt = 0 := h21
        refine g_aloadN C X18 d3_30 rfl rfl ?_
        refine g_aloadN C X18 d3_31 rfl rfl ?_
        refine g_putfield C X18 d3_32 e18 (C.t 20 rfl) Via.refl F18_o_slots EE18_o (Or.inr ⟨(C.t 21 rfl), rfl, rfl⟩) (C.t 10 rfl) (ty := (.array .int)) (by decide) rfl rfl rfl ?_
        intro T19 h19_ X19 e19 W19 F19_o_slots EE19_o
        have N19 := Fr.snoc X19 N18 ga
        have Z19 : n0 ≤ h19_.size := Nat.le_trans Z18 (Keep.of_wr W19).1
        have K19 := K18.wr W19 (Or.inl (List.mem_of_getElem? (i := 0) rfl))
        have A19_t := A18_t.other W19 ne
        have F19_o_end := F18_o_end.other W19 (Or.inr (slot_ne (Or.inr (C.t 23 rfl)) (Or.inr (C.t 21 rfl)) (by decide) (t := .int) (t' := (.array .int)) (by decide) (by decide)))
        have F19_o_entries := F18_o_entries.other W19 (Or.inr (slot_ne (Or.inr (C.t 29 rfl)) (Or.inr (C.t 21 rfl)) (by decide) (t := .int) (t' := (.array .int)) (by decide) (by decide)))
        have F19_o_size := F18_o_size.other W19 (Or.inr (slot_ne (Or.inl (C.t 19 rfl)) (Or.inr (C.t 21 rfl)) (by decide) (t := .int) (t' := (.array .int)) (by decide) (by decide)))
        refine g_aloadN C X19 d3_35 rfl rfl ?_
        refine g_iloadN C X19 d3_36 rfl rfl ?_
        refine g_putfield C X19 d3_37 e19 (C.t 22 rfl) Via.refl F19_o_end EE19_o (Or.inr ⟨(C.t 23 rfl), rfl, rfl⟩) (C.t 10 rfl) (ty := .int) (by decide) rfl rfl rfl ?_
        intro T20 h20_ X20 e20 W20 F20_o_end EE20_o
        have N20 := Fr.snoc X20 N19 ga
        have Z20 : n0 ≤ h20_.size := Nat.le_trans Z19 (Keep.of_wr W20).1
        have K20 := K19.wr W20 (Or.inl (List.mem_of_getElem? (i := 0) rfl))
        have A20_t := A19_t.other W20 ne
        have F20_o_slots := F19_o_slots.other W20 (Or.inr (slot_ne (Or.inr (C.t 21 rfl)) (Or.inr (C.t 23 rfl)) (by decide) (t := (.array .int)) (t' := .int) (by decide) (by decide)))
        have F20_o_entries := F19_o_entries.other W20 (Or.inr (slot_ne (Or.inr (C.t 29 rfl)) (Or.inr (C.t 23 rfl)) (by decide) (t := .int) (t' := .int) (by decide) (by decide)))
        have F20_o_size := F19_o_size.other W20 (Or.inr (slot_ne (Or.inl (C.t 19 rfl)) (Or.inr (C.t 23 rfl)) (by decide) (t := .int) (t' := .int) (by decide) (by decide)))
        refine g_aloadN C X20 d3_40 rfl rfl ?_
        refine g_aloadN C X20 d3_41 rfl rfl ?_
        refine g_iloadN C X20 d3_42 rfl rfl ?_
        refine g_callSN (argsL := [(.ref t), (.int (2 : Int32))]) (rest := [(.ref o)]) (W := 1) C X20 d3_43 e20 (C.t 24 rfl) (C.t 25 rfl) (C.t 26 rfl) (C.t 27 rfl) (rm5 l Z a0 C.w [] t (2 : Int32) 2 (fun j => ([v0, v1, v2] : List Int32).getD j 0) h20_ n0 Z20 A20_t (Or.inr (Or.inr (Or.inl rfl))) (by decide)) (by decide) pd_5 rfl rfl rfl (Nat.le_of_eq rfl) (by decide) (by decide) (by decide) (by decide) rfl ?_
        intro T21 v21_ L21 X21 hQ21
        obtain ⟨⟨ec, rfl⟩, N21q, hh21⟩ := hQ21
        have N21 := Fr.app N20 N21q
        refine g_putfield C X21 d3_46 hh21 (C.t 28 rfl) Via.refl F20_o_entries EE20_o (Or.inr ⟨(C.t 29 rfl), rfl, rfl⟩) (C.t 10 rfl) (ty := .int) (by decide) rfl rfl rfl ?_
        intro T22 h22_ X22 e22 W22 F22_o_entries EE22_o
        have N22 := Fr.snoc X22 N21 ga
        have Z22 : n0 ≤ h22_.size := Nat.le_trans Z20 (Keep.of_wr W22).1
        have K22 := K20.wr W22 (Or.inl (List.mem_of_getElem? (i := 0) rfl))
        have A22_t := A20_t.other W22 ne
        have F22_o_slots := F20_o_slots.other W22 (Or.inr (slot_ne (Or.inr (C.t 21 rfl)) (Or.inr (C.t 29 rfl)) (by decide) (t := (.array .int)) (t' := .int) (by decide) (by decide)))
        have F22_o_end := F20_o_end.other W22 (Or.inr (slot_ne (Or.inr (C.t 23 rfl)) (Or.inr (C.t 29 rfl)) (by decide) (t := .int) (t' := .int) (by decide) (by decide)))
        have F22_o_size := F20_o_size.other W22 (Or.inr (slot_ne (Or.inl (C.t 19 rfl)) (Or.inr (C.t 29 rfl)) (by decide) (t := .int) (t' := .int) (by decide) (by decide)))
        exact g_return C X22 d3_49 rfl (by rw [e22]; exact ⟨rfl, N22, K22, EE22_o, F22_o_slots, (2 : Int32), F22_o_end, by rw [show (2 : Int32).toInt = 2 by decide]; unfold own_end; omega⟩) (by decide) (by decide)
      · intro h21
        have h21 : v1.toInt = 0 := h21
        refine g_iinc C X18 d3_24 rfl #[.val (.ref o), .val (.ref t), .val (.int (1 : Int32))] rfl rfl ?_
        refine g_goto C X18 d3_27 (by decide) rfl ?_
        refine g_iloadN C X18 d3_12 rfl rfl ?_
        refine g_if C X18 d3_13 (by decide) rfl rfl ?_ ?_
        · intro h13
          have h13 : (1 : Int) ≤ 0 := h13
          exact absurd h13 (by decide)
        · intro h13
          have h13 : (1 : Int) > 0 := h13
          refine g_aloadN C X18 d3_16 rfl rfl ?_
          refine g_iloadN C X18 d3_17 rfl rfl ?_
          refine g_iconst C X18 (1 : Int32) d3_18 rfl rfl ?_
          refine g_isub C X18 d3_19 rfl ?_
          refine g_iaload C X18 d3_20 e18 A18_t (by decide) (by decide) (v := (.int v0)) rfl rfl ?_
          refine g_if C X18 d3_21 (by decide) rfl rfl ?_ ?_
          · intro h21
            have h21 : ¬ v0.toInt = 0 := h21
            refine g_aloadN C X18 d3_30 rfl rfl ?_
            refine g_aloadN C X18 d3_31 rfl rfl ?_
            refine g_putfield C X18 d3_32 e18 (C.t 20 rfl) Via.refl F18_o_slots EE18_o (Or.inr ⟨(C.t 21 rfl), rfl, rfl⟩) (C.t 10 rfl) (ty := (.array .int)) (by decide) rfl rfl rfl ?_
            intro T23 h23_ X23 e23 W23 F23_o_slots EE23_o
            have N23 := Fr.snoc X23 N18 ga
            have Z23 : n0 ≤ h23_.size := Nat.le_trans Z18 (Keep.of_wr W23).1
            have K23 := K18.wr W23 (Or.inl (List.mem_of_getElem? (i := 0) rfl))
            have A23_t := A18_t.other W23 ne
            have F23_o_end := F18_o_end.other W23 (Or.inr (slot_ne (Or.inr (C.t 23 rfl)) (Or.inr (C.t 21 rfl)) (by decide) (t := .int) (t' := (.array .int)) (by decide) (by decide)))
            have F23_o_entries := F18_o_entries.other W23 (Or.inr (slot_ne (Or.inr (C.t 29 rfl)) (Or.inr (C.t 21 rfl)) (by decide) (t := .int) (t' := (.array .int)) (by decide) (by decide)))
            have F23_o_size := F18_o_size.other W23 (Or.inr (slot_ne (Or.inl (C.t 19 rfl)) (Or.inr (C.t 21 rfl)) (by decide) (t := .int) (t' := (.array .int)) (by decide) (by decide)))
            refine g_aloadN C X23 d3_35 rfl rfl ?_
            refine g_iloadN C X23 d3_36 rfl rfl ?_
            refine g_putfield C X23 d3_37 e23 (C.t 22 rfl) Via.refl F23_o_end EE23_o (Or.inr ⟨(C.t 23 rfl), rfl, rfl⟩) (C.t 10 rfl) (ty := .int) (by decide) rfl rfl rfl ?_
            intro T24 h24_ X24 e24 W24 F24_o_end EE24_o
            have N24 := Fr.snoc X24 N23 ga
            have Z24 : n0 ≤ h24_.size := Nat.le_trans Z23 (Keep.of_wr W24).1
            have K24 := K23.wr W24 (Or.inl (List.mem_of_getElem? (i := 0) rfl))
            have A24_t := A23_t.other W24 ne
            have F24_o_slots := F23_o_slots.other W24 (Or.inr (slot_ne (Or.inr (C.t 21 rfl)) (Or.inr (C.t 23 rfl)) (by decide) (t := (.array .int)) (t' := .int) (by decide) (by decide)))
            have F24_o_entries := F23_o_entries.other W24 (Or.inr (slot_ne (Or.inr (C.t 29 rfl)) (Or.inr (C.t 23 rfl)) (by decide) (t := .int) (t' := .int) (by decide) (by decide)))
            have F24_o_size := F23_o_size.other W24 (Or.inr (slot_ne (Or.inl (C.t 19 rfl)) (Or.inr (C.t 23 rfl)) (by decide) (t := .int) (t' := .int) (by decide) (by decide)))
            refine g_aloadN C X24 d3_40 rfl rfl ?_
            refine g_aloadN C X24 d3_41 rfl rfl ?_
            refine g_iloadN C X24 d3_42 rfl rfl ?_
            refine g_callSN (argsL := [(.ref t), (.int (1 : Int32))]) (rest := [(.ref o)]) (W := 1) C X24 d3_43 e24 (C.t 24 rfl) (C.t 25 rfl) (C.t 26 rfl) (C.t 27 rfl) (rm5 l Z a0 C.w [] t (1 : Int32) 2 (fun j => ([v0, v1, v2] : List Int32).getD j 0) h24_ n0 Z24 A24_t (Or.inr (Or.inl rfl)) (by decide)) (by decide) pd_5 rfl rfl rfl (Nat.le_of_eq rfl) (by decide) (by decide) (by decide) (by decide) rfl ?_
            intro T25 v25_ L25 X25 hQ25
            obtain ⟨⟨ec, rfl⟩, N25q, hh25⟩ := hQ25
            have N25 := Fr.app N24 N25q
            refine g_putfield C X25 d3_46 hh25 (C.t 28 rfl) Via.refl F24_o_entries EE24_o (Or.inr ⟨(C.t 29 rfl), rfl, rfl⟩) (C.t 10 rfl) (ty := .int) (by decide) rfl rfl rfl ?_
            intro T26 h26_ X26 e26 W26 F26_o_entries EE26_o
            have N26 := Fr.snoc X26 N25 ga
            have Z26 : n0 ≤ h26_.size := Nat.le_trans Z24 (Keep.of_wr W26).1
            have K26 := K24.wr W26 (Or.inl (List.mem_of_getElem? (i := 0) rfl))
            have A26_t := A24_t.other W26 ne
            have F26_o_slots := F24_o_slots.other W26 (Or.inr (slot_ne (Or.inr (C.t 21 rfl)) (Or.inr (C.t 29 rfl)) (by decide) (t := (.array .int)) (t' := .int) (by decide) (by decide)))
            have F26_o_end := F24_o_end.other W26 (Or.inr (slot_ne (Or.inr (C.t 23 rfl)) (Or.inr (C.t 29 rfl)) (by decide) (t := .int) (t' := .int) (by decide) (by decide)))
            have F26_o_size := F24_o_size.other W26 (Or.inr (slot_ne (Or.inl (C.t 19 rfl)) (Or.inr (C.t 29 rfl)) (by decide) (t := .int) (t' := .int) (by decide) (by decide)))
            exact g_return C X26 d3_49 rfl (by rw [e26]; exact ⟨rfl, N26, K26, EE26_o, F26_o_slots, (1 : Int32), F26_o_end, by rw [show (1 : Int32).toInt = 1 by decide]; unfold own_end; omega⟩) (by decide) (by decide)
          · intro h21
            have h21 : v0.toInt = 0 := h21
            refine g_iinc C X18 d3_24 rfl #[.val (.ref o), .val (.ref t), .val (.int (0 : Int32))] rfl rfl ?_
            refine g_goto C X18 d3_27 (by decide) rfl ?_
            refine g_iloadN C X18 d3_12 rfl rfl ?_
            refine g_if C X18 d3_13 (by decide) rfl rfl ?_ ?_
            · intro h13
              have h13 : (0 : Int) ≤ 0 := h13
              refine g_aloadN C X18 d3_30 rfl rfl ?_
              refine g_aloadN C X18 d3_31 rfl rfl ?_
              refine g_putfield C X18 d3_32 e18 (C.t 20 rfl) Via.refl F18_o_slots EE18_o (Or.inr ⟨(C.t 21 rfl), rfl, rfl⟩) (C.t 10 rfl) (ty := (.array .int)) (by decide) rfl rfl rfl ?_
              intro T27 h27_ X27 e27 W27 F27_o_slots EE27_o
              have N27 := Fr.snoc X27 N18 ga
              have Z27 : n0 ≤ h27_.size := Nat.le_trans Z18 (Keep.of_wr W27).1
              have K27 := K18.wr W27 (Or.inl (List.mem_of_getElem? (i := 0) rfl))
              have A27_t := A18_t.other W27 ne
              have F27_o_end := F18_o_end.other W27 (Or.inr (slot_ne (Or.inr (C.t 23 rfl)) (Or.inr (C.t 21 rfl)) (by decide) (t := .int) (t' := (.array .int)) (by decide) (by decide)))
              have F27_o_entries := F18_o_entries.other W27 (Or.inr (slot_ne (Or.inr (C.t 29 rfl)) (Or.inr (C.t 21 rfl)) (by decide) (t := .int) (t' := (.array .int)) (by decide) (by decide)))
              have F27_o_size := F18_o_size.other W27 (Or.inr (slot_ne (Or.inl (C.t 19 rfl)) (Or.inr (C.t 21 rfl)) (by decide) (t := .int) (t' := (.array .int)) (by decide) (by decide)))
              refine g_aloadN C X27 d3_35 rfl rfl ?_
              refine g_iloadN C X27 d3_36 rfl rfl ?_
              refine g_putfield C X27 d3_37 e27 (C.t 22 rfl) Via.refl F27_o_end EE27_o (Or.inr ⟨(C.t 23 rfl), rfl, rfl⟩) (C.t 10 rfl) (ty := .int) (by decide) rfl rfl rfl ?_
              intro T28 h28_ X28 e28 W28 F28_o_end EE28_o
              have N28 := Fr.snoc X28 N27 ga
              have Z28 : n0 ≤ h28_.size := Nat.le_trans Z27 (Keep.of_wr W28).1
              have K28 := K27.wr W28 (Or.inl (List.mem_of_getElem? (i := 0) rfl))
              have A28_t := A27_t.other W28 ne
              have F28_o_slots := F27_o_slots.other W28 (Or.inr (slot_ne (Or.inr (C.t 21 rfl)) (Or.inr (C.t 23 rfl)) (by decide) (t := (.array .int)) (t' := .int) (by decide) (by decide)))
              have F28_o_entries := F27_o_entries.other W28 (Or.inr (slot_ne (Or.inr (C.t 29 rfl)) (Or.inr (C.t 23 rfl)) (by decide) (t := .int) (t' := .int) (by decide) (by decide)))
              have F28_o_size := F27_o_size.other W28 (Or.inr (slot_ne (Or.inl (C.t 19 rfl)) (Or.inr (C.t 23 rfl)) (by decide) (t := .int) (t' := .int) (by decide) (by decide)))
              refine g_aloadN C X28 d3_40 rfl rfl ?_
              refine g_aloadN C X28 d3_41 rfl rfl ?_
              refine g_iloadN C X28 d3_42 rfl rfl ?_
              refine g_callSN (argsL := [(.ref t), (.int (0 : Int32))]) (rest := [(.ref o)]) (W := 1) C X28 d3_43 e28 (C.t 24 rfl) (C.t 25 rfl) (C.t 26 rfl) (C.t 27 rfl) (rm5 l Z a0 C.w [] t (0 : Int32) 2 (fun j => ([v0, v1, v2] : List Int32).getD j 0) h28_ n0 Z28 A28_t (Or.inl rfl) (by decide)) (by decide) pd_5 rfl rfl rfl (Nat.le_of_eq rfl) (by decide) (by decide) (by decide) (by decide) rfl ?_
              intro T29 v29_ L29 X29 hQ29
              obtain ⟨⟨ec, rfl⟩, N29q, hh29⟩ := hQ29
              have N29 := Fr.app N28 N29q
              refine g_putfield C X29 d3_46 hh29 (C.t 28 rfl) Via.refl F28_o_entries EE28_o (Or.inr ⟨(C.t 29 rfl), rfl, rfl⟩) (C.t 10 rfl) (ty := .int) (by decide) rfl rfl rfl ?_
              intro T30 h30_ X30 e30 W30 F30_o_entries EE30_o
              have N30 := Fr.snoc X30 N29 ga
              have Z30 : n0 ≤ h30_.size := Nat.le_trans Z28 (Keep.of_wr W30).1
              have K30 := K28.wr W30 (Or.inl (List.mem_of_getElem? (i := 0) rfl))
              have A30_t := A28_t.other W30 ne
              have F30_o_slots := F28_o_slots.other W30 (Or.inr (slot_ne (Or.inr (C.t 21 rfl)) (Or.inr (C.t 29 rfl)) (by decide) (t := (.array .int)) (t' := .int) (by decide) (by decide)))
              have F30_o_end := F28_o_end.other W30 (Or.inr (slot_ne (Or.inr (C.t 23 rfl)) (Or.inr (C.t 29 rfl)) (by decide) (t := .int) (t' := .int) (by decide) (by decide)))
              have F30_o_size := F28_o_size.other W30 (Or.inr (slot_ne (Or.inl (C.t 19 rfl)) (Or.inr (C.t 29 rfl)) (by decide) (t := .int) (t' := .int) (by decide) (by decide)))
              exact g_return C X30 d3_49 rfl (by rw [e30]; exact ⟨rfl, N30, K30, EE30_o, F30_o_slots, (0 : Int32), F30_o_end, by rw [show (0 : Int32).toInt = 0 by decide]; unfold own_end; omega⟩) (by decide) (by decide)
            · intro h13
              have h13 : (0 : Int) > 0 := h13
              exact absurd h13 (by decide)
  · skip
    refine g_aloadN C X0 d3_0 rfl rfl ?_
    refine g_initO (W := 0) C X0 d3_1 e0 (C.t 15 rfl) (C.t 16 rfl) (C.t 17 rfl) rfl (by decide) (Nat.le_of_eq rfl) (by decide) rfl ?_
    intro T31 X31 e31
    refine g_aloadN C X31 d3_4 rfl rfl ?_
    refine g_iconst C X31 (-1 : Int32) d3_5 rfl rfl ?_
    refine g_putfield C X31 d3_6 e31 (C.t 18 rfl) Via.refl F_size EX (Or.inl (C.t 19 rfl)) (C.t 10 rfl) (ty := .int) (by decide) rfl rfl rfl ?_
    intro T32 h32_ X32 e32 W32 F32_o_size EE32_o
    have N32 := Fr.snoc X32 N0 ga
    have Z32 : n0 ≤ h32_.size := Nat.le_trans Z0 (Keep.of_wr W32).1
    have K32 := K0.wr W32 (Or.inl (List.mem_of_getElem? (i := 0) rfl))
    have A32_t := A.other W32 ne
    have F32_o_slots := F_slots.other W32 (Or.inr (slot_ne (Or.inr (C.t 21 rfl)) (Or.inl (C.t 19 rfl)) (by decide) (t := (.array .int)) (t' := .int) (by decide) (by decide)))
    have F32_o_end := F_end.other W32 (Or.inr (slot_ne (Or.inr (C.t 23 rfl)) (Or.inl (C.t 19 rfl)) (by decide) (t := .int) (t' := .int) (by decide) (by decide)))
    have F32_o_entries := F_entries.other W32 (Or.inr (slot_ne (Or.inr (C.t 29 rfl)) (Or.inl (C.t 19 rfl)) (by decide) (t := .int) (t' := .int) (by decide) (by decide)))
    refine g_aloadN C X32 d3_9 rfl rfl ?_
    refine g_arraylength C X32 d3_10 e32 A32_t rfl ?_
    intro n10 h_n10
    obtain rfl : n10 = (3 : Int32) := own_inj32 (y := (3 : Int32)) h_n10
    refine g_istoreN C X32 d3_11 #[.val (.ref o), .val (.ref t), .val (.int (3 : Int32))] rfl rfl ?_
    refine g_iloadN C X32 d3_12 rfl rfl ?_
    refine g_if C X32 d3_13 (by decide) rfl rfl ?_ ?_
    · intro h13
      have h13 : (3 : Int) ≤ 0 := h13
      exact absurd h13 (by decide)
    · intro h13
      have h13 : (3 : Int) > 0 := h13
      refine g_aloadN C X32 d3_16 rfl rfl ?_
      refine g_iloadN C X32 d3_17 rfl rfl ?_
      refine g_iconst C X32 (1 : Int32) d3_18 rfl rfl ?_
      refine g_isub C X32 d3_19 rfl ?_
      refine g_iaload C X32 d3_20 e32 A32_t (by decide) (by decide) (v := (.int v2)) rfl rfl ?_
      refine g_if C X32 d3_21 (by decide) rfl rfl ?_ ?_
      · intro h21
        have h21 : ¬ v2.toInt = 0 := h21
        refine g_aloadN C X32 d3_30 rfl rfl ?_
        refine g_aloadN C X32 d3_31 rfl rfl ?_
        refine g_putfield C X32 d3_32 e32 (C.t 20 rfl) Via.refl F32_o_slots EE32_o (Or.inr ⟨(C.t 21 rfl), rfl, rfl⟩) (C.t 10 rfl) (ty := (.array .int)) (by decide) rfl rfl rfl ?_
        intro T33 h33_ X33 e33 W33 F33_o_slots EE33_o
        have N33 := Fr.snoc X33 N32 ga
        have Z33 : n0 ≤ h33_.size := Nat.le_trans Z32 (Keep.of_wr W33).1
        have K33 := K32.wr W33 (Or.inl (List.mem_of_getElem? (i := 0) rfl))
        have A33_t := A32_t.other W33 ne
        have F33_o_end := F32_o_end.other W33 (Or.inr (slot_ne (Or.inr (C.t 23 rfl)) (Or.inr (C.t 21 rfl)) (by decide) (t := .int) (t' := (.array .int)) (by decide) (by decide)))
        have F33_o_entries := F32_o_entries.other W33 (Or.inr (slot_ne (Or.inr (C.t 29 rfl)) (Or.inr (C.t 21 rfl)) (by decide) (t := .int) (t' := (.array .int)) (by decide) (by decide)))
        have F33_o_size := F32_o_size.other W33 (Or.inr (slot_ne (Or.inl (C.t 19 rfl)) (Or.inr (C.t 21 rfl)) (by decide) (t := .int) (t' := (.array .int)) (by decide) (by decide)))
        refine g_aloadN C X33 d3_35 rfl rfl ?_
        refine g_iloadN C X33 d3_36 rfl rfl ?_
        refine g_putfield C X33 d3_37 e33 (C.t 22 rfl) Via.refl F33_o_end EE33_o (Or.inr ⟨(C.t 23 rfl), rfl, rfl⟩) (C.t 10 rfl) (ty := .int) (by decide) rfl rfl rfl ?_
        intro T34 h34_ X34 e34 W34 F34_o_end EE34_o
        have N34 := Fr.snoc X34 N33 ga
        have Z34 : n0 ≤ h34_.size := Nat.le_trans Z33 (Keep.of_wr W34).1
        have K34 := K33.wr W34 (Or.inl (List.mem_of_getElem? (i := 0) rfl))
        have A34_t := A33_t.other W34 ne
        have F34_o_slots := F33_o_slots.other W34 (Or.inr (slot_ne (Or.inr (C.t 21 rfl)) (Or.inr (C.t 23 rfl)) (by decide) (t := (.array .int)) (t' := .int) (by decide) (by decide)))
        have F34_o_entries := F33_o_entries.other W34 (Or.inr (slot_ne (Or.inr (C.t 29 rfl)) (Or.inr (C.t 23 rfl)) (by decide) (t := .int) (t' := .int) (by decide) (by decide)))
        have F34_o_size := F33_o_size.other W34 (Or.inr (slot_ne (Or.inl (C.t 19 rfl)) (Or.inr (C.t 23 rfl)) (by decide) (t := .int) (t' := .int) (by decide) (by decide)))
        refine g_aloadN C X34 d3_40 rfl rfl ?_
        refine g_aloadN C X34 d3_41 rfl rfl ?_
        refine g_iloadN C X34 d3_42 rfl rfl ?_
        refine g_callSN (argsL := [(.ref t), (.int (3 : Int32))]) (rest := [(.ref o)]) (W := 1) C X34 d3_43 e34 (C.t 24 rfl) (C.t 25 rfl) (C.t 26 rfl) (C.t 27 rfl) (rm5 l Z a0 C.w [] t (3 : Int32) 3 (fun j => ([v0, v1, v2] : List Int32).getD j 0) h34_ n0 Z34 A34_t (Or.inr (Or.inr (Or.inr (rfl)))) (by decide)) (by decide) pd_5 rfl rfl rfl (Nat.le_of_eq rfl) (by decide) (by decide) (by decide) (by decide) rfl ?_
        intro T35 v35_ L35 X35 hQ35
        obtain ⟨⟨ec, rfl⟩, N35q, hh35⟩ := hQ35
        have N35 := Fr.app N34 N35q
        refine g_putfield C X35 d3_46 hh35 (C.t 28 rfl) Via.refl F34_o_entries EE34_o (Or.inr ⟨(C.t 29 rfl), rfl, rfl⟩) (C.t 10 rfl) (ty := .int) (by decide) rfl rfl rfl ?_
        intro T36 h36_ X36 e36 W36 F36_o_entries EE36_o
        have N36 := Fr.snoc X36 N35 ga
        have Z36 : n0 ≤ h36_.size := Nat.le_trans Z34 (Keep.of_wr W36).1
        have K36 := K34.wr W36 (Or.inl (List.mem_of_getElem? (i := 0) rfl))
        have A36_t := A34_t.other W36 ne
        have F36_o_slots := F34_o_slots.other W36 (Or.inr (slot_ne (Or.inr (C.t 21 rfl)) (Or.inr (C.t 29 rfl)) (by decide) (t := (.array .int)) (t' := .int) (by decide) (by decide)))
        have F36_o_end := F34_o_end.other W36 (Or.inr (slot_ne (Or.inr (C.t 23 rfl)) (Or.inr (C.t 29 rfl)) (by decide) (t := .int) (t' := .int) (by decide) (by decide)))
        have F36_o_size := F34_o_size.other W36 (Or.inr (slot_ne (Or.inl (C.t 19 rfl)) (Or.inr (C.t 29 rfl)) (by decide) (t := .int) (t' := .int) (by decide) (by decide)))
        exact g_return C X36 d3_49 rfl (by rw [e36]; exact ⟨rfl, N36, K36, EE36_o, F36_o_slots, (3 : Int32), F36_o_end, by rw [show (3 : Int32).toInt = 3 by decide]; unfold own_end; omega⟩) (by decide) (by decide)
      · intro h21
        have h21 : v2.toInt = 0 := h21
        refine g_iinc C X32 d3_24 rfl #[.val (.ref o), .val (.ref t), .val (.int (2 : Int32))] rfl rfl ?_
        refine g_goto C X32 d3_27 (by decide) rfl ?_
        refine g_iloadN C X32 d3_12 rfl rfl ?_
        refine g_if C X32 d3_13 (by decide) rfl rfl ?_ ?_
        · intro h13
          have h13 : (2 : Int) ≤ 0 := h13
          exact absurd h13 (by decide)
        · intro h13
          have h13 : (2 : Int) > 0 := h13
          refine g_aloadN C X32 d3_16 rfl rfl ?_
          refine g_iloadN C X32 d3_17 rfl rfl ?_
          refine g_iconst C X32 (1 : Int32) d3_18 rfl rfl ?_
          refine g_isub C X32 d3_19 rfl ?_
          refine g_iaload C X32 d3_20 e32 A32_t (by decide) (by decide) (v := (.int v1)) rfl rfl ?_
          refine g_if C X32 d3_21 (by decide) rfl rfl ?_ ?_
          · intro h21
            have h21 : ¬ v1.toInt = 0 := h21
            refine g_aloadN C X32 d3_30 rfl rfl ?_
            refine g_aloadN C X32 d3_31 rfl rfl ?_
            refine g_putfield C X32 d3_32 e32 (C.t 20 rfl) Via.refl F32_o_slots EE32_o (Or.inr ⟨(C.t 21 rfl), rfl, rfl⟩) (C.t 10 rfl) (ty := (.array .int)) (by decide) rfl rfl rfl ?_
            intro T37 h37_ X37 e37 W37 F37_o_slots EE37_o
            have N37 := Fr.snoc X37 N32 ga
            have Z37 : n0 ≤ h37_.size := Nat.le_trans Z32 (Keep.of_wr W37).1
            have K37 := K32.wr W37 (Or.inl (List.mem_of_getElem? (i := 0) rfl))
            have A37_t := A32_t.other W37 ne
            have F37_o_end := F32_o_end.other W37 (Or.inr (slot_ne (Or.inr (C.t 23 rfl)) (Or.inr (C.t 21 rfl)) (by decide) (t := .int) (t' := (.array .int)) (by decide) (by decide)))
            have F37_o_entries := F32_o_entries.other W37 (Or.inr (slot_ne (Or.inr (C.t 29 rfl)) (Or.inr (C.t 21 rfl)) (by decide) (t := .int) (t' := (.array .int)) (by decide) (by decide)))
            have F37_o_size := F32_o_size.other W37 (Or.inr (slot_ne (Or.inl (C.t 19 rfl)) (Or.inr (C.t 21 rfl)) (by decide) (t := .int) (t' := (.array .int)) (by decide) (by decide)))
            refine g_aloadN C X37 d3_35 rfl rfl ?_
            refine g_iloadN C X37 d3_36 rfl rfl ?_
            refine g_putfield C X37 d3_37 e37 (C.t 22 rfl) Via.refl F37_o_end EE37_o (Or.inr ⟨(C.t 23 rfl), rfl, rfl⟩) (C.t 10 rfl) (ty := .int) (by decide) rfl rfl rfl ?_
            intro T38 h38_ X38 e38 W38 F38_o_end EE38_o
            have N38 := Fr.snoc X38 N37 ga
            have Z38 : n0 ≤ h38_.size := Nat.le_trans Z37 (Keep.of_wr W38).1
            have K38 := K37.wr W38 (Or.inl (List.mem_of_getElem? (i := 0) rfl))
            have A38_t := A37_t.other W38 ne
            have F38_o_slots := F37_o_slots.other W38 (Or.inr (slot_ne (Or.inr (C.t 21 rfl)) (Or.inr (C.t 23 rfl)) (by decide) (t := (.array .int)) (t' := .int) (by decide) (by decide)))
            have F38_o_entries := F37_o_entries.other W38 (Or.inr (slot_ne (Or.inr (C.t 29 rfl)) (Or.inr (C.t 23 rfl)) (by decide) (t := .int) (t' := .int) (by decide) (by decide)))
            have F38_o_size := F37_o_size.other W38 (Or.inr (slot_ne (Or.inl (C.t 19 rfl)) (Or.inr (C.t 23 rfl)) (by decide) (t := .int) (t' := .int) (by decide) (by decide)))
            refine g_aloadN C X38 d3_40 rfl rfl ?_
            refine g_aloadN C X38 d3_41 rfl rfl ?_
            refine g_iloadN C X38 d3_42 rfl rfl ?_
            refine g_callSN (argsL := [(.ref t), (.int (2 : Int32))]) (rest := [(.ref o)]) (W := 1) C X38 d3_43 e38 (C.t 24 rfl) (C.t 25 rfl) (C.t 26 rfl) (C.t 27 rfl) (rm5 l Z a0 C.w [] t (2 : Int32) 3 (fun j => ([v0, v1, v2] : List Int32).getD j 0) h38_ n0 Z38 A38_t (Or.inr (Or.inr (Or.inl rfl))) (by decide)) (by decide) pd_5 rfl rfl rfl (Nat.le_of_eq rfl) (by decide) (by decide) (by decide) (by decide) rfl ?_
            intro T39 v39_ L39 X39 hQ39
            obtain ⟨⟨ec, rfl⟩, N39q, hh39⟩ := hQ39
            have N39 := Fr.app N38 N39q
            refine g_putfield C X39 d3_46 hh39 (C.t 28 rfl) Via.refl F38_o_entries EE38_o (Or.inr ⟨(C.t 29 rfl), rfl, rfl⟩) (C.t 10 rfl) (ty := .int) (by decide) rfl rfl rfl ?_
            intro T40 h40_ X40 e40 W40 F40_o_entries EE40_o
            have N40 := Fr.snoc X40 N39 ga
            have Z40 : n0 ≤ h40_.size := Nat.le_trans Z38 (Keep.of_wr W40).1
            have K40 := K38.wr W40 (Or.inl (List.mem_of_getElem? (i := 0) rfl))
            have A40_t := A38_t.other W40 ne
            have F40_o_slots := F38_o_slots.other W40 (Or.inr (slot_ne (Or.inr (C.t 21 rfl)) (Or.inr (C.t 29 rfl)) (by decide) (t := (.array .int)) (t' := .int) (by decide) (by decide)))
            have F40_o_end := F38_o_end.other W40 (Or.inr (slot_ne (Or.inr (C.t 23 rfl)) (Or.inr (C.t 29 rfl)) (by decide) (t := .int) (t' := .int) (by decide) (by decide)))
            have F40_o_size := F38_o_size.other W40 (Or.inr (slot_ne (Or.inl (C.t 19 rfl)) (Or.inr (C.t 29 rfl)) (by decide) (t := .int) (t' := .int) (by decide) (by decide)))
            exact g_return C X40 d3_49 rfl (by rw [e40]; exact ⟨rfl, N40, K40, EE40_o, F40_o_slots, (2 : Int32), F40_o_end, by rw [show (2 : Int32).toInt = 2 by decide]; unfold own_end; omega⟩) (by decide) (by decide)
          · intro h21
            have h21 : v1.toInt = 0 := h21
            refine g_iinc C X32 d3_24 rfl #[.val (.ref o), .val (.ref t), .val (.int (1 : Int32))] rfl rfl ?_
            refine g_goto C X32 d3_27 (by decide) rfl ?_
            refine g_iloadN C X32 d3_12 rfl rfl ?_
            refine g_if C X32 d3_13 (by decide) rfl rfl ?_ ?_
            · intro h13
              have h13 : (1 : Int) ≤ 0 := h13
              exact absurd h13 (by decide)
            · intro h13
              have h13 : (1 : Int) > 0 := h13
              refine g_aloadN C X32 d3_16 rfl rfl ?_
              refine g_iloadN C X32 d3_17 rfl rfl ?_
              refine g_iconst C X32 (1 : Int32) d3_18 rfl rfl ?_
              refine g_isub C X32 d3_19 rfl ?_
              refine g_iaload C X32 d3_20 e32 A32_t (by decide) (by decide) (v := (.int v0)) rfl rfl ?_
              refine g_if C X32 d3_21 (by decide) rfl rfl ?_ ?_
              · intro h21
                have h21 : ¬ v0.toInt = 0 := h21
                refine g_aloadN C X32 d3_30 rfl rfl ?_
                refine g_aloadN C X32 d3_31 rfl rfl ?_
                refine g_putfield C X32 d3_32 e32 (C.t 20 rfl) Via.refl F32_o_slots EE32_o (Or.inr ⟨(C.t 21 rfl), rfl, rfl⟩) (C.t 10 rfl) (ty := (.array .int)) (by decide) rfl rfl rfl ?_
                intro T41 h41_ X41 e41 W41 F41_o_slots EE41_o
                have N41 := Fr.snoc X41 N32 ga
                have Z41 : n0 ≤ h41_.size := Nat.le_trans Z32 (Keep.of_wr W41).1
                have K41 := K32.wr W41 (Or.inl (List.mem_of_getElem? (i := 0) rfl))
                have A41_t := A32_t.other W41 ne
                have F41_o_end := F32_o_end.other W41 (Or.inr (slot_ne (Or.inr (C.t 23 rfl)) (Or.inr (C.t 21 rfl)) (by decide) (t := .int) (t' := (.array .int)) (by decide) (by decide)))
                have F41_o_entries := F32_o_entries.other W41 (Or.inr (slot_ne (Or.inr (C.t 29 rfl)) (Or.inr (C.t 21 rfl)) (by decide) (t := .int) (t' := (.array .int)) (by decide) (by decide)))
                have F41_o_size := F32_o_size.other W41 (Or.inr (slot_ne (Or.inl (C.t 19 rfl)) (Or.inr (C.t 21 rfl)) (by decide) (t := .int) (t' := (.array .int)) (by decide) (by decide)))
                refine g_aloadN C X41 d3_35 rfl rfl ?_
                refine g_iloadN C X41 d3_36 rfl rfl ?_
                refine g_putfield C X41 d3_37 e41 (C.t 22 rfl) Via.refl F41_o_end EE41_o (Or.inr ⟨(C.t 23 rfl), rfl, rfl⟩) (C.t 10 rfl) (ty := .int) (by decide) rfl rfl rfl ?_
                intro T42 h42_ X42 e42 W42 F42_o_end EE42_o
                have N42 := Fr.snoc X42 N41 ga
                have Z42 : n0 ≤ h42_.size := Nat.le_trans Z41 (Keep.of_wr W42).1
                have K42 := K41.wr W42 (Or.inl (List.mem_of_getElem? (i := 0) rfl))
                have A42_t := A41_t.other W42 ne
                have F42_o_slots := F41_o_slots.other W42 (Or.inr (slot_ne (Or.inr (C.t 21 rfl)) (Or.inr (C.t 23 rfl)) (by decide) (t := (.array .int)) (t' := .int) (by decide) (by decide)))
                have F42_o_entries := F41_o_entries.other W42 (Or.inr (slot_ne (Or.inr (C.t 29 rfl)) (Or.inr (C.t 23 rfl)) (by decide) (t := .int) (t' := .int) (by decide) (by decide)))
                have F42_o_size := F41_o_size.other W42 (Or.inr (slot_ne (Or.inl (C.t 19 rfl)) (Or.inr (C.t 23 rfl)) (by decide) (t := .int) (t' := .int) (by decide) (by decide)))
                refine g_aloadN C X42 d3_40 rfl rfl ?_
                refine g_aloadN C X42 d3_41 rfl rfl ?_
                refine g_iloadN C X42 d3_42 rfl rfl ?_
                refine g_callSN (argsL := [(.ref t), (.int (1 : Int32))]) (rest := [(.ref o)]) (W := 1) C X42 d3_43 e42 (C.t 24 rfl) (C.t 25 rfl) (C.t 26 rfl) (C.t 27 rfl) (rm5 l Z a0 C.w [] t (1 : Int32) 3 (fun j => ([v0, v1, v2] : List Int32).getD j 0) h42_ n0 Z42 A42_t (Or.inr (Or.inl rfl)) (by decide)) (by decide) pd_5 rfl rfl rfl (Nat.le_of_eq rfl) (by decide) (by decide) (by decide) (by decide) rfl ?_
                intro T43 v43_ L43 X43 hQ43
                obtain ⟨⟨ec, rfl⟩, N43q, hh43⟩ := hQ43
                have N43 := Fr.app N42 N43q
                refine g_putfield C X43 d3_46 hh43 (C.t 28 rfl) Via.refl F42_o_entries EE42_o (Or.inr ⟨(C.t 29 rfl), rfl, rfl⟩) (C.t 10 rfl) (ty := .int) (by decide) rfl rfl rfl ?_
                intro T44 h44_ X44 e44 W44 F44_o_entries EE44_o
                have N44 := Fr.snoc X44 N43 ga
                have Z44 : n0 ≤ h44_.size := Nat.le_trans Z42 (Keep.of_wr W44).1
                have K44 := K42.wr W44 (Or.inl (List.mem_of_getElem? (i := 0) rfl))
                have A44_t := A42_t.other W44 ne
                have F44_o_slots := F42_o_slots.other W44 (Or.inr (slot_ne (Or.inr (C.t 21 rfl)) (Or.inr (C.t 29 rfl)) (by decide) (t := (.array .int)) (t' := .int) (by decide) (by decide)))
                have F44_o_end := F42_o_end.other W44 (Or.inr (slot_ne (Or.inr (C.t 23 rfl)) (Or.inr (C.t 29 rfl)) (by decide) (t := .int) (t' := .int) (by decide) (by decide)))
                have F44_o_size := F42_o_size.other W44 (Or.inr (slot_ne (Or.inl (C.t 19 rfl)) (Or.inr (C.t 29 rfl)) (by decide) (t := .int) (t' := .int) (by decide) (by decide)))
                exact g_return C X44 d3_49 rfl (by rw [e44]; exact ⟨rfl, N44, K44, EE44_o, F44_o_slots, (1 : Int32), F44_o_end, by rw [show (1 : Int32).toInt = 1 by decide]; unfold own_end; omega⟩) (by decide) (by decide)
              · intro h21
                have h21 : v0.toInt = 0 := h21
                refine g_iinc C X32 d3_24 rfl #[.val (.ref o), .val (.ref t), .val (.int (0 : Int32))] rfl rfl ?_
                refine g_goto C X32 d3_27 (by decide) rfl ?_
                refine g_iloadN C X32 d3_12 rfl rfl ?_
                refine g_if C X32 d3_13 (by decide) rfl rfl ?_ ?_
                · intro h13
                  have h13 : (0 : Int) ≤ 0 := h13
                  refine g_aloadN C X32 d3_30 rfl rfl ?_
                  refine g_aloadN C X32 d3_31 rfl rfl ?_
                  refine g_putfield C X32 d3_32 e32 (C.t 20 rfl) Via.refl F32_o_slots EE32_o (Or.inr ⟨(C.t 21 rfl), rfl, rfl⟩) (C.t 10 rfl) (ty := (.array .int)) (by decide) rfl rfl rfl ?_
                  intro T45 h45_ X45 e45 W45 F45_o_slots EE45_o
                  have N45 := Fr.snoc X45 N32 ga
                  have Z45 : n0 ≤ h45_.size := Nat.le_trans Z32 (Keep.of_wr W45).1
                  have K45 := K32.wr W45 (Or.inl (List.mem_of_getElem? (i := 0) rfl))
                  have A45_t := A32_t.other W45 ne
                  have F45_o_end := F32_o_end.other W45 (Or.inr (slot_ne (Or.inr (C.t 23 rfl)) (Or.inr (C.t 21 rfl)) (by decide) (t := .int) (t' := (.array .int)) (by decide) (by decide)))
                  have F45_o_entries := F32_o_entries.other W45 (Or.inr (slot_ne (Or.inr (C.t 29 rfl)) (Or.inr (C.t 21 rfl)) (by decide) (t := .int) (t' := (.array .int)) (by decide) (by decide)))
                  have F45_o_size := F32_o_size.other W45 (Or.inr (slot_ne (Or.inl (C.t 19 rfl)) (Or.inr (C.t 21 rfl)) (by decide) (t := .int) (t' := (.array .int)) (by decide) (by decide)))
                  refine g_aloadN C X45 d3_35 rfl rfl ?_
                  refine g_iloadN C X45 d3_36 rfl rfl ?_
                  refine g_putfield C X45 d3_37 e45 (C.t 22 rfl) Via.refl F45_o_end EE45_o (Or.inr ⟨(C.t 23 rfl), rfl, rfl⟩) (C.t 10 rfl) (ty := .int) (by decide) rfl rfl rfl ?_
                  intro T46 h46_ X46 e46 W46 F46_o_end EE46_o
                  have N46 := Fr.snoc X46 N45 ga
                  have Z46 : n0 ≤ h46_.size := Nat.le_trans Z45 (Keep.of_wr W46).1
                  have K46 := K45.wr W46 (Or.inl (List.mem_of_getElem? (i := 0) rfl))
                  have A46_t := A45_t.other W46 ne
                  have F46_o_slots := F45_o_slots.other W46 (Or.inr (slot_ne (Or.inr (C.t 21 rfl)) (Or.inr (C.t 23 rfl)) (by decide) (t := (.array .int)) (t' := .int) (by decide) (by decide)))
                  have F46_o_entries := F45_o_entries.other W46 (Or.inr (slot_ne (Or.inr (C.t 29 rfl)) (Or.inr (C.t 23 rfl)) (by decide) (t := .int) (t' := .int) (by decide) (by decide)))
                  have F46_o_size := F45_o_size.other W46 (Or.inr (slot_ne (Or.inl (C.t 19 rfl)) (Or.inr (C.t 23 rfl)) (by decide) (t := .int) (t' := .int) (by decide) (by decide)))
                  refine g_aloadN C X46 d3_40 rfl rfl ?_
                  refine g_aloadN C X46 d3_41 rfl rfl ?_
                  refine g_iloadN C X46 d3_42 rfl rfl ?_
                  refine g_callSN (argsL := [(.ref t), (.int (0 : Int32))]) (rest := [(.ref o)]) (W := 1) C X46 d3_43 e46 (C.t 24 rfl) (C.t 25 rfl) (C.t 26 rfl) (C.t 27 rfl) (rm5 l Z a0 C.w [] t (0 : Int32) 3 (fun j => ([v0, v1, v2] : List Int32).getD j 0) h46_ n0 Z46 A46_t (Or.inl rfl) (by decide)) (by decide) pd_5 rfl rfl rfl (Nat.le_of_eq rfl) (by decide) (by decide) (by decide) (by decide) rfl ?_
                  intro T47 v47_ L47 X47 hQ47
                  obtain ⟨⟨ec, rfl⟩, N47q, hh47⟩ := hQ47
                  have N47 := Fr.app N46 N47q
                  refine g_putfield C X47 d3_46 hh47 (C.t 28 rfl) Via.refl F46_o_entries EE46_o (Or.inr ⟨(C.t 29 rfl), rfl, rfl⟩) (C.t 10 rfl) (ty := .int) (by decide) rfl rfl rfl ?_
                  intro T48 h48_ X48 e48 W48 F48_o_entries EE48_o
                  have N48 := Fr.snoc X48 N47 ga
                  have Z48 : n0 ≤ h48_.size := Nat.le_trans Z46 (Keep.of_wr W48).1
                  have K48 := K46.wr W48 (Or.inl (List.mem_of_getElem? (i := 0) rfl))
                  have A48_t := A46_t.other W48 ne
                  have F48_o_slots := F46_o_slots.other W48 (Or.inr (slot_ne (Or.inr (C.t 21 rfl)) (Or.inr (C.t 29 rfl)) (by decide) (t := (.array .int)) (t' := .int) (by decide) (by decide)))
                  have F48_o_end := F46_o_end.other W48 (Or.inr (slot_ne (Or.inr (C.t 23 rfl)) (Or.inr (C.t 29 rfl)) (by decide) (t := .int) (t' := .int) (by decide) (by decide)))
                  have F48_o_size := F46_o_size.other W48 (Or.inr (slot_ne (Or.inl (C.t 19 rfl)) (Or.inr (C.t 29 rfl)) (by decide) (t := .int) (t' := .int) (by decide) (by decide)))
                  exact g_return C X48 d3_49 rfl (by rw [e48]; exact ⟨rfl, N48, K48, EE48_o, F48_o_slots, (0 : Int32), F48_o_end, by rw [show (0 : Int32).toInt = 0 by decide]; unfold own_end; omega⟩) (by decide) (by decide)
                · intro h13
                  have h13 : (0 : Int) > 0 := h13
                  exact absurd h13 (by decide)
set_option maxRecDepth 65536 in
set_option maxHeartbeats 40000000 in
theorem loop7 {p : Program} {l : Launch} {e : Env} {R : Room} {s : State} {m : MethodId} {args : Array Value} {below : List Frame} {meth : Method} {c : Code} {cells slots : Nat} {Z : State} {a0 : Array Value} {Cc Sc : Nat} {h0 : Heap} {locs : List Loc} {o q t1 t2 : Addr} {ma1 ma2 : Int32} {N1 N2 n0 : Nat} {f g : Nat → Int32}
    (C : Cx Z a0 p s m meth c prog_23_method_3_code 3 "com/example/framewright/framewright/StackMapTableWriter$Locals" "startsWith" (some .boolean)) (F1 : Fld Z h0 o "com/example/framewright/framewright/StackMapTableWriter$Locals" "end" "I" (.int ma1)) (F2 : Fld Z h0 o "com/example/framewright/framewright/StackMapTableWriter$Locals" "slots" "[I" (.ref t1)) (F3 : Fld Z h0 q "com/example/framewright/framewright/StackMapTableWriter$Locals" "end" "I" (.int ma2)) (F4 : Fld Z h0 q "com/example/framewright/framewright/StackMapTableWriter$Locals" "slots" "[I" (.ref t2)) (A : Aw Z h0 t1 .int N1 (fun j => .int (f j))) (B : Aw Z h0 t2 .int N2 (fun j => .int (g j))) (u1 : ma1.toInt ≤ N1) (u2 : ma2.toInt ≤ N2) (u3 : 0 ≤ ma2.toInt) (N0 : Fr n0 locs) (hC : cells ≤ Cc) (hS : slots ≤ Sc) (hl : ma2.toInt ≤ ma1.toInt) :
    ∀ (k : Nat) (T0 : State) (iv : Int32), Stand p l e R s m args below meth c T0 locs cells slots → T0.heap = h0 → 0 ≤ iv.toInt → iv.toInt + k = ma2.toInt → (∀ j : Nat, (j : Int) < iv.toInt → f j = g j) →
    Go p e below s m (fun v h L => (∃ r : Int32, v = some (.int r) ∧ (r = 1 ∧ (ma2.toInt ≤ ma1.toInt ∧ ∀ k : Nat, (k : Int) < ma2.toInt → f k = g k) ∨ r = 0 ∧ ¬ (ma2.toInt ≤ ma1.toInt ∧ ∀ k : Nat, (k : Int) < ma2.toInt → f k = g k))) ∧ Fr n0 L ∧ h = h0) Cc Sc T0 15 #[.val (.ref o), .val (.ref q), .val (.int iv)] [] := by
  intro k
  induction k with
  | zero =>
    intro T0 iv X0 e0 i0 ik hp
    refine g_iloadN C X0 d7_15 rfl rfl ?_
    refine g_aloadN C X0 d7_16 rfl rfl ?_
    refine g_getfield C X0 d7_17 e0 (C.t 22 rfl) Via.refl F3 rfl ?_
    intro T1 X1 e1
    refine g_icmp C X1 d7_20 (by decide) rfl rfl ?_ ?_
    · intro h20
      have h20 : iv.toInt ≥ ma2.toInt := h20
      refine g_iconst C X1 (1 : Int32) d7_46 rfl rfl ?_
      exact g_ireturnN C X1 d7_47 rfl (Or.inl rfl) ⟨⟨(1 : Int32), rfl, Or.inl ⟨rfl, hl, fun j hj => hp j (by omega)⟩⟩, N0, e1⟩ hC hS
    · intro h20
      have h20 : iv.toInt < ma2.toInt := h20
      exfalso; omega
  | succ k ih =>
    intro T0 iv X0 e0 i0 ik hp
    refine g_iloadN C X0 d7_15 rfl rfl ?_
    refine g_aloadN C X0 d7_16 rfl rfl ?_
    refine g_getfield C X0 d7_17 e0 (C.t 22 rfl) Via.refl F3 rfl ?_
    intro T1 X1 e1
    refine g_icmp C X1 d7_20 (by decide) rfl rfl ?_ ?_
    · intro h20
      have h20 : iv.toInt ≥ ma2.toInt := h20
      exfalso; omega
    · intro h20
      have h20 : iv.toInt < ma2.toInt := h20
      refine g_aloadN C X1 d7_23 rfl rfl ?_
      refine g_getfield C X1 d7_24 e1 (C.t 20 rfl) Via.refl F2 rfl ?_
      intro T2 X2 e2
      refine g_iloadN C X2 d7_27 rfl rfl ?_
      refine g_iaload C X2 d7_28 e2 A (by omega) (by omega) (v := (.int (f iv.toInt.toNat))) rfl rfl ?_
      refine g_aloadN C X2 d7_29 rfl rfl ?_
      refine g_getfield C X2 d7_30 e2 (C.t 20 rfl) Via.refl F4 rfl ?_
      intro T3 X3 e3
      refine g_iloadN C X3 d7_33 rfl rfl ?_
      refine g_iaload C X3 d7_34 e3 B (by omega) (by omega) (v := (.int (g iv.toInt.toNat))) rfl rfl ?_
      refine g_icmp C X3 d7_35 (by decide) rfl rfl ?_ ?_
      · intro h35
        have h35 : (f iv.toInt.toNat).toInt = (g iv.toInt.toNat).toInt := h35
        refine g_iincV C X3 d7_40 rfl (y := (1 : Int32)) rfl (fun v__ => #[.val (.ref o), .val (.ref q), .val (.int v__)]) rfl rfl ?_
        intro v40 h_v40
        refine g_goto C X3 d7_43 (by decide) rfl ?_
        have q5 := c_iadd iv (1 : Int32)
        rw [show (1 : Int32).toInt = 1 by decide, ← h_v40] at q5
        have r5 := rng32 v40
        have r6 := rng32 ma2
        have q6 : v40.toInt = iv.toInt + 1 := by omega
        refine ih T3 v40 X3 e3 (by omega) (by omega) (fun j hj => ?_)
        by_cases qq : (j : Int) < iv.toInt
        · exact hp j qq
        · have ej : j = iv.toInt.toNat := by omega
          rw [ej]
          exact own_inj32 h35
      · intro h35
        have h35 : ¬ (f iv.toInt.toNat).toInt = (g iv.toInt.toNat).toInt := h35
        refine g_iconst C X3 (0 : Int32) d7_38 rfl rfl ?_
        exact g_ireturnN C X3 d7_39 rfl (Or.inl rfl) ⟨⟨(0 : Int32), rfl, Or.inr ⟨rfl, fun z => h35 (by have := z.2 iv.toInt.toNat (by omega); rw [this])⟩⟩, N0, e3⟩ hC hS
def Q_rm7 (Z : State) (o : Addr) (q : Addr) (t1 : Addr) (t2 : Addr) (ma1 : Int32) (ma2 : Int32) (N1 : Nat) (N2 : Nat) (f : Nat → Int32) (g : Nat → Int32) (h0 : Heap) (n0 : Nat) (v : Option Value) (h : Heap) (L : List Loc) : Prop := (∃ r : Int32, v = some (.int r) ∧ (r = 1 ∧ (ma2.toInt ≤ ma1.toInt ∧ ∀ k : Nat, (k : Int) < ma2.toInt → f k = g k) ∨ r = 0 ∧ ¬ (ma2.toInt ≤ ma1.toInt ∧ ∀ k : Nat, (k : Int) < ma2.toInt → f k = g k))) ∧ Fr n0 L ∧ h = h0
set_option maxRecDepth 65536 in
set_option maxHeartbeats 40000000 in
theorem rm7 (l : Launch) (Z : State) (a0 : Array Value) (hw : ∀ d ∈ tables_1, d.before a0 Z = true) (ws : List Jvm.Cond) (o : Addr) (q : Addr) (t1 t2 : Addr) (ma1 ma2 : Int32) (N1 N2 : Nat) (f g : Nat → Int32) (h0 : Heap) (n0 : Nat) (Z0 : n0 ≤ h0.size) (F1 : Fld Z h0 o "com/example/framewright/framewright/StackMapTableWriter$Locals" "end" "I" (.int ma1)) (F2 : Fld Z h0 o "com/example/framewright/framewright/StackMapTableWriter$Locals" "slots" "[I" (.ref t1)) (F3 : Fld Z h0 q "com/example/framewright/framewright/StackMapTableWriter$Locals" "end" "I" (.int ma2)) (F4 : Fld Z h0 q "com/example/framewright/framewright/StackMapTableWriter$Locals" "slots" "[I" (.ref t2)) (A : Aw Z h0 t1 .int N1 (fun j => .int (f j))) (B : Aw Z h0 t2 .int N2 (fun j => .int (g j))) (u1 : ma1.toInt ≤ N1) (u2 : ma2.toInt ≤ N2) (u3 : 0 ≤ ma2.toInt) :
    MetFree l (⟨"com/example/framewright/framewright/StackMapTableWriter$Locals", "startsWith", "(Lcom/example/framewright/framewright/StackMapTableWriter$Locals;)Z"⟩ : MethodName) (head1 (Jvm.Cond.code (⟨"com/example/framewright/framewright/StackMapTableWriter$Locals", "startsWith", "(Lcom/example/framewright/framewright/StackMapTableWriter$Locals;)Z"⟩ : MethodName) prog_23_method_3_code 3 (some .boolean) :: ws) ({ frames := 0, cells := 0, slots := 0, locals := 0 } : Room)) (fun aa U => aa = #[(.ref o), (.ref q)] ∧ Z.Warmed39 U.vm ∧ U.heap = h0) (fun _ _ _ _ _ => True) (fun _ U oo U' => ∃ rv Lr, oo = .returned rv ∧ Q_rm7 Z o q t1 t2 ma1 ma2 N1 N2 f g h0 n0 rv U'.heap Lr ∧ FrameEnd U oo U' Lr ({ frames := 0, cells := 0, slots := 0, locals := 0 } : Room).cells ({ frames := 0, cells := 0, slots := 0, locals := 0 } : Room).slots) := by
  refine g_enter pn_7 hw (ef_7 o q) ?_
  intro p e s m below meth c T0 C X0 e0
  have C : Cx Z a0 p s m meth c prog_23_method_3_code 3 "com/example/framewright/framewright/StackMapTableWriter$Locals" "startsWith" (some .boolean) := C
  have N0 := Fr.nil n0
  refine g_aloadN C X0 d7_0 rfl rfl ?_
  refine g_getfield C X0 d7_1 e0 (C.t 22 rfl) Via.refl F3 rfl ?_
  intro T1 X1 e1
  refine g_aloadN C X1 d7_4 rfl rfl ?_
  refine g_getfield C X1 d7_5 e1 (C.t 22 rfl) Via.refl F1 rfl ?_
  intro T2 X2 e2
  refine g_icmp C X2 d7_8 (by decide) rfl rfl ?_ ?_
  · intro h8
    have h8 : ma2.toInt ≤ ma1.toInt := h8
    refine g_iconst C X2 (0 : Int32) d7_13 rfl rfl ?_
    refine g_istoreN C X2 d7_14 #[.val (.ref o), .val (.ref q), .val (.int (0 : Int32))] rfl rfl ?_
    exact loop7 C F1 F2 F3 F4 A B u1 u2 u3 N0 (by decide) (by decide) (by omega) ma2.toInt.toNat T2 (0 : Int32) X2 e2 (by decide) (by rw [show (0 : Int32).toInt = 0 by decide]; omega) (fun j hj => by rw [show (0 : Int32).toInt = 0 by decide] at hj; omega)
  · intro h8
    have h8 : ma2.toInt > ma1.toInt := h8
    refine g_iconst C X2 (0 : Int32) d7_11 rfl rfl ?_
    exact g_ireturnN C X2 d7_12 rfl (Or.inl rfl) ⟨⟨(0 : Int32), rfl, Or.inr ⟨rfl, fun z => absurd z.1 (by omega)⟩⟩, N0, e2⟩ (by decide) (by decide)
set_option maxRecDepth 65536 in
set_option maxHeartbeats 40000000 in
theorem seg212 {p : Program} {l : Launch} {e : Env} {s : State} {m : MethodId} {args : Array Value} {below : List Frame} {meth : Method} {c : Code} {T0 : State} {locs : List Loc} {Z : State} {a0 : Array Value} {h0 : Heap} {n0 : Nat} {y0 y1 y2 y3 la lb a0_ a1_ a2_ b0_ b1_ b2_ got ea eb : Int32} {y4 : Int64} {ta tb oa ob : Addr}
    (C : Cx Z a0 p s m meth c code maxLocals "com/example/framewright/framewright/StackMapTableWriterStartsWithPinLaw" "law" ret) (X0 : Stand p l e room_1 s m args below meth c T0 locs 4 14) (e0 : T0.heap = h0) (N0 : Fr n0 locs) (Z0 : n0 ≤ h0.size) (k1 : 0 ≤ eb.toInt) (k2 : eb.toInt ≤ 3) (hgot : got = 1 ∧ (eb.toInt ≤ ea.toInt ∧ ∀ k : Nat, (k : Int) < eb.toInt → ([a0_, a1_, a2_] : List Int32).getD k 0 = ([b0_, b1_, b2_] : List Int32).getD k 0) ∨ got = 0 ∧ ¬ (eb.toInt ≤ ea.toInt ∧ ∀ k : Nat, (k : Int) < eb.toInt → ([a0_, a1_, a2_] : List Int32).getD k 0 = ([b0_, b1_, b2_] : List Int32).getD k 0)) :
    Go p e below s m (LQ n0) room_1.cells room_1.slots T0 212 #[.val (.int y0), .val (.int y1), .val (.int y2), .val (.int y3), .val (.long y4), .second, .val (.int la), .val (.int lb), .val (.int a0_), .val (.int a1_), .val (.int a2_), .val (.int b0_), .val (.int b1_), .val (.int b2_), .val (.ref ta), .val (.ref tb), .val (.ref oa), .val (.ref ob), .val (.int got), .val (.int ea), .val (.int eb), .unset] [] := by
  have hgot : got = 1 ∧ (eb.toInt ≤ ea.toInt ∧ (eb.toInt < 1 ∨ a0_.toInt = b0_.toInt) ∧ (eb.toInt < 2 ∨ a1_.toInt = b1_.toInt) ∧ (eb.toInt < 3 ∨ a2_.toInt = b2_.toInt)) ∨ got = 0 ∧ ¬ (eb.toInt ≤ ea.toInt ∧ (eb.toInt < 1 ∨ a0_.toInt = b0_.toInt) ∧ (eb.toInt < 2 ∨ a1_.toInt = b1_.toInt) ∧ (eb.toInt < 3 ∨ a2_.toInt = b2_.toInt)) := by
    have hiff : (eb.toInt ≤ ea.toInt ∧ ∀ k : Nat, (k : Int) < eb.toInt → ([a0_, a1_, a2_] : List Int32).getD k 0 = ([b0_, b1_, b2_] : List Int32).getD k 0) ↔ (eb.toInt ≤ ea.toInt ∧ (eb.toInt < 1 ∨ a0_.toInt = b0_.toInt) ∧ (eb.toInt < 2 ∨ a1_.toInt = b1_.toInt) ∧ (eb.toInt < 3 ∨ a2_.toInt = b2_.toInt)) := by
      constructor
      · intro z
        refine ⟨z.1, ?_, ?_, ?_⟩
        · by_cases q : eb.toInt < 1
          · exact Or.inl q
          · exact Or.inr (congrArg Int32.toInt (z.2 0 (by omega)))
        · by_cases q : eb.toInt < 2
          · exact Or.inl q
          · exact Or.inr (congrArg Int32.toInt (z.2 1 (by omega)))
        · by_cases q : eb.toInt < 3
          · exact Or.inl q
          · exact Or.inr (congrArg Int32.toInt (z.2 2 (by omega)))
      · intro z
        refine ⟨z.1, fun k hk => ?_⟩
        have hk3 : k = 0 ∨ k = 1 ∨ k = 2 := by omega
        rcases hk3 with rfl | rfl | rfl
        · exact own_inj32 (z.2.1.resolve_left (by omega))
        · exact own_inj32 (z.2.2.1.resolve_left (by omega))
        · exact own_inj32 (z.2.2.2.resolve_left (by omega))
    rcases hgot with ⟨u, v⟩ | ⟨u, v⟩
    · exact Or.inl ⟨u, hiff.mp v⟩
    · exact Or.inr ⟨u, fun z => v (hiff.mpr z)⟩
  refine g_iload C X0 at_212 rfl rfl ?_
  refine g_iload C X0 at_214 rfl rfl ?_
  refine g_icmp C X0 at_216 (by decide) rfl rfl ?_ ?_
  · intro h216
    have h216 : eb.toInt > ea.toInt := h216
    refine g_iconst C X0 (0 : Int32) at_262 rfl rfl ?_
    refine g_istore C X0 at_263 #[.val (.int y0), .val (.int y1), .val (.int y2), .val (.int y3), .val (.long y4), .second, .val (.int la), .val (.int lb), .val (.int a0_), .val (.int a1_), .val (.int a2_), .val (.int b0_), .val (.int b1_), .val (.int b2_), .val (.ref ta), .val (.ref tb), .val (.ref oa), .val (.ref ob), .val (.int got), .val (.int ea), .val (.int eb), .val (.int (0 : Int32))] rfl rfl ?_
    refine g_iload C X0 at_265 rfl rfl ?_
    refine g_iload C X0 at_267 rfl rfl ?_
    refine g_icmp C X0 at_269 (by decide) rfl rfl ?_ ?_
    · intro h269
      have h269 : ¬ got.toInt = 0 := h269
      rcases hgot with ⟨rfl, v⟩ | ⟨rfl, v⟩ <;> first | exact absurd rfl h269 | (exfalso; omega)
    · intro h269
      have h269 : got.toInt = 0 := h269
      refine g_iconst C X0 (1 : Int32) at_272 rfl rfl ?_
      refine g_goto C X0 at_273 (by decide) rfl ?_
      exact g_ireturnN C X0 at_277 rfl (Or.inl rfl) ⟨rfl, N0⟩ (by decide) (by decide)
  · intro h216
    have h216 : eb.toInt ≤ ea.toInt := h216
    refine g_iload C X0 at_219 rfl rfl ?_
    refine g_iconst C X0 (1 : Int32) at_221 rfl rfl ?_
    refine g_icmp C X0 at_222 (by decide) rfl rfl ?_ ?_
    · intro h222
      have h222 : eb.toInt < 1 := h222
      refine g_iload C X0 at_232 rfl rfl ?_
      refine g_iconst C X0 (2 : Int32) at_234 rfl rfl ?_
      refine g_icmp C X0 at_235 (by decide) rfl rfl ?_ ?_
      · intro h235
        have h235 : eb.toInt < 2 := h235
        refine g_iload C X0 at_245 rfl rfl ?_
        refine g_iconst C X0 (3 : Int32) at_247 rfl rfl ?_
        refine g_icmp C X0 at_248 (by decide) rfl rfl ?_ ?_
        · intro h248
          have h248 : eb.toInt < 3 := h248
          refine g_iconst C X0 (1 : Int32) at_258 rfl rfl ?_
          refine g_goto C X0 at_259 (by decide) rfl ?_
          refine g_istore C X0 at_263 #[.val (.int y0), .val (.int y1), .val (.int y2), .val (.int y3), .val (.long y4), .second, .val (.int la), .val (.int lb), .val (.int a0_), .val (.int a1_), .val (.int a2_), .val (.int b0_), .val (.int b1_), .val (.int b2_), .val (.ref ta), .val (.ref tb), .val (.ref oa), .val (.ref ob), .val (.int got), .val (.int ea), .val (.int eb), .val (.int (1 : Int32))] rfl rfl ?_
          refine g_iload C X0 at_265 rfl rfl ?_
          refine g_iload C X0 at_267 rfl rfl ?_
          refine g_icmp C X0 at_269 (by decide) rfl rfl ?_ ?_
          · intro h269
            have h269 : ¬ got.toInt = 1 := h269
            rcases hgot with ⟨rfl, v⟩ | ⟨rfl, v⟩ <;> first | exact absurd rfl h269 | (exfalso; omega)
          · intro h269
            have h269 : got.toInt = 1 := h269
            refine g_iconst C X0 (1 : Int32) at_272 rfl rfl ?_
            refine g_goto C X0 at_273 (by decide) rfl ?_
            exact g_ireturnN C X0 at_277 rfl (Or.inl rfl) ⟨rfl, N0⟩ (by decide) (by decide)
        · intro h248
          have h248 : eb.toInt ≥ 3 := h248
          refine g_iload C X0 at_251 rfl rfl ?_
          refine g_iload C X0 at_253 rfl rfl ?_
          refine g_icmp C X0 at_255 (by decide) rfl rfl ?_ ?_
          · intro h255
            have h255 : ¬ a2_.toInt = b2_.toInt := h255
            refine g_iconst C X0 (0 : Int32) at_262 rfl rfl ?_
            refine g_istore C X0 at_263 #[.val (.int y0), .val (.int y1), .val (.int y2), .val (.int y3), .val (.long y4), .second, .val (.int la), .val (.int lb), .val (.int a0_), .val (.int a1_), .val (.int a2_), .val (.int b0_), .val (.int b1_), .val (.int b2_), .val (.ref ta), .val (.ref tb), .val (.ref oa), .val (.ref ob), .val (.int got), .val (.int ea), .val (.int eb), .val (.int (0 : Int32))] rfl rfl ?_
            refine g_iload C X0 at_265 rfl rfl ?_
            refine g_iload C X0 at_267 rfl rfl ?_
            refine g_icmp C X0 at_269 (by decide) rfl rfl ?_ ?_
            · intro h269
              have h269 : ¬ got.toInt = 0 := h269
              rcases hgot with ⟨rfl, v⟩ | ⟨rfl, v⟩ <;> first | exact absurd rfl h269 | (exfalso; omega)
            · intro h269
              have h269 : got.toInt = 0 := h269
              refine g_iconst C X0 (1 : Int32) at_272 rfl rfl ?_
              refine g_goto C X0 at_273 (by decide) rfl ?_
              exact g_ireturnN C X0 at_277 rfl (Or.inl rfl) ⟨rfl, N0⟩ (by decide) (by decide)
          · intro h255
            have h255 : a2_.toInt = b2_.toInt := h255
            refine g_iconst C X0 (1 : Int32) at_258 rfl rfl ?_
            refine g_goto C X0 at_259 (by decide) rfl ?_
            refine g_istore C X0 at_263 #[.val (.int y0), .val (.int y1), .val (.int y2), .val (.int y3), .val (.long y4), .second, .val (.int la), .val (.int lb), .val (.int a0_), .val (.int a1_), .val (.int a2_), .val (.int b0_), .val (.int b1_), .val (.int b2_), .val (.ref ta), .val (.ref tb), .val (.ref oa), .val (.ref ob), .val (.int got), .val (.int ea), .val (.int eb), .val (.int (1 : Int32))] rfl rfl ?_
            refine g_iload C X0 at_265 rfl rfl ?_
            refine g_iload C X0 at_267 rfl rfl ?_
            refine g_icmp C X0 at_269 (by decide) rfl rfl ?_ ?_
            · intro h269
              have h269 : ¬ got.toInt = 1 := h269
              rcases hgot with ⟨rfl, v⟩ | ⟨rfl, v⟩ <;> first | exact absurd rfl h269 | (exfalso; omega)
            · intro h269
              have h269 : got.toInt = 1 := h269
              refine g_iconst C X0 (1 : Int32) at_272 rfl rfl ?_
              refine g_goto C X0 at_273 (by decide) rfl ?_
              exact g_ireturnN C X0 at_277 rfl (Or.inl rfl) ⟨rfl, N0⟩ (by decide) (by decide)
      · intro h235
        have h235 : eb.toInt ≥ 2 := h235
        refine g_iload C X0 at_238 rfl rfl ?_
        refine g_iload C X0 at_240 rfl rfl ?_
        refine g_icmp C X0 at_242 (by decide) rfl rfl ?_ ?_
        · intro h242
          have h242 : ¬ a1_.toInt = b1_.toInt := h242
          refine g_iconst C X0 (0 : Int32) at_262 rfl rfl ?_
          refine g_istore C X0 at_263 #[.val (.int y0), .val (.int y1), .val (.int y2), .val (.int y3), .val (.long y4), .second, .val (.int la), .val (.int lb), .val (.int a0_), .val (.int a1_), .val (.int a2_), .val (.int b0_), .val (.int b1_), .val (.int b2_), .val (.ref ta), .val (.ref tb), .val (.ref oa), .val (.ref ob), .val (.int got), .val (.int ea), .val (.int eb), .val (.int (0 : Int32))] rfl rfl ?_
          refine g_iload C X0 at_265 rfl rfl ?_
          refine g_iload C X0 at_267 rfl rfl ?_
          refine g_icmp C X0 at_269 (by decide) rfl rfl ?_ ?_
          · intro h269
            have h269 : ¬ got.toInt = 0 := h269
            rcases hgot with ⟨rfl, v⟩ | ⟨rfl, v⟩ <;> first | exact absurd rfl h269 | (exfalso; omega)
          · intro h269
            have h269 : got.toInt = 0 := h269
            refine g_iconst C X0 (1 : Int32) at_272 rfl rfl ?_
            refine g_goto C X0 at_273 (by decide) rfl ?_
            exact g_ireturnN C X0 at_277 rfl (Or.inl rfl) ⟨rfl, N0⟩ (by decide) (by decide)
        · intro h242
          have h242 : a1_.toInt = b1_.toInt := h242
          refine g_iload C X0 at_245 rfl rfl ?_
          refine g_iconst C X0 (3 : Int32) at_247 rfl rfl ?_
          refine g_icmp C X0 at_248 (by decide) rfl rfl ?_ ?_
          · intro h248
            have h248 : eb.toInt < 3 := h248
            refine g_iconst C X0 (1 : Int32) at_258 rfl rfl ?_
            refine g_goto C X0 at_259 (by decide) rfl ?_
            refine g_istore C X0 at_263 #[.val (.int y0), .val (.int y1), .val (.int y2), .val (.int y3), .val (.long y4), .second, .val (.int la), .val (.int lb), .val (.int a0_), .val (.int a1_), .val (.int a2_), .val (.int b0_), .val (.int b1_), .val (.int b2_), .val (.ref ta), .val (.ref tb), .val (.ref oa), .val (.ref ob), .val (.int got), .val (.int ea), .val (.int eb), .val (.int (1 : Int32))] rfl rfl ?_
            refine g_iload C X0 at_265 rfl rfl ?_
            refine g_iload C X0 at_267 rfl rfl ?_
            refine g_icmp C X0 at_269 (by decide) rfl rfl ?_ ?_
            · intro h269
              have h269 : ¬ got.toInt = 1 := h269
              rcases hgot with ⟨rfl, v⟩ | ⟨rfl, v⟩ <;> first | exact absurd rfl h269 | (exfalso; omega)
            · intro h269
              have h269 : got.toInt = 1 := h269
              refine g_iconst C X0 (1 : Int32) at_272 rfl rfl ?_
              refine g_goto C X0 at_273 (by decide) rfl ?_
              exact g_ireturnN C X0 at_277 rfl (Or.inl rfl) ⟨rfl, N0⟩ (by decide) (by decide)
          · intro h248
            have h248 : eb.toInt ≥ 3 := h248
            refine g_iload C X0 at_251 rfl rfl ?_
            refine g_iload C X0 at_253 rfl rfl ?_
            refine g_icmp C X0 at_255 (by decide) rfl rfl ?_ ?_
            · intro h255
              have h255 : ¬ a2_.toInt = b2_.toInt := h255
              refine g_iconst C X0 (0 : Int32) at_262 rfl rfl ?_
              refine g_istore C X0 at_263 #[.val (.int y0), .val (.int y1), .val (.int y2), .val (.int y3), .val (.long y4), .second, .val (.int la), .val (.int lb), .val (.int a0_), .val (.int a1_), .val (.int a2_), .val (.int b0_), .val (.int b1_), .val (.int b2_), .val (.ref ta), .val (.ref tb), .val (.ref oa), .val (.ref ob), .val (.int got), .val (.int ea), .val (.int eb), .val (.int (0 : Int32))] rfl rfl ?_
              refine g_iload C X0 at_265 rfl rfl ?_
              refine g_iload C X0 at_267 rfl rfl ?_
              refine g_icmp C X0 at_269 (by decide) rfl rfl ?_ ?_
              · intro h269
                have h269 : ¬ got.toInt = 0 := h269
                rcases hgot with ⟨rfl, v⟩ | ⟨rfl, v⟩ <;> first | exact absurd rfl h269 | (exfalso; omega)
              · intro h269
                have h269 : got.toInt = 0 := h269
                refine g_iconst C X0 (1 : Int32) at_272 rfl rfl ?_
                refine g_goto C X0 at_273 (by decide) rfl ?_
                exact g_ireturnN C X0 at_277 rfl (Or.inl rfl) ⟨rfl, N0⟩ (by decide) (by decide)
            · intro h255
              have h255 : a2_.toInt = b2_.toInt := h255
              refine g_iconst C X0 (1 : Int32) at_258 rfl rfl ?_
              refine g_goto C X0 at_259 (by decide) rfl ?_
              refine g_istore C X0 at_263 #[.val (.int y0), .val (.int y1), .val (.int y2), .val (.int y3), .val (.long y4), .second, .val (.int la), .val (.int lb), .val (.int a0_), .val (.int a1_), .val (.int a2_), .val (.int b0_), .val (.int b1_), .val (.int b2_), .val (.ref ta), .val (.ref tb), .val (.ref oa), .val (.ref ob), .val (.int got), .val (.int ea), .val (.int eb), .val (.int (1 : Int32))] rfl rfl ?_
              refine g_iload C X0 at_265 rfl rfl ?_
              refine g_iload C X0 at_267 rfl rfl ?_
              refine g_icmp C X0 at_269 (by decide) rfl rfl ?_ ?_
              · intro h269
                have h269 : ¬ got.toInt = 1 := h269
                rcases hgot with ⟨rfl, v⟩ | ⟨rfl, v⟩ <;> first | exact absurd rfl h269 | (exfalso; omega)
              · intro h269
                have h269 : got.toInt = 1 := h269
                refine g_iconst C X0 (1 : Int32) at_272 rfl rfl ?_
                refine g_goto C X0 at_273 (by decide) rfl ?_
                exact g_ireturnN C X0 at_277 rfl (Or.inl rfl) ⟨rfl, N0⟩ (by decide) (by decide)
    · intro h222
      have h222 : eb.toInt ≥ 1 := h222
      refine g_iload C X0 at_225 rfl rfl ?_
      refine g_iload C X0 at_227 rfl rfl ?_
      refine g_icmp C X0 at_229 (by decide) rfl rfl ?_ ?_
      · intro h229
        have h229 : ¬ a0_.toInt = b0_.toInt := h229
        refine g_iconst C X0 (0 : Int32) at_262 rfl rfl ?_
        refine g_istore C X0 at_263 #[.val (.int y0), .val (.int y1), .val (.int y2), .val (.int y3), .val (.long y4), .second, .val (.int la), .val (.int lb), .val (.int a0_), .val (.int a1_), .val (.int a2_), .val (.int b0_), .val (.int b1_), .val (.int b2_), .val (.ref ta), .val (.ref tb), .val (.ref oa), .val (.ref ob), .val (.int got), .val (.int ea), .val (.int eb), .val (.int (0 : Int32))] rfl rfl ?_
        refine g_iload C X0 at_265 rfl rfl ?_
        refine g_iload C X0 at_267 rfl rfl ?_
        refine g_icmp C X0 at_269 (by decide) rfl rfl ?_ ?_
        · intro h269
          have h269 : ¬ got.toInt = 0 := h269
          rcases hgot with ⟨rfl, v⟩ | ⟨rfl, v⟩ <;> first | exact absurd rfl h269 | (exfalso; omega)
        · intro h269
          have h269 : got.toInt = 0 := h269
          refine g_iconst C X0 (1 : Int32) at_272 rfl rfl ?_
          refine g_goto C X0 at_273 (by decide) rfl ?_
          exact g_ireturnN C X0 at_277 rfl (Or.inl rfl) ⟨rfl, N0⟩ (by decide) (by decide)
      · intro h229
        have h229 : a0_.toInt = b0_.toInt := h229
        refine g_iload C X0 at_232 rfl rfl ?_
        refine g_iconst C X0 (2 : Int32) at_234 rfl rfl ?_
        refine g_icmp C X0 at_235 (by decide) rfl rfl ?_ ?_
        · intro h235
          have h235 : eb.toInt < 2 := h235
          refine g_iload C X0 at_245 rfl rfl ?_
          refine g_iconst C X0 (3 : Int32) at_247 rfl rfl ?_
          refine g_icmp C X0 at_248 (by decide) rfl rfl ?_ ?_
          · intro h248
            have h248 : eb.toInt < 3 := h248
            refine g_iconst C X0 (1 : Int32) at_258 rfl rfl ?_
            refine g_goto C X0 at_259 (by decide) rfl ?_
            refine g_istore C X0 at_263 #[.val (.int y0), .val (.int y1), .val (.int y2), .val (.int y3), .val (.long y4), .second, .val (.int la), .val (.int lb), .val (.int a0_), .val (.int a1_), .val (.int a2_), .val (.int b0_), .val (.int b1_), .val (.int b2_), .val (.ref ta), .val (.ref tb), .val (.ref oa), .val (.ref ob), .val (.int got), .val (.int ea), .val (.int eb), .val (.int (1 : Int32))] rfl rfl ?_
            refine g_iload C X0 at_265 rfl rfl ?_
            refine g_iload C X0 at_267 rfl rfl ?_
            refine g_icmp C X0 at_269 (by decide) rfl rfl ?_ ?_
            · intro h269
              have h269 : ¬ got.toInt = 1 := h269
              rcases hgot with ⟨rfl, v⟩ | ⟨rfl, v⟩ <;> first | exact absurd rfl h269 | (exfalso; omega)
            · intro h269
              have h269 : got.toInt = 1 := h269
              refine g_iconst C X0 (1 : Int32) at_272 rfl rfl ?_
              refine g_goto C X0 at_273 (by decide) rfl ?_
              exact g_ireturnN C X0 at_277 rfl (Or.inl rfl) ⟨rfl, N0⟩ (by decide) (by decide)
          · intro h248
            have h248 : eb.toInt ≥ 3 := h248
            refine g_iload C X0 at_251 rfl rfl ?_
            refine g_iload C X0 at_253 rfl rfl ?_
            refine g_icmp C X0 at_255 (by decide) rfl rfl ?_ ?_
            · intro h255
              have h255 : ¬ a2_.toInt = b2_.toInt := h255
              refine g_iconst C X0 (0 : Int32) at_262 rfl rfl ?_
              refine g_istore C X0 at_263 #[.val (.int y0), .val (.int y1), .val (.int y2), .val (.int y3), .val (.long y4), .second, .val (.int la), .val (.int lb), .val (.int a0_), .val (.int a1_), .val (.int a2_), .val (.int b0_), .val (.int b1_), .val (.int b2_), .val (.ref ta), .val (.ref tb), .val (.ref oa), .val (.ref ob), .val (.int got), .val (.int ea), .val (.int eb), .val (.int (0 : Int32))] rfl rfl ?_
              refine g_iload C X0 at_265 rfl rfl ?_
              refine g_iload C X0 at_267 rfl rfl ?_
              refine g_icmp C X0 at_269 (by decide) rfl rfl ?_ ?_
              · intro h269
                have h269 : ¬ got.toInt = 0 := h269
                rcases hgot with ⟨rfl, v⟩ | ⟨rfl, v⟩ <;> first | exact absurd rfl h269 | (exfalso; omega)
              · intro h269
                have h269 : got.toInt = 0 := h269
                refine g_iconst C X0 (1 : Int32) at_272 rfl rfl ?_
                refine g_goto C X0 at_273 (by decide) rfl ?_
                exact g_ireturnN C X0 at_277 rfl (Or.inl rfl) ⟨rfl, N0⟩ (by decide) (by decide)
            · intro h255
              have h255 : a2_.toInt = b2_.toInt := h255
              refine g_iconst C X0 (1 : Int32) at_258 rfl rfl ?_
              refine g_goto C X0 at_259 (by decide) rfl ?_
              refine g_istore C X0 at_263 #[.val (.int y0), .val (.int y1), .val (.int y2), .val (.int y3), .val (.long y4), .second, .val (.int la), .val (.int lb), .val (.int a0_), .val (.int a1_), .val (.int a2_), .val (.int b0_), .val (.int b1_), .val (.int b2_), .val (.ref ta), .val (.ref tb), .val (.ref oa), .val (.ref ob), .val (.int got), .val (.int ea), .val (.int eb), .val (.int (1 : Int32))] rfl rfl ?_
              refine g_iload C X0 at_265 rfl rfl ?_
              refine g_iload C X0 at_267 rfl rfl ?_
              refine g_icmp C X0 at_269 (by decide) rfl rfl ?_ ?_
              · intro h269
                have h269 : ¬ got.toInt = 1 := h269
                rcases hgot with ⟨rfl, v⟩ | ⟨rfl, v⟩ <;> first | exact absurd rfl h269 | (exfalso; omega)
              · intro h269
                have h269 : got.toInt = 1 := h269
                refine g_iconst C X0 (1 : Int32) at_272 rfl rfl ?_
                refine g_goto C X0 at_273 (by decide) rfl ?_
                exact g_ireturnN C X0 at_277 rfl (Or.inl rfl) ⟨rfl, N0⟩ (by decide) (by decide)
        · intro h235
          have h235 : eb.toInt ≥ 2 := h235
          refine g_iload C X0 at_238 rfl rfl ?_
          refine g_iload C X0 at_240 rfl rfl ?_
          refine g_icmp C X0 at_242 (by decide) rfl rfl ?_ ?_
          · intro h242
            have h242 : ¬ a1_.toInt = b1_.toInt := h242
            refine g_iconst C X0 (0 : Int32) at_262 rfl rfl ?_
            refine g_istore C X0 at_263 #[.val (.int y0), .val (.int y1), .val (.int y2), .val (.int y3), .val (.long y4), .second, .val (.int la), .val (.int lb), .val (.int a0_), .val (.int a1_), .val (.int a2_), .val (.int b0_), .val (.int b1_), .val (.int b2_), .val (.ref ta), .val (.ref tb), .val (.ref oa), .val (.ref ob), .val (.int got), .val (.int ea), .val (.int eb), .val (.int (0 : Int32))] rfl rfl ?_
            refine g_iload C X0 at_265 rfl rfl ?_
            refine g_iload C X0 at_267 rfl rfl ?_
            refine g_icmp C X0 at_269 (by decide) rfl rfl ?_ ?_
            · intro h269
              have h269 : ¬ got.toInt = 0 := h269
              rcases hgot with ⟨rfl, v⟩ | ⟨rfl, v⟩ <;> first | exact absurd rfl h269 | (exfalso; omega)
            · intro h269
              have h269 : got.toInt = 0 := h269
              refine g_iconst C X0 (1 : Int32) at_272 rfl rfl ?_
              refine g_goto C X0 at_273 (by decide) rfl ?_
              exact g_ireturnN C X0 at_277 rfl (Or.inl rfl) ⟨rfl, N0⟩ (by decide) (by decide)
          · intro h242
            have h242 : a1_.toInt = b1_.toInt := h242
            refine g_iload C X0 at_245 rfl rfl ?_
            refine g_iconst C X0 (3 : Int32) at_247 rfl rfl ?_
            refine g_icmp C X0 at_248 (by decide) rfl rfl ?_ ?_
            · intro h248
              have h248 : eb.toInt < 3 := h248
              refine g_iconst C X0 (1 : Int32) at_258 rfl rfl ?_
              refine g_goto C X0 at_259 (by decide) rfl ?_
              refine g_istore C X0 at_263 #[.val (.int y0), .val (.int y1), .val (.int y2), .val (.int y3), .val (.long y4), .second, .val (.int la), .val (.int lb), .val (.int a0_), .val (.int a1_), .val (.int a2_), .val (.int b0_), .val (.int b1_), .val (.int b2_), .val (.ref ta), .val (.ref tb), .val (.ref oa), .val (.ref ob), .val (.int got), .val (.int ea), .val (.int eb), .val (.int (1 : Int32))] rfl rfl ?_
              refine g_iload C X0 at_265 rfl rfl ?_
              refine g_iload C X0 at_267 rfl rfl ?_
              refine g_icmp C X0 at_269 (by decide) rfl rfl ?_ ?_
              · intro h269
                have h269 : ¬ got.toInt = 1 := h269
                rcases hgot with ⟨rfl, v⟩ | ⟨rfl, v⟩ <;> first | exact absurd rfl h269 | (exfalso; omega)
              · intro h269
                have h269 : got.toInt = 1 := h269
                refine g_iconst C X0 (1 : Int32) at_272 rfl rfl ?_
                refine g_goto C X0 at_273 (by decide) rfl ?_
                exact g_ireturnN C X0 at_277 rfl (Or.inl rfl) ⟨rfl, N0⟩ (by decide) (by decide)
            · intro h248
              have h248 : eb.toInt ≥ 3 := h248
              refine g_iload C X0 at_251 rfl rfl ?_
              refine g_iload C X0 at_253 rfl rfl ?_
              refine g_icmp C X0 at_255 (by decide) rfl rfl ?_ ?_
              · intro h255
                have h255 : ¬ a2_.toInt = b2_.toInt := h255
                refine g_iconst C X0 (0 : Int32) at_262 rfl rfl ?_
                refine g_istore C X0 at_263 #[.val (.int y0), .val (.int y1), .val (.int y2), .val (.int y3), .val (.long y4), .second, .val (.int la), .val (.int lb), .val (.int a0_), .val (.int a1_), .val (.int a2_), .val (.int b0_), .val (.int b1_), .val (.int b2_), .val (.ref ta), .val (.ref tb), .val (.ref oa), .val (.ref ob), .val (.int got), .val (.int ea), .val (.int eb), .val (.int (0 : Int32))] rfl rfl ?_
                refine g_iload C X0 at_265 rfl rfl ?_
                refine g_iload C X0 at_267 rfl rfl ?_
                refine g_icmp C X0 at_269 (by decide) rfl rfl ?_ ?_
                · intro h269
                  have h269 : ¬ got.toInt = 0 := h269
                  rcases hgot with ⟨rfl, v⟩ | ⟨rfl, v⟩ <;> first | exact absurd rfl h269 | (exfalso; omega)
                · intro h269
                  have h269 : got.toInt = 0 := h269
                  refine g_iconst C X0 (1 : Int32) at_272 rfl rfl ?_
                  refine g_goto C X0 at_273 (by decide) rfl ?_
                  exact g_ireturnN C X0 at_277 rfl (Or.inl rfl) ⟨rfl, N0⟩ (by decide) (by decide)
              · intro h255
                have h255 : a2_.toInt = b2_.toInt := h255
                refine g_iconst C X0 (1 : Int32) at_258 rfl rfl ?_
                refine g_goto C X0 at_259 (by decide) rfl ?_
                refine g_istore C X0 at_263 #[.val (.int y0), .val (.int y1), .val (.int y2), .val (.int y3), .val (.long y4), .second, .val (.int la), .val (.int lb), .val (.int a0_), .val (.int a1_), .val (.int a2_), .val (.int b0_), .val (.int b1_), .val (.int b2_), .val (.ref ta), .val (.ref tb), .val (.ref oa), .val (.ref ob), .val (.int got), .val (.int ea), .val (.int eb), .val (.int (1 : Int32))] rfl rfl ?_
                refine g_iload C X0 at_265 rfl rfl ?_
                refine g_iload C X0 at_267 rfl rfl ?_
                refine g_icmp C X0 at_269 (by decide) rfl rfl ?_ ?_
                · intro h269
                  have h269 : ¬ got.toInt = 1 := h269
                  rcases hgot with ⟨rfl, v⟩ | ⟨rfl, v⟩ <;> first | exact absurd rfl h269 | (exfalso; omega)
                · intro h269
                  have h269 : got.toInt = 1 := h269
                  refine g_iconst C X0 (1 : Int32) at_272 rfl rfl ?_
                  refine g_goto C X0 at_273 (by decide) rfl ?_
                  exact g_ireturnN C X0 at_277 rfl (Or.inl rfl) ⟨rfl, N0⟩ (by decide) (by decide)
set_option maxRecDepth 65536 in
set_option maxHeartbeats 40000000 in
theorem seg129 {p : Program} {l : Launch} {e : Env} {s : State} {m : MethodId} {args : Array Value} {below : List Frame} {meth : Method} {c : Code} {T0 : State} {locs : List Loc} {Z : State} {a0 : Array Value} {h0 : Heap} {n0 : Nat} {y0 y1 y2 y3 la lb a0_ a1_ a2_ b0_ b1_ b2_ : Int32} {y4 : Int64}
    (C : Cx Z a0 p s m meth c code maxLocals "com/example/framewright/framewright/StackMapTableWriterStartsWithPinLaw" "law" ret) (X0 : Stand p l e room_1 s m args below meth c T0 locs 0 0) (e0 : T0.heap = h0) (N0 : Fr n0 locs) (Z0 : n0 ≤ h0.size) (ha : (la = (0 : Int32) ∨ la = (1 : Int32) ∨ la = (2 : Int32) ∨ la = (3 : Int32))) (hb : (lb = (0 : Int32) ∨ lb = (1 : Int32) ∨ lb = (2 : Int32) ∨ lb = (3 : Int32))) :
    Go p e below s m (LQ n0) room_1.cells room_1.slots T0 129 #[.val (.int y0), .val (.int y1), .val (.int y2), .val (.int y3), .val (.long y4), .second, .val (.int la), .val (.int lb), .val (.int a0_), .val (.int a1_), .val (.int a2_), .val (.int b0_), .val (.int b1_), .val (.int b2_), .unset, .unset, .unset, .unset, .unset, .unset, .unset, .unset] [] := by
  have na : 0 ≤ la.toInt ∧ la.toInt ≤ 3 := by rcases ha with rfl | rfl | rfl | rfl <;> decide
  have nb : 0 ≤ lb.toInt ∧ lb.toInt ≤ 3 := by rcases hb with rfl | rfl | rfl | rfl <;> decide
  refine g_iload C X0 at_129 rfl rfl ?_
  refine g_iload C X0 at_131 rfl rfl ?_
  refine g_iload C X0 at_133 rfl rfl ?_
  refine g_iload C X0 at_135 rfl rfl ?_
  refine g_callS (argsL := [(.int la), (.int a0_), (.int a1_), (.int a2_)]) (rest := []) (W := 0) C X0 at_137 e0 (C.t 5 rfl) (C.t 6 rfl) (C.t 3 rfl) (C.t 7 rfl) (rm2 l Z a0 C.w [] la a0_ a1_ a2_ h0 n0 Z0 ha) (by decide) pd_2 rfl rfl rfl (Nat.le_of_eq rfl) (by decide) (by decide) (by decide) (by decide) rfl ?_
  intro T1 v1_ L1 X1 hQ1
  obtain ⟨⟨ta, rfl, g_ta, s_ta, A_ta⟩, N1q, K1⟩ := hQ1
  have N1 := Fr.app N0 N1q
  have Z1 : n0 ≤ T1.heap.size := Nat.le_trans Z0 K1.1
  refine g_astore C X1 at_140 #[.val (.int y0), .val (.int y1), .val (.int y2), .val (.int y3), .val (.long y4), .second, .val (.int la), .val (.int lb), .val (.int a0_), .val (.int a1_), .val (.int a2_), .val (.int b0_), .val (.int b1_), .val (.int b2_), .val (.ref ta), .unset, .unset, .unset, .unset, .unset, .unset, .unset] rfl rfl ?_
  refine g_iload C X1 at_142 rfl rfl ?_
  refine g_iload C X1 at_144 rfl rfl ?_
  refine g_iload C X1 at_146 rfl rfl ?_
  refine g_iload C X1 at_148 rfl rfl ?_
  refine g_callS (argsL := [(.int lb), (.int b0_), (.int b1_), (.int b2_)]) (rest := []) (W := 0) C X1 at_150 rfl (C.t 5 rfl) (C.t 6 rfl) (C.t 3 rfl) (C.t 7 rfl) (rm2 l Z a0 C.w [] lb b0_ b1_ b2_ T1.heap n0 Z1 hb) (by decide) pd_2 rfl rfl rfl (Nat.le_of_eq rfl) (by decide) (by decide) (by decide) (by decide) rfl ?_
  intro T2 v2_ L2 X2 hQ2
  obtain ⟨⟨tb, rfl, g_tb, s_tb, A_tb⟩, N2q, K2⟩ := hQ2
  have N2 := Fr.app N1 N2q
  have ne_ta_tb : ta ≠ tb := Nat.ne_of_lt (Nat.lt_of_lt_of_le A_ta.lt s_tb)
  have Z2 : n0 ≤ T2.heap.size := Nat.le_trans Z1 K2.1
  have A2_ta := A_ta.keep K2 nin0
  refine g_astore C X2 at_153 #[.val (.int y0), .val (.int y1), .val (.int y2), .val (.int y3), .val (.long y4), .second, .val (.int la), .val (.int lb), .val (.int a0_), .val (.int a1_), .val (.int a2_), .val (.int b0_), .val (.int b1_), .val (.int b2_), .val (.ref ta), .val (.ref tb), .unset, .unset, .unset, .unset, .unset, .unset] rfl rfl ?_
  refine g_new C X2 at_155 rfl (C.t 9 rfl) (C.t 10 rfl) (C.t 11 rfl) (by decide) (by decide) rfl ?_
  intro T3 h3_ X3 e3 E3 lt3 ad3 ha3 EX3 D3
  have Z3 : n0 ≤ h3_.size := Nat.le_trans Z2 E3.1
  have ne_ta_ad3 : ta ≠ ad3 := Nat.ne_of_lt (Nat.lt_of_lt_of_eq A2_ta.lt ha3.symm)
  have A3_ta := A2_ta.ext E3
  have ne_tb_ad3 : tb ≠ ad3 := Nat.ne_of_lt (Nat.lt_of_lt_of_eq A_tb.lt ha3.symm)
  have A3_tb := A_tb.ext E3
  have g_ad3 : n0 ≤ ad3 := by omega
  refine g_dup C X3 at_158 rfl rfl ?_
  refine g_aload C X3 at_159 rfl rfl ?_
  refine g_callC (a := ad3) (argsL := [(.ref ta)]) (rest := [(.ref ad3)]) (W := 1) C X3 at_161 e3 rfl (C.t 12 rfl) (C.t 13 rfl) (C.t 11 rfl) (C.t 14 rfl) (rm3 l Z a0 C.w [] ad3 ta la.toInt.toNat a0_ a1_ a2_ h3_ n0 Z3 EX3 D3 g_ad3 ne_ta_ad3 A3_ta (by omega)) (by decide) pd_3 rfl rfl rfl (Nat.le_of_eq rfl) (by decide) (by decide) (by decide) (by decide) rfl ?_
  intro T4 v4_ L4 X4 hQ4
  obtain ⟨rfl, N4q, K4, EY4, Fs4, e_a, Fe4, he_a⟩ := hQ4
  have N4 := Fr.app N2 N4q
  have Z4 : n0 ≤ T4.heap.size := Nat.le_trans Z3 K4.1
  have A4_ta := A3_ta.keep K4 (ninS ne_ta_ad3 nin0)
  have A4_tb := A3_tb.keep K4 (ninS ne_tb_ad3 nin0)
  rw [show ((la.toInt.toNat : Nat) : Int) = la.toInt by omega] at he_a
  refine g_astore C X4 at_164 #[.val (.int y0), .val (.int y1), .val (.int y2), .val (.int y3), .val (.long y4), .second, .val (.int la), .val (.int lb), .val (.int a0_), .val (.int a1_), .val (.int a2_), .val (.int b0_), .val (.int b1_), .val (.int b2_), .val (.ref ta), .val (.ref tb), .val (.ref ad3), .unset, .unset, .unset, .unset, .unset] rfl rfl ?_
  refine g_new C X4 at_166 rfl (C.t 9 rfl) (C.t 10 rfl) (C.t 11 rfl) (by decide) (by decide) rfl ?_
  intro T5 h5_ X5 e5 E5 lt5 ad5 ha5 EX5 D5
  have Z5 : n0 ≤ h5_.size := Nat.le_trans Z4 E5.1
  have ne_ta_ad5 : ta ≠ ad5 := Nat.ne_of_lt (Nat.lt_of_lt_of_eq A4_ta.lt ha5.symm)
  have A5_ta := A4_ta.ext E5
  have ne_tb_ad5 : tb ≠ ad5 := Nat.ne_of_lt (Nat.lt_of_lt_of_eq A4_tb.lt ha5.symm)
  have A5_tb := A4_tb.ext E5
  have ne_ad3_ad5 : ad3 ≠ ad5 := Nat.ne_of_lt (Nat.lt_of_lt_of_eq EY4.lt ha5.symm)
  have EE5_ad3 := EY4.ext E5
  have F5_ad3_slots := Fs4.ext E5
  have F5_ad3_end := Fe4.ext E5
  have g_ad5 : n0 ≤ ad5 := by omega
  refine g_dup C X5 at_169 rfl rfl ?_
  refine g_aload C X5 at_170 rfl rfl ?_
  refine g_callC (a := ad5) (argsL := [(.ref tb)]) (rest := [(.ref ad5)]) (W := 1) C X5 at_172 e5 rfl (C.t 12 rfl) (C.t 13 rfl) (C.t 11 rfl) (C.t 14 rfl) (rm3 l Z a0 C.w [] ad5 tb lb.toInt.toNat b0_ b1_ b2_ h5_ n0 Z5 EX5 D5 g_ad5 ne_tb_ad5 A5_tb (by omega)) (by decide) pd_3 rfl rfl rfl (Nat.le_of_eq rfl) (by decide) (by decide) (by decide) (by decide) rfl ?_
  intro T6 v6_ L6 X6 hQ6
  obtain ⟨rfl, N6q, K6, EY6, Fs6, e_b, Fe6, he_b⟩ := hQ6
  have N6 := Fr.app N4 N6q
  have Z6 : n0 ≤ T6.heap.size := Nat.le_trans Z5 K6.1
  have A6_ta := A5_ta.keep K6 (ninS ne_ta_ad5 nin0)
  have A6_tb := A5_tb.keep K6 (ninS ne_tb_ad5 nin0)
  have EE6_ad3 := EE5_ad3.keep K6
  have F6_ad3_slots := F5_ad3_slots.keep K6 (ninS ne_ad3_ad5 nin0)
  have F6_ad3_end := F5_ad3_end.keep K6 (ninS ne_ad3_ad5 nin0)
  rw [show ((lb.toInt.toNat : Nat) : Int) = lb.toInt by omega] at he_b
  refine g_astore C X6 at_175 #[.val (.int y0), .val (.int y1), .val (.int y2), .val (.int y3), .val (.long y4), .second, .val (.int la), .val (.int lb), .val (.int a0_), .val (.int a1_), .val (.int a2_), .val (.int b0_), .val (.int b1_), .val (.int b2_), .val (.ref ta), .val (.ref tb), .val (.ref ad3), .val (.ref ad5), .unset, .unset, .unset, .unset] rfl rfl ?_
  refine g_aload C X6 at_177 rfl rfl ?_
  refine g_aload C X6 at_179 rfl rfl ?_
  have ba := own_endb na.1 he_a
  have bb := own_endb nb.1 he_b
  refine g_callV (a := ad3) (argsL := [(.ref ad5)]) (rest := []) (W := 0) C X6 at_181 rfl EE6_ad3 (C.t 35 rfl) (C.t 37 rfl) (C.t 34 rfl) (C.t 36 rfl) (C.t 11 rfl) (C.t 38 rfl) (rm7 l Z a0 C.w [] ad3 ad5 ta tb e_a e_b la.toInt.toNat lb.toInt.toNat (fun j => ([a0_, a1_, a2_] : List Int32).getD j 0) (fun j => ([b0_, b1_, b2_] : List Int32).getD j 0) T6.heap n0 Z6 F6_ad3_end F6_ad3_slots Fe6 Fs6 A6_ta A6_tb (by omega) (by omega) (by omega)) (by decide) pd_7 rfl rfl rfl (Nat.le_of_eq rfl) (by decide) (by decide) (by decide) (by decide) rfl ?_
  intro T7 v7_ L7 X7 hQ7
  obtain ⟨⟨got, rfl, hgot⟩, N7q, hh7⟩ := hQ7
  have N7 := Fr.app N6 N7q
  refine g_istore C X7 at_184 #[.val (.int y0), .val (.int y1), .val (.int y2), .val (.int y3), .val (.long y4), .second, .val (.int la), .val (.int lb), .val (.int a0_), .val (.int a1_), .val (.int a2_), .val (.int b0_), .val (.int b1_), .val (.int b2_), .val (.ref ta), .val (.ref tb), .val (.ref ad3), .val (.ref ad5), .val (.int got), .unset, .unset, .unset] rfl rfl ?_
  refine g_iload C X7 at_186 rfl rfl ?_
  refine g_iload C X7 at_188 rfl rfl ?_
  refine g_iload C X7 at_190 rfl rfl ?_
  refine g_iload C X7 at_192 rfl rfl ?_
  refine g_callS (argsL := [(.int la), (.int a0_), (.int a1_), (.int a2_)]) (rest := []) (W := 0) C X7 at_194 hh7 (C.t 39 rfl) (C.t 40 rfl) (C.t 3 rfl) (C.t 41 rfl) (rm8 l Z a0 C.w [] la a0_ a1_ a2_ T6.heap n0 Z6) (by decide) pd_8 rfl rfl rfl (Nat.le_of_eq rfl) (by decide) (by decide) (by decide) (by decide) rfl ?_
  intro T8 v8_ L8 X8 hQ8
  obtain ⟨⟨ea, rfl, hx_ea⟩, N8q, hh8⟩ := hQ8
  have N8 := Fr.app N7 N8q
  obtain rfl : e_a = ea := (own_inj32 (own_end1 hx_ea he_a)).symm
  refine g_istore C X8 at_197 #[.val (.int y0), .val (.int y1), .val (.int y2), .val (.int y3), .val (.long y4), .second, .val (.int la), .val (.int lb), .val (.int a0_), .val (.int a1_), .val (.int a2_), .val (.int b0_), .val (.int b1_), .val (.int b2_), .val (.ref ta), .val (.ref tb), .val (.ref ad3), .val (.ref ad5), .val (.int got), .val (.int e_a), .unset, .unset] rfl rfl ?_
  refine g_iload C X8 at_199 rfl rfl ?_
  refine g_iload C X8 at_201 rfl rfl ?_
  refine g_iload C X8 at_203 rfl rfl ?_
  refine g_iload C X8 at_205 rfl rfl ?_
  refine g_callS (argsL := [(.int lb), (.int b0_), (.int b1_), (.int b2_)]) (rest := []) (W := 0) C X8 at_207 hh8 (C.t 39 rfl) (C.t 40 rfl) (C.t 3 rfl) (C.t 41 rfl) (rm8 l Z a0 C.w [] lb b0_ b1_ b2_ T6.heap n0 Z6) (by decide) pd_8 rfl rfl rfl (Nat.le_of_eq rfl) (by decide) (by decide) (by decide) (by decide) rfl ?_
  intro T9 v9_ L9 X9 hQ9
  obtain ⟨⟨eb, rfl, hx_eb⟩, N9q, hh9⟩ := hQ9
  have N9 := Fr.app N8 N9q
  obtain rfl : e_b = eb := (own_inj32 (own_end1 hx_eb he_b)).symm
  refine g_istore C X9 at_210 #[.val (.int y0), .val (.int y1), .val (.int y2), .val (.int y3), .val (.long y4), .second, .val (.int la), .val (.int lb), .val (.int a0_), .val (.int a1_), .val (.int a2_), .val (.int b0_), .val (.int b1_), .val (.int b2_), .val (.ref ta), .val (.ref tb), .val (.ref ad3), .val (.ref ad5), .val (.int got), .val (.int e_a), .val (.int e_b), .unset] rfl rfl ?_
  exact seg212 C X9 hh9 N9 Z6 (by omega) (by omega) hgot
set_option maxRecDepth 65536 in
set_option maxHeartbeats 40000000 in
theorem seg73 {p : Program} {l : Launch} {e : Env} {s : State} {m : MethodId} {args : Array Value} {below : List Frame} {meth : Method} {c : Code} {T0 : State} {locs : List Loc} {Z : State} {a0 : Array Value} {h0 : Heap} {n0 : Nat} {y0 y1 y2 y3 la lb a0_ a1_ a2_ : Int32} {y4 : Int64}
    (C : Cx Z a0 p s m meth c code maxLocals "com/example/framewright/framewright/StackMapTableWriterStartsWithPinLaw" "law" ret) (X0 : Stand p l e room_1 s m args below meth c T0 locs 0 0) (e0 : T0.heap = h0) (N0 : Fr n0 locs) (Z0 : n0 ≤ h0.size) (ha : (la = (0 : Int32) ∨ la = (1 : Int32) ∨ la = (2 : Int32) ∨ la = (3 : Int32))) (hb : (lb = (0 : Int32) ∨ lb = (1 : Int32) ∨ lb = (2 : Int32) ∨ lb = (3 : Int32))) :
    Go p e below s m (LQ n0) room_1.cells room_1.slots T0 73 #[.val (.int y0), .val (.int y1), .val (.int y2), .val (.int y3), .val (.long y4), .second, .val (.int la), .val (.int lb), .val (.int a0_), .val (.int a1_), .unset, .unset, .unset, .unset, .unset, .unset, .unset, .unset, .unset, .unset, .unset, .unset] [(.int a2_)] := by
  refine g_istore C X0 at_73 #[.val (.int y0), .val (.int y1), .val (.int y2), .val (.int y3), .val (.long y4), .second, .val (.int la), .val (.int lb), .val (.int a0_), .val (.int a1_), .val (.int a2_), .unset, .unset, .unset, .unset, .unset, .unset, .unset, .unset, .unset, .unset, .unset] rfl rfl ?_
  refine g_lload C X0 at_75 rfl rfl ?_
  refine g_bipush C X0 (7 : Int32) at_77 rfl rfl ?_
  refine g_lushr C X0 at_79 rfl ?_
  refine g_ldcL C X0 at_80 (C.t 0 rfl) rfl ?_
  refine g_land C X0 at_83 rfl ?_
  refine g_l2i C X0 at_84 rfl ?_
  refine g_iload C X0 at_85 rfl rfl ?_
  refine g_iloadN C X0 at_87 rfl rfl ?_
  refine g_callS (argsL := [(.int ((((y4.toUInt64 >>> ((7 : Int32) &&& 0x3f).toInt64.toUInt64).toInt64) &&& (3 : Int64)).toInt32)), (.int a0_), (.int y3)]) (rest := []) (W := 0) C X0 at_88 e0 (C.t 1 rfl) (C.t 2 rfl) (C.t 3 rfl) (C.t 4 rfl) (rm1 l Z a0 C.w [] ((((y4.toUInt64 >>> ((7 : Int32) &&& 0x3f).toInt64.toUInt64).toInt64) &&& (3 : Int64)).toInt32) a0_ y3 h0 n0 Z0) (by decide) pd_1 rfl rfl rfl (Nat.le_of_eq rfl) (by decide) (by decide) (by decide) (by decide) rfl ?_
  intro T1 v1_ L1 X1 hQ1
  obtain ⟨⟨b0_, rfl⟩, N1q, hh1⟩ := hQ1
  have N1 := Fr.app N0 N1q
  refine g_istore C X1 at_91 #[.val (.int y0), .val (.int y1), .val (.int y2), .val (.int y3), .val (.long y4), .second, .val (.int la), .val (.int lb), .val (.int a0_), .val (.int a1_), .val (.int a2_), .val (.int b0_), .unset, .unset, .unset, .unset, .unset, .unset, .unset, .unset, .unset, .unset] rfl rfl ?_
  refine g_lload C X1 at_93 rfl rfl ?_
  refine g_bipush C X1 (9 : Int32) at_95 rfl rfl ?_
  refine g_lushr C X1 at_97 rfl ?_
  refine g_ldcL C X1 at_98 (C.t 0 rfl) rfl ?_
  refine g_land C X1 at_101 rfl ?_
  refine g_l2i C X1 at_102 rfl ?_
  refine g_iload C X1 at_103 rfl rfl ?_
  refine g_iloadN C X1 at_105 rfl rfl ?_
  refine g_callS (argsL := [(.int ((((y4.toUInt64 >>> ((9 : Int32) &&& 0x3f).toInt64.toUInt64).toInt64) &&& (3 : Int64)).toInt32)), (.int a1_), (.int y3)]) (rest := []) (W := 0) C X1 at_106 hh1 (C.t 1 rfl) (C.t 2 rfl) (C.t 3 rfl) (C.t 4 rfl) (rm1 l Z a0 C.w [] ((((y4.toUInt64 >>> ((9 : Int32) &&& 0x3f).toInt64.toUInt64).toInt64) &&& (3 : Int64)).toInt32) a1_ y3 h0 n0 Z0) (by decide) pd_1 rfl rfl rfl (Nat.le_of_eq rfl) (by decide) (by decide) (by decide) (by decide) rfl ?_
  intro T2 v2_ L2 X2 hQ2
  obtain ⟨⟨b1_, rfl⟩, N2q, hh2⟩ := hQ2
  have N2 := Fr.app N1 N2q
  refine g_istore C X2 at_109 #[.val (.int y0), .val (.int y1), .val (.int y2), .val (.int y3), .val (.long y4), .second, .val (.int la), .val (.int lb), .val (.int a0_), .val (.int a1_), .val (.int a2_), .val (.int b0_), .val (.int b1_), .unset, .unset, .unset, .unset, .unset, .unset, .unset, .unset, .unset] rfl rfl ?_
  refine g_lload C X2 at_111 rfl rfl ?_
  refine g_bipush C X2 (11 : Int32) at_113 rfl rfl ?_
  refine g_lushr C X2 at_115 rfl ?_
  refine g_ldcL C X2 at_116 (C.t 0 rfl) rfl ?_
  refine g_land C X2 at_119 rfl ?_
  refine g_l2i C X2 at_120 rfl ?_
  refine g_iload C X2 at_121 rfl rfl ?_
  refine g_iloadN C X2 at_123 rfl rfl ?_
  refine g_callS (argsL := [(.int ((((y4.toUInt64 >>> ((11 : Int32) &&& 0x3f).toInt64.toUInt64).toInt64) &&& (3 : Int64)).toInt32)), (.int a2_), (.int y3)]) (rest := []) (W := 0) C X2 at_124 hh2 (C.t 1 rfl) (C.t 2 rfl) (C.t 3 rfl) (C.t 4 rfl) (rm1 l Z a0 C.w [] ((((y4.toUInt64 >>> ((11 : Int32) &&& 0x3f).toInt64.toUInt64).toInt64) &&& (3 : Int64)).toInt32) a2_ y3 h0 n0 Z0) (by decide) pd_1 rfl rfl rfl (Nat.le_of_eq rfl) (by decide) (by decide) (by decide) (by decide) rfl ?_
  intro T3 v3_ L3 X3 hQ3
  obtain ⟨⟨b2_, rfl⟩, N3q, hh3⟩ := hQ3
  have N3 := Fr.app N2 N3q
  refine g_istore C X3 at_127 #[.val (.int y0), .val (.int y1), .val (.int y2), .val (.int y3), .val (.long y4), .second, .val (.int la), .val (.int lb), .val (.int a0_), .val (.int a1_), .val (.int a2_), .val (.int b0_), .val (.int b1_), .val (.int b2_), .unset, .unset, .unset, .unset, .unset, .unset, .unset, .unset] rfl rfl ?_
  exact seg129 C X3 hh3 N3 Z0 ha hb
set_option maxRecDepth 65536 in
set_option maxHeartbeats 40000000 in
theorem seg54 {p : Program} {l : Launch} {e : Env} {s : State} {m : MethodId} {args : Array Value} {below : List Frame} {meth : Method} {c : Code} {T0 : State} {locs : List Loc} {Z : State} {a0 : Array Value} {h0 : Heap} {n0 : Nat} {y0 y1 y2 y3 la lb a0_ a1_ : Int32} {y4 : Int64}
    (C : Cx Z a0 p s m meth c code maxLocals "com/example/framewright/framewright/StackMapTableWriterStartsWithPinLaw" "law" ret) (X0 : Stand p l e room_1 s m args below meth c T0 locs 0 0) (e0 : T0.heap = h0) (N0 : Fr n0 locs) (Z0 : n0 ≤ h0.size) (ha : (la = (0 : Int32) ∨ la = (1 : Int32) ∨ la = (2 : Int32) ∨ la = (3 : Int32))) (hb : (lb = (0 : Int32) ∨ lb = (1 : Int32) ∨ lb = (2 : Int32) ∨ lb = (3 : Int32))) :
    Go p e below s m (LQ n0) room_1.cells room_1.slots T0 54 #[.val (.int y0), .val (.int y1), .val (.int y2), .val (.int y3), .val (.long y4), .second, .val (.int la), .val (.int lb), .val (.int a0_), .unset, .unset, .unset, .unset, .unset, .unset, .unset, .unset, .unset, .unset, .unset, .unset, .unset] [(.int a1_)] := by
  refine g_istore C X0 at_54 #[.val (.int y0), .val (.int y1), .val (.int y2), .val (.int y3), .val (.long y4), .second, .val (.int la), .val (.int lb), .val (.int a0_), .val (.int a1_), .unset, .unset, .unset, .unset, .unset, .unset, .unset, .unset, .unset, .unset, .unset, .unset] rfl rfl ?_
  refine g_lload C X0 at_56 rfl rfl ?_
  refine g_bipush C X0 (6 : Int32) at_58 rfl rfl ?_
  refine g_lushr C X0 at_60 rfl ?_
  refine g_lconst C X0 (1 : Int64) at_61 rfl rfl ?_
  refine g_land C X0 at_62 rfl ?_
  refine g_lconst C X0 (0 : Int64) at_63 rfl rfl ?_
  refine g_lcmpif C X0 at_64 rfl at_65 (by decide) rfl rfl ?_ ?_
  · intro h65
    have h65 : (((y4.toUInt64 >>> ((6 : Int32) &&& 0x3f).toInt64.toUInt64).toInt64) &&& (1 : Int64)).toInt = 0 := h65
    refine g_iloadN C X0 at_72 rfl rfl ?_
    exact seg73 C X0 e0 N0 Z0 ha hb
  · intro h65
    have h65 : ¬ (((y4.toUInt64 >>> ((6 : Int32) &&& 0x3f).toInt64.toUInt64).toInt64) &&& (1 : Int64)).toInt = 0 := h65
    refine g_iconst C X0 (0 : Int32) at_68 rfl rfl ?_
    refine g_goto C X0 at_69 (by decide) rfl ?_
    exact seg73 C X0 e0 N0 Z0 ha hb
set_option maxRecDepth 65536 in
set_option maxHeartbeats 40000000 in
theorem seg36 {p : Program} {l : Launch} {e : Env} {s : State} {m : MethodId} {args : Array Value} {below : List Frame} {meth : Method} {c : Code} {T0 : State} {locs : List Loc} {Z : State} {a0 : Array Value} {h0 : Heap} {n0 : Nat} {y0 y1 y2 y3 la lb a0_ : Int32} {y4 : Int64}
    (C : Cx Z a0 p s m meth c code maxLocals "com/example/framewright/framewright/StackMapTableWriterStartsWithPinLaw" "law" ret) (X0 : Stand p l e room_1 s m args below meth c T0 locs 0 0) (e0 : T0.heap = h0) (N0 : Fr n0 locs) (Z0 : n0 ≤ h0.size) (ha : (la = (0 : Int32) ∨ la = (1 : Int32) ∨ la = (2 : Int32) ∨ la = (3 : Int32))) (hb : (lb = (0 : Int32) ∨ lb = (1 : Int32) ∨ lb = (2 : Int32) ∨ lb = (3 : Int32))) :
    Go p e below s m (LQ n0) room_1.cells room_1.slots T0 36 #[.val (.int y0), .val (.int y1), .val (.int y2), .val (.int y3), .val (.long y4), .second, .val (.int la), .val (.int lb), .unset, .unset, .unset, .unset, .unset, .unset, .unset, .unset, .unset, .unset, .unset, .unset, .unset, .unset] [(.int a0_)] := by
  refine g_istore C X0 at_36 #[.val (.int y0), .val (.int y1), .val (.int y2), .val (.int y3), .val (.long y4), .second, .val (.int la), .val (.int lb), .val (.int a0_), .unset, .unset, .unset, .unset, .unset, .unset, .unset, .unset, .unset, .unset, .unset, .unset, .unset] rfl rfl ?_
  refine g_lload C X0 at_38 rfl rfl ?_
  refine g_iconst C X0 (5 : Int32) at_40 rfl rfl ?_
  refine g_lushr C X0 at_41 rfl ?_
  refine g_lconst C X0 (1 : Int64) at_42 rfl rfl ?_
  refine g_land C X0 at_43 rfl ?_
  refine g_lconst C X0 (0 : Int64) at_44 rfl rfl ?_
  refine g_lcmpif C X0 at_45 rfl at_46 (by decide) rfl rfl ?_ ?_
  · intro h46
    have h46 : (((y4.toUInt64 >>> ((5 : Int32) &&& 0x3f).toInt64.toUInt64).toInt64) &&& (1 : Int64)).toInt = 0 := h46
    refine g_iloadN C X0 at_53 rfl rfl ?_
    exact seg54 C X0 e0 N0 Z0 ha hb
  · intro h46
    have h46 : ¬ (((y4.toUInt64 >>> ((5 : Int32) &&& 0x3f).toInt64.toUInt64).toInt64) &&& (1 : Int64)).toInt = 0 := h46
    refine g_iconst C X0 (0 : Int32) at_49 rfl rfl ?_
    refine g_goto C X0 at_50 (by decide) rfl ?_
    exact seg54 C X0 e0 N0 Z0 ha hb
set_option maxRecDepth 65536 in
set_option maxHeartbeats 40000000 in
theorem rm0 (l : Launch) (Z : State) (a0 : Array Value) (hw : ∀ d ∈ tables_1, d.before a0 Z = true) (ws : List Jvm.Cond) (y0 : Int32) (y1 : Int32) (y2 : Int32) (y3 : Int32) (y4 : Int64) (h0 : Heap) (n0 : Nat) (Z0 : n0 ≤ h0.size) :
    MetFree l x (head1 (Jvm.Cond.code x code maxLocals ret :: ws) room_1) (fun aa U => aa = #[(.int y0), (.int y1), (.int y2), (.int y3), (.long y4)] ∧ Z.Warmed39 U.vm ∧ U.heap = h0) (fun _ _ _ _ _ => True) (fun _ U oo U' => ∃ rv Lr, oo = .returned rv ∧ LQ n0 rv U'.heap Lr ∧ FrameEnd U oo U' Lr room_1.cells room_1.slots) := by
  refine g_enter pn_0 hw (ef_0 y0 y1 y2 y3 y4) ?_
  intro p e s m below meth c T0 C X0 e0
  have C : Cx Z a0 p s m meth c code maxLocals "com/example/framewright/framewright/StackMapTableWriterStartsWithPinLaw" "law" ret := C
  have N0 := Fr.nil n0
  refine g_lload C X0 at_0 rfl rfl ?_
  refine g_ldcL C X0 at_2 (C.t 0 rfl) rfl ?_
  refine g_land C X0 at_5 rfl ?_
  refine g_l2i C X0 at_6 rfl ?_
  refine g_istoreV C X0 at_7 (fun v__ => #[.val (.int y0), .val (.int y1), .val (.int y2), .val (.int y3), .val (.long y4), .second, .val (.int v__), .unset, .unset, .unset, .unset, .unset, .unset, .unset, .unset, .unset, .unset, .unset, .unset, .unset, .unset, .unset]) rfl rfl ?_
  intro la h_la
  have m7 := c_maskL y4 (3 : Int64) 2 (by decide) (by decide)
  have t7 := c_l2i (y4 &&& (3 : Int64))
  rw [← h_la] at t7
  have s7 := rng32 la
  have e7 : la.toInt = y4.toInt % 4 := by omega
  have ha : (la = (0 : Int32) ∨ la = (1 : Int32) ∨ la = (2 : Int32) ∨ la = (3 : Int32)) := by
    have q : la.toInt = 0 ∨ la.toInt = 1 ∨ la.toInt = 2 ∨ la.toInt = 3 := by omega
    rcases q with q | q | q | q
    · exact Or.inl (own_inj32 q)
    · exact Or.inr (Or.inl (own_inj32 q))
    · exact Or.inr (Or.inr (Or.inl (own_inj32 q)))
    · exact Or.inr (Or.inr (Or.inr (own_inj32 q)))
  refine g_lload C X0 at_9 rfl rfl ?_
  refine g_iconst C X0 (2 : Int32) at_11 rfl rfl ?_
  refine g_lushr C X0 at_12 rfl ?_
  refine g_ldcL C X0 at_13 (C.t 0 rfl) rfl ?_
  refine g_land C X0 at_16 rfl ?_
  refine g_l2i C X0 at_17 rfl ?_
  refine g_istoreV C X0 at_18 (fun v__ => #[.val (.int y0), .val (.int y1), .val (.int y2), .val (.int y3), .val (.long y4), .second, .val (.int la), .val (.int v__), .unset, .unset, .unset, .unset, .unset, .unset, .unset, .unset, .unset, .unset, .unset, .unset, .unset, .unset]) rfl rfl ?_
  intro lb h_lb
  have m18 := c_maskL ((y4.toUInt64 >>> ((2 : Int32) &&& 0x3f).toInt64.toUInt64).toInt64) (3 : Int64) 2 (by decide) (by decide)
  have t18 := c_l2i (((y4.toUInt64 >>> ((2 : Int32) &&& 0x3f).toInt64.toUInt64).toInt64) &&& (3 : Int64))
  rw [← h_lb] at t18
  have s18 := rng32 lb
  have e18 : lb.toInt = ((y4.toUInt64 >>> ((2 : Int32) &&& 0x3f).toInt64.toUInt64).toInt64).toInt % 4 := by omega
  have hb : (lb = (0 : Int32) ∨ lb = (1 : Int32) ∨ lb = (2 : Int32) ∨ lb = (3 : Int32)) := by
    have q : lb.toInt = 0 ∨ lb.toInt = 1 ∨ lb.toInt = 2 ∨ lb.toInt = 3 := by omega
    rcases q with q | q | q | q
    · exact Or.inl (own_inj32 q)
    · exact Or.inr (Or.inl (own_inj32 q))
    · exact Or.inr (Or.inr (Or.inl (own_inj32 q)))
    · exact Or.inr (Or.inr (Or.inr (own_inj32 q)))
  refine g_lload C X0 at_20 rfl rfl ?_
  refine g_iconst C X0 (4 : Int32) at_22 rfl rfl ?_
  refine g_lushr C X0 at_23 rfl ?_
  refine g_lconst C X0 (1 : Int64) at_24 rfl rfl ?_
  refine g_land C X0 at_25 rfl ?_
  refine g_lconst C X0 (0 : Int64) at_26 rfl rfl ?_
  refine g_lcmpif C X0 at_27 rfl at_28 (by decide) rfl rfl ?_ ?_
  · intro h28
    have h28 : (((y4.toUInt64 >>> ((4 : Int32) &&& 0x3f).toInt64.toUInt64).toInt64) &&& (1 : Int64)).toInt = 0 := h28
    refine g_iloadN C X0 at_35 rfl rfl ?_
    exact seg36 C X0 e0 N0 Z0 ha hb
  · intro h28
    have h28 : ¬ (((y4.toUInt64 >>> ((4 : Int32) &&& 0x3f).toInt64.toUInt64).toInt64) &&& (1 : Int64)).toInt = 0 := h28
    refine g_iconst C X0 (0 : Int32) at_31 rfl rfl ?_
    refine g_goto C X0 at_32 (by decide) rfl ?_
    exact seg36 C X0 e0 N0 Z0 ha hb
set_option maxRecDepth 65536 in
set_option maxHeartbeats 40000000 in
theorem comes_1 {Post : Tables → Env → Array Value → State → Outcome → State → Prop} (hpost : ∀ tb e args s v u, (limb_1_1.after args s (.returned v) u = true ∧ limb_1_2.after args s (.returned v) u = true ∧ True) → FrameEnd s (.returned v) u (Jvm.fieldLocs frame_1_writes args s ++ Jvm.arrayLocs frame_1_arrays args s ++ Jvm.staticLocs frame_1_statics s) 16 128 → Post tb e args s (.returned v) u) :
    ArmFor flags0 classFile x code maxLocals ret World_1 tables_1 room_1 Calls_1 rest_1 Pre_1 Post := by
  intro l hfl _ _ p e ha hc hk s m args below hf hA hF happ hP
  obtain ⟨hcalls, hrest, hpre⟩ := hP
  obtain ⟨-, -, -, hnamed, -, -, -, hat⟩ := (Spec.applies_iff hf).mp happ
  obtain ⟨hg, hn⟩ := and_e (Cond.before_iff.mp (show (Jvm.Cond.and given_1 narrow_1).before args s = true from hpre))
  obtain ⟨q0, g0⟩ := and_e hg
  obtain ⟨q1, g1⟩ := and_e g0
  obtain ⟨q2, g2⟩ := and_e g1
  obtain ⟨q3, g3⟩ := and_e g2
  obtain ⟨q4, g4⟩ := and_e g3
  have q5 := g4
  obtain ⟨w0, w1, w2, w3, w4, rfl⟩ : ∃ w0 w1 w2 w3 w4 : Value, args = #[w0, w1, w2, w3, w4] := by
    have hs : args.size = 5 := by simpa [Cond.value, given_1] using q0
    obtain ⟨L⟩ := args
    match L, hs with
    | [w0, w1, w2, w3, w4], _ => exact ⟨w0, w1, w2, w3, w4, rfl⟩
  have hw := fun d (hd : d ∈ tables_1) => atoms_spec (ws := Jvm.Cond.code x code maxLocals ret :: tables_1) hat d (List.mem_cons_of_mem _ hd)
  obtain ⟨i0, ei0⟩ := is_v q1
  obtain rfl : w0 = (.int i0) := Option.some.inj ei0
  obtain ⟨i1, ei1⟩ := is_v q2
  obtain rfl : w1 = (.int i1) := Option.some.inj ei1
  obtain ⟨i2, ei2⟩ := is_v q3
  obtain rfl : w2 = (.int i2) := Option.some.inj ei2
  obtain ⟨i3, ei3⟩ := is_v q4
  obtain rfl : w3 = (.int i3) := Option.some.inj ei3
  obtain ⟨i4, ei4⟩ := isL_v q5
  obtain rfl : w4 = (.long i4) := Option.some.inj ei4
  obtain ⟨n, o, h1, h2, h3, _, L, rfl, ⟨rfl, N⟩, hq⟩ := rm0 l s _ hw tables_1 i0 i1 i2 i3 i4 s.heap s.heap.size (Nat.le_refl _) p e ha hc hk s m _ below hf ((Spec.applies_iff_loose hf).mp happ).1 ⟨rfl, State.Warmed39.refl s, rfl⟩ trivial
  refine ⟨n, _, h1, h2, h3, hpost _ _ _ _ _ _ ⟨Cond.after_iff.mpr rfl, Cond.after_iff.mpr (eq_i res_at (Term.int_eval (1)) rfl), trivial⟩ ⟨hq.1, hq.2.1, (hq.2.2.sift fun y hy => Or.inr (N y hy)).mono (by decide) (by decide)⟩⟩
theorem main_1_1 : Claimed_1_1 := comes_1 fun _ _ _ _ _ _ h hF => ⟨h.1, hF⟩
theorem main_1_2 : Claimed_1_2 := comes_1 fun _ _ _ _ _ _ h hF => ⟨h.2.1, hF⟩
end Jvm.Pilot.@@N@@
namespace Jvm.Pilot.@@N@@
open Jvm Jvm.ClassFile Sem Op Lib Jvm.Free Jvm.Stand Jvm.Pilot.@@N@@.Jvm.D
/-! MADE BY PROGRAM (witnessworld.py) out of the Statement's table words and the real class files: 11 classes; the members and pool entries that the words name. The judged class is class 1, her method 1. -/
namespace start1
open Jvm.ClassFile
def u (s : String) : CpInfo := .utf8 (stringToUtf16 s)
/-- a pool by its gaps: so many unusable entries, then the entry; so many at the end -/
def gap : Nat → List CpInfo → List CpInfo
  | 0, r => r
  | n + 1, r => .unusable :: gap n r
def poolList (es : List (Nat × CpInfo)) (last : Nat) : List CpInfo := es.foldr (fun e r => gap e.1 (e.2 :: r)) (gap last [])
def pool (es : List (Nat × CpInfo)) (last : Nat) : Array CpInfo := ⟨poolList es last⟩
def fileOf (pool : Array CpInfo) (this : Nat) (attrs : Array Attribute := #[]) (ms : Array MethodInfo := #[]) (fl : Nat := 33) (sup : Nat := 0) (ifs : Array Nat := #[]) (fds : Array FieldInfo := #[]) : ClassFile where
  minorVersion := 0
  majorVersion := 65
  constantPool := pool
  accessFlags := fl
  thisClass := this
  superClass := sup
  interfaces := ifs
  fields := fds
  methods := ms
  attributes := attrs
def plain (name : String) (sup : Option ClassId) : Class where
  name := name
  kind := .ordinary
  loader := none
  accessFlags := 33
  super := sup
  interfaces := #[]
  cf := none
  fields := #[]
  methods := #[]
  instanceTypes := #[]
  staticTypes := #[]
  resolved := #[]
  callSites := []
  init := .initialized
  statics := none
  mirror := none

def pool0 : Array CpInfo := pool [(5, u "<init>"), (0, u "()V"), (1, .class_ 10), (1, u "java/lang/Object")] 113

def k0c0 : Code := { maxStack := 0, maxLocals := 1, code := object_method_1_code, exceptionTable := #[], attributes := #[] }
def k0m0 : Method := { name := "<init>", desc := "()V", sig := { parameters := [], returnType := none }, accessFlags := 1, code := some k0c0 }
/-- java/lang/Object -/
def k0 : Class := { plain "java/lang/Object" none with
  accessFlags := 33
  interfaces := #[]
  cf := some (fileOf pool0 8 #[] #[{ accessFlags := 1, nameIndex := 5, descriptorIndex := 6, attributes := #[] }] 33 0 #[] #[])
  fields := #[]
  methods := #[k0m0]
  instanceTypes := #[]
  staticTypes := #[]
  resolved := Array.replicate 124 none
  statics := none }

def pool1 : Array CpInfo := pool [(2, .class_ 4), (1, u "java/lang/Object"), (0, u "<init>"), (0, u "()V"), (0, .long 3), (1, .methodref 10 11), (0, .class_ 12), (0, .nameAndType 13 14), (0, u "com/example/framewright/framewright/StackMapTableWriterStartsWithPinLaw"), (0, u "pick"), (0, u "(III)I"), (0, .methodref 10 16), (0, .nameAndType 17 18), (0, u "make"), (0, u "(IIII)[I"), (0, .class_ 20), (0, u "com/example/framewright/framewright/StackMapTableWriter$Locals"), (0, .methodref 19 22), (0, .nameAndType 5 23), (0, u "([I)V"), (0, .methodref 19 25), (0, .nameAndType 26 27), (0, u "startsWith"), (0, u "(Lcom/example/framewright/framewright/StackMapTableWriter$Locals;)Z"), (0, .methodref 10 29), (0, .nameAndType 30 31), (0, u "end"), (0, u "(IIII)I"), (2, u "law"), (0, u "(IIIIJ)Z")] 9

def k1m0 : Method := { name := "<init>", desc := "()V", sig := { parameters := [], returnType := none }, accessFlags := 1, code := none }
def k1c1 : Code := { maxStack := 4, maxLocals := 22, code := code, exceptionTable := #[], attributes := #[] }
def k1m1 : Method := { name := "law", desc := "(IIIIJ)Z", sig := { parameters := [.int, .int, .int, .int, .long], returnType := some .boolean }, accessFlags := 9, code := some k1c1 }
def k1c2 : Code := { maxStack := 2, maxLocals := 3, code := method_3_code, exceptionTable := #[], attributes := #[] }
def k1m2 : Method := { name := "pick", desc := "(III)I", sig := { parameters := [.int, .int, .int], returnType := some .int }, accessFlags := 10, code := some k1c2 }
def k1c3 : Code := { maxStack := 4, maxLocals := 4, code := method_4_code, exceptionTable := #[], attributes := #[] }
def k1m3 : Method := { name := "make", desc := "(IIII)[I", sig := { parameters := [.int, .int, .int, .int], returnType := some (.array .int) }, accessFlags := 10, code := some k1c3 }
def k1c4 : Code := { maxStack := 2, maxLocals := 4, code := method_5_code, exceptionTable := #[], attributes := #[] }
def k1m4 : Method := { name := "end", desc := "(IIII)I", sig := { parameters := [.int, .int, .int, .int], returnType := some .int }, accessFlags := 10, code := some k1c4 }
/-- com/example/framewright/framewright/StackMapTableWriterStartsWithPinLaw -/
def k1 : Class := { plain "com/example/framewright/framewright/StackMapTableWriterStartsWithPinLaw" (some 0) with
  accessFlags := 49
  interfaces := #[]
  cf := some (fileOf pool1 10 #[] #[{ accessFlags := 1, nameIndex := 5, descriptorIndex := 6, attributes := #[] }, { accessFlags := 9, nameIndex := 34, descriptorIndex := 35, attributes := #[] }, { accessFlags := 10, nameIndex := 13, descriptorIndex := 14, attributes := #[] }, { accessFlags := 10, nameIndex := 17, descriptorIndex := 18, attributes := #[] }, { accessFlags := 10, nameIndex := 30, descriptorIndex := 31, attributes := #[] }] 49 2 #[] #[])
  fields := #[]
  methods := #[k1m0, k1m1, k1m2, k1m3, k1m4]
  instanceTypes := #[]
  staticTypes := #[]
  resolved := Array.replicate 45 none
  statics := none }

def pool2 : Array CpInfo := pool [(1, .methodref 2 3), (0, .class_ 4), (0, .nameAndType 5 6), (0, u "java/lang/Object"), (0, u "<init>"), (0, u "()V"), (0, .fieldref 8 9), (0, .class_ 10), (0, .nameAndType 11 12), (0, u "com/example/framewright/framewright/StackMapTableWriter$Locals"), (0, u "size"), (0, u "I"), (0, .fieldref 8 14), (0, .nameAndType 15 16), (0, u "slots"), (0, u "[I"), (0, .fieldref 8 18), (0, .nameAndType 19 12), (0, u "end"), (0, .methodref 21 22), (0, .class_ 23), (0, .nameAndType 24 25), (0, u "com/example/framewright/framewright/StackMapTableWriter"), (0, u "entryCount"), (0, u "([II)I"), (0, .fieldref 8 27), (0, .nameAndType 28 12), (0, u "entries"), (4, u "([I)V"), (5, u "startsWith"), (0, u "(Lcom/example/framewright/framewright/StackMapTableWriter$Locals;)Z")] 5

def k2c0 : Code := { maxStack := 3, maxLocals := 3, code := prog_23_method_1_code, exceptionTable := #[], attributes := #[] }
def k2m0 : Method := { name := "<init>", desc := "([I)V", sig := { parameters := [(.array .int)], returnType := none }, accessFlags := 0, code := some k2c0 }
def k2c1 : Code := { maxStack := 3, maxLocals := 3, code := prog_23_method_3_code, exceptionTable := #[], attributes := #[] }
def k2m1 : Method := { name := "startsWith", desc := "(Lcom/example/framewright/framewright/StackMapTableWriter$Locals;)Z", sig := { parameters := [(.object "com/example/framewright/framewright/StackMapTableWriter$Locals")], returnType := some .boolean }, accessFlags := 0, code := some k2c1 }
/-- com/example/framewright/framewright/StackMapTableWriter$Locals -/
def k2 : Class := { plain "com/example/framewright/framewright/StackMapTableWriter$Locals" (some 0) with
  accessFlags := 48
  interfaces := #[]
  cf := some (fileOf pool2 8 #[.nestHost 21] #[{ accessFlags := 0, nameIndex := 5, descriptorIndex := 33, attributes := #[] }, { accessFlags := 0, nameIndex := 39, descriptorIndex := 40, attributes := #[] }] 48 2 #[] #[{ accessFlags := 16, nameIndex := 15, descriptorIndex := 16, attributes := #[] }, { accessFlags := 16, nameIndex := 19, descriptorIndex := 12, attributes := #[] }, { accessFlags := 16, nameIndex := 28, descriptorIndex := 12, attributes := #[] }, { accessFlags := 2, nameIndex := 11, descriptorIndex := 12, attributes := #[] }])
  fields := #[{ name := "slots", type := (.array .int), accessFlags := 16, slot := 0, constantValue := 0 }, { name := "end", type := .int, accessFlags := 16, slot := 1, constantValue := 0 }, { name := "entries", type := .int, accessFlags := 16, slot := 2, constantValue := 0 }, { name := "size", type := .int, accessFlags := 2, slot := 3, constantValue := 0 }]
  methods := #[k2m0, k2m1]
  instanceTypes := #[(.array .int), .int, .int, .int]
  staticTypes := #[]
  resolved := Array.replicate 46 none
  statics := none }

def pool3 : Array CpInfo := pool [(2, .class_ 4), (1, u "java/lang/Object"), (0, u "<init>"), (0, u "()V"), (6, .class_ 15), (1, u "com/example/framewright/framewright/StackMapTableWriter"), (0, u "out"), (0, u "Lcom/example/framewright/framewright/ByteVector;"), (2, u "classPositions"), (0, u "[I"), (2, u "classTypes"), (6, .class_ 32), (0, u "com/example/framewright/framewright/StackMapTableWriter$Stack"), (12, .class_ 46), (0, u "com/example/framewright/framewright/StackMapTableWriter$Locals"), (22, u "classCount"), (0, u "I"), (45, .class_ 117), (0, u "com/example/framewright/framewright/Types"), (40, .methodref 116 159), (0, .nameAndType 160 161), (0, u "isTwoSlots"), (0, u "(I)Z"), (11, u "SAME_LOCALS_1_STACK_ITEM"), (2, u "SHORT_DELTA_LIMIT"), (0, u "SAME_LOCALS_1_STACK_ITEM_EXTENDED"), (1, u "SAME_FRAME_EXTENDED"), (1, u "FULL_FRAME"), (1, u "MAX_CHOP_OR_APPEND"), (17, u "entryCount"), (0, u "([II)I")] 7

def k3m0 : Method := { name := "<init>", desc := "()V", sig := { parameters := [], returnType := none }, accessFlags := 2, code := none }
def k3c1 : Code := { maxStack := 3, maxLocals := 4, code := prog_22_method_11_code, exceptionTable := #[], attributes := #[] }
def k3m1 : Method := { name := "entryCount", desc := "([II)I", sig := { parameters := [(.array .int), .int], returnType := some .int }, accessFlags := 10, code := some k3c1 }
/-- com/example/framewright/framewright/StackMapTableWriter -/
def k3 : Class := { plain "com/example/framewright/framewright/StackMapTableWriter" (some 0) with
  accessFlags := 48
  interfaces := #[]
  cf := some (fileOf pool3 13 #[.nestMembers #[31, 45]] #[{ accessFlags := 2, nameIndex := 5, descriptorIndex := 6, attributes := #[] }, { accessFlags := 10, nameIndex := 201, descriptorIndex := 202, attributes := #[] }] 48 2 #[] #[{ accessFlags := 24, nameIndex := 173, descriptorIndex := 70, attributes := #[] }, { accessFlags := 24, nameIndex := 176, descriptorIndex := 70, attributes := #[] }, { accessFlags := 24, nameIndex := 177, descriptorIndex := 70, attributes := #[] }, { accessFlags := 24, nameIndex := 179, descriptorIndex := 70, attributes := #[] }, { accessFlags := 24, nameIndex := 181, descriptorIndex := 70, attributes := #[] }, { accessFlags := 26, nameIndex := 183, descriptorIndex := 70, attributes := #[] }, { accessFlags := 18, nameIndex := 16, descriptorIndex := 17, attributes := #[] }, { accessFlags := 2, nameIndex := 20, descriptorIndex := 21, attributes := #[] }, { accessFlags := 2, nameIndex := 24, descriptorIndex := 21, attributes := #[] }, { accessFlags := 2, nameIndex := 69, descriptorIndex := 70, attributes := #[] }])
  fields := #[{ name := "SAME_LOCALS_1_STACK_ITEM", type := .int, accessFlags := 24, slot := 0, constantValue := 0 }, { name := "SHORT_DELTA_LIMIT", type := .int, accessFlags := 24, slot := 1, constantValue := 0 }, { name := "SAME_LOCALS_1_STACK_ITEM_EXTENDED", type := .int, accessFlags := 24, slot := 2, constantValue := 0 }, { name := "SAME_FRAME_EXTENDED", type := .int, accessFlags := 24, slot := 3, constantValue := 0 }, { name := "FULL_FRAME", type := .int, accessFlags := 24, slot := 4, constantValue := 0 }, { name := "MAX_CHOP_OR_APPEND", type := .int, accessFlags := 26, slot := 5, constantValue := 0 }, { name := "out", type := (.object "com/example/framewright/framewright/ByteVector"), accessFlags := 18, slot := 0, constantValue := 0 }, { name := "classPositions", type := (.array .int), accessFlags := 2, slot := 1, constantValue := 0 }, { name := "classTypes", type := (.array .int), accessFlags := 2, slot := 2, constantValue := 0 }, { name := "classCount", type := .int, accessFlags := 2, slot := 3, constantValue := 0 }]
  methods := #[k3m0, k3m1]
  instanceTypes := #[(.object "com/example/framewright/framewright/ByteVector"), (.array .int), (.array .int), .int]
  staticTypes := #[.int, .int, .int, .int, .int, .int]
  resolved := Array.replicate 210 none
  statics := none }

def pool4 : Array CpInfo := pool [(1, .class_ 2), (0, u "com/example/framewright/framewright/Types"), (1, .class_ 6), (1, u "java/lang/Object"), (6, u "names"), (0, u "[Ljava/lang/String;"), (4, u "spellings"), (0, u "[[B"), (2, u "spellingStarts"), (0, u "[I"), (2, u "spellingEnds"), (2, u "hashes"), (2, u "table"), (5, u "merges"), (0, u "Ljava/util/Map;"), (2, u "argumentScratch"), (2, u "hierarchy"), (0, u "Lcom/example/framewright/framewright/ClassHierarchy;"), (66, u "count"), (0, u "I"), (42, u "isTwoSlots"), (0, u "(I)Z"), (2, u "NO_TYPES"), (3, .class_ 167), (0, u "com/example/framewright/framewright/Types$MethodDescriptor"), (118, u "TAG_NAMES"), (19, u "TOP"), (2, u "INTEGER"), (1, u "FLOAT"), (1, u "DOUBLE"), (1, u "LONG"), (1, u "NULL"), (1, u "UNINITIALIZED_THIS"), (1, u "VOID"), (1, u "UNRESOLVED"), (1, u "OBJECT_TAG"), (1, u "UNINITIALIZED_TAG"), (1, u "TAG_BITS"), (0, u "TAG_MASK"), (1, u "CLONEABLE"), (0, u "Ljava/lang/String;"), (0, u "SERIALIZABLE"), (0, u "CHAIN_UNREAD")] 61

def k4c0 : Code := { maxStack := 2, maxLocals := 1, code := prog_32_method_5_code, exceptionTable := #[], attributes := #[] }
def k4m0 : Method := { name := "isTwoSlots", desc := "(I)Z", sig := { parameters := [.int], returnType := some .boolean }, accessFlags := 8, code := some k4c0 }
/-- com/example/framewright/framewright/Types -/
def k4 : Class := { plain "com/example/framewright/framewright/Types" (some 0) with
  accessFlags := 48
  interfaces := #[]
  cf := some (fileOf pool4 1 #[.nestMembers #[166]] #[{ accessFlags := 8, nameIndex := 158, descriptorIndex := 159, attributes := #[] }] 48 4 #[] #[{ accessFlags := 24, nameIndex := 306, descriptorIndex := 115, attributes := #[] }, { accessFlags := 24, nameIndex := 309, descriptorIndex := 115, attributes := #[] }, { accessFlags := 24, nameIndex := 311, descriptorIndex := 115, attributes := #[] }, { accessFlags := 24, nameIndex := 313, descriptorIndex := 115, attributes := #[] }, { accessFlags := 24, nameIndex := 315, descriptorIndex := 115, attributes := #[] }, { accessFlags := 24, nameIndex := 317, descriptorIndex := 115, attributes := #[] }, { accessFlags := 24, nameIndex := 319, descriptorIndex := 115, attributes := #[] }, { accessFlags := 24, nameIndex := 321, descriptorIndex := 115, attributes := #[] }, { accessFlags := 24, nameIndex := 323, descriptorIndex := 115, attributes := #[] }, { accessFlags := 24, nameIndex := 325, descriptorIndex := 115, attributes := #[] }, { accessFlags := 24, nameIndex := 327, descriptorIndex := 115, attributes := #[] }, { accessFlags := 26, nameIndex := 329, descriptorIndex := 115, attributes := #[] }, { accessFlags := 26, nameIndex := 330, descriptorIndex := 115, attributes := #[] }, { accessFlags := 26, nameIndex := 162, descriptorIndex := 24, attributes := #[] }, { accessFlags := 26, nameIndex := 286, descriptorIndex := 14, attributes := #[] }, { accessFlags := 26, nameIndex := 332, descriptorIndex := 333, attributes := #[] }, { accessFlags := 26, nameIndex := 334, descriptorIndex := 333, attributes := #[] }, { accessFlags := 26, nameIndex := 335, descriptorIndex := 333, attributes := #[] }, { accessFlags := 18, nameIndex := 46, descriptorIndex := 47, attributes := #[] }, { accessFlags := 2, nameIndex := 13, descriptorIndex := 14, attributes := #[] }, { accessFlags := 2, nameIndex := 19, descriptorIndex := 20, attributes := #[] }, { accessFlags := 2, nameIndex := 23, descriptorIndex := 24, attributes := #[] }, { accessFlags := 2, nameIndex := 27, descriptorIndex := 24, attributes := #[] }, { accessFlags := 2, nameIndex := 30, descriptorIndex := 24, attributes := #[] }, { accessFlags := 2, nameIndex := 114, descriptorIndex := 115, attributes := #[] }, { accessFlags := 2, nameIndex := 33, descriptorIndex := 24, attributes := #[] }, { accessFlags := 18, nameIndex := 39, descriptorIndex := 40, attributes := #[] }, { accessFlags := 2, nameIndex := 43, descriptorIndex := 24, attributes := #[] }])
  fields := #[{ name := "TOP", type := .int, accessFlags := 24, slot := 0, constantValue := 0 }, { name := "INTEGER", type := .int, accessFlags := 24, slot := 1, constantValue := 0 }, { name := "FLOAT", type := .int, accessFlags := 24, slot := 2, constantValue := 0 }, { name := "DOUBLE", type := .int, accessFlags := 24, slot := 3, constantValue := 0 }, { name := "LONG", type := .int, accessFlags := 24, slot := 4, constantValue := 0 }, { name := "NULL", type := .int, accessFlags := 24, slot := 5, constantValue := 0 }, { name := "UNINITIALIZED_THIS", type := .int, accessFlags := 24, slot := 6, constantValue := 0 }, { name := "VOID", type := .int, accessFlags := 24, slot := 7, constantValue := 0 }, { name := "UNRESOLVED", type := .int, accessFlags := 24, slot := 8, constantValue := 0 }, { name := "OBJECT_TAG", type := .int, accessFlags := 24, slot := 9, constantValue := 0 }, { name := "UNINITIALIZED_TAG", type := .int, accessFlags := 24, slot := 10, constantValue := 0 }, { name := "TAG_BITS", type := .int, accessFlags := 26, slot := 11, constantValue := 0 }, { name := "TAG_MASK", type := .int, accessFlags := 26, slot := 12, constantValue := 0 }, { name := "NO_TYPES", type := (.array .int), accessFlags := 26, slot := 13, constantValue := 0 }, { name := "TAG_NAMES", type := (.array (.object "java/lang/String")), accessFlags := 26, slot := 14, constantValue := 0 }, { name := "CLONEABLE", type := (.object "java/lang/String"), accessFlags := 26, slot := 15, constantValue := 0 }, { name := "SERIALIZABLE", type := (.object "java/lang/String"), accessFlags := 26, slot := 16, constantValue := 0 }, { name := "CHAIN_UNREAD", type := (.object "java/lang/String"), accessFlags := 26, slot := 17, constantValue := 0 }, { name := "hierarchy", type := (.object "com/example/framewright/framewright/ClassHierarchy"), accessFlags := 18, slot := 0, constantValue := 0 }, { name := "names", type := (.array (.object "java/lang/String")), accessFlags := 2, slot := 1, constantValue := 0 }, { name := "spellings", type := (.array (.array .byte)), accessFlags := 2, slot := 2, constantValue := 0 }, { name := "spellingStarts", type := (.array .int), accessFlags := 2, slot := 3, constantValue := 0 }, { name := "spellingEnds", type := (.array .int), accessFlags := 2, slot := 4, constantValue := 0 }, { name := "hashes", type := (.array .int), accessFlags := 2, slot := 5, constantValue := 0 }, { name := "count", type := .int, accessFlags := 2, slot := 6, constantValue := 0 }, { name := "table", type := (.array .int), accessFlags := 2, slot := 7, constantValue := 0 }, { name := "merges", type := (.object "java/util/Map"), accessFlags := 18, slot := 8, constantValue := 0 }, { name := "argumentScratch", type := (.array .int), accessFlags := 2, slot := 9, constantValue := 0 }]
  methods := #[k4m0]
  instanceTypes := #[(.object "com/example/framewright/framewright/ClassHierarchy"), (.array (.object "java/lang/String")), (.array (.array .byte)), (.array .int), (.array .int), (.array .int), .int, (.array .int), (.object "java/util/Map"), (.array .int)]
  staticTypes := #[.int, .int, .int, .int, .int, .int, .int, .int, .int, .int, .int, .int, .int, (.array .int), (.array (.object "java/lang/String")), (.object "java/lang/String"), (.object "java/lang/String"), (.object "java/lang/String")]
  resolved := Array.replicate 397 none
  statics := none }

def pool5 : Array CpInfo := pool [(1, u "java/lang/Cloneable"), (0, .class_ 1), (0, u "java/lang/Object"), (0, .class_ 3)] 3

/-- java/lang/Cloneable -/
def k5 : Class := { plain "java/lang/Cloneable" (some 0) with
  accessFlags := 1537
  interfaces := #[]
  cf := some (fileOf pool5 2 #[] #[] 1537 4 #[] #[])
  fields := #[]
  methods := #[]
  instanceTypes := #[]
  staticTypes := #[]
  resolved := Array.replicate 8 none
  statics := none }

def pool6 : Array CpInfo := pool [(1, u "java/io/Serializable"), (0, .class_ 1), (0, u "java/lang/Object"), (0, .class_ 3)] 3

/-- java/io/Serializable -/
def k6 : Class := { plain "java/io/Serializable" (some 0) with
  accessFlags := 1537
  interfaces := #[]
  cf := some (fileOf pool6 2 #[] #[] 1537 4 #[] #[])
  fields := #[]
  methods := #[]
  instanceTypes := #[]
  staticTypes := #[]
  resolved := Array.replicate 8 none
  statics := none }

/-- the primitive byte -/
def k7 : Class := { plain "byte" none with kind := .primitive 'B', accessFlags := 0x411 }
/-- [B -/
def k8 : Class := { plain "[B" (some 0) with kind := .array 7 .byte, interfaces := #[5, 6], accessFlags := 1041 }

/-- the primitive int -/
def k9 : Class := { plain "int" none with kind := .primitive 'I', accessFlags := 0x411 }
/-- [I -/
def k10 : Class := { plain "[I" (some 0) with kind := .array 9 .int, interfaces := #[5, 6], accessFlags := 1041 }

def heap : Heap := #[]
def classes : Array Class := #[k0, k1, k2, k3, k4, k5, k6, k7, k8, k9, k10]
def interned : List (Array UInt16 × Addr) := []
def slotsUsed : Nat := 0
def theMethod : MethodId := ⟨1, 1⟩
def args0 : Array Value := #[.int 300, .int 1, .int 2, .int 14, .long 5]
def aboutOver (below : List Frame) : State where
  vm := { classes := classes, interned := interned.toArray }
  heap := heap
  slotsUsed := slotsUsed
  threads := #[{ frames := .invoking theMethod args0 :: below }]
def below0 : List Frame := [.native { method := ⟨0, 0⟩, args := #[] }]
def about1 : State := aboutOver below0
def p0 : Program := .bare "" "" ""
def e0 : Env := launch0.env 0 0 0
theorem w_frames : about1.frames = Frame.invoking theMethod args0 :: below0 := rfl
set_option maxRecDepth 65536 in
theorem w_args : argsFit about1.vm theMethod args0 = true := by decide +kernel
set_option maxRecDepth 65536 in
theorem w_heap : heapFits about1 = true := by decide +kernel
set_option maxRecDepth 65536 in
theorem w_runnable : about1.curStatus? = some .runnable := by decide +kernel
set_option maxRecDepth 65536 in
theorem w_alone : about1.alone = true := by decide +kernel
set_option maxRecDepth 65536 in
theorem w_named : about1.methodNamed? x = some theMethod := by decide +kernel
set_option maxRecDepth 65536 in
theorem w_hears : about1.hears theMethod below0 = true := by decide +kernel
set_option maxRecDepth 65536 in
theorem w_ripe : about1.ripe theMethod args0 below0 = true := by decide +kernel
theorem w_running : about1.status = .running := rfl
set_option maxRecDepth 65536 in
theorem w_room : about1.hasRoom e0.platform room_1 = true :=
  launch0.hasRoom_least _ room_1 (by decide +kernel) (by decide +kernel) (by decide +kernel) (by decide +kernel) (by decide +kernel) (by decide +kernel)
theorem allAtoms_all (ts : List Jvm.Cond) (a : Array Jvm.Value) (st : Jvm.State) : (allAtoms ts).before a st = ts.all (fun c => c.before a st) := by
  induction ts with
  | nil => rfl
  | cons c t ih =>
    show (Jvm.Cond.and c (allAtoms t)).before a st = _
    rw [Jvm.Cond.before_and, ih, List.all_cons]
def words1 : List Jvm.Cond := Jvm.Cond.code x code maxLocals ret :: tables_1
/-- a 'code' word, met by the world's own term for the bytes: nothing is compared byte by byte -/
theorem code_word {y : MethodName} {bytes : ByteArray} {mx : Nat} {rt : Option FieldType} {a : Array Value} {s : State} {m : MethodId} {meth : Method} {c : Code} (h1 : s.methodNamed? y = some m) (h2 : s.vm.method? m = some meth) (h3 : meth.code = some c) (h4 : c.code = bytes)
    (h5 : (c.maxLocals == mx && c.exceptionTable.isEmpty && decide (c.maxStack ≤ mostOperands) && decide (meth.sig.returnType = rt) && !meth.locks && decide (parseMethodDescriptor y.desc = some meth.sig)) = true) : (Jvm.Cond.code y bytes mx rt).before a s = true := by
  simp only [Bool.and_eq_true, beq_iff_eq, Bool.not_eq_true', decide_eq_true_eq] at h5
  obtain ⟨⟨⟨⟨⟨g1, g2⟩, g3⟩, g4⟩, g5⟩, g6⟩ := h5
  simp [Cond.before, Cond.holds, Cond.value, h1, h2, h3, h4, g1, g2, g3, g4, g5, g6]
def isCode : Jvm.Cond → Bool
  | .code _ _ _ _ => true
  | _ => false
theorem all_split {L : List Jvm.Cond} {P : Jvm.Cond → Bool} (h1 : L.all (fun c => isCode c || P c) = true) (h2 : ∀ c ∈ L.filter isCode, P c = true) : L.all P = true := by
  refine List.all_eq_true.mpr fun c hc => ?_
  have h := List.all_eq_true.mp h1 c hc
  rcases Bool.eq_false_or_eq_true (isCode c) with hi | hi
  · exact h2 c (List.mem_filter.mpr ⟨hc, hi⟩)
  · simpa [hi] using h
set_option maxRecDepth 65536 in
theorem w_c0 : (Jvm.Cond.code x code maxLocals ret).before args0 about1 = true := code_word (m := ⟨1, 1⟩) (meth := k1m1) (c := k1c1) (by decide +kernel) rfl rfl rfl (by decide +kernel)
set_option maxRecDepth 65536 in
theorem w_c1 : (Jvm.Cond.code ({ cls := "com/example/framewright/framewright/StackMapTableWriterStartsWithPinLaw", name := "pick", desc := "(III)I" } : Jvm.MethodName) method_3_code (3 : Nat) (Option.some Jvm.ClassFile.FieldType.int)).before args0 about1 = true := code_word (m := ⟨1, 2⟩) (meth := k1m2) (c := k1c2) (by decide +kernel) rfl rfl rfl (by decide +kernel)
set_option maxRecDepth 65536 in
theorem w_c2 : (Jvm.Cond.code ({ cls := "com/example/framewright/framewright/StackMapTableWriterStartsWithPinLaw", name := "make", desc := "(IIII)[I" } : Jvm.MethodName) method_4_code (4 : Nat) (Option.some (Jvm.ClassFile.FieldType.array Jvm.ClassFile.FieldType.int))).before args0 about1 = true := code_word (m := ⟨1, 3⟩) (meth := k1m3) (c := k1c3) (by decide +kernel) rfl rfl rfl (by decide +kernel)
set_option maxRecDepth 65536 in
theorem w_c3 : (Jvm.Cond.code ({ cls := "com/example/framewright/framewright/StackMapTableWriter$Locals", name := "<init>", desc := "([I)V" } : Jvm.MethodName) prog_23_method_1_code (3 : Nat) (Option.none : Option Jvm.ClassFile.FieldType)).before args0 about1 = true := code_word (m := ⟨2, 0⟩) (meth := k2m0) (c := k2c0) (by decide +kernel) rfl rfl rfl (by decide +kernel)
set_option maxRecDepth 65536 in
theorem w_c4 : (Jvm.Cond.code ({ cls := "java/lang/Object", name := "<init>", desc := "()V" } : Jvm.MethodName) object_method_1_code (1 : Nat) (Option.none : Option Jvm.ClassFile.FieldType)).before args0 about1 = true := code_word (m := ⟨0, 0⟩) (meth := k0m0) (c := k0c0) (by decide +kernel) rfl rfl rfl (by decide +kernel)
set_option maxRecDepth 65536 in
theorem w_c5 : (Jvm.Cond.code ({ cls := "com/example/framewright/framewright/StackMapTableWriter", name := "entryCount", desc := "([II)I" } : Jvm.MethodName) prog_22_method_11_code (4 : Nat) (Option.some Jvm.ClassFile.FieldType.int)).before args0 about1 = true := code_word (m := ⟨3, 1⟩) (meth := k3m1) (c := k3c1) (by decide +kernel) rfl rfl rfl (by decide +kernel)
set_option maxRecDepth 65536 in
theorem w_c6 : (Jvm.Cond.code ({ cls := "com/example/framewright/framewright/Types", name := "isTwoSlots", desc := "(I)Z" } : Jvm.MethodName) prog_32_method_5_code (1 : Nat) (Option.some Jvm.ClassFile.FieldType.boolean)).before args0 about1 = true := code_word (m := ⟨4, 0⟩) (meth := k4m0) (c := k4c0) (by decide +kernel) rfl rfl rfl (by decide +kernel)
set_option maxRecDepth 65536 in
theorem w_c7 : (Jvm.Cond.code ({ cls := "com/example/framewright/framewright/StackMapTableWriter$Locals", name := "startsWith", desc := "(Lcom/example/framewright/framewright/StackMapTableWriter$Locals;)Z" } : Jvm.MethodName) prog_23_method_3_code (3 : Nat) (Option.some Jvm.ClassFile.FieldType.boolean)).before args0 about1 = true := code_word (m := ⟨2, 1⟩) (meth := k2m1) (c := k2c1) (by decide +kernel) rfl rfl rfl (by decide +kernel)
set_option maxRecDepth 65536 in
theorem w_c8 : (Jvm.Cond.code ({ cls := "com/example/framewright/framewright/StackMapTableWriterStartsWithPinLaw", name := "end", desc := "(IIII)I" } : Jvm.MethodName) method_5_code (4 : Nat) (Option.some Jvm.ClassFile.FieldType.int)).before args0 about1 = true := code_word (m := ⟨1, 4⟩) (meth := k1m4) (c := k1c4) (by decide +kernel) rfl rfl rfl (by decide +kernel)
def codes1 : List Jvm.Cond := [Jvm.Cond.code x code maxLocals ret, Jvm.Cond.code ({ cls := "com/example/framewright/framewright/StackMapTableWriterStartsWithPinLaw", name := "pick", desc := "(III)I" } : Jvm.MethodName) method_3_code (3 : Nat) (Option.some Jvm.ClassFile.FieldType.int), Jvm.Cond.code ({ cls := "com/example/framewright/framewright/StackMapTableWriterStartsWithPinLaw", name := "make", desc := "(IIII)[I" } : Jvm.MethodName) method_4_code (4 : Nat) (Option.some (Jvm.ClassFile.FieldType.array Jvm.ClassFile.FieldType.int)), Jvm.Cond.code ({ cls := "com/example/framewright/framewright/StackMapTableWriter$Locals", name := "<init>", desc := "([I)V" } : Jvm.MethodName) prog_23_method_1_code (3 : Nat) (Option.none : Option Jvm.ClassFile.FieldType), Jvm.Cond.code ({ cls := "java/lang/Object", name := "<init>", desc := "()V" } : Jvm.MethodName) object_method_1_code (1 : Nat) (Option.none : Option Jvm.ClassFile.FieldType), Jvm.Cond.code ({ cls := "com/example/framewright/framewright/StackMapTableWriter", name := "entryCount", desc := "([II)I" } : Jvm.MethodName) prog_22_method_11_code (4 : Nat) (Option.some Jvm.ClassFile.FieldType.int), Jvm.Cond.code ({ cls := "com/example/framewright/framewright/Types", name := "isTwoSlots", desc := "(I)Z" } : Jvm.MethodName) prog_32_method_5_code (1 : Nat) (Option.some Jvm.ClassFile.FieldType.boolean), Jvm.Cond.code ({ cls := "com/example/framewright/framewright/StackMapTableWriter$Locals", name := "startsWith", desc := "(Lcom/example/framewright/framewright/StackMapTableWriter$Locals;)Z" } : Jvm.MethodName) prog_23_method_3_code (3 : Nat) (Option.some Jvm.ClassFile.FieldType.boolean), Jvm.Cond.code ({ cls := "com/example/framewright/framewright/StackMapTableWriterStartsWithPinLaw", name := "end", desc := "(IIII)I" } : Jvm.MethodName) method_5_code (4 : Nat) (Option.some Jvm.ClassFile.FieldType.int)]
set_option maxRecDepth 65536 in
theorem codes_eq : words1.filter isCode = codes1 := rfl
theorem w_codes : ∀ c ∈ words1.filter isCode, c.before args0 about1 = true := by
  rw [codes_eq]
  intro c hc
  simp only [codes1, List.mem_cons, List.not_mem_nil, or_false] at hc
  rcases hc with rfl | rfl | rfl | rfl | rfl | rfl | rfl | rfl | rfl
  · exact w_c0
  · exact w_c1
  · exact w_c2
  · exact w_c3
  · exact w_c4
  · exact w_c5
  · exact w_c6
  · exact w_c7
  · exact w_c8
set_option maxRecDepth 65536 in
theorem w_t1 : (words1.take 24).all (fun c => isCode c || c.before args0 about1) = true := by decide +kernel
set_option maxRecDepth 65536 in
theorem w_t2 : (words1.drop 24).all (fun c => isCode c || c.before args0 about1) = true := by decide +kernel
theorem w_tables : (allAtoms (Jvm.Cond.code x code maxLocals ret :: tables_1)).before args0 about1 = true := by
  rw [allAtoms_all]
  show words1.all (fun c => c.before args0 about1) = true
  refine all_split ?_ w_codes
  rw [← List.take_append_drop 24 words1, List.all_append, w_t1, w_t2]
  rfl
set_option maxRecDepth 65536 in
theorem w_case : (Jvm.Cond.and given_1 narrow_1).before args0 about1 = true := by decide +kernel
theorem w_applies : (headSpec (Jvm.Cond.code x code maxLocals ret :: tables_1) room_1).applies x e0.platform about1 = true :=
  (Spec.applies_iff w_frames).mpr ⟨w_running, w_runnable, w_alone, w_named, w_hears, w_ripe, w_room, w_tables⟩
theorem atStart : AtStart classFile x code maxLocals ret World_1 tables_1 room_1 Calls_1 rest_1 Pre_1 launch0 p0 e0 about1 theMethod args0 below0 :=
  ⟨lists_1, trivial, launch0.admits_env _ _ _, launch0.least_env, fairChoices_fair.cas, fairChoices_fair.clock, w_frames, w_args, w_heap, w_applies, trivial, trivial, w_case⟩
end start1
theorem witness_1 : WitnessClaimed_1 := ⟨start1.p0, start1.e0, start1.about1, start1.theMethod, start1.args0, start1.below0, start1.atStart⟩
end Jvm.Pilot.@@N@@
