import JvmDerived
import JvmDerived.Pilot.@@N@@Statement
import JvmDerived.Pilot.@@N@@Code
set_option linter.unusedVariables false
set_option linter.unusedSimpArgs false
@@BLOCK:NumsL.lean.txt@@
namespace Jvm.Pilot.@@N@@
open Jvm Jvm.ClassFile Sem Op Lib Jvm.Free Jvm.Stand Jvm.LawKit Jvm.RoadKit Bundle Jvm.Pilot.@@N@@.Jvm.D

/-! OWN LAYER 1: a walk said forward: 'Go' is the goal at each point; every step's law hands the goal at the next point to the rest of the text. -/
section OwnLayer
variable {p : Program} {l : Launch} {e : Env} {R : Room} {s : State} {m : MethodId} {args : Array Value} {below : List Frame} {meth : Method} {c : Code} {T : State} {locs : List Loc} {cells slots : Nat} {Z : State} {a0 : Array Value} {h : Heap} {P : State → Outcome → Prop} {bytes : ByteArray} {own : String} {rt : Option FieldType} {ml : Nat}
def Go (p : Program) (e : Env) (below : List Frame) (P : State → Outcome → Prop) (T : State) (g : JFrame) : Prop := ∃ t o, Steps p.tables e below (T.setTop g) t ∧ P t o
theorem Go.via {T' : State} {g g' : JFrame} (k : ∀ t, Steps p.tables e below (T'.setTop g') t → Steps p.tables e below (T.setTop g) t) (K : Go p e below P T' g') : Go p e below P T g := by
  obtain ⟨t, o, h1, h2⟩ := K; exact ⟨t, o, k t h1, h2⟩
theorem Go.cast {g g' : JFrame} (q : g = g') (K : Go p e below P T g') : Go p e below P T g := q ▸ K
/-- what stays fixed in a body's walk -/
def Fix (p : Program) (s : State) (m : MethodId) (meth : Method) (c : Code) (Z : State) (a0 : Array Value) (own : String) (bytes : ByteArray) (ml : Nat) (rt : Option FieldType) : Prop :=
  p.tables.exec = Jvm.exec ∧ c.code = bytes ∧ c.maxLocals = ml ∧ s.vm.findClass own = some m.cls ∧ Z.Warmed39 s.vm ∧ (∀ d ∈ tables_1, d.before a0 Z = true) ∧ meth.sig.returnType = rt ∧ meth.locks = false
theorem Fix.w (B : Fix p s m meth c Z a0 own bytes ml rt) (i : Nat) {d : Jvm.Cond} (hd : tables_1[i]? = some d) : d.before a0 Z = true := B.2.2.2.2.2.1 d (List.mem_of_getElem? hd)
theorem Fix.x (B : Fix p s m meth c Z a0 own bytes ml rt) : p.tables.exec = Jvm.exec := B.1
theorem Fix.b (B : Fix p s m meth c Z a0 own bytes ml rt) : c.code = bytes := B.2.1
theorem Fix.mx (B : Fix p s m meth c Z a0 own bytes ml rt) : c.maxLocals = ml := B.2.2.1
theorem Fix.ow (B : Fix p s m meth c Z a0 own bytes ml rt) : s.vm.findClass own = some m.cls := B.2.2.2.1
theorem Fix.z (B : Fix p s m meth c Z a0 own bytes ml rt) : Z.Warmed39 s.vm := B.2.2.2.2.1
theorem Fix.hw (B : Fix p s m meth c Z a0 own bytes ml rt) : ∀ d ∈ tables_1, d.before a0 Z = true := B.2.2.2.2.2.1
theorem Fix.ret (B : Fix p s m meth c Z a0 own bytes ml rt) : meth.sig.returnType = rt := B.2.2.2.2.2.2.1
theorem Fix.lk (B : Fix p s m meth c Z a0 own bytes ml rt) : meth.locks = false := B.2.2.2.2.2.2.2
/-- how a body ends -/
def Fini (s : State) (below : List Frame) (Q : Option Value → Heap → List Loc → Prop) (ck sk : Nat) : State → Outcome → Prop := fun t o => t.status = .running ∧ Ended t below o ∧ ∃ v L, o = .returned v ∧ Q v t.heap L ∧ FrameEnd s o t L ck sk
/-- a body's contract -/
def Con (l : Launch) (Z : State) (y : MethodName) (bytes : ByteArray) (ml : Nat) (rt : Option FieldType) (ws : List Jvm.Cond) (rm : Room) (as' : Array Value) (h0 : Heap) (Q : Option Value → Heap → List Loc → Prop) : Prop :=
  MetFree l y (head1 (Jvm.Cond.code y bytes ml rt :: ws) rm) (fun a U => a = as' ∧ Z.Warmed39 U.vm ∧ U.heap = h0) (fun _ _ _ _ _ => True) (fun _ U o U' => ∃ v L, o = .returned v ∧ Q v U'.heap L ∧ FrameEnd U o U' L rm.cells rm.slots)
/-- it returns v0 and writes and makes nothing -/
def Pq (v0 : Option Value) (h0 : Heap) (v : Option Value) (h : Heap) (L : List Loc) : Prop := v = v0 ∧ L = [] ∧ h = h0
theorem own_body {y : MethodName} {ws : List Jvm.Cond} {rm : Room} {as' : Array Value} {h0 : Heap} {Q : Option Value → Heap → List Loc → Prop} (hpl : plainFor y = true) (hw : ∀ d ∈ tables_1, d.before a0 Z = true)
    (body : ∀ p e s m below meth c s₁, Fix p s m meth c Z a0 y.cls bytes ml rt → Stand p l e rm s m as' below meth c s₁ [] 0 0 → s₁.heap = h0 → meth.name = y.name → Go p e below (Fini s below Q rm.cells rm.slots) s₁ (entryFrame m as' ml)) : Con l Z y bytes ml rt ws rm as' h0 Q := by
  refine MetFree.of_bodySF hpl hisR ?_
  intro p e s m args below meth c s₁ Bd hml0 hP hK
  obtain ⟨rfl, hZ, hh⟩ := hP
  obtain ⟨t, o, h1, h2, h3, h4⟩ := body p e s m below meth c s₁ ⟨Bd.exec, Bd.bytes, hml0, findClass_of_methodNamed Bd.named, hZ, hw, Bd.returns, Bd.notSynchronized⟩ (Stand.of_body Bd) (by rw [← hh, Bd.state]; rfl) (name_of_methodNamed Bd.named Bd.method).1
  exact ⟨t, o, h1, h2, h3, h4⟩
section OwnSteps
variable {pc pc' : Nat} {Ls : Array Slot} {St : List Value}
theorem own_aloadN (B : Fix p s m meth c Z a0 own bytes ml rt) (X : Stand p l e R s m args below meth c T locs cells slots) {k : Fin 4} {v : Value} (hd : decode bytes pc = .ok (.aload_n k, 1)) (hp : pc + 1 = pc') (hl : Ls[k.val]? = some (.val v)) (hv : v.isRef = true) (K : Go p e below P T (mkF m pc' Ls (v :: St))) : Go p e below P T (mkF m pc Ls St) := by
  subst hp; exact Go.via (fun t k => XS.aloadN X.here B.x rfl (hb B.b hd) hl hv k) K
theorem own_aload (B : Fix p s m meth c Z a0 own bytes ml rt) (X : Stand p l e R s m args below meth c T locs cells slots) {k : Nat} {v : Value} (hd : decode bytes pc = .ok (.aload k, 2)) (hp : pc + 2 = pc') (hl : Ls[k]? = some (.val v)) (hv : v.isRef = true) (K : Go p e below P T (mkF m pc' Ls (v :: St))) : Go p e below P T (mkF m pc Ls St) := by
  subst hp; exact Go.via (fun t k => XS.aload X.here B.x rfl (hb B.b hd) hl hv k) K
theorem own_iloadN (B : Fix p s m meth c Z a0 own bytes ml rt) (X : Stand p l e R s m args below meth c T locs cells slots) {k : Fin 4} {v : Int32} (hd : decode bytes pc = .ok (.iload_n k, 1)) (hp : pc + 1 = pc') (hl : Ls[k.val]? = some (.val (.int v))) (K : Go p e below P T (mkF m pc' Ls (.int v :: St))) : Go p e below P T (mkF m pc Ls St) := by
  subst hp; exact Go.via (fun t k => XS.iloadN X.here B.x rfl (hb B.b hd) hl k) K
theorem own_iload (B : Fix p s m meth c Z a0 own bytes ml rt) (X : Stand p l e R s m args below meth c T locs cells slots) {k : Nat} {v : Int32} (hd : decode bytes pc = .ok (.iload k, 2)) (hp : pc + 2 = pc') (hl : Ls[k]? = some (.val (.int v))) (K : Go p e below P T (mkF m pc' Ls (.int v :: St))) : Go p e below P T (mkF m pc Ls St) := by
  subst hp; exact Go.via (fun t k => XS.iload X.here B.x rfl (hb B.b hd) hl k) K
theorem own_iconst (B : Fix p s m meth c Z a0 own bytes ml rt) (X : Stand p l e R s m args below meth c T locs cells slots) {i : Int} {v : Int32} (hd : decode bytes pc = .ok (.iconst i, 1)) (hp : pc + 1 = pc') (hv : Int32.ofInt i = v) (K : Go p e below P T (mkF m pc' Ls (.int v :: St))) : Go p e below P T (mkF m pc Ls St) := by
  subst hp hv; exact Go.via (fun t k => XS.iconst X.here B.x rfl (hb B.b hd) k) K
theorem own_bipush (B : Fix p s m meth c Z a0 own bytes ml rt) (X : Stand p l e R s m args below meth c T locs cells slots) {i : Int} {v : Int32} (hd : decode bytes pc = .ok (.bipush i, 2)) (hp : pc + 2 = pc') (hv : (Int8.ofInt i).toInt32 = v) (K : Go p e below P T (mkF m pc' Ls (.int v :: St))) : Go p e below P T (mkF m pc Ls St) := by
  subst hp hv; exact Go.via (fun t k => XS.bipush X.here B.x rfl (hb B.b hd) k) K
theorem own_sipush (B : Fix p s m meth c Z a0 own bytes ml rt) (X : Stand p l e R s m args below meth c T locs cells slots) {i : Int} {v : Int32} (hd : decode bytes pc = .ok (.sipush i, 3)) (hp : pc + 3 = pc') (hv : (Int16.ofInt i).toInt32 = v) (K : Go p e below P T (mkF m pc' Ls (.int v :: St))) : Go p e below P T (mkF m pc Ls St) := by
  subst hp hv; exact Go.via (fun t k => XS.sipush X.here B.x rfl (hb B.b hd) k) K
theorem own_ldc (B : Fix p s m meth c Z a0 own bytes ml rt) (X : Stand p l e R s m args below meth c T locs cells slots) {index : Nat} {v : Int32} (hd : decode bytes pc = .ok (.ldc index, 2)) (hp : pc + 2 = pc') (w : (Jvm.Cond.constant own index v).before a0 Z = true) (K : Go p e below P T (mkF m pc' Ls (.int v :: St))) : Go p e below P T (mkF m pc Ls St) := by
  subst hp; exact Go.via (fun t k => X.ldcInt B.x B.ow (mvT B.z w) (g := mkF m pc Ls St) rfl (hb B.b hd) _ k) K
theorem own_ldcw (B : Fix p s m meth c Z a0 own bytes ml rt) (X : Stand p l e R s m args below meth c T locs cells slots) {index : Nat} {v : Int32} (hd : decode bytes pc = .ok (.ldc_w index, 3)) (hp : pc + 3 = pc') (w : (Jvm.Cond.constant own index v).before a0 Z = true) (K : Go p e below P T (mkF m pc' Ls (.int v :: St))) : Go p e below P T (mkF m pc Ls St) := by
  subst hp; exact Go.via (fun t k => X.ldcwInt B.x B.ow (mvT B.z w) (g := mkF m pc Ls St) rfl (hb B.b hd) _ k) K
theorem own_aconstNull (B : Fix p s m meth c Z a0 own bytes ml rt) (X : Stand p l e R s m args below meth c T locs cells slots) (hd : decode bytes pc = .ok (.aconst_null, 1)) (hp : pc + 1 = pc') (K : Go p e below P T (mkF m pc' Ls (.null :: St))) : Go p e below P T (mkF m pc Ls St) := by
  subst hp; exact Go.via (fun t k => XS.aconstNull X.here B.x rfl (hb B.b hd) k) K
theorem own_iadd (B : Fix p s m meth c Z a0 own bytes ml rt) (X : Stand p l e R s m args below meth c T locs cells slots) {x y v : Int32} (hd : decode bytes pc = .ok (.iadd, 1)) (hp : pc + 1 = pc') (hv : x + y = v) (K : Go p e below P T (mkF m pc' Ls (.int v :: St))) : Go p e below P T (mkF m pc Ls (.int y :: .int x :: St)) := by
  subst hp hv; exact Go.via (fun t k => XS.iadd X.here B.x rfl (hb B.b hd) rfl k) K
theorem own_isub (B : Fix p s m meth c Z a0 own bytes ml rt) (X : Stand p l e R s m args below meth c T locs cells slots) {x y v : Int32} (hd : decode bytes pc = .ok (.isub, 1)) (hp : pc + 1 = pc') (hv : x - y = v) (K : Go p e below P T (mkF m pc' Ls (.int v :: St))) : Go p e below P T (mkF m pc Ls (.int y :: .int x :: St)) := by
  subst hp hv; exact Go.via (fun t k => XS.isub X.here B.x rfl (hb B.b hd) rfl k) K
theorem own_imul (B : Fix p s m meth c Z a0 own bytes ml rt) (X : Stand p l e R s m args below meth c T locs cells slots) {x y v : Int32} (hd : decode bytes pc = .ok (.imul, 1)) (hp : pc + 1 = pc') (hv : x * y = v) (K : Go p e below P T (mkF m pc' Ls (.int v :: St))) : Go p e below P T (mkF m pc Ls (.int y :: .int x :: St)) := by
  subst hp hv; exact Go.via (fun t k => XS.imul X.here B.x rfl (hb B.b hd) rfl k) K
theorem own_iand (B : Fix p s m meth c Z a0 own bytes ml rt) (X : Stand p l e R s m args below meth c T locs cells slots) {x y v : Int32} (hd : decode bytes pc = .ok (.iand, 1)) (hp : pc + 1 = pc') (hv : x &&& y = v) (K : Go p e below P T (mkF m pc' Ls (.int v :: St))) : Go p e below P T (mkF m pc Ls (.int y :: .int x :: St)) := by
  subst hp hv; exact Go.via (fun t k => XS.iand X.here B.x rfl (hb B.b hd) rfl k) K
theorem own_ior (B : Fix p s m meth c Z a0 own bytes ml rt) (X : Stand p l e R s m args below meth c T locs cells slots) {x y v : Int32} (hd : decode bytes pc = .ok (.ior, 1)) (hp : pc + 1 = pc') (hv : x ||| y = v) (K : Go p e below P T (mkF m pc' Ls (.int v :: St))) : Go p e below P T (mkF m pc Ls (.int y :: .int x :: St)) := by
  subst hp hv; exact Go.via (fun t k => XS.ior X.here B.x rfl (hb B.b hd) rfl k) K
theorem own_ixor (B : Fix p s m meth c Z a0 own bytes ml rt) (X : Stand p l e R s m args below meth c T locs cells slots) {x y v : Int32} (hd : decode bytes pc = .ok (.ixor, 1)) (hp : pc + 1 = pc') (hv : x ^^^ y = v) (K : Go p e below P T (mkF m pc' Ls (.int v :: St))) : Go p e below P T (mkF m pc Ls (.int y :: .int x :: St)) := by
  subst hp hv; exact Go.via (fun t k => XS.ixor X.here B.x rfl (hb B.b hd) rfl k) K
theorem own_ishl (B : Fix p s m meth c Z a0 own bytes ml rt) (X : Stand p l e R s m args below meth c T locs cells slots) {x y v : Int32} (hd : decode bytes pc = .ok (.ishl, 1)) (hp : pc + 1 = pc') (hv : x <<< (y &&& 31) = v) (K : Go p e below P T (mkF m pc' Ls (.int v :: St))) : Go p e below P T (mkF m pc Ls (.int y :: .int x :: St)) := by
  subst hp hv; exact Go.via (fun t k => XS.ishl X.here B.x rfl (hb B.b hd) rfl k) K
theorem own_iushr (B : Fix p s m meth c Z a0 own bytes ml rt) (X : Stand p l e R s m args below meth c T locs cells slots) {x y v : Int32} (hd : decode bytes pc = .ok (.iushr, 1)) (hp : pc + 1 = pc') (hv : (x.toUInt32 >>> (y &&& 31).toUInt32).toInt32 = v) (K : Go p e below P T (mkF m pc' Ls (.int v :: St))) : Go p e below P T (mkF m pc Ls (.int y :: .int x :: St)) := by
  subst hp hv; exact Go.via (fun t k => XS.iushr X.here B.x rfl (hb B.b hd) rfl k) K
theorem own_irem (B : Fix p s m meth c Z a0 own bytes ml rt) (X : Stand p l e R s m args below meth c T locs cells slots) {x y v : Int32} (hd : decode bytes pc = .ok (.irem, 1)) (hp : pc + 1 = pc') (hy : y ≠ 0) (hv : x % y = v) (K : Go p e below P T (mkF m pc' Ls (.int v :: St))) : Go p e below P T (mkF m pc Ls (.int y :: .int x :: St)) := by
  subst hp hv; exact Go.via (fun t k => iremM X B.x rfl (hb B.b hd) rfl hy k) K
theorem own_dup (B : Fix p s m meth c Z a0 own bytes ml rt) (X : Stand p l e R s m args below meth c T locs cells slots) {v : Value} (hd : decode bytes pc = .ok (.dup, 1)) (hp : pc + 1 = pc') (hv : v.category = 1) (K : Go p e below P T (mkF m pc' Ls (v :: v :: St))) : Go p e below P T (mkF m pc Ls (v :: St)) := by
  subst hp; exact Go.via (fun t k => XS.dup X.here B.x rfl (hb B.b hd) rfl hv k) K
theorem own_dupX1 (B : Fix p s m meth c Z a0 own bytes ml rt) (X : Stand p l e R s m args below meth c T locs cells slots) {v w : Value} (hd : decode bytes pc = .ok (.dup_x1, 1)) (hp : pc + 1 = pc') (hv : v.category = 1) (hw : w.category = 1) (K : Go p e below P T (mkF m pc' Ls (v :: w :: v :: St))) : Go p e below P T (mkF m pc Ls (v :: w :: St)) := by
  subst hp; exact Go.via (fun t k => XS.dupX1 X.here B.x rfl (hb B.b hd) rfl hv hw k) K
theorem own_pop (B : Fix p s m meth c Z a0 own bytes ml rt) (X : Stand p l e R s m args below meth c T locs cells slots) {v : Value} (hd : decode bytes pc = .ok (.pop, 1)) (hp : pc + 1 = pc') (hv : v.category = 1) (K : Go p e below P T (mkF m pc' Ls St)) : Go p e below P T (mkF m pc Ls (v :: St)) := by
  subst hp; exact Go.via (fun t k => XS.pop X.here B.x rfl (hb B.b hd) rfl hv k) K
theorem own_istoreN (B : Fix p s m meth c Z a0 own bytes ml rt) (X : Stand p l e R s m args below meth c T locs cells slots) {k : Fin 4} {x : Int32} (hd : decode bytes pc = .ok (.istore_n k, 1)) (hp : pc + 1 = pc') (l' : Array Slot) (hl : storeLocals Ls k.val (.int x) = some l') (K : Go p e below P T (mkF m pc' l' St)) : Go p e below P T (mkF m pc Ls (.int x :: St)) := by
  subst hp; exact Go.via (fun t k => XS.istoreN X.here B.x rfl (hb B.b hd) rfl hl k) K
theorem own_istore (B : Fix p s m meth c Z a0 own bytes ml rt) (X : Stand p l e R s m args below meth c T locs cells slots) {k : Nat} {x : Int32} (hd : decode bytes pc = .ok (.istore k, 2)) (hp : pc + 2 = pc') (l' : Array Slot) (hl : storeLocals Ls k (.int x) = some l') (K : Go p e below P T (mkF m pc' l' St)) : Go p e below P T (mkF m pc Ls (.int x :: St)) := by
  subst hp; exact Go.via (fun t k => XS.istore X.here B.x rfl (hb B.b hd) rfl hl k) K
theorem own_astoreN (B : Fix p s m meth c Z a0 own bytes ml rt) (X : Stand p l e R s m args below meth c T locs cells slots) {k : Fin 4} {x : Value} (hd : decode bytes pc = .ok (.astore_n k, 1)) (hp : pc + 1 = pc') (hv : x.isRef = true) (l' : Array Slot) (hl : storeLocals Ls k.val x = some l') (K : Go p e below P T (mkF m pc' l' St)) : Go p e below P T (mkF m pc Ls (x :: St)) := by
  subst hp; exact Go.via (fun t k => XS.astoreN X.here B.x rfl (hb B.b hd) rfl hv hl k) K
theorem own_astore (B : Fix p s m meth c Z a0 own bytes ml rt) (X : Stand p l e R s m args below meth c T locs cells slots) {k : Nat} {x : Value} (hd : decode bytes pc = .ok (.astore k, 2)) (hp : pc + 2 = pc') (hv : x.isRef = true) (l' : Array Slot) (hl : storeLocals Ls k x = some l') (K : Go p e below P T (mkF m pc' l' St)) : Go p e below P T (mkF m pc Ls (x :: St)) := by
  subst hp; exact Go.via (fun t k => XS.astore X.here B.x rfl (hb B.b hd) rfl hv hl k) K
theorem own_goto (B : Fix p s m meth c Z a0 own bytes ml rt) (X : Stand p l e R s m args below meth c T locs cells slots) {o : Int} (hd : decode bytes pc = .ok (.goto o, 3)) (ho : 0 ≤ (pc : Int) + o) (hp : ((pc : Int) + o).toNat = pc') (K : Go p e below P T (mkF m pc' Ls St)) : Go p e below P T (mkF m pc Ls St) :=
  Go.via (fun t k => XS.goto X.here B.x rfl rfl (hb B.b hd) ho hp k) K
theorem own_ifYes (B : Fix p s m meth c Z a0 own bytes ml rt) (X : Stand p l e R s m args below meth c T locs cells slots) {cd : ClassFile.Cond} {x : Int32} {o : Int} (hd : decode bytes pc = .ok (.ifCond cd o, 3)) (hc : if_icmp.holds cd x 0 = true) (ho : 0 ≤ (pc : Int) + o) (hp : ((pc : Int) + o).toNat = pc') (K : Go p e below P T (mkF m pc' Ls St)) : Go p e below P T (mkF m pc Ls (.int x :: St)) :=
  Go.via (fun t k => XS.ifYes X.here B.x rfl rfl (hb B.b hd) rfl ((if0 _ _).trans hc) ho hp k) K
theorem own_ifNo (B : Fix p s m meth c Z a0 own bytes ml rt) (X : Stand p l e R s m args below meth c T locs cells slots) {cd : ClassFile.Cond} {x : Int32} {o : Int} (hd : decode bytes pc = .ok (.ifCond cd o, 3)) (hc : if_icmp.holds cd x 0 = false) (hp : pc + 3 = pc') (K : Go p e below P T (mkF m pc' Ls St)) : Go p e below P T (mkF m pc Ls (.int x :: St)) := by
  subst hp; exact Go.via (fun t k => XS.ifNo X.here B.x rfl (hb B.b hd) rfl ((if0 _ _).trans hc) k) K
theorem own_icmpYes (B : Fix p s m meth c Z a0 own bytes ml rt) (X : Stand p l e R s m args below meth c T locs cells slots) {cd : ClassFile.Cond} {x y : Int32} {o : Int} (hd : decode bytes pc = .ok (.if_icmp cd o, 3)) (hc : if_icmp.holds cd x y = true) (ho : 0 ≤ (pc : Int) + o) (hp : ((pc : Int) + o).toNat = pc') (K : Go p e below P T (mkF m pc' Ls St)) : Go p e below P T (mkF m pc Ls (.int y :: .int x :: St)) :=
  Go.via (fun t k => XS.icmpYes X.here B.x rfl rfl (hb B.b hd) rfl hc ho hp k) K
theorem own_icmpNo (B : Fix p s m meth c Z a0 own bytes ml rt) (X : Stand p l e R s m args below meth c T locs cells slots) {cd : ClassFile.Cond} {x y : Int32} {o : Int} (hd : decode bytes pc = .ok (.if_icmp cd o, 3)) (hc : if_icmp.holds cd x y = false) (hp : pc + 3 = pc') (K : Go p e below P T (mkF m pc' Ls St)) : Go p e below P T (mkF m pc Ls (.int y :: .int x :: St)) := by
  subst hp; exact Go.via (fun t k => XS.icmpNo X.here B.x rfl (hb B.b hd) rfl hc k) K
theorem own_ifnonnullYes (B : Fix p s m meth c Z a0 own bytes ml rt) (X : Stand p l e R s m args below meth c T locs cells slots) {a : Addr} {o : Int} (hd : decode bytes pc = .ok (.ifnonnull o, 3)) (ho : 0 ≤ (pc : Int) + o) (hp : ((pc : Int) + o).toNat = pc') (K : Go p e below P T (mkF m pc' Ls St)) : Go p e below P T (mkF m pc Ls (.ref a :: St)) :=
  Go.via (fun t k => XS.ifnonnullYes X.here B.x rfl rfl (hb B.b hd) rfl ho hp k) K
theorem own_ifnonnullNo (B : Fix p s m meth c Z a0 own bytes ml rt) (X : Stand p l e R s m args below meth c T locs cells slots) {o : Int} (hd : decode bytes pc = .ok (.ifnonnull o, 3)) (hp : pc + 3 = pc') (K : Go p e below P T (mkF m pc' Ls St)) : Go p e below P T (mkF m pc Ls (.null :: St)) := by
  subst hp; exact Go.via (fun t k => XS.ifnonnullNo X.here B.x rfl (hb B.b hd) rfl k) K
theorem own_acmp (B : Fix p s m meth c Z a0 own bytes ml rt) (X : Stand p l e R s m args below meth c T locs cells slots) {cd : ACond} {x y : Value} {o : Int} (same : Bool) (hd : decode bytes pc = .ok (.if_acmp cd o, 3)) (h1 : x.isRef = true) (h2 : y.isRef = true) (hq : decide (x = y) = same) (ho : 0 ≤ (pc : Int) + o) (hp : pc' = if acV cd same = true then ((pc : Int) + o).toNat else pc + 3) (K : Go p e below P T (mkF m pc' Ls St)) : Go p e below P T (mkF m pc Ls (y :: x :: St)) :=
  Go.via (fun t k => Jvm.RoadKit.acmp (g := mkF m pc Ls (y :: x :: St)) X B.x rfl h1 h2 rfl (hb B.b hd) rfl hq ho hp k) K
theorem own_getS (B : Fix p s m meth c Z a0 own bytes ml rt) (X : Stand p l e R s m args below meth c T locs cells slots) {R0 n d : String} {index : Nat} {v : Value} (eT : T.heap = h) (F : Sta Z h R0 n d v) (hd : decode bytes pc = .ok (.getstatic index, 3)) (hp : pc + 3 = pc') (w : (Jvm.Cond.fieldLink own index R0 n d).before a0 Z = true)
    (K : ∀ T', Stand p l e R s m args below meth c T' locs cells slots → T'.heap = h → Go p e below P T' (mkF m pc' Ls (v :: St))) : Go p e below P T (mkF m pc Ls St) := by
  subst hp
  obtain ⟨T', X', e', st⟩ := getS2 X B.x B.z B.ow (host := "") (Or.inl w) Via.refl eT F (g := mkF m pc Ls St) rfl (hb B.b hd)
  exact Go.via st (K T' X' e')
theorem own_getF (B : Fix p s m meth c Z a0 own bytes ml rt) (X : Stand p l e R s m args below meth c T locs cells slots) {O n d : String} {index : Nat} {a : Addr} {v : Value} (eT : T.heap = h) (F : Fld Z h a O n d v) (hd : decode bytes pc = .ok (.getfield index, 3)) (hp : pc + 3 = pc') (w : (Jvm.Cond.fieldLink own index O n d).before a0 Z = true)
    (K : ∀ T', Stand p l e R s m args below meth c T' locs cells slots → T'.heap = h → Go p e below P T' (mkF m pc' Ls (v :: St))) : Go p e below P T (mkF m pc Ls (.ref a :: St)) := by
  subst hp
  obtain ⟨T', X', e', st⟩ := getF X B.x B.z B.ow (host := "") (Or.inl w) Via.refl eT F (g := mkF m pc Ls (.ref a :: St)) rfl rfl (hb B.b hd)
  exact Go.via st (K T' X' e')
end OwnSteps
section OwnEnds
variable {t : FieldType} {pc : Nat} {Ls : Array Slot} {rest : List Value} {Q : Option Value → Heap → List Loc → Prop} {ck sk : Nat}
theorem own_retRef (B : Fix p s m meth c Z a0 own bytes ml (some t)) (X : Stand p l e R s m args below meth c T locs cells slots) {w : Value} (hd : decode bytes pc = .ok (.areturn, 1)) (hn : narrow t w = w) (ht : t.isReference = true) (hw : w.isRef = true) (hQ : Q (some w) T.heap locs) (h1 : cells ≤ ck) (h2 : slots ≤ sk) : Go p e below (Fini s below Q ck sk) T (mkF m pc Ls (w :: rest)) := by
  obtain ⟨fs, hr, hrun, hended, hW, hsame⟩ := X.leave (v := some w) (fun h => by rw [B.ret] at h; cases h) B.lk
  exact ⟨_, _, retOut X B.x B.ret hn (Or.inr (Or.inr (Or.inr (Or.inr ⟨rfl, ht, hw⟩)))) (hb B.b hd) hr, hrun, hended, _, _, rfl, hQ, ⟨_, rfl⟩, hW, hsame.mono h1 h2⟩
theorem own_retInt (B : Fix p s m meth c Z a0 own bytes ml (some t)) (X : Stand p l e R s m args below meth c T locs cells slots) {z : Int32} (hd : decode bytes pc = .ok (.ireturn, 1)) (hn : narrow t (.int z) = .int z) (ht : t = .int ∨ t = .boolean ∨ t = .byte ∨ t = .char ∨ t = .short) (hQ : Q (some (.int z)) T.heap locs) (h1 : cells ≤ ck) (h2 : slots ≤ sk) : Go p e below (Fini s below Q ck sk) T (mkF m pc Ls (.int z :: rest)) := by
  obtain ⟨fs, hr, hrun, hended, hW, hsame⟩ := X.leave (v := some (.int z)) (fun h => by rw [B.ret] at h; cases h) B.lk
  exact ⟨_, _, retOut X B.x B.ret hn (Or.inl ⟨rfl, ht, _, rfl⟩) (hb B.b hd) hr, hrun, hended, _, _, rfl, hQ, ⟨_, rfl⟩, hW, hsame.mono h1 h2⟩
end OwnEnds
section OwnCalls
variable {pc pc' : Nat} {Ls : Array Slot} {St : List Value}
/-- a static method by its contract -/
theorem own_callS (B : Fix p s m meth c Z a0 own bytes ml rt) (X : Stand p l e R s m args below meth c T locs cells slots) {y : MethodName} {by' : ByteArray} {ml' index W : Nat} {rt' : Option FieldType} {rm : Room} {as' : Array Value} {Q : Option Value → Heap → List Loc → Prop} (hM : Con l Z y by' ml' rt' [] rm as' h Q) (eT : T.heap = h)
    (hd : decode bytes pc = .ok (.invokestatic index, 3)) (hp : pc + 3 = pc') (w1 : (Jvm.Cond.methodLink own index y).before a0 Z = true) (w2 : (Jvm.Cond.static y).before a0 Z = true) (w3 : (Jvm.Cond.initialized y.cls).before a0 Z = true) (w4 : (Jvm.Cond.code y by' ml' rt').before a0 Z = true)
    (hy : y.cls ≠ "java/lang/invoke/MethodHandle" ∧ y.cls ≠ "java/lang/invoke/VarHandle") (hf : rm.frames + 1 ≤ R.frames) (hl : W + (ml' + 11) + rm.locals ≤ R.locals) (hsz : Ls.size = ml) (argsL rest : List Value) {ps : List FieldType} {r : Option FieldType} (hds : parseMethodDescriptor y.desc = some ⟨ps, r⟩) (hlen : argsL.length = ps.length) (has : argsL.toArray = as') (hst : St = argsL.reverse ++ rest) (hW : (rest.map fun v => v.category).sum ≤ W)
    (hc : cells + rm.cells ≤ R.cells) (hs : slots + rm.slots ≤ R.slots)
    (K : ∀ T' v L, Stand p l e R s m args below meth c T' (locs ++ L) (cells + rm.cells) (slots + rm.slots) → Q v T'.heap L → Go p e below P T' (mkF m pc' Ls (v.toList ++ rest))) : Go p e below P T (mkF m pc Ls St) := by
  subst hp has hst
  obtain ⟨v, _, ⟨T', L', k', n'⟩, -, X', ⟨Lc, hQ, q1, q2, q3⟩, st⟩ := Jvm.LawKit.callS X B.x (y := y) B.ow (mvT B.z w1) (mvT B.z w2) (mvT B.z w3) (mvT B.z w4) hy (backOf (W := W) hM B.z w4 w3 hf hl) (g := mkF m pc Ls (argsL.reverse ++ rest)) rfl (by rw [B.mx]; exact hsz) (argsL := argsL) (rest := rest) (lenOf hds hlen) rfl (by show 2 * 0 + _ ≤ _; omega) (hb B.b hd) (fun _ _ => ⟨rfl, eT, hc, hs⟩)
  dsimp only [Pt.U, Pt.locs, Pt.cells, Pt.slots] at X' q1 q2 q3 st hQ
  subst q1 q2 q3
  exact Go.via st (K T' v Lc X' hQ)
/-- an instance method by the contract of the body that the receiver's class selects -/
theorem own_callV (B : Fix p s m meth c Z a0 own bytes ml rt) (X : Stand p l e R s m args below meth c T locs cells slots) {y z : MethodName} {C : String} {by' : ByteArray} {ml' index W : Nat} {rt' : Option FieldType} {rm : Room} {as' : Array Value} {a : Addr} {Q : Option Value → Heap → List Loc → Prop} (hM : Con l Z z by' ml' rt' [] rm as' h Q) (eT : T.heap = h) (E : Exa Z h a C) (hnf : NotFace s y)
    (hd : decode bytes pc = .ok (.invokevirtual index, 3)) (hp : pc + 3 = pc') (w1 : (Jvm.Cond.methodLink own index y).before a0 Z = true) (w2 : (Jvm.Cond.declares y).before a0 Z = true) (w3 : (Jvm.Cond.selects C y z).before a0 Z = true) (w4 : (Jvm.Cond.instanceMethod z).before a0 Z = true) (w5 : (Jvm.Cond.initialized z.cls).before a0 Z = true) (w6 : (Jvm.Cond.code z by' ml' rt').before a0 Z = true)
    (hy : y.cls ≠ "java/lang/invoke/MethodHandle" ∧ y.cls ≠ "java/lang/invoke/VarHandle") (hf : rm.frames + 1 ≤ R.frames) (hl : W + (ml' + 11) + rm.locals ≤ R.locals) (hsz : Ls.size = ml) (argsL rest : List Value) {ps : List FieldType} {r : Option FieldType} (hds : parseMethodDescriptor y.desc = some ⟨ps, r⟩) (hlen : argsL.length = ps.length) (has : (Value.ref a :: argsL).toArray = as') (hst : St = argsL.reverse ++ .ref a :: rest) (hW : (rest.map fun v => v.category).sum ≤ W)
    (hc : cells + rm.cells ≤ R.cells) (hs : slots + rm.slots ≤ R.slots)
    (K : ∀ T' v L, Stand p l e R s m args below meth c T' (locs ++ L) (cells + rm.cells) (slots + rm.slots) → Q v T'.heap L → Go p e below P T' (mkF m pc' Ls (v.toList ++ rest))) : Go p e below P T (mkF m pc Ls St) := by
  subst hp has hst
  obtain ⟨cB, kB, q1, q2, q3⟩ := isOf (T := T) B.z eT E
  obtain ⟨v, _, ⟨T', L', k', n'⟩, -, X', ⟨Lc, hQ, q4, q5, q6⟩, st⟩ := X.virtualBack B.x (y := y) (z := z) B.ow (mvT B.z w1) (mvT B.z w2) hnf (mvT B.z w3) (mvT B.z w4) hy (backOf (W := W) hM B.z w6 w5 hf hl) q1 q3 (g := mkF m pc Ls (argsL.reverse ++ .ref a :: rest)) rfl (by rw [B.mx]; exact hsz) (Steps.refl _) (argsL := argsL) (rest := rest) (lenOf hds hlen) rfl (by show 2 * 0 + _ ≤ _; omega) (hb B.b hd) (fun _ _ => ⟨rfl, eT, hc, hs⟩)
  dsimp only [Pt.U, Pt.locs, Pt.cells, Pt.slots] at X' q4 q5 q6 st hQ
  subst q4 q5 q6
  exact Go.via (fun t k => st.trans k) (K T' v Lc X' hQ)
theorem own_nf (B : Fix p s m meth c Z a0 own bytes ml rt) {y z : MethodName} {C : String} (w3 : (Jvm.Cond.selects C y z).before a0 Z = true) (hq : y = z := by rfl) : NotFace s z := by
  subst hq; exact notFace_of_selects (args := #[]) (mvT B.z w3)
end OwnCalls
end OwnLayer

/-! OWN LAYER 3: an array of references made on the road. -/
section OwnArrays
variable {p : Program} {l : Launch} {e : Env} {R : Room} {s : State} {m : MethodId} {args : Array Value} {below : List Frame} {meth : Method} {c : Code} {T : State} {locs : List Loc} {cells slots : Nat} {Z : State} {a0 : Array Value} {h : Heap} {P : State → Outcome → Prop} {bytes : ByteArray} {own : String} {rt : Option FieldType} {ml : Nat}
variable {pc pc' : Nat} {Ls : Array Slot} {St : List Value}
theorem own_anewarray (B : Fix p s m meth c Z a0 own bytes ml rt) (X : Stand p l e R s m args below meth c T locs cells slots) {C : String} {index : Nat} {n : Int32} (N : Nat) (eT : T.heap = h) (hd : decode bytes pc = .ok (.anewarray index, 3)) (hp : pc + 3 = pc') (w1 : (Jvm.Cond.classLink own index C).before a0 Z = true) (w2 : (Jvm.Cond.arrayOver (.object C)).before a0 Z = true) (hn : ¬ n < 0) (hN : n.toNatClampNeg ≤ N) (hb8 : N * 8 ≤ 536870912) (hc : cells + 1 ≤ R.cells) (hl : slots + N ≤ R.slots)
    (K : ∀ T' h' b k, Stand p l e R s m args below meth c T' locs (cells + 1) (slots + N) → T'.heap = h' → b = h.size → Ext h h' → Arv Z h' b k (.object C) n (List.replicate N .null) .null → Ovr Z k C → Go p e below P T' (mkF m pc' Ls (.ref b :: St))) : Go p e below P T (mkF m pc Ls (.int n :: St)) := by
  subst hp
  obtain ⟨T', h', cA, X', e', E', A', O', st⟩ := newR X B.x B.z B.ow w1 w2 eT (g := mkF m pc Ls (.int n :: St)) rfl (hb B.b hd) rfl hn (cap := N) hN hb8 hc hl
  exact Go.via st (K T' h' h.size cA X' e' rfl E' ((Arv.new A' hn).pad (pad_rep [] .null N)) O')
theorem own_aastore (B : Fix p s m meth c Z a0 own bytes ml rt) (X : Stand p l e R s m args below meth c T locs cells slots) {C : String} {b w : Addr} {k : ClassId} {z j : Int32} {vs : List Value} {dv : Value} (i : Nat) (eT : T.heap = h) (V : Arv Z h b k (.object C) z vs dv) (O : Ovr Z k C) (I : Ins Z h w C true) (hd : decode bytes pc = .ok (.aastore, 1)) (hp : pc + 1 = pc') (hj : ¬ j < 0 ∧ j < z) (hi : j.toNatClampNeg = i) (hl : i < vs.length)
    (K : ∀ T' h', Stand p l e R s m args below meth c T' (locs ++ [⟨b, j.toNatClampNeg⟩]) cells slots → T'.heap = h' → Wr h h' b j.toNatClampNeg (.ref w) → Arv Z h' b k (.object C) z (vs.set i (.ref w)) dv → Go p e below P T' (mkF m pc' Ls St)) : Go p e below P T (mkF m pc Ls (.ref w :: .int j :: .ref b :: St)) := by
  subst hp
  obtain ⟨cl, Ar, q, S, N, H, G⟩ := V
  obtain ⟨T', h', X', e', W', st⟩ := stR X B.x B.z eT Ar (j := j) (inb_of S hj) rfl (Sto.ofV Ar q O I) (g := mkF m pc Ls (.ref w :: .int j :: .ref b :: St)) rfl rfl (hb B.b hd)
  exact Go.via st (K T' h' X' e' W' (Arv.set Ar q S N H G rfl W' i hi hl))
theorem own_aaload (B : Fix p s m meth c Z a0 own bytes ml rt) (X : Stand p l e R s m args below meth c T locs cells slots) {ty : FieldType} {b : Addr} {k : ClassId} {z j : Int32} {vs : List Value} {dv v : Value} (eT : T.heap = h) (V : Arv Z h b k ty z vs dv) (ht : ty.isReference = true) (hd : decode bytes pc = .ok (.aaload, 1)) (hp : pc + 1 = pc') (hj : ¬ j < 0 ∧ j < z) (hv : vs.getD j.toNatClampNeg dv = v)
    (K : Go p e below P T (mkF m pc' Ls (v :: St))) : Go p e below P T (mkF m pc Ls (.int j :: .ref b :: St)) := by
  subst hp
  obtain ⟨cl, Ar, q, S, N, H, G⟩ := V
  exact Go.via (fun t k => X.aaload B.x (j := j) (v := v) (by rw [eT]; exact Ar.1) (State.isArrayOf_alike B.z.alike Ar.2.1) ht Ar.2.2 (inb_of S hj) (H.at (inb_of S hj) hv) (g := mkF m pc Ls (.int j :: .ref b :: St)) rfl rfl (hb B.b hd) _ k) K
end OwnArrays

/-! OWN LAYER 4: objects and arrays of ints made and written on the road. -/
section OwnObjects
variable {p : Program} {l : Launch} {e : Env} {R : Room} {s : State} {m : MethodId} {args : Array Value} {below : List Frame} {meth : Method} {c : Code} {T : State} {locs : List Loc} {cells slots : Nat} {Z : State} {a0 : Array Value} {h : Heap} {P : State → Outcome → Prop} {bytes : ByteArray} {own : String} {rt : Option FieldType} {ml : Nat}
variable {pc pc' : Nat} {Ls : Array Slot} {St : List Value}
theorem own_new (B : Fix p s m meth c Z a0 own bytes ml rt) (X : Stand p l e R s m args below meth c T locs cells slots) {C : String} {index nn : Nat} (eT : T.heap = h) (hd : decode bytes pc = .ok (.new index, 3)) (hp : pc + 3 = pc') (w1 : (Jvm.Cond.classLink own index C).before a0 Z = true) (w2 : (Jvm.Cond.instantiable C nn).before a0 Z = true) (w3 : (Jvm.Cond.initialized C).before a0 Z = true) (hc : cells + 1 ≤ R.cells) (hl : slots + nn ≤ R.slots)
    (K : ∀ T' h' b, Stand p l e R s m args below meth c T' locs (cells + 1) (slots + nn) → T'.heap = h' → b = h.size → Ext h h' → Exa Z h' b C → (∀ {O nm d : String} {ty : FieldType}, Laid Z a0 C O nm d → parseFieldDescriptor d = some ty → Fld Z h' b O nm d (defaultValue ty)) → Go p e below P T' (mkF m pc' Ls (.ref b :: St))) : Go p e below P T (mkF m pc Ls St) := by
  subst hp
  obtain ⟨T', h', X', e', E', A', D', -, st⟩ := newO X B.x B.z B.ow w1 w2 w3 eT (g := mkF m pc Ls St) rfl (hb B.b hd) hc hl
  exact Go.via st (K T' h' _ X' e' rfl E' A' D')
theorem own_putF (B : Fix p s m meth c Z a0 own bytes ml rt) (X : Stand p l e R s m args below meth c T locs cells slots) {O n d C : String} {index kk : Nat} {ty : FieldType} {a : Addr} {v old : Value} (eT : T.heap = h) (F : Fld Z h a O n d old) (E : Exa Z h a C) (L : (Jvm.Cond.lays C O n d).before a0 Z = true ∨ ((Jvm.Cond.laysFinal C O n d).before a0 Z = true ∧ own = O ∧ meth.name = "<init>")) (wi : (Jvm.Cond.instantiable C kk).before a0 Z = true)
    (hty : parseFieldDescriptor d = some ty) (hn : narrow ty v = v) (hf : fits ty v = true) (hd : decode bytes pc = .ok (.putfield index, 3)) (hp : pc + 3 = pc') (w : (Jvm.Cond.fieldLink own index O n d).before a0 Z = true)
    (K : ∀ T' h', Stand p l e R s m args below meth c T' (locs ++ [⟨a, Jvm.RoadKit.slotOf Z O n d⟩]) cells slots → T'.heap = h' → Wr h h' a (Jvm.RoadKit.slotOf Z O n d) v → Go p e below P T' (mkF m pc' Ls St)) : Go p e below P T (mkF m pc Ls (v :: .ref a :: St)) := by
  subst hp
  obtain ⟨T', h', X', e', W', st⟩ := putF X B.x B.z B.ow (host := "") (Or.inl w) Via.refl eT F E L wi hty hn hf (g := mkF m pc Ls (v :: .ref a :: St)) rfl rfl (hb B.b hd)
  exact Go.via st (K T' h' X' e' W')
theorem own_initO (B : Fix p s m meth c Z a0 own bytes ml rt) (X : Stand p l e R s m args below meth c T locs cells slots) {index : Nat} {a : Addr} (W : Nat) (eT : T.heap = h) (hd : decode bytes pc = .ok (.invokespecial index, 3)) (hp : pc + 3 = pc') (w1 : (Jvm.Cond.methodLink own index Lib.objectInit).before a0 Z = true) (w2 : (Jvm.Cond.instanceMethod Lib.objectInit).before a0 Z = true) (w3 : (Jvm.Cond.code Lib.objectInit object_method_1_code 1 none).before a0 Z = true) (hsz : Ls.size = ml) (hf : 1 ≤ R.frames) (hW : (St.map fun v => v.category).sum ≤ W) (hl : W + 12 ≤ R.locals)
    (K : ∀ T', Stand p l e R s m args below meth c T' locs cells slots → T'.heap = h → Go p e below P T' (mkF m pc' Ls St)) : Go p e below P T (mkF m pc Ls (.ref a :: St)) := by
  subst hp
  obtain ⟨T', X', e', st⟩ := initO X B.x B.z B.ow w1 w2 w3 eT (g := mkF m pc Ls (.ref a :: St)) rfl (by rw [B.mx]; exact hsz) rfl (hb B.b hd) hf (W := W) (by show 2 * 0 + _ ≤ _; omega) hl
  exact Go.via st (K T' X' e')
theorem own_newarrayI (B : Fix p s m meth c Z a0 own bytes ml rt) (X : Stand p l e R s m args below meth c T locs cells slots) {n : Int32} (N : Nat) (eT : T.heap = h) (hd : decode bytes pc = .ok (.newarray .int, 2)) (hp : pc + 2 = pc') (w : (Jvm.Cond.arrayClass .int).before a0 Z = true) (hn : ¬ n < 0) (hN : n.toNatClampNeg ≤ N) (hb8 : N * 8 ≤ 536870912) (hc : cells + 1 ≤ R.cells) (hl : slots + N ≤ R.slots)
    (K : ∀ T' h' b k, Stand p l e R s m args below meth c T' locs (cells + 1) (slots + N) → T'.heap = h' → b = h.size → Ext h h' → Arv Z h' b k .int n [] (.int 0) → Exa Z h' b "[I" → Go p e below P T' (mkF m pc' Ls (.ref b :: St))) : Go p e below P T (mkF m pc Ls (.int n :: St)) := by
  subst hp
  obtain ⟨T', h', cA, X', e', E', A', Ex, st⟩ := newPE X B.x B.z (aty := .int) w eT (g := mkF m pc Ls (.int n :: St)) rfl (hb B.b hd) rfl hn (cap := N) hN hb8 hc hl (ad := "[I") (by decide)
  exact Go.via st (K T' h' _ cA X' e' rfl E' (Arv.new A' hn) Ex)
theorem own_iastore (B : Fix p s m meth c Z a0 own bytes ml rt) (X : Stand p l e R s m args below meth c T locs cells slots) {b : Addr} {k : ClassId} {z j x : Int32} {vs : List Value} {dv : Value} (i : Nat) (eT : T.heap = h) (V : Arv Z h b k .int z vs dv) (hd : decode bytes pc = .ok (.iastore, 1)) (hp : pc + 1 = pc') (hj : ¬ j < 0 ∧ j < z) (hi : j.toNatClampNeg = i) (hl : i < vs.length)
    (K : ∀ T' h', Stand p l e R s m args below meth c T' (locs ++ [⟨b, j.toNatClampNeg⟩]) cells slots → T'.heap = h' → Wr h h' b j.toNatClampNeg (.int x) → Arv Z h' b k .int z (vs.set i (.int x)) dv → Go p e below P T' (mkF m pc' Ls St)) : Go p e below P T (mkF m pc Ls (.int x :: .int j :: .ref b :: St)) := by
  subst hp
  obtain ⟨cl, Ar, q, S, N, H, G⟩ := V
  obtain ⟨T', h', X', e', W', st⟩ := stI X B.x B.z eT Ar (j := j) (inb_of S hj) (g := mkF m pc Ls (.int x :: .int j :: .ref b :: St)) rfl rfl (hb B.b hd)
  exact Go.via st (K T' h' X' e' W' (Arv.set Ar q S N H G rfl W' i hi hl))
theorem own_iaload (B : Fix p s m meth c Z a0 own bytes ml rt) (X : Stand p l e R s m args below meth c T locs cells slots) {b : Addr} {k : ClassId} {z j : Int32} {vs : List Value} {dv v : Value} (eT : T.heap = h) (V : Arv Z h b k .int z vs dv) (hd : decode bytes pc = .ok (.iaload, 1)) (hp : pc + 1 = pc') (hj : ¬ j < 0 ∧ j < z) (hv : vs.getD j.toNatClampNeg dv = v)
    (K : Go p e below P T (mkF m pc' Ls (v :: St))) : Go p e below P T (mkF m pc Ls (.int j :: .ref b :: St)) := by
  subst hp
  obtain ⟨cl, Ar, q, S, N, H, G⟩ := V
  exact Go.via (fun t k => X.iaload B.x (j := j) (v := v) (by rw [eT]; exact Ar.1) (State.isArrayOf_alike B.z.alike Ar.2.1) Ar.2.2 (inb_of S hj) (H.at (inb_of S hj) hv) (g := mkF m pc Ls (.int j :: .ref b :: St)) rfl rfl (hb B.b hd) _ k) K
/-- an array of arrays: made -/
theorem own_anewarrayA (B : Fix p s m meth c Z a0 own bytes ml rt) (X : Stand p l e R s m args below meth c T locs cells slots) {index : Nat} {n : Int32} (N : Nat) (eT : T.heap = h) (hd : decode bytes pc = .ok (.anewarray index, 3)) (hp : pc + 3 = pc') (w1 : (Jvm.Cond.classLink own index "[I").before a0 Z = true) (w2 : (Jvm.Cond.arrayOver (.array .int)).before a0 Z = true) (hn : ¬ n < 0) (hN : n.toNatClampNeg ≤ N) (hb8 : N * 8 ≤ 536870912) (hc : cells + 1 ≤ R.cells) (hl : slots + N ≤ R.slots)
    (K : ∀ T' h' b k, Stand p l e R s m args below meth c T' locs (cells + 1) (slots + N) → T'.heap = h' → b = h.size → Ext h h' → Arv Z h' b k (.array .int) n (List.replicate N .null) .null → OvrA Z k .int "[I" → Go p e below P T' (mkF m pc' Ls (.ref b :: St))) : Go p e below P T (mkF m pc Ls (.int n :: St)) := by
  subst hp
  obtain ⟨T', h', cA, X', e', E', A', Ex, O', st⟩ := newRA X B.x B.z B.ow (C := "[I") (ty := .int) (by decide) w1 w2 eT (g := mkF m pc Ls (.int n :: St)) rfl (hb B.b hd) rfl hn (cap := N) hN hb8 hc hl (ad := "[[I") (by decide)
  exact Go.via st (K T' h' h.size cA X' e' rfl E' ((Arv.new A' hn).pad (pad_rep [] .null N)) O')
theorem own_aastoreA (B : Fix p s m meth c Z a0 own bytes ml rt) (X : Stand p l e R s m args below meth c T locs cells slots) {b w : Addr} {k : ClassId} {z j : Int32} {vs : List Value} {dv : Value} (i : Nat) (eT : T.heap = h) (V : Arv Z h b k (.array .int) z vs dv) (O : OvrA Z k .int "[I") (I : Ins Z h w "[I" true) (hd : decode bytes pc = .ok (.aastore, 1)) (hp : pc + 1 = pc') (hj : ¬ j < 0 ∧ j < z) (hi : j.toNatClampNeg = i) (hl : i < vs.length)
    (K : ∀ T' h', Stand p l e R s m args below meth c T' (locs ++ [⟨b, j.toNatClampNeg⟩]) cells slots → T'.heap = h' → Wr h h' b j.toNatClampNeg (.ref w) → Arv Z h' b k (.array .int) z (vs.set i (.ref w)) dv → Go p e below P T' (mkF m pc' Ls St)) : Go p e below P T (mkF m pc Ls (.ref w :: .int j :: .ref b :: St)) := by
  subst hp
  obtain ⟨cl, Ar, q, S, N, H, G⟩ := V
  obtain ⟨T', h', X', e', W', st⟩ := stR X B.x B.z eT Ar (j := j) (inb_of S hj) rfl (Sto.ofVA Ar q O I) (g := mkF m pc Ls (.ref w :: .int j :: .ref b :: St)) rfl rfl (hb B.b hd)
  exact Go.via st (K T' h' X' e' W' (Arv.set Ar q S N H G rfl W' i hi hl))
/-- a constructor by its contract -/
theorem own_callC (B : Fix p s m meth c Z a0 own bytes ml rt) (X : Stand p l e R s m args below meth c T locs cells slots) {y : MethodName} {by' : ByteArray} {ml' index W : Nat} {rm : Room} {as' : Array Value} {a : Addr} {Q : Option Value → Heap → List Loc → Prop} (hM : Con l Z y by' ml' none [] rm as' h Q) (eT : T.heap = h) (hy1 : y.name = "<init>")
    (hd : decode bytes pc = .ok (.invokespecial index, 3)) (hp : pc + 3 = pc') (w1 : (Jvm.Cond.methodLink own index y).before a0 Z = true) (w2 : (Jvm.Cond.instanceMethod y).before a0 Z = true) (w3 : (Jvm.Cond.initialized y.cls).before a0 Z = true) (w4 : (Jvm.Cond.code y by' ml' none).before a0 Z = true)
    (hy : y.cls ≠ "java/lang/invoke/MethodHandle" ∧ y.cls ≠ "java/lang/invoke/VarHandle") (hf : rm.frames + 1 ≤ R.frames) (hl : W + (ml' + 11) + rm.locals ≤ R.locals) (hsz : Ls.size = ml) (argsL rest : List Value) {ps : List FieldType} {r : Option FieldType} (hds : parseMethodDescriptor y.desc = some ⟨ps, r⟩) (hlen : argsL.length = ps.length) (has : (Value.ref a :: argsL).toArray = as') (hst : St = argsL.reverse ++ .ref a :: rest) (hW : (rest.map fun v => v.category).sum ≤ W)
    (hc : cells + rm.cells ≤ R.cells) (hs : slots + rm.slots ≤ R.slots)
    (K : ∀ T' v L, Stand p l e R s m args below meth c T' (locs ++ L) (cells + rm.cells) (slots + rm.slots) → Q v T'.heap L → Go p e below P T' (mkF m pc' Ls (v.toList ++ rest))) : Go p e below P T (mkF m pc Ls St) := by
  subst hp has hst
  obtain ⟨v, _, ⟨T', L', k', n'⟩, -, X', ⟨Lc, hQ, q4, q5, q6⟩, st⟩ := X.specialBack B.x (y := y) hy1 B.ow (mvT B.z w1) (mvT B.z w2) (mvT B.z w4) hy (backOf (W := W) hM B.z w4 w3 hf hl) (g := mkF m pc Ls (argsL.reverse ++ .ref a :: rest)) rfl (by rw [B.mx]; exact hsz) (Steps.refl _) (a := a) (argsL := argsL) (rest := rest) (lenOf hds hlen) rfl (by show 2 * 0 + _ ≤ _; omega) (hb B.b hd) (fun _ _ => ⟨rfl, eT, hc, hs⟩)
  dsimp only [Pt.U, Pt.locs, Pt.cells, Pt.slots] at X' q4 q5 q6 st hQ
  subst q4 q5 q6
  exact Go.via (fun t k => st.trans k) (K T' v Lc X' hQ)
end OwnObjects
section OwnVoid
variable {p : Program} {l : Launch} {e : Env} {R : Room} {s : State} {m : MethodId} {args : Array Value} {below : List Frame} {meth : Method} {c : Code} {T : State} {locs : List Loc} {cells slots : Nat} {Z : State} {a0 : Array Value} {bytes : ByteArray} {own : String} {ml : Nat}
theorem own_retV (B : Fix p s m meth c Z a0 own bytes ml none) (X : Stand p l e R s m args below meth c T locs cells slots) {pc : Nat} {Ls : Array Slot} {Q : Option Value → Heap → List Loc → Prop} {ck sk : Nat} (hd : decode bytes pc = .ok (.return_, 1)) (hQ : Q none T.heap locs) (h1 : cells ≤ ck) (h2 : slots ≤ sk) : Go p e below (Fini s below Q ck sk) T (mkF m pc Ls []) := by
  obtain ⟨fs, hr, hrun, hended, hW, hsame⟩ := X.leave (v := none) (fun _ => rfl) B.lk
  exact ⟨_, _, X.returnOut B.x B.ret (hb B.b hd) hr, hrun, hended, _, _, rfl, hQ, ⟨_, rfl⟩, hW, hsame.mono h1 h2⟩
end OwnVoid

theorem own_rem3 (x : Int32) : (x &&& (2147483647 : Int32)) % (3 : Int32) = (0 : Int32) ∨ (x &&& (2147483647 : Int32)) % (3 : Int32) = (1 : Int32) ∨ (x &&& (2147483647 : Int32)) % (3 : Int32) = (2 : Int32) := by
  have e1 : (x &&& (2147483647 : Int32)).toInt = x.toInt % 2 ^ 31 := Jvm.Kit.i32_mask x (2147483647 : Int32) (k := 31) (by decide) (by decide)
  have e2 : ((x &&& (2147483647 : Int32)) % (3 : Int32)).toInt = (x &&& (2147483647 : Int32)).toInt.tmod 3 := Int32.toInt_mod _ _
  rw [Int.tmod_eq_emod_of_nonneg (by omega)] at e2
  have : ((x &&& (2147483647 : Int32)) % (3 : Int32)).toInt = 0 ∨ ((x &&& (2147483647 : Int32)) % (3 : Int32)).toInt = 1 ∨ ((x &&& (2147483647 : Int32)) % (3 : Int32)).toInt = 2 := by omega
  simp only [← Int32.toInt_inj]
  exact this
/-! THE STACK OF INTS AS IT STANDS IN A HEAP: one block; n items; the first eight places told. -/
abbrev IS : String := "com/example/retrace/retrace/grammar/IntStack"
def Stk (Z : State) (h : Heap) (o bb tt : Addr) (kb kt : ClassId) (n e : Int32) (vs : List Value) : Prop :=
  Exa Z h o IS ∧ Fld Z h o IS "blocks" "[[I" (.ref bb) ∧ Fld Z h o IS "top" "[I" (.ref tt) ∧ Fld Z h o IS "size" "I" (.int n) ∧ Fld Z h o IS "topEnd" "I" (.int e) ∧ Arv Z h bb kb (.array .int) 1 [.ref tt] .null ∧ Arv Z h tt kt .int 4096 vs (.int 0) ∧ o ≠ bb ∧ o ≠ tt ∧ bb ≠ tt
section OwnStk
variable {Z : State} {a0 : Array Value} {h h' : Heap} {o bb tt : Addr} {kb kt : ClassId} {n e n' : Int32} {vs vs' : List Value} {ws : List Addr}
theorem own_lB (hw : ∀ d ∈ tables_1, d.before a0 Z = true) : Laid Z a0 IS IS "blocks" "[[I" := Or.inl (hw _ (List.mem_of_getElem? (i := 14) rfl))
theorem own_lT (hw : ∀ d ∈ tables_1, d.before a0 Z = true) : Laid Z a0 IS IS "top" "[I" := Or.inl (hw _ (List.mem_of_getElem? (i := 16) rfl))
theorem own_lS (hw : ∀ d ∈ tables_1, d.before a0 Z = true) : Laid Z a0 IS IS "size" "I" := Or.inl (hw _ (List.mem_of_getElem? (i := 25) rfl))
theorem own_lE (hw : ∀ d ∈ tables_1, d.before a0 Z = true) : Laid Z a0 IS IS "topEnd" "I" := Or.inl (hw _ (List.mem_of_getElem? (i := 23) rfl))
theorem own_pB : parseFieldDescriptor "[[I" = some (.array (.array .int)) := by decide
theorem own_pT : parseFieldDescriptor "[I" = some (.array .int) := by decide
theorem own_pI : parseFieldDescriptor "I" = some .int := by decide
theorem Stk.setSize (hw : ∀ d ∈ tables_1, d.before a0 Z = true) (S : Stk Z h o bb tt kb kt n e vs) (W : Wr h h' o (Jvm.RoadKit.slotOf Z IS "size" "I") (.int n')) : Stk Z h' o bb tt kb kt n' e vs := by
  obtain ⟨E, F1, F2, F3, F4, V1, V2, n1, n2, n3⟩ := S
  exact ⟨E.wr W, F1.other W (Or.inr (slot_ne (own_lB hw) (own_lS hw) (by decide) own_pB own_pI)), F2.other W (Or.inr (slot_ne (own_lT hw) (own_lS hw) (by decide) own_pT own_pI)), F3.same W, F4.other W (Or.inr (slot_ne (own_lE hw) (own_lS hw) (by decide) own_pI own_pI)), V1.other W n1.symm, V2.other W n2.symm, n1, n2, n3⟩
theorem Stk.setEnd (hw : ∀ d ∈ tables_1, d.before a0 Z = true) (S : Stk Z h o bb tt kb kt n e vs) (W : Wr h h' o (Jvm.RoadKit.slotOf Z IS "topEnd" "I") (.int n')) : Stk Z h' o bb tt kb kt n n' vs := by
  obtain ⟨E, F1, F2, F3, F4, V1, V2, n1, n2, n3⟩ := S
  exact ⟨E.wr W, F1.other W (Or.inr (slot_ne (own_lB hw) (own_lE hw) (by decide) own_pB own_pI)), F2.other W (Or.inr (slot_ne (own_lT hw) (own_lE hw) (by decide) own_pT own_pI)), F3.other W (Or.inr (slot_ne (own_lS hw) (own_lE hw) (by decide) own_pI own_pI)), F4.same W, V1.other W n1.symm, V2.other W n2.symm, n1, n2, n3⟩
theorem Stk.setTop (hw : ∀ d ∈ tables_1, d.before a0 Z = true) (S : Stk Z h o bb tt kb kt n e vs) (W : Wr h h' o (Jvm.RoadKit.slotOf Z IS "top" "[I") (.ref tt)) : Stk Z h' o bb tt kb kt n e vs := by
  obtain ⟨E, F1, F2, F3, F4, V1, V2, n1, n2, n3⟩ := S
  exact ⟨E.wr W, F1.other W (Or.inr (slot_ne (own_lB hw) (own_lT hw) (by decide) own_pB own_pT)), F2.same W, F3.other W (Or.inr (slot_ne (own_lS hw) (own_lT hw) (by decide) own_pI own_pT)), F4.other W (Or.inr (slot_ne (own_lE hw) (own_lT hw) (by decide) own_pI own_pT)), V1.other W n1.symm, V2.other W n2.symm, n1, n2, n3⟩
theorem Stk.setAt {sl : Nat} {v : Value} (S : Stk Z h o bb tt kb kt n e vs) (W : Wr h h' tt sl v) (V : Arv Z h' tt kt .int 4096 vs' (.int 0)) : Stk Z h' o bb tt kb kt n e vs' := by
  obtain ⟨E, F1, F2, F3, F4, V1, V2, n1, n2, n3⟩ := S
  exact ⟨E.wr W, F1.other W (Or.inl n2), F2.other W (Or.inl n2), F3.other W (Or.inl n2), F4.other W (Or.inl n2), V1.other W n3, V, n1, n2, n3⟩
end OwnStk
/-- what a call on the stack leaves -/
def Sq (Z : State) (n0 : Nat) (h0 : Heap) (o bb tt : Addr) (kb kt : ClassId) (v0 : Option Value) (n : Int32) (vs : List Value) (v : Option Value) (h : Heap) (L : List Loc) : Prop := v = v0 ∧ Fr n0 L ∧ Keep h0 h [o, tt] ∧ Stk Z h o bb tt kb kt n n vs
/-- what the constructor leaves -/
def Sn (Z : State) (n0 : Nat) (h0 : Heap) (o : Addr) (v : Option Value) (h : Heap) (L : List Loc) : Prop := v = none ∧ Fr n0 L ∧ Keep h0 h [o] ∧ ∃ (bb tt : Addr) (kb kt : ClassId), h0.size ≤ bb ∧ h0.size ≤ tt ∧ Stk Z h o bb tt kb kt 0 0 (List.replicate 8 (.int 0))

theorem pnS : plainName IS = true := by first | (simp [plainName, overriddenIn, IS]; done) | decide +kernel
theorem pnL : plainName x.cls = true := by first | (simp [plainName, overriddenIn, x]; done) | decide +kernel
def Q0 (n0 : Nat) (v : Option Value) (h : Heap) (L : List Loc) : Prop := v = some (.int 1) ∧ Fr n0 L
theorem d1_0 : decode prog_43_method_1_code 0 = .ok (.aload_n 0, 1) := by decide +kernel
theorem d1_1 : decode prog_43_method_1_code 1 = .ok (.invokespecial 3, 3) := by decide +kernel
theorem d1_4 : decode prog_43_method_1_code 4 = .ok (.aload_n 0, 1) := by decide +kernel
theorem d1_5 : decode prog_43_method_1_code 5 = .ok (.iconst 1, 1) := by decide +kernel
theorem d1_6 : decode prog_43_method_1_code 6 = .ok (.anewarray 9, 3) := by decide +kernel
theorem d1_9 : decode prog_43_method_1_code 9 = .ok (.dup, 1) := by decide +kernel
theorem d1_10 : decode prog_43_method_1_code 10 = .ok (.iconst 0, 1) := by decide +kernel
theorem d1_11 : decode prog_43_method_1_code 11 = .ok (.sipush 4096, 3) := by decide +kernel
theorem d1_14 : decode prog_43_method_1_code 14 = .ok (.newarray .int, 2) := by decide +kernel
theorem d1_16 : decode prog_43_method_1_code 16 = .ok (.aastore, 1) := by decide +kernel
theorem d1_17 : decode prog_43_method_1_code 17 = .ok (.putfield 11, 3) := by decide +kernel
theorem d1_20 : decode prog_43_method_1_code 20 = .ok (.aload_n 0, 1) := by decide +kernel
theorem d1_21 : decode prog_43_method_1_code 21 = .ok (.aload_n 0, 1) := by decide +kernel
theorem d1_22 : decode prog_43_method_1_code 22 = .ok (.getfield 11, 3) := by decide +kernel
theorem d1_25 : decode prog_43_method_1_code 25 = .ok (.iconst 0, 1) := by decide +kernel
theorem d1_26 : decode prog_43_method_1_code 26 = .ok (.aaload, 1) := by decide +kernel
theorem d1_27 : decode prog_43_method_1_code 27 = .ok (.putfield 15, 3) := by decide +kernel
theorem d1_30 : decode prog_43_method_1_code 30 = .ok (.return_, 1) := by decide +kernel
theorem ef1 (m : MethodId) (x0 : Addr) : entryFrame m #[(.ref x0)] 1 = mkF m 0 #[.val (.ref x0)] [] := by first | (simp [entryFrame, mkF, argsToLocals, Value.category]; done) | rfl
theorem d3_0 : decode prog_43_method_2_code 0 = .ok (.aload_n 0, 1) := by decide +kernel
theorem d3_1 : decode prog_43_method_2_code 1 = .ok (.getfield 18, 3) := by decide +kernel
theorem d3_4 : decode prog_43_method_2_code 4 = .ok (.sipush 4096, 3) := by decide +kernel
theorem d3_7 : decode prog_43_method_2_code 7 = .ok (.if_icmp .ne 7, 3) := by decide +kernel
theorem d3_14 : decode prog_43_method_2_code 14 = .ok (.aload_n 0, 1) := by decide +kernel
theorem d3_15 : decode prog_43_method_2_code 15 = .ok (.getfield 15, 3) := by decide +kernel
theorem d3_18 : decode prog_43_method_2_code 18 = .ok (.aload_n 0, 1) := by decide +kernel
theorem d3_19 : decode prog_43_method_2_code 19 = .ok (.dup, 1) := by decide +kernel
theorem d3_20 : decode prog_43_method_2_code 20 = .ok (.getfield 18, 3) := by decide +kernel
theorem d3_23 : decode prog_43_method_2_code 23 = .ok (.dup_x1, 1) := by decide +kernel
theorem d3_24 : decode prog_43_method_2_code 24 = .ok (.iconst 1, 1) := by decide +kernel
theorem d3_25 : decode prog_43_method_2_code 25 = .ok (.iadd, 1) := by decide +kernel
theorem d3_26 : decode prog_43_method_2_code 26 = .ok (.putfield 18, 3) := by decide +kernel
theorem d3_29 : decode prog_43_method_2_code 29 = .ok (.iload_n 1, 1) := by decide +kernel
theorem d3_30 : decode prog_43_method_2_code 30 = .ok (.iastore, 1) := by decide +kernel
theorem d3_31 : decode prog_43_method_2_code 31 = .ok (.aload_n 0, 1) := by decide +kernel
theorem d3_32 : decode prog_43_method_2_code 32 = .ok (.dup, 1) := by decide +kernel
theorem d3_33 : decode prog_43_method_2_code 33 = .ok (.getfield 25, 3) := by decide +kernel
theorem d3_36 : decode prog_43_method_2_code 36 = .ok (.iconst 1, 1) := by decide +kernel
theorem d3_37 : decode prog_43_method_2_code 37 = .ok (.iadd, 1) := by decide +kernel
theorem d3_38 : decode prog_43_method_2_code 38 = .ok (.putfield 25, 3) := by decide +kernel
theorem d3_41 : decode prog_43_method_2_code 41 = .ok (.return_, 1) := by decide +kernel
theorem ef3 (m : MethodId) (x0 : Addr) (x1 : Int32) : entryFrame m #[(.ref x0), (.int x1)] 2 = mkF m 0 #[.val (.ref x0), .val (.int x1)] [] := by first | (simp [entryFrame, mkF, argsToLocals, Value.category]; done) | rfl
theorem d5_0 : decode prog_43_method_4_code 0 = .ok (.aload_n 0, 1) := by decide +kernel
theorem d5_1 : decode prog_43_method_4_code 1 = .ok (.getfield 15, 3) := by decide +kernel
theorem d5_4 : decode prog_43_method_4_code 4 = .ok (.aload_n 0, 1) := by decide +kernel
theorem d5_5 : decode prog_43_method_4_code 5 = .ok (.dup, 1) := by decide +kernel
theorem d5_6 : decode prog_43_method_4_code 6 = .ok (.getfield 18, 3) := by decide +kernel
theorem d5_9 : decode prog_43_method_4_code 9 = .ok (.iconst 1, 1) := by decide +kernel
theorem d5_10 : decode prog_43_method_4_code 10 = .ok (.isub, 1) := by decide +kernel
theorem d5_11 : decode prog_43_method_4_code 11 = .ok (.dup_x1, 1) := by decide +kernel
theorem d5_12 : decode prog_43_method_4_code 12 = .ok (.putfield 18, 3) := by decide +kernel
theorem d5_15 : decode prog_43_method_4_code 15 = .ok (.iaload, 1) := by decide +kernel
theorem d5_16 : decode prog_43_method_4_code 16 = .ok (.istore_n 1, 1) := by decide +kernel
theorem d5_17 : decode prog_43_method_4_code 17 = .ok (.aload_n 0, 1) := by decide +kernel
theorem d5_18 : decode prog_43_method_4_code 18 = .ok (.dup, 1) := by decide +kernel
theorem d5_19 : decode prog_43_method_4_code 19 = .ok (.getfield 25, 3) := by decide +kernel
theorem d5_22 : decode prog_43_method_4_code 22 = .ok (.iconst 1, 1) := by decide +kernel
theorem d5_23 : decode prog_43_method_4_code 23 = .ok (.isub, 1) := by decide +kernel
theorem d5_24 : decode prog_43_method_4_code 24 = .ok (.putfield 25, 3) := by decide +kernel
theorem d5_27 : decode prog_43_method_4_code 27 = .ok (.aload_n 0, 1) := by decide +kernel
theorem d5_28 : decode prog_43_method_4_code 28 = .ok (.getfield 18, 3) := by decide +kernel
theorem d5_31 : decode prog_43_method_4_code 31 = .ok (.ifCond .ne 35, 3) := by decide +kernel
theorem d5_34 : decode prog_43_method_4_code 34 = .ok (.aload_n 0, 1) := by decide +kernel
theorem d5_35 : decode prog_43_method_4_code 35 = .ok (.getfield 25, 3) := by decide +kernel
theorem d5_38 : decode prog_43_method_4_code 38 = .ok (.ifCond .le 28, 3) := by decide +kernel
theorem d5_66 : decode prog_43_method_4_code 66 = .ok (.iload_n 1, 1) := by decide +kernel
theorem d5_67 : decode prog_43_method_4_code 67 = .ok (.ireturn, 1) := by decide +kernel
theorem ef5 (m : MethodId) (x0 : Addr) : entryFrame m #[(.ref x0)] 2 = mkF m 0 #[.val (.ref x0), .unset] [] := by first | (simp [entryFrame, mkF, argsToLocals, Value.category]; done) | rfl
theorem d4_0 : decode prog_43_method_7_code 0 = .ok (.aload_n 0, 1) := by decide +kernel
theorem d4_1 : decode prog_43_method_7_code 1 = .ok (.getfield 11, 3) := by decide +kernel
theorem d4_4 : decode prog_43_method_7_code 4 = .ok (.iload_n 1, 1) := by decide +kernel
theorem d4_5 : decode prog_43_method_7_code 5 = .ok (.bipush 12, 2) := by decide +kernel
theorem d4_7 : decode prog_43_method_7_code 7 = .ok (.iushr, 1) := by decide +kernel
theorem d4_8 : decode prog_43_method_7_code 8 = .ok (.aaload, 1) := by decide +kernel
theorem d4_9 : decode prog_43_method_7_code 9 = .ok (.iload_n 1, 1) := by decide +kernel
theorem d4_10 : decode prog_43_method_7_code 10 = .ok (.sipush 4095, 3) := by decide +kernel
theorem d4_13 : decode prog_43_method_7_code 13 = .ok (.iand, 1) := by decide +kernel
theorem d4_14 : decode prog_43_method_7_code 14 = .ok (.iaload, 1) := by decide +kernel
theorem d4_15 : decode prog_43_method_7_code 15 = .ok (.ireturn, 1) := by decide +kernel
theorem ef4 (m : MethodId) (x0 : Addr) (x1 : Int32) : entryFrame m #[(.ref x0), (.int x1)] 2 = mkF m 0 #[.val (.ref x0), .val (.int x1)] [] := by first | (simp [entryFrame, mkF, argsToLocals, Value.category]; done) | rfl
theorem pd0 : parseMethodDescriptor "()V" = some ⟨[], none⟩ := by decide +kernel
theorem pd1 : parseMethodDescriptor "(I)V" = some ⟨[.int], none⟩ := by decide +kernel
theorem pd2 : parseMethodDescriptor "(I)I" = some ⟨[.int], some .int⟩ := by decide +kernel
theorem pd3 : parseMethodDescriptor "()I" = some ⟨[], some .int⟩ := by decide +kernel
theorem ef0 (m : MethodId) (x0 : Int32) (x1 : Int32) (x2 : Int32) (x3 : Int32) (x4 : Int32) (x5 : Int32) : entryFrame m #[(.int x0), (.int x1), (.int x2), (.int x3), (.int x4), (.int x5)] maxLocals = mkF m 0 #[.val (.int x0), .val (.int x1), .val (.int x2), .val (.int x3), .val (.int x4), .val (.int x5), .unset, .unset, .unset, .unset, .unset, .unset, .unset] [] := by first | (simp [entryFrame, mkF, argsToLocals, Value.category, maxLocals]; done) | rfl
set_option maxRecDepth 65536 in
set_option maxHeartbeats 4000000 in
theorem c_init (l : Launch) (Z : State) (a0 : Array Value) (hw : ∀ d ∈ tables_1, d.before a0 Z = true) (o : Addr) (h0 : Heap) (n0 : Nat) (Z0 : n0 ≤ h0.size) (g1 : n0 ≤ o) (E : Exa Z h0 o IS) (F1 : Fld Z h0 o IS "blocks" "[[I" .null) (F2 : Fld Z h0 o IS "top" "[I" .null) (F3 : Fld Z h0 o IS "size" "I" (.int 0)) (F4 : Fld Z h0 o IS "topEnd" "I" (.int 0)) :
    Con l Z (⟨IS, "<init>", "()V"⟩ : MethodName) prog_43_method_1_code 1 none [] ({ frames := 1, cells := 2, slots := 4097, locals := 12 } : Room) #[.ref o] h0 (Sn Z n0 h0 o) := by
  refine own_body (plainFor_of_name pnS) hw ?_
  intro p e s m below meth c T0 B X0 e0 hnm
  refine Go.cast (ef1 m o) ?_
  refine own_aloadN B X0 d1_0 rfl rfl rfl ?_
  refine own_initO B X0 0 e0 d1_1 rfl (B.w 6 rfl) (B.w 7 rfl) (B.w 8 rfl) rfl (by decide) (by decide) (by decide) ?_
  intro T1 X1 e1
  refine own_aloadN B X1 d1_4 rfl rfl rfl ?_
  refine own_iconst B X1 d1_5 rfl (v := (1 : Int32)) rfl ?_
  refine own_anewarrayA B X1 1 e1 d1_6 rfl (B.w 9 rfl) (B.w 10 rfl) (by decide) (by decide) (by decide) (by decide) (by decide) ?_
  intro T2 h2 bb kb X2 e2 hbb E2 V2 O2
  refine own_dup B X2 d1_9 rfl rfl ?_
  refine own_iconst B X2 d1_10 rfl (v := (0 : Int32)) rfl ?_
  refine own_sipush B X2 d1_11 rfl (v := (4096 : Int32)) rfl ?_
  refine own_newarrayI B X2 4096 e2 d1_14 rfl (B.w 11 rfl) (by decide) (by decide) (by decide) (by decide) (by decide) ?_
  intro T3 h3 tt kt X3 e3 htt E3 V3 Ex3
  refine own_aastoreA B X3 0 e3 (V2.ext E3) O2 (Ins.self Ex3) d1_16 rfl ⟨by decide, by decide⟩ rfl (by decide) ?_
  intro T4 h4 X4 e4 W4 V4
  have lo : o < h0.size := E.lt
  have lb : bb < h2.size := V2.lt
  have l0 : h0.size ≤ h2.size := E2.1
  have gb : h0.size ≤ bb := Nat.le_of_eq hbb.symm
  have gt : h2.size ≤ tt := Nat.le_of_eq htt.symm
  have gt0 : h0.size ≤ tt := Nat.le_trans l0 gt
  have ob : o ≠ bb := Nat.ne_of_lt (Nat.lt_of_lt_of_le lo gb)
  have ot : o ≠ tt := Nat.ne_of_lt (Nat.lt_of_lt_of_le lo gt0)
  have bt : bb ≠ tt := Nat.ne_of_lt (Nat.lt_of_lt_of_le lb gt)
  have tb : tt ≠ bb := Ne.symm bt
  have E4 : Exa Z h4 o IS := ((E.ext E2).ext E3).wr W4
  have F14 : Fld Z h4 o IS "blocks" "[[I" .null := ((F1.ext E2).ext E3).other W4 (Or.inl ob)
  have F24 : Fld Z h4 o IS "top" "[I" .null := ((F2.ext E2).ext E3).other W4 (Or.inl ob)
  have F34 : Fld Z h4 o IS "size" "I" (.int 0) := ((F3.ext E2).ext E3).other W4 (Or.inl ob)
  have F44 : Fld Z h4 o IS "topEnd" "I" (.int 0) := ((F4.ext E2).ext E3).other W4 (Or.inl ob)
  have K4 : Keep h0 h4 [o] := (((Keep.refl h0 [o]).ext E2).ext E3).wr W4 (Or.inr gb)
  have N4 := Fr.snoc X4 (Fr.nil n0) (Nat.le_trans Z0 gb)
  have V34 : Arv Z h4 tt kt .int 4096 [] (.int 0) := V3.other W4 tb
  refine own_putF B X4 e4 F14 E4 (Or.inl (B.w 14 rfl)) (B.w 1 rfl) own_pB rfl rfl d1_17 rfl (B.w 13 rfl) ?_
  intro T5 h5 X5 e5 W5
  have K5 := K4.wr W5 (Or.inl (List.mem_of_getElem? (i := 0) rfl))
  have N5 := Fr.snoc X5 N4 g1
  have F15 := F14.same W5
  have F25 := F24.other W5 (Or.inr (slot_ne (own_lT hw) (own_lB hw) (by decide) own_pT own_pB))
  have F35 := F34.other W5 (Or.inr (slot_ne (own_lS hw) (own_lB hw) (by decide) own_pI own_pB))
  have F45 := F44.other W5 (Or.inr (slot_ne (own_lE hw) (own_lB hw) (by decide) own_pI own_pB))
  have V5 := V4.other W5 (Ne.symm ob)
  have V35 := V34.other W5 (Ne.symm ot)
  refine own_aloadN B X5 d1_20 rfl rfl rfl ?_
  refine own_aloadN B X5 d1_21 rfl rfl rfl ?_
  refine own_getF B X5 e5 F15 d1_22 rfl (B.w 13 rfl) ?_
  intro T6 X6 e6
  refine own_iconst B X6 d1_25 rfl (v := (0 : Int32)) rfl ?_
  refine own_aaload B X6 e6 V5 rfl d1_26 rfl ⟨by decide, by decide⟩ (v := .ref tt) rfl ?_
  refine own_putF B X6 e6 F25 (E4.wr W5) (Or.inl (B.w 16 rfl)) (B.w 1 rfl) own_pT rfl rfl d1_27 rfl (B.w 15 rfl) ?_
  intro T7 h7 X7 e7 W7
  have K7 := K5.wr W7 (Or.inl (List.mem_of_getElem? (i := 0) rfl))
  have N7 := Fr.snoc X7 N5 g1
  have F17 := F15.other W7 (Or.inr (slot_ne (own_lB hw) (own_lT hw) (by decide) own_pB own_pT))
  have F27 := F25.same W7
  have F37 := F35.other W7 (Or.inr (slot_ne (own_lS hw) (own_lT hw) (by decide) own_pI own_pT))
  have F47 := F45.other W7 (Or.inr (slot_ne (own_lE hw) (own_lT hw) (by decide) own_pI own_pT))
  exact own_retV B X7 d1_30 (by rw [e7]; exact ⟨rfl, N7, K7, bb, tt, kb, kt, gb, gt0, (E4.wr W5).wr W7, F17, F27, F37, F47, V5.other W7 (Ne.symm ob), (V35.other W7 (Ne.symm ot)).pad (pad_rep [] (.int 0) 8), ob, ot, bt⟩) (by decide) (by decide)
set_option maxRecDepth 65536 in
set_option maxHeartbeats 4000000 in
theorem c_push (l : Launch) (Z : State) (a0 : Array Value) (hw : ∀ d ∈ tables_1, d.before a0 Z = true) (o bb tt : Addr) (kb kt : ClassId) (n n' x : Int32) (i : Nat) (vs : List Value) (h0 : Heap) (n0 : Nat) (g1 : n0 ≤ o) (g2 : n0 ≤ tt) (S : Stk Z h0 o bb tt kb kt n n vs) (q1 : ¬ (n = (4096 : Int32))) (q2 : ¬ n < 0 ∧ n < 4096) (q3 : n.toNatClampNeg = i) (q4 : n + (1 : Int32) = n') (q5 : i < vs.length) :
    Con l Z (⟨"com/example/retrace/retrace/grammar/IntStack", "push", "(I)V"⟩ : MethodName) prog_43_method_2_code 2 none [] ({ frames := 0, cells := 0, slots := 0, locals := 0 } : Room) #[(.ref o), (.int x)] h0 (Sq Z n0 h0 o bb tt kb kt none n' (vs.set i (.int x))) := by
  refine own_body (plainFor_of_name pnS) hw ?_
  intro p e s m below meth c T0 B X0 e0 hnm
  refine Go.cast (ef3 m o x) ?_
  refine own_aloadN B X0 d3_0 rfl rfl rfl ?_
  refine own_getF B X0 e0 S.2.2.2.2.1 d3_1 rfl (B.w 22 rfl) ?_
  intro T1 X1 e1
  refine own_sipush B X1 d3_4 rfl (v := (4096 : Int32)) rfl ?_
  refine own_icmpYes B X1 d3_7 (feq q1).2 (by decide) (pc' := 14) rfl ?_
  refine own_aloadN B X1 d3_14 rfl rfl rfl ?_
  refine own_getF B X1 e1 S.2.2.1 d3_15 rfl (B.w 15 rfl) ?_
  intro T2 X2 e2
  refine own_aloadN B X2 d3_18 rfl rfl rfl ?_
  refine own_dup B X2 d3_19 rfl rfl ?_
  refine own_getF B X2 e2 S.2.2.2.2.1 d3_20 rfl (B.w 22 rfl) ?_
  intro T3 X3 e3
  refine own_dupX1 B X3 d3_23 rfl rfl rfl ?_
  refine own_iconst B X3 d3_24 rfl (v := (1 : Int32)) rfl ?_
  refine own_iadd B X3 d3_25 rfl (v := n') q4 ?_
  refine own_putF B X3 e3 S.2.2.2.2.1 S.1 (Or.inl (B.w 23 rfl)) (B.w 1 rfl) own_pI rfl rfl d3_26 rfl (B.w 22 rfl) ?_
  intro T4 h4 X4 e4 W4
  have S4 := S.setEnd hw W4
  have K4 := (Keep.refl h0 [o, tt]).wr W4 (Or.inl (List.mem_of_getElem? (i := 0) rfl))
  have N4 := Fr.snoc X4 (Fr.nil n0) g1
  refine own_iloadN B X4 d3_29 rfl rfl ?_
  refine own_iastore B X4 i e4 S4.2.2.2.2.2.2.1 d3_30 rfl q2 q3 q5 ?_
  intro T5 h5 X5 e5 W5 V5
  have S5 := S4.setAt W5 V5
  have K5 := K4.wr W5 (Or.inl (List.mem_of_getElem? (i := 1) rfl))
  have N5 := Fr.snoc X5 N4 g2
  refine own_aloadN B X5 d3_31 rfl rfl rfl ?_
  refine own_dup B X5 d3_32 rfl rfl ?_
  refine own_getF B X5 e5 S5.2.2.2.1 d3_33 rfl (B.w 24 rfl) ?_
  intro T6 X6 e6
  refine own_iconst B X6 d3_36 rfl (v := (1 : Int32)) rfl ?_
  refine own_iadd B X6 d3_37 rfl (v := n') q4 ?_
  refine own_putF B X6 e6 S5.2.2.2.1 S5.1 (Or.inl (B.w 25 rfl)) (B.w 1 rfl) own_pI rfl rfl d3_38 rfl (B.w 24 rfl) ?_
  intro T7 h7 X7 e7 W7
  have S7 := S5.setSize hw W7
  have K7 := K5.wr W7 (Or.inl (List.mem_of_getElem? (i := 0) rfl))
  have N7 := Fr.snoc X7 N5 g1
  exact own_retV B X7 d3_41 (by rw [e7]; exact ⟨rfl, N7, K7, S7⟩) (by decide) (by decide)
set_option maxRecDepth 65536 in
set_option maxHeartbeats 4000000 in
theorem c_pop (l : Launch) (Z : State) (a0 : Array Value) (hw : ∀ d ∈ tables_1, d.before a0 Z = true) (o bb tt : Addr) (kb kt : ClassId) (n n' v : Int32) (vs : List Value) (h0 : Heap) (n0 : Nat) (g1 : n0 ≤ o) (S : Stk Z h0 o bb tt kb kt n n vs) (q1 : n - (1 : Int32) = n') (q2 : ¬ n' < 0 ∧ n' < 4096) (q3 : vs.getD n'.toNatClampNeg (.int 0) = .int v) :
    Con l Z (⟨"com/example/retrace/retrace/grammar/IntStack", "pop", "()I"⟩ : MethodName) prog_43_method_4_code 2 (some .int) [] ({ frames := 0, cells := 0, slots := 0, locals := 0 } : Room) #[(.ref o)] h0 (Sq Z n0 h0 o bb tt kb kt (some (.int v)) n' vs) := by
  refine own_body (plainFor_of_name pnS) hw ?_
  intro p e s m below meth c T0 B X0 e0 hnm
  refine Go.cast (ef5 m o) ?_
  refine own_aloadN B X0 d5_0 rfl rfl rfl ?_
  refine own_getF B X0 e0 S.2.2.1 d5_1 rfl (B.w 15 rfl) ?_
  intro T1 X1 e1
  refine own_aloadN B X1 d5_4 rfl rfl rfl ?_
  refine own_dup B X1 d5_5 rfl rfl ?_
  refine own_getF B X1 e1 S.2.2.2.2.1 d5_6 rfl (B.w 22 rfl) ?_
  intro T2 X2 e2
  refine own_iconst B X2 d5_9 rfl (v := (1 : Int32)) rfl ?_
  refine own_isub B X2 d5_10 rfl (v := n') q1 ?_
  refine own_dupX1 B X2 d5_11 rfl rfl rfl ?_
  refine own_putF B X2 e2 S.2.2.2.2.1 S.1 (Or.inl (B.w 23 rfl)) (B.w 1 rfl) own_pI rfl rfl d5_12 rfl (B.w 22 rfl) ?_
  intro T3 h3 X3 e3 W3
  have S3 := S.setEnd hw W3
  have K3 := (Keep.refl h0 [o, tt]).wr W3 (Or.inl (List.mem_of_getElem? (i := 0) rfl))
  have N3 := Fr.snoc X3 (Fr.nil n0) g1
  refine own_iaload B X3 e3 S3.2.2.2.2.2.2.1 d5_15 rfl q2 (v := .int v) q3 ?_
  refine own_istoreN B X3 d5_16 rfl #[.val (.ref o), .val (.int v)] rfl ?_
  refine own_aloadN B X3 d5_17 rfl rfl rfl ?_
  refine own_dup B X3 d5_18 rfl rfl ?_
  refine own_getF B X3 e3 S3.2.2.2.1 d5_19 rfl (B.w 24 rfl) ?_
  intro T4 X4 e4
  refine own_iconst B X4 d5_22 rfl (v := (1 : Int32)) rfl ?_
  refine own_isub B X4 d5_23 rfl (v := n') q1 ?_
  refine own_putF B X4 e4 S3.2.2.2.1 S3.1 (Or.inl (B.w 25 rfl)) (B.w 1 rfl) own_pI rfl rfl d5_24 rfl (B.w 24 rfl) ?_
  intro T5 h5 X5 e5 W5
  have S5 := S3.setSize hw W5
  have K5 := K3.wr W5 (Or.inl (List.mem_of_getElem? (i := 0) rfl))
  have N5 := Fr.snoc X5 N3 g1
  refine own_aloadN B X5 d5_27 rfl rfl rfl ?_
  refine own_getF B X5 e5 S5.2.2.2.2.1 d5_28 rfl (B.w 22 rfl) ?_
  intro T6 X6 e6
  by_cases q50 : n' = (0 : Int32)
  · refine own_ifNo B X6 d5_31 (teq q50).2 rfl ?_
    refine own_aloadN B X6 d5_34 rfl rfl rfl ?_
    refine own_getF B X6 e6 S5.2.2.2.1 d5_35 rfl (B.w 24 rfl) ?_
    intro T7 X7 e7
    refine own_ifYes B X7 d5_38 (flt (by rw [q50]; decide)).2.2.2 (by decide) (pc' := 66) rfl ?_
    refine own_iloadN B X7 d5_66 rfl rfl ?_
    exact own_retInt B X7 d5_67 rfl (Or.inl rfl) (by rw [e7]; exact ⟨rfl, N5, K5, S5⟩) (by decide) (by decide)
  · refine own_ifYes B X6 d5_31 (feq q50).2 (by decide) (pc' := 66) rfl ?_
    refine own_iloadN B X6 d5_66 rfl rfl ?_
    exact own_retInt B X6 d5_67 rfl (Or.inl rfl) (by rw [e6]; exact ⟨rfl, N5, K5, S5⟩) (by decide) (by decide)
set_option maxRecDepth 65536 in
set_option maxHeartbeats 4000000 in
theorem c_get (l : Launch) (Z : State) (a0 : Array Value) (hw : ∀ d ∈ tables_1, d.before a0 Z = true) (o bb tt : Addr) (kb kt : ClassId) (n j v : Int32) (vs : List Value) (h0 : Heap) (S : Stk Z h0 o bb tt kb kt n n vs) (q1 : (j.toUInt32 >>> ((12 : Int32) &&& 31).toUInt32).toInt32 = 0) (q2 : ¬ j < 0 ∧ j < 4096) (q3 : vs.getD j.toNatClampNeg (.int 0) = .int v) (q4 : j &&& (4095 : Int32) = j) :
    Con l Z (⟨"com/example/retrace/retrace/grammar/IntStack", "get", "(I)I"⟩ : MethodName) prog_43_method_7_code 2 (some .int) [] ({ frames := 0, cells := 0, slots := 0, locals := 0 } : Room) #[(.ref o), (.int j)] h0 (Pq (some (.int v)) h0) := by
  refine own_body (plainFor_of_name pnS) hw ?_
  intro p e s m below meth c T0 B X0 e0 hnm
  refine Go.cast (ef4 m o j) ?_
  refine own_aloadN B X0 d4_0 rfl rfl rfl ?_
  refine own_getF B X0 e0 S.2.1 d4_1 rfl (B.w 13 rfl) ?_
  intro T1 X1 e1
  refine own_iloadN B X1 d4_4 rfl rfl ?_
  refine own_bipush B X1 d4_5 rfl (v := (12 : Int32)) rfl ?_
  refine own_iushr B X1 d4_7 rfl (v := (0 : Int32)) q1 ?_
  refine own_aaload B X1 e1 S.2.2.2.2.2.1 rfl d4_8 rfl ⟨by decide, by decide⟩ (v := .ref tt) rfl ?_
  refine own_iloadN B X1 d4_9 rfl rfl ?_
  refine own_sipush B X1 d4_10 rfl (v := (4095 : Int32)) rfl ?_
  refine own_iand B X1 d4_13 rfl (v := j) q4 ?_
  refine own_iaload B X1 e1 S.2.2.2.2.2.2.1 d4_14 rfl q2 (v := .int v) q3 ?_
  exact own_retInt B X1 d4_15 rfl (Or.inl rfl) (by rw [e1]; exact ⟨rfl, rfl, rfl⟩) (by decide) (by decide)
set_option maxRecDepth 65536 in
set_option maxHeartbeats 8000000 in
theorem law_0_0 (l : Launch) (Z : State) (a0 : Array Value) (hw : ∀ d ∈ tables_1, d.before a0 Z = true) (h0 : Heap) (i0 i1 i2 i3 i4 i5 : Int32) (n0 : Nat) (Z0 : n0 ≤ h0.size) (q0 : ((i4 &&& (2147483647 : Int32)) % (3 : Int32)) = (0 : Int32)) (q1 : ((i5 &&& (2147483647 : Int32)) % (3 : Int32)) = (0 : Int32)) :
    Con l Z x code maxLocals ret tables_1 room_1 #[(.int i0), (.int i1), (.int i2), (.int i3), (.int i4), (.int i5)] h0 (Q0 n0) := by
  refine own_body (plainFor_of_name pnL) hw ?_
  intro p e s m below meth c T0 B X0 e0 hnm
  refine Go.cast (ef0 m i0 i1 i2 i3 i4 i5) ?_
  refine own_new B X0 e0 at_0 rfl (B.w 0 rfl) (B.w 1 rfl) (B.w 2 rfl) (by decide) (by decide) ?_
  intro T1 h1 o X1 e1 hbo E1 Ex1 Dx1
  have go : n0 ≤ o := hbo ▸ Z0
  have Z1 : n0 ≤ h1.size := Nat.le_trans Z0 E1.1
  refine own_dup B X1 at_3 rfl rfl ?_
  refine own_callC B X1 (c_init l Z a0 hw o h1 n0 Z1 go Ex1 (Dx1 (own_lB hw) own_pB) (Dx1 (own_lT hw) own_pT) (Dx1 (own_lS hw) own_pI) (Dx1 (own_lE hw) own_pI)) e1 rfl at_4 rfl (B.w 3 rfl) (B.w 4 rfl) (B.w 2 rfl) (B.w 5 rfl) (by decide) (W := 1) (by decide) (by decide) rfl [] [(.ref o)] pd0 rfl rfl rfl (Nat.le_refl _) (by decide) (by decide) ?_
  rintro T2 _ L2 X2 ⟨rfl, Nq2, Kq2, bb, tt, kb, kt, gbb, gtt, S2'⟩
  show Go p e below _ T2 (mkF m 7 _ [(.ref o)])
  have S2 : Stk Z T2.heap o bb tt kb kt 0 0 [.int (0 : Int32), .int (0 : Int32), .int (0 : Int32), .int (0 : Int32), .int (0 : Int32), .int (0 : Int32), .int (0 : Int32), .int (0 : Int32)] := S2'
  have N2 := Fr.app (Fr.nil n0) Nq2
  have gt : n0 ≤ tt := Nat.le_trans Z1 gtt
  have Z2 : n0 ≤ T2.heap.size := Nat.le_trans Z1 Kq2.1
  refine own_astore B X2 at_7 rfl rfl #[.val (.int i0), .val (.int i1), .val (.int i2), .val (.int i3), .val (.int i4), .val (.int i5), .val (.ref o), .unset, .unset, .unset, .unset, .unset, .unset] rfl ?_
  refine own_aload B X2 at_9 rfl rfl rfl ?_
  refine own_iloadN B X2 at_11 rfl rfl ?_
  refine own_callV B X2 (c_push l Z a0 hw o bb tt kb kt (0 : Int32) (1 : Int32) i0 0 [.int (0 : Int32), .int (0 : Int32), .int (0 : Int32), .int (0 : Int32), .int (0 : Int32), .int (0 : Int32), .int (0 : Int32), .int (0 : Int32)] T2.heap n0 go gt S2 (by decide) ⟨by decide, by decide⟩ (by decide) (by decide) (Nat.le_of_ble_eq_true rfl)) rfl S2.1 (own_nf B (B.w 20 rfl)) at_12 rfl (B.w 17 rfl) (B.w 18 rfl) (B.w 20 rfl) (B.w 19 rfl) (B.w 2 rfl) (B.w 21 rfl) (by decide) (W := 0) (by decide) (by decide) rfl [(.int i0)] [] pd1 rfl rfl rfl (Nat.le_refl _) (by decide) (by decide) ?_
  rintro T3 _ L3 X3 ⟨rfl, Nq3, Kq3, S3'⟩
  show Go p e below _ T3 (mkF m 15 _ [])
  have S3 : Stk Z T3.heap o bb tt kb kt (1 : Int32) (1 : Int32) [.int i0, .int (0 : Int32), .int (0 : Int32), .int (0 : Int32), .int (0 : Int32), .int (0 : Int32), .int (0 : Int32), .int (0 : Int32)] := S3'
  have N3 := Fr.app N2 Nq3
  refine own_aload B X3 at_15 rfl rfl rfl ?_
  refine own_iloadN B X3 at_17 rfl rfl ?_
  refine own_callV B X3 (c_push l Z a0 hw o bb tt kb kt (1 : Int32) (2 : Int32) i1 1 [.int i0, .int (0 : Int32), .int (0 : Int32), .int (0 : Int32), .int (0 : Int32), .int (0 : Int32), .int (0 : Int32), .int (0 : Int32)] T3.heap n0 go gt S3 (by decide) ⟨by decide, by decide⟩ (by decide) (by decide) (Nat.le_of_ble_eq_true rfl)) rfl S3.1 (own_nf B (B.w 20 rfl)) at_18 rfl (B.w 17 rfl) (B.w 18 rfl) (B.w 20 rfl) (B.w 19 rfl) (B.w 2 rfl) (B.w 21 rfl) (by decide) (W := 0) (by decide) (by decide) rfl [(.int i1)] [] pd1 rfl rfl rfl (Nat.le_refl _) (by decide) (by decide) ?_
  rintro T4 _ L4 X4 ⟨rfl, Nq4, Kq4, S4'⟩
  show Go p e below _ T4 (mkF m 21 _ [])
  have S4 : Stk Z T4.heap o bb tt kb kt (2 : Int32) (2 : Int32) [.int i0, .int i1, .int (0 : Int32), .int (0 : Int32), .int (0 : Int32), .int (0 : Int32), .int (0 : Int32), .int (0 : Int32)] := S4'
  have N4 := Fr.app N3 Nq4
  refine own_aload B X4 at_21 rfl rfl rfl ?_
  refine own_iloadN B X4 at_23 rfl rfl ?_
  refine own_callV B X4 (c_push l Z a0 hw o bb tt kb kt (2 : Int32) (3 : Int32) i2 2 [.int i0, .int i1, .int (0 : Int32), .int (0 : Int32), .int (0 : Int32), .int (0 : Int32), .int (0 : Int32), .int (0 : Int32)] T4.heap n0 go gt S4 (by decide) ⟨by decide, by decide⟩ (by decide) (by decide) (Nat.le_of_ble_eq_true rfl)) rfl S4.1 (own_nf B (B.w 20 rfl)) at_24 rfl (B.w 17 rfl) (B.w 18 rfl) (B.w 20 rfl) (B.w 19 rfl) (B.w 2 rfl) (B.w 21 rfl) (by decide) (W := 0) (by decide) (by decide) rfl [(.int i2)] [] pd1 rfl rfl rfl (Nat.le_refl _) (by decide) (by decide) ?_
  rintro T5 _ L5 X5 ⟨rfl, Nq5, Kq5, S5'⟩
  show Go p e below _ T5 (mkF m 27 _ [])
  have S5 : Stk Z T5.heap o bb tt kb kt (3 : Int32) (3 : Int32) [.int i0, .int i1, .int i2, .int (0 : Int32), .int (0 : Int32), .int (0 : Int32), .int (0 : Int32), .int (0 : Int32)] := S5'
  have N5 := Fr.app N4 Nq5
  refine own_iload B X5 at_27 rfl rfl ?_
  refine own_ldc B X5 at_29 rfl (v := (2147483647 : Int32)) (B.w 26 rfl) ?_
  refine own_iand B X5 at_31 rfl (v := (i4 &&& (2147483647 : Int32))) rfl ?_
  refine own_iconst B X5 at_32 rfl (v := (3 : Int32)) rfl ?_
  refine own_irem B X5 at_33 rfl (by decide) (v := (0 : Int32)) q0 ?_
  refine own_istore B X5 at_34 rfl #[.val (.int i0), .val (.int i1), .val (.int i2), .val (.int i3), .val (.int i4), .val (.int i5), .val (.ref o), .val (.int (0 : Int32)), .unset, .unset, .unset, .unset, .unset] rfl ?_
  refine own_iload B X5 at_36 rfl rfl ?_
  refine own_ifNo B X5 at_38 (teq (rfl : (0 : Int32) = (0 : Int32))).2 rfl ?_
  refine own_iloadN B X5 at_41 rfl rfl ?_
  refine own_goto B X5 at_42 (by decide) (pc' := 56) rfl ?_
  refine own_istore B X5 at_56 rfl #[.val (.int i0), .val (.int i1), .val (.int i2), .val (.int i3), .val (.int i4), .val (.int i5), .val (.ref o), .val (.int (0 : Int32)), .val (.int i0), .unset, .unset, .unset, .unset] rfl ?_
  refine own_aload B X5 at_58 rfl rfl rfl ?_
  refine own_iload B X5 at_60 rfl rfl ?_
  refine own_callV B X5 (c_get l Z a0 hw o bb tt kb kt (3 : Int32) (0 : Int32) i0 [.int i0, .int i1, .int i2, .int (0 : Int32), .int (0 : Int32), .int (0 : Int32), .int (0 : Int32), .int (0 : Int32)] T5.heap S5 (by decide) ⟨by decide, by decide⟩  rfl (by decide)) rfl S5.1 (own_nf B (B.w 30 rfl)) at_62 rfl (B.w 27 rfl) (B.w 28 rfl) (B.w 30 rfl) (B.w 29 rfl) (B.w 2 rfl) (B.w 31 rfl) (by decide) (W := 0) (by decide) (by decide) rfl [(.int (0 : Int32))] [] pd2 rfl rfl rfl (Nat.le_refl _) (by decide) (by decide) ?_
  rintro T6 _ _ X6 ⟨rfl, rfl, e6⟩
  show Go p e below _ T6 (mkF m 65 _ [(.int i0)])
  have N6 := Fr.app N5 (Fr.nil n0)
  refine own_iload B X6 at_65 rfl rfl ?_
  refine own_icmpNo B X6 at_67 (teq (rfl : i0 = i0)).2 rfl ?_
  refine own_iconst B X6 at_70 rfl (v := (1 : Int32)) rfl ?_
  refine own_goto B X6 at_71 (by decide) (pc' := 75) rfl ?_
  refine own_istore B X6 at_75 rfl #[.val (.int i0), .val (.int i1), .val (.int i2), .val (.int i3), .val (.int i4), .val (.int i5), .val (.ref o), .val (.int (0 : Int32)), .val (.int i0), .val (.int (1 : Int32)), .unset, .unset, .unset] rfl ?_
  refine own_aload B X6 at_77 rfl rfl rfl ?_
  refine own_callV B X6 (c_pop l Z a0 hw o bb tt kb kt (3 : Int32) (2 : Int32) i2 [.int i0, .int i1, .int i2, .int (0 : Int32), .int (0 : Int32), .int (0 : Int32), .int (0 : Int32), .int (0 : Int32)] T5.heap n0 go S5 (by decide) ⟨by decide, by decide⟩ rfl) e6 S5.1 (own_nf B (B.w 35 rfl)) at_79 rfl (B.w 32 rfl) (B.w 33 rfl) (B.w 35 rfl) (B.w 34 rfl) (B.w 2 rfl) (B.w 36 rfl) (by decide) (W := 0) (by decide) (by decide) rfl [] [] pd3 rfl rfl rfl (Nat.le_refl _) (by decide) (by decide) ?_
  rintro T7 _ L7 X7 ⟨rfl, Nq7, Kq7, S7'⟩
  show Go p e below _ T7 (mkF m 82 _ [(.int i2)])
  have S7 : Stk Z T7.heap o bb tt kb kt (2 : Int32) (2 : Int32) [.int i0, .int i1, .int i2, .int (0 : Int32), .int (0 : Int32), .int (0 : Int32), .int (0 : Int32), .int (0 : Int32)] := S7'
  have N7 := Fr.app N6 Nq7
  refine own_pop B X7 at_82 rfl rfl ?_
  refine own_aload B X7 at_83 rfl rfl rfl ?_
  refine own_iloadN B X7 at_85 rfl rfl ?_
  refine own_callV B X7 (c_push l Z a0 hw o bb tt kb kt (2 : Int32) (3 : Int32) i3 2 [.int i0, .int i1, .int i2, .int (0 : Int32), .int (0 : Int32), .int (0 : Int32), .int (0 : Int32), .int (0 : Int32)] T7.heap n0 go gt S7 (by decide) ⟨by decide, by decide⟩ (by decide) (by decide) (Nat.le_of_ble_eq_true rfl)) rfl S7.1 (own_nf B (B.w 20 rfl)) at_86 rfl (B.w 17 rfl) (B.w 18 rfl) (B.w 20 rfl) (B.w 19 rfl) (B.w 2 rfl) (B.w 21 rfl) (by decide) (W := 0) (by decide) (by decide) rfl [(.int i3)] [] pd1 rfl rfl rfl (Nat.le_refl _) (by decide) (by decide) ?_
  rintro T8 _ L8 X8 ⟨rfl, Nq8, Kq8, S8'⟩
  show Go p e below _ T8 (mkF m 89 _ [])
  have S8 : Stk Z T8.heap o bb tt kb kt (3 : Int32) (3 : Int32) [.int i0, .int i1, .int i3, .int (0 : Int32), .int (0 : Int32), .int (0 : Int32), .int (0 : Int32), .int (0 : Int32)] := S8'
  have N8 := Fr.app N7 Nq8
  refine own_iload B X8 at_89 rfl rfl ?_
  refine own_ldc B X8 at_91 rfl (v := (2147483647 : Int32)) (B.w 26 rfl) ?_
  refine own_iand B X8 at_93 rfl (v := (i5 &&& (2147483647 : Int32))) rfl ?_
  refine own_iconst B X8 at_94 rfl (v := (3 : Int32)) rfl ?_
  refine own_irem B X8 at_95 rfl (by decide) (v := (0 : Int32)) q1 ?_
  refine own_istore B X8 at_96 rfl #[.val (.int i0), .val (.int i1), .val (.int i2), .val (.int i3), .val (.int i4), .val (.int i5), .val (.ref o), .val (.int (0 : Int32)), .val (.int i0), .val (.int (1 : Int32)), .val (.int (0 : Int32)), .unset, .unset] rfl ?_
  refine own_iload B X8 at_98 rfl rfl ?_
  refine own_ifNo B X8 at_100 (teq (rfl : (0 : Int32) = (0 : Int32))).2 rfl ?_
  refine own_iloadN B X8 at_103 rfl rfl ?_
  refine own_goto B X8 at_104 (by decide) (pc' := 118) rfl ?_
  refine own_istore B X8 at_118 rfl #[.val (.int i0), .val (.int i1), .val (.int i2), .val (.int i3), .val (.int i4), .val (.int i5), .val (.ref o), .val (.int (0 : Int32)), .val (.int i0), .val (.int (1 : Int32)), .val (.int (0 : Int32)), .val (.int i0), .unset] rfl ?_
  refine own_aload B X8 at_120 rfl rfl rfl ?_
  refine own_iload B X8 at_122 rfl rfl ?_
  refine own_callV B X8 (c_get l Z a0 hw o bb tt kb kt (3 : Int32) (0 : Int32) i0 [.int i0, .int i1, .int i3, .int (0 : Int32), .int (0 : Int32), .int (0 : Int32), .int (0 : Int32), .int (0 : Int32)] T8.heap S8 (by decide) ⟨by decide, by decide⟩  rfl (by decide)) rfl S8.1 (own_nf B (B.w 30 rfl)) at_124 rfl (B.w 27 rfl) (B.w 28 rfl) (B.w 30 rfl) (B.w 29 rfl) (B.w 2 rfl) (B.w 31 rfl) (by decide) (W := 0) (by decide) (by decide) rfl [(.int (0 : Int32))] [] pd2 rfl rfl rfl (Nat.le_refl _) (by decide) (by decide) ?_
  rintro T9 _ _ X9 ⟨rfl, rfl, e9⟩
  show Go p e below _ T9 (mkF m 127 _ [(.int i0)])
  have N9 := Fr.app N8 (Fr.nil n0)
  refine own_iload B X9 at_127 rfl rfl ?_
  refine own_icmpNo B X9 at_129 (teq (rfl : i0 = i0)).2 rfl ?_
  refine own_iconst B X9 at_132 rfl (v := (1 : Int32)) rfl ?_
  refine own_goto B X9 at_133 (by decide) (pc' := 137) rfl ?_
  refine own_istore B X9 at_137 rfl #[.val (.int i0), .val (.int i1), .val (.int i2), .val (.int i3), .val (.int i4), .val (.int i5), .val (.ref o), .val (.int (0 : Int32)), .val (.int i0), .val (.int (1 : Int32)), .val (.int (0 : Int32)), .val (.int i0), .val (.int (1 : Int32))] rfl ?_
  refine own_iload B X9 at_139 rfl rfl ?_
  refine own_ifNo B X9 at_141 (feq (by decide : ¬ ((1 : Int32) = (0 : Int32)))).1 rfl ?_
  refine own_iload B X9 at_144 rfl rfl ?_
  refine own_ifNo B X9 at_146 (feq (by decide : ¬ ((1 : Int32) = (0 : Int32)))).1 rfl ?_
  refine own_iconst B X9 at_149 rfl (v := (1 : Int32)) rfl ?_
  refine own_goto B X9 at_150 (by decide) (pc' := 154) rfl ?_
  exact own_retInt B X9 at_154 rfl (Or.inr (Or.inl rfl)) ⟨rfl, N9⟩ (by decide) (by decide)
set_option maxRecDepth 65536 in
set_option maxHeartbeats 8000000 in
theorem law_0_1 (l : Launch) (Z : State) (a0 : Array Value) (hw : ∀ d ∈ tables_1, d.before a0 Z = true) (h0 : Heap) (i0 i1 i2 i3 i4 i5 : Int32) (n0 : Nat) (Z0 : n0 ≤ h0.size) (q0 : ((i4 &&& (2147483647 : Int32)) % (3 : Int32)) = (0 : Int32)) (q1 : ((i5 &&& (2147483647 : Int32)) % (3 : Int32)) = (1 : Int32)) :
    Con l Z x code maxLocals ret tables_1 room_1 #[(.int i0), (.int i1), (.int i2), (.int i3), (.int i4), (.int i5)] h0 (Q0 n0) := by
  refine own_body (plainFor_of_name pnL) hw ?_
  intro p e s m below meth c T0 B X0 e0 hnm
  refine Go.cast (ef0 m i0 i1 i2 i3 i4 i5) ?_
  refine own_new B X0 e0 at_0 rfl (B.w 0 rfl) (B.w 1 rfl) (B.w 2 rfl) (by decide) (by decide) ?_
  intro T1 h1 o X1 e1 hbo E1 Ex1 Dx1
  have go : n0 ≤ o := hbo ▸ Z0
  have Z1 : n0 ≤ h1.size := Nat.le_trans Z0 E1.1
  refine own_dup B X1 at_3 rfl rfl ?_
  refine own_callC B X1 (c_init l Z a0 hw o h1 n0 Z1 go Ex1 (Dx1 (own_lB hw) own_pB) (Dx1 (own_lT hw) own_pT) (Dx1 (own_lS hw) own_pI) (Dx1 (own_lE hw) own_pI)) e1 rfl at_4 rfl (B.w 3 rfl) (B.w 4 rfl) (B.w 2 rfl) (B.w 5 rfl) (by decide) (W := 1) (by decide) (by decide) rfl [] [(.ref o)] pd0 rfl rfl rfl (Nat.le_refl _) (by decide) (by decide) ?_
  rintro T2 _ L2 X2 ⟨rfl, Nq2, Kq2, bb, tt, kb, kt, gbb, gtt, S2'⟩
  show Go p e below _ T2 (mkF m 7 _ [(.ref o)])
  have S2 : Stk Z T2.heap o bb tt kb kt 0 0 [.int (0 : Int32), .int (0 : Int32), .int (0 : Int32), .int (0 : Int32), .int (0 : Int32), .int (0 : Int32), .int (0 : Int32), .int (0 : Int32)] := S2'
  have N2 := Fr.app (Fr.nil n0) Nq2
  have gt : n0 ≤ tt := Nat.le_trans Z1 gtt
  have Z2 : n0 ≤ T2.heap.size := Nat.le_trans Z1 Kq2.1
  refine own_astore B X2 at_7 rfl rfl #[.val (.int i0), .val (.int i1), .val (.int i2), .val (.int i3), .val (.int i4), .val (.int i5), .val (.ref o), .unset, .unset, .unset, .unset, .unset, .unset] rfl ?_
  refine own_aload B X2 at_9 rfl rfl rfl ?_
  refine own_iloadN B X2 at_11 rfl rfl ?_
  refine own_callV B X2 (c_push l Z a0 hw o bb tt kb kt (0 : Int32) (1 : Int32) i0 0 [.int (0 : Int32), .int (0 : Int32), .int (0 : Int32), .int (0 : Int32), .int (0 : Int32), .int (0 : Int32), .int (0 : Int32), .int (0 : Int32)] T2.heap n0 go gt S2 (by decide) ⟨by decide, by decide⟩ (by decide) (by decide) (Nat.le_of_ble_eq_true rfl)) rfl S2.1 (own_nf B (B.w 20 rfl)) at_12 rfl (B.w 17 rfl) (B.w 18 rfl) (B.w 20 rfl) (B.w 19 rfl) (B.w 2 rfl) (B.w 21 rfl) (by decide) (W := 0) (by decide) (by decide) rfl [(.int i0)] [] pd1 rfl rfl rfl (Nat.le_refl _) (by decide) (by decide) ?_
  rintro T3 _ L3 X3 ⟨rfl, Nq3, Kq3, S3'⟩
  show Go p e below _ T3 (mkF m 15 _ [])
  have S3 : Stk Z T3.heap o bb tt kb kt (1 : Int32) (1 : Int32) [.int i0, .int (0 : Int32), .int (0 : Int32), .int (0 : Int32), .int (0 : Int32), .int (0 : Int32), .int (0 : Int32), .int (0 : Int32)] := S3'
  have N3 := Fr.app N2 Nq3
  refine own_aload B X3 at_15 rfl rfl rfl ?_
  refine own_iloadN B X3 at_17 rfl rfl ?_
  refine own_callV B X3 (c_push l Z a0 hw o bb tt kb kt (1 : Int32) (2 : Int32) i1 1 [.int i0, .int (0 : Int32), .int (0 : Int32), .int (0 : Int32), .int (0 : Int32), .int (0 : Int32), .int (0 : Int32), .int (0 : Int32)] T3.heap n0 go gt S3 (by decide) ⟨by decide, by decide⟩ (by decide) (by decide) (Nat.le_of_ble_eq_true rfl)) rfl S3.1 (own_nf B (B.w 20 rfl)) at_18 rfl (B.w 17 rfl) (B.w 18 rfl) (B.w 20 rfl) (B.w 19 rfl) (B.w 2 rfl) (B.w 21 rfl) (by decide) (W := 0) (by decide) (by decide) rfl [(.int i1)] [] pd1 rfl rfl rfl (Nat.le_refl _) (by decide) (by decide) ?_
  rintro T4 _ L4 X4 ⟨rfl, Nq4, Kq4, S4'⟩
  show Go p e below _ T4 (mkF m 21 _ [])
  have S4 : Stk Z T4.heap o bb tt kb kt (2 : Int32) (2 : Int32) [.int i0, .int i1, .int (0 : Int32), .int (0 : Int32), .int (0 : Int32), .int (0 : Int32), .int (0 : Int32), .int (0 : Int32)] := S4'
  have N4 := Fr.app N3 Nq4
  refine own_aload B X4 at_21 rfl rfl rfl ?_
  refine own_iloadN B X4 at_23 rfl rfl ?_
  refine own_callV B X4 (c_push l Z a0 hw o bb tt kb kt (2 : Int32) (3 : Int32) i2 2 [.int i0, .int i1, .int (0 : Int32), .int (0 : Int32), .int (0 : Int32), .int (0 : Int32), .int (0 : Int32), .int (0 : Int32)] T4.heap n0 go gt S4 (by decide) ⟨by decide, by decide⟩ (by decide) (by decide) (Nat.le_of_ble_eq_true rfl)) rfl S4.1 (own_nf B (B.w 20 rfl)) at_24 rfl (B.w 17 rfl) (B.w 18 rfl) (B.w 20 rfl) (B.w 19 rfl) (B.w 2 rfl) (B.w 21 rfl) (by decide) (W := 0) (by decide) (by decide) rfl [(.int i2)] [] pd1 rfl rfl rfl (Nat.le_refl _) (by decide) (by decide) ?_
  rintro T5 _ L5 X5 ⟨rfl, Nq5, Kq5, S5'⟩
  show Go p e below _ T5 (mkF m 27 _ [])
  have S5 : Stk Z T5.heap o bb tt kb kt (3 : Int32) (3 : Int32) [.int i0, .int i1, .int i2, .int (0 : Int32), .int (0 : Int32), .int (0 : Int32), .int (0 : Int32), .int (0 : Int32)] := S5'
  have N5 := Fr.app N4 Nq5
  refine own_iload B X5 at_27 rfl rfl ?_
  refine own_ldc B X5 at_29 rfl (v := (2147483647 : Int32)) (B.w 26 rfl) ?_
  refine own_iand B X5 at_31 rfl (v := (i4 &&& (2147483647 : Int32))) rfl ?_
  refine own_iconst B X5 at_32 rfl (v := (3 : Int32)) rfl ?_
  refine own_irem B X5 at_33 rfl (by decide) (v := (0 : Int32)) q0 ?_
  refine own_istore B X5 at_34 rfl #[.val (.int i0), .val (.int i1), .val (.int i2), .val (.int i3), .val (.int i4), .val (.int i5), .val (.ref o), .val (.int (0 : Int32)), .unset, .unset, .unset, .unset, .unset] rfl ?_
  refine own_iload B X5 at_36 rfl rfl ?_
  refine own_ifNo B X5 at_38 (teq (rfl : (0 : Int32) = (0 : Int32))).2 rfl ?_
  refine own_iloadN B X5 at_41 rfl rfl ?_
  refine own_goto B X5 at_42 (by decide) (pc' := 56) rfl ?_
  refine own_istore B X5 at_56 rfl #[.val (.int i0), .val (.int i1), .val (.int i2), .val (.int i3), .val (.int i4), .val (.int i5), .val (.ref o), .val (.int (0 : Int32)), .val (.int i0), .unset, .unset, .unset, .unset] rfl ?_
  refine own_aload B X5 at_58 rfl rfl rfl ?_
  refine own_iload B X5 at_60 rfl rfl ?_
  refine own_callV B X5 (c_get l Z a0 hw o bb tt kb kt (3 : Int32) (0 : Int32) i0 [.int i0, .int i1, .int i2, .int (0 : Int32), .int (0 : Int32), .int (0 : Int32), .int (0 : Int32), .int (0 : Int32)] T5.heap S5 (by decide) ⟨by decide, by decide⟩  rfl (by decide)) rfl S5.1 (own_nf B (B.w 30 rfl)) at_62 rfl (B.w 27 rfl) (B.w 28 rfl) (B.w 30 rfl) (B.w 29 rfl) (B.w 2 rfl) (B.w 31 rfl) (by decide) (W := 0) (by decide) (by decide) rfl [(.int (0 : Int32))] [] pd2 rfl rfl rfl (Nat.le_refl _) (by decide) (by decide) ?_
  rintro T6 _ _ X6 ⟨rfl, rfl, e6⟩
  show Go p e below _ T6 (mkF m 65 _ [(.int i0)])
  have N6 := Fr.app N5 (Fr.nil n0)
  refine own_iload B X6 at_65 rfl rfl ?_
  refine own_icmpNo B X6 at_67 (teq (rfl : i0 = i0)).2 rfl ?_
  refine own_iconst B X6 at_70 rfl (v := (1 : Int32)) rfl ?_
  refine own_goto B X6 at_71 (by decide) (pc' := 75) rfl ?_
  refine own_istore B X6 at_75 rfl #[.val (.int i0), .val (.int i1), .val (.int i2), .val (.int i3), .val (.int i4), .val (.int i5), .val (.ref o), .val (.int (0 : Int32)), .val (.int i0), .val (.int (1 : Int32)), .unset, .unset, .unset] rfl ?_
  refine own_aload B X6 at_77 rfl rfl rfl ?_
  refine own_callV B X6 (c_pop l Z a0 hw o bb tt kb kt (3 : Int32) (2 : Int32) i2 [.int i0, .int i1, .int i2, .int (0 : Int32), .int (0 : Int32), .int (0 : Int32), .int (0 : Int32), .int (0 : Int32)] T5.heap n0 go S5 (by decide) ⟨by decide, by decide⟩ rfl) e6 S5.1 (own_nf B (B.w 35 rfl)) at_79 rfl (B.w 32 rfl) (B.w 33 rfl) (B.w 35 rfl) (B.w 34 rfl) (B.w 2 rfl) (B.w 36 rfl) (by decide) (W := 0) (by decide) (by decide) rfl [] [] pd3 rfl rfl rfl (Nat.le_refl _) (by decide) (by decide) ?_
  rintro T7 _ L7 X7 ⟨rfl, Nq7, Kq7, S7'⟩
  show Go p e below _ T7 (mkF m 82 _ [(.int i2)])
  have S7 : Stk Z T7.heap o bb tt kb kt (2 : Int32) (2 : Int32) [.int i0, .int i1, .int i2, .int (0 : Int32), .int (0 : Int32), .int (0 : Int32), .int (0 : Int32), .int (0 : Int32)] := S7'
  have N7 := Fr.app N6 Nq7
  refine own_pop B X7 at_82 rfl rfl ?_
  refine own_aload B X7 at_83 rfl rfl rfl ?_
  refine own_iloadN B X7 at_85 rfl rfl ?_
  refine own_callV B X7 (c_push l Z a0 hw o bb tt kb kt (2 : Int32) (3 : Int32) i3 2 [.int i0, .int i1, .int i2, .int (0 : Int32), .int (0 : Int32), .int (0 : Int32), .int (0 : Int32), .int (0 : Int32)] T7.heap n0 go gt S7 (by decide) ⟨by decide, by decide⟩ (by decide) (by decide) (Nat.le_of_ble_eq_true rfl)) rfl S7.1 (own_nf B (B.w 20 rfl)) at_86 rfl (B.w 17 rfl) (B.w 18 rfl) (B.w 20 rfl) (B.w 19 rfl) (B.w 2 rfl) (B.w 21 rfl) (by decide) (W := 0) (by decide) (by decide) rfl [(.int i3)] [] pd1 rfl rfl rfl (Nat.le_refl _) (by decide) (by decide) ?_
  rintro T8 _ L8 X8 ⟨rfl, Nq8, Kq8, S8'⟩
  show Go p e below _ T8 (mkF m 89 _ [])
  have S8 : Stk Z T8.heap o bb tt kb kt (3 : Int32) (3 : Int32) [.int i0, .int i1, .int i3, .int (0 : Int32), .int (0 : Int32), .int (0 : Int32), .int (0 : Int32), .int (0 : Int32)] := S8'
  have N8 := Fr.app N7 Nq8
  refine own_iload B X8 at_89 rfl rfl ?_
  refine own_ldc B X8 at_91 rfl (v := (2147483647 : Int32)) (B.w 26 rfl) ?_
  refine own_iand B X8 at_93 rfl (v := (i5 &&& (2147483647 : Int32))) rfl ?_
  refine own_iconst B X8 at_94 rfl (v := (3 : Int32)) rfl ?_
  refine own_irem B X8 at_95 rfl (by decide) (v := (1 : Int32)) q1 ?_
  refine own_istore B X8 at_96 rfl #[.val (.int i0), .val (.int i1), .val (.int i2), .val (.int i3), .val (.int i4), .val (.int i5), .val (.ref o), .val (.int (0 : Int32)), .val (.int i0), .val (.int (1 : Int32)), .val (.int (1 : Int32)), .unset, .unset] rfl ?_
  refine own_iload B X8 at_98 rfl rfl ?_
  refine own_ifYes B X8 at_100 (feq (by decide : ¬ ((1 : Int32) = (0 : Int32)))).2 (by decide) (pc' := 107) rfl ?_
  refine own_iload B X8 at_107 rfl rfl ?_
  refine own_iconst B X8 at_109 rfl (v := (1 : Int32)) rfl ?_
  refine own_icmpNo B X8 at_110 (teq (rfl : (1 : Int32) = (1 : Int32))).2 rfl ?_
  refine own_iloadN B X8 at_113 rfl rfl ?_
  refine own_goto B X8 at_114 (by decide) (pc' := 118) rfl ?_
  refine own_istore B X8 at_118 rfl #[.val (.int i0), .val (.int i1), .val (.int i2), .val (.int i3), .val (.int i4), .val (.int i5), .val (.ref o), .val (.int (0 : Int32)), .val (.int i0), .val (.int (1 : Int32)), .val (.int (1 : Int32)), .val (.int i1), .unset] rfl ?_
  refine own_aload B X8 at_120 rfl rfl rfl ?_
  refine own_iload B X8 at_122 rfl rfl ?_
  refine own_callV B X8 (c_get l Z a0 hw o bb tt kb kt (3 : Int32) (1 : Int32) i1 [.int i0, .int i1, .int i3, .int (0 : Int32), .int (0 : Int32), .int (0 : Int32), .int (0 : Int32), .int (0 : Int32)] T8.heap S8 (by decide) ⟨by decide, by decide⟩  rfl (by decide)) rfl S8.1 (own_nf B (B.w 30 rfl)) at_124 rfl (B.w 27 rfl) (B.w 28 rfl) (B.w 30 rfl) (B.w 29 rfl) (B.w 2 rfl) (B.w 31 rfl) (by decide) (W := 0) (by decide) (by decide) rfl [(.int (1 : Int32))] [] pd2 rfl rfl rfl (Nat.le_refl _) (by decide) (by decide) ?_
  rintro T9 _ _ X9 ⟨rfl, rfl, e9⟩
  show Go p e below _ T9 (mkF m 127 _ [(.int i1)])
  have N9 := Fr.app N8 (Fr.nil n0)
  refine own_iload B X9 at_127 rfl rfl ?_
  refine own_icmpNo B X9 at_129 (teq (rfl : i1 = i1)).2 rfl ?_
  refine own_iconst B X9 at_132 rfl (v := (1 : Int32)) rfl ?_
  refine own_goto B X9 at_133 (by decide) (pc' := 137) rfl ?_
  refine own_istore B X9 at_137 rfl #[.val (.int i0), .val (.int i1), .val (.int i2), .val (.int i3), .val (.int i4), .val (.int i5), .val (.ref o), .val (.int (0 : Int32)), .val (.int i0), .val (.int (1 : Int32)), .val (.int (1 : Int32)), .val (.int i1), .val (.int (1 : Int32))] rfl ?_
  refine own_iload B X9 at_139 rfl rfl ?_
  refine own_ifNo B X9 at_141 (feq (by decide : ¬ ((1 : Int32) = (0 : Int32)))).1 rfl ?_
  refine own_iload B X9 at_144 rfl rfl ?_
  refine own_ifNo B X9 at_146 (feq (by decide : ¬ ((1 : Int32) = (0 : Int32)))).1 rfl ?_
  refine own_iconst B X9 at_149 rfl (v := (1 : Int32)) rfl ?_
  refine own_goto B X9 at_150 (by decide) (pc' := 154) rfl ?_
  exact own_retInt B X9 at_154 rfl (Or.inr (Or.inl rfl)) ⟨rfl, N9⟩ (by decide) (by decide)
set_option maxRecDepth 65536 in
set_option maxHeartbeats 8000000 in
theorem law_0_2 (l : Launch) (Z : State) (a0 : Array Value) (hw : ∀ d ∈ tables_1, d.before a0 Z = true) (h0 : Heap) (i0 i1 i2 i3 i4 i5 : Int32) (n0 : Nat) (Z0 : n0 ≤ h0.size) (q0 : ((i4 &&& (2147483647 : Int32)) % (3 : Int32)) = (0 : Int32)) (q1 : ((i5 &&& (2147483647 : Int32)) % (3 : Int32)) = (2 : Int32)) :
    Con l Z x code maxLocals ret tables_1 room_1 #[(.int i0), (.int i1), (.int i2), (.int i3), (.int i4), (.int i5)] h0 (Q0 n0) := by
  refine own_body (plainFor_of_name pnL) hw ?_
  intro p e s m below meth c T0 B X0 e0 hnm
  refine Go.cast (ef0 m i0 i1 i2 i3 i4 i5) ?_
  refine own_new B X0 e0 at_0 rfl (B.w 0 rfl) (B.w 1 rfl) (B.w 2 rfl) (by decide) (by decide) ?_
  intro T1 h1 o X1 e1 hbo E1 Ex1 Dx1
  have go : n0 ≤ o := hbo ▸ Z0
  have Z1 : n0 ≤ h1.size := Nat.le_trans Z0 E1.1
  refine own_dup B X1 at_3 rfl rfl ?_
  refine own_callC B X1 (c_init l Z a0 hw o h1 n0 Z1 go Ex1 (Dx1 (own_lB hw) own_pB) (Dx1 (own_lT hw) own_pT) (Dx1 (own_lS hw) own_pI) (Dx1 (own_lE hw) own_pI)) e1 rfl at_4 rfl (B.w 3 rfl) (B.w 4 rfl) (B.w 2 rfl) (B.w 5 rfl) (by decide) (W := 1) (by decide) (by decide) rfl [] [(.ref o)] pd0 rfl rfl rfl (Nat.le_refl _) (by decide) (by decide) ?_
  rintro T2 _ L2 X2 ⟨rfl, Nq2, Kq2, bb, tt, kb, kt, gbb, gtt, S2'⟩
  show Go p e below _ T2 (mkF m 7 _ [(.ref o)])
  have S2 : Stk Z T2.heap o bb tt kb kt 0 0 [.int (0 : Int32), .int (0 : Int32), .int (0 : Int32), .int (0 : Int32), .int (0 : Int32), .int (0 : Int32), .int (0 : Int32), .int (0 : Int32)] := S2'
  have N2 := Fr.app (Fr.nil n0) Nq2
  have gt : n0 ≤ tt := Nat.le_trans Z1 gtt
  have Z2 : n0 ≤ T2.heap.size := Nat.le_trans Z1 Kq2.1
  refine own_astore B X2 at_7 rfl rfl #[.val (.int i0), .val (.int i1), .val (.int i2), .val (.int i3), .val (.int i4), .val (.int i5), .val (.ref o), .unset, .unset, .unset, .unset, .unset, .unset] rfl ?_
  refine own_aload B X2 at_9 rfl rfl rfl ?_
  refine own_iloadN B X2 at_11 rfl rfl ?_
  refine own_callV B X2 (c_push l Z a0 hw o bb tt kb kt (0 : Int32) (1 : Int32) i0 0 [.int (0 : Int32), .int (0 : Int32), .int (0 : Int32), .int (0 : Int32), .int (0 : Int32), .int (0 : Int32), .int (0 : Int32), .int (0 : Int32)] T2.heap n0 go gt S2 (by decide) ⟨by decide, by decide⟩ (by decide) (by decide) (Nat.le_of_ble_eq_true rfl)) rfl S2.1 (own_nf B (B.w 20 rfl)) at_12 rfl (B.w 17 rfl) (B.w 18 rfl) (B.w 20 rfl) (B.w 19 rfl) (B.w 2 rfl) (B.w 21 rfl) (by decide) (W := 0) (by decide) (by decide) rfl [(.int i0)] [] pd1 rfl rfl rfl (Nat.le_refl _) (by decide) (by decide) ?_
  rintro T3 _ L3 X3 ⟨rfl, Nq3, Kq3, S3'⟩
  show Go p e below _ T3 (mkF m 15 _ [])
  have S3 : Stk Z T3.heap o bb tt kb kt (1 : Int32) (1 : Int32) [.int i0, .int (0 : Int32), .int (0 : Int32), .int (0 : Int32), .int (0 : Int32), .int (0 : Int32), .int (0 : Int32), .int (0 : Int32)] := S3'
  have N3 := Fr.app N2 Nq3
  refine own_aload B X3 at_15 rfl rfl rfl ?_
  refine own_iloadN B X3 at_17 rfl rfl ?_
  refine own_callV B X3 (c_push l Z a0 hw o bb tt kb kt (1 : Int32) (2 : Int32) i1 1 [.int i0, .int (0 : Int32), .int (0 : Int32), .int (0 : Int32), .int (0 : Int32), .int (0 : Int32), .int (0 : Int32), .int (0 : Int32)] T3.heap n0 go gt S3 (by decide) ⟨by decide, by decide⟩ (by decide) (by decide) (Nat.le_of_ble_eq_true rfl)) rfl S3.1 (own_nf B (B.w 20 rfl)) at_18 rfl (B.w 17 rfl) (B.w 18 rfl) (B.w 20 rfl) (B.w 19 rfl) (B.w 2 rfl) (B.w 21 rfl) (by decide) (W := 0) (by decide) (by decide) rfl [(.int i1)] [] pd1 rfl rfl rfl (Nat.le_refl _) (by decide) (by decide) ?_
  rintro T4 _ L4 X4 ⟨rfl, Nq4, Kq4, S4'⟩
  show Go p e below _ T4 (mkF m 21 _ [])
  have S4 : Stk Z T4.heap o bb tt kb kt (2 : Int32) (2 : Int32) [.int i0, .int i1, .int (0 : Int32), .int (0 : Int32), .int (0 : Int32), .int (0 : Int32), .int (0 : Int32), .int (0 : Int32)] := S4'
  have N4 := Fr.app N3 Nq4
  refine own_aload B X4 at_21 rfl rfl rfl ?_
  refine own_iloadN B X4 at_23 rfl rfl ?_
  refine own_callV B X4 (c_push l Z a0 hw o bb tt kb kt (2 : Int32) (3 : Int32) i2 2 [.int i0, .int i1, .int (0 : Int32), .int (0 : Int32), .int (0 : Int32), .int (0 : Int32), .int (0 : Int32), .int (0 : Int32)] T4.heap n0 go gt S4 (by decide) ⟨by decide, by decide⟩ (by decide) (by decide) (Nat.le_of_ble_eq_true rfl)) rfl S4.1 (own_nf B (B.w 20 rfl)) at_24 rfl (B.w 17 rfl) (B.w 18 rfl) (B.w 20 rfl) (B.w 19 rfl) (B.w 2 rfl) (B.w 21 rfl) (by decide) (W := 0) (by decide) (by decide) rfl [(.int i2)] [] pd1 rfl rfl rfl (Nat.le_refl _) (by decide) (by decide) ?_
  rintro T5 _ L5 X5 ⟨rfl, Nq5, Kq5, S5'⟩
  show Go p e below _ T5 (mkF m 27 _ [])
  have S5 : Stk Z T5.heap o bb tt kb kt (3 : Int32) (3 : Int32) [.int i0, .int i1, .int i2, .int (0 : Int32), .int (0 : Int32), .int (0 : Int32), .int (0 : Int32), .int (0 : Int32)] := S5'
  have N5 := Fr.app N4 Nq5
  refine own_iload B X5 at_27 rfl rfl ?_
  refine own_ldc B X5 at_29 rfl (v := (2147483647 : Int32)) (B.w 26 rfl) ?_
  refine own_iand B X5 at_31 rfl (v := (i4 &&& (2147483647 : Int32))) rfl ?_
  refine own_iconst B X5 at_32 rfl (v := (3 : Int32)) rfl ?_
  refine own_irem B X5 at_33 rfl (by decide) (v := (0 : Int32)) q0 ?_
  refine own_istore B X5 at_34 rfl #[.val (.int i0), .val (.int i1), .val (.int i2), .val (.int i3), .val (.int i4), .val (.int i5), .val (.ref o), .val (.int (0 : Int32)), .unset, .unset, .unset, .unset, .unset] rfl ?_
  refine own_iload B X5 at_36 rfl rfl ?_
  refine own_ifNo B X5 at_38 (teq (rfl : (0 : Int32) = (0 : Int32))).2 rfl ?_
  refine own_iloadN B X5 at_41 rfl rfl ?_
  refine own_goto B X5 at_42 (by decide) (pc' := 56) rfl ?_
  refine own_istore B X5 at_56 rfl #[.val (.int i0), .val (.int i1), .val (.int i2), .val (.int i3), .val (.int i4), .val (.int i5), .val (.ref o), .val (.int (0 : Int32)), .val (.int i0), .unset, .unset, .unset, .unset] rfl ?_
  refine own_aload B X5 at_58 rfl rfl rfl ?_
  refine own_iload B X5 at_60 rfl rfl ?_
  refine own_callV B X5 (c_get l Z a0 hw o bb tt kb kt (3 : Int32) (0 : Int32) i0 [.int i0, .int i1, .int i2, .int (0 : Int32), .int (0 : Int32), .int (0 : Int32), .int (0 : Int32), .int (0 : Int32)] T5.heap S5 (by decide) ⟨by decide, by decide⟩  rfl (by decide)) rfl S5.1 (own_nf B (B.w 30 rfl)) at_62 rfl (B.w 27 rfl) (B.w 28 rfl) (B.w 30 rfl) (B.w 29 rfl) (B.w 2 rfl) (B.w 31 rfl) (by decide) (W := 0) (by decide) (by decide) rfl [(.int (0 : Int32))] [] pd2 rfl rfl rfl (Nat.le_refl _) (by decide) (by decide) ?_
  rintro T6 _ _ X6 ⟨rfl, rfl, e6⟩
  show Go p e below _ T6 (mkF m 65 _ [(.int i0)])
  have N6 := Fr.app N5 (Fr.nil n0)
  refine own_iload B X6 at_65 rfl rfl ?_
  refine own_icmpNo B X6 at_67 (teq (rfl : i0 = i0)).2 rfl ?_
  refine own_iconst B X6 at_70 rfl (v := (1 : Int32)) rfl ?_
  refine own_goto B X6 at_71 (by decide) (pc' := 75) rfl ?_
  refine own_istore B X6 at_75 rfl #[.val (.int i0), .val (.int i1), .val (.int i2), .val (.int i3), .val (.int i4), .val (.int i5), .val (.ref o), .val (.int (0 : Int32)), .val (.int i0), .val (.int (1 : Int32)), .unset, .unset, .unset] rfl ?_
  refine own_aload B X6 at_77 rfl rfl rfl ?_
  refine own_callV B X6 (c_pop l Z a0 hw o bb tt kb kt (3 : Int32) (2 : Int32) i2 [.int i0, .int i1, .int i2, .int (0 : Int32), .int (0 : Int32), .int (0 : Int32), .int (0 : Int32), .int (0 : Int32)] T5.heap n0 go S5 (by decide) ⟨by decide, by decide⟩ rfl) e6 S5.1 (own_nf B (B.w 35 rfl)) at_79 rfl (B.w 32 rfl) (B.w 33 rfl) (B.w 35 rfl) (B.w 34 rfl) (B.w 2 rfl) (B.w 36 rfl) (by decide) (W := 0) (by decide) (by decide) rfl [] [] pd3 rfl rfl rfl (Nat.le_refl _) (by decide) (by decide) ?_
  rintro T7 _ L7 X7 ⟨rfl, Nq7, Kq7, S7'⟩
  show Go p e below _ T7 (mkF m 82 _ [(.int i2)])
  have S7 : Stk Z T7.heap o bb tt kb kt (2 : Int32) (2 : Int32) [.int i0, .int i1, .int i2, .int (0 : Int32), .int (0 : Int32), .int (0 : Int32), .int (0 : Int32), .int (0 : Int32)] := S7'
  have N7 := Fr.app N6 Nq7
  refine own_pop B X7 at_82 rfl rfl ?_
  refine own_aload B X7 at_83 rfl rfl rfl ?_
  refine own_iloadN B X7 at_85 rfl rfl ?_
  refine own_callV B X7 (c_push l Z a0 hw o bb tt kb kt (2 : Int32) (3 : Int32) i3 2 [.int i0, .int i1, .int i2, .int (0 : Int32), .int (0 : Int32), .int (0 : Int32), .int (0 : Int32), .int (0 : Int32)] T7.heap n0 go gt S7 (by decide) ⟨by decide, by decide⟩ (by decide) (by decide) (Nat.le_of_ble_eq_true rfl)) rfl S7.1 (own_nf B (B.w 20 rfl)) at_86 rfl (B.w 17 rfl) (B.w 18 rfl) (B.w 20 rfl) (B.w 19 rfl) (B.w 2 rfl) (B.w 21 rfl) (by decide) (W := 0) (by decide) (by decide) rfl [(.int i3)] [] pd1 rfl rfl rfl (Nat.le_refl _) (by decide) (by decide) ?_
  rintro T8 _ L8 X8 ⟨rfl, Nq8, Kq8, S8'⟩
  show Go p e below _ T8 (mkF m 89 _ [])
  have S8 : Stk Z T8.heap o bb tt kb kt (3 : Int32) (3 : Int32) [.int i0, .int i1, .int i3, .int (0 : Int32), .int (0 : Int32), .int (0 : Int32), .int (0 : Int32), .int (0 : Int32)] := S8'
  have N8 := Fr.app N7 Nq8
  refine own_iload B X8 at_89 rfl rfl ?_
  refine own_ldc B X8 at_91 rfl (v := (2147483647 : Int32)) (B.w 26 rfl) ?_
  refine own_iand B X8 at_93 rfl (v := (i5 &&& (2147483647 : Int32))) rfl ?_
  refine own_iconst B X8 at_94 rfl (v := (3 : Int32)) rfl ?_
  refine own_irem B X8 at_95 rfl (by decide) (v := (2 : Int32)) q1 ?_
  refine own_istore B X8 at_96 rfl #[.val (.int i0), .val (.int i1), .val (.int i2), .val (.int i3), .val (.int i4), .val (.int i5), .val (.ref o), .val (.int (0 : Int32)), .val (.int i0), .val (.int (1 : Int32)), .val (.int (2 : Int32)), .unset, .unset] rfl ?_
  refine own_iload B X8 at_98 rfl rfl ?_
  refine own_ifYes B X8 at_100 (feq (by decide : ¬ ((2 : Int32) = (0 : Int32)))).2 (by decide) (pc' := 107) rfl ?_
  refine own_iload B X8 at_107 rfl rfl ?_
  refine own_iconst B X8 at_109 rfl (v := (1 : Int32)) rfl ?_
  refine own_icmpYes B X8 at_110 (feq (by decide : ¬ ((2 : Int32) = (1 : Int32)))).2 (by decide) (pc' := 117) rfl ?_
  refine own_iloadN B X8 at_117 rfl rfl ?_
  refine own_istore B X8 at_118 rfl #[.val (.int i0), .val (.int i1), .val (.int i2), .val (.int i3), .val (.int i4), .val (.int i5), .val (.ref o), .val (.int (0 : Int32)), .val (.int i0), .val (.int (1 : Int32)), .val (.int (2 : Int32)), .val (.int i3), .unset] rfl ?_
  refine own_aload B X8 at_120 rfl rfl rfl ?_
  refine own_iload B X8 at_122 rfl rfl ?_
  refine own_callV B X8 (c_get l Z a0 hw o bb tt kb kt (3 : Int32) (2 : Int32) i3 [.int i0, .int i1, .int i3, .int (0 : Int32), .int (0 : Int32), .int (0 : Int32), .int (0 : Int32), .int (0 : Int32)] T8.heap S8 (by decide) ⟨by decide, by decide⟩  rfl (by decide)) rfl S8.1 (own_nf B (B.w 30 rfl)) at_124 rfl (B.w 27 rfl) (B.w 28 rfl) (B.w 30 rfl) (B.w 29 rfl) (B.w 2 rfl) (B.w 31 rfl) (by decide) (W := 0) (by decide) (by decide) rfl [(.int (2 : Int32))] [] pd2 rfl rfl rfl (Nat.le_refl _) (by decide) (by decide) ?_
  rintro T9 _ _ X9 ⟨rfl, rfl, e9⟩
  show Go p e below _ T9 (mkF m 127 _ [(.int i3)])
  have N9 := Fr.app N8 (Fr.nil n0)
  refine own_iload B X9 at_127 rfl rfl ?_
  refine own_icmpNo B X9 at_129 (teq (rfl : i3 = i3)).2 rfl ?_
  refine own_iconst B X9 at_132 rfl (v := (1 : Int32)) rfl ?_
  refine own_goto B X9 at_133 (by decide) (pc' := 137) rfl ?_
  refine own_istore B X9 at_137 rfl #[.val (.int i0), .val (.int i1), .val (.int i2), .val (.int i3), .val (.int i4), .val (.int i5), .val (.ref o), .val (.int (0 : Int32)), .val (.int i0), .val (.int (1 : Int32)), .val (.int (2 : Int32)), .val (.int i3), .val (.int (1 : Int32))] rfl ?_
  refine own_iload B X9 at_139 rfl rfl ?_
  refine own_ifNo B X9 at_141 (feq (by decide : ¬ ((1 : Int32) = (0 : Int32)))).1 rfl ?_
  refine own_iload B X9 at_144 rfl rfl ?_
  refine own_ifNo B X9 at_146 (feq (by decide : ¬ ((1 : Int32) = (0 : Int32)))).1 rfl ?_
  refine own_iconst B X9 at_149 rfl (v := (1 : Int32)) rfl ?_
  refine own_goto B X9 at_150 (by decide) (pc' := 154) rfl ?_
  exact own_retInt B X9 at_154 rfl (Or.inr (Or.inl rfl)) ⟨rfl, N9⟩ (by decide) (by decide)
set_option maxRecDepth 65536 in
set_option maxHeartbeats 8000000 in
theorem law_1_0 (l : Launch) (Z : State) (a0 : Array Value) (hw : ∀ d ∈ tables_1, d.before a0 Z = true) (h0 : Heap) (i0 i1 i2 i3 i4 i5 : Int32) (n0 : Nat) (Z0 : n0 ≤ h0.size) (q0 : ((i4 &&& (2147483647 : Int32)) % (3 : Int32)) = (1 : Int32)) (q1 : ((i5 &&& (2147483647 : Int32)) % (3 : Int32)) = (0 : Int32)) :
    Con l Z x code maxLocals ret tables_1 room_1 #[(.int i0), (.int i1), (.int i2), (.int i3), (.int i4), (.int i5)] h0 (Q0 n0) := by
  refine own_body (plainFor_of_name pnL) hw ?_
  intro p e s m below meth c T0 B X0 e0 hnm
  refine Go.cast (ef0 m i0 i1 i2 i3 i4 i5) ?_
  refine own_new B X0 e0 at_0 rfl (B.w 0 rfl) (B.w 1 rfl) (B.w 2 rfl) (by decide) (by decide) ?_
  intro T1 h1 o X1 e1 hbo E1 Ex1 Dx1
  have go : n0 ≤ o := hbo ▸ Z0
  have Z1 : n0 ≤ h1.size := Nat.le_trans Z0 E1.1
  refine own_dup B X1 at_3 rfl rfl ?_
  refine own_callC B X1 (c_init l Z a0 hw o h1 n0 Z1 go Ex1 (Dx1 (own_lB hw) own_pB) (Dx1 (own_lT hw) own_pT) (Dx1 (own_lS hw) own_pI) (Dx1 (own_lE hw) own_pI)) e1 rfl at_4 rfl (B.w 3 rfl) (B.w 4 rfl) (B.w 2 rfl) (B.w 5 rfl) (by decide) (W := 1) (by decide) (by decide) rfl [] [(.ref o)] pd0 rfl rfl rfl (Nat.le_refl _) (by decide) (by decide) ?_
  rintro T2 _ L2 X2 ⟨rfl, Nq2, Kq2, bb, tt, kb, kt, gbb, gtt, S2'⟩
  show Go p e below _ T2 (mkF m 7 _ [(.ref o)])
  have S2 : Stk Z T2.heap o bb tt kb kt 0 0 [.int (0 : Int32), .int (0 : Int32), .int (0 : Int32), .int (0 : Int32), .int (0 : Int32), .int (0 : Int32), .int (0 : Int32), .int (0 : Int32)] := S2'
  have N2 := Fr.app (Fr.nil n0) Nq2
  have gt : n0 ≤ tt := Nat.le_trans Z1 gtt
  have Z2 : n0 ≤ T2.heap.size := Nat.le_trans Z1 Kq2.1
  refine own_astore B X2 at_7 rfl rfl #[.val (.int i0), .val (.int i1), .val (.int i2), .val (.int i3), .val (.int i4), .val (.int i5), .val (.ref o), .unset, .unset, .unset, .unset, .unset, .unset] rfl ?_
  refine own_aload B X2 at_9 rfl rfl rfl ?_
  refine own_iloadN B X2 at_11 rfl rfl ?_
  refine own_callV B X2 (c_push l Z a0 hw o bb tt kb kt (0 : Int32) (1 : Int32) i0 0 [.int (0 : Int32), .int (0 : Int32), .int (0 : Int32), .int (0 : Int32), .int (0 : Int32), .int (0 : Int32), .int (0 : Int32), .int (0 : Int32)] T2.heap n0 go gt S2 (by decide) ⟨by decide, by decide⟩ (by decide) (by decide) (Nat.le_of_ble_eq_true rfl)) rfl S2.1 (own_nf B (B.w 20 rfl)) at_12 rfl (B.w 17 rfl) (B.w 18 rfl) (B.w 20 rfl) (B.w 19 rfl) (B.w 2 rfl) (B.w 21 rfl) (by decide) (W := 0) (by decide) (by decide) rfl [(.int i0)] [] pd1 rfl rfl rfl (Nat.le_refl _) (by decide) (by decide) ?_
  rintro T3 _ L3 X3 ⟨rfl, Nq3, Kq3, S3'⟩
  show Go p e below _ T3 (mkF m 15 _ [])
  have S3 : Stk Z T3.heap o bb tt kb kt (1 : Int32) (1 : Int32) [.int i0, .int (0 : Int32), .int (0 : Int32), .int (0 : Int32), .int (0 : Int32), .int (0 : Int32), .int (0 : Int32), .int (0 : Int32)] := S3'
  have N3 := Fr.app N2 Nq3
  refine own_aload B X3 at_15 rfl rfl rfl ?_
  refine own_iloadN B X3 at_17 rfl rfl ?_
  refine own_callV B X3 (c_push l Z a0 hw o bb tt kb kt (1 : Int32) (2 : Int32) i1 1 [.int i0, .int (0 : Int32), .int (0 : Int32), .int (0 : Int32), .int (0 : Int32), .int (0 : Int32), .int (0 : Int32), .int (0 : Int32)] T3.heap n0 go gt S3 (by decide) ⟨by decide, by decide⟩ (by decide) (by decide) (Nat.le_of_ble_eq_true rfl)) rfl S3.1 (own_nf B (B.w 20 rfl)) at_18 rfl (B.w 17 rfl) (B.w 18 rfl) (B.w 20 rfl) (B.w 19 rfl) (B.w 2 rfl) (B.w 21 rfl) (by decide) (W := 0) (by decide) (by decide) rfl [(.int i1)] [] pd1 rfl rfl rfl (Nat.le_refl _) (by decide) (by decide) ?_
  rintro T4 _ L4 X4 ⟨rfl, Nq4, Kq4, S4'⟩
  show Go p e below _ T4 (mkF m 21 _ [])
  have S4 : Stk Z T4.heap o bb tt kb kt (2 : Int32) (2 : Int32) [.int i0, .int i1, .int (0 : Int32), .int (0 : Int32), .int (0 : Int32), .int (0 : Int32), .int (0 : Int32), .int (0 : Int32)] := S4'
  have N4 := Fr.app N3 Nq4
  refine own_aload B X4 at_21 rfl rfl rfl ?_
  refine own_iloadN B X4 at_23 rfl rfl ?_
  refine own_callV B X4 (c_push l Z a0 hw o bb tt kb kt (2 : Int32) (3 : Int32) i2 2 [.int i0, .int i1, .int (0 : Int32), .int (0 : Int32), .int (0 : Int32), .int (0 : Int32), .int (0 : Int32), .int (0 : Int32)] T4.heap n0 go gt S4 (by decide) ⟨by decide, by decide⟩ (by decide) (by decide) (Nat.le_of_ble_eq_true rfl)) rfl S4.1 (own_nf B (B.w 20 rfl)) at_24 rfl (B.w 17 rfl) (B.w 18 rfl) (B.w 20 rfl) (B.w 19 rfl) (B.w 2 rfl) (B.w 21 rfl) (by decide) (W := 0) (by decide) (by decide) rfl [(.int i2)] [] pd1 rfl rfl rfl (Nat.le_refl _) (by decide) (by decide) ?_
  rintro T5 _ L5 X5 ⟨rfl, Nq5, Kq5, S5'⟩
  show Go p e below _ T5 (mkF m 27 _ [])
  have S5 : Stk Z T5.heap o bb tt kb kt (3 : Int32) (3 : Int32) [.int i0, .int i1, .int i2, .int (0 : Int32), .int (0 : Int32), .int (0 : Int32), .int (0 : Int32), .int (0 : Int32)] := S5'
  have N5 := Fr.app N4 Nq5
  refine own_iload B X5 at_27 rfl rfl ?_
  refine own_ldc B X5 at_29 rfl (v := (2147483647 : Int32)) (B.w 26 rfl) ?_
  refine own_iand B X5 at_31 rfl (v := (i4 &&& (2147483647 : Int32))) rfl ?_
  refine own_iconst B X5 at_32 rfl (v := (3 : Int32)) rfl ?_
  refine own_irem B X5 at_33 rfl (by decide) (v := (1 : Int32)) q0 ?_
  refine own_istore B X5 at_34 rfl #[.val (.int i0), .val (.int i1), .val (.int i2), .val (.int i3), .val (.int i4), .val (.int i5), .val (.ref o), .val (.int (1 : Int32)), .unset, .unset, .unset, .unset, .unset] rfl ?_
  refine own_iload B X5 at_36 rfl rfl ?_
  refine own_ifYes B X5 at_38 (feq (by decide : ¬ ((1 : Int32) = (0 : Int32)))).2 (by decide) (pc' := 45) rfl ?_
  refine own_iload B X5 at_45 rfl rfl ?_
  refine own_iconst B X5 at_47 rfl (v := (1 : Int32)) rfl ?_
  refine own_icmpNo B X5 at_48 (teq (rfl : (1 : Int32) = (1 : Int32))).2 rfl ?_
  refine own_iloadN B X5 at_51 rfl rfl ?_
  refine own_goto B X5 at_52 (by decide) (pc' := 56) rfl ?_
  refine own_istore B X5 at_56 rfl #[.val (.int i0), .val (.int i1), .val (.int i2), .val (.int i3), .val (.int i4), .val (.int i5), .val (.ref o), .val (.int (1 : Int32)), .val (.int i1), .unset, .unset, .unset, .unset] rfl ?_
  refine own_aload B X5 at_58 rfl rfl rfl ?_
  refine own_iload B X5 at_60 rfl rfl ?_
  refine own_callV B X5 (c_get l Z a0 hw o bb tt kb kt (3 : Int32) (1 : Int32) i1 [.int i0, .int i1, .int i2, .int (0 : Int32), .int (0 : Int32), .int (0 : Int32), .int (0 : Int32), .int (0 : Int32)] T5.heap S5 (by decide) ⟨by decide, by decide⟩  rfl (by decide)) rfl S5.1 (own_nf B (B.w 30 rfl)) at_62 rfl (B.w 27 rfl) (B.w 28 rfl) (B.w 30 rfl) (B.w 29 rfl) (B.w 2 rfl) (B.w 31 rfl) (by decide) (W := 0) (by decide) (by decide) rfl [(.int (1 : Int32))] [] pd2 rfl rfl rfl (Nat.le_refl _) (by decide) (by decide) ?_
  rintro T6 _ _ X6 ⟨rfl, rfl, e6⟩
  show Go p e below _ T6 (mkF m 65 _ [(.int i1)])
  have N6 := Fr.app N5 (Fr.nil n0)
  refine own_iload B X6 at_65 rfl rfl ?_
  refine own_icmpNo B X6 at_67 (teq (rfl : i1 = i1)).2 rfl ?_
  refine own_iconst B X6 at_70 rfl (v := (1 : Int32)) rfl ?_
  refine own_goto B X6 at_71 (by decide) (pc' := 75) rfl ?_
  refine own_istore B X6 at_75 rfl #[.val (.int i0), .val (.int i1), .val (.int i2), .val (.int i3), .val (.int i4), .val (.int i5), .val (.ref o), .val (.int (1 : Int32)), .val (.int i1), .val (.int (1 : Int32)), .unset, .unset, .unset] rfl ?_
  refine own_aload B X6 at_77 rfl rfl rfl ?_
  refine own_callV B X6 (c_pop l Z a0 hw o bb tt kb kt (3 : Int32) (2 : Int32) i2 [.int i0, .int i1, .int i2, .int (0 : Int32), .int (0 : Int32), .int (0 : Int32), .int (0 : Int32), .int (0 : Int32)] T5.heap n0 go S5 (by decide) ⟨by decide, by decide⟩ rfl) e6 S5.1 (own_nf B (B.w 35 rfl)) at_79 rfl (B.w 32 rfl) (B.w 33 rfl) (B.w 35 rfl) (B.w 34 rfl) (B.w 2 rfl) (B.w 36 rfl) (by decide) (W := 0) (by decide) (by decide) rfl [] [] pd3 rfl rfl rfl (Nat.le_refl _) (by decide) (by decide) ?_
  rintro T7 _ L7 X7 ⟨rfl, Nq7, Kq7, S7'⟩
  show Go p e below _ T7 (mkF m 82 _ [(.int i2)])
  have S7 : Stk Z T7.heap o bb tt kb kt (2 : Int32) (2 : Int32) [.int i0, .int i1, .int i2, .int (0 : Int32), .int (0 : Int32), .int (0 : Int32), .int (0 : Int32), .int (0 : Int32)] := S7'
  have N7 := Fr.app N6 Nq7
  refine own_pop B X7 at_82 rfl rfl ?_
  refine own_aload B X7 at_83 rfl rfl rfl ?_
  refine own_iloadN B X7 at_85 rfl rfl ?_
  refine own_callV B X7 (c_push l Z a0 hw o bb tt kb kt (2 : Int32) (3 : Int32) i3 2 [.int i0, .int i1, .int i2, .int (0 : Int32), .int (0 : Int32), .int (0 : Int32), .int (0 : Int32), .int (0 : Int32)] T7.heap n0 go gt S7 (by decide) ⟨by decide, by decide⟩ (by decide) (by decide) (Nat.le_of_ble_eq_true rfl)) rfl S7.1 (own_nf B (B.w 20 rfl)) at_86 rfl (B.w 17 rfl) (B.w 18 rfl) (B.w 20 rfl) (B.w 19 rfl) (B.w 2 rfl) (B.w 21 rfl) (by decide) (W := 0) (by decide) (by decide) rfl [(.int i3)] [] pd1 rfl rfl rfl (Nat.le_refl _) (by decide) (by decide) ?_
  rintro T8 _ L8 X8 ⟨rfl, Nq8, Kq8, S8'⟩
  show Go p e below _ T8 (mkF m 89 _ [])
  have S8 : Stk Z T8.heap o bb tt kb kt (3 : Int32) (3 : Int32) [.int i0, .int i1, .int i3, .int (0 : Int32), .int (0 : Int32), .int (0 : Int32), .int (0 : Int32), .int (0 : Int32)] := S8'
  have N8 := Fr.app N7 Nq8
  refine own_iload B X8 at_89 rfl rfl ?_
  refine own_ldc B X8 at_91 rfl (v := (2147483647 : Int32)) (B.w 26 rfl) ?_
  refine own_iand B X8 at_93 rfl (v := (i5 &&& (2147483647 : Int32))) rfl ?_
  refine own_iconst B X8 at_94 rfl (v := (3 : Int32)) rfl ?_
  refine own_irem B X8 at_95 rfl (by decide) (v := (0 : Int32)) q1 ?_
  refine own_istore B X8 at_96 rfl #[.val (.int i0), .val (.int i1), .val (.int i2), .val (.int i3), .val (.int i4), .val (.int i5), .val (.ref o), .val (.int (1 : Int32)), .val (.int i1), .val (.int (1 : Int32)), .val (.int (0 : Int32)), .unset, .unset] rfl ?_
  refine own_iload B X8 at_98 rfl rfl ?_
  refine own_ifNo B X8 at_100 (teq (rfl : (0 : Int32) = (0 : Int32))).2 rfl ?_
  refine own_iloadN B X8 at_103 rfl rfl ?_
  refine own_goto B X8 at_104 (by decide) (pc' := 118) rfl ?_
  refine own_istore B X8 at_118 rfl #[.val (.int i0), .val (.int i1), .val (.int i2), .val (.int i3), .val (.int i4), .val (.int i5), .val (.ref o), .val (.int (1 : Int32)), .val (.int i1), .val (.int (1 : Int32)), .val (.int (0 : Int32)), .val (.int i0), .unset] rfl ?_
  refine own_aload B X8 at_120 rfl rfl rfl ?_
  refine own_iload B X8 at_122 rfl rfl ?_
  refine own_callV B X8 (c_get l Z a0 hw o bb tt kb kt (3 : Int32) (0 : Int32) i0 [.int i0, .int i1, .int i3, .int (0 : Int32), .int (0 : Int32), .int (0 : Int32), .int (0 : Int32), .int (0 : Int32)] T8.heap S8 (by decide) ⟨by decide, by decide⟩  rfl (by decide)) rfl S8.1 (own_nf B (B.w 30 rfl)) at_124 rfl (B.w 27 rfl) (B.w 28 rfl) (B.w 30 rfl) (B.w 29 rfl) (B.w 2 rfl) (B.w 31 rfl) (by decide) (W := 0) (by decide) (by decide) rfl [(.int (0 : Int32))] [] pd2 rfl rfl rfl (Nat.le_refl _) (by decide) (by decide) ?_
  rintro T9 _ _ X9 ⟨rfl, rfl, e9⟩
  show Go p e below _ T9 (mkF m 127 _ [(.int i0)])
  have N9 := Fr.app N8 (Fr.nil n0)
  refine own_iload B X9 at_127 rfl rfl ?_
  refine own_icmpNo B X9 at_129 (teq (rfl : i0 = i0)).2 rfl ?_
  refine own_iconst B X9 at_132 rfl (v := (1 : Int32)) rfl ?_
  refine own_goto B X9 at_133 (by decide) (pc' := 137) rfl ?_
  refine own_istore B X9 at_137 rfl #[.val (.int i0), .val (.int i1), .val (.int i2), .val (.int i3), .val (.int i4), .val (.int i5), .val (.ref o), .val (.int (1 : Int32)), .val (.int i1), .val (.int (1 : Int32)), .val (.int (0 : Int32)), .val (.int i0), .val (.int (1 : Int32))] rfl ?_
  refine own_iload B X9 at_139 rfl rfl ?_
  refine own_ifNo B X9 at_141 (feq (by decide : ¬ ((1 : Int32) = (0 : Int32)))).1 rfl ?_
  refine own_iload B X9 at_144 rfl rfl ?_
  refine own_ifNo B X9 at_146 (feq (by decide : ¬ ((1 : Int32) = (0 : Int32)))).1 rfl ?_
  refine own_iconst B X9 at_149 rfl (v := (1 : Int32)) rfl ?_
  refine own_goto B X9 at_150 (by decide) (pc' := 154) rfl ?_
  exact own_retInt B X9 at_154 rfl (Or.inr (Or.inl rfl)) ⟨rfl, N9⟩ (by decide) (by decide)
set_option maxRecDepth 65536 in
set_option maxHeartbeats 8000000 in
theorem law_1_1 (l : Launch) (Z : State) (a0 : Array Value) (hw : ∀ d ∈ tables_1, d.before a0 Z = true) (h0 : Heap) (i0 i1 i2 i3 i4 i5 : Int32) (n0 : Nat) (Z0 : n0 ≤ h0.size) (q0 : ((i4 &&& (2147483647 : Int32)) % (3 : Int32)) = (1 : Int32)) (q1 : ((i5 &&& (2147483647 : Int32)) % (3 : Int32)) = (1 : Int32)) :
    Con l Z x code maxLocals ret tables_1 room_1 #[(.int i0), (.int i1), (.int i2), (.int i3), (.int i4), (.int i5)] h0 (Q0 n0) := by
  refine own_body (plainFor_of_name pnL) hw ?_
  intro p e s m below meth c T0 B X0 e0 hnm
  refine Go.cast (ef0 m i0 i1 i2 i3 i4 i5) ?_
  refine own_new B X0 e0 at_0 rfl (B.w 0 rfl) (B.w 1 rfl) (B.w 2 rfl) (by decide) (by decide) ?_
  intro T1 h1 o X1 e1 hbo E1 Ex1 Dx1
  have go : n0 ≤ o := hbo ▸ Z0
  have Z1 : n0 ≤ h1.size := Nat.le_trans Z0 E1.1
  refine own_dup B X1 at_3 rfl rfl ?_
  refine own_callC B X1 (c_init l Z a0 hw o h1 n0 Z1 go Ex1 (Dx1 (own_lB hw) own_pB) (Dx1 (own_lT hw) own_pT) (Dx1 (own_lS hw) own_pI) (Dx1 (own_lE hw) own_pI)) e1 rfl at_4 rfl (B.w 3 rfl) (B.w 4 rfl) (B.w 2 rfl) (B.w 5 rfl) (by decide) (W := 1) (by decide) (by decide) rfl [] [(.ref o)] pd0 rfl rfl rfl (Nat.le_refl _) (by decide) (by decide) ?_
  rintro T2 _ L2 X2 ⟨rfl, Nq2, Kq2, bb, tt, kb, kt, gbb, gtt, S2'⟩
  show Go p e below _ T2 (mkF m 7 _ [(.ref o)])
  have S2 : Stk Z T2.heap o bb tt kb kt 0 0 [.int (0 : Int32), .int (0 : Int32), .int (0 : Int32), .int (0 : Int32), .int (0 : Int32), .int (0 : Int32), .int (0 : Int32), .int (0 : Int32)] := S2'
  have N2 := Fr.app (Fr.nil n0) Nq2
  have gt : n0 ≤ tt := Nat.le_trans Z1 gtt
  have Z2 : n0 ≤ T2.heap.size := Nat.le_trans Z1 Kq2.1
  refine own_astore B X2 at_7 rfl rfl #[.val (.int i0), .val (.int i1), .val (.int i2), .val (.int i3), .val (.int i4), .val (.int i5), .val (.ref o), .unset, .unset, .unset, .unset, .unset, .unset] rfl ?_
  refine own_aload B X2 at_9 rfl rfl rfl ?_
  refine own_iloadN B X2 at_11 rfl rfl ?_
  refine own_callV B X2 (c_push l Z a0 hw o bb tt kb kt (0 : Int32) (1 : Int32) i0 0 [.int (0 : Int32), .int (0 : Int32), .int (0 : Int32), .int (0 : Int32), .int (0 : Int32), .int (0 : Int32), .int (0 : Int32), .int (0 : Int32)] T2.heap n0 go gt S2 (by decide) ⟨by decide, by decide⟩ (by decide) (by decide) (Nat.le_of_ble_eq_true rfl)) rfl S2.1 (own_nf B (B.w 20 rfl)) at_12 rfl (B.w 17 rfl) (B.w 18 rfl) (B.w 20 rfl) (B.w 19 rfl) (B.w 2 rfl) (B.w 21 rfl) (by decide) (W := 0) (by decide) (by decide) rfl [(.int i0)] [] pd1 rfl rfl rfl (Nat.le_refl _) (by decide) (by decide) ?_
  rintro T3 _ L3 X3 ⟨rfl, Nq3, Kq3, S3'⟩
  show Go p e below _ T3 (mkF m 15 _ [])
  have S3 : Stk Z T3.heap o bb tt kb kt (1 : Int32) (1 : Int32) [.int i0, .int (0 : Int32), .int (0 : Int32), .int (0 : Int32), .int (0 : Int32), .int (0 : Int32), .int (0 : Int32), .int (0 : Int32)] := S3'
  have N3 := Fr.app N2 Nq3
  refine own_aload B X3 at_15 rfl rfl rfl ?_
  refine own_iloadN B X3 at_17 rfl rfl ?_
  refine own_callV B X3 (c_push l Z a0 hw o bb tt kb kt (1 : Int32) (2 : Int32) i1 1 [.int i0, .int (0 : Int32), .int (0 : Int32), .int (0 : Int32), .int (0 : Int32), .int (0 : Int32), .int (0 : Int32), .int (0 : Int32)] T3.heap n0 go gt S3 (by decide) ⟨by decide, by decide⟩ (by decide) (by decide) (Nat.le_of_ble_eq_true rfl)) rfl S3.1 (own_nf B (B.w 20 rfl)) at_18 rfl (B.w 17 rfl) (B.w 18 rfl) (B.w 20 rfl) (B.w 19 rfl) (B.w 2 rfl) (B.w 21 rfl) (by decide) (W := 0) (by decide) (by decide) rfl [(.int i1)] [] pd1 rfl rfl rfl (Nat.le_refl _) (by decide) (by decide) ?_
  rintro T4 _ L4 X4 ⟨rfl, Nq4, Kq4, S4'⟩
  show Go p e below _ T4 (mkF m 21 _ [])
  have S4 : Stk Z T4.heap o bb tt kb kt (2 : Int32) (2 : Int32) [.int i0, .int i1, .int (0 : Int32), .int (0 : Int32), .int (0 : Int32), .int (0 : Int32), .int (0 : Int32), .int (0 : Int32)] := S4'
  have N4 := Fr.app N3 Nq4
  refine own_aload B X4 at_21 rfl rfl rfl ?_
  refine own_iloadN B X4 at_23 rfl rfl ?_
  refine own_callV B X4 (c_push l Z a0 hw o bb tt kb kt (2 : Int32) (3 : Int32) i2 2 [.int i0, .int i1, .int (0 : Int32), .int (0 : Int32), .int (0 : Int32), .int (0 : Int32), .int (0 : Int32), .int (0 : Int32)] T4.heap n0 go gt S4 (by decide) ⟨by decide, by decide⟩ (by decide) (by decide) (Nat.le_of_ble_eq_true rfl)) rfl S4.1 (own_nf B (B.w 20 rfl)) at_24 rfl (B.w 17 rfl) (B.w 18 rfl) (B.w 20 rfl) (B.w 19 rfl) (B.w 2 rfl) (B.w 21 rfl) (by decide) (W := 0) (by decide) (by decide) rfl [(.int i2)] [] pd1 rfl rfl rfl (Nat.le_refl _) (by decide) (by decide) ?_
  rintro T5 _ L5 X5 ⟨rfl, Nq5, Kq5, S5'⟩
  show Go p e below _ T5 (mkF m 27 _ [])
  have S5 : Stk Z T5.heap o bb tt kb kt (3 : Int32) (3 : Int32) [.int i0, .int i1, .int i2, .int (0 : Int32), .int (0 : Int32), .int (0 : Int32), .int (0 : Int32), .int (0 : Int32)] := S5'
  have N5 := Fr.app N4 Nq5
  refine own_iload B X5 at_27 rfl rfl ?_
  refine own_ldc B X5 at_29 rfl (v := (2147483647 : Int32)) (B.w 26 rfl) ?_
  refine own_iand B X5 at_31 rfl (v := (i4 &&& (2147483647 : Int32))) rfl ?_
  refine own_iconst B X5 at_32 rfl (v := (3 : Int32)) rfl ?_
  refine own_irem B X5 at_33 rfl (by decide) (v := (1 : Int32)) q0 ?_
  refine own_istore B X5 at_34 rfl #[.val (.int i0), .val (.int i1), .val (.int i2), .val (.int i3), .val (.int i4), .val (.int i5), .val (.ref o), .val (.int (1 : Int32)), .unset, .unset, .unset, .unset, .unset] rfl ?_
  refine own_iload B X5 at_36 rfl rfl ?_
  refine own_ifYes B X5 at_38 (feq (by decide : ¬ ((1 : Int32) = (0 : Int32)))).2 (by decide) (pc' := 45) rfl ?_
  refine own_iload B X5 at_45 rfl rfl ?_
  refine own_iconst B X5 at_47 rfl (v := (1 : Int32)) rfl ?_
  refine own_icmpNo B X5 at_48 (teq (rfl : (1 : Int32) = (1 : Int32))).2 rfl ?_
  refine own_iloadN B X5 at_51 rfl rfl ?_
  refine own_goto B X5 at_52 (by decide) (pc' := 56) rfl ?_
  refine own_istore B X5 at_56 rfl #[.val (.int i0), .val (.int i1), .val (.int i2), .val (.int i3), .val (.int i4), .val (.int i5), .val (.ref o), .val (.int (1 : Int32)), .val (.int i1), .unset, .unset, .unset, .unset] rfl ?_
  refine own_aload B X5 at_58 rfl rfl rfl ?_
  refine own_iload B X5 at_60 rfl rfl ?_
  refine own_callV B X5 (c_get l Z a0 hw o bb tt kb kt (3 : Int32) (1 : Int32) i1 [.int i0, .int i1, .int i2, .int (0 : Int32), .int (0 : Int32), .int (0 : Int32), .int (0 : Int32), .int (0 : Int32)] T5.heap S5 (by decide) ⟨by decide, by decide⟩  rfl (by decide)) rfl S5.1 (own_nf B (B.w 30 rfl)) at_62 rfl (B.w 27 rfl) (B.w 28 rfl) (B.w 30 rfl) (B.w 29 rfl) (B.w 2 rfl) (B.w 31 rfl) (by decide) (W := 0) (by decide) (by decide) rfl [(.int (1 : Int32))] [] pd2 rfl rfl rfl (Nat.le_refl _) (by decide) (by decide) ?_
  rintro T6 _ _ X6 ⟨rfl, rfl, e6⟩
  show Go p e below _ T6 (mkF m 65 _ [(.int i1)])
  have N6 := Fr.app N5 (Fr.nil n0)
  refine own_iload B X6 at_65 rfl rfl ?_
  refine own_icmpNo B X6 at_67 (teq (rfl : i1 = i1)).2 rfl ?_
  refine own_iconst B X6 at_70 rfl (v := (1 : Int32)) rfl ?_
  refine own_goto B X6 at_71 (by decide) (pc' := 75) rfl ?_
  refine own_istore B X6 at_75 rfl #[.val (.int i0), .val (.int i1), .val (.int i2), .val (.int i3), .val (.int i4), .val (.int i5), .val (.ref o), .val (.int (1 : Int32)), .val (.int i1), .val (.int (1 : Int32)), .unset, .unset, .unset] rfl ?_
  refine own_aload B X6 at_77 rfl rfl rfl ?_
  refine own_callV B X6 (c_pop l Z a0 hw o bb tt kb kt (3 : Int32) (2 : Int32) i2 [.int i0, .int i1, .int i2, .int (0 : Int32), .int (0 : Int32), .int (0 : Int32), .int (0 : Int32), .int (0 : Int32)] T5.heap n0 go S5 (by decide) ⟨by decide, by decide⟩ rfl) e6 S5.1 (own_nf B (B.w 35 rfl)) at_79 rfl (B.w 32 rfl) (B.w 33 rfl) (B.w 35 rfl) (B.w 34 rfl) (B.w 2 rfl) (B.w 36 rfl) (by decide) (W := 0) (by decide) (by decide) rfl [] [] pd3 rfl rfl rfl (Nat.le_refl _) (by decide) (by decide) ?_
  rintro T7 _ L7 X7 ⟨rfl, Nq7, Kq7, S7'⟩
  show Go p e below _ T7 (mkF m 82 _ [(.int i2)])
  have S7 : Stk Z T7.heap o bb tt kb kt (2 : Int32) (2 : Int32) [.int i0, .int i1, .int i2, .int (0 : Int32), .int (0 : Int32), .int (0 : Int32), .int (0 : Int32), .int (0 : Int32)] := S7'
  have N7 := Fr.app N6 Nq7
  refine own_pop B X7 at_82 rfl rfl ?_
  refine own_aload B X7 at_83 rfl rfl rfl ?_
  refine own_iloadN B X7 at_85 rfl rfl ?_
  refine own_callV B X7 (c_push l Z a0 hw o bb tt kb kt (2 : Int32) (3 : Int32) i3 2 [.int i0, .int i1, .int i2, .int (0 : Int32), .int (0 : Int32), .int (0 : Int32), .int (0 : Int32), .int (0 : Int32)] T7.heap n0 go gt S7 (by decide) ⟨by decide, by decide⟩ (by decide) (by decide) (Nat.le_of_ble_eq_true rfl)) rfl S7.1 (own_nf B (B.w 20 rfl)) at_86 rfl (B.w 17 rfl) (B.w 18 rfl) (B.w 20 rfl) (B.w 19 rfl) (B.w 2 rfl) (B.w 21 rfl) (by decide) (W := 0) (by decide) (by decide) rfl [(.int i3)] [] pd1 rfl rfl rfl (Nat.le_refl _) (by decide) (by decide) ?_
  rintro T8 _ L8 X8 ⟨rfl, Nq8, Kq8, S8'⟩
  show Go p e below _ T8 (mkF m 89 _ [])
  have S8 : Stk Z T8.heap o bb tt kb kt (3 : Int32) (3 : Int32) [.int i0, .int i1, .int i3, .int (0 : Int32), .int (0 : Int32), .int (0 : Int32), .int (0 : Int32), .int (0 : Int32)] := S8'
  have N8 := Fr.app N7 Nq8
  refine own_iload B X8 at_89 rfl rfl ?_
  refine own_ldc B X8 at_91 rfl (v := (2147483647 : Int32)) (B.w 26 rfl) ?_
  refine own_iand B X8 at_93 rfl (v := (i5 &&& (2147483647 : Int32))) rfl ?_
  refine own_iconst B X8 at_94 rfl (v := (3 : Int32)) rfl ?_
  refine own_irem B X8 at_95 rfl (by decide) (v := (1 : Int32)) q1 ?_
  refine own_istore B X8 at_96 rfl #[.val (.int i0), .val (.int i1), .val (.int i2), .val (.int i3), .val (.int i4), .val (.int i5), .val (.ref o), .val (.int (1 : Int32)), .val (.int i1), .val (.int (1 : Int32)), .val (.int (1 : Int32)), .unset, .unset] rfl ?_
  refine own_iload B X8 at_98 rfl rfl ?_
  refine own_ifYes B X8 at_100 (feq (by decide : ¬ ((1 : Int32) = (0 : Int32)))).2 (by decide) (pc' := 107) rfl ?_
  refine own_iload B X8 at_107 rfl rfl ?_
  refine own_iconst B X8 at_109 rfl (v := (1 : Int32)) rfl ?_
  refine own_icmpNo B X8 at_110 (teq (rfl : (1 : Int32) = (1 : Int32))).2 rfl ?_
  refine own_iloadN B X8 at_113 rfl rfl ?_
  refine own_goto B X8 at_114 (by decide) (pc' := 118) rfl ?_
  refine own_istore B X8 at_118 rfl #[.val (.int i0), .val (.int i1), .val (.int i2), .val (.int i3), .val (.int i4), .val (.int i5), .val (.ref o), .val (.int (1 : Int32)), .val (.int i1), .val (.int (1 : Int32)), .val (.int (1 : Int32)), .val (.int i1), .unset] rfl ?_
  refine own_aload B X8 at_120 rfl rfl rfl ?_
  refine own_iload B X8 at_122 rfl rfl ?_
  refine own_callV B X8 (c_get l Z a0 hw o bb tt kb kt (3 : Int32) (1 : Int32) i1 [.int i0, .int i1, .int i3, .int (0 : Int32), .int (0 : Int32), .int (0 : Int32), .int (0 : Int32), .int (0 : Int32)] T8.heap S8 (by decide) ⟨by decide, by decide⟩  rfl (by decide)) rfl S8.1 (own_nf B (B.w 30 rfl)) at_124 rfl (B.w 27 rfl) (B.w 28 rfl) (B.w 30 rfl) (B.w 29 rfl) (B.w 2 rfl) (B.w 31 rfl) (by decide) (W := 0) (by decide) (by decide) rfl [(.int (1 : Int32))] [] pd2 rfl rfl rfl (Nat.le_refl _) (by decide) (by decide) ?_
  rintro T9 _ _ X9 ⟨rfl, rfl, e9⟩
  show Go p e below _ T9 (mkF m 127 _ [(.int i1)])
  have N9 := Fr.app N8 (Fr.nil n0)
  refine own_iload B X9 at_127 rfl rfl ?_
  refine own_icmpNo B X9 at_129 (teq (rfl : i1 = i1)).2 rfl ?_
  refine own_iconst B X9 at_132 rfl (v := (1 : Int32)) rfl ?_
  refine own_goto B X9 at_133 (by decide) (pc' := 137) rfl ?_
  refine own_istore B X9 at_137 rfl #[.val (.int i0), .val (.int i1), .val (.int i2), .val (.int i3), .val (.int i4), .val (.int i5), .val (.ref o), .val (.int (1 : Int32)), .val (.int i1), .val (.int (1 : Int32)), .val (.int (1 : Int32)), .val (.int i1), .val (.int (1 : Int32))] rfl ?_
  refine own_iload B X9 at_139 rfl rfl ?_
  refine own_ifNo B X9 at_141 (feq (by decide : ¬ ((1 : Int32) = (0 : Int32)))).1 rfl ?_
  refine own_iload B X9 at_144 rfl rfl ?_
  refine own_ifNo B X9 at_146 (feq (by decide : ¬ ((1 : Int32) = (0 : Int32)))).1 rfl ?_
  refine own_iconst B X9 at_149 rfl (v := (1 : Int32)) rfl ?_
  refine own_goto B X9 at_150 (by decide) (pc' := 154) rfl ?_
  exact own_retInt B X9 at_154 rfl (Or.inr (Or.inl rfl)) ⟨rfl, N9⟩ (by decide) (by decide)
set_option maxRecDepth 65536 in
set_option maxHeartbeats 8000000 in
theorem law_1_2 (l : Launch) (Z : State) (a0 : Array Value) (hw : ∀ d ∈ tables_1, d.before a0 Z = true) (h0 : Heap) (i0 i1 i2 i3 i4 i5 : Int32) (n0 : Nat) (Z0 : n0 ≤ h0.size) (q0 : ((i4 &&& (2147483647 : Int32)) % (3 : Int32)) = (1 : Int32)) (q1 : ((i5 &&& (2147483647 : Int32)) % (3 : Int32)) = (2 : Int32)) :
    Con l Z x code maxLocals ret tables_1 room_1 #[(.int i0), (.int i1), (.int i2), (.int i3), (.int i4), (.int i5)] h0 (Q0 n0) := by
  refine own_body (plainFor_of_name pnL) hw ?_
  intro p e s m below meth c T0 B X0 e0 hnm
  refine Go.cast (ef0 m i0 i1 i2 i3 i4 i5) ?_
  refine own_new B X0 e0 at_0 rfl (B.w 0 rfl) (B.w 1 rfl) (B.w 2 rfl) (by decide) (by decide) ?_
  intro T1 h1 o X1 e1 hbo E1 Ex1 Dx1
  have go : n0 ≤ o := hbo ▸ Z0
  have Z1 : n0 ≤ h1.size := Nat.le_trans Z0 E1.1
  refine own_dup B X1 at_3 rfl rfl ?_
  refine own_callC B X1 (c_init l Z a0 hw o h1 n0 Z1 go Ex1 (Dx1 (own_lB hw) own_pB) (Dx1 (own_lT hw) own_pT) (Dx1 (own_lS hw) own_pI) (Dx1 (own_lE hw) own_pI)) e1 rfl at_4 rfl (B.w 3 rfl) (B.w 4 rfl) (B.w 2 rfl) (B.w 5 rfl) (by decide) (W := 1) (by decide) (by decide) rfl [] [(.ref o)] pd0 rfl rfl rfl (Nat.le_refl _) (by decide) (by decide) ?_
  rintro T2 _ L2 X2 ⟨rfl, Nq2, Kq2, bb, tt, kb, kt, gbb, gtt, S2'⟩
  show Go p e below _ T2 (mkF m 7 _ [(.ref o)])
  have S2 : Stk Z T2.heap o bb tt kb kt 0 0 [.int (0 : Int32), .int (0 : Int32), .int (0 : Int32), .int (0 : Int32), .int (0 : Int32), .int (0 : Int32), .int (0 : Int32), .int (0 : Int32)] := S2'
  have N2 := Fr.app (Fr.nil n0) Nq2
  have gt : n0 ≤ tt := Nat.le_trans Z1 gtt
  have Z2 : n0 ≤ T2.heap.size := Nat.le_trans Z1 Kq2.1
  refine own_astore B X2 at_7 rfl rfl #[.val (.int i0), .val (.int i1), .val (.int i2), .val (.int i3), .val (.int i4), .val (.int i5), .val (.ref o), .unset, .unset, .unset, .unset, .unset, .unset] rfl ?_
  refine own_aload B X2 at_9 rfl rfl rfl ?_
  refine own_iloadN B X2 at_11 rfl rfl ?_
  refine own_callV B X2 (c_push l Z a0 hw o bb tt kb kt (0 : Int32) (1 : Int32) i0 0 [.int (0 : Int32), .int (0 : Int32), .int (0 : Int32), .int (0 : Int32), .int (0 : Int32), .int (0 : Int32), .int (0 : Int32), .int (0 : Int32)] T2.heap n0 go gt S2 (by decide) ⟨by decide, by decide⟩ (by decide) (by decide) (Nat.le_of_ble_eq_true rfl)) rfl S2.1 (own_nf B (B.w 20 rfl)) at_12 rfl (B.w 17 rfl) (B.w 18 rfl) (B.w 20 rfl) (B.w 19 rfl) (B.w 2 rfl) (B.w 21 rfl) (by decide) (W := 0) (by decide) (by decide) rfl [(.int i0)] [] pd1 rfl rfl rfl (Nat.le_refl _) (by decide) (by decide) ?_
  rintro T3 _ L3 X3 ⟨rfl, Nq3, Kq3, S3'⟩
  show Go p e below _ T3 (mkF m 15 _ [])
  have S3 : Stk Z T3.heap o bb tt kb kt (1 : Int32) (1 : Int32) [.int i0, .int (0 : Int32), .int (0 : Int32), .int (0 : Int32), .int (0 : Int32), .int (0 : Int32), .int (0 : Int32), .int (0 : Int32)] := S3'
  have N3 := Fr.app N2 Nq3
  refine own_aload B X3 at_15 rfl rfl rfl ?_
  refine own_iloadN B X3 at_17 rfl rfl ?_
  refine own_callV B X3 (c_push l Z a0 hw o bb tt kb kt (1 : Int32) (2 : Int32) i1 1 [.int i0, .int (0 : Int32), .int (0 : Int32), .int (0 : Int32), .int (0 : Int32), .int (0 : Int32), .int (0 : Int32), .int (0 : Int32)] T3.heap n0 go gt S3 (by decide) ⟨by decide, by decide⟩ (by decide) (by decide) (Nat.le_of_ble_eq_true rfl)) rfl S3.1 (own_nf B (B.w 20 rfl)) at_18 rfl (B.w 17 rfl) (B.w 18 rfl) (B.w 20 rfl) (B.w 19 rfl) (B.w 2 rfl) (B.w 21 rfl) (by decide) (W := 0) (by decide) (by decide) rfl [(.int i1)] [] pd1 rfl rfl rfl (Nat.le_refl _) (by decide) (by decide) ?_
  rintro T4 _ L4 X4 ⟨rfl, Nq4, Kq4, S4'⟩
  show Go p e below _ T4 (mkF m 21 _ [])
  have S4 : Stk Z T4.heap o bb tt kb kt (2 : Int32) (2 : Int32) [.int i0, .int i1, .int (0 : Int32), .int (0 : Int32), .int (0 : Int32), .int (0 : Int32), .int (0 : Int32), .int (0 : Int32)] := S4'
  have N4 := Fr.app N3 Nq4
  refine own_aload B X4 at_21 rfl rfl rfl ?_
  refine own_iloadN B X4 at_23 rfl rfl ?_
  refine own_callV B X4 (c_push l Z a0 hw o bb tt kb kt (2 : Int32) (3 : Int32) i2 2 [.int i0, .int i1, .int (0 : Int32), .int (0 : Int32), .int (0 : Int32), .int (0 : Int32), .int (0 : Int32), .int (0 : Int32)] T4.heap n0 go gt S4 (by decide) ⟨by decide, by decide⟩ (by decide) (by decide) (Nat.le_of_ble_eq_true rfl)) rfl S4.1 (own_nf B (B.w 20 rfl)) at_24 rfl (B.w 17 rfl) (B.w 18 rfl) (B.w 20 rfl) (B.w 19 rfl) (B.w 2 rfl) (B.w 21 rfl) (by decide) (W := 0) (by decide) (by decide) rfl [(.int i2)] [] pd1 rfl rfl rfl (Nat.le_refl _) (by decide) (by decide) ?_
  rintro T5 _ L5 X5 ⟨rfl, Nq5, Kq5, S5'⟩
  show Go p e below _ T5 (mkF m 27 _ [])
  have S5 : Stk Z T5.heap o bb tt kb kt (3 : Int32) (3 : Int32) [.int i0, .int i1, .int i2, .int (0 : Int32), .int (0 : Int32), .int (0 : Int32), .int (0 : Int32), .int (0 : Int32)] := S5'
  have N5 := Fr.app N4 Nq5
  refine own_iload B X5 at_27 rfl rfl ?_
  refine own_ldc B X5 at_29 rfl (v := (2147483647 : Int32)) (B.w 26 rfl) ?_
  refine own_iand B X5 at_31 rfl (v := (i4 &&& (2147483647 : Int32))) rfl ?_
  refine own_iconst B X5 at_32 rfl (v := (3 : Int32)) rfl ?_
  refine own_irem B X5 at_33 rfl (by decide) (v := (1 : Int32)) q0 ?_
  refine own_istore B X5 at_34 rfl #[.val (.int i0), .val (.int i1), .val (.int i2), .val (.int i3), .val (.int i4), .val (.int i5), .val (.ref o), .val (.int (1 : Int32)), .unset, .unset, .unset, .unset, .unset] rfl ?_
  refine own_iload B X5 at_36 rfl rfl ?_
  refine own_ifYes B X5 at_38 (feq (by decide : ¬ ((1 : Int32) = (0 : Int32)))).2 (by decide) (pc' := 45) rfl ?_
  refine own_iload B X5 at_45 rfl rfl ?_
  refine own_iconst B X5 at_47 rfl (v := (1 : Int32)) rfl ?_
  refine own_icmpNo B X5 at_48 (teq (rfl : (1 : Int32) = (1 : Int32))).2 rfl ?_
  refine own_iloadN B X5 at_51 rfl rfl ?_
  refine own_goto B X5 at_52 (by decide) (pc' := 56) rfl ?_
  refine own_istore B X5 at_56 rfl #[.val (.int i0), .val (.int i1), .val (.int i2), .val (.int i3), .val (.int i4), .val (.int i5), .val (.ref o), .val (.int (1 : Int32)), .val (.int i1), .unset, .unset, .unset, .unset] rfl ?_
  refine own_aload B X5 at_58 rfl rfl rfl ?_
  refine own_iload B X5 at_60 rfl rfl ?_
  refine own_callV B X5 (c_get l Z a0 hw o bb tt kb kt (3 : Int32) (1 : Int32) i1 [.int i0, .int i1, .int i2, .int (0 : Int32), .int (0 : Int32), .int (0 : Int32), .int (0 : Int32), .int (0 : Int32)] T5.heap S5 (by decide) ⟨by decide, by decide⟩  rfl (by decide)) rfl S5.1 (own_nf B (B.w 30 rfl)) at_62 rfl (B.w 27 rfl) (B.w 28 rfl) (B.w 30 rfl) (B.w 29 rfl) (B.w 2 rfl) (B.w 31 rfl) (by decide) (W := 0) (by decide) (by decide) rfl [(.int (1 : Int32))] [] pd2 rfl rfl rfl (Nat.le_refl _) (by decide) (by decide) ?_
  rintro T6 _ _ X6 ⟨rfl, rfl, e6⟩
  show Go p e below _ T6 (mkF m 65 _ [(.int i1)])
  have N6 := Fr.app N5 (Fr.nil n0)
  refine own_iload B X6 at_65 rfl rfl ?_
  refine own_icmpNo B X6 at_67 (teq (rfl : i1 = i1)).2 rfl ?_
  refine own_iconst B X6 at_70 rfl (v := (1 : Int32)) rfl ?_
  refine own_goto B X6 at_71 (by decide) (pc' := 75) rfl ?_
  refine own_istore B X6 at_75 rfl #[.val (.int i0), .val (.int i1), .val (.int i2), .val (.int i3), .val (.int i4), .val (.int i5), .val (.ref o), .val (.int (1 : Int32)), .val (.int i1), .val (.int (1 : Int32)), .unset, .unset, .unset] rfl ?_
  refine own_aload B X6 at_77 rfl rfl rfl ?_
  refine own_callV B X6 (c_pop l Z a0 hw o bb tt kb kt (3 : Int32) (2 : Int32) i2 [.int i0, .int i1, .int i2, .int (0 : Int32), .int (0 : Int32), .int (0 : Int32), .int (0 : Int32), .int (0 : Int32)] T5.heap n0 go S5 (by decide) ⟨by decide, by decide⟩ rfl) e6 S5.1 (own_nf B (B.w 35 rfl)) at_79 rfl (B.w 32 rfl) (B.w 33 rfl) (B.w 35 rfl) (B.w 34 rfl) (B.w 2 rfl) (B.w 36 rfl) (by decide) (W := 0) (by decide) (by decide) rfl [] [] pd3 rfl rfl rfl (Nat.le_refl _) (by decide) (by decide) ?_
  rintro T7 _ L7 X7 ⟨rfl, Nq7, Kq7, S7'⟩
  show Go p e below _ T7 (mkF m 82 _ [(.int i2)])
  have S7 : Stk Z T7.heap o bb tt kb kt (2 : Int32) (2 : Int32) [.int i0, .int i1, .int i2, .int (0 : Int32), .int (0 : Int32), .int (0 : Int32), .int (0 : Int32), .int (0 : Int32)] := S7'
  have N7 := Fr.app N6 Nq7
  refine own_pop B X7 at_82 rfl rfl ?_
  refine own_aload B X7 at_83 rfl rfl rfl ?_
  refine own_iloadN B X7 at_85 rfl rfl ?_
  refine own_callV B X7 (c_push l Z a0 hw o bb tt kb kt (2 : Int32) (3 : Int32) i3 2 [.int i0, .int i1, .int i2, .int (0 : Int32), .int (0 : Int32), .int (0 : Int32), .int (0 : Int32), .int (0 : Int32)] T7.heap n0 go gt S7 (by decide) ⟨by decide, by decide⟩ (by decide) (by decide) (Nat.le_of_ble_eq_true rfl)) rfl S7.1 (own_nf B (B.w 20 rfl)) at_86 rfl (B.w 17 rfl) (B.w 18 rfl) (B.w 20 rfl) (B.w 19 rfl) (B.w 2 rfl) (B.w 21 rfl) (by decide) (W := 0) (by decide) (by decide) rfl [(.int i3)] [] pd1 rfl rfl rfl (Nat.le_refl _) (by decide) (by decide) ?_
  rintro T8 _ L8 X8 ⟨rfl, Nq8, Kq8, S8'⟩
  show Go p e below _ T8 (mkF m 89 _ [])
  have S8 : Stk Z T8.heap o bb tt kb kt (3 : Int32) (3 : Int32) [.int i0, .int i1, .int i3, .int (0 : Int32), .int (0 : Int32), .int (0 : Int32), .int (0 : Int32), .int (0 : Int32)] := S8'
  have N8 := Fr.app N7 Nq8
  refine own_iload B X8 at_89 rfl rfl ?_
  refine own_ldc B X8 at_91 rfl (v := (2147483647 : Int32)) (B.w 26 rfl) ?_
  refine own_iand B X8 at_93 rfl (v := (i5 &&& (2147483647 : Int32))) rfl ?_
  refine own_iconst B X8 at_94 rfl (v := (3 : Int32)) rfl ?_
  refine own_irem B X8 at_95 rfl (by decide) (v := (2 : Int32)) q1 ?_
  refine own_istore B X8 at_96 rfl #[.val (.int i0), .val (.int i1), .val (.int i2), .val (.int i3), .val (.int i4), .val (.int i5), .val (.ref o), .val (.int (1 : Int32)), .val (.int i1), .val (.int (1 : Int32)), .val (.int (2 : Int32)), .unset, .unset] rfl ?_
  refine own_iload B X8 at_98 rfl rfl ?_
  refine own_ifYes B X8 at_100 (feq (by decide : ¬ ((2 : Int32) = (0 : Int32)))).2 (by decide) (pc' := 107) rfl ?_
  refine own_iload B X8 at_107 rfl rfl ?_
  refine own_iconst B X8 at_109 rfl (v := (1 : Int32)) rfl ?_
  refine own_icmpYes B X8 at_110 (feq (by decide : ¬ ((2 : Int32) = (1 : Int32)))).2 (by decide) (pc' := 117) rfl ?_
  refine own_iloadN B X8 at_117 rfl rfl ?_
  refine own_istore B X8 at_118 rfl #[.val (.int i0), .val (.int i1), .val (.int i2), .val (.int i3), .val (.int i4), .val (.int i5), .val (.ref o), .val (.int (1 : Int32)), .val (.int i1), .val (.int (1 : Int32)), .val (.int (2 : Int32)), .val (.int i3), .unset] rfl ?_
  refine own_aload B X8 at_120 rfl rfl rfl ?_
  refine own_iload B X8 at_122 rfl rfl ?_
  refine own_callV B X8 (c_get l Z a0 hw o bb tt kb kt (3 : Int32) (2 : Int32) i3 [.int i0, .int i1, .int i3, .int (0 : Int32), .int (0 : Int32), .int (0 : Int32), .int (0 : Int32), .int (0 : Int32)] T8.heap S8 (by decide) ⟨by decide, by decide⟩  rfl (by decide)) rfl S8.1 (own_nf B (B.w 30 rfl)) at_124 rfl (B.w 27 rfl) (B.w 28 rfl) (B.w 30 rfl) (B.w 29 rfl) (B.w 2 rfl) (B.w 31 rfl) (by decide) (W := 0) (by decide) (by decide) rfl [(.int (2 : Int32))] [] pd2 rfl rfl rfl (Nat.le_refl _) (by decide) (by decide) ?_
  rintro T9 _ _ X9 ⟨rfl, rfl, e9⟩
  show Go p e below _ T9 (mkF m 127 _ [(.int i3)])
  have N9 := Fr.app N8 (Fr.nil n0)
  refine own_iload B X9 at_127 rfl rfl ?_
  refine own_icmpNo B X9 at_129 (teq (rfl : i3 = i3)).2 rfl ?_
  refine own_iconst B X9 at_132 rfl (v := (1 : Int32)) rfl ?_
  refine own_goto B X9 at_133 (by decide) (pc' := 137) rfl ?_
  refine own_istore B X9 at_137 rfl #[.val (.int i0), .val (.int i1), .val (.int i2), .val (.int i3), .val (.int i4), .val (.int i5), .val (.ref o), .val (.int (1 : Int32)), .val (.int i1), .val (.int (1 : Int32)), .val (.int (2 : Int32)), .val (.int i3), .val (.int (1 : Int32))] rfl ?_
  refine own_iload B X9 at_139 rfl rfl ?_
  refine own_ifNo B X9 at_141 (feq (by decide : ¬ ((1 : Int32) = (0 : Int32)))).1 rfl ?_
  refine own_iload B X9 at_144 rfl rfl ?_
  refine own_ifNo B X9 at_146 (feq (by decide : ¬ ((1 : Int32) = (0 : Int32)))).1 rfl ?_
  refine own_iconst B X9 at_149 rfl (v := (1 : Int32)) rfl ?_
  refine own_goto B X9 at_150 (by decide) (pc' := 154) rfl ?_
  exact own_retInt B X9 at_154 rfl (Or.inr (Or.inl rfl)) ⟨rfl, N9⟩ (by decide) (by decide)
set_option maxRecDepth 65536 in
set_option maxHeartbeats 8000000 in
theorem law_2_0 (l : Launch) (Z : State) (a0 : Array Value) (hw : ∀ d ∈ tables_1, d.before a0 Z = true) (h0 : Heap) (i0 i1 i2 i3 i4 i5 : Int32) (n0 : Nat) (Z0 : n0 ≤ h0.size) (q0 : ((i4 &&& (2147483647 : Int32)) % (3 : Int32)) = (2 : Int32)) (q1 : ((i5 &&& (2147483647 : Int32)) % (3 : Int32)) = (0 : Int32)) :
    Con l Z x code maxLocals ret tables_1 room_1 #[(.int i0), (.int i1), (.int i2), (.int i3), (.int i4), (.int i5)] h0 (Q0 n0) := by
  refine own_body (plainFor_of_name pnL) hw ?_
  intro p e s m below meth c T0 B X0 e0 hnm
  refine Go.cast (ef0 m i0 i1 i2 i3 i4 i5) ?_
  refine own_new B X0 e0 at_0 rfl (B.w 0 rfl) (B.w 1 rfl) (B.w 2 rfl) (by decide) (by decide) ?_
  intro T1 h1 o X1 e1 hbo E1 Ex1 Dx1
  have go : n0 ≤ o := hbo ▸ Z0
  have Z1 : n0 ≤ h1.size := Nat.le_trans Z0 E1.1
  refine own_dup B X1 at_3 rfl rfl ?_
  refine own_callC B X1 (c_init l Z a0 hw o h1 n0 Z1 go Ex1 (Dx1 (own_lB hw) own_pB) (Dx1 (own_lT hw) own_pT) (Dx1 (own_lS hw) own_pI) (Dx1 (own_lE hw) own_pI)) e1 rfl at_4 rfl (B.w 3 rfl) (B.w 4 rfl) (B.w 2 rfl) (B.w 5 rfl) (by decide) (W := 1) (by decide) (by decide) rfl [] [(.ref o)] pd0 rfl rfl rfl (Nat.le_refl _) (by decide) (by decide) ?_
  rintro T2 _ L2 X2 ⟨rfl, Nq2, Kq2, bb, tt, kb, kt, gbb, gtt, S2'⟩
  show Go p e below _ T2 (mkF m 7 _ [(.ref o)])
  have S2 : Stk Z T2.heap o bb tt kb kt 0 0 [.int (0 : Int32), .int (0 : Int32), .int (0 : Int32), .int (0 : Int32), .int (0 : Int32), .int (0 : Int32), .int (0 : Int32), .int (0 : Int32)] := S2'
  have N2 := Fr.app (Fr.nil n0) Nq2
  have gt : n0 ≤ tt := Nat.le_trans Z1 gtt
  have Z2 : n0 ≤ T2.heap.size := Nat.le_trans Z1 Kq2.1
  refine own_astore B X2 at_7 rfl rfl #[.val (.int i0), .val (.int i1), .val (.int i2), .val (.int i3), .val (.int i4), .val (.int i5), .val (.ref o), .unset, .unset, .unset, .unset, .unset, .unset] rfl ?_
  refine own_aload B X2 at_9 rfl rfl rfl ?_
  refine own_iloadN B X2 at_11 rfl rfl ?_
  refine own_callV B X2 (c_push l Z a0 hw o bb tt kb kt (0 : Int32) (1 : Int32) i0 0 [.int (0 : Int32), .int (0 : Int32), .int (0 : Int32), .int (0 : Int32), .int (0 : Int32), .int (0 : Int32), .int (0 : Int32), .int (0 : Int32)] T2.heap n0 go gt S2 (by decide) ⟨by decide, by decide⟩ (by decide) (by decide) (Nat.le_of_ble_eq_true rfl)) rfl S2.1 (own_nf B (B.w 20 rfl)) at_12 rfl (B.w 17 rfl) (B.w 18 rfl) (B.w 20 rfl) (B.w 19 rfl) (B.w 2 rfl) (B.w 21 rfl) (by decide) (W := 0) (by decide) (by decide) rfl [(.int i0)] [] pd1 rfl rfl rfl (Nat.le_refl _) (by decide) (by decide) ?_
  rintro T3 _ L3 X3 ⟨rfl, Nq3, Kq3, S3'⟩
  show Go p e below _ T3 (mkF m 15 _ [])
  have S3 : Stk Z T3.heap o bb tt kb kt (1 : Int32) (1 : Int32) [.int i0, .int (0 : Int32), .int (0 : Int32), .int (0 : Int32), .int (0 : Int32), .int (0 : Int32), .int (0 : Int32), .int (0 : Int32)] := S3'
  have N3 := Fr.app N2 Nq3
  refine own_aload B X3 at_15 rfl rfl rfl ?_
  refine own_iloadN B X3 at_17 rfl rfl ?_
  refine own_callV B X3 (c_push l Z a0 hw o bb tt kb kt (1 : Int32) (2 : Int32) i1 1 [.int i0, .int (0 : Int32), .int (0 : Int32), .int (0 : Int32), .int (0 : Int32), .int (0 : Int32), .int (0 : Int32), .int (0 : Int32)] T3.heap n0 go gt S3 (by decide) ⟨by decide, by decide⟩ (by decide) (by decide) (Nat.le_of_ble_eq_true rfl)) rfl S3.1 (own_nf B (B.w 20 rfl)) at_18 rfl (B.w 17 rfl) (B.w 18 rfl) (B.w 20 rfl) (B.w 19 rfl) (B.w 2 rfl) (B.w 21 rfl) (by decide) (W := 0) (by decide) (by decide) rfl [(.int i1)] [] pd1 rfl rfl rfl (Nat.le_refl _) (by decide) (by decide) ?_
  rintro T4 _ L4 X4 ⟨rfl, Nq4, Kq4, S4'⟩
  show Go p e below _ T4 (mkF m 21 _ [])
  have S4 : Stk Z T4.heap o bb tt kb kt (2 : Int32) (2 : Int32) [.int i0, .int i1, .int (0 : Int32), .int (0 : Int32), .int (0 : Int32), .int (0 : Int32), .int (0 : Int32), .int (0 : Int32)] := S4'
  have N4 := Fr.app N3 Nq4
  refine own_aload B X4 at_21 rfl rfl rfl ?_
  refine own_iloadN B X4 at_23 rfl rfl ?_
  refine own_callV B X4 (c_push l Z a0 hw o bb tt kb kt (2 : Int32) (3 : Int32) i2 2 [.int i0, .int i1, .int (0 : Int32), .int (0 : Int32), .int (0 : Int32), .int (0 : Int32), .int (0 : Int32), .int (0 : Int32)] T4.heap n0 go gt S4 (by decide) ⟨by decide, by decide⟩ (by decide) (by decide) (Nat.le_of_ble_eq_true rfl)) rfl S4.1 (own_nf B (B.w 20 rfl)) at_24 rfl (B.w 17 rfl) (B.w 18 rfl) (B.w 20 rfl) (B.w 19 rfl) (B.w 2 rfl) (B.w 21 rfl) (by decide) (W := 0) (by decide) (by decide) rfl [(.int i2)] [] pd1 rfl rfl rfl (Nat.le_refl _) (by decide) (by decide) ?_
  rintro T5 _ L5 X5 ⟨rfl, Nq5, Kq5, S5'⟩
  show Go p e below _ T5 (mkF m 27 _ [])
  have S5 : Stk Z T5.heap o bb tt kb kt (3 : Int32) (3 : Int32) [.int i0, .int i1, .int i2, .int (0 : Int32), .int (0 : Int32), .int (0 : Int32), .int (0 : Int32), .int (0 : Int32)] := S5'
  have N5 := Fr.app N4 Nq5
  refine own_iload B X5 at_27 rfl rfl ?_
  refine own_ldc B X5 at_29 rfl (v := (2147483647 : Int32)) (B.w 26 rfl) ?_
  refine own_iand B X5 at_31 rfl (v := (i4 &&& (2147483647 : Int32))) rfl ?_
  refine own_iconst B X5 at_32 rfl (v := (3 : Int32)) rfl ?_
  refine own_irem B X5 at_33 rfl (by decide) (v := (2 : Int32)) q0 ?_
  refine own_istore B X5 at_34 rfl #[.val (.int i0), .val (.int i1), .val (.int i2), .val (.int i3), .val (.int i4), .val (.int i5), .val (.ref o), .val (.int (2 : Int32)), .unset, .unset, .unset, .unset, .unset] rfl ?_
  refine own_iload B X5 at_36 rfl rfl ?_
  refine own_ifYes B X5 at_38 (feq (by decide : ¬ ((2 : Int32) = (0 : Int32)))).2 (by decide) (pc' := 45) rfl ?_
  refine own_iload B X5 at_45 rfl rfl ?_
  refine own_iconst B X5 at_47 rfl (v := (1 : Int32)) rfl ?_
  refine own_icmpYes B X5 at_48 (feq (by decide : ¬ ((2 : Int32) = (1 : Int32)))).2 (by decide) (pc' := 55) rfl ?_
  refine own_iloadN B X5 at_55 rfl rfl ?_
  refine own_istore B X5 at_56 rfl #[.val (.int i0), .val (.int i1), .val (.int i2), .val (.int i3), .val (.int i4), .val (.int i5), .val (.ref o), .val (.int (2 : Int32)), .val (.int i2), .unset, .unset, .unset, .unset] rfl ?_
  refine own_aload B X5 at_58 rfl rfl rfl ?_
  refine own_iload B X5 at_60 rfl rfl ?_
  refine own_callV B X5 (c_get l Z a0 hw o bb tt kb kt (3 : Int32) (2 : Int32) i2 [.int i0, .int i1, .int i2, .int (0 : Int32), .int (0 : Int32), .int (0 : Int32), .int (0 : Int32), .int (0 : Int32)] T5.heap S5 (by decide) ⟨by decide, by decide⟩  rfl (by decide)) rfl S5.1 (own_nf B (B.w 30 rfl)) at_62 rfl (B.w 27 rfl) (B.w 28 rfl) (B.w 30 rfl) (B.w 29 rfl) (B.w 2 rfl) (B.w 31 rfl) (by decide) (W := 0) (by decide) (by decide) rfl [(.int (2 : Int32))] [] pd2 rfl rfl rfl (Nat.le_refl _) (by decide) (by decide) ?_
  rintro T6 _ _ X6 ⟨rfl, rfl, e6⟩
  show Go p e below _ T6 (mkF m 65 _ [(.int i2)])
  have N6 := Fr.app N5 (Fr.nil n0)
  refine own_iload B X6 at_65 rfl rfl ?_
  refine own_icmpNo B X6 at_67 (teq (rfl : i2 = i2)).2 rfl ?_
  refine own_iconst B X6 at_70 rfl (v := (1 : Int32)) rfl ?_
  refine own_goto B X6 at_71 (by decide) (pc' := 75) rfl ?_
  refine own_istore B X6 at_75 rfl #[.val (.int i0), .val (.int i1), .val (.int i2), .val (.int i3), .val (.int i4), .val (.int i5), .val (.ref o), .val (.int (2 : Int32)), .val (.int i2), .val (.int (1 : Int32)), .unset, .unset, .unset] rfl ?_
  refine own_aload B X6 at_77 rfl rfl rfl ?_
  refine own_callV B X6 (c_pop l Z a0 hw o bb tt kb kt (3 : Int32) (2 : Int32) i2 [.int i0, .int i1, .int i2, .int (0 : Int32), .int (0 : Int32), .int (0 : Int32), .int (0 : Int32), .int (0 : Int32)] T5.heap n0 go S5 (by decide) ⟨by decide, by decide⟩ rfl) e6 S5.1 (own_nf B (B.w 35 rfl)) at_79 rfl (B.w 32 rfl) (B.w 33 rfl) (B.w 35 rfl) (B.w 34 rfl) (B.w 2 rfl) (B.w 36 rfl) (by decide) (W := 0) (by decide) (by decide) rfl [] [] pd3 rfl rfl rfl (Nat.le_refl _) (by decide) (by decide) ?_
  rintro T7 _ L7 X7 ⟨rfl, Nq7, Kq7, S7'⟩
  show Go p e below _ T7 (mkF m 82 _ [(.int i2)])
  have S7 : Stk Z T7.heap o bb tt kb kt (2 : Int32) (2 : Int32) [.int i0, .int i1, .int i2, .int (0 : Int32), .int (0 : Int32), .int (0 : Int32), .int (0 : Int32), .int (0 : Int32)] := S7'
  have N7 := Fr.app N6 Nq7
  refine own_pop B X7 at_82 rfl rfl ?_
  refine own_aload B X7 at_83 rfl rfl rfl ?_
  refine own_iloadN B X7 at_85 rfl rfl ?_
  refine own_callV B X7 (c_push l Z a0 hw o bb tt kb kt (2 : Int32) (3 : Int32) i3 2 [.int i0, .int i1, .int i2, .int (0 : Int32), .int (0 : Int32), .int (0 : Int32), .int (0 : Int32), .int (0 : Int32)] T7.heap n0 go gt S7 (by decide) ⟨by decide, by decide⟩ (by decide) (by decide) (Nat.le_of_ble_eq_true rfl)) rfl S7.1 (own_nf B (B.w 20 rfl)) at_86 rfl (B.w 17 rfl) (B.w 18 rfl) (B.w 20 rfl) (B.w 19 rfl) (B.w 2 rfl) (B.w 21 rfl) (by decide) (W := 0) (by decide) (by decide) rfl [(.int i3)] [] pd1 rfl rfl rfl (Nat.le_refl _) (by decide) (by decide) ?_
  rintro T8 _ L8 X8 ⟨rfl, Nq8, Kq8, S8'⟩
  show Go p e below _ T8 (mkF m 89 _ [])
  have S8 : Stk Z T8.heap o bb tt kb kt (3 : Int32) (3 : Int32) [.int i0, .int i1, .int i3, .int (0 : Int32), .int (0 : Int32), .int (0 : Int32), .int (0 : Int32), .int (0 : Int32)] := S8'
  have N8 := Fr.app N7 Nq8
  refine own_iload B X8 at_89 rfl rfl ?_
  refine own_ldc B X8 at_91 rfl (v := (2147483647 : Int32)) (B.w 26 rfl) ?_
  refine own_iand B X8 at_93 rfl (v := (i5 &&& (2147483647 : Int32))) rfl ?_
  refine own_iconst B X8 at_94 rfl (v := (3 : Int32)) rfl ?_
  refine own_irem B X8 at_95 rfl (by decide) (v := (0 : Int32)) q1 ?_
  refine own_istore B X8 at_96 rfl #[.val (.int i0), .val (.int i1), .val (.int i2), .val (.int i3), .val (.int i4), .val (.int i5), .val (.ref o), .val (.int (2 : Int32)), .val (.int i2), .val (.int (1 : Int32)), .val (.int (0 : Int32)), .unset, .unset] rfl ?_
  refine own_iload B X8 at_98 rfl rfl ?_
  refine own_ifNo B X8 at_100 (teq (rfl : (0 : Int32) = (0 : Int32))).2 rfl ?_
  refine own_iloadN B X8 at_103 rfl rfl ?_
  refine own_goto B X8 at_104 (by decide) (pc' := 118) rfl ?_
  refine own_istore B X8 at_118 rfl #[.val (.int i0), .val (.int i1), .val (.int i2), .val (.int i3), .val (.int i4), .val (.int i5), .val (.ref o), .val (.int (2 : Int32)), .val (.int i2), .val (.int (1 : Int32)), .val (.int (0 : Int32)), .val (.int i0), .unset] rfl ?_
  refine own_aload B X8 at_120 rfl rfl rfl ?_
  refine own_iload B X8 at_122 rfl rfl ?_
  refine own_callV B X8 (c_get l Z a0 hw o bb tt kb kt (3 : Int32) (0 : Int32) i0 [.int i0, .int i1, .int i3, .int (0 : Int32), .int (0 : Int32), .int (0 : Int32), .int (0 : Int32), .int (0 : Int32)] T8.heap S8 (by decide) ⟨by decide, by decide⟩  rfl (by decide)) rfl S8.1 (own_nf B (B.w 30 rfl)) at_124 rfl (B.w 27 rfl) (B.w 28 rfl) (B.w 30 rfl) (B.w 29 rfl) (B.w 2 rfl) (B.w 31 rfl) (by decide) (W := 0) (by decide) (by decide) rfl [(.int (0 : Int32))] [] pd2 rfl rfl rfl (Nat.le_refl _) (by decide) (by decide) ?_
  rintro T9 _ _ X9 ⟨rfl, rfl, e9⟩
  show Go p e below _ T9 (mkF m 127 _ [(.int i0)])
  have N9 := Fr.app N8 (Fr.nil n0)
  refine own_iload B X9 at_127 rfl rfl ?_
  refine own_icmpNo B X9 at_129 (teq (rfl : i0 = i0)).2 rfl ?_
  refine own_iconst B X9 at_132 rfl (v := (1 : Int32)) rfl ?_
  refine own_goto B X9 at_133 (by decide) (pc' := 137) rfl ?_
  refine own_istore B X9 at_137 rfl #[.val (.int i0), .val (.int i1), .val (.int i2), .val (.int i3), .val (.int i4), .val (.int i5), .val (.ref o), .val (.int (2 : Int32)), .val (.int i2), .val (.int (1 : Int32)), .val (.int (0 : Int32)), .val (.int i0), .val (.int (1 : Int32))] rfl ?_
  refine own_iload B X9 at_139 rfl rfl ?_
  refine own_ifNo B X9 at_141 (feq (by decide : ¬ ((1 : Int32) = (0 : Int32)))).1 rfl ?_
  refine own_iload B X9 at_144 rfl rfl ?_
  refine own_ifNo B X9 at_146 (feq (by decide : ¬ ((1 : Int32) = (0 : Int32)))).1 rfl ?_
  refine own_iconst B X9 at_149 rfl (v := (1 : Int32)) rfl ?_
  refine own_goto B X9 at_150 (by decide) (pc' := 154) rfl ?_
  exact own_retInt B X9 at_154 rfl (Or.inr (Or.inl rfl)) ⟨rfl, N9⟩ (by decide) (by decide)
set_option maxRecDepth 65536 in
set_option maxHeartbeats 8000000 in
theorem law_2_1 (l : Launch) (Z : State) (a0 : Array Value) (hw : ∀ d ∈ tables_1, d.before a0 Z = true) (h0 : Heap) (i0 i1 i2 i3 i4 i5 : Int32) (n0 : Nat) (Z0 : n0 ≤ h0.size) (q0 : ((i4 &&& (2147483647 : Int32)) % (3 : Int32)) = (2 : Int32)) (q1 : ((i5 &&& (2147483647 : Int32)) % (3 : Int32)) = (1 : Int32)) :
    Con l Z x code maxLocals ret tables_1 room_1 #[(.int i0), (.int i1), (.int i2), (.int i3), (.int i4), (.int i5)] h0 (Q0 n0) := by
  refine own_body (plainFor_of_name pnL) hw ?_
  intro p e s m below meth c T0 B X0 e0 hnm
  refine Go.cast (ef0 m i0 i1 i2 i3 i4 i5) ?_
  refine own_new B X0 e0 at_0 rfl (B.w 0 rfl) (B.w 1 rfl) (B.w 2 rfl) (by decide) (by decide) ?_
  intro T1 h1 o X1 e1 hbo E1 Ex1 Dx1
  have go : n0 ≤ o := hbo ▸ Z0
  have Z1 : n0 ≤ h1.size := Nat.le_trans Z0 E1.1
  refine own_dup B X1 at_3 rfl rfl ?_
  refine own_callC B X1 (c_init l Z a0 hw o h1 n0 Z1 go Ex1 (Dx1 (own_lB hw) own_pB) (Dx1 (own_lT hw) own_pT) (Dx1 (own_lS hw) own_pI) (Dx1 (own_lE hw) own_pI)) e1 rfl at_4 rfl (B.w 3 rfl) (B.w 4 rfl) (B.w 2 rfl) (B.w 5 rfl) (by decide) (W := 1) (by decide) (by decide) rfl [] [(.ref o)] pd0 rfl rfl rfl (Nat.le_refl _) (by decide) (by decide) ?_
  rintro T2 _ L2 X2 ⟨rfl, Nq2, Kq2, bb, tt, kb, kt, gbb, gtt, S2'⟩
  show Go p e below _ T2 (mkF m 7 _ [(.ref o)])
  have S2 : Stk Z T2.heap o bb tt kb kt 0 0 [.int (0 : Int32), .int (0 : Int32), .int (0 : Int32), .int (0 : Int32), .int (0 : Int32), .int (0 : Int32), .int (0 : Int32), .int (0 : Int32)] := S2'
  have N2 := Fr.app (Fr.nil n0) Nq2
  have gt : n0 ≤ tt := Nat.le_trans Z1 gtt
  have Z2 : n0 ≤ T2.heap.size := Nat.le_trans Z1 Kq2.1
  refine own_astore B X2 at_7 rfl rfl #[.val (.int i0), .val (.int i1), .val (.int i2), .val (.int i3), .val (.int i4), .val (.int i5), .val (.ref o), .unset, .unset, .unset, .unset, .unset, .unset] rfl ?_
  refine own_aload B X2 at_9 rfl rfl rfl ?_
  refine own_iloadN B X2 at_11 rfl rfl ?_
  refine own_callV B X2 (c_push l Z a0 hw o bb tt kb kt (0 : Int32) (1 : Int32) i0 0 [.int (0 : Int32), .int (0 : Int32), .int (0 : Int32), .int (0 : Int32), .int (0 : Int32), .int (0 : Int32), .int (0 : Int32), .int (0 : Int32)] T2.heap n0 go gt S2 (by decide) ⟨by decide, by decide⟩ (by decide) (by decide) (Nat.le_of_ble_eq_true rfl)) rfl S2.1 (own_nf B (B.w 20 rfl)) at_12 rfl (B.w 17 rfl) (B.w 18 rfl) (B.w 20 rfl) (B.w 19 rfl) (B.w 2 rfl) (B.w 21 rfl) (by decide) (W := 0) (by decide) (by decide) rfl [(.int i0)] [] pd1 rfl rfl rfl (Nat.le_refl _) (by decide) (by decide) ?_
  rintro T3 _ L3 X3 ⟨rfl, Nq3, Kq3, S3'⟩
  show Go p e below _ T3 (mkF m 15 _ [])
  have S3 : Stk Z T3.heap o bb tt kb kt (1 : Int32) (1 : Int32) [.int i0, .int (0 : Int32), .int (0 : Int32), .int (0 : Int32), .int (0 : Int32), .int (0 : Int32), .int (0 : Int32), .int (0 : Int32)] := S3'
  have N3 := Fr.app N2 Nq3
  refine own_aload B X3 at_15 rfl rfl rfl ?_
  refine own_iloadN B X3 at_17 rfl rfl ?_
  refine own_callV B X3 (c_push l Z a0 hw o bb tt kb kt (1 : Int32) (2 : Int32) i1 1 [.int i0, .int (0 : Int32), .int (0 : Int32), .int (0 : Int32), .int (0 : Int32), .int (0 : Int32), .int (0 : Int32), .int (0 : Int32)] T3.heap n0 go gt S3 (by decide) ⟨by decide, by decide⟩ (by decide) (by decide) (Nat.le_of_ble_eq_true rfl)) rfl S3.1 (own_nf B (B.w 20 rfl)) at_18 rfl (B.w 17 rfl) (B.w 18 rfl) (B.w 20 rfl) (B.w 19 rfl) (B.w 2 rfl) (B.w 21 rfl) (by decide) (W := 0) (by decide) (by decide) rfl [(.int i1)] [] pd1 rfl rfl rfl (Nat.le_refl _) (by decide) (by decide) ?_
  rintro T4 _ L4 X4 ⟨rfl, Nq4, Kq4, S4'⟩
  show Go p e below _ T4 (mkF m 21 _ [])
  have S4 : Stk Z T4.heap o bb tt kb kt (2 : Int32) (2 : Int32) [.int i0, .int i1, .int (0 : Int32), .int (0 : Int32), .int (0 : Int32), .int (0 : Int32), .int (0 : Int32), .int (0 : Int32)] := S4'
  have N4 := Fr.app N3 Nq4
  refine own_aload B X4 at_21 rfl rfl rfl ?_
  refine own_iloadN B X4 at_23 rfl rfl ?_
  refine own_callV B X4 (c_push l Z a0 hw o bb tt kb kt (2 : Int32) (3 : Int32) i2 2 [.int i0, .int i1, .int (0 : Int32), .int (0 : Int32), .int (0 : Int32), .int (0 : Int32), .int (0 : Int32), .int (0 : Int32)] T4.heap n0 go gt S4 (by decide) ⟨by decide, by decide⟩ (by decide) (by decide) (Nat.le_of_ble_eq_true rfl)) rfl S4.1 (own_nf B (B.w 20 rfl)) at_24 rfl (B.w 17 rfl) (B.w 18 rfl) (B.w 20 rfl) (B.w 19 rfl) (B.w 2 rfl) (B.w 21 rfl) (by decide) (W := 0) (by decide) (by decide) rfl [(.int i2)] [] pd1 rfl rfl rfl (Nat.le_refl _) (by decide) (by decide) ?_
  rintro T5 _ L5 X5 ⟨rfl, Nq5, Kq5, S5'⟩
  show Go p e below _ T5 (mkF m 27 _ [])
  have S5 : Stk Z T5.heap o bb tt kb kt (3 : Int32) (3 : Int32) [.int i0, .int i1, .int i2, .int (0 : Int32), .int (0 : Int32), .int (0 : Int32), .int (0 : Int32), .int (0 : Int32)] := S5'
  have N5 := Fr.app N4 Nq5
  refine own_iload B X5 at_27 rfl rfl ?_
  refine own_ldc B X5 at_29 rfl (v := (2147483647 : Int32)) (B.w 26 rfl) ?_
  refine own_iand B X5 at_31 rfl (v := (i4 &&& (2147483647 : Int32))) rfl ?_
  refine own_iconst B X5 at_32 rfl (v := (3 : Int32)) rfl ?_
  refine own_irem B X5 at_33 rfl (by decide) (v := (2 : Int32)) q0 ?_
  refine own_istore B X5 at_34 rfl #[.val (.int i0), .val (.int i1), .val (.int i2), .val (.int i3), .val (.int i4), .val (.int i5), .val (.ref o), .val (.int (2 : Int32)), .unset, .unset, .unset, .unset, .unset] rfl ?_
  refine own_iload B X5 at_36 rfl rfl ?_
  refine own_ifYes B X5 at_38 (feq (by decide : ¬ ((2 : Int32) = (0 : Int32)))).2 (by decide) (pc' := 45) rfl ?_
  refine own_iload B X5 at_45 rfl rfl ?_
  refine own_iconst B X5 at_47 rfl (v := (1 : Int32)) rfl ?_
  refine own_icmpYes B X5 at_48 (feq (by decide : ¬ ((2 : Int32) = (1 : Int32)))).2 (by decide) (pc' := 55) rfl ?_
  refine own_iloadN B X5 at_55 rfl rfl ?_
  refine own_istore B X5 at_56 rfl #[.val (.int i0), .val (.int i1), .val (.int i2), .val (.int i3), .val (.int i4), .val (.int i5), .val (.ref o), .val (.int (2 : Int32)), .val (.int i2), .unset, .unset, .unset, .unset] rfl ?_
  refine own_aload B X5 at_58 rfl rfl rfl ?_
  refine own_iload B X5 at_60 rfl rfl ?_
  refine own_callV B X5 (c_get l Z a0 hw o bb tt kb kt (3 : Int32) (2 : Int32) i2 [.int i0, .int i1, .int i2, .int (0 : Int32), .int (0 : Int32), .int (0 : Int32), .int (0 : Int32), .int (0 : Int32)] T5.heap S5 (by decide) ⟨by decide, by decide⟩  rfl (by decide)) rfl S5.1 (own_nf B (B.w 30 rfl)) at_62 rfl (B.w 27 rfl) (B.w 28 rfl) (B.w 30 rfl) (B.w 29 rfl) (B.w 2 rfl) (B.w 31 rfl) (by decide) (W := 0) (by decide) (by decide) rfl [(.int (2 : Int32))] [] pd2 rfl rfl rfl (Nat.le_refl _) (by decide) (by decide) ?_
  rintro T6 _ _ X6 ⟨rfl, rfl, e6⟩
  show Go p e below _ T6 (mkF m 65 _ [(.int i2)])
  have N6 := Fr.app N5 (Fr.nil n0)
  refine own_iload B X6 at_65 rfl rfl ?_
  refine own_icmpNo B X6 at_67 (teq (rfl : i2 = i2)).2 rfl ?_
  refine own_iconst B X6 at_70 rfl (v := (1 : Int32)) rfl ?_
  refine own_goto B X6 at_71 (by decide) (pc' := 75) rfl ?_
  refine own_istore B X6 at_75 rfl #[.val (.int i0), .val (.int i1), .val (.int i2), .val (.int i3), .val (.int i4), .val (.int i5), .val (.ref o), .val (.int (2 : Int32)), .val (.int i2), .val (.int (1 : Int32)), .unset, .unset, .unset] rfl ?_
  refine own_aload B X6 at_77 rfl rfl rfl ?_
  refine own_callV B X6 (c_pop l Z a0 hw o bb tt kb kt (3 : Int32) (2 : Int32) i2 [.int i0, .int i1, .int i2, .int (0 : Int32), .int (0 : Int32), .int (0 : Int32), .int (0 : Int32), .int (0 : Int32)] T5.heap n0 go S5 (by decide) ⟨by decide, by decide⟩ rfl) e6 S5.1 (own_nf B (B.w 35 rfl)) at_79 rfl (B.w 32 rfl) (B.w 33 rfl) (B.w 35 rfl) (B.w 34 rfl) (B.w 2 rfl) (B.w 36 rfl) (by decide) (W := 0) (by decide) (by decide) rfl [] [] pd3 rfl rfl rfl (Nat.le_refl _) (by decide) (by decide) ?_
  rintro T7 _ L7 X7 ⟨rfl, Nq7, Kq7, S7'⟩
  show Go p e below _ T7 (mkF m 82 _ [(.int i2)])
  have S7 : Stk Z T7.heap o bb tt kb kt (2 : Int32) (2 : Int32) [.int i0, .int i1, .int i2, .int (0 : Int32), .int (0 : Int32), .int (0 : Int32), .int (0 : Int32), .int (0 : Int32)] := S7'
  have N7 := Fr.app N6 Nq7
  refine own_pop B X7 at_82 rfl rfl ?_
  refine own_aload B X7 at_83 rfl rfl rfl ?_
  refine own_iloadN B X7 at_85 rfl rfl ?_
  refine own_callV B X7 (c_push l Z a0 hw o bb tt kb kt (2 : Int32) (3 : Int32) i3 2 [.int i0, .int i1, .int i2, .int (0 : Int32), .int (0 : Int32), .int (0 : Int32), .int (0 : Int32), .int (0 : Int32)] T7.heap n0 go gt S7 (by decide) ⟨by decide, by decide⟩ (by decide) (by decide) (Nat.le_of_ble_eq_true rfl)) rfl S7.1 (own_nf B (B.w 20 rfl)) at_86 rfl (B.w 17 rfl) (B.w 18 rfl) (B.w 20 rfl) (B.w 19 rfl) (B.w 2 rfl) (B.w 21 rfl) (by decide) (W := 0) (by decide) (by decide) rfl [(.int i3)] [] pd1 rfl rfl rfl (Nat.le_refl _) (by decide) (by decide) ?_
  rintro T8 _ L8 X8 ⟨rfl, Nq8, Kq8, S8'⟩
  show Go p e below _ T8 (mkF m 89 _ [])
  have S8 : Stk Z T8.heap o bb tt kb kt (3 : Int32) (3 : Int32) [.int i0, .int i1, .int i3, .int (0 : Int32), .int (0 : Int32), .int (0 : Int32), .int (0 : Int32), .int (0 : Int32)] := S8'
  have N8 := Fr.app N7 Nq8
  refine own_iload B X8 at_89 rfl rfl ?_
  refine own_ldc B X8 at_91 rfl (v := (2147483647 : Int32)) (B.w 26 rfl) ?_
  refine own_iand B X8 at_93 rfl (v := (i5 &&& (2147483647 : Int32))) rfl ?_
  refine own_iconst B X8 at_94 rfl (v := (3 : Int32)) rfl ?_
  refine own_irem B X8 at_95 rfl (by decide) (v := (1 : Int32)) q1 ?_
  refine own_istore B X8 at_96 rfl #[.val (.int i0), .val (.int i1), .val (.int i2), .val (.int i3), .val (.int i4), .val (.int i5), .val (.ref o), .val (.int (2 : Int32)), .val (.int i2), .val (.int (1 : Int32)), .val (.int (1 : Int32)), .unset, .unset] rfl ?_
  refine own_iload B X8 at_98 rfl rfl ?_
  refine own_ifYes B X8 at_100 (feq (by decide : ¬ ((1 : Int32) = (0 : Int32)))).2 (by decide) (pc' := 107) rfl ?_
  refine own_iload B X8 at_107 rfl rfl ?_
  refine own_iconst B X8 at_109 rfl (v := (1 : Int32)) rfl ?_
  refine own_icmpNo B X8 at_110 (teq (rfl : (1 : Int32) = (1 : Int32))).2 rfl ?_
  refine own_iloadN B X8 at_113 rfl rfl ?_
  refine own_goto B X8 at_114 (by decide) (pc' := 118) rfl ?_
  refine own_istore B X8 at_118 rfl #[.val (.int i0), .val (.int i1), .val (.int i2), .val (.int i3), .val (.int i4), .val (.int i5), .val (.ref o), .val (.int (2 : Int32)), .val (.int i2), .val (.int (1 : Int32)), .val (.int (1 : Int32)), .val (.int i1), .unset] rfl ?_
  refine own_aload B X8 at_120 rfl rfl rfl ?_
  refine own_iload B X8 at_122 rfl rfl ?_
  refine own_callV B X8 (c_get l Z a0 hw o bb tt kb kt (3 : Int32) (1 : Int32) i1 [.int i0, .int i1, .int i3, .int (0 : Int32), .int (0 : Int32), .int (0 : Int32), .int (0 : Int32), .int (0 : Int32)] T8.heap S8 (by decide) ⟨by decide, by decide⟩  rfl (by decide)) rfl S8.1 (own_nf B (B.w 30 rfl)) at_124 rfl (B.w 27 rfl) (B.w 28 rfl) (B.w 30 rfl) (B.w 29 rfl) (B.w 2 rfl) (B.w 31 rfl) (by decide) (W := 0) (by decide) (by decide) rfl [(.int (1 : Int32))] [] pd2 rfl rfl rfl (Nat.le_refl _) (by decide) (by decide) ?_
  rintro T9 _ _ X9 ⟨rfl, rfl, e9⟩
  show Go p e below _ T9 (mkF m 127 _ [(.int i1)])
  have N9 := Fr.app N8 (Fr.nil n0)
  refine own_iload B X9 at_127 rfl rfl ?_
  refine own_icmpNo B X9 at_129 (teq (rfl : i1 = i1)).2 rfl ?_
  refine own_iconst B X9 at_132 rfl (v := (1 : Int32)) rfl ?_
  refine own_goto B X9 at_133 (by decide) (pc' := 137) rfl ?_
  refine own_istore B X9 at_137 rfl #[.val (.int i0), .val (.int i1), .val (.int i2), .val (.int i3), .val (.int i4), .val (.int i5), .val (.ref o), .val (.int (2 : Int32)), .val (.int i2), .val (.int (1 : Int32)), .val (.int (1 : Int32)), .val (.int i1), .val (.int (1 : Int32))] rfl ?_
  refine own_iload B X9 at_139 rfl rfl ?_
  refine own_ifNo B X9 at_141 (feq (by decide : ¬ ((1 : Int32) = (0 : Int32)))).1 rfl ?_
  refine own_iload B X9 at_144 rfl rfl ?_
  refine own_ifNo B X9 at_146 (feq (by decide : ¬ ((1 : Int32) = (0 : Int32)))).1 rfl ?_
  refine own_iconst B X9 at_149 rfl (v := (1 : Int32)) rfl ?_
  refine own_goto B X9 at_150 (by decide) (pc' := 154) rfl ?_
  exact own_retInt B X9 at_154 rfl (Or.inr (Or.inl rfl)) ⟨rfl, N9⟩ (by decide) (by decide)
set_option maxRecDepth 65536 in
set_option maxHeartbeats 8000000 in
theorem law_2_2 (l : Launch) (Z : State) (a0 : Array Value) (hw : ∀ d ∈ tables_1, d.before a0 Z = true) (h0 : Heap) (i0 i1 i2 i3 i4 i5 : Int32) (n0 : Nat) (Z0 : n0 ≤ h0.size) (q0 : ((i4 &&& (2147483647 : Int32)) % (3 : Int32)) = (2 : Int32)) (q1 : ((i5 &&& (2147483647 : Int32)) % (3 : Int32)) = (2 : Int32)) :
    Con l Z x code maxLocals ret tables_1 room_1 #[(.int i0), (.int i1), (.int i2), (.int i3), (.int i4), (.int i5)] h0 (Q0 n0) := by
  refine own_body (plainFor_of_name pnL) hw ?_
  intro p e s m below meth c T0 B X0 e0 hnm
  refine Go.cast (ef0 m i0 i1 i2 i3 i4 i5) ?_
  refine own_new B X0 e0 at_0 rfl (B.w 0 rfl) (B.w 1 rfl) (B.w 2 rfl) (by decide) (by decide) ?_
  intro T1 h1 o X1 e1 hbo E1 Ex1 Dx1
  have go : n0 ≤ o := hbo ▸ Z0
  have Z1 : n0 ≤ h1.size := Nat.le_trans Z0 E1.1
  refine own_dup B X1 at_3 rfl rfl ?_
  refine own_callC B X1 (c_init l Z a0 hw o h1 n0 Z1 go Ex1 (Dx1 (own_lB hw) own_pB) (Dx1 (own_lT hw) own_pT) (Dx1 (own_lS hw) own_pI) (Dx1 (own_lE hw) own_pI)) e1 rfl at_4 rfl (B.w 3 rfl) (B.w 4 rfl) (B.w 2 rfl) (B.w 5 rfl) (by decide) (W := 1) (by decide) (by decide) rfl [] [(.ref o)] pd0 rfl rfl rfl (Nat.le_refl _) (by decide) (by decide) ?_
  rintro T2 _ L2 X2 ⟨rfl, Nq2, Kq2, bb, tt, kb, kt, gbb, gtt, S2'⟩
  show Go p e below _ T2 (mkF m 7 _ [(.ref o)])
  have S2 : Stk Z T2.heap o bb tt kb kt 0 0 [.int (0 : Int32), .int (0 : Int32), .int (0 : Int32), .int (0 : Int32), .int (0 : Int32), .int (0 : Int32), .int (0 : Int32), .int (0 : Int32)] := S2'
  have N2 := Fr.app (Fr.nil n0) Nq2
  have gt : n0 ≤ tt := Nat.le_trans Z1 gtt
  have Z2 : n0 ≤ T2.heap.size := Nat.le_trans Z1 Kq2.1
  refine own_astore B X2 at_7 rfl rfl #[.val (.int i0), .val (.int i1), .val (.int i2), .val (.int i3), .val (.int i4), .val (.int i5), .val (.ref o), .unset, .unset, .unset, .unset, .unset, .unset] rfl ?_
  refine own_aload B X2 at_9 rfl rfl rfl ?_
  refine own_iloadN B X2 at_11 rfl rfl ?_
  refine own_callV B X2 (c_push l Z a0 hw o bb tt kb kt (0 : Int32) (1 : Int32) i0 0 [.int (0 : Int32), .int (0 : Int32), .int (0 : Int32), .int (0 : Int32), .int (0 : Int32), .int (0 : Int32), .int (0 : Int32), .int (0 : Int32)] T2.heap n0 go gt S2 (by decide) ⟨by decide, by decide⟩ (by decide) (by decide) (Nat.le_of_ble_eq_true rfl)) rfl S2.1 (own_nf B (B.w 20 rfl)) at_12 rfl (B.w 17 rfl) (B.w 18 rfl) (B.w 20 rfl) (B.w 19 rfl) (B.w 2 rfl) (B.w 21 rfl) (by decide) (W := 0) (by decide) (by decide) rfl [(.int i0)] [] pd1 rfl rfl rfl (Nat.le_refl _) (by decide) (by decide) ?_
  rintro T3 _ L3 X3 ⟨rfl, Nq3, Kq3, S3'⟩
  show Go p e below _ T3 (mkF m 15 _ [])
  have S3 : Stk Z T3.heap o bb tt kb kt (1 : Int32) (1 : Int32) [.int i0, .int (0 : Int32), .int (0 : Int32), .int (0 : Int32), .int (0 : Int32), .int (0 : Int32), .int (0 : Int32), .int (0 : Int32)] := S3'
  have N3 := Fr.app N2 Nq3
  refine own_aload B X3 at_15 rfl rfl rfl ?_
  refine own_iloadN B X3 at_17 rfl rfl ?_
  refine own_callV B X3 (c_push l Z a0 hw o bb tt kb kt (1 : Int32) (2 : Int32) i1 1 [.int i0, .int (0 : Int32), .int (0 : Int32), .int (0 : Int32), .int (0 : Int32), .int (0 : Int32), .int (0 : Int32), .int (0 : Int32)] T3.heap n0 go gt S3 (by decide) ⟨by decide, by decide⟩ (by decide) (by decide) (Nat.le_of_ble_eq_true rfl)) rfl S3.1 (own_nf B (B.w 20 rfl)) at_18 rfl (B.w 17 rfl) (B.w 18 rfl) (B.w 20 rfl) (B.w 19 rfl) (B.w 2 rfl) (B.w 21 rfl) (by decide) (W := 0) (by decide) (by decide) rfl [(.int i1)] [] pd1 rfl rfl rfl (Nat.le_refl _) (by decide) (by decide) ?_
  rintro T4 _ L4 X4 ⟨rfl, Nq4, Kq4, S4'⟩
  show Go p e below _ T4 (mkF m 21 _ [])
  have S4 : Stk Z T4.heap o bb tt kb kt (2 : Int32) (2 : Int32) [.int i0, .int i1, .int (0 : Int32), .int (0 : Int32), .int (0 : Int32), .int (0 : Int32), .int (0 : Int32), .int (0 : Int32)] := S4'
  have N4 := Fr.app N3 Nq4
  refine own_aload B X4 at_21 rfl rfl rfl ?_
  refine own_iloadN B X4 at_23 rfl rfl ?_
  refine own_callV B X4 (c_push l Z a0 hw o bb tt kb kt (2 : Int32) (3 : Int32) i2 2 [.int i0, .int i1, .int (0 : Int32), .int (0 : Int32), .int (0 : Int32), .int (0 : Int32), .int (0 : Int32), .int (0 : Int32)] T4.heap n0 go gt S4 (by decide) ⟨by decide, by decide⟩ (by decide) (by decide) (Nat.le_of_ble_eq_true rfl)) rfl S4.1 (own_nf B (B.w 20 rfl)) at_24 rfl (B.w 17 rfl) (B.w 18 rfl) (B.w 20 rfl) (B.w 19 rfl) (B.w 2 rfl) (B.w 21 rfl) (by decide) (W := 0) (by decide) (by decide) rfl [(.int i2)] [] pd1 rfl rfl rfl (Nat.le_refl _) (by decide) (by decide) ?_
  rintro T5 _ L5 X5 ⟨rfl, Nq5, Kq5, S5'⟩
  show Go p e below _ T5 (mkF m 27 _ [])
  have S5 : Stk Z T5.heap o bb tt kb kt (3 : Int32) (3 : Int32) [.int i0, .int i1, .int i2, .int (0 : Int32), .int (0 : Int32), .int (0 : Int32), .int (0 : Int32), .int (0 : Int32)] := S5'
  have N5 := Fr.app N4 Nq5
  refine own_iload B X5 at_27 rfl rfl ?_
  refine own_ldc B X5 at_29 rfl (v := (2147483647 : Int32)) (B.w 26 rfl) ?_
  refine own_iand B X5 at_31 rfl (v := (i4 &&& (2147483647 : Int32))) rfl ?_
  refine own_iconst B X5 at_32 rfl (v := (3 : Int32)) rfl ?_
  refine own_irem B X5 at_33 rfl (by decide) (v := (2 : Int32)) q0 ?_
  refine own_istore B X5 at_34 rfl #[.val (.int i0), .val (.int i1), .val (.int i2), .val (.int i3), .val (.int i4), .val (.int i5), .val (.ref o), .val (.int (2 : Int32)), .unset, .unset, .unset, .unset, .unset] rfl ?_
  refine own_iload B X5 at_36 rfl rfl ?_
  refine own_ifYes B X5 at_38 (feq (by decide : ¬ ((2 : Int32) = (0 : Int32)))).2 (by decide) (pc' := 45) rfl ?_
  refine own_iload B X5 at_45 rfl rfl ?_
  refine own_iconst B X5 at_47 rfl (v := (1 : Int32)) rfl ?_
  refine own_icmpYes B X5 at_48 (feq (by decide : ¬ ((2 : Int32) = (1 : Int32)))).2 (by decide) (pc' := 55) rfl ?_
  refine own_iloadN B X5 at_55 rfl rfl ?_
  refine own_istore B X5 at_56 rfl #[.val (.int i0), .val (.int i1), .val (.int i2), .val (.int i3), .val (.int i4), .val (.int i5), .val (.ref o), .val (.int (2 : Int32)), .val (.int i2), .unset, .unset, .unset, .unset] rfl ?_
  refine own_aload B X5 at_58 rfl rfl rfl ?_
  refine own_iload B X5 at_60 rfl rfl ?_
  refine own_callV B X5 (c_get l Z a0 hw o bb tt kb kt (3 : Int32) (2 : Int32) i2 [.int i0, .int i1, .int i2, .int (0 : Int32), .int (0 : Int32), .int (0 : Int32), .int (0 : Int32), .int (0 : Int32)] T5.heap S5 (by decide) ⟨by decide, by decide⟩  rfl (by decide)) rfl S5.1 (own_nf B (B.w 30 rfl)) at_62 rfl (B.w 27 rfl) (B.w 28 rfl) (B.w 30 rfl) (B.w 29 rfl) (B.w 2 rfl) (B.w 31 rfl) (by decide) (W := 0) (by decide) (by decide) rfl [(.int (2 : Int32))] [] pd2 rfl rfl rfl (Nat.le_refl _) (by decide) (by decide) ?_
  rintro T6 _ _ X6 ⟨rfl, rfl, e6⟩
  show Go p e below _ T6 (mkF m 65 _ [(.int i2)])
  have N6 := Fr.app N5 (Fr.nil n0)
  refine own_iload B X6 at_65 rfl rfl ?_
  refine own_icmpNo B X6 at_67 (teq (rfl : i2 = i2)).2 rfl ?_
  refine own_iconst B X6 at_70 rfl (v := (1 : Int32)) rfl ?_
  refine own_goto B X6 at_71 (by decide) (pc' := 75) rfl ?_
  refine own_istore B X6 at_75 rfl #[.val (.int i0), .val (.int i1), .val (.int i2), .val (.int i3), .val (.int i4), .val (.int i5), .val (.ref o), .val (.int (2 : Int32)), .val (.int i2), .val (.int (1 : Int32)), .unset, .unset, .unset] rfl ?_
  refine own_aload B X6 at_77 rfl rfl rfl ?_
  refine own_callV B X6 (c_pop l Z a0 hw o bb tt kb kt (3 : Int32) (2 : Int32) i2 [.int i0, .int i1, .int i2, .int (0 : Int32), .int (0 : Int32), .int (0 : Int32), .int (0 : Int32), .int (0 : Int32)] T5.heap n0 go S5 (by decide) ⟨by decide, by decide⟩ rfl) e6 S5.1 (own_nf B (B.w 35 rfl)) at_79 rfl (B.w 32 rfl) (B.w 33 rfl) (B.w 35 rfl) (B.w 34 rfl) (B.w 2 rfl) (B.w 36 rfl) (by decide) (W := 0) (by decide) (by decide) rfl [] [] pd3 rfl rfl rfl (Nat.le_refl _) (by decide) (by decide) ?_
  rintro T7 _ L7 X7 ⟨rfl, Nq7, Kq7, S7'⟩
  show Go p e below _ T7 (mkF m 82 _ [(.int i2)])
  have S7 : Stk Z T7.heap o bb tt kb kt (2 : Int32) (2 : Int32) [.int i0, .int i1, .int i2, .int (0 : Int32), .int (0 : Int32), .int (0 : Int32), .int (0 : Int32), .int (0 : Int32)] := S7'
  have N7 := Fr.app N6 Nq7
  refine own_pop B X7 at_82 rfl rfl ?_
  refine own_aload B X7 at_83 rfl rfl rfl ?_
  refine own_iloadN B X7 at_85 rfl rfl ?_
  refine own_callV B X7 (c_push l Z a0 hw o bb tt kb kt (2 : Int32) (3 : Int32) i3 2 [.int i0, .int i1, .int i2, .int (0 : Int32), .int (0 : Int32), .int (0 : Int32), .int (0 : Int32), .int (0 : Int32)] T7.heap n0 go gt S7 (by decide) ⟨by decide, by decide⟩ (by decide) (by decide) (Nat.le_of_ble_eq_true rfl)) rfl S7.1 (own_nf B (B.w 20 rfl)) at_86 rfl (B.w 17 rfl) (B.w 18 rfl) (B.w 20 rfl) (B.w 19 rfl) (B.w 2 rfl) (B.w 21 rfl) (by decide) (W := 0) (by decide) (by decide) rfl [(.int i3)] [] pd1 rfl rfl rfl (Nat.le_refl _) (by decide) (by decide) ?_
  rintro T8 _ L8 X8 ⟨rfl, Nq8, Kq8, S8'⟩
  show Go p e below _ T8 (mkF m 89 _ [])
  have S8 : Stk Z T8.heap o bb tt kb kt (3 : Int32) (3 : Int32) [.int i0, .int i1, .int i3, .int (0 : Int32), .int (0 : Int32), .int (0 : Int32), .int (0 : Int32), .int (0 : Int32)] := S8'
  have N8 := Fr.app N7 Nq8
  refine own_iload B X8 at_89 rfl rfl ?_
  refine own_ldc B X8 at_91 rfl (v := (2147483647 : Int32)) (B.w 26 rfl) ?_
  refine own_iand B X8 at_93 rfl (v := (i5 &&& (2147483647 : Int32))) rfl ?_
  refine own_iconst B X8 at_94 rfl (v := (3 : Int32)) rfl ?_
  refine own_irem B X8 at_95 rfl (by decide) (v := (2 : Int32)) q1 ?_
  refine own_istore B X8 at_96 rfl #[.val (.int i0), .val (.int i1), .val (.int i2), .val (.int i3), .val (.int i4), .val (.int i5), .val (.ref o), .val (.int (2 : Int32)), .val (.int i2), .val (.int (1 : Int32)), .val (.int (2 : Int32)), .unset, .unset] rfl ?_
  refine own_iload B X8 at_98 rfl rfl ?_
  refine own_ifYes B X8 at_100 (feq (by decide : ¬ ((2 : Int32) = (0 : Int32)))).2 (by decide) (pc' := 107) rfl ?_
  refine own_iload B X8 at_107 rfl rfl ?_
  refine own_iconst B X8 at_109 rfl (v := (1 : Int32)) rfl ?_
  refine own_icmpYes B X8 at_110 (feq (by decide : ¬ ((2 : Int32) = (1 : Int32)))).2 (by decide) (pc' := 117) rfl ?_
  refine own_iloadN B X8 at_117 rfl rfl ?_
  refine own_istore B X8 at_118 rfl #[.val (.int i0), .val (.int i1), .val (.int i2), .val (.int i3), .val (.int i4), .val (.int i5), .val (.ref o), .val (.int (2 : Int32)), .val (.int i2), .val (.int (1 : Int32)), .val (.int (2 : Int32)), .val (.int i3), .unset] rfl ?_
  refine own_aload B X8 at_120 rfl rfl rfl ?_
  refine own_iload B X8 at_122 rfl rfl ?_
  refine own_callV B X8 (c_get l Z a0 hw o bb tt kb kt (3 : Int32) (2 : Int32) i3 [.int i0, .int i1, .int i3, .int (0 : Int32), .int (0 : Int32), .int (0 : Int32), .int (0 : Int32), .int (0 : Int32)] T8.heap S8 (by decide) ⟨by decide, by decide⟩  rfl (by decide)) rfl S8.1 (own_nf B (B.w 30 rfl)) at_124 rfl (B.w 27 rfl) (B.w 28 rfl) (B.w 30 rfl) (B.w 29 rfl) (B.w 2 rfl) (B.w 31 rfl) (by decide) (W := 0) (by decide) (by decide) rfl [(.int (2 : Int32))] [] pd2 rfl rfl rfl (Nat.le_refl _) (by decide) (by decide) ?_
  rintro T9 _ _ X9 ⟨rfl, rfl, e9⟩
  show Go p e below _ T9 (mkF m 127 _ [(.int i3)])
  have N9 := Fr.app N8 (Fr.nil n0)
  refine own_iload B X9 at_127 rfl rfl ?_
  refine own_icmpNo B X9 at_129 (teq (rfl : i3 = i3)).2 rfl ?_
  refine own_iconst B X9 at_132 rfl (v := (1 : Int32)) rfl ?_
  refine own_goto B X9 at_133 (by decide) (pc' := 137) rfl ?_
  refine own_istore B X9 at_137 rfl #[.val (.int i0), .val (.int i1), .val (.int i2), .val (.int i3), .val (.int i4), .val (.int i5), .val (.ref o), .val (.int (2 : Int32)), .val (.int i2), .val (.int (1 : Int32)), .val (.int (2 : Int32)), .val (.int i3), .val (.int (1 : Int32))] rfl ?_
  refine own_iload B X9 at_139 rfl rfl ?_
  refine own_ifNo B X9 at_141 (feq (by decide : ¬ ((1 : Int32) = (0 : Int32)))).1 rfl ?_
  refine own_iload B X9 at_144 rfl rfl ?_
  refine own_ifNo B X9 at_146 (feq (by decide : ¬ ((1 : Int32) = (0 : Int32)))).1 rfl ?_
  refine own_iconst B X9 at_149 rfl (v := (1 : Int32)) rfl ?_
  refine own_goto B X9 at_150 (by decide) (pc' := 154) rfl ?_
  exact own_retInt B X9 at_154 rfl (Or.inr (Or.inl rfl)) ⟨rfl, N9⟩ (by decide) (by decide)
theorem law_all (l : Launch) (Z : State) (a0 : Array Value) (hw : ∀ d ∈ tables_1, d.before a0 Z = true) (h0 : Heap) (i0 i1 i2 i3 i4 i5 : Int32) (n0 : Nat) (Z0 : n0 ≤ h0.size) : Con l Z x code maxLocals ret tables_1 room_1 #[(.int i0), (.int i1), (.int i2), (.int i3), (.int i4), (.int i5)] h0 (Q0 n0) := by
  rcases own_rem3 i4 with q0 | q0 | q0
  · rcases own_rem3 i5 with q1 | q1 | q1
    · exact law_0_0 l Z a0 hw h0 i0 i1 i2 i3 i4 i5 n0 Z0 q0 q1
    · exact law_0_1 l Z a0 hw h0 i0 i1 i2 i3 i4 i5 n0 Z0 q0 q1
    · exact law_0_2 l Z a0 hw h0 i0 i1 i2 i3 i4 i5 n0 Z0 q0 q1
  · rcases own_rem3 i5 with q1 | q1 | q1
    · exact law_1_0 l Z a0 hw h0 i0 i1 i2 i3 i4 i5 n0 Z0 q0 q1
    · exact law_1_1 l Z a0 hw h0 i0 i1 i2 i3 i4 i5 n0 Z0 q0 q1
    · exact law_1_2 l Z a0 hw h0 i0 i1 i2 i3 i4 i5 n0 Z0 q0 q1
  · rcases own_rem3 i5 with q1 | q1 | q1
    · exact law_2_0 l Z a0 hw h0 i0 i1 i2 i3 i4 i5 n0 Z0 q0 q1
    · exact law_2_1 l Z a0 hw h0 i0 i1 i2 i3 i4 i5 n0 Z0 q0 q1
    · exact law_2_2 l Z a0 hw h0 i0 i1 i2 i3 i4 i5 n0 Z0 q0 q1
set_option maxRecDepth 65536 in
set_option maxHeartbeats 4000000 in
theorem comes_1 {Post : Tables → Env → Array Value → State → Outcome → State → Prop} (hpost : ∀ tb e args s v u, (limb_1_1.after args s (.returned v) u = true ∧ limb_1_2.after args s (.returned v) u = true) → FrameEnd s (.returned v) u (Jvm.fieldLocs frame_1_writes args s ++ Jvm.arrayLocs frame_1_arrays args s ++ Jvm.staticLocs frame_1_statics s) 16 8320 → Post tb e args s (.returned v) u) :
    ArmFor flags0 classFile x code maxLocals ret World_1 tables_1 room_1 Calls_1 rest_1 Pre_1 Post := by
  intro l hfl _ _ p e ha hc hk s m args below hf hA hF happ hP
  obtain ⟨hcalls, hrest, hpre⟩ := hP
  obtain ⟨-, -, -, hnamed, -, -, -, hat⟩ := (Spec.applies_iff hf).mp happ
  obtain ⟨hg, hn⟩ := and_e (Cond.before_iff.mp (show (Jvm.Cond.and given_1 narrow_1).before args s = true from hpre))
  obtain ⟨g0, hg0⟩ := and_e hg
  obtain ⟨g1, hg1⟩ := and_e hg0
  obtain ⟨g2, hg2⟩ := and_e hg1
  obtain ⟨g3, hg3⟩ := and_e hg2
  obtain ⟨g4, hg4⟩ := and_e hg3
  obtain ⟨g5, hg5⟩ := and_e hg4
  obtain ⟨z0, z1, z2, z3, z4, z5, rfl⟩ : ∃ z0 z1 z2 z3 z4 z5 : Value, args = #[z0, z1, z2, z3, z4, z5] := by
    have hs : args.size = 6 := by simpa [Cond.value, given_1] using g0
    obtain ⟨L⟩ := args
    match L, hs with
    | [z0, z1, z2, z3, z4, z5], _ => exact ⟨z0, z1, z2, z3, z4, z5, rfl⟩
  obtain ⟨i0, ei0⟩ := is_v g1
  obtain rfl : z0 = (.int i0) := Option.some.inj ei0
  obtain ⟨i1, ei1⟩ := is_v g2
  obtain rfl : z1 = (.int i1) := Option.some.inj ei1
  obtain ⟨i2, ei2⟩ := is_v g3
  obtain rfl : z2 = (.int i2) := Option.some.inj ei2
  obtain ⟨i3, ei3⟩ := is_v g4
  obtain rfl : z3 = (.int i3) := Option.some.inj ei3
  obtain ⟨i4, ei4⟩ := is_v g5
  obtain rfl : z4 = (.int i4) := Option.some.inj ei4
  obtain ⟨i5, ei5⟩ := is_v hg5
  obtain rfl : z5 = (.int i5) := Option.some.inj ei5
  have hw := fun d (hd : d ∈ tables_1) => atoms_spec (ws := Jvm.Cond.code x code maxLocals ret :: tables_1) hat d (List.mem_cons_of_mem _ hd)
  obtain ⟨n, o, h1, h2, h3, _, L, rfl, ⟨rfl, N⟩, hq⟩ := law_all l s _ hw s.heap i0 i1 i2 i3 i4 i5 s.heap.size (Nat.le_refl _) p e ha hc hk s m _ below hf ((Spec.applies_iff_loose hf).mp happ).1 ⟨rfl, State.Warmed39.refl s, rfl⟩ trivial
  refine ⟨n, _, h1, h2, h3, hpost _ _ _ _ _ _ ⟨Cond.after_iff.mpr rfl, Cond.after_iff.mpr (eq_i res_at (Term.int_eval (1)) rfl)⟩ ⟨hq.1, hq.2.1, (hq.2.2.sift fun y hy => Or.inr (N y hy)).mono (by decide) (by decide)⟩⟩
theorem main_1_1 : Claimed_1_1 := comes_1 fun _ _ _ _ _ _ h hF => ⟨h.1, hF⟩
theorem main_1_2 : Claimed_1_2 := comes_1 fun _ _ _ _ _ _ h hF => ⟨h.2, hF⟩
end Jvm.Pilot.@@N@@
namespace Jvm.Pilot.@@N@@
open Jvm Jvm.ClassFile Sem Op Lib Jvm.Free Jvm.Stand Jvm.Pilot.@@N@@.Jvm.D
/-! MADE BY PROGRAM (witnessworld.py) out of the Statement's table words and the real class files: 9 classes; the members and pool entries that the words name. The judged class is class 1, her method 1. -/
namespace start1
open Jvm.ClassFile
def u (s : String) : CpInfo := .utf8 (stringToUtf16 s)
/-- a pool by its gaps: so many unusable entries, then the entry; so many at the end -/
def gap : Nat → List CpInfo → List CpInfo
  | 0, r => r
  | n + 1, r => .unusable :: gap n r
def poolList (es : List (Nat × CpInfo)) (last : Nat) : List CpInfo := es.foldr (fun e r => gap e.1 (e.2 :: r)) (gap last [])
def pool (es : List (Nat × CpInfo)) (last : Nat) : Array CpInfo := ⟨poolList es last⟩
def fileOf (pool : Array CpInfo) (this : Nat) (attrs : Array Attribute := #[]) (ms : Array MethodInfo := #[]) (fl : Nat := 33) (sup : Nat := 0) (ifs : Array Nat := #[]) (fds : Array FieldInfo := #[]) : ClassFile where
  minorVersion := 0
  majorVersion := 65
  constantPool := pool
  accessFlags := fl
  thisClass := this
  superClass := sup
  interfaces := ifs
  fields := fds
  methods := ms
  attributes := attrs
def plain (name : String) (sup : Option ClassId) : Class where
  name := name
  kind := .ordinary
  loader := none
  accessFlags := 33
  super := sup
  interfaces := #[]
  cf := none
  fields := #[]
  methods := #[]
  instanceTypes := #[]
  staticTypes := #[]
  resolved := #[]
  callSites := []
  init := .initialized
  statics := none
  mirror := none

def pool0 : Array CpInfo := pool [(5, u "<init>"), (0, u "()V"), (1, .class_ 10), (1, u "java/lang/Object")] 113

def k0c0 : Code := { maxStack := 0, maxLocals := 1, code := object_method_1_code, exceptionTable := #[], attributes := #[] }
def k0m0 : Method := { name := "<init>", desc := "()V", sig := { parameters := [], returnType := none }, accessFlags := 1, code := some k0c0 }
/-- java/lang/Object -/
def k0 : Class := { plain "java/lang/Object" none with
  accessFlags := 33
  interfaces := #[]
  cf := some (fileOf pool0 8 #[] #[{ accessFlags := 1, nameIndex := 5, descriptorIndex := 6, attributes := #[] }] 33 0 #[] #[])
  fields := #[]
  methods := #[k0m0]
  instanceTypes := #[]
  staticTypes := #[]
  resolved := Array.replicate 124 none
  statics := none }

def pool1 : Array CpInfo := pool [(2, .class_ 4), (0, .nameAndType 5 6), (0, u "java/lang/Object"), (0, u "<init>"), (0, u "()V"), (0, .class_ 8), (0, u "com/example/retrace/retrace/grammar/IntStack"), (0, .methodref 7 3), (0, .methodref 7 11), (0, .nameAndType 12 13), (0, u "push"), (0, u "(I)V"), (0, .integer 2147483647), (0, .methodref 7 16), (0, .nameAndType 17 18), (0, u "get"), (0, u "(I)I"), (0, .methodref 7 20), (0, .nameAndType 21 22), (0, u "pop"), (0, u "()I"), (0, .class_ 24), (0, u "com/example/retrace/retrace/grammar/IntStackGetPinLaw"), (2, u "law"), (0, u "(IIIIII)Z")] 3

def k1m0 : Method := { name := "<init>", desc := "()V", sig := { parameters := [], returnType := none }, accessFlags := 1, code := none }
def k1c1 : Code := { maxStack := 2, maxLocals := 13, code := code, exceptionTable := #[], attributes := #[] }
def k1m1 : Method := { name := "law", desc := "(IIIIII)Z", sig := { parameters := [.int, .int, .int, .int, .int, .int], returnType := some .boolean }, accessFlags := 9, code := some k1c1 }
/-- com/example/retrace/retrace/grammar/IntStackGetPinLaw -/
def k1 : Class := { plain "com/example/retrace/retrace/grammar/IntStackGetPinLaw" (some 0) with
  accessFlags := 49
  interfaces := #[]
  cf := some (fileOf pool1 23 #[] #[{ accessFlags := 1, nameIndex := 5, descriptorIndex := 6, attributes := #[] }, { accessFlags := 9, nameIndex := 27, descriptorIndex := 28, attributes := #[] }] 49 2 #[] #[])
  fields := #[]
  methods := #[k1m0, k1m1]
  instanceTypes := #[]
  staticTypes := #[]
  resolved := Array.replicate 32 none
  statics := none }

def pool2 : Array CpInfo := pool [(1, .class_ 2), (0, u "com/example/retrace/retrace/grammar/IntStack"), (0, .methodref 4 5), (0, .class_ 6), (0, .nameAndType 7 8), (0, u "java/lang/Object"), (0, u "<init>"), (0, u "()V"), (0, .class_ 10), (0, u "[I"), (0, .fieldref 1 12), (0, .nameAndType 13 14), (0, u "blocks"), (0, u "[[I"), (0, .fieldref 1 16), (0, .nameAndType 17 10), (0, u "top"), (0, .fieldref 1 19), (0, .nameAndType 20 21), (0, u "topEnd"), (0, u "I"), (3, .fieldref 1 26), (0, .nameAndType 27 21), (0, u "size"), (7, .class_ 36), (0, u "com/example/retrace/retrace/grammar/IntStack$Mapped"), (3, u "BLOCK_BITS"), (2, u "BLOCK_SIZE"), (1, u "OFFSET_MASK"), (3, u "push"), (0, u "(I)V"), (1, u "pop"), (0, u "()I"), (2, u "get"), (0, u "(I)I")] 11

def k2c0 : Code := { maxStack := 5, maxLocals := 1, code := prog_43_method_1_code, exceptionTable := #[], attributes := #[] }
def k2m0 : Method := { name := "<init>", desc := "()V", sig := { parameters := [], returnType := none }, accessFlags := 1, code := some k2c0 }
def k2c1 : Code := { maxStack := 5, maxLocals := 2, code := prog_43_method_2_code, exceptionTable := #[], attributes := #[] }
def k2m1 : Method := { name := "push", desc := "(I)V", sig := { parameters := [.int], returnType := none }, accessFlags := 1, code := some k2c1 }
def k2c2 : Code := { maxStack := 4, maxLocals := 2, code := prog_43_method_4_code, exceptionTable := #[], attributes := #[] }
def k2m2 : Method := { name := "pop", desc := "()I", sig := { parameters := [], returnType := some .int }, accessFlags := 1, code := some k2c2 }
def k2c3 : Code := { maxStack := 3, maxLocals := 2, code := prog_43_method_7_code, exceptionTable := #[], attributes := #[] }
def k2m3 : Method := { name := "get", desc := "(I)I", sig := { parameters := [.int], returnType := some .int }, accessFlags := 1, code := some k2c3 }
/-- com/example/retrace/retrace/grammar/IntStack -/
def k2 : Class := { plain "com/example/retrace/retrace/grammar/IntStack" (some 0) with
  accessFlags := 49
  interfaces := #[]
  cf := some (fileOf pool2 1 #[.nestMembers #[35]] #[{ accessFlags := 1, nameIndex := 7, descriptorIndex := 8, attributes := #[] }, { accessFlags := 1, nameIndex := 49, descriptorIndex := 50, attributes := #[] }, { accessFlags := 1, nameIndex := 52, descriptorIndex := 53, attributes := #[] }, { accessFlags := 1, nameIndex := 56, descriptorIndex := 57, attributes := #[] }] 49 4 #[] #[{ accessFlags := 26, nameIndex := 40, descriptorIndex := 21, attributes := #[] }, { accessFlags := 26, nameIndex := 43, descriptorIndex := 21, attributes := #[] }, { accessFlags := 26, nameIndex := 45, descriptorIndex := 21, attributes := #[] }, { accessFlags := 2, nameIndex := 13, descriptorIndex := 14, attributes := #[] }, { accessFlags := 2, nameIndex := 27, descriptorIndex := 21, attributes := #[] }, { accessFlags := 2, nameIndex := 17, descriptorIndex := 10, attributes := #[] }, { accessFlags := 2, nameIndex := 20, descriptorIndex := 21, attributes := #[] }])
  fields := #[{ name := "BLOCK_BITS", type := .int, accessFlags := 26, slot := 0, constantValue := 0 }, { name := "BLOCK_SIZE", type := .int, accessFlags := 26, slot := 1, constantValue := 0 }, { name := "OFFSET_MASK", type := .int, accessFlags := 26, slot := 2, constantValue := 0 }, { name := "blocks", type := (.array (.array .int)), accessFlags := 2, slot := 0, constantValue := 0 }, { name := "size", type := .int, accessFlags := 2, slot := 1, constantValue := 0 }, { name := "top", type := (.array .int), accessFlags := 2, slot := 2, constantValue := 0 }, { name := "topEnd", type := .int, accessFlags := 2, slot := 3, constantValue := 0 }]
  methods := #[k2m0, k2m1, k2m2, k2m3]
  instanceTypes := #[(.array (.array .int)), .int, (.array .int), .int]
  staticTypes := #[.int, .int, .int]
  resolved := Array.replicate 69 none
  statics := none }

def pool3 : Array CpInfo := pool [(1, u "java/lang/Cloneable"), (0, .class_ 1), (0, u "java/lang/Object"), (0, .class_ 3)] 3

/-- java/lang/Cloneable -/
def k3 : Class := { plain "java/lang/Cloneable" (some 0) with
  accessFlags := 1537
  interfaces := #[]
  cf := some (fileOf pool3 2 #[] #[] 1537 4 #[] #[])
  fields := #[]
  methods := #[]
  instanceTypes := #[]
  staticTypes := #[]
  resolved := Array.replicate 8 none
  statics := none }

def pool4 : Array CpInfo := pool [(1, u "java/io/Serializable"), (0, .class_ 1), (0, u "java/lang/Object"), (0, .class_ 3)] 3

/-- java/io/Serializable -/
def k4 : Class := { plain "java/io/Serializable" (some 0) with
  accessFlags := 1537
  interfaces := #[]
  cf := some (fileOf pool4 2 #[] #[] 1537 4 #[] #[])
  fields := #[]
  methods := #[]
  instanceTypes := #[]
  staticTypes := #[]
  resolved := Array.replicate 8 none
  statics := none }

/-- the primitive byte -/
def k5 : Class := { plain "byte" none with kind := .primitive 'B', accessFlags := 0x411 }
/-- [B -/
def k6 : Class := { plain "[B" (some 0) with kind := .array 5 .byte, interfaces := #[3, 4], accessFlags := 1041 }

/-- the primitive int -/
def k7 : Class := { plain "int" none with kind := .primitive 'I', accessFlags := 0x411 }
/-- [I -/
def k8 : Class := { plain "[I" (some 0) with kind := .array 7 .int, interfaces := #[3, 4], accessFlags := 1041 }

/-- [[I -/
def k9 : Class := { plain "[[I" (some 0) with kind := .array 8 (.array .int), interfaces := #[3, 4], accessFlags := 1041 }
def heap : Heap := #[]
def classes : Array Class := #[k0, k1, k2, k3, k4, k5, k6, k7, k8, k9]
def interned : List (Array UInt16 × Addr) := []
def slotsUsed : Nat := 0
def theMethod : MethodId := ⟨1, 1⟩
def args0 : Array Value := #[.int 5, .int 5, .int 5, .int 5, .int 5, .int 5]
def aboutOver (below : List Frame) : State where
  vm := { classes := classes, interned := interned.toArray }
  heap := heap
  slotsUsed := slotsUsed
  threads := #[{ frames := .invoking theMethod args0 :: below }]
def below0 : List Frame := [.native { method := ⟨0, 0⟩, args := #[] }]
def about1 : State := aboutOver below0
def p0 : Program := .bare "" "" ""
def e0 : Env := launch0.env 0 0 0
theorem w_frames : about1.frames = Frame.invoking theMethod args0 :: below0 := rfl
set_option maxRecDepth 65536 in
theorem w_args : argsFit about1.vm theMethod args0 = true := by decide +kernel
set_option maxRecDepth 65536 in
theorem w_heap : heapFits about1 = true := by decide +kernel
set_option maxRecDepth 65536 in
theorem w_runnable : about1.curStatus? = some .runnable := by decide +kernel
set_option maxRecDepth 65536 in
theorem w_alone : about1.alone = true := by decide +kernel
set_option maxRecDepth 65536 in
theorem w_named : about1.methodNamed? x = some theMethod := by decide +kernel
set_option maxRecDepth 65536 in
theorem w_hears : about1.hears theMethod below0 = true := by decide +kernel
set_option maxRecDepth 65536 in
theorem w_ripe : about1.ripe theMethod args0 below0 = true := by decide +kernel
theorem w_running : about1.status = .running := rfl
set_option maxRecDepth 65536 in
theorem w_room : about1.hasRoom e0.platform room_1 = true :=
  launch0.hasRoom_least _ room_1 (by decide +kernel) (by decide +kernel) (by decide +kernel) (by decide +kernel) (by decide +kernel) (by decide +kernel)
theorem allAtoms_all (ts : List Jvm.Cond) (a : Array Jvm.Value) (st : Jvm.State) : (allAtoms ts).before a st = ts.all (fun c => c.before a st) := by
  induction ts with
  | nil => rfl
  | cons c t ih =>
    show (Jvm.Cond.and c (allAtoms t)).before a st = _
    rw [Jvm.Cond.before_and, ih, List.all_cons]
def words1 : List Jvm.Cond := Jvm.Cond.code x code maxLocals ret :: tables_1
/-- a 'code' word, met by the world's own term for the bytes: nothing is compared byte by byte -/
theorem code_word {y : MethodName} {bytes : ByteArray} {mx : Nat} {rt : Option FieldType} {a : Array Value} {s : State} {m : MethodId} {meth : Method} {c : Code} (h1 : s.methodNamed? y = some m) (h2 : s.vm.method? m = some meth) (h3 : meth.code = some c) (h4 : c.code = bytes)
    (h5 : (c.maxLocals == mx && c.exceptionTable.isEmpty && decide (c.maxStack ≤ mostOperands) && decide (meth.sig.returnType = rt) && !meth.locks && decide (parseMethodDescriptor y.desc = some meth.sig)) = true) : (Jvm.Cond.code y bytes mx rt).before a s = true := by
  simp only [Bool.and_eq_true, beq_iff_eq, Bool.not_eq_true', decide_eq_true_eq] at h5
  obtain ⟨⟨⟨⟨⟨g1, g2⟩, g3⟩, g4⟩, g5⟩, g6⟩ := h5
  simp [Cond.before, Cond.holds, Cond.value, h1, h2, h3, h4, g1, g2, g3, g4, g5, g6]
def isCode : Jvm.Cond → Bool
  | .code _ _ _ _ => true
  | _ => false
theorem all_split {L : List Jvm.Cond} {P : Jvm.Cond → Bool} (h1 : L.all (fun c => isCode c || P c) = true) (h2 : ∀ c ∈ L.filter isCode, P c = true) : L.all P = true := by
  refine List.all_eq_true.mpr fun c hc => ?_
  have h := List.all_eq_true.mp h1 c hc
  rcases Bool.eq_false_or_eq_true (isCode c) with hi | hi
  · exact h2 c (List.mem_filter.mpr ⟨hc, hi⟩)
  · simpa [hi] using h
set_option maxRecDepth 65536 in
theorem w_c0 : (Jvm.Cond.code x code maxLocals ret).before args0 about1 = true := code_word (m := ⟨1, 1⟩) (meth := k1m1) (c := k1c1) (by decide +kernel) rfl rfl rfl (by decide +kernel)
set_option maxRecDepth 65536 in
theorem w_c1 : (Jvm.Cond.code ({ cls := "com/example/retrace/retrace/grammar/IntStack", name := "<init>", desc := "()V" } : Jvm.MethodName) prog_43_method_1_code (1 : Nat) (Option.none : Option Jvm.ClassFile.FieldType)).before args0 about1 = true := code_word (m := ⟨2, 0⟩) (meth := k2m0) (c := k2c0) (by decide +kernel) rfl rfl rfl (by decide +kernel)
set_option maxRecDepth 65536 in
theorem w_c2 : (Jvm.Cond.code ({ cls := "java/lang/Object", name := "<init>", desc := "()V" } : Jvm.MethodName) object_method_1_code (1 : Nat) (Option.none : Option Jvm.ClassFile.FieldType)).before args0 about1 = true := code_word (m := ⟨0, 0⟩) (meth := k0m0) (c := k0c0) (by decide +kernel) rfl rfl rfl (by decide +kernel)
set_option maxRecDepth 65536 in
theorem w_c3 : (Jvm.Cond.code ({ cls := "com/example/retrace/retrace/grammar/IntStack", name := "push", desc := "(I)V" } : Jvm.MethodName) prog_43_method_2_code (2 : Nat) (Option.none : Option Jvm.ClassFile.FieldType)).before args0 about1 = true := code_word (m := ⟨2, 1⟩) (meth := k2m1) (c := k2c1) (by decide +kernel) rfl rfl rfl (by decide +kernel)
set_option maxRecDepth 65536 in
theorem w_c4 : (Jvm.Cond.code ({ cls := "com/example/retrace/retrace/grammar/IntStack", name := "get", desc := "(I)I" } : Jvm.MethodName) prog_43_method_7_code (2 : Nat) (Option.some Jvm.ClassFile.FieldType.int)).before args0 about1 = true := code_word (m := ⟨2, 3⟩) (meth := k2m3) (c := k2c3) (by decide +kernel) rfl rfl rfl (by decide +kernel)
set_option maxRecDepth 65536 in
theorem w_c5 : (Jvm.Cond.code ({ cls := "com/example/retrace/retrace/grammar/IntStack", name := "pop", desc := "()I" } : Jvm.MethodName) prog_43_method_4_code (2 : Nat) (Option.some Jvm.ClassFile.FieldType.int)).before args0 about1 = true := code_word (m := ⟨2, 2⟩) (meth := k2m2) (c := k2c2) (by decide +kernel) rfl rfl rfl (by decide +kernel)
def codes1 : List Jvm.Cond := [Jvm.Cond.code x code maxLocals ret, Jvm.Cond.code ({ cls := "com/example/retrace/retrace/grammar/IntStack", name := "<init>", desc := "()V" } : Jvm.MethodName) prog_43_method_1_code (1 : Nat) (Option.none : Option Jvm.ClassFile.FieldType), Jvm.Cond.code ({ cls := "java/lang/Object", name := "<init>", desc := "()V" } : Jvm.MethodName) object_method_1_code (1 : Nat) (Option.none : Option Jvm.ClassFile.FieldType), Jvm.Cond.code ({ cls := "com/example/retrace/retrace/grammar/IntStack", name := "push", desc := "(I)V" } : Jvm.MethodName) prog_43_method_2_code (2 : Nat) (Option.none : Option Jvm.ClassFile.FieldType), Jvm.Cond.code ({ cls := "com/example/retrace/retrace/grammar/IntStack", name := "get", desc := "(I)I" } : Jvm.MethodName) prog_43_method_7_code (2 : Nat) (Option.some Jvm.ClassFile.FieldType.int), Jvm.Cond.code ({ cls := "com/example/retrace/retrace/grammar/IntStack", name := "pop", desc := "()I" } : Jvm.MethodName) prog_43_method_4_code (2 : Nat) (Option.some Jvm.ClassFile.FieldType.int)]
set_option maxRecDepth 65536 in
theorem codes_eq : words1.filter isCode = codes1 := rfl
theorem w_codes : ∀ c ∈ words1.filter isCode, c.before args0 about1 = true := by
  rw [codes_eq]
  intro c hc
  simp only [codes1, List.mem_cons, List.not_mem_nil, or_false] at hc
  rcases hc with rfl | rfl | rfl | rfl | rfl | rfl
  · exact w_c0
  · exact w_c1
  · exact w_c2
  · exact w_c3
  · exact w_c4
  · exact w_c5
set_option maxRecDepth 65536 in
theorem w_t1 : (words1.take 24).all (fun c => isCode c || c.before args0 about1) = true := by decide +kernel
set_option maxRecDepth 65536 in
theorem w_t2 : (words1.drop 24).all (fun c => isCode c || c.before args0 about1) = true := by decide +kernel
theorem w_tables : (allAtoms (Jvm.Cond.code x code maxLocals ret :: tables_1)).before args0 about1 = true := by
  rw [allAtoms_all]
  show words1.all (fun c => c.before args0 about1) = true
  refine all_split ?_ w_codes
  rw [← List.take_append_drop 24 words1, List.all_append, w_t1, w_t2]
  rfl
set_option maxRecDepth 65536 in
theorem w_case : (Jvm.Cond.and given_1 narrow_1).before args0 about1 = true := by decide +kernel
theorem w_applies : (headSpec (Jvm.Cond.code x code maxLocals ret :: tables_1) room_1).applies x e0.platform about1 = true :=
  (Spec.applies_iff w_frames).mpr ⟨w_running, w_runnable, w_alone, w_named, w_hears, w_ripe, w_room, w_tables⟩
theorem atStart : AtStart classFile x code maxLocals ret World_1 tables_1 room_1 Calls_1 rest_1 Pre_1 launch0 p0 e0 about1 theMethod args0 below0 :=
  ⟨lists_1, trivial, launch0.admits_env _ _ _, launch0.least_env, fairChoices_fair.cas, fairChoices_fair.clock, w_frames, w_args, w_heap, w_applies, trivial, trivial, w_case⟩
end start1
theorem witness_1 : WitnessClaimed_1 := ⟨start1.p0, start1.e0, start1.about1, start1.theMethod, start1.args0, start1.below0, start1.atStart⟩
end Jvm.Pilot.@@N@@
