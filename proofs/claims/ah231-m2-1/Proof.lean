import JvmDerived
import JvmDerived.Pilot.@@N@@Statement
import JvmDerived.Pilot.@@N@@Code
set_option linter.unusedVariables false
set_option linter.unusedSimpArgs false
@@BLOCK:NumsL.lean.txt@@
namespace Jvm.Pilot.@@N@@
open Jvm Jvm.ClassFile Sem Op Lib Jvm.Free Jvm.Stand Jvm.LawKit Jvm.RoadKit Bundle Jvm.Pilot.@@N@@.Jvm.D

/-! OWN LAYER 1: a walk said forward: 'Go' is the goal at each point; every step's law hands the goal at the next point to the rest of the text. -/
section OwnLayer
variable {p : Program} {l : Launch} {e : Env} {R : Room} {s : State} {m : MethodId} {args : Array Value} {below : List Frame} {meth : Method} {c : Code} {T : State} {locs : List Loc} {cells slots : Nat} {Z : State} {a0 : Array Value} {h : Heap} {P : State → Outcome → Prop} {bytes : ByteArray} {own : String} {rt : Option FieldType} {ml : Nat}
def Go (p : Program) (e : Env) (below : List Frame) (P : State → Outcome → Prop) (T : State) (g : JFrame) : Prop := ∃ t o, Steps p.tables e below (T.setTop g) t ∧ P t o
theorem Go.via {T' : State} {g g' : JFrame} (k : ∀ t, Steps p.tables e below (T'.setTop g') t → Steps p.tables e below (T.setTop g) t) (K : Go p e below P T' g') : Go p e below P T g := by
  obtain ⟨t, o, h1, h2⟩ := K; exact ⟨t, o, k t h1, h2⟩
theorem Go.cast {g g' : JFrame} (q : g = g') (K : Go p e below P T g') : Go p e below P T g := q ▸ K
/-- what stays fixed in a body's walk -/
def Fix (p : Program) (s : State) (m : MethodId) (meth : Method) (c : Code) (Z : State) (a0 : Array Value) (own : String) (bytes : ByteArray) (ml : Nat) (rt : Option FieldType) : Prop :=
  p.tables.exec = Jvm.exec ∧ c.code = bytes ∧ c.maxLocals = ml ∧ s.vm.findClass own = some m.cls ∧ Z.Warmed39 s.vm ∧ (∀ d ∈ tables_1, d.before a0 Z = true) ∧ meth.sig.returnType = rt ∧ meth.locks = false
theorem Fix.w (B : Fix p s m meth c Z a0 own bytes ml rt) (i : Nat) {d : Jvm.Cond} (hd : tables_1[i]? = some d) : d.before a0 Z = true := B.2.2.2.2.2.1 d (List.mem_of_getElem? hd)
theorem Fix.x (B : Fix p s m meth c Z a0 own bytes ml rt) : p.tables.exec = Jvm.exec := B.1
theorem Fix.b (B : Fix p s m meth c Z a0 own bytes ml rt) : c.code = bytes := B.2.1
theorem Fix.mx (B : Fix p s m meth c Z a0 own bytes ml rt) : c.maxLocals = ml := B.2.2.1
theorem Fix.ow (B : Fix p s m meth c Z a0 own bytes ml rt) : s.vm.findClass own = some m.cls := B.2.2.2.1
theorem Fix.z (B : Fix p s m meth c Z a0 own bytes ml rt) : Z.Warmed39 s.vm := B.2.2.2.2.1
theorem Fix.hw (B : Fix p s m meth c Z a0 own bytes ml rt) : ∀ d ∈ tables_1, d.before a0 Z = true := B.2.2.2.2.2.1
theorem Fix.ret (B : Fix p s m meth c Z a0 own bytes ml rt) : meth.sig.returnType = rt := B.2.2.2.2.2.2.1
theorem Fix.lk (B : Fix p s m meth c Z a0 own bytes ml rt) : meth.locks = false := B.2.2.2.2.2.2.2
/-- how a body ends -/
def Fini (s : State) (below : List Frame) (Q : Option Value → Heap → List Loc → Prop) (ck sk : Nat) : State → Outcome → Prop := fun t o => t.status = .running ∧ Ended t below o ∧ ∃ v L, o = .returned v ∧ Q v t.heap L ∧ FrameEnd s o t L ck sk
/-- a body's contract -/
def Con (l : Launch) (Z : State) (y : MethodName) (bytes : ByteArray) (ml : Nat) (rt : Option FieldType) (ws : List Jvm.Cond) (rm : Room) (as' : Array Value) (h0 : Heap) (Q : Option Value → Heap → List Loc → Prop) : Prop :=
  MetFree l y (head1 (Jvm.Cond.code y bytes ml rt :: ws) rm) (fun a U => a = as' ∧ Z.Warmed39 U.vm ∧ U.heap = h0) (fun _ _ _ _ _ => True) (fun _ U o U' => ∃ v L, o = .returned v ∧ Q v U'.heap L ∧ FrameEnd U o U' L rm.cells rm.slots)
/-- it returns v0 and writes and makes nothing -/
def Pq (v0 : Option Value) (h0 : Heap) (v : Option Value) (h : Heap) (L : List Loc) : Prop := v = v0 ∧ L = [] ∧ h = h0
theorem own_body {y : MethodName} {ws : List Jvm.Cond} {rm : Room} {as' : Array Value} {h0 : Heap} {Q : Option Value → Heap → List Loc → Prop} (hpl : plainFor y = true) (hw : ∀ d ∈ tables_1, d.before a0 Z = true)
    (body : ∀ p e s m below meth c s₁, Fix p s m meth c Z a0 y.cls bytes ml rt → Stand p l e rm s m as' below meth c s₁ [] 0 0 → s₁.heap = h0 → meth.name = y.name → Go p e below (Fini s below Q rm.cells rm.slots) s₁ (entryFrame m as' ml)) : Con l Z y bytes ml rt ws rm as' h0 Q := by
  refine MetFree.of_bodySF hpl hisR ?_
  intro p e s m args below meth c s₁ Bd hml0 hP hK
  obtain ⟨rfl, hZ, hh⟩ := hP
  obtain ⟨t, o, h1, h2, h3, h4⟩ := body p e s m below meth c s₁ ⟨Bd.exec, Bd.bytes, hml0, findClass_of_methodNamed Bd.named, hZ, hw, Bd.returns, Bd.notSynchronized⟩ (Stand.of_body Bd) (by rw [← hh, Bd.state]; rfl) (name_of_methodNamed Bd.named Bd.method).1
  exact ⟨t, o, h1, h2, h3, h4⟩
section OwnSteps
variable {pc pc' : Nat} {Ls : Array Slot} {St : List Value}
theorem own_aloadN (B : Fix p s m meth c Z a0 own bytes ml rt) (X : Stand p l e R s m args below meth c T locs cells slots) {k : Fin 4} {v : Value} (hd : decode bytes pc = .ok (.aload_n k, 1)) (hp : pc + 1 = pc') (hl : Ls[k.val]? = some (.val v)) (hv : v.isRef = true) (K : Go p e below P T (mkF m pc' Ls (v :: St))) : Go p e below P T (mkF m pc Ls St) := by
  subst hp; exact Go.via (fun t k => XS.aloadN X.here B.x rfl (hb B.b hd) hl hv k) K
theorem own_aload (B : Fix p s m meth c Z a0 own bytes ml rt) (X : Stand p l e R s m args below meth c T locs cells slots) {k : Nat} {v : Value} (hd : decode bytes pc = .ok (.aload k, 2)) (hp : pc + 2 = pc') (hl : Ls[k]? = some (.val v)) (hv : v.isRef = true) (K : Go p e below P T (mkF m pc' Ls (v :: St))) : Go p e below P T (mkF m pc Ls St) := by
  subst hp; exact Go.via (fun t k => XS.aload X.here B.x rfl (hb B.b hd) hl hv k) K
theorem own_iloadN (B : Fix p s m meth c Z a0 own bytes ml rt) (X : Stand p l e R s m args below meth c T locs cells slots) {k : Fin 4} {v : Int32} (hd : decode bytes pc = .ok (.iload_n k, 1)) (hp : pc + 1 = pc') (hl : Ls[k.val]? = some (.val (.int v))) (K : Go p e below P T (mkF m pc' Ls (.int v :: St))) : Go p e below P T (mkF m pc Ls St) := by
  subst hp; exact Go.via (fun t k => XS.iloadN X.here B.x rfl (hb B.b hd) hl k) K
theorem own_iload (B : Fix p s m meth c Z a0 own bytes ml rt) (X : Stand p l e R s m args below meth c T locs cells slots) {k : Nat} {v : Int32} (hd : decode bytes pc = .ok (.iload k, 2)) (hp : pc + 2 = pc') (hl : Ls[k]? = some (.val (.int v))) (K : Go p e below P T (mkF m pc' Ls (.int v :: St))) : Go p e below P T (mkF m pc Ls St) := by
  subst hp; exact Go.via (fun t k => XS.iload X.here B.x rfl (hb B.b hd) hl k) K
theorem own_iconst (B : Fix p s m meth c Z a0 own bytes ml rt) (X : Stand p l e R s m args below meth c T locs cells slots) {i : Int} {v : Int32} (hd : decode bytes pc = .ok (.iconst i, 1)) (hp : pc + 1 = pc') (hv : Int32.ofInt i = v) (K : Go p e below P T (mkF m pc' Ls (.int v :: St))) : Go p e below P T (mkF m pc Ls St) := by
  subst hp hv; exact Go.via (fun t k => XS.iconst X.here B.x rfl (hb B.b hd) k) K
theorem own_bipush (B : Fix p s m meth c Z a0 own bytes ml rt) (X : Stand p l e R s m args below meth c T locs cells slots) {i : Int} {v : Int32} (hd : decode bytes pc = .ok (.bipush i, 2)) (hp : pc + 2 = pc') (hv : (Int8.ofInt i).toInt32 = v) (K : Go p e below P T (mkF m pc' Ls (.int v :: St))) : Go p e below P T (mkF m pc Ls St) := by
  subst hp hv; exact Go.via (fun t k => XS.bipush X.here B.x rfl (hb B.b hd) k) K
theorem own_sipush (B : Fix p s m meth c Z a0 own bytes ml rt) (X : Stand p l e R s m args below meth c T locs cells slots) {i : Int} {v : Int32} (hd : decode bytes pc = .ok (.sipush i, 3)) (hp : pc + 3 = pc') (hv : (Int16.ofInt i).toInt32 = v) (K : Go p e below P T (mkF m pc' Ls (.int v :: St))) : Go p e below P T (mkF m pc Ls St) := by
  subst hp hv; exact Go.via (fun t k => XS.sipush X.here B.x rfl (hb B.b hd) k) K
theorem own_ldc (B : Fix p s m meth c Z a0 own bytes ml rt) (X : Stand p l e R s m args below meth c T locs cells slots) {index : Nat} {v : Int32} (hd : decode bytes pc = .ok (.ldc index, 2)) (hp : pc + 2 = pc') (w : (Jvm.Cond.constant own index v).before a0 Z = true) (K : Go p e below P T (mkF m pc' Ls (.int v :: St))) : Go p e below P T (mkF m pc Ls St) := by
  subst hp; exact Go.via (fun t k => X.ldcInt B.x B.ow (mvT B.z w) (g := mkF m pc Ls St) rfl (hb B.b hd) _ k) K
theorem own_ldcw (B : Fix p s m meth c Z a0 own bytes ml rt) (X : Stand p l e R s m args below meth c T locs cells slots) {index : Nat} {v : Int32} (hd : decode bytes pc = .ok (.ldc_w index, 3)) (hp : pc + 3 = pc') (w : (Jvm.Cond.constant own index v).before a0 Z = true) (K : Go p e below P T (mkF m pc' Ls (.int v :: St))) : Go p e below P T (mkF m pc Ls St) := by
  subst hp; exact Go.via (fun t k => X.ldcwInt B.x B.ow (mvT B.z w) (g := mkF m pc Ls St) rfl (hb B.b hd) _ k) K
theorem own_aconstNull (B : Fix p s m meth c Z a0 own bytes ml rt) (X : Stand p l e R s m args below meth c T locs cells slots) (hd : decode bytes pc = .ok (.aconst_null, 1)) (hp : pc + 1 = pc') (K : Go p e below P T (mkF m pc' Ls (.null :: St))) : Go p e below P T (mkF m pc Ls St) := by
  subst hp; exact Go.via (fun t k => XS.aconstNull X.here B.x rfl (hb B.b hd) k) K
theorem own_iadd (B : Fix p s m meth c Z a0 own bytes ml rt) (X : Stand p l e R s m args below meth c T locs cells slots) {x y v : Int32} (hd : decode bytes pc = .ok (.iadd, 1)) (hp : pc + 1 = pc') (hv : x + y = v) (K : Go p e below P T (mkF m pc' Ls (.int v :: St))) : Go p e below P T (mkF m pc Ls (.int y :: .int x :: St)) := by
  subst hp hv; exact Go.via (fun t k => XS.iadd X.here B.x rfl (hb B.b hd) rfl k) K
theorem own_isub (B : Fix p s m meth c Z a0 own bytes ml rt) (X : Stand p l e R s m args below meth c T locs cells slots) {x y v : Int32} (hd : decode bytes pc = .ok (.isub, 1)) (hp : pc + 1 = pc') (hv : x - y = v) (K : Go p e below P T (mkF m pc' Ls (.int v :: St))) : Go p e below P T (mkF m pc Ls (.int y :: .int x :: St)) := by
  subst hp hv; exact Go.via (fun t k => XS.isub X.here B.x rfl (hb B.b hd) rfl k) K
theorem own_imul (B : Fix p s m meth c Z a0 own bytes ml rt) (X : Stand p l e R s m args below meth c T locs cells slots) {x y v : Int32} (hd : decode bytes pc = .ok (.imul, 1)) (hp : pc + 1 = pc') (hv : x * y = v) (K : Go p e below P T (mkF m pc' Ls (.int v :: St))) : Go p e below P T (mkF m pc Ls (.int y :: .int x :: St)) := by
  subst hp hv; exact Go.via (fun t k => XS.imul X.here B.x rfl (hb B.b hd) rfl k) K
theorem own_iand (B : Fix p s m meth c Z a0 own bytes ml rt) (X : Stand p l e R s m args below meth c T locs cells slots) {x y v : Int32} (hd : decode bytes pc = .ok (.iand, 1)) (hp : pc + 1 = pc') (hv : x &&& y = v) (K : Go p e below P T (mkF m pc' Ls (.int v :: St))) : Go p e below P T (mkF m pc Ls (.int y :: .int x :: St)) := by
  subst hp hv; exact Go.via (fun t k => XS.iand X.here B.x rfl (hb B.b hd) rfl k) K
theorem own_ior (B : Fix p s m meth c Z a0 own bytes ml rt) (X : Stand p l e R s m args below meth c T locs cells slots) {x y v : Int32} (hd : decode bytes pc = .ok (.ior, 1)) (hp : pc + 1 = pc') (hv : x ||| y = v) (K : Go p e below P T (mkF m pc' Ls (.int v :: St))) : Go p e below P T (mkF m pc Ls (.int y :: .int x :: St)) := by
  subst hp hv; exact Go.via (fun t k => XS.ior X.here B.x rfl (hb B.b hd) rfl k) K
theorem own_ixor (B : Fix p s m meth c Z a0 own bytes ml rt) (X : Stand p l e R s m args below meth c T locs cells slots) {x y v : Int32} (hd : decode bytes pc = .ok (.ixor, 1)) (hp : pc + 1 = pc') (hv : x ^^^ y = v) (K : Go p e below P T (mkF m pc' Ls (.int v :: St))) : Go p e below P T (mkF m pc Ls (.int y :: .int x :: St)) := by
  subst hp hv; exact Go.via (fun t k => XS.ixor X.here B.x rfl (hb B.b hd) rfl k) K
theorem own_ishl (B : Fix p s m meth c Z a0 own bytes ml rt) (X : Stand p l e R s m args below meth c T locs cells slots) {x y v : Int32} (hd : decode bytes pc = .ok (.ishl, 1)) (hp : pc + 1 = pc') (hv : x <<< (y &&& 31) = v) (K : Go p e below P T (mkF m pc' Ls (.int v :: St))) : Go p e below P T (mkF m pc Ls (.int y :: .int x :: St)) := by
  subst hp hv; exact Go.via (fun t k => XS.ishl X.here B.x rfl (hb B.b hd) rfl k) K
theorem own_iushr (B : Fix p s m meth c Z a0 own bytes ml rt) (X : Stand p l e R s m args below meth c T locs cells slots) {x y v : Int32} (hd : decode bytes pc = .ok (.iushr, 1)) (hp : pc + 1 = pc') (hv : (x.toUInt32 >>> (y &&& 31).toUInt32).toInt32 = v) (K : Go p e below P T (mkF m pc' Ls (.int v :: St))) : Go p e below P T (mkF m pc Ls (.int y :: .int x :: St)) := by
  subst hp hv; exact Go.via (fun t k => XS.iushr X.here B.x rfl (hb B.b hd) rfl k) K
theorem own_irem (B : Fix p s m meth c Z a0 own bytes ml rt) (X : Stand p l e R s m args below meth c T locs cells slots) {x y v : Int32} (hd : decode bytes pc = .ok (.irem, 1)) (hp : pc + 1 = pc') (hy : y ≠ 0) (hv : x % y = v) (K : Go p e below P T (mkF m pc' Ls (.int v :: St))) : Go p e below P T (mkF m pc Ls (.int y :: .int x :: St)) := by
  subst hp hv; exact Go.via (fun t k => iremM X B.x rfl (hb B.b hd) rfl hy k) K
theorem own_dup (B : Fix p s m meth c Z a0 own bytes ml rt) (X : Stand p l e R s m args below meth c T locs cells slots) {v : Value} (hd : decode bytes pc = .ok (.dup, 1)) (hp : pc + 1 = pc') (hv : v.category = 1) (K : Go p e below P T (mkF m pc' Ls (v :: v :: St))) : Go p e below P T (mkF m pc Ls (v :: St)) := by
  subst hp; exact Go.via (fun t k => XS.dup X.here B.x rfl (hb B.b hd) rfl hv k) K
theorem own_dupX1 (B : Fix p s m meth c Z a0 own bytes ml rt) (X : Stand p l e R s m args below meth c T locs cells slots) {v w : Value} (hd : decode bytes pc = .ok (.dup_x1, 1)) (hp : pc + 1 = pc') (hv : v.category = 1) (hw : w.category = 1) (K : Go p e below P T (mkF m pc' Ls (v :: w :: v :: St))) : Go p e below P T (mkF m pc Ls (v :: w :: St)) := by
  subst hp; exact Go.via (fun t k => XS.dupX1 X.here B.x rfl (hb B.b hd) rfl hv hw k) K
theorem own_pop (B : Fix p s m meth c Z a0 own bytes ml rt) (X : Stand p l e R s m args below meth c T locs cells slots) {v : Value} (hd : decode bytes pc = .ok (.pop, 1)) (hp : pc + 1 = pc') (hv : v.category = 1) (K : Go p e below P T (mkF m pc' Ls St)) : Go p e below P T (mkF m pc Ls (v :: St)) := by
  subst hp; exact Go.via (fun t k => XS.pop X.here B.x rfl (hb B.b hd) rfl hv k) K
theorem own_istoreN (B : Fix p s m meth c Z a0 own bytes ml rt) (X : Stand p l e R s m args below meth c T locs cells slots) {k : Fin 4} {x : Int32} (hd : decode bytes pc = .ok (.istore_n k, 1)) (hp : pc + 1 = pc') (l' : Array Slot) (hl : storeLocals Ls k.val (.int x) = some l') (K : Go p e below P T (mkF m pc' l' St)) : Go p e below P T (mkF m pc Ls (.int x :: St)) := by
  subst hp; exact Go.via (fun t k => XS.istoreN X.here B.x rfl (hb B.b hd) rfl hl k) K
theorem own_istore (B : Fix p s m meth c Z a0 own bytes ml rt) (X : Stand p l e R s m args below meth c T locs cells slots) {k : Nat} {x : Int32} (hd : decode bytes pc = .ok (.istore k, 2)) (hp : pc + 2 = pc') (l' : Array Slot) (hl : storeLocals Ls k (.int x) = some l') (K : Go p e below P T (mkF m pc' l' St)) : Go p e below P T (mkF m pc Ls (.int x :: St)) := by
  subst hp; exact Go.via (fun t k => XS.istore X.here B.x rfl (hb B.b hd) rfl hl k) K
theorem own_astoreN (B : Fix p s m meth c Z a0 own bytes ml rt) (X : Stand p l e R s m args below meth c T locs cells slots) {k : Fin 4} {x : Value} (hd : decode bytes pc = .ok (.astore_n k, 1)) (hp : pc + 1 = pc') (hv : x.isRef = true) (l' : Array Slot) (hl : storeLocals Ls k.val x = some l') (K : Go p e below P T (mkF m pc' l' St)) : Go p e below P T (mkF m pc Ls (x :: St)) := by
  subst hp; exact Go.via (fun t k => XS.astoreN X.here B.x rfl (hb B.b hd) rfl hv hl k) K
theorem own_astore (B : Fix p s m meth c Z a0 own bytes ml rt) (X : Stand p l e R s m args below meth c T locs cells slots) {k : Nat} {x : Value} (hd : decode bytes pc = .ok (.astore k, 2)) (hp : pc + 2 = pc') (hv : x.isRef = true) (l' : Array Slot) (hl : storeLocals Ls k x = some l') (K : Go p e below P T (mkF m pc' l' St)) : Go p e below P T (mkF m pc Ls (x :: St)) := by
  subst hp; exact Go.via (fun t k => XS.astore X.here B.x rfl (hb B.b hd) rfl hv hl k) K
theorem own_goto (B : Fix p s m meth c Z a0 own bytes ml rt) (X : Stand p l e R s m args below meth c T locs cells slots) {o : Int} (hd : decode bytes pc = .ok (.goto o, 3)) (ho : 0 ≤ (pc : Int) + o) (hp : ((pc : Int) + o).toNat = pc') (K : Go p e below P T (mkF m pc' Ls St)) : Go p e below P T (mkF m pc Ls St) :=
  Go.via (fun t k => XS.goto X.here B.x rfl rfl (hb B.b hd) ho hp k) K
theorem own_ifYes (B : Fix p s m meth c Z a0 own bytes ml rt) (X : Stand p l e R s m args below meth c T locs cells slots) {cd : ClassFile.Cond} {x : Int32} {o : Int} (hd : decode bytes pc = .ok (.ifCond cd o, 3)) (hc : if_icmp.holds cd x 0 = true) (ho : 0 ≤ (pc : Int) + o) (hp : ((pc : Int) + o).toNat = pc') (K : Go p e below P T (mkF m pc' Ls St)) : Go p e below P T (mkF m pc Ls (.int x :: St)) :=
  Go.via (fun t k => XS.ifYes X.here B.x rfl rfl (hb B.b hd) rfl ((if0 _ _).trans hc) ho hp k) K
theorem own_ifNo (B : Fix p s m meth c Z a0 own bytes ml rt) (X : Stand p l e R s m args below meth c T locs cells slots) {cd : ClassFile.Cond} {x : Int32} {o : Int} (hd : decode bytes pc = .ok (.ifCond cd o, 3)) (hc : if_icmp.holds cd x 0 = false) (hp : pc + 3 = pc') (K : Go p e below P T (mkF m pc' Ls St)) : Go p e below P T (mkF m pc Ls (.int x :: St)) := by
  subst hp; exact Go.via (fun t k => XS.ifNo X.here B.x rfl (hb B.b hd) rfl ((if0 _ _).trans hc) k) K
theorem own_icmpYes (B : Fix p s m meth c Z a0 own bytes ml rt) (X : Stand p l e R s m args below meth c T locs cells slots) {cd : ClassFile.Cond} {x y : Int32} {o : Int} (hd : decode bytes pc = .ok (.if_icmp cd o, 3)) (hc : if_icmp.holds cd x y = true) (ho : 0 ≤ (pc : Int) + o) (hp : ((pc : Int) + o).toNat = pc') (K : Go p e below P T (mkF m pc' Ls St)) : Go p e below P T (mkF m pc Ls (.int y :: .int x :: St)) :=
  Go.via (fun t k => XS.icmpYes X.here B.x rfl rfl (hb B.b hd) rfl hc ho hp k) K
theorem own_icmpNo (B : Fix p s m meth c Z a0 own bytes ml rt) (X : Stand p l e R s m args below meth c T locs cells slots) {cd : ClassFile.Cond} {x y : Int32} {o : Int} (hd : decode bytes pc = .ok (.if_icmp cd o, 3)) (hc : if_icmp.holds cd x y = false) (hp : pc + 3 = pc') (K : Go p e below P T (mkF m pc' Ls St)) : Go p e below P T (mkF m pc Ls (.int y :: .int x :: St)) := by
  subst hp; exact Go.via (fun t k => XS.icmpNo X.here B.x rfl (hb B.b hd) rfl hc k) K
theorem own_ifnonnullYes (B : Fix p s m meth c Z a0 own bytes ml rt) (X : Stand p l e R s m args below meth c T locs cells slots) {a : Addr} {o : Int} (hd : decode bytes pc = .ok (.ifnonnull o, 3)) (ho : 0 ≤ (pc : Int) + o) (hp : ((pc : Int) + o).toNat = pc') (K : Go p e below P T (mkF m pc' Ls St)) : Go p e below P T (mkF m pc Ls (.ref a :: St)) :=
  Go.via (fun t k => XS.ifnonnullYes X.here B.x rfl rfl (hb B.b hd) rfl ho hp k) K
theorem own_ifnonnullNo (B : Fix p s m meth c Z a0 own bytes ml rt) (X : Stand p l e R s m args below meth c T locs cells slots) {o : Int} (hd : decode bytes pc = .ok (.ifnonnull o, 3)) (hp : pc + 3 = pc') (K : Go p e below P T (mkF m pc' Ls St)) : Go p e below P T (mkF m pc Ls (.null :: St)) := by
  subst hp; exact Go.via (fun t k => XS.ifnonnullNo X.here B.x rfl (hb B.b hd) rfl k) K
theorem own_acmp (B : Fix p s m meth c Z a0 own bytes ml rt) (X : Stand p l e R s m args below meth c T locs cells slots) {cd : ACond} {x y : Value} {o : Int} (same : Bool) (hd : decode bytes pc = .ok (.if_acmp cd o, 3)) (h1 : x.isRef = true) (h2 : y.isRef = true) (hq : decide (x = y) = same) (ho : 0 ≤ (pc : Int) + o) (hp : pc' = if acV cd same = true then ((pc : Int) + o).toNat else pc + 3) (K : Go p e below P T (mkF m pc' Ls St)) : Go p e below P T (mkF m pc Ls (y :: x :: St)) :=
  Go.via (fun t k => Jvm.RoadKit.acmp (g := mkF m pc Ls (y :: x :: St)) X B.x rfl h1 h2 rfl (hb B.b hd) rfl hq ho hp k) K
theorem own_getS (B : Fix p s m meth c Z a0 own bytes ml rt) (X : Stand p l e R s m args below meth c T locs cells slots) {R0 n d : String} {index : Nat} {v : Value} (eT : T.heap = h) (F : Sta Z h R0 n d v) (hd : decode bytes pc = .ok (.getstatic index, 3)) (hp : pc + 3 = pc') (w : (Jvm.Cond.fieldLink own index R0 n d).before a0 Z = true)
    (K : ∀ T', Stand p l e R s m args below meth c T' locs cells slots → T'.heap = h → Go p e below P T' (mkF m pc' Ls (v :: St))) : Go p e below P T (mkF m pc Ls St) := by
  subst hp
  obtain ⟨T', X', e', st⟩ := getS2 X B.x B.z B.ow (host := "") (Or.inl w) Via.refl eT F (g := mkF m pc Ls St) rfl (hb B.b hd)
  exact Go.via st (K T' X' e')
theorem own_getF (B : Fix p s m meth c Z a0 own bytes ml rt) (X : Stand p l e R s m args below meth c T locs cells slots) {O n d : String} {index : Nat} {a : Addr} {v : Value} (eT : T.heap = h) (F : Fld Z h a O n d v) (hd : decode bytes pc = .ok (.getfield index, 3)) (hp : pc + 3 = pc') (w : (Jvm.Cond.fieldLink own index O n d).before a0 Z = true)
    (K : ∀ T', Stand p l e R s m args below meth c T' locs cells slots → T'.heap = h → Go p e below P T' (mkF m pc' Ls (v :: St))) : Go p e below P T (mkF m pc Ls (.ref a :: St)) := by
  subst hp
  obtain ⟨T', X', e', st⟩ := getF X B.x B.z B.ow (host := "") (Or.inl w) Via.refl eT F (g := mkF m pc Ls (.ref a :: St)) rfl rfl (hb B.b hd)
  exact Go.via st (K T' X' e')
end OwnSteps
section OwnEnds
variable {t : FieldType} {pc : Nat} {Ls : Array Slot} {rest : List Value} {Q : Option Value → Heap → List Loc → Prop} {ck sk : Nat}
theorem own_retRef (B : Fix p s m meth c Z a0 own bytes ml (some t)) (X : Stand p l e R s m args below meth c T locs cells slots) {w : Value} (hd : decode bytes pc = .ok (.areturn, 1)) (hn : narrow t w = w) (ht : t.isReference = true) (hw : w.isRef = true) (hQ : Q (some w) T.heap locs) (h1 : cells ≤ ck) (h2 : slots ≤ sk) : Go p e below (Fini s below Q ck sk) T (mkF m pc Ls (w :: rest)) := by
  obtain ⟨fs, hr, hrun, hended, hW, hsame⟩ := X.leave (v := some w) (fun h => by rw [B.ret] at h; cases h) B.lk
  exact ⟨_, _, retOut X B.x B.ret hn (Or.inr (Or.inr (Or.inr (Or.inr ⟨rfl, ht, hw⟩)))) (hb B.b hd) hr, hrun, hended, _, _, rfl, hQ, ⟨_, rfl⟩, hW, hsame.mono h1 h2⟩
theorem own_retInt (B : Fix p s m meth c Z a0 own bytes ml (some t)) (X : Stand p l e R s m args below meth c T locs cells slots) {z : Int32} (hd : decode bytes pc = .ok (.ireturn, 1)) (hn : narrow t (.int z) = .int z) (ht : t = .int ∨ t = .boolean ∨ t = .byte ∨ t = .char ∨ t = .short) (hQ : Q (some (.int z)) T.heap locs) (h1 : cells ≤ ck) (h2 : slots ≤ sk) : Go p e below (Fini s below Q ck sk) T (mkF m pc Ls (.int z :: rest)) := by
  obtain ⟨fs, hr, hrun, hended, hW, hsame⟩ := X.leave (v := some (.int z)) (fun h => by rw [B.ret] at h; cases h) B.lk
  exact ⟨_, _, retOut X B.x B.ret hn (Or.inl ⟨rfl, ht, _, rfl⟩) (hb B.b hd) hr, hrun, hended, _, _, rfl, hQ, ⟨_, rfl⟩, hW, hsame.mono h1 h2⟩
end OwnEnds
section OwnCalls
variable {pc pc' : Nat} {Ls : Array Slot} {St : List Value}
/-- a static method by its contract -/
theorem own_callS (B : Fix p s m meth c Z a0 own bytes ml rt) (X : Stand p l e R s m args below meth c T locs cells slots) {y : MethodName} {by' : ByteArray} {ml' index W : Nat} {rt' : Option FieldType} {rm : Room} {as' : Array Value} {Q : Option Value → Heap → List Loc → Prop} (hM : Con l Z y by' ml' rt' [] rm as' h Q) (eT : T.heap = h)
    (hd : decode bytes pc = .ok (.invokestatic index, 3)) (hp : pc + 3 = pc') (w1 : (Jvm.Cond.methodLink own index y).before a0 Z = true) (w2 : (Jvm.Cond.static y).before a0 Z = true) (w3 : (Jvm.Cond.initialized y.cls).before a0 Z = true) (w4 : (Jvm.Cond.code y by' ml' rt').before a0 Z = true)
    (hy : y.cls ≠ "java/lang/invoke/MethodHandle" ∧ y.cls ≠ "java/lang/invoke/VarHandle") (hf : rm.frames + 1 ≤ R.frames) (hl : W + (ml' + 11) + rm.locals ≤ R.locals) (hsz : Ls.size = ml) (argsL rest : List Value) {ps : List FieldType} {r : Option FieldType} (hds : parseMethodDescriptor y.desc = some ⟨ps, r⟩) (hlen : argsL.length = ps.length) (has : argsL.toArray = as') (hst : St = argsL.reverse ++ rest) (hW : (rest.map fun v => v.category).sum ≤ W)
    (hc : cells + rm.cells ≤ R.cells) (hs : slots + rm.slots ≤ R.slots)
    (K : ∀ T' v L, Stand p l e R s m args below meth c T' (locs ++ L) (cells + rm.cells) (slots + rm.slots) → Q v T'.heap L → Go p e below P T' (mkF m pc' Ls (v.toList ++ rest))) : Go p e below P T (mkF m pc Ls St) := by
  subst hp has hst
  obtain ⟨v, _, ⟨T', L', k', n'⟩, -, X', ⟨Lc, hQ, q1, q2, q3⟩, st⟩ := Jvm.LawKit.callS X B.x (y := y) B.ow (mvT B.z w1) (mvT B.z w2) (mvT B.z w3) (mvT B.z w4) hy (backOf (W := W) hM B.z w4 w3 hf hl) (g := mkF m pc Ls (argsL.reverse ++ rest)) rfl (by rw [B.mx]; exact hsz) (argsL := argsL) (rest := rest) (lenOf hds hlen) rfl (by show 2 * 0 + _ ≤ _; omega) (hb B.b hd) (fun _ _ => ⟨rfl, eT, hc, hs⟩)
  dsimp only [Pt.U, Pt.locs, Pt.cells, Pt.slots] at X' q1 q2 q3 st hQ
  subst q1 q2 q3
  exact Go.via st (K T' v Lc X' hQ)
/-- an instance method by the contract of the body that the receiver's class selects -/
theorem own_callV (B : Fix p s m meth c Z a0 own bytes ml rt) (X : Stand p l e R s m args below meth c T locs cells slots) {y z : MethodName} {C : String} {by' : ByteArray} {ml' index W : Nat} {rt' : Option FieldType} {rm : Room} {as' : Array Value} {a : Addr} {Q : Option Value → Heap → List Loc → Prop} (hM : Con l Z z by' ml' rt' [] rm as' h Q) (eT : T.heap = h) (E : Exa Z h a C) (hnf : NotFace s y)
    (hd : decode bytes pc = .ok (.invokevirtual index, 3)) (hp : pc + 3 = pc') (w1 : (Jvm.Cond.methodLink own index y).before a0 Z = true) (w2 : (Jvm.Cond.declares y).before a0 Z = true) (w3 : (Jvm.Cond.selects C y z).before a0 Z = true) (w4 : (Jvm.Cond.instanceMethod z).before a0 Z = true) (w5 : (Jvm.Cond.initialized z.cls).before a0 Z = true) (w6 : (Jvm.Cond.code z by' ml' rt').before a0 Z = true)
    (hy : y.cls ≠ "java/lang/invoke/MethodHandle" ∧ y.cls ≠ "java/lang/invoke/VarHandle") (hf : rm.frames + 1 ≤ R.frames) (hl : W + (ml' + 11) + rm.locals ≤ R.locals) (hsz : Ls.size = ml) (argsL rest : List Value) {ps : List FieldType} {r : Option FieldType} (hds : parseMethodDescriptor y.desc = some ⟨ps, r⟩) (hlen : argsL.length = ps.length) (has : (Value.ref a :: argsL).toArray = as') (hst : St = argsL.reverse ++ .ref a :: rest) (hW : (rest.map fun v => v.category).sum ≤ W)
    (hc : cells + rm.cells ≤ R.cells) (hs : slots + rm.slots ≤ R.slots)
    (K : ∀ T' v L, Stand p l e R s m args below meth c T' (locs ++ L) (cells + rm.cells) (slots + rm.slots) → Q v T'.heap L → Go p e below P T' (mkF m pc' Ls (v.toList ++ rest))) : Go p e below P T (mkF m pc Ls St) := by
  subst hp has hst
  obtain ⟨cB, kB, q1, q2, q3⟩ := isOf (T := T) B.z eT E
  obtain ⟨v, _, ⟨T', L', k', n'⟩, -, X', ⟨Lc, hQ, q4, q5, q6⟩, st⟩ := X.virtualBack B.x (y := y) (z := z) B.ow (mvT B.z w1) (mvT B.z w2) hnf (mvT B.z w3) (mvT B.z w4) hy (backOf (W := W) hM B.z w6 w5 hf hl) q1 q3 (g := mkF m pc Ls (argsL.reverse ++ .ref a :: rest)) rfl (by rw [B.mx]; exact hsz) (Steps.refl _) (argsL := argsL) (rest := rest) (lenOf hds hlen) rfl (by show 2 * 0 + _ ≤ _; omega) (hb B.b hd) (fun _ _ => ⟨rfl, eT, hc, hs⟩)
  dsimp only [Pt.U, Pt.locs, Pt.cells, Pt.slots] at X' q4 q5 q6 st hQ
  subst q4 q5 q6
  exact Go.via (fun t k => st.trans k) (K T' v Lc X' hQ)
theorem own_nf (B : Fix p s m meth c Z a0 own bytes ml rt) {y z : MethodName} {C : String} (w3 : (Jvm.Cond.selects C y z).before a0 Z = true) (hq : y = z := by rfl) : NotFace s z := by
  subst hq; exact notFace_of_selects (args := #[]) (mvT B.z w3)
end OwnCalls
end OwnLayer

/-! OWN LAYER 2: a field's word as a fact. -/
section OwnWords
variable {args : Array Value} {s : State} {t u : Jvm.Term} {C n d : String} {k : Int32} {x y : Addr}
theorem own_fldI (ht : t.eval args s none [] s = some (.ref x)) (h : (Jvm.Cond.eq (.field t C n d) (.int k)).value args s none s [] = some true) : Fld s s.heap x C n d (.int k) := by
  refine Fld.start ?_
  rw [← fld_at (C := C) (n := n) (dd := d) ht]
  cases hv : (Jvm.Term.field t C n d).eval args s none [] s with
  | none => simp [Cond.value, hv] at h
  | some v => cases v <;> simp_all [Cond.value, Term.eval]
theorem own_fldN (ht : t.eval args s none [] s = some (.ref x)) (h : (Jvm.Cond.eq (.field t C n d) .null).value args s none s [] = some true) : Fld s s.heap x C n d .null := by
  refine Fld.start ?_
  rw [← fld_at (C := C) (n := n) (dd := d) ht]
  exact null_v h
theorem own_fldR (ht : t.eval args s none [] s = some (.ref x)) (hu : u.eval args s none [] s = some (.ref y)) (h : (Jvm.Cond.eq (.field t C n d) u).value args s none s [] = some true) : Fld s s.heap x C n d (.ref y) := by
  refine Fld.start ?_
  rw [← fld_at (C := C) (n := n) (dd := d) ht]
  cases hv : (Jvm.Term.field t C n d).eval args s none [] s with
  | none => simp [Cond.value, hv] at h
  | some v => cases v <;> simp_all [Cond.value]
end OwnWords

theorem own_rem7 (x : Int32) : (x &&& (2147483647 : Int32)) % (7 : Int32) = (0 : Int32) ∨ (x &&& (2147483647 : Int32)) % (7 : Int32) = (1 : Int32) ∨ (x &&& (2147483647 : Int32)) % (7 : Int32) = (2 : Int32) ∨ (x &&& (2147483647 : Int32)) % (7 : Int32) = (3 : Int32) ∨ (x &&& (2147483647 : Int32)) % (7 : Int32) = (4 : Int32) ∨ (x &&& (2147483647 : Int32)) % (7 : Int32) = (5 : Int32) ∨ (x &&& (2147483647 : Int32)) % (7 : Int32) = (6 : Int32) := by
  have e1 : (x &&& (2147483647 : Int32)).toInt = x.toInt % 2 ^ 31 := Jvm.Kit.i32_mask x (2147483647 : Int32) (k := 31) (by decide) (by decide)
  have e2 : ((x &&& (2147483647 : Int32)) % (7 : Int32)).toInt = (x &&& (2147483647 : Int32)).toInt.tmod 7 := Int32.toInt_mod _ _
  rw [Int.tmod_eq_emod_of_nonneg (by omega)] at e2
  have : ((x &&& (2147483647 : Int32)) % (7 : Int32)).toInt = 0 ∨ ((x &&& (2147483647 : Int32)) % (7 : Int32)).toInt = 1 ∨ ((x &&& (2147483647 : Int32)) % (7 : Int32)).toInt = 2 ∨ ((x &&& (2147483647 : Int32)) % (7 : Int32)).toInt = 3 ∨ ((x &&& (2147483647 : Int32)) % (7 : Int32)).toInt = 4 ∨ ((x &&& (2147483647 : Int32)) % (7 : Int32)).toInt = 5 ∨ ((x &&& (2147483647 : Int32)) % (7 : Int32)).toInt = 6 := by omega
  simp only [← Int32.toInt_inj]
  exact this
def own_dK : String := match narrow_1 with | .and (.exactly (.static _ _ d) _) _ => d | _ => ""
def Facts (Z : State) (h : Heap) (w0 w1 w2 w3 w4 w5 w6 : Addr) : Prop := Sta Z h site_50.cls "APPENDIX" own_dK (.ref w0) ∧ Exa Z h w0 site_50.cls ∧ Sta Z h site_50.cls "ANNEX" own_dK (.ref w1) ∧ Exa Z h w1 site_50.cls ∧ Sta Z h site_50.cls "EXHIBIT" own_dK (.ref w2) ∧ Exa Z h w2 site_50.cls ∧ Sta Z h site_50.cls "ARTICLE" own_dK (.ref w3) ∧ Exa Z h w3 site_50.cls ∧ Sta Z h site_50.cls "SCHEDULE" own_dK (.ref w4) ∧ Exa Z h w4 site_50.cls ∧ Sta Z h site_50.cls "ITEM" own_dK (.ref w5) ∧ Exa Z h w5 site_50.cls ∧ Sta Z h site_50.cls "SECTION" own_dK (.ref w6) ∧ Exa Z h w6 site_50.cls ∧ Fld Z h w0 site_50.cls "rank" "I" (.int (0 : Int32)) ∧ Fld Z h w1 site_50.cls "rank" "I" (.int (0 : Int32)) ∧ Fld Z h w2 site_50.cls "rank" "I" (.int (0 : Int32)) ∧ Fld Z h w3 site_50.cls "rank" "I" (.int (1 : Int32)) ∧ Fld Z h w4 site_50.cls "rank" "I" (.int (0 : Int32)) ∧ Fld Z h w5 site_50.cls "rank" "I" (.int (1 : Int32)) ∧ Fld Z h w6 site_50.cls "rank" "I" (.int (2 : Int32)) ∧ w0 ≠ w3 ∧ w0 ≠ w5 ∧ w0 ≠ w6 ∧ w1 ≠ w3 ∧ w1 ≠ w5 ∧ w1 ≠ w6 ∧ w2 ≠ w3 ∧ w2 ≠ w5 ∧ w2 ≠ w6 ∧ w3 ≠ w4 ∧ w3 ≠ w6 ∧ w4 ≠ w5 ∧ w4 ≠ w6 ∧ w5 ≠ w6
def Q0 (n0 : Nat) (v : Option Value) (h : Heap) (L : List Loc) : Prop := v = some (.int 1) ∧ Fr n0 L
theorem pnL : plainName x.cls = true := by first | (simp [plainName, overriddenIn, x]; done) | decide +kernel
theorem d1_0 : decode method_2_code 0 = .ok (.iload_n 0, 1) := by decide +kernel
theorem d1_1 : decode method_2_code 1 = .ok (.ifCond .ne 7, 3) := by decide +kernel
theorem d1_4 : decode method_2_code 4 = .ok (.getstatic 7, 3) := by decide +kernel
theorem d1_7 : decode method_2_code 7 = .ok (.areturn, 1) := by decide +kernel
theorem d1_8 : decode method_2_code 8 = .ok (.iload_n 0, 1) := by decide +kernel
theorem d1_9 : decode method_2_code 9 = .ok (.iconst 1, 1) := by decide +kernel
theorem d1_10 : decode method_2_code 10 = .ok (.if_icmp .ne 7, 3) := by decide +kernel
theorem d1_13 : decode method_2_code 13 = .ok (.getstatic 13, 3) := by decide +kernel
theorem d1_16 : decode method_2_code 16 = .ok (.areturn, 1) := by decide +kernel
theorem d1_17 : decode method_2_code 17 = .ok (.iload_n 0, 1) := by decide +kernel
theorem d1_18 : decode method_2_code 18 = .ok (.iconst 2, 1) := by decide +kernel
theorem d1_19 : decode method_2_code 19 = .ok (.if_icmp .ne 7, 3) := by decide +kernel
theorem d1_22 : decode method_2_code 22 = .ok (.getstatic 16, 3) := by decide +kernel
theorem d1_25 : decode method_2_code 25 = .ok (.areturn, 1) := by decide +kernel
theorem d1_26 : decode method_2_code 26 = .ok (.iload_n 0, 1) := by decide +kernel
theorem d1_27 : decode method_2_code 27 = .ok (.iconst 3, 1) := by decide +kernel
theorem d1_28 : decode method_2_code 28 = .ok (.if_icmp .ne 7, 3) := by decide +kernel
theorem d1_31 : decode method_2_code 31 = .ok (.getstatic 19, 3) := by decide +kernel
theorem d1_34 : decode method_2_code 34 = .ok (.areturn, 1) := by decide +kernel
theorem d1_35 : decode method_2_code 35 = .ok (.iload_n 0, 1) := by decide +kernel
theorem d1_36 : decode method_2_code 36 = .ok (.iconst 4, 1) := by decide +kernel
theorem d1_37 : decode method_2_code 37 = .ok (.if_icmp .ne 7, 3) := by decide +kernel
theorem d1_40 : decode method_2_code 40 = .ok (.getstatic 22, 3) := by decide +kernel
theorem d1_43 : decode method_2_code 43 = .ok (.areturn, 1) := by decide +kernel
theorem d1_44 : decode method_2_code 44 = .ok (.iload_n 0, 1) := by decide +kernel
theorem d1_45 : decode method_2_code 45 = .ok (.iconst 5, 1) := by decide +kernel
theorem d1_46 : decode method_2_code 46 = .ok (.if_icmp .ne 7, 3) := by decide +kernel
theorem d1_49 : decode method_2_code 49 = .ok (.getstatic 25, 3) := by decide +kernel
theorem d1_52 : decode method_2_code 52 = .ok (.areturn, 1) := by decide +kernel
theorem d1_53 : decode method_2_code 53 = .ok (.getstatic 28, 3) := by decide +kernel
theorem d1_56 : decode method_2_code 56 = .ok (.areturn, 1) := by decide +kernel
theorem ef1 (m : MethodId) (x0 : Int32) : entryFrame m #[(.int x0)] 1 = mkF m 0 #[.val (.int x0)] [] := by first | (simp [entryFrame, mkF, argsToLocals, Value.category]; done) | rfl
theorem pn1 : plainName x.cls = true := by first | (simp [plainName, overriddenIn]; done) | decide +kernel
def f1 (w0 w1 w2 w3 w4 w5 w6 : Addr) (p0 : Int32) : Addr := (if p0 = (0 : Int32) then w0 else (if p0 = (1 : Int32) then w2 else (if p0 = (2 : Int32) then w4 else (if p0 = (3 : Int32) then w1 else (if p0 = (4 : Int32) then w5 else (if p0 = (5 : Int32) then w3 else w6))))))
set_option maxRecDepth 65536 in
set_option maxHeartbeats 4000000 in
theorem c1 (l : Launch) (Z : State) (a0 : Array Value) (hw : ∀ d ∈ tables_1, d.before a0 Z = true) (w0 w1 w2 w3 w4 w5 w6 : Addr) (h0 : Heap) (F : Facts Z h0 w0 w1 w2 w3 w4 w5 w6) (p0 : Int32) (r : Addr) (hv : f1 w0 w1 w2 w3 w4 w5 w6 p0 = r) :
    Con l Z (⟨x.cls, "kind", method_2.desc⟩ : MethodName) method_2_code 1 (some (.object site_50.cls)) [] ({ frames := 0, cells := 0, slots := 0, locals := 0 } : Room) #[(.int p0)] h0 (Pq (some (.ref r)) h0) := by
  refine own_body (plainFor_of_name pn1) hw ?_
  intro p e s m below meth c T0 B X0 e0 hnm
  subst hv
  refine Go.cast (ef1 m p0) ?_
  refine own_iloadN B X0 d1_0 rfl rfl ?_
  by_cases q0 : p0 = (0 : Int32)
  · refine own_ifNo B X0 d1_1 (teq q0).2 rfl ?_
    refine own_getS B X0 e0 F.1 d1_4 rfl (B.w 5 rfl) ?_
    intro T1 X1 e1
    exact own_retRef B X1 d1_7 rfl rfl rfl ⟨by unfold f1; rw [if_pos q0], rfl, e1⟩ (Nat.le_refl _) (Nat.le_refl _)
  · refine own_ifYes B X0 d1_1 (feq q0).2 (by decide) (pc' := 8) rfl ?_
    refine own_iloadN B X0 d1_8 rfl rfl ?_
    refine own_iconst B X0 d1_9 rfl (v := (1 : Int32)) rfl ?_
    by_cases q1 : p0 = (1 : Int32)
    · refine own_icmpNo B X0 d1_10 (teq q1).2 rfl ?_
      refine own_getS B X0 e0 F.2.2.2.2.1 d1_13 rfl (B.w 20 rfl) ?_
      intro T2 X2 e2
      exact own_retRef B X2 d1_16 rfl rfl rfl ⟨by unfold f1; rw [if_neg q0, if_pos q1], rfl, e2⟩ (Nat.le_refl _) (Nat.le_refl _)
    · refine own_icmpYes B X0 d1_10 (feq q1).2 (by decide) (pc' := 17) rfl ?_
      refine own_iloadN B X0 d1_17 rfl rfl ?_
      refine own_iconst B X0 d1_18 rfl (v := (2 : Int32)) rfl ?_
      by_cases q2 : p0 = (2 : Int32)
      · refine own_icmpNo B X0 d1_19 (teq q2).2 rfl ?_
        refine own_getS B X0 e0 F.2.2.2.2.2.2.2.2.1 d1_22 rfl (B.w 24 rfl) ?_
        intro T3 X3 e3
        exact own_retRef B X3 d1_25 rfl rfl rfl ⟨by unfold f1; rw [if_neg q0, if_neg q1, if_pos q2], rfl, e3⟩ (Nat.le_refl _) (Nat.le_refl _)
      · refine own_icmpYes B X0 d1_19 (feq q2).2 (by decide) (pc' := 26) rfl ?_
        refine own_iloadN B X0 d1_26 rfl rfl ?_
        refine own_iconst B X0 d1_27 rfl (v := (3 : Int32)) rfl ?_
        by_cases q3 : p0 = (3 : Int32)
        · refine own_icmpNo B X0 d1_28 (teq q3).2 rfl ?_
          refine own_getS B X0 e0 F.2.2.1 d1_31 rfl (B.w 8 rfl) ?_
          intro T4 X4 e4
          exact own_retRef B X4 d1_34 rfl rfl rfl ⟨by unfold f1; rw [if_neg q0, if_neg q1, if_neg q2, if_pos q3], rfl, e4⟩ (Nat.le_refl _) (Nat.le_refl _)
        · refine own_icmpYes B X0 d1_28 (feq q3).2 (by decide) (pc' := 35) rfl ?_
          refine own_iloadN B X0 d1_35 rfl rfl ?_
          refine own_iconst B X0 d1_36 rfl (v := (4 : Int32)) rfl ?_
          by_cases q4 : p0 = (4 : Int32)
          · refine own_icmpNo B X0 d1_37 (teq q4).2 rfl ?_
            refine own_getS B X0 e0 F.2.2.2.2.2.2.2.2.2.2.1 d1_40 rfl (B.w 26 rfl) ?_
            intro T5 X5 e5
            exact own_retRef B X5 d1_43 rfl rfl rfl ⟨by unfold f1; rw [if_neg q0, if_neg q1, if_neg q2, if_neg q3, if_pos q4], rfl, e5⟩ (Nat.le_refl _) (Nat.le_refl _)
          · refine own_icmpYes B X0 d1_37 (feq q4).2 (by decide) (pc' := 44) rfl ?_
            refine own_iloadN B X0 d1_44 rfl rfl ?_
            refine own_iconst B X0 d1_45 rfl (v := (5 : Int32)) rfl ?_
            by_cases q5 : p0 = (5 : Int32)
            · refine own_icmpNo B X0 d1_46 (teq q5).2 rfl ?_
              refine own_getS B X0 e0 F.2.2.2.2.2.2.1 d1_49 rfl (B.w 22 rfl) ?_
              intro T6 X6 e6
              exact own_retRef B X6 d1_52 rfl rfl rfl ⟨by unfold f1; rw [if_neg q0, if_neg q1, if_neg q2, if_neg q3, if_neg q4, if_pos q5], rfl, e6⟩ (Nat.le_refl _) (Nat.le_refl _)
            · refine own_icmpYes B X0 d1_46 (feq q5).2 (by decide) (pc' := 53) rfl ?_
              refine own_getS B X0 e0 F.2.2.2.2.2.2.2.2.2.2.2.2.1 d1_53 rfl (B.w 28 rfl) ?_
              intro T7 X7 e7
              exact own_retRef B X7 d1_56 rfl rfl rfl ⟨by unfold f1; rw [if_neg q0, if_neg q1, if_neg q2, if_neg q3, if_neg q4, if_neg q5], rfl, e7⟩ (Nat.le_refl _) (Nat.le_refl _)
theorem d2_0 : decode method_3_code 0 = .ok (.iload_n 0, 1) := by decide +kernel
theorem d2_1 : decode method_3_code 1 = .ok (.iconst 4, 1) := by decide +kernel
theorem d2_2 : decode method_3_code 2 = .ok (.if_icmp .ge 5, 3) := by decide +kernel
theorem d2_5 : decode method_3_code 5 = .ok (.iconst 0, 1) := by decide +kernel
theorem d2_6 : decode method_3_code 6 = .ok (.ireturn, 1) := by decide +kernel
theorem d2_7 : decode method_3_code 7 = .ok (.iload_n 0, 1) := by decide +kernel
theorem d2_8 : decode method_3_code 8 = .ok (.bipush 6, 2) := by decide +kernel
theorem d2_10 : decode method_3_code 10 = .ok (.if_icmp .ge 5, 3) := by decide +kernel
theorem d2_13 : decode method_3_code 13 = .ok (.iconst 1, 1) := by decide +kernel
theorem d2_14 : decode method_3_code 14 = .ok (.ireturn, 1) := by decide +kernel
theorem d2_15 : decode method_3_code 15 = .ok (.iconst 2, 1) := by decide +kernel
theorem d2_16 : decode method_3_code 16 = .ok (.ireturn, 1) := by decide +kernel
theorem ef2 (m : MethodId) (x0 : Int32) : entryFrame m #[(.int x0)] 1 = mkF m 0 #[.val (.int x0)] [] := by first | (simp [entryFrame, mkF, argsToLocals, Value.category]; done) | rfl
def f2 (w0 w1 w2 w3 w4 w5 w6 : Addr) (p0 : Int32) : Int32 := (if p0 < (4 : Int32) then (0 : Int32) else (if p0 < (6 : Int32) then (1 : Int32) else (2 : Int32)))
set_option maxRecDepth 65536 in
set_option maxHeartbeats 4000000 in
theorem c2 (l : Launch) (Z : State) (a0 : Array Value) (hw : ∀ d ∈ tables_1, d.before a0 Z = true) (w0 w1 w2 w3 w4 w5 w6 : Addr) (h0 : Heap) (F : Facts Z h0 w0 w1 w2 w3 w4 w5 w6) (p0 : Int32) (r : Int32) (hv : f2 w0 w1 w2 w3 w4 w5 w6 p0 = r) :
    Con l Z (⟨x.cls, "size", "(I)I"⟩ : MethodName) method_3_code 1 (some .int) [] ({ frames := 0, cells := 0, slots := 0, locals := 0 } : Room) #[(.int p0)] h0 (Pq (some (.int r)) h0) := by
  refine own_body (plainFor_of_name pn1) hw ?_
  intro p e s m below meth c T0 B X0 e0 hnm
  subst hv
  refine Go.cast (ef2 m p0) ?_
  refine own_iloadN B X0 d2_0 rfl rfl ?_
  refine own_iconst B X0 d2_1 rfl (v := (4 : Int32)) rfl ?_
  by_cases q0 : p0 < (4 : Int32)
  · refine own_icmpNo B X0 d2_2 (tlt q0).2.1 rfl ?_
    refine own_iconst B X0 d2_5 rfl (v := (0 : Int32)) rfl ?_
    exact own_retInt B X0 d2_6 rfl (Or.inl rfl) ⟨by unfold f2; rw [if_pos q0], rfl, e0⟩ (by decide) (by decide)
  · refine own_icmpYes B X0 d2_2 (flt q0).2.1 (by decide) (pc' := 7) rfl ?_
    refine own_iloadN B X0 d2_7 rfl rfl ?_
    refine own_bipush B X0 d2_8 rfl (v := (6 : Int32)) rfl ?_
    by_cases q1 : p0 < (6 : Int32)
    · refine own_icmpNo B X0 d2_10 (tlt q1).2.1 rfl ?_
      refine own_iconst B X0 d2_13 rfl (v := (1 : Int32)) rfl ?_
      exact own_retInt B X0 d2_14 rfl (Or.inl rfl) ⟨by unfold f2; rw [if_neg q0, if_pos q1], rfl, e0⟩ (by decide) (by decide)
    · refine own_icmpYes B X0 d2_10 (flt q1).2.1 (by decide) (pc' := 15) rfl ?_
      refine own_iconst B X0 d2_15 rfl (v := (2 : Int32)) rfl ?_
      exact own_retInt B X0 d2_16 rfl (Or.inl rfl) ⟨by unfold f2; rw [if_neg q0, if_neg q1], rfl, e0⟩ (by decide) (by decide)
theorem d3_0 : decode prog_30_method_8_code 0 = .ok (.aload_n 0, 1) := by decide +kernel
theorem d3_1 : decode prog_30_method_8_code 1 = .ok (.getfield 44, 3) := by decide +kernel
theorem d3_4 : decode prog_30_method_8_code 4 = .ok (.aload_n 1, 1) := by decide +kernel
theorem d3_5 : decode prog_30_method_8_code 5 = .ok (.getfield 44, 3) := by decide +kernel
theorem d3_8 : decode prog_30_method_8_code 8 = .ok (.if_icmp .ge 7, 3) := by decide +kernel
theorem d3_11 : decode prog_30_method_8_code 11 = .ok (.iconst 1, 1) := by decide +kernel
theorem d3_12 : decode prog_30_method_8_code 12 = .ok (.goto 4, 3) := by decide +kernel
theorem d3_16 : decode prog_30_method_8_code 16 = .ok (.ireturn, 1) := by decide +kernel
theorem d3_15 : decode prog_30_method_8_code 15 = .ok (.iconst 0, 1) := by decide +kernel
theorem ef3 (m : MethodId) (x0 : Addr) (x1 : Addr) : entryFrame m #[(.ref x0), (.ref x1)] 2 = mkF m 0 #[.val (.ref x0), .val (.ref x1)] [] := by first | (simp [entryFrame, mkF, argsToLocals, Value.category]; done) | rfl
theorem pn3 : plainName site_50.cls = true := by first | (simp [plainName, overriddenIn]; done) | decide +kernel
def f3 (w0 w1 w2 w3 w4 w5 w6 : Addr) (o0 : Addr) (o1 : Addr) (u_rank_o0 : Int32) (u_rank_o1 : Int32) : Int32 := (if u_rank_o0 < u_rank_o1 then (1 : Int32) else (0 : Int32))
set_option maxRecDepth 65536 in
set_option maxHeartbeats 4000000 in
theorem c3 (l : Launch) (Z : State) (a0 : Array Value) (hw : ∀ d ∈ tables_1, d.before a0 Z = true) (w0 w1 w2 w3 w4 w5 w6 : Addr) (h0 : Heap) (F : Facts Z h0 w0 w1 w2 w3 w4 w5 w6) (o0 : Addr) (o1 : Addr) (u_rank_o0 : Int32) (u_rank_o1 : Int32) (H_rank_o0 : Fld Z h0 o0 site_50.cls "rank" "I" (.int u_rank_o0)) (H_rank_o1 : Fld Z h0 o1 site_50.cls "rank" "I" (.int u_rank_o1)) (r : Int32) (hv : f3 w0 w1 w2 w3 w4 w5 w6 o0 o1 u_rank_o0 u_rank_o1 = r) :
    Con l Z (⟨site_50.cls, "holds", site_50.desc⟩ : MethodName) prog_30_method_8_code 2 (some .boolean) [] ({ frames := 0, cells := 0, slots := 0, locals := 0 } : Room) #[(.ref o0), (.ref o1)] h0 (Pq (some (.int r)) h0) := by
  refine own_body (plainFor_of_name pn3) hw ?_
  intro p e s m below meth c T0 B X0 e0 hnm
  subst hv
  refine Go.cast (ef3 m o0 o1) ?_
  refine own_aloadN B X0 d3_0 rfl rfl rfl ?_
  refine own_getF B X0 e0 H_rank_o0 d3_1 rfl (B.w 18 rfl) ?_
  intro T1 X1 e1
  refine own_aloadN B X1 d3_4 rfl rfl rfl ?_
  refine own_getF B X1 e1 H_rank_o1 d3_5 rfl (B.w 18 rfl) ?_
  intro T2 X2 e2
  by_cases q0 : u_rank_o0 < u_rank_o1
  · refine own_icmpNo B X2 d3_8 (tlt q0).2.1 rfl ?_
    refine own_iconst B X2 d3_11 rfl (v := (1 : Int32)) rfl ?_
    refine own_goto B X2 d3_12 (by decide) (pc' := 16) rfl ?_
    exact own_retInt B X2 d3_16 rfl (Or.inr (Or.inl rfl)) ⟨by unfold f3; rw [if_pos q0], rfl, e2⟩ (by decide) (by decide)
  · refine own_icmpYes B X2 d3_8 (flt q0).2.1 (by decide) (pc' := 15) rfl ?_
    refine own_iconst B X2 d3_15 rfl (v := (0 : Int32)) rfl ?_
    exact own_retInt B X2 d3_16 rfl (Or.inr (Or.inl rfl)) ⟨by unfold f3; rw [if_neg q0], rfl, e2⟩ (by decide) (by decide)
theorem pd0 : parseMethodDescriptor method_2.desc = some ⟨[.int], some (.object site_50.cls)⟩ := by decide +kernel
theorem pd1 : parseMethodDescriptor "(I)I" = some ⟨[.int], some .int⟩ := by decide +kernel
theorem pd2 : parseMethodDescriptor site_50.desc = some ⟨[(.object site_50.cls)], some .boolean⟩ := by decide +kernel
theorem ef0 (m : MethodId) (x0 : Int32) (x1 : Int32) : entryFrame m #[(.int x0), (.int x1)] maxLocals = mkF m 0 #[.val (.int x0), .val (.int x1), .unset, .unset, .unset, .unset, .unset] [] := by first | (simp [entryFrame, mkF, argsToLocals, Value.category, maxLocals]; done) | rfl
set_option maxRecDepth 65536 in
set_option maxHeartbeats 4000000 in
theorem law_0_0 (l : Launch) (Z : State) (a0 : Array Value) (hw : ∀ d ∈ tables_1, d.before a0 Z = true) (w0 w1 w2 w3 w4 w5 w6 : Addr) (h0 : Heap) (F : Facts Z h0 w0 w1 w2 w3 w4 w5 w6) (i0 i1 : Int32) (n0 : Nat) (Z0 : n0 ≤ h0.size) (q0 : ((i0 &&& (2147483647 : Int32)) % (7 : Int32)) = (0 : Int32)) (q1 : ((i1 &&& (2147483647 : Int32)) % (7 : Int32)) = (0 : Int32)) :
    Con l Z x code maxLocals ret tables_1 room_1 #[(.int i0), (.int i1)] h0 (Q0 n0) := by
  refine own_body (plainFor_of_name pnL) hw ?_
  intro p e s m below meth c T0 B X0 e0 hnm
  refine Go.cast (ef0 m i0 i1) ?_
  refine own_iloadN B X0 at_0 rfl rfl ?_
  refine own_ldc B X0 at_1 rfl (v := (2147483647 : Int32)) (B.w 0 rfl) ?_
  refine own_iand B X0 at_3 rfl (v := (i0 &&& (2147483647 : Int32))) rfl ?_
  refine own_bipush B X0 at_4 rfl (v := (7 : Int32)) rfl ?_
  refine own_irem B X0 at_6 rfl (by decide) (v := (0 : Int32)) q0 ?_
  refine own_istoreN B X0 at_7 rfl #[.val (.int i0), .val (.int i1), .val (.int (0 : Int32)), .unset, .unset, .unset, .unset] rfl ?_
  refine own_iloadN B X0 at_8 rfl rfl ?_
  refine own_ldc B X0 at_9 rfl (v := (2147483647 : Int32)) (B.w 0 rfl) ?_
  refine own_iand B X0 at_11 rfl (v := (i1 &&& (2147483647 : Int32))) rfl ?_
  refine own_bipush B X0 at_12 rfl (v := (7 : Int32)) rfl ?_
  refine own_irem B X0 at_14 rfl (by decide) (v := (0 : Int32)) q1 ?_
  refine own_istoreN B X0 at_15 rfl #[.val (.int i0), .val (.int i1), .val (.int (0 : Int32)), .val (.int (0 : Int32)), .unset, .unset, .unset] rfl ?_
  refine own_iloadN B X0 at_16 rfl rfl ?_
  refine own_callS B X0 (c1 l Z a0 hw w0 w1 w2 w3 w4 w5 w6 h0 F (0 : Int32)  w0 (by simp +decide [f1])) e0 at_17 rfl (B.w 1 rfl) (B.w 2 rfl) (B.w 3 rfl) (B.w 4 rfl) (by decide) (W := 0) (by decide) (by decide) rfl [(.int (0 : Int32))] [] pd0 rfl rfl rfl (Nat.le_refl _) (by decide) (by decide) ?_
  rintro T1 _ _ X1 ⟨rfl, rfl, e1⟩
  show Go p e below _ T1 (mkF m 20 _ [(.ref w0)])
  refine own_astore B X1 at_20 rfl rfl #[.val (.int i0), .val (.int i1), .val (.int (0 : Int32)), .val (.int (0 : Int32)), .val (.ref w0), .unset, .unset] rfl ?_
  refine own_iloadN B X1 at_22 rfl rfl ?_
  refine own_callS B X1 (c1 l Z a0 hw w0 w1 w2 w3 w4 w5 w6 h0 F (0 : Int32)  w0 (by simp +decide [f1])) e1 at_23 rfl (B.w 1 rfl) (B.w 2 rfl) (B.w 3 rfl) (B.w 4 rfl) (by decide) (W := 0) (by decide) (by decide) rfl [(.int (0 : Int32))] [] pd0 rfl rfl rfl (Nat.le_refl _) (by decide) (by decide) ?_
  rintro T2 _ _ X2 ⟨rfl, rfl, e2⟩
  show Go p e below _ T2 (mkF m 26 _ [(.ref w0)])
  refine own_astore B X2 at_26 rfl rfl #[.val (.int i0), .val (.int i1), .val (.int (0 : Int32)), .val (.int (0 : Int32)), .val (.ref w0), .val (.ref w0), .unset] rfl ?_
  refine own_iloadN B X2 at_28 rfl rfl ?_
  refine own_callS B X2 (c2 l Z a0 hw w0 w1 w2 w3 w4 w5 w6 h0 F (0 : Int32)  (0 : Int32) (by simp +decide [f2])) e2 at_29 rfl (B.w 10 rfl) (B.w 11 rfl) (B.w 3 rfl) (B.w 12 rfl) (by decide) (W := 0) (by decide) (by decide) rfl [(.int (0 : Int32))] [] pd1 rfl rfl rfl (Nat.le_refl _) (by decide) (by decide) ?_
  rintro T3 _ _ X3 ⟨rfl, rfl, e3⟩
  show Go p e below _ T3 (mkF m 32 _ [(.int (0 : Int32))])
  refine own_iloadN B X3 at_32 rfl rfl ?_
  refine own_callS B X3 (c2 l Z a0 hw w0 w1 w2 w3 w4 w5 w6 h0 F (0 : Int32)  (0 : Int32) (by simp +decide [f2])) e3 at_33 rfl (B.w 10 rfl) (B.w 11 rfl) (B.w 3 rfl) (B.w 12 rfl) (by decide) (W := 1) (by decide) (by decide) rfl [(.int (0 : Int32))] [(.int (0 : Int32))] pd1 rfl rfl rfl (Nat.le_refl _) (by decide) (by decide) ?_
  rintro T4 _ _ X4 ⟨rfl, rfl, e4⟩
  show Go p e below _ T4 (mkF m 36 _ [(.int (0 : Int32)), (.int (0 : Int32))])
  refine own_icmpYes B X4 at_36 (flt (by decide : ¬ ((0 : Int32) < (0 : Int32)))).2.1 (by decide) (pc' := 43) rfl ?_
  refine own_iconst B X4 at_43 rfl (v := (0 : Int32)) rfl ?_
  refine own_istore B X4 at_44 rfl #[.val (.int i0), .val (.int i1), .val (.int (0 : Int32)), .val (.int (0 : Int32)), .val (.ref w0), .val (.ref w0), .val (.int (0 : Int32))] rfl ?_
  refine own_aload B X4 at_46 rfl rfl rfl ?_
  refine own_aload B X4 at_48 rfl rfl rfl ?_
  refine own_callV B X4 (c3 l Z a0 hw w0 w1 w2 w3 w4 w5 w6 h0 F w0 w0 (0 : Int32) (0 : Int32) F.2.2.2.2.2.2.2.2.2.2.2.2.2.2.1 F.2.2.2.2.2.2.2.2.2.2.2.2.2.2.1 (0 : Int32) (by simp +decide [f3])) e4 F.2.1 (own_nf B (B.w 16 rfl)) at_50 rfl (B.w 13 rfl) (B.w 14 rfl) (B.w 16 rfl) (B.w 15 rfl) (B.w 6 rfl) (B.w 17 rfl) (by decide) (W := 0) (by decide) (by decide) rfl [(.ref w0)] [] pd2 rfl rfl rfl (Nat.le_refl _) (by decide) (by decide) ?_
  rintro T5 _ _ X5 ⟨rfl, rfl, e5⟩
  show Go p e below _ T5 (mkF m 53 _ [(.int (0 : Int32))])
  refine own_iload B X5 at_53 rfl rfl ?_
  refine own_icmpNo B X5 at_55 (teq (rfl : (0 : Int32) = (0 : Int32))).2 rfl ?_
  refine own_iconst B X5 at_58 rfl (v := (1 : Int32)) rfl ?_
  refine own_goto B X5 at_59 (by decide) (pc' := 63) rfl ?_
  exact own_retInt B X5 at_63 rfl (Or.inr (Or.inl rfl)) ⟨rfl, (Fr.app (Fr.app (Fr.app (Fr.app (Fr.app (Fr.nil n0) (Fr.nil _)) (Fr.nil _)) (Fr.nil _)) (Fr.nil _)) (Fr.nil _))⟩ (by decide) (by decide)
set_option maxRecDepth 65536 in
set_option maxHeartbeats 4000000 in
theorem law_0_1 (l : Launch) (Z : State) (a0 : Array Value) (hw : ∀ d ∈ tables_1, d.before a0 Z = true) (w0 w1 w2 w3 w4 w5 w6 : Addr) (h0 : Heap) (F : Facts Z h0 w0 w1 w2 w3 w4 w5 w6) (i0 i1 : Int32) (n0 : Nat) (Z0 : n0 ≤ h0.size) (q0 : ((i0 &&& (2147483647 : Int32)) % (7 : Int32)) = (0 : Int32)) (q1 : ((i1 &&& (2147483647 : Int32)) % (7 : Int32)) = (1 : Int32)) :
    Con l Z x code maxLocals ret tables_1 room_1 #[(.int i0), (.int i1)] h0 (Q0 n0) := by
  refine own_body (plainFor_of_name pnL) hw ?_
  intro p e s m below meth c T0 B X0 e0 hnm
  refine Go.cast (ef0 m i0 i1) ?_
  refine own_iloadN B X0 at_0 rfl rfl ?_
  refine own_ldc B X0 at_1 rfl (v := (2147483647 : Int32)) (B.w 0 rfl) ?_
  refine own_iand B X0 at_3 rfl (v := (i0 &&& (2147483647 : Int32))) rfl ?_
  refine own_bipush B X0 at_4 rfl (v := (7 : Int32)) rfl ?_
  refine own_irem B X0 at_6 rfl (by decide) (v := (0 : Int32)) q0 ?_
  refine own_istoreN B X0 at_7 rfl #[.val (.int i0), .val (.int i1), .val (.int (0 : Int32)), .unset, .unset, .unset, .unset] rfl ?_
  refine own_iloadN B X0 at_8 rfl rfl ?_
  refine own_ldc B X0 at_9 rfl (v := (2147483647 : Int32)) (B.w 0 rfl) ?_
  refine own_iand B X0 at_11 rfl (v := (i1 &&& (2147483647 : Int32))) rfl ?_
  refine own_bipush B X0 at_12 rfl (v := (7 : Int32)) rfl ?_
  refine own_irem B X0 at_14 rfl (by decide) (v := (1 : Int32)) q1 ?_
  refine own_istoreN B X0 at_15 rfl #[.val (.int i0), .val (.int i1), .val (.int (0 : Int32)), .val (.int (1 : Int32)), .unset, .unset, .unset] rfl ?_
  refine own_iloadN B X0 at_16 rfl rfl ?_
  refine own_callS B X0 (c1 l Z a0 hw w0 w1 w2 w3 w4 w5 w6 h0 F (0 : Int32)  w0 (by simp +decide [f1])) e0 at_17 rfl (B.w 1 rfl) (B.w 2 rfl) (B.w 3 rfl) (B.w 4 rfl) (by decide) (W := 0) (by decide) (by decide) rfl [(.int (0 : Int32))] [] pd0 rfl rfl rfl (Nat.le_refl _) (by decide) (by decide) ?_
  rintro T1 _ _ X1 ⟨rfl, rfl, e1⟩
  show Go p e below _ T1 (mkF m 20 _ [(.ref w0)])
  refine own_astore B X1 at_20 rfl rfl #[.val (.int i0), .val (.int i1), .val (.int (0 : Int32)), .val (.int (1 : Int32)), .val (.ref w0), .unset, .unset] rfl ?_
  refine own_iloadN B X1 at_22 rfl rfl ?_
  refine own_callS B X1 (c1 l Z a0 hw w0 w1 w2 w3 w4 w5 w6 h0 F (1 : Int32)  w2 (by simp +decide [f1])) e1 at_23 rfl (B.w 1 rfl) (B.w 2 rfl) (B.w 3 rfl) (B.w 4 rfl) (by decide) (W := 0) (by decide) (by decide) rfl [(.int (1 : Int32))] [] pd0 rfl rfl rfl (Nat.le_refl _) (by decide) (by decide) ?_
  rintro T2 _ _ X2 ⟨rfl, rfl, e2⟩
  show Go p e below _ T2 (mkF m 26 _ [(.ref w2)])
  refine own_astore B X2 at_26 rfl rfl #[.val (.int i0), .val (.int i1), .val (.int (0 : Int32)), .val (.int (1 : Int32)), .val (.ref w0), .val (.ref w2), .unset] rfl ?_
  refine own_iloadN B X2 at_28 rfl rfl ?_
  refine own_callS B X2 (c2 l Z a0 hw w0 w1 w2 w3 w4 w5 w6 h0 F (0 : Int32)  (0 : Int32) (by simp +decide [f2])) e2 at_29 rfl (B.w 10 rfl) (B.w 11 rfl) (B.w 3 rfl) (B.w 12 rfl) (by decide) (W := 0) (by decide) (by decide) rfl [(.int (0 : Int32))] [] pd1 rfl rfl rfl (Nat.le_refl _) (by decide) (by decide) ?_
  rintro T3 _ _ X3 ⟨rfl, rfl, e3⟩
  show Go p e below _ T3 (mkF m 32 _ [(.int (0 : Int32))])
  refine own_iloadN B X3 at_32 rfl rfl ?_
  refine own_callS B X3 (c2 l Z a0 hw w0 w1 w2 w3 w4 w5 w6 h0 F (1 : Int32)  (0 : Int32) (by simp +decide [f2])) e3 at_33 rfl (B.w 10 rfl) (B.w 11 rfl) (B.w 3 rfl) (B.w 12 rfl) (by decide) (W := 1) (by decide) (by decide) rfl [(.int (1 : Int32))] [(.int (0 : Int32))] pd1 rfl rfl rfl (Nat.le_refl _) (by decide) (by decide) ?_
  rintro T4 _ _ X4 ⟨rfl, rfl, e4⟩
  show Go p e below _ T4 (mkF m 36 _ [(.int (0 : Int32)), (.int (0 : Int32))])
  refine own_icmpYes B X4 at_36 (flt (by decide : ¬ ((0 : Int32) < (0 : Int32)))).2.1 (by decide) (pc' := 43) rfl ?_
  refine own_iconst B X4 at_43 rfl (v := (0 : Int32)) rfl ?_
  refine own_istore B X4 at_44 rfl #[.val (.int i0), .val (.int i1), .val (.int (0 : Int32)), .val (.int (1 : Int32)), .val (.ref w0), .val (.ref w2), .val (.int (0 : Int32))] rfl ?_
  refine own_aload B X4 at_46 rfl rfl rfl ?_
  refine own_aload B X4 at_48 rfl rfl rfl ?_
  refine own_callV B X4 (c3 l Z a0 hw w0 w1 w2 w3 w4 w5 w6 h0 F w0 w2 (0 : Int32) (0 : Int32) F.2.2.2.2.2.2.2.2.2.2.2.2.2.2.1 F.2.2.2.2.2.2.2.2.2.2.2.2.2.2.2.2.1 (0 : Int32) (by simp +decide [f3])) e4 F.2.1 (own_nf B (B.w 16 rfl)) at_50 rfl (B.w 13 rfl) (B.w 14 rfl) (B.w 16 rfl) (B.w 15 rfl) (B.w 6 rfl) (B.w 17 rfl) (by decide) (W := 0) (by decide) (by decide) rfl [(.ref w2)] [] pd2 rfl rfl rfl (Nat.le_refl _) (by decide) (by decide) ?_
  rintro T5 _ _ X5 ⟨rfl, rfl, e5⟩
  show Go p e below _ T5 (mkF m 53 _ [(.int (0 : Int32))])
  refine own_iload B X5 at_53 rfl rfl ?_
  refine own_icmpNo B X5 at_55 (teq (rfl : (0 : Int32) = (0 : Int32))).2 rfl ?_
  refine own_iconst B X5 at_58 rfl (v := (1 : Int32)) rfl ?_
  refine own_goto B X5 at_59 (by decide) (pc' := 63) rfl ?_
  exact own_retInt B X5 at_63 rfl (Or.inr (Or.inl rfl)) ⟨rfl, (Fr.app (Fr.app (Fr.app (Fr.app (Fr.app (Fr.nil n0) (Fr.nil _)) (Fr.nil _)) (Fr.nil _)) (Fr.nil _)) (Fr.nil _))⟩ (by decide) (by decide)
set_option maxRecDepth 65536 in
set_option maxHeartbeats 4000000 in
theorem law_0_2 (l : Launch) (Z : State) (a0 : Array Value) (hw : ∀ d ∈ tables_1, d.before a0 Z = true) (w0 w1 w2 w3 w4 w5 w6 : Addr) (h0 : Heap) (F : Facts Z h0 w0 w1 w2 w3 w4 w5 w6) (i0 i1 : Int32) (n0 : Nat) (Z0 : n0 ≤ h0.size) (q0 : ((i0 &&& (2147483647 : Int32)) % (7 : Int32)) = (0 : Int32)) (q1 : ((i1 &&& (2147483647 : Int32)) % (7 : Int32)) = (2 : Int32)) :
    Con l Z x code maxLocals ret tables_1 room_1 #[(.int i0), (.int i1)] h0 (Q0 n0) := by
  refine own_body (plainFor_of_name pnL) hw ?_
  intro p e s m below meth c T0 B X0 e0 hnm
  refine Go.cast (ef0 m i0 i1) ?_
  refine own_iloadN B X0 at_0 rfl rfl ?_
  refine own_ldc B X0 at_1 rfl (v := (2147483647 : Int32)) (B.w 0 rfl) ?_
  refine own_iand B X0 at_3 rfl (v := (i0 &&& (2147483647 : Int32))) rfl ?_
  refine own_bipush B X0 at_4 rfl (v := (7 : Int32)) rfl ?_
  refine own_irem B X0 at_6 rfl (by decide) (v := (0 : Int32)) q0 ?_
  refine own_istoreN B X0 at_7 rfl #[.val (.int i0), .val (.int i1), .val (.int (0 : Int32)), .unset, .unset, .unset, .unset] rfl ?_
  refine own_iloadN B X0 at_8 rfl rfl ?_
  refine own_ldc B X0 at_9 rfl (v := (2147483647 : Int32)) (B.w 0 rfl) ?_
  refine own_iand B X0 at_11 rfl (v := (i1 &&& (2147483647 : Int32))) rfl ?_
  refine own_bipush B X0 at_12 rfl (v := (7 : Int32)) rfl ?_
  refine own_irem B X0 at_14 rfl (by decide) (v := (2 : Int32)) q1 ?_
  refine own_istoreN B X0 at_15 rfl #[.val (.int i0), .val (.int i1), .val (.int (0 : Int32)), .val (.int (2 : Int32)), .unset, .unset, .unset] rfl ?_
  refine own_iloadN B X0 at_16 rfl rfl ?_
  refine own_callS B X0 (c1 l Z a0 hw w0 w1 w2 w3 w4 w5 w6 h0 F (0 : Int32)  w0 (by simp +decide [f1])) e0 at_17 rfl (B.w 1 rfl) (B.w 2 rfl) (B.w 3 rfl) (B.w 4 rfl) (by decide) (W := 0) (by decide) (by decide) rfl [(.int (0 : Int32))] [] pd0 rfl rfl rfl (Nat.le_refl _) (by decide) (by decide) ?_
  rintro T1 _ _ X1 ⟨rfl, rfl, e1⟩
  show Go p e below _ T1 (mkF m 20 _ [(.ref w0)])
  refine own_astore B X1 at_20 rfl rfl #[.val (.int i0), .val (.int i1), .val (.int (0 : Int32)), .val (.int (2 : Int32)), .val (.ref w0), .unset, .unset] rfl ?_
  refine own_iloadN B X1 at_22 rfl rfl ?_
  refine own_callS B X1 (c1 l Z a0 hw w0 w1 w2 w3 w4 w5 w6 h0 F (2 : Int32)  w4 (by simp +decide [f1])) e1 at_23 rfl (B.w 1 rfl) (B.w 2 rfl) (B.w 3 rfl) (B.w 4 rfl) (by decide) (W := 0) (by decide) (by decide) rfl [(.int (2 : Int32))] [] pd0 rfl rfl rfl (Nat.le_refl _) (by decide) (by decide) ?_
  rintro T2 _ _ X2 ⟨rfl, rfl, e2⟩
  show Go p e below _ T2 (mkF m 26 _ [(.ref w4)])
  refine own_astore B X2 at_26 rfl rfl #[.val (.int i0), .val (.int i1), .val (.int (0 : Int32)), .val (.int (2 : Int32)), .val (.ref w0), .val (.ref w4), .unset] rfl ?_
  refine own_iloadN B X2 at_28 rfl rfl ?_
  refine own_callS B X2 (c2 l Z a0 hw w0 w1 w2 w3 w4 w5 w6 h0 F (0 : Int32)  (0 : Int32) (by simp +decide [f2])) e2 at_29 rfl (B.w 10 rfl) (B.w 11 rfl) (B.w 3 rfl) (B.w 12 rfl) (by decide) (W := 0) (by decide) (by decide) rfl [(.int (0 : Int32))] [] pd1 rfl rfl rfl (Nat.le_refl _) (by decide) (by decide) ?_
  rintro T3 _ _ X3 ⟨rfl, rfl, e3⟩
  show Go p e below _ T3 (mkF m 32 _ [(.int (0 : Int32))])
  refine own_iloadN B X3 at_32 rfl rfl ?_
  refine own_callS B X3 (c2 l Z a0 hw w0 w1 w2 w3 w4 w5 w6 h0 F (2 : Int32)  (0 : Int32) (by simp +decide [f2])) e3 at_33 rfl (B.w 10 rfl) (B.w 11 rfl) (B.w 3 rfl) (B.w 12 rfl) (by decide) (W := 1) (by decide) (by decide) rfl [(.int (2 : Int32))] [(.int (0 : Int32))] pd1 rfl rfl rfl (Nat.le_refl _) (by decide) (by decide) ?_
  rintro T4 _ _ X4 ⟨rfl, rfl, e4⟩
  show Go p e below _ T4 (mkF m 36 _ [(.int (0 : Int32)), (.int (0 : Int32))])
  refine own_icmpYes B X4 at_36 (flt (by decide : ¬ ((0 : Int32) < (0 : Int32)))).2.1 (by decide) (pc' := 43) rfl ?_
  refine own_iconst B X4 at_43 rfl (v := (0 : Int32)) rfl ?_
  refine own_istore B X4 at_44 rfl #[.val (.int i0), .val (.int i1), .val (.int (0 : Int32)), .val (.int (2 : Int32)), .val (.ref w0), .val (.ref w4), .val (.int (0 : Int32))] rfl ?_
  refine own_aload B X4 at_46 rfl rfl rfl ?_
  refine own_aload B X4 at_48 rfl rfl rfl ?_
  refine own_callV B X4 (c3 l Z a0 hw w0 w1 w2 w3 w4 w5 w6 h0 F w0 w4 (0 : Int32) (0 : Int32) F.2.2.2.2.2.2.2.2.2.2.2.2.2.2.1 F.2.2.2.2.2.2.2.2.2.2.2.2.2.2.2.2.2.2.1 (0 : Int32) (by simp +decide [f3])) e4 F.2.1 (own_nf B (B.w 16 rfl)) at_50 rfl (B.w 13 rfl) (B.w 14 rfl) (B.w 16 rfl) (B.w 15 rfl) (B.w 6 rfl) (B.w 17 rfl) (by decide) (W := 0) (by decide) (by decide) rfl [(.ref w4)] [] pd2 rfl rfl rfl (Nat.le_refl _) (by decide) (by decide) ?_
  rintro T5 _ _ X5 ⟨rfl, rfl, e5⟩
  show Go p e below _ T5 (mkF m 53 _ [(.int (0 : Int32))])
  refine own_iload B X5 at_53 rfl rfl ?_
  refine own_icmpNo B X5 at_55 (teq (rfl : (0 : Int32) = (0 : Int32))).2 rfl ?_
  refine own_iconst B X5 at_58 rfl (v := (1 : Int32)) rfl ?_
  refine own_goto B X5 at_59 (by decide) (pc' := 63) rfl ?_
  exact own_retInt B X5 at_63 rfl (Or.inr (Or.inl rfl)) ⟨rfl, (Fr.app (Fr.app (Fr.app (Fr.app (Fr.app (Fr.nil n0) (Fr.nil _)) (Fr.nil _)) (Fr.nil _)) (Fr.nil _)) (Fr.nil _))⟩ (by decide) (by decide)
set_option maxRecDepth 65536 in
set_option maxHeartbeats 4000000 in
theorem law_0_3 (l : Launch) (Z : State) (a0 : Array Value) (hw : ∀ d ∈ tables_1, d.before a0 Z = true) (w0 w1 w2 w3 w4 w5 w6 : Addr) (h0 : Heap) (F : Facts Z h0 w0 w1 w2 w3 w4 w5 w6) (i0 i1 : Int32) (n0 : Nat) (Z0 : n0 ≤ h0.size) (q0 : ((i0 &&& (2147483647 : Int32)) % (7 : Int32)) = (0 : Int32)) (q1 : ((i1 &&& (2147483647 : Int32)) % (7 : Int32)) = (3 : Int32)) :
    Con l Z x code maxLocals ret tables_1 room_1 #[(.int i0), (.int i1)] h0 (Q0 n0) := by
  refine own_body (plainFor_of_name pnL) hw ?_
  intro p e s m below meth c T0 B X0 e0 hnm
  refine Go.cast (ef0 m i0 i1) ?_
  refine own_iloadN B X0 at_0 rfl rfl ?_
  refine own_ldc B X0 at_1 rfl (v := (2147483647 : Int32)) (B.w 0 rfl) ?_
  refine own_iand B X0 at_3 rfl (v := (i0 &&& (2147483647 : Int32))) rfl ?_
  refine own_bipush B X0 at_4 rfl (v := (7 : Int32)) rfl ?_
  refine own_irem B X0 at_6 rfl (by decide) (v := (0 : Int32)) q0 ?_
  refine own_istoreN B X0 at_7 rfl #[.val (.int i0), .val (.int i1), .val (.int (0 : Int32)), .unset, .unset, .unset, .unset] rfl ?_
  refine own_iloadN B X0 at_8 rfl rfl ?_
  refine own_ldc B X0 at_9 rfl (v := (2147483647 : Int32)) (B.w 0 rfl) ?_
  refine own_iand B X0 at_11 rfl (v := (i1 &&& (2147483647 : Int32))) rfl ?_
  refine own_bipush B X0 at_12 rfl (v := (7 : Int32)) rfl ?_
  refine own_irem B X0 at_14 rfl (by decide) (v := (3 : Int32)) q1 ?_
  refine own_istoreN B X0 at_15 rfl #[.val (.int i0), .val (.int i1), .val (.int (0 : Int32)), .val (.int (3 : Int32)), .unset, .unset, .unset] rfl ?_
  refine own_iloadN B X0 at_16 rfl rfl ?_
  refine own_callS B X0 (c1 l Z a0 hw w0 w1 w2 w3 w4 w5 w6 h0 F (0 : Int32)  w0 (by simp +decide [f1])) e0 at_17 rfl (B.w 1 rfl) (B.w 2 rfl) (B.w 3 rfl) (B.w 4 rfl) (by decide) (W := 0) (by decide) (by decide) rfl [(.int (0 : Int32))] [] pd0 rfl rfl rfl (Nat.le_refl _) (by decide) (by decide) ?_
  rintro T1 _ _ X1 ⟨rfl, rfl, e1⟩
  show Go p e below _ T1 (mkF m 20 _ [(.ref w0)])
  refine own_astore B X1 at_20 rfl rfl #[.val (.int i0), .val (.int i1), .val (.int (0 : Int32)), .val (.int (3 : Int32)), .val (.ref w0), .unset, .unset] rfl ?_
  refine own_iloadN B X1 at_22 rfl rfl ?_
  refine own_callS B X1 (c1 l Z a0 hw w0 w1 w2 w3 w4 w5 w6 h0 F (3 : Int32)  w1 (by simp +decide [f1])) e1 at_23 rfl (B.w 1 rfl) (B.w 2 rfl) (B.w 3 rfl) (B.w 4 rfl) (by decide) (W := 0) (by decide) (by decide) rfl [(.int (3 : Int32))] [] pd0 rfl rfl rfl (Nat.le_refl _) (by decide) (by decide) ?_
  rintro T2 _ _ X2 ⟨rfl, rfl, e2⟩
  show Go p e below _ T2 (mkF m 26 _ [(.ref w1)])
  refine own_astore B X2 at_26 rfl rfl #[.val (.int i0), .val (.int i1), .val (.int (0 : Int32)), .val (.int (3 : Int32)), .val (.ref w0), .val (.ref w1), .unset] rfl ?_
  refine own_iloadN B X2 at_28 rfl rfl ?_
  refine own_callS B X2 (c2 l Z a0 hw w0 w1 w2 w3 w4 w5 w6 h0 F (0 : Int32)  (0 : Int32) (by simp +decide [f2])) e2 at_29 rfl (B.w 10 rfl) (B.w 11 rfl) (B.w 3 rfl) (B.w 12 rfl) (by decide) (W := 0) (by decide) (by decide) rfl [(.int (0 : Int32))] [] pd1 rfl rfl rfl (Nat.le_refl _) (by decide) (by decide) ?_
  rintro T3 _ _ X3 ⟨rfl, rfl, e3⟩
  show Go p e below _ T3 (mkF m 32 _ [(.int (0 : Int32))])
  refine own_iloadN B X3 at_32 rfl rfl ?_
  refine own_callS B X3 (c2 l Z a0 hw w0 w1 w2 w3 w4 w5 w6 h0 F (3 : Int32)  (0 : Int32) (by simp +decide [f2])) e3 at_33 rfl (B.w 10 rfl) (B.w 11 rfl) (B.w 3 rfl) (B.w 12 rfl) (by decide) (W := 1) (by decide) (by decide) rfl [(.int (3 : Int32))] [(.int (0 : Int32))] pd1 rfl rfl rfl (Nat.le_refl _) (by decide) (by decide) ?_
  rintro T4 _ _ X4 ⟨rfl, rfl, e4⟩
  show Go p e below _ T4 (mkF m 36 _ [(.int (0 : Int32)), (.int (0 : Int32))])
  refine own_icmpYes B X4 at_36 (flt (by decide : ¬ ((0 : Int32) < (0 : Int32)))).2.1 (by decide) (pc' := 43) rfl ?_
  refine own_iconst B X4 at_43 rfl (v := (0 : Int32)) rfl ?_
  refine own_istore B X4 at_44 rfl #[.val (.int i0), .val (.int i1), .val (.int (0 : Int32)), .val (.int (3 : Int32)), .val (.ref w0), .val (.ref w1), .val (.int (0 : Int32))] rfl ?_
  refine own_aload B X4 at_46 rfl rfl rfl ?_
  refine own_aload B X4 at_48 rfl rfl rfl ?_
  refine own_callV B X4 (c3 l Z a0 hw w0 w1 w2 w3 w4 w5 w6 h0 F w0 w1 (0 : Int32) (0 : Int32) F.2.2.2.2.2.2.2.2.2.2.2.2.2.2.1 F.2.2.2.2.2.2.2.2.2.2.2.2.2.2.2.1 (0 : Int32) (by simp +decide [f3])) e4 F.2.1 (own_nf B (B.w 16 rfl)) at_50 rfl (B.w 13 rfl) (B.w 14 rfl) (B.w 16 rfl) (B.w 15 rfl) (B.w 6 rfl) (B.w 17 rfl) (by decide) (W := 0) (by decide) (by decide) rfl [(.ref w1)] [] pd2 rfl rfl rfl (Nat.le_refl _) (by decide) (by decide) ?_
  rintro T5 _ _ X5 ⟨rfl, rfl, e5⟩
  show Go p e below _ T5 (mkF m 53 _ [(.int (0 : Int32))])
  refine own_iload B X5 at_53 rfl rfl ?_
  refine own_icmpNo B X5 at_55 (teq (rfl : (0 : Int32) = (0 : Int32))).2 rfl ?_
  refine own_iconst B X5 at_58 rfl (v := (1 : Int32)) rfl ?_
  refine own_goto B X5 at_59 (by decide) (pc' := 63) rfl ?_
  exact own_retInt B X5 at_63 rfl (Or.inr (Or.inl rfl)) ⟨rfl, (Fr.app (Fr.app (Fr.app (Fr.app (Fr.app (Fr.nil n0) (Fr.nil _)) (Fr.nil _)) (Fr.nil _)) (Fr.nil _)) (Fr.nil _))⟩ (by decide) (by decide)
set_option maxRecDepth 65536 in
set_option maxHeartbeats 4000000 in
theorem law_0_4 (l : Launch) (Z : State) (a0 : Array Value) (hw : ∀ d ∈ tables_1, d.before a0 Z = true) (w0 w1 w2 w3 w4 w5 w6 : Addr) (h0 : Heap) (F : Facts Z h0 w0 w1 w2 w3 w4 w5 w6) (i0 i1 : Int32) (n0 : Nat) (Z0 : n0 ≤ h0.size) (q0 : ((i0 &&& (2147483647 : Int32)) % (7 : Int32)) = (0 : Int32)) (q1 : ((i1 &&& (2147483647 : Int32)) % (7 : Int32)) = (4 : Int32)) :
    Con l Z x code maxLocals ret tables_1 room_1 #[(.int i0), (.int i1)] h0 (Q0 n0) := by
  refine own_body (plainFor_of_name pnL) hw ?_
  intro p e s m below meth c T0 B X0 e0 hnm
  refine Go.cast (ef0 m i0 i1) ?_
  refine own_iloadN B X0 at_0 rfl rfl ?_
  refine own_ldc B X0 at_1 rfl (v := (2147483647 : Int32)) (B.w 0 rfl) ?_
  refine own_iand B X0 at_3 rfl (v := (i0 &&& (2147483647 : Int32))) rfl ?_
  refine own_bipush B X0 at_4 rfl (v := (7 : Int32)) rfl ?_
  refine own_irem B X0 at_6 rfl (by decide) (v := (0 : Int32)) q0 ?_
  refine own_istoreN B X0 at_7 rfl #[.val (.int i0), .val (.int i1), .val (.int (0 : Int32)), .unset, .unset, .unset, .unset] rfl ?_
  refine own_iloadN B X0 at_8 rfl rfl ?_
  refine own_ldc B X0 at_9 rfl (v := (2147483647 : Int32)) (B.w 0 rfl) ?_
  refine own_iand B X0 at_11 rfl (v := (i1 &&& (2147483647 : Int32))) rfl ?_
  refine own_bipush B X0 at_12 rfl (v := (7 : Int32)) rfl ?_
  refine own_irem B X0 at_14 rfl (by decide) (v := (4 : Int32)) q1 ?_
  refine own_istoreN B X0 at_15 rfl #[.val (.int i0), .val (.int i1), .val (.int (0 : Int32)), .val (.int (4 : Int32)), .unset, .unset, .unset] rfl ?_
  refine own_iloadN B X0 at_16 rfl rfl ?_
  refine own_callS B X0 (c1 l Z a0 hw w0 w1 w2 w3 w4 w5 w6 h0 F (0 : Int32)  w0 (by simp +decide [f1])) e0 at_17 rfl (B.w 1 rfl) (B.w 2 rfl) (B.w 3 rfl) (B.w 4 rfl) (by decide) (W := 0) (by decide) (by decide) rfl [(.int (0 : Int32))] [] pd0 rfl rfl rfl (Nat.le_refl _) (by decide) (by decide) ?_
  rintro T1 _ _ X1 ⟨rfl, rfl, e1⟩
  show Go p e below _ T1 (mkF m 20 _ [(.ref w0)])
  refine own_astore B X1 at_20 rfl rfl #[.val (.int i0), .val (.int i1), .val (.int (0 : Int32)), .val (.int (4 : Int32)), .val (.ref w0), .unset, .unset] rfl ?_
  refine own_iloadN B X1 at_22 rfl rfl ?_
  refine own_callS B X1 (c1 l Z a0 hw w0 w1 w2 w3 w4 w5 w6 h0 F (4 : Int32)  w5 (by simp +decide [f1])) e1 at_23 rfl (B.w 1 rfl) (B.w 2 rfl) (B.w 3 rfl) (B.w 4 rfl) (by decide) (W := 0) (by decide) (by decide) rfl [(.int (4 : Int32))] [] pd0 rfl rfl rfl (Nat.le_refl _) (by decide) (by decide) ?_
  rintro T2 _ _ X2 ⟨rfl, rfl, e2⟩
  show Go p e below _ T2 (mkF m 26 _ [(.ref w5)])
  refine own_astore B X2 at_26 rfl rfl #[.val (.int i0), .val (.int i1), .val (.int (0 : Int32)), .val (.int (4 : Int32)), .val (.ref w0), .val (.ref w5), .unset] rfl ?_
  refine own_iloadN B X2 at_28 rfl rfl ?_
  refine own_callS B X2 (c2 l Z a0 hw w0 w1 w2 w3 w4 w5 w6 h0 F (0 : Int32)  (0 : Int32) (by simp +decide [f2])) e2 at_29 rfl (B.w 10 rfl) (B.w 11 rfl) (B.w 3 rfl) (B.w 12 rfl) (by decide) (W := 0) (by decide) (by decide) rfl [(.int (0 : Int32))] [] pd1 rfl rfl rfl (Nat.le_refl _) (by decide) (by decide) ?_
  rintro T3 _ _ X3 ⟨rfl, rfl, e3⟩
  show Go p e below _ T3 (mkF m 32 _ [(.int (0 : Int32))])
  refine own_iloadN B X3 at_32 rfl rfl ?_
  refine own_callS B X3 (c2 l Z a0 hw w0 w1 w2 w3 w4 w5 w6 h0 F (4 : Int32)  (1 : Int32) (by simp +decide [f2])) e3 at_33 rfl (B.w 10 rfl) (B.w 11 rfl) (B.w 3 rfl) (B.w 12 rfl) (by decide) (W := 1) (by decide) (by decide) rfl [(.int (4 : Int32))] [(.int (0 : Int32))] pd1 rfl rfl rfl (Nat.le_refl _) (by decide) (by decide) ?_
  rintro T4 _ _ X4 ⟨rfl, rfl, e4⟩
  show Go p e below _ T4 (mkF m 36 _ [(.int (1 : Int32)), (.int (0 : Int32))])
  refine own_icmpNo B X4 at_36 (tlt (by decide : (0 : Int32) < (1 : Int32))).2.1 rfl ?_
  refine own_iconst B X4 at_39 rfl (v := (1 : Int32)) rfl ?_
  refine own_goto B X4 at_40 (by decide) (pc' := 44) rfl ?_
  refine own_istore B X4 at_44 rfl #[.val (.int i0), .val (.int i1), .val (.int (0 : Int32)), .val (.int (4 : Int32)), .val (.ref w0), .val (.ref w5), .val (.int (1 : Int32))] rfl ?_
  refine own_aload B X4 at_46 rfl rfl rfl ?_
  refine own_aload B X4 at_48 rfl rfl rfl ?_
  refine own_callV B X4 (c3 l Z a0 hw w0 w1 w2 w3 w4 w5 w6 h0 F w0 w5 (0 : Int32) (1 : Int32) F.2.2.2.2.2.2.2.2.2.2.2.2.2.2.1 F.2.2.2.2.2.2.2.2.2.2.2.2.2.2.2.2.2.2.2.1 (1 : Int32) (by simp +decide [f3])) e4 F.2.1 (own_nf B (B.w 16 rfl)) at_50 rfl (B.w 13 rfl) (B.w 14 rfl) (B.w 16 rfl) (B.w 15 rfl) (B.w 6 rfl) (B.w 17 rfl) (by decide) (W := 0) (by decide) (by decide) rfl [(.ref w5)] [] pd2 rfl rfl rfl (Nat.le_refl _) (by decide) (by decide) ?_
  rintro T5 _ _ X5 ⟨rfl, rfl, e5⟩
  show Go p e below _ T5 (mkF m 53 _ [(.int (1 : Int32))])
  refine own_iload B X5 at_53 rfl rfl ?_
  refine own_icmpNo B X5 at_55 (teq (rfl : (1 : Int32) = (1 : Int32))).2 rfl ?_
  refine own_iconst B X5 at_58 rfl (v := (1 : Int32)) rfl ?_
  refine own_goto B X5 at_59 (by decide) (pc' := 63) rfl ?_
  exact own_retInt B X5 at_63 rfl (Or.inr (Or.inl rfl)) ⟨rfl, (Fr.app (Fr.app (Fr.app (Fr.app (Fr.app (Fr.nil n0) (Fr.nil _)) (Fr.nil _)) (Fr.nil _)) (Fr.nil _)) (Fr.nil _))⟩ (by decide) (by decide)
set_option maxRecDepth 65536 in
set_option maxHeartbeats 4000000 in
theorem law_0_5 (l : Launch) (Z : State) (a0 : Array Value) (hw : ∀ d ∈ tables_1, d.before a0 Z = true) (w0 w1 w2 w3 w4 w5 w6 : Addr) (h0 : Heap) (F : Facts Z h0 w0 w1 w2 w3 w4 w5 w6) (i0 i1 : Int32) (n0 : Nat) (Z0 : n0 ≤ h0.size) (q0 : ((i0 &&& (2147483647 : Int32)) % (7 : Int32)) = (0 : Int32)) (q1 : ((i1 &&& (2147483647 : Int32)) % (7 : Int32)) = (5 : Int32)) :
    Con l Z x code maxLocals ret tables_1 room_1 #[(.int i0), (.int i1)] h0 (Q0 n0) := by
  refine own_body (plainFor_of_name pnL) hw ?_
  intro p e s m below meth c T0 B X0 e0 hnm
  refine Go.cast (ef0 m i0 i1) ?_
  refine own_iloadN B X0 at_0 rfl rfl ?_
  refine own_ldc B X0 at_1 rfl (v := (2147483647 : Int32)) (B.w 0 rfl) ?_
  refine own_iand B X0 at_3 rfl (v := (i0 &&& (2147483647 : Int32))) rfl ?_
  refine own_bipush B X0 at_4 rfl (v := (7 : Int32)) rfl ?_
  refine own_irem B X0 at_6 rfl (by decide) (v := (0 : Int32)) q0 ?_
  refine own_istoreN B X0 at_7 rfl #[.val (.int i0), .val (.int i1), .val (.int (0 : Int32)), .unset, .unset, .unset, .unset] rfl ?_
  refine own_iloadN B X0 at_8 rfl rfl ?_
  refine own_ldc B X0 at_9 rfl (v := (2147483647 : Int32)) (B.w 0 rfl) ?_
  refine own_iand B X0 at_11 rfl (v := (i1 &&& (2147483647 : Int32))) rfl ?_
  refine own_bipush B X0 at_12 rfl (v := (7 : Int32)) rfl ?_
  refine own_irem B X0 at_14 rfl (by decide) (v := (5 : Int32)) q1 ?_
  refine own_istoreN B X0 at_15 rfl #[.val (.int i0), .val (.int i1), .val (.int (0 : Int32)), .val (.int (5 : Int32)), .unset, .unset, .unset] rfl ?_
  refine own_iloadN B X0 at_16 rfl rfl ?_
  refine own_callS B X0 (c1 l Z a0 hw w0 w1 w2 w3 w4 w5 w6 h0 F (0 : Int32)  w0 (by simp +decide [f1])) e0 at_17 rfl (B.w 1 rfl) (B.w 2 rfl) (B.w 3 rfl) (B.w 4 rfl) (by decide) (W := 0) (by decide) (by decide) rfl [(.int (0 : Int32))] [] pd0 rfl rfl rfl (Nat.le_refl _) (by decide) (by decide) ?_
  rintro T1 _ _ X1 ⟨rfl, rfl, e1⟩
  show Go p e below _ T1 (mkF m 20 _ [(.ref w0)])
  refine own_astore B X1 at_20 rfl rfl #[.val (.int i0), .val (.int i1), .val (.int (0 : Int32)), .val (.int (5 : Int32)), .val (.ref w0), .unset, .unset] rfl ?_
  refine own_iloadN B X1 at_22 rfl rfl ?_
  refine own_callS B X1 (c1 l Z a0 hw w0 w1 w2 w3 w4 w5 w6 h0 F (5 : Int32)  w3 (by simp +decide [f1])) e1 at_23 rfl (B.w 1 rfl) (B.w 2 rfl) (B.w 3 rfl) (B.w 4 rfl) (by decide) (W := 0) (by decide) (by decide) rfl [(.int (5 : Int32))] [] pd0 rfl rfl rfl (Nat.le_refl _) (by decide) (by decide) ?_
  rintro T2 _ _ X2 ⟨rfl, rfl, e2⟩
  show Go p e below _ T2 (mkF m 26 _ [(.ref w3)])
  refine own_astore B X2 at_26 rfl rfl #[.val (.int i0), .val (.int i1), .val (.int (0 : Int32)), .val (.int (5 : Int32)), .val (.ref w0), .val (.ref w3), .unset] rfl ?_
  refine own_iloadN B X2 at_28 rfl rfl ?_
  refine own_callS B X2 (c2 l Z a0 hw w0 w1 w2 w3 w4 w5 w6 h0 F (0 : Int32)  (0 : Int32) (by simp +decide [f2])) e2 at_29 rfl (B.w 10 rfl) (B.w 11 rfl) (B.w 3 rfl) (B.w 12 rfl) (by decide) (W := 0) (by decide) (by decide) rfl [(.int (0 : Int32))] [] pd1 rfl rfl rfl (Nat.le_refl _) (by decide) (by decide) ?_
  rintro T3 _ _ X3 ⟨rfl, rfl, e3⟩
  show Go p e below _ T3 (mkF m 32 _ [(.int (0 : Int32))])
  refine own_iloadN B X3 at_32 rfl rfl ?_
  refine own_callS B X3 (c2 l Z a0 hw w0 w1 w2 w3 w4 w5 w6 h0 F (5 : Int32)  (1 : Int32) (by simp +decide [f2])) e3 at_33 rfl (B.w 10 rfl) (B.w 11 rfl) (B.w 3 rfl) (B.w 12 rfl) (by decide) (W := 1) (by decide) (by decide) rfl [(.int (5 : Int32))] [(.int (0 : Int32))] pd1 rfl rfl rfl (Nat.le_refl _) (by decide) (by decide) ?_
  rintro T4 _ _ X4 ⟨rfl, rfl, e4⟩
  show Go p e below _ T4 (mkF m 36 _ [(.int (1 : Int32)), (.int (0 : Int32))])
  refine own_icmpNo B X4 at_36 (tlt (by decide : (0 : Int32) < (1 : Int32))).2.1 rfl ?_
  refine own_iconst B X4 at_39 rfl (v := (1 : Int32)) rfl ?_
  refine own_goto B X4 at_40 (by decide) (pc' := 44) rfl ?_
  refine own_istore B X4 at_44 rfl #[.val (.int i0), .val (.int i1), .val (.int (0 : Int32)), .val (.int (5 : Int32)), .val (.ref w0), .val (.ref w3), .val (.int (1 : Int32))] rfl ?_
  refine own_aload B X4 at_46 rfl rfl rfl ?_
  refine own_aload B X4 at_48 rfl rfl rfl ?_
  refine own_callV B X4 (c3 l Z a0 hw w0 w1 w2 w3 w4 w5 w6 h0 F w0 w3 (0 : Int32) (1 : Int32) F.2.2.2.2.2.2.2.2.2.2.2.2.2.2.1 F.2.2.2.2.2.2.2.2.2.2.2.2.2.2.2.2.2.1 (1 : Int32) (by simp +decide [f3])) e4 F.2.1 (own_nf B (B.w 16 rfl)) at_50 rfl (B.w 13 rfl) (B.w 14 rfl) (B.w 16 rfl) (B.w 15 rfl) (B.w 6 rfl) (B.w 17 rfl) (by decide) (W := 0) (by decide) (by decide) rfl [(.ref w3)] [] pd2 rfl rfl rfl (Nat.le_refl _) (by decide) (by decide) ?_
  rintro T5 _ _ X5 ⟨rfl, rfl, e5⟩
  show Go p e below _ T5 (mkF m 53 _ [(.int (1 : Int32))])
  refine own_iload B X5 at_53 rfl rfl ?_
  refine own_icmpNo B X5 at_55 (teq (rfl : (1 : Int32) = (1 : Int32))).2 rfl ?_
  refine own_iconst B X5 at_58 rfl (v := (1 : Int32)) rfl ?_
  refine own_goto B X5 at_59 (by decide) (pc' := 63) rfl ?_
  exact own_retInt B X5 at_63 rfl (Or.inr (Or.inl rfl)) ⟨rfl, (Fr.app (Fr.app (Fr.app (Fr.app (Fr.app (Fr.nil n0) (Fr.nil _)) (Fr.nil _)) (Fr.nil _)) (Fr.nil _)) (Fr.nil _))⟩ (by decide) (by decide)
set_option maxRecDepth 65536 in
set_option maxHeartbeats 4000000 in
theorem law_0_6 (l : Launch) (Z : State) (a0 : Array Value) (hw : ∀ d ∈ tables_1, d.before a0 Z = true) (w0 w1 w2 w3 w4 w5 w6 : Addr) (h0 : Heap) (F : Facts Z h0 w0 w1 w2 w3 w4 w5 w6) (i0 i1 : Int32) (n0 : Nat) (Z0 : n0 ≤ h0.size) (q0 : ((i0 &&& (2147483647 : Int32)) % (7 : Int32)) = (0 : Int32)) (q1 : ((i1 &&& (2147483647 : Int32)) % (7 : Int32)) = (6 : Int32)) :
    Con l Z x code maxLocals ret tables_1 room_1 #[(.int i0), (.int i1)] h0 (Q0 n0) := by
  refine own_body (plainFor_of_name pnL) hw ?_
  intro p e s m below meth c T0 B X0 e0 hnm
  refine Go.cast (ef0 m i0 i1) ?_
  refine own_iloadN B X0 at_0 rfl rfl ?_
  refine own_ldc B X0 at_1 rfl (v := (2147483647 : Int32)) (B.w 0 rfl) ?_
  refine own_iand B X0 at_3 rfl (v := (i0 &&& (2147483647 : Int32))) rfl ?_
  refine own_bipush B X0 at_4 rfl (v := (7 : Int32)) rfl ?_
  refine own_irem B X0 at_6 rfl (by decide) (v := (0 : Int32)) q0 ?_
  refine own_istoreN B X0 at_7 rfl #[.val (.int i0), .val (.int i1), .val (.int (0 : Int32)), .unset, .unset, .unset, .unset] rfl ?_
  refine own_iloadN B X0 at_8 rfl rfl ?_
  refine own_ldc B X0 at_9 rfl (v := (2147483647 : Int32)) (B.w 0 rfl) ?_
  refine own_iand B X0 at_11 rfl (v := (i1 &&& (2147483647 : Int32))) rfl ?_
  refine own_bipush B X0 at_12 rfl (v := (7 : Int32)) rfl ?_
  refine own_irem B X0 at_14 rfl (by decide) (v := (6 : Int32)) q1 ?_
  refine own_istoreN B X0 at_15 rfl #[.val (.int i0), .val (.int i1), .val (.int (0 : Int32)), .val (.int (6 : Int32)), .unset, .unset, .unset] rfl ?_
  refine own_iloadN B X0 at_16 rfl rfl ?_
  refine own_callS B X0 (c1 l Z a0 hw w0 w1 w2 w3 w4 w5 w6 h0 F (0 : Int32)  w0 (by simp +decide [f1])) e0 at_17 rfl (B.w 1 rfl) (B.w 2 rfl) (B.w 3 rfl) (B.w 4 rfl) (by decide) (W := 0) (by decide) (by decide) rfl [(.int (0 : Int32))] [] pd0 rfl rfl rfl (Nat.le_refl _) (by decide) (by decide) ?_
  rintro T1 _ _ X1 ⟨rfl, rfl, e1⟩
  show Go p e below _ T1 (mkF m 20 _ [(.ref w0)])
  refine own_astore B X1 at_20 rfl rfl #[.val (.int i0), .val (.int i1), .val (.int (0 : Int32)), .val (.int (6 : Int32)), .val (.ref w0), .unset, .unset] rfl ?_
  refine own_iloadN B X1 at_22 rfl rfl ?_
  refine own_callS B X1 (c1 l Z a0 hw w0 w1 w2 w3 w4 w5 w6 h0 F (6 : Int32)  w6 (by simp +decide [f1])) e1 at_23 rfl (B.w 1 rfl) (B.w 2 rfl) (B.w 3 rfl) (B.w 4 rfl) (by decide) (W := 0) (by decide) (by decide) rfl [(.int (6 : Int32))] [] pd0 rfl rfl rfl (Nat.le_refl _) (by decide) (by decide) ?_
  rintro T2 _ _ X2 ⟨rfl, rfl, e2⟩
  show Go p e below _ T2 (mkF m 26 _ [(.ref w6)])
  refine own_astore B X2 at_26 rfl rfl #[.val (.int i0), .val (.int i1), .val (.int (0 : Int32)), .val (.int (6 : Int32)), .val (.ref w0), .val (.ref w6), .unset] rfl ?_
  refine own_iloadN B X2 at_28 rfl rfl ?_
  refine own_callS B X2 (c2 l Z a0 hw w0 w1 w2 w3 w4 w5 w6 h0 F (0 : Int32)  (0 : Int32) (by simp +decide [f2])) e2 at_29 rfl (B.w 10 rfl) (B.w 11 rfl) (B.w 3 rfl) (B.w 12 rfl) (by decide) (W := 0) (by decide) (by decide) rfl [(.int (0 : Int32))] [] pd1 rfl rfl rfl (Nat.le_refl _) (by decide) (by decide) ?_
  rintro T3 _ _ X3 ⟨rfl, rfl, e3⟩
  show Go p e below _ T3 (mkF m 32 _ [(.int (0 : Int32))])
  refine own_iloadN B X3 at_32 rfl rfl ?_
  refine own_callS B X3 (c2 l Z a0 hw w0 w1 w2 w3 w4 w5 w6 h0 F (6 : Int32)  (2 : Int32) (by simp +decide [f2])) e3 at_33 rfl (B.w 10 rfl) (B.w 11 rfl) (B.w 3 rfl) (B.w 12 rfl) (by decide) (W := 1) (by decide) (by decide) rfl [(.int (6 : Int32))] [(.int (0 : Int32))] pd1 rfl rfl rfl (Nat.le_refl _) (by decide) (by decide) ?_
  rintro T4 _ _ X4 ⟨rfl, rfl, e4⟩
  show Go p e below _ T4 (mkF m 36 _ [(.int (2 : Int32)), (.int (0 : Int32))])
  refine own_icmpNo B X4 at_36 (tlt (by decide : (0 : Int32) < (2 : Int32))).2.1 rfl ?_
  refine own_iconst B X4 at_39 rfl (v := (1 : Int32)) rfl ?_
  refine own_goto B X4 at_40 (by decide) (pc' := 44) rfl ?_
  refine own_istore B X4 at_44 rfl #[.val (.int i0), .val (.int i1), .val (.int (0 : Int32)), .val (.int (6 : Int32)), .val (.ref w0), .val (.ref w6), .val (.int (1 : Int32))] rfl ?_
  refine own_aload B X4 at_46 rfl rfl rfl ?_
  refine own_aload B X4 at_48 rfl rfl rfl ?_
  refine own_callV B X4 (c3 l Z a0 hw w0 w1 w2 w3 w4 w5 w6 h0 F w0 w6 (0 : Int32) (2 : Int32) F.2.2.2.2.2.2.2.2.2.2.2.2.2.2.1 F.2.2.2.2.2.2.2.2.2.2.2.2.2.2.2.2.2.2.2.2.1 (1 : Int32) (by simp +decide [f3])) e4 F.2.1 (own_nf B (B.w 16 rfl)) at_50 rfl (B.w 13 rfl) (B.w 14 rfl) (B.w 16 rfl) (B.w 15 rfl) (B.w 6 rfl) (B.w 17 rfl) (by decide) (W := 0) (by decide) (by decide) rfl [(.ref w6)] [] pd2 rfl rfl rfl (Nat.le_refl _) (by decide) (by decide) ?_
  rintro T5 _ _ X5 ⟨rfl, rfl, e5⟩
  show Go p e below _ T5 (mkF m 53 _ [(.int (1 : Int32))])
  refine own_iload B X5 at_53 rfl rfl ?_
  refine own_icmpNo B X5 at_55 (teq (rfl : (1 : Int32) = (1 : Int32))).2 rfl ?_
  refine own_iconst B X5 at_58 rfl (v := (1 : Int32)) rfl ?_
  refine own_goto B X5 at_59 (by decide) (pc' := 63) rfl ?_
  exact own_retInt B X5 at_63 rfl (Or.inr (Or.inl rfl)) ⟨rfl, (Fr.app (Fr.app (Fr.app (Fr.app (Fr.app (Fr.nil n0) (Fr.nil _)) (Fr.nil _)) (Fr.nil _)) (Fr.nil _)) (Fr.nil _))⟩ (by decide) (by decide)
set_option maxRecDepth 65536 in
set_option maxHeartbeats 4000000 in
theorem law_1_0 (l : Launch) (Z : State) (a0 : Array Value) (hw : ∀ d ∈ tables_1, d.before a0 Z = true) (w0 w1 w2 w3 w4 w5 w6 : Addr) (h0 : Heap) (F : Facts Z h0 w0 w1 w2 w3 w4 w5 w6) (i0 i1 : Int32) (n0 : Nat) (Z0 : n0 ≤ h0.size) (q0 : ((i0 &&& (2147483647 : Int32)) % (7 : Int32)) = (1 : Int32)) (q1 : ((i1 &&& (2147483647 : Int32)) % (7 : Int32)) = (0 : Int32)) :
    Con l Z x code maxLocals ret tables_1 room_1 #[(.int i0), (.int i1)] h0 (Q0 n0) := by
  refine own_body (plainFor_of_name pnL) hw ?_
  intro p e s m below meth c T0 B X0 e0 hnm
  refine Go.cast (ef0 m i0 i1) ?_
  refine own_iloadN B X0 at_0 rfl rfl ?_
  refine own_ldc B X0 at_1 rfl (v := (2147483647 : Int32)) (B.w 0 rfl) ?_
  refine own_iand B X0 at_3 rfl (v := (i0 &&& (2147483647 : Int32))) rfl ?_
  refine own_bipush B X0 at_4 rfl (v := (7 : Int32)) rfl ?_
  refine own_irem B X0 at_6 rfl (by decide) (v := (1 : Int32)) q0 ?_
  refine own_istoreN B X0 at_7 rfl #[.val (.int i0), .val (.int i1), .val (.int (1 : Int32)), .unset, .unset, .unset, .unset] rfl ?_
  refine own_iloadN B X0 at_8 rfl rfl ?_
  refine own_ldc B X0 at_9 rfl (v := (2147483647 : Int32)) (B.w 0 rfl) ?_
  refine own_iand B X0 at_11 rfl (v := (i1 &&& (2147483647 : Int32))) rfl ?_
  refine own_bipush B X0 at_12 rfl (v := (7 : Int32)) rfl ?_
  refine own_irem B X0 at_14 rfl (by decide) (v := (0 : Int32)) q1 ?_
  refine own_istoreN B X0 at_15 rfl #[.val (.int i0), .val (.int i1), .val (.int (1 : Int32)), .val (.int (0 : Int32)), .unset, .unset, .unset] rfl ?_
  refine own_iloadN B X0 at_16 rfl rfl ?_
  refine own_callS B X0 (c1 l Z a0 hw w0 w1 w2 w3 w4 w5 w6 h0 F (1 : Int32)  w2 (by simp +decide [f1])) e0 at_17 rfl (B.w 1 rfl) (B.w 2 rfl) (B.w 3 rfl) (B.w 4 rfl) (by decide) (W := 0) (by decide) (by decide) rfl [(.int (1 : Int32))] [] pd0 rfl rfl rfl (Nat.le_refl _) (by decide) (by decide) ?_
  rintro T1 _ _ X1 ⟨rfl, rfl, e1⟩
  show Go p e below _ T1 (mkF m 20 _ [(.ref w2)])
  refine own_astore B X1 at_20 rfl rfl #[.val (.int i0), .val (.int i1), .val (.int (1 : Int32)), .val (.int (0 : Int32)), .val (.ref w2), .unset, .unset] rfl ?_
  refine own_iloadN B X1 at_22 rfl rfl ?_
  refine own_callS B X1 (c1 l Z a0 hw w0 w1 w2 w3 w4 w5 w6 h0 F (0 : Int32)  w0 (by simp +decide [f1])) e1 at_23 rfl (B.w 1 rfl) (B.w 2 rfl) (B.w 3 rfl) (B.w 4 rfl) (by decide) (W := 0) (by decide) (by decide) rfl [(.int (0 : Int32))] [] pd0 rfl rfl rfl (Nat.le_refl _) (by decide) (by decide) ?_
  rintro T2 _ _ X2 ⟨rfl, rfl, e2⟩
  show Go p e below _ T2 (mkF m 26 _ [(.ref w0)])
  refine own_astore B X2 at_26 rfl rfl #[.val (.int i0), .val (.int i1), .val (.int (1 : Int32)), .val (.int (0 : Int32)), .val (.ref w2), .val (.ref w0), .unset] rfl ?_
  refine own_iloadN B X2 at_28 rfl rfl ?_
  refine own_callS B X2 (c2 l Z a0 hw w0 w1 w2 w3 w4 w5 w6 h0 F (1 : Int32)  (0 : Int32) (by simp +decide [f2])) e2 at_29 rfl (B.w 10 rfl) (B.w 11 rfl) (B.w 3 rfl) (B.w 12 rfl) (by decide) (W := 0) (by decide) (by decide) rfl [(.int (1 : Int32))] [] pd1 rfl rfl rfl (Nat.le_refl _) (by decide) (by decide) ?_
  rintro T3 _ _ X3 ⟨rfl, rfl, e3⟩
  show Go p e below _ T3 (mkF m 32 _ [(.int (0 : Int32))])
  refine own_iloadN B X3 at_32 rfl rfl ?_
  refine own_callS B X3 (c2 l Z a0 hw w0 w1 w2 w3 w4 w5 w6 h0 F (0 : Int32)  (0 : Int32) (by simp +decide [f2])) e3 at_33 rfl (B.w 10 rfl) (B.w 11 rfl) (B.w 3 rfl) (B.w 12 rfl) (by decide) (W := 1) (by decide) (by decide) rfl [(.int (0 : Int32))] [(.int (0 : Int32))] pd1 rfl rfl rfl (Nat.le_refl _) (by decide) (by decide) ?_
  rintro T4 _ _ X4 ⟨rfl, rfl, e4⟩
  show Go p e below _ T4 (mkF m 36 _ [(.int (0 : Int32)), (.int (0 : Int32))])
  refine own_icmpYes B X4 at_36 (flt (by decide : ¬ ((0 : Int32) < (0 : Int32)))).2.1 (by decide) (pc' := 43) rfl ?_
  refine own_iconst B X4 at_43 rfl (v := (0 : Int32)) rfl ?_
  refine own_istore B X4 at_44 rfl #[.val (.int i0), .val (.int i1), .val (.int (1 : Int32)), .val (.int (0 : Int32)), .val (.ref w2), .val (.ref w0), .val (.int (0 : Int32))] rfl ?_
  refine own_aload B X4 at_46 rfl rfl rfl ?_
  refine own_aload B X4 at_48 rfl rfl rfl ?_
  refine own_callV B X4 (c3 l Z a0 hw w0 w1 w2 w3 w4 w5 w6 h0 F w2 w0 (0 : Int32) (0 : Int32) F.2.2.2.2.2.2.2.2.2.2.2.2.2.2.2.2.1 F.2.2.2.2.2.2.2.2.2.2.2.2.2.2.1 (0 : Int32) (by simp +decide [f3])) e4 F.2.2.2.2.2.1 (own_nf B (B.w 16 rfl)) at_50 rfl (B.w 13 rfl) (B.w 14 rfl) (B.w 16 rfl) (B.w 15 rfl) (B.w 6 rfl) (B.w 17 rfl) (by decide) (W := 0) (by decide) (by decide) rfl [(.ref w0)] [] pd2 rfl rfl rfl (Nat.le_refl _) (by decide) (by decide) ?_
  rintro T5 _ _ X5 ⟨rfl, rfl, e5⟩
  show Go p e below _ T5 (mkF m 53 _ [(.int (0 : Int32))])
  refine own_iload B X5 at_53 rfl rfl ?_
  refine own_icmpNo B X5 at_55 (teq (rfl : (0 : Int32) = (0 : Int32))).2 rfl ?_
  refine own_iconst B X5 at_58 rfl (v := (1 : Int32)) rfl ?_
  refine own_goto B X5 at_59 (by decide) (pc' := 63) rfl ?_
  exact own_retInt B X5 at_63 rfl (Or.inr (Or.inl rfl)) ⟨rfl, (Fr.app (Fr.app (Fr.app (Fr.app (Fr.app (Fr.nil n0) (Fr.nil _)) (Fr.nil _)) (Fr.nil _)) (Fr.nil _)) (Fr.nil _))⟩ (by decide) (by decide)
set_option maxRecDepth 65536 in
set_option maxHeartbeats 4000000 in
theorem law_1_1 (l : Launch) (Z : State) (a0 : Array Value) (hw : ∀ d ∈ tables_1, d.before a0 Z = true) (w0 w1 w2 w3 w4 w5 w6 : Addr) (h0 : Heap) (F : Facts Z h0 w0 w1 w2 w3 w4 w5 w6) (i0 i1 : Int32) (n0 : Nat) (Z0 : n0 ≤ h0.size) (q0 : ((i0 &&& (2147483647 : Int32)) % (7 : Int32)) = (1 : Int32)) (q1 : ((i1 &&& (2147483647 : Int32)) % (7 : Int32)) = (1 : Int32)) :
    Con l Z x code maxLocals ret tables_1 room_1 #[(.int i0), (.int i1)] h0 (Q0 n0) := by
  refine own_body (plainFor_of_name pnL) hw ?_
  intro p e s m below meth c T0 B X0 e0 hnm
  refine Go.cast (ef0 m i0 i1) ?_
  refine own_iloadN B X0 at_0 rfl rfl ?_
  refine own_ldc B X0 at_1 rfl (v := (2147483647 : Int32)) (B.w 0 rfl) ?_
  refine own_iand B X0 at_3 rfl (v := (i0 &&& (2147483647 : Int32))) rfl ?_
  refine own_bipush B X0 at_4 rfl (v := (7 : Int32)) rfl ?_
  refine own_irem B X0 at_6 rfl (by decide) (v := (1 : Int32)) q0 ?_
  refine own_istoreN B X0 at_7 rfl #[.val (.int i0), .val (.int i1), .val (.int (1 : Int32)), .unset, .unset, .unset, .unset] rfl ?_
  refine own_iloadN B X0 at_8 rfl rfl ?_
  refine own_ldc B X0 at_9 rfl (v := (2147483647 : Int32)) (B.w 0 rfl) ?_
  refine own_iand B X0 at_11 rfl (v := (i1 &&& (2147483647 : Int32))) rfl ?_
  refine own_bipush B X0 at_12 rfl (v := (7 : Int32)) rfl ?_
  refine own_irem B X0 at_14 rfl (by decide) (v := (1 : Int32)) q1 ?_
  refine own_istoreN B X0 at_15 rfl #[.val (.int i0), .val (.int i1), .val (.int (1 : Int32)), .val (.int (1 : Int32)), .unset, .unset, .unset] rfl ?_
  refine own_iloadN B X0 at_16 rfl rfl ?_
  refine own_callS B X0 (c1 l Z a0 hw w0 w1 w2 w3 w4 w5 w6 h0 F (1 : Int32)  w2 (by simp +decide [f1])) e0 at_17 rfl (B.w 1 rfl) (B.w 2 rfl) (B.w 3 rfl) (B.w 4 rfl) (by decide) (W := 0) (by decide) (by decide) rfl [(.int (1 : Int32))] [] pd0 rfl rfl rfl (Nat.le_refl _) (by decide) (by decide) ?_
  rintro T1 _ _ X1 ⟨rfl, rfl, e1⟩
  show Go p e below _ T1 (mkF m 20 _ [(.ref w2)])
  refine own_astore B X1 at_20 rfl rfl #[.val (.int i0), .val (.int i1), .val (.int (1 : Int32)), .val (.int (1 : Int32)), .val (.ref w2), .unset, .unset] rfl ?_
  refine own_iloadN B X1 at_22 rfl rfl ?_
  refine own_callS B X1 (c1 l Z a0 hw w0 w1 w2 w3 w4 w5 w6 h0 F (1 : Int32)  w2 (by simp +decide [f1])) e1 at_23 rfl (B.w 1 rfl) (B.w 2 rfl) (B.w 3 rfl) (B.w 4 rfl) (by decide) (W := 0) (by decide) (by decide) rfl [(.int (1 : Int32))] [] pd0 rfl rfl rfl (Nat.le_refl _) (by decide) (by decide) ?_
  rintro T2 _ _ X2 ⟨rfl, rfl, e2⟩
  show Go p e below _ T2 (mkF m 26 _ [(.ref w2)])
  refine own_astore B X2 at_26 rfl rfl #[.val (.int i0), .val (.int i1), .val (.int (1 : Int32)), .val (.int (1 : Int32)), .val (.ref w2), .val (.ref w2), .unset] rfl ?_
  refine own_iloadN B X2 at_28 rfl rfl ?_
  refine own_callS B X2 (c2 l Z a0 hw w0 w1 w2 w3 w4 w5 w6 h0 F (1 : Int32)  (0 : Int32) (by simp +decide [f2])) e2 at_29 rfl (B.w 10 rfl) (B.w 11 rfl) (B.w 3 rfl) (B.w 12 rfl) (by decide) (W := 0) (by decide) (by decide) rfl [(.int (1 : Int32))] [] pd1 rfl rfl rfl (Nat.le_refl _) (by decide) (by decide) ?_
  rintro T3 _ _ X3 ⟨rfl, rfl, e3⟩
  show Go p e below _ T3 (mkF m 32 _ [(.int (0 : Int32))])
  refine own_iloadN B X3 at_32 rfl rfl ?_
  refine own_callS B X3 (c2 l Z a0 hw w0 w1 w2 w3 w4 w5 w6 h0 F (1 : Int32)  (0 : Int32) (by simp +decide [f2])) e3 at_33 rfl (B.w 10 rfl) (B.w 11 rfl) (B.w 3 rfl) (B.w 12 rfl) (by decide) (W := 1) (by decide) (by decide) rfl [(.int (1 : Int32))] [(.int (0 : Int32))] pd1 rfl rfl rfl (Nat.le_refl _) (by decide) (by decide) ?_
  rintro T4 _ _ X4 ⟨rfl, rfl, e4⟩
  show Go p e below _ T4 (mkF m 36 _ [(.int (0 : Int32)), (.int (0 : Int32))])
  refine own_icmpYes B X4 at_36 (flt (by decide : ¬ ((0 : Int32) < (0 : Int32)))).2.1 (by decide) (pc' := 43) rfl ?_
  refine own_iconst B X4 at_43 rfl (v := (0 : Int32)) rfl ?_
  refine own_istore B X4 at_44 rfl #[.val (.int i0), .val (.int i1), .val (.int (1 : Int32)), .val (.int (1 : Int32)), .val (.ref w2), .val (.ref w2), .val (.int (0 : Int32))] rfl ?_
  refine own_aload B X4 at_46 rfl rfl rfl ?_
  refine own_aload B X4 at_48 rfl rfl rfl ?_
  refine own_callV B X4 (c3 l Z a0 hw w0 w1 w2 w3 w4 w5 w6 h0 F w2 w2 (0 : Int32) (0 : Int32) F.2.2.2.2.2.2.2.2.2.2.2.2.2.2.2.2.1 F.2.2.2.2.2.2.2.2.2.2.2.2.2.2.2.2.1 (0 : Int32) (by simp +decide [f3])) e4 F.2.2.2.2.2.1 (own_nf B (B.w 16 rfl)) at_50 rfl (B.w 13 rfl) (B.w 14 rfl) (B.w 16 rfl) (B.w 15 rfl) (B.w 6 rfl) (B.w 17 rfl) (by decide) (W := 0) (by decide) (by decide) rfl [(.ref w2)] [] pd2 rfl rfl rfl (Nat.le_refl _) (by decide) (by decide) ?_
  rintro T5 _ _ X5 ⟨rfl, rfl, e5⟩
  show Go p e below _ T5 (mkF m 53 _ [(.int (0 : Int32))])
  refine own_iload B X5 at_53 rfl rfl ?_
  refine own_icmpNo B X5 at_55 (teq (rfl : (0 : Int32) = (0 : Int32))).2 rfl ?_
  refine own_iconst B X5 at_58 rfl (v := (1 : Int32)) rfl ?_
  refine own_goto B X5 at_59 (by decide) (pc' := 63) rfl ?_
  exact own_retInt B X5 at_63 rfl (Or.inr (Or.inl rfl)) ⟨rfl, (Fr.app (Fr.app (Fr.app (Fr.app (Fr.app (Fr.nil n0) (Fr.nil _)) (Fr.nil _)) (Fr.nil _)) (Fr.nil _)) (Fr.nil _))⟩ (by decide) (by decide)
set_option maxRecDepth 65536 in
set_option maxHeartbeats 4000000 in
theorem law_1_2 (l : Launch) (Z : State) (a0 : Array Value) (hw : ∀ d ∈ tables_1, d.before a0 Z = true) (w0 w1 w2 w3 w4 w5 w6 : Addr) (h0 : Heap) (F : Facts Z h0 w0 w1 w2 w3 w4 w5 w6) (i0 i1 : Int32) (n0 : Nat) (Z0 : n0 ≤ h0.size) (q0 : ((i0 &&& (2147483647 : Int32)) % (7 : Int32)) = (1 : Int32)) (q1 : ((i1 &&& (2147483647 : Int32)) % (7 : Int32)) = (2 : Int32)) :
    Con l Z x code maxLocals ret tables_1 room_1 #[(.int i0), (.int i1)] h0 (Q0 n0) := by
  refine own_body (plainFor_of_name pnL) hw ?_
  intro p e s m below meth c T0 B X0 e0 hnm
  refine Go.cast (ef0 m i0 i1) ?_
  refine own_iloadN B X0 at_0 rfl rfl ?_
  refine own_ldc B X0 at_1 rfl (v := (2147483647 : Int32)) (B.w 0 rfl) ?_
  refine own_iand B X0 at_3 rfl (v := (i0 &&& (2147483647 : Int32))) rfl ?_
  refine own_bipush B X0 at_4 rfl (v := (7 : Int32)) rfl ?_
  refine own_irem B X0 at_6 rfl (by decide) (v := (1 : Int32)) q0 ?_
  refine own_istoreN B X0 at_7 rfl #[.val (.int i0), .val (.int i1), .val (.int (1 : Int32)), .unset, .unset, .unset, .unset] rfl ?_
  refine own_iloadN B X0 at_8 rfl rfl ?_
  refine own_ldc B X0 at_9 rfl (v := (2147483647 : Int32)) (B.w 0 rfl) ?_
  refine own_iand B X0 at_11 rfl (v := (i1 &&& (2147483647 : Int32))) rfl ?_
  refine own_bipush B X0 at_12 rfl (v := (7 : Int32)) rfl ?_
  refine own_irem B X0 at_14 rfl (by decide) (v := (2 : Int32)) q1 ?_
  refine own_istoreN B X0 at_15 rfl #[.val (.int i0), .val (.int i1), .val (.int (1 : Int32)), .val (.int (2 : Int32)), .unset, .unset, .unset] rfl ?_
  refine own_iloadN B X0 at_16 rfl rfl ?_
  refine own_callS B X0 (c1 l Z a0 hw w0 w1 w2 w3 w4 w5 w6 h0 F (1 : Int32)  w2 (by simp +decide [f1])) e0 at_17 rfl (B.w 1 rfl) (B.w 2 rfl) (B.w 3 rfl) (B.w 4 rfl) (by decide) (W := 0) (by decide) (by decide) rfl [(.int (1 : Int32))] [] pd0 rfl rfl rfl (Nat.le_refl _) (by decide) (by decide) ?_
  rintro T1 _ _ X1 ⟨rfl, rfl, e1⟩
  show Go p e below _ T1 (mkF m 20 _ [(.ref w2)])
  refine own_astore B X1 at_20 rfl rfl #[.val (.int i0), .val (.int i1), .val (.int (1 : Int32)), .val (.int (2 : Int32)), .val (.ref w2), .unset, .unset] rfl ?_
  refine own_iloadN B X1 at_22 rfl rfl ?_
  refine own_callS B X1 (c1 l Z a0 hw w0 w1 w2 w3 w4 w5 w6 h0 F (2 : Int32)  w4 (by simp +decide [f1])) e1 at_23 rfl (B.w 1 rfl) (B.w 2 rfl) (B.w 3 rfl) (B.w 4 rfl) (by decide) (W := 0) (by decide) (by decide) rfl [(.int (2 : Int32))] [] pd0 rfl rfl rfl (Nat.le_refl _) (by decide) (by decide) ?_
  rintro T2 _ _ X2 ⟨rfl, rfl, e2⟩
  show Go p e below _ T2 (mkF m 26 _ [(.ref w4)])
  refine own_astore B X2 at_26 rfl rfl #[.val (.int i0), .val (.int i1), .val (.int (1 : Int32)), .val (.int (2 : Int32)), .val (.ref w2), .val (.ref w4), .unset] rfl ?_
  refine own_iloadN B X2 at_28 rfl rfl ?_
  refine own_callS B X2 (c2 l Z a0 hw w0 w1 w2 w3 w4 w5 w6 h0 F (1 : Int32)  (0 : Int32) (by simp +decide [f2])) e2 at_29 rfl (B.w 10 rfl) (B.w 11 rfl) (B.w 3 rfl) (B.w 12 rfl) (by decide) (W := 0) (by decide) (by decide) rfl [(.int (1 : Int32))] [] pd1 rfl rfl rfl (Nat.le_refl _) (by decide) (by decide) ?_
  rintro T3 _ _ X3 ⟨rfl, rfl, e3⟩
  show Go p e below _ T3 (mkF m 32 _ [(.int (0 : Int32))])
  refine own_iloadN B X3 at_32 rfl rfl ?_
  refine own_callS B X3 (c2 l Z a0 hw w0 w1 w2 w3 w4 w5 w6 h0 F (2 : Int32)  (0 : Int32) (by simp +decide [f2])) e3 at_33 rfl (B.w 10 rfl) (B.w 11 rfl) (B.w 3 rfl) (B.w 12 rfl) (by decide) (W := 1) (by decide) (by decide) rfl [(.int (2 : Int32))] [(.int (0 : Int32))] pd1 rfl rfl rfl (Nat.le_refl _) (by decide) (by decide) ?_
  rintro T4 _ _ X4 ⟨rfl, rfl, e4⟩
  show Go p e below _ T4 (mkF m 36 _ [(.int (0 : Int32)), (.int (0 : Int32))])
  refine own_icmpYes B X4 at_36 (flt (by decide : ¬ ((0 : Int32) < (0 : Int32)))).2.1 (by decide) (pc' := 43) rfl ?_
  refine own_iconst B X4 at_43 rfl (v := (0 : Int32)) rfl ?_
  refine own_istore B X4 at_44 rfl #[.val (.int i0), .val (.int i1), .val (.int (1 : Int32)), .val (.int (2 : Int32)), .val (.ref w2), .val (.ref w4), .val (.int (0 : Int32))] rfl ?_
  refine own_aload B X4 at_46 rfl rfl rfl ?_
  refine own_aload B X4 at_48 rfl rfl rfl ?_
  refine own_callV B X4 (c3 l Z a0 hw w0 w1 w2 w3 w4 w5 w6 h0 F w2 w4 (0 : Int32) (0 : Int32) F.2.2.2.2.2.2.2.2.2.2.2.2.2.2.2.2.1 F.2.2.2.2.2.2.2.2.2.2.2.2.2.2.2.2.2.2.1 (0 : Int32) (by simp +decide [f3])) e4 F.2.2.2.2.2.1 (own_nf B (B.w 16 rfl)) at_50 rfl (B.w 13 rfl) (B.w 14 rfl) (B.w 16 rfl) (B.w 15 rfl) (B.w 6 rfl) (B.w 17 rfl) (by decide) (W := 0) (by decide) (by decide) rfl [(.ref w4)] [] pd2 rfl rfl rfl (Nat.le_refl _) (by decide) (by decide) ?_
  rintro T5 _ _ X5 ⟨rfl, rfl, e5⟩
  show Go p e below _ T5 (mkF m 53 _ [(.int (0 : Int32))])
  refine own_iload B X5 at_53 rfl rfl ?_
  refine own_icmpNo B X5 at_55 (teq (rfl : (0 : Int32) = (0 : Int32))).2 rfl ?_
  refine own_iconst B X5 at_58 rfl (v := (1 : Int32)) rfl ?_
  refine own_goto B X5 at_59 (by decide) (pc' := 63) rfl ?_
  exact own_retInt B X5 at_63 rfl (Or.inr (Or.inl rfl)) ⟨rfl, (Fr.app (Fr.app (Fr.app (Fr.app (Fr.app (Fr.nil n0) (Fr.nil _)) (Fr.nil _)) (Fr.nil _)) (Fr.nil _)) (Fr.nil _))⟩ (by decide) (by decide)
set_option maxRecDepth 65536 in
set_option maxHeartbeats 4000000 in
theorem law_1_3 (l : Launch) (Z : State) (a0 : Array Value) (hw : ∀ d ∈ tables_1, d.before a0 Z = true) (w0 w1 w2 w3 w4 w5 w6 : Addr) (h0 : Heap) (F : Facts Z h0 w0 w1 w2 w3 w4 w5 w6) (i0 i1 : Int32) (n0 : Nat) (Z0 : n0 ≤ h0.size) (q0 : ((i0 &&& (2147483647 : Int32)) % (7 : Int32)) = (1 : Int32)) (q1 : ((i1 &&& (2147483647 : Int32)) % (7 : Int32)) = (3 : Int32)) :
    Con l Z x code maxLocals ret tables_1 room_1 #[(.int i0), (.int i1)] h0 (Q0 n0) := by
  refine own_body (plainFor_of_name pnL) hw ?_
  intro p e s m below meth c T0 B X0 e0 hnm
  refine Go.cast (ef0 m i0 i1) ?_
  refine own_iloadN B X0 at_0 rfl rfl ?_
  refine own_ldc B X0 at_1 rfl (v := (2147483647 : Int32)) (B.w 0 rfl) ?_
  refine own_iand B X0 at_3 rfl (v := (i0 &&& (2147483647 : Int32))) rfl ?_
  refine own_bipush B X0 at_4 rfl (v := (7 : Int32)) rfl ?_
  refine own_irem B X0 at_6 rfl (by decide) (v := (1 : Int32)) q0 ?_
  refine own_istoreN B X0 at_7 rfl #[.val (.int i0), .val (.int i1), .val (.int (1 : Int32)), .unset, .unset, .unset, .unset] rfl ?_
  refine own_iloadN B X0 at_8 rfl rfl ?_
  refine own_ldc B X0 at_9 rfl (v := (2147483647 : Int32)) (B.w 0 rfl) ?_
  refine own_iand B X0 at_11 rfl (v := (i1 &&& (2147483647 : Int32))) rfl ?_
  refine own_bipush B X0 at_12 rfl (v := (7 : Int32)) rfl ?_
  refine own_irem B X0 at_14 rfl (by decide) (v := (3 : Int32)) q1 ?_
  refine own_istoreN B X0 at_15 rfl #[.val (.int i0), .val (.int i1), .val (.int (1 : Int32)), .val (.int (3 : Int32)), .unset, .unset, .unset] rfl ?_
  refine own_iloadN B X0 at_16 rfl rfl ?_
  refine own_callS B X0 (c1 l Z a0 hw w0 w1 w2 w3 w4 w5 w6 h0 F (1 : Int32)  w2 (by simp +decide [f1])) e0 at_17 rfl (B.w 1 rfl) (B.w 2 rfl) (B.w 3 rfl) (B.w 4 rfl) (by decide) (W := 0) (by decide) (by decide) rfl [(.int (1 : Int32))] [] pd0 rfl rfl rfl (Nat.le_refl _) (by decide) (by decide) ?_
  rintro T1 _ _ X1 ⟨rfl, rfl, e1⟩
  show Go p e below _ T1 (mkF m 20 _ [(.ref w2)])
  refine own_astore B X1 at_20 rfl rfl #[.val (.int i0), .val (.int i1), .val (.int (1 : Int32)), .val (.int (3 : Int32)), .val (.ref w2), .unset, .unset] rfl ?_
  refine own_iloadN B X1 at_22 rfl rfl ?_
  refine own_callS B X1 (c1 l Z a0 hw w0 w1 w2 w3 w4 w5 w6 h0 F (3 : Int32)  w1 (by simp +decide [f1])) e1 at_23 rfl (B.w 1 rfl) (B.w 2 rfl) (B.w 3 rfl) (B.w 4 rfl) (by decide) (W := 0) (by decide) (by decide) rfl [(.int (3 : Int32))] [] pd0 rfl rfl rfl (Nat.le_refl _) (by decide) (by decide) ?_
  rintro T2 _ _ X2 ⟨rfl, rfl, e2⟩
  show Go p e below _ T2 (mkF m 26 _ [(.ref w1)])
  refine own_astore B X2 at_26 rfl rfl #[.val (.int i0), .val (.int i1), .val (.int (1 : Int32)), .val (.int (3 : Int32)), .val (.ref w2), .val (.ref w1), .unset] rfl ?_
  refine own_iloadN B X2 at_28 rfl rfl ?_
  refine own_callS B X2 (c2 l Z a0 hw w0 w1 w2 w3 w4 w5 w6 h0 F (1 : Int32)  (0 : Int32) (by simp +decide [f2])) e2 at_29 rfl (B.w 10 rfl) (B.w 11 rfl) (B.w 3 rfl) (B.w 12 rfl) (by decide) (W := 0) (by decide) (by decide) rfl [(.int (1 : Int32))] [] pd1 rfl rfl rfl (Nat.le_refl _) (by decide) (by decide) ?_
  rintro T3 _ _ X3 ⟨rfl, rfl, e3⟩
  show Go p e below _ T3 (mkF m 32 _ [(.int (0 : Int32))])
  refine own_iloadN B X3 at_32 rfl rfl ?_
  refine own_callS B X3 (c2 l Z a0 hw w0 w1 w2 w3 w4 w5 w6 h0 F (3 : Int32)  (0 : Int32) (by simp +decide [f2])) e3 at_33 rfl (B.w 10 rfl) (B.w 11 rfl) (B.w 3 rfl) (B.w 12 rfl) (by decide) (W := 1) (by decide) (by decide) rfl [(.int (3 : Int32))] [(.int (0 : Int32))] pd1 rfl rfl rfl (Nat.le_refl _) (by decide) (by decide) ?_
  rintro T4 _ _ X4 ⟨rfl, rfl, e4⟩
  show Go p e below _ T4 (mkF m 36 _ [(.int (0 : Int32)), (.int (0 : Int32))])
  refine own_icmpYes B X4 at_36 (flt (by decide : ¬ ((0 : Int32) < (0 : Int32)))).2.1 (by decide) (pc' := 43) rfl ?_
  refine own_iconst B X4 at_43 rfl (v := (0 : Int32)) rfl ?_
  refine own_istore B X4 at_44 rfl #[.val (.int i0), .val (.int i1), .val (.int (1 : Int32)), .val (.int (3 : Int32)), .val (.ref w2), .val (.ref w1), .val (.int (0 : Int32))] rfl ?_
  refine own_aload B X4 at_46 rfl rfl rfl ?_
  refine own_aload B X4 at_48 rfl rfl rfl ?_
  refine own_callV B X4 (c3 l Z a0 hw w0 w1 w2 w3 w4 w5 w6 h0 F w2 w1 (0 : Int32) (0 : Int32) F.2.2.2.2.2.2.2.2.2.2.2.2.2.2.2.2.1 F.2.2.2.2.2.2.2.2.2.2.2.2.2.2.2.1 (0 : Int32) (by simp +decide [f3])) e4 F.2.2.2.2.2.1 (own_nf B (B.w 16 rfl)) at_50 rfl (B.w 13 rfl) (B.w 14 rfl) (B.w 16 rfl) (B.w 15 rfl) (B.w 6 rfl) (B.w 17 rfl) (by decide) (W := 0) (by decide) (by decide) rfl [(.ref w1)] [] pd2 rfl rfl rfl (Nat.le_refl _) (by decide) (by decide) ?_
  rintro T5 _ _ X5 ⟨rfl, rfl, e5⟩
  show Go p e below _ T5 (mkF m 53 _ [(.int (0 : Int32))])
  refine own_iload B X5 at_53 rfl rfl ?_
  refine own_icmpNo B X5 at_55 (teq (rfl : (0 : Int32) = (0 : Int32))).2 rfl ?_
  refine own_iconst B X5 at_58 rfl (v := (1 : Int32)) rfl ?_
  refine own_goto B X5 at_59 (by decide) (pc' := 63) rfl ?_
  exact own_retInt B X5 at_63 rfl (Or.inr (Or.inl rfl)) ⟨rfl, (Fr.app (Fr.app (Fr.app (Fr.app (Fr.app (Fr.nil n0) (Fr.nil _)) (Fr.nil _)) (Fr.nil _)) (Fr.nil _)) (Fr.nil _))⟩ (by decide) (by decide)
set_option maxRecDepth 65536 in
set_option maxHeartbeats 4000000 in
theorem law_1_4 (l : Launch) (Z : State) (a0 : Array Value) (hw : ∀ d ∈ tables_1, d.before a0 Z = true) (w0 w1 w2 w3 w4 w5 w6 : Addr) (h0 : Heap) (F : Facts Z h0 w0 w1 w2 w3 w4 w5 w6) (i0 i1 : Int32) (n0 : Nat) (Z0 : n0 ≤ h0.size) (q0 : ((i0 &&& (2147483647 : Int32)) % (7 : Int32)) = (1 : Int32)) (q1 : ((i1 &&& (2147483647 : Int32)) % (7 : Int32)) = (4 : Int32)) :
    Con l Z x code maxLocals ret tables_1 room_1 #[(.int i0), (.int i1)] h0 (Q0 n0) := by
  refine own_body (plainFor_of_name pnL) hw ?_
  intro p e s m below meth c T0 B X0 e0 hnm
  refine Go.cast (ef0 m i0 i1) ?_
  refine own_iloadN B X0 at_0 rfl rfl ?_
  refine own_ldc B X0 at_1 rfl (v := (2147483647 : Int32)) (B.w 0 rfl) ?_
  refine own_iand B X0 at_3 rfl (v := (i0 &&& (2147483647 : Int32))) rfl ?_
  refine own_bipush B X0 at_4 rfl (v := (7 : Int32)) rfl ?_
  refine own_irem B X0 at_6 rfl (by decide) (v := (1 : Int32)) q0 ?_
  refine own_istoreN B X0 at_7 rfl #[.val (.int i0), .val (.int i1), .val (.int (1 : Int32)), .unset, .unset, .unset, .unset] rfl ?_
  refine own_iloadN B X0 at_8 rfl rfl ?_
  refine own_ldc B X0 at_9 rfl (v := (2147483647 : Int32)) (B.w 0 rfl) ?_
  refine own_iand B X0 at_11 rfl (v := (i1 &&& (2147483647 : Int32))) rfl ?_
  refine own_bipush B X0 at_12 rfl (v := (7 : Int32)) rfl ?_
  refine own_irem B X0 at_14 rfl (by decide) (v := (4 : Int32)) q1 ?_
  refine own_istoreN B X0 at_15 rfl #[.val (.int i0), .val (.int i1), .val (.int (1 : Int32)), .val (.int (4 : Int32)), .unset, .unset, .unset] rfl ?_
  refine own_iloadN B X0 at_16 rfl rfl ?_
  refine own_callS B X0 (c1 l Z a0 hw w0 w1 w2 w3 w4 w5 w6 h0 F (1 : Int32)  w2 (by simp +decide [f1])) e0 at_17 rfl (B.w 1 rfl) (B.w 2 rfl) (B.w 3 rfl) (B.w 4 rfl) (by decide) (W := 0) (by decide) (by decide) rfl [(.int (1 : Int32))] [] pd0 rfl rfl rfl (Nat.le_refl _) (by decide) (by decide) ?_
  rintro T1 _ _ X1 ⟨rfl, rfl, e1⟩
  show Go p e below _ T1 (mkF m 20 _ [(.ref w2)])
  refine own_astore B X1 at_20 rfl rfl #[.val (.int i0), .val (.int i1), .val (.int (1 : Int32)), .val (.int (4 : Int32)), .val (.ref w2), .unset, .unset] rfl ?_
  refine own_iloadN B X1 at_22 rfl rfl ?_
  refine own_callS B X1 (c1 l Z a0 hw w0 w1 w2 w3 w4 w5 w6 h0 F (4 : Int32)  w5 (by simp +decide [f1])) e1 at_23 rfl (B.w 1 rfl) (B.w 2 rfl) (B.w 3 rfl) (B.w 4 rfl) (by decide) (W := 0) (by decide) (by decide) rfl [(.int (4 : Int32))] [] pd0 rfl rfl rfl (Nat.le_refl _) (by decide) (by decide) ?_
  rintro T2 _ _ X2 ⟨rfl, rfl, e2⟩
  show Go p e below _ T2 (mkF m 26 _ [(.ref w5)])
  refine own_astore B X2 at_26 rfl rfl #[.val (.int i0), .val (.int i1), .val (.int (1 : Int32)), .val (.int (4 : Int32)), .val (.ref w2), .val (.ref w5), .unset] rfl ?_
  refine own_iloadN B X2 at_28 rfl rfl ?_
  refine own_callS B X2 (c2 l Z a0 hw w0 w1 w2 w3 w4 w5 w6 h0 F (1 : Int32)  (0 : Int32) (by simp +decide [f2])) e2 at_29 rfl (B.w 10 rfl) (B.w 11 rfl) (B.w 3 rfl) (B.w 12 rfl) (by decide) (W := 0) (by decide) (by decide) rfl [(.int (1 : Int32))] [] pd1 rfl rfl rfl (Nat.le_refl _) (by decide) (by decide) ?_
  rintro T3 _ _ X3 ⟨rfl, rfl, e3⟩
  show Go p e below _ T3 (mkF m 32 _ [(.int (0 : Int32))])
  refine own_iloadN B X3 at_32 rfl rfl ?_
  refine own_callS B X3 (c2 l Z a0 hw w0 w1 w2 w3 w4 w5 w6 h0 F (4 : Int32)  (1 : Int32) (by simp +decide [f2])) e3 at_33 rfl (B.w 10 rfl) (B.w 11 rfl) (B.w 3 rfl) (B.w 12 rfl) (by decide) (W := 1) (by decide) (by decide) rfl [(.int (4 : Int32))] [(.int (0 : Int32))] pd1 rfl rfl rfl (Nat.le_refl _) (by decide) (by decide) ?_
  rintro T4 _ _ X4 ⟨rfl, rfl, e4⟩
  show Go p e below _ T4 (mkF m 36 _ [(.int (1 : Int32)), (.int (0 : Int32))])
  refine own_icmpNo B X4 at_36 (tlt (by decide : (0 : Int32) < (1 : Int32))).2.1 rfl ?_
  refine own_iconst B X4 at_39 rfl (v := (1 : Int32)) rfl ?_
  refine own_goto B X4 at_40 (by decide) (pc' := 44) rfl ?_
  refine own_istore B X4 at_44 rfl #[.val (.int i0), .val (.int i1), .val (.int (1 : Int32)), .val (.int (4 : Int32)), .val (.ref w2), .val (.ref w5), .val (.int (1 : Int32))] rfl ?_
  refine own_aload B X4 at_46 rfl rfl rfl ?_
  refine own_aload B X4 at_48 rfl rfl rfl ?_
  refine own_callV B X4 (c3 l Z a0 hw w0 w1 w2 w3 w4 w5 w6 h0 F w2 w5 (0 : Int32) (1 : Int32) F.2.2.2.2.2.2.2.2.2.2.2.2.2.2.2.2.1 F.2.2.2.2.2.2.2.2.2.2.2.2.2.2.2.2.2.2.2.1 (1 : Int32) (by simp +decide [f3])) e4 F.2.2.2.2.2.1 (own_nf B (B.w 16 rfl)) at_50 rfl (B.w 13 rfl) (B.w 14 rfl) (B.w 16 rfl) (B.w 15 rfl) (B.w 6 rfl) (B.w 17 rfl) (by decide) (W := 0) (by decide) (by decide) rfl [(.ref w5)] [] pd2 rfl rfl rfl (Nat.le_refl _) (by decide) (by decide) ?_
  rintro T5 _ _ X5 ⟨rfl, rfl, e5⟩
  show Go p e below _ T5 (mkF m 53 _ [(.int (1 : Int32))])
  refine own_iload B X5 at_53 rfl rfl ?_
  refine own_icmpNo B X5 at_55 (teq (rfl : (1 : Int32) = (1 : Int32))).2 rfl ?_
  refine own_iconst B X5 at_58 rfl (v := (1 : Int32)) rfl ?_
  refine own_goto B X5 at_59 (by decide) (pc' := 63) rfl ?_
  exact own_retInt B X5 at_63 rfl (Or.inr (Or.inl rfl)) ⟨rfl, (Fr.app (Fr.app (Fr.app (Fr.app (Fr.app (Fr.nil n0) (Fr.nil _)) (Fr.nil _)) (Fr.nil _)) (Fr.nil _)) (Fr.nil _))⟩ (by decide) (by decide)
set_option maxRecDepth 65536 in
set_option maxHeartbeats 4000000 in
theorem law_1_5 (l : Launch) (Z : State) (a0 : Array Value) (hw : ∀ d ∈ tables_1, d.before a0 Z = true) (w0 w1 w2 w3 w4 w5 w6 : Addr) (h0 : Heap) (F : Facts Z h0 w0 w1 w2 w3 w4 w5 w6) (i0 i1 : Int32) (n0 : Nat) (Z0 : n0 ≤ h0.size) (q0 : ((i0 &&& (2147483647 : Int32)) % (7 : Int32)) = (1 : Int32)) (q1 : ((i1 &&& (2147483647 : Int32)) % (7 : Int32)) = (5 : Int32)) :
    Con l Z x code maxLocals ret tables_1 room_1 #[(.int i0), (.int i1)] h0 (Q0 n0) := by
  refine own_body (plainFor_of_name pnL) hw ?_
  intro p e s m below meth c T0 B X0 e0 hnm
  refine Go.cast (ef0 m i0 i1) ?_
  refine own_iloadN B X0 at_0 rfl rfl ?_
  refine own_ldc B X0 at_1 rfl (v := (2147483647 : Int32)) (B.w 0 rfl) ?_
  refine own_iand B X0 at_3 rfl (v := (i0 &&& (2147483647 : Int32))) rfl ?_
  refine own_bipush B X0 at_4 rfl (v := (7 : Int32)) rfl ?_
  refine own_irem B X0 at_6 rfl (by decide) (v := (1 : Int32)) q0 ?_
  refine own_istoreN B X0 at_7 rfl #[.val (.int i0), .val (.int i1), .val (.int (1 : Int32)), .unset, .unset, .unset, .unset] rfl ?_
  refine own_iloadN B X0 at_8 rfl rfl ?_
  refine own_ldc B X0 at_9 rfl (v := (2147483647 : Int32)) (B.w 0 rfl) ?_
  refine own_iand B X0 at_11 rfl (v := (i1 &&& (2147483647 : Int32))) rfl ?_
  refine own_bipush B X0 at_12 rfl (v := (7 : Int32)) rfl ?_
  refine own_irem B X0 at_14 rfl (by decide) (v := (5 : Int32)) q1 ?_
  refine own_istoreN B X0 at_15 rfl #[.val (.int i0), .val (.int i1), .val (.int (1 : Int32)), .val (.int (5 : Int32)), .unset, .unset, .unset] rfl ?_
  refine own_iloadN B X0 at_16 rfl rfl ?_
  refine own_callS B X0 (c1 l Z a0 hw w0 w1 w2 w3 w4 w5 w6 h0 F (1 : Int32)  w2 (by simp +decide [f1])) e0 at_17 rfl (B.w 1 rfl) (B.w 2 rfl) (B.w 3 rfl) (B.w 4 rfl) (by decide) (W := 0) (by decide) (by decide) rfl [(.int (1 : Int32))] [] pd0 rfl rfl rfl (Nat.le_refl _) (by decide) (by decide) ?_
  rintro T1 _ _ X1 ⟨rfl, rfl, e1⟩
  show Go p e below _ T1 (mkF m 20 _ [(.ref w2)])
  refine own_astore B X1 at_20 rfl rfl #[.val (.int i0), .val (.int i1), .val (.int (1 : Int32)), .val (.int (5 : Int32)), .val (.ref w2), .unset, .unset] rfl ?_
  refine own_iloadN B X1 at_22 rfl rfl ?_
  refine own_callS B X1 (c1 l Z a0 hw w0 w1 w2 w3 w4 w5 w6 h0 F (5 : Int32)  w3 (by simp +decide [f1])) e1 at_23 rfl (B.w 1 rfl) (B.w 2 rfl) (B.w 3 rfl) (B.w 4 rfl) (by decide) (W := 0) (by decide) (by decide) rfl [(.int (5 : Int32))] [] pd0 rfl rfl rfl (Nat.le_refl _) (by decide) (by decide) ?_
  rintro T2 _ _ X2 ⟨rfl, rfl, e2⟩
  show Go p e below _ T2 (mkF m 26 _ [(.ref w3)])
  refine own_astore B X2 at_26 rfl rfl #[.val (.int i0), .val (.int i1), .val (.int (1 : Int32)), .val (.int (5 : Int32)), .val (.ref w2), .val (.ref w3), .unset] rfl ?_
  refine own_iloadN B X2 at_28 rfl rfl ?_
  refine own_callS B X2 (c2 l Z a0 hw w0 w1 w2 w3 w4 w5 w6 h0 F (1 : Int32)  (0 : Int32) (by simp +decide [f2])) e2 at_29 rfl (B.w 10 rfl) (B.w 11 rfl) (B.w 3 rfl) (B.w 12 rfl) (by decide) (W := 0) (by decide) (by decide) rfl [(.int (1 : Int32))] [] pd1 rfl rfl rfl (Nat.le_refl _) (by decide) (by decide) ?_
  rintro T3 _ _ X3 ⟨rfl, rfl, e3⟩
  show Go p e below _ T3 (mkF m 32 _ [(.int (0 : Int32))])
  refine own_iloadN B X3 at_32 rfl rfl ?_
  refine own_callS B X3 (c2 l Z a0 hw w0 w1 w2 w3 w4 w5 w6 h0 F (5 : Int32)  (1 : Int32) (by simp +decide [f2])) e3 at_33 rfl (B.w 10 rfl) (B.w 11 rfl) (B.w 3 rfl) (B.w 12 rfl) (by decide) (W := 1) (by decide) (by decide) rfl [(.int (5 : Int32))] [(.int (0 : Int32))] pd1 rfl rfl rfl (Nat.le_refl _) (by decide) (by decide) ?_
  rintro T4 _ _ X4 ⟨rfl, rfl, e4⟩
  show Go p e below _ T4 (mkF m 36 _ [(.int (1 : Int32)), (.int (0 : Int32))])
  refine own_icmpNo B X4 at_36 (tlt (by decide : (0 : Int32) < (1 : Int32))).2.1 rfl ?_
  refine own_iconst B X4 at_39 rfl (v := (1 : Int32)) rfl ?_
  refine own_goto B X4 at_40 (by decide) (pc' := 44) rfl ?_
  refine own_istore B X4 at_44 rfl #[.val (.int i0), .val (.int i1), .val (.int (1 : Int32)), .val (.int (5 : Int32)), .val (.ref w2), .val (.ref w3), .val (.int (1 : Int32))] rfl ?_
  refine own_aload B X4 at_46 rfl rfl rfl ?_
  refine own_aload B X4 at_48 rfl rfl rfl ?_
  refine own_callV B X4 (c3 l Z a0 hw w0 w1 w2 w3 w4 w5 w6 h0 F w2 w3 (0 : Int32) (1 : Int32) F.2.2.2.2.2.2.2.2.2.2.2.2.2.2.2.2.1 F.2.2.2.2.2.2.2.2.2.2.2.2.2.2.2.2.2.1 (1 : Int32) (by simp +decide [f3])) e4 F.2.2.2.2.2.1 (own_nf B (B.w 16 rfl)) at_50 rfl (B.w 13 rfl) (B.w 14 rfl) (B.w 16 rfl) (B.w 15 rfl) (B.w 6 rfl) (B.w 17 rfl) (by decide) (W := 0) (by decide) (by decide) rfl [(.ref w3)] [] pd2 rfl rfl rfl (Nat.le_refl _) (by decide) (by decide) ?_
  rintro T5 _ _ X5 ⟨rfl, rfl, e5⟩
  show Go p e below _ T5 (mkF m 53 _ [(.int (1 : Int32))])
  refine own_iload B X5 at_53 rfl rfl ?_
  refine own_icmpNo B X5 at_55 (teq (rfl : (1 : Int32) = (1 : Int32))).2 rfl ?_
  refine own_iconst B X5 at_58 rfl (v := (1 : Int32)) rfl ?_
  refine own_goto B X5 at_59 (by decide) (pc' := 63) rfl ?_
  exact own_retInt B X5 at_63 rfl (Or.inr (Or.inl rfl)) ⟨rfl, (Fr.app (Fr.app (Fr.app (Fr.app (Fr.app (Fr.nil n0) (Fr.nil _)) (Fr.nil _)) (Fr.nil _)) (Fr.nil _)) (Fr.nil _))⟩ (by decide) (by decide)
set_option maxRecDepth 65536 in
set_option maxHeartbeats 4000000 in
theorem law_1_6 (l : Launch) (Z : State) (a0 : Array Value) (hw : ∀ d ∈ tables_1, d.before a0 Z = true) (w0 w1 w2 w3 w4 w5 w6 : Addr) (h0 : Heap) (F : Facts Z h0 w0 w1 w2 w3 w4 w5 w6) (i0 i1 : Int32) (n0 : Nat) (Z0 : n0 ≤ h0.size) (q0 : ((i0 &&& (2147483647 : Int32)) % (7 : Int32)) = (1 : Int32)) (q1 : ((i1 &&& (2147483647 : Int32)) % (7 : Int32)) = (6 : Int32)) :
    Con l Z x code maxLocals ret tables_1 room_1 #[(.int i0), (.int i1)] h0 (Q0 n0) := by
  refine own_body (plainFor_of_name pnL) hw ?_
  intro p e s m below meth c T0 B X0 e0 hnm
  refine Go.cast (ef0 m i0 i1) ?_
  refine own_iloadN B X0 at_0 rfl rfl ?_
  refine own_ldc B X0 at_1 rfl (v := (2147483647 : Int32)) (B.w 0 rfl) ?_
  refine own_iand B X0 at_3 rfl (v := (i0 &&& (2147483647 : Int32))) rfl ?_
  refine own_bipush B X0 at_4 rfl (v := (7 : Int32)) rfl ?_
  refine own_irem B X0 at_6 rfl (by decide) (v := (1 : Int32)) q0 ?_
  refine own_istoreN B X0 at_7 rfl #[.val (.int i0), .val (.int i1), .val (.int (1 : Int32)), .unset, .unset, .unset, .unset] rfl ?_
  refine own_iloadN B X0 at_8 rfl rfl ?_
  refine own_ldc B X0 at_9 rfl (v := (2147483647 : Int32)) (B.w 0 rfl) ?_
  refine own_iand B X0 at_11 rfl (v := (i1 &&& (2147483647 : Int32))) rfl ?_
  refine own_bipush B X0 at_12 rfl (v := (7 : Int32)) rfl ?_
  refine own_irem B X0 at_14 rfl (by decide) (v := (6 : Int32)) q1 ?_
  refine own_istoreN B X0 at_15 rfl #[.val (.int i0), .val (.int i1), .val (.int (1 : Int32)), .val (.int (6 : Int32)), .unset, .unset, .unset] rfl ?_
  refine own_iloadN B X0 at_16 rfl rfl ?_
  refine own_callS B X0 (c1 l Z a0 hw w0 w1 w2 w3 w4 w5 w6 h0 F (1 : Int32)  w2 (by simp +decide [f1])) e0 at_17 rfl (B.w 1 rfl) (B.w 2 rfl) (B.w 3 rfl) (B.w 4 rfl) (by decide) (W := 0) (by decide) (by decide) rfl [(.int (1 : Int32))] [] pd0 rfl rfl rfl (Nat.le_refl _) (by decide) (by decide) ?_
  rintro T1 _ _ X1 ⟨rfl, rfl, e1⟩
  show Go p e below _ T1 (mkF m 20 _ [(.ref w2)])
  refine own_astore B X1 at_20 rfl rfl #[.val (.int i0), .val (.int i1), .val (.int (1 : Int32)), .val (.int (6 : Int32)), .val (.ref w2), .unset, .unset] rfl ?_
  refine own_iloadN B X1 at_22 rfl rfl ?_
  refine own_callS B X1 (c1 l Z a0 hw w0 w1 w2 w3 w4 w5 w6 h0 F (6 : Int32)  w6 (by simp +decide [f1])) e1 at_23 rfl (B.w 1 rfl) (B.w 2 rfl) (B.w 3 rfl) (B.w 4 rfl) (by decide) (W := 0) (by decide) (by decide) rfl [(.int (6 : Int32))] [] pd0 rfl rfl rfl (Nat.le_refl _) (by decide) (by decide) ?_
  rintro T2 _ _ X2 ⟨rfl, rfl, e2⟩
  show Go p e below _ T2 (mkF m 26 _ [(.ref w6)])
  refine own_astore B X2 at_26 rfl rfl #[.val (.int i0), .val (.int i1), .val (.int (1 : Int32)), .val (.int (6 : Int32)), .val (.ref w2), .val (.ref w6), .unset] rfl ?_
  refine own_iloadN B X2 at_28 rfl rfl ?_
  refine own_callS B X2 (c2 l Z a0 hw w0 w1 w2 w3 w4 w5 w6 h0 F (1 : Int32)  (0 : Int32) (by simp +decide [f2])) e2 at_29 rfl (B.w 10 rfl) (B.w 11 rfl) (B.w 3 rfl) (B.w 12 rfl) (by decide) (W := 0) (by decide) (by decide) rfl [(.int (1 : Int32))] [] pd1 rfl rfl rfl (Nat.le_refl _) (by decide) (by decide) ?_
  rintro T3 _ _ X3 ⟨rfl, rfl, e3⟩
  show Go p e below _ T3 (mkF m 32 _ [(.int (0 : Int32))])
  refine own_iloadN B X3 at_32 rfl rfl ?_
  refine own_callS B X3 (c2 l Z a0 hw w0 w1 w2 w3 w4 w5 w6 h0 F (6 : Int32)  (2 : Int32) (by simp +decide [f2])) e3 at_33 rfl (B.w 10 rfl) (B.w 11 rfl) (B.w 3 rfl) (B.w 12 rfl) (by decide) (W := 1) (by decide) (by decide) rfl [(.int (6 : Int32))] [(.int (0 : Int32))] pd1 rfl rfl rfl (Nat.le_refl _) (by decide) (by decide) ?_
  rintro T4 _ _ X4 ⟨rfl, rfl, e4⟩
  show Go p e below _ T4 (mkF m 36 _ [(.int (2 : Int32)), (.int (0 : Int32))])
  refine own_icmpNo B X4 at_36 (tlt (by decide : (0 : Int32) < (2 : Int32))).2.1 rfl ?_
  refine own_iconst B X4 at_39 rfl (v := (1 : Int32)) rfl ?_
  refine own_goto B X4 at_40 (by decide) (pc' := 44) rfl ?_
  refine own_istore B X4 at_44 rfl #[.val (.int i0), .val (.int i1), .val (.int (1 : Int32)), .val (.int (6 : Int32)), .val (.ref w2), .val (.ref w6), .val (.int (1 : Int32))] rfl ?_
  refine own_aload B X4 at_46 rfl rfl rfl ?_
  refine own_aload B X4 at_48 rfl rfl rfl ?_
  refine own_callV B X4 (c3 l Z a0 hw w0 w1 w2 w3 w4 w5 w6 h0 F w2 w6 (0 : Int32) (2 : Int32) F.2.2.2.2.2.2.2.2.2.2.2.2.2.2.2.2.1 F.2.2.2.2.2.2.2.2.2.2.2.2.2.2.2.2.2.2.2.2.1 (1 : Int32) (by simp +decide [f3])) e4 F.2.2.2.2.2.1 (own_nf B (B.w 16 rfl)) at_50 rfl (B.w 13 rfl) (B.w 14 rfl) (B.w 16 rfl) (B.w 15 rfl) (B.w 6 rfl) (B.w 17 rfl) (by decide) (W := 0) (by decide) (by decide) rfl [(.ref w6)] [] pd2 rfl rfl rfl (Nat.le_refl _) (by decide) (by decide) ?_
  rintro T5 _ _ X5 ⟨rfl, rfl, e5⟩
  show Go p e below _ T5 (mkF m 53 _ [(.int (1 : Int32))])
  refine own_iload B X5 at_53 rfl rfl ?_
  refine own_icmpNo B X5 at_55 (teq (rfl : (1 : Int32) = (1 : Int32))).2 rfl ?_
  refine own_iconst B X5 at_58 rfl (v := (1 : Int32)) rfl ?_
  refine own_goto B X5 at_59 (by decide) (pc' := 63) rfl ?_
  exact own_retInt B X5 at_63 rfl (Or.inr (Or.inl rfl)) ⟨rfl, (Fr.app (Fr.app (Fr.app (Fr.app (Fr.app (Fr.nil n0) (Fr.nil _)) (Fr.nil _)) (Fr.nil _)) (Fr.nil _)) (Fr.nil _))⟩ (by decide) (by decide)
set_option maxRecDepth 65536 in
set_option maxHeartbeats 4000000 in
theorem law_2_0 (l : Launch) (Z : State) (a0 : Array Value) (hw : ∀ d ∈ tables_1, d.before a0 Z = true) (w0 w1 w2 w3 w4 w5 w6 : Addr) (h0 : Heap) (F : Facts Z h0 w0 w1 w2 w3 w4 w5 w6) (i0 i1 : Int32) (n0 : Nat) (Z0 : n0 ≤ h0.size) (q0 : ((i0 &&& (2147483647 : Int32)) % (7 : Int32)) = (2 : Int32)) (q1 : ((i1 &&& (2147483647 : Int32)) % (7 : Int32)) = (0 : Int32)) :
    Con l Z x code maxLocals ret tables_1 room_1 #[(.int i0), (.int i1)] h0 (Q0 n0) := by
  refine own_body (plainFor_of_name pnL) hw ?_
  intro p e s m below meth c T0 B X0 e0 hnm
  refine Go.cast (ef0 m i0 i1) ?_
  refine own_iloadN B X0 at_0 rfl rfl ?_
  refine own_ldc B X0 at_1 rfl (v := (2147483647 : Int32)) (B.w 0 rfl) ?_
  refine own_iand B X0 at_3 rfl (v := (i0 &&& (2147483647 : Int32))) rfl ?_
  refine own_bipush B X0 at_4 rfl (v := (7 : Int32)) rfl ?_
  refine own_irem B X0 at_6 rfl (by decide) (v := (2 : Int32)) q0 ?_
  refine own_istoreN B X0 at_7 rfl #[.val (.int i0), .val (.int i1), .val (.int (2 : Int32)), .unset, .unset, .unset, .unset] rfl ?_
  refine own_iloadN B X0 at_8 rfl rfl ?_
  refine own_ldc B X0 at_9 rfl (v := (2147483647 : Int32)) (B.w 0 rfl) ?_
  refine own_iand B X0 at_11 rfl (v := (i1 &&& (2147483647 : Int32))) rfl ?_
  refine own_bipush B X0 at_12 rfl (v := (7 : Int32)) rfl ?_
  refine own_irem B X0 at_14 rfl (by decide) (v := (0 : Int32)) q1 ?_
  refine own_istoreN B X0 at_15 rfl #[.val (.int i0), .val (.int i1), .val (.int (2 : Int32)), .val (.int (0 : Int32)), .unset, .unset, .unset] rfl ?_
  refine own_iloadN B X0 at_16 rfl rfl ?_
  refine own_callS B X0 (c1 l Z a0 hw w0 w1 w2 w3 w4 w5 w6 h0 F (2 : Int32)  w4 (by simp +decide [f1])) e0 at_17 rfl (B.w 1 rfl) (B.w 2 rfl) (B.w 3 rfl) (B.w 4 rfl) (by decide) (W := 0) (by decide) (by decide) rfl [(.int (2 : Int32))] [] pd0 rfl rfl rfl (Nat.le_refl _) (by decide) (by decide) ?_
  rintro T1 _ _ X1 ⟨rfl, rfl, e1⟩
  show Go p e below _ T1 (mkF m 20 _ [(.ref w4)])
  refine own_astore B X1 at_20 rfl rfl #[.val (.int i0), .val (.int i1), .val (.int (2 : Int32)), .val (.int (0 : Int32)), .val (.ref w4), .unset, .unset] rfl ?_
  refine own_iloadN B X1 at_22 rfl rfl ?_
  refine own_callS B X1 (c1 l Z a0 hw w0 w1 w2 w3 w4 w5 w6 h0 F (0 : Int32)  w0 (by simp +decide [f1])) e1 at_23 rfl (B.w 1 rfl) (B.w 2 rfl) (B.w 3 rfl) (B.w 4 rfl) (by decide) (W := 0) (by decide) (by decide) rfl [(.int (0 : Int32))] [] pd0 rfl rfl rfl (Nat.le_refl _) (by decide) (by decide) ?_
  rintro T2 _ _ X2 ⟨rfl, rfl, e2⟩
  show Go p e below _ T2 (mkF m 26 _ [(.ref w0)])
  refine own_astore B X2 at_26 rfl rfl #[.val (.int i0), .val (.int i1), .val (.int (2 : Int32)), .val (.int (0 : Int32)), .val (.ref w4), .val (.ref w0), .unset] rfl ?_
  refine own_iloadN B X2 at_28 rfl rfl ?_
  refine own_callS B X2 (c2 l Z a0 hw w0 w1 w2 w3 w4 w5 w6 h0 F (2 : Int32)  (0 : Int32) (by simp +decide [f2])) e2 at_29 rfl (B.w 10 rfl) (B.w 11 rfl) (B.w 3 rfl) (B.w 12 rfl) (by decide) (W := 0) (by decide) (by decide) rfl [(.int (2 : Int32))] [] pd1 rfl rfl rfl (Nat.le_refl _) (by decide) (by decide) ?_
  rintro T3 _ _ X3 ⟨rfl, rfl, e3⟩
  show Go p e below _ T3 (mkF m 32 _ [(.int (0 : Int32))])
  refine own_iloadN B X3 at_32 rfl rfl ?_
  refine own_callS B X3 (c2 l Z a0 hw w0 w1 w2 w3 w4 w5 w6 h0 F (0 : Int32)  (0 : Int32) (by simp +decide [f2])) e3 at_33 rfl (B.w 10 rfl) (B.w 11 rfl) (B.w 3 rfl) (B.w 12 rfl) (by decide) (W := 1) (by decide) (by decide) rfl [(.int (0 : Int32))] [(.int (0 : Int32))] pd1 rfl rfl rfl (Nat.le_refl _) (by decide) (by decide) ?_
  rintro T4 _ _ X4 ⟨rfl, rfl, e4⟩
  show Go p e below _ T4 (mkF m 36 _ [(.int (0 : Int32)), (.int (0 : Int32))])
  refine own_icmpYes B X4 at_36 (flt (by decide : ¬ ((0 : Int32) < (0 : Int32)))).2.1 (by decide) (pc' := 43) rfl ?_
  refine own_iconst B X4 at_43 rfl (v := (0 : Int32)) rfl ?_
  refine own_istore B X4 at_44 rfl #[.val (.int i0), .val (.int i1), .val (.int (2 : Int32)), .val (.int (0 : Int32)), .val (.ref w4), .val (.ref w0), .val (.int (0 : Int32))] rfl ?_
  refine own_aload B X4 at_46 rfl rfl rfl ?_
  refine own_aload B X4 at_48 rfl rfl rfl ?_
  refine own_callV B X4 (c3 l Z a0 hw w0 w1 w2 w3 w4 w5 w6 h0 F w4 w0 (0 : Int32) (0 : Int32) F.2.2.2.2.2.2.2.2.2.2.2.2.2.2.2.2.2.2.1 F.2.2.2.2.2.2.2.2.2.2.2.2.2.2.1 (0 : Int32) (by simp +decide [f3])) e4 F.2.2.2.2.2.2.2.2.2.1 (own_nf B (B.w 16 rfl)) at_50 rfl (B.w 13 rfl) (B.w 14 rfl) (B.w 16 rfl) (B.w 15 rfl) (B.w 6 rfl) (B.w 17 rfl) (by decide) (W := 0) (by decide) (by decide) rfl [(.ref w0)] [] pd2 rfl rfl rfl (Nat.le_refl _) (by decide) (by decide) ?_
  rintro T5 _ _ X5 ⟨rfl, rfl, e5⟩
  show Go p e below _ T5 (mkF m 53 _ [(.int (0 : Int32))])
  refine own_iload B X5 at_53 rfl rfl ?_
  refine own_icmpNo B X5 at_55 (teq (rfl : (0 : Int32) = (0 : Int32))).2 rfl ?_
  refine own_iconst B X5 at_58 rfl (v := (1 : Int32)) rfl ?_
  refine own_goto B X5 at_59 (by decide) (pc' := 63) rfl ?_
  exact own_retInt B X5 at_63 rfl (Or.inr (Or.inl rfl)) ⟨rfl, (Fr.app (Fr.app (Fr.app (Fr.app (Fr.app (Fr.nil n0) (Fr.nil _)) (Fr.nil _)) (Fr.nil _)) (Fr.nil _)) (Fr.nil _))⟩ (by decide) (by decide)
set_option maxRecDepth 65536 in
set_option maxHeartbeats 4000000 in
theorem law_2_1 (l : Launch) (Z : State) (a0 : Array Value) (hw : ∀ d ∈ tables_1, d.before a0 Z = true) (w0 w1 w2 w3 w4 w5 w6 : Addr) (h0 : Heap) (F : Facts Z h0 w0 w1 w2 w3 w4 w5 w6) (i0 i1 : Int32) (n0 : Nat) (Z0 : n0 ≤ h0.size) (q0 : ((i0 &&& (2147483647 : Int32)) % (7 : Int32)) = (2 : Int32)) (q1 : ((i1 &&& (2147483647 : Int32)) % (7 : Int32)) = (1 : Int32)) :
    Con l Z x code maxLocals ret tables_1 room_1 #[(.int i0), (.int i1)] h0 (Q0 n0) := by
  refine own_body (plainFor_of_name pnL) hw ?_
  intro p e s m below meth c T0 B X0 e0 hnm
  refine Go.cast (ef0 m i0 i1) ?_
  refine own_iloadN B X0 at_0 rfl rfl ?_
  refine own_ldc B X0 at_1 rfl (v := (2147483647 : Int32)) (B.w 0 rfl) ?_
  refine own_iand B X0 at_3 rfl (v := (i0 &&& (2147483647 : Int32))) rfl ?_
  refine own_bipush B X0 at_4 rfl (v := (7 : Int32)) rfl ?_
  refine own_irem B X0 at_6 rfl (by decide) (v := (2 : Int32)) q0 ?_
  refine own_istoreN B X0 at_7 rfl #[.val (.int i0), .val (.int i1), .val (.int (2 : Int32)), .unset, .unset, .unset, .unset] rfl ?_
  refine own_iloadN B X0 at_8 rfl rfl ?_
  refine own_ldc B X0 at_9 rfl (v := (2147483647 : Int32)) (B.w 0 rfl) ?_
  refine own_iand B X0 at_11 rfl (v := (i1 &&& (2147483647 : Int32))) rfl ?_
  refine own_bipush B X0 at_12 rfl (v := (7 : Int32)) rfl ?_
  refine own_irem B X0 at_14 rfl (by decide) (v := (1 : Int32)) q1 ?_
  refine own_istoreN B X0 at_15 rfl #[.val (.int i0), .val (.int i1), .val (.int (2 : Int32)), .val (.int (1 : Int32)), .unset, .unset, .unset] rfl ?_
  refine own_iloadN B X0 at_16 rfl rfl ?_
  refine own_callS B X0 (c1 l Z a0 hw w0 w1 w2 w3 w4 w5 w6 h0 F (2 : Int32)  w4 (by simp +decide [f1])) e0 at_17 rfl (B.w 1 rfl) (B.w 2 rfl) (B.w 3 rfl) (B.w 4 rfl) (by decide) (W := 0) (by decide) (by decide) rfl [(.int (2 : Int32))] [] pd0 rfl rfl rfl (Nat.le_refl _) (by decide) (by decide) ?_
  rintro T1 _ _ X1 ⟨rfl, rfl, e1⟩
  show Go p e below _ T1 (mkF m 20 _ [(.ref w4)])
  refine own_astore B X1 at_20 rfl rfl #[.val (.int i0), .val (.int i1), .val (.int (2 : Int32)), .val (.int (1 : Int32)), .val (.ref w4), .unset, .unset] rfl ?_
  refine own_iloadN B X1 at_22 rfl rfl ?_
  refine own_callS B X1 (c1 l Z a0 hw w0 w1 w2 w3 w4 w5 w6 h0 F (1 : Int32)  w2 (by simp +decide [f1])) e1 at_23 rfl (B.w 1 rfl) (B.w 2 rfl) (B.w 3 rfl) (B.w 4 rfl) (by decide) (W := 0) (by decide) (by decide) rfl [(.int (1 : Int32))] [] pd0 rfl rfl rfl (Nat.le_refl _) (by decide) (by decide) ?_
  rintro T2 _ _ X2 ⟨rfl, rfl, e2⟩
  show Go p e below _ T2 (mkF m 26 _ [(.ref w2)])
  refine own_astore B X2 at_26 rfl rfl #[.val (.int i0), .val (.int i1), .val (.int (2 : Int32)), .val (.int (1 : Int32)), .val (.ref w4), .val (.ref w2), .unset] rfl ?_
  refine own_iloadN B X2 at_28 rfl rfl ?_
  refine own_callS B X2 (c2 l Z a0 hw w0 w1 w2 w3 w4 w5 w6 h0 F (2 : Int32)  (0 : Int32) (by simp +decide [f2])) e2 at_29 rfl (B.w 10 rfl) (B.w 11 rfl) (B.w 3 rfl) (B.w 12 rfl) (by decide) (W := 0) (by decide) (by decide) rfl [(.int (2 : Int32))] [] pd1 rfl rfl rfl (Nat.le_refl _) (by decide) (by decide) ?_
  rintro T3 _ _ X3 ⟨rfl, rfl, e3⟩
  show Go p e below _ T3 (mkF m 32 _ [(.int (0 : Int32))])
  refine own_iloadN B X3 at_32 rfl rfl ?_
  refine own_callS B X3 (c2 l Z a0 hw w0 w1 w2 w3 w4 w5 w6 h0 F (1 : Int32)  (0 : Int32) (by simp +decide [f2])) e3 at_33 rfl (B.w 10 rfl) (B.w 11 rfl) (B.w 3 rfl) (B.w 12 rfl) (by decide) (W := 1) (by decide) (by decide) rfl [(.int (1 : Int32))] [(.int (0 : Int32))] pd1 rfl rfl rfl (Nat.le_refl _) (by decide) (by decide) ?_
  rintro T4 _ _ X4 ⟨rfl, rfl, e4⟩
  show Go p e below _ T4 (mkF m 36 _ [(.int (0 : Int32)), (.int (0 : Int32))])
  refine own_icmpYes B X4 at_36 (flt (by decide : ¬ ((0 : Int32) < (0 : Int32)))).2.1 (by decide) (pc' := 43) rfl ?_
  refine own_iconst B X4 at_43 rfl (v := (0 : Int32)) rfl ?_
  refine own_istore B X4 at_44 rfl #[.val (.int i0), .val (.int i1), .val (.int (2 : Int32)), .val (.int (1 : Int32)), .val (.ref w4), .val (.ref w2), .val (.int (0 : Int32))] rfl ?_
  refine own_aload B X4 at_46 rfl rfl rfl ?_
  refine own_aload B X4 at_48 rfl rfl rfl ?_
  refine own_callV B X4 (c3 l Z a0 hw w0 w1 w2 w3 w4 w5 w6 h0 F w4 w2 (0 : Int32) (0 : Int32) F.2.2.2.2.2.2.2.2.2.2.2.2.2.2.2.2.2.2.1 F.2.2.2.2.2.2.2.2.2.2.2.2.2.2.2.2.1 (0 : Int32) (by simp +decide [f3])) e4 F.2.2.2.2.2.2.2.2.2.1 (own_nf B (B.w 16 rfl)) at_50 rfl (B.w 13 rfl) (B.w 14 rfl) (B.w 16 rfl) (B.w 15 rfl) (B.w 6 rfl) (B.w 17 rfl) (by decide) (W := 0) (by decide) (by decide) rfl [(.ref w2)] [] pd2 rfl rfl rfl (Nat.le_refl _) (by decide) (by decide) ?_
  rintro T5 _ _ X5 ⟨rfl, rfl, e5⟩
  show Go p e below _ T5 (mkF m 53 _ [(.int (0 : Int32))])
  refine own_iload B X5 at_53 rfl rfl ?_
  refine own_icmpNo B X5 at_55 (teq (rfl : (0 : Int32) = (0 : Int32))).2 rfl ?_
  refine own_iconst B X5 at_58 rfl (v := (1 : Int32)) rfl ?_
  refine own_goto B X5 at_59 (by decide) (pc' := 63) rfl ?_
  exact own_retInt B X5 at_63 rfl (Or.inr (Or.inl rfl)) ⟨rfl, (Fr.app (Fr.app (Fr.app (Fr.app (Fr.app (Fr.nil n0) (Fr.nil _)) (Fr.nil _)) (Fr.nil _)) (Fr.nil _)) (Fr.nil _))⟩ (by decide) (by decide)
set_option maxRecDepth 65536 in
set_option maxHeartbeats 4000000 in
theorem law_2_2 (l : Launch) (Z : State) (a0 : Array Value) (hw : ∀ d ∈ tables_1, d.before a0 Z = true) (w0 w1 w2 w3 w4 w5 w6 : Addr) (h0 : Heap) (F : Facts Z h0 w0 w1 w2 w3 w4 w5 w6) (i0 i1 : Int32) (n0 : Nat) (Z0 : n0 ≤ h0.size) (q0 : ((i0 &&& (2147483647 : Int32)) % (7 : Int32)) = (2 : Int32)) (q1 : ((i1 &&& (2147483647 : Int32)) % (7 : Int32)) = (2 : Int32)) :
    Con l Z x code maxLocals ret tables_1 room_1 #[(.int i0), (.int i1)] h0 (Q0 n0) := by
  refine own_body (plainFor_of_name pnL) hw ?_
  intro p e s m below meth c T0 B X0 e0 hnm
  refine Go.cast (ef0 m i0 i1) ?_
  refine own_iloadN B X0 at_0 rfl rfl ?_
  refine own_ldc B X0 at_1 rfl (v := (2147483647 : Int32)) (B.w 0 rfl) ?_
  refine own_iand B X0 at_3 rfl (v := (i0 &&& (2147483647 : Int32))) rfl ?_
  refine own_bipush B X0 at_4 rfl (v := (7 : Int32)) rfl ?_
  refine own_irem B X0 at_6 rfl (by decide) (v := (2 : Int32)) q0 ?_
  refine own_istoreN B X0 at_7 rfl #[.val (.int i0), .val (.int i1), .val (.int (2 : Int32)), .unset, .unset, .unset, .unset] rfl ?_
  refine own_iloadN B X0 at_8 rfl rfl ?_
  refine own_ldc B X0 at_9 rfl (v := (2147483647 : Int32)) (B.w 0 rfl) ?_
  refine own_iand B X0 at_11 rfl (v := (i1 &&& (2147483647 : Int32))) rfl ?_
  refine own_bipush B X0 at_12 rfl (v := (7 : Int32)) rfl ?_
  refine own_irem B X0 at_14 rfl (by decide) (v := (2 : Int32)) q1 ?_
  refine own_istoreN B X0 at_15 rfl #[.val (.int i0), .val (.int i1), .val (.int (2 : Int32)), .val (.int (2 : Int32)), .unset, .unset, .unset] rfl ?_
  refine own_iloadN B X0 at_16 rfl rfl ?_
  refine own_callS B X0 (c1 l Z a0 hw w0 w1 w2 w3 w4 w5 w6 h0 F (2 : Int32)  w4 (by simp +decide [f1])) e0 at_17 rfl (B.w 1 rfl) (B.w 2 rfl) (B.w 3 rfl) (B.w 4 rfl) (by decide) (W := 0) (by decide) (by decide) rfl [(.int (2 : Int32))] [] pd0 rfl rfl rfl (Nat.le_refl _) (by decide) (by decide) ?_
  rintro T1 _ _ X1 ⟨rfl, rfl, e1⟩
  show Go p e below _ T1 (mkF m 20 _ [(.ref w4)])
  refine own_astore B X1 at_20 rfl rfl #[.val (.int i0), .val (.int i1), .val (.int (2 : Int32)), .val (.int (2 : Int32)), .val (.ref w4), .unset, .unset] rfl ?_
  refine own_iloadN B X1 at_22 rfl rfl ?_
  refine own_callS B X1 (c1 l Z a0 hw w0 w1 w2 w3 w4 w5 w6 h0 F (2 : Int32)  w4 (by simp +decide [f1])) e1 at_23 rfl (B.w 1 rfl) (B.w 2 rfl) (B.w 3 rfl) (B.w 4 rfl) (by decide) (W := 0) (by decide) (by decide) rfl [(.int (2 : Int32))] [] pd0 rfl rfl rfl (Nat.le_refl _) (by decide) (by decide) ?_
  rintro T2 _ _ X2 ⟨rfl, rfl, e2⟩
  show Go p e below _ T2 (mkF m 26 _ [(.ref w4)])
  refine own_astore B X2 at_26 rfl rfl #[.val (.int i0), .val (.int i1), .val (.int (2 : Int32)), .val (.int (2 : Int32)), .val (.ref w4), .val (.ref w4), .unset] rfl ?_
  refine own_iloadN B X2 at_28 rfl rfl ?_
  refine own_callS B X2 (c2 l Z a0 hw w0 w1 w2 w3 w4 w5 w6 h0 F (2 : Int32)  (0 : Int32) (by simp +decide [f2])) e2 at_29 rfl (B.w 10 rfl) (B.w 11 rfl) (B.w 3 rfl) (B.w 12 rfl) (by decide) (W := 0) (by decide) (by decide) rfl [(.int (2 : Int32))] [] pd1 rfl rfl rfl (Nat.le_refl _) (by decide) (by decide) ?_
  rintro T3 _ _ X3 ⟨rfl, rfl, e3⟩
  show Go p e below _ T3 (mkF m 32 _ [(.int (0 : Int32))])
  refine own_iloadN B X3 at_32 rfl rfl ?_
  refine own_callS B X3 (c2 l Z a0 hw w0 w1 w2 w3 w4 w5 w6 h0 F (2 : Int32)  (0 : Int32) (by simp +decide [f2])) e3 at_33 rfl (B.w 10 rfl) (B.w 11 rfl) (B.w 3 rfl) (B.w 12 rfl) (by decide) (W := 1) (by decide) (by decide) rfl [(.int (2 : Int32))] [(.int (0 : Int32))] pd1 rfl rfl rfl (Nat.le_refl _) (by decide) (by decide) ?_
  rintro T4 _ _ X4 ⟨rfl, rfl, e4⟩
  show Go p e below _ T4 (mkF m 36 _ [(.int (0 : Int32)), (.int (0 : Int32))])
  refine own_icmpYes B X4 at_36 (flt (by decide : ¬ ((0 : Int32) < (0 : Int32)))).2.1 (by decide) (pc' := 43) rfl ?_
  refine own_iconst B X4 at_43 rfl (v := (0 : Int32)) rfl ?_
  refine own_istore B X4 at_44 rfl #[.val (.int i0), .val (.int i1), .val (.int (2 : Int32)), .val (.int (2 : Int32)), .val (.ref w4), .val (.ref w4), .val (.int (0 : Int32))] rfl ?_
  refine own_aload B X4 at_46 rfl rfl rfl ?_
  refine own_aload B X4 at_48 rfl rfl rfl ?_
  refine own_callV B X4 (c3 l Z a0 hw w0 w1 w2 w3 w4 w5 w6 h0 F w4 w4 (0 : Int32) (0 : Int32) F.2.2.2.2.2.2.2.2.2.2.2.2.2.2.2.2.2.2.1 F.2.2.2.2.2.2.2.2.2.2.2.2.2.2.2.2.2.2.1 (0 : Int32) (by simp +decide [f3])) e4 F.2.2.2.2.2.2.2.2.2.1 (own_nf B (B.w 16 rfl)) at_50 rfl (B.w 13 rfl) (B.w 14 rfl) (B.w 16 rfl) (B.w 15 rfl) (B.w 6 rfl) (B.w 17 rfl) (by decide) (W := 0) (by decide) (by decide) rfl [(.ref w4)] [] pd2 rfl rfl rfl (Nat.le_refl _) (by decide) (by decide) ?_
  rintro T5 _ _ X5 ⟨rfl, rfl, e5⟩
  show Go p e below _ T5 (mkF m 53 _ [(.int (0 : Int32))])
  refine own_iload B X5 at_53 rfl rfl ?_
  refine own_icmpNo B X5 at_55 (teq (rfl : (0 : Int32) = (0 : Int32))).2 rfl ?_
  refine own_iconst B X5 at_58 rfl (v := (1 : Int32)) rfl ?_
  refine own_goto B X5 at_59 (by decide) (pc' := 63) rfl ?_
  exact own_retInt B X5 at_63 rfl (Or.inr (Or.inl rfl)) ⟨rfl, (Fr.app (Fr.app (Fr.app (Fr.app (Fr.app (Fr.nil n0) (Fr.nil _)) (Fr.nil _)) (Fr.nil _)) (Fr.nil _)) (Fr.nil _))⟩ (by decide) (by decide)
set_option maxRecDepth 65536 in
set_option maxHeartbeats 4000000 in
theorem law_2_3 (l : Launch) (Z : State) (a0 : Array Value) (hw : ∀ d ∈ tables_1, d.before a0 Z = true) (w0 w1 w2 w3 w4 w5 w6 : Addr) (h0 : Heap) (F : Facts Z h0 w0 w1 w2 w3 w4 w5 w6) (i0 i1 : Int32) (n0 : Nat) (Z0 : n0 ≤ h0.size) (q0 : ((i0 &&& (2147483647 : Int32)) % (7 : Int32)) = (2 : Int32)) (q1 : ((i1 &&& (2147483647 : Int32)) % (7 : Int32)) = (3 : Int32)) :
    Con l Z x code maxLocals ret tables_1 room_1 #[(.int i0), (.int i1)] h0 (Q0 n0) := by
  refine own_body (plainFor_of_name pnL) hw ?_
  intro p e s m below meth c T0 B X0 e0 hnm
  refine Go.cast (ef0 m i0 i1) ?_
  refine own_iloadN B X0 at_0 rfl rfl ?_
  refine own_ldc B X0 at_1 rfl (v := (2147483647 : Int32)) (B.w 0 rfl) ?_
  refine own_iand B X0 at_3 rfl (v := (i0 &&& (2147483647 : Int32))) rfl ?_
  refine own_bipush B X0 at_4 rfl (v := (7 : Int32)) rfl ?_
  refine own_irem B X0 at_6 rfl (by decide) (v := (2 : Int32)) q0 ?_
  refine own_istoreN B X0 at_7 rfl #[.val (.int i0), .val (.int i1), .val (.int (2 : Int32)), .unset, .unset, .unset, .unset] rfl ?_
  refine own_iloadN B X0 at_8 rfl rfl ?_
  refine own_ldc B X0 at_9 rfl (v := (2147483647 : Int32)) (B.w 0 rfl) ?_
  refine own_iand B X0 at_11 rfl (v := (i1 &&& (2147483647 : Int32))) rfl ?_
  refine own_bipush B X0 at_12 rfl (v := (7 : Int32)) rfl ?_
  refine own_irem B X0 at_14 rfl (by decide) (v := (3 : Int32)) q1 ?_
  refine own_istoreN B X0 at_15 rfl #[.val (.int i0), .val (.int i1), .val (.int (2 : Int32)), .val (.int (3 : Int32)), .unset, .unset, .unset] rfl ?_
  refine own_iloadN B X0 at_16 rfl rfl ?_
  refine own_callS B X0 (c1 l Z a0 hw w0 w1 w2 w3 w4 w5 w6 h0 F (2 : Int32)  w4 (by simp +decide [f1])) e0 at_17 rfl (B.w 1 rfl) (B.w 2 rfl) (B.w 3 rfl) (B.w 4 rfl) (by decide) (W := 0) (by decide) (by decide) rfl [(.int (2 : Int32))] [] pd0 rfl rfl rfl (Nat.le_refl _) (by decide) (by decide) ?_
  rintro T1 _ _ X1 ⟨rfl, rfl, e1⟩
  show Go p e below _ T1 (mkF m 20 _ [(.ref w4)])
  refine own_astore B X1 at_20 rfl rfl #[.val (.int i0), .val (.int i1), .val (.int (2 : Int32)), .val (.int (3 : Int32)), .val (.ref w4), .unset, .unset] rfl ?_
  refine own_iloadN B X1 at_22 rfl rfl ?_
  refine own_callS B X1 (c1 l Z a0 hw w0 w1 w2 w3 w4 w5 w6 h0 F (3 : Int32)  w1 (by simp +decide [f1])) e1 at_23 rfl (B.w 1 rfl) (B.w 2 rfl) (B.w 3 rfl) (B.w 4 rfl) (by decide) (W := 0) (by decide) (by decide) rfl [(.int (3 : Int32))] [] pd0 rfl rfl rfl (Nat.le_refl _) (by decide) (by decide) ?_
  rintro T2 _ _ X2 ⟨rfl, rfl, e2⟩
  show Go p e below _ T2 (mkF m 26 _ [(.ref w1)])
  refine own_astore B X2 at_26 rfl rfl #[.val (.int i0), .val (.int i1), .val (.int (2 : Int32)), .val (.int (3 : Int32)), .val (.ref w4), .val (.ref w1), .unset] rfl ?_
  refine own_iloadN B X2 at_28 rfl rfl ?_
  refine own_callS B X2 (c2 l Z a0 hw w0 w1 w2 w3 w4 w5 w6 h0 F (2 : Int32)  (0 : Int32) (by simp +decide [f2])) e2 at_29 rfl (B.w 10 rfl) (B.w 11 rfl) (B.w 3 rfl) (B.w 12 rfl) (by decide) (W := 0) (by decide) (by decide) rfl [(.int (2 : Int32))] [] pd1 rfl rfl rfl (Nat.le_refl _) (by decide) (by decide) ?_
  rintro T3 _ _ X3 ⟨rfl, rfl, e3⟩
  show Go p e below _ T3 (mkF m 32 _ [(.int (0 : Int32))])
  refine own_iloadN B X3 at_32 rfl rfl ?_
  refine own_callS B X3 (c2 l Z a0 hw w0 w1 w2 w3 w4 w5 w6 h0 F (3 : Int32)  (0 : Int32) (by simp +decide [f2])) e3 at_33 rfl (B.w 10 rfl) (B.w 11 rfl) (B.w 3 rfl) (B.w 12 rfl) (by decide) (W := 1) (by decide) (by decide) rfl [(.int (3 : Int32))] [(.int (0 : Int32))] pd1 rfl rfl rfl (Nat.le_refl _) (by decide) (by decide) ?_
  rintro T4 _ _ X4 ⟨rfl, rfl, e4⟩
  show Go p e below _ T4 (mkF m 36 _ [(.int (0 : Int32)), (.int (0 : Int32))])
  refine own_icmpYes B X4 at_36 (flt (by decide : ¬ ((0 : Int32) < (0 : Int32)))).2.1 (by decide) (pc' := 43) rfl ?_
  refine own_iconst B X4 at_43 rfl (v := (0 : Int32)) rfl ?_
  refine own_istore B X4 at_44 rfl #[.val (.int i0), .val (.int i1), .val (.int (2 : Int32)), .val (.int (3 : Int32)), .val (.ref w4), .val (.ref w1), .val (.int (0 : Int32))] rfl ?_
  refine own_aload B X4 at_46 rfl rfl rfl ?_
  refine own_aload B X4 at_48 rfl rfl rfl ?_
  refine own_callV B X4 (c3 l Z a0 hw w0 w1 w2 w3 w4 w5 w6 h0 F w4 w1 (0 : Int32) (0 : Int32) F.2.2.2.2.2.2.2.2.2.2.2.2.2.2.2.2.2.2.1 F.2.2.2.2.2.2.2.2.2.2.2.2.2.2.2.1 (0 : Int32) (by simp +decide [f3])) e4 F.2.2.2.2.2.2.2.2.2.1 (own_nf B (B.w 16 rfl)) at_50 rfl (B.w 13 rfl) (B.w 14 rfl) (B.w 16 rfl) (B.w 15 rfl) (B.w 6 rfl) (B.w 17 rfl) (by decide) (W := 0) (by decide) (by decide) rfl [(.ref w1)] [] pd2 rfl rfl rfl (Nat.le_refl _) (by decide) (by decide) ?_
  rintro T5 _ _ X5 ⟨rfl, rfl, e5⟩
  show Go p e below _ T5 (mkF m 53 _ [(.int (0 : Int32))])
  refine own_iload B X5 at_53 rfl rfl ?_
  refine own_icmpNo B X5 at_55 (teq (rfl : (0 : Int32) = (0 : Int32))).2 rfl ?_
  refine own_iconst B X5 at_58 rfl (v := (1 : Int32)) rfl ?_
  refine own_goto B X5 at_59 (by decide) (pc' := 63) rfl ?_
  exact own_retInt B X5 at_63 rfl (Or.inr (Or.inl rfl)) ⟨rfl, (Fr.app (Fr.app (Fr.app (Fr.app (Fr.app (Fr.nil n0) (Fr.nil _)) (Fr.nil _)) (Fr.nil _)) (Fr.nil _)) (Fr.nil _))⟩ (by decide) (by decide)
set_option maxRecDepth 65536 in
set_option maxHeartbeats 4000000 in
theorem law_2_4 (l : Launch) (Z : State) (a0 : Array Value) (hw : ∀ d ∈ tables_1, d.before a0 Z = true) (w0 w1 w2 w3 w4 w5 w6 : Addr) (h0 : Heap) (F : Facts Z h0 w0 w1 w2 w3 w4 w5 w6) (i0 i1 : Int32) (n0 : Nat) (Z0 : n0 ≤ h0.size) (q0 : ((i0 &&& (2147483647 : Int32)) % (7 : Int32)) = (2 : Int32)) (q1 : ((i1 &&& (2147483647 : Int32)) % (7 : Int32)) = (4 : Int32)) :
    Con l Z x code maxLocals ret tables_1 room_1 #[(.int i0), (.int i1)] h0 (Q0 n0) := by
  refine own_body (plainFor_of_name pnL) hw ?_
  intro p e s m below meth c T0 B X0 e0 hnm
  refine Go.cast (ef0 m i0 i1) ?_
  refine own_iloadN B X0 at_0 rfl rfl ?_
  refine own_ldc B X0 at_1 rfl (v := (2147483647 : Int32)) (B.w 0 rfl) ?_
  refine own_iand B X0 at_3 rfl (v := (i0 &&& (2147483647 : Int32))) rfl ?_
  refine own_bipush B X0 at_4 rfl (v := (7 : Int32)) rfl ?_
  refine own_irem B X0 at_6 rfl (by decide) (v := (2 : Int32)) q0 ?_
  refine own_istoreN B X0 at_7 rfl #[.val (.int i0), .val (.int i1), .val (.int (2 : Int32)), .unset, .unset, .unset, .unset] rfl ?_
  refine own_iloadN B X0 at_8 rfl rfl ?_
  refine own_ldc B X0 at_9 rfl (v := (2147483647 : Int32)) (B.w 0 rfl) ?_
  refine own_iand B X0 at_11 rfl (v := (i1 &&& (2147483647 : Int32))) rfl ?_
  refine own_bipush B X0 at_12 rfl (v := (7 : Int32)) rfl ?_
  refine own_irem B X0 at_14 rfl (by decide) (v := (4 : Int32)) q1 ?_
  refine own_istoreN B X0 at_15 rfl #[.val (.int i0), .val (.int i1), .val (.int (2 : Int32)), .val (.int (4 : Int32)), .unset, .unset, .unset] rfl ?_
  refine own_iloadN B X0 at_16 rfl rfl ?_
  refine own_callS B X0 (c1 l Z a0 hw w0 w1 w2 w3 w4 w5 w6 h0 F (2 : Int32)  w4 (by simp +decide [f1])) e0 at_17 rfl (B.w 1 rfl) (B.w 2 rfl) (B.w 3 rfl) (B.w 4 rfl) (by decide) (W := 0) (by decide) (by decide) rfl [(.int (2 : Int32))] [] pd0 rfl rfl rfl (Nat.le_refl _) (by decide) (by decide) ?_
  rintro T1 _ _ X1 ⟨rfl, rfl, e1⟩
  show Go p e below _ T1 (mkF m 20 _ [(.ref w4)])
  refine own_astore B X1 at_20 rfl rfl #[.val (.int i0), .val (.int i1), .val (.int (2 : Int32)), .val (.int (4 : Int32)), .val (.ref w4), .unset, .unset] rfl ?_
  refine own_iloadN B X1 at_22 rfl rfl ?_
  refine own_callS B X1 (c1 l Z a0 hw w0 w1 w2 w3 w4 w5 w6 h0 F (4 : Int32)  w5 (by simp +decide [f1])) e1 at_23 rfl (B.w 1 rfl) (B.w 2 rfl) (B.w 3 rfl) (B.w 4 rfl) (by decide) (W := 0) (by decide) (by decide) rfl [(.int (4 : Int32))] [] pd0 rfl rfl rfl (Nat.le_refl _) (by decide) (by decide) ?_
  rintro T2 _ _ X2 ⟨rfl, rfl, e2⟩
  show Go p e below _ T2 (mkF m 26 _ [(.ref w5)])
  refine own_astore B X2 at_26 rfl rfl #[.val (.int i0), .val (.int i1), .val (.int (2 : Int32)), .val (.int (4 : Int32)), .val (.ref w4), .val (.ref w5), .unset] rfl ?_
  refine own_iloadN B X2 at_28 rfl rfl ?_
  refine own_callS B X2 (c2 l Z a0 hw w0 w1 w2 w3 w4 w5 w6 h0 F (2 : Int32)  (0 : Int32) (by simp +decide [f2])) e2 at_29 rfl (B.w 10 rfl) (B.w 11 rfl) (B.w 3 rfl) (B.w 12 rfl) (by decide) (W := 0) (by decide) (by decide) rfl [(.int (2 : Int32))] [] pd1 rfl rfl rfl (Nat.le_refl _) (by decide) (by decide) ?_
  rintro T3 _ _ X3 ⟨rfl, rfl, e3⟩
  show Go p e below _ T3 (mkF m 32 _ [(.int (0 : Int32))])
  refine own_iloadN B X3 at_32 rfl rfl ?_
  refine own_callS B X3 (c2 l Z a0 hw w0 w1 w2 w3 w4 w5 w6 h0 F (4 : Int32)  (1 : Int32) (by simp +decide [f2])) e3 at_33 rfl (B.w 10 rfl) (B.w 11 rfl) (B.w 3 rfl) (B.w 12 rfl) (by decide) (W := 1) (by decide) (by decide) rfl [(.int (4 : Int32))] [(.int (0 : Int32))] pd1 rfl rfl rfl (Nat.le_refl _) (by decide) (by decide) ?_
  rintro T4 _ _ X4 ⟨rfl, rfl, e4⟩
  show Go p e below _ T4 (mkF m 36 _ [(.int (1 : Int32)), (.int (0 : Int32))])
  refine own_icmpNo B X4 at_36 (tlt (by decide : (0 : Int32) < (1 : Int32))).2.1 rfl ?_
  refine own_iconst B X4 at_39 rfl (v := (1 : Int32)) rfl ?_
  refine own_goto B X4 at_40 (by decide) (pc' := 44) rfl ?_
  refine own_istore B X4 at_44 rfl #[.val (.int i0), .val (.int i1), .val (.int (2 : Int32)), .val (.int (4 : Int32)), .val (.ref w4), .val (.ref w5), .val (.int (1 : Int32))] rfl ?_
  refine own_aload B X4 at_46 rfl rfl rfl ?_
  refine own_aload B X4 at_48 rfl rfl rfl ?_
  refine own_callV B X4 (c3 l Z a0 hw w0 w1 w2 w3 w4 w5 w6 h0 F w4 w5 (0 : Int32) (1 : Int32) F.2.2.2.2.2.2.2.2.2.2.2.2.2.2.2.2.2.2.1 F.2.2.2.2.2.2.2.2.2.2.2.2.2.2.2.2.2.2.2.1 (1 : Int32) (by simp +decide [f3])) e4 F.2.2.2.2.2.2.2.2.2.1 (own_nf B (B.w 16 rfl)) at_50 rfl (B.w 13 rfl) (B.w 14 rfl) (B.w 16 rfl) (B.w 15 rfl) (B.w 6 rfl) (B.w 17 rfl) (by decide) (W := 0) (by decide) (by decide) rfl [(.ref w5)] [] pd2 rfl rfl rfl (Nat.le_refl _) (by decide) (by decide) ?_
  rintro T5 _ _ X5 ⟨rfl, rfl, e5⟩
  show Go p e below _ T5 (mkF m 53 _ [(.int (1 : Int32))])
  refine own_iload B X5 at_53 rfl rfl ?_
  refine own_icmpNo B X5 at_55 (teq (rfl : (1 : Int32) = (1 : Int32))).2 rfl ?_
  refine own_iconst B X5 at_58 rfl (v := (1 : Int32)) rfl ?_
  refine own_goto B X5 at_59 (by decide) (pc' := 63) rfl ?_
  exact own_retInt B X5 at_63 rfl (Or.inr (Or.inl rfl)) ⟨rfl, (Fr.app (Fr.app (Fr.app (Fr.app (Fr.app (Fr.nil n0) (Fr.nil _)) (Fr.nil _)) (Fr.nil _)) (Fr.nil _)) (Fr.nil _))⟩ (by decide) (by decide)
set_option maxRecDepth 65536 in
set_option maxHeartbeats 4000000 in
theorem law_2_5 (l : Launch) (Z : State) (a0 : Array Value) (hw : ∀ d ∈ tables_1, d.before a0 Z = true) (w0 w1 w2 w3 w4 w5 w6 : Addr) (h0 : Heap) (F : Facts Z h0 w0 w1 w2 w3 w4 w5 w6) (i0 i1 : Int32) (n0 : Nat) (Z0 : n0 ≤ h0.size) (q0 : ((i0 &&& (2147483647 : Int32)) % (7 : Int32)) = (2 : Int32)) (q1 : ((i1 &&& (2147483647 : Int32)) % (7 : Int32)) = (5 : Int32)) :
    Con l Z x code maxLocals ret tables_1 room_1 #[(.int i0), (.int i1)] h0 (Q0 n0) := by
  refine own_body (plainFor_of_name pnL) hw ?_
  intro p e s m below meth c T0 B X0 e0 hnm
  refine Go.cast (ef0 m i0 i1) ?_
  refine own_iloadN B X0 at_0 rfl rfl ?_
  refine own_ldc B X0 at_1 rfl (v := (2147483647 : Int32)) (B.w 0 rfl) ?_
  refine own_iand B X0 at_3 rfl (v := (i0 &&& (2147483647 : Int32))) rfl ?_
  refine own_bipush B X0 at_4 rfl (v := (7 : Int32)) rfl ?_
  refine own_irem B X0 at_6 rfl (by decide) (v := (2 : Int32)) q0 ?_
  refine own_istoreN B X0 at_7 rfl #[.val (.int i0), .val (.int i1), .val (.int (2 : Int32)), .unset, .unset, .unset, .unset] rfl ?_
  refine own_iloadN B X0 at_8 rfl rfl ?_
  refine own_ldc B X0 at_9 rfl (v := (2147483647 : Int32)) (B.w 0 rfl) ?_
  refine own_iand B X0 at_11 rfl (v := (i1 &&& (2147483647 : Int32))) rfl ?_
  refine own_bipush B X0 at_12 rfl (v := (7 : Int32)) rfl ?_
  refine own_irem B X0 at_14 rfl (by decide) (v := (5 : Int32)) q1 ?_
  refine own_istoreN B X0 at_15 rfl #[.val (.int i0), .val (.int i1), .val (.int (2 : Int32)), .val (.int (5 : Int32)), .unset, .unset, .unset] rfl ?_
  refine own_iloadN B X0 at_16 rfl rfl ?_
  refine own_callS B X0 (c1 l Z a0 hw w0 w1 w2 w3 w4 w5 w6 h0 F (2 : Int32)  w4 (by simp +decide [f1])) e0 at_17 rfl (B.w 1 rfl) (B.w 2 rfl) (B.w 3 rfl) (B.w 4 rfl) (by decide) (W := 0) (by decide) (by decide) rfl [(.int (2 : Int32))] [] pd0 rfl rfl rfl (Nat.le_refl _) (by decide) (by decide) ?_
  rintro T1 _ _ X1 ⟨rfl, rfl, e1⟩
  show Go p e below _ T1 (mkF m 20 _ [(.ref w4)])
  refine own_astore B X1 at_20 rfl rfl #[.val (.int i0), .val (.int i1), .val (.int (2 : Int32)), .val (.int (5 : Int32)), .val (.ref w4), .unset, .unset] rfl ?_
  refine own_iloadN B X1 at_22 rfl rfl ?_
  refine own_callS B X1 (c1 l Z a0 hw w0 w1 w2 w3 w4 w5 w6 h0 F (5 : Int32)  w3 (by simp +decide [f1])) e1 at_23 rfl (B.w 1 rfl) (B.w 2 rfl) (B.w 3 rfl) (B.w 4 rfl) (by decide) (W := 0) (by decide) (by decide) rfl [(.int (5 : Int32))] [] pd0 rfl rfl rfl (Nat.le_refl _) (by decide) (by decide) ?_
  rintro T2 _ _ X2 ⟨rfl, rfl, e2⟩
  show Go p e below _ T2 (mkF m 26 _ [(.ref w3)])
  refine own_astore B X2 at_26 rfl rfl #[.val (.int i0), .val (.int i1), .val (.int (2 : Int32)), .val (.int (5 : Int32)), .val (.ref w4), .val (.ref w3), .unset] rfl ?_
  refine own_iloadN B X2 at_28 rfl rfl ?_
  refine own_callS B X2 (c2 l Z a0 hw w0 w1 w2 w3 w4 w5 w6 h0 F (2 : Int32)  (0 : Int32) (by simp +decide [f2])) e2 at_29 rfl (B.w 10 rfl) (B.w 11 rfl) (B.w 3 rfl) (B.w 12 rfl) (by decide) (W := 0) (by decide) (by decide) rfl [(.int (2 : Int32))] [] pd1 rfl rfl rfl (Nat.le_refl _) (by decide) (by decide) ?_
  rintro T3 _ _ X3 ⟨rfl, rfl, e3⟩
  show Go p e below _ T3 (mkF m 32 _ [(.int (0 : Int32))])
  refine own_iloadN B X3 at_32 rfl rfl ?_
  refine own_callS B X3 (c2 l Z a0 hw w0 w1 w2 w3 w4 w5 w6 h0 F (5 : Int32)  (1 : Int32) (by simp +decide [f2])) e3 at_33 rfl (B.w 10 rfl) (B.w 11 rfl) (B.w 3 rfl) (B.w 12 rfl) (by decide) (W := 1) (by decide) (by decide) rfl [(.int (5 : Int32))] [(.int (0 : Int32))] pd1 rfl rfl rfl (Nat.le_refl _) (by decide) (by decide) ?_
  rintro T4 _ _ X4 ⟨rfl, rfl, e4⟩
  show Go p e below _ T4 (mkF m 36 _ [(.int (1 : Int32)), (.int (0 : Int32))])
  refine own_icmpNo B X4 at_36 (tlt (by decide : (0 : Int32) < (1 : Int32))).2.1 rfl ?_
  refine own_iconst B X4 at_39 rfl (v := (1 : Int32)) rfl ?_
  refine own_goto B X4 at_40 (by decide) (pc' := 44) rfl ?_
  refine own_istore B X4 at_44 rfl #[.val (.int i0), .val (.int i1), .val (.int (2 : Int32)), .val (.int (5 : Int32)), .val (.ref w4), .val (.ref w3), .val (.int (1 : Int32))] rfl ?_
  refine own_aload B X4 at_46 rfl rfl rfl ?_
  refine own_aload B X4 at_48 rfl rfl rfl ?_
  refine own_callV B X4 (c3 l Z a0 hw w0 w1 w2 w3 w4 w5 w6 h0 F w4 w3 (0 : Int32) (1 : Int32) F.2.2.2.2.2.2.2.2.2.2.2.2.2.2.2.2.2.2.1 F.2.2.2.2.2.2.2.2.2.2.2.2.2.2.2.2.2.1 (1 : Int32) (by simp +decide [f3])) e4 F.2.2.2.2.2.2.2.2.2.1 (own_nf B (B.w 16 rfl)) at_50 rfl (B.w 13 rfl) (B.w 14 rfl) (B.w 16 rfl) (B.w 15 rfl) (B.w 6 rfl) (B.w 17 rfl) (by decide) (W := 0) (by decide) (by decide) rfl [(.ref w3)] [] pd2 rfl rfl rfl (Nat.le_refl _) (by decide) (by decide) ?_
  rintro T5 _ _ X5 ⟨rfl, rfl, e5⟩
  show Go p e below _ T5 (mkF m 53 _ [(.int (1 : Int32))])
  refine own_iload B X5 at_53 rfl rfl ?_
  refine own_icmpNo B X5 at_55 (teq (rfl : (1 : Int32) = (1 : Int32))).2 rfl ?_
  refine own_iconst B X5 at_58 rfl (v := (1 : Int32)) rfl ?_
  refine own_goto B X5 at_59 (by decide) (pc' := 63) rfl ?_
  exact own_retInt B X5 at_63 rfl (Or.inr (Or.inl rfl)) ⟨rfl, (Fr.app (Fr.app (Fr.app (Fr.app (Fr.app (Fr.nil n0) (Fr.nil _)) (Fr.nil _)) (Fr.nil _)) (Fr.nil _)) (Fr.nil _))⟩ (by decide) (by decide)
set_option maxRecDepth 65536 in
set_option maxHeartbeats 4000000 in
theorem law_2_6 (l : Launch) (Z : State) (a0 : Array Value) (hw : ∀ d ∈ tables_1, d.before a0 Z = true) (w0 w1 w2 w3 w4 w5 w6 : Addr) (h0 : Heap) (F : Facts Z h0 w0 w1 w2 w3 w4 w5 w6) (i0 i1 : Int32) (n0 : Nat) (Z0 : n0 ≤ h0.size) (q0 : ((i0 &&& (2147483647 : Int32)) % (7 : Int32)) = (2 : Int32)) (q1 : ((i1 &&& (2147483647 : Int32)) % (7 : Int32)) = (6 : Int32)) :
    Con l Z x code maxLocals ret tables_1 room_1 #[(.int i0), (.int i1)] h0 (Q0 n0) := by
  refine own_body (plainFor_of_name pnL) hw ?_
  intro p e s m below meth c T0 B X0 e0 hnm
  refine Go.cast (ef0 m i0 i1) ?_
  refine own_iloadN B X0 at_0 rfl rfl ?_
  refine own_ldc B X0 at_1 rfl (v := (2147483647 : Int32)) (B.w 0 rfl) ?_
  refine own_iand B X0 at_3 rfl (v := (i0 &&& (2147483647 : Int32))) rfl ?_
  refine own_bipush B X0 at_4 rfl (v := (7 : Int32)) rfl ?_
  refine own_irem B X0 at_6 rfl (by decide) (v := (2 : Int32)) q0 ?_
  refine own_istoreN B X0 at_7 rfl #[.val (.int i0), .val (.int i1), .val (.int (2 : Int32)), .unset, .unset, .unset, .unset] rfl ?_
  refine own_iloadN B X0 at_8 rfl rfl ?_
  refine own_ldc B X0 at_9 rfl (v := (2147483647 : Int32)) (B.w 0 rfl) ?_
  refine own_iand B X0 at_11 rfl (v := (i1 &&& (2147483647 : Int32))) rfl ?_
  refine own_bipush B X0 at_12 rfl (v := (7 : Int32)) rfl ?_
  refine own_irem B X0 at_14 rfl (by decide) (v := (6 : Int32)) q1 ?_
  refine own_istoreN B X0 at_15 rfl #[.val (.int i0), .val (.int i1), .val (.int (2 : Int32)), .val (.int (6 : Int32)), .unset, .unset, .unset] rfl ?_
  refine own_iloadN B X0 at_16 rfl rfl ?_
  refine own_callS B X0 (c1 l Z a0 hw w0 w1 w2 w3 w4 w5 w6 h0 F (2 : Int32)  w4 (by simp +decide [f1])) e0 at_17 rfl (B.w 1 rfl) (B.w 2 rfl) (B.w 3 rfl) (B.w 4 rfl) (by decide) (W := 0) (by decide) (by decide) rfl [(.int (2 : Int32))] [] pd0 rfl rfl rfl (Nat.le_refl _) (by decide) (by decide) ?_
  rintro T1 _ _ X1 ⟨rfl, rfl, e1⟩
  show Go p e below _ T1 (mkF m 20 _ [(.ref w4)])
  refine own_astore B X1 at_20 rfl rfl #[.val (.int i0), .val (.int i1), .val (.int (2 : Int32)), .val (.int (6 : Int32)), .val (.ref w4), .unset, .unset] rfl ?_
  refine own_iloadN B X1 at_22 rfl rfl ?_
  refine own_callS B X1 (c1 l Z a0 hw w0 w1 w2 w3 w4 w5 w6 h0 F (6 : Int32)  w6 (by simp +decide [f1])) e1 at_23 rfl (B.w 1 rfl) (B.w 2 rfl) (B.w 3 rfl) (B.w 4 rfl) (by decide) (W := 0) (by decide) (by decide) rfl [(.int (6 : Int32))] [] pd0 rfl rfl rfl (Nat.le_refl _) (by decide) (by decide) ?_
  rintro T2 _ _ X2 ⟨rfl, rfl, e2⟩
  show Go p e below _ T2 (mkF m 26 _ [(.ref w6)])
  refine own_astore B X2 at_26 rfl rfl #[.val (.int i0), .val (.int i1), .val (.int (2 : Int32)), .val (.int (6 : Int32)), .val (.ref w4), .val (.ref w6), .unset] rfl ?_
  refine own_iloadN B X2 at_28 rfl rfl ?_
  refine own_callS B X2 (c2 l Z a0 hw w0 w1 w2 w3 w4 w5 w6 h0 F (2 : Int32)  (0 : Int32) (by simp +decide [f2])) e2 at_29 rfl (B.w 10 rfl) (B.w 11 rfl) (B.w 3 rfl) (B.w 12 rfl) (by decide) (W := 0) (by decide) (by decide) rfl [(.int (2 : Int32))] [] pd1 rfl rfl rfl (Nat.le_refl _) (by decide) (by decide) ?_
  rintro T3 _ _ X3 ⟨rfl, rfl, e3⟩
  show Go p e below _ T3 (mkF m 32 _ [(.int (0 : Int32))])
  refine own_iloadN B X3 at_32 rfl rfl ?_
  refine own_callS B X3 (c2 l Z a0 hw w0 w1 w2 w3 w4 w5 w6 h0 F (6 : Int32)  (2 : Int32) (by simp +decide [f2])) e3 at_33 rfl (B.w 10 rfl) (B.w 11 rfl) (B.w 3 rfl) (B.w 12 rfl) (by decide) (W := 1) (by decide) (by decide) rfl [(.int (6 : Int32))] [(.int (0 : Int32))] pd1 rfl rfl rfl (Nat.le_refl _) (by decide) (by decide) ?_
  rintro T4 _ _ X4 ⟨rfl, rfl, e4⟩
  show Go p e below _ T4 (mkF m 36 _ [(.int (2 : Int32)), (.int (0 : Int32))])
  refine own_icmpNo B X4 at_36 (tlt (by decide : (0 : Int32) < (2 : Int32))).2.1 rfl ?_
  refine own_iconst B X4 at_39 rfl (v := (1 : Int32)) rfl ?_
  refine own_goto B X4 at_40 (by decide) (pc' := 44) rfl ?_
  refine own_istore B X4 at_44 rfl #[.val (.int i0), .val (.int i1), .val (.int (2 : Int32)), .val (.int (6 : Int32)), .val (.ref w4), .val (.ref w6), .val (.int (1 : Int32))] rfl ?_
  refine own_aload B X4 at_46 rfl rfl rfl ?_
  refine own_aload B X4 at_48 rfl rfl rfl ?_
  refine own_callV B X4 (c3 l Z a0 hw w0 w1 w2 w3 w4 w5 w6 h0 F w4 w6 (0 : Int32) (2 : Int32) F.2.2.2.2.2.2.2.2.2.2.2.2.2.2.2.2.2.2.1 F.2.2.2.2.2.2.2.2.2.2.2.2.2.2.2.2.2.2.2.2.1 (1 : Int32) (by simp +decide [f3])) e4 F.2.2.2.2.2.2.2.2.2.1 (own_nf B (B.w 16 rfl)) at_50 rfl (B.w 13 rfl) (B.w 14 rfl) (B.w 16 rfl) (B.w 15 rfl) (B.w 6 rfl) (B.w 17 rfl) (by decide) (W := 0) (by decide) (by decide) rfl [(.ref w6)] [] pd2 rfl rfl rfl (Nat.le_refl _) (by decide) (by decide) ?_
  rintro T5 _ _ X5 ⟨rfl, rfl, e5⟩
  show Go p e below _ T5 (mkF m 53 _ [(.int (1 : Int32))])
  refine own_iload B X5 at_53 rfl rfl ?_
  refine own_icmpNo B X5 at_55 (teq (rfl : (1 : Int32) = (1 : Int32))).2 rfl ?_
  refine own_iconst B X5 at_58 rfl (v := (1 : Int32)) rfl ?_
  refine own_goto B X5 at_59 (by decide) (pc' := 63) rfl ?_
  exact own_retInt B X5 at_63 rfl (Or.inr (Or.inl rfl)) ⟨rfl, (Fr.app (Fr.app (Fr.app (Fr.app (Fr.app (Fr.nil n0) (Fr.nil _)) (Fr.nil _)) (Fr.nil _)) (Fr.nil _)) (Fr.nil _))⟩ (by decide) (by decide)
set_option maxRecDepth 65536 in
set_option maxHeartbeats 4000000 in
theorem law_3_0 (l : Launch) (Z : State) (a0 : Array Value) (hw : ∀ d ∈ tables_1, d.before a0 Z = true) (w0 w1 w2 w3 w4 w5 w6 : Addr) (h0 : Heap) (F : Facts Z h0 w0 w1 w2 w3 w4 w5 w6) (i0 i1 : Int32) (n0 : Nat) (Z0 : n0 ≤ h0.size) (q0 : ((i0 &&& (2147483647 : Int32)) % (7 : Int32)) = (3 : Int32)) (q1 : ((i1 &&& (2147483647 : Int32)) % (7 : Int32)) = (0 : Int32)) :
    Con l Z x code maxLocals ret tables_1 room_1 #[(.int i0), (.int i1)] h0 (Q0 n0) := by
  refine own_body (plainFor_of_name pnL) hw ?_
  intro p e s m below meth c T0 B X0 e0 hnm
  refine Go.cast (ef0 m i0 i1) ?_
  refine own_iloadN B X0 at_0 rfl rfl ?_
  refine own_ldc B X0 at_1 rfl (v := (2147483647 : Int32)) (B.w 0 rfl) ?_
  refine own_iand B X0 at_3 rfl (v := (i0 &&& (2147483647 : Int32))) rfl ?_
  refine own_bipush B X0 at_4 rfl (v := (7 : Int32)) rfl ?_
  refine own_irem B X0 at_6 rfl (by decide) (v := (3 : Int32)) q0 ?_
  refine own_istoreN B X0 at_7 rfl #[.val (.int i0), .val (.int i1), .val (.int (3 : Int32)), .unset, .unset, .unset, .unset] rfl ?_
  refine own_iloadN B X0 at_8 rfl rfl ?_
  refine own_ldc B X0 at_9 rfl (v := (2147483647 : Int32)) (B.w 0 rfl) ?_
  refine own_iand B X0 at_11 rfl (v := (i1 &&& (2147483647 : Int32))) rfl ?_
  refine own_bipush B X0 at_12 rfl (v := (7 : Int32)) rfl ?_
  refine own_irem B X0 at_14 rfl (by decide) (v := (0 : Int32)) q1 ?_
  refine own_istoreN B X0 at_15 rfl #[.val (.int i0), .val (.int i1), .val (.int (3 : Int32)), .val (.int (0 : Int32)), .unset, .unset, .unset] rfl ?_
  refine own_iloadN B X0 at_16 rfl rfl ?_
  refine own_callS B X0 (c1 l Z a0 hw w0 w1 w2 w3 w4 w5 w6 h0 F (3 : Int32)  w1 (by simp +decide [f1])) e0 at_17 rfl (B.w 1 rfl) (B.w 2 rfl) (B.w 3 rfl) (B.w 4 rfl) (by decide) (W := 0) (by decide) (by decide) rfl [(.int (3 : Int32))] [] pd0 rfl rfl rfl (Nat.le_refl _) (by decide) (by decide) ?_
  rintro T1 _ _ X1 ⟨rfl, rfl, e1⟩
  show Go p e below _ T1 (mkF m 20 _ [(.ref w1)])
  refine own_astore B X1 at_20 rfl rfl #[.val (.int i0), .val (.int i1), .val (.int (3 : Int32)), .val (.int (0 : Int32)), .val (.ref w1), .unset, .unset] rfl ?_
  refine own_iloadN B X1 at_22 rfl rfl ?_
  refine own_callS B X1 (c1 l Z a0 hw w0 w1 w2 w3 w4 w5 w6 h0 F (0 : Int32)  w0 (by simp +decide [f1])) e1 at_23 rfl (B.w 1 rfl) (B.w 2 rfl) (B.w 3 rfl) (B.w 4 rfl) (by decide) (W := 0) (by decide) (by decide) rfl [(.int (0 : Int32))] [] pd0 rfl rfl rfl (Nat.le_refl _) (by decide) (by decide) ?_
  rintro T2 _ _ X2 ⟨rfl, rfl, e2⟩
  show Go p e below _ T2 (mkF m 26 _ [(.ref w0)])
  refine own_astore B X2 at_26 rfl rfl #[.val (.int i0), .val (.int i1), .val (.int (3 : Int32)), .val (.int (0 : Int32)), .val (.ref w1), .val (.ref w0), .unset] rfl ?_
  refine own_iloadN B X2 at_28 rfl rfl ?_
  refine own_callS B X2 (c2 l Z a0 hw w0 w1 w2 w3 w4 w5 w6 h0 F (3 : Int32)  (0 : Int32) (by simp +decide [f2])) e2 at_29 rfl (B.w 10 rfl) (B.w 11 rfl) (B.w 3 rfl) (B.w 12 rfl) (by decide) (W := 0) (by decide) (by decide) rfl [(.int (3 : Int32))] [] pd1 rfl rfl rfl (Nat.le_refl _) (by decide) (by decide) ?_
  rintro T3 _ _ X3 ⟨rfl, rfl, e3⟩
  show Go p e below _ T3 (mkF m 32 _ [(.int (0 : Int32))])
  refine own_iloadN B X3 at_32 rfl rfl ?_
  refine own_callS B X3 (c2 l Z a0 hw w0 w1 w2 w3 w4 w5 w6 h0 F (0 : Int32)  (0 : Int32) (by simp +decide [f2])) e3 at_33 rfl (B.w 10 rfl) (B.w 11 rfl) (B.w 3 rfl) (B.w 12 rfl) (by decide) (W := 1) (by decide) (by decide) rfl [(.int (0 : Int32))] [(.int (0 : Int32))] pd1 rfl rfl rfl (Nat.le_refl _) (by decide) (by decide) ?_
  rintro T4 _ _ X4 ⟨rfl, rfl, e4⟩
  show Go p e below _ T4 (mkF m 36 _ [(.int (0 : Int32)), (.int (0 : Int32))])
  refine own_icmpYes B X4 at_36 (flt (by decide : ¬ ((0 : Int32) < (0 : Int32)))).2.1 (by decide) (pc' := 43) rfl ?_
  refine own_iconst B X4 at_43 rfl (v := (0 : Int32)) rfl ?_
  refine own_istore B X4 at_44 rfl #[.val (.int i0), .val (.int i1), .val (.int (3 : Int32)), .val (.int (0 : Int32)), .val (.ref w1), .val (.ref w0), .val (.int (0 : Int32))] rfl ?_
  refine own_aload B X4 at_46 rfl rfl rfl ?_
  refine own_aload B X4 at_48 rfl rfl rfl ?_
  refine own_callV B X4 (c3 l Z a0 hw w0 w1 w2 w3 w4 w5 w6 h0 F w1 w0 (0 : Int32) (0 : Int32) F.2.2.2.2.2.2.2.2.2.2.2.2.2.2.2.1 F.2.2.2.2.2.2.2.2.2.2.2.2.2.2.1 (0 : Int32) (by simp +decide [f3])) e4 F.2.2.2.1 (own_nf B (B.w 16 rfl)) at_50 rfl (B.w 13 rfl) (B.w 14 rfl) (B.w 16 rfl) (B.w 15 rfl) (B.w 6 rfl) (B.w 17 rfl) (by decide) (W := 0) (by decide) (by decide) rfl [(.ref w0)] [] pd2 rfl rfl rfl (Nat.le_refl _) (by decide) (by decide) ?_
  rintro T5 _ _ X5 ⟨rfl, rfl, e5⟩
  show Go p e below _ T5 (mkF m 53 _ [(.int (0 : Int32))])
  refine own_iload B X5 at_53 rfl rfl ?_
  refine own_icmpNo B X5 at_55 (teq (rfl : (0 : Int32) = (0 : Int32))).2 rfl ?_
  refine own_iconst B X5 at_58 rfl (v := (1 : Int32)) rfl ?_
  refine own_goto B X5 at_59 (by decide) (pc' := 63) rfl ?_
  exact own_retInt B X5 at_63 rfl (Or.inr (Or.inl rfl)) ⟨rfl, (Fr.app (Fr.app (Fr.app (Fr.app (Fr.app (Fr.nil n0) (Fr.nil _)) (Fr.nil _)) (Fr.nil _)) (Fr.nil _)) (Fr.nil _))⟩ (by decide) (by decide)
set_option maxRecDepth 65536 in
set_option maxHeartbeats 4000000 in
theorem law_3_1 (l : Launch) (Z : State) (a0 : Array Value) (hw : ∀ d ∈ tables_1, d.before a0 Z = true) (w0 w1 w2 w3 w4 w5 w6 : Addr) (h0 : Heap) (F : Facts Z h0 w0 w1 w2 w3 w4 w5 w6) (i0 i1 : Int32) (n0 : Nat) (Z0 : n0 ≤ h0.size) (q0 : ((i0 &&& (2147483647 : Int32)) % (7 : Int32)) = (3 : Int32)) (q1 : ((i1 &&& (2147483647 : Int32)) % (7 : Int32)) = (1 : Int32)) :
    Con l Z x code maxLocals ret tables_1 room_1 #[(.int i0), (.int i1)] h0 (Q0 n0) := by
  refine own_body (plainFor_of_name pnL) hw ?_
  intro p e s m below meth c T0 B X0 e0 hnm
  refine Go.cast (ef0 m i0 i1) ?_
  refine own_iloadN B X0 at_0 rfl rfl ?_
  refine own_ldc B X0 at_1 rfl (v := (2147483647 : Int32)) (B.w 0 rfl) ?_
  refine own_iand B X0 at_3 rfl (v := (i0 &&& (2147483647 : Int32))) rfl ?_
  refine own_bipush B X0 at_4 rfl (v := (7 : Int32)) rfl ?_
  refine own_irem B X0 at_6 rfl (by decide) (v := (3 : Int32)) q0 ?_
  refine own_istoreN B X0 at_7 rfl #[.val (.int i0), .val (.int i1), .val (.int (3 : Int32)), .unset, .unset, .unset, .unset] rfl ?_
  refine own_iloadN B X0 at_8 rfl rfl ?_
  refine own_ldc B X0 at_9 rfl (v := (2147483647 : Int32)) (B.w 0 rfl) ?_
  refine own_iand B X0 at_11 rfl (v := (i1 &&& (2147483647 : Int32))) rfl ?_
  refine own_bipush B X0 at_12 rfl (v := (7 : Int32)) rfl ?_
  refine own_irem B X0 at_14 rfl (by decide) (v := (1 : Int32)) q1 ?_
  refine own_istoreN B X0 at_15 rfl #[.val (.int i0), .val (.int i1), .val (.int (3 : Int32)), .val (.int (1 : Int32)), .unset, .unset, .unset] rfl ?_
  refine own_iloadN B X0 at_16 rfl rfl ?_
  refine own_callS B X0 (c1 l Z a0 hw w0 w1 w2 w3 w4 w5 w6 h0 F (3 : Int32)  w1 (by simp +decide [f1])) e0 at_17 rfl (B.w 1 rfl) (B.w 2 rfl) (B.w 3 rfl) (B.w 4 rfl) (by decide) (W := 0) (by decide) (by decide) rfl [(.int (3 : Int32))] [] pd0 rfl rfl rfl (Nat.le_refl _) (by decide) (by decide) ?_
  rintro T1 _ _ X1 ⟨rfl, rfl, e1⟩
  show Go p e below _ T1 (mkF m 20 _ [(.ref w1)])
  refine own_astore B X1 at_20 rfl rfl #[.val (.int i0), .val (.int i1), .val (.int (3 : Int32)), .val (.int (1 : Int32)), .val (.ref w1), .unset, .unset] rfl ?_
  refine own_iloadN B X1 at_22 rfl rfl ?_
  refine own_callS B X1 (c1 l Z a0 hw w0 w1 w2 w3 w4 w5 w6 h0 F (1 : Int32)  w2 (by simp +decide [f1])) e1 at_23 rfl (B.w 1 rfl) (B.w 2 rfl) (B.w 3 rfl) (B.w 4 rfl) (by decide) (W := 0) (by decide) (by decide) rfl [(.int (1 : Int32))] [] pd0 rfl rfl rfl (Nat.le_refl _) (by decide) (by decide) ?_
  rintro T2 _ _ X2 ⟨rfl, rfl, e2⟩
  show Go p e below _ T2 (mkF m 26 _ [(.ref w2)])
  refine own_astore B X2 at_26 rfl rfl #[.val (.int i0), .val (.int i1), .val (.int (3 : Int32)), .val (.int (1 : Int32)), .val (.ref w1), .val (.ref w2), .unset] rfl ?_
  refine own_iloadN B X2 at_28 rfl rfl ?_
  refine own_callS B X2 (c2 l Z a0 hw w0 w1 w2 w3 w4 w5 w6 h0 F (3 : Int32)  (0 : Int32) (by simp +decide [f2])) e2 at_29 rfl (B.w 10 rfl) (B.w 11 rfl) (B.w 3 rfl) (B.w 12 rfl) (by decide) (W := 0) (by decide) (by decide) rfl [(.int (3 : Int32))] [] pd1 rfl rfl rfl (Nat.le_refl _) (by decide) (by decide) ?_
  rintro T3 _ _ X3 ⟨rfl, rfl, e3⟩
  show Go p e below _ T3 (mkF m 32 _ [(.int (0 : Int32))])
  refine own_iloadN B X3 at_32 rfl rfl ?_
  refine own_callS B X3 (c2 l Z a0 hw w0 w1 w2 w3 w4 w5 w6 h0 F (1 : Int32)  (0 : Int32) (by simp +decide [f2])) e3 at_33 rfl (B.w 10 rfl) (B.w 11 rfl) (B.w 3 rfl) (B.w 12 rfl) (by decide) (W := 1) (by decide) (by decide) rfl [(.int (1 : Int32))] [(.int (0 : Int32))] pd1 rfl rfl rfl (Nat.le_refl _) (by decide) (by decide) ?_
  rintro T4 _ _ X4 ⟨rfl, rfl, e4⟩
  show Go p e below _ T4 (mkF m 36 _ [(.int (0 : Int32)), (.int (0 : Int32))])
  refine own_icmpYes B X4 at_36 (flt (by decide : ¬ ((0 : Int32) < (0 : Int32)))).2.1 (by decide) (pc' := 43) rfl ?_
  refine own_iconst B X4 at_43 rfl (v := (0 : Int32)) rfl ?_
  refine own_istore B X4 at_44 rfl #[.val (.int i0), .val (.int i1), .val (.int (3 : Int32)), .val (.int (1 : Int32)), .val (.ref w1), .val (.ref w2), .val (.int (0 : Int32))] rfl ?_
  refine own_aload B X4 at_46 rfl rfl rfl ?_
  refine own_aload B X4 at_48 rfl rfl rfl ?_
  refine own_callV B X4 (c3 l Z a0 hw w0 w1 w2 w3 w4 w5 w6 h0 F w1 w2 (0 : Int32) (0 : Int32) F.2.2.2.2.2.2.2.2.2.2.2.2.2.2.2.1 F.2.2.2.2.2.2.2.2.2.2.2.2.2.2.2.2.1 (0 : Int32) (by simp +decide [f3])) e4 F.2.2.2.1 (own_nf B (B.w 16 rfl)) at_50 rfl (B.w 13 rfl) (B.w 14 rfl) (B.w 16 rfl) (B.w 15 rfl) (B.w 6 rfl) (B.w 17 rfl) (by decide) (W := 0) (by decide) (by decide) rfl [(.ref w2)] [] pd2 rfl rfl rfl (Nat.le_refl _) (by decide) (by decide) ?_
  rintro T5 _ _ X5 ⟨rfl, rfl, e5⟩
  show Go p e below _ T5 (mkF m 53 _ [(.int (0 : Int32))])
  refine own_iload B X5 at_53 rfl rfl ?_
  refine own_icmpNo B X5 at_55 (teq (rfl : (0 : Int32) = (0 : Int32))).2 rfl ?_
  refine own_iconst B X5 at_58 rfl (v := (1 : Int32)) rfl ?_
  refine own_goto B X5 at_59 (by decide) (pc' := 63) rfl ?_
  exact own_retInt B X5 at_63 rfl (Or.inr (Or.inl rfl)) ⟨rfl, (Fr.app (Fr.app (Fr.app (Fr.app (Fr.app (Fr.nil n0) (Fr.nil _)) (Fr.nil _)) (Fr.nil _)) (Fr.nil _)) (Fr.nil _))⟩ (by decide) (by decide)
set_option maxRecDepth 65536 in
set_option maxHeartbeats 4000000 in
theorem law_3_2 (l : Launch) (Z : State) (a0 : Array Value) (hw : ∀ d ∈ tables_1, d.before a0 Z = true) (w0 w1 w2 w3 w4 w5 w6 : Addr) (h0 : Heap) (F : Facts Z h0 w0 w1 w2 w3 w4 w5 w6) (i0 i1 : Int32) (n0 : Nat) (Z0 : n0 ≤ h0.size) (q0 : ((i0 &&& (2147483647 : Int32)) % (7 : Int32)) = (3 : Int32)) (q1 : ((i1 &&& (2147483647 : Int32)) % (7 : Int32)) = (2 : Int32)) :
    Con l Z x code maxLocals ret tables_1 room_1 #[(.int i0), (.int i1)] h0 (Q0 n0) := by
  refine own_body (plainFor_of_name pnL) hw ?_
  intro p e s m below meth c T0 B X0 e0 hnm
  refine Go.cast (ef0 m i0 i1) ?_
  refine own_iloadN B X0 at_0 rfl rfl ?_
  refine own_ldc B X0 at_1 rfl (v := (2147483647 : Int32)) (B.w 0 rfl) ?_
  refine own_iand B X0 at_3 rfl (v := (i0 &&& (2147483647 : Int32))) rfl ?_
  refine own_bipush B X0 at_4 rfl (v := (7 : Int32)) rfl ?_
  refine own_irem B X0 at_6 rfl (by decide) (v := (3 : Int32)) q0 ?_
  refine own_istoreN B X0 at_7 rfl #[.val (.int i0), .val (.int i1), .val (.int (3 : Int32)), .unset, .unset, .unset, .unset] rfl ?_
  refine own_iloadN B X0 at_8 rfl rfl ?_
  refine own_ldc B X0 at_9 rfl (v := (2147483647 : Int32)) (B.w 0 rfl) ?_
  refine own_iand B X0 at_11 rfl (v := (i1 &&& (2147483647 : Int32))) rfl ?_
  refine own_bipush B X0 at_12 rfl (v := (7 : Int32)) rfl ?_
  refine own_irem B X0 at_14 rfl (by decide) (v := (2 : Int32)) q1 ?_
  refine own_istoreN B X0 at_15 rfl #[.val (.int i0), .val (.int i1), .val (.int (3 : Int32)), .val (.int (2 : Int32)), .unset, .unset, .unset] rfl ?_
  refine own_iloadN B X0 at_16 rfl rfl ?_
  refine own_callS B X0 (c1 l Z a0 hw w0 w1 w2 w3 w4 w5 w6 h0 F (3 : Int32)  w1 (by simp +decide [f1])) e0 at_17 rfl (B.w 1 rfl) (B.w 2 rfl) (B.w 3 rfl) (B.w 4 rfl) (by decide) (W := 0) (by decide) (by decide) rfl [(.int (3 : Int32))] [] pd0 rfl rfl rfl (Nat.le_refl _) (by decide) (by decide) ?_
  rintro T1 _ _ X1 ⟨rfl, rfl, e1⟩
  show Go p e below _ T1 (mkF m 20 _ [(.ref w1)])
  refine own_astore B X1 at_20 rfl rfl #[.val (.int i0), .val (.int i1), .val (.int (3 : Int32)), .val (.int (2 : Int32)), .val (.ref w1), .unset, .unset] rfl ?_
  refine own_iloadN B X1 at_22 rfl rfl ?_
  refine own_callS B X1 (c1 l Z a0 hw w0 w1 w2 w3 w4 w5 w6 h0 F (2 : Int32)  w4 (by simp +decide [f1])) e1 at_23 rfl (B.w 1 rfl) (B.w 2 rfl) (B.w 3 rfl) (B.w 4 rfl) (by decide) (W := 0) (by decide) (by decide) rfl [(.int (2 : Int32))] [] pd0 rfl rfl rfl (Nat.le_refl _) (by decide) (by decide) ?_
  rintro T2 _ _ X2 ⟨rfl, rfl, e2⟩
  show Go p e below _ T2 (mkF m 26 _ [(.ref w4)])
  refine own_astore B X2 at_26 rfl rfl #[.val (.int i0), .val (.int i1), .val (.int (3 : Int32)), .val (.int (2 : Int32)), .val (.ref w1), .val (.ref w4), .unset] rfl ?_
  refine own_iloadN B X2 at_28 rfl rfl ?_
  refine own_callS B X2 (c2 l Z a0 hw w0 w1 w2 w3 w4 w5 w6 h0 F (3 : Int32)  (0 : Int32) (by simp +decide [f2])) e2 at_29 rfl (B.w 10 rfl) (B.w 11 rfl) (B.w 3 rfl) (B.w 12 rfl) (by decide) (W := 0) (by decide) (by decide) rfl [(.int (3 : Int32))] [] pd1 rfl rfl rfl (Nat.le_refl _) (by decide) (by decide) ?_
  rintro T3 _ _ X3 ⟨rfl, rfl, e3⟩
  show Go p e below _ T3 (mkF m 32 _ [(.int (0 : Int32))])
  refine own_iloadN B X3 at_32 rfl rfl ?_
  refine own_callS B X3 (c2 l Z a0 hw w0 w1 w2 w3 w4 w5 w6 h0 F (2 : Int32)  (0 : Int32) (by simp +decide [f2])) e3 at_33 rfl (B.w 10 rfl) (B.w 11 rfl) (B.w 3 rfl) (B.w 12 rfl) (by decide) (W := 1) (by decide) (by decide) rfl [(.int (2 : Int32))] [(.int (0 : Int32))] pd1 rfl rfl rfl (Nat.le_refl _) (by decide) (by decide) ?_
  rintro T4 _ _ X4 ⟨rfl, rfl, e4⟩
  show Go p e below _ T4 (mkF m 36 _ [(.int (0 : Int32)), (.int (0 : Int32))])
  refine own_icmpYes B X4 at_36 (flt (by decide : ¬ ((0 : Int32) < (0 : Int32)))).2.1 (by decide) (pc' := 43) rfl ?_
  refine own_iconst B X4 at_43 rfl (v := (0 : Int32)) rfl ?_
  refine own_istore B X4 at_44 rfl #[.val (.int i0), .val (.int i1), .val (.int (3 : Int32)), .val (.int (2 : Int32)), .val (.ref w1), .val (.ref w4), .val (.int (0 : Int32))] rfl ?_
  refine own_aload B X4 at_46 rfl rfl rfl ?_
  refine own_aload B X4 at_48 rfl rfl rfl ?_
  refine own_callV B X4 (c3 l Z a0 hw w0 w1 w2 w3 w4 w5 w6 h0 F w1 w4 (0 : Int32) (0 : Int32) F.2.2.2.2.2.2.2.2.2.2.2.2.2.2.2.1 F.2.2.2.2.2.2.2.2.2.2.2.2.2.2.2.2.2.2.1 (0 : Int32) (by simp +decide [f3])) e4 F.2.2.2.1 (own_nf B (B.w 16 rfl)) at_50 rfl (B.w 13 rfl) (B.w 14 rfl) (B.w 16 rfl) (B.w 15 rfl) (B.w 6 rfl) (B.w 17 rfl) (by decide) (W := 0) (by decide) (by decide) rfl [(.ref w4)] [] pd2 rfl rfl rfl (Nat.le_refl _) (by decide) (by decide) ?_
  rintro T5 _ _ X5 ⟨rfl, rfl, e5⟩
  show Go p e below _ T5 (mkF m 53 _ [(.int (0 : Int32))])
  refine own_iload B X5 at_53 rfl rfl ?_
  refine own_icmpNo B X5 at_55 (teq (rfl : (0 : Int32) = (0 : Int32))).2 rfl ?_
  refine own_iconst B X5 at_58 rfl (v := (1 : Int32)) rfl ?_
  refine own_goto B X5 at_59 (by decide) (pc' := 63) rfl ?_
  exact own_retInt B X5 at_63 rfl (Or.inr (Or.inl rfl)) ⟨rfl, (Fr.app (Fr.app (Fr.app (Fr.app (Fr.app (Fr.nil n0) (Fr.nil _)) (Fr.nil _)) (Fr.nil _)) (Fr.nil _)) (Fr.nil _))⟩ (by decide) (by decide)
set_option maxRecDepth 65536 in
set_option maxHeartbeats 4000000 in
theorem law_3_3 (l : Launch) (Z : State) (a0 : Array Value) (hw : ∀ d ∈ tables_1, d.before a0 Z = true) (w0 w1 w2 w3 w4 w5 w6 : Addr) (h0 : Heap) (F : Facts Z h0 w0 w1 w2 w3 w4 w5 w6) (i0 i1 : Int32) (n0 : Nat) (Z0 : n0 ≤ h0.size) (q0 : ((i0 &&& (2147483647 : Int32)) % (7 : Int32)) = (3 : Int32)) (q1 : ((i1 &&& (2147483647 : Int32)) % (7 : Int32)) = (3 : Int32)) :
    Con l Z x code maxLocals ret tables_1 room_1 #[(.int i0), (.int i1)] h0 (Q0 n0) := by
  refine own_body (plainFor_of_name pnL) hw ?_
  intro p e s m below meth c T0 B X0 e0 hnm
  refine Go.cast (ef0 m i0 i1) ?_
  refine own_iloadN B X0 at_0 rfl rfl ?_
  refine own_ldc B X0 at_1 rfl (v := (2147483647 : Int32)) (B.w 0 rfl) ?_
  refine own_iand B X0 at_3 rfl (v := (i0 &&& (2147483647 : Int32))) rfl ?_
  refine own_bipush B X0 at_4 rfl (v := (7 : Int32)) rfl ?_
  refine own_irem B X0 at_6 rfl (by decide) (v := (3 : Int32)) q0 ?_
  refine own_istoreN B X0 at_7 rfl #[.val (.int i0), .val (.int i1), .val (.int (3 : Int32)), .unset, .unset, .unset, .unset] rfl ?_
  refine own_iloadN B X0 at_8 rfl rfl ?_
  refine own_ldc B X0 at_9 rfl (v := (2147483647 : Int32)) (B.w 0 rfl) ?_
  refine own_iand B X0 at_11 rfl (v := (i1 &&& (2147483647 : Int32))) rfl ?_
  refine own_bipush B X0 at_12 rfl (v := (7 : Int32)) rfl ?_
  refine own_irem B X0 at_14 rfl (by decide) (v := (3 : Int32)) q1 ?_
  refine own_istoreN B X0 at_15 rfl #[.val (.int i0), .val (.int i1), .val (.int (3 : Int32)), .val (.int (3 : Int32)), .unset, .unset, .unset] rfl ?_
  refine own_iloadN B X0 at_16 rfl rfl ?_
  refine own_callS B X0 (c1 l Z a0 hw w0 w1 w2 w3 w4 w5 w6 h0 F (3 : Int32)  w1 (by simp +decide [f1])) e0 at_17 rfl (B.w 1 rfl) (B.w 2 rfl) (B.w 3 rfl) (B.w 4 rfl) (by decide) (W := 0) (by decide) (by decide) rfl [(.int (3 : Int32))] [] pd0 rfl rfl rfl (Nat.le_refl _) (by decide) (by decide) ?_
  rintro T1 _ _ X1 ⟨rfl, rfl, e1⟩
  show Go p e below _ T1 (mkF m 20 _ [(.ref w1)])
  refine own_astore B X1 at_20 rfl rfl #[.val (.int i0), .val (.int i1), .val (.int (3 : Int32)), .val (.int (3 : Int32)), .val (.ref w1), .unset, .unset] rfl ?_
  refine own_iloadN B X1 at_22 rfl rfl ?_
  refine own_callS B X1 (c1 l Z a0 hw w0 w1 w2 w3 w4 w5 w6 h0 F (3 : Int32)  w1 (by simp +decide [f1])) e1 at_23 rfl (B.w 1 rfl) (B.w 2 rfl) (B.w 3 rfl) (B.w 4 rfl) (by decide) (W := 0) (by decide) (by decide) rfl [(.int (3 : Int32))] [] pd0 rfl rfl rfl (Nat.le_refl _) (by decide) (by decide) ?_
  rintro T2 _ _ X2 ⟨rfl, rfl, e2⟩
  show Go p e below _ T2 (mkF m 26 _ [(.ref w1)])
  refine own_astore B X2 at_26 rfl rfl #[.val (.int i0), .val (.int i1), .val (.int (3 : Int32)), .val (.int (3 : Int32)), .val (.ref w1), .val (.ref w1), .unset] rfl ?_
  refine own_iloadN B X2 at_28 rfl rfl ?_
  refine own_callS B X2 (c2 l Z a0 hw w0 w1 w2 w3 w4 w5 w6 h0 F (3 : Int32)  (0 : Int32) (by simp +decide [f2])) e2 at_29 rfl (B.w 10 rfl) (B.w 11 rfl) (B.w 3 rfl) (B.w 12 rfl) (by decide) (W := 0) (by decide) (by decide) rfl [(.int (3 : Int32))] [] pd1 rfl rfl rfl (Nat.le_refl _) (by decide) (by decide) ?_
  rintro T3 _ _ X3 ⟨rfl, rfl, e3⟩
  show Go p e below _ T3 (mkF m 32 _ [(.int (0 : Int32))])
  refine own_iloadN B X3 at_32 rfl rfl ?_
  refine own_callS B X3 (c2 l Z a0 hw w0 w1 w2 w3 w4 w5 w6 h0 F (3 : Int32)  (0 : Int32) (by simp +decide [f2])) e3 at_33 rfl (B.w 10 rfl) (B.w 11 rfl) (B.w 3 rfl) (B.w 12 rfl) (by decide) (W := 1) (by decide) (by decide) rfl [(.int (3 : Int32))] [(.int (0 : Int32))] pd1 rfl rfl rfl (Nat.le_refl _) (by decide) (by decide) ?_
  rintro T4 _ _ X4 ⟨rfl, rfl, e4⟩
  show Go p e below _ T4 (mkF m 36 _ [(.int (0 : Int32)), (.int (0 : Int32))])
  refine own_icmpYes B X4 at_36 (flt (by decide : ¬ ((0 : Int32) < (0 : Int32)))).2.1 (by decide) (pc' := 43) rfl ?_
  refine own_iconst B X4 at_43 rfl (v := (0 : Int32)) rfl ?_
  refine own_istore B X4 at_44 rfl #[.val (.int i0), .val (.int i1), .val (.int (3 : Int32)), .val (.int (3 : Int32)), .val (.ref w1), .val (.ref w1), .val (.int (0 : Int32))] rfl ?_
  refine own_aload B X4 at_46 rfl rfl rfl ?_
  refine own_aload B X4 at_48 rfl rfl rfl ?_
  refine own_callV B X4 (c3 l Z a0 hw w0 w1 w2 w3 w4 w5 w6 h0 F w1 w1 (0 : Int32) (0 : Int32) F.2.2.2.2.2.2.2.2.2.2.2.2.2.2.2.1 F.2.2.2.2.2.2.2.2.2.2.2.2.2.2.2.1 (0 : Int32) (by simp +decide [f3])) e4 F.2.2.2.1 (own_nf B (B.w 16 rfl)) at_50 rfl (B.w 13 rfl) (B.w 14 rfl) (B.w 16 rfl) (B.w 15 rfl) (B.w 6 rfl) (B.w 17 rfl) (by decide) (W := 0) (by decide) (by decide) rfl [(.ref w1)] [] pd2 rfl rfl rfl (Nat.le_refl _) (by decide) (by decide) ?_
  rintro T5 _ _ X5 ⟨rfl, rfl, e5⟩
  show Go p e below _ T5 (mkF m 53 _ [(.int (0 : Int32))])
  refine own_iload B X5 at_53 rfl rfl ?_
  refine own_icmpNo B X5 at_55 (teq (rfl : (0 : Int32) = (0 : Int32))).2 rfl ?_
  refine own_iconst B X5 at_58 rfl (v := (1 : Int32)) rfl ?_
  refine own_goto B X5 at_59 (by decide) (pc' := 63) rfl ?_
  exact own_retInt B X5 at_63 rfl (Or.inr (Or.inl rfl)) ⟨rfl, (Fr.app (Fr.app (Fr.app (Fr.app (Fr.app (Fr.nil n0) (Fr.nil _)) (Fr.nil _)) (Fr.nil _)) (Fr.nil _)) (Fr.nil _))⟩ (by decide) (by decide)
set_option maxRecDepth 65536 in
set_option maxHeartbeats 4000000 in
theorem law_3_4 (l : Launch) (Z : State) (a0 : Array Value) (hw : ∀ d ∈ tables_1, d.before a0 Z = true) (w0 w1 w2 w3 w4 w5 w6 : Addr) (h0 : Heap) (F : Facts Z h0 w0 w1 w2 w3 w4 w5 w6) (i0 i1 : Int32) (n0 : Nat) (Z0 : n0 ≤ h0.size) (q0 : ((i0 &&& (2147483647 : Int32)) % (7 : Int32)) = (3 : Int32)) (q1 : ((i1 &&& (2147483647 : Int32)) % (7 : Int32)) = (4 : Int32)) :
    Con l Z x code maxLocals ret tables_1 room_1 #[(.int i0), (.int i1)] h0 (Q0 n0) := by
  refine own_body (plainFor_of_name pnL) hw ?_
  intro p e s m below meth c T0 B X0 e0 hnm
  refine Go.cast (ef0 m i0 i1) ?_
  refine own_iloadN B X0 at_0 rfl rfl ?_
  refine own_ldc B X0 at_1 rfl (v := (2147483647 : Int32)) (B.w 0 rfl) ?_
  refine own_iand B X0 at_3 rfl (v := (i0 &&& (2147483647 : Int32))) rfl ?_
  refine own_bipush B X0 at_4 rfl (v := (7 : Int32)) rfl ?_
  refine own_irem B X0 at_6 rfl (by decide) (v := (3 : Int32)) q0 ?_
  refine own_istoreN B X0 at_7 rfl #[.val (.int i0), .val (.int i1), .val (.int (3 : Int32)), .unset, .unset, .unset, .unset] rfl ?_
  refine own_iloadN B X0 at_8 rfl rfl ?_
  refine own_ldc B X0 at_9 rfl (v := (2147483647 : Int32)) (B.w 0 rfl) ?_
  refine own_iand B X0 at_11 rfl (v := (i1 &&& (2147483647 : Int32))) rfl ?_
  refine own_bipush B X0 at_12 rfl (v := (7 : Int32)) rfl ?_
  refine own_irem B X0 at_14 rfl (by decide) (v := (4 : Int32)) q1 ?_
  refine own_istoreN B X0 at_15 rfl #[.val (.int i0), .val (.int i1), .val (.int (3 : Int32)), .val (.int (4 : Int32)), .unset, .unset, .unset] rfl ?_
  refine own_iloadN B X0 at_16 rfl rfl ?_
  refine own_callS B X0 (c1 l Z a0 hw w0 w1 w2 w3 w4 w5 w6 h0 F (3 : Int32)  w1 (by simp +decide [f1])) e0 at_17 rfl (B.w 1 rfl) (B.w 2 rfl) (B.w 3 rfl) (B.w 4 rfl) (by decide) (W := 0) (by decide) (by decide) rfl [(.int (3 : Int32))] [] pd0 rfl rfl rfl (Nat.le_refl _) (by decide) (by decide) ?_
  rintro T1 _ _ X1 ⟨rfl, rfl, e1⟩
  show Go p e below _ T1 (mkF m 20 _ [(.ref w1)])
  refine own_astore B X1 at_20 rfl rfl #[.val (.int i0), .val (.int i1), .val (.int (3 : Int32)), .val (.int (4 : Int32)), .val (.ref w1), .unset, .unset] rfl ?_
  refine own_iloadN B X1 at_22 rfl rfl ?_
  refine own_callS B X1 (c1 l Z a0 hw w0 w1 w2 w3 w4 w5 w6 h0 F (4 : Int32)  w5 (by simp +decide [f1])) e1 at_23 rfl (B.w 1 rfl) (B.w 2 rfl) (B.w 3 rfl) (B.w 4 rfl) (by decide) (W := 0) (by decide) (by decide) rfl [(.int (4 : Int32))] [] pd0 rfl rfl rfl (Nat.le_refl _) (by decide) (by decide) ?_
  rintro T2 _ _ X2 ⟨rfl, rfl, e2⟩
  show Go p e below _ T2 (mkF m 26 _ [(.ref w5)])
  refine own_astore B X2 at_26 rfl rfl #[.val (.int i0), .val (.int i1), .val (.int (3 : Int32)), .val (.int (4 : Int32)), .val (.ref w1), .val (.ref w5), .unset] rfl ?_
  refine own_iloadN B X2 at_28 rfl rfl ?_
  refine own_callS B X2 (c2 l Z a0 hw w0 w1 w2 w3 w4 w5 w6 h0 F (3 : Int32)  (0 : Int32) (by simp +decide [f2])) e2 at_29 rfl (B.w 10 rfl) (B.w 11 rfl) (B.w 3 rfl) (B.w 12 rfl) (by decide) (W := 0) (by decide) (by decide) rfl [(.int (3 : Int32))] [] pd1 rfl rfl rfl (Nat.le_refl _) (by decide) (by decide) ?_
  rintro T3 _ _ X3 ⟨rfl, rfl, e3⟩
  show Go p e below _ T3 (mkF m 32 _ [(.int (0 : Int32))])
  refine own_iloadN B X3 at_32 rfl rfl ?_
  refine own_callS B X3 (c2 l Z a0 hw w0 w1 w2 w3 w4 w5 w6 h0 F (4 : Int32)  (1 : Int32) (by simp +decide [f2])) e3 at_33 rfl (B.w 10 rfl) (B.w 11 rfl) (B.w 3 rfl) (B.w 12 rfl) (by decide) (W := 1) (by decide) (by decide) rfl [(.int (4 : Int32))] [(.int (0 : Int32))] pd1 rfl rfl rfl (Nat.le_refl _) (by decide) (by decide) ?_
  rintro T4 _ _ X4 ⟨rfl, rfl, e4⟩
  show Go p e below _ T4 (mkF m 36 _ [(.int (1 : Int32)), (.int (0 : Int32))])
  refine own_icmpNo B X4 at_36 (tlt (by decide : (0 : Int32) < (1 : Int32))).2.1 rfl ?_
  refine own_iconst B X4 at_39 rfl (v := (1 : Int32)) rfl ?_
  refine own_goto B X4 at_40 (by decide) (pc' := 44) rfl ?_
  refine own_istore B X4 at_44 rfl #[.val (.int i0), .val (.int i1), .val (.int (3 : Int32)), .val (.int (4 : Int32)), .val (.ref w1), .val (.ref w5), .val (.int (1 : Int32))] rfl ?_
  refine own_aload B X4 at_46 rfl rfl rfl ?_
  refine own_aload B X4 at_48 rfl rfl rfl ?_
  refine own_callV B X4 (c3 l Z a0 hw w0 w1 w2 w3 w4 w5 w6 h0 F w1 w5 (0 : Int32) (1 : Int32) F.2.2.2.2.2.2.2.2.2.2.2.2.2.2.2.1 F.2.2.2.2.2.2.2.2.2.2.2.2.2.2.2.2.2.2.2.1 (1 : Int32) (by simp +decide [f3])) e4 F.2.2.2.1 (own_nf B (B.w 16 rfl)) at_50 rfl (B.w 13 rfl) (B.w 14 rfl) (B.w 16 rfl) (B.w 15 rfl) (B.w 6 rfl) (B.w 17 rfl) (by decide) (W := 0) (by decide) (by decide) rfl [(.ref w5)] [] pd2 rfl rfl rfl (Nat.le_refl _) (by decide) (by decide) ?_
  rintro T5 _ _ X5 ⟨rfl, rfl, e5⟩
  show Go p e below _ T5 (mkF m 53 _ [(.int (1 : Int32))])
  refine own_iload B X5 at_53 rfl rfl ?_
  refine own_icmpNo B X5 at_55 (teq (rfl : (1 : Int32) = (1 : Int32))).2 rfl ?_
  refine own_iconst B X5 at_58 rfl (v := (1 : Int32)) rfl ?_
  refine own_goto B X5 at_59 (by decide) (pc' := 63) rfl ?_
  exact own_retInt B X5 at_63 rfl (Or.inr (Or.inl rfl)) ⟨rfl, (Fr.app (Fr.app (Fr.app (Fr.app (Fr.app (Fr.nil n0) (Fr.nil _)) (Fr.nil _)) (Fr.nil _)) (Fr.nil _)) (Fr.nil _))⟩ (by decide) (by decide)
set_option maxRecDepth 65536 in
set_option maxHeartbeats 4000000 in
theorem law_3_5 (l : Launch) (Z : State) (a0 : Array Value) (hw : ∀ d ∈ tables_1, d.before a0 Z = true) (w0 w1 w2 w3 w4 w5 w6 : Addr) (h0 : Heap) (F : Facts Z h0 w0 w1 w2 w3 w4 w5 w6) (i0 i1 : Int32) (n0 : Nat) (Z0 : n0 ≤ h0.size) (q0 : ((i0 &&& (2147483647 : Int32)) % (7 : Int32)) = (3 : Int32)) (q1 : ((i1 &&& (2147483647 : Int32)) % (7 : Int32)) = (5 : Int32)) :
    Con l Z x code maxLocals ret tables_1 room_1 #[(.int i0), (.int i1)] h0 (Q0 n0) := by
  refine own_body (plainFor_of_name pnL) hw ?_
  intro p e s m below meth c T0 B X0 e0 hnm
  refine Go.cast (ef0 m i0 i1) ?_
  refine own_iloadN B X0 at_0 rfl rfl ?_
  refine own_ldc B X0 at_1 rfl (v := (2147483647 : Int32)) (B.w 0 rfl) ?_
  refine own_iand B X0 at_3 rfl (v := (i0 &&& (2147483647 : Int32))) rfl ?_
  refine own_bipush B X0 at_4 rfl (v := (7 : Int32)) rfl ?_
  refine own_irem B X0 at_6 rfl (by decide) (v := (3 : Int32)) q0 ?_
  refine own_istoreN B X0 at_7 rfl #[.val (.int i0), .val (.int i1), .val (.int (3 : Int32)), .unset, .unset, .unset, .unset] rfl ?_
  refine own_iloadN B X0 at_8 rfl rfl ?_
  refine own_ldc B X0 at_9 rfl (v := (2147483647 : Int32)) (B.w 0 rfl) ?_
  refine own_iand B X0 at_11 rfl (v := (i1 &&& (2147483647 : Int32))) rfl ?_
  refine own_bipush B X0 at_12 rfl (v := (7 : Int32)) rfl ?_
  refine own_irem B X0 at_14 rfl (by decide) (v := (5 : Int32)) q1 ?_
  refine own_istoreN B X0 at_15 rfl #[.val (.int i0), .val (.int i1), .val (.int (3 : Int32)), .val (.int (5 : Int32)), .unset, .unset, .unset] rfl ?_
  refine own_iloadN B X0 at_16 rfl rfl ?_
  refine own_callS B X0 (c1 l Z a0 hw w0 w1 w2 w3 w4 w5 w6 h0 F (3 : Int32)  w1 (by simp +decide [f1])) e0 at_17 rfl (B.w 1 rfl) (B.w 2 rfl) (B.w 3 rfl) (B.w 4 rfl) (by decide) (W := 0) (by decide) (by decide) rfl [(.int (3 : Int32))] [] pd0 rfl rfl rfl (Nat.le_refl _) (by decide) (by decide) ?_
  rintro T1 _ _ X1 ⟨rfl, rfl, e1⟩
  show Go p e below _ T1 (mkF m 20 _ [(.ref w1)])
  refine own_astore B X1 at_20 rfl rfl #[.val (.int i0), .val (.int i1), .val (.int (3 : Int32)), .val (.int (5 : Int32)), .val (.ref w1), .unset, .unset] rfl ?_
  refine own_iloadN B X1 at_22 rfl rfl ?_
  refine own_callS B X1 (c1 l Z a0 hw w0 w1 w2 w3 w4 w5 w6 h0 F (5 : Int32)  w3 (by simp +decide [f1])) e1 at_23 rfl (B.w 1 rfl) (B.w 2 rfl) (B.w 3 rfl) (B.w 4 rfl) (by decide) (W := 0) (by decide) (by decide) rfl [(.int (5 : Int32))] [] pd0 rfl rfl rfl (Nat.le_refl _) (by decide) (by decide) ?_
  rintro T2 _ _ X2 ⟨rfl, rfl, e2⟩
  show Go p e below _ T2 (mkF m 26 _ [(.ref w3)])
  refine own_astore B X2 at_26 rfl rfl #[.val (.int i0), .val (.int i1), .val (.int (3 : Int32)), .val (.int (5 : Int32)), .val (.ref w1), .val (.ref w3), .unset] rfl ?_
  refine own_iloadN B X2 at_28 rfl rfl ?_
  refine own_callS B X2 (c2 l Z a0 hw w0 w1 w2 w3 w4 w5 w6 h0 F (3 : Int32)  (0 : Int32) (by simp +decide [f2])) e2 at_29 rfl (B.w 10 rfl) (B.w 11 rfl) (B.w 3 rfl) (B.w 12 rfl) (by decide) (W := 0) (by decide) (by decide) rfl [(.int (3 : Int32))] [] pd1 rfl rfl rfl (Nat.le_refl _) (by decide) (by decide) ?_
  rintro T3 _ _ X3 ⟨rfl, rfl, e3⟩
  show Go p e below _ T3 (mkF m 32 _ [(.int (0 : Int32))])
  refine own_iloadN B X3 at_32 rfl rfl ?_
  refine own_callS B X3 (c2 l Z a0 hw w0 w1 w2 w3 w4 w5 w6 h0 F (5 : Int32)  (1 : Int32) (by simp +decide [f2])) e3 at_33 rfl (B.w 10 rfl) (B.w 11 rfl) (B.w 3 rfl) (B.w 12 rfl) (by decide) (W := 1) (by decide) (by decide) rfl [(.int (5 : Int32))] [(.int (0 : Int32))] pd1 rfl rfl rfl (Nat.le_refl _) (by decide) (by decide) ?_
  rintro T4 _ _ X4 ⟨rfl, rfl, e4⟩
  show Go p e below _ T4 (mkF m 36 _ [(.int (1 : Int32)), (.int (0 : Int32))])
  refine own_icmpNo B X4 at_36 (tlt (by decide : (0 : Int32) < (1 : Int32))).2.1 rfl ?_
  refine own_iconst B X4 at_39 rfl (v := (1 : Int32)) rfl ?_
  refine own_goto B X4 at_40 (by decide) (pc' := 44) rfl ?_
  refine own_istore B X4 at_44 rfl #[.val (.int i0), .val (.int i1), .val (.int (3 : Int32)), .val (.int (5 : Int32)), .val (.ref w1), .val (.ref w3), .val (.int (1 : Int32))] rfl ?_
  refine own_aload B X4 at_46 rfl rfl rfl ?_
  refine own_aload B X4 at_48 rfl rfl rfl ?_
  refine own_callV B X4 (c3 l Z a0 hw w0 w1 w2 w3 w4 w5 w6 h0 F w1 w3 (0 : Int32) (1 : Int32) F.2.2.2.2.2.2.2.2.2.2.2.2.2.2.2.1 F.2.2.2.2.2.2.2.2.2.2.2.2.2.2.2.2.2.1 (1 : Int32) (by simp +decide [f3])) e4 F.2.2.2.1 (own_nf B (B.w 16 rfl)) at_50 rfl (B.w 13 rfl) (B.w 14 rfl) (B.w 16 rfl) (B.w 15 rfl) (B.w 6 rfl) (B.w 17 rfl) (by decide) (W := 0) (by decide) (by decide) rfl [(.ref w3)] [] pd2 rfl rfl rfl (Nat.le_refl _) (by decide) (by decide) ?_
  rintro T5 _ _ X5 ⟨rfl, rfl, e5⟩
  show Go p e below _ T5 (mkF m 53 _ [(.int (1 : Int32))])
  refine own_iload B X5 at_53 rfl rfl ?_
  refine own_icmpNo B X5 at_55 (teq (rfl : (1 : Int32) = (1 : Int32))).2 rfl ?_
  refine own_iconst B X5 at_58 rfl (v := (1 : Int32)) rfl ?_
  refine own_goto B X5 at_59 (by decide) (pc' := 63) rfl ?_
  exact own_retInt B X5 at_63 rfl (Or.inr (Or.inl rfl)) ⟨rfl, (Fr.app (Fr.app (Fr.app (Fr.app (Fr.app (Fr.nil n0) (Fr.nil _)) (Fr.nil _)) (Fr.nil _)) (Fr.nil _)) (Fr.nil _))⟩ (by decide) (by decide)
set_option maxRecDepth 65536 in
set_option maxHeartbeats 4000000 in
theorem law_3_6 (l : Launch) (Z : State) (a0 : Array Value) (hw : ∀ d ∈ tables_1, d.before a0 Z = true) (w0 w1 w2 w3 w4 w5 w6 : Addr) (h0 : Heap) (F : Facts Z h0 w0 w1 w2 w3 w4 w5 w6) (i0 i1 : Int32) (n0 : Nat) (Z0 : n0 ≤ h0.size) (q0 : ((i0 &&& (2147483647 : Int32)) % (7 : Int32)) = (3 : Int32)) (q1 : ((i1 &&& (2147483647 : Int32)) % (7 : Int32)) = (6 : Int32)) :
    Con l Z x code maxLocals ret tables_1 room_1 #[(.int i0), (.int i1)] h0 (Q0 n0) := by
  refine own_body (plainFor_of_name pnL) hw ?_
  intro p e s m below meth c T0 B X0 e0 hnm
  refine Go.cast (ef0 m i0 i1) ?_
  refine own_iloadN B X0 at_0 rfl rfl ?_
  refine own_ldc B X0 at_1 rfl (v := (2147483647 : Int32)) (B.w 0 rfl) ?_
  refine own_iand B X0 at_3 rfl (v := (i0 &&& (2147483647 : Int32))) rfl ?_
  refine own_bipush B X0 at_4 rfl (v := (7 : Int32)) rfl ?_
  refine own_irem B X0 at_6 rfl (by decide) (v := (3 : Int32)) q0 ?_
  refine own_istoreN B X0 at_7 rfl #[.val (.int i0), .val (.int i1), .val (.int (3 : Int32)), .unset, .unset, .unset, .unset] rfl ?_
  refine own_iloadN B X0 at_8 rfl rfl ?_
  refine own_ldc B X0 at_9 rfl (v := (2147483647 : Int32)) (B.w 0 rfl) ?_
  refine own_iand B X0 at_11 rfl (v := (i1 &&& (2147483647 : Int32))) rfl ?_
  refine own_bipush B X0 at_12 rfl (v := (7 : Int32)) rfl ?_
  refine own_irem B X0 at_14 rfl (by decide) (v := (6 : Int32)) q1 ?_
  refine own_istoreN B X0 at_15 rfl #[.val (.int i0), .val (.int i1), .val (.int (3 : Int32)), .val (.int (6 : Int32)), .unset, .unset, .unset] rfl ?_
  refine own_iloadN B X0 at_16 rfl rfl ?_
  refine own_callS B X0 (c1 l Z a0 hw w0 w1 w2 w3 w4 w5 w6 h0 F (3 : Int32)  w1 (by simp +decide [f1])) e0 at_17 rfl (B.w 1 rfl) (B.w 2 rfl) (B.w 3 rfl) (B.w 4 rfl) (by decide) (W := 0) (by decide) (by decide) rfl [(.int (3 : Int32))] [] pd0 rfl rfl rfl (Nat.le_refl _) (by decide) (by decide) ?_
  rintro T1 _ _ X1 ⟨rfl, rfl, e1⟩
  show Go p e below _ T1 (mkF m 20 _ [(.ref w1)])
  refine own_astore B X1 at_20 rfl rfl #[.val (.int i0), .val (.int i1), .val (.int (3 : Int32)), .val (.int (6 : Int32)), .val (.ref w1), .unset, .unset] rfl ?_
  refine own_iloadN B X1 at_22 rfl rfl ?_
  refine own_callS B X1 (c1 l Z a0 hw w0 w1 w2 w3 w4 w5 w6 h0 F (6 : Int32)  w6 (by simp +decide [f1])) e1 at_23 rfl (B.w 1 rfl) (B.w 2 rfl) (B.w 3 rfl) (B.w 4 rfl) (by decide) (W := 0) (by decide) (by decide) rfl [(.int (6 : Int32))] [] pd0 rfl rfl rfl (Nat.le_refl _) (by decide) (by decide) ?_
  rintro T2 _ _ X2 ⟨rfl, rfl, e2⟩
  show Go p e below _ T2 (mkF m 26 _ [(.ref w6)])
  refine own_astore B X2 at_26 rfl rfl #[.val (.int i0), .val (.int i1), .val (.int (3 : Int32)), .val (.int (6 : Int32)), .val (.ref w1), .val (.ref w6), .unset] rfl ?_
  refine own_iloadN B X2 at_28 rfl rfl ?_
  refine own_callS B X2 (c2 l Z a0 hw w0 w1 w2 w3 w4 w5 w6 h0 F (3 : Int32)  (0 : Int32) (by simp +decide [f2])) e2 at_29 rfl (B.w 10 rfl) (B.w 11 rfl) (B.w 3 rfl) (B.w 12 rfl) (by decide) (W := 0) (by decide) (by decide) rfl [(.int (3 : Int32))] [] pd1 rfl rfl rfl (Nat.le_refl _) (by decide) (by decide) ?_
  rintro T3 _ _ X3 ⟨rfl, rfl, e3⟩
  show Go p e below _ T3 (mkF m 32 _ [(.int (0 : Int32))])
  refine own_iloadN B X3 at_32 rfl rfl ?_
  refine own_callS B X3 (c2 l Z a0 hw w0 w1 w2 w3 w4 w5 w6 h0 F (6 : Int32)  (2 : Int32) (by simp +decide [f2])) e3 at_33 rfl (B.w 10 rfl) (B.w 11 rfl) (B.w 3 rfl) (B.w 12 rfl) (by decide) (W := 1) (by decide) (by decide) rfl [(.int (6 : Int32))] [(.int (0 : Int32))] pd1 rfl rfl rfl (Nat.le_refl _) (by decide) (by decide) ?_
  rintro T4 _ _ X4 ⟨rfl, rfl, e4⟩
  show Go p e below _ T4 (mkF m 36 _ [(.int (2 : Int32)), (.int (0 : Int32))])
  refine own_icmpNo B X4 at_36 (tlt (by decide : (0 : Int32) < (2 : Int32))).2.1 rfl ?_
  refine own_iconst B X4 at_39 rfl (v := (1 : Int32)) rfl ?_
  refine own_goto B X4 at_40 (by decide) (pc' := 44) rfl ?_
  refine own_istore B X4 at_44 rfl #[.val (.int i0), .val (.int i1), .val (.int (3 : Int32)), .val (.int (6 : Int32)), .val (.ref w1), .val (.ref w6), .val (.int (1 : Int32))] rfl ?_
  refine own_aload B X4 at_46 rfl rfl rfl ?_
  refine own_aload B X4 at_48 rfl rfl rfl ?_
  refine own_callV B X4 (c3 l Z a0 hw w0 w1 w2 w3 w4 w5 w6 h0 F w1 w6 (0 : Int32) (2 : Int32) F.2.2.2.2.2.2.2.2.2.2.2.2.2.2.2.1 F.2.2.2.2.2.2.2.2.2.2.2.2.2.2.2.2.2.2.2.2.1 (1 : Int32) (by simp +decide [f3])) e4 F.2.2.2.1 (own_nf B (B.w 16 rfl)) at_50 rfl (B.w 13 rfl) (B.w 14 rfl) (B.w 16 rfl) (B.w 15 rfl) (B.w 6 rfl) (B.w 17 rfl) (by decide) (W := 0) (by decide) (by decide) rfl [(.ref w6)] [] pd2 rfl rfl rfl (Nat.le_refl _) (by decide) (by decide) ?_
  rintro T5 _ _ X5 ⟨rfl, rfl, e5⟩
  show Go p e below _ T5 (mkF m 53 _ [(.int (1 : Int32))])
  refine own_iload B X5 at_53 rfl rfl ?_
  refine own_icmpNo B X5 at_55 (teq (rfl : (1 : Int32) = (1 : Int32))).2 rfl ?_
  refine own_iconst B X5 at_58 rfl (v := (1 : Int32)) rfl ?_
  refine own_goto B X5 at_59 (by decide) (pc' := 63) rfl ?_
  exact own_retInt B X5 at_63 rfl (Or.inr (Or.inl rfl)) ⟨rfl, (Fr.app (Fr.app (Fr.app (Fr.app (Fr.app (Fr.nil n0) (Fr.nil _)) (Fr.nil _)) (Fr.nil _)) (Fr.nil _)) (Fr.nil _))⟩ (by decide) (by decide)
set_option maxRecDepth 65536 in
set_option maxHeartbeats 4000000 in
theorem law_4_0 (l : Launch) (Z : State) (a0 : Array Value) (hw : ∀ d ∈ tables_1, d.before a0 Z = true) (w0 w1 w2 w3 w4 w5 w6 : Addr) (h0 : Heap) (F : Facts Z h0 w0 w1 w2 w3 w4 w5 w6) (i0 i1 : Int32) (n0 : Nat) (Z0 : n0 ≤ h0.size) (q0 : ((i0 &&& (2147483647 : Int32)) % (7 : Int32)) = (4 : Int32)) (q1 : ((i1 &&& (2147483647 : Int32)) % (7 : Int32)) = (0 : Int32)) :
    Con l Z x code maxLocals ret tables_1 room_1 #[(.int i0), (.int i1)] h0 (Q0 n0) := by
  refine own_body (plainFor_of_name pnL) hw ?_
  intro p e s m below meth c T0 B X0 e0 hnm
  refine Go.cast (ef0 m i0 i1) ?_
  refine own_iloadN B X0 at_0 rfl rfl ?_
  refine own_ldc B X0 at_1 rfl (v := (2147483647 : Int32)) (B.w 0 rfl) ?_
  refine own_iand B X0 at_3 rfl (v := (i0 &&& (2147483647 : Int32))) rfl ?_
  refine own_bipush B X0 at_4 rfl (v := (7 : Int32)) rfl ?_
  refine own_irem B X0 at_6 rfl (by decide) (v := (4 : Int32)) q0 ?_
  refine own_istoreN B X0 at_7 rfl #[.val (.int i0), .val (.int i1), .val (.int (4 : Int32)), .unset, .unset, .unset, .unset] rfl ?_
  refine own_iloadN B X0 at_8 rfl rfl ?_
  refine own_ldc B X0 at_9 rfl (v := (2147483647 : Int32)) (B.w 0 rfl) ?_
  refine own_iand B X0 at_11 rfl (v := (i1 &&& (2147483647 : Int32))) rfl ?_
  refine own_bipush B X0 at_12 rfl (v := (7 : Int32)) rfl ?_
  refine own_irem B X0 at_14 rfl (by decide) (v := (0 : Int32)) q1 ?_
  refine own_istoreN B X0 at_15 rfl #[.val (.int i0), .val (.int i1), .val (.int (4 : Int32)), .val (.int (0 : Int32)), .unset, .unset, .unset] rfl ?_
  refine own_iloadN B X0 at_16 rfl rfl ?_
  refine own_callS B X0 (c1 l Z a0 hw w0 w1 w2 w3 w4 w5 w6 h0 F (4 : Int32)  w5 (by simp +decide [f1])) e0 at_17 rfl (B.w 1 rfl) (B.w 2 rfl) (B.w 3 rfl) (B.w 4 rfl) (by decide) (W := 0) (by decide) (by decide) rfl [(.int (4 : Int32))] [] pd0 rfl rfl rfl (Nat.le_refl _) (by decide) (by decide) ?_
  rintro T1 _ _ X1 ⟨rfl, rfl, e1⟩
  show Go p e below _ T1 (mkF m 20 _ [(.ref w5)])
  refine own_astore B X1 at_20 rfl rfl #[.val (.int i0), .val (.int i1), .val (.int (4 : Int32)), .val (.int (0 : Int32)), .val (.ref w5), .unset, .unset] rfl ?_
  refine own_iloadN B X1 at_22 rfl rfl ?_
  refine own_callS B X1 (c1 l Z a0 hw w0 w1 w2 w3 w4 w5 w6 h0 F (0 : Int32)  w0 (by simp +decide [f1])) e1 at_23 rfl (B.w 1 rfl) (B.w 2 rfl) (B.w 3 rfl) (B.w 4 rfl) (by decide) (W := 0) (by decide) (by decide) rfl [(.int (0 : Int32))] [] pd0 rfl rfl rfl (Nat.le_refl _) (by decide) (by decide) ?_
  rintro T2 _ _ X2 ⟨rfl, rfl, e2⟩
  show Go p e below _ T2 (mkF m 26 _ [(.ref w0)])
  refine own_astore B X2 at_26 rfl rfl #[.val (.int i0), .val (.int i1), .val (.int (4 : Int32)), .val (.int (0 : Int32)), .val (.ref w5), .val (.ref w0), .unset] rfl ?_
  refine own_iloadN B X2 at_28 rfl rfl ?_
  refine own_callS B X2 (c2 l Z a0 hw w0 w1 w2 w3 w4 w5 w6 h0 F (4 : Int32)  (1 : Int32) (by simp +decide [f2])) e2 at_29 rfl (B.w 10 rfl) (B.w 11 rfl) (B.w 3 rfl) (B.w 12 rfl) (by decide) (W := 0) (by decide) (by decide) rfl [(.int (4 : Int32))] [] pd1 rfl rfl rfl (Nat.le_refl _) (by decide) (by decide) ?_
  rintro T3 _ _ X3 ⟨rfl, rfl, e3⟩
  show Go p e below _ T3 (mkF m 32 _ [(.int (1 : Int32))])
  refine own_iloadN B X3 at_32 rfl rfl ?_
  refine own_callS B X3 (c2 l Z a0 hw w0 w1 w2 w3 w4 w5 w6 h0 F (0 : Int32)  (0 : Int32) (by simp +decide [f2])) e3 at_33 rfl (B.w 10 rfl) (B.w 11 rfl) (B.w 3 rfl) (B.w 12 rfl) (by decide) (W := 1) (by decide) (by decide) rfl [(.int (0 : Int32))] [(.int (1 : Int32))] pd1 rfl rfl rfl (Nat.le_refl _) (by decide) (by decide) ?_
  rintro T4 _ _ X4 ⟨rfl, rfl, e4⟩
  show Go p e below _ T4 (mkF m 36 _ [(.int (0 : Int32)), (.int (1 : Int32))])
  refine own_icmpYes B X4 at_36 (flt (by decide : ¬ ((1 : Int32) < (0 : Int32)))).2.1 (by decide) (pc' := 43) rfl ?_
  refine own_iconst B X4 at_43 rfl (v := (0 : Int32)) rfl ?_
  refine own_istore B X4 at_44 rfl #[.val (.int i0), .val (.int i1), .val (.int (4 : Int32)), .val (.int (0 : Int32)), .val (.ref w5), .val (.ref w0), .val (.int (0 : Int32))] rfl ?_
  refine own_aload B X4 at_46 rfl rfl rfl ?_
  refine own_aload B X4 at_48 rfl rfl rfl ?_
  refine own_callV B X4 (c3 l Z a0 hw w0 w1 w2 w3 w4 w5 w6 h0 F w5 w0 (1 : Int32) (0 : Int32) F.2.2.2.2.2.2.2.2.2.2.2.2.2.2.2.2.2.2.2.1 F.2.2.2.2.2.2.2.2.2.2.2.2.2.2.1 (0 : Int32) (by simp +decide [f3])) e4 F.2.2.2.2.2.2.2.2.2.2.2.1 (own_nf B (B.w 16 rfl)) at_50 rfl (B.w 13 rfl) (B.w 14 rfl) (B.w 16 rfl) (B.w 15 rfl) (B.w 6 rfl) (B.w 17 rfl) (by decide) (W := 0) (by decide) (by decide) rfl [(.ref w0)] [] pd2 rfl rfl rfl (Nat.le_refl _) (by decide) (by decide) ?_
  rintro T5 _ _ X5 ⟨rfl, rfl, e5⟩
  show Go p e below _ T5 (mkF m 53 _ [(.int (0 : Int32))])
  refine own_iload B X5 at_53 rfl rfl ?_
  refine own_icmpNo B X5 at_55 (teq (rfl : (0 : Int32) = (0 : Int32))).2 rfl ?_
  refine own_iconst B X5 at_58 rfl (v := (1 : Int32)) rfl ?_
  refine own_goto B X5 at_59 (by decide) (pc' := 63) rfl ?_
  exact own_retInt B X5 at_63 rfl (Or.inr (Or.inl rfl)) ⟨rfl, (Fr.app (Fr.app (Fr.app (Fr.app (Fr.app (Fr.nil n0) (Fr.nil _)) (Fr.nil _)) (Fr.nil _)) (Fr.nil _)) (Fr.nil _))⟩ (by decide) (by decide)
set_option maxRecDepth 65536 in
set_option maxHeartbeats 4000000 in
theorem law_4_1 (l : Launch) (Z : State) (a0 : Array Value) (hw : ∀ d ∈ tables_1, d.before a0 Z = true) (w0 w1 w2 w3 w4 w5 w6 : Addr) (h0 : Heap) (F : Facts Z h0 w0 w1 w2 w3 w4 w5 w6) (i0 i1 : Int32) (n0 : Nat) (Z0 : n0 ≤ h0.size) (q0 : ((i0 &&& (2147483647 : Int32)) % (7 : Int32)) = (4 : Int32)) (q1 : ((i1 &&& (2147483647 : Int32)) % (7 : Int32)) = (1 : Int32)) :
    Con l Z x code maxLocals ret tables_1 room_1 #[(.int i0), (.int i1)] h0 (Q0 n0) := by
  refine own_body (plainFor_of_name pnL) hw ?_
  intro p e s m below meth c T0 B X0 e0 hnm
  refine Go.cast (ef0 m i0 i1) ?_
  refine own_iloadN B X0 at_0 rfl rfl ?_
  refine own_ldc B X0 at_1 rfl (v := (2147483647 : Int32)) (B.w 0 rfl) ?_
  refine own_iand B X0 at_3 rfl (v := (i0 &&& (2147483647 : Int32))) rfl ?_
  refine own_bipush B X0 at_4 rfl (v := (7 : Int32)) rfl ?_
  refine own_irem B X0 at_6 rfl (by decide) (v := (4 : Int32)) q0 ?_
  refine own_istoreN B X0 at_7 rfl #[.val (.int i0), .val (.int i1), .val (.int (4 : Int32)), .unset, .unset, .unset, .unset] rfl ?_
  refine own_iloadN B X0 at_8 rfl rfl ?_
  refine own_ldc B X0 at_9 rfl (v := (2147483647 : Int32)) (B.w 0 rfl) ?_
  refine own_iand B X0 at_11 rfl (v := (i1 &&& (2147483647 : Int32))) rfl ?_
  refine own_bipush B X0 at_12 rfl (v := (7 : Int32)) rfl ?_
  refine own_irem B X0 at_14 rfl (by decide) (v := (1 : Int32)) q1 ?_
  refine own_istoreN B X0 at_15 rfl #[.val (.int i0), .val (.int i1), .val (.int (4 : Int32)), .val (.int (1 : Int32)), .unset, .unset, .unset] rfl ?_
  refine own_iloadN B X0 at_16 rfl rfl ?_
  refine own_callS B X0 (c1 l Z a0 hw w0 w1 w2 w3 w4 w5 w6 h0 F (4 : Int32)  w5 (by simp +decide [f1])) e0 at_17 rfl (B.w 1 rfl) (B.w 2 rfl) (B.w 3 rfl) (B.w 4 rfl) (by decide) (W := 0) (by decide) (by decide) rfl [(.int (4 : Int32))] [] pd0 rfl rfl rfl (Nat.le_refl _) (by decide) (by decide) ?_
  rintro T1 _ _ X1 ⟨rfl, rfl, e1⟩
  show Go p e below _ T1 (mkF m 20 _ [(.ref w5)])
  refine own_astore B X1 at_20 rfl rfl #[.val (.int i0), .val (.int i1), .val (.int (4 : Int32)), .val (.int (1 : Int32)), .val (.ref w5), .unset, .unset] rfl ?_
  refine own_iloadN B X1 at_22 rfl rfl ?_
  refine own_callS B X1 (c1 l Z a0 hw w0 w1 w2 w3 w4 w5 w6 h0 F (1 : Int32)  w2 (by simp +decide [f1])) e1 at_23 rfl (B.w 1 rfl) (B.w 2 rfl) (B.w 3 rfl) (B.w 4 rfl) (by decide) (W := 0) (by decide) (by decide) rfl [(.int (1 : Int32))] [] pd0 rfl rfl rfl (Nat.le_refl _) (by decide) (by decide) ?_
  rintro T2 _ _ X2 ⟨rfl, rfl, e2⟩
  show Go p e below _ T2 (mkF m 26 _ [(.ref w2)])
  refine own_astore B X2 at_26 rfl rfl #[.val (.int i0), .val (.int i1), .val (.int (4 : Int32)), .val (.int (1 : Int32)), .val (.ref w5), .val (.ref w2), .unset] rfl ?_
  refine own_iloadN B X2 at_28 rfl rfl ?_
  refine own_callS B X2 (c2 l Z a0 hw w0 w1 w2 w3 w4 w5 w6 h0 F (4 : Int32)  (1 : Int32) (by simp +decide [f2])) e2 at_29 rfl (B.w 10 rfl) (B.w 11 rfl) (B.w 3 rfl) (B.w 12 rfl) (by decide) (W := 0) (by decide) (by decide) rfl [(.int (4 : Int32))] [] pd1 rfl rfl rfl (Nat.le_refl _) (by decide) (by decide) ?_
  rintro T3 _ _ X3 ⟨rfl, rfl, e3⟩
  show Go p e below _ T3 (mkF m 32 _ [(.int (1 : Int32))])
  refine own_iloadN B X3 at_32 rfl rfl ?_
  refine own_callS B X3 (c2 l Z a0 hw w0 w1 w2 w3 w4 w5 w6 h0 F (1 : Int32)  (0 : Int32) (by simp +decide [f2])) e3 at_33 rfl (B.w 10 rfl) (B.w 11 rfl) (B.w 3 rfl) (B.w 12 rfl) (by decide) (W := 1) (by decide) (by decide) rfl [(.int (1 : Int32))] [(.int (1 : Int32))] pd1 rfl rfl rfl (Nat.le_refl _) (by decide) (by decide) ?_
  rintro T4 _ _ X4 ⟨rfl, rfl, e4⟩
  show Go p e below _ T4 (mkF m 36 _ [(.int (0 : Int32)), (.int (1 : Int32))])
  refine own_icmpYes B X4 at_36 (flt (by decide : ¬ ((1 : Int32) < (0 : Int32)))).2.1 (by decide) (pc' := 43) rfl ?_
  refine own_iconst B X4 at_43 rfl (v := (0 : Int32)) rfl ?_
  refine own_istore B X4 at_44 rfl #[.val (.int i0), .val (.int i1), .val (.int (4 : Int32)), .val (.int (1 : Int32)), .val (.ref w5), .val (.ref w2), .val (.int (0 : Int32))] rfl ?_
  refine own_aload B X4 at_46 rfl rfl rfl ?_
  refine own_aload B X4 at_48 rfl rfl rfl ?_
  refine own_callV B X4 (c3 l Z a0 hw w0 w1 w2 w3 w4 w5 w6 h0 F w5 w2 (1 : Int32) (0 : Int32) F.2.2.2.2.2.2.2.2.2.2.2.2.2.2.2.2.2.2.2.1 F.2.2.2.2.2.2.2.2.2.2.2.2.2.2.2.2.1 (0 : Int32) (by simp +decide [f3])) e4 F.2.2.2.2.2.2.2.2.2.2.2.1 (own_nf B (B.w 16 rfl)) at_50 rfl (B.w 13 rfl) (B.w 14 rfl) (B.w 16 rfl) (B.w 15 rfl) (B.w 6 rfl) (B.w 17 rfl) (by decide) (W := 0) (by decide) (by decide) rfl [(.ref w2)] [] pd2 rfl rfl rfl (Nat.le_refl _) (by decide) (by decide) ?_
  rintro T5 _ _ X5 ⟨rfl, rfl, e5⟩
  show Go p e below _ T5 (mkF m 53 _ [(.int (0 : Int32))])
  refine own_iload B X5 at_53 rfl rfl ?_
  refine own_icmpNo B X5 at_55 (teq (rfl : (0 : Int32) = (0 : Int32))).2 rfl ?_
  refine own_iconst B X5 at_58 rfl (v := (1 : Int32)) rfl ?_
  refine own_goto B X5 at_59 (by decide) (pc' := 63) rfl ?_
  exact own_retInt B X5 at_63 rfl (Or.inr (Or.inl rfl)) ⟨rfl, (Fr.app (Fr.app (Fr.app (Fr.app (Fr.app (Fr.nil n0) (Fr.nil _)) (Fr.nil _)) (Fr.nil _)) (Fr.nil _)) (Fr.nil _))⟩ (by decide) (by decide)
set_option maxRecDepth 65536 in
set_option maxHeartbeats 4000000 in
theorem law_4_2 (l : Launch) (Z : State) (a0 : Array Value) (hw : ∀ d ∈ tables_1, d.before a0 Z = true) (w0 w1 w2 w3 w4 w5 w6 : Addr) (h0 : Heap) (F : Facts Z h0 w0 w1 w2 w3 w4 w5 w6) (i0 i1 : Int32) (n0 : Nat) (Z0 : n0 ≤ h0.size) (q0 : ((i0 &&& (2147483647 : Int32)) % (7 : Int32)) = (4 : Int32)) (q1 : ((i1 &&& (2147483647 : Int32)) % (7 : Int32)) = (2 : Int32)) :
    Con l Z x code maxLocals ret tables_1 room_1 #[(.int i0), (.int i1)] h0 (Q0 n0) := by
  refine own_body (plainFor_of_name pnL) hw ?_
  intro p e s m below meth c T0 B X0 e0 hnm
  refine Go.cast (ef0 m i0 i1) ?_
  refine own_iloadN B X0 at_0 rfl rfl ?_
  refine own_ldc B X0 at_1 rfl (v := (2147483647 : Int32)) (B.w 0 rfl) ?_
  refine own_iand B X0 at_3 rfl (v := (i0 &&& (2147483647 : Int32))) rfl ?_
  refine own_bipush B X0 at_4 rfl (v := (7 : Int32)) rfl ?_
  refine own_irem B X0 at_6 rfl (by decide) (v := (4 : Int32)) q0 ?_
  refine own_istoreN B X0 at_7 rfl #[.val (.int i0), .val (.int i1), .val (.int (4 : Int32)), .unset, .unset, .unset, .unset] rfl ?_
  refine own_iloadN B X0 at_8 rfl rfl ?_
  refine own_ldc B X0 at_9 rfl (v := (2147483647 : Int32)) (B.w 0 rfl) ?_
  refine own_iand B X0 at_11 rfl (v := (i1 &&& (2147483647 : Int32))) rfl ?_
  refine own_bipush B X0 at_12 rfl (v := (7 : Int32)) rfl ?_
  refine own_irem B X0 at_14 rfl (by decide) (v := (2 : Int32)) q1 ?_
  refine own_istoreN B X0 at_15 rfl #[.val (.int i0), .val (.int i1), .val (.int (4 : Int32)), .val (.int (2 : Int32)), .unset, .unset, .unset] rfl ?_
  refine own_iloadN B X0 at_16 rfl rfl ?_
  refine own_callS B X0 (c1 l Z a0 hw w0 w1 w2 w3 w4 w5 w6 h0 F (4 : Int32)  w5 (by simp +decide [f1])) e0 at_17 rfl (B.w 1 rfl) (B.w 2 rfl) (B.w 3 rfl) (B.w 4 rfl) (by decide) (W := 0) (by decide) (by decide) rfl [(.int (4 : Int32))] [] pd0 rfl rfl rfl (Nat.le_refl _) (by decide) (by decide) ?_
  rintro T1 _ _ X1 ⟨rfl, rfl, e1⟩
  show Go p e below _ T1 (mkF m 20 _ [(.ref w5)])
  refine own_astore B X1 at_20 rfl rfl #[.val (.int i0), .val (.int i1), .val (.int (4 : Int32)), .val (.int (2 : Int32)), .val (.ref w5), .unset, .unset] rfl ?_
  refine own_iloadN B X1 at_22 rfl rfl ?_
  refine own_callS B X1 (c1 l Z a0 hw w0 w1 w2 w3 w4 w5 w6 h0 F (2 : Int32)  w4 (by simp +decide [f1])) e1 at_23 rfl (B.w 1 rfl) (B.w 2 rfl) (B.w 3 rfl) (B.w 4 rfl) (by decide) (W := 0) (by decide) (by decide) rfl [(.int (2 : Int32))] [] pd0 rfl rfl rfl (Nat.le_refl _) (by decide) (by decide) ?_
  rintro T2 _ _ X2 ⟨rfl, rfl, e2⟩
  show Go p e below _ T2 (mkF m 26 _ [(.ref w4)])
  refine own_astore B X2 at_26 rfl rfl #[.val (.int i0), .val (.int i1), .val (.int (4 : Int32)), .val (.int (2 : Int32)), .val (.ref w5), .val (.ref w4), .unset] rfl ?_
  refine own_iloadN B X2 at_28 rfl rfl ?_
  refine own_callS B X2 (c2 l Z a0 hw w0 w1 w2 w3 w4 w5 w6 h0 F (4 : Int32)  (1 : Int32) (by simp +decide [f2])) e2 at_29 rfl (B.w 10 rfl) (B.w 11 rfl) (B.w 3 rfl) (B.w 12 rfl) (by decide) (W := 0) (by decide) (by decide) rfl [(.int (4 : Int32))] [] pd1 rfl rfl rfl (Nat.le_refl _) (by decide) (by decide) ?_
  rintro T3 _ _ X3 ⟨rfl, rfl, e3⟩
  show Go p e below _ T3 (mkF m 32 _ [(.int (1 : Int32))])
  refine own_iloadN B X3 at_32 rfl rfl ?_
  refine own_callS B X3 (c2 l Z a0 hw w0 w1 w2 w3 w4 w5 w6 h0 F (2 : Int32)  (0 : Int32) (by simp +decide [f2])) e3 at_33 rfl (B.w 10 rfl) (B.w 11 rfl) (B.w 3 rfl) (B.w 12 rfl) (by decide) (W := 1) (by decide) (by decide) rfl [(.int (2 : Int32))] [(.int (1 : Int32))] pd1 rfl rfl rfl (Nat.le_refl _) (by decide) (by decide) ?_
  rintro T4 _ _ X4 ⟨rfl, rfl, e4⟩
  show Go p e below _ T4 (mkF m 36 _ [(.int (0 : Int32)), (.int (1 : Int32))])
  refine own_icmpYes B X4 at_36 (flt (by decide : ¬ ((1 : Int32) < (0 : Int32)))).2.1 (by decide) (pc' := 43) rfl ?_
  refine own_iconst B X4 at_43 rfl (v := (0 : Int32)) rfl ?_
  refine own_istore B X4 at_44 rfl #[.val (.int i0), .val (.int i1), .val (.int (4 : Int32)), .val (.int (2 : Int32)), .val (.ref w5), .val (.ref w4), .val (.int (0 : Int32))] rfl ?_
  refine own_aload B X4 at_46 rfl rfl rfl ?_
  refine own_aload B X4 at_48 rfl rfl rfl ?_
  refine own_callV B X4 (c3 l Z a0 hw w0 w1 w2 w3 w4 w5 w6 h0 F w5 w4 (1 : Int32) (0 : Int32) F.2.2.2.2.2.2.2.2.2.2.2.2.2.2.2.2.2.2.2.1 F.2.2.2.2.2.2.2.2.2.2.2.2.2.2.2.2.2.2.1 (0 : Int32) (by simp +decide [f3])) e4 F.2.2.2.2.2.2.2.2.2.2.2.1 (own_nf B (B.w 16 rfl)) at_50 rfl (B.w 13 rfl) (B.w 14 rfl) (B.w 16 rfl) (B.w 15 rfl) (B.w 6 rfl) (B.w 17 rfl) (by decide) (W := 0) (by decide) (by decide) rfl [(.ref w4)] [] pd2 rfl rfl rfl (Nat.le_refl _) (by decide) (by decide) ?_
  rintro T5 _ _ X5 ⟨rfl, rfl, e5⟩
  show Go p e below _ T5 (mkF m 53 _ [(.int (0 : Int32))])
  refine own_iload B X5 at_53 rfl rfl ?_
  refine own_icmpNo B X5 at_55 (teq (rfl : (0 : Int32) = (0 : Int32))).2 rfl ?_
  refine own_iconst B X5 at_58 rfl (v := (1 : Int32)) rfl ?_
  refine own_goto B X5 at_59 (by decide) (pc' := 63) rfl ?_
  exact own_retInt B X5 at_63 rfl (Or.inr (Or.inl rfl)) ⟨rfl, (Fr.app (Fr.app (Fr.app (Fr.app (Fr.app (Fr.nil n0) (Fr.nil _)) (Fr.nil _)) (Fr.nil _)) (Fr.nil _)) (Fr.nil _))⟩ (by decide) (by decide)
set_option maxRecDepth 65536 in
set_option maxHeartbeats 4000000 in
theorem law_4_3 (l : Launch) (Z : State) (a0 : Array Value) (hw : ∀ d ∈ tables_1, d.before a0 Z = true) (w0 w1 w2 w3 w4 w5 w6 : Addr) (h0 : Heap) (F : Facts Z h0 w0 w1 w2 w3 w4 w5 w6) (i0 i1 : Int32) (n0 : Nat) (Z0 : n0 ≤ h0.size) (q0 : ((i0 &&& (2147483647 : Int32)) % (7 : Int32)) = (4 : Int32)) (q1 : ((i1 &&& (2147483647 : Int32)) % (7 : Int32)) = (3 : Int32)) :
    Con l Z x code maxLocals ret tables_1 room_1 #[(.int i0), (.int i1)] h0 (Q0 n0) := by
  refine own_body (plainFor_of_name pnL) hw ?_
  intro p e s m below meth c T0 B X0 e0 hnm
  refine Go.cast (ef0 m i0 i1) ?_
  refine own_iloadN B X0 at_0 rfl rfl ?_
  refine own_ldc B X0 at_1 rfl (v := (2147483647 : Int32)) (B.w 0 rfl) ?_
  refine own_iand B X0 at_3 rfl (v := (i0 &&& (2147483647 : Int32))) rfl ?_
  refine own_bipush B X0 at_4 rfl (v := (7 : Int32)) rfl ?_
  refine own_irem B X0 at_6 rfl (by decide) (v := (4 : Int32)) q0 ?_
  refine own_istoreN B X0 at_7 rfl #[.val (.int i0), .val (.int i1), .val (.int (4 : Int32)), .unset, .unset, .unset, .unset] rfl ?_
  refine own_iloadN B X0 at_8 rfl rfl ?_
  refine own_ldc B X0 at_9 rfl (v := (2147483647 : Int32)) (B.w 0 rfl) ?_
  refine own_iand B X0 at_11 rfl (v := (i1 &&& (2147483647 : Int32))) rfl ?_
  refine own_bipush B X0 at_12 rfl (v := (7 : Int32)) rfl ?_
  refine own_irem B X0 at_14 rfl (by decide) (v := (3 : Int32)) q1 ?_
  refine own_istoreN B X0 at_15 rfl #[.val (.int i0), .val (.int i1), .val (.int (4 : Int32)), .val (.int (3 : Int32)), .unset, .unset, .unset] rfl ?_
  refine own_iloadN B X0 at_16 rfl rfl ?_
  refine own_callS B X0 (c1 l Z a0 hw w0 w1 w2 w3 w4 w5 w6 h0 F (4 : Int32)  w5 (by simp +decide [f1])) e0 at_17 rfl (B.w 1 rfl) (B.w 2 rfl) (B.w 3 rfl) (B.w 4 rfl) (by decide) (W := 0) (by decide) (by decide) rfl [(.int (4 : Int32))] [] pd0 rfl rfl rfl (Nat.le_refl _) (by decide) (by decide) ?_
  rintro T1 _ _ X1 ⟨rfl, rfl, e1⟩
  show Go p e below _ T1 (mkF m 20 _ [(.ref w5)])
  refine own_astore B X1 at_20 rfl rfl #[.val (.int i0), .val (.int i1), .val (.int (4 : Int32)), .val (.int (3 : Int32)), .val (.ref w5), .unset, .unset] rfl ?_
  refine own_iloadN B X1 at_22 rfl rfl ?_
  refine own_callS B X1 (c1 l Z a0 hw w0 w1 w2 w3 w4 w5 w6 h0 F (3 : Int32)  w1 (by simp +decide [f1])) e1 at_23 rfl (B.w 1 rfl) (B.w 2 rfl) (B.w 3 rfl) (B.w 4 rfl) (by decide) (W := 0) (by decide) (by decide) rfl [(.int (3 : Int32))] [] pd0 rfl rfl rfl (Nat.le_refl _) (by decide) (by decide) ?_
  rintro T2 _ _ X2 ⟨rfl, rfl, e2⟩
  show Go p e below _ T2 (mkF m 26 _ [(.ref w1)])
  refine own_astore B X2 at_26 rfl rfl #[.val (.int i0), .val (.int i1), .val (.int (4 : Int32)), .val (.int (3 : Int32)), .val (.ref w5), .val (.ref w1), .unset] rfl ?_
  refine own_iloadN B X2 at_28 rfl rfl ?_
  refine own_callS B X2 (c2 l Z a0 hw w0 w1 w2 w3 w4 w5 w6 h0 F (4 : Int32)  (1 : Int32) (by simp +decide [f2])) e2 at_29 rfl (B.w 10 rfl) (B.w 11 rfl) (B.w 3 rfl) (B.w 12 rfl) (by decide) (W := 0) (by decide) (by decide) rfl [(.int (4 : Int32))] [] pd1 rfl rfl rfl (Nat.le_refl _) (by decide) (by decide) ?_
  rintro T3 _ _ X3 ⟨rfl, rfl, e3⟩
  show Go p e below _ T3 (mkF m 32 _ [(.int (1 : Int32))])
  refine own_iloadN B X3 at_32 rfl rfl ?_
  refine own_callS B X3 (c2 l Z a0 hw w0 w1 w2 w3 w4 w5 w6 h0 F (3 : Int32)  (0 : Int32) (by simp +decide [f2])) e3 at_33 rfl (B.w 10 rfl) (B.w 11 rfl) (B.w 3 rfl) (B.w 12 rfl) (by decide) (W := 1) (by decide) (by decide) rfl [(.int (3 : Int32))] [(.int (1 : Int32))] pd1 rfl rfl rfl (Nat.le_refl _) (by decide) (by decide) ?_
  rintro T4 _ _ X4 ⟨rfl, rfl, e4⟩
  show Go p e below _ T4 (mkF m 36 _ [(.int (0 : Int32)), (.int (1 : Int32))])
  refine own_icmpYes B X4 at_36 (flt (by decide : ¬ ((1 : Int32) < (0 : Int32)))).2.1 (by decide) (pc' := 43) rfl ?_
  refine own_iconst B X4 at_43 rfl (v := (0 : Int32)) rfl ?_
  refine own_istore B X4 at_44 rfl #[.val (.int i0), .val (.int i1), .val (.int (4 : Int32)), .val (.int (3 : Int32)), .val (.ref w5), .val (.ref w1), .val (.int (0 : Int32))] rfl ?_
  refine own_aload B X4 at_46 rfl rfl rfl ?_
  refine own_aload B X4 at_48 rfl rfl rfl ?_
  refine own_callV B X4 (c3 l Z a0 hw w0 w1 w2 w3 w4 w5 w6 h0 F w5 w1 (1 : Int32) (0 : Int32) F.2.2.2.2.2.2.2.2.2.2.2.2.2.2.2.2.2.2.2.1 F.2.2.2.2.2.2.2.2.2.2.2.2.2.2.2.1 (0 : Int32) (by simp +decide [f3])) e4 F.2.2.2.2.2.2.2.2.2.2.2.1 (own_nf B (B.w 16 rfl)) at_50 rfl (B.w 13 rfl) (B.w 14 rfl) (B.w 16 rfl) (B.w 15 rfl) (B.w 6 rfl) (B.w 17 rfl) (by decide) (W := 0) (by decide) (by decide) rfl [(.ref w1)] [] pd2 rfl rfl rfl (Nat.le_refl _) (by decide) (by decide) ?_
  rintro T5 _ _ X5 ⟨rfl, rfl, e5⟩
  show Go p e below _ T5 (mkF m 53 _ [(.int (0 : Int32))])
  refine own_iload B X5 at_53 rfl rfl ?_
  refine own_icmpNo B X5 at_55 (teq (rfl : (0 : Int32) = (0 : Int32))).2 rfl ?_
  refine own_iconst B X5 at_58 rfl (v := (1 : Int32)) rfl ?_
  refine own_goto B X5 at_59 (by decide) (pc' := 63) rfl ?_
  exact own_retInt B X5 at_63 rfl (Or.inr (Or.inl rfl)) ⟨rfl, (Fr.app (Fr.app (Fr.app (Fr.app (Fr.app (Fr.nil n0) (Fr.nil _)) (Fr.nil _)) (Fr.nil _)) (Fr.nil _)) (Fr.nil _))⟩ (by decide) (by decide)
set_option maxRecDepth 65536 in
set_option maxHeartbeats 4000000 in
theorem law_4_4 (l : Launch) (Z : State) (a0 : Array Value) (hw : ∀ d ∈ tables_1, d.before a0 Z = true) (w0 w1 w2 w3 w4 w5 w6 : Addr) (h0 : Heap) (F : Facts Z h0 w0 w1 w2 w3 w4 w5 w6) (i0 i1 : Int32) (n0 : Nat) (Z0 : n0 ≤ h0.size) (q0 : ((i0 &&& (2147483647 : Int32)) % (7 : Int32)) = (4 : Int32)) (q1 : ((i1 &&& (2147483647 : Int32)) % (7 : Int32)) = (4 : Int32)) :
    Con l Z x code maxLocals ret tables_1 room_1 #[(.int i0), (.int i1)] h0 (Q0 n0) := by
  refine own_body (plainFor_of_name pnL) hw ?_
  intro p e s m below meth c T0 B X0 e0 hnm
  refine Go.cast (ef0 m i0 i1) ?_
  refine own_iloadN B X0 at_0 rfl rfl ?_
  refine own_ldc B X0 at_1 rfl (v := (2147483647 : Int32)) (B.w 0 rfl) ?_
  refine own_iand B X0 at_3 rfl (v := (i0 &&& (2147483647 : Int32))) rfl ?_
  refine own_bipush B X0 at_4 rfl (v := (7 : Int32)) rfl ?_
  refine own_irem B X0 at_6 rfl (by decide) (v := (4 : Int32)) q0 ?_
  refine own_istoreN B X0 at_7 rfl #[.val (.int i0), .val (.int i1), .val (.int (4 : Int32)), .unset, .unset, .unset, .unset] rfl ?_
  refine own_iloadN B X0 at_8 rfl rfl ?_
  refine own_ldc B X0 at_9 rfl (v := (2147483647 : Int32)) (B.w 0 rfl) ?_
  refine own_iand B X0 at_11 rfl (v := (i1 &&& (2147483647 : Int32))) rfl ?_
  refine own_bipush B X0 at_12 rfl (v := (7 : Int32)) rfl ?_
  refine own_irem B X0 at_14 rfl (by decide) (v := (4 : Int32)) q1 ?_
  refine own_istoreN B X0 at_15 rfl #[.val (.int i0), .val (.int i1), .val (.int (4 : Int32)), .val (.int (4 : Int32)), .unset, .unset, .unset] rfl ?_
  refine own_iloadN B X0 at_16 rfl rfl ?_
  refine own_callS B X0 (c1 l Z a0 hw w0 w1 w2 w3 w4 w5 w6 h0 F (4 : Int32)  w5 (by simp +decide [f1])) e0 at_17 rfl (B.w 1 rfl) (B.w 2 rfl) (B.w 3 rfl) (B.w 4 rfl) (by decide) (W := 0) (by decide) (by decide) rfl [(.int (4 : Int32))] [] pd0 rfl rfl rfl (Nat.le_refl _) (by decide) (by decide) ?_
  rintro T1 _ _ X1 ⟨rfl, rfl, e1⟩
  show Go p e below _ T1 (mkF m 20 _ [(.ref w5)])
  refine own_astore B X1 at_20 rfl rfl #[.val (.int i0), .val (.int i1), .val (.int (4 : Int32)), .val (.int (4 : Int32)), .val (.ref w5), .unset, .unset] rfl ?_
  refine own_iloadN B X1 at_22 rfl rfl ?_
  refine own_callS B X1 (c1 l Z a0 hw w0 w1 w2 w3 w4 w5 w6 h0 F (4 : Int32)  w5 (by simp +decide [f1])) e1 at_23 rfl (B.w 1 rfl) (B.w 2 rfl) (B.w 3 rfl) (B.w 4 rfl) (by decide) (W := 0) (by decide) (by decide) rfl [(.int (4 : Int32))] [] pd0 rfl rfl rfl (Nat.le_refl _) (by decide) (by decide) ?_
  rintro T2 _ _ X2 ⟨rfl, rfl, e2⟩
  show Go p e below _ T2 (mkF m 26 _ [(.ref w5)])
  refine own_astore B X2 at_26 rfl rfl #[.val (.int i0), .val (.int i1), .val (.int (4 : Int32)), .val (.int (4 : Int32)), .val (.ref w5), .val (.ref w5), .unset] rfl ?_
  refine own_iloadN B X2 at_28 rfl rfl ?_
  refine own_callS B X2 (c2 l Z a0 hw w0 w1 w2 w3 w4 w5 w6 h0 F (4 : Int32)  (1 : Int32) (by simp +decide [f2])) e2 at_29 rfl (B.w 10 rfl) (B.w 11 rfl) (B.w 3 rfl) (B.w 12 rfl) (by decide) (W := 0) (by decide) (by decide) rfl [(.int (4 : Int32))] [] pd1 rfl rfl rfl (Nat.le_refl _) (by decide) (by decide) ?_
  rintro T3 _ _ X3 ⟨rfl, rfl, e3⟩
  show Go p e below _ T3 (mkF m 32 _ [(.int (1 : Int32))])
  refine own_iloadN B X3 at_32 rfl rfl ?_
  refine own_callS B X3 (c2 l Z a0 hw w0 w1 w2 w3 w4 w5 w6 h0 F (4 : Int32)  (1 : Int32) (by simp +decide [f2])) e3 at_33 rfl (B.w 10 rfl) (B.w 11 rfl) (B.w 3 rfl) (B.w 12 rfl) (by decide) (W := 1) (by decide) (by decide) rfl [(.int (4 : Int32))] [(.int (1 : Int32))] pd1 rfl rfl rfl (Nat.le_refl _) (by decide) (by decide) ?_
  rintro T4 _ _ X4 ⟨rfl, rfl, e4⟩
  show Go p e below _ T4 (mkF m 36 _ [(.int (1 : Int32)), (.int (1 : Int32))])
  refine own_icmpYes B X4 at_36 (flt (by decide : ¬ ((1 : Int32) < (1 : Int32)))).2.1 (by decide) (pc' := 43) rfl ?_
  refine own_iconst B X4 at_43 rfl (v := (0 : Int32)) rfl ?_
  refine own_istore B X4 at_44 rfl #[.val (.int i0), .val (.int i1), .val (.int (4 : Int32)), .val (.int (4 : Int32)), .val (.ref w5), .val (.ref w5), .val (.int (0 : Int32))] rfl ?_
  refine own_aload B X4 at_46 rfl rfl rfl ?_
  refine own_aload B X4 at_48 rfl rfl rfl ?_
  refine own_callV B X4 (c3 l Z a0 hw w0 w1 w2 w3 w4 w5 w6 h0 F w5 w5 (1 : Int32) (1 : Int32) F.2.2.2.2.2.2.2.2.2.2.2.2.2.2.2.2.2.2.2.1 F.2.2.2.2.2.2.2.2.2.2.2.2.2.2.2.2.2.2.2.1 (0 : Int32) (by simp +decide [f3])) e4 F.2.2.2.2.2.2.2.2.2.2.2.1 (own_nf B (B.w 16 rfl)) at_50 rfl (B.w 13 rfl) (B.w 14 rfl) (B.w 16 rfl) (B.w 15 rfl) (B.w 6 rfl) (B.w 17 rfl) (by decide) (W := 0) (by decide) (by decide) rfl [(.ref w5)] [] pd2 rfl rfl rfl (Nat.le_refl _) (by decide) (by decide) ?_
  rintro T5 _ _ X5 ⟨rfl, rfl, e5⟩
  show Go p e below _ T5 (mkF m 53 _ [(.int (0 : Int32))])
  refine own_iload B X5 at_53 rfl rfl ?_
  refine own_icmpNo B X5 at_55 (teq (rfl : (0 : Int32) = (0 : Int32))).2 rfl ?_
  refine own_iconst B X5 at_58 rfl (v := (1 : Int32)) rfl ?_
  refine own_goto B X5 at_59 (by decide) (pc' := 63) rfl ?_
  exact own_retInt B X5 at_63 rfl (Or.inr (Or.inl rfl)) ⟨rfl, (Fr.app (Fr.app (Fr.app (Fr.app (Fr.app (Fr.nil n0) (Fr.nil _)) (Fr.nil _)) (Fr.nil _)) (Fr.nil _)) (Fr.nil _))⟩ (by decide) (by decide)
set_option maxRecDepth 65536 in
set_option maxHeartbeats 4000000 in
theorem law_4_5 (l : Launch) (Z : State) (a0 : Array Value) (hw : ∀ d ∈ tables_1, d.before a0 Z = true) (w0 w1 w2 w3 w4 w5 w6 : Addr) (h0 : Heap) (F : Facts Z h0 w0 w1 w2 w3 w4 w5 w6) (i0 i1 : Int32) (n0 : Nat) (Z0 : n0 ≤ h0.size) (q0 : ((i0 &&& (2147483647 : Int32)) % (7 : Int32)) = (4 : Int32)) (q1 : ((i1 &&& (2147483647 : Int32)) % (7 : Int32)) = (5 : Int32)) :
    Con l Z x code maxLocals ret tables_1 room_1 #[(.int i0), (.int i1)] h0 (Q0 n0) := by
  refine own_body (plainFor_of_name pnL) hw ?_
  intro p e s m below meth c T0 B X0 e0 hnm
  refine Go.cast (ef0 m i0 i1) ?_
  refine own_iloadN B X0 at_0 rfl rfl ?_
  refine own_ldc B X0 at_1 rfl (v := (2147483647 : Int32)) (B.w 0 rfl) ?_
  refine own_iand B X0 at_3 rfl (v := (i0 &&& (2147483647 : Int32))) rfl ?_
  refine own_bipush B X0 at_4 rfl (v := (7 : Int32)) rfl ?_
  refine own_irem B X0 at_6 rfl (by decide) (v := (4 : Int32)) q0 ?_
  refine own_istoreN B X0 at_7 rfl #[.val (.int i0), .val (.int i1), .val (.int (4 : Int32)), .unset, .unset, .unset, .unset] rfl ?_
  refine own_iloadN B X0 at_8 rfl rfl ?_
  refine own_ldc B X0 at_9 rfl (v := (2147483647 : Int32)) (B.w 0 rfl) ?_
  refine own_iand B X0 at_11 rfl (v := (i1 &&& (2147483647 : Int32))) rfl ?_
  refine own_bipush B X0 at_12 rfl (v := (7 : Int32)) rfl ?_
  refine own_irem B X0 at_14 rfl (by decide) (v := (5 : Int32)) q1 ?_
  refine own_istoreN B X0 at_15 rfl #[.val (.int i0), .val (.int i1), .val (.int (4 : Int32)), .val (.int (5 : Int32)), .unset, .unset, .unset] rfl ?_
  refine own_iloadN B X0 at_16 rfl rfl ?_
  refine own_callS B X0 (c1 l Z a0 hw w0 w1 w2 w3 w4 w5 w6 h0 F (4 : Int32)  w5 (by simp +decide [f1])) e0 at_17 rfl (B.w 1 rfl) (B.w 2 rfl) (B.w 3 rfl) (B.w 4 rfl) (by decide) (W := 0) (by decide) (by decide) rfl [(.int (4 : Int32))] [] pd0 rfl rfl rfl (Nat.le_refl _) (by decide) (by decide) ?_
  rintro T1 _ _ X1 ⟨rfl, rfl, e1⟩
  show Go p e below _ T1 (mkF m 20 _ [(.ref w5)])
  refine own_astore B X1 at_20 rfl rfl #[.val (.int i0), .val (.int i1), .val (.int (4 : Int32)), .val (.int (5 : Int32)), .val (.ref w5), .unset, .unset] rfl ?_
  refine own_iloadN B X1 at_22 rfl rfl ?_
  refine own_callS B X1 (c1 l Z a0 hw w0 w1 w2 w3 w4 w5 w6 h0 F (5 : Int32)  w3 (by simp +decide [f1])) e1 at_23 rfl (B.w 1 rfl) (B.w 2 rfl) (B.w 3 rfl) (B.w 4 rfl) (by decide) (W := 0) (by decide) (by decide) rfl [(.int (5 : Int32))] [] pd0 rfl rfl rfl (Nat.le_refl _) (by decide) (by decide) ?_
  rintro T2 _ _ X2 ⟨rfl, rfl, e2⟩
  show Go p e below _ T2 (mkF m 26 _ [(.ref w3)])
  refine own_astore B X2 at_26 rfl rfl #[.val (.int i0), .val (.int i1), .val (.int (4 : Int32)), .val (.int (5 : Int32)), .val (.ref w5), .val (.ref w3), .unset] rfl ?_
  refine own_iloadN B X2 at_28 rfl rfl ?_
  refine own_callS B X2 (c2 l Z a0 hw w0 w1 w2 w3 w4 w5 w6 h0 F (4 : Int32)  (1 : Int32) (by simp +decide [f2])) e2 at_29 rfl (B.w 10 rfl) (B.w 11 rfl) (B.w 3 rfl) (B.w 12 rfl) (by decide) (W := 0) (by decide) (by decide) rfl [(.int (4 : Int32))] [] pd1 rfl rfl rfl (Nat.le_refl _) (by decide) (by decide) ?_
  rintro T3 _ _ X3 ⟨rfl, rfl, e3⟩
  show Go p e below _ T3 (mkF m 32 _ [(.int (1 : Int32))])
  refine own_iloadN B X3 at_32 rfl rfl ?_
  refine own_callS B X3 (c2 l Z a0 hw w0 w1 w2 w3 w4 w5 w6 h0 F (5 : Int32)  (1 : Int32) (by simp +decide [f2])) e3 at_33 rfl (B.w 10 rfl) (B.w 11 rfl) (B.w 3 rfl) (B.w 12 rfl) (by decide) (W := 1) (by decide) (by decide) rfl [(.int (5 : Int32))] [(.int (1 : Int32))] pd1 rfl rfl rfl (Nat.le_refl _) (by decide) (by decide) ?_
  rintro T4 _ _ X4 ⟨rfl, rfl, e4⟩
  show Go p e below _ T4 (mkF m 36 _ [(.int (1 : Int32)), (.int (1 : Int32))])
  refine own_icmpYes B X4 at_36 (flt (by decide : ¬ ((1 : Int32) < (1 : Int32)))).2.1 (by decide) (pc' := 43) rfl ?_
  refine own_iconst B X4 at_43 rfl (v := (0 : Int32)) rfl ?_
  refine own_istore B X4 at_44 rfl #[.val (.int i0), .val (.int i1), .val (.int (4 : Int32)), .val (.int (5 : Int32)), .val (.ref w5), .val (.ref w3), .val (.int (0 : Int32))] rfl ?_
  refine own_aload B X4 at_46 rfl rfl rfl ?_
  refine own_aload B X4 at_48 rfl rfl rfl ?_
  refine own_callV B X4 (c3 l Z a0 hw w0 w1 w2 w3 w4 w5 w6 h0 F w5 w3 (1 : Int32) (1 : Int32) F.2.2.2.2.2.2.2.2.2.2.2.2.2.2.2.2.2.2.2.1 F.2.2.2.2.2.2.2.2.2.2.2.2.2.2.2.2.2.1 (0 : Int32) (by simp +decide [f3])) e4 F.2.2.2.2.2.2.2.2.2.2.2.1 (own_nf B (B.w 16 rfl)) at_50 rfl (B.w 13 rfl) (B.w 14 rfl) (B.w 16 rfl) (B.w 15 rfl) (B.w 6 rfl) (B.w 17 rfl) (by decide) (W := 0) (by decide) (by decide) rfl [(.ref w3)] [] pd2 rfl rfl rfl (Nat.le_refl _) (by decide) (by decide) ?_
  rintro T5 _ _ X5 ⟨rfl, rfl, e5⟩
  show Go p e below _ T5 (mkF m 53 _ [(.int (0 : Int32))])
  refine own_iload B X5 at_53 rfl rfl ?_
  refine own_icmpNo B X5 at_55 (teq (rfl : (0 : Int32) = (0 : Int32))).2 rfl ?_
  refine own_iconst B X5 at_58 rfl (v := (1 : Int32)) rfl ?_
  refine own_goto B X5 at_59 (by decide) (pc' := 63) rfl ?_
  exact own_retInt B X5 at_63 rfl (Or.inr (Or.inl rfl)) ⟨rfl, (Fr.app (Fr.app (Fr.app (Fr.app (Fr.app (Fr.nil n0) (Fr.nil _)) (Fr.nil _)) (Fr.nil _)) (Fr.nil _)) (Fr.nil _))⟩ (by decide) (by decide)
set_option maxRecDepth 65536 in
set_option maxHeartbeats 4000000 in
theorem law_4_6 (l : Launch) (Z : State) (a0 : Array Value) (hw : ∀ d ∈ tables_1, d.before a0 Z = true) (w0 w1 w2 w3 w4 w5 w6 : Addr) (h0 : Heap) (F : Facts Z h0 w0 w1 w2 w3 w4 w5 w6) (i0 i1 : Int32) (n0 : Nat) (Z0 : n0 ≤ h0.size) (q0 : ((i0 &&& (2147483647 : Int32)) % (7 : Int32)) = (4 : Int32)) (q1 : ((i1 &&& (2147483647 : Int32)) % (7 : Int32)) = (6 : Int32)) :
    Con l Z x code maxLocals ret tables_1 room_1 #[(.int i0), (.int i1)] h0 (Q0 n0) := by
  refine own_body (plainFor_of_name pnL) hw ?_
  intro p e s m below meth c T0 B X0 e0 hnm
  refine Go.cast (ef0 m i0 i1) ?_
  refine own_iloadN B X0 at_0 rfl rfl ?_
  refine own_ldc B X0 at_1 rfl (v := (2147483647 : Int32)) (B.w 0 rfl) ?_
  refine own_iand B X0 at_3 rfl (v := (i0 &&& (2147483647 : Int32))) rfl ?_
  refine own_bipush B X0 at_4 rfl (v := (7 : Int32)) rfl ?_
  refine own_irem B X0 at_6 rfl (by decide) (v := (4 : Int32)) q0 ?_
  refine own_istoreN B X0 at_7 rfl #[.val (.int i0), .val (.int i1), .val (.int (4 : Int32)), .unset, .unset, .unset, .unset] rfl ?_
  refine own_iloadN B X0 at_8 rfl rfl ?_
  refine own_ldc B X0 at_9 rfl (v := (2147483647 : Int32)) (B.w 0 rfl) ?_
  refine own_iand B X0 at_11 rfl (v := (i1 &&& (2147483647 : Int32))) rfl ?_
  refine own_bipush B X0 at_12 rfl (v := (7 : Int32)) rfl ?_
  refine own_irem B X0 at_14 rfl (by decide) (v := (6 : Int32)) q1 ?_
  refine own_istoreN B X0 at_15 rfl #[.val (.int i0), .val (.int i1), .val (.int (4 : Int32)), .val (.int (6 : Int32)), .unset, .unset, .unset] rfl ?_
  refine own_iloadN B X0 at_16 rfl rfl ?_
  refine own_callS B X0 (c1 l Z a0 hw w0 w1 w2 w3 w4 w5 w6 h0 F (4 : Int32)  w5 (by simp +decide [f1])) e0 at_17 rfl (B.w 1 rfl) (B.w 2 rfl) (B.w 3 rfl) (B.w 4 rfl) (by decide) (W := 0) (by decide) (by decide) rfl [(.int (4 : Int32))] [] pd0 rfl rfl rfl (Nat.le_refl _) (by decide) (by decide) ?_
  rintro T1 _ _ X1 ⟨rfl, rfl, e1⟩
  show Go p e below _ T1 (mkF m 20 _ [(.ref w5)])
  refine own_astore B X1 at_20 rfl rfl #[.val (.int i0), .val (.int i1), .val (.int (4 : Int32)), .val (.int (6 : Int32)), .val (.ref w5), .unset, .unset] rfl ?_
  refine own_iloadN B X1 at_22 rfl rfl ?_
  refine own_callS B X1 (c1 l Z a0 hw w0 w1 w2 w3 w4 w5 w6 h0 F (6 : Int32)  w6 (by simp +decide [f1])) e1 at_23 rfl (B.w 1 rfl) (B.w 2 rfl) (B.w 3 rfl) (B.w 4 rfl) (by decide) (W := 0) (by decide) (by decide) rfl [(.int (6 : Int32))] [] pd0 rfl rfl rfl (Nat.le_refl _) (by decide) (by decide) ?_
  rintro T2 _ _ X2 ⟨rfl, rfl, e2⟩
  show Go p e below _ T2 (mkF m 26 _ [(.ref w6)])
  refine own_astore B X2 at_26 rfl rfl #[.val (.int i0), .val (.int i1), .val (.int (4 : Int32)), .val (.int (6 : Int32)), .val (.ref w5), .val (.ref w6), .unset] rfl ?_
  refine own_iloadN B X2 at_28 rfl rfl ?_
  refine own_callS B X2 (c2 l Z a0 hw w0 w1 w2 w3 w4 w5 w6 h0 F (4 : Int32)  (1 : Int32) (by simp +decide [f2])) e2 at_29 rfl (B.w 10 rfl) (B.w 11 rfl) (B.w 3 rfl) (B.w 12 rfl) (by decide) (W := 0) (by decide) (by decide) rfl [(.int (4 : Int32))] [] pd1 rfl rfl rfl (Nat.le_refl _) (by decide) (by decide) ?_
  rintro T3 _ _ X3 ⟨rfl, rfl, e3⟩
  show Go p e below _ T3 (mkF m 32 _ [(.int (1 : Int32))])
  refine own_iloadN B X3 at_32 rfl rfl ?_
  refine own_callS B X3 (c2 l Z a0 hw w0 w1 w2 w3 w4 w5 w6 h0 F (6 : Int32)  (2 : Int32) (by simp +decide [f2])) e3 at_33 rfl (B.w 10 rfl) (B.w 11 rfl) (B.w 3 rfl) (B.w 12 rfl) (by decide) (W := 1) (by decide) (by decide) rfl [(.int (6 : Int32))] [(.int (1 : Int32))] pd1 rfl rfl rfl (Nat.le_refl _) (by decide) (by decide) ?_
  rintro T4 _ _ X4 ⟨rfl, rfl, e4⟩
  show Go p e below _ T4 (mkF m 36 _ [(.int (2 : Int32)), (.int (1 : Int32))])
  refine own_icmpNo B X4 at_36 (tlt (by decide : (1 : Int32) < (2 : Int32))).2.1 rfl ?_
  refine own_iconst B X4 at_39 rfl (v := (1 : Int32)) rfl ?_
  refine own_goto B X4 at_40 (by decide) (pc' := 44) rfl ?_
  refine own_istore B X4 at_44 rfl #[.val (.int i0), .val (.int i1), .val (.int (4 : Int32)), .val (.int (6 : Int32)), .val (.ref w5), .val (.ref w6), .val (.int (1 : Int32))] rfl ?_
  refine own_aload B X4 at_46 rfl rfl rfl ?_
  refine own_aload B X4 at_48 rfl rfl rfl ?_
  refine own_callV B X4 (c3 l Z a0 hw w0 w1 w2 w3 w4 w5 w6 h0 F w5 w6 (1 : Int32) (2 : Int32) F.2.2.2.2.2.2.2.2.2.2.2.2.2.2.2.2.2.2.2.1 F.2.2.2.2.2.2.2.2.2.2.2.2.2.2.2.2.2.2.2.2.1 (1 : Int32) (by simp +decide [f3])) e4 F.2.2.2.2.2.2.2.2.2.2.2.1 (own_nf B (B.w 16 rfl)) at_50 rfl (B.w 13 rfl) (B.w 14 rfl) (B.w 16 rfl) (B.w 15 rfl) (B.w 6 rfl) (B.w 17 rfl) (by decide) (W := 0) (by decide) (by decide) rfl [(.ref w6)] [] pd2 rfl rfl rfl (Nat.le_refl _) (by decide) (by decide) ?_
  rintro T5 _ _ X5 ⟨rfl, rfl, e5⟩
  show Go p e below _ T5 (mkF m 53 _ [(.int (1 : Int32))])
  refine own_iload B X5 at_53 rfl rfl ?_
  refine own_icmpNo B X5 at_55 (teq (rfl : (1 : Int32) = (1 : Int32))).2 rfl ?_
  refine own_iconst B X5 at_58 rfl (v := (1 : Int32)) rfl ?_
  refine own_goto B X5 at_59 (by decide) (pc' := 63) rfl ?_
  exact own_retInt B X5 at_63 rfl (Or.inr (Or.inl rfl)) ⟨rfl, (Fr.app (Fr.app (Fr.app (Fr.app (Fr.app (Fr.nil n0) (Fr.nil _)) (Fr.nil _)) (Fr.nil _)) (Fr.nil _)) (Fr.nil _))⟩ (by decide) (by decide)
set_option maxRecDepth 65536 in
set_option maxHeartbeats 4000000 in
theorem law_5_0 (l : Launch) (Z : State) (a0 : Array Value) (hw : ∀ d ∈ tables_1, d.before a0 Z = true) (w0 w1 w2 w3 w4 w5 w6 : Addr) (h0 : Heap) (F : Facts Z h0 w0 w1 w2 w3 w4 w5 w6) (i0 i1 : Int32) (n0 : Nat) (Z0 : n0 ≤ h0.size) (q0 : ((i0 &&& (2147483647 : Int32)) % (7 : Int32)) = (5 : Int32)) (q1 : ((i1 &&& (2147483647 : Int32)) % (7 : Int32)) = (0 : Int32)) :
    Con l Z x code maxLocals ret tables_1 room_1 #[(.int i0), (.int i1)] h0 (Q0 n0) := by
  refine own_body (plainFor_of_name pnL) hw ?_
  intro p e s m below meth c T0 B X0 e0 hnm
  refine Go.cast (ef0 m i0 i1) ?_
  refine own_iloadN B X0 at_0 rfl rfl ?_
  refine own_ldc B X0 at_1 rfl (v := (2147483647 : Int32)) (B.w 0 rfl) ?_
  refine own_iand B X0 at_3 rfl (v := (i0 &&& (2147483647 : Int32))) rfl ?_
  refine own_bipush B X0 at_4 rfl (v := (7 : Int32)) rfl ?_
  refine own_irem B X0 at_6 rfl (by decide) (v := (5 : Int32)) q0 ?_
  refine own_istoreN B X0 at_7 rfl #[.val (.int i0), .val (.int i1), .val (.int (5 : Int32)), .unset, .unset, .unset, .unset] rfl ?_
  refine own_iloadN B X0 at_8 rfl rfl ?_
  refine own_ldc B X0 at_9 rfl (v := (2147483647 : Int32)) (B.w 0 rfl) ?_
  refine own_iand B X0 at_11 rfl (v := (i1 &&& (2147483647 : Int32))) rfl ?_
  refine own_bipush B X0 at_12 rfl (v := (7 : Int32)) rfl ?_
  refine own_irem B X0 at_14 rfl (by decide) (v := (0 : Int32)) q1 ?_
  refine own_istoreN B X0 at_15 rfl #[.val (.int i0), .val (.int i1), .val (.int (5 : Int32)), .val (.int (0 : Int32)), .unset, .unset, .unset] rfl ?_
  refine own_iloadN B X0 at_16 rfl rfl ?_
  refine own_callS B X0 (c1 l Z a0 hw w0 w1 w2 w3 w4 w5 w6 h0 F (5 : Int32)  w3 (by simp +decide [f1])) e0 at_17 rfl (B.w 1 rfl) (B.w 2 rfl) (B.w 3 rfl) (B.w 4 rfl) (by decide) (W := 0) (by decide) (by decide) rfl [(.int (5 : Int32))] [] pd0 rfl rfl rfl (Nat.le_refl _) (by decide) (by decide) ?_
  rintro T1 _ _ X1 ⟨rfl, rfl, e1⟩
  show Go p e below _ T1 (mkF m 20 _ [(.ref w3)])
  refine own_astore B X1 at_20 rfl rfl #[.val (.int i0), .val (.int i1), .val (.int (5 : Int32)), .val (.int (0 : Int32)), .val (.ref w3), .unset, .unset] rfl ?_
  refine own_iloadN B X1 at_22 rfl rfl ?_
  refine own_callS B X1 (c1 l Z a0 hw w0 w1 w2 w3 w4 w5 w6 h0 F (0 : Int32)  w0 (by simp +decide [f1])) e1 at_23 rfl (B.w 1 rfl) (B.w 2 rfl) (B.w 3 rfl) (B.w 4 rfl) (by decide) (W := 0) (by decide) (by decide) rfl [(.int (0 : Int32))] [] pd0 rfl rfl rfl (Nat.le_refl _) (by decide) (by decide) ?_
  rintro T2 _ _ X2 ⟨rfl, rfl, e2⟩
  show Go p e below _ T2 (mkF m 26 _ [(.ref w0)])
  refine own_astore B X2 at_26 rfl rfl #[.val (.int i0), .val (.int i1), .val (.int (5 : Int32)), .val (.int (0 : Int32)), .val (.ref w3), .val (.ref w0), .unset] rfl ?_
  refine own_iloadN B X2 at_28 rfl rfl ?_
  refine own_callS B X2 (c2 l Z a0 hw w0 w1 w2 w3 w4 w5 w6 h0 F (5 : Int32)  (1 : Int32) (by simp +decide [f2])) e2 at_29 rfl (B.w 10 rfl) (B.w 11 rfl) (B.w 3 rfl) (B.w 12 rfl) (by decide) (W := 0) (by decide) (by decide) rfl [(.int (5 : Int32))] [] pd1 rfl rfl rfl (Nat.le_refl _) (by decide) (by decide) ?_
  rintro T3 _ _ X3 ⟨rfl, rfl, e3⟩
  show Go p e below _ T3 (mkF m 32 _ [(.int (1 : Int32))])
  refine own_iloadN B X3 at_32 rfl rfl ?_
  refine own_callS B X3 (c2 l Z a0 hw w0 w1 w2 w3 w4 w5 w6 h0 F (0 : Int32)  (0 : Int32) (by simp +decide [f2])) e3 at_33 rfl (B.w 10 rfl) (B.w 11 rfl) (B.w 3 rfl) (B.w 12 rfl) (by decide) (W := 1) (by decide) (by decide) rfl [(.int (0 : Int32))] [(.int (1 : Int32))] pd1 rfl rfl rfl (Nat.le_refl _) (by decide) (by decide) ?_
  rintro T4 _ _ X4 ⟨rfl, rfl, e4⟩
  show Go p e below _ T4 (mkF m 36 _ [(.int (0 : Int32)), (.int (1 : Int32))])
  refine own_icmpYes B X4 at_36 (flt (by decide : ¬ ((1 : Int32) < (0 : Int32)))).2.1 (by decide) (pc' := 43) rfl ?_
  refine own_iconst B X4 at_43 rfl (v := (0 : Int32)) rfl ?_
  refine own_istore B X4 at_44 rfl #[.val (.int i0), .val (.int i1), .val (.int (5 : Int32)), .val (.int (0 : Int32)), .val (.ref w3), .val (.ref w0), .val (.int (0 : Int32))] rfl ?_
  refine own_aload B X4 at_46 rfl rfl rfl ?_
  refine own_aload B X4 at_48 rfl rfl rfl ?_
  refine own_callV B X4 (c3 l Z a0 hw w0 w1 w2 w3 w4 w5 w6 h0 F w3 w0 (1 : Int32) (0 : Int32) F.2.2.2.2.2.2.2.2.2.2.2.2.2.2.2.2.2.1 F.2.2.2.2.2.2.2.2.2.2.2.2.2.2.1 (0 : Int32) (by simp +decide [f3])) e4 F.2.2.2.2.2.2.2.1 (own_nf B (B.w 16 rfl)) at_50 rfl (B.w 13 rfl) (B.w 14 rfl) (B.w 16 rfl) (B.w 15 rfl) (B.w 6 rfl) (B.w 17 rfl) (by decide) (W := 0) (by decide) (by decide) rfl [(.ref w0)] [] pd2 rfl rfl rfl (Nat.le_refl _) (by decide) (by decide) ?_
  rintro T5 _ _ X5 ⟨rfl, rfl, e5⟩
  show Go p e below _ T5 (mkF m 53 _ [(.int (0 : Int32))])
  refine own_iload B X5 at_53 rfl rfl ?_
  refine own_icmpNo B X5 at_55 (teq (rfl : (0 : Int32) = (0 : Int32))).2 rfl ?_
  refine own_iconst B X5 at_58 rfl (v := (1 : Int32)) rfl ?_
  refine own_goto B X5 at_59 (by decide) (pc' := 63) rfl ?_
  exact own_retInt B X5 at_63 rfl (Or.inr (Or.inl rfl)) ⟨rfl, (Fr.app (Fr.app (Fr.app (Fr.app (Fr.app (Fr.nil n0) (Fr.nil _)) (Fr.nil _)) (Fr.nil _)) (Fr.nil _)) (Fr.nil _))⟩ (by decide) (by decide)
set_option maxRecDepth 65536 in
set_option maxHeartbeats 4000000 in
theorem law_5_1 (l : Launch) (Z : State) (a0 : Array Value) (hw : ∀ d ∈ tables_1, d.before a0 Z = true) (w0 w1 w2 w3 w4 w5 w6 : Addr) (h0 : Heap) (F : Facts Z h0 w0 w1 w2 w3 w4 w5 w6) (i0 i1 : Int32) (n0 : Nat) (Z0 : n0 ≤ h0.size) (q0 : ((i0 &&& (2147483647 : Int32)) % (7 : Int32)) = (5 : Int32)) (q1 : ((i1 &&& (2147483647 : Int32)) % (7 : Int32)) = (1 : Int32)) :
    Con l Z x code maxLocals ret tables_1 room_1 #[(.int i0), (.int i1)] h0 (Q0 n0) := by
  refine own_body (plainFor_of_name pnL) hw ?_
  intro p e s m below meth c T0 B X0 e0 hnm
  refine Go.cast (ef0 m i0 i1) ?_
  refine own_iloadN B X0 at_0 rfl rfl ?_
  refine own_ldc B X0 at_1 rfl (v := (2147483647 : Int32)) (B.w 0 rfl) ?_
  refine own_iand B X0 at_3 rfl (v := (i0 &&& (2147483647 : Int32))) rfl ?_
  refine own_bipush B X0 at_4 rfl (v := (7 : Int32)) rfl ?_
  refine own_irem B X0 at_6 rfl (by decide) (v := (5 : Int32)) q0 ?_
  refine own_istoreN B X0 at_7 rfl #[.val (.int i0), .val (.int i1), .val (.int (5 : Int32)), .unset, .unset, .unset, .unset] rfl ?_
  refine own_iloadN B X0 at_8 rfl rfl ?_
  refine own_ldc B X0 at_9 rfl (v := (2147483647 : Int32)) (B.w 0 rfl) ?_
  refine own_iand B X0 at_11 rfl (v := (i1 &&& (2147483647 : Int32))) rfl ?_
  refine own_bipush B X0 at_12 rfl (v := (7 : Int32)) rfl ?_
  refine own_irem B X0 at_14 rfl (by decide) (v := (1 : Int32)) q1 ?_
  refine own_istoreN B X0 at_15 rfl #[.val (.int i0), .val (.int i1), .val (.int (5 : Int32)), .val (.int (1 : Int32)), .unset, .unset, .unset] rfl ?_
  refine own_iloadN B X0 at_16 rfl rfl ?_
  refine own_callS B X0 (c1 l Z a0 hw w0 w1 w2 w3 w4 w5 w6 h0 F (5 : Int32)  w3 (by simp +decide [f1])) e0 at_17 rfl (B.w 1 rfl) (B.w 2 rfl) (B.w 3 rfl) (B.w 4 rfl) (by decide) (W := 0) (by decide) (by decide) rfl [(.int (5 : Int32))] [] pd0 rfl rfl rfl (Nat.le_refl _) (by decide) (by decide) ?_
  rintro T1 _ _ X1 ⟨rfl, rfl, e1⟩
  show Go p e below _ T1 (mkF m 20 _ [(.ref w3)])
  refine own_astore B X1 at_20 rfl rfl #[.val (.int i0), .val (.int i1), .val (.int (5 : Int32)), .val (.int (1 : Int32)), .val (.ref w3), .unset, .unset] rfl ?_
  refine own_iloadN B X1 at_22 rfl rfl ?_
  refine own_callS B X1 (c1 l Z a0 hw w0 w1 w2 w3 w4 w5 w6 h0 F (1 : Int32)  w2 (by simp +decide [f1])) e1 at_23 rfl (B.w 1 rfl) (B.w 2 rfl) (B.w 3 rfl) (B.w 4 rfl) (by decide) (W := 0) (by decide) (by decide) rfl [(.int (1 : Int32))] [] pd0 rfl rfl rfl (Nat.le_refl _) (by decide) (by decide) ?_
  rintro T2 _ _ X2 ⟨rfl, rfl, e2⟩
  show Go p e below _ T2 (mkF m 26 _ [(.ref w2)])
  refine own_astore B X2 at_26 rfl rfl #[.val (.int i0), .val (.int i1), .val (.int (5 : Int32)), .val (.int (1 : Int32)), .val (.ref w3), .val (.ref w2), .unset] rfl ?_
  refine own_iloadN B X2 at_28 rfl rfl ?_
  refine own_callS B X2 (c2 l Z a0 hw w0 w1 w2 w3 w4 w5 w6 h0 F (5 : Int32)  (1 : Int32) (by simp +decide [f2])) e2 at_29 rfl (B.w 10 rfl) (B.w 11 rfl) (B.w 3 rfl) (B.w 12 rfl) (by decide) (W := 0) (by decide) (by decide) rfl [(.int (5 : Int32))] [] pd1 rfl rfl rfl (Nat.le_refl _) (by decide) (by decide) ?_
  rintro T3 _ _ X3 ⟨rfl, rfl, e3⟩
  show Go p e below _ T3 (mkF m 32 _ [(.int (1 : Int32))])
  refine own_iloadN B X3 at_32 rfl rfl ?_
  refine own_callS B X3 (c2 l Z a0 hw w0 w1 w2 w3 w4 w5 w6 h0 F (1 : Int32)  (0 : Int32) (by simp +decide [f2])) e3 at_33 rfl (B.w 10 rfl) (B.w 11 rfl) (B.w 3 rfl) (B.w 12 rfl) (by decide) (W := 1) (by decide) (by decide) rfl [(.int (1 : Int32))] [(.int (1 : Int32))] pd1 rfl rfl rfl (Nat.le_refl _) (by decide) (by decide) ?_
  rintro T4 _ _ X4 ⟨rfl, rfl, e4⟩
  show Go p e below _ T4 (mkF m 36 _ [(.int (0 : Int32)), (.int (1 : Int32))])
  refine own_icmpYes B X4 at_36 (flt (by decide : ¬ ((1 : Int32) < (0 : Int32)))).2.1 (by decide) (pc' := 43) rfl ?_
  refine own_iconst B X4 at_43 rfl (v := (0 : Int32)) rfl ?_
  refine own_istore B X4 at_44 rfl #[.val (.int i0), .val (.int i1), .val (.int (5 : Int32)), .val (.int (1 : Int32)), .val (.ref w3), .val (.ref w2), .val (.int (0 : Int32))] rfl ?_
  refine own_aload B X4 at_46 rfl rfl rfl ?_
  refine own_aload B X4 at_48 rfl rfl rfl ?_
  refine own_callV B X4 (c3 l Z a0 hw w0 w1 w2 w3 w4 w5 w6 h0 F w3 w2 (1 : Int32) (0 : Int32) F.2.2.2.2.2.2.2.2.2.2.2.2.2.2.2.2.2.1 F.2.2.2.2.2.2.2.2.2.2.2.2.2.2.2.2.1 (0 : Int32) (by simp +decide [f3])) e4 F.2.2.2.2.2.2.2.1 (own_nf B (B.w 16 rfl)) at_50 rfl (B.w 13 rfl) (B.w 14 rfl) (B.w 16 rfl) (B.w 15 rfl) (B.w 6 rfl) (B.w 17 rfl) (by decide) (W := 0) (by decide) (by decide) rfl [(.ref w2)] [] pd2 rfl rfl rfl (Nat.le_refl _) (by decide) (by decide) ?_
  rintro T5 _ _ X5 ⟨rfl, rfl, e5⟩
  show Go p e below _ T5 (mkF m 53 _ [(.int (0 : Int32))])
  refine own_iload B X5 at_53 rfl rfl ?_
  refine own_icmpNo B X5 at_55 (teq (rfl : (0 : Int32) = (0 : Int32))).2 rfl ?_
  refine own_iconst B X5 at_58 rfl (v := (1 : Int32)) rfl ?_
  refine own_goto B X5 at_59 (by decide) (pc' := 63) rfl ?_
  exact own_retInt B X5 at_63 rfl (Or.inr (Or.inl rfl)) ⟨rfl, (Fr.app (Fr.app (Fr.app (Fr.app (Fr.app (Fr.nil n0) (Fr.nil _)) (Fr.nil _)) (Fr.nil _)) (Fr.nil _)) (Fr.nil _))⟩ (by decide) (by decide)
set_option maxRecDepth 65536 in
set_option maxHeartbeats 4000000 in
theorem law_5_2 (l : Launch) (Z : State) (a0 : Array Value) (hw : ∀ d ∈ tables_1, d.before a0 Z = true) (w0 w1 w2 w3 w4 w5 w6 : Addr) (h0 : Heap) (F : Facts Z h0 w0 w1 w2 w3 w4 w5 w6) (i0 i1 : Int32) (n0 : Nat) (Z0 : n0 ≤ h0.size) (q0 : ((i0 &&& (2147483647 : Int32)) % (7 : Int32)) = (5 : Int32)) (q1 : ((i1 &&& (2147483647 : Int32)) % (7 : Int32)) = (2 : Int32)) :
    Con l Z x code maxLocals ret tables_1 room_1 #[(.int i0), (.int i1)] h0 (Q0 n0) := by
  refine own_body (plainFor_of_name pnL) hw ?_
  intro p e s m below meth c T0 B X0 e0 hnm
  refine Go.cast (ef0 m i0 i1) ?_
  refine own_iloadN B X0 at_0 rfl rfl ?_
  refine own_ldc B X0 at_1 rfl (v := (2147483647 : Int32)) (B.w 0 rfl) ?_
  refine own_iand B X0 at_3 rfl (v := (i0 &&& (2147483647 : Int32))) rfl ?_
  refine own_bipush B X0 at_4 rfl (v := (7 : Int32)) rfl ?_
  refine own_irem B X0 at_6 rfl (by decide) (v := (5 : Int32)) q0 ?_
  refine own_istoreN B X0 at_7 rfl #[.val (.int i0), .val (.int i1), .val (.int (5 : Int32)), .unset, .unset, .unset, .unset] rfl ?_
  refine own_iloadN B X0 at_8 rfl rfl ?_
  refine own_ldc B X0 at_9 rfl (v := (2147483647 : Int32)) (B.w 0 rfl) ?_
  refine own_iand B X0 at_11 rfl (v := (i1 &&& (2147483647 : Int32))) rfl ?_
  refine own_bipush B X0 at_12 rfl (v := (7 : Int32)) rfl ?_
  refine own_irem B X0 at_14 rfl (by decide) (v := (2 : Int32)) q1 ?_
  refine own_istoreN B X0 at_15 rfl #[.val (.int i0), .val (.int i1), .val (.int (5 : Int32)), .val (.int (2 : Int32)), .unset, .unset, .unset] rfl ?_
  refine own_iloadN B X0 at_16 rfl rfl ?_
  refine own_callS B X0 (c1 l Z a0 hw w0 w1 w2 w3 w4 w5 w6 h0 F (5 : Int32)  w3 (by simp +decide [f1])) e0 at_17 rfl (B.w 1 rfl) (B.w 2 rfl) (B.w 3 rfl) (B.w 4 rfl) (by decide) (W := 0) (by decide) (by decide) rfl [(.int (5 : Int32))] [] pd0 rfl rfl rfl (Nat.le_refl _) (by decide) (by decide) ?_
  rintro T1 _ _ X1 ⟨rfl, rfl, e1⟩
  show Go p e below _ T1 (mkF m 20 _ [(.ref w3)])
  refine own_astore B X1 at_20 rfl rfl #[.val (.int i0), .val (.int i1), .val (.int (5 : Int32)), .val (.int (2 : Int32)), .val (.ref w3), .unset, .unset] rfl ?_
  refine own_iloadN B X1 at_22 rfl rfl ?_
  refine own_callS B X1 (c1 l Z a0 hw w0 w1 w2 w3 w4 w5 w6 h0 F (2 : Int32)  w4 (by simp +decide [f1])) e1 at_23 rfl (B.w 1 rfl) (B.w 2 rfl) (B.w 3 rfl) (B.w 4 rfl) (by decide) (W := 0) (by decide) (by decide) rfl [(.int (2 : Int32))] [] pd0 rfl rfl rfl (Nat.le_refl _) (by decide) (by decide) ?_
  rintro T2 _ _ X2 ⟨rfl, rfl, e2⟩
  show Go p e below _ T2 (mkF m 26 _ [(.ref w4)])
  refine own_astore B X2 at_26 rfl rfl #[.val (.int i0), .val (.int i1), .val (.int (5 : Int32)), .val (.int (2 : Int32)), .val (.ref w3), .val (.ref w4), .unset] rfl ?_
  refine own_iloadN B X2 at_28 rfl rfl ?_
  refine own_callS B X2 (c2 l Z a0 hw w0 w1 w2 w3 w4 w5 w6 h0 F (5 : Int32)  (1 : Int32) (by simp +decide [f2])) e2 at_29 rfl (B.w 10 rfl) (B.w 11 rfl) (B.w 3 rfl) (B.w 12 rfl) (by decide) (W := 0) (by decide) (by decide) rfl [(.int (5 : Int32))] [] pd1 rfl rfl rfl (Nat.le_refl _) (by decide) (by decide) ?_
  rintro T3 _ _ X3 ⟨rfl, rfl, e3⟩
  show Go p e below _ T3 (mkF m 32 _ [(.int (1 : Int32))])
  refine own_iloadN B X3 at_32 rfl rfl ?_
  refine own_callS B X3 (c2 l Z a0 hw w0 w1 w2 w3 w4 w5 w6 h0 F (2 : Int32)  (0 : Int32) (by simp +decide [f2])) e3 at_33 rfl (B.w 10 rfl) (B.w 11 rfl) (B.w 3 rfl) (B.w 12 rfl) (by decide) (W := 1) (by decide) (by decide) rfl [(.int (2 : Int32))] [(.int (1 : Int32))] pd1 rfl rfl rfl (Nat.le_refl _) (by decide) (by decide) ?_
  rintro T4 _ _ X4 ⟨rfl, rfl, e4⟩
  show Go p e below _ T4 (mkF m 36 _ [(.int (0 : Int32)), (.int (1 : Int32))])
  refine own_icmpYes B X4 at_36 (flt (by decide : ¬ ((1 : Int32) < (0 : Int32)))).2.1 (by decide) (pc' := 43) rfl ?_
  refine own_iconst B X4 at_43 rfl (v := (0 : Int32)) rfl ?_
  refine own_istore B X4 at_44 rfl #[.val (.int i0), .val (.int i1), .val (.int (5 : Int32)), .val (.int (2 : Int32)), .val (.ref w3), .val (.ref w4), .val (.int (0 : Int32))] rfl ?_
  refine own_aload B X4 at_46 rfl rfl rfl ?_
  refine own_aload B X4 at_48 rfl rfl rfl ?_
  refine own_callV B X4 (c3 l Z a0 hw w0 w1 w2 w3 w4 w5 w6 h0 F w3 w4 (1 : Int32) (0 : Int32) F.2.2.2.2.2.2.2.2.2.2.2.2.2.2.2.2.2.1 F.2.2.2.2.2.2.2.2.2.2.2.2.2.2.2.2.2.2.1 (0 : Int32) (by simp +decide [f3])) e4 F.2.2.2.2.2.2.2.1 (own_nf B (B.w 16 rfl)) at_50 rfl (B.w 13 rfl) (B.w 14 rfl) (B.w 16 rfl) (B.w 15 rfl) (B.w 6 rfl) (B.w 17 rfl) (by decide) (W := 0) (by decide) (by decide) rfl [(.ref w4)] [] pd2 rfl rfl rfl (Nat.le_refl _) (by decide) (by decide) ?_
  rintro T5 _ _ X5 ⟨rfl, rfl, e5⟩
  show Go p e below _ T5 (mkF m 53 _ [(.int (0 : Int32))])
  refine own_iload B X5 at_53 rfl rfl ?_
  refine own_icmpNo B X5 at_55 (teq (rfl : (0 : Int32) = (0 : Int32))).2 rfl ?_
  refine own_iconst B X5 at_58 rfl (v := (1 : Int32)) rfl ?_
  refine own_goto B X5 at_59 (by decide) (pc' := 63) rfl ?_
  exact own_retInt B X5 at_63 rfl (Or.inr (Or.inl rfl)) ⟨rfl, (Fr.app (Fr.app (Fr.app (Fr.app (Fr.app (Fr.nil n0) (Fr.nil _)) (Fr.nil _)) (Fr.nil _)) (Fr.nil _)) (Fr.nil _))⟩ (by decide) (by decide)
set_option maxRecDepth 65536 in
set_option maxHeartbeats 4000000 in
theorem law_5_3 (l : Launch) (Z : State) (a0 : Array Value) (hw : ∀ d ∈ tables_1, d.before a0 Z = true) (w0 w1 w2 w3 w4 w5 w6 : Addr) (h0 : Heap) (F : Facts Z h0 w0 w1 w2 w3 w4 w5 w6) (i0 i1 : Int32) (n0 : Nat) (Z0 : n0 ≤ h0.size) (q0 : ((i0 &&& (2147483647 : Int32)) % (7 : Int32)) = (5 : Int32)) (q1 : ((i1 &&& (2147483647 : Int32)) % (7 : Int32)) = (3 : Int32)) :
    Con l Z x code maxLocals ret tables_1 room_1 #[(.int i0), (.int i1)] h0 (Q0 n0) := by
  refine own_body (plainFor_of_name pnL) hw ?_
  intro p e s m below meth c T0 B X0 e0 hnm
  refine Go.cast (ef0 m i0 i1) ?_
  refine own_iloadN B X0 at_0 rfl rfl ?_
  refine own_ldc B X0 at_1 rfl (v := (2147483647 : Int32)) (B.w 0 rfl) ?_
  refine own_iand B X0 at_3 rfl (v := (i0 &&& (2147483647 : Int32))) rfl ?_
  refine own_bipush B X0 at_4 rfl (v := (7 : Int32)) rfl ?_
  refine own_irem B X0 at_6 rfl (by decide) (v := (5 : Int32)) q0 ?_
  refine own_istoreN B X0 at_7 rfl #[.val (.int i0), .val (.int i1), .val (.int (5 : Int32)), .unset, .unset, .unset, .unset] rfl ?_
  refine own_iloadN B X0 at_8 rfl rfl ?_
  refine own_ldc B X0 at_9 rfl (v := (2147483647 : Int32)) (B.w 0 rfl) ?_
  refine own_iand B X0 at_11 rfl (v := (i1 &&& (2147483647 : Int32))) rfl ?_
  refine own_bipush B X0 at_12 rfl (v := (7 : Int32)) rfl ?_
  refine own_irem B X0 at_14 rfl (by decide) (v := (3 : Int32)) q1 ?_
  refine own_istoreN B X0 at_15 rfl #[.val (.int i0), .val (.int i1), .val (.int (5 : Int32)), .val (.int (3 : Int32)), .unset, .unset, .unset] rfl ?_
  refine own_iloadN B X0 at_16 rfl rfl ?_
  refine own_callS B X0 (c1 l Z a0 hw w0 w1 w2 w3 w4 w5 w6 h0 F (5 : Int32)  w3 (by simp +decide [f1])) e0 at_17 rfl (B.w 1 rfl) (B.w 2 rfl) (B.w 3 rfl) (B.w 4 rfl) (by decide) (W := 0) (by decide) (by decide) rfl [(.int (5 : Int32))] [] pd0 rfl rfl rfl (Nat.le_refl _) (by decide) (by decide) ?_
  rintro T1 _ _ X1 ⟨rfl, rfl, e1⟩
  show Go p e below _ T1 (mkF m 20 _ [(.ref w3)])
  refine own_astore B X1 at_20 rfl rfl #[.val (.int i0), .val (.int i1), .val (.int (5 : Int32)), .val (.int (3 : Int32)), .val (.ref w3), .unset, .unset] rfl ?_
  refine own_iloadN B X1 at_22 rfl rfl ?_
  refine own_callS B X1 (c1 l Z a0 hw w0 w1 w2 w3 w4 w5 w6 h0 F (3 : Int32)  w1 (by simp +decide [f1])) e1 at_23 rfl (B.w 1 rfl) (B.w 2 rfl) (B.w 3 rfl) (B.w 4 rfl) (by decide) (W := 0) (by decide) (by decide) rfl [(.int (3 : Int32))] [] pd0 rfl rfl rfl (Nat.le_refl _) (by decide) (by decide) ?_
  rintro T2 _ _ X2 ⟨rfl, rfl, e2⟩
  show Go p e below _ T2 (mkF m 26 _ [(.ref w1)])
  refine own_astore B X2 at_26 rfl rfl #[.val (.int i0), .val (.int i1), .val (.int (5 : Int32)), .val (.int (3 : Int32)), .val (.ref w3), .val (.ref w1), .unset] rfl ?_
  refine own_iloadN B X2 at_28 rfl rfl ?_
  refine own_callS B X2 (c2 l Z a0 hw w0 w1 w2 w3 w4 w5 w6 h0 F (5 : Int32)  (1 : Int32) (by simp +decide [f2])) e2 at_29 rfl (B.w 10 rfl) (B.w 11 rfl) (B.w 3 rfl) (B.w 12 rfl) (by decide) (W := 0) (by decide) (by decide) rfl [(.int (5 : Int32))] [] pd1 rfl rfl rfl (Nat.le_refl _) (by decide) (by decide) ?_
  rintro T3 _ _ X3 ⟨rfl, rfl, e3⟩
  show Go p e below _ T3 (mkF m 32 _ [(.int (1 : Int32))])
  refine own_iloadN B X3 at_32 rfl rfl ?_
  refine own_callS B X3 (c2 l Z a0 hw w0 w1 w2 w3 w4 w5 w6 h0 F (3 : Int32)  (0 : Int32) (by simp +decide [f2])) e3 at_33 rfl (B.w 10 rfl) (B.w 11 rfl) (B.w 3 rfl) (B.w 12 rfl) (by decide) (W := 1) (by decide) (by decide) rfl [(.int (3 : Int32))] [(.int (1 : Int32))] pd1 rfl rfl rfl (Nat.le_refl _) (by decide) (by decide) ?_
  rintro T4 _ _ X4 ⟨rfl, rfl, e4⟩
  show Go p e below _ T4 (mkF m 36 _ [(.int (0 : Int32)), (.int (1 : Int32))])
  refine own_icmpYes B X4 at_36 (flt (by decide : ¬ ((1 : Int32) < (0 : Int32)))).2.1 (by decide) (pc' := 43) rfl ?_
  refine own_iconst B X4 at_43 rfl (v := (0 : Int32)) rfl ?_
  refine own_istore B X4 at_44 rfl #[.val (.int i0), .val (.int i1), .val (.int (5 : Int32)), .val (.int (3 : Int32)), .val (.ref w3), .val (.ref w1), .val (.int (0 : Int32))] rfl ?_
  refine own_aload B X4 at_46 rfl rfl rfl ?_
  refine own_aload B X4 at_48 rfl rfl rfl ?_
  refine own_callV B X4 (c3 l Z a0 hw w0 w1 w2 w3 w4 w5 w6 h0 F w3 w1 (1 : Int32) (0 : Int32) F.2.2.2.2.2.2.2.2.2.2.2.2.2.2.2.2.2.1 F.2.2.2.2.2.2.2.2.2.2.2.2.2.2.2.1 (0 : Int32) (by simp +decide [f3])) e4 F.2.2.2.2.2.2.2.1 (own_nf B (B.w 16 rfl)) at_50 rfl (B.w 13 rfl) (B.w 14 rfl) (B.w 16 rfl) (B.w 15 rfl) (B.w 6 rfl) (B.w 17 rfl) (by decide) (W := 0) (by decide) (by decide) rfl [(.ref w1)] [] pd2 rfl rfl rfl (Nat.le_refl _) (by decide) (by decide) ?_
  rintro T5 _ _ X5 ⟨rfl, rfl, e5⟩
  show Go p e below _ T5 (mkF m 53 _ [(.int (0 : Int32))])
  refine own_iload B X5 at_53 rfl rfl ?_
  refine own_icmpNo B X5 at_55 (teq (rfl : (0 : Int32) = (0 : Int32))).2 rfl ?_
  refine own_iconst B X5 at_58 rfl (v := (1 : Int32)) rfl ?_
  refine own_goto B X5 at_59 (by decide) (pc' := 63) rfl ?_
  exact own_retInt B X5 at_63 rfl (Or.inr (Or.inl rfl)) ⟨rfl, (Fr.app (Fr.app (Fr.app (Fr.app (Fr.app (Fr.nil n0) (Fr.nil _)) (Fr.nil _)) (Fr.nil _)) (Fr.nil _)) (Fr.nil _))⟩ (by decide) (by decide)
set_option maxRecDepth 65536 in
set_option maxHeartbeats 4000000 in
theorem law_5_4 (l : Launch) (Z : State) (a0 : Array Value) (hw : ∀ d ∈ tables_1, d.before a0 Z = true) (w0 w1 w2 w3 w4 w5 w6 : Addr) (h0 : Heap) (F : Facts Z h0 w0 w1 w2 w3 w4 w5 w6) (i0 i1 : Int32) (n0 : Nat) (Z0 : n0 ≤ h0.size) (q0 : ((i0 &&& (2147483647 : Int32)) % (7 : Int32)) = (5 : Int32)) (q1 : ((i1 &&& (2147483647 : Int32)) % (7 : Int32)) = (4 : Int32)) :
    Con l Z x code maxLocals ret tables_1 room_1 #[(.int i0), (.int i1)] h0 (Q0 n0) := by
  refine own_body (plainFor_of_name pnL) hw ?_
  intro p e s m below meth c T0 B X0 e0 hnm
  refine Go.cast (ef0 m i0 i1) ?_
  refine own_iloadN B X0 at_0 rfl rfl ?_
  refine own_ldc B X0 at_1 rfl (v := (2147483647 : Int32)) (B.w 0 rfl) ?_
  refine own_iand B X0 at_3 rfl (v := (i0 &&& (2147483647 : Int32))) rfl ?_
  refine own_bipush B X0 at_4 rfl (v := (7 : Int32)) rfl ?_
  refine own_irem B X0 at_6 rfl (by decide) (v := (5 : Int32)) q0 ?_
  refine own_istoreN B X0 at_7 rfl #[.val (.int i0), .val (.int i1), .val (.int (5 : Int32)), .unset, .unset, .unset, .unset] rfl ?_
  refine own_iloadN B X0 at_8 rfl rfl ?_
  refine own_ldc B X0 at_9 rfl (v := (2147483647 : Int32)) (B.w 0 rfl) ?_
  refine own_iand B X0 at_11 rfl (v := (i1 &&& (2147483647 : Int32))) rfl ?_
  refine own_bipush B X0 at_12 rfl (v := (7 : Int32)) rfl ?_
  refine own_irem B X0 at_14 rfl (by decide) (v := (4 : Int32)) q1 ?_
  refine own_istoreN B X0 at_15 rfl #[.val (.int i0), .val (.int i1), .val (.int (5 : Int32)), .val (.int (4 : Int32)), .unset, .unset, .unset] rfl ?_
  refine own_iloadN B X0 at_16 rfl rfl ?_
  refine own_callS B X0 (c1 l Z a0 hw w0 w1 w2 w3 w4 w5 w6 h0 F (5 : Int32)  w3 (by simp +decide [f1])) e0 at_17 rfl (B.w 1 rfl) (B.w 2 rfl) (B.w 3 rfl) (B.w 4 rfl) (by decide) (W := 0) (by decide) (by decide) rfl [(.int (5 : Int32))] [] pd0 rfl rfl rfl (Nat.le_refl _) (by decide) (by decide) ?_
  rintro T1 _ _ X1 ⟨rfl, rfl, e1⟩
  show Go p e below _ T1 (mkF m 20 _ [(.ref w3)])
  refine own_astore B X1 at_20 rfl rfl #[.val (.int i0), .val (.int i1), .val (.int (5 : Int32)), .val (.int (4 : Int32)), .val (.ref w3), .unset, .unset] rfl ?_
  refine own_iloadN B X1 at_22 rfl rfl ?_
  refine own_callS B X1 (c1 l Z a0 hw w0 w1 w2 w3 w4 w5 w6 h0 F (4 : Int32)  w5 (by simp +decide [f1])) e1 at_23 rfl (B.w 1 rfl) (B.w 2 rfl) (B.w 3 rfl) (B.w 4 rfl) (by decide) (W := 0) (by decide) (by decide) rfl [(.int (4 : Int32))] [] pd0 rfl rfl rfl (Nat.le_refl _) (by decide) (by decide) ?_
  rintro T2 _ _ X2 ⟨rfl, rfl, e2⟩
  show Go p e below _ T2 (mkF m 26 _ [(.ref w5)])
  refine own_astore B X2 at_26 rfl rfl #[.val (.int i0), .val (.int i1), .val (.int (5 : Int32)), .val (.int (4 : Int32)), .val (.ref w3), .val (.ref w5), .unset] rfl ?_
  refine own_iloadN B X2 at_28 rfl rfl ?_
  refine own_callS B X2 (c2 l Z a0 hw w0 w1 w2 w3 w4 w5 w6 h0 F (5 : Int32)  (1 : Int32) (by simp +decide [f2])) e2 at_29 rfl (B.w 10 rfl) (B.w 11 rfl) (B.w 3 rfl) (B.w 12 rfl) (by decide) (W := 0) (by decide) (by decide) rfl [(.int (5 : Int32))] [] pd1 rfl rfl rfl (Nat.le_refl _) (by decide) (by decide) ?_
  rintro T3 _ _ X3 ⟨rfl, rfl, e3⟩
  show Go p e below _ T3 (mkF m 32 _ [(.int (1 : Int32))])
  refine own_iloadN B X3 at_32 rfl rfl ?_
  refine own_callS B X3 (c2 l Z a0 hw w0 w1 w2 w3 w4 w5 w6 h0 F (4 : Int32)  (1 : Int32) (by simp +decide [f2])) e3 at_33 rfl (B.w 10 rfl) (B.w 11 rfl) (B.w 3 rfl) (B.w 12 rfl) (by decide) (W := 1) (by decide) (by decide) rfl [(.int (4 : Int32))] [(.int (1 : Int32))] pd1 rfl rfl rfl (Nat.le_refl _) (by decide) (by decide) ?_
  rintro T4 _ _ X4 ⟨rfl, rfl, e4⟩
  show Go p e below _ T4 (mkF m 36 _ [(.int (1 : Int32)), (.int (1 : Int32))])
  refine own_icmpYes B X4 at_36 (flt (by decide : ¬ ((1 : Int32) < (1 : Int32)))).2.1 (by decide) (pc' := 43) rfl ?_
  refine own_iconst B X4 at_43 rfl (v := (0 : Int32)) rfl ?_
  refine own_istore B X4 at_44 rfl #[.val (.int i0), .val (.int i1), .val (.int (5 : Int32)), .val (.int (4 : Int32)), .val (.ref w3), .val (.ref w5), .val (.int (0 : Int32))] rfl ?_
  refine own_aload B X4 at_46 rfl rfl rfl ?_
  refine own_aload B X4 at_48 rfl rfl rfl ?_
  refine own_callV B X4 (c3 l Z a0 hw w0 w1 w2 w3 w4 w5 w6 h0 F w3 w5 (1 : Int32) (1 : Int32) F.2.2.2.2.2.2.2.2.2.2.2.2.2.2.2.2.2.1 F.2.2.2.2.2.2.2.2.2.2.2.2.2.2.2.2.2.2.2.1 (0 : Int32) (by simp +decide [f3])) e4 F.2.2.2.2.2.2.2.1 (own_nf B (B.w 16 rfl)) at_50 rfl (B.w 13 rfl) (B.w 14 rfl) (B.w 16 rfl) (B.w 15 rfl) (B.w 6 rfl) (B.w 17 rfl) (by decide) (W := 0) (by decide) (by decide) rfl [(.ref w5)] [] pd2 rfl rfl rfl (Nat.le_refl _) (by decide) (by decide) ?_
  rintro T5 _ _ X5 ⟨rfl, rfl, e5⟩
  show Go p e below _ T5 (mkF m 53 _ [(.int (0 : Int32))])
  refine own_iload B X5 at_53 rfl rfl ?_
  refine own_icmpNo B X5 at_55 (teq (rfl : (0 : Int32) = (0 : Int32))).2 rfl ?_
  refine own_iconst B X5 at_58 rfl (v := (1 : Int32)) rfl ?_
  refine own_goto B X5 at_59 (by decide) (pc' := 63) rfl ?_
  exact own_retInt B X5 at_63 rfl (Or.inr (Or.inl rfl)) ⟨rfl, (Fr.app (Fr.app (Fr.app (Fr.app (Fr.app (Fr.nil n0) (Fr.nil _)) (Fr.nil _)) (Fr.nil _)) (Fr.nil _)) (Fr.nil _))⟩ (by decide) (by decide)
set_option maxRecDepth 65536 in
set_option maxHeartbeats 4000000 in
theorem law_5_5 (l : Launch) (Z : State) (a0 : Array Value) (hw : ∀ d ∈ tables_1, d.before a0 Z = true) (w0 w1 w2 w3 w4 w5 w6 : Addr) (h0 : Heap) (F : Facts Z h0 w0 w1 w2 w3 w4 w5 w6) (i0 i1 : Int32) (n0 : Nat) (Z0 : n0 ≤ h0.size) (q0 : ((i0 &&& (2147483647 : Int32)) % (7 : Int32)) = (5 : Int32)) (q1 : ((i1 &&& (2147483647 : Int32)) % (7 : Int32)) = (5 : Int32)) :
    Con l Z x code maxLocals ret tables_1 room_1 #[(.int i0), (.int i1)] h0 (Q0 n0) := by
  refine own_body (plainFor_of_name pnL) hw ?_
  intro p e s m below meth c T0 B X0 e0 hnm
  refine Go.cast (ef0 m i0 i1) ?_
  refine own_iloadN B X0 at_0 rfl rfl ?_
  refine own_ldc B X0 at_1 rfl (v := (2147483647 : Int32)) (B.w 0 rfl) ?_
  refine own_iand B X0 at_3 rfl (v := (i0 &&& (2147483647 : Int32))) rfl ?_
  refine own_bipush B X0 at_4 rfl (v := (7 : Int32)) rfl ?_
  refine own_irem B X0 at_6 rfl (by decide) (v := (5 : Int32)) q0 ?_
  refine own_istoreN B X0 at_7 rfl #[.val (.int i0), .val (.int i1), .val (.int (5 : Int32)), .unset, .unset, .unset, .unset] rfl ?_
  refine own_iloadN B X0 at_8 rfl rfl ?_
  refine own_ldc B X0 at_9 rfl (v := (2147483647 : Int32)) (B.w 0 rfl) ?_
  refine own_iand B X0 at_11 rfl (v := (i1 &&& (2147483647 : Int32))) rfl ?_
  refine own_bipush B X0 at_12 rfl (v := (7 : Int32)) rfl ?_
  refine own_irem B X0 at_14 rfl (by decide) (v := (5 : Int32)) q1 ?_
  refine own_istoreN B X0 at_15 rfl #[.val (.int i0), .val (.int i1), .val (.int (5 : Int32)), .val (.int (5 : Int32)), .unset, .unset, .unset] rfl ?_
  refine own_iloadN B X0 at_16 rfl rfl ?_
  refine own_callS B X0 (c1 l Z a0 hw w0 w1 w2 w3 w4 w5 w6 h0 F (5 : Int32)  w3 (by simp +decide [f1])) e0 at_17 rfl (B.w 1 rfl) (B.w 2 rfl) (B.w 3 rfl) (B.w 4 rfl) (by decide) (W := 0) (by decide) (by decide) rfl [(.int (5 : Int32))] [] pd0 rfl rfl rfl (Nat.le_refl _) (by decide) (by decide) ?_
  rintro T1 _ _ X1 ⟨rfl, rfl, e1⟩
  show Go p e below _ T1 (mkF m 20 _ [(.ref w3)])
  refine own_astore B X1 at_20 rfl rfl #[.val (.int i0), .val (.int i1), .val (.int (5 : Int32)), .val (.int (5 : Int32)), .val (.ref w3), .unset, .unset] rfl ?_
  refine own_iloadN B X1 at_22 rfl rfl ?_
  refine own_callS B X1 (c1 l Z a0 hw w0 w1 w2 w3 w4 w5 w6 h0 F (5 : Int32)  w3 (by simp +decide [f1])) e1 at_23 rfl (B.w 1 rfl) (B.w 2 rfl) (B.w 3 rfl) (B.w 4 rfl) (by decide) (W := 0) (by decide) (by decide) rfl [(.int (5 : Int32))] [] pd0 rfl rfl rfl (Nat.le_refl _) (by decide) (by decide) ?_
  rintro T2 _ _ X2 ⟨rfl, rfl, e2⟩
  show Go p e below _ T2 (mkF m 26 _ [(.ref w3)])
  refine own_astore B X2 at_26 rfl rfl #[.val (.int i0), .val (.int i1), .val (.int (5 : Int32)), .val (.int (5 : Int32)), .val (.ref w3), .val (.ref w3), .unset] rfl ?_
  refine own_iloadN B X2 at_28 rfl rfl ?_
  refine own_callS B X2 (c2 l Z a0 hw w0 w1 w2 w3 w4 w5 w6 h0 F (5 : Int32)  (1 : Int32) (by simp +decide [f2])) e2 at_29 rfl (B.w 10 rfl) (B.w 11 rfl) (B.w 3 rfl) (B.w 12 rfl) (by decide) (W := 0) (by decide) (by decide) rfl [(.int (5 : Int32))] [] pd1 rfl rfl rfl (Nat.le_refl _) (by decide) (by decide) ?_
  rintro T3 _ _ X3 ⟨rfl, rfl, e3⟩
  show Go p e below _ T3 (mkF m 32 _ [(.int (1 : Int32))])
  refine own_iloadN B X3 at_32 rfl rfl ?_
  refine own_callS B X3 (c2 l Z a0 hw w0 w1 w2 w3 w4 w5 w6 h0 F (5 : Int32)  (1 : Int32) (by simp +decide [f2])) e3 at_33 rfl (B.w 10 rfl) (B.w 11 rfl) (B.w 3 rfl) (B.w 12 rfl) (by decide) (W := 1) (by decide) (by decide) rfl [(.int (5 : Int32))] [(.int (1 : Int32))] pd1 rfl rfl rfl (Nat.le_refl _) (by decide) (by decide) ?_
  rintro T4 _ _ X4 ⟨rfl, rfl, e4⟩
  show Go p e below _ T4 (mkF m 36 _ [(.int (1 : Int32)), (.int (1 : Int32))])
  refine own_icmpYes B X4 at_36 (flt (by decide : ¬ ((1 : Int32) < (1 : Int32)))).2.1 (by decide) (pc' := 43) rfl ?_
  refine own_iconst B X4 at_43 rfl (v := (0 : Int32)) rfl ?_
  refine own_istore B X4 at_44 rfl #[.val (.int i0), .val (.int i1), .val (.int (5 : Int32)), .val (.int (5 : Int32)), .val (.ref w3), .val (.ref w3), .val (.int (0 : Int32))] rfl ?_
  refine own_aload B X4 at_46 rfl rfl rfl ?_
  refine own_aload B X4 at_48 rfl rfl rfl ?_
  refine own_callV B X4 (c3 l Z a0 hw w0 w1 w2 w3 w4 w5 w6 h0 F w3 w3 (1 : Int32) (1 : Int32) F.2.2.2.2.2.2.2.2.2.2.2.2.2.2.2.2.2.1 F.2.2.2.2.2.2.2.2.2.2.2.2.2.2.2.2.2.1 (0 : Int32) (by simp +decide [f3])) e4 F.2.2.2.2.2.2.2.1 (own_nf B (B.w 16 rfl)) at_50 rfl (B.w 13 rfl) (B.w 14 rfl) (B.w 16 rfl) (B.w 15 rfl) (B.w 6 rfl) (B.w 17 rfl) (by decide) (W := 0) (by decide) (by decide) rfl [(.ref w3)] [] pd2 rfl rfl rfl (Nat.le_refl _) (by decide) (by decide) ?_
  rintro T5 _ _ X5 ⟨rfl, rfl, e5⟩
  show Go p e below _ T5 (mkF m 53 _ [(.int (0 : Int32))])
  refine own_iload B X5 at_53 rfl rfl ?_
  refine own_icmpNo B X5 at_55 (teq (rfl : (0 : Int32) = (0 : Int32))).2 rfl ?_
  refine own_iconst B X5 at_58 rfl (v := (1 : Int32)) rfl ?_
  refine own_goto B X5 at_59 (by decide) (pc' := 63) rfl ?_
  exact own_retInt B X5 at_63 rfl (Or.inr (Or.inl rfl)) ⟨rfl, (Fr.app (Fr.app (Fr.app (Fr.app (Fr.app (Fr.nil n0) (Fr.nil _)) (Fr.nil _)) (Fr.nil _)) (Fr.nil _)) (Fr.nil _))⟩ (by decide) (by decide)
set_option maxRecDepth 65536 in
set_option maxHeartbeats 4000000 in
theorem law_5_6 (l : Launch) (Z : State) (a0 : Array Value) (hw : ∀ d ∈ tables_1, d.before a0 Z = true) (w0 w1 w2 w3 w4 w5 w6 : Addr) (h0 : Heap) (F : Facts Z h0 w0 w1 w2 w3 w4 w5 w6) (i0 i1 : Int32) (n0 : Nat) (Z0 : n0 ≤ h0.size) (q0 : ((i0 &&& (2147483647 : Int32)) % (7 : Int32)) = (5 : Int32)) (q1 : ((i1 &&& (2147483647 : Int32)) % (7 : Int32)) = (6 : Int32)) :
    Con l Z x code maxLocals ret tables_1 room_1 #[(.int i0), (.int i1)] h0 (Q0 n0) := by
  refine own_body (plainFor_of_name pnL) hw ?_
  intro p e s m below meth c T0 B X0 e0 hnm
  refine Go.cast (ef0 m i0 i1) ?_
  refine own_iloadN B X0 at_0 rfl rfl ?_
  refine own_ldc B X0 at_1 rfl (v := (2147483647 : Int32)) (B.w 0 rfl) ?_
  refine own_iand B X0 at_3 rfl (v := (i0 &&& (2147483647 : Int32))) rfl ?_
  refine own_bipush B X0 at_4 rfl (v := (7 : Int32)) rfl ?_
  refine own_irem B X0 at_6 rfl (by decide) (v := (5 : Int32)) q0 ?_
  refine own_istoreN B X0 at_7 rfl #[.val (.int i0), .val (.int i1), .val (.int (5 : Int32)), .unset, .unset, .unset, .unset] rfl ?_
  refine own_iloadN B X0 at_8 rfl rfl ?_
  refine own_ldc B X0 at_9 rfl (v := (2147483647 : Int32)) (B.w 0 rfl) ?_
  refine own_iand B X0 at_11 rfl (v := (i1 &&& (2147483647 : Int32))) rfl ?_
  refine own_bipush B X0 at_12 rfl (v := (7 : Int32)) rfl ?_
  refine own_irem B X0 at_14 rfl (by decide) (v := (6 : Int32)) q1 ?_
  refine own_istoreN B X0 at_15 rfl #[.val (.int i0), .val (.int i1), .val (.int (5 : Int32)), .val (.int (6 : Int32)), .unset, .unset, .unset] rfl ?_
  refine own_iloadN B X0 at_16 rfl rfl ?_
  refine own_callS B X0 (c1 l Z a0 hw w0 w1 w2 w3 w4 w5 w6 h0 F (5 : Int32)  w3 (by simp +decide [f1])) e0 at_17 rfl (B.w 1 rfl) (B.w 2 rfl) (B.w 3 rfl) (B.w 4 rfl) (by decide) (W := 0) (by decide) (by decide) rfl [(.int (5 : Int32))] [] pd0 rfl rfl rfl (Nat.le_refl _) (by decide) (by decide) ?_
  rintro T1 _ _ X1 ⟨rfl, rfl, e1⟩
  show Go p e below _ T1 (mkF m 20 _ [(.ref w3)])
  refine own_astore B X1 at_20 rfl rfl #[.val (.int i0), .val (.int i1), .val (.int (5 : Int32)), .val (.int (6 : Int32)), .val (.ref w3), .unset, .unset] rfl ?_
  refine own_iloadN B X1 at_22 rfl rfl ?_
  refine own_callS B X1 (c1 l Z a0 hw w0 w1 w2 w3 w4 w5 w6 h0 F (6 : Int32)  w6 (by simp +decide [f1])) e1 at_23 rfl (B.w 1 rfl) (B.w 2 rfl) (B.w 3 rfl) (B.w 4 rfl) (by decide) (W := 0) (by decide) (by decide) rfl [(.int (6 : Int32))] [] pd0 rfl rfl rfl (Nat.le_refl _) (by decide) (by decide) ?_
  rintro T2 _ _ X2 ⟨rfl, rfl, e2⟩
  show Go p e below _ T2 (mkF m 26 _ [(.ref w6)])
  refine own_astore B X2 at_26 rfl rfl #[.val (.int i0), .val (.int i1), .val (.int (5 : Int32)), .val (.int (6 : Int32)), .val (.ref w3), .val (.ref w6), .unset] rfl ?_
  refine own_iloadN B X2 at_28 rfl rfl ?_
  refine own_callS B X2 (c2 l Z a0 hw w0 w1 w2 w3 w4 w5 w6 h0 F (5 : Int32)  (1 : Int32) (by simp +decide [f2])) e2 at_29 rfl (B.w 10 rfl) (B.w 11 rfl) (B.w 3 rfl) (B.w 12 rfl) (by decide) (W := 0) (by decide) (by decide) rfl [(.int (5 : Int32))] [] pd1 rfl rfl rfl (Nat.le_refl _) (by decide) (by decide) ?_
  rintro T3 _ _ X3 ⟨rfl, rfl, e3⟩
  show Go p e below _ T3 (mkF m 32 _ [(.int (1 : Int32))])
  refine own_iloadN B X3 at_32 rfl rfl ?_
  refine own_callS B X3 (c2 l Z a0 hw w0 w1 w2 w3 w4 w5 w6 h0 F (6 : Int32)  (2 : Int32) (by simp +decide [f2])) e3 at_33 rfl (B.w 10 rfl) (B.w 11 rfl) (B.w 3 rfl) (B.w 12 rfl) (by decide) (W := 1) (by decide) (by decide) rfl [(.int (6 : Int32))] [(.int (1 : Int32))] pd1 rfl rfl rfl (Nat.le_refl _) (by decide) (by decide) ?_
  rintro T4 _ _ X4 ⟨rfl, rfl, e4⟩
  show Go p e below _ T4 (mkF m 36 _ [(.int (2 : Int32)), (.int (1 : Int32))])
  refine own_icmpNo B X4 at_36 (tlt (by decide : (1 : Int32) < (2 : Int32))).2.1 rfl ?_
  refine own_iconst B X4 at_39 rfl (v := (1 : Int32)) rfl ?_
  refine own_goto B X4 at_40 (by decide) (pc' := 44) rfl ?_
  refine own_istore B X4 at_44 rfl #[.val (.int i0), .val (.int i1), .val (.int (5 : Int32)), .val (.int (6 : Int32)), .val (.ref w3), .val (.ref w6), .val (.int (1 : Int32))] rfl ?_
  refine own_aload B X4 at_46 rfl rfl rfl ?_
  refine own_aload B X4 at_48 rfl rfl rfl ?_
  refine own_callV B X4 (c3 l Z a0 hw w0 w1 w2 w3 w4 w5 w6 h0 F w3 w6 (1 : Int32) (2 : Int32) F.2.2.2.2.2.2.2.2.2.2.2.2.2.2.2.2.2.1 F.2.2.2.2.2.2.2.2.2.2.2.2.2.2.2.2.2.2.2.2.1 (1 : Int32) (by simp +decide [f3])) e4 F.2.2.2.2.2.2.2.1 (own_nf B (B.w 16 rfl)) at_50 rfl (B.w 13 rfl) (B.w 14 rfl) (B.w 16 rfl) (B.w 15 rfl) (B.w 6 rfl) (B.w 17 rfl) (by decide) (W := 0) (by decide) (by decide) rfl [(.ref w6)] [] pd2 rfl rfl rfl (Nat.le_refl _) (by decide) (by decide) ?_
  rintro T5 _ _ X5 ⟨rfl, rfl, e5⟩
  show Go p e below _ T5 (mkF m 53 _ [(.int (1 : Int32))])
  refine own_iload B X5 at_53 rfl rfl ?_
  refine own_icmpNo B X5 at_55 (teq (rfl : (1 : Int32) = (1 : Int32))).2 rfl ?_
  refine own_iconst B X5 at_58 rfl (v := (1 : Int32)) rfl ?_
  refine own_goto B X5 at_59 (by decide) (pc' := 63) rfl ?_
  exact own_retInt B X5 at_63 rfl (Or.inr (Or.inl rfl)) ⟨rfl, (Fr.app (Fr.app (Fr.app (Fr.app (Fr.app (Fr.nil n0) (Fr.nil _)) (Fr.nil _)) (Fr.nil _)) (Fr.nil _)) (Fr.nil _))⟩ (by decide) (by decide)
set_option maxRecDepth 65536 in
set_option maxHeartbeats 4000000 in
theorem law_6_0 (l : Launch) (Z : State) (a0 : Array Value) (hw : ∀ d ∈ tables_1, d.before a0 Z = true) (w0 w1 w2 w3 w4 w5 w6 : Addr) (h0 : Heap) (F : Facts Z h0 w0 w1 w2 w3 w4 w5 w6) (i0 i1 : Int32) (n0 : Nat) (Z0 : n0 ≤ h0.size) (q0 : ((i0 &&& (2147483647 : Int32)) % (7 : Int32)) = (6 : Int32)) (q1 : ((i1 &&& (2147483647 : Int32)) % (7 : Int32)) = (0 : Int32)) :
    Con l Z x code maxLocals ret tables_1 room_1 #[(.int i0), (.int i1)] h0 (Q0 n0) := by
  refine own_body (plainFor_of_name pnL) hw ?_
  intro p e s m below meth c T0 B X0 e0 hnm
  refine Go.cast (ef0 m i0 i1) ?_
  refine own_iloadN B X0 at_0 rfl rfl ?_
  refine own_ldc B X0 at_1 rfl (v := (2147483647 : Int32)) (B.w 0 rfl) ?_
  refine own_iand B X0 at_3 rfl (v := (i0 &&& (2147483647 : Int32))) rfl ?_
  refine own_bipush B X0 at_4 rfl (v := (7 : Int32)) rfl ?_
  refine own_irem B X0 at_6 rfl (by decide) (v := (6 : Int32)) q0 ?_
  refine own_istoreN B X0 at_7 rfl #[.val (.int i0), .val (.int i1), .val (.int (6 : Int32)), .unset, .unset, .unset, .unset] rfl ?_
  refine own_iloadN B X0 at_8 rfl rfl ?_
  refine own_ldc B X0 at_9 rfl (v := (2147483647 : Int32)) (B.w 0 rfl) ?_
  refine own_iand B X0 at_11 rfl (v := (i1 &&& (2147483647 : Int32))) rfl ?_
  refine own_bipush B X0 at_12 rfl (v := (7 : Int32)) rfl ?_
  refine own_irem B X0 at_14 rfl (by decide) (v := (0 : Int32)) q1 ?_
  refine own_istoreN B X0 at_15 rfl #[.val (.int i0), .val (.int i1), .val (.int (6 : Int32)), .val (.int (0 : Int32)), .unset, .unset, .unset] rfl ?_
  refine own_iloadN B X0 at_16 rfl rfl ?_
  refine own_callS B X0 (c1 l Z a0 hw w0 w1 w2 w3 w4 w5 w6 h0 F (6 : Int32)  w6 (by simp +decide [f1])) e0 at_17 rfl (B.w 1 rfl) (B.w 2 rfl) (B.w 3 rfl) (B.w 4 rfl) (by decide) (W := 0) (by decide) (by decide) rfl [(.int (6 : Int32))] [] pd0 rfl rfl rfl (Nat.le_refl _) (by decide) (by decide) ?_
  rintro T1 _ _ X1 ⟨rfl, rfl, e1⟩
  show Go p e below _ T1 (mkF m 20 _ [(.ref w6)])
  refine own_astore B X1 at_20 rfl rfl #[.val (.int i0), .val (.int i1), .val (.int (6 : Int32)), .val (.int (0 : Int32)), .val (.ref w6), .unset, .unset] rfl ?_
  refine own_iloadN B X1 at_22 rfl rfl ?_
  refine own_callS B X1 (c1 l Z a0 hw w0 w1 w2 w3 w4 w5 w6 h0 F (0 : Int32)  w0 (by simp +decide [f1])) e1 at_23 rfl (B.w 1 rfl) (B.w 2 rfl) (B.w 3 rfl) (B.w 4 rfl) (by decide) (W := 0) (by decide) (by decide) rfl [(.int (0 : Int32))] [] pd0 rfl rfl rfl (Nat.le_refl _) (by decide) (by decide) ?_
  rintro T2 _ _ X2 ⟨rfl, rfl, e2⟩
  show Go p e below _ T2 (mkF m 26 _ [(.ref w0)])
  refine own_astore B X2 at_26 rfl rfl #[.val (.int i0), .val (.int i1), .val (.int (6 : Int32)), .val (.int (0 : Int32)), .val (.ref w6), .val (.ref w0), .unset] rfl ?_
  refine own_iloadN B X2 at_28 rfl rfl ?_
  refine own_callS B X2 (c2 l Z a0 hw w0 w1 w2 w3 w4 w5 w6 h0 F (6 : Int32)  (2 : Int32) (by simp +decide [f2])) e2 at_29 rfl (B.w 10 rfl) (B.w 11 rfl) (B.w 3 rfl) (B.w 12 rfl) (by decide) (W := 0) (by decide) (by decide) rfl [(.int (6 : Int32))] [] pd1 rfl rfl rfl (Nat.le_refl _) (by decide) (by decide) ?_
  rintro T3 _ _ X3 ⟨rfl, rfl, e3⟩
  show Go p e below _ T3 (mkF m 32 _ [(.int (2 : Int32))])
  refine own_iloadN B X3 at_32 rfl rfl ?_
  refine own_callS B X3 (c2 l Z a0 hw w0 w1 w2 w3 w4 w5 w6 h0 F (0 : Int32)  (0 : Int32) (by simp +decide [f2])) e3 at_33 rfl (B.w 10 rfl) (B.w 11 rfl) (B.w 3 rfl) (B.w 12 rfl) (by decide) (W := 1) (by decide) (by decide) rfl [(.int (0 : Int32))] [(.int (2 : Int32))] pd1 rfl rfl rfl (Nat.le_refl _) (by decide) (by decide) ?_
  rintro T4 _ _ X4 ⟨rfl, rfl, e4⟩
  show Go p e below _ T4 (mkF m 36 _ [(.int (0 : Int32)), (.int (2 : Int32))])
  refine own_icmpYes B X4 at_36 (flt (by decide : ¬ ((2 : Int32) < (0 : Int32)))).2.1 (by decide) (pc' := 43) rfl ?_
  refine own_iconst B X4 at_43 rfl (v := (0 : Int32)) rfl ?_
  refine own_istore B X4 at_44 rfl #[.val (.int i0), .val (.int i1), .val (.int (6 : Int32)), .val (.int (0 : Int32)), .val (.ref w6), .val (.ref w0), .val (.int (0 : Int32))] rfl ?_
  refine own_aload B X4 at_46 rfl rfl rfl ?_
  refine own_aload B X4 at_48 rfl rfl rfl ?_
  refine own_callV B X4 (c3 l Z a0 hw w0 w1 w2 w3 w4 w5 w6 h0 F w6 w0 (2 : Int32) (0 : Int32) F.2.2.2.2.2.2.2.2.2.2.2.2.2.2.2.2.2.2.2.2.1 F.2.2.2.2.2.2.2.2.2.2.2.2.2.2.1 (0 : Int32) (by simp +decide [f3])) e4 F.2.2.2.2.2.2.2.2.2.2.2.2.2.1 (own_nf B (B.w 16 rfl)) at_50 rfl (B.w 13 rfl) (B.w 14 rfl) (B.w 16 rfl) (B.w 15 rfl) (B.w 6 rfl) (B.w 17 rfl) (by decide) (W := 0) (by decide) (by decide) rfl [(.ref w0)] [] pd2 rfl rfl rfl (Nat.le_refl _) (by decide) (by decide) ?_
  rintro T5 _ _ X5 ⟨rfl, rfl, e5⟩
  show Go p e below _ T5 (mkF m 53 _ [(.int (0 : Int32))])
  refine own_iload B X5 at_53 rfl rfl ?_
  refine own_icmpNo B X5 at_55 (teq (rfl : (0 : Int32) = (0 : Int32))).2 rfl ?_
  refine own_iconst B X5 at_58 rfl (v := (1 : Int32)) rfl ?_
  refine own_goto B X5 at_59 (by decide) (pc' := 63) rfl ?_
  exact own_retInt B X5 at_63 rfl (Or.inr (Or.inl rfl)) ⟨rfl, (Fr.app (Fr.app (Fr.app (Fr.app (Fr.app (Fr.nil n0) (Fr.nil _)) (Fr.nil _)) (Fr.nil _)) (Fr.nil _)) (Fr.nil _))⟩ (by decide) (by decide)
set_option maxRecDepth 65536 in
set_option maxHeartbeats 4000000 in
theorem law_6_1 (l : Launch) (Z : State) (a0 : Array Value) (hw : ∀ d ∈ tables_1, d.before a0 Z = true) (w0 w1 w2 w3 w4 w5 w6 : Addr) (h0 : Heap) (F : Facts Z h0 w0 w1 w2 w3 w4 w5 w6) (i0 i1 : Int32) (n0 : Nat) (Z0 : n0 ≤ h0.size) (q0 : ((i0 &&& (2147483647 : Int32)) % (7 : Int32)) = (6 : Int32)) (q1 : ((i1 &&& (2147483647 : Int32)) % (7 : Int32)) = (1 : Int32)) :
    Con l Z x code maxLocals ret tables_1 room_1 #[(.int i0), (.int i1)] h0 (Q0 n0) := by
  refine own_body (plainFor_of_name pnL) hw ?_
  intro p e s m below meth c T0 B X0 e0 hnm
  refine Go.cast (ef0 m i0 i1) ?_
  refine own_iloadN B X0 at_0 rfl rfl ?_
  refine own_ldc B X0 at_1 rfl (v := (2147483647 : Int32)) (B.w 0 rfl) ?_
  refine own_iand B X0 at_3 rfl (v := (i0 &&& (2147483647 : Int32))) rfl ?_
  refine own_bipush B X0 at_4 rfl (v := (7 : Int32)) rfl ?_
  refine own_irem B X0 at_6 rfl (by decide) (v := (6 : Int32)) q0 ?_
  refine own_istoreN B X0 at_7 rfl #[.val (.int i0), .val (.int i1), .val (.int (6 : Int32)), .unset, .unset, .unset, .unset] rfl ?_
  refine own_iloadN B X0 at_8 rfl rfl ?_
  refine own_ldc B X0 at_9 rfl (v := (2147483647 : Int32)) (B.w 0 rfl) ?_
  refine own_iand B X0 at_11 rfl (v := (i1 &&& (2147483647 : Int32))) rfl ?_
  refine own_bipush B X0 at_12 rfl (v := (7 : Int32)) rfl ?_
  refine own_irem B X0 at_14 rfl (by decide) (v := (1 : Int32)) q1 ?_
  refine own_istoreN B X0 at_15 rfl #[.val (.int i0), .val (.int i1), .val (.int (6 : Int32)), .val (.int (1 : Int32)), .unset, .unset, .unset] rfl ?_
  refine own_iloadN B X0 at_16 rfl rfl ?_
  refine own_callS B X0 (c1 l Z a0 hw w0 w1 w2 w3 w4 w5 w6 h0 F (6 : Int32)  w6 (by simp +decide [f1])) e0 at_17 rfl (B.w 1 rfl) (B.w 2 rfl) (B.w 3 rfl) (B.w 4 rfl) (by decide) (W := 0) (by decide) (by decide) rfl [(.int (6 : Int32))] [] pd0 rfl rfl rfl (Nat.le_refl _) (by decide) (by decide) ?_
  rintro T1 _ _ X1 ⟨rfl, rfl, e1⟩
  show Go p e below _ T1 (mkF m 20 _ [(.ref w6)])
  refine own_astore B X1 at_20 rfl rfl #[.val (.int i0), .val (.int i1), .val (.int (6 : Int32)), .val (.int (1 : Int32)), .val (.ref w6), .unset, .unset] rfl ?_
  refine own_iloadN B X1 at_22 rfl rfl ?_
  refine own_callS B X1 (c1 l Z a0 hw w0 w1 w2 w3 w4 w5 w6 h0 F (1 : Int32)  w2 (by simp +decide [f1])) e1 at_23 rfl (B.w 1 rfl) (B.w 2 rfl) (B.w 3 rfl) (B.w 4 rfl) (by decide) (W := 0) (by decide) (by decide) rfl [(.int (1 : Int32))] [] pd0 rfl rfl rfl (Nat.le_refl _) (by decide) (by decide) ?_
  rintro T2 _ _ X2 ⟨rfl, rfl, e2⟩
  show Go p e below _ T2 (mkF m 26 _ [(.ref w2)])
  refine own_astore B X2 at_26 rfl rfl #[.val (.int i0), .val (.int i1), .val (.int (6 : Int32)), .val (.int (1 : Int32)), .val (.ref w6), .val (.ref w2), .unset] rfl ?_
  refine own_iloadN B X2 at_28 rfl rfl ?_
  refine own_callS B X2 (c2 l Z a0 hw w0 w1 w2 w3 w4 w5 w6 h0 F (6 : Int32)  (2 : Int32) (by simp +decide [f2])) e2 at_29 rfl (B.w 10 rfl) (B.w 11 rfl) (B.w 3 rfl) (B.w 12 rfl) (by decide) (W := 0) (by decide) (by decide) rfl [(.int (6 : Int32))] [] pd1 rfl rfl rfl (Nat.le_refl _) (by decide) (by decide) ?_
  rintro T3 _ _ X3 ⟨rfl, rfl, e3⟩
  show Go p e below _ T3 (mkF m 32 _ [(.int (2 : Int32))])
  refine own_iloadN B X3 at_32 rfl rfl ?_
  refine own_callS B X3 (c2 l Z a0 hw w0 w1 w2 w3 w4 w5 w6 h0 F (1 : Int32)  (0 : Int32) (by simp +decide [f2])) e3 at_33 rfl (B.w 10 rfl) (B.w 11 rfl) (B.w 3 rfl) (B.w 12 rfl) (by decide) (W := 1) (by decide) (by decide) rfl [(.int (1 : Int32))] [(.int (2 : Int32))] pd1 rfl rfl rfl (Nat.le_refl _) (by decide) (by decide) ?_
  rintro T4 _ _ X4 ⟨rfl, rfl, e4⟩
  show Go p e below _ T4 (mkF m 36 _ [(.int (0 : Int32)), (.int (2 : Int32))])
  refine own_icmpYes B X4 at_36 (flt (by decide : ¬ ((2 : Int32) < (0 : Int32)))).2.1 (by decide) (pc' := 43) rfl ?_
  refine own_iconst B X4 at_43 rfl (v := (0 : Int32)) rfl ?_
  refine own_istore B X4 at_44 rfl #[.val (.int i0), .val (.int i1), .val (.int (6 : Int32)), .val (.int (1 : Int32)), .val (.ref w6), .val (.ref w2), .val (.int (0 : Int32))] rfl ?_
  refine own_aload B X4 at_46 rfl rfl rfl ?_
  refine own_aload B X4 at_48 rfl rfl rfl ?_
  refine own_callV B X4 (c3 l Z a0 hw w0 w1 w2 w3 w4 w5 w6 h0 F w6 w2 (2 : Int32) (0 : Int32) F.2.2.2.2.2.2.2.2.2.2.2.2.2.2.2.2.2.2.2.2.1 F.2.2.2.2.2.2.2.2.2.2.2.2.2.2.2.2.1 (0 : Int32) (by simp +decide [f3])) e4 F.2.2.2.2.2.2.2.2.2.2.2.2.2.1 (own_nf B (B.w 16 rfl)) at_50 rfl (B.w 13 rfl) (B.w 14 rfl) (B.w 16 rfl) (B.w 15 rfl) (B.w 6 rfl) (B.w 17 rfl) (by decide) (W := 0) (by decide) (by decide) rfl [(.ref w2)] [] pd2 rfl rfl rfl (Nat.le_refl _) (by decide) (by decide) ?_
  rintro T5 _ _ X5 ⟨rfl, rfl, e5⟩
  show Go p e below _ T5 (mkF m 53 _ [(.int (0 : Int32))])
  refine own_iload B X5 at_53 rfl rfl ?_
  refine own_icmpNo B X5 at_55 (teq (rfl : (0 : Int32) = (0 : Int32))).2 rfl ?_
  refine own_iconst B X5 at_58 rfl (v := (1 : Int32)) rfl ?_
  refine own_goto B X5 at_59 (by decide) (pc' := 63) rfl ?_
  exact own_retInt B X5 at_63 rfl (Or.inr (Or.inl rfl)) ⟨rfl, (Fr.app (Fr.app (Fr.app (Fr.app (Fr.app (Fr.nil n0) (Fr.nil _)) (Fr.nil _)) (Fr.nil _)) (Fr.nil _)) (Fr.nil _))⟩ (by decide) (by decide)
set_option maxRecDepth 65536 in
set_option maxHeartbeats 4000000 in
theorem law_6_2 (l : Launch) (Z : State) (a0 : Array Value) (hw : ∀ d ∈ tables_1, d.before a0 Z = true) (w0 w1 w2 w3 w4 w5 w6 : Addr) (h0 : Heap) (F : Facts Z h0 w0 w1 w2 w3 w4 w5 w6) (i0 i1 : Int32) (n0 : Nat) (Z0 : n0 ≤ h0.size) (q0 : ((i0 &&& (2147483647 : Int32)) % (7 : Int32)) = (6 : Int32)) (q1 : ((i1 &&& (2147483647 : Int32)) % (7 : Int32)) = (2 : Int32)) :
    Con l Z x code maxLocals ret tables_1 room_1 #[(.int i0), (.int i1)] h0 (Q0 n0) := by
  refine own_body (plainFor_of_name pnL) hw ?_
  intro p e s m below meth c T0 B X0 e0 hnm
  refine Go.cast (ef0 m i0 i1) ?_
  refine own_iloadN B X0 at_0 rfl rfl ?_
  refine own_ldc B X0 at_1 rfl (v := (2147483647 : Int32)) (B.w 0 rfl) ?_
  refine own_iand B X0 at_3 rfl (v := (i0 &&& (2147483647 : Int32))) rfl ?_
  refine own_bipush B X0 at_4 rfl (v := (7 : Int32)) rfl ?_
  refine own_irem B X0 at_6 rfl (by decide) (v := (6 : Int32)) q0 ?_
  refine own_istoreN B X0 at_7 rfl #[.val (.int i0), .val (.int i1), .val (.int (6 : Int32)), .unset, .unset, .unset, .unset] rfl ?_
  refine own_iloadN B X0 at_8 rfl rfl ?_
  refine own_ldc B X0 at_9 rfl (v := (2147483647 : Int32)) (B.w 0 rfl) ?_
  refine own_iand B X0 at_11 rfl (v := (i1 &&& (2147483647 : Int32))) rfl ?_
  refine own_bipush B X0 at_12 rfl (v := (7 : Int32)) rfl ?_
  refine own_irem B X0 at_14 rfl (by decide) (v := (2 : Int32)) q1 ?_
  refine own_istoreN B X0 at_15 rfl #[.val (.int i0), .val (.int i1), .val (.int (6 : Int32)), .val (.int (2 : Int32)), .unset, .unset, .unset] rfl ?_
  refine own_iloadN B X0 at_16 rfl rfl ?_
  refine own_callS B X0 (c1 l Z a0 hw w0 w1 w2 w3 w4 w5 w6 h0 F (6 : Int32)  w6 (by simp +decide [f1])) e0 at_17 rfl (B.w 1 rfl) (B.w 2 rfl) (B.w 3 rfl) (B.w 4 rfl) (by decide) (W := 0) (by decide) (by decide) rfl [(.int (6 : Int32))] [] pd0 rfl rfl rfl (Nat.le_refl _) (by decide) (by decide) ?_
  rintro T1 _ _ X1 ⟨rfl, rfl, e1⟩
  show Go p e below _ T1 (mkF m 20 _ [(.ref w6)])
  refine own_astore B X1 at_20 rfl rfl #[.val (.int i0), .val (.int i1), .val (.int (6 : Int32)), .val (.int (2 : Int32)), .val (.ref w6), .unset, .unset] rfl ?_
  refine own_iloadN B X1 at_22 rfl rfl ?_
  refine own_callS B X1 (c1 l Z a0 hw w0 w1 w2 w3 w4 w5 w6 h0 F (2 : Int32)  w4 (by simp +decide [f1])) e1 at_23 rfl (B.w 1 rfl) (B.w 2 rfl) (B.w 3 rfl) (B.w 4 rfl) (by decide) (W := 0) (by decide) (by decide) rfl [(.int (2 : Int32))] [] pd0 rfl rfl rfl (Nat.le_refl _) (by decide) (by decide) ?_
  rintro T2 _ _ X2 ⟨rfl, rfl, e2⟩
  show Go p e below _ T2 (mkF m 26 _ [(.ref w4)])
  refine own_astore B X2 at_26 rfl rfl #[.val (.int i0), .val (.int i1), .val (.int (6 : Int32)), .val (.int (2 : Int32)), .val (.ref w6), .val (.ref w4), .unset] rfl ?_
  refine own_iloadN B X2 at_28 rfl rfl ?_
  refine own_callS B X2 (c2 l Z a0 hw w0 w1 w2 w3 w4 w5 w6 h0 F (6 : Int32)  (2 : Int32) (by simp +decide [f2])) e2 at_29 rfl (B.w 10 rfl) (B.w 11 rfl) (B.w 3 rfl) (B.w 12 rfl) (by decide) (W := 0) (by decide) (by decide) rfl [(.int (6 : Int32))] [] pd1 rfl rfl rfl (Nat.le_refl _) (by decide) (by decide) ?_
  rintro T3 _ _ X3 ⟨rfl, rfl, e3⟩
  show Go p e below _ T3 (mkF m 32 _ [(.int (2 : Int32))])
  refine own_iloadN B X3 at_32 rfl rfl ?_
  refine own_callS B X3 (c2 l Z a0 hw w0 w1 w2 w3 w4 w5 w6 h0 F (2 : Int32)  (0 : Int32) (by simp +decide [f2])) e3 at_33 rfl (B.w 10 rfl) (B.w 11 rfl) (B.w 3 rfl) (B.w 12 rfl) (by decide) (W := 1) (by decide) (by decide) rfl [(.int (2 : Int32))] [(.int (2 : Int32))] pd1 rfl rfl rfl (Nat.le_refl _) (by decide) (by decide) ?_
  rintro T4 _ _ X4 ⟨rfl, rfl, e4⟩
  show Go p e below _ T4 (mkF m 36 _ [(.int (0 : Int32)), (.int (2 : Int32))])
  refine own_icmpYes B X4 at_36 (flt (by decide : ¬ ((2 : Int32) < (0 : Int32)))).2.1 (by decide) (pc' := 43) rfl ?_
  refine own_iconst B X4 at_43 rfl (v := (0 : Int32)) rfl ?_
  refine own_istore B X4 at_44 rfl #[.val (.int i0), .val (.int i1), .val (.int (6 : Int32)), .val (.int (2 : Int32)), .val (.ref w6), .val (.ref w4), .val (.int (0 : Int32))] rfl ?_
  refine own_aload B X4 at_46 rfl rfl rfl ?_
  refine own_aload B X4 at_48 rfl rfl rfl ?_
  refine own_callV B X4 (c3 l Z a0 hw w0 w1 w2 w3 w4 w5 w6 h0 F w6 w4 (2 : Int32) (0 : Int32) F.2.2.2.2.2.2.2.2.2.2.2.2.2.2.2.2.2.2.2.2.1 F.2.2.2.2.2.2.2.2.2.2.2.2.2.2.2.2.2.2.1 (0 : Int32) (by simp +decide [f3])) e4 F.2.2.2.2.2.2.2.2.2.2.2.2.2.1 (own_nf B (B.w 16 rfl)) at_50 rfl (B.w 13 rfl) (B.w 14 rfl) (B.w 16 rfl) (B.w 15 rfl) (B.w 6 rfl) (B.w 17 rfl) (by decide) (W := 0) (by decide) (by decide) rfl [(.ref w4)] [] pd2 rfl rfl rfl (Nat.le_refl _) (by decide) (by decide) ?_
  rintro T5 _ _ X5 ⟨rfl, rfl, e5⟩
  show Go p e below _ T5 (mkF m 53 _ [(.int (0 : Int32))])
  refine own_iload B X5 at_53 rfl rfl ?_
  refine own_icmpNo B X5 at_55 (teq (rfl : (0 : Int32) = (0 : Int32))).2 rfl ?_
  refine own_iconst B X5 at_58 rfl (v := (1 : Int32)) rfl ?_
  refine own_goto B X5 at_59 (by decide) (pc' := 63) rfl ?_
  exact own_retInt B X5 at_63 rfl (Or.inr (Or.inl rfl)) ⟨rfl, (Fr.app (Fr.app (Fr.app (Fr.app (Fr.app (Fr.nil n0) (Fr.nil _)) (Fr.nil _)) (Fr.nil _)) (Fr.nil _)) (Fr.nil _))⟩ (by decide) (by decide)
set_option maxRecDepth 65536 in
set_option maxHeartbeats 4000000 in
theorem law_6_3 (l : Launch) (Z : State) (a0 : Array Value) (hw : ∀ d ∈ tables_1, d.before a0 Z = true) (w0 w1 w2 w3 w4 w5 w6 : Addr) (h0 : Heap) (F : Facts Z h0 w0 w1 w2 w3 w4 w5 w6) (i0 i1 : Int32) (n0 : Nat) (Z0 : n0 ≤ h0.size) (q0 : ((i0 &&& (2147483647 : Int32)) % (7 : Int32)) = (6 : Int32)) (q1 : ((i1 &&& (2147483647 : Int32)) % (7 : Int32)) = (3 : Int32)) :
    Con l Z x code maxLocals ret tables_1 room_1 #[(.int i0), (.int i1)] h0 (Q0 n0) := by
  refine own_body (plainFor_of_name pnL) hw ?_
  intro p e s m below meth c T0 B X0 e0 hnm
  refine Go.cast (ef0 m i0 i1) ?_
  refine own_iloadN B X0 at_0 rfl rfl ?_
  refine own_ldc B X0 at_1 rfl (v := (2147483647 : Int32)) (B.w 0 rfl) ?_
  refine own_iand B X0 at_3 rfl (v := (i0 &&& (2147483647 : Int32))) rfl ?_
  refine own_bipush B X0 at_4 rfl (v := (7 : Int32)) rfl ?_
  refine own_irem B X0 at_6 rfl (by decide) (v := (6 : Int32)) q0 ?_
  refine own_istoreN B X0 at_7 rfl #[.val (.int i0), .val (.int i1), .val (.int (6 : Int32)), .unset, .unset, .unset, .unset] rfl ?_
  refine own_iloadN B X0 at_8 rfl rfl ?_
  refine own_ldc B X0 at_9 rfl (v := (2147483647 : Int32)) (B.w 0 rfl) ?_
  refine own_iand B X0 at_11 rfl (v := (i1 &&& (2147483647 : Int32))) rfl ?_
  refine own_bipush B X0 at_12 rfl (v := (7 : Int32)) rfl ?_
  refine own_irem B X0 at_14 rfl (by decide) (v := (3 : Int32)) q1 ?_
  refine own_istoreN B X0 at_15 rfl #[.val (.int i0), .val (.int i1), .val (.int (6 : Int32)), .val (.int (3 : Int32)), .unset, .unset, .unset] rfl ?_
  refine own_iloadN B X0 at_16 rfl rfl ?_
  refine own_callS B X0 (c1 l Z a0 hw w0 w1 w2 w3 w4 w5 w6 h0 F (6 : Int32)  w6 (by simp +decide [f1])) e0 at_17 rfl (B.w 1 rfl) (B.w 2 rfl) (B.w 3 rfl) (B.w 4 rfl) (by decide) (W := 0) (by decide) (by decide) rfl [(.int (6 : Int32))] [] pd0 rfl rfl rfl (Nat.le_refl _) (by decide) (by decide) ?_
  rintro T1 _ _ X1 ⟨rfl, rfl, e1⟩
  show Go p e below _ T1 (mkF m 20 _ [(.ref w6)])
  refine own_astore B X1 at_20 rfl rfl #[.val (.int i0), .val (.int i1), .val (.int (6 : Int32)), .val (.int (3 : Int32)), .val (.ref w6), .unset, .unset] rfl ?_
  refine own_iloadN B X1 at_22 rfl rfl ?_
  refine own_callS B X1 (c1 l Z a0 hw w0 w1 w2 w3 w4 w5 w6 h0 F (3 : Int32)  w1 (by simp +decide [f1])) e1 at_23 rfl (B.w 1 rfl) (B.w 2 rfl) (B.w 3 rfl) (B.w 4 rfl) (by decide) (W := 0) (by decide) (by decide) rfl [(.int (3 : Int32))] [] pd0 rfl rfl rfl (Nat.le_refl _) (by decide) (by decide) ?_
  rintro T2 _ _ X2 ⟨rfl, rfl, e2⟩
  show Go p e below _ T2 (mkF m 26 _ [(.ref w1)])
  refine own_astore B X2 at_26 rfl rfl #[.val (.int i0), .val (.int i1), .val (.int (6 : Int32)), .val (.int (3 : Int32)), .val (.ref w6), .val (.ref w1), .unset] rfl ?_
  refine own_iloadN B X2 at_28 rfl rfl ?_
  refine own_callS B X2 (c2 l Z a0 hw w0 w1 w2 w3 w4 w5 w6 h0 F (6 : Int32)  (2 : Int32) (by simp +decide [f2])) e2 at_29 rfl (B.w 10 rfl) (B.w 11 rfl) (B.w 3 rfl) (B.w 12 rfl) (by decide) (W := 0) (by decide) (by decide) rfl [(.int (6 : Int32))] [] pd1 rfl rfl rfl (Nat.le_refl _) (by decide) (by decide) ?_
  rintro T3 _ _ X3 ⟨rfl, rfl, e3⟩
  show Go p e below _ T3 (mkF m 32 _ [(.int (2 : Int32))])
  refine own_iloadN B X3 at_32 rfl rfl ?_
  refine own_callS B X3 (c2 l Z a0 hw w0 w1 w2 w3 w4 w5 w6 h0 F (3 : Int32)  (0 : Int32) (by simp +decide [f2])) e3 at_33 rfl (B.w 10 rfl) (B.w 11 rfl) (B.w 3 rfl) (B.w 12 rfl) (by decide) (W := 1) (by decide) (by decide) rfl [(.int (3 : Int32))] [(.int (2 : Int32))] pd1 rfl rfl rfl (Nat.le_refl _) (by decide) (by decide) ?_
  rintro T4 _ _ X4 ⟨rfl, rfl, e4⟩
  show Go p e below _ T4 (mkF m 36 _ [(.int (0 : Int32)), (.int (2 : Int32))])
  refine own_icmpYes B X4 at_36 (flt (by decide : ¬ ((2 : Int32) < (0 : Int32)))).2.1 (by decide) (pc' := 43) rfl ?_
  refine own_iconst B X4 at_43 rfl (v := (0 : Int32)) rfl ?_
  refine own_istore B X4 at_44 rfl #[.val (.int i0), .val (.int i1), .val (.int (6 : Int32)), .val (.int (3 : Int32)), .val (.ref w6), .val (.ref w1), .val (.int (0 : Int32))] rfl ?_
  refine own_aload B X4 at_46 rfl rfl rfl ?_
  refine own_aload B X4 at_48 rfl rfl rfl ?_
  refine own_callV B X4 (c3 l Z a0 hw w0 w1 w2 w3 w4 w5 w6 h0 F w6 w1 (2 : Int32) (0 : Int32) F.2.2.2.2.2.2.2.2.2.2.2.2.2.2.2.2.2.2.2.2.1 F.2.2.2.2.2.2.2.2.2.2.2.2.2.2.2.1 (0 : Int32) (by simp +decide [f3])) e4 F.2.2.2.2.2.2.2.2.2.2.2.2.2.1 (own_nf B (B.w 16 rfl)) at_50 rfl (B.w 13 rfl) (B.w 14 rfl) (B.w 16 rfl) (B.w 15 rfl) (B.w 6 rfl) (B.w 17 rfl) (by decide) (W := 0) (by decide) (by decide) rfl [(.ref w1)] [] pd2 rfl rfl rfl (Nat.le_refl _) (by decide) (by decide) ?_
  rintro T5 _ _ X5 ⟨rfl, rfl, e5⟩
  show Go p e below _ T5 (mkF m 53 _ [(.int (0 : Int32))])
  refine own_iload B X5 at_53 rfl rfl ?_
  refine own_icmpNo B X5 at_55 (teq (rfl : (0 : Int32) = (0 : Int32))).2 rfl ?_
  refine own_iconst B X5 at_58 rfl (v := (1 : Int32)) rfl ?_
  refine own_goto B X5 at_59 (by decide) (pc' := 63) rfl ?_
  exact own_retInt B X5 at_63 rfl (Or.inr (Or.inl rfl)) ⟨rfl, (Fr.app (Fr.app (Fr.app (Fr.app (Fr.app (Fr.nil n0) (Fr.nil _)) (Fr.nil _)) (Fr.nil _)) (Fr.nil _)) (Fr.nil _))⟩ (by decide) (by decide)
set_option maxRecDepth 65536 in
set_option maxHeartbeats 4000000 in
theorem law_6_4 (l : Launch) (Z : State) (a0 : Array Value) (hw : ∀ d ∈ tables_1, d.before a0 Z = true) (w0 w1 w2 w3 w4 w5 w6 : Addr) (h0 : Heap) (F : Facts Z h0 w0 w1 w2 w3 w4 w5 w6) (i0 i1 : Int32) (n0 : Nat) (Z0 : n0 ≤ h0.size) (q0 : ((i0 &&& (2147483647 : Int32)) % (7 : Int32)) = (6 : Int32)) (q1 : ((i1 &&& (2147483647 : Int32)) % (7 : Int32)) = (4 : Int32)) :
    Con l Z x code maxLocals ret tables_1 room_1 #[(.int i0), (.int i1)] h0 (Q0 n0) := by
  refine own_body (plainFor_of_name pnL) hw ?_
  intro p e s m below meth c T0 B X0 e0 hnm
  refine Go.cast (ef0 m i0 i1) ?_
  refine own_iloadN B X0 at_0 rfl rfl ?_
  refine own_ldc B X0 at_1 rfl (v := (2147483647 : Int32)) (B.w 0 rfl) ?_
  refine own_iand B X0 at_3 rfl (v := (i0 &&& (2147483647 : Int32))) rfl ?_
  refine own_bipush B X0 at_4 rfl (v := (7 : Int32)) rfl ?_
  refine own_irem B X0 at_6 rfl (by decide) (v := (6 : Int32)) q0 ?_
  refine own_istoreN B X0 at_7 rfl #[.val (.int i0), .val (.int i1), .val (.int (6 : Int32)), .unset, .unset, .unset, .unset] rfl ?_
  refine own_iloadN B X0 at_8 rfl rfl ?_
  refine own_ldc B X0 at_9 rfl (v := (2147483647 : Int32)) (B.w 0 rfl) ?_
  refine own_iand B X0 at_11 rfl (v := (i1 &&& (2147483647 : Int32))) rfl ?_
  refine own_bipush B X0 at_12 rfl (v := (7 : Int32)) rfl ?_
  refine own_irem B X0 at_14 rfl (by decide) (v := (4 : Int32)) q1 ?_
  refine own_istoreN B X0 at_15 rfl #[.val (.int i0), .val (.int i1), .val (.int (6 : Int32)), .val (.int (4 : Int32)), .unset, .unset, .unset] rfl ?_
  refine own_iloadN B X0 at_16 rfl rfl ?_
  refine own_callS B X0 (c1 l Z a0 hw w0 w1 w2 w3 w4 w5 w6 h0 F (6 : Int32)  w6 (by simp +decide [f1])) e0 at_17 rfl (B.w 1 rfl) (B.w 2 rfl) (B.w 3 rfl) (B.w 4 rfl) (by decide) (W := 0) (by decide) (by decide) rfl [(.int (6 : Int32))] [] pd0 rfl rfl rfl (Nat.le_refl _) (by decide) (by decide) ?_
  rintro T1 _ _ X1 ⟨rfl, rfl, e1⟩
  show Go p e below _ T1 (mkF m 20 _ [(.ref w6)])
  refine own_astore B X1 at_20 rfl rfl #[.val (.int i0), .val (.int i1), .val (.int (6 : Int32)), .val (.int (4 : Int32)), .val (.ref w6), .unset, .unset] rfl ?_
  refine own_iloadN B X1 at_22 rfl rfl ?_
  refine own_callS B X1 (c1 l Z a0 hw w0 w1 w2 w3 w4 w5 w6 h0 F (4 : Int32)  w5 (by simp +decide [f1])) e1 at_23 rfl (B.w 1 rfl) (B.w 2 rfl) (B.w 3 rfl) (B.w 4 rfl) (by decide) (W := 0) (by decide) (by decide) rfl [(.int (4 : Int32))] [] pd0 rfl rfl rfl (Nat.le_refl _) (by decide) (by decide) ?_
  rintro T2 _ _ X2 ⟨rfl, rfl, e2⟩
  show Go p e below _ T2 (mkF m 26 _ [(.ref w5)])
  refine own_astore B X2 at_26 rfl rfl #[.val (.int i0), .val (.int i1), .val (.int (6 : Int32)), .val (.int (4 : Int32)), .val (.ref w6), .val (.ref w5), .unset] rfl ?_
  refine own_iloadN B X2 at_28 rfl rfl ?_
  refine own_callS B X2 (c2 l Z a0 hw w0 w1 w2 w3 w4 w5 w6 h0 F (6 : Int32)  (2 : Int32) (by simp +decide [f2])) e2 at_29 rfl (B.w 10 rfl) (B.w 11 rfl) (B.w 3 rfl) (B.w 12 rfl) (by decide) (W := 0) (by decide) (by decide) rfl [(.int (6 : Int32))] [] pd1 rfl rfl rfl (Nat.le_refl _) (by decide) (by decide) ?_
  rintro T3 _ _ X3 ⟨rfl, rfl, e3⟩
  show Go p e below _ T3 (mkF m 32 _ [(.int (2 : Int32))])
  refine own_iloadN B X3 at_32 rfl rfl ?_
  refine own_callS B X3 (c2 l Z a0 hw w0 w1 w2 w3 w4 w5 w6 h0 F (4 : Int32)  (1 : Int32) (by simp +decide [f2])) e3 at_33 rfl (B.w 10 rfl) (B.w 11 rfl) (B.w 3 rfl) (B.w 12 rfl) (by decide) (W := 1) (by decide) (by decide) rfl [(.int (4 : Int32))] [(.int (2 : Int32))] pd1 rfl rfl rfl (Nat.le_refl _) (by decide) (by decide) ?_
  rintro T4 _ _ X4 ⟨rfl, rfl, e4⟩
  show Go p e below _ T4 (mkF m 36 _ [(.int (1 : Int32)), (.int (2 : Int32))])
  refine own_icmpYes B X4 at_36 (flt (by decide : ¬ ((2 : Int32) < (1 : Int32)))).2.1 (by decide) (pc' := 43) rfl ?_
  refine own_iconst B X4 at_43 rfl (v := (0 : Int32)) rfl ?_
  refine own_istore B X4 at_44 rfl #[.val (.int i0), .val (.int i1), .val (.int (6 : Int32)), .val (.int (4 : Int32)), .val (.ref w6), .val (.ref w5), .val (.int (0 : Int32))] rfl ?_
  refine own_aload B X4 at_46 rfl rfl rfl ?_
  refine own_aload B X4 at_48 rfl rfl rfl ?_
  refine own_callV B X4 (c3 l Z a0 hw w0 w1 w2 w3 w4 w5 w6 h0 F w6 w5 (2 : Int32) (1 : Int32) F.2.2.2.2.2.2.2.2.2.2.2.2.2.2.2.2.2.2.2.2.1 F.2.2.2.2.2.2.2.2.2.2.2.2.2.2.2.2.2.2.2.1 (0 : Int32) (by simp +decide [f3])) e4 F.2.2.2.2.2.2.2.2.2.2.2.2.2.1 (own_nf B (B.w 16 rfl)) at_50 rfl (B.w 13 rfl) (B.w 14 rfl) (B.w 16 rfl) (B.w 15 rfl) (B.w 6 rfl) (B.w 17 rfl) (by decide) (W := 0) (by decide) (by decide) rfl [(.ref w5)] [] pd2 rfl rfl rfl (Nat.le_refl _) (by decide) (by decide) ?_
  rintro T5 _ _ X5 ⟨rfl, rfl, e5⟩
  show Go p e below _ T5 (mkF m 53 _ [(.int (0 : Int32))])
  refine own_iload B X5 at_53 rfl rfl ?_
  refine own_icmpNo B X5 at_55 (teq (rfl : (0 : Int32) = (0 : Int32))).2 rfl ?_
  refine own_iconst B X5 at_58 rfl (v := (1 : Int32)) rfl ?_
  refine own_goto B X5 at_59 (by decide) (pc' := 63) rfl ?_
  exact own_retInt B X5 at_63 rfl (Or.inr (Or.inl rfl)) ⟨rfl, (Fr.app (Fr.app (Fr.app (Fr.app (Fr.app (Fr.nil n0) (Fr.nil _)) (Fr.nil _)) (Fr.nil _)) (Fr.nil _)) (Fr.nil _))⟩ (by decide) (by decide)
set_option maxRecDepth 65536 in
set_option maxHeartbeats 4000000 in
theorem law_6_5 (l : Launch) (Z : State) (a0 : Array Value) (hw : ∀ d ∈ tables_1, d.before a0 Z = true) (w0 w1 w2 w3 w4 w5 w6 : Addr) (h0 : Heap) (F : Facts Z h0 w0 w1 w2 w3 w4 w5 w6) (i0 i1 : Int32) (n0 : Nat) (Z0 : n0 ≤ h0.size) (q0 : ((i0 &&& (2147483647 : Int32)) % (7 : Int32)) = (6 : Int32)) (q1 : ((i1 &&& (2147483647 : Int32)) % (7 : Int32)) = (5 : Int32)) :
    Con l Z x code maxLocals ret tables_1 room_1 #[(.int i0), (.int i1)] h0 (Q0 n0) := by
  refine own_body (plainFor_of_name pnL) hw ?_
  intro p e s m below meth c T0 B X0 e0 hnm
  refine Go.cast (ef0 m i0 i1) ?_
  refine own_iloadN B X0 at_0 rfl rfl ?_
  refine own_ldc B X0 at_1 rfl (v := (2147483647 : Int32)) (B.w 0 rfl) ?_
  refine own_iand B X0 at_3 rfl (v := (i0 &&& (2147483647 : Int32))) rfl ?_
  refine own_bipush B X0 at_4 rfl (v := (7 : Int32)) rfl ?_
  refine own_irem B X0 at_6 rfl (by decide) (v := (6 : Int32)) q0 ?_
  refine own_istoreN B X0 at_7 rfl #[.val (.int i0), .val (.int i1), .val (.int (6 : Int32)), .unset, .unset, .unset, .unset] rfl ?_
  refine own_iloadN B X0 at_8 rfl rfl ?_
  refine own_ldc B X0 at_9 rfl (v := (2147483647 : Int32)) (B.w 0 rfl) ?_
  refine own_iand B X0 at_11 rfl (v := (i1 &&& (2147483647 : Int32))) rfl ?_
  refine own_bipush B X0 at_12 rfl (v := (7 : Int32)) rfl ?_
  refine own_irem B X0 at_14 rfl (by decide) (v := (5 : Int32)) q1 ?_
  refine own_istoreN B X0 at_15 rfl #[.val (.int i0), .val (.int i1), .val (.int (6 : Int32)), .val (.int (5 : Int32)), .unset, .unset, .unset] rfl ?_
  refine own_iloadN B X0 at_16 rfl rfl ?_
  refine own_callS B X0 (c1 l Z a0 hw w0 w1 w2 w3 w4 w5 w6 h0 F (6 : Int32)  w6 (by simp +decide [f1])) e0 at_17 rfl (B.w 1 rfl) (B.w 2 rfl) (B.w 3 rfl) (B.w 4 rfl) (by decide) (W := 0) (by decide) (by decide) rfl [(.int (6 : Int32))] [] pd0 rfl rfl rfl (Nat.le_refl _) (by decide) (by decide) ?_
  rintro T1 _ _ X1 ⟨rfl, rfl, e1⟩
  show Go p e below _ T1 (mkF m 20 _ [(.ref w6)])
  refine own_astore B X1 at_20 rfl rfl #[.val (.int i0), .val (.int i1), .val (.int (6 : Int32)), .val (.int (5 : Int32)), .val (.ref w6), .unset, .unset] rfl ?_
  refine own_iloadN B X1 at_22 rfl rfl ?_
  refine own_callS B X1 (c1 l Z a0 hw w0 w1 w2 w3 w4 w5 w6 h0 F (5 : Int32)  w3 (by simp +decide [f1])) e1 at_23 rfl (B.w 1 rfl) (B.w 2 rfl) (B.w 3 rfl) (B.w 4 rfl) (by decide) (W := 0) (by decide) (by decide) rfl [(.int (5 : Int32))] [] pd0 rfl rfl rfl (Nat.le_refl _) (by decide) (by decide) ?_
  rintro T2 _ _ X2 ⟨rfl, rfl, e2⟩
  show Go p e below _ T2 (mkF m 26 _ [(.ref w3)])
  refine own_astore B X2 at_26 rfl rfl #[.val (.int i0), .val (.int i1), .val (.int (6 : Int32)), .val (.int (5 : Int32)), .val (.ref w6), .val (.ref w3), .unset] rfl ?_
  refine own_iloadN B X2 at_28 rfl rfl ?_
  refine own_callS B X2 (c2 l Z a0 hw w0 w1 w2 w3 w4 w5 w6 h0 F (6 : Int32)  (2 : Int32) (by simp +decide [f2])) e2 at_29 rfl (B.w 10 rfl) (B.w 11 rfl) (B.w 3 rfl) (B.w 12 rfl) (by decide) (W := 0) (by decide) (by decide) rfl [(.int (6 : Int32))] [] pd1 rfl rfl rfl (Nat.le_refl _) (by decide) (by decide) ?_
  rintro T3 _ _ X3 ⟨rfl, rfl, e3⟩
  show Go p e below _ T3 (mkF m 32 _ [(.int (2 : Int32))])
  refine own_iloadN B X3 at_32 rfl rfl ?_
  refine own_callS B X3 (c2 l Z a0 hw w0 w1 w2 w3 w4 w5 w6 h0 F (5 : Int32)  (1 : Int32) (by simp +decide [f2])) e3 at_33 rfl (B.w 10 rfl) (B.w 11 rfl) (B.w 3 rfl) (B.w 12 rfl) (by decide) (W := 1) (by decide) (by decide) rfl [(.int (5 : Int32))] [(.int (2 : Int32))] pd1 rfl rfl rfl (Nat.le_refl _) (by decide) (by decide) ?_
  rintro T4 _ _ X4 ⟨rfl, rfl, e4⟩
  show Go p e below _ T4 (mkF m 36 _ [(.int (1 : Int32)), (.int (2 : Int32))])
  refine own_icmpYes B X4 at_36 (flt (by decide : ¬ ((2 : Int32) < (1 : Int32)))).2.1 (by decide) (pc' := 43) rfl ?_
  refine own_iconst B X4 at_43 rfl (v := (0 : Int32)) rfl ?_
  refine own_istore B X4 at_44 rfl #[.val (.int i0), .val (.int i1), .val (.int (6 : Int32)), .val (.int (5 : Int32)), .val (.ref w6), .val (.ref w3), .val (.int (0 : Int32))] rfl ?_
  refine own_aload B X4 at_46 rfl rfl rfl ?_
  refine own_aload B X4 at_48 rfl rfl rfl ?_
  refine own_callV B X4 (c3 l Z a0 hw w0 w1 w2 w3 w4 w5 w6 h0 F w6 w3 (2 : Int32) (1 : Int32) F.2.2.2.2.2.2.2.2.2.2.2.2.2.2.2.2.2.2.2.2.1 F.2.2.2.2.2.2.2.2.2.2.2.2.2.2.2.2.2.1 (0 : Int32) (by simp +decide [f3])) e4 F.2.2.2.2.2.2.2.2.2.2.2.2.2.1 (own_nf B (B.w 16 rfl)) at_50 rfl (B.w 13 rfl) (B.w 14 rfl) (B.w 16 rfl) (B.w 15 rfl) (B.w 6 rfl) (B.w 17 rfl) (by decide) (W := 0) (by decide) (by decide) rfl [(.ref w3)] [] pd2 rfl rfl rfl (Nat.le_refl _) (by decide) (by decide) ?_
  rintro T5 _ _ X5 ⟨rfl, rfl, e5⟩
  show Go p e below _ T5 (mkF m 53 _ [(.int (0 : Int32))])
  refine own_iload B X5 at_53 rfl rfl ?_
  refine own_icmpNo B X5 at_55 (teq (rfl : (0 : Int32) = (0 : Int32))).2 rfl ?_
  refine own_iconst B X5 at_58 rfl (v := (1 : Int32)) rfl ?_
  refine own_goto B X5 at_59 (by decide) (pc' := 63) rfl ?_
  exact own_retInt B X5 at_63 rfl (Or.inr (Or.inl rfl)) ⟨rfl, (Fr.app (Fr.app (Fr.app (Fr.app (Fr.app (Fr.nil n0) (Fr.nil _)) (Fr.nil _)) (Fr.nil _)) (Fr.nil _)) (Fr.nil _))⟩ (by decide) (by decide)
set_option maxRecDepth 65536 in
set_option maxHeartbeats 4000000 in
theorem law_6_6 (l : Launch) (Z : State) (a0 : Array Value) (hw : ∀ d ∈ tables_1, d.before a0 Z = true) (w0 w1 w2 w3 w4 w5 w6 : Addr) (h0 : Heap) (F : Facts Z h0 w0 w1 w2 w3 w4 w5 w6) (i0 i1 : Int32) (n0 : Nat) (Z0 : n0 ≤ h0.size) (q0 : ((i0 &&& (2147483647 : Int32)) % (7 : Int32)) = (6 : Int32)) (q1 : ((i1 &&& (2147483647 : Int32)) % (7 : Int32)) = (6 : Int32)) :
    Con l Z x code maxLocals ret tables_1 room_1 #[(.int i0), (.int i1)] h0 (Q0 n0) := by
  refine own_body (plainFor_of_name pnL) hw ?_
  intro p e s m below meth c T0 B X0 e0 hnm
  refine Go.cast (ef0 m i0 i1) ?_
  refine own_iloadN B X0 at_0 rfl rfl ?_
  refine own_ldc B X0 at_1 rfl (v := (2147483647 : Int32)) (B.w 0 rfl) ?_
  refine own_iand B X0 at_3 rfl (v := (i0 &&& (2147483647 : Int32))) rfl ?_
  refine own_bipush B X0 at_4 rfl (v := (7 : Int32)) rfl ?_
  refine own_irem B X0 at_6 rfl (by decide) (v := (6 : Int32)) q0 ?_
  refine own_istoreN B X0 at_7 rfl #[.val (.int i0), .val (.int i1), .val (.int (6 : Int32)), .unset, .unset, .unset, .unset] rfl ?_
  refine own_iloadN B X0 at_8 rfl rfl ?_
  refine own_ldc B X0 at_9 rfl (v := (2147483647 : Int32)) (B.w 0 rfl) ?_
  refine own_iand B X0 at_11 rfl (v := (i1 &&& (2147483647 : Int32))) rfl ?_
  refine own_bipush B X0 at_12 rfl (v := (7 : Int32)) rfl ?_
  refine own_irem B X0 at_14 rfl (by decide) (v := (6 : Int32)) q1 ?_
  refine own_istoreN B X0 at_15 rfl #[.val (.int i0), .val (.int i1), .val (.int (6 : Int32)), .val (.int (6 : Int32)), .unset, .unset, .unset] rfl ?_
  refine own_iloadN B X0 at_16 rfl rfl ?_
  refine own_callS B X0 (c1 l Z a0 hw w0 w1 w2 w3 w4 w5 w6 h0 F (6 : Int32)  w6 (by simp +decide [f1])) e0 at_17 rfl (B.w 1 rfl) (B.w 2 rfl) (B.w 3 rfl) (B.w 4 rfl) (by decide) (W := 0) (by decide) (by decide) rfl [(.int (6 : Int32))] [] pd0 rfl rfl rfl (Nat.le_refl _) (by decide) (by decide) ?_
  rintro T1 _ _ X1 ⟨rfl, rfl, e1⟩
  show Go p e below _ T1 (mkF m 20 _ [(.ref w6)])
  refine own_astore B X1 at_20 rfl rfl #[.val (.int i0), .val (.int i1), .val (.int (6 : Int32)), .val (.int (6 : Int32)), .val (.ref w6), .unset, .unset] rfl ?_
  refine own_iloadN B X1 at_22 rfl rfl ?_
  refine own_callS B X1 (c1 l Z a0 hw w0 w1 w2 w3 w4 w5 w6 h0 F (6 : Int32)  w6 (by simp +decide [f1])) e1 at_23 rfl (B.w 1 rfl) (B.w 2 rfl) (B.w 3 rfl) (B.w 4 rfl) (by decide) (W := 0) (by decide) (by decide) rfl [(.int (6 : Int32))] [] pd0 rfl rfl rfl (Nat.le_refl _) (by decide) (by decide) ?_
  rintro T2 _ _ X2 ⟨rfl, rfl, e2⟩
  show Go p e below _ T2 (mkF m 26 _ [(.ref w6)])
  refine own_astore B X2 at_26 rfl rfl #[.val (.int i0), .val (.int i1), .val (.int (6 : Int32)), .val (.int (6 : Int32)), .val (.ref w6), .val (.ref w6), .unset] rfl ?_
  refine own_iloadN B X2 at_28 rfl rfl ?_
  refine own_callS B X2 (c2 l Z a0 hw w0 w1 w2 w3 w4 w5 w6 h0 F (6 : Int32)  (2 : Int32) (by simp +decide [f2])) e2 at_29 rfl (B.w 10 rfl) (B.w 11 rfl) (B.w 3 rfl) (B.w 12 rfl) (by decide) (W := 0) (by decide) (by decide) rfl [(.int (6 : Int32))] [] pd1 rfl rfl rfl (Nat.le_refl _) (by decide) (by decide) ?_
  rintro T3 _ _ X3 ⟨rfl, rfl, e3⟩
  show Go p e below _ T3 (mkF m 32 _ [(.int (2 : Int32))])
  refine own_iloadN B X3 at_32 rfl rfl ?_
  refine own_callS B X3 (c2 l Z a0 hw w0 w1 w2 w3 w4 w5 w6 h0 F (6 : Int32)  (2 : Int32) (by simp +decide [f2])) e3 at_33 rfl (B.w 10 rfl) (B.w 11 rfl) (B.w 3 rfl) (B.w 12 rfl) (by decide) (W := 1) (by decide) (by decide) rfl [(.int (6 : Int32))] [(.int (2 : Int32))] pd1 rfl rfl rfl (Nat.le_refl _) (by decide) (by decide) ?_
  rintro T4 _ _ X4 ⟨rfl, rfl, e4⟩
  show Go p e below _ T4 (mkF m 36 _ [(.int (2 : Int32)), (.int (2 : Int32))])
  refine own_icmpYes B X4 at_36 (flt (by decide : ¬ ((2 : Int32) < (2 : Int32)))).2.1 (by decide) (pc' := 43) rfl ?_
  refine own_iconst B X4 at_43 rfl (v := (0 : Int32)) rfl ?_
  refine own_istore B X4 at_44 rfl #[.val (.int i0), .val (.int i1), .val (.int (6 : Int32)), .val (.int (6 : Int32)), .val (.ref w6), .val (.ref w6), .val (.int (0 : Int32))] rfl ?_
  refine own_aload B X4 at_46 rfl rfl rfl ?_
  refine own_aload B X4 at_48 rfl rfl rfl ?_
  refine own_callV B X4 (c3 l Z a0 hw w0 w1 w2 w3 w4 w5 w6 h0 F w6 w6 (2 : Int32) (2 : Int32) F.2.2.2.2.2.2.2.2.2.2.2.2.2.2.2.2.2.2.2.2.1 F.2.2.2.2.2.2.2.2.2.2.2.2.2.2.2.2.2.2.2.2.1 (0 : Int32) (by simp +decide [f3])) e4 F.2.2.2.2.2.2.2.2.2.2.2.2.2.1 (own_nf B (B.w 16 rfl)) at_50 rfl (B.w 13 rfl) (B.w 14 rfl) (B.w 16 rfl) (B.w 15 rfl) (B.w 6 rfl) (B.w 17 rfl) (by decide) (W := 0) (by decide) (by decide) rfl [(.ref w6)] [] pd2 rfl rfl rfl (Nat.le_refl _) (by decide) (by decide) ?_
  rintro T5 _ _ X5 ⟨rfl, rfl, e5⟩
  show Go p e below _ T5 (mkF m 53 _ [(.int (0 : Int32))])
  refine own_iload B X5 at_53 rfl rfl ?_
  refine own_icmpNo B X5 at_55 (teq (rfl : (0 : Int32) = (0 : Int32))).2 rfl ?_
  refine own_iconst B X5 at_58 rfl (v := (1 : Int32)) rfl ?_
  refine own_goto B X5 at_59 (by decide) (pc' := 63) rfl ?_
  exact own_retInt B X5 at_63 rfl (Or.inr (Or.inl rfl)) ⟨rfl, (Fr.app (Fr.app (Fr.app (Fr.app (Fr.app (Fr.nil n0) (Fr.nil _)) (Fr.nil _)) (Fr.nil _)) (Fr.nil _)) (Fr.nil _))⟩ (by decide) (by decide)
theorem law_all (l : Launch) (Z : State) (a0 : Array Value) (hw : ∀ d ∈ tables_1, d.before a0 Z = true) (w0 w1 w2 w3 w4 w5 w6 : Addr) (h0 : Heap) (F : Facts Z h0 w0 w1 w2 w3 w4 w5 w6) (i0 i1 : Int32) (n0 : Nat) (Z0 : n0 ≤ h0.size) : Con l Z x code maxLocals ret tables_1 room_1 #[(.int i0), (.int i1)] h0 (Q0 n0) := by
  rcases own_rem7 i0 with q0 | q0 | q0 | q0 | q0 | q0 | q0
  · rcases own_rem7 i1 with q1 | q1 | q1 | q1 | q1 | q1 | q1
    · exact law_0_0 l Z a0 hw w0 w1 w2 w3 w4 w5 w6 h0 F i0 i1 n0 Z0 q0 q1
    · exact law_0_1 l Z a0 hw w0 w1 w2 w3 w4 w5 w6 h0 F i0 i1 n0 Z0 q0 q1
    · exact law_0_2 l Z a0 hw w0 w1 w2 w3 w4 w5 w6 h0 F i0 i1 n0 Z0 q0 q1
    · exact law_0_3 l Z a0 hw w0 w1 w2 w3 w4 w5 w6 h0 F i0 i1 n0 Z0 q0 q1
    · exact law_0_4 l Z a0 hw w0 w1 w2 w3 w4 w5 w6 h0 F i0 i1 n0 Z0 q0 q1
    · exact law_0_5 l Z a0 hw w0 w1 w2 w3 w4 w5 w6 h0 F i0 i1 n0 Z0 q0 q1
    · exact law_0_6 l Z a0 hw w0 w1 w2 w3 w4 w5 w6 h0 F i0 i1 n0 Z0 q0 q1
  · rcases own_rem7 i1 with q1 | q1 | q1 | q1 | q1 | q1 | q1
    · exact law_1_0 l Z a0 hw w0 w1 w2 w3 w4 w5 w6 h0 F i0 i1 n0 Z0 q0 q1
    · exact law_1_1 l Z a0 hw w0 w1 w2 w3 w4 w5 w6 h0 F i0 i1 n0 Z0 q0 q1
    · exact law_1_2 l Z a0 hw w0 w1 w2 w3 w4 w5 w6 h0 F i0 i1 n0 Z0 q0 q1
    · exact law_1_3 l Z a0 hw w0 w1 w2 w3 w4 w5 w6 h0 F i0 i1 n0 Z0 q0 q1
    · exact law_1_4 l Z a0 hw w0 w1 w2 w3 w4 w5 w6 h0 F i0 i1 n0 Z0 q0 q1
    · exact law_1_5 l Z a0 hw w0 w1 w2 w3 w4 w5 w6 h0 F i0 i1 n0 Z0 q0 q1
    · exact law_1_6 l Z a0 hw w0 w1 w2 w3 w4 w5 w6 h0 F i0 i1 n0 Z0 q0 q1
  · rcases own_rem7 i1 with q1 | q1 | q1 | q1 | q1 | q1 | q1
    · exact law_2_0 l Z a0 hw w0 w1 w2 w3 w4 w5 w6 h0 F i0 i1 n0 Z0 q0 q1
    · exact law_2_1 l Z a0 hw w0 w1 w2 w3 w4 w5 w6 h0 F i0 i1 n0 Z0 q0 q1
    · exact law_2_2 l Z a0 hw w0 w1 w2 w3 w4 w5 w6 h0 F i0 i1 n0 Z0 q0 q1
    · exact law_2_3 l Z a0 hw w0 w1 w2 w3 w4 w5 w6 h0 F i0 i1 n0 Z0 q0 q1
    · exact law_2_4 l Z a0 hw w0 w1 w2 w3 w4 w5 w6 h0 F i0 i1 n0 Z0 q0 q1
    · exact law_2_5 l Z a0 hw w0 w1 w2 w3 w4 w5 w6 h0 F i0 i1 n0 Z0 q0 q1
    · exact law_2_6 l Z a0 hw w0 w1 w2 w3 w4 w5 w6 h0 F i0 i1 n0 Z0 q0 q1
  · rcases own_rem7 i1 with q1 | q1 | q1 | q1 | q1 | q1 | q1
    · exact law_3_0 l Z a0 hw w0 w1 w2 w3 w4 w5 w6 h0 F i0 i1 n0 Z0 q0 q1
    · exact law_3_1 l Z a0 hw w0 w1 w2 w3 w4 w5 w6 h0 F i0 i1 n0 Z0 q0 q1
    · exact law_3_2 l Z a0 hw w0 w1 w2 w3 w4 w5 w6 h0 F i0 i1 n0 Z0 q0 q1
    · exact law_3_3 l Z a0 hw w0 w1 w2 w3 w4 w5 w6 h0 F i0 i1 n0 Z0 q0 q1
    · exact law_3_4 l Z a0 hw w0 w1 w2 w3 w4 w5 w6 h0 F i0 i1 n0 Z0 q0 q1
    · exact law_3_5 l Z a0 hw w0 w1 w2 w3 w4 w5 w6 h0 F i0 i1 n0 Z0 q0 q1
    · exact law_3_6 l Z a0 hw w0 w1 w2 w3 w4 w5 w6 h0 F i0 i1 n0 Z0 q0 q1
  · rcases own_rem7 i1 with q1 | q1 | q1 | q1 | q1 | q1 | q1
    · exact law_4_0 l Z a0 hw w0 w1 w2 w3 w4 w5 w6 h0 F i0 i1 n0 Z0 q0 q1
    · exact law_4_1 l Z a0 hw w0 w1 w2 w3 w4 w5 w6 h0 F i0 i1 n0 Z0 q0 q1
    · exact law_4_2 l Z a0 hw w0 w1 w2 w3 w4 w5 w6 h0 F i0 i1 n0 Z0 q0 q1
    · exact law_4_3 l Z a0 hw w0 w1 w2 w3 w4 w5 w6 h0 F i0 i1 n0 Z0 q0 q1
    · exact law_4_4 l Z a0 hw w0 w1 w2 w3 w4 w5 w6 h0 F i0 i1 n0 Z0 q0 q1
    · exact law_4_5 l Z a0 hw w0 w1 w2 w3 w4 w5 w6 h0 F i0 i1 n0 Z0 q0 q1
    · exact law_4_6 l Z a0 hw w0 w1 w2 w3 w4 w5 w6 h0 F i0 i1 n0 Z0 q0 q1
  · rcases own_rem7 i1 with q1 | q1 | q1 | q1 | q1 | q1 | q1
    · exact law_5_0 l Z a0 hw w0 w1 w2 w3 w4 w5 w6 h0 F i0 i1 n0 Z0 q0 q1
    · exact law_5_1 l Z a0 hw w0 w1 w2 w3 w4 w5 w6 h0 F i0 i1 n0 Z0 q0 q1
    · exact law_5_2 l Z a0 hw w0 w1 w2 w3 w4 w5 w6 h0 F i0 i1 n0 Z0 q0 q1
    · exact law_5_3 l Z a0 hw w0 w1 w2 w3 w4 w5 w6 h0 F i0 i1 n0 Z0 q0 q1
    · exact law_5_4 l Z a0 hw w0 w1 w2 w3 w4 w5 w6 h0 F i0 i1 n0 Z0 q0 q1
    · exact law_5_5 l Z a0 hw w0 w1 w2 w3 w4 w5 w6 h0 F i0 i1 n0 Z0 q0 q1
    · exact law_5_6 l Z a0 hw w0 w1 w2 w3 w4 w5 w6 h0 F i0 i1 n0 Z0 q0 q1
  · rcases own_rem7 i1 with q1 | q1 | q1 | q1 | q1 | q1 | q1
    · exact law_6_0 l Z a0 hw w0 w1 w2 w3 w4 w5 w6 h0 F i0 i1 n0 Z0 q0 q1
    · exact law_6_1 l Z a0 hw w0 w1 w2 w3 w4 w5 w6 h0 F i0 i1 n0 Z0 q0 q1
    · exact law_6_2 l Z a0 hw w0 w1 w2 w3 w4 w5 w6 h0 F i0 i1 n0 Z0 q0 q1
    · exact law_6_3 l Z a0 hw w0 w1 w2 w3 w4 w5 w6 h0 F i0 i1 n0 Z0 q0 q1
    · exact law_6_4 l Z a0 hw w0 w1 w2 w3 w4 w5 w6 h0 F i0 i1 n0 Z0 q0 q1
    · exact law_6_5 l Z a0 hw w0 w1 w2 w3 w4 w5 w6 h0 F i0 i1 n0 Z0 q0 q1
    · exact law_6_6 l Z a0 hw w0 w1 w2 w3 w4 w5 w6 h0 F i0 i1 n0 Z0 q0 q1
set_option maxRecDepth 65536 in
set_option maxHeartbeats 4000000 in
theorem comes_1 {Post : Tables → Env → Array Value → State → Outcome → State → Prop} (hpost : ∀ tb e args s v u, (limb_1_1.after args s (.returned v) u = true ∧ limb_1_2.after args s (.returned v) u = true) → FrameEnd s (.returned v) u (Jvm.fieldLocs frame_1_writes args s ++ Jvm.arrayLocs frame_1_arrays args s ++ Jvm.staticLocs frame_1_statics s) 0 0 → Post tb e args s (.returned v) u) :
    ArmFor flags0 classFile x code maxLocals ret World_1 tables_1 room_1 Calls_1 rest_1 Pre_1 Post := by
  intro l hfl _ _ p e ha hc hk s m args below hf hA hF happ hP
  obtain ⟨hcalls, hrest, hpre⟩ := hP
  obtain ⟨-, -, -, hnamed, -, -, -, hat⟩ := (Spec.applies_iff hf).mp happ
  obtain ⟨hg, hn⟩ := and_e (Cond.before_iff.mp (show (Jvm.Cond.and given_1 narrow_1).before args s = true from hpre))
  obtain ⟨g0, hg0⟩ := and_e hg
  obtain ⟨g1, hg1⟩ := and_e hg0
  obtain ⟨z0, z1, rfl⟩ : ∃ z0 z1 : Value, args = #[z0, z1] := by
    have hs : args.size = 2 := by simpa [Cond.value, given_1] using g0
    obtain ⟨L⟩ := args
    match L, hs with
    | [z0, z1], _ => exact ⟨z0, z1, rfl⟩
  obtain ⟨i0, ei0⟩ := is_v g1
  obtain rfl : z0 = (.int i0) := Option.some.inj ei0
  obtain ⟨i1, ei1⟩ := is_v hg1
  obtain rfl : z1 = (.int i1) := Option.some.inj ei1
  have hw := fun d (hd : d ∈ tables_1) => atoms_spec (ws := Jvm.Cond.code x code maxLocals ret :: tables_1) hat d (List.mem_cons_of_mem _ hd)
  obtain ⟨hn1, hn2⟩ := and_e hn
  obtain ⟨hn21, hn22⟩ := and_e hn2
  obtain ⟨hn221, hn222⟩ := and_e hn22
  obtain ⟨hn2221, hn2222⟩ := and_e hn222
  obtain ⟨hn22221, hn22222⟩ := and_e hn2222
  obtain ⟨hn222221, hn222222⟩ := and_e hn22222
  obtain ⟨hn2222221, hn2222222⟩ := and_e hn222222
  obtain ⟨hn22222221, hn22222222⟩ := and_e hn2222222
  obtain ⟨hn222222221, hn222222222⟩ := and_e hn22222222
  obtain ⟨hn2222222221, hn2222222222⟩ := and_e hn222222222
  obtain ⟨hn22222222221, hn22222222222⟩ := and_e hn2222222222
  obtain ⟨hn222222222221, hn222222222222⟩ := and_e hn22222222222
  obtain ⟨hn2222222222221, hn2222222222222⟩ := and_e hn222222222222
  obtain ⟨w0, v0⟩ := exa_v hn1
  obtain ⟨w1, v1⟩ := exa_v hn21
  obtain ⟨w2, v2⟩ := exa_v hn22221
  obtain ⟨w3, v3⟩ := exa_v hn2222221
  obtain ⟨w4, v4⟩ := exa_v hn222222221
  obtain ⟨w5, v5⟩ := exa_v hn22222222221
  obtain ⟨w6, v6⟩ := exa_v hn2222222222221
  have F221 := own_fldI v0 hn221
  have F2221 := own_fldI v1 hn2221
  have F222221 := own_fldI v2 hn222221
  have F22222221 := own_fldI v3 hn22222221
  have F2222222221 := own_fldI v4 hn2222222221
  have F222222222221 := own_fldI v5 hn222222222221
  have F2222222222222 := own_fldI v6 hn2222222222222
  obtain ⟨n, o, h1, h2, h3, _, L, rfl, ⟨rfl, N⟩, hq⟩ := law_all l s _ hw w0 w1 w2 w3 w4 w5 w6 s.heap ⟨Sta.start v0 (Or.inr ⟨hw _ (List.mem_of_getElem? (i := 6) rfl), hw _ (List.mem_of_getElem? (i := 7) rfl)⟩), Exa.start v0 hn1, Sta.start v1 (Or.inr ⟨hw _ (List.mem_of_getElem? (i := 6) rfl), hw _ (List.mem_of_getElem? (i := 9) rfl)⟩), Exa.start v1 hn21, Sta.start v2 (Or.inr ⟨hw _ (List.mem_of_getElem? (i := 6) rfl), hw _ (List.mem_of_getElem? (i := 21) rfl)⟩), Exa.start v2 hn22221, Sta.start v3 (Or.inr ⟨hw _ (List.mem_of_getElem? (i := 6) rfl), hw _ (List.mem_of_getElem? (i := 23) rfl)⟩), Exa.start v3 hn2222221, Sta.start v4 (Or.inr ⟨hw _ (List.mem_of_getElem? (i := 6) rfl), hw _ (List.mem_of_getElem? (i := 25) rfl)⟩), Exa.start v4 hn222222221, Sta.start v5 (Or.inr ⟨hw _ (List.mem_of_getElem? (i := 6) rfl), hw _ (List.mem_of_getElem? (i := 27) rfl)⟩), Exa.start v5 hn22222222221, Sta.start v6 (Or.inr ⟨hw _ (List.mem_of_getElem? (i := 6) rfl), hw _ (List.mem_of_getElem? (i := 29) rfl)⟩), Exa.start v6 hn2222222222221, F221, F2221, F222221, F22222221, F2222222221, F222222222221, F2222222222222, F221.ne F22222221 (by decide), F221.ne F222222222221 (by decide), F221.ne F2222222222222 (by decide), F2221.ne F22222221 (by decide), F2221.ne F222222222221 (by decide), F2221.ne F2222222222222 (by decide), F222221.ne F22222221 (by decide), F222221.ne F222222222221 (by decide), F222221.ne F2222222222222 (by decide), F22222221.ne F2222222221 (by decide), F22222221.ne F2222222222222 (by decide), F2222222221.ne F222222222221 (by decide), F2222222221.ne F2222222222222 (by decide), F222222222221.ne F2222222222222 (by decide)⟩ i0 i1 s.heap.size (Nat.le_refl _) p e ha hc hk s m _ below hf ((Spec.applies_iff_loose hf).mp happ).1 ⟨rfl, State.Warmed39.refl s, rfl⟩ trivial
  refine ⟨n, _, h1, h2, h3, hpost _ _ _ _ _ _ ⟨Cond.after_iff.mpr rfl, Cond.after_iff.mpr (eq_i res_at (Term.int_eval (1)) rfl)⟩ ⟨hq.1, hq.2.1, (hq.2.2.sift fun y hy => Or.inr (N y hy)).mono (by decide) (by decide)⟩⟩
theorem main_1_1 : Claimed_1_1 := comes_1 fun _ _ _ _ _ _ h hF => ⟨h.1, hF⟩
theorem main_1_2 : Claimed_1_2 := comes_1 fun _ _ _ _ _ _ h hF => ⟨h.2, hF⟩
end Jvm.Pilot.@@N@@
namespace Jvm.Pilot.@@N@@
open Jvm Jvm.ClassFile Sem Op Lib Jvm.Free Jvm.Stand Jvm.Pilot.@@N@@.Jvm.D
/-! MADE BY PROGRAM (witnessworld.py) out of the Statement's table words and the real class files: 12 classes; the members and pool entries that the words name. The judged class is class 1, her method 3. -/
namespace start1
open Jvm.ClassFile
def u (s : String) : CpInfo := .utf8 (stringToUtf16 s)
def gap : Nat → List CpInfo → List CpInfo
  | 0, r => r
  | n + 1, r => .unusable :: gap n r
def poolList (es : List (Nat × CpInfo)) (last : Nat) : List CpInfo := es.foldr (fun e r => gap e.1 (e.2 :: r)) (gap last [])
def pool (es : List (Nat × CpInfo)) (last : Nat) : Array CpInfo := ⟨poolList es last⟩
def fileOf (pool : Array CpInfo) (this : Nat) (attrs : Array Attribute := #[]) (ms : Array MethodInfo := #[]) (fl : Nat := 33) (sup : Nat := 0) (ifs : Array Nat := #[]) (fds : Array FieldInfo := #[]) : ClassFile where
  minorVersion := 0
  majorVersion := 65
  constantPool := pool
  accessFlags := fl
  thisClass := this
  superClass := sup
  interfaces := ifs
  fields := fds
  methods := ms
  attributes := attrs
def plain (name : String) (sup : Option ClassId) : Class where
  name := name
  kind := .ordinary
  loader := none
  accessFlags := 33
  super := sup
  interfaces := #[]
  cf := none
  fields := #[]
  methods := #[]
  instanceTypes := #[]
  staticTypes := #[]
  resolved := #[]
  callSites := []
  init := .initialized
  statics := none
  mirror := none

def pool0 : Array CpInfo := pool [(5, u "<init>"), (0, u "()V"), (1, .class_ 10), (1, u "java/lang/Object")] 113

def k0m0 : Method := { name := "<init>", desc := "()V", sig := { parameters := [], returnType := none }, accessFlags := 1, code := none }
def k0 : Class := { plain "java/lang/Object" none with
  accessFlags := 33
  interfaces := #[]
  cf := some (fileOf pool0 8 #[] #[{ accessFlags := 1, nameIndex := 5, descriptorIndex := 6, attributes := #[] }] 33 0 #[] #[])
  fields := #[]
  methods := #[k0m0]
  instanceTypes := #[]
  staticTypes := #[]
  resolved := Array.replicate 124 none
  statics := none }

def pool1 : Array CpInfo := pool [(2, .class_ 4), (1, u "java/lang/Object"), (0, u "<init>"), (0, u "()V"), (0, .fieldref 8 9), (0, .class_ 10), (0, .nameAndType 11 12), (0, u (site_50.cls)), (0, u "APPENDIX"), (0, u (own_dK)), (0, .fieldref 8 14), (0, .nameAndType 15 12), (0, u "EXHIBIT"), (0, .fieldref 8 17), (0, .nameAndType 18 12), (0, u "SCHEDULE"), (0, .fieldref 8 20), (0, .nameAndType 21 12), (0, u "ANNEX"), (0, .fieldref 8 23), (0, .nameAndType 24 12), (0, u "ITEM"), (0, .fieldref 8 26), (0, .nameAndType 27 12), (0, u "ARTICLE"), (0, .fieldref 8 29), (0, .nameAndType 30 12), (0, u "SECTION"), (0, .integer 2147483647), (0, .methodref 33 34), (0, .class_ 35), (0, .nameAndType 36 37), (0, u (x.cls)), (0, u "kind"), (0, u (method_2.desc)), (0, .methodref 33 39), (0, .nameAndType 40 41), (0, u "size"), (0, u "(I)I"), (0, .methodref 8 43), (0, .nameAndType 44 45), (0, u "holds"), (0, u (site_50.desc)), (3, u "law"), (0, u "(II)Z")] 2

def k1m0 : Method := { name := "<init>", desc := "()V", sig := { parameters := [], returnType := none }, accessFlags := 1, code := none }
def k1c1 : Code := { maxStack := 2, maxLocals := 1, code := method_2_code, exceptionTable := #[], attributes := #[] }
def k1m1 : Method := { name := "kind", desc := (method_2.desc), sig := { parameters := [.int], returnType := some (.object (site_50.cls)) }, accessFlags := 10, code := some k1c1 }
def k1c2 : Code := { maxStack := 2, maxLocals := 1, code := method_3_code, exceptionTable := #[], attributes := #[] }
def k1m2 : Method := { name := "size", desc := "(I)I", sig := { parameters := [.int], returnType := some .int }, accessFlags := 10, code := some k1c2 }
def k1c3 : Code := { maxStack := 2, maxLocals := 7, code := code, exceptionTable := #[], attributes := #[] }
def k1m3 : Method := { name := "law", desc := "(II)Z", sig := { parameters := [.int, .int], returnType := some .boolean }, accessFlags := 9, code := some k1c3 }
def k1 : Class := { plain (x.cls) (some 0) with
  accessFlags := 49
  interfaces := #[]
  cf := some (fileOf pool1 33 #[] #[{ accessFlags := 1, nameIndex := 5, descriptorIndex := 6, attributes := #[] }, { accessFlags := 10, nameIndex := 36, descriptorIndex := 37, attributes := #[] }, { accessFlags := 10, nameIndex := 40, descriptorIndex := 41, attributes := #[] }, { accessFlags := 9, nameIndex := 49, descriptorIndex := 50, attributes := #[] }] 49 2 #[] #[])
  fields := #[]
  methods := #[k1m0, k1m1, k1m2, k1m3]
  instanceTypes := #[]
  staticTypes := #[]
  resolved := Array.replicate 53 none
  statics := none }

def pool2 : Array CpInfo := pool [(1, .class_ 2), (0, u "java/lang/constant/Constable"), (0, .class_ 4), (0, u "java/lang/Object")] 6

def k2 : Class := { plain "java/lang/constant/Constable" (some 0) with
  accessFlags := 1537
  interfaces := #[]
  cf := some (fileOf pool2 1 #[] #[] 1537 3 #[] #[])
  fields := #[]
  methods := #[]
  instanceTypes := #[]
  staticTypes := #[]
  resolved := Array.replicate 11 none
  statics := none }

def pool3 : Array CpInfo := pool [(1, .class_ 2), (0, u "java/lang/Comparable"), (0, .class_ 4), (0, u "java/lang/Object")] 7

def k3 : Class := { plain "java/lang/Comparable" (some 0) with
  accessFlags := 1537
  interfaces := #[]
  cf := some (fileOf pool3 1 #[] #[] 1537 3 #[] #[])
  fields := #[]
  methods := #[]
  instanceTypes := #[]
  staticTypes := #[]
  resolved := Array.replicate 12 none
  statics := none }

def pool4 : Array CpInfo := pool [(1, .class_ 2), (0, u "java/io/Serializable"), (0, .class_ 4), (0, u "java/lang/Object")] 2

def k4 : Class := { plain "java/io/Serializable" (some 0) with
  accessFlags := 1537
  interfaces := #[]
  cf := some (fileOf pool4 1 #[] #[] 1537 3 #[] #[])
  fields := #[]
  methods := #[]
  instanceTypes := #[]
  staticTypes := #[]
  resolved := Array.replicate 7 none
  statics := none }

def pool5 : Array CpInfo := pool [(2, .class_ 4), (1, u "java/lang/Enum"), (0, u "name"), (0, u "Ljava/lang/String;"), (2, u "ordinal"), (0, u "I"), (1, .class_ 14), (1, u "java/lang/Object"), (4, u "hash"), (86, .class_ 108), (1, u "java/lang/Enum$EnumDesc"), (2, .class_ 112), (0, u "java/lang/constant/Constable"), (0, .class_ 114), (0, u "java/lang/Comparable"), (0, .class_ 116), (0, u "java/io/Serializable")] 87

def k5 : Class := { plain "java/lang/Enum" (some 0) with
  accessFlags := 1057
  interfaces := #[2, 3, 4]
  cf := some (fileOf pool5 2 #[.nestMembers #[106]] #[] 1057 12 #[111, 113, 115] #[{ accessFlags := 18, nameIndex := 5, descriptorIndex := 6, attributes := #[] }, { accessFlags := 18, nameIndex := 9, descriptorIndex := 10, attributes := #[] }, { accessFlags := 2, nameIndex := 19, descriptorIndex := 10, attributes := #[] }])
  fields := #[{ name := "name", type := (.object "java/lang/String"), accessFlags := 18, slot := 0, constantValue := 0 }, { name := "ordinal", type := .int, accessFlags := 18, slot := 1, constantValue := 0 }, { name := "hash", type := .int, accessFlags := 2, slot := 2, constantValue := 0 }]
  methods := #[]
  instanceTypes := #[(.object "java/lang/String"), .int, .int]
  staticTypes := #[]
  resolved := Array.replicate 204 none
  statics := none }

def pool6 : Array CpInfo := pool [(1, .class_ 2), (0, u (site_50.cls)), (2, u "APPENDIX"), (0, u (own_dK)), (2, u "EXHIBIT"), (2, u "SCHEDULE"), (2, u "ANNEX"), (2, u "ITEM"), (2, u "ARTICLE"), (2, u "SECTION"), (2, u "$VALUES"), (0, u ("[" ++ own_dK)), (6, .class_ 37), (1, u "java/lang/Enum"), (6, .fieldref 1 45), (0, .nameAndType 46 47), (0, u "rank"), (0, u "I"), (2, u "plural"), (0, u "Ljava/lang/String;"), (56, u "holds"), (0, u (site_50.desc))] 5

def k6c0 : Code := { maxStack := 2, maxLocals := 2, code := prog_30_method_8_code, exceptionTable := #[], attributes := #[] }
def k6m0 : Method := { name := "holds", desc := (site_50.desc), sig := { parameters := [(.object (site_50.cls))], returnType := some .boolean }, accessFlags := 0, code := some k6c0 }
def k6 : Class := { plain (site_50.cls) (some 5) with
  accessFlags := 16433
  interfaces := #[]
  cf := some (fileOf pool6 1 #[] #[{ accessFlags := 0, nameIndex := 108, descriptorIndex := 109, attributes := #[] }] 16433 35 #[] #[{ accessFlags := 16409, nameIndex := 5, descriptorIndex := 6, attributes := #[] }, { accessFlags := 16409, nameIndex := 9, descriptorIndex := 6, attributes := #[] }, { accessFlags := 16409, nameIndex := 12, descriptorIndex := 6, attributes := #[] }, { accessFlags := 16409, nameIndex := 15, descriptorIndex := 6, attributes := #[] }, { accessFlags := 16409, nameIndex := 18, descriptorIndex := 6, attributes := #[] }, { accessFlags := 16409, nameIndex := 21, descriptorIndex := 6, attributes := #[] }, { accessFlags := 16409, nameIndex := 24, descriptorIndex := 6, attributes := #[] }, { accessFlags := 18, nameIndex := 46, descriptorIndex := 47, attributes := #[] }, { accessFlags := 18, nameIndex := 50, descriptorIndex := 51, attributes := #[] }, { accessFlags := 4122, nameIndex := 27, descriptorIndex := 28, attributes := #[] }])
  fields := #[{ name := "APPENDIX", type := (.object (site_50.cls)), accessFlags := 16409, slot := 0, constantValue := 0 }, { name := "EXHIBIT", type := (.object (site_50.cls)), accessFlags := 16409, slot := 1, constantValue := 0 }, { name := "SCHEDULE", type := (.object (site_50.cls)), accessFlags := 16409, slot := 2, constantValue := 0 }, { name := "ANNEX", type := (.object (site_50.cls)), accessFlags := 16409, slot := 3, constantValue := 0 }, { name := "ITEM", type := (.object (site_50.cls)), accessFlags := 16409, slot := 4, constantValue := 0 }, { name := "ARTICLE", type := (.object (site_50.cls)), accessFlags := 16409, slot := 5, constantValue := 0 }, { name := "SECTION", type := (.object (site_50.cls)), accessFlags := 16409, slot := 6, constantValue := 0 }, { name := "rank", type := .int, accessFlags := 18, slot := 3, constantValue := 0 }, { name := "plural", type := (.object "java/lang/String"), accessFlags := 18, slot := 4, constantValue := 0 }, { name := "$VALUES", type := (.array (.object (site_50.cls))), accessFlags := 4122, slot := 7, constantValue := 0 }]
  methods := #[k6m0]
  instanceTypes := #[(.object "java/lang/String"), .int, .int, .int, (.object "java/lang/String")]
  staticTypes := #[(.object (site_50.cls)), (.object (site_50.cls)), (.object (site_50.cls)), (.object (site_50.cls)), (.object (site_50.cls)), (.object (site_50.cls)), (.object (site_50.cls)), (.array (.object (site_50.cls)))]
  resolved := Array.replicate 115 none
  statics := some 0 }

def pool7 : Array CpInfo := pool [(1, u "java/lang/Cloneable"), (0, .class_ 1), (0, u "java/lang/Object"), (0, .class_ 3)] 3

def k7 : Class := { plain "java/lang/Cloneable" (some 0) with
  accessFlags := 1537
  interfaces := #[]
  cf := some (fileOf pool7 2 #[] #[] 1537 4 #[] #[])
  fields := #[]
  methods := #[]
  instanceTypes := #[]
  staticTypes := #[]
  resolved := Array.replicate 8 none
  statics := none }

def k8 : Class := { plain "byte" none with kind := .primitive 'B', accessFlags := 0x411 }
def k9 : Class := { plain "[B" (some 0) with kind := .array 8 .byte, interfaces := #[7, 4], accessFlags := 1041 }

def k10 : Class := { plain "int" none with kind := .primitive 'I', accessFlags := 0x411 }
def k11 : Class := { plain "[I" (some 0) with kind := .array 10 .int, interfaces := #[7, 4], accessFlags := 1041 }

def heap : Heap := #[{ cls := 6, slots := #[.ref 1, .ref 3, .ref 5, .ref 2, .ref 6, .ref 4, .ref 7, .null], vm := .statics 6 },
  { cls := 6, slots := #[.null, .int 0, .int 0, .int 0, .null], vm := .none },
  { cls := 6, slots := #[.null, .int 1, .int 0, .int 0, .null], vm := .none },
  { cls := 6, slots := #[.null, .int 2, .int 0, .int 0, .null], vm := .none },
  { cls := 6, slots := #[.null, .int 3, .int 0, .int 1, .null], vm := .none },
  { cls := 6, slots := #[.null, .int 4, .int 0, .int 0, .null], vm := .none },
  { cls := 6, slots := #[.null, .int 5, .int 0, .int 1, .null], vm := .none },
  { cls := 6, slots := #[.null, .int 6, .int 0, .int 2, .null], vm := .none }]
def classes : Array Class := #[k0, k1, k2, k3, k4, k5, k6, k7, k8, k9, k10, k11]
def interned : List (Array UInt16 × Addr) := []
def slotsUsed : Nat := 43
def theMethod : MethodId := ⟨1, 3⟩
def args0 : Array Value := #[.int 5, .int 5]
def aboutOver (below : List Frame) : State where
  vm := { classes := classes, interned := interned.toArray }
  heap := heap
  slotsUsed := slotsUsed
  threads := #[{ frames := .invoking theMethod args0 :: below }]
def below0 : List Frame := [.native { method := ⟨0, 0⟩, args := #[] }]
def about1 : State := aboutOver below0
def p0 : Program := .bare "" "" ""
def e0 : Env := launch0.env 0 0 0
theorem w_frames : about1.frames = Frame.invoking theMethod args0 :: below0 := rfl
set_option maxRecDepth 65536 in
theorem w_args : argsFit about1.vm theMethod args0 = true := by decide +kernel
set_option maxRecDepth 65536 in
theorem w_heap : heapFits about1 = true := by decide +kernel
set_option maxRecDepth 65536 in
theorem w_runnable : about1.curStatus? = some .runnable := by decide +kernel
set_option maxRecDepth 65536 in
theorem w_alone : about1.alone = true := by decide +kernel
set_option maxRecDepth 65536 in
theorem w_named : about1.methodNamed? x = some theMethod := by decide +kernel
set_option maxRecDepth 65536 in
theorem w_hears : about1.hears theMethod below0 = true := by decide +kernel
set_option maxRecDepth 65536 in
theorem w_ripe : about1.ripe theMethod args0 below0 = true := by decide +kernel
theorem w_running : about1.status = .running := rfl
set_option maxRecDepth 65536 in
theorem w_room : about1.hasRoom e0.platform room_1 = true :=
  launch0.hasRoom_least _ room_1 (by decide +kernel) (by decide +kernel) (by decide +kernel) (by decide +kernel) (by decide +kernel) (by decide +kernel)
theorem allAtoms_all (ts : List Jvm.Cond) (a : Array Jvm.Value) (st : Jvm.State) : (allAtoms ts).before a st = ts.all (fun c => c.before a st) := by
  induction ts with
  | nil => rfl
  | cons c t ih =>
    show (Jvm.Cond.and c (allAtoms t)).before a st = _
    rw [Jvm.Cond.before_and, ih, List.all_cons]
def words1 : List Jvm.Cond := Jvm.Cond.code x code maxLocals ret :: tables_1
theorem code_word {y : MethodName} {bytes : ByteArray} {mx : Nat} {rt : Option FieldType} {a : Array Value} {s : State} {m : MethodId} {meth : Method} {c : Code} (h1 : s.methodNamed? y = some m) (h2 : s.vm.method? m = some meth) (h3 : meth.code = some c) (h4 : c.code = bytes)
    (h5 : (c.maxLocals == mx && c.exceptionTable.isEmpty && decide (c.maxStack ≤ mostOperands) && decide (meth.sig.returnType = rt) && !meth.locks && decide (parseMethodDescriptor y.desc = some meth.sig)) = true) : (Jvm.Cond.code y bytes mx rt).before a s = true := by
  simp only [Bool.and_eq_true, beq_iff_eq, Bool.not_eq_true', decide_eq_true_eq] at h5
  obtain ⟨⟨⟨⟨⟨g1, g2⟩, g3⟩, g4⟩, g5⟩, g6⟩ := h5
  simp [Cond.before, Cond.holds, Cond.value, h1, h2, h3, h4, g1, g2, g3, g4, g5, g6]
def isCode : Jvm.Cond → Bool
  | .code _ _ _ _ => true
  | _ => false
theorem all_split {L : List Jvm.Cond} {P : Jvm.Cond → Bool} (h1 : L.all (fun c => isCode c || P c) = true) (h2 : ∀ c ∈ L.filter isCode, P c = true) : L.all P = true := by
  refine List.all_eq_true.mpr fun c hc => ?_
  have h := List.all_eq_true.mp h1 c hc
  rcases Bool.eq_false_or_eq_true (isCode c) with hi | hi
  · exact h2 c (List.mem_filter.mpr ⟨hc, hi⟩)
  · simpa [hi] using h
set_option maxRecDepth 65536 in
theorem w_c0 : (Jvm.Cond.code x code maxLocals ret).before args0 about1 = true := code_word (m := ⟨1, 3⟩) (meth := k1m3) (c := k1c3) (by decide +kernel) rfl rfl rfl (by decide +kernel)
set_option maxRecDepth 65536 in
theorem w_c1 : (Jvm.Cond.code ({ cls := (x.cls), name := "kind", desc := (method_2.desc) } : Jvm.MethodName) method_2_code (1 : Nat) (Option.some (Jvm.ClassFile.FieldType.object (site_50.cls)))).before args0 about1 = true := code_word (m := ⟨1, 1⟩) (meth := k1m1) (c := k1c1) (by decide +kernel) rfl rfl rfl (by decide +kernel)
set_option maxRecDepth 65536 in
theorem w_c2 : (Jvm.Cond.code ({ cls := (x.cls), name := "size", desc := "(I)I" } : Jvm.MethodName) method_3_code (1 : Nat) (Option.some Jvm.ClassFile.FieldType.int)).before args0 about1 = true := code_word (m := ⟨1, 2⟩) (meth := k1m2) (c := k1c2) (by decide +kernel) rfl rfl rfl (by decide +kernel)
set_option maxRecDepth 65536 in
theorem w_c3 : (Jvm.Cond.code ({ cls := (site_50.cls), name := "holds", desc := (site_50.desc) } : Jvm.MethodName) prog_30_method_8_code (2 : Nat) (Option.some Jvm.ClassFile.FieldType.boolean)).before args0 about1 = true := code_word (m := ⟨6, 0⟩) (meth := k6m0) (c := k6c0) (by decide +kernel) rfl rfl rfl (by decide +kernel)
def codes1 : List Jvm.Cond := [Jvm.Cond.code x code maxLocals ret, Jvm.Cond.code ({ cls := (x.cls), name := "kind", desc := (method_2.desc) } : Jvm.MethodName) method_2_code (1 : Nat) (Option.some (Jvm.ClassFile.FieldType.object (site_50.cls))), Jvm.Cond.code ({ cls := (x.cls), name := "size", desc := "(I)I" } : Jvm.MethodName) method_3_code (1 : Nat) (Option.some Jvm.ClassFile.FieldType.int), Jvm.Cond.code ({ cls := (site_50.cls), name := "holds", desc := (site_50.desc) } : Jvm.MethodName) prog_30_method_8_code (2 : Nat) (Option.some Jvm.ClassFile.FieldType.boolean)]
set_option maxRecDepth 65536 in
theorem codes_eq : words1.filter isCode = codes1 := rfl
theorem w_codes : ∀ c ∈ words1.filter isCode, c.before args0 about1 = true := by
  rw [codes_eq]
  intro c hc
  simp only [codes1, List.mem_cons, List.not_mem_nil, or_false] at hc
  rcases hc with rfl | rfl | rfl | rfl
  · exact w_c0
  · exact w_c1
  · exact w_c2
  · exact w_c3
set_option maxRecDepth 65536 in
theorem w_t1 : (words1.take 24).all (fun c => isCode c || c.before args0 about1) = true := by decide +kernel
set_option maxRecDepth 65536 in
theorem w_t2 : (words1.drop 24).all (fun c => isCode c || c.before args0 about1) = true := by decide +kernel
theorem w_tables : (allAtoms (Jvm.Cond.code x code maxLocals ret :: tables_1)).before args0 about1 = true := by
  rw [allAtoms_all]
  show words1.all (fun c => c.before args0 about1) = true
  refine all_split ?_ w_codes
  rw [← List.take_append_drop 24 words1, List.all_append, w_t1, w_t2]
  rfl
set_option maxRecDepth 65536 in
theorem w_case : (Jvm.Cond.and given_1 narrow_1).before args0 about1 = true := by decide +kernel
theorem w_applies : (headSpec (Jvm.Cond.code x code maxLocals ret :: tables_1) room_1).applies x e0.platform about1 = true :=
  (Spec.applies_iff w_frames).mpr ⟨w_running, w_runnable, w_alone, w_named, w_hears, w_ripe, w_room, w_tables⟩
theorem atStart : AtStart classFile x code maxLocals ret World_1 tables_1 room_1 Calls_1 rest_1 Pre_1 launch0 p0 e0 about1 theMethod args0 below0 :=
  ⟨lists_1, trivial, launch0.admits_env _ _ _, launch0.least_env, fairChoices_fair.cas, fairChoices_fair.clock, w_frames, w_args, w_heap, w_applies, trivial, trivial, w_case⟩
end start1
theorem witness_1 : WitnessClaimed_1 := ⟨start1.p0, start1.e0, start1.about1, start1.theMethod, start1.args0, start1.below0, start1.atStart⟩
end Jvm.Pilot.@@N@@
