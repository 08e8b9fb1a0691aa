import JvmDerived
import JvmDerived.Pilot.@@N@@Statement
import JvmDerived.Pilot.@@N@@Code
set_option linter.unusedVariables false
set_option linter.unusedSimpArgs false
namespace Jvm.Own
open Sem ClassFile Op Lib Jvm.Stand Jvm.Free Jvm.LawKit Jvm.RoadKit
/-- the walk from the frame g over T comes to its end, and P holds there -/
def Goes (p : Program) (e : Env) (below : List Frame) (P : State → Outcome → Prop) (T : State) (g : JFrame) : Prop :=
  ∃ U o, Steps p.tables e below (T.setTop g) U ∧ U.status = .running ∧ Ended U below o ∧ P U o
theorem Goes.st {p : Program} {e : Env} {below : List Frame} {P : State → Outcome → Prop} {T T' : State} {g g' : JFrame} (st : ∀ t, Steps p.tables e below (T'.setTop g') t → Steps p.tables e below (T.setTop g) t) (k : Goes p e below P T' g') : Goes p e below P T g := by
  obtain ⟨U, o, h1, h⟩ := k; exact ⟨U, o, st _ h1, h⟩
/-- what is known of the body that is walked -/
def Cx (Z : State) (p : Program) (s : State) (m : MethodId) (meth : Method) (c : Code) (own : String) (bytes : ByteArray) (maxL : Nat) (ret : Option FieldType) (nm : String) : Prop :=
  p.tables.exec = Jvm.exec ∧ c.code = bytes ∧ c.maxLocals = maxL ∧ meth.sig.returnType = ret ∧ meth.name = nm ∧ meth.locks = false ∧ Z.Warmed39 s.vm ∧ s.vm.findClass own = some m.cls
section Acc
variable {Z : State} {p : Program} {s : State} {m : MethodId} {meth : Method} {c : Code} {own : String} {bytes : ByteArray} {maxL : Nat} {ret : Option FieldType} {nm : String}
theorem Cx.hx (K : Cx Z p s m meth c own bytes maxL ret nm) : p.tables.exec = Jvm.exec := K.1
theorem Cx.by' (K : Cx Z p s m meth c own bytes maxL ret nm) : c.code = bytes := K.2.1
theorem Cx.ml (K : Cx Z p s m meth c own bytes maxL ret nm) : c.maxLocals = maxL := K.2.2.1
theorem Cx.rt (K : Cx Z p s m meth c own bytes maxL ret nm) : meth.sig.returnType = ret := K.2.2.2.1
theorem Cx.hnm (K : Cx Z p s m meth c own bytes maxL ret nm) : meth.name = nm := K.2.2.2.2.1
theorem Cx.lk (K : Cx Z p s m meth c own bytes maxL ret nm) : meth.locks = false := K.2.2.2.2.2.1
theorem Cx.hZ (K : Cx Z p s m meth c own bytes maxL ret nm) : Z.Warmed39 s.vm := K.2.2.2.2.2.2.1
theorem Cx.hown (K : Cx Z p s m meth c own bytes maxL ret nm) : s.vm.findClass own = some m.cls := K.2.2.2.2.2.2.2
end Acc
/-- the end of a walk -/
def Fini (s : State) (R : Room) (Q : Option Value → Heap → List Loc → Prop) (U : State) (o : Outcome) : Prop := ∃ v L, o = .returned v ∧ Q v U.heap L ∧ FrameEnd s o U L R.cells R.slots
/-- a body's contract, at the heap h0, for the arguments as' -/
def Con (l : Launch) (Z : State) (y : MethodName) (bytes : ByteArray) (maxL : Nat) (ret : Option FieldType) (rm : Room) (as' : Array Value) (h0 : Heap) (Q : Option Value → Heap → List Loc → Prop) : Prop :=
  ∀ ws : List Cond, MetFree l y (head1 (Cond.code y bytes maxL ret :: ws) rm) (fun a U => a = as' ∧ Z.Warmed39 U.vm ∧ U.heap = h0) (fun _ _ _ _ _ => True) (fun _ U o U' => ∃ v L, o = .returned v ∧ Q v U'.heap L ∧ FrameEnd U o U' L rm.cells rm.slots)
theorem Con.of {l : Launch} {Z : State} {y : MethodName} {bytes : ByteArray} {maxL : Nat} {ret : Option FieldType} {rm : Room} {as' : Array Value} {h0 : Heap} {Q : Option Value → Heap → List Loc → Prop} (hp : plainFor y = true) {Ls : Array Slot} (hE : ∀ m, entryFrame m as' maxL = mkF m 0 Ls [])
    (body : ∀ (p : Program) (e : Env) (s : State) (m : MethodId) (below : List Frame) (meth : Method) (c : Code) (T : State), Cx Z p s m meth c y.cls bytes maxL ret y.name → Stand p l e rm s m as' below meth c T [] 0 0 → T.heap = h0 → Goes p e below (Fini s rm Q) T (mkF m 0 Ls [])) : Con l Z y bytes maxL ret rm as' h0 Q := by
  intro ws
  refine MetFree.of_bodySF hp hisR ?_
  intro p e s m args below meth c s₁ Bd hml0 hP hK
  obtain ⟨rfl, hZ, hh⟩ := hP
  obtain ⟨U, o, h1, h2, h3, h4⟩ := body p e s m below meth c s₁ ⟨Bd.exec, Bd.bytes, hml0, Bd.returns, (name_of_methodNamed Bd.named Bd.method).1, Bd.notSynchronized, hZ, findClass_of_methodNamed Bd.named⟩ (Stand.of_body Bd) (by rw [← hh, Bd.state]; rfl)
  rw [← hE m] at h1
  exact ⟨U, o, h1, h2, h3, h4⟩
theorem Con.mono {l : Launch} {Z : State} {y : MethodName} {bytes : ByteArray} {maxL : Nat} {ret : Option FieldType} {rm : Room} {as' : Array Value} {h0 : Heap} {Q Q' : Option Value → Heap → List Loc → Prop} (K : Con l Z y bytes maxL ret rm as' h0 Q) (q : ∀ v h L, Q v h L → Q' v h L) : Con l Z y bytes maxL ret rm as' h0 Q' := by
  intro ws p e ha hc hk s m args below hf happ hP hK
  obtain ⟨n, o, h1, h2, h3, v, L, h4, h5, h6⟩ := K ws p e ha hc hk s m args below hf happ hP hK
  exact ⟨n, o, h1, h2, h3, v, L, h4, q _ _ _ h5, h6⟩
theorem and_l {a b : Prop} (h : a ∧ b) : a := h.1
section Steps

variable {Z : State} {p : Program} {l : Launch} {e : Env} {R : Room} {s : State} {m : MethodId} {args : Array Value} {below : List Frame} {meth : Method} {c : Code} {T : State} {locs : List Loc} {cells slots : Nat} {own : String} {bytes : ByteArray} {maxL : Nat} {ret : Option FieldType} {nm : String} {P : State → Outcome → Prop} {pc q : Nat} {Ls : Array Slot} {st : List Value} {h : Heap} {a0 : Array Value}
theorem s_iloadN (K : Cx Z p s m meth c own bytes maxL ret nm) (X : Stand p l e R s m args below meth c T locs cells slots) {k : Fin 4} {v : Int32} (hd : decode bytes pc = .ok (.iload_n k, 1)) (hl : Ls[k.val]? = some (.val (.int v))) (hq : pc + 1 = q) (h : Goes p e below P T (mkF m q Ls (.int v :: st))) : Goes p e below P T (mkF m pc Ls (st)) := by
  subst hq; exact Goes.st (fun _ k => XS.iloadN X.here K.hx rfl (hb K.by' hd) hl k) h
theorem s_iload (K : Cx Z p s m meth c own bytes maxL ret nm) (X : Stand p l e R s m args below meth c T locs cells slots) {k : Nat} {v : Int32} (hd : decode bytes pc = .ok (.iload k, 2)) (hl : Ls[k]? = some (.val (.int v))) (hq : pc + 2 = q) (h : Goes p e below P T (mkF m q Ls (.int v :: st))) : Goes p e below P T (mkF m pc Ls (st)) := by
  subst hq; exact Goes.st (fun _ k => XS.iload X.here K.hx rfl (hb K.by' hd) hl k) h
theorem s_aloadN (K : Cx Z p s m meth c own bytes maxL ret nm) (X : Stand p l e R s m args below meth c T locs cells slots) {k : Fin 4} {v : Value} (hd : decode bytes pc = .ok (.aload_n k, 1)) (hl : Ls[k.val]? = some (.val v)) (hv : v.isRef = true) (hq : pc + 1 = q) (h : Goes p e below P T (mkF m q Ls (v :: st))) : Goes p e below P T (mkF m pc Ls (st)) := by
  subst hq; exact Goes.st (fun _ k => XS.aloadN X.here K.hx rfl (hb K.by' hd) hl hv k) h
theorem s_aload (K : Cx Z p s m meth c own bytes maxL ret nm) (X : Stand p l e R s m args below meth c T locs cells slots) {k : Nat} {v : Value} (hd : decode bytes pc = .ok (.aload k, 2)) (hl : Ls[k]? = some (.val v)) (hv : v.isRef = true) (hq : pc + 2 = q) (h : Goes p e below P T (mkF m q Ls (v :: st))) : Goes p e below P T (mkF m pc Ls (st)) := by
  subst hq; exact Goes.st (fun _ k => XS.aload X.here K.hx rfl (hb K.by' hd) hl hv k) h
theorem s_istoreN (K : Cx Z p s m meth c own bytes maxL ret nm) (X : Stand p l e R s m args below meth c T locs cells slots) {k : Fin 4} {x : Int32} {l' : Array Slot} (hd : decode bytes pc = .ok (.istore_n k, 1)) (hl : storeLocals Ls k.val (.int x) = some l') (hq : pc + 1 = q) (h : Goes p e below P T (mkF m q l' (st))) : Goes p e below P T (mkF m pc Ls (.int x :: st)) := by
  subst hq; exact Goes.st (fun _ k => XS.istoreN X.here K.hx rfl (hb K.by' hd) rfl hl k) h
theorem s_istore (K : Cx Z p s m meth c own bytes maxL ret nm) (X : Stand p l e R s m args below meth c T locs cells slots) {k : Nat} {x : Int32} {l' : Array Slot} (hd : decode bytes pc = .ok (.istore k, 2)) (hl : storeLocals Ls k (.int x) = some l') (hq : pc + 2 = q) (h : Goes p e below P T (mkF m q l' (st))) : Goes p e below P T (mkF m pc Ls (.int x :: st)) := by
  subst hq; exact Goes.st (fun _ k => XS.istore X.here K.hx rfl (hb K.by' hd) rfl hl k) h
theorem s_astoreN (K : Cx Z p s m meth c own bytes maxL ret nm) (X : Stand p l e R s m args below meth c T locs cells slots) {k : Fin 4} {x : Value} {l' : Array Slot} (hd : decode bytes pc = .ok (.astore_n k, 1)) (hv : x.isRef = true) (hl : storeLocals Ls k.val x = some l') (hq : pc + 1 = q) (h : Goes p e below P T (mkF m q l' (st))) : Goes p e below P T (mkF m pc Ls (x :: st)) := by
  subst hq; exact Goes.st (fun _ k => XS.astoreN X.here K.hx rfl (hb K.by' hd) rfl hv hl k) h
theorem s_astore (K : Cx Z p s m meth c own bytes maxL ret nm) (X : Stand p l e R s m args below meth c T locs cells slots) {k : Nat} {x : Value} {l' : Array Slot} (hd : decode bytes pc = .ok (.astore k, 2)) (hv : x.isRef = true) (hl : storeLocals Ls k x = some l') (hq : pc + 2 = q) (h : Goes p e below P T (mkF m q l' (st))) : Goes p e below P T (mkF m pc Ls (x :: st)) := by
  subst hq; exact Goes.st (fun _ k => XS.astore X.here K.hx rfl (hb K.by' hd) rfl hv hl k) h
theorem s_iconst (K : Cx Z p s m meth c own bytes maxL ret nm) (X : Stand p l e R s m args below meth c T locs cells slots) {i : Int} {z : Int32} (hd : decode bytes pc = .ok (.iconst i, 1)) (hz : Int32.ofInt i = z) (hq : pc + 1 = q) (h : Goes p e below P T (mkF m q Ls (.int z :: st))) : Goes p e below P T (mkF m pc Ls (st)) := by
  subst hq; exact Goes.st (fun _ k => XS.iconst X.here K.hx rfl (hb K.by' hd) (by rw [hz]; exact k)) h
theorem s_bipush (K : Cx Z p s m meth c own bytes maxL ret nm) (X : Stand p l e R s m args below meth c T locs cells slots) {i : Int} {z : Int32} (hd : decode bytes pc = .ok (.bipush i, 2)) (hz : (Int8.ofInt i).toInt32 = z) (hq : pc + 2 = q) (h : Goes p e below P T (mkF m q Ls (.int z :: st))) : Goes p e below P T (mkF m pc Ls (st)) := by
  subst hq; exact Goes.st (fun _ k => XS.bipush X.here K.hx rfl (hb K.by' hd) (by rw [hz]; exact k)) h
theorem s_sipush (K : Cx Z p s m meth c own bytes maxL ret nm) (X : Stand p l e R s m args below meth c T locs cells slots) {i : Int} {z : Int32} (hd : decode bytes pc = .ok (.sipush i, 3)) (hz : (Int16.ofInt i).toInt32 = z) (hq : pc + 3 = q) (h : Goes p e below P T (mkF m q Ls (.int z :: st))) : Goes p e below P T (mkF m pc Ls (st)) := by
  subst hq; exact Goes.st (fun _ k => XS.sipush X.here K.hx rfl (hb K.by' hd) (by rw [hz]; exact k)) h
theorem s_ldcI (K : Cx Z p s m meth c own bytes maxL ret nm) (X : Stand p l e R s m args below meth c T locs cells slots) {i : Nat} {v : Int32} (hd : decode bytes pc = .ok (.ldc i, 2)) (w : (Cond.constant own i v).before a0 Z = true) (hq : pc + 2 = q) (h : Goes p e below P T (mkF m q Ls (.int v :: st))) : Goes p e below P T (mkF m pc Ls (st)) := by
  subst hq; exact Goes.st (fun _ k => X.ldcI K.hx K.hown (mvT K.hZ w) rfl (hb K.by' hd) k) h
theorem s_anull (K : Cx Z p s m meth c own bytes maxL ret nm) (X : Stand p l e R s m args below meth c T locs cells slots)  (hd : decode bytes pc = .ok (.aconst_null, 1))  (hq : pc + 1 = q) (h : Goes p e below P T (mkF m q Ls (.null :: st))) : Goes p e below P T (mkF m pc Ls (st)) := by
  subst hq; exact Goes.st (fun _ k => XS.aconstNull X.here K.hx rfl (hb K.by' hd) k) h
theorem s_iadd (K : Cx Z p s m meth c own bytes maxL ret nm) (X : Stand p l e R s m args below meth c T locs cells slots) {x y : Int32} (hd : decode bytes pc = .ok (.iadd, 1))  (hq : pc + 1 = q) (h : Goes p e below P T (mkF m q Ls (.int (x + y) :: st))) : Goes p e below P T (mkF m pc Ls (.int y :: .int x :: st)) := by
  subst hq; exact Goes.st (fun _ k => XS.iadd X.here K.hx rfl (hb K.by' hd) rfl k) h
theorem s_isub (K : Cx Z p s m meth c own bytes maxL ret nm) (X : Stand p l e R s m args below meth c T locs cells slots) {x y : Int32} (hd : decode bytes pc = .ok (.isub, 1))  (hq : pc + 1 = q) (h : Goes p e below P T (mkF m q Ls (.int (x - y) :: st))) : Goes p e below P T (mkF m pc Ls (.int y :: .int x :: st)) := by
  subst hq; exact Goes.st (fun _ k => XS.isub X.here K.hx rfl (hb K.by' hd) rfl k) h
theorem s_iand (K : Cx Z p s m meth c own bytes maxL ret nm) (X : Stand p l e R s m args below meth c T locs cells slots) {x y : Int32} (hd : decode bytes pc = .ok (.iand, 1))  (hq : pc + 1 = q) (h : Goes p e below P T (mkF m q Ls (.int (x &&& y) :: st))) : Goes p e below P T (mkF m pc Ls (.int y :: .int x :: st)) := by
  subst hq; exact Goes.st (fun _ k => XS.iand X.here K.hx rfl (hb K.by' hd) rfl k) h
theorem s_ishr (K : Cx Z p s m meth c own bytes maxL ret nm) (X : Stand p l e R s m args below meth c T locs cells slots) {x y : Int32} (hd : decode bytes pc = .ok (.ishr, 1))  (hq : pc + 1 = q) (h : Goes p e below P T (mkF m q Ls (.int (x >>> (y &&& 31)) :: st))) : Goes p e below P T (mkF m pc Ls (.int y :: .int x :: st)) := by
  subst hq; exact Goes.st (fun _ k => XT.ishr X.here K.hx rfl (hb K.by' hd) rfl k) h
theorem s_iushr (K : Cx Z p s m meth c own bytes maxL ret nm) (X : Stand p l e R s m args below meth c T locs cells slots) {x y : Int32} (hd : decode bytes pc = .ok (.iushr, 1))  (hq : pc + 1 = q) (h : Goes p e below P T (mkF m q Ls (.int (XT.ushr x y) :: st))) : Goes p e below P T (mkF m pc Ls (.int y :: .int x :: st)) := by
  subst hq; exact Goes.st (fun _ k => XT.iushr X.here K.hx rfl (hb K.by' hd) rfl k) h
theorem s_irem (K : Cx Z p s m meth c own bytes maxL ret nm) (X : Stand p l e R s m args below meth c T locs cells slots) {x y : Int32} (hd : decode bytes pc = .ok (.irem, 1)) (hy : y ≠ 0) (hq : pc + 1 = q) (h : Goes p e below P T (mkF m q Ls (.int (x % y) :: st))) : Goes p e below P T (mkF m pc Ls (.int y :: .int x :: st)) := by
  subst hq; exact Goes.st (fun _ k => iremM X K.hx rfl (hb K.by' hd) rfl hy k) h
theorem s_i2b (K : Cx Z p s m meth c own bytes maxL ret nm) (X : Stand p l e R s m args below meth c T locs cells slots) {x : Int32} (hd : decode bytes pc = .ok (.i2b, 1))  (hq : pc + 1 = q) (h : Goes p e below P T (mkF m q Ls (.int (x.toInt8.toInt32) :: st))) : Goes p e below P T (mkF m pc Ls (.int x :: st)) := by
  subst hq; exact Goes.st (fun _ k => XT.i2b X.here K.hx rfl (hb K.by' hd) rfl k) h
theorem s_dup (K : Cx Z p s m meth c own bytes maxL ret nm) (X : Stand p l e R s m args below meth c T locs cells slots) {x : Value} (hd : decode bytes pc = .ok (.dup, 1)) (hc : x.category = 1) (hq : pc + 1 = q) (h : Goes p e below P T (mkF m q Ls (x :: x :: st))) : Goes p e below P T (mkF m pc Ls (x :: st)) := by
  subst hq; exact Goes.st (fun _ k => XS.dup X.here K.hx rfl (hb K.by' hd) rfl hc k) h
theorem s_pop (K : Cx Z p s m meth c own bytes maxL ret nm) (X : Stand p l e R s m args below meth c T locs cells slots) {x : Value} (hd : decode bytes pc = .ok (.pop, 1)) (hc : x.category = 1) (hq : pc + 1 = q) (h : Goes p e below P T (mkF m q Ls (st))) : Goes p e below P T (mkF m pc Ls (x :: st)) := by
  subst hq; exact Goes.st (fun _ k => XT.pop X.here K.hx rfl (hb K.by' hd) rfl hc k) h
theorem s_dupX1 (K : Cx Z p s m meth c own bytes maxL ret nm) (X : Stand p l e R s m args below meth c T locs cells slots) {x y : Value} (hd : decode bytes pc = .ok (.dup_x1, 1)) (hc : x.category = 1) (hc' : y.category = 1) (hq : pc + 1 = q) (h : Goes p e below P T (mkF m q Ls (x :: y :: x :: st))) : Goes p e below P T (mkF m pc Ls (x :: y :: st)) := by
  subst hq; exact Goes.st (fun _ k => XT.dupX1 X.here K.hx rfl (hb K.by' hd) rfl hc hc' k) h
theorem s_iinc (K : Cx Z p s m meth c own bytes maxL ret nm) (X : Stand p l e R s m args below meth c T locs cells slots) {k : Nat} {cst : Int} {x : Int32} {l' : Array Slot} (hd : decode bytes pc = .ok (.iinc k cst, 3)) (hl : Ls[k]? = some (.val (.int x))) (hl' : storeLocals Ls k (.int (x + Int32.ofInt cst)) = some l') (hq : pc + 3 = q) (h : Goes p e below P T (mkF m q l' (st))) : Goes p e below P T (mkF m pc Ls (st)) := by
  subst hq; exact Goes.st (fun _ k => XS.iinc X.here K.hx rfl (hb K.by' hd) hl hl' k) h
theorem s_goto (K : Cx Z p s m meth c own bytes maxL ret nm) (X : Stand p l e R s m args below meth c T locs cells slots) {o : Int} (hd : decode bytes pc = .ok (.goto o, 3)) (ho : 0 ≤ (pc : Int) + o) (hp : ((pc : Int) + o).toNat = q) (h : Goes p e below P T (mkF m q Ls st)) : Goes p e below P T (mkF m pc Ls st) :=
  Goes.st (fun _ k => XS.goto X.here K.hx rfl rfl (hb K.by' hd) ho hp k) h
theorem s_icmp_eq (K : Cx Z p s m meth c own bytes maxL ret nm) (X : Stand p l e R s m args below meth c T locs cells slots) {x y : Int32} {o : Int} {q' : Nat} (hd : decode bytes pc = .ok (.if_icmp .eq o, 3)) (ho : 0 ≤ (pc : Int) + o) (hp : ((pc : Int) + o).toNat = q) (hq : pc + 3 = q') (hy : x = y → Goes p e below P T (mkF m q Ls st)) (hn : ¬ x = y → Goes p e below P T (mkF m q' Ls st)) : Goes p e below P T (mkF m pc Ls (.int y :: .int x :: st)) := by
  subst hq
  by_cases z : x = y
  · exact Goes.st (fun _ k => XS.icmpYes X.here K.hx rfl rfl (hb K.by' hd) rfl (XT.ii_eq_t z) ho hp k) (hy z)
  · exact Goes.st (fun _ k => XS.icmpNo X.here K.hx rfl (hb K.by' hd) rfl (XT.ii_eq_f (by simpa using z)) k) (hn (by simpa using z))
theorem s_if_eq (K : Cx Z p s m meth c own bytes maxL ret nm) (X : Stand p l e R s m args below meth c T locs cells slots) {x : Int32} {o : Int} {q' : Nat} (hd : decode bytes pc = .ok (.ifCond .eq o, 3)) (ho : 0 ≤ (pc : Int) + o) (hp : ((pc : Int) + o).toNat = q) (hq : pc + 3 = q') (hy : x = 0 → Goes p e below P T (mkF m q Ls st)) (hn : ¬ x = 0 → Goes p e below P T (mkF m q' Ls st)) : Goes p e below P T (mkF m pc Ls (.int x :: st)) := by
  subst hq
  by_cases z : x = 0
  · exact Goes.st (fun _ k => XS.ifYes X.here K.hx rfl rfl (hb K.by' hd) rfl (XT.i0_eq_t z) ho hp k) (hy z)
  · exact Goes.st (fun _ k => XS.ifNo X.here K.hx rfl (hb K.by' hd) rfl (XT.i0_eq_f (by simpa using z)) k) (hn (by simpa using z))
theorem s_icmp_ne (K : Cx Z p s m meth c own bytes maxL ret nm) (X : Stand p l e R s m args below meth c T locs cells slots) {x y : Int32} {o : Int} {q' : Nat} (hd : decode bytes pc = .ok (.if_icmp .ne o, 3)) (ho : 0 ≤ (pc : Int) + o) (hp : ((pc : Int) + o).toNat = q) (hq : pc + 3 = q') (hy : ¬ x = y → Goes p e below P T (mkF m q Ls st)) (hn : x = y → Goes p e below P T (mkF m q' Ls st)) : Goes p e below P T (mkF m pc Ls (.int y :: .int x :: st)) := by
  subst hq
  by_cases z : ¬ x = y
  · exact Goes.st (fun _ k => XS.icmpYes X.here K.hx rfl rfl (hb K.by' hd) rfl (XT.ii_ne_t z) ho hp k) (hy z)
  · exact Goes.st (fun _ k => XS.icmpNo X.here K.hx rfl (hb K.by' hd) rfl (XT.ii_ne_f (by simpa using z)) k) (hn (by simpa using z))
theorem s_if_ne (K : Cx Z p s m meth c own bytes maxL ret nm) (X : Stand p l e R s m args below meth c T locs cells slots) {x : Int32} {o : Int} {q' : Nat} (hd : decode bytes pc = .ok (.ifCond .ne o, 3)) (ho : 0 ≤ (pc : Int) + o) (hp : ((pc : Int) + o).toNat = q) (hq : pc + 3 = q') (hy : ¬ x = 0 → Goes p e below P T (mkF m q Ls st)) (hn : x = 0 → Goes p e below P T (mkF m q' Ls st)) : Goes p e below P T (mkF m pc Ls (.int x :: st)) := by
  subst hq
  by_cases z : ¬ x = 0
  · exact Goes.st (fun _ k => XS.ifYes X.here K.hx rfl rfl (hb K.by' hd) rfl (XT.i0_ne_t z) ho hp k) (hy z)
  · exact Goes.st (fun _ k => XS.ifNo X.here K.hx rfl (hb K.by' hd) rfl (XT.i0_ne_f (by simpa using z)) k) (hn (by simpa using z))
theorem s_icmp_lt (K : Cx Z p s m meth c own bytes maxL ret nm) (X : Stand p l e R s m args below meth c T locs cells slots) {x y : Int32} {o : Int} {q' : Nat} (hd : decode bytes pc = .ok (.if_icmp .lt o, 3)) (ho : 0 ≤ (pc : Int) + o) (hp : ((pc : Int) + o).toNat = q) (hq : pc + 3 = q') (hy : x < y → Goes p e below P T (mkF m q Ls st)) (hn : ¬ x < y → Goes p e below P T (mkF m q' Ls st)) : Goes p e below P T (mkF m pc Ls (.int y :: .int x :: st)) := by
  subst hq
  by_cases z : x < y
  · exact Goes.st (fun _ k => XS.icmpYes X.here K.hx rfl rfl (hb K.by' hd) rfl (XT.ii_lt_t z) ho hp k) (hy z)
  · exact Goes.st (fun _ k => XS.icmpNo X.here K.hx rfl (hb K.by' hd) rfl (XT.ii_lt_f (by simpa using z)) k) (hn (by simpa using z))
theorem s_if_lt (K : Cx Z p s m meth c own bytes maxL ret nm) (X : Stand p l e R s m args below meth c T locs cells slots) {x : Int32} {o : Int} {q' : Nat} (hd : decode bytes pc = .ok (.ifCond .lt o, 3)) (ho : 0 ≤ (pc : Int) + o) (hp : ((pc : Int) + o).toNat = q) (hq : pc + 3 = q') (hy : x < 0 → Goes p e below P T (mkF m q Ls st)) (hn : ¬ x < 0 → Goes p e below P T (mkF m q' Ls st)) : Goes p e below P T (mkF m pc Ls (.int x :: st)) := by
  subst hq
  by_cases z : x < 0
  · exact Goes.st (fun _ k => XS.ifYes X.here K.hx rfl rfl (hb K.by' hd) rfl (XT.i0_lt_t z) ho hp k) (hy z)
  · exact Goes.st (fun _ k => XS.ifNo X.here K.hx rfl (hb K.by' hd) rfl (XT.i0_lt_f (by simpa using z)) k) (hn (by simpa using z))
theorem s_icmp_ge (K : Cx Z p s m meth c own bytes maxL ret nm) (X : Stand p l e R s m args below meth c T locs cells slots) {x y : Int32} {o : Int} {q' : Nat} (hd : decode bytes pc = .ok (.if_icmp .ge o, 3)) (ho : 0 ≤ (pc : Int) + o) (hp : ((pc : Int) + o).toNat = q) (hq : pc + 3 = q') (hy : ¬ x < y → Goes p e below P T (mkF m q Ls st)) (hn : x < y → Goes p e below P T (mkF m q' Ls st)) : Goes p e below P T (mkF m pc Ls (.int y :: .int x :: st)) := by
  subst hq
  by_cases z : ¬ x < y
  · exact Goes.st (fun _ k => XS.icmpYes X.here K.hx rfl rfl (hb K.by' hd) rfl (XT.ii_ge_t z) ho hp k) (hy z)
  · exact Goes.st (fun _ k => XS.icmpNo X.here K.hx rfl (hb K.by' hd) rfl (XT.ii_ge_f (by simpa using z)) k) (hn (by simpa using z))
theorem s_if_ge (K : Cx Z p s m meth c own bytes maxL ret nm) (X : Stand p l e R s m args below meth c T locs cells slots) {x : Int32} {o : Int} {q' : Nat} (hd : decode bytes pc = .ok (.ifCond .ge o, 3)) (ho : 0 ≤ (pc : Int) + o) (hp : ((pc : Int) + o).toNat = q) (hq : pc + 3 = q') (hy : ¬ x < 0 → Goes p e below P T (mkF m q Ls st)) (hn : x < 0 → Goes p e below P T (mkF m q' Ls st)) : Goes p e below P T (mkF m pc Ls (.int x :: st)) := by
  subst hq
  by_cases z : ¬ x < 0
  · exact Goes.st (fun _ k => XS.ifYes X.here K.hx rfl rfl (hb K.by' hd) rfl (XT.i0_ge_t z) ho hp k) (hy z)
  · exact Goes.st (fun _ k => XS.ifNo X.here K.hx rfl (hb K.by' hd) rfl (XT.i0_ge_f (by simpa using z)) k) (hn (by simpa using z))
theorem s_icmp_gt (K : Cx Z p s m meth c own bytes maxL ret nm) (X : Stand p l e R s m args below meth c T locs cells slots) {x y : Int32} {o : Int} {q' : Nat} (hd : decode bytes pc = .ok (.if_icmp .gt o, 3)) (ho : 0 ≤ (pc : Int) + o) (hp : ((pc : Int) + o).toNat = q) (hq : pc + 3 = q') (hy : y < x → Goes p e below P T (mkF m q Ls st)) (hn : ¬ y < x → Goes p e below P T (mkF m q' Ls st)) : Goes p e below P T (mkF m pc Ls (.int y :: .int x :: st)) := by
  subst hq
  by_cases z : y < x
  · exact Goes.st (fun _ k => XS.icmpYes X.here K.hx rfl rfl (hb K.by' hd) rfl (XT.ii_gt_t z) ho hp k) (hy z)
  · exact Goes.st (fun _ k => XS.icmpNo X.here K.hx rfl (hb K.by' hd) rfl (XT.ii_gt_f (by simpa using z)) k) (hn (by simpa using z))
theorem s_if_gt (K : Cx Z p s m meth c own bytes maxL ret nm) (X : Stand p l e R s m args below meth c T locs cells slots) {x : Int32} {o : Int} {q' : Nat} (hd : decode bytes pc = .ok (.ifCond .gt o, 3)) (ho : 0 ≤ (pc : Int) + o) (hp : ((pc : Int) + o).toNat = q) (hq : pc + 3 = q') (hy : 0 < x → Goes p e below P T (mkF m q Ls st)) (hn : ¬ 0 < x → Goes p e below P T (mkF m q' Ls st)) : Goes p e below P T (mkF m pc Ls (.int x :: st)) := by
  subst hq
  by_cases z : 0 < x
  · exact Goes.st (fun _ k => XS.ifYes X.here K.hx rfl rfl (hb K.by' hd) rfl (XT.i0_gt_t z) ho hp k) (hy z)
  · exact Goes.st (fun _ k => XS.ifNo X.here K.hx rfl (hb K.by' hd) rfl (XT.i0_gt_f (by simpa using z)) k) (hn (by simpa using z))
theorem s_icmp_le (K : Cx Z p s m meth c own bytes maxL ret nm) (X : Stand p l e R s m args below meth c T locs cells slots) {x y : Int32} {o : Int} {q' : Nat} (hd : decode bytes pc = .ok (.if_icmp .le o, 3)) (ho : 0 ≤ (pc : Int) + o) (hp : ((pc : Int) + o).toNat = q) (hq : pc + 3 = q') (hy : ¬ y < x → Goes p e below P T (mkF m q Ls st)) (hn : y < x → Goes p e below P T (mkF m q' Ls st)) : Goes p e below P T (mkF m pc Ls (.int y :: .int x :: st)) := by
  subst hq
  by_cases z : ¬ y < x
  · exact Goes.st (fun _ k => XS.icmpYes X.here K.hx rfl rfl (hb K.by' hd) rfl (XT.ii_le_t z) ho hp k) (hy z)
  · exact Goes.st (fun _ k => XS.icmpNo X.here K.hx rfl (hb K.by' hd) rfl (XT.ii_le_f (by simpa using z)) k) (hn (by simpa using z))
theorem s_if_le (K : Cx Z p s m meth c own bytes maxL ret nm) (X : Stand p l e R s m args below meth c T locs cells slots) {x : Int32} {o : Int} {q' : Nat} (hd : decode bytes pc = .ok (.ifCond .le o, 3)) (ho : 0 ≤ (pc : Int) + o) (hp : ((pc : Int) + o).toNat = q) (hq : pc + 3 = q') (hy : ¬ 0 < x → Goes p e below P T (mkF m q Ls st)) (hn : 0 < x → Goes p e below P T (mkF m q' Ls st)) : Goes p e below P T (mkF m pc Ls (.int x :: st)) := by
  subst hq
  by_cases z : ¬ 0 < x
  · exact Goes.st (fun _ k => XS.ifYes X.here K.hx rfl rfl (hb K.by' hd) rfl (XT.i0_le_t z) ho hp k) (hy z)
  · exact Goes.st (fun _ k => XS.ifNo X.here K.hx rfl (hb K.by' hd) rfl (XT.i0_le_f (by simpa using z)) k) (hn (by simpa using z))
theorem s_acmp_eq (K : Cx Z p s m meth c own bytes maxL ret nm) (X : Stand p l e R s m args below meth c T locs cells slots) {x y : Value} {o : Int} {q' : Nat} (hd : decode bytes pc = .ok (.if_acmp .eq o, 3)) (h1 : x.isRef = true) (h2 : y.isRef = true) (ho : 0 ≤ (pc : Int) + o) (hp : ((pc : Int) + o).toNat = q) (hq : pc + 3 = q') (hy : x = y → Goes p e below P T (mkF m q Ls st)) (hn : ¬ x = y → Goes p e below P T (mkF m q' Ls st)) : Goes p e below P T (mkF m pc Ls (y :: x :: st)) := by
  subst hq
  by_cases z : x = y
  · exact Goes.st (fun _ k => XT.acmpYes X.here K.hx rfl rfl (hb K.by' hd) rfl h1 h2 (XT.aa_eq_t z) ho hp k) (hy z)
  · exact Goes.st (fun _ k => XT.acmpNo X.here K.hx rfl (hb K.by' hd) rfl h1 h2 (XT.aa_eq_f (by simpa using z)) k) (hn (by simpa using z))
theorem s_acmp_ne (K : Cx Z p s m meth c own bytes maxL ret nm) (X : Stand p l e R s m args below meth c T locs cells slots) {x y : Value} {o : Int} {q' : Nat} (hd : decode bytes pc = .ok (.if_acmp .ne o, 3)) (h1 : x.isRef = true) (h2 : y.isRef = true) (ho : 0 ≤ (pc : Int) + o) (hp : ((pc : Int) + o).toNat = q) (hq : pc + 3 = q') (hy : ¬ x = y → Goes p e below P T (mkF m q Ls st)) (hn : x = y → Goes p e below P T (mkF m q' Ls st)) : Goes p e below P T (mkF m pc Ls (y :: x :: st)) := by
  subst hq
  by_cases z : ¬ x = y
  · exact Goes.st (fun _ k => XT.acmpYes X.here K.hx rfl rfl (hb K.by' hd) rfl h1 h2 (XT.aa_ne_t z) ho hp k) (hy z)
  · exact Goes.st (fun _ k => XT.acmpNo X.here K.hx rfl (hb K.by' hd) rfl h1 h2 (XT.aa_ne_f (by simpa using z)) k) (hn (by simpa using z))
theorem s_ifnull (K : Cx Z p s m meth c own bytes maxL ret nm) (X : Stand p l e R s m args below meth c T locs cells slots) {x : Value} {o : Int} {q' : Nat} (hd : decode bytes pc = .ok (.ifnull o, 3)) (h1 : x.isRef = true) (ho : 0 ≤ (pc : Int) + o) (hp : ((pc : Int) + o).toNat = q) (hq : pc + 3 = q') (hy : x = .null → Goes p e below P T (mkF m q Ls st)) (hn : ¬ x = .null → Goes p e below P T (mkF m q' Ls st)) : Goes p e below P T (mkF m pc Ls (x :: st)) := by
  subst hq
  by_cases z : x = .null
  · exact Goes.st (fun _ k => XT.nullYes X.here K.hx rfl rfl (hb K.by' hd) rfl z ho hp k) (hy z)
  · exact Goes.st (fun _ k => XT.nullNo X.here K.hx rfl (hb K.by' hd) rfl h1 z k) (hn (by simpa using z))
theorem s_ifnonnull (K : Cx Z p s m meth c own bytes maxL ret nm) (X : Stand p l e R s m args below meth c T locs cells slots) {x : Value} {o : Int} {q' : Nat} (hd : decode bytes pc = .ok (.ifnonnull o, 3)) (h1 : x.isRef = true) (ho : 0 ≤ (pc : Int) + o) (hp : ((pc : Int) + o).toNat = q) (hq : pc + 3 = q') (hy : ¬ x = .null → Goes p e below P T (mkF m q Ls st)) (hn : x = .null → Goes p e below P T (mkF m q' Ls st)) : Goes p e below P T (mkF m pc Ls (x :: st)) := by
  subst hq
  by_cases z : ¬ x = .null
  · exact Goes.st (fun _ k => XT.nonnullYes X.here K.hx rfl rfl (hb K.by' hd) rfl h1 z ho hp k) (hy z)
  · exact Goes.st (fun _ k => XT.nonnullNo X.here K.hx rfl (hb K.by' hd) rfl (by simpa using z) k) (hn (by simpa using z))
theorem s_tsw (K : Cx Z p s m meth c own bytes maxL ret nm) (X : Stand p l e R s m args below meth c T locs cells slots) {dflt low high : Int} {offs : Array Int} {len : Nat} {o : Int} {i : Int32} (hd : decode bytes pc = .ok (.tableswitch dflt low high offs, len)) (hin : ¬ (i.toInt < low ∨ i.toInt > high)) (hoff : offs[(i.toInt - low).toNat]? = some o) (ho : 0 ≤ (pc : Int) + o) (hp : ((pc : Int) + o).toNat = q) (h : Goes p e below P T (mkF m q Ls st)) : Goes p e below P T (mkF m pc Ls (.int i :: st)) :=
  Goes.st (fun _ k => XS.tswIn X.here K.hx rfl rfl (hb K.by' hd) rfl hin hoff ho hp k) h
theorem s_getS (K : Cx Z p s m meth c own bytes maxL ret nm) (X : Stand p l e R s m args below meth c T locs cells slots) {C n d : String} {i : Nat} {v : Value} (hd : decode bytes pc = .ok (.getstatic i, 3)) (w : (Cond.fieldLink own i C n d).before a0 Z = true) (eT : T.heap = h) (F : Sta Z h C n d v) (hq : pc + 3 = q)
    (k : ∀ T', Stand p l e R s m args below meth c T' locs cells slots → T'.heap = h → Goes p e below P T' (mkF m q Ls (v :: st))) : Goes p e below P T (mkF m pc Ls st) := by
  subst hq
  obtain ⟨T', X', e', st'⟩ := getS (host := "") X K.hx K.hZ K.hown w Via.refl eT F (g := mkF m pc Ls st) rfl (hb K.by' hd)
  exact Goes.st st' (k T' X' e')
theorem s_getSN (K : Cx Z p s m meth c own bytes maxL ret nm) (X : Stand p l e R s m args below meth c T locs cells slots) {C n d host : String} {i : Nat} {v : Value} (hd : decode bytes pc = .ok (.getstatic i, 3)) (w : (Cond.fieldLinkNest own i C n d host).before a0 Z = true) (eT : T.heap = h) (F : Sta Z h C n d v) (hq : pc + 3 = q)
    (k : ∀ T', Stand p l e R s m args below meth c T' locs cells slots → T'.heap = h → Goes p e below P T' (mkF m q Ls (v :: st))) : Goes p e below P T (mkF m pc Ls st) := by
  subst hq
  obtain ⟨T', X', e', st'⟩ := getS2 X K.hx K.hZ K.hown (Or.inr w) Via.refl eT F (g := mkF m pc Ls st) rfl (hb K.by' hd)
  exact Goes.st st' (k T' X' e')
theorem s_getF (K : Cx Z p s m meth c own bytes maxL ret nm) (X : Stand p l e R s m args below meth c T locs cells slots) {C n d : String} {i : Nat} {a : Addr} {v : Value} (hd : decode bytes pc = .ok (.getfield i, 3)) (w : (Cond.fieldLink own i C n d).before a0 Z = true) (eT : T.heap = h) (F : Fld Z h a C n d v) (hq : pc + 3 = q)
    (k : ∀ T', Stand p l e R s m args below meth c T' locs cells slots → T'.heap = h → Goes p e below P T' (mkF m q Ls (v :: st))) : Goes p e below P T (mkF m pc Ls (.ref a :: st)) := by
  subst hq
  obtain ⟨T', X', e', st'⟩ := getF X K.hx K.hZ K.hown (host := "") (Or.inl w) Via.refl eT F (g := mkF m pc Ls (.ref a :: st)) rfl rfl (hb K.by' hd)
  exact Goes.st st' (k T' X' e')
theorem s_getFV (K : Cx Z p s m meth c own bytes maxL ret nm) (X : Stand p l e R s m args below meth c T locs cells slots) {R0 C n d : String} {i : Nat} {a : Addr} {v : Value} (hd : decode bytes pc = .ok (.getfield i, 3)) (w : (Cond.fieldLink own i R0 n d).before a0 Z = true) (wv : (Cond.sameField R0 C n d).before a0 Z = true) (eT : T.heap = h) (F : Fld Z h a C n d v) (hq : pc + 3 = q)
    (k : ∀ T', Stand p l e R s m args below meth c T' locs cells slots → T'.heap = h → Goes p e below P T' (mkF m q Ls (v :: st))) : Goes p e below P T (mkF m pc Ls (.ref a :: st)) := by
  subst hq
  obtain ⟨T', X', e', st'⟩ := getF X K.hx K.hZ K.hown (host := "") (Or.inl w) (Via.of wv) eT F (g := mkF m pc Ls (.ref a :: st)) rfl rfl (hb K.by' hd)
  exact Goes.st st' (k T' X' e')
theorem s_getFN (K : Cx Z p s m meth c own bytes maxL ret nm) (X : Stand p l e R s m args below meth c T locs cells slots) {C n d host : String} {i : Nat} {a : Addr} {v : Value} (hd : decode bytes pc = .ok (.getfield i, 3)) (w : (Cond.fieldLinkNest own i C n d host).before a0 Z = true) (eT : T.heap = h) (F : Fld Z h a C n d v) (hq : pc + 3 = q)
    (k : ∀ T', Stand p l e R s m args below meth c T' locs cells slots → T'.heap = h → Goes p e below P T' (mkF m q Ls (v :: st))) : Goes p e below P T (mkF m pc Ls (.ref a :: st)) := by
  subst hq
  obtain ⟨T', X', e', st'⟩ := getF X K.hx K.hZ K.hown (Or.inr w) Via.refl eT F (g := mkF m pc Ls (.ref a :: st)) rfl rfl (hb K.by' hd)
  exact Goes.st st' (k T' X' e')
/-- putfield: a field that is no final one -/
theorem s_putF (K : Cx Z p s m meth c own bytes maxL ret nm) (X : Stand p l e R s m args below meth c T locs cells slots) {C D n d : String} {i kk : Nat} {ty : FieldType} {a : Addr} {v old : Value} (hd : decode bytes pc = .ok (.putfield i, 3)) (w : (Cond.fieldLink own i D n d).before a0 Z = true) (eT : T.heap = h) (F : Fld Z h a D n d old) (E : Exa Z h a C) (L : (Cond.lays C D n d).before a0 Z = true ∨ ((Cond.laysFinal C D n d).before a0 Z = true ∧ own = D ∧ nm = "<init>")) (wi : (Cond.instantiable C kk).before a0 Z = true) (hty : parseFieldDescriptor d = some ty) (hn : narrow ty v = v) (hf : fits ty v = true) (hq : pc + 3 = q)
    (k : ∀ T' h', Stand p l e R s m args below meth c T' (locs ++ [⟨a, RoadKit.slotOf Z D n d⟩]) cells slots → T'.heap = h' → Wr h h' a (RoadKit.slotOf Z D n d) v → Goes p e below P T' (mkF m q Ls st)) : Goes p e below P T (mkF m pc Ls (v :: .ref a :: st)) := by
  subst hq
  obtain ⟨T', h', X', e', W, st'⟩ := putF X K.hx K.hZ K.hown (host := "") (Or.inl w) Via.refl eT F E (L.imp id fun z => ⟨z.1, z.2.1, K.hnm.trans z.2.2⟩) wi hty hn hf (g := mkF m pc Ls (v :: .ref a :: st)) rfl rfl (hb K.by' hd)
  exact Goes.st st' (k T' h' X' e' W)
theorem s_putFNest (K : Cx Z p s m meth c own bytes maxL ret nm) (X : Stand p l e R s m args below meth c T locs cells slots) {C D n d host : String} {i kk : Nat} {ty : FieldType} {a : Addr} {v old : Value} (hd : decode bytes pc = .ok (.putfield i, 3)) (w : (Cond.fieldLinkNest own i D n d host).before a0 Z = true) (eT : T.heap = h) (F : Fld Z h a D n d old) (E : Exa Z h a C) (L : (Cond.lays C D n d).before a0 Z = true) (wi : (Cond.instantiable C kk).before a0 Z = true) (hty : parseFieldDescriptor d = some ty) (hn : narrow ty v = v) (hf : fits ty v = true) (hq : pc + 3 = q)
    (k : ∀ T' h', Stand p l e R s m args below meth c T' (locs ++ [⟨a, RoadKit.slotOf Z D n d⟩]) cells slots → T'.heap = h' → Wr h h' a (RoadKit.slotOf Z D n d) v → Goes p e below P T' (mkF m q Ls st)) : Goes p e below P T (mkF m pc Ls (v :: .ref a :: st)) := by
  subst hq
  obtain ⟨T', h', X', e', W, st'⟩ := putF X K.hx K.hZ K.hown (Or.inr w) Via.refl eT F E (Or.inl L) wi hty hn hf (g := mkF m pc Ls (v :: .ref a :: st)) rfl rfl (hb K.by' hd)
  exact Goes.st st' (k T' h' X' e' W)
theorem s_new (K : Cx Z p s m meth c own bytes maxL ret nm) (X : Stand p l e R s m args below meth c T locs cells slots) {C : String} {i n : Nat} (hd : decode bytes pc = .ok (.new i, 3)) (w : (Cond.classLink own i C).before a0 Z = true) (wi : (Cond.instantiable C n).before a0 Z = true) (wz : (Cond.initialized C).before a0 Z = true) (eT : T.heap = h) (hc : cells + 1 ≤ R.cells) (hl : slots + n ≤ R.slots) (hq : pc + 3 = q)
    (k : ∀ T' h' a, a = h.size → Stand p l e R s m args below meth c T' locs (cells + 1) (slots + n) → T'.heap = h' → Ext h h' → Exa Z h' a C → (∀ {O nm d : String} {ty : FieldType}, Laid Z a0 C O nm d → parseFieldDescriptor d = some ty → Fld Z h' a O nm d (defaultValue ty)) → Goes p e below P T' (mkF m q Ls (.ref a :: st))) : Goes p e below P T (mkF m pc Ls st) := by
  subst hq
  obtain ⟨T', h', X', e', E, A, D, -, st'⟩ := newO X K.hx K.hZ K.hown w wi wz eT (g := mkF m pc Ls st) rfl (hb K.by' hd) hc hl
  exact Goes.st st' (k T' h' h.size rfl X' e' E A D)
theorem s_newR (K : Cx Z p s m meth c own bytes maxL ret nm) (X : Stand p l e R s m args below meth c T locs cells slots) {C : String} {i : Nat} {n : Int32} (hd : decode bytes pc = .ok (.anewarray i, 3)) (w1 : (Cond.classLink own i C).before a0 Z = true) (w2 : (Cond.arrayOver (.object C)).before a0 Z = true) (eT : T.heap = h) (hn : ¬ n < 0) (cap : Nat) (hcap : n.toNatClampNeg ≤ cap) (hb' : cap * 8 ≤ 536870912) (hc : cells + 1 ≤ R.cells) (hl : slots + cap ≤ R.slots) (hq : pc + 3 = q)
    (k : ∀ T' h' a cA, a = h.size → Stand p l e R s m args below meth c T' locs (cells + 1) (slots + cap) → T'.heap = h' → Ext h h' → Arr Z h' a (newA cA (.object C) n) (.object C) → Ovr Z cA C → Goes p e below P T' (mkF m q Ls (.ref a :: st))) : Goes p e below P T (mkF m pc Ls (.int n :: st)) := by
  subst hq
  obtain ⟨T', h', cA, X', e', E, A, O, st'⟩ := newR X K.hx K.hZ K.hown w1 w2 eT (g := mkF m pc Ls (.int n :: st)) rfl (hb K.by' hd) rfl hn hcap hb' hc hl
  exact Goes.st st' (k T' h' h.size cA rfl X' e' E A O)
theorem s_newP (K : Cx Z p s m meth c own bytes maxL ret nm) (X : Stand p l e R s m args below meth c T locs cells slots) {aty : ArrayType} {n : Int32} (hd : decode bytes pc = .ok (.newarray aty, 2)) (w : (Cond.arrayClass (newarray.typeOf aty)).before a0 Z = true) (eT : T.heap = h) (hn : ¬ n < 0) (cap : Nat) (hcap : n.toNatClampNeg ≤ cap) (hb' : cap * 8 ≤ 536870912) (hc : cells + 1 ≤ R.cells) (hl : slots + cap ≤ R.slots) (hq : pc + 2 = q)
    (k : ∀ T' h' a cA, a = h.size → Stand p l e R s m args below meth c T' locs (cells + 1) (slots + cap) → T'.heap = h' → Ext h h' → Arr Z h' a (newA cA (newarray.typeOf aty) n) (newarray.typeOf aty) → Goes p e below P T' (mkF m q Ls (.ref a :: st))) : Goes p e below P T (mkF m pc Ls (.int n :: st)) := by
  subst hq
  obtain ⟨T', h', cA, X', e', E, A, st'⟩ := newP X K.hx K.hZ w eT (g := mkF m pc Ls (.int n :: st)) rfl (hb K.by' hd) rfl hn hcap hb' hc hl
  exact Goes.st st' (k T' h' h.size cA rfl X' e' E A)
theorem s_stR (K : Cx Z p s m meth c own bytes maxL ret nm) (X : Stand p l e R s m args below meth c T locs cells slots) {a : Addr} {cl : Cell} {ty : FieldType} {j : Int32} {v : Value} (hd : decode bytes pc = .ok (.aastore, 1)) (eT : T.heap = h) (A : Arr Z h a cl ty) (hj : ¬ (j < 0 ∨ cl.slots.size ≤ j.toNatClampNeg)) (hty : ty.isReference = true) (F : Sto Z h a v) (hq : pc + 1 = q)
    (k : ∀ T' h', Stand p l e R s m args below meth c T' (locs ++ [⟨a, j.toNatClampNeg⟩]) cells slots → T'.heap = h' → Wr h h' a j.toNatClampNeg v → Goes p e below P T' (mkF m q Ls st)) : Goes p e below P T (mkF m pc Ls (v :: .int j :: .ref a :: st)) := by
  subst hq
  obtain ⟨T', h', X', e', W, st'⟩ := stR X K.hx K.hZ eT A hj hty F (g := mkF m pc Ls (v :: .int j :: .ref a :: st)) rfl rfl (hb K.by' hd)
  exact Goes.st st' (k T' h' X' e' W)
theorem s_stC (K : Cx Z p s m meth c own bytes maxL ret nm) (X : Stand p l e R s m args below meth c T locs cells slots) {a : Addr} {cl : Cell} {j x : Int32} (hd : decode bytes pc = .ok (.castore, 1)) (eT : T.heap = h) (A : Arr Z h a cl .char) (hj : ¬ (j < 0 ∨ cl.slots.size ≤ j.toNatClampNeg)) (hq : pc + 1 = q)
    (k : ∀ T' h', Stand p l e R s m args below meth c T' (locs ++ [⟨a, j.toNatClampNeg⟩]) cells slots → T'.heap = h' → Wr h h' a j.toNatClampNeg (.int (nar .char x)) → Goes p e below P T' (mkF m q Ls st)) : Goes p e below P T (mkF m pc Ls (.int x :: .int j :: .ref a :: st)) := by
  subst hq
  obtain ⟨T', h', X', e', W, st'⟩ := stC X K.hx K.hZ eT A hj (g := mkF m pc Ls (.int x :: .int j :: .ref a :: st)) rfl rfl (hb K.by' hd)
  exact Goes.st st' (k T' h' X' e' W)
theorem s_aaload (K : Cx Z p s m meth c own bytes maxL ret nm) (X : Stand p l e R s m args below meth c T locs cells slots) {a : Addr} {cl : Cell} {ty : FieldType} {j : Int32} {v : Value} (hd : decode bytes pc = .ok (.aaload, 1)) (eT : T.heap = h) (A : Arr Z h a cl ty) (hty : ty.isReference = true) (hj : ¬ (j < 0 ∨ cl.slots.size ≤ j.toNatClampNeg)) (hv : cl.slots[j.toNatClampNeg]? = some v) (hq : pc + 1 = q) (k : Goes p e below P T (mkF m q Ls (v :: st))) : Goes p e below P T (mkF m pc Ls (.int j :: .ref a :: st)) := by
  subst hq
  exact Goes.st (fun t kk => X.aaload K.hx (j := j) (v := v) (by rw [eT]; exact A.1) (State.isArrayOf_alike K.hZ.alike A.2.1) hty A.2.2 hj hv (g := mkF m pc Ls (.int j :: .ref a :: st)) rfl rfl (hb K.by' hd) t kk) k
theorem s_alen (K : Cx Z p s m meth c own bytes maxL ret nm) (X : Stand p l e R s m args below meth c T locs cells slots) {a : Addr} {cl : Cell} {ty : FieldType} {z : Int32} (hd : decode bytes pc = .ok (.arraylength, 1)) (eT : T.heap = h) (A : Arr Z h a cl ty) (hz : cl.slots.size.toInt32 = z) (hq : pc + 1 = q) (k : Goes p e below P T (mkF m q Ls (.int z :: st))) : Goes p e below P T (mkF m pc Ls (.ref a :: st)) := by
  subst hq hz
  exact Goes.st (fun t kk => X.arraylength K.hx (by rw [eT]; exact A.1) (State.isArrayOf_alike K.hZ.alike A.2.1) (g := mkF m pc Ls (.ref a :: st)) rfl rfl (hb K.by' hd) t kk) k
theorem s_castY (K : Cx Z p s m meth c own bytes maxL ret nm) (X : Stand p l e R s m args below meth c T locs cells slots) {C : String} {i : Nat} {a : Addr} (hd : decode bytes pc = .ok (.checkcast i, 3)) (w : (Cond.classLink own i C).before a0 Z = true) (eT : T.heap = h) (F : Ins Z h a C true) (hq : pc + 3 = q)
    (k : ∀ T', Stand p l e R s m args below meth c T' locs cells slots → T'.heap = h → Goes p e below P T' (mkF m q Ls (.ref a :: st))) : Goes p e below P T (mkF m pc Ls (.ref a :: st)) := by
  subst hq
  obtain ⟨T', X', e', st'⟩ := castY X K.hx K.hZ K.hown w eT F (g := mkF m pc Ls (.ref a :: st)) rfl rfl (hb K.by' hd)
  exact Goes.st st' (k T' X' e')
theorem s_castN (K : Cx Z p s m meth c own bytes maxL ret nm) (X : Stand p l e R s m args below meth c T locs cells slots) {i : Nat} (hd : decode bytes pc = .ok (.checkcast i, 3)) (hq : pc + 3 = q) (k : Goes p e below P T (mkF m q Ls (.null :: st))) : Goes p e below P T (mkF m pc Ls (.null :: st)) := by
  subst hq
  exact Goes.st (fun t kk => X.checkcastNull K.hx (g := mkF m pc Ls (.null :: st)) rfl rfl (hb K.by' hd) t kk) k
theorem s_instY (K : Cx Z p s m meth c own bytes maxL ret nm) (X : Stand p l e R s m args below meth c T locs cells slots) {C : String} {i : Nat} {a : Addr} (hd : decode bytes pc = .ok (.instanceof i, 3)) (w : (Cond.classLink own i C).before a0 Z = true) (eT : T.heap = h) (F : Ins Z h a C true) (hq : pc + 3 = q)
    (k : ∀ T', Stand p l e R s m args below meth c T' locs cells slots → T'.heap = h → Goes p e below P T' (mkF m q Ls (.int 1 :: st))) : Goes p e below P T (mkF m pc Ls (.ref a :: st)) := by
  subst hq
  obtain ⟨T', X', e', st'⟩ := instY X K.hx K.hZ K.hown w eT F (g := mkF m pc Ls (.ref a :: st)) rfl rfl (hb K.by' hd)
  exact Goes.st st' (k T' X' e')
theorem s_instNo (K : Cx Z p s m meth c own bytes maxL ret nm) (X : Stand p l e R s m args below meth c T locs cells slots) {C D : String} {i : Nat} {a : Addr} (hd : decode bytes pc = .ok (.instanceof i, 3)) (w : (Cond.classLink own i D).before a0 Z = true) (eT : T.heap = h) (E : Exa Z h a C) (F : ∃ c t, Z.vm.findClass C = some c ∧ Z.vm.findClass D = some t ∧ Z.vm.assignable c t = false) (hq : pc + 3 = q)
    (k : ∀ T', Stand p l e R s m args below meth c T' locs cells slots → T'.heap = h → Goes p e below P T' (mkF m q Ls (.int 0 :: st))) : Goes p e below P T (mkF m pc Ls (.ref a :: st)) := by
  subst hq
  obtain ⟨T', X', e', st'⟩ := instNo X K.hx K.hZ K.hown w eT E F (g := mkF m pc Ls (.ref a :: st)) rfl rfl (hb K.by' hd)
  exact Goes.st st' (k T' X' e')
theorem s_init0 (K : Cx Z p s m meth c own bytes maxL ret nm) (X : Stand p l e R s m args below meth c T locs cells slots) {i : Nat} {a : Addr} (W : Nat) (hd : decode bytes pc = .ok (.invokespecial i, 3)) (w1 : (Cond.methodLink own i Lib.objectInit).before a0 Z = true) (w2 : (Cond.instanceMethod Lib.objectInit).before a0 Z = true) (w3 : (Cond.code Lib.objectInit ⟨#[0xb1]⟩ 1 none).before a0 Z = true) (eT : T.heap = h) (hsz : Ls.size = maxL) (hf : 1 ≤ R.frames) (hW : (st.map fun v => v.category).sum ≤ W) (hl : W + 12 ≤ R.locals) (hq : pc + 3 = q)
    (k : ∀ T', Stand p l e R s m args below meth c T' locs cells slots → T'.heap = h → Goes p e below P T' (mkF m q Ls st)) : Goes p e below P T (mkF m pc Ls (.ref a :: st)) := by
  subst hq
  obtain ⟨T', X', e', st'⟩ := initO X K.hx K.hZ K.hown w1 w2 w3 eT (g := mkF m pc Ls (.ref a :: st)) rfl (by rw [K.ml]; exact hsz) rfl (hb K.by' hd) hf (W := W) (by simpa using hW) hl
  exact Goes.st st' (k T' X' e')
theorem fits_obj {v : Value} {C : String} (hv : v.isRef = true) : fits (.object C) v = true := by rcases ref_cases hv with rfl | ⟨a, rfl⟩ <;> rfl
theorem s_newV (K : Cx Z p s m meth c own bytes maxL ret nm) (X : Stand p l e R s m args below meth c T locs cells slots) {C : String} {i : Nat} {n : Int32} (hd : decode bytes pc = .ok (.anewarray i, 3)) (w1 : (Cond.classLink own i C).before a0 Z = true) (w2 : (Cond.arrayOver (.object C)).before a0 Z = true) (eT : T.heap = h) (hn : ¬ n < 0) (cap : Nat) (hcap : n.toNatClampNeg ≤ cap) (hb' : cap * 8 ≤ 536870912) (hc : cells + 1 ≤ R.cells) (hl : slots + cap ≤ R.slots) {vs : List Value} (hvs : vs = List.replicate n.toNatClampNeg .null) (hq : pc + 3 = q)
    (k : ∀ T' h' a cA, a = h.size → Stand p l e R s m args below meth c T' locs (cells + 1) (slots + cap) → T'.heap = h' → Ext h h' → Arv Z h' a cA (.object C) n vs .null → Ovr Z cA C → Goes p e below P T' (mkF m q Ls (.ref a :: st))) : Goes p e below P T (mkF m pc Ls (.int n :: st)) := by
  refine s_newR K X hd w1 w2 eT hn cap hcap hb' hc hl hq (fun T' h' a cA g X' e' E A O => k T' h' a cA g X' e' E ?_ O)
  subst hvs
  exact (Arv.new A hn).pad (pad_rep [] (defaultValue (.object C)) n.toNatClampNeg)
theorem s_stV (K : Cx Z p s m meth c own bytes maxL ret nm) (X : Stand p l e R s m args below meth c T locs cells slots) {a : Addr} {cA : ClassId} {C : String} {z j : Int32} {vs vs' : List Value} {v : Value} (hd : decode bytes pc = .ok (.aastore, 1)) (eT : T.heap = h) (V : Arv Z h a cA (.object C) z vs .null) (O : Ovr Z cA C) (hj : ¬ j < 0 ∧ j < z) (hv : v.isRef = true) (I : ∀ y, v = .ref y → Ins Z h y C true) (i : Nat) (hi : j.toNatClampNeg = i) (hl : i < vs.length) (hvs : vs.set i v = vs') (hq : pc + 1 = q)
    (k : ∀ T' h', Stand p l e R s m args below meth c T' (locs ++ [⟨a, i⟩]) cells slots → T'.heap = h' → Wr h h' a i v → Arv Z h' a cA (.object C) z vs' .null → Goes p e below P T' (mkF m q Ls st)) : Goes p e below P T (mkF m pc Ls (v :: .int j :: .ref a :: st)) := by
  obtain ⟨cl, Ar, q1, S, N, H, G⟩ := V
  refine s_stR K X hd eT Ar (inb_of S hj) rfl ?_ hq (fun T' h' X' e' W => ?_)
  · rcases ref_cases hv with rfl | ⟨y, rfl⟩
    · exact Or.inl rfl
    · exact Sto.ofV Ar q1 O (I y rfl)
  · have V' := Arv.set Ar q1 S N H G (fits_obj hv) W i hi hl
    rw [hvs] at V'
    subst hi
    exact k T' h' X' e' W V'
theorem s_ldV (K : Cx Z p s m meth c own bytes maxL ret nm) (X : Stand p l e R s m args below meth c T locs cells slots) {a : Addr} {cA : ClassId} {ty : FieldType} {z j : Int32} {vs : List Value} {v dv : Value} (hd : decode bytes pc = .ok (.aaload, 1)) (eT : T.heap = h) (V : Arv Z h a cA ty z vs dv) (hty : ty.isReference = true) (hj : ¬ j < 0 ∧ j < z) (hv : vs.getD j.toNatClampNeg dv = v) (hq : pc + 1 = q) (k : Goes p e below P T (mkF m q Ls (v :: st))) : Goes p e below P T (mkF m pc Ls (.int j :: .ref a :: st)) := by
  obtain ⟨cl, Ar, q1, S, N, H, G⟩ := V
  exact s_aaload K X hd eT Ar hty (inb_of S hj) (H.at (inb_of S hj) hv) hq k
theorem s_lenV (K : Cx Z p s m meth c own bytes maxL ret nm) (X : Stand p l e R s m args below meth c T locs cells slots) {a : Addr} {cA : ClassId} {ty : FieldType} {z : Int32} {vs : List Value} {dv : Value} (hd : decode bytes pc = .ok (.arraylength, 1)) (eT : T.heap = h) (V : Arv Z h a cA ty z vs dv) (hq : pc + 1 = q) (k : Goes p e below P T (mkF m q Ls (.int z :: st))) : Goes p e below P T (mkF m pc Ls (.ref a :: st)) := by
  obtain ⟨cl, Ar, q1, S, N, H, G⟩ := V
  exact s_alen K X hd eT Ar (len_of S N) hq k
theorem arv_of_arh {a : Addr} {k : ClassId} {ty : FieldType} {z : Int32} {vs : List Value} {dv : Value} (F : Arh Z h a k ty z [] vs dv) : Arv Z h a k ty z vs dv := by
  obtain ⟨c, A, q1, S, N, H, G⟩ := F; exact ⟨c, A, q1, S, N, H, G⟩
theorem s_clone (K : Cx Z p s m meth c own bytes maxL ret nm) (X : Stand p l e R s m args below meth c T locs cells slots) {ad : String} {i : Nat} {a : Addr} {k : ClassId} {ty : FieldType} {z : Int32} {vs : List Value} {dv : Value} (W cap : Nat) (hd : decode bytes pc = .ok (.invokevirtual i, 3)) (w1 : (Cond.methodLink own i ⟨ad, "clone", "()Ljava/lang/Object;"⟩).before a0 Z = true) (w2 : (Cond.sameMethod ad "java/lang/Object" "clone" "()Ljava/lang/Object;").before a0 Z = true) (w3 : (Cond.native ⟨"java/lang/Object", "clone", "()Ljava/lang/Object;"⟩).before a0 Z = true) (w4 : (Cond.instanceMethod ⟨"java/lang/Object", "clone", "()Ljava/lang/Object;"⟩).before a0 Z = true) (w5 : (Cond.selects ad ⟨ad, "clone", "()Ljava/lang/Object;"⟩ ⟨"java/lang/Object", "clone", "()Ljava/lang/Object;"⟩).before a0 Z = true) (w6 : (Cond.castable ad "java/lang/Cloneable").before a0 Z = true)
    (eT : T.heap = h) (V : Arv Z h a k ty z vs dv) (E : Exa Z h a ad) (hsz : Ls.size = maxL) (hf : 1 ≤ R.frames) (hW : (st.map fun v => v.category).sum ≤ W) (hl : W + 14 ≤ R.locals) (hcap : z.toNatClampNeg ≤ cap) (hc : cells + 1 ≤ R.cells) (hsl : slots + cap ≤ R.slots) (hq : pc + 3 = q)
    (kk : ∀ T' h' b, b = h.size → Stand p l e R s m args below meth c T' locs (cells + 1) (slots + cap) → T'.heap = h' → Ext h h' → Arv Z h' b k ty z vs dv → Exa Z h' b ad → Goes p e below P T' (mkF m q Ls (.ref b :: st))) : Goes p e below P T (mkF m pc Ls (.ref a :: st)) := by
  subst hq
  obtain ⟨T', h', X', e', E', V', A', st'⟩ := cloneH X K.hx K.hZ K.hown w1 w2 w3 w4 w5 w6 eT V.arh E (g := mkF m pc Ls (.ref a :: st)) rfl (by rw [K.ml]; exact hsz) rfl (hb K.by' hd) hf (W := W) (by simpa using hW) hl hcap hc hsl
  exact Goes.st st' (kk T' h' h.size rfl X' e' E' (arv_of_arh V') A')
theorem s_callS (K : Cx Z p s m meth c own bytes maxL ret nm) (X : Stand p l e R s m args below meth c T locs cells slots) (W : Nat) {Q : Option Value → Heap → List Loc → Prop} {yb : ByteArray} {ym : Nat} {rm : Room} {y : MethodName} {yr : Option FieldType} {i : Nat} {ps : List FieldType} {argsL : List Value} (hd : decode bytes pc = .ok (.invokestatic i, 3)) (w1 : (Cond.methodLink own i y).before a0 Z = true) (w2 : (Cond.static y).before a0 Z = true) (w3 : (Cond.initialized y.cls).before a0 Z = true) (w4 : (Cond.code y yb ym yr).before a0 Z = true) (hy : y.cls ≠ "java/lang/invoke/MethodHandle" ∧ y.cls ≠ "java/lang/invoke/VarHandle")
    (hpd : parseMethodDescriptor y.desc = some ⟨ps, yr⟩) (hlen : argsL.length = ps.length) (eT : T.heap = h) (C : Con l Z y yb ym yr rm argsL.toArray h Q) {stk : List Value} (hstk : stk = argsL.reverse ++ st) (hsz : Ls.size = maxL) (hf : rm.frames + 1 ≤ R.frames) (hW : (st.map fun v => v.category).sum ≤ W) (hlo : W + (ym + 11) + rm.locals ≤ R.locals) (hc : cells + rm.cells ≤ R.cells) (hs : slots + rm.slots ≤ R.slots) (hq : pc + 3 = q)
    (k : ∀ v T' h' L', Stand p l e R s m args below meth c T' (locs ++ L') (cells + rm.cells) (slots + rm.slots) → T'.heap = h' → Q v h' L' → Goes p e below P T' (mkF m q Ls (v.toList ++ st))) : Goes p e below P T (mkF m pc Ls stk) := by
  subst hq hstk
  obtain ⟨v, _, ⟨T', L', k', n'⟩, -, X', ⟨Lc, hQ, l1, l2, l3⟩, st'⟩ := Jvm.LawKit.callS X K.hx K.hown (mvT K.hZ w1) (mvT K.hZ w2) (mvT K.hZ w3) (mvT K.hZ w4) hy (backOf (W := W) (C []) K.hZ w4 w3 hf hlo) (g := mkF m pc Ls (argsL.reverse ++ st)) rfl (by rw [K.ml]; exact hsz) (argsL := argsL) (rest := st) (lenOf hpd hlen) rfl (by simpa using hW) (hb K.by' hd) (fun _ _ => ⟨rfl, eT, hc, hs⟩)
  dsimp only [Pt.U, Pt.locs, Pt.cells, Pt.slots] at X' l1 l2 l3 st' hQ
  subst l1 l2 l3
  exact Goes.st st' (k v T' _ _ X' rfl hQ)
theorem s_init (K : Cx Z p s m meth c own bytes maxL ret nm) (X : Stand p l e R s m args below meth c T locs cells slots) (W : Nat) {Q : Option Value → Heap → List Loc → Prop} {yb : ByteArray} {ym : Nat} {rm : Room} {y : MethodName} {i : Nat} {ps : List FieldType} {argsL : List Value} {a : Addr} (hd : decode bytes pc = .ok (.invokespecial i, 3)) (hy1 : y.name = "<init>") (w1 : (Cond.methodLink own i y).before a0 Z = true) (w2 : (Cond.instanceMethod y).before a0 Z = true) (w3 : (Cond.initialized y.cls).before a0 Z = true) (w4 : (Cond.code y yb ym none).before a0 Z = true) (hy : y.cls ≠ "java/lang/invoke/MethodHandle" ∧ y.cls ≠ "java/lang/invoke/VarHandle")
    (hpd : parseMethodDescriptor y.desc = some ⟨ps, none⟩) (hlen : argsL.length = ps.length) (eT : T.heap = h) (C : Con l Z y yb ym none rm (.ref a :: argsL).toArray h Q) {stk : List Value} (hstk : stk = argsL.reverse ++ .ref a :: st) (hsz : Ls.size = maxL) (hf : rm.frames + 1 ≤ R.frames) (hW : (st.map fun v => v.category).sum ≤ W) (hlo : W + (ym + 11) + rm.locals ≤ R.locals) (hc : cells + rm.cells ≤ R.cells) (hs : slots + rm.slots ≤ R.slots) (hq : pc + 3 = q)
    (k : ∀ v T' h' L', Stand p l e R s m args below meth c T' (locs ++ L') (cells + rm.cells) (slots + rm.slots) → T'.heap = h' → Q v h' L' → Goes p e below P T' (mkF m q Ls (v.toList ++ st))) : Goes p e below P T (mkF m pc Ls stk) := by
  subst hq hstk
  obtain ⟨v, _, ⟨T', L', k', n'⟩, -, X', ⟨Lc, hQ, l1, l2, l3⟩, st'⟩ := X.specialBack K.hx hy1 K.hown (mvT K.hZ w1) (mvT K.hZ w2) (mvT K.hZ w4) hy (backOf (W := W) (C []) K.hZ w4 w3 hf hlo) (g := mkF m pc Ls (argsL.reverse ++ .ref a :: st)) rfl (by rw [K.ml]; exact hsz) (Steps.refl _) (a := a) (argsL := argsL) (rest := st) (lenOf hpd hlen) rfl (by simpa using hW) (hb K.by' hd) (fun _ _ => ⟨rfl, eT, hc, hs⟩)
  dsimp only [Pt.U, Pt.locs, Pt.cells, Pt.slots] at X' l1 l2 l3 st' hQ
  subst l1 l2 l3
  exact Goes.st (fun _ kk => st'.trans kk) (k v T' _ _ X' rfl hQ)
theorem s_callV (K : Cx Z p s m meth c own bytes maxL ret nm) (X : Stand p l e R s m args below meth c T locs cells slots) (W : Nat) {Q : Option Value → Heap → List Loc → Prop} {yb : ByteArray} {ym : Nat} {rm : Room} {y z : MethodName} {yr : Option FieldType} {C : String} {i : Nat} {ps : List FieldType} {argsL : List Value} {a : Addr} (hd : decode bytes pc = .ok (.invokevirtual i, 3)) (w1 : (Cond.methodLink own i y).before a0 Z = true) (w2 : (Cond.declares y).before a0 Z = true) (hnf : NotFace s y) (w5 : (Cond.selects C y z).before a0 Z = true) (w6 : (Cond.instanceMethod z).before a0 Z = true) (w3 : (Cond.initialized z.cls).before a0 Z = true) (w4 : (Cond.code z yb ym yr).before a0 Z = true) (hy : y.cls ≠ "java/lang/invoke/MethodHandle" ∧ y.cls ≠ "java/lang/invoke/VarHandle")
    (hpd : parseMethodDescriptor y.desc = some ⟨ps, yr⟩) (hlen : argsL.length = ps.length) (eT : T.heap = h) (E : Exa Z h a C) (Cn : Con l Z z yb ym yr rm (.ref a :: argsL).toArray h Q) {stk : List Value} (hstk : stk = argsL.reverse ++ .ref a :: st) (hsz : Ls.size = maxL) (hf : rm.frames + 1 ≤ R.frames) (hW : (st.map fun v => v.category).sum ≤ W) (hlo : W + (ym + 11) + rm.locals ≤ R.locals) (hc : cells + rm.cells ≤ R.cells) (hs : slots + rm.slots ≤ R.slots) (hq : pc + 3 = q)
    (k : ∀ v T' h' L', Stand p l e R s m args below meth c T' (locs ++ L') (cells + rm.cells) (slots + rm.slots) → T'.heap = h' → Q v h' L' → Goes p e below P T' (mkF m q Ls (v.toList ++ st))) : Goes p e below P T (mkF m pc Ls stk) := by
  subst hq hstk
  obtain ⟨cq, kq, qa, qb, qc⟩ := isOf (T := T) K.hZ eT E
  obtain ⟨v, _, ⟨T', L', k', n'⟩, -, X', ⟨Lc, hQ, l1, l2, l3⟩, st'⟩ := X.virtualBack K.hx K.hown (mvT K.hZ w1) (mvT K.hZ w2) hnf (mvT K.hZ w5) (mvT K.hZ w6) hy (backOf (W := W) (Cn []) K.hZ w4 w3 hf hlo) qa qc (g := mkF m pc Ls (argsL.reverse ++ .ref a :: st)) rfl (by rw [K.ml]; exact hsz) (Steps.refl _) (argsL := argsL) (rest := st) (lenOf hpd hlen) rfl (by simpa using hW) (hb K.by' hd) (fun _ _ => ⟨rfl, eT, hc, hs⟩)
  dsimp only [Pt.U, Pt.locs, Pt.cells, Pt.slots] at X' l1 l2 l3 st' hQ
  subst l1 l2 l3
  exact Goes.st (fun _ kk => st'.trans kk) (k v T' _ _ X' rfl hQ)
theorem s_callU (K : Cx Z p s m meth c own bytes maxL ret nm) (X : Stand p l e R s m args below meth c T locs cells slots) (W : Nat) {Q : Option Value → Heap → List Loc → Prop} {yb : ByteArray} {ym : Nat} {rm : Room} {y z : MethodName} {yr : Option FieldType} {C owner : String} {i : Nat} {ps : List FieldType} {argsL : List Value} {a : Addr} (hd : decode bytes pc = .ok (.invokevirtual i, 3)) (w1 : (Cond.methodLink own i y).before a0 Z = true) (w2 : (Cond.sameMethod y.cls owner y.name y.desc).before a0 Z = true) (w2' : (Cond.declares ⟨owner, y.name, y.desc⟩).before a0 Z = true) (w5 : (Cond.selects C y z).before a0 Z = true) (w6 : (Cond.instanceMethod z).before a0 Z = true) (w3 : (Cond.initialized z.cls).before a0 Z = true) (w4 : (Cond.code z yb ym yr).before a0 Z = true) (hy : owner ≠ "java/lang/invoke/MethodHandle" ∧ owner ≠ "java/lang/invoke/VarHandle")
    (hpd : parseMethodDescriptor y.desc = some ⟨ps, yr⟩) (hlen : argsL.length = ps.length) (eT : T.heap = h) (E : Exa Z h a C) (Cn : Con l Z z yb ym yr rm (.ref a :: argsL).toArray h Q) {stk : List Value} (hstk : stk = argsL.reverse ++ .ref a :: st) (hsz : Ls.size = maxL) (hf : rm.frames + 1 ≤ R.frames) (hW : (st.map fun v => v.category).sum ≤ W) (hlo : W + (ym + 11) + rm.locals ≤ R.locals) (hc : cells + rm.cells ≤ R.cells) (hs : slots + rm.slots ≤ R.slots) (hq : pc + 3 = q)
    (k : ∀ v T' h' L', Stand p l e R s m args below meth c T' (locs ++ L') (cells + rm.cells) (slots + rm.slots) → T'.heap = h' → Q v h' L' → Goes p e below P T' (mkF m q Ls (v.toList ++ st))) : Goes p e below P T (mkF m pc Ls stk) := by
  subst hq hstk
  obtain ⟨cq, kq, qa, qb, qc⟩ := isOf (T := T) K.hZ eT E
  obtain ⟨v, _, ⟨T', L', k', n'⟩, -, X', ⟨Lc, hQ, l1, l2, l3⟩, st'⟩ := X.virtualBackUp K.hx K.hown (mvT K.hZ w1) (mvT K.hZ w2) (mvT K.hZ w2') hy (mvT K.hZ w5) (mvT K.hZ w6) (backOf (W := W) (Cn []) K.hZ w4 w3 hf hlo) qa qc (g := mkF m pc Ls (argsL.reverse ++ .ref a :: st)) rfl (by rw [K.ml]; exact hsz) (Steps.refl _) (argsL := argsL) (rest := st) (lenOf hpd hlen) rfl (by simpa using hW) (hb K.by' hd) (fun _ _ => ⟨rfl, eT, hc, hs⟩)
  dsimp only [Pt.U, Pt.locs, Pt.cells, Pt.slots] at X' l1 l2 l3 st' hQ
  subst l1 l2 l3
  exact Goes.st (fun _ kk => st'.trans kk) (k v T' _ _ X' rfl hQ)
theorem s_callI (K : Cx Z p s m meth c own bytes maxL ret nm) (X : Stand p l e R s m args below meth c T locs cells slots) (W : Nat) {Q : Option Value → Heap → List Loc → Prop} {yb : ByteArray} {ym : Nat} {rm : Room} {y z : MethodName} {yr : Option FieldType} {C : String} {i cnt : Nat} {ps : List FieldType} {argsL : List Value} {a : Addr} (hd : decode bytes pc = .ok (.invokeinterface i cnt, 5)) (w1 : (Cond.methodLink own i y).before a0 Z = true) (w2 : (Cond.declares y).before a0 Z = true) (w2' : (Cond.interfaceMethod y.cls y.cls y.name y.desc).before a0 Z = true) (hk9 : ((Cond.interfaceMethod y.cls y.cls y.name y.desc).onTables && (Cond.interfaceMethod y.cls y.cls y.name y.desc).keepsFace) = true) (w5 : (Cond.selects C y z).before a0 Z = true) (w6 : (Cond.instanceMethod z).before a0 Z = true) (w7 : (Cond.publicMethod z).before a0 Z = true) (w8 : (Cond.unhidden C y.name y.desc).before a0 Z = true) (w9 : (Cond.castable C y.cls).before a0 Z = true) (w3 : (Cond.initialized z.cls).before a0 Z = true) (w4 : (Cond.code z yb ym yr).before a0 Z = true) (hy : y.cls ≠ "java/lang/invoke/MethodHandle" ∧ y.cls ≠ "java/lang/invoke/VarHandle")
    (hpd : parseMethodDescriptor y.desc = some ⟨ps, yr⟩) (hlen : argsL.length = ps.length) (eT : T.heap = h) (E : Exa Z h a C) (Cn : Con l Z z yb ym yr rm (.ref a :: argsL).toArray h Q) {stk : List Value} (hstk : stk = argsL.reverse ++ .ref a :: st) (hsz : Ls.size = maxL) (hf : rm.frames + 1 ≤ R.frames) (hW : (st.map fun v => v.category).sum ≤ W) (hlo : W + (ym + 11) + rm.locals ≤ R.locals) (hc : cells + rm.cells ≤ R.cells) (hs : slots + rm.slots ≤ R.slots) (hq : pc + 5 = q)
    (k : ∀ v T' h' L', Stand p l e R s m args below meth c T' (locs ++ L') (cells + rm.cells) (slots + rm.slots) → T'.heap = h' → Q v h' L' → Goes p e below P T' (mkF m q Ls (v.toList ++ st))) : Goes p e below P T (mkF m pc Ls stk) := by
  subst hq hstk
  obtain ⟨cq, kq, qa, qb, qc⟩ := isOf (T := T) K.hZ eT E
  obtain ⟨v, _, ⟨T', L', k', n'⟩, -, X', ⟨Lc, hQ, l1, l2, l3⟩, st'⟩ := X.interfaceBack K.hx K.hown (mvT K.hZ w1) (mvT K.hZ w2) (mvT K.hZ w2' hk9) (mvT K.hZ w5) (mvT K.hZ w6) (mvT K.hZ w7) (mvT K.hZ w8) (mvT K.hZ w9) hy (backOf (W := W) (Cn []) K.hZ w4 w3 hf hlo) qa qb qc (g := mkF m pc Ls (argsL.reverse ++ .ref a :: st)) rfl (by rw [K.ml]; exact hsz) (Steps.refl _) (argsL := argsL) (rest := st) (lenOf hpd hlen) rfl (by simpa using hW) (hb K.by' hd) (fun _ _ => ⟨rfl, eT, hc, hs⟩)
  dsimp only [Pt.U, Pt.locs, Pt.cells, Pt.slots] at X' l1 l2 l3 st' hQ
  subst l1 l2 l3
  exact Goes.st (fun _ kk => st'.trans kk) (k v T' _ _ X' rfl hQ)
theorem s_retI (K : Cx Z p s m meth c own bytes maxL ret nm) (X : Stand p l e R s m args below meth c T locs cells slots) {z : Int32} {Q : Option Value → Heap → List Loc → Prop} (hd : decode bytes pc = .ok (.ireturn, 1)) (hr : ret = some .int) (eT : T.heap = h) (hc : cells ≤ R.cells) (hs : slots ≤ R.slots) (hQ : Q (some (.int z)) h locs) : Goes p e below (Fini s R Q) T (mkF m pc Ls (.int z :: st)) := by
  obtain ⟨fs, hl, hrun, hended, hW, hsame⟩ := X.leave (v := some (.int z)) (fun h => by rw [K.rt, hr] at h; cases h) K.lk
  exact ⟨_, _, retOut X K.hx (t := .int) (K.rt.trans hr) rfl (Or.inl ⟨rfl, Or.inl rfl, _, rfl⟩) (hb K.by' hd) hl, hrun, hended, _, _, rfl, (by rw [show (T.setFrames fs).heap = T.heap from rfl, eT]; exact hQ), ⟨_, rfl⟩, hW, hsame.mono hc hs⟩
theorem s_retZ (K : Cx Z p s m meth c own bytes maxL ret nm) (X : Stand p l e R s m args below meth c T locs cells slots) {z : Int32} {Q : Option Value → Heap → List Loc → Prop} (hd : decode bytes pc = .ok (.ireturn, 1)) (hr : ret = some .boolean) (hz : z &&& 1 = z) (eT : T.heap = h) (hc : cells ≤ R.cells) (hs : slots ≤ R.slots) (hQ : Q (some (.int z)) h locs) : Goes p e below (Fini s R Q) T (mkF m pc Ls (.int z :: st)) := by
  obtain ⟨fs, hl, hrun, hended, hW, hsame⟩ := X.leave (v := some (.int z)) (fun h => by rw [K.rt, hr] at h; cases h) K.lk
  exact ⟨_, _, retOut X K.hx (t := .boolean) (K.rt.trans hr) (by show Value.int (z &&& 1) = _; rw [hz]) (Or.inl ⟨rfl, Or.inr (Or.inl rfl), _, rfl⟩) (hb K.by' hd) hl, hrun, hended, _, _, rfl, (by rw [show (T.setFrames fs).heap = T.heap from rfl, eT]; exact hQ), ⟨_, rfl⟩, hW, hsame.mono hc hs⟩
theorem s_retA (K : Cx Z p s m meth c own bytes maxL ret nm) (X : Stand p l e R s m args below meth c T locs cells slots) {v : Value} {t : FieldType} {Q : Option Value → Heap → List Loc → Prop} (hd : decode bytes pc = .ok (.areturn, 1)) (hr : ret = some t) (ht : t.isReference = true) (hv : v.isRef = true) (eT : T.heap = h) (hc : cells ≤ R.cells) (hs : slots ≤ R.slots) (hQ : Q (some v) h locs) : Goes p e below (Fini s R Q) T (mkF m pc Ls (v :: st)) := by
  obtain ⟨fs, hl, hrun, hended, hW, hsame⟩ := X.leave (v := some v) (fun h => by rw [K.rt, hr] at h; cases h) K.lk
  have hn : narrow t v = v := by rcases ref_cases hv with rfl | ⟨a, rfl⟩ <;> cases t <;> rfl
  exact ⟨_, _, retOut X K.hx (K.rt.trans hr) hn (Or.inr (Or.inr (Or.inr (Or.inr ⟨rfl, ht, hv⟩)))) (hb K.by' hd) hl, hrun, hended, _, _, rfl, (by rw [show (T.setFrames fs).heap = T.heap from rfl, eT]; exact hQ), ⟨_, rfl⟩, hW, hsame.mono hc hs⟩
theorem s_ret (K : Cx Z p s m meth c own bytes maxL ret nm) (X : Stand p l e R s m args below meth c T locs cells slots) {Q : Option Value → Heap → List Loc → Prop} (hd : decode bytes pc = .ok (.return_, 1)) (hr : ret = none) (eT : T.heap = h) (hc : cells ≤ R.cells) (hs : slots ≤ R.slots) (hQ : Q none h locs) : Goes p e below (Fini s R Q) T (mkF m pc Ls []) := by
  obtain ⟨fs, hl, hrun, hended, hW, hsame⟩ := X.leave (v := none) (fun _ => rfl) K.lk
  exact ⟨_, _, X.returnOut K.hx (K.rt.trans hr) (hb K.by' hd) hl, hrun, hended, _, _, rfl, (by rw [show (T.setFrames fs).heap = T.heap from rfl, eT]; exact hQ), ⟨_, rfl⟩, hW, hsame.mono hc hs⟩
end Steps
section Facts
variable {Z : State} {args : Array Value} {t : Term} {a : Addr} {C n d : String} {v : Value} {h h' : Heap}
theorem fld_start_i {i : Int32} (ht : t.eval args Z none [] Z = some (.ref a)) (hv : (Cond.eq (.field t C n d) (.int i)).value args Z none Z [] = some true) : Fld Z Z.heap a C n d (.int i) := by
  obtain ⟨x, y, h1, h2, h3, -⟩ := cmp_v (Or.inl hv)
  have e : Z.fieldOf? a C n d = some x := by rw [← fld_at (t := t) (args := args) (first := Z) (o := none) (idx := []) ht]; exact h1
  cases (Term.int_eval i).symm.trans h2
  cases x <;> simp only [Kin] at h3
  case int x =>
    have : x = i := by simpa [Cond.value, h1, Term.int_eval] using hv
    subst this; exact Fld.start e
  all_goals first | (obtain ⟨z, hz⟩ := h3; cases hz) | (exact absurd h3.2 (by simp [Value.isRef]))
theorem eq_ref_start {u : Term} (ht : t.eval args Z none [] Z = some (.ref a)) (hv : (Cond.eq u t).value args Z none Z [] = some true) : u.eval args Z none [] Z = some (.ref a) := by
  obtain ⟨x, y, h1, h2, h3, h4⟩ := cmp_v (Or.inl hv)
  cases h2.symm.trans ht
  have hx : x.isRef = true := by cases x <;> simp [Kin, Value.isRef] at h3 h4 ⊢
  have := gotT (eq_R h1 ht hx rfl) hv
  rw [h1, this]
theorem eq_int_start {u : Term} {i : Int32} (hv : (Cond.eq u (.int i)).value args Z none Z [] = some true) : u.eval args Z none [] Z = some (.int i) := by
  obtain ⟨x, y, h1, h2, h3, -⟩ := cmp_v (Or.inl hv)
  cases (Term.int_eval i).symm.trans h2
  cases x <;> simp only [Kin] at h3
  case int x =>
    have : x = i := by simpa [Cond.value, h1, Term.int_eval] using hv
    subst this; exact h1
  all_goals first | (obtain ⟨z, hz⟩ := h3; cases hz) | (exact absurd h3.2 (by simp [Value.isRef]))
theorem arr_len {cl : Cell} {ty : FieldType} {z : Int32} (ht : t.eval args Z none [] Z = some (.ref a)) (A : Arr Z Z.heap a cl ty) (hv : (Cond.eq (.length t) (.int z)).value args Z none Z [] = some true) : cl.slots.size.toInt32 = z ∧ cl.slots.size < 2 ^ 31 := by
  have e := eq_int_start hv
  have ha := A.fin (Vm.Alike.refl _)
  by_cases q : cl.slots.size < 2 ^ 31
  · rw [len_f ht ha q] at e
    exact ⟨Value.int.inj (Option.some.inj e), q⟩
  · simp [Term.eval, ht, ha, q] at e
theorem arr_elem {cl : Cell} {ty : FieldType} {j : Int32} (ht : t.eval args Z none [] Z = some (.ref a)) (A : Arr Z Z.heap a cl ty) (hv : (Term.elem t (.int j)).eval args Z none [] Z = some v) : ¬ (j < 0 ∨ cl.slots.size ≤ j.toNatClampNeg) ∧ cl.slots[j.toNatClampNeg]? = some v :=
  elem_in hv ht (Term.int_eval j) A.1
end Facts
section Facts2
variable {Z : State} {h h' h'' : Heap} {a b : Addr} {sl : Nat} {v : Value}
theorem ext_trans (E : Ext h h') (E' : Ext h' h'') : Ext h h'' := ⟨Nat.le_trans E.1 E'.1, fun a c q => E'.2 a c (E.2 a c q)⟩
theorem ext_refl (h : Heap) : Ext h h := ⟨Nat.le_refl _, fun _ _ q => q⟩
theorem ext_wr (E : Ext h h') (W : Wr h' h'' a sl v) (q : h.size ≤ a) : Ext h h'' := by
  obtain ⟨cell, h1, -, -, rfl⟩ := W
  refine ⟨by simpa using E.1, fun x c hx => ?_⟩
  have : a ≠ x := fun z => absurd (Array.getElem?_eq_some_iff.mp hx).1 (Nat.not_lt.mpr (z ▸ q))
  rw [Array.getElem?_setIfInBounds_ne this]; exact E.2 x c hx
theorem old_le (O : Old Z Z.heap.size h) : Z.heap.size ≤ h.size := O.2.1
theorem fr_one {k : Nat} (q : k ≤ a) : Fr k [⟨a, sl⟩] := fun y hy => by cases List.mem_singleton.mp hy; exact q
/-- an Integer at a, worth c -/
def Bx (Z : State) (h : Heap) (a : Addr) (c : Int32) : Prop := Exa Z h a "java/lang/Integer" ∧ Fld Z h a "java/lang/Integer" "value" "I" (.int c)
theorem Bx.ext {c : Int32} (E : Ext h h') (F : Bx Z h a c) : Bx Z h' a c := ⟨F.1.ext E, F.2.ext E⟩
theorem Bx.keep {c : Int32} {ws : List Addr} (F : Bx Z h a c) (K : Keep h h' ws) (q : a ∉ ws) : Bx Z h' a c := ⟨F.1.keep K, F.2.keep K q⟩
theorem Bx.other {c : Int32} (F : Bx Z h a c) (W : Wr h h' b sl v) (q : a ≠ b) : Bx Z h' a c := ⟨F.1.wr W, F.2.other W (Or.inl q)⟩
/-- the Integer cache, as the set of statics says -/
def Cache (Z : State) (ca : Addr) (cc : Cell) : Prop := Sta Z Z.heap "java/lang/Integer$IntegerCache" "high" "I" (.int 127) ∧ Sta Z Z.heap "java/lang/Integer$IntegerCache" "cache" "[Ljava/lang/Integer;" (.ref ca) ∧ Bxs Z ca cc "java/lang/Integer" "I" 256 (fun j => .int (j - 128))
theorem cache_in {c : Int32} {cc : Cell} (hs : cc.slots.size = (256 : Int32).toNatClampNeg) (h1 : ¬ c < -128) (h2 : ¬ 127 < c) : ¬ (c + 128 < 0 ∨ cc.slots.size ≤ (c + 128).toNatClampNeg) := by
  rw [hs]
  rw [Int32.lt_iff_toInt_lt] at h1 h2
  have e1 : (-128 : Int32).toInt = -128 := rfl
  have e2 : (127 : Int32).toInt = 127 := rfl
  have e3 : (128 : Int32).toInt = 128 := rfl
  have q := c_iadd c 128
  have r := rng32 (c + 128)
  have e : (c + 128).toInt = c.toInt + 128 := by omega
  have e4 : (256 : Int32).toNatClampNeg = 256 := rfl
  have e5 : (0 : Int32).toInt = 0 := rfl
  rw [Int32.lt_iff_toInt_lt, e4]
  simp only [Int32.toNatClampNeg, e]
  omega
theorem cache_back (c : Int32) : c + 128 - 128 = c := by
  apply Int32.toBitVec_inj.mp
  simp
theorem sub_f {args : Array Value} {first s : State} {o : Option Outcome} {idx : List Nat} {a b : Term} {x y : Int32} (ha : a.eval args first o idx s = some (.int x)) (hb : b.eval args first o idx s = some (.int y)) : (Term.sub a b).eval args first o idx s = some (.int (x - y)) := by simp [Term.eval, ha, hb]
theorem cache_start {args : Array Value} (w1 : (Cond.laysStatic "java/lang/Integer$IntegerCache" "high" "I").before args Z = true) (w2 : (Cond.laysStatic "java/lang/Integer$IntegerCache" "cache" "[Ljava/lang/Integer;").before args Z = true) (wi : (Cond.initialized "java/lang/Integer$IntegerCache").before args Z = true)
    (h3 : (Cond.eq (.static "java/lang/Integer$IntegerCache" "high" "I") (.int 127)).before args Z = true) (h4 : (Cond.arrayOf (.static "java/lang/Integer$IntegerCache" "cache" "[Ljava/lang/Integer;") (.object "java/lang/Integer")).before args Z = true) (h6 : (Cond.eq (.length (.static "java/lang/Integer$IntegerCache" "cache" "[Ljava/lang/Integer;")) (.int 256)).before args Z = true)
    (h7 : (Cond.all (.static "java/lang/Integer$IntegerCache" "cache" "[Ljava/lang/Integer;") (.and (.exactly (.elem (.static "java/lang/Integer$IntegerCache" "cache" "[Ljava/lang/Integer;") (.index 0)) "java/lang/Integer") (.eq (.field (.elem (.static "java/lang/Integer$IntegerCache" "cache" "[Ljava/lang/Integer;") (.index 0)) "java/lang/Integer" "value" "I") (.sub (.index 0) (.int 128))))).before args Z = true) : ∃ ca cc, Cache Z ca cc := by
  have h3 := Cond.before_iff.mp h3
  have h4 := Cond.before_iff.mp h4
  have h6 := Cond.before_iff.mp h6
  have h7 := Cond.before_iff.mp h7
  obtain ⟨ca, ek⟩ := arr_v h4
  obtain ⟨cc, A⟩ := Arr.start ek h4
  obtain ⟨l1, l2⟩ := arr_len ek A h6
  refine ⟨ca, cc, Sta.start (eq_int_start h3) (Or.inr ⟨wi, w1⟩), Sta.start ek (Or.inr ⟨wi, w2⟩), Bxs.start (fun idx => ek) A l2 l1 (by decide) h7 (fun X j hj hv => ?_)⟩
  exact eqv_i (sub_f (idx_at hj) (Term.int_eval 128)) hv
end Facts2

end Jvm.Own

namespace Jvm.Pilot.@@N@@
open Jvm Jvm.ClassFile Sem Op Lib Jvm.Free Jvm.Stand Jvm.LawKit Jvm.RoadKit Bundle Jvm.Own Jvm.Pilot.@@N@@.Jvm.D
theorem d_jdk_29_method_69_code_0 : decode jdk_29_method_69_code 0 = .ok (.iload_n 0, 1) := by decide +kernel
theorem d_jdk_29_method_69_code_1 : decode jdk_29_method_69_code 1 = .ok (.iload_n 1, 1) := by decide +kernel
theorem d_jdk_29_method_69_code_2 : decode jdk_29_method_69_code 2 = .ok (.if_icmp .gt 7, 3) := by decide +kernel
theorem d_jdk_29_method_69_code_9 : decode jdk_29_method_69_code 9 = .ok (.iload_n 1, 1) := by decide +kernel
theorem d_jdk_29_method_69_code_10 : decode jdk_29_method_69_code 10 = .ok (.ireturn, 1) := by decide +kernel
theorem d_jdk_29_method_69_code_5 : decode jdk_29_method_69_code 5 = .ok (.iload_n 0, 1) := by decide +kernel
theorem d_jdk_29_method_69_code_6 : decode jdk_29_method_69_code 6 = .ok (.goto 4, 3) := by decide +kernel
theorem pf_java_lang_Mathmin_II_I : plainFor (⟨"java/lang/Math", "min", "(II)I"⟩ : MethodName) = true := by decide +kernel
theorem d_jdk_29_method_65_code_0 : decode jdk_29_method_65_code 0 = .ok (.iload_n 0, 1) := by decide +kernel
theorem d_jdk_29_method_65_code_1 : decode jdk_29_method_65_code 1 = .ok (.iload_n 1, 1) := by decide +kernel
theorem d_jdk_29_method_65_code_2 : decode jdk_29_method_65_code 2 = .ok (.if_icmp .lt 7, 3) := by decide +kernel
theorem d_jdk_29_method_65_code_9 : decode jdk_29_method_65_code 9 = .ok (.iload_n 1, 1) := by decide +kernel
theorem d_jdk_29_method_65_code_10 : decode jdk_29_method_65_code 10 = .ok (.ireturn, 1) := by decide +kernel
theorem d_jdk_29_method_65_code_5 : decode jdk_29_method_65_code 5 = .ok (.iload_n 0, 1) := by decide +kernel
theorem d_jdk_29_method_65_code_6 : decode jdk_29_method_65_code 6 = .ok (.goto 4, 3) := by decide +kernel
theorem pf_java_lang_Mathmax_II_I : plainFor (⟨"java/lang/Math", "max", "(II)I"⟩ : MethodName) = true := by decide +kernel
theorem d_prog_58_method_4_code_0 : decode prog_58_method_4_code 0 = .ok (.iload_n 0, 1) := by decide +kernel
theorem d_prog_58_method_4_code_1 : decode prog_58_method_4_code 1 = .ok (.ifCond .le 7, 3) := by decide +kernel
theorem d_prog_58_method_4_code_4 : decode prog_58_method_4_code 4 = .ok (.getstatic 3, 3) := by decide +kernel
theorem d_prog_58_method_4_code_7 : decode prog_58_method_4_code 7 = .ok (.areturn, 1) := by decide +kernel
theorem pn_com_example_loadshare_loadshare_Reconciliation_Action : plainName "com/example/loadshare/loadshare/Reconciliation$Action" = true := by first | (simp [plainName, overriddenIn]; done) | decide +kernel
theorem d_prog_58_method_4_code_8 : decode prog_58_method_4_code 8 = .ok (.iload_n 0, 1) := by decide +kernel
theorem d_prog_58_method_4_code_9 : decode prog_58_method_4_code 9 = .ok (.ifCond .ge 9, 3) := by decide +kernel
theorem d_prog_58_method_4_code_12 : decode prog_58_method_4_code 12 = .ok (.getstatic 7, 3) := by decide +kernel
theorem d_prog_58_method_4_code_15 : decode prog_58_method_4_code 15 = .ok (.goto 6, 3) := by decide +kernel
theorem d_prog_58_method_4_code_21 : decode prog_58_method_4_code 21 = .ok (.areturn, 1) := by decide +kernel
theorem d_prog_58_method_4_code_18 : decode prog_58_method_4_code 18 = .ok (.getstatic 10, 3) := by decide +kernel
theorem pd__II_I : parseMethodDescriptor "(II)I" = some ⟨[.int, .int], (some .int)⟩ := by decide +kernel
theorem pd__I_Lcom_example_loadshare_loadshare_Reconciliation_Action_ : parseMethodDescriptor "(I)Lcom/example/loadshare/loadshare/Reconciliation$Action;" = some ⟨[.int], (some (.object "com/example/loadshare/loadshare/Reconciliation$Action"))⟩ := by decide +kernel
theorem pn_com_example_loadshare_loadshare_ReconciliationOfPinLaw : plainName "com/example/loadshare/loadshare/ReconciliationOfPinLaw" = true := by first | (simp [plainName, overriddenIn]; done) | decide +kernel
def Act (Z : State) (n : String) (a : Addr) : Prop := Sta Z Z.heap "com/example/loadshare/loadshare/Reconciliation$Action" n "Lcom/example/loadshare/loadshare/Reconciliation$Action;" (.ref a) ∧ Exa Z Z.heap a "com/example/loadshare/loadshare/Reconciliation$Action"
theorem own_neg {c : Int32} (h : c < 0) : ¬ 0 < c := by rw [Int32.lt_iff_toInt_lt] at h ⊢; omega
theorem own_min_pos {c : Int32} (h : 0 < c) : ¬ c < 1 := by rw [Int32.lt_iff_toInt_lt] at h ⊢; have : (0 : Int32).toInt = 0 := rfl; have : (1 : Int32).toInt = 1 := rfl; omega
theorem own_min_neg {c : Int32} (h : c < 0) : c < 1 := by rw [Int32.lt_iff_toInt_lt] at h ⊢; have : (0 : Int32).toInt = 0 := rfl; have : (1 : Int32).toInt = 1 := rfl; omega
theorem own_max_neg {c : Int32} (h : c < 0) : ¬ -1 < c := by rw [Int32.lt_iff_toInt_lt] at h ⊢; have : (0 : Int32).toInt = 0 := rfl; have : (-1 : Int32).toInt = -1 := rfl; omega
set_option maxRecDepth 65536 in
set_option maxHeartbeats 40000000 in
theorem c_min (l : Launch) (Z : State) (a0 : Array Value) (hw : ∀ d ∈ tables_1, d.before a0 Z = true) (h0 : Heap) (x y : Int32)  : Con l Z (⟨"java/lang/Math", "min", "(II)I"⟩ : MethodName) jdk_29_method_69_code 2 (some .int) ({ frames := 0, cells := 0, slots := 0, locals := 0 } : Room) #[(.int x), (.int y)] h0 (fun v h L => v = some (.int (if y < x then y else x)) ∧ h = h0 ∧ L = []) := by
  refine Con.of pf_java_lang_Mathmin_II_I (Ls := #[.val (.int x), .val (.int y)]) (fun m => by first | (simp [entryFrame, mkF, argsToLocals, Value.category]; done) | rfl) (fun p e s m below meth cod T K X eT => ?_)
  refine s_iloadN K X d_jdk_29_method_69_code_0 rfl (q := 1) rfl ?_
  refine s_iloadN K X d_jdk_29_method_69_code_1 rfl (q := 2) rfl ?_
  refine s_icmp_gt K X d_jdk_29_method_69_code_2 (by decide) (q := 9) rfl (q' := 5) rfl (fun h1 => ?_) (fun h1 => ?_)
  ·
    refine s_iloadN K X d_jdk_29_method_69_code_9 rfl (q := 10) rfl ?_
    exact s_retI K X d_jdk_29_method_69_code_10 rfl eT (by decide) (by decide) ⟨by first | rw [if_pos h1] | rw [if_neg h1], rfl, rfl⟩
  ·
    refine s_iloadN K X d_jdk_29_method_69_code_5 rfl (q := 6) rfl ?_
    refine s_goto K X d_jdk_29_method_69_code_6 (by decide) (q := 10) rfl ?_
    exact s_retI K X d_jdk_29_method_69_code_10 rfl eT (by decide) (by decide) ⟨by first | rw [if_pos h1] | rw [if_neg h1], rfl, rfl⟩
set_option maxRecDepth 65536 in
set_option maxHeartbeats 40000000 in
theorem c_max (l : Launch) (Z : State) (a0 : Array Value) (hw : ∀ d ∈ tables_1, d.before a0 Z = true) (h0 : Heap) (x y : Int32)  : Con l Z (⟨"java/lang/Math", "max", "(II)I"⟩ : MethodName) jdk_29_method_65_code 2 (some .int) ({ frames := 0, cells := 0, slots := 0, locals := 0 } : Room) #[(.int x), (.int y)] h0 (fun v h L => v = some (.int (if x < y then y else x)) ∧ h = h0 ∧ L = []) := by
  refine Con.of pf_java_lang_Mathmax_II_I (Ls := #[.val (.int x), .val (.int y)]) (fun m => by first | (simp [entryFrame, mkF, argsToLocals, Value.category]; done) | rfl) (fun p e s m below meth cod T K X eT => ?_)
  refine s_iloadN K X d_jdk_29_method_65_code_0 rfl (q := 1) rfl ?_
  refine s_iloadN K X d_jdk_29_method_65_code_1 rfl (q := 2) rfl ?_
  refine s_icmp_lt K X d_jdk_29_method_65_code_2 (by decide) (q := 9) rfl (q' := 5) rfl (fun h1 => ?_) (fun h1 => ?_)
  ·
    refine s_iloadN K X d_jdk_29_method_65_code_9 rfl (q := 10) rfl ?_
    exact s_retI K X d_jdk_29_method_65_code_10 rfl eT (by decide) (by decide) ⟨by first | rw [if_pos h1] | rw [if_neg h1], rfl, rfl⟩
  ·
    refine s_iloadN K X d_jdk_29_method_65_code_5 rfl (q := 6) rfl ?_
    refine s_goto K X d_jdk_29_method_65_code_6 (by decide) (q := 10) rfl ?_
    exact s_retI K X d_jdk_29_method_65_code_10 rfl eT (by decide) (by decide) ⟨by first | rw [if_pos h1] | rw [if_neg h1], rfl, rfl⟩
set_option maxRecDepth 65536 in
set_option maxHeartbeats 40000000 in
theorem c_of_pos (l : Launch) (Z : State) (a0 : Array Value) (hw : ∀ d ∈ tables_1, d.before a0 Z = true) (h0 : Heap) (O : Old Z Z.heap.size h0) (c : Int32) (a : Addr) (hp : 0 < c) (F : Act Z "BILL" a) : Con l Z (⟨"com/example/loadshare/loadshare/Reconciliation$Action", "of", "(I)Lcom/example/loadshare/loadshare/Reconciliation$Action;"⟩ : MethodName) prog_58_method_4_code 1 (some (.object "com/example/loadshare/loadshare/Reconciliation$Action")) ({ frames := 0, cells := 0, slots := 0, locals := 0 } : Room) #[(.int c)] h0 (fun v h L => v = some (.ref a) ∧ h = h0 ∧ L = []) := by
  refine Con.of (plainFor_of_name pn_com_example_loadshare_loadshare_Reconciliation_Action) (Ls := #[.val (.int c)]) (fun m => by first | (simp [entryFrame, mkF, argsToLocals, Value.category]; done) | rfl) (fun p e s m below meth cod T K X eT => ?_)
  refine s_iloadN K X d_prog_58_method_4_code_0 rfl (q := 1) rfl ?_
  refine s_if_le K X d_prog_58_method_4_code_1 (by decide) (q := 8) rfl (q' := 4) rfl (fun h_ => absurd hp h_) (fun _ => ?_)
  refine s_getS K X d_prog_58_method_4_code_4 (hw _ (List.mem_of_getElem? (i := 21) rfl)) eT (F.1.ext O.2) (q := 7) rfl (fun T1 X1 e1 => ?_)
  exact s_retA K X1 d_prog_58_method_4_code_7 rfl rfl rfl e1 (by decide) (by decide) ⟨rfl, rfl, rfl⟩
set_option maxRecDepth 65536 in
set_option maxHeartbeats 40000000 in
theorem c_of_neg (l : Launch) (Z : State) (a0 : Array Value) (hw : ∀ d ∈ tables_1, d.before a0 Z = true) (h0 : Heap) (O : Old Z Z.heap.size h0) (c : Int32) (a : Addr) (hp : c < 0) (F : Act Z "REFUND" a) : Con l Z (⟨"com/example/loadshare/loadshare/Reconciliation$Action", "of", "(I)Lcom/example/loadshare/loadshare/Reconciliation$Action;"⟩ : MethodName) prog_58_method_4_code 1 (some (.object "com/example/loadshare/loadshare/Reconciliation$Action")) ({ frames := 0, cells := 0, slots := 0, locals := 0 } : Room) #[(.int c)] h0 (fun v h L => v = some (.ref a) ∧ h = h0 ∧ L = []) := by
  refine Con.of (plainFor_of_name pn_com_example_loadshare_loadshare_Reconciliation_Action) (Ls := #[.val (.int c)]) (fun m => by first | (simp [entryFrame, mkF, argsToLocals, Value.category]; done) | rfl) (fun p e s m below meth cod T K X eT => ?_)
  refine s_iloadN K X d_prog_58_method_4_code_0 rfl (q := 1) rfl ?_
  refine s_if_le K X d_prog_58_method_4_code_1 (by decide) (q := 8) rfl (q' := 4) rfl (fun _ => ?_) (fun h_ => absurd h_ (own_neg hp))
  refine s_iloadN K X d_prog_58_method_4_code_8 rfl (q := 9) rfl ?_
  refine s_if_ge K X d_prog_58_method_4_code_9 (by decide) (q := 18) rfl (q' := 12) rfl (fun h_ => absurd hp h_) (fun _ => ?_)
  refine s_getS K X d_prog_58_method_4_code_12 (hw _ (List.mem_of_getElem? (i := 22) rfl)) eT (F.1.ext O.2) (q := 15) rfl (fun T2 X2 e2 => ?_)
  refine s_goto K X2 d_prog_58_method_4_code_15 (by decide) (q := 21) rfl ?_
  exact s_retA K X2 d_prog_58_method_4_code_21 rfl rfl rfl e2 (by decide) (by decide) ⟨rfl, rfl, rfl⟩
set_option maxRecDepth 65536 in
set_option maxHeartbeats 40000000 in
theorem c_of_zero (l : Launch) (Z : State) (a0 : Array Value) (hw : ∀ d ∈ tables_1, d.before a0 Z = true) (h0 : Heap) (O : Old Z Z.heap.size h0) (c : Int32) (a : Addr) (hp : c = 0) (F : Act Z "NONE" a) : Con l Z (⟨"com/example/loadshare/loadshare/Reconciliation$Action", "of", "(I)Lcom/example/loadshare/loadshare/Reconciliation$Action;"⟩ : MethodName) prog_58_method_4_code 1 (some (.object "com/example/loadshare/loadshare/Reconciliation$Action")) ({ frames := 0, cells := 0, slots := 0, locals := 0 } : Room) #[(.int c)] h0 (fun v h L => v = some (.ref a) ∧ h = h0 ∧ L = []) := by
  refine Con.of (plainFor_of_name pn_com_example_loadshare_loadshare_Reconciliation_Action) (Ls := #[.val (.int c)]) (fun m => by first | (simp [entryFrame, mkF, argsToLocals, Value.category]; done) | rfl) (fun p e s m below meth cod T K X eT => ?_)
  refine s_iloadN K X d_prog_58_method_4_code_0 rfl (q := 1) rfl ?_
  refine s_if_le K X d_prog_58_method_4_code_1 (by decide) (q := 8) rfl (q' := 4) rfl (fun _ => ?_) (fun h_ => absurd h_ (by rw [hp]; decide))
  refine s_iloadN K X d_prog_58_method_4_code_8 rfl (q := 9) rfl ?_
  refine s_if_ge K X d_prog_58_method_4_code_9 (by decide) (q := 18) rfl (q' := 12) rfl (fun _ => ?_) (fun h_ => absurd h_ (by rw [hp]; decide))
  refine s_getS K X d_prog_58_method_4_code_18 (hw _ (List.mem_of_getElem? (i := 20) rfl)) eT (F.1.ext O.2) (q := 21) rfl (fun T3 X3 e3 => ?_)
  exact s_retA K X3 d_prog_58_method_4_code_21 rfl rfl rfl e3 (by decide) (by decide) ⟨rfl, rfl, rfl⟩
set_option maxRecDepth 65536 in
set_option maxHeartbeats 40000000 in
theorem c_law_pos (l : Launch) (Z : State) (a0 : Array Value) (hw : ∀ d ∈ tables_1, d.before a0 Z = true) (c : Int32) (a1 a2 a3 : Addr) (hp : 0 < c) (F1 : Act Z "REFUND" a1) (F2 : Act Z "NONE" a2) (F3 : Act Z "BILL" a3) : Con l Z x code maxLocals ret room_1 #[(.int c)] Z.heap (fun v h L => v = some (.int 1) ∧ Fr Z.heap.size L) := by
  refine Con.of (plainFor_of_name pn_com_example_loadshare_loadshare_ReconciliationOfPinLaw) (Ls := #[.val (.int c), .unset, .unset, .unset, .unset]) (fun m => by first | (simp [entryFrame, mkF, argsToLocals, Value.category, maxLocals]; done) | rfl) (fun p e s m below meth cod T K X eT => ?_)
  refine s_iconst K X at_0 (z := 3) rfl (q := 1) rfl ?_
  refine s_newV K X at_1 (hw _ (List.mem_of_getElem? (i := 0) rfl)) (hw _ (List.mem_of_getElem? (i := 1) rfl)) eT (by decide) 3 (by decide) (by decide) (by decide) (by decide) (vs := [.null, .null, .null]) rfl (q := 4) rfl (fun T4 h4 b4 k4 g4 X4 e4 E4 V4 O4 => ?_)
  have g0 : Z.heap.size ≤ b4 := by rw [g4]; exact Nat.le_refl _
  have D4 := (Old.start Z).ext E4
  refine s_astoreN K X4 at_4 rfl (l' := #[.val (.int c), .val (.ref b4), .unset, .unset, .unset]) rfl (q := 5) rfl ?_
  refine s_aloadN K X4 at_5 rfl rfl (q := 6) rfl ?_
  refine s_iconst K X4 at_6 (z := 0) rfl (q := 7) rfl ?_
  refine s_getS K X4 at_7 (hw _ (List.mem_of_getElem? (i := 2) rfl)) e4 (F1.1.ext D4.2) (q := 10) rfl (fun T5 X5 e5 => ?_)
  refine s_stV K X5 at_10 e5 V4 O4 (by decide) rfl (fun y hy => by cases hy; exact Ins.self (F1.2.ext D4.2)) 0 rfl (Nat.le_of_ble_eq_true rfl) (vs' := [(.ref a1), .null, .null]) rfl (q := 11) rfl (fun T6 h6 X6 e6 W6 V6 => ?_)
  have D6 := D4.wr W6 g0
  have N6 := Fr.snoc X6 (Fr.nil _) g0
  refine s_aloadN K X6 at_11 rfl rfl (q := 12) rfl ?_
  refine s_iconst K X6 at_12 (z := 1) rfl (q := 13) rfl ?_
  refine s_getS K X6 at_13 (hw _ (List.mem_of_getElem? (i := 6) rfl)) e6 (F2.1.ext D6.2) (q := 16) rfl (fun T7 X7 e7 => ?_)
  refine s_stV K X7 at_16 e7 V6 O4 (by decide) rfl (fun y hy => by cases hy; exact Ins.self (F2.2.ext D6.2)) 1 rfl (Nat.le_of_ble_eq_true rfl) (vs' := [(.ref a1), (.ref a2), .null]) rfl (q := 17) rfl (fun T8 h8 X8 e8 W8 V8 => ?_)
  have D8 := D6.wr W8 g0
  have N8 := Fr.snoc X8 N6 g0
  refine s_aloadN K X8 at_17 rfl rfl (q := 18) rfl ?_
  refine s_iconst K X8 at_18 (z := 2) rfl (q := 19) rfl ?_
  refine s_getS K X8 at_19 (hw _ (List.mem_of_getElem? (i := 8) rfl)) e8 (F3.1.ext D8.2) (q := 22) rfl (fun T9 X9 e9 => ?_)
  refine s_stV K X9 at_22 e9 V8 O4 (by decide) rfl (fun y hy => by cases hy; exact Ins.self (F3.2.ext D8.2)) 2 rfl (Nat.le_of_ble_eq_true rfl) (vs' := [(.ref a1), (.ref a2), (.ref a3)]) rfl (q := 23) rfl (fun T10 h10 X10 e10 W10 V10 => ?_)
  have D10 := D8.wr W10 g0
  have N10 := Fr.snoc X10 N8 g0
  refine s_iconst K X10 at_23 (z := -1) rfl (q := 24) rfl ?_
  refine s_iconst K X10 at_24 (z := 1) rfl (q := 25) rfl ?_
  refine s_iloadN K X10 at_25 rfl (q := 26) rfl ?_
  refine s_callS K X10 1 at_26 (hw _ (List.mem_of_getElem? (i := 10) rfl)) (hw _ (List.mem_of_getElem? (i := 11) rfl)) (hw _ (List.mem_of_getElem? (i := 12) rfl)) (hw _ (List.mem_of_getElem? (i := 13) rfl)) (by decide) pd__II_I rfl e10 (argsL := [(.int (1 : Int32)), (.int c)]) (st := [(.int (-1 : Int32))]) (c_min l Z a0 hw _ 1 c) rfl rfl (by decide) (Nat.le_of_eq rfl) (by decide) (by decide) (by decide) (q := 29) rfl (fun v11 T11 h11 L11 X11 e11 hQ11 => ?_)
  obtain ⟨rfl, rfl, rfl⟩ := hQ11
  rw [show (if c < 1 then c else 1) = 1 from if_neg (own_min_pos hp)]
  refine s_callS K X11 0 at_29 (hw _ (List.mem_of_getElem? (i := 14) rfl)) (hw _ (List.mem_of_getElem? (i := 15) rfl)) (hw _ (List.mem_of_getElem? (i := 12) rfl)) (hw _ (List.mem_of_getElem? (i := 16) rfl)) (by decide) pd__II_I rfl e11 (argsL := [(.int (-1 : Int32)), (.int (1 : Int32))]) (st := []) (c_max l Z a0 hw _ (-1) (1 : Int32)) rfl rfl (by decide) (Nat.le_of_eq rfl) (by decide) (by decide) (by decide) (q := 32) rfl (fun v12 T12 h12 L12 X12 e12 hQ12 => ?_)
  obtain ⟨rfl, rfl, rfl⟩ := hQ12
  rw [show (if (-1 : Int32) < 1 then (1 : Int32) else -1) = 1 from rfl]
  refine s_istoreN K X12 at_32 (l' := #[.val (.int c), .val (.ref b4), .val (.int (1 : Int32)), .unset, .unset]) rfl (q := 33) rfl ?_
  refine s_aloadN K X12 at_33 rfl rfl (q := 34) rfl ?_
  refine s_iloadN K X12 at_34 rfl (q := 35) rfl ?_
  refine s_iconst K X12 at_35 (z := 1) rfl (q := 36) rfl ?_
  refine s_iadd K X12 at_36 (q := 37) rfl ?_
  refine s_ldV K X12 at_37 e12 V10 rfl (by decide) rfl (q := 38) rfl ?_
  refine s_astoreN K X12 at_38 rfl (l' := #[.val (.int c), .val (.ref b4), .val (.int (1 : Int32)), .val (.ref a3), .unset]) rfl (q := 39) rfl ?_
  refine s_iloadN K X12 at_39 rfl (q := 40) rfl ?_
  refine s_callS K X12 0 at_40 (hw _ (List.mem_of_getElem? (i := 17) rfl)) (hw _ (List.mem_of_getElem? (i := 18) rfl)) (hw _ (List.mem_of_getElem? (i := 3) rfl)) (hw _ (List.mem_of_getElem? (i := 19) rfl)) (by decide) pd__I_Lcom_example_loadshare_loadshare_Reconciliation_Action_ rfl e12 (argsL := [(.int c)]) (st := []) (c_of_pos l Z a0 hw _ D10 c a3 hp F3) rfl rfl (by decide) (Nat.le_of_eq rfl) (by decide) (by decide) (by decide) (q := 43) rfl (fun v13 T13 h13 L13 X13 e13 hQ13 => ?_)
  obtain ⟨rfl, rfl, rfl⟩ := hQ13
  refine s_astore K X13 at_43 rfl (l' := #[.val (.int c), .val (.ref b4), .val (.int (1 : Int32)), .val (.ref a3), .val (.ref a3)]) rfl (q := 45) rfl ?_
  refine s_aload K X13 at_45 rfl rfl (q := 47) rfl ?_
  refine s_aloadN K X13 at_47 rfl rfl (q := 48) rfl ?_
  refine s_acmp_ne K X13 at_48 rfl rfl (by decide) (q := 55) rfl (q' := 51) rfl (fun h_ => absurd rfl h_) (fun _ => ?_)
  refine s_iconst K X13 at_51 (z := 1) rfl (q := 52) rfl ?_
  refine s_goto K X13 at_52 (by decide) (q := 56) rfl ?_
  exact s_retZ K X13 at_56 rfl (by decide) e13 (by decide) (by decide) ⟨rfl, (N10.app (Fr.nil _)).app (Fr.nil _) |>.app (Fr.nil _)⟩
set_option maxRecDepth 65536 in
set_option maxHeartbeats 40000000 in
theorem c_law_neg (l : Launch) (Z : State) (a0 : Array Value) (hw : ∀ d ∈ tables_1, d.before a0 Z = true) (c : Int32) (a1 a2 a3 : Addr) (hp : c < 0) (F1 : Act Z "REFUND" a1) (F2 : Act Z "NONE" a2) (F3 : Act Z "BILL" a3) : Con l Z x code maxLocals ret room_1 #[(.int c)] Z.heap (fun v h L => v = some (.int 1) ∧ Fr Z.heap.size L) := by
  refine Con.of (plainFor_of_name pn_com_example_loadshare_loadshare_ReconciliationOfPinLaw) (Ls := #[.val (.int c), .unset, .unset, .unset, .unset]) (fun m => by first | (simp [entryFrame, mkF, argsToLocals, Value.category, maxLocals]; done) | rfl) (fun p e s m below meth cod T K X eT => ?_)
  refine s_iconst K X at_0 (z := 3) rfl (q := 1) rfl ?_
  refine s_newV K X at_1 (hw _ (List.mem_of_getElem? (i := 0) rfl)) (hw _ (List.mem_of_getElem? (i := 1) rfl)) eT (by decide) 3 (by decide) (by decide) (by decide) (by decide) (vs := [.null, .null, .null]) rfl (q := 4) rfl (fun T14 h14 b14 k14 g14 X14 e14 E14 V14 O14 => ?_)
  have g0 : Z.heap.size ≤ b14 := by rw [g14]; exact Nat.le_refl _
  have D14 := (Old.start Z).ext E14
  refine s_astoreN K X14 at_4 rfl (l' := #[.val (.int c), .val (.ref b14), .unset, .unset, .unset]) rfl (q := 5) rfl ?_
  refine s_aloadN K X14 at_5 rfl rfl (q := 6) rfl ?_
  refine s_iconst K X14 at_6 (z := 0) rfl (q := 7) rfl ?_
  refine s_getS K X14 at_7 (hw _ (List.mem_of_getElem? (i := 2) rfl)) e14 (F1.1.ext D14.2) (q := 10) rfl (fun T15 X15 e15 => ?_)
  refine s_stV K X15 at_10 e15 V14 O14 (by decide) rfl (fun y hy => by cases hy; exact Ins.self (F1.2.ext D14.2)) 0 rfl (Nat.le_of_ble_eq_true rfl) (vs' := [(.ref a1), .null, .null]) rfl (q := 11) rfl (fun T16 h16 X16 e16 W16 V16 => ?_)
  have D16 := D14.wr W16 g0
  have N16 := Fr.snoc X16 (Fr.nil _) g0
  refine s_aloadN K X16 at_11 rfl rfl (q := 12) rfl ?_
  refine s_iconst K X16 at_12 (z := 1) rfl (q := 13) rfl ?_
  refine s_getS K X16 at_13 (hw _ (List.mem_of_getElem? (i := 6) rfl)) e16 (F2.1.ext D16.2) (q := 16) rfl (fun T17 X17 e17 => ?_)
  refine s_stV K X17 at_16 e17 V16 O14 (by decide) rfl (fun y hy => by cases hy; exact Ins.self (F2.2.ext D16.2)) 1 rfl (Nat.le_of_ble_eq_true rfl) (vs' := [(.ref a1), (.ref a2), .null]) rfl (q := 17) rfl (fun T18 h18 X18 e18 W18 V18 => ?_)
  have D18 := D16.wr W18 g0
  have N18 := Fr.snoc X18 N16 g0
  refine s_aloadN K X18 at_17 rfl rfl (q := 18) rfl ?_
  refine s_iconst K X18 at_18 (z := 2) rfl (q := 19) rfl ?_
  refine s_getS K X18 at_19 (hw _ (List.mem_of_getElem? (i := 8) rfl)) e18 (F3.1.ext D18.2) (q := 22) rfl (fun T19 X19 e19 => ?_)
  refine s_stV K X19 at_22 e19 V18 O14 (by decide) rfl (fun y hy => by cases hy; exact Ins.self (F3.2.ext D18.2)) 2 rfl (Nat.le_of_ble_eq_true rfl) (vs' := [(.ref a1), (.ref a2), (.ref a3)]) rfl (q := 23) rfl (fun T20 h20 X20 e20 W20 V20 => ?_)
  have D20 := D18.wr W20 g0
  have N20 := Fr.snoc X20 N18 g0
  refine s_iconst K X20 at_23 (z := -1) rfl (q := 24) rfl ?_
  refine s_iconst K X20 at_24 (z := 1) rfl (q := 25) rfl ?_
  refine s_iloadN K X20 at_25 rfl (q := 26) rfl ?_
  refine s_callS K X20 1 at_26 (hw _ (List.mem_of_getElem? (i := 10) rfl)) (hw _ (List.mem_of_getElem? (i := 11) rfl)) (hw _ (List.mem_of_getElem? (i := 12) rfl)) (hw _ (List.mem_of_getElem? (i := 13) rfl)) (by decide) pd__II_I rfl e20 (argsL := [(.int (1 : Int32)), (.int c)]) (st := [(.int (-1 : Int32))]) (c_min l Z a0 hw _ 1 c) rfl rfl (by decide) (Nat.le_of_eq rfl) (by decide) (by decide) (by decide) (q := 29) rfl (fun v21 T21 h21 L21 X21 e21 hQ21 => ?_)
  obtain ⟨rfl, rfl, rfl⟩ := hQ21
  rw [show (if c < 1 then c else 1) = c from if_pos (own_min_neg hp)]
  refine s_callS K X21 0 at_29 (hw _ (List.mem_of_getElem? (i := 14) rfl)) (hw _ (List.mem_of_getElem? (i := 15) rfl)) (hw _ (List.mem_of_getElem? (i := 12) rfl)) (hw _ (List.mem_of_getElem? (i := 16) rfl)) (by decide) pd__II_I rfl e21 (argsL := [(.int (-1 : Int32)), (.int c)]) (st := []) (c_max l Z a0 hw _ (-1) c) rfl rfl (by decide) (Nat.le_of_eq rfl) (by decide) (by decide) (by decide) (q := 32) rfl (fun v22 T22 h22 L22 X22 e22 hQ22 => ?_)
  obtain ⟨rfl, rfl, rfl⟩ := hQ22
  rw [show (if (-1 : Int32) < c then c else -1) = -1 from if_neg (own_max_neg hp)]
  refine s_istoreN K X22 at_32 (l' := #[.val (.int c), .val (.ref b14), .val (.int (-1 : Int32)), .unset, .unset]) rfl (q := 33) rfl ?_
  refine s_aloadN K X22 at_33 rfl rfl (q := 34) rfl ?_
  refine s_iloadN K X22 at_34 rfl (q := 35) rfl ?_
  refine s_iconst K X22 at_35 (z := 1) rfl (q := 36) rfl ?_
  refine s_iadd K X22 at_36 (q := 37) rfl ?_
  refine s_ldV K X22 at_37 e22 V20 rfl (by decide) rfl (q := 38) rfl ?_
  refine s_astoreN K X22 at_38 rfl (l' := #[.val (.int c), .val (.ref b14), .val (.int (-1 : Int32)), .val (.ref a1), .unset]) rfl (q := 39) rfl ?_
  refine s_iloadN K X22 at_39 rfl (q := 40) rfl ?_
  refine s_callS K X22 0 at_40 (hw _ (List.mem_of_getElem? (i := 17) rfl)) (hw _ (List.mem_of_getElem? (i := 18) rfl)) (hw _ (List.mem_of_getElem? (i := 3) rfl)) (hw _ (List.mem_of_getElem? (i := 19) rfl)) (by decide) pd__I_Lcom_example_loadshare_loadshare_Reconciliation_Action_ rfl e22 (argsL := [(.int c)]) (st := []) (c_of_neg l Z a0 hw _ D20 c a1 hp F1) rfl rfl (by decide) (Nat.le_of_eq rfl) (by decide) (by decide) (by decide) (q := 43) rfl (fun v23 T23 h23 L23 X23 e23 hQ23 => ?_)
  obtain ⟨rfl, rfl, rfl⟩ := hQ23
  refine s_astore K X23 at_43 rfl (l' := #[.val (.int c), .val (.ref b14), .val (.int (-1 : Int32)), .val (.ref a1), .val (.ref a1)]) rfl (q := 45) rfl ?_
  refine s_aload K X23 at_45 rfl rfl (q := 47) rfl ?_
  refine s_aloadN K X23 at_47 rfl rfl (q := 48) rfl ?_
  refine s_acmp_ne K X23 at_48 rfl rfl (by decide) (q := 55) rfl (q' := 51) rfl (fun h_ => absurd rfl h_) (fun _ => ?_)
  refine s_iconst K X23 at_51 (z := 1) rfl (q := 52) rfl ?_
  refine s_goto K X23 at_52 (by decide) (q := 56) rfl ?_
  exact s_retZ K X23 at_56 rfl (by decide) e23 (by decide) (by decide) ⟨rfl, (N20.app (Fr.nil _)).app (Fr.nil _) |>.app (Fr.nil _)⟩
set_option maxRecDepth 65536 in
set_option maxHeartbeats 40000000 in
theorem c_law_zero (l : Launch) (Z : State) (a0 : Array Value) (hw : ∀ d ∈ tables_1, d.before a0 Z = true) (c : Int32) (a1 a2 a3 : Addr) (hp : c = 0) (F1 : Act Z "REFUND" a1) (F2 : Act Z "NONE" a2) (F3 : Act Z "BILL" a3) : Con l Z x code maxLocals ret room_1 #[(.int c)] Z.heap (fun v h L => v = some (.int 1) ∧ Fr Z.heap.size L) := by
  refine Con.of (plainFor_of_name pn_com_example_loadshare_loadshare_ReconciliationOfPinLaw) (Ls := #[.val (.int c), .unset, .unset, .unset, .unset]) (fun m => by first | (simp [entryFrame, mkF, argsToLocals, Value.category, maxLocals]; done) | rfl) (fun p e s m below meth cod T K X eT => ?_)
  refine s_iconst K X at_0 (z := 3) rfl (q := 1) rfl ?_
  refine s_newV K X at_1 (hw _ (List.mem_of_getElem? (i := 0) rfl)) (hw _ (List.mem_of_getElem? (i := 1) rfl)) eT (by decide) 3 (by decide) (by decide) (by decide) (by decide) (vs := [.null, .null, .null]) rfl (q := 4) rfl (fun T24 h24 b24 k24 g24 X24 e24 E24 V24 O24 => ?_)
  have g0 : Z.heap.size ≤ b24 := by rw [g24]; exact Nat.le_refl _
  have D24 := (Old.start Z).ext E24
  refine s_astoreN K X24 at_4 rfl (l' := #[.val (.int c), .val (.ref b24), .unset, .unset, .unset]) rfl (q := 5) rfl ?_
  refine s_aloadN K X24 at_5 rfl rfl (q := 6) rfl ?_
  refine s_iconst K X24 at_6 (z := 0) rfl (q := 7) rfl ?_
  refine s_getS K X24 at_7 (hw _ (List.mem_of_getElem? (i := 2) rfl)) e24 (F1.1.ext D24.2) (q := 10) rfl (fun T25 X25 e25 => ?_)
  refine s_stV K X25 at_10 e25 V24 O24 (by decide) rfl (fun y hy => by cases hy; exact Ins.self (F1.2.ext D24.2)) 0 rfl (Nat.le_of_ble_eq_true rfl) (vs' := [(.ref a1), .null, .null]) rfl (q := 11) rfl (fun T26 h26 X26 e26 W26 V26 => ?_)
  have D26 := D24.wr W26 g0
  have N26 := Fr.snoc X26 (Fr.nil _) g0
  refine s_aloadN K X26 at_11 rfl rfl (q := 12) rfl ?_
  refine s_iconst K X26 at_12 (z := 1) rfl (q := 13) rfl ?_
  refine s_getS K X26 at_13 (hw _ (List.mem_of_getElem? (i := 6) rfl)) e26 (F2.1.ext D26.2) (q := 16) rfl (fun T27 X27 e27 => ?_)
  refine s_stV K X27 at_16 e27 V26 O24 (by decide) rfl (fun y hy => by cases hy; exact Ins.self (F2.2.ext D26.2)) 1 rfl (Nat.le_of_ble_eq_true rfl) (vs' := [(.ref a1), (.ref a2), .null]) rfl (q := 17) rfl (fun T28 h28 X28 e28 W28 V28 => ?_)
  have D28 := D26.wr W28 g0
  have N28 := Fr.snoc X28 N26 g0
  refine s_aloadN K X28 at_17 rfl rfl (q := 18) rfl ?_
  refine s_iconst K X28 at_18 (z := 2) rfl (q := 19) rfl ?_
  refine s_getS K X28 at_19 (hw _ (List.mem_of_getElem? (i := 8) rfl)) e28 (F3.1.ext D28.2) (q := 22) rfl (fun T29 X29 e29 => ?_)
  refine s_stV K X29 at_22 e29 V28 O24 (by decide) rfl (fun y hy => by cases hy; exact Ins.self (F3.2.ext D28.2)) 2 rfl (Nat.le_of_ble_eq_true rfl) (vs' := [(.ref a1), (.ref a2), (.ref a3)]) rfl (q := 23) rfl (fun T30 h30 X30 e30 W30 V30 => ?_)
  have D30 := D28.wr W30 g0
  have N30 := Fr.snoc X30 N28 g0
  refine s_iconst K X30 at_23 (z := -1) rfl (q := 24) rfl ?_
  refine s_iconst K X30 at_24 (z := 1) rfl (q := 25) rfl ?_
  refine s_iloadN K X30 at_25 rfl (q := 26) rfl ?_
  refine s_callS K X30 1 at_26 (hw _ (List.mem_of_getElem? (i := 10) rfl)) (hw _ (List.mem_of_getElem? (i := 11) rfl)) (hw _ (List.mem_of_getElem? (i := 12) rfl)) (hw _ (List.mem_of_getElem? (i := 13) rfl)) (by decide) pd__II_I rfl e30 (argsL := [(.int (1 : Int32)), (.int c)]) (st := [(.int (-1 : Int32))]) (c_min l Z a0 hw _ 1 c) rfl rfl (by decide) (Nat.le_of_eq rfl) (by decide) (by decide) (by decide) (q := 29) rfl (fun v31 T31 h31 L31 X31 e31 hQ31 => ?_)
  obtain ⟨rfl, rfl, rfl⟩ := hQ31
  rw [show (if c < 1 then c else 1) = c from if_pos (by rw [hp]; decide)]
  refine s_callS K X31 0 at_29 (hw _ (List.mem_of_getElem? (i := 14) rfl)) (hw _ (List.mem_of_getElem? (i := 15) rfl)) (hw _ (List.mem_of_getElem? (i := 12) rfl)) (hw _ (List.mem_of_getElem? (i := 16) rfl)) (by decide) pd__II_I rfl e31 (argsL := [(.int (-1 : Int32)), (.int c)]) (st := []) (c_max l Z a0 hw _ (-1) c) rfl rfl (by decide) (Nat.le_of_eq rfl) (by decide) (by decide) (by decide) (q := 32) rfl (fun v32 T32 h32 L32 X32 e32 hQ32 => ?_)
  obtain ⟨rfl, rfl, rfl⟩ := hQ32
  rw [show (if (-1 : Int32) < c then c else -1) = 0 from by rw [hp]; decide]
  refine s_istoreN K X32 at_32 (l' := #[.val (.int c), .val (.ref b24), .val (.int (0 : Int32)), .unset, .unset]) rfl (q := 33) rfl ?_
  refine s_aloadN K X32 at_33 rfl rfl (q := 34) rfl ?_
  refine s_iloadN K X32 at_34 rfl (q := 35) rfl ?_
  refine s_iconst K X32 at_35 (z := 1) rfl (q := 36) rfl ?_
  refine s_iadd K X32 at_36 (q := 37) rfl ?_
  refine s_ldV K X32 at_37 e32 V30 rfl (by decide) rfl (q := 38) rfl ?_
  refine s_astoreN K X32 at_38 rfl (l' := #[.val (.int c), .val (.ref b24), .val (.int (0 : Int32)), .val (.ref a2), .unset]) rfl (q := 39) rfl ?_
  refine s_iloadN K X32 at_39 rfl (q := 40) rfl ?_
  refine s_callS K X32 0 at_40 (hw _ (List.mem_of_getElem? (i := 17) rfl)) (hw _ (List.mem_of_getElem? (i := 18) rfl)) (hw _ (List.mem_of_getElem? (i := 3) rfl)) (hw _ (List.mem_of_getElem? (i := 19) rfl)) (by decide) pd__I_Lcom_example_loadshare_loadshare_Reconciliation_Action_ rfl e32 (argsL := [(.int c)]) (st := []) (c_of_zero l Z a0 hw _ D30 c a2 hp F2) rfl rfl (by decide) (Nat.le_of_eq rfl) (by decide) (by decide) (by decide) (q := 43) rfl (fun v33 T33 h33 L33 X33 e33 hQ33 => ?_)
  obtain ⟨rfl, rfl, rfl⟩ := hQ33
  refine s_astore K X33 at_43 rfl (l' := #[.val (.int c), .val (.ref b24), .val (.int (0 : Int32)), .val (.ref a2), .val (.ref a2)]) rfl (q := 45) rfl ?_
  refine s_aload K X33 at_45 rfl rfl (q := 47) rfl ?_
  refine s_aloadN K X33 at_47 rfl rfl (q := 48) rfl ?_
  refine s_acmp_ne K X33 at_48 rfl rfl (by decide) (q := 55) rfl (q' := 51) rfl (fun h_ => absurd rfl h_) (fun _ => ?_)
  refine s_iconst K X33 at_51 (z := 1) rfl (q := 52) rfl ?_
  refine s_goto K X33 at_52 (by decide) (q := 56) rfl ?_
  exact s_retZ K X33 at_56 rfl (by decide) e33 (by decide) (by decide) ⟨rfl, (N30.app (Fr.nil _)).app (Fr.nil _) |>.app (Fr.nil _)⟩
theorem own_act {s : State} {args : Array Value} {n : String} (w1 : (Cond.initialized "com/example/loadshare/loadshare/Reconciliation$Action").before args s = true) (w2 : (Cond.laysStatic "com/example/loadshare/loadshare/Reconciliation$Action" n "Lcom/example/loadshare/loadshare/Reconciliation$Action;").before args s = true) (h1 : (Cond.exactly (Term.static "com/example/loadshare/loadshare/Reconciliation$Action" n "Lcom/example/loadshare/loadshare/Reconciliation$Action;") "com/example/loadshare/loadshare/Reconciliation$Action").value args s none s [] = some true) : ∃ a, Act s n a := by
  obtain ⟨a, ha⟩ := exa_v h1
  exact ⟨a, Sta.start ha (Or.inr ⟨w1, w2⟩), Exa.start ha h1⟩
set_option maxRecDepth 65536 in
set_option maxHeartbeats 40000000 in
theorem comes_1 {Post : Tables → Env → Array Value → State → Outcome → State → Prop} (hpost : ∀ tb e args s v u, (limb_1_1.after args s (.returned v) u = true ∧ limb_1_2.after args s (.returned v) u = true ∧ True) → FrameEnd s (.returned v) u (Jvm.fieldLocs frame_1_writes args s ++ Jvm.arrayLocs frame_1_arrays args s ++ Jvm.staticLocs frame_1_statics s) 16 128 → Post tb e args s (.returned v) u) :
    ArmFor flags0 classFile x code maxLocals ret World_1 tables_1 room_1 Calls_1 rest_1 Pre_1 Post := by
  intro l hfl _ _ p e ha hc hk s m args below hf hA hF happ hP
  obtain ⟨hcalls, hrest, hpre⟩ := hP
  obtain ⟨-, -, -, hnamed, -, -, -, hat⟩ := (Spec.applies_iff hf).mp happ
  obtain ⟨hg, hn⟩ := and_e (Cond.before_iff.mp (show (Jvm.Cond.and given_1 narrow_1).before args s = true from hpre))
  obtain ⟨h1, h2⟩ := and_e hg
  obtain ⟨w0, rfl⟩ : ∃ w0 : Value, args = #[w0] := by
    have hs : args.size = 1 := by simpa [Cond.value, given_1] using h1
    obtain ⟨L⟩ := args
    match L, hs with
    | [w0], _ => exact ⟨w0, rfl⟩
  have hw := fun d (hd : d ∈ tables_1) => atoms_spec (ws := Jvm.Cond.code x code maxLocals ret :: tables_1) hat d (List.mem_cons_of_mem _ hd)
  obtain ⟨i3, e3⟩ := is_v h2
  obtain rfl : w0 = (.int i3) := Option.some.inj e3
  obtain ⟨n0, hn⟩ := and_e hn
  obtain ⟨n1, n2⟩ := and_e hn
  obtain ⟨a1, F1⟩ := own_act (hw _ (List.mem_of_getElem? (i := 3) rfl)) (hw _ (List.mem_of_getElem? (i := 4) rfl)) n0
  obtain ⟨a2, F2⟩ := own_act (hw _ (List.mem_of_getElem? (i := 3) rfl)) (hw _ (List.mem_of_getElem? (i := 7) rfl)) n1
  obtain ⟨a3, F3⟩ := own_act (hw _ (List.mem_of_getElem? (i := 3) rfl)) (hw _ (List.mem_of_getElem? (i := 9) rfl)) n2
  have C : Con l s x code maxLocals ret room_1 #[.int i3] s.heap (fun v h L => v = some (.int 1) ∧ Fr s.heap.size L) := by
    by_cases q1 : 0 < i3
    · exact c_law_pos l s _ hw i3 a1 a2 a3 q1 F1 F2 F3
    · by_cases q2 : i3 < 0
      · exact c_law_neg l s _ hw i3 a1 a2 a3 q2 F1 F2 F3
      · exact c_law_zero l s _ hw i3 a1 a2 a3 (by rw [Int32.lt_iff_toInt_lt] at q1 q2; have : (0 : Int32).toInt = 0 := rfl; exact Int32.toInt_inj.mp (by omega)) F1 F2 F3
  obtain ⟨n, o, h1, h2, h3, _, L, rfl, ⟨rfl, N⟩, hq⟩ := C tables_1 p e ha hc hk s m _ below hf ((Spec.applies_iff_loose hf).mp happ).1 ⟨rfl, State.Warmed39.refl s, rfl⟩ trivial
  refine ⟨n, _, h1, h2, h3, hpost _ _ _ _ _ _ ⟨Cond.after_iff.mpr rfl, Cond.after_iff.mpr (eq_i res_at (Term.int_eval (1)) rfl), trivial⟩ ⟨hq.1, hq.2.1, (hq.2.2.sift fun y hy => Or.inr (N y hy)).mono (by decide) (by decide)⟩⟩
theorem main_1_1 : Claimed_1_1 := comes_1 fun _ _ _ _ _ _ h hF => ⟨h.1, hF⟩
theorem main_1_2 : Claimed_1_2 := comes_1 fun _ _ _ _ _ _ h hF => ⟨h.2.1, hF⟩
end Jvm.Pilot.@@N@@
namespace Jvm.Pilot.@@N@@
open Jvm Jvm.ClassFile Sem Op Lib Jvm.Free Jvm.Stand Jvm.Pilot.@@N@@.Jvm.D
/-! MADE BY PROGRAM (witnessworld.py) out of the Statement's table words and the real class files: 12 classes; the members and pool entries that the words name. The judged class is class 1, her method 1. -/
namespace start1
open Jvm.ClassFile
def u (s : String) : CpInfo := .utf8 (stringToUtf16 s)
/-- a pool by its gaps: so many unusable entries, then the entry; so many at the end -/
def gap : Nat → List CpInfo → List CpInfo
  | 0, r => r
  | n + 1, r => .unusable :: gap n r
def poolList (es : List (Nat × CpInfo)) (last : Nat) : List CpInfo := es.foldr (fun e r => gap e.1 (e.2 :: r)) (gap last [])
def pool (es : List (Nat × CpInfo)) (last : Nat) : Array CpInfo := ⟨poolList es last⟩
def fileOf (pool : Array CpInfo) (this : Nat) (attrs : Array Attribute := #[]) (ms : Array MethodInfo := #[]) (fl : Nat := 33) (sup : Nat := 0) (ifs : Array Nat := #[]) (fds : Array FieldInfo := #[]) : ClassFile where
  minorVersion := 0
  majorVersion := 65
  constantPool := pool
  accessFlags := fl
  thisClass := this
  superClass := sup
  interfaces := ifs
  fields := fds
  methods := ms
  attributes := attrs
def plain (name : String) (sup : Option ClassId) : Class where
  name := name
  kind := .ordinary
  loader := none
  accessFlags := 33
  super := sup
  interfaces := #[]
  cf := none
  fields := #[]
  methods := #[]
  instanceTypes := #[]
  staticTypes := #[]
  resolved := #[]
  callSites := []
  init := .initialized
  statics := none
  mirror := none

def pool0 : Array CpInfo := pool [(5, u "<init>"), (0, u "()V"), (1, .class_ 10), (1, u "java/lang/Object")] 113

def k0m0 : Method := { name := "<init>", desc := "()V", sig := { parameters := [], returnType := none }, accessFlags := 1, code := none }
/-- java/lang/Object -/
def k0 : Class := { plain "java/lang/Object" none with
  accessFlags := 33
  interfaces := #[]
  cf := some (fileOf pool0 8 #[] #[{ accessFlags := 1, nameIndex := 5, descriptorIndex := 6, attributes := #[] }] 33 0 #[] #[])
  fields := #[]
  methods := #[k0m0]
  instanceTypes := #[]
  staticTypes := #[]
  resolved := Array.replicate 124 none
  statics := none }

def pool1 : Array CpInfo := pool [(2, .class_ 4), (1, u "java/lang/Object"), (0, u "<init>"), (0, u "()V"), (0, .class_ 8), (0, u "com/example/loadshare/loadshare/Reconciliation$Action"), (0, .fieldref 7 10), (0, .nameAndType 11 12), (0, u "REFUND"), (0, u "Lcom/example/loadshare/loadshare/Reconciliation$Action;"), (0, .fieldref 7 14), (0, .nameAndType 15 12), (0, u "NONE"), (0, .fieldref 7 17), (0, .nameAndType 18 12), (0, u "BILL"), (0, .methodref 20 21), (0, .class_ 22), (0, .nameAndType 23 24), (0, u "java/lang/Math"), (0, u "min"), (0, u "(II)I"), (0, .methodref 20 26), (0, .nameAndType 27 24), (0, u "max"), (0, .methodref 7 29), (0, .nameAndType 30 31), (0, u "of"), (0, u "(I)Lcom/example/loadshare/loadshare/Reconciliation$Action;"), (0, .class_ 33), (0, u "com/example/loadshare/loadshare/ReconciliationOfPinLaw"), (2, u "law"), (0, u "(I)Z")] 9

def k1m0 : Method := { name := "<init>", desc := "()V", sig := { parameters := [], returnType := none }, accessFlags := 2, code := none }
def k1c1 : Code := { maxStack := 3, maxLocals := 5, code := code, exceptionTable := #[], attributes := #[] }
def k1m1 : Method := { name := "law", desc := "(I)Z", sig := { parameters := [.int], returnType := some .boolean }, accessFlags := 9, code := some k1c1 }
/-- com/example/loadshare/loadshare/ReconciliationOfPinLaw -/
def k1 : Class := { plain "com/example/loadshare/loadshare/ReconciliationOfPinLaw" (some 0) with
  accessFlags := 49
  interfaces := #[]
  cf := some (fileOf pool1 32 #[] #[{ accessFlags := 2, nameIndex := 5, descriptorIndex := 6, attributes := #[] }, { accessFlags := 9, nameIndex := 36, descriptorIndex := 37, attributes := #[] }] 49 2 #[] #[])
  fields := #[]
  methods := #[k1m0, k1m1]
  instanceTypes := #[]
  staticTypes := #[]
  resolved := Array.replicate 47 none
  statics := none }

def pool2 : Array CpInfo := pool [(1, .class_ 2), (0, u "java/lang/constant/Constable"), (0, .class_ 4), (0, u "java/lang/Object")] 6

/-- java/lang/constant/Constable -/
def k2 : Class := { plain "java/lang/constant/Constable" (some 0) with
  accessFlags := 1537
  interfaces := #[]
  cf := some (fileOf pool2 1 #[] #[] 1537 3 #[] #[])
  fields := #[]
  methods := #[]
  instanceTypes := #[]
  staticTypes := #[]
  resolved := Array.replicate 11 none
  statics := none }

def pool3 : Array CpInfo := pool [(1, .class_ 2), (0, u "java/lang/Comparable"), (0, .class_ 4), (0, u "java/lang/Object")] 7

/-- java/lang/Comparable -/
def k3 : Class := { plain "java/lang/Comparable" (some 0) with
  accessFlags := 1537
  interfaces := #[]
  cf := some (fileOf pool3 1 #[] #[] 1537 3 #[] #[])
  fields := #[]
  methods := #[]
  instanceTypes := #[]
  staticTypes := #[]
  resolved := Array.replicate 12 none
  statics := none }

def pool4 : Array CpInfo := pool [(1, .class_ 2), (0, u "java/io/Serializable"), (0, .class_ 4), (0, u "java/lang/Object")] 2

/-- java/io/Serializable -/
def k4 : Class := { plain "java/io/Serializable" (some 0) with
  accessFlags := 1537
  interfaces := #[]
  cf := some (fileOf pool4 1 #[] #[] 1537 3 #[] #[])
  fields := #[]
  methods := #[]
  instanceTypes := #[]
  staticTypes := #[]
  resolved := Array.replicate 7 none
  statics := none }

def pool5 : Array CpInfo := pool [(2, .class_ 4), (1, u "java/lang/Enum"), (0, u "name"), (0, u "Ljava/lang/String;"), (2, u "ordinal"), (0, u "I"), (1, .class_ 14), (1, u "java/lang/Object"), (4, u "hash"), (86, .class_ 108), (1, u "java/lang/Enum$EnumDesc"), (2, .class_ 112), (0, u "java/lang/constant/Constable"), (0, .class_ 114), (0, u "java/lang/Comparable"), (0, .class_ 116), (0, u "java/io/Serializable")] 87

/-- java/lang/Enum -/
def k5 : Class := { plain "java/lang/Enum" (some 0) with
  accessFlags := 1057
  interfaces := #[2, 3, 4]
  cf := some (fileOf pool5 2 #[.nestMembers #[106]] #[] 1057 12 #[111, 113, 115] #[{ accessFlags := 18, nameIndex := 5, descriptorIndex := 6, attributes := #[] }, { accessFlags := 18, nameIndex := 9, descriptorIndex := 10, attributes := #[] }, { accessFlags := 2, nameIndex := 19, descriptorIndex := 10, attributes := #[] }])
  fields := #[{ name := "name", type := (.object "java/lang/String"), accessFlags := 18, slot := 0, constantValue := 0 }, { name := "ordinal", type := .int, accessFlags := 18, slot := 1, constantValue := 0 }, { name := "hash", type := .int, accessFlags := 2, slot := 2, constantValue := 0 }]
  methods := #[]
  instanceTypes := #[(.object "java/lang/String"), .int, .int]
  staticTypes := #[]
  resolved := Array.replicate 204 none
  statics := none }

def pool6 : Array CpInfo := pool [(1, .class_ 2), (0, u "com/example/loadshare/loadshare/Reconciliation$Action"), (0, .fieldref 1 4), (0, .nameAndType 5 6), (0, u "BILL"), (0, u "Lcom/example/loadshare/loadshare/Reconciliation$Action;"), (0, .fieldref 1 8), (0, .nameAndType 9 6), (0, u "REFUND"), (0, .fieldref 1 11), (0, .nameAndType 12 6), (0, u "NONE"), (2, u "$VALUES"), (0, u "[Lcom/example/loadshare/loadshare/Reconciliation$Action;"), (6, .class_ 25), (1, u "java/lang/Enum"), (37, u "of"), (0, u "(I)Lcom/example/loadshare/loadshare/Reconciliation$Action;"), (7, .class_ 73), (0, u "com/example/loadshare/loadshare/Reconciliation")] 2

def k6c0 : Code := { maxStack := 1, maxLocals := 1, code := prog_58_method_4_code, exceptionTable := #[], attributes := #[] }
def k6m0 : Method := { name := "of", desc := "(I)Lcom/example/loadshare/loadshare/Reconciliation$Action;", sig := { parameters := [.int], returnType := some (.object "com/example/loadshare/loadshare/Reconciliation$Action") }, accessFlags := 8, code := some k6c0 }
/-- com/example/loadshare/loadshare/Reconciliation$Action -/
def k6 : Class := { plain "com/example/loadshare/loadshare/Reconciliation$Action" (some 5) with
  accessFlags := 16433
  interfaces := #[]
  cf := some (fileOf pool6 1 #[.nestHost 72] #[{ accessFlags := 8, nameIndex := 63, descriptorIndex := 64, attributes := #[] }] 16433 23 #[] #[{ accessFlags := 16409, nameIndex := 5, descriptorIndex := 6, attributes := #[] }, { accessFlags := 16409, nameIndex := 9, descriptorIndex := 6, attributes := #[] }, { accessFlags := 16409, nameIndex := 12, descriptorIndex := 6, attributes := #[] }, { accessFlags := 4122, nameIndex := 15, descriptorIndex := 16, attributes := #[] }])
  fields := #[{ name := "BILL", type := (.object "com/example/loadshare/loadshare/Reconciliation$Action"), accessFlags := 16409, slot := 0, constantValue := 0 }, { name := "REFUND", type := (.object "com/example/loadshare/loadshare/Reconciliation$Action"), accessFlags := 16409, slot := 1, constantValue := 0 }, { name := "NONE", type := (.object "com/example/loadshare/loadshare/Reconciliation$Action"), accessFlags := 16409, slot := 2, constantValue := 0 }, { name := "$VALUES", type := (.array (.object "com/example/loadshare/loadshare/Reconciliation$Action")), accessFlags := 4122, slot := 3, constantValue := 0 }]
  methods := #[k6m0]
  instanceTypes := #[(.object "java/lang/String"), .int, .int]
  staticTypes := #[(.object "com/example/loadshare/loadshare/Reconciliation$Action"), (.object "com/example/loadshare/loadshare/Reconciliation$Action"), (.object "com/example/loadshare/loadshare/Reconciliation$Action"), (.array (.object "com/example/loadshare/loadshare/Reconciliation$Action"))]
  resolved := Array.replicate 76 none
  statics := some 0 }

def pool7 : Array CpInfo := pool [(1, .class_ 2), (0, u "java/lang/Math"), (1, .class_ 6), (1, u "java/lang/Object"), (0, u "<init>"), (0, u "()V"), (89, .class_ 100), (1, u "java/lang/Math$RandomNumberGeneratorHolder"), (71, u "negativeZeroFloatBits"), (0, u "J"), (2, u "negativeZeroDoubleBits"), (21, u "max"), (2, u "min"), (43, u "$assertionsDisabled"), (0, u "Z"), (88, u "(II)I"), (2, u "twoToTheDoubleScaleDown"), (0, u "D"), (4, u "twoToTheDoubleScaleUp"), (9, u "E"), (3, u "PI"), (2, u "TAU"), (2, u "DEGREES_TO_RADIANS"), (0, u "RADIANS_TO_DEGREES")] 94

def k7m0 : Method := { name := "<init>", desc := "()V", sig := { parameters := [], returnType := none }, accessFlags := 2, code := none }
def k7c1 : Code := { maxStack := 2, maxLocals := 2, code := jdk_29_method_65_code, exceptionTable := #[], attributes := #[] }
def k7m1 : Method := { name := "max", desc := "(II)I", sig := { parameters := [.int, .int], returnType := some .int }, accessFlags := 9, code := some k7c1 }
def k7c2 : Code := { maxStack := 2, maxLocals := 2, code := jdk_29_method_69_code, exceptionTable := #[], attributes := #[] }
def k7m2 : Method := { name := "min", desc := "(II)I", sig := { parameters := [.int, .int], returnType := some .int }, accessFlags := 9, code := some k7c2 }
/-- java/lang/Math -/
def k7 : Class := { plain "java/lang/Math" (some 0) with
  accessFlags := 49
  interfaces := #[]
  cf := some (fileOf pool7 1 #[.nestMembers #[98]] #[{ accessFlags := 2, nameIndex := 7, descriptorIndex := 8, attributes := #[] }, { accessFlags := 9, nameIndex := 198, descriptorIndex := 335, attributes := #[] }, { accessFlags := 9, nameIndex := 201, descriptorIndex := 335, attributes := #[] }] 49 4 #[] #[{ accessFlags := 25, nameIndex := 354, descriptorIndex := 339, attributes := #[] }, { accessFlags := 25, nameIndex := 358, descriptorIndex := 339, attributes := #[] }, { accessFlags := 25, nameIndex := 361, descriptorIndex := 339, attributes := #[] }, { accessFlags := 26, nameIndex := 364, descriptorIndex := 339, attributes := #[] }, { accessFlags := 26, nameIndex := 365, descriptorIndex := 339, attributes := #[] }, { accessFlags := 26, nameIndex := 172, descriptorIndex := 173, attributes := #[] }, { accessFlags := 26, nameIndex := 176, descriptorIndex := 173, attributes := #[] }, { accessFlags := 8, nameIndex := 344, descriptorIndex := 339, attributes := #[] }, { accessFlags := 8, nameIndex := 338, descriptorIndex := 339, attributes := #[] }, { accessFlags := 4120, nameIndex := 245, descriptorIndex := 246, attributes := #[] }])
  fields := #[{ name := "E", type := .double, accessFlags := 25, slot := 0, constantValue := 0 }, { name := "PI", type := .double, accessFlags := 25, slot := 1, constantValue := 0 }, { name := "TAU", type := .double, accessFlags := 25, slot := 2, constantValue := 0 }, { name := "DEGREES_TO_RADIANS", type := .double, accessFlags := 26, slot := 3, constantValue := 0 }, { name := "RADIANS_TO_DEGREES", type := .double, accessFlags := 26, slot := 4, constantValue := 0 }, { name := "negativeZeroFloatBits", type := .long, accessFlags := 26, slot := 5, constantValue := 0 }, { name := "negativeZeroDoubleBits", type := .long, accessFlags := 26, slot := 6, constantValue := 0 }, { name := "twoToTheDoubleScaleUp", type := .double, accessFlags := 8, slot := 7, constantValue := 0 }, { name := "twoToTheDoubleScaleDown", type := .double, accessFlags := 8, slot := 8, constantValue := 0 }, { name := "$assertionsDisabled", type := .boolean, accessFlags := 4120, slot := 9, constantValue := 0 }]
  methods := #[k7m0, k7m1, k7m2]
  instanceTypes := #[]
  staticTypes := #[.double, .double, .double, .double, .double, .long, .long, .double, .double, .boolean]
  resolved := Array.replicate 460 none
  statics := none }

def pool8 : Array CpInfo := pool [(1, u "java/lang/Cloneable"), (0, .class_ 1), (0, u "java/lang/Object"), (0, .class_ 3)] 3

/-- java/lang/Cloneable -/
def k8 : Class := { plain "java/lang/Cloneable" (some 0) with
  accessFlags := 1537
  interfaces := #[]
  cf := some (fileOf pool8 2 #[] #[] 1537 4 #[] #[])
  fields := #[]
  methods := #[]
  instanceTypes := #[]
  staticTypes := #[]
  resolved := Array.replicate 8 none
  statics := none }

/-- the primitive byte -/
def k9 : Class := { plain "byte" none with kind := .primitive 'B', accessFlags := 0x411 }
/-- [B -/
def k10 : Class := { plain "[B" (some 0) with kind := .array 9 .byte, interfaces := #[8, 4], accessFlags := 1041 }

/-- [Lcom/example/loadshare/loadshare/Reconciliation$Action; -/
def k11 : Class := { plain "[Lcom/example/loadshare/loadshare/Reconciliation$Action;" (some 0) with kind := .array 6 (.object "com/example/loadshare/loadshare/Reconciliation$Action"), interfaces := #[8, 4], accessFlags := 1041 }

def heap : Heap := #[{ cls := 6, slots := #[.ref 3, .ref 1, .ref 2, .null], vm := .statics 6 },
  { cls := 6, slots := #[.null, .int 0, .int 0], vm := .none },
  { cls := 6, slots := #[.null, .int 1, .int 0], vm := .none },
  { cls := 6, slots := #[.null, .int 2, .int 0], vm := .none }]
def classes : Array Class := #[k0, k1, k2, k3, k4, k5, k6, k7, k8, k9, k10, k11]
def interned : List (Array UInt16 × Addr) := []
def slotsUsed : Nat := 13
def theMethod : MethodId := ⟨1, 1⟩
def args0 : Array Value := #[.int 3]
def aboutOver (below : List Frame) : State where
  vm := { classes := classes, interned := interned.toArray }
  heap := heap
  slotsUsed := slotsUsed
  threads := #[{ frames := .invoking theMethod args0 :: below }]
def below0 : List Frame := [.native { method := ⟨0, 0⟩, args := #[] }]
def about1 : State := aboutOver below0
def p0 : Program := .bare "" "" ""
def e0 : Env := launch0.env 0 0 0
theorem w_frames : about1.frames = Frame.invoking theMethod args0 :: below0 := rfl
set_option maxRecDepth 65536 in
theorem w_args : argsFit about1.vm theMethod args0 = true := by decide +kernel
set_option maxRecDepth 65536 in
theorem w_heap : heapFits about1 = true := by decide +kernel
set_option maxRecDepth 65536 in
theorem w_runnable : about1.curStatus? = some .runnable := by decide +kernel
set_option maxRecDepth 65536 in
theorem w_alone : about1.alone = true := by decide +kernel
set_option maxRecDepth 65536 in
theorem w_named : about1.methodNamed? x = some theMethod := by decide +kernel
set_option maxRecDepth 65536 in
theorem w_hears : about1.hears theMethod below0 = true := by decide +kernel
set_option maxRecDepth 65536 in
theorem w_ripe : about1.ripe theMethod args0 below0 = true := by decide +kernel
theorem w_running : about1.status = .running := rfl
set_option maxRecDepth 65536 in
theorem w_room : about1.hasRoom e0.platform room_1 = true :=
  launch0.hasRoom_least _ room_1 (by decide +kernel) (by decide +kernel) (by decide +kernel) (by decide +kernel) (by decide +kernel) (by decide +kernel)
theorem allAtoms_all (ts : List Jvm.Cond) (a : Array Jvm.Value) (st : Jvm.State) : (allAtoms ts).before a st = ts.all (fun c => c.before a st) := by
  induction ts with
  | nil => rfl
  | cons c t ih =>
    show (Jvm.Cond.and c (allAtoms t)).before a st = _
    rw [Jvm.Cond.before_and, ih, List.all_cons]
def words1 : List Jvm.Cond := Jvm.Cond.code x code maxLocals ret :: tables_1
/-- a 'code' word, met by the world's own term for the bytes: nothing is compared byte by byte -/
theorem code_word {y : MethodName} {bytes : ByteArray} {mx : Nat} {rt : Option FieldType} {a : Array Value} {s : State} {m : MethodId} {meth : Method} {c : Code} (h1 : s.methodNamed? y = some m) (h2 : s.vm.method? m = some meth) (h3 : meth.code = some c) (h4 : c.code = bytes)
    (h5 : (c.maxLocals == mx && c.exceptionTable.isEmpty && decide (c.maxStack ≤ mostOperands) && decide (meth.sig.returnType = rt) && !meth.locks && decide (parseMethodDescriptor y.desc = some meth.sig)) = true) : (Jvm.Cond.code y bytes mx rt).before a s = true := by
  simp only [Bool.and_eq_true, beq_iff_eq, Bool.not_eq_true', decide_eq_true_eq] at h5
  obtain ⟨⟨⟨⟨⟨g1, g2⟩, g3⟩, g4⟩, g5⟩, g6⟩ := h5
  simp [Cond.before, Cond.holds, Cond.value, h1, h2, h3, h4, g1, g2, g3, g4, g5, g6]
def isCode : Jvm.Cond → Bool
  | .code _ _ _ _ => true
  | _ => false
theorem all_split {L : List Jvm.Cond} {P : Jvm.Cond → Bool} (h1 : L.all (fun c => isCode c || P c) = true) (h2 : ∀ c ∈ L.filter isCode, P c = true) : L.all P = true := by
  refine List.all_eq_true.mpr fun c hc => ?_
  have h := List.all_eq_true.mp h1 c hc
  rcases Bool.eq_false_or_eq_true (isCode c) with hi | hi
  · exact h2 c (List.mem_filter.mpr ⟨hc, hi⟩)
  · simpa [hi] using h
set_option maxRecDepth 65536 in
theorem w_c0 : (Jvm.Cond.code x code maxLocals ret).before args0 about1 = true := code_word (m := ⟨1, 1⟩) (meth := k1m1) (c := k1c1) (by decide +kernel) rfl rfl rfl (by decide +kernel)
set_option maxRecDepth 65536 in
theorem w_c1 : (Jvm.Cond.code ({ cls := "java/lang/Math", name := "min", desc := "(II)I" } : Jvm.MethodName) jdk_29_method_69_code (2 : Nat) (Option.some Jvm.ClassFile.FieldType.int)).before args0 about1 = true := code_word (m := ⟨7, 2⟩) (meth := k7m2) (c := k7c2) (by decide +kernel) rfl rfl rfl (by decide +kernel)
set_option maxRecDepth 65536 in
theorem w_c2 : (Jvm.Cond.code ({ cls := "java/lang/Math", name := "max", desc := "(II)I" } : Jvm.MethodName) jdk_29_method_65_code (2 : Nat) (Option.some Jvm.ClassFile.FieldType.int)).before args0 about1 = true := code_word (m := ⟨7, 1⟩) (meth := k7m1) (c := k7c1) (by decide +kernel) rfl rfl rfl (by decide +kernel)
set_option maxRecDepth 65536 in
theorem w_c3 : (Jvm.Cond.code ({ cls := "com/example/loadshare/loadshare/Reconciliation$Action", name := "of", desc := "(I)Lcom/example/loadshare/loadshare/Reconciliation$Action;" } : Jvm.MethodName) prog_58_method_4_code (1 : Nat) (Option.some (Jvm.ClassFile.FieldType.object "com/example/loadshare/loadshare/Reconciliation$Action"))).before args0 about1 = true := code_word (m := ⟨6, 0⟩) (meth := k6m0) (c := k6c0) (by decide +kernel) rfl rfl rfl (by decide +kernel)
def codes1 : List Jvm.Cond := [Jvm.Cond.code x code maxLocals ret, Jvm.Cond.code ({ cls := "java/lang/Math", name := "min", desc := "(II)I" } : Jvm.MethodName) jdk_29_method_69_code (2 : Nat) (Option.some Jvm.ClassFile.FieldType.int), Jvm.Cond.code ({ cls := "java/lang/Math", name := "max", desc := "(II)I" } : Jvm.MethodName) jdk_29_method_65_code (2 : Nat) (Option.some Jvm.ClassFile.FieldType.int), Jvm.Cond.code ({ cls := "com/example/loadshare/loadshare/Reconciliation$Action", name := "of", desc := "(I)Lcom/example/loadshare/loadshare/Reconciliation$Action;" } : Jvm.MethodName) prog_58_method_4_code (1 : Nat) (Option.some (Jvm.ClassFile.FieldType.object "com/example/loadshare/loadshare/Reconciliation$Action"))]
set_option maxRecDepth 65536 in
theorem codes_eq : words1.filter isCode = codes1 := rfl
theorem w_codes : ∀ c ∈ words1.filter isCode, c.before args0 about1 = true := by
  rw [codes_eq]
  intro c hc
  simp only [codes1, List.mem_cons, List.not_mem_nil, or_false] at hc
  rcases hc with rfl | rfl | rfl | rfl
  · exact w_c0
  · exact w_c1
  · exact w_c2
  · exact w_c3
set_option maxRecDepth 65536 in
theorem w_t1 : words1.all (fun c => isCode c || c.before args0 about1) = true := by decide +kernel
theorem w_tables : (allAtoms (Jvm.Cond.code x code maxLocals ret :: tables_1)).before args0 about1 = true := by
  rw [allAtoms_all]
  show words1.all (fun c => c.before args0 about1) = true
  refine all_split ?_ w_codes
  rw [w_t1]
set_option maxRecDepth 65536 in
theorem w_case : (Jvm.Cond.and given_1 narrow_1).before args0 about1 = true := by decide +kernel
theorem w_applies : (headSpec (Jvm.Cond.code x code maxLocals ret :: tables_1) room_1).applies x e0.platform about1 = true :=
  (Spec.applies_iff w_frames).mpr ⟨w_running, w_runnable, w_alone, w_named, w_hears, w_ripe, w_room, w_tables⟩
theorem atStart : AtStart classFile x code maxLocals ret World_1 tables_1 room_1 Calls_1 rest_1 Pre_1 launch0 p0 e0 about1 theMethod args0 below0 :=
  ⟨lists_1, trivial, launch0.admits_env _ _ _, launch0.least_env, fairChoices_fair.cas, fairChoices_fair.clock, w_frames, w_args, w_heap, w_applies, trivial, trivial, w_case⟩
end start1
theorem witness_1 : WitnessClaimed_1 := ⟨start1.p0, start1.e0, start1.about1, start1.theMethod, start1.args0, start1.below0, start1.atStart⟩
end Jvm.Pilot.@@N@@
