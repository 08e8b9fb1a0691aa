import JvmDerived
import JvmDerived.Pilot.@@N@@Statement
import JvmDerived.Pilot.@@N@@Code
set_option linter.unusedVariables false
set_option linter.unusedSimpArgs false
namespace Jvm.Own
open Sem ClassFile Op Lib Jvm.Stand Jvm.Free Jvm.LawKit Jvm.RoadKit
/-- the walk from the frame g over T comes to its end, and P holds there -/
def Goes (p : Program) (e : Env) (below : List Frame) (P : State → Outcome → Prop) (T : State) (g : JFrame) : Prop :=
  ∃ U o, Steps p.tables e below (T.setTop g) U ∧ U.status = .running ∧ Ended U below o ∧ P U o
theorem Goes.st {p : Program} {e : Env} {below : List Frame} {P : State → Outcome → Prop} {T T' : State} {g g' : JFrame} (st : ∀ t, Steps p.tables e below (T'.setTop g') t → Steps p.tables e below (T.setTop g) t) (k : Goes p e below P T' g') : Goes p e below P T g := by
  obtain ⟨U, o, h1, h⟩ := k; exact ⟨U, o, st _ h1, h⟩
/-- what is known of the body that is walked -/
def Cx (Z : State) (p : Program) (s : State) (m : MethodId) (meth : Method) (c : Code) (own : String) (bytes : ByteArray) (maxL : Nat) (ret : Option FieldType) (nm : String) : Prop :=
  p.tables.exec = Jvm.exec ∧ c.code = bytes ∧ c.maxLocals = maxL ∧ meth.sig.returnType = ret ∧ meth.name = nm ∧ meth.locks = false ∧ Z.Warmed39 s.vm ∧ s.vm.findClass own = some m.cls
section Acc
variable {Z : State} {p : Program} {s : State} {m : MethodId} {meth : Method} {c : Code} {own : String} {bytes : ByteArray} {maxL : Nat} {ret : Option FieldType} {nm : String}
theorem Cx.hx (K : Cx Z p s m meth c own bytes maxL ret nm) : p.tables.exec = Jvm.exec := K.1
theorem Cx.by' (K : Cx Z p s m meth c own bytes maxL ret nm) : c.code = bytes := K.2.1
theorem Cx.ml (K : Cx Z p s m meth c own bytes maxL ret nm) : c.maxLocals = maxL := K.2.2.1
theorem Cx.rt (K : Cx Z p s m meth c own bytes maxL ret nm) : meth.sig.returnType = ret := K.2.2.2.1
theorem Cx.hnm (K : Cx Z p s m meth c own bytes maxL ret nm) : meth.name = nm := K.2.2.2.2.1
theorem Cx.lk (K : Cx Z p s m meth c own bytes maxL ret nm) : meth.locks = false := K.2.2.2.2.2.1
theorem Cx.hZ (K : Cx Z p s m meth c own bytes maxL ret nm) : Z.Warmed39 s.vm := K.2.2.2.2.2.2.1
theorem Cx.hown (K : Cx Z p s m meth c own bytes maxL ret nm) : s.vm.findClass own = some m.cls := K.2.2.2.2.2.2.2
end Acc
/-- the end of a walk -/
def Fini (s : State) (R : Room) (Q : Option Value → Heap → List Loc → Prop) (U : State) (o : Outcome) : Prop := ∃ v L, o = .returned v ∧ Q v U.heap L ∧ FrameEnd s o U L R.cells R.slots
/-- a body's contract, at the heap h0, for the arguments as' -/
def Con (l : Launch) (Z : State) (y : MethodName) (bytes : ByteArray) (maxL : Nat) (ret : Option FieldType) (rm : Room) (as' : Array Value) (h0 : Heap) (Q : Option Value → Heap → List Loc → Prop) : Prop :=
  ∀ ws : List Cond, MetFree l y (head1 (Cond.code y bytes maxL ret :: ws) rm) (fun a U => a = as' ∧ Z.Warmed39 U.vm ∧ U.heap = h0) (fun _ _ _ _ _ => True) (fun _ U o U' => ∃ v L, o = .returned v ∧ Q v U'.heap L ∧ FrameEnd U o U' L rm.cells rm.slots)
theorem Con.of {l : Launch} {Z : State} {y : MethodName} {bytes : ByteArray} {maxL : Nat} {ret : Option FieldType} {rm : Room} {as' : Array Value} {h0 : Heap} {Q : Option Value → Heap → List Loc → Prop} (hp : plainFor y = true) {Ls : Array Slot} (hE : ∀ m, entryFrame m as' maxL = mkF m 0 Ls [])
    (body : ∀ (p : Program) (e : Env) (s : State) (m : MethodId) (below : List Frame) (meth : Method) (c : Code) (T : State), Cx Z p s m meth c y.cls bytes maxL ret y.name → Stand p l e rm s m as' below meth c T [] 0 0 → T.heap = h0 → Goes p e below (Fini s rm Q) T (mkF m 0 Ls [])) : Con l Z y bytes maxL ret rm as' h0 Q := by
  intro ws
  refine MetFree.of_bodySF hp hisR ?_
  intro p e s m args below meth c s₁ Bd hml0 hP hK
  obtain ⟨rfl, hZ, hh⟩ := hP
  obtain ⟨U, o, h1, h2, h3, h4⟩ := body p e s m below meth c s₁ ⟨Bd.exec, Bd.bytes, hml0, Bd.returns, (name_of_methodNamed Bd.named Bd.method).1, Bd.notSynchronized, hZ, findClass_of_methodNamed Bd.named⟩ (Stand.of_body Bd) (by rw [← hh, Bd.state]; rfl)
  rw [← hE m] at h1
  exact ⟨U, o, h1, h2, h3, h4⟩
theorem Con.mono {l : Launch} {Z : State} {y : MethodName} {bytes : ByteArray} {maxL : Nat} {ret : Option FieldType} {rm : Room} {as' : Array Value} {h0 : Heap} {Q Q' : Option Value → Heap → List Loc → Prop} (K : Con l Z y bytes maxL ret rm as' h0 Q) (q : ∀ v h L, Q v h L → Q' v h L) : Con l Z y bytes maxL ret rm as' h0 Q' := by
  intro ws p e ha hc hk s m args below hf happ hP hK
  obtain ⟨n, o, h1, h2, h3, v, L, h4, h5, h6⟩ := K ws p e ha hc hk s m args below hf happ hP hK
  exact ⟨n, o, h1, h2, h3, v, L, h4, q _ _ _ h5, h6⟩
theorem and_l {a b : Prop} (h : a ∧ b) : a := h.1
section Steps

variable {Z : State} {p : Program} {l : Launch} {e : Env} {R : Room} {s : State} {m : MethodId} {args : Array Value} {below : List Frame} {meth : Method} {c : Code} {T : State} {locs : List Loc} {cells slots : Nat} {own : String} {bytes : ByteArray} {maxL : Nat} {ret : Option FieldType} {nm : String} {P : State → Outcome → Prop} {pc q : Nat} {Ls : Array Slot} {st : List Value} {h : Heap} {a0 : Array Value}
theorem s_iloadN (K : Cx Z p s m meth c own bytes maxL ret nm) (X : Stand p l e R s m args below meth c T locs cells slots) {k : Fin 4} {v : Int32} (hd : decode bytes pc = .ok (.iload_n k, 1)) (hl : Ls[k.val]? = some (.val (.int v))) (hq : pc + 1 = q) (h : Goes p e below P T (mkF m q Ls (.int v :: st))) : Goes p e below P T (mkF m pc Ls (st)) := by
  subst hq; exact Goes.st (fun _ k => XS.iloadN X.here K.hx rfl (hb K.by' hd) hl k) h
theorem s_iload (K : Cx Z p s m meth c own bytes maxL ret nm) (X : Stand p l e R s m args below meth c T locs cells slots) {k : Nat} {v : Int32} (hd : decode bytes pc = .ok (.iload k, 2)) (hl : Ls[k]? = some (.val (.int v))) (hq : pc + 2 = q) (h : Goes p e below P T (mkF m q Ls (.int v :: st))) : Goes p e below P T (mkF m pc Ls (st)) := by
  subst hq; exact Goes.st (fun _ k => XS.iload X.here K.hx rfl (hb K.by' hd) hl k) h
theorem s_aloadN (K : Cx Z p s m meth c own bytes maxL ret nm) (X : Stand p l e R s m args below meth c T locs cells slots) {k : Fin 4} {v : Value} (hd : decode bytes pc = .ok (.aload_n k, 1)) (hl : Ls[k.val]? = some (.val v)) (hv : v.isRef = true) (hq : pc + 1 = q) (h : Goes p e below P T (mkF m q Ls (v :: st))) : Goes p e below P T (mkF m pc Ls (st)) := by
  subst hq; exact Goes.st (fun _ k => XS.aloadN X.here K.hx rfl (hb K.by' hd) hl hv k) h
theorem s_aload (K : Cx Z p s m meth c own bytes maxL ret nm) (X : Stand p l e R s m args below meth c T locs cells slots) {k : Nat} {v : Value} (hd : decode bytes pc = .ok (.aload k, 2)) (hl : Ls[k]? = some (.val v)) (hv : v.isRef = true) (hq : pc + 2 = q) (h : Goes p e below P T (mkF m q Ls (v :: st))) : Goes p e below P T (mkF m pc Ls (st)) := by
  subst hq; exact Goes.st (fun _ k => XS.aload X.here K.hx rfl (hb K.by' hd) hl hv k) h
theorem s_istoreN (K : Cx Z p s m meth c own bytes maxL ret nm) (X : Stand p l e R s m args below meth c T locs cells slots) {k : Fin 4} {x : Int32} {l' : Array Slot} (hd : decode bytes pc = .ok (.istore_n k, 1)) (hl : storeLocals Ls k.val (.int x) = some l') (hq : pc + 1 = q) (h : Goes p e below P T (mkF m q l' (st))) : Goes p e below P T (mkF m pc Ls (.int x :: st)) := by
  subst hq; exact Goes.st (fun _ k => XS.istoreN X.here K.hx rfl (hb K.by' hd) rfl hl k) h
theorem s_istore (K : Cx Z p s m meth c own bytes maxL ret nm) (X : Stand p l e R s m args below meth c T locs cells slots) {k : Nat} {x : Int32} {l' : Array Slot} (hd : decode bytes pc = .ok (.istore k, 2)) (hl : storeLocals Ls k (.int x) = some l') (hq : pc + 2 = q) (h : Goes p e below P T (mkF m q l' (st))) : Goes p e below P T (mkF m pc Ls (.int x :: st)) := by
  subst hq; exact Goes.st (fun _ k => XS.istore X.here K.hx rfl (hb K.by' hd) rfl hl k) h
theorem s_astoreN (K : Cx Z p s m meth c own bytes maxL ret nm) (X : Stand p l e R s m args below meth c T locs cells slots) {k : Fin 4} {x : Value} {l' : Array Slot} (hd : decode bytes pc = .ok (.astore_n k, 1)) (hv : x.isRef = true) (hl : storeLocals Ls k.val x = some l') (hq : pc + 1 = q) (h : Goes p e below P T (mkF m q l' (st))) : Goes p e below P T (mkF m pc Ls (x :: st)) := by
  subst hq; exact Goes.st (fun _ k => XS.astoreN X.here K.hx rfl (hb K.by' hd) rfl hv hl k) h
theorem s_astore (K : Cx Z p s m meth c own bytes maxL ret nm) (X : Stand p l e R s m args below meth c T locs cells slots) {k : Nat} {x : Value} {l' : Array Slot} (hd : decode bytes pc = .ok (.astore k, 2)) (hv : x.isRef = true) (hl : storeLocals Ls k x = some l') (hq : pc + 2 = q) (h : Goes p e below P T (mkF m q l' (st))) : Goes p e below P T (mkF m pc Ls (x :: st)) := by
  subst hq; exact Goes.st (fun _ k => XS.astore X.here K.hx rfl (hb K.by' hd) rfl hv hl k) h
theorem s_iconst (K : Cx Z p s m meth c own bytes maxL ret nm) (X : Stand p l e R s m args below meth c T locs cells slots) {i : Int} {z : Int32} (hd : decode bytes pc = .ok (.iconst i, 1)) (hz : Int32.ofInt i = z) (hq : pc + 1 = q) (h : Goes p e below P T (mkF m q Ls (.int z :: st))) : Goes p e below P T (mkF m pc Ls (st)) := by
  subst hq; exact Goes.st (fun _ k => XS.iconst X.here K.hx rfl (hb K.by' hd) (by rw [hz]; exact k)) h
theorem s_bipush (K : Cx Z p s m meth c own bytes maxL ret nm) (X : Stand p l e R s m args below meth c T locs cells slots) {i : Int} {z : Int32} (hd : decode bytes pc = .ok (.bipush i, 2)) (hz : (Int8.ofInt i).toInt32 = z) (hq : pc + 2 = q) (h : Goes p e below P T (mkF m q Ls (.int z :: st))) : Goes p e below P T (mkF m pc Ls (st)) := by
  subst hq; exact Goes.st (fun _ k => XS.bipush X.here K.hx rfl (hb K.by' hd) (by rw [hz]; exact k)) h
theorem s_sipush (K : Cx Z p s m meth c own bytes maxL ret nm) (X : Stand p l e R s m args below meth c T locs cells slots) {i : Int} {z : Int32} (hd : decode bytes pc = .ok (.sipush i, 3)) (hz : (Int16.ofInt i).toInt32 = z) (hq : pc + 3 = q) (h : Goes p e below P T (mkF m q Ls (.int z :: st))) : Goes p e below P T (mkF m pc Ls (st)) := by
  subst hq; exact Goes.st (fun _ k => XS.sipush X.here K.hx rfl (hb K.by' hd) (by rw [hz]; exact k)) h
theorem s_ldcI (K : Cx Z p s m meth c own bytes maxL ret nm) (X : Stand p l e R s m args below meth c T locs cells slots) {i : Nat} {v : Int32} (hd : decode bytes pc = .ok (.ldc i, 2)) (w : (Cond.constant own i v).before a0 Z = true) (hq : pc + 2 = q) (h : Goes p e below P T (mkF m q Ls (.int v :: st))) : Goes p e below P T (mkF m pc Ls (st)) := by
  subst hq; exact Goes.st (fun _ k => X.ldcI K.hx K.hown (mvT K.hZ w) rfl (hb K.by' hd) k) h
theorem s_anull (K : Cx Z p s m meth c own bytes maxL ret nm) (X : Stand p l e R s m args below meth c T locs cells slots)  (hd : decode bytes pc = .ok (.aconst_null, 1))  (hq : pc + 1 = q) (h : Goes p e below P T (mkF m q Ls (.null :: st))) : Goes p e below P T (mkF m pc Ls (st)) := by
  subst hq; exact Goes.st (fun _ k => XS.aconstNull X.here K.hx rfl (hb K.by' hd) k) h
theorem s_iadd (K : Cx Z p s m meth c own bytes maxL ret nm) (X : Stand p l e R s m args below meth c T locs cells slots) {x y : Int32} (hd : decode bytes pc = .ok (.iadd, 1))  (hq : pc + 1 = q) (h : Goes p e below P T (mkF m q Ls (.int (x + y) :: st))) : Goes p e below P T (mkF m pc Ls (.int y :: .int x :: st)) := by
  subst hq; exact Goes.st (fun _ k => XS.iadd X.here K.hx rfl (hb K.by' hd) rfl k) h
theorem s_isub (K : Cx Z p s m meth c own bytes maxL ret nm) (X : Stand p l e R s m args below meth c T locs cells slots) {x y : Int32} (hd : decode bytes pc = .ok (.isub, 1))  (hq : pc + 1 = q) (h : Goes p e below P T (mkF m q Ls (.int (x - y) :: st))) : Goes p e below P T (mkF m pc Ls (.int y :: .int x :: st)) := by
  subst hq; exact Goes.st (fun _ k => XS.isub X.here K.hx rfl (hb K.by' hd) rfl k) h
theorem s_iand (K : Cx Z p s m meth c own bytes maxL ret nm) (X : Stand p l e R s m args below meth c T locs cells slots) {x y : Int32} (hd : decode bytes pc = .ok (.iand, 1))  (hq : pc + 1 = q) (h : Goes p e below P T (mkF m q Ls (.int (x &&& y) :: st))) : Goes p e below P T (mkF m pc Ls (.int y :: .int x :: st)) := by
  subst hq; exact Goes.st (fun _ k => XS.iand X.here K.hx rfl (hb K.by' hd) rfl k) h
theorem s_ishr (K : Cx Z p s m meth c own bytes maxL ret nm) (X : Stand p l e R s m args below meth c T locs cells slots) {x y : Int32} (hd : decode bytes pc = .ok (.ishr, 1))  (hq : pc + 1 = q) (h : Goes p e below P T (mkF m q Ls (.int (x >>> (y &&& 31)) :: st))) : Goes p e below P T (mkF m pc Ls (.int y :: .int x :: st)) := by
  subst hq; exact Goes.st (fun _ k => XT.ishr X.here K.hx rfl (hb K.by' hd) rfl k) h
theorem s_iushr (K : Cx Z p s m meth c own bytes maxL ret nm) (X : Stand p l e R s m args below meth c T locs cells slots) {x y : Int32} (hd : decode bytes pc = .ok (.iushr, 1))  (hq : pc + 1 = q) (h : Goes p e below P T (mkF m q Ls (.int (XT.ushr x y) :: st))) : Goes p e below P T (mkF m pc Ls (.int y :: .int x :: st)) := by
  subst hq; exact Goes.st (fun _ k => XT.iushr X.here K.hx rfl (hb K.by' hd) rfl k) h
theorem s_irem (K : Cx Z p s m meth c own bytes maxL ret nm) (X : Stand p l e R s m args below meth c T locs cells slots) {x y : Int32} (hd : decode bytes pc = .ok (.irem, 1)) (hy : y ≠ 0) (hq : pc + 1 = q) (h : Goes p e below P T (mkF m q Ls (.int (x % y) :: st))) : Goes p e below P T (mkF m pc Ls (.int y :: .int x :: st)) := by
  subst hq; exact Goes.st (fun _ k => iremM X K.hx rfl (hb K.by' hd) rfl hy k) h
theorem s_i2b (K : Cx Z p s m meth c own bytes maxL ret nm) (X : Stand p l e R s m args below meth c T locs cells slots) {x : Int32} (hd : decode bytes pc = .ok (.i2b, 1))  (hq : pc + 1 = q) (h : Goes p e below P T (mkF m q Ls (.int (x.toInt8.toInt32) :: st))) : Goes p e below P T (mkF m pc Ls (.int x :: st)) := by
  subst hq; exact Goes.st (fun _ k => XT.i2b X.here K.hx rfl (hb K.by' hd) rfl k) h
theorem s_dup (K : Cx Z p s m meth c own bytes maxL ret nm) (X : Stand p l e R s m args below meth c T locs cells slots) {x : Value} (hd : decode bytes pc = .ok (.dup, 1)) (hc : x.category = 1) (hq : pc + 1 = q) (h : Goes p e below P T (mkF m q Ls (x :: x :: st))) : Goes p e below P T (mkF m pc Ls (x :: st)) := by
  subst hq; exact Goes.st (fun _ k => XS.dup X.here K.hx rfl (hb K.by' hd) rfl hc k) h
theorem s_pop (K : Cx Z p s m meth c own bytes maxL ret nm) (X : Stand p l e R s m args below meth c T locs cells slots) {x : Value} (hd : decode bytes pc = .ok (.pop, 1)) (hc : x.category = 1) (hq : pc + 1 = q) (h : Goes p e below P T (mkF m q Ls (st))) : Goes p e below P T (mkF m pc Ls (x :: st)) := by
  subst hq; exact Goes.st (fun _ k => XT.pop X.here K.hx rfl (hb K.by' hd) rfl hc k) h
theorem s_dupX1 (K : Cx Z p s m meth c own bytes maxL ret nm) (X : Stand p l e R s m args below meth c T locs cells slots) {x y : Value} (hd : decode bytes pc = .ok (.dup_x1, 1)) (hc : x.category = 1) (hc' : y.category = 1) (hq : pc + 1 = q) (h : Goes p e below P T (mkF m q Ls (x :: y :: x :: st))) : Goes p e below P T (mkF m pc Ls (x :: y :: st)) := by
  subst hq; exact Goes.st (fun _ k => XT.dupX1 X.here K.hx rfl (hb K.by' hd) rfl hc hc' k) h
theorem s_iinc (K : Cx Z p s m meth c own bytes maxL ret nm) (X : Stand p l e R s m args below meth c T locs cells slots) {k : Nat} {cst : Int} {x : Int32} {l' : Array Slot} (hd : decode bytes pc = .ok (.iinc k cst, 3)) (hl : Ls[k]? = some (.val (.int x))) (hl' : storeLocals Ls k (.int (x + Int32.ofInt cst)) = some l') (hq : pc + 3 = q) (h : Goes p e below P T (mkF m q l' (st))) : Goes p e below P T (mkF m pc Ls (st)) := by
  subst hq; exact Goes.st (fun _ k => XS.iinc X.here K.hx rfl (hb K.by' hd) hl hl' k) h
theorem s_goto (K : Cx Z p s m meth c own bytes maxL ret nm) (X : Stand p l e R s m args below meth c T locs cells slots) {o : Int} (hd : decode bytes pc = .ok (.goto o, 3)) (ho : 0 ≤ (pc : Int) + o) (hp : ((pc : Int) + o).toNat = q) (h : Goes p e below P T (mkF m q Ls st)) : Goes p e below P T (mkF m pc Ls st) :=
  Goes.st (fun _ k => XS.goto X.here K.hx rfl rfl (hb K.by' hd) ho hp k) h
theorem s_icmp_eq (K : Cx Z p s m meth c own bytes maxL ret nm) (X : Stand p l e R s m args below meth c T locs cells slots) {x y : Int32} {o : Int} {q' : Nat} (hd : decode bytes pc = .ok (.if_icmp .eq o, 3)) (ho : 0 ≤ (pc : Int) + o) (hp : ((pc : Int) + o).toNat = q) (hq : pc + 3 = q') (hy : x = y → Goes p e below P T (mkF m q Ls st)) (hn : ¬ x = y → Goes p e below P T (mkF m q' Ls st)) : Goes p e below P T (mkF m pc Ls (.int y :: .int x :: st)) := by
  subst hq
  by_cases z : x = y
  · exact Goes.st (fun _ k => XS.icmpYes X.here K.hx rfl rfl (hb K.by' hd) rfl (XT.ii_eq_t z) ho hp k) (hy z)
  · exact Goes.st (fun _ k => XS.icmpNo X.here K.hx rfl (hb K.by' hd) rfl (XT.ii_eq_f (by simpa using z)) k) (hn (by simpa using z))
theorem s_if_eq (K : Cx Z p s m meth c own bytes maxL ret nm) (X : Stand p l e R s m args below meth c T locs cells slots) {x : Int32} {o : Int} {q' : Nat} (hd : decode bytes pc = .ok (.ifCond .eq o, 3)) (ho : 0 ≤ (pc : Int) + o) (hp : ((pc : Int) + o).toNat = q) (hq : pc + 3 = q') (hy : x = 0 → Goes p e below P T (mkF m q Ls st)) (hn : ¬ x = 0 → Goes p e below P T (mkF m q' Ls st)) : Goes p e below P T (mkF m pc Ls (.int x :: st)) := by
  subst hq
  by_cases z : x = 0
  · exact Goes.st (fun _ k => XS.ifYes X.here K.hx rfl rfl (hb K.by' hd) rfl (XT.i0_eq_t z) ho hp k) (hy z)
  · exact Goes.st (fun _ k => XS.ifNo X.here K.hx rfl (hb K.by' hd) rfl (XT.i0_eq_f (by simpa using z)) k) (hn (by simpa using z))
theorem s_icmp_ne (K : Cx Z p s m meth c own bytes maxL ret nm) (X : Stand p l e R s m args below meth c T locs cells slots) {x y : Int32} {o : Int} {q' : Nat} (hd : decode bytes pc = .ok (.if_icmp .ne o, 3)) (ho : 0 ≤ (pc : Int) + o) (hp : ((pc : Int) + o).toNat = q) (hq : pc + 3 = q') (hy : ¬ x = y → Goes p e below P T (mkF m q Ls st)) (hn : x = y → Goes p e below P T (mkF m q' Ls st)) : Goes p e below P T (mkF m pc Ls (.int y :: .int x :: st)) := by
  subst hq
  by_cases z : ¬ x = y
  · exact Goes.st (fun _ k => XS.icmpYes X.here K.hx rfl rfl (hb K.by' hd) rfl (XT.ii_ne_t z) ho hp k) (hy z)
  · exact Goes.st (fun _ k => XS.icmpNo X.here K.hx rfl (hb K.by' hd) rfl (XT.ii_ne_f (by simpa using z)) k) (hn (by simpa using z))
theorem s_if_ne (K : Cx Z p s m meth c own bytes maxL ret nm) (X : Stand p l e R s m args below meth c T locs cells slots) {x : Int32} {o : Int} {q' : Nat} (hd : decode bytes pc = .ok (.ifCond .ne o, 3)) (ho : 0 ≤ (pc : Int) + o) (hp : ((pc : Int) + o).toNat = q) (hq : pc + 3 = q') (hy : ¬ x = 0 → Goes p e below P T (mkF m q Ls st)) (hn : x = 0 → Goes p e below P T (mkF m q' Ls st)) : Goes p e below P T (mkF m pc Ls (.int x :: st)) := by
  subst hq
  by_cases z : ¬ x = 0
  · exact Goes.st (fun _ k => XS.ifYes X.here K.hx rfl rfl (hb K.by' hd) rfl (XT.i0_ne_t z) ho hp k) (hy z)
  · exact Goes.st (fun _ k => XS.ifNo X.here K.hx rfl (hb K.by' hd) rfl (XT.i0_ne_f (by simpa using z)) k) (hn (by simpa using z))
theorem s_icmp_lt (K : Cx Z p s m meth c own bytes maxL ret nm) (X : Stand p l e R s m args below meth c T locs cells slots) {x y : Int32} {o : Int} {q' : Nat} (hd : decode bytes pc = .ok (.if_icmp .lt o, 3)) (ho : 0 ≤ (pc : Int) + o) (hp : ((pc : Int) + o).toNat = q) (hq : pc + 3 = q') (hy : x < y → Goes p e below P T (mkF m q Ls st)) (hn : ¬ x < y → Goes p e below P T (mkF m q' Ls st)) : Goes p e below P T (mkF m pc Ls (.int y :: .int x :: st)) := by
  subst hq
  by_cases z : x < y
  · exact Goes.st (fun _ k => XS.icmpYes X.here K.hx rfl rfl (hb K.by' hd) rfl (XT.ii_lt_t z) ho hp k) (hy z)
  · exact Goes.st (fun _ k => XS.icmpNo X.here K.hx rfl (hb K.by' hd) rfl (XT.ii_lt_f (by simpa using z)) k) (hn (by simpa using z))
theorem s_if_lt (K : Cx Z p s m meth c own bytes maxL ret nm) (X : Stand p l e R s m args below meth c T locs cells slots) {x : Int32} {o : Int} {q' : Nat} (hd : decode bytes pc = .ok (.ifCond .lt o, 3)) (ho : 0 ≤ (pc : Int) + o) (hp : ((pc : Int) + o).toNat = q) (hq : pc + 3 = q') (hy : x < 0 → Goes p e below P T (mkF m q Ls st)) (hn : ¬ x < 0 → Goes p e below P T (mkF m q' Ls st)) : Goes p e below P T (mkF m pc Ls (.int x :: st)) := by
  subst hq
  by_cases z : x < 0
  · exact Goes.st (fun _ k => XS.ifYes X.here K.hx rfl rfl (hb K.by' hd) rfl (XT.i0_lt_t z) ho hp k) (hy z)
  · exact Goes.st (fun _ k => XS.ifNo X.here K.hx rfl (hb K.by' hd) rfl (XT.i0_lt_f (by simpa using z)) k) (hn (by simpa using z))
theorem s_icmp_ge (K : Cx Z p s m meth c own bytes maxL ret nm) (X : Stand p l e R s m args below meth c T locs cells slots) {x y : Int32} {o : Int} {q' : Nat} (hd : decode bytes pc = .ok (.if_icmp .ge o, 3)) (ho : 0 ≤ (pc : Int) + o) (hp : ((pc : Int) + o).toNat = q) (hq : pc + 3 = q') (hy : ¬ x < y → Goes p e below P T (mkF m q Ls st)) (hn : x < y → Goes p e below P T (mkF m q' Ls st)) : Goes p e below P T (mkF m pc Ls (.int y :: .int x :: st)) := by
  subst hq
  by_cases z : ¬ x < y
  · exact Goes.st (fun _ k => XS.icmpYes X.here K.hx rfl rfl (hb K.by' hd) rfl (XT.ii_ge_t z) ho hp k) (hy z)
  · exact Goes.st (fun _ k => XS.icmpNo X.here K.hx rfl (hb K.by' hd) rfl (XT.ii_ge_f (by simpa using z)) k) (hn (by simpa using z))
theorem s_if_ge (K : Cx Z p s m meth c own bytes maxL ret nm) (X : Stand p l e R s m args below meth c T locs cells slots) {x : Int32} {o : Int} {q' : Nat} (hd : decode bytes pc = .ok (.ifCond .ge o, 3)) (ho : 0 ≤ (pc : Int) + o) (hp : ((pc : Int) + o).toNat = q) (hq : pc + 3 = q') (hy : ¬ x < 0 → Goes p e below P T (mkF m q Ls st)) (hn : x < 0 → Goes p e below P T (mkF m q' Ls st)) : Goes p e below P T (mkF m pc Ls (.int x :: st)) := by
  subst hq
  by_cases z : ¬ x < 0
  · exact Goes.st (fun _ k => XS.ifYes X.here K.hx rfl rfl (hb K.by' hd) rfl (XT.i0_ge_t z) ho hp k) (hy z)
  · exact Goes.st (fun _ k => XS.ifNo X.here K.hx rfl (hb K.by' hd) rfl (XT.i0_ge_f (by simpa using z)) k) (hn (by simpa using z))
theorem s_icmp_gt (K : Cx Z p s m meth c own bytes maxL ret nm) (X : Stand p l e R s m args below meth c T locs cells slots) {x y : Int32} {o : Int} {q' : Nat} (hd : decode bytes pc = .ok (.if_icmp .gt o, 3)) (ho : 0 ≤ (pc : Int) + o) (hp : ((pc : Int) + o).toNat = q) (hq : pc + 3 = q') (hy : y < x → Goes p e below P T (mkF m q Ls st)) (hn : ¬ y < x → Goes p e below P T (mkF m q' Ls st)) : Goes p e below P T (mkF m pc Ls (.int y :: .int x :: st)) := by
  subst hq
  by_cases z : y < x
  · exact Goes.st (fun _ k => XS.icmpYes X.here K.hx rfl rfl (hb K.by' hd) rfl (XT.ii_gt_t z) ho hp k) (hy z)
  · exact Goes.st (fun _ k => XS.icmpNo X.here K.hx rfl (hb K.by' hd) rfl (XT.ii_gt_f (by simpa using z)) k) (hn (by simpa using z))
theorem s_if_gt (K : Cx Z p s m meth c own bytes maxL ret nm) (X : Stand p l e R s m args below meth c T locs cells slots) {x : Int32} {o : Int} {q' : Nat} (hd : decode bytes pc = .ok (.ifCond .gt o, 3)) (ho : 0 ≤ (pc : Int) + o) (hp : ((pc : Int) + o).toNat = q) (hq : pc + 3 = q') (hy : 0 < x → Goes p e below P T (mkF m q Ls st)) (hn : ¬ 0 < x → Goes p e below P T (mkF m q' Ls st)) : Goes p e below P T (mkF m pc Ls (.int x :: st)) := by
  subst hq
  by_cases z : 0 < x
  · exact Goes.st (fun _ k => XS.ifYes X.here K.hx rfl rfl (hb K.by' hd) rfl (XT.i0_gt_t z) ho hp k) (hy z)
  · exact Goes.st (fun _ k => XS.ifNo X.here K.hx rfl (hb K.by' hd) rfl (XT.i0_gt_f (by simpa using z)) k) (hn (by simpa using z))
theorem s_icmp_le (K : Cx Z p s m meth c own bytes maxL ret nm) (X : Stand p l e R s m args below meth c T locs cells slots) {x y : Int32} {o : Int} {q' : Nat} (hd : decode bytes pc = .ok (.if_icmp .le o, 3)) (ho : 0 ≤ (pc : Int) + o) (hp : ((pc : Int) + o).toNat = q) (hq : pc + 3 = q') (hy : ¬ y < x → Goes p e below P T (mkF m q Ls st)) (hn : y < x → Goes p e below P T (mkF m q' Ls st)) : Goes p e below P T (mkF m pc Ls (.int y :: .int x :: st)) := by
  subst hq
  by_cases z : ¬ y < x
  · exact Goes.st (fun _ k => XS.icmpYes X.here K.hx rfl rfl (hb K.by' hd) rfl (XT.ii_le_t z) ho hp k) (hy z)
  · exact Goes.st (fun _ k => XS.icmpNo X.here K.hx rfl (hb K.by' hd) rfl (XT.ii_le_f (by simpa using z)) k) (hn (by simpa using z))
theorem s_if_le (K : Cx Z p s m meth c own bytes maxL ret nm) (X : Stand p l e R s m args below meth c T locs cells slots) {x : Int32} {o : Int} {q' : Nat} (hd : decode bytes pc = .ok (.ifCond .le o, 3)) (ho : 0 ≤ (pc : Int) + o) (hp : ((pc : Int) + o).toNat = q) (hq : pc + 3 = q') (hy : ¬ 0 < x → Goes p e below P T (mkF m q Ls st)) (hn : 0 < x → Goes p e below P T (mkF m q' Ls st)) : Goes p e below P T (mkF m pc Ls (.int x :: st)) := by
  subst hq
  by_cases z : ¬ 0 < x
  · exact Goes.st (fun _ k => XS.ifYes X.here K.hx rfl rfl (hb K.by' hd) rfl (XT.i0_le_t z) ho hp k) (hy z)
  · exact Goes.st (fun _ k => XS.ifNo X.here K.hx rfl (hb K.by' hd) rfl (XT.i0_le_f (by simpa using z)) k) (hn (by simpa using z))
theorem s_acmp_eq (K : Cx Z p s m meth c own bytes maxL ret nm) (X : Stand p l e R s m args below meth c T locs cells slots) {x y : Value} {o : Int} {q' : Nat} (hd : decode bytes pc = .ok (.if_acmp .eq o, 3)) (h1 : x.isRef = true) (h2 : y.isRef = true) (ho : 0 ≤ (pc : Int) + o) (hp : ((pc : Int) + o).toNat = q) (hq : pc + 3 = q') (hy : x = y → Goes p e below P T (mkF m q Ls st)) (hn : ¬ x = y → Goes p e below P T (mkF m q' Ls st)) : Goes p e below P T (mkF m pc Ls (y :: x :: st)) := by
  subst hq
  by_cases z : x = y
  · exact Goes.st (fun _ k => XT.acmpYes X.here K.hx rfl rfl (hb K.by' hd) rfl h1 h2 (XT.aa_eq_t z) ho hp k) (hy z)
  · exact Goes.st (fun _ k => XT.acmpNo X.here K.hx rfl (hb K.by' hd) rfl h1 h2 (XT.aa_eq_f (by simpa using z)) k) (hn (by simpa using z))
theorem s_acmp_ne (K : Cx Z p s m meth c own bytes maxL ret nm) (X : Stand p l e R s m args below meth c T locs cells slots) {x y : Value} {o : Int} {q' : Nat} (hd : decode bytes pc = .ok (.if_acmp .ne o, 3)) (h1 : x.isRef = true) (h2 : y.isRef = true) (ho : 0 ≤ (pc : Int) + o) (hp : ((pc : Int) + o).toNat = q) (hq : pc + 3 = q') (hy : ¬ x = y → Goes p e below P T (mkF m q Ls st)) (hn : x = y → Goes p e below P T (mkF m q' Ls st)) : Goes p e below P T (mkF m pc Ls (y :: x :: st)) := by
  subst hq
  by_cases z : ¬ x = y
  · exact Goes.st (fun _ k => XT.acmpYes X.here K.hx rfl rfl (hb K.by' hd) rfl h1 h2 (XT.aa_ne_t z) ho hp k) (hy z)
  · exact Goes.st (fun _ k => XT.acmpNo X.here K.hx rfl (hb K.by' hd) rfl h1 h2 (XT.aa_ne_f (by simpa using z)) k) (hn (by simpa using z))
theorem s_ifnull (K : Cx Z p s m meth c own bytes maxL ret nm) (X : Stand p l e R s m args below meth c T locs cells slots) {x : Value} {o : Int} {q' : Nat} (hd : decode bytes pc = .ok (.ifnull o, 3)) (h1 : x.isRef = true) (ho : 0 ≤ (pc : Int) + o) (hp : ((pc : Int) + o).toNat = q) (hq : pc + 3 = q') (hy : x = .null → Goes p e below P T (mkF m q Ls st)) (hn : ¬ x = .null → Goes p e below P T (mkF m q' Ls st)) : Goes p e below P T (mkF m pc Ls (x :: st)) := by
  subst hq
  by_cases z : x = .null
  · exact Goes.st (fun _ k => XT.nullYes X.here K.hx rfl rfl (hb K.by' hd) rfl z ho hp k) (hy z)
  · exact Goes.st (fun _ k => XT.nullNo X.here K.hx rfl (hb K.by' hd) rfl h1 z k) (hn (by simpa using z))
theorem s_ifnonnull (K : Cx Z p s m meth c own bytes maxL ret nm) (X : Stand p l e R s m args below meth c T locs cells slots) {x : Value} {o : Int} {q' : Nat} (hd : decode bytes pc = .ok (.ifnonnull o, 3)) (h1 : x.isRef = true) (ho : 0 ≤ (pc : Int) + o) (hp : ((pc : Int) + o).toNat = q) (hq : pc + 3 = q') (hy : ¬ x = .null → Goes p e below P T (mkF m q Ls st)) (hn : x = .null → Goes p e below P T (mkF m q' Ls st)) : Goes p e below P T (mkF m pc Ls (x :: st)) := by
  subst hq
  by_cases z : ¬ x = .null
  · exact Goes.st (fun _ k => XT.nonnullYes X.here K.hx rfl rfl (hb K.by' hd) rfl h1 z ho hp k) (hy z)
  · exact Goes.st (fun _ k => XT.nonnullNo X.here K.hx rfl (hb K.by' hd) rfl (by simpa using z) k) (hn (by simpa using z))
theorem s_tsw (K : Cx Z p s m meth c own bytes maxL ret nm) (X : Stand p l e R s m args below meth c T locs cells slots) {dflt low high : Int} {offs : Array Int} {len : Nat} {o : Int} {i : Int32} (hd : decode bytes pc = .ok (.tableswitch dflt low high offs, len)) (hin : ¬ (i.toInt < low ∨ i.toInt > high)) (hoff : offs[(i.toInt - low).toNat]? = some o) (ho : 0 ≤ (pc : Int) + o) (hp : ((pc : Int) + o).toNat = q) (h : Goes p e below P T (mkF m q Ls st)) : Goes p e below P T (mkF m pc Ls (.int i :: st)) :=
  Goes.st (fun _ k => XS.tswIn X.here K.hx rfl rfl (hb K.by' hd) rfl hin hoff ho hp k) h
theorem s_getS (K : Cx Z p s m meth c own bytes maxL ret nm) (X : Stand p l e R s m args below meth c T locs cells slots) {C n d : String} {i : Nat} {v : Value} (hd : decode bytes pc = .ok (.getstatic i, 3)) (w : (Cond.fieldLink own i C n d).before a0 Z = true) (eT : T.heap = h) (F : Sta Z h C n d v) (hq : pc + 3 = q)
    (k : ∀ T', Stand p l e R s m args below meth c T' locs cells slots → T'.heap = h → Goes p e below P T' (mkF m q Ls (v :: st))) : Goes p e below P T (mkF m pc Ls st) := by
  subst hq
  obtain ⟨T', X', e', st'⟩ := getS (host := "") X K.hx K.hZ K.hown w Via.refl eT F (g := mkF m pc Ls st) rfl (hb K.by' hd)
  exact Goes.st st' (k T' X' e')
theorem s_getSN (K : Cx Z p s m meth c own bytes maxL ret nm) (X : Stand p l e R s m args below meth c T locs cells slots) {C n d host : String} {i : Nat} {v : Value} (hd : decode bytes pc = .ok (.getstatic i, 3)) (w : (Cond.fieldLinkNest own i C n d host).before a0 Z = true) (eT : T.heap = h) (F : Sta Z h C n d v) (hq : pc + 3 = q)
    (k : ∀ T', Stand p l e R s m args below meth c T' locs cells slots → T'.heap = h → Goes p e below P T' (mkF m q Ls (v :: st))) : Goes p e below P T (mkF m pc Ls st) := by
  subst hq
  obtain ⟨T', X', e', st'⟩ := getS2 X K.hx K.hZ K.hown (Or.inr w) Via.refl eT F (g := mkF m pc Ls st) rfl (hb K.by' hd)
  exact Goes.st st' (k T' X' e')
theorem s_getF (K : Cx Z p s m meth c own bytes maxL ret nm) (X : Stand p l e R s m args below meth c T locs cells slots) {C n d : String} {i : Nat} {a : Addr} {v : Value} (hd : decode bytes pc = .ok (.getfield i, 3)) (w : (Cond.fieldLink own i C n d).before a0 Z = true) (eT : T.heap = h) (F : Fld Z h a C n d v) (hq : pc + 3 = q)
    (k : ∀ T', Stand p l e R s m args below meth c T' locs cells slots → T'.heap = h → Goes p e below P T' (mkF m q Ls (v :: st))) : Goes p e below P T (mkF m pc Ls (.ref a :: st)) := by
  subst hq
  obtain ⟨T', X', e', st'⟩ := getF X K.hx K.hZ K.hown (host := "") (Or.inl w) Via.refl eT F (g := mkF m pc Ls (.ref a :: st)) rfl rfl (hb K.by' hd)
  exact Goes.st st' (k T' X' e')
theorem s_getFV (K : Cx Z p s m meth c own bytes maxL ret nm) (X : Stand p l e R s m args below meth c T locs cells slots) {R0 C n d : String} {i : Nat} {a : Addr} {v : Value} (hd : decode bytes pc = .ok (.getfield i, 3)) (w : (Cond.fieldLink own i R0 n d).before a0 Z = true) (wv : (Cond.sameField R0 C n d).before a0 Z = true) (eT : T.heap = h) (F : Fld Z h a C n d v) (hq : pc + 3 = q)
    (k : ∀ T', Stand p l e R s m args below meth c T' locs cells slots → T'.heap = h → Goes p e below P T' (mkF m q Ls (v :: st))) : Goes p e below P T (mkF m pc Ls (.ref a :: st)) := by
  subst hq
  obtain ⟨T', X', e', st'⟩ := getF X K.hx K.hZ K.hown (host := "") (Or.inl w) (Via.of wv) eT F (g := mkF m pc Ls (.ref a :: st)) rfl rfl (hb K.by' hd)
  exact Goes.st st' (k T' X' e')
theorem s_getFN (K : Cx Z p s m meth c own bytes maxL ret nm) (X : Stand p l e R s m args below meth c T locs cells slots) {C n d host : String} {i : Nat} {a : Addr} {v : Value} (hd : decode bytes pc = .ok (.getfield i, 3)) (w : (Cond.fieldLinkNest own i C n d host).before a0 Z = true) (eT : T.heap = h) (F : Fld Z h a C n d v) (hq : pc + 3 = q)
    (k : ∀ T', Stand p l e R s m args below meth c T' locs cells slots → T'.heap = h → Goes p e below P T' (mkF m q Ls (v :: st))) : Goes p e below P T (mkF m pc Ls (.ref a :: st)) := by
  subst hq
  obtain ⟨T', X', e', st'⟩ := getF X K.hx K.hZ K.hown (Or.inr w) Via.refl eT F (g := mkF m pc Ls (.ref a :: st)) rfl rfl (hb K.by' hd)
  exact Goes.st st' (k T' X' e')
/-- putfield: a field that is no final one -/
theorem s_putF (K : Cx Z p s m meth c own bytes maxL ret nm) (X : Stand p l e R s m args below meth c T locs cells slots) {C D n d : String} {i kk : Nat} {ty : FieldType} {a : Addr} {v old : Value} (hd : decode bytes pc = .ok (.putfield i, 3)) (w : (Cond.fieldLink own i D n d).before a0 Z = true) (eT : T.heap = h) (F : Fld Z h a D n d old) (E : Exa Z h a C) (L : (Cond.lays C D n d).before a0 Z = true ∨ ((Cond.laysFinal C D n d).before a0 Z = true ∧ own = D ∧ nm = "<init>")) (wi : (Cond.instantiable C kk).before a0 Z = true) (hty : parseFieldDescriptor d = some ty) (hn : narrow ty v = v) (hf : fits ty v = true) (hq : pc + 3 = q)
    (k : ∀ T' h', Stand p l e R s m args below meth c T' (locs ++ [⟨a, RoadKit.slotOf Z D n d⟩]) cells slots → T'.heap = h' → Wr h h' a (RoadKit.slotOf Z D n d) v → Goes p e below P T' (mkF m q Ls st)) : Goes p e below P T (mkF m pc Ls (v :: .ref a :: st)) := by
  subst hq
  obtain ⟨T', h', X', e', W, st'⟩ := putF X K.hx K.hZ K.hown (host := "") (Or.inl w) Via.refl eT F E (L.imp id fun z => ⟨z.1, z.2.1, K.hnm.trans z.2.2⟩) wi hty hn hf (g := mkF m pc Ls (v :: .ref a :: st)) rfl rfl (hb K.by' hd)
  exact Goes.st st' (k T' h' X' e' W)
theorem s_putFNest (K : Cx Z p s m meth c own bytes maxL ret nm) (X : Stand p l e R s m args below meth c T locs cells slots) {C D n d host : String} {i kk : Nat} {ty : FieldType} {a : Addr} {v old : Value} (hd : decode bytes pc = .ok (.putfield i, 3)) (w : (Cond.fieldLinkNest own i D n d host).before a0 Z = true) (eT : T.heap = h) (F : Fld Z h a D n d old) (E : Exa Z h a C) (L : (Cond.lays C D n d).before a0 Z = true) (wi : (Cond.instantiable C kk).before a0 Z = true) (hty : parseFieldDescriptor d = some ty) (hn : narrow ty v = v) (hf : fits ty v = true) (hq : pc + 3 = q)
    (k : ∀ T' h', Stand p l e R s m args below meth c T' (locs ++ [⟨a, RoadKit.slotOf Z D n d⟩]) cells slots → T'.heap = h' → Wr h h' a (RoadKit.slotOf Z D n d) v → Goes p e below P T' (mkF m q Ls st)) : Goes p e below P T (mkF m pc Ls (v :: .ref a :: st)) := by
  subst hq
  obtain ⟨T', h', X', e', W, st'⟩ := putF X K.hx K.hZ K.hown (Or.inr w) Via.refl eT F E (Or.inl L) wi hty hn hf (g := mkF m pc Ls (v :: .ref a :: st)) rfl rfl (hb K.by' hd)
  exact Goes.st st' (k T' h' X' e' W)
theorem s_new (K : Cx Z p s m meth c own bytes maxL ret nm) (X : Stand p l e R s m args below meth c T locs cells slots) {C : String} {i n : Nat} (hd : decode bytes pc = .ok (.new i, 3)) (w : (Cond.classLink own i C).before a0 Z = true) (wi : (Cond.instantiable C n).before a0 Z = true) (wz : (Cond.initialized C).before a0 Z = true) (eT : T.heap = h) (hc : cells + 1 ≤ R.cells) (hl : slots + n ≤ R.slots) (hq : pc + 3 = q)
    (k : ∀ T' h' a, a = h.size → Stand p l e R s m args below meth c T' locs (cells + 1) (slots + n) → T'.heap = h' → Ext h h' → Exa Z h' a C → (∀ {O nm d : String} {ty : FieldType}, Laid Z a0 C O nm d → parseFieldDescriptor d = some ty → Fld Z h' a O nm d (defaultValue ty)) → Goes p e below P T' (mkF m q Ls (.ref a :: st))) : Goes p e below P T (mkF m pc Ls st) := by
  subst hq
  obtain ⟨T', h', X', e', E, A, D, -, st'⟩ := newO X K.hx K.hZ K.hown w wi wz eT (g := mkF m pc Ls st) rfl (hb K.by' hd) hc hl
  exact Goes.st st' (k T' h' h.size rfl X' e' E A D)
theorem s_newR (K : Cx Z p s m meth c own bytes maxL ret nm) (X : Stand p l e R s m args below meth c T locs cells slots) {C : String} {i : Nat} {n : Int32} (hd : decode bytes pc = .ok (.anewarray i, 3)) (w1 : (Cond.classLink own i C).before a0 Z = true) (w2 : (Cond.arrayOver (.object C)).before a0 Z = true) (eT : T.heap = h) (hn : ¬ n < 0) (cap : Nat) (hcap : n.toNatClampNeg ≤ cap) (hb' : cap * 8 ≤ 536870912) (hc : cells + 1 ≤ R.cells) (hl : slots + cap ≤ R.slots) (hq : pc + 3 = q)
    (k : ∀ T' h' a cA, a = h.size → Stand p l e R s m args below meth c T' locs (cells + 1) (slots + cap) → T'.heap = h' → Ext h h' → Arr Z h' a (newA cA (.object C) n) (.object C) → Ovr Z cA C → Goes p e below P T' (mkF m q Ls (.ref a :: st))) : Goes p e below P T (mkF m pc Ls (.int n :: st)) := by
  subst hq
  obtain ⟨T', h', cA, X', e', E, A, O, st'⟩ := newR X K.hx K.hZ K.hown w1 w2 eT (g := mkF m pc Ls (.int n :: st)) rfl (hb K.by' hd) rfl hn hcap hb' hc hl
  exact Goes.st st' (k T' h' h.size cA rfl X' e' E A O)
theorem s_newP (K : Cx Z p s m meth c own bytes maxL ret nm) (X : Stand p l e R s m args below meth c T locs cells slots) {aty : ArrayType} {n : Int32} (hd : decode bytes pc = .ok (.newarray aty, 2)) (w : (Cond.arrayClass (newarray.typeOf aty)).before a0 Z = true) (eT : T.heap = h) (hn : ¬ n < 0) (cap : Nat) (hcap : n.toNatClampNeg ≤ cap) (hb' : cap * 8 ≤ 536870912) (hc : cells + 1 ≤ R.cells) (hl : slots + cap ≤ R.slots) (hq : pc + 2 = q)
    (k : ∀ T' h' a cA, a = h.size → Stand p l e R s m args below meth c T' locs (cells + 1) (slots + cap) → T'.heap = h' → Ext h h' → Arr Z h' a (newA cA (newarray.typeOf aty) n) (newarray.typeOf aty) → Goes p e below P T' (mkF m q Ls (.ref a :: st))) : Goes p e below P T (mkF m pc Ls (.int n :: st)) := by
  subst hq
  obtain ⟨T', h', cA, X', e', E, A, st'⟩ := newP X K.hx K.hZ w eT (g := mkF m pc Ls (.int n :: st)) rfl (hb K.by' hd) rfl hn hcap hb' hc hl
  exact Goes.st st' (k T' h' h.size cA rfl X' e' E A)
theorem s_stR (K : Cx Z p s m meth c own bytes maxL ret nm) (X : Stand p l e R s m args below meth c T locs cells slots) {a : Addr} {cl : Cell} {ty : FieldType} {j : Int32} {v : Value} (hd : decode bytes pc = .ok (.aastore, 1)) (eT : T.heap = h) (A : Arr Z h a cl ty) (hj : ¬ (j < 0 ∨ cl.slots.size ≤ j.toNatClampNeg)) (hty : ty.isReference = true) (F : Sto Z h a v) (hq : pc + 1 = q)
    (k : ∀ T' h', Stand p l e R s m args below meth c T' (locs ++ [⟨a, j.toNatClampNeg⟩]) cells slots → T'.heap = h' → Wr h h' a j.toNatClampNeg v → Goes p e below P T' (mkF m q Ls st)) : Goes p e below P T (mkF m pc Ls (v :: .int j :: .ref a :: st)) := by
  subst hq
  obtain ⟨T', h', X', e', W, st'⟩ := stR X K.hx K.hZ eT A hj hty F (g := mkF m pc Ls (v :: .int j :: .ref a :: st)) rfl rfl (hb K.by' hd)
  exact Goes.st st' (k T' h' X' e' W)
theorem s_stC (K : Cx Z p s m meth c own bytes maxL ret nm) (X : Stand p l e R s m args below meth c T locs cells slots) {a : Addr} {cl : Cell} {j x : Int32} (hd : decode bytes pc = .ok (.castore, 1)) (eT : T.heap = h) (A : Arr Z h a cl .char) (hj : ¬ (j < 0 ∨ cl.slots.size ≤ j.toNatClampNeg)) (hq : pc + 1 = q)
    (k : ∀ T' h', Stand p l e R s m args below meth c T' (locs ++ [⟨a, j.toNatClampNeg⟩]) cells slots → T'.heap = h' → Wr h h' a j.toNatClampNeg (.int (nar .char x)) → Goes p e below P T' (mkF m q Ls st)) : Goes p e below P T (mkF m pc Ls (.int x :: .int j :: .ref a :: st)) := by
  subst hq
  obtain ⟨T', h', X', e', W, st'⟩ := stC X K.hx K.hZ eT A hj (g := mkF m pc Ls (.int x :: .int j :: .ref a :: st)) rfl rfl (hb K.by' hd)
  exact Goes.st st' (k T' h' X' e' W)
theorem s_aaload (K : Cx Z p s m meth c own bytes maxL ret nm) (X : Stand p l e R s m args below meth c T locs cells slots) {a : Addr} {cl : Cell} {ty : FieldType} {j : Int32} {v : Value} (hd : decode bytes pc = .ok (.aaload, 1)) (eT : T.heap = h) (A : Arr Z h a cl ty) (hty : ty.isReference = true) (hj : ¬ (j < 0 ∨ cl.slots.size ≤ j.toNatClampNeg)) (hv : cl.slots[j.toNatClampNeg]? = some v) (hq : pc + 1 = q) (k : Goes p e below P T (mkF m q Ls (v :: st))) : Goes p e below P T (mkF m pc Ls (.int j :: .ref a :: st)) := by
  subst hq
  exact Goes.st (fun t kk => X.aaload K.hx (j := j) (v := v) (by rw [eT]; exact A.1) (State.isArrayOf_alike K.hZ.alike A.2.1) hty A.2.2 hj hv (g := mkF m pc Ls (.int j :: .ref a :: st)) rfl rfl (hb K.by' hd) t kk) k
theorem s_alen (K : Cx Z p s m meth c own bytes maxL ret nm) (X : Stand p l e R s m args below meth c T locs cells slots) {a : Addr} {cl : Cell} {ty : FieldType} {z : Int32} (hd : decode bytes pc = .ok (.arraylength, 1)) (eT : T.heap = h) (A : Arr Z h a cl ty) (hz : cl.slots.size.toInt32 = z) (hq : pc + 1 = q) (k : Goes p e below P T (mkF m q Ls (.int z :: st))) : Goes p e below P T (mkF m pc Ls (.ref a :: st)) := by
  subst hq hz
  exact Goes.st (fun t kk => X.arraylength K.hx (by rw [eT]; exact A.1) (State.isArrayOf_alike K.hZ.alike A.2.1) (g := mkF m pc Ls (.ref a :: st)) rfl rfl (hb K.by' hd) t kk) k
theorem s_castY (K : Cx Z p s m meth c own bytes maxL ret nm) (X : Stand p l e R s m args below meth c T locs cells slots) {C : String} {i : Nat} {a : Addr} (hd : decode bytes pc = .ok (.checkcast i, 3)) (w : (Cond.classLink own i C).before a0 Z = true) (eT : T.heap = h) (F : Ins Z h a C true) (hq : pc + 3 = q)
    (k : ∀ T', Stand p l e R s m args below meth c T' locs cells slots → T'.heap = h → Goes p e below P T' (mkF m q Ls (.ref a :: st))) : Goes p e below P T (mkF m pc Ls (.ref a :: st)) := by
  subst hq
  obtain ⟨T', X', e', st'⟩ := castY X K.hx K.hZ K.hown w eT F (g := mkF m pc Ls (.ref a :: st)) rfl rfl (hb K.by' hd)
  exact Goes.st st' (k T' X' e')
theorem s_castN (K : Cx Z p s m meth c own bytes maxL ret nm) (X : Stand p l e R s m args below meth c T locs cells slots) {i : Nat} (hd : decode bytes pc = .ok (.checkcast i, 3)) (hq : pc + 3 = q) (k : Goes p e below P T (mkF m q Ls (.null :: st))) : Goes p e below P T (mkF m pc Ls (.null :: st)) := by
  subst hq
  exact Goes.st (fun t kk => X.checkcastNull K.hx (g := mkF m pc Ls (.null :: st)) rfl rfl (hb K.by' hd) t kk) k
theorem s_instY (K : Cx Z p s m meth c own bytes maxL ret nm) (X : Stand p l e R s m args below meth c T locs cells slots) {C : String} {i : Nat} {a : Addr} (hd : decode bytes pc = .ok (.instanceof i, 3)) (w : (Cond.classLink own i C).before a0 Z = true) (eT : T.heap = h) (F : Ins Z h a C true) (hq : pc + 3 = q)
    (k : ∀ T', Stand p l e R s m args below meth c T' locs cells slots → T'.heap = h → Goes p e below P T' (mkF m q Ls (.int 1 :: st))) : Goes p e below P T (mkF m pc Ls (.ref a :: st)) := by
  subst hq
  obtain ⟨T', X', e', st'⟩ := instY X K.hx K.hZ K.hown w eT F (g := mkF m pc Ls (.ref a :: st)) rfl rfl (hb K.by' hd)
  exact Goes.st st' (k T' X' e')
theorem s_instNo (K : Cx Z p s m meth c own bytes maxL ret nm) (X : Stand p l e R s m args below meth c T locs cells slots) {C D : String} {i : Nat} {a : Addr} (hd : decode bytes pc = .ok (.instanceof i, 3)) (w : (Cond.classLink own i D).before a0 Z = true) (eT : T.heap = h) (E : Exa Z h a C) (F : ∃ c t, Z.vm.findClass C = some c ∧ Z.vm.findClass D = some t ∧ Z.vm.assignable c t = false) (hq : pc + 3 = q)
    (k : ∀ T', Stand p l e R s m args below meth c T' locs cells slots → T'.heap = h → Goes p e below P T' (mkF m q Ls (.int 0 :: st))) : Goes p e below P T (mkF m pc Ls (.ref a :: st)) := by
  subst hq
  obtain ⟨T', X', e', st'⟩ := instNo X K.hx K.hZ K.hown w eT E F (g := mkF m pc Ls (.ref a :: st)) rfl rfl (hb K.by' hd)
  exact Goes.st st' (k T' X' e')
theorem s_init0 (K : Cx Z p s m meth c own bytes maxL ret nm) (X : Stand p l e R s m args below meth c T locs cells slots) {i : Nat} {a : Addr} (W : Nat) (hd : decode bytes pc = .ok (.invokespecial i, 3)) (w1 : (Cond.methodLink own i Lib.objectInit).before a0 Z = true) (w2 : (Cond.instanceMethod Lib.objectInit).before a0 Z = true) (w3 : (Cond.code Lib.objectInit ⟨#[0xb1]⟩ 1 none).before a0 Z = true) (eT : T.heap = h) (hsz : Ls.size = maxL) (hf : 1 ≤ R.frames) (hW : (st.map fun v => v.category).sum ≤ W) (hl : W + 12 ≤ R.locals) (hq : pc + 3 = q)
    (k : ∀ T', Stand p l e R s m args below meth c T' locs cells slots → T'.heap = h → Goes p e below P T' (mkF m q Ls st)) : Goes p e below P T (mkF m pc Ls (.ref a :: st)) := by
  subst hq
  obtain ⟨T', X', e', st'⟩ := initO X K.hx K.hZ K.hown w1 w2 w3 eT (g := mkF m pc Ls (.ref a :: st)) rfl (by rw [K.ml]; exact hsz) rfl (hb K.by' hd) hf (W := W) (by simpa using hW) hl
  exact Goes.st st' (k T' X' e')
theorem fits_obj {v : Value} {C : String} (hv : v.isRef = true) : fits (.object C) v = true := by rcases ref_cases hv with rfl | ⟨a, rfl⟩ <;> rfl
theorem s_newV (K : Cx Z p s m meth c own bytes maxL ret nm) (X : Stand p l e R s m args below meth c T locs cells slots) {C : String} {i : Nat} {n : Int32} (hd : decode bytes pc = .ok (.anewarray i, 3)) (w1 : (Cond.classLink own i C).before a0 Z = true) (w2 : (Cond.arrayOver (.object C)).before a0 Z = true) (eT : T.heap = h) (hn : ¬ n < 0) (cap : Nat) (hcap : n.toNatClampNeg ≤ cap) (hb' : cap * 8 ≤ 536870912) (hc : cells + 1 ≤ R.cells) (hl : slots + cap ≤ R.slots) {vs : List Value} (hvs : vs = List.replicate n.toNatClampNeg .null) (hq : pc + 3 = q)
    (k : ∀ T' h' a cA, a = h.size → Stand p l e R s m args below meth c T' locs (cells + 1) (slots + cap) → T'.heap = h' → Ext h h' → Arv Z h' a cA (.object C) n vs .null → Ovr Z cA C → Goes p e below P T' (mkF m q Ls (.ref a :: st))) : Goes p e below P T (mkF m pc Ls (.int n :: st)) := by
  refine s_newR K X hd w1 w2 eT hn cap hcap hb' hc hl hq (fun T' h' a cA g X' e' E A O => k T' h' a cA g X' e' E ?_ O)
  subst hvs
  exact (Arv.new A hn).pad (pad_rep [] (defaultValue (.object C)) n.toNatClampNeg)
theorem s_stV (K : Cx Z p s m meth c own bytes maxL ret nm) (X : Stand p l e R s m args below meth c T locs cells slots) {a : Addr} {cA : ClassId} {C : String} {z j : Int32} {vs vs' : List Value} {v : Value} (hd : decode bytes pc = .ok (.aastore, 1)) (eT : T.heap = h) (V : Arv Z h a cA (.object C) z vs .null) (O : Ovr Z cA C) (hj : ¬ j < 0 ∧ j < z) (hv : v.isRef = true) (I : ∀ y, v = .ref y → Ins Z h y C true) (i : Nat) (hi : j.toNatClampNeg = i) (hl : i < vs.length) (hvs : vs.set i v = vs') (hq : pc + 1 = q)
    (k : ∀ T' h', Stand p l e R s m args below meth c T' (locs ++ [⟨a, i⟩]) cells slots → T'.heap = h' → Wr h h' a i v → Arv Z h' a cA (.object C) z vs' .null → Goes p e below P T' (mkF m q Ls st)) : Goes p e below P T (mkF m pc Ls (v :: .int j :: .ref a :: st)) := by
  obtain ⟨cl, Ar, q1, S, N, H, G⟩ := V
  refine s_stR K X hd eT Ar (inb_of S hj) rfl ?_ hq (fun T' h' X' e' W => ?_)
  · rcases ref_cases hv with rfl | ⟨y, rfl⟩
    · exact Or.inl rfl
    · exact Sto.ofV Ar q1 O (I y rfl)
  · have V' := Arv.set Ar q1 S N H G (fits_obj hv) W i hi hl
    rw [hvs] at V'
    subst hi
    exact k T' h' X' e' W V'
theorem s_ldV (K : Cx Z p s m meth c own bytes maxL ret nm) (X : Stand p l e R s m args below meth c T locs cells slots) {a : Addr} {cA : ClassId} {ty : FieldType} {z j : Int32} {vs : List Value} {v dv : Value} (hd : decode bytes pc = .ok (.aaload, 1)) (eT : T.heap = h) (V : Arv Z h a cA ty z vs dv) (hty : ty.isReference = true) (hj : ¬ j < 0 ∧ j < z) (hv : vs.getD j.toNatClampNeg dv = v) (hq : pc + 1 = q) (k : Goes p e below P T (mkF m q Ls (v :: st))) : Goes p e below P T (mkF m pc Ls (.int j :: .ref a :: st)) := by
  obtain ⟨cl, Ar, q1, S, N, H, G⟩ := V
  exact s_aaload K X hd eT Ar hty (inb_of S hj) (H.at (inb_of S hj) hv) hq k
theorem s_lenV (K : Cx Z p s m meth c own bytes maxL ret nm) (X : Stand p l e R s m args below meth c T locs cells slots) {a : Addr} {cA : ClassId} {ty : FieldType} {z : Int32} {vs : List Value} {dv : Value} (hd : decode bytes pc = .ok (.arraylength, 1)) (eT : T.heap = h) (V : Arv Z h a cA ty z vs dv) (hq : pc + 1 = q) (k : Goes p e below P T (mkF m q Ls (.int z :: st))) : Goes p e below P T (mkF m pc Ls (.ref a :: st)) := by
  obtain ⟨cl, Ar, q1, S, N, H, G⟩ := V
  exact s_alen K X hd eT Ar (len_of S N) hq k
theorem arv_of_arh {a : Addr} {k : ClassId} {ty : FieldType} {z : Int32} {vs : List Value} {dv : Value} (F : Arh Z h a k ty z [] vs dv) : Arv Z h a k ty z vs dv := by
  obtain ⟨c, A, q1, S, N, H, G⟩ := F; exact ⟨c, A, q1, S, N, H, G⟩
theorem s_clone (K : Cx Z p s m meth c own bytes maxL ret nm) (X : Stand p l e R s m args below meth c T locs cells slots) {ad : String} {i : Nat} {a : Addr} {k : ClassId} {ty : FieldType} {z : Int32} {vs : List Value} {dv : Value} (W cap : Nat) (hd : decode bytes pc = .ok (.invokevirtual i, 3)) (w1 : (Cond.methodLink own i ⟨ad, "clone", "()Ljava/lang/Object;"⟩).before a0 Z = true) (w2 : (Cond.sameMethod ad "java/lang/Object" "clone" "()Ljava/lang/Object;").before a0 Z = true) (w3 : (Cond.native ⟨"java/lang/Object", "clone", "()Ljava/lang/Object;"⟩).before a0 Z = true) (w4 : (Cond.instanceMethod ⟨"java/lang/Object", "clone", "()Ljava/lang/Object;"⟩).before a0 Z = true) (w5 : (Cond.selects ad ⟨ad, "clone", "()Ljava/lang/Object;"⟩ ⟨"java/lang/Object", "clone", "()Ljava/lang/Object;"⟩).before a0 Z = true) (w6 : (Cond.castable ad "java/lang/Cloneable").before a0 Z = true)
    (eT : T.heap = h) (V : Arv Z h a k ty z vs dv) (E : Exa Z h a ad) (hsz : Ls.size = maxL) (hf : 1 ≤ R.frames) (hW : (st.map fun v => v.category).sum ≤ W) (hl : W + 14 ≤ R.locals) (hcap : z.toNatClampNeg ≤ cap) (hc : cells + 1 ≤ R.cells) (hsl : slots + cap ≤ R.slots) (hq : pc + 3 = q)
    (kk : ∀ T' h' b, b = h.size → Stand p l e R s m args below meth c T' locs (cells + 1) (slots + cap) → T'.heap = h' → Ext h h' → Arv Z h' b k ty z vs dv → Exa Z h' b ad → Goes p e below P T' (mkF m q Ls (.ref b :: st))) : Goes p e below P T (mkF m pc Ls (.ref a :: st)) := by
  subst hq
  obtain ⟨T', h', X', e', E', V', A', st'⟩ := cloneH X K.hx K.hZ K.hown w1 w2 w3 w4 w5 w6 eT V.arh E (g := mkF m pc Ls (.ref a :: st)) rfl (by rw [K.ml]; exact hsz) rfl (hb K.by' hd) hf (W := W) (by simpa using hW) hl hcap hc hsl
  exact Goes.st st' (kk T' h' h.size rfl X' e' E' (arv_of_arh V') A')
theorem s_callS (K : Cx Z p s m meth c own bytes maxL ret nm) (X : Stand p l e R s m args below meth c T locs cells slots) (W : Nat) {Q : Option Value → Heap → List Loc → Prop} {yb : ByteArray} {ym : Nat} {rm : Room} {y : MethodName} {yr : Option FieldType} {i : Nat} {ps : List FieldType} {argsL : List Value} (hd : decode bytes pc = .ok (.invokestatic i, 3)) (w1 : (Cond.methodLink own i y).before a0 Z = true) (w2 : (Cond.static y).before a0 Z = true) (w3 : (Cond.initialized y.cls).before a0 Z = true) (w4 : (Cond.code y yb ym yr).before a0 Z = true) (hy : y.cls ≠ "java/lang/invoke/MethodHandle" ∧ y.cls ≠ "java/lang/invoke/VarHandle")
    (hpd : parseMethodDescriptor y.desc = some ⟨ps, yr⟩) (hlen : argsL.length = ps.length) (eT : T.heap = h) (C : Con l Z y yb ym yr rm argsL.toArray h Q) {stk : List Value} (hstk : stk = argsL.reverse ++ st) (hsz : Ls.size = maxL) (hf : rm.frames + 1 ≤ R.frames) (hW : (st.map fun v => v.category).sum ≤ W) (hlo : W + (ym + 11) + rm.locals ≤ R.locals) (hc : cells + rm.cells ≤ R.cells) (hs : slots + rm.slots ≤ R.slots) (hq : pc + 3 = q)
    (k : ∀ v T' h' L', Stand p l e R s m args below meth c T' (locs ++ L') (cells + rm.cells) (slots + rm.slots) → T'.heap = h' → Q v h' L' → Goes p e below P T' (mkF m q Ls (v.toList ++ st))) : Goes p e below P T (mkF m pc Ls stk) := by
  subst hq hstk
  obtain ⟨v, _, ⟨T', L', k', n'⟩, -, X', ⟨Lc, hQ, l1, l2, l3⟩, st'⟩ := Jvm.LawKit.callS X K.hx K.hown (mvT K.hZ w1) (mvT K.hZ w2) (mvT K.hZ w3) (mvT K.hZ w4) hy (backOf (W := W) (C []) K.hZ w4 w3 hf hlo) (g := mkF m pc Ls (argsL.reverse ++ st)) rfl (by rw [K.ml]; exact hsz) (argsL := argsL) (rest := st) (lenOf hpd hlen) rfl (by simpa using hW) (hb K.by' hd) (fun _ _ => ⟨rfl, eT, hc, hs⟩)
  dsimp only [Pt.U, Pt.locs, Pt.cells, Pt.slots] at X' l1 l2 l3 st' hQ
  subst l1 l2 l3
  exact Goes.st st' (k v T' _ _ X' rfl hQ)
theorem s_init (K : Cx Z p s m meth c own bytes maxL ret nm) (X : Stand p l e R s m args below meth c T locs cells slots) (W : Nat) {Q : Option Value → Heap → List Loc → Prop} {yb : ByteArray} {ym : Nat} {rm : Room} {y : MethodName} {i : Nat} {ps : List FieldType} {argsL : List Value} {a : Addr} (hd : decode bytes pc = .ok (.invokespecial i, 3)) (hy1 : y.name = "<init>") (w1 : (Cond.methodLink own i y).before a0 Z = true) (w2 : (Cond.instanceMethod y).before a0 Z = true) (w3 : (Cond.initialized y.cls).before a0 Z = true) (w4 : (Cond.code y yb ym none).before a0 Z = true) (hy : y.cls ≠ "java/lang/invoke/MethodHandle" ∧ y.cls ≠ "java/lang/invoke/VarHandle")
    (hpd : parseMethodDescriptor y.desc = some ⟨ps, none⟩) (hlen : argsL.length = ps.length) (eT : T.heap = h) (C : Con l Z y yb ym none rm (.ref a :: argsL).toArray h Q) {stk : List Value} (hstk : stk = argsL.reverse ++ .ref a :: st) (hsz : Ls.size = maxL) (hf : rm.frames + 1 ≤ R.frames) (hW : (st.map fun v => v.category).sum ≤ W) (hlo : W + (ym + 11) + rm.locals ≤ R.locals) (hc : cells + rm.cells ≤ R.cells) (hs : slots + rm.slots ≤ R.slots) (hq : pc + 3 = q)
    (k : ∀ v T' h' L', Stand p l e R s m args below meth c T' (locs ++ L') (cells + rm.cells) (slots + rm.slots) → T'.heap = h' → Q v h' L' → Goes p e below P T' (mkF m q Ls (v.toList ++ st))) : Goes p e below P T (mkF m pc Ls stk) := by
  subst hq hstk
  obtain ⟨v, _, ⟨T', L', k', n'⟩, -, X', ⟨Lc, hQ, l1, l2, l3⟩, st'⟩ := X.specialBack K.hx hy1 K.hown (mvT K.hZ w1) (mvT K.hZ w2) (mvT K.hZ w4) hy (backOf (W := W) (C []) K.hZ w4 w3 hf hlo) (g := mkF m pc Ls (argsL.reverse ++ .ref a :: st)) rfl (by rw [K.ml]; exact hsz) (Steps.refl _) (a := a) (argsL := argsL) (rest := st) (lenOf hpd hlen) rfl (by simpa using hW) (hb K.by' hd) (fun _ _ => ⟨rfl, eT, hc, hs⟩)
  dsimp only [Pt.U, Pt.locs, Pt.cells, Pt.slots] at X' l1 l2 l3 st' hQ
  subst l1 l2 l3
  exact Goes.st (fun _ kk => st'.trans kk) (k v T' _ _ X' rfl hQ)
theorem s_callV (K : Cx Z p s m meth c own bytes maxL ret nm) (X : Stand p l e R s m args below meth c T locs cells slots) (W : Nat) {Q : Option Value → Heap → List Loc → Prop} {yb : ByteArray} {ym : Nat} {rm : Room} {y z : MethodName} {yr : Option FieldType} {C : String} {i : Nat} {ps : List FieldType} {argsL : List Value} {a : Addr} (hd : decode bytes pc = .ok (.invokevirtual i, 3)) (w1 : (Cond.methodLink own i y).before a0 Z = true) (w2 : (Cond.declares y).before a0 Z = true) (hnf : NotFace s y) (w5 : (Cond.selects C y z).before a0 Z = true) (w6 : (Cond.instanceMethod z).before a0 Z = true) (w3 : (Cond.initialized z.cls).before a0 Z = true) (w4 : (Cond.code z yb ym yr).before a0 Z = true) (hy : y.cls ≠ "java/lang/invoke/MethodHandle" ∧ y.cls ≠ "java/lang/invoke/VarHandle")
    (hpd : parseMethodDescriptor y.desc = some ⟨ps, yr⟩) (hlen : argsL.length = ps.length) (eT : T.heap = h) (E : Exa Z h a C) (Cn : Con l Z z yb ym yr rm (.ref a :: argsL).toArray h Q) {stk : List Value} (hstk : stk = argsL.reverse ++ .ref a :: st) (hsz : Ls.size = maxL) (hf : rm.frames + 1 ≤ R.frames) (hW : (st.map fun v => v.category).sum ≤ W) (hlo : W + (ym + 11) + rm.locals ≤ R.locals) (hc : cells + rm.cells ≤ R.cells) (hs : slots + rm.slots ≤ R.slots) (hq : pc + 3 = q)
    (k : ∀ v T' h' L', Stand p l e R s m args below meth c T' (locs ++ L') (cells + rm.cells) (slots + rm.slots) → T'.heap = h' → Q v h' L' → Goes p e below P T' (mkF m q Ls (v.toList ++ st))) : Goes p e below P T (mkF m pc Ls stk) := by
  subst hq hstk
  obtain ⟨cq, kq, qa, qb, qc⟩ := isOf (T := T) K.hZ eT E
  obtain ⟨v, _, ⟨T', L', k', n'⟩, -, X', ⟨Lc, hQ, l1, l2, l3⟩, st'⟩ := X.virtualBack K.hx K.hown (mvT K.hZ w1) (mvT K.hZ w2) hnf (mvT K.hZ w5) (mvT K.hZ w6) hy (backOf (W := W) (Cn []) K.hZ w4 w3 hf hlo) qa qc (g := mkF m pc Ls (argsL.reverse ++ .ref a :: st)) rfl (by rw [K.ml]; exact hsz) (Steps.refl _) (argsL := argsL) (rest := st) (lenOf hpd hlen) rfl (by simpa using hW) (hb K.by' hd) (fun _ _ => ⟨rfl, eT, hc, hs⟩)
  dsimp only [Pt.U, Pt.locs, Pt.cells, Pt.slots] at X' l1 l2 l3 st' hQ
  subst l1 l2 l3
  exact Goes.st (fun _ kk => st'.trans kk) (k v T' _ _ X' rfl hQ)
theorem s_callU (K : Cx Z p s m meth c own bytes maxL ret nm) (X : Stand p l e R s m args below meth c T locs cells slots) (W : Nat) {Q : Option Value → Heap → List Loc → Prop} {yb : ByteArray} {ym : Nat} {rm : Room} {y z : MethodName} {yr : Option FieldType} {C owner : String} {i : Nat} {ps : List FieldType} {argsL : List Value} {a : Addr} (hd : decode bytes pc = .ok (.invokevirtual i, 3)) (w1 : (Cond.methodLink own i y).before a0 Z = true) (w2 : (Cond.sameMethod y.cls owner y.name y.desc).before a0 Z = true) (w2' : (Cond.declares ⟨owner, y.name, y.desc⟩).before a0 Z = true) (w5 : (Cond.selects C y z).before a0 Z = true) (w6 : (Cond.instanceMethod z).before a0 Z = true) (w3 : (Cond.initialized z.cls).before a0 Z = true) (w4 : (Cond.code z yb ym yr).before a0 Z = true) (hy : owner ≠ "java/lang/invoke/MethodHandle" ∧ owner ≠ "java/lang/invoke/VarHandle")
    (hpd : parseMethodDescriptor y.desc = some ⟨ps, yr⟩) (hlen : argsL.length = ps.length) (eT : T.heap = h) (E : Exa Z h a C) (Cn : Con l Z z yb ym yr rm (.ref a :: argsL).toArray h Q) {stk : List Value} (hstk : stk = argsL.reverse ++ .ref a :: st) (hsz : Ls.size = maxL) (hf : rm.frames + 1 ≤ R.frames) (hW : (st.map fun v => v.category).sum ≤ W) (hlo : W + (ym + 11) + rm.locals ≤ R.locals) (hc : cells + rm.cells ≤ R.cells) (hs : slots + rm.slots ≤ R.slots) (hq : pc + 3 = q)
    (k : ∀ v T' h' L', Stand p l e R s m args below meth c T' (locs ++ L') (cells + rm.cells) (slots + rm.slots) → T'.heap = h' → Q v h' L' → Goes p e below P T' (mkF m q Ls (v.toList ++ st))) : Goes p e below P T (mkF m pc Ls stk) := by
  subst hq hstk
  obtain ⟨cq, kq, qa, qb, qc⟩ := isOf (T := T) K.hZ eT E
  obtain ⟨v, _, ⟨T', L', k', n'⟩, -, X', ⟨Lc, hQ, l1, l2, l3⟩, st'⟩ := X.virtualBackUp K.hx K.hown (mvT K.hZ w1) (mvT K.hZ w2) (mvT K.hZ w2') hy (mvT K.hZ w5) (mvT K.hZ w6) (backOf (W := W) (Cn []) K.hZ w4 w3 hf hlo) qa qc (g := mkF m pc Ls (argsL.reverse ++ .ref a :: st)) rfl (by rw [K.ml]; exact hsz) (Steps.refl _) (argsL := argsL) (rest := st) (lenOf hpd hlen) rfl (by simpa using hW) (hb K.by' hd) (fun _ _ => ⟨rfl, eT, hc, hs⟩)
  dsimp only [Pt.U, Pt.locs, Pt.cells, Pt.slots] at X' l1 l2 l3 st' hQ
  subst l1 l2 l3
  exact Goes.st (fun _ kk => st'.trans kk) (k v T' _ _ X' rfl hQ)
theorem s_callI (K : Cx Z p s m meth c own bytes maxL ret nm) (X : Stand p l e R s m args below meth c T locs cells slots) (W : Nat) {Q : Option Value → Heap → List Loc → Prop} {yb : ByteArray} {ym : Nat} {rm : Room} {y z : MethodName} {yr : Option FieldType} {C : String} {i cnt : Nat} {ps : List FieldType} {argsL : List Value} {a : Addr} (hd : decode bytes pc = .ok (.invokeinterface i cnt, 5)) (w1 : (Cond.methodLink own i y).before a0 Z = true) (w2 : (Cond.declares y).before a0 Z = true) (w2' : (Cond.interfaceMethod y.cls y.cls y.name y.desc).before a0 Z = true) (hk9 : ((Cond.interfaceMethod y.cls y.cls y.name y.desc).onTables && (Cond.interfaceMethod y.cls y.cls y.name y.desc).keepsFace) = true) (w5 : (Cond.selects C y z).before a0 Z = true) (w6 : (Cond.instanceMethod z).before a0 Z = true) (w7 : (Cond.publicMethod z).before a0 Z = true) (w8 : (Cond.unhidden C y.name y.desc).before a0 Z = true) (w9 : (Cond.castable C y.cls).before a0 Z = true) (w3 : (Cond.initialized z.cls).before a0 Z = true) (w4 : (Cond.code z yb ym yr).before a0 Z = true) (hy : y.cls ≠ "java/lang/invoke/MethodHandle" ∧ y.cls ≠ "java/lang/invoke/VarHandle")
    (hpd : parseMethodDescriptor y.desc = some ⟨ps, yr⟩) (hlen : argsL.length = ps.length) (eT : T.heap = h) (E : Exa Z h a C) (Cn : Con l Z z yb ym yr rm (.ref a :: argsL).toArray h Q) {stk : List Value} (hstk : stk = argsL.reverse ++ .ref a :: st) (hsz : Ls.size = maxL) (hf : rm.frames + 1 ≤ R.frames) (hW : (st.map fun v => v.category).sum ≤ W) (hlo : W + (ym + 11) + rm.locals ≤ R.locals) (hc : cells + rm.cells ≤ R.cells) (hs : slots + rm.slots ≤ R.slots) (hq : pc + 5 = q)
    (k : ∀ v T' h' L', Stand p l e R s m args below meth c T' (locs ++ L') (cells + rm.cells) (slots + rm.slots) → T'.heap = h' → Q v h' L' → Goes p e below P T' (mkF m q Ls (v.toList ++ st))) : Goes p e below P T (mkF m pc Ls stk) := by
  subst hq hstk
  obtain ⟨cq, kq, qa, qb, qc⟩ := isOf (T := T) K.hZ eT E
  obtain ⟨v, _, ⟨T', L', k', n'⟩, -, X', ⟨Lc, hQ, l1, l2, l3⟩, st'⟩ := X.interfaceBack K.hx K.hown (mvT K.hZ w1) (mvT K.hZ w2) (mvT K.hZ w2' hk9) (mvT K.hZ w5) (mvT K.hZ w6) (mvT K.hZ w7) (mvT K.hZ w8) (mvT K.hZ w9) hy (backOf (W := W) (Cn []) K.hZ w4 w3 hf hlo) qa qb qc (g := mkF m pc Ls (argsL.reverse ++ .ref a :: st)) rfl (by rw [K.ml]; exact hsz) (Steps.refl _) (argsL := argsL) (rest := st) (lenOf hpd hlen) rfl (by simpa using hW) (hb K.by' hd) (fun _ _ => ⟨rfl, eT, hc, hs⟩)
  dsimp only [Pt.U, Pt.locs, Pt.cells, Pt.slots] at X' l1 l2 l3 st' hQ
  subst l1 l2 l3
  exact Goes.st (fun _ kk => st'.trans kk) (k v T' _ _ X' rfl hQ)
theorem s_retI (K : Cx Z p s m meth c own bytes maxL ret nm) (X : Stand p l e R s m args below meth c T locs cells slots) {z : Int32} {Q : Option Value → Heap → List Loc → Prop} (hd : decode bytes pc = .ok (.ireturn, 1)) (hr : ret = some .int) (eT : T.heap = h) (hc : cells ≤ R.cells) (hs : slots ≤ R.slots) (hQ : Q (some (.int z)) h locs) : Goes p e below (Fini s R Q) T (mkF m pc Ls (.int z :: st)) := by
  obtain ⟨fs, hl, hrun, hended, hW, hsame⟩ := X.leave (v := some (.int z)) (fun h => by rw [K.rt, hr] at h; cases h) K.lk
  exact ⟨_, _, retOut X K.hx (t := .int) (K.rt.trans hr) rfl (Or.inl ⟨rfl, Or.inl rfl, _, rfl⟩) (hb K.by' hd) hl, hrun, hended, _, _, rfl, (by rw [show (T.setFrames fs).heap = T.heap from rfl, eT]; exact hQ), ⟨_, rfl⟩, hW, hsame.mono hc hs⟩
theorem s_retZ (K : Cx Z p s m meth c own bytes maxL ret nm) (X : Stand p l e R s m args below meth c T locs cells slots) {z : Int32} {Q : Option Value → Heap → List Loc → Prop} (hd : decode bytes pc = .ok (.ireturn, 1)) (hr : ret = some .boolean) (hz : z &&& 1 = z) (eT : T.heap = h) (hc : cells ≤ R.cells) (hs : slots ≤ R.slots) (hQ : Q (some (.int z)) h locs) : Goes p e below (Fini s R Q) T (mkF m pc Ls (.int z :: st)) := by
  obtain ⟨fs, hl, hrun, hended, hW, hsame⟩ := X.leave (v := some (.int z)) (fun h => by rw [K.rt, hr] at h; cases h) K.lk
  exact ⟨_, _, retOut X K.hx (t := .boolean) (K.rt.trans hr) (by show Value.int (z &&& 1) = _; rw [hz]) (Or.inl ⟨rfl, Or.inr (Or.inl rfl), _, rfl⟩) (hb K.by' hd) hl, hrun, hended, _, _, rfl, (by rw [show (T.setFrames fs).heap = T.heap from rfl, eT]; exact hQ), ⟨_, rfl⟩, hW, hsame.mono hc hs⟩
theorem s_retA (K : Cx Z p s m meth c own bytes maxL ret nm) (X : Stand p l e R s m args below meth c T locs cells slots) {v : Value} {t : FieldType} {Q : Option Value → Heap → List Loc → Prop} (hd : decode bytes pc = .ok (.areturn, 1)) (hr : ret = some t) (ht : t.isReference = true) (hv : v.isRef = true) (eT : T.heap = h) (hc : cells ≤ R.cells) (hs : slots ≤ R.slots) (hQ : Q (some v) h locs) : Goes p e below (Fini s R Q) T (mkF m pc Ls (v :: st)) := by
  obtain ⟨fs, hl, hrun, hended, hW, hsame⟩ := X.leave (v := some v) (fun h => by rw [K.rt, hr] at h; cases h) K.lk
  have hn : narrow t v = v := by rcases ref_cases hv with rfl | ⟨a, rfl⟩ <;> cases t <;> rfl
  exact ⟨_, _, retOut X K.hx (K.rt.trans hr) hn (Or.inr (Or.inr (Or.inr (Or.inr ⟨rfl, ht, hv⟩)))) (hb K.by' hd) hl, hrun, hended, _, _, rfl, (by rw [show (T.setFrames fs).heap = T.heap from rfl, eT]; exact hQ), ⟨_, rfl⟩, hW, hsame.mono hc hs⟩
theorem s_ret (K : Cx Z p s m meth c own bytes maxL ret nm) (X : Stand p l e R s m args below meth c T locs cells slots) {Q : Option Value → Heap → List Loc → Prop} (hd : decode bytes pc = .ok (.return_, 1)) (hr : ret = none) (eT : T.heap = h) (hc : cells ≤ R.cells) (hs : slots ≤ R.slots) (hQ : Q none h locs) : Goes p e below (Fini s R Q) T (mkF m pc Ls []) := by
  obtain ⟨fs, hl, hrun, hended, hW, hsame⟩ := X.leave (v := none) (fun _ => rfl) K.lk
  exact ⟨_, _, X.returnOut K.hx (K.rt.trans hr) (hb K.by' hd) hl, hrun, hended, _, _, rfl, (by rw [show (T.setFrames fs).heap = T.heap from rfl, eT]; exact hQ), ⟨_, rfl⟩, hW, hsame.mono hc hs⟩
end Steps
section Facts
variable {Z : State} {args : Array Value} {t : Term} {a : Addr} {C n d : String} {v : Value} {h h' : Heap}
theorem fld_start_i {i : Int32} (ht : t.eval args Z none [] Z = some (.ref a)) (hv : (Cond.eq (.field t C n d) (.int i)).value args Z none Z [] = some true) : Fld Z Z.heap a C n d (.int i) := by
  obtain ⟨x, y, h1, h2, h3, -⟩ := cmp_v (Or.inl hv)
  have e : Z.fieldOf? a C n d = some x := by rw [← fld_at (t := t) (args := args) (first := Z) (o := none) (idx := []) ht]; exact h1
  cases (Term.int_eval i).symm.trans h2
  cases x <;> simp only [Kin] at h3
  case int x =>
    have : x = i := by simpa [Cond.value, h1, Term.int_eval] using hv
    subst this; exact Fld.start e
  all_goals first | (obtain ⟨z, hz⟩ := h3; cases hz) | (exact absurd h3.2 (by simp [Value.isRef]))
theorem eq_ref_start {u : Term} (ht : t.eval args Z none [] Z = some (.ref a)) (hv : (Cond.eq u t).value args Z none Z [] = some true) : u.eval args Z none [] Z = some (.ref a) := by
  obtain ⟨x, y, h1, h2, h3, h4⟩ := cmp_v (Or.inl hv)
  cases h2.symm.trans ht
  have hx : x.isRef = true := by cases x <;> simp [Kin, Value.isRef] at h3 h4 ⊢
  have := gotT (eq_R h1 ht hx rfl) hv
  rw [h1, this]
theorem eq_int_start {u : Term} {i : Int32} (hv : (Cond.eq u (.int i)).value args Z none Z [] = some true) : u.eval args Z none [] Z = some (.int i) := by
  obtain ⟨x, y, h1, h2, h3, -⟩ := cmp_v (Or.inl hv)
  cases (Term.int_eval i).symm.trans h2
  cases x <;> simp only [Kin] at h3
  case int x =>
    have : x = i := by simpa [Cond.value, h1, Term.int_eval] using hv
    subst this; exact h1
  all_goals first | (obtain ⟨z, hz⟩ := h3; cases hz) | (exact absurd h3.2 (by simp [Value.isRef]))
theorem arr_len {cl : Cell} {ty : FieldType} {z : Int32} (ht : t.eval args Z none [] Z = some (.ref a)) (A : Arr Z Z.heap a cl ty) (hv : (Cond.eq (.length t) (.int z)).value args Z none Z [] = some true) : cl.slots.size.toInt32 = z ∧ cl.slots.size < 2 ^ 31 := by
  have e := eq_int_start hv
  have ha := A.fin (Vm.Alike.refl _)
  by_cases q : cl.slots.size < 2 ^ 31
  · rw [len_f ht ha q] at e
    exact ⟨Value.int.inj (Option.some.inj e), q⟩
  · simp [Term.eval, ht, ha, q] at e
theorem arr_elem {cl : Cell} {ty : FieldType} {j : Int32} (ht : t.eval args Z none [] Z = some (.ref a)) (A : Arr Z Z.heap a cl ty) (hv : (Term.elem t (.int j)).eval args Z none [] Z = some v) : ¬ (j < 0 ∨ cl.slots.size ≤ j.toNatClampNeg) ∧ cl.slots[j.toNatClampNeg]? = some v :=
  elem_in hv ht (Term.int_eval j) A.1
end Facts
section Facts2
variable {Z : State} {h h' h'' : Heap} {a b : Addr} {sl : Nat} {v : Value}
theorem ext_trans (E : Ext h h') (E' : Ext h' h'') : Ext h h'' := ⟨Nat.le_trans E.1 E'.1, fun a c q => E'.2 a c (E.2 a c q)⟩
theorem ext_refl (h : Heap) : Ext h h := ⟨Nat.le_refl _, fun _ _ q => q⟩
theorem ext_wr (E : Ext h h') (W : Wr h' h'' a sl v) (q : h.size ≤ a) : Ext h h'' := by
  obtain ⟨cell, h1, -, -, rfl⟩ := W
  refine ⟨by simpa using E.1, fun x c hx => ?_⟩
  have : a ≠ x := fun z => absurd (Array.getElem?_eq_some_iff.mp hx).1 (Nat.not_lt.mpr (z ▸ q))
  rw [Array.getElem?_setIfInBounds_ne this]; exact E.2 x c hx
theorem old_le (O : Old Z Z.heap.size h) : Z.heap.size ≤ h.size := O.2.1
theorem fr_one {k : Nat} (q : k ≤ a) : Fr k [⟨a, sl⟩] := fun y hy => by cases List.mem_singleton.mp hy; exact q
/-- an Integer at a, worth c -/
def Bx (Z : State) (h : Heap) (a : Addr) (c : Int32) : Prop := Exa Z h a "java/lang/Integer" ∧ Fld Z h a "java/lang/Integer" "value" "I" (.int c)
theorem Bx.ext {c : Int32} (E : Ext h h') (F : Bx Z h a c) : Bx Z h' a c := ⟨F.1.ext E, F.2.ext E⟩
theorem Bx.keep {c : Int32} {ws : List Addr} (F : Bx Z h a c) (K : Keep h h' ws) (q : a ∉ ws) : Bx Z h' a c := ⟨F.1.keep K, F.2.keep K q⟩
theorem Bx.other {c : Int32} (F : Bx Z h a c) (W : Wr h h' b sl v) (q : a ≠ b) : Bx Z h' a c := ⟨F.1.wr W, F.2.other W (Or.inl q)⟩
/-- the Integer cache, as the set of statics says -/
def Cache (Z : State) (ca : Addr) (cc : Cell) : Prop := Sta Z Z.heap "java/lang/Integer$IntegerCache" "high" "I" (.int 127) ∧ Sta Z Z.heap "java/lang/Integer$IntegerCache" "cache" "[Ljava/lang/Integer;" (.ref ca) ∧ Bxs Z ca cc "java/lang/Integer" "I" 256 (fun j => .int (j - 128))
theorem cache_in {c : Int32} {cc : Cell} (hs : cc.slots.size = (256 : Int32).toNatClampNeg) (h1 : ¬ c < -128) (h2 : ¬ 127 < c) : ¬ (c + 128 < 0 ∨ cc.slots.size ≤ (c + 128).toNatClampNeg) := by
  rw [hs]
  rw [Int32.lt_iff_toInt_lt] at h1 h2
  have e1 : (-128 : Int32).toInt = -128 := rfl
  have e2 : (127 : Int32).toInt = 127 := rfl
  have e3 : (128 : Int32).toInt = 128 := rfl
  have q := c_iadd c 128
  have r := rng32 (c + 128)
  have e : (c + 128).toInt = c.toInt + 128 := by omega
  have e4 : (256 : Int32).toNatClampNeg = 256 := rfl
  have e5 : (0 : Int32).toInt = 0 := rfl
  rw [Int32.lt_iff_toInt_lt, e4]
  simp only [Int32.toNatClampNeg, e]
  omega
theorem cache_back (c : Int32) : c + 128 - 128 = c := by
  apply Int32.toBitVec_inj.mp
  simp
theorem sub_f {args : Array Value} {first s : State} {o : Option Outcome} {idx : List Nat} {a b : Term} {x y : Int32} (ha : a.eval args first o idx s = some (.int x)) (hb : b.eval args first o idx s = some (.int y)) : (Term.sub a b).eval args first o idx s = some (.int (x - y)) := by simp [Term.eval, ha, hb]
theorem cache_start {args : Array Value} (w1 : (Cond.laysStatic "java/lang/Integer$IntegerCache" "high" "I").before args Z = true) (w2 : (Cond.laysStatic "java/lang/Integer$IntegerCache" "cache" "[Ljava/lang/Integer;").before args Z = true) (wi : (Cond.initialized "java/lang/Integer$IntegerCache").before args Z = true)
    (h3 : (Cond.eq (.static "java/lang/Integer$IntegerCache" "high" "I") (.int 127)).before args Z = true) (h4 : (Cond.arrayOf (.static "java/lang/Integer$IntegerCache" "cache" "[Ljava/lang/Integer;") (.object "java/lang/Integer")).before args Z = true) (h6 : (Cond.eq (.length (.static "java/lang/Integer$IntegerCache" "cache" "[Ljava/lang/Integer;")) (.int 256)).before args Z = true)
    (h7 : (Cond.all (.static "java/lang/Integer$IntegerCache" "cache" "[Ljava/lang/Integer;") (.and (.exactly (.elem (.static "java/lang/Integer$IntegerCache" "cache" "[Ljava/lang/Integer;") (.index 0)) "java/lang/Integer") (.eq (.field (.elem (.static "java/lang/Integer$IntegerCache" "cache" "[Ljava/lang/Integer;") (.index 0)) "java/lang/Integer" "value" "I") (.sub (.index 0) (.int 128))))).before args Z = true) : ∃ ca cc, Cache Z ca cc := by
  have h3 := Cond.before_iff.mp h3
  have h4 := Cond.before_iff.mp h4
  have h6 := Cond.before_iff.mp h6
  have h7 := Cond.before_iff.mp h7
  obtain ⟨ca, ek⟩ := arr_v h4
  obtain ⟨cc, A⟩ := Arr.start ek h4
  obtain ⟨l1, l2⟩ := arr_len ek A h6
  refine ⟨ca, cc, Sta.start (eq_int_start h3) (Or.inr ⟨wi, w1⟩), Sta.start ek (Or.inr ⟨wi, w2⟩), Bxs.start (fun idx => ek) A l2 l1 (by decide) h7 (fun X j hj hv => ?_)⟩
  exact eqv_i (sub_f (idx_at hj) (Term.int_eval 128)) hv
end Facts2

end Jvm.Own

namespace Jvm.Pilot.@@N@@
open Jvm Jvm.ClassFile Sem Op Lib Jvm.Free Jvm.Stand Jvm.LawKit Jvm.RoadKit Bundle Jvm.Own Jvm.Pilot.@@N@@.Jvm.D
theorem d_prog_46_method_1_code_0 : decode prog_46_method_1_code 0 = .ok (.getstatic 61, 3) := by decide +kernel
theorem d_prog_46_method_1_code_3 : decode prog_46_method_1_code 3 = .ok (.invokevirtual 65, 3) := by decide +kernel
theorem d_prog_46_method_1_code_6 : decode prog_46_method_1_code 6 = .ok (.checkcast 66, 3) := by decide +kernel
theorem d_prog_46_method_1_code_9 : decode prog_46_method_1_code 9 = .ok (.areturn, 1) := by decide +kernel
theorem pn_com_example_attest_attest_JRE : plainName "com/example/attest/attest/JRE" = true := by first | (simp [plainName, overriddenIn]; done) | decide +kernel
theorem d_prog_46_method_8_code_0 : decode prog_46_method_8_code 0 = .ok (.aload_n 0, 1) := by decide +kernel
theorem d_prog_46_method_8_code_1 : decode prog_46_method_8_code 1 = .ok (.getfield 80, 3) := by decide +kernel
theorem d_prog_46_method_8_code_4 : decode prog_46_method_8_code 4 = .ok (.ireturn, 1) := by decide +kernel
theorem d_prog_46_method_10_code_0 : decode prog_46_method_10_code 0 = .ok (.aload_n 0, 1) := by decide +kernel
theorem d_prog_46_method_10_code_1 : decode prog_46_method_10_code 1 = .ok (.getstatic 58, 3) := by decide +kernel
theorem d_prog_46_method_10_code_4 : decode prog_46_method_10_code 4 = .ok (.if_acmp .ne 21, 3) := by decide +kernel
theorem d_prog_46_method_10_code_25 : decode prog_46_method_10_code 25 = .ok (.aload_n 0, 1) := by decide +kernel
theorem d_prog_46_method_10_code_26 : decode prog_46_method_10_code 26 = .ok (.getfield 80, 3) := by decide +kernel
theorem d_prog_46_method_10_code_29 : decode prog_46_method_10_code 29 = .ok (.ireturn, 1) := by decide +kernel
theorem d_prog_46_method_10_code_7 : decode prog_46_method_10_code 7 = .ok (.invokestatic 88, 3) := by decide +kernel
theorem pd____Lcom_example_attest_attest_JRE_ : parseMethodDescriptor "()[Lcom/example/attest/attest/JRE;" = some ⟨[], (some (.array (.object "com/example/attest/attest/JRE")))⟩ := by decide +kernel
theorem d_prog_46_method_10_code_10 : decode prog_46_method_10_code 10 = .ok (.invokestatic 88, 3) := by decide +kernel
theorem d_prog_46_method_10_code_13 : decode prog_46_method_10_code 13 = .ok (.arraylength, 1) := by decide +kernel
theorem d_prog_46_method_10_code_14 : decode prog_46_method_10_code 14 = .ok (.iconst 2, 1) := by decide +kernel
theorem d_prog_46_method_10_code_15 : decode prog_46_method_10_code 15 = .ok (.isub, 1) := by decide +kernel
theorem d_prog_46_method_10_code_16 : decode prog_46_method_10_code 16 = .ok (.aaload, 1) := by decide +kernel
theorem d_prog_46_method_10_code_17 : decode prog_46_method_10_code 17 = .ok (.getfield 80, 3) := by decide +kernel
theorem d_prog_46_method_10_code_20 : decode prog_46_method_10_code 20 = .ok (.iconst 1, 1) := by decide +kernel
theorem d_prog_46_method_10_code_21 : decode prog_46_method_10_code 21 = .ok (.iadd, 1) := by decide +kernel
theorem d_prog_46_method_10_code_22 : decode prog_46_method_10_code 22 = .ok (.goto 7, 3) := by decide +kernel
theorem pd___I : parseMethodDescriptor "()I" = some ⟨[], (some .int)⟩ := by decide +kernel
theorem pn_com_example_attest_attest_JRELowestVersionPinLaw : plainName "com/example/attest/attest/JRELowestVersionPinLaw" = true := by first | (simp [plainName, overriddenIn]; done) | decide +kernel
def Jre (Z : State) (n : String) (a : Addr) (i : Int32) : Prop := Sta Z Z.heap "com/example/attest/attest/JRE" n "Lcom/example/attest/attest/JRE;" (.ref a) ∧ Exa Z Z.heap a "com/example/attest/attest/JRE" ∧ Fld Z Z.heap a "com/example/attest/attest/JRE" "version" "I" (.int i)
def Vals (Z : State) (k : Addr) (cA : ClassId) (vs : List Value) : Prop := Sta Z Z.heap "com/example/attest/attest/JRE" "$VALUES" "[Lcom/example/attest/attest/JRE;" (.ref k) ∧ Exa Z Z.heap k "[Lcom/example/attest/attest/JRE;" ∧ Arv Z Z.heap k cA (.object "com/example/attest/attest/JRE") 19 vs .null
set_option maxRecDepth 65536 in
set_option maxHeartbeats 40000000 in
theorem c_values (l : Launch) (Z : State) (a0 : Array Value) (hw : ∀ d ∈ tables_1, d.before a0 Z = true) (h0 : Heap) (O : Old Z Z.heap.size h0) (k : Addr) (cA : ClassId) (vs : List Value) (F : Vals Z k cA vs) : Con l Z (⟨"com/example/attest/attest/JRE", "values", "()[Lcom/example/attest/attest/JRE;"⟩ : MethodName) prog_46_method_1_code 0 (some (.array (.object "com/example/attest/attest/JRE"))) ({ frames := 1, cells := 1, slots := 19, locals := 14 } : Room) #[] h0 (fun v h L => ∃ b, v = some (.ref b) ∧ Ext h0 h ∧ Arv Z h b cA (.object "com/example/attest/attest/JRE") 19 vs .null ∧ L = []) := by
  refine Con.of (plainFor_of_name pn_com_example_attest_attest_JRE) (Ls := #[]) (fun m => by first | (simp [entryFrame, mkF, argsToLocals, Value.category]; done) | rfl) (fun p e s m below meth cod T K X eT => ?_)
  refine s_getS K X d_prog_46_method_1_code_0 (hw _ (List.mem_of_getElem? (i := 59) rfl)) eT (F.1.ext O.2) (q := 3) rfl (fun T1 X1 e1 => ?_)
  refine s_clone K X1 (st := []) 0 19 d_prog_46_method_1_code_3 (hw _ (List.mem_of_getElem? (i := 61) rfl)) (hw _ (List.mem_of_getElem? (i := 62) rfl)) (hw _ (List.mem_of_getElem? (i := 66) rfl)) (hw _ (List.mem_of_getElem? (i := 64) rfl)) (hw _ (List.mem_of_getElem? (i := 65) rfl)) (hw _ (List.mem_of_getElem? (i := 67) rfl)) e1 (F.2.2.ext O.2) (F.2.1.ext O.2) rfl (by decide) (Nat.le_of_eq rfl) (by decide) (by decide) (by decide) (by decide) (q := 6) rfl (fun T2 h2 b2 g2 X2 e2 E2 V2 A2 => ?_)
  refine s_castY K X2 d_prog_46_method_1_code_6 (hw _ (List.mem_of_getElem? (i := 69) rfl)) e2 (Ins.self A2) (q := 9) rfl (fun T3 X3 e3 => ?_)
  exact s_retA K X3 d_prog_46_method_1_code_9 rfl rfl rfl e3 (by decide) (by decide) ⟨_, rfl, E2, V2, rfl⟩
set_option maxRecDepth 65536 in
set_option maxHeartbeats 40000000 in
theorem c_version (l : Launch) (Z : State) (a0 : Array Value) (hw : ∀ d ∈ tables_1, d.before a0 Z = true) (h0 : Heap) (O : Old Z Z.heap.size h0) (n : String) (a : Addr) (i : Int32) (F : Jre Z n a i) : Con l Z (⟨"com/example/attest/attest/JRE", "version", "()I"⟩ : MethodName) prog_46_method_8_code 1 (some .int) ({ frames := 0, cells := 0, slots := 0, locals := 0 } : Room) #[(.ref a)] h0 (fun v h L => v = some (.int i) ∧ h = h0 ∧ L = []) := by
  refine Con.of (plainFor_of_name pn_com_example_attest_attest_JRE) (Ls := #[.val (.ref a)]) (fun m => by first | (simp [entryFrame, mkF, argsToLocals, Value.category]; done) | rfl) (fun p e s m below meth cod T K X eT => ?_)
  refine s_aloadN K X d_prog_46_method_8_code_0 rfl rfl (q := 1) rfl ?_
  refine s_getF K X d_prog_46_method_8_code_1 (hw _ (List.mem_of_getElem? (i := 49) rfl)) eT (F.2.2.ext O.2) (q := 4) rfl (fun T4 X4 e4 => ?_)
  exact s_retI K X4 d_prog_46_method_8_code_4 rfl e4 (by decide) (by decide) ⟨rfl, rfl, rfl⟩
set_option maxRecDepth 65536 in
set_option maxHeartbeats 40000000 in
theorem c_low (l : Launch) (Z : State) (a0 : Array Value) (hw : ∀ d ∈ tables_1, d.before a0 Z = true) (h0 : Heap) (O : Old Z Z.heap.size h0) (n : String) (a o : Addr) (i j : Int32) (F : Jre Z n a i) (G : Jre Z "OTHER" o j) (ne : ¬ a = o) : Con l Z (⟨"com/example/attest/attest/JRE", "lowestVersion", "()I"⟩ : MethodName) prog_46_method_10_code 1 (some .int) ({ frames := 0, cells := 0, slots := 0, locals := 0 } : Room) #[(.ref a)] h0 (fun v h L => v = some (.int i) ∧ h = h0 ∧ L = []) := by
  refine Con.of (plainFor_of_name pn_com_example_attest_attest_JRE) (Ls := #[.val (.ref a)]) (fun m => by first | (simp [entryFrame, mkF, argsToLocals, Value.category]; done) | rfl) (fun p e s m below meth cod T K X eT => ?_)
  refine s_aloadN K X d_prog_46_method_10_code_0 rfl rfl (q := 1) rfl ?_
  refine s_getS K X d_prog_46_method_10_code_1 (hw _ (List.mem_of_getElem? (i := 48) rfl)) eT (G.1.ext O.2) (q := 4) rfl (fun T5 X5 e5 => ?_)
  refine s_acmp_ne K X5 d_prog_46_method_10_code_4 rfl rfl (by decide) (q := 25) rfl (q' := 7) rfl (fun _ => ?_) (fun h_ => absurd h_ (fun z => ne (Value.ref.inj z)))
  refine s_aloadN K X5 d_prog_46_method_10_code_25 rfl rfl (q := 26) rfl ?_
  refine s_getF K X5 d_prog_46_method_10_code_26 (hw _ (List.mem_of_getElem? (i := 49) rfl)) e5 (F.2.2.ext O.2) (q := 29) rfl (fun T6 X6 e6 => ?_)
  exact s_retI K X6 d_prog_46_method_10_code_29 rfl e6 (by decide) (by decide) ⟨rfl, rfl, rfl⟩
set_option maxRecDepth 65536 in
set_option maxHeartbeats 40000000 in
theorem c_lowO (l : Launch) (Z : State) (a0 : Array Value) (hw : ∀ d ∈ tables_1, d.before a0 Z = true) (h0 : Heap) (O : Old Z Z.heap.size h0) (o k a : Addr) (j : Int32) (cA : ClassId) (vs : List Value) (G : Jre Z "OTHER" o j) (F : Vals Z k cA vs) (H : Jre Z "JAVA_25" a 25) (hv : vs.getD ((19 : Int32) - 2).toNatClampNeg .null = .ref a) : Con l Z (⟨"com/example/attest/attest/JRE", "lowestVersion", "()I"⟩ : MethodName) prog_46_method_10_code 1 (some .int) ({ frames := 2, cells := 2, slots := 38, locals := 26 } : Room) #[(.ref o)] h0 (fun v h L => v = some (.int 26) ∧ L = []) := by
  refine Con.of (plainFor_of_name pn_com_example_attest_attest_JRE) (Ls := #[.val (.ref o)]) (fun m => by first | (simp [entryFrame, mkF, argsToLocals, Value.category]; done) | rfl) (fun p e s m below meth cod T K X eT => ?_)
  refine s_aloadN K X d_prog_46_method_10_code_0 rfl rfl (q := 1) rfl ?_
  refine s_getS K X d_prog_46_method_10_code_1 (hw _ (List.mem_of_getElem? (i := 48) rfl)) eT (G.1.ext O.2) (q := 4) rfl (fun T7 X7 e7 => ?_)
  refine s_acmp_ne K X7 d_prog_46_method_10_code_4 rfl rfl (by decide) (q := 25) rfl (q' := 7) rfl (fun h_ => absurd rfl h_) (fun _ => ?_)
  refine s_callS K X7 0 d_prog_46_method_10_code_7 (hw _ (List.mem_of_getElem? (i := 56) rfl)) (hw _ (List.mem_of_getElem? (i := 57) rfl)) (hw _ (List.mem_of_getElem? (i := 3) rfl)) (hw _ (List.mem_of_getElem? (i := 58) rfl)) (by decide) pd____Lcom_example_attest_attest_JRE_ rfl e7 (argsL := []) (st := []) (c_values l Z a0 hw _ O k cA vs F) rfl rfl (by decide) (Nat.le_of_eq rfl) (by decide) (by decide) (by decide) (q := 10) rfl (fun v8 T8 h8 L8 X8 e8 hQ8 => ?_)
  obtain ⟨b1, rfl, E8, V8, rfl⟩ := hQ8
  have D8 := O.ext E8
  refine s_callS K X8 1 d_prog_46_method_10_code_10 (hw _ (List.mem_of_getElem? (i := 56) rfl)) (hw _ (List.mem_of_getElem? (i := 57) rfl)) (hw _ (List.mem_of_getElem? (i := 3) rfl)) (hw _ (List.mem_of_getElem? (i := 58) rfl)) (by decide) pd____Lcom_example_attest_attest_JRE_ rfl e8 (argsL := []) (st := [(.ref b1)]) (c_values l Z a0 hw _ D8 k cA vs F) rfl rfl (by decide) (Nat.le_of_eq rfl) (by decide) (by decide) (by decide) (q := 13) rfl (fun v9 T9 h9 L9 X9 e9 hQ9 => ?_)
  obtain ⟨b2, rfl, E9, V9, rfl⟩ := hQ9
  have D9 := D8.ext E9
  refine s_lenV K X9 d_prog_46_method_10_code_13 e9 V9 (q := 14) rfl ?_
  refine s_iconst K X9 d_prog_46_method_10_code_14 (z := 2) rfl (q := 15) rfl ?_
  refine s_isub K X9 d_prog_46_method_10_code_15 (q := 16) rfl ?_
  refine s_ldV K X9 d_prog_46_method_10_code_16 e9 (V8.ext E9) rfl (by decide) hv (q := 17) rfl ?_
  refine s_getF K X9 d_prog_46_method_10_code_17 (hw _ (List.mem_of_getElem? (i := 49) rfl)) e9 (H.2.2.ext D9.2) (q := 20) rfl (fun T10 X10 e10 => ?_)
  refine s_iconst K X10 d_prog_46_method_10_code_20 (z := 1) rfl (q := 21) rfl ?_
  refine s_iadd K X10 d_prog_46_method_10_code_21 (q := 22) rfl ?_
  refine s_goto K X10 d_prog_46_method_10_code_22 (by decide) (q := 29) rfl ?_
  exact s_retI K X10 d_prog_46_method_10_code_29 rfl e10 (by decide) (by decide) ⟨rfl, rfl⟩
theorem own_r (p : Int32) : ∃ r : Int32, (p &&& (2147483647 : Int32)) % (19 : Int32) = r ∧ ¬ r < 0 ∧ (r < 18 ∨ r = 18) := by
  have h1 := (c_and p (2147483647 : Int32) (by decide)).1
  have h2 := (c_irem (p &&& (2147483647 : Int32)) 19 19 rfl).1 h1
  refine ⟨_, rfl, ?_⟩
  generalize (p &&& (2147483647 : Int32)) % 19 = r at *
  have e0 : (0 : Int32).toInt = 0 := rfl
  have e1 : (18 : Int32).toInt = 18 := rfl
  refine ⟨by rw [Int32.lt_iff_toInt_lt]; omega, ?_⟩
  by_cases q : r < 18
  · exact Or.inl q
  · rw [Int32.lt_iff_toInt_lt] at q
    exact Or.inr (Int32.toInt_inj.mp (by omega))
theorem own_lt19 {r : Int32} (h : r < 18) : r < 19 := by
  rw [Int32.lt_iff_toInt_lt] at h ⊢; have e1 : (18 : Int32).toInt = 18 := rfl; have e2 : (19 : Int32).toInt = 19 := rfl; omega
theorem own_pick {Z : State} {jj0 jj1 jj2 jj3 jj4 jj5 jj6 jj7 jj8 jj9 jj10 jj11 jj12 jj13 jj14 jj15 jj16 jj17 jj18 : Addr} (F0 : Jre Z "JAVA_8" jj0 8) (F1 : Jre Z "JAVA_9" jj1 9) (F2 : Jre Z "JAVA_10" jj2 10) (F3 : Jre Z "JAVA_11" jj3 11) (F4 : Jre Z "JAVA_12" jj4 12) (F5 : Jre Z "JAVA_13" jj5 13) (F6 : Jre Z "JAVA_14" jj6 14) (F7 : Jre Z "JAVA_15" jj7 15) (F8 : Jre Z "JAVA_16" jj8 16) (F9 : Jre Z "JAVA_17" jj9 17) (F10 : Jre Z "JAVA_18" jj10 18) (F11 : Jre Z "JAVA_19" jj11 19) (F12 : Jre Z "JAVA_20" jj12 20) (F13 : Jre Z "JAVA_21" jj13 21) (F14 : Jre Z "JAVA_22" jj14 22) (F15 : Jre Z "JAVA_23" jj15 23) (F16 : Jre Z "JAVA_24" jj16 24) (F17 : Jre Z "JAVA_25" jj17 25) (F18 : Jre Z "OTHER" jj18 2147483647) {r : Int32} (h0 : ¬ r < 0) (h1 : r < 18) : ∃ n a, ([.ref jj0, .ref jj1, .ref jj2, .ref jj3, .ref jj4, .ref jj5, .ref jj6, .ref jj7, .ref jj8, .ref jj9, .ref jj10, .ref jj11, .ref jj12, .ref jj13, .ref jj14, .ref jj15, .ref jj16, .ref jj17, .ref jj18] : List Value).getD r.toNatClampNeg .null = .ref a ∧ Jre Z n a (r + 8) ∧ ¬ a = jj18 := by
  have e0 : (0 : Int32).toInt = 0 := rfl
  have e1 : (18 : Int32).toInt = 18 := rfl
  rw [Int32.lt_iff_toInt_lt] at h0 h1
  have h2 : r.toInt = 0 ∨ r.toInt = 1 ∨ r.toInt = 2 ∨ r.toInt = 3 ∨ r.toInt = 4 ∨ r.toInt = 5 ∨ r.toInt = 6 ∨ r.toInt = 7 ∨ r.toInt = 8 ∨ r.toInt = 9 ∨ r.toInt = 10 ∨ r.toInt = 11 ∨ r.toInt = 12 ∨ r.toInt = 13 ∨ r.toInt = 14 ∨ r.toInt = 15 ∨ r.toInt = 16 ∨ r.toInt = 17 := by omega
  rcases h2 with h | h | h | h | h | h | h | h | h | h | h | h | h | h | h | h | h | h
  · obtain rfl : r = 0 := Int32.toInt_inj.mp h
    exact ⟨_, _, rfl, F0, fun z => Fld.ne F0.2.2 F18.2.2 (by decide) z⟩
  · obtain rfl : r = 1 := Int32.toInt_inj.mp h
    exact ⟨_, _, rfl, F1, fun z => Fld.ne F1.2.2 F18.2.2 (by decide) z⟩
  · obtain rfl : r = 2 := Int32.toInt_inj.mp h
    exact ⟨_, _, rfl, F2, fun z => Fld.ne F2.2.2 F18.2.2 (by decide) z⟩
  · obtain rfl : r = 3 := Int32.toInt_inj.mp h
    exact ⟨_, _, rfl, F3, fun z => Fld.ne F3.2.2 F18.2.2 (by decide) z⟩
  · obtain rfl : r = 4 := Int32.toInt_inj.mp h
    exact ⟨_, _, rfl, F4, fun z => Fld.ne F4.2.2 F18.2.2 (by decide) z⟩
  · obtain rfl : r = 5 := Int32.toInt_inj.mp h
    exact ⟨_, _, rfl, F5, fun z => Fld.ne F5.2.2 F18.2.2 (by decide) z⟩
  · obtain rfl : r = 6 := Int32.toInt_inj.mp h
    exact ⟨_, _, rfl, F6, fun z => Fld.ne F6.2.2 F18.2.2 (by decide) z⟩
  · obtain rfl : r = 7 := Int32.toInt_inj.mp h
    exact ⟨_, _, rfl, F7, fun z => Fld.ne F7.2.2 F18.2.2 (by decide) z⟩
  · obtain rfl : r = 8 := Int32.toInt_inj.mp h
    exact ⟨_, _, rfl, F8, fun z => Fld.ne F8.2.2 F18.2.2 (by decide) z⟩
  · obtain rfl : r = 9 := Int32.toInt_inj.mp h
    exact ⟨_, _, rfl, F9, fun z => Fld.ne F9.2.2 F18.2.2 (by decide) z⟩
  · obtain rfl : r = 10 := Int32.toInt_inj.mp h
    exact ⟨_, _, rfl, F10, fun z => Fld.ne F10.2.2 F18.2.2 (by decide) z⟩
  · obtain rfl : r = 11 := Int32.toInt_inj.mp h
    exact ⟨_, _, rfl, F11, fun z => Fld.ne F11.2.2 F18.2.2 (by decide) z⟩
  · obtain rfl : r = 12 := Int32.toInt_inj.mp h
    exact ⟨_, _, rfl, F12, fun z => Fld.ne F12.2.2 F18.2.2 (by decide) z⟩
  · obtain rfl : r = 13 := Int32.toInt_inj.mp h
    exact ⟨_, _, rfl, F13, fun z => Fld.ne F13.2.2 F18.2.2 (by decide) z⟩
  · obtain rfl : r = 14 := Int32.toInt_inj.mp h
    exact ⟨_, _, rfl, F14, fun z => Fld.ne F14.2.2 F18.2.2 (by decide) z⟩
  · obtain rfl : r = 15 := Int32.toInt_inj.mp h
    exact ⟨_, _, rfl, F15, fun z => Fld.ne F15.2.2 F18.2.2 (by decide) z⟩
  · obtain rfl : r = 16 := Int32.toInt_inj.mp h
    exact ⟨_, _, rfl, F16, fun z => Fld.ne F16.2.2 F18.2.2 (by decide) z⟩
  · obtain rfl : r = 17 := Int32.toInt_inj.mp h
    exact ⟨_, _, rfl, F17, fun z => Fld.ne F17.2.2 F18.2.2 (by decide) z⟩
set_option maxRecDepth 65536 in
set_option maxHeartbeats 40000000 in
theorem c_law (l : Launch) (Z : State) (a0 : Array Value) (hw : ∀ d ∈ tables_1, d.before a0 Z = true) (p1 : Int32) (jj0 jj1 jj2 jj3 jj4 jj5 jj6 jj7 jj8 jj9 jj10 jj11 jj12 jj13 jj14 jj15 jj16 jj17 jj18 k : Addr) (cA : ClassId) (F0 : Jre Z "JAVA_8" jj0 8) (F1 : Jre Z "JAVA_9" jj1 9) (F2 : Jre Z "JAVA_10" jj2 10) (F3 : Jre Z "JAVA_11" jj3 11) (F4 : Jre Z "JAVA_12" jj4 12) (F5 : Jre Z "JAVA_13" jj5 13) (F6 : Jre Z "JAVA_14" jj6 14) (F7 : Jre Z "JAVA_15" jj7 15) (F8 : Jre Z "JAVA_16" jj8 16) (F9 : Jre Z "JAVA_17" jj9 17) (F10 : Jre Z "JAVA_18" jj10 18) (F11 : Jre Z "JAVA_19" jj11 19) (F12 : Jre Z "JAVA_20" jj12 20) (F13 : Jre Z "JAVA_21" jj13 21) (F14 : Jre Z "JAVA_22" jj14 22) (F15 : Jre Z "JAVA_23" jj15 23) (F16 : Jre Z "JAVA_24" jj16 24) (F17 : Jre Z "JAVA_25" jj17 25) (F18 : Jre Z "OTHER" jj18 2147483647) (G : Vals Z k cA [.ref jj0, .ref jj1, .ref jj2, .ref jj3, .ref jj4, .ref jj5, .ref jj6, .ref jj7, .ref jj8, .ref jj9, .ref jj10, .ref jj11, .ref jj12, .ref jj13, .ref jj14, .ref jj15, .ref jj16, .ref jj17, .ref jj18]) : Con l Z x code maxLocals ret room_1 #[(.int p1)] Z.heap (fun v h L => v = some (.int 1) ∧ Fr Z.heap.size L) := by
  refine Con.of (plainFor_of_name pn_com_example_attest_attest_JRELowestVersionPinLaw) (Ls := #[.val (.int p1), .unset, .unset, .unset, .unset]) (fun m => by first | (simp [entryFrame, mkF, argsToLocals, Value.category, maxLocals]; done) | rfl) (fun p e s m below meth cod T K X eT => ?_)
  refine s_bipush K X at_0 (z := 19) rfl (q := 2) rfl ?_
  refine s_newV K X at_2 (hw _ (List.mem_of_getElem? (i := 0) rfl)) (hw _ (List.mem_of_getElem? (i := 1) rfl)) eT (by decide) 19 (by decide) (by decide) (by decide) (by decide) (vs := [.null, .null, .null, .null, .null, .null, .null, .null, .null, .null, .null, .null, .null, .null, .null, .null, .null, .null, .null]) rfl (q := 5) rfl (fun T11 h11 b11 k11 g11 X11 e11 E11 V11 O11 => ?_)
  have g0 : Z.heap.size ≤ b11 := by rw [g11]; exact Nat.le_refl _
  have D11 := (Old.start Z).ext E11
  refine s_dup K X11 at_5 rfl (q := 6) rfl ?_
  refine s_iconst K X11 at_6 (z := 0) rfl (q := 7) rfl ?_
  refine s_getS K X11 at_7 (hw _ (List.mem_of_getElem? (i := 2) rfl)) e11 (F0.1.ext D11.2) (q := 10) rfl (fun T12 X12 e12 => ?_)
  refine s_stV K X12 at_10 e12 V11 O11 (by decide) rfl (fun y hy => by cases hy; exact Ins.self (F0.2.1.ext D11.2)) 0 rfl (Nat.le_of_ble_eq_true rfl) (vs' := [(.ref jj0), .null, .null, .null, .null, .null, .null, .null, .null, .null, .null, .null, .null, .null, .null, .null, .null, .null, .null]) rfl (q := 11) rfl (fun T13 h13 X13 e13 W13 V13 => ?_)
  have D13 := D11.wr W13 g0
  have N13 := Fr.snoc X13 (Fr.nil _) g0
  refine s_dup K X13 at_11 rfl (q := 12) rfl ?_
  refine s_iconst K X13 at_12 (z := 1) rfl (q := 13) rfl ?_
  refine s_getS K X13 at_13 (hw _ (List.mem_of_getElem? (i := 6) rfl)) e13 (F1.1.ext D13.2) (q := 16) rfl (fun T14 X14 e14 => ?_)
  refine s_stV K X14 at_16 e14 V13 O11 (by decide) rfl (fun y hy => by cases hy; exact Ins.self (F1.2.1.ext D13.2)) 1 rfl (Nat.le_of_ble_eq_true rfl) (vs' := [(.ref jj0), (.ref jj1), .null, .null, .null, .null, .null, .null, .null, .null, .null, .null, .null, .null, .null, .null, .null, .null, .null]) rfl (q := 17) rfl (fun T15 h15 X15 e15 W15 V15 => ?_)
  have D15 := D13.wr W15 g0
  have N15 := Fr.snoc X15 N13 g0
  refine s_dup K X15 at_17 rfl (q := 18) rfl ?_
  refine s_iconst K X15 at_18 (z := 2) rfl (q := 19) rfl ?_
  refine s_getS K X15 at_19 (hw _ (List.mem_of_getElem? (i := 8) rfl)) e15 (F2.1.ext D15.2) (q := 22) rfl (fun T16 X16 e16 => ?_)
  refine s_stV K X16 at_22 e16 V15 O11 (by decide) rfl (fun y hy => by cases hy; exact Ins.self (F2.2.1.ext D15.2)) 2 rfl (Nat.le_of_ble_eq_true rfl) (vs' := [(.ref jj0), (.ref jj1), (.ref jj2), .null, .null, .null, .null, .null, .null, .null, .null, .null, .null, .null, .null, .null, .null, .null, .null]) rfl (q := 23) rfl (fun T17 h17 X17 e17 W17 V17 => ?_)
  have D17 := D15.wr W17 g0
  have N17 := Fr.snoc X17 N15 g0
  refine s_dup K X17 at_23 rfl (q := 24) rfl ?_
  refine s_iconst K X17 at_24 (z := 3) rfl (q := 25) rfl ?_
  refine s_getS K X17 at_25 (hw _ (List.mem_of_getElem? (i := 10) rfl)) e17 (F3.1.ext D17.2) (q := 28) rfl (fun T18 X18 e18 => ?_)
  refine s_stV K X18 at_28 e18 V17 O11 (by decide) rfl (fun y hy => by cases hy; exact Ins.self (F3.2.1.ext D17.2)) 3 rfl (Nat.le_of_ble_eq_true rfl) (vs' := [(.ref jj0), (.ref jj1), (.ref jj2), (.ref jj3), .null, .null, .null, .null, .null, .null, .null, .null, .null, .null, .null, .null, .null, .null, .null]) rfl (q := 29) rfl (fun T19 h19 X19 e19 W19 V19 => ?_)
  have D19 := D17.wr W19 g0
  have N19 := Fr.snoc X19 N17 g0
  refine s_dup K X19 at_29 rfl (q := 30) rfl ?_
  refine s_iconst K X19 at_30 (z := 4) rfl (q := 31) rfl ?_
  refine s_getS K X19 at_31 (hw _ (List.mem_of_getElem? (i := 12) rfl)) e19 (F4.1.ext D19.2) (q := 34) rfl (fun T20 X20 e20 => ?_)
  refine s_stV K X20 at_34 e20 V19 O11 (by decide) rfl (fun y hy => by cases hy; exact Ins.self (F4.2.1.ext D19.2)) 4 rfl (Nat.le_of_ble_eq_true rfl) (vs' := [(.ref jj0), (.ref jj1), (.ref jj2), (.ref jj3), (.ref jj4), .null, .null, .null, .null, .null, .null, .null, .null, .null, .null, .null, .null, .null, .null]) rfl (q := 35) rfl (fun T21 h21 X21 e21 W21 V21 => ?_)
  have D21 := D19.wr W21 g0
  have N21 := Fr.snoc X21 N19 g0
  refine s_dup K X21 at_35 rfl (q := 36) rfl ?_
  refine s_iconst K X21 at_36 (z := 5) rfl (q := 37) rfl ?_
  refine s_getS K X21 at_37 (hw _ (List.mem_of_getElem? (i := 14) rfl)) e21 (F5.1.ext D21.2) (q := 40) rfl (fun T22 X22 e22 => ?_)
  refine s_stV K X22 at_40 e22 V21 O11 (by decide) rfl (fun y hy => by cases hy; exact Ins.self (F5.2.1.ext D21.2)) 5 rfl (Nat.le_of_ble_eq_true rfl) (vs' := [(.ref jj0), (.ref jj1), (.ref jj2), (.ref jj3), (.ref jj4), (.ref jj5), .null, .null, .null, .null, .null, .null, .null, .null, .null, .null, .null, .null, .null]) rfl (q := 41) rfl (fun T23 h23 X23 e23 W23 V23 => ?_)
  have D23 := D21.wr W23 g0
  have N23 := Fr.snoc X23 N21 g0
  refine s_dup K X23 at_41 rfl (q := 42) rfl ?_
  refine s_bipush K X23 at_42 (z := 6) rfl (q := 44) rfl ?_
  refine s_getS K X23 at_44 (hw _ (List.mem_of_getElem? (i := 16) rfl)) e23 (F6.1.ext D23.2) (q := 47) rfl (fun T24 X24 e24 => ?_)
  refine s_stV K X24 at_47 e24 V23 O11 (by decide) rfl (fun y hy => by cases hy; exact Ins.self (F6.2.1.ext D23.2)) 6 rfl (Nat.le_of_ble_eq_true rfl) (vs' := [(.ref jj0), (.ref jj1), (.ref jj2), (.ref jj3), (.ref jj4), (.ref jj5), (.ref jj6), .null, .null, .null, .null, .null, .null, .null, .null, .null, .null, .null, .null]) rfl (q := 48) rfl (fun T25 h25 X25 e25 W25 V25 => ?_)
  have D25 := D23.wr W25 g0
  have N25 := Fr.snoc X25 N23 g0
  refine s_dup K X25 at_48 rfl (q := 49) rfl ?_
  refine s_bipush K X25 at_49 (z := 7) rfl (q := 51) rfl ?_
  refine s_getS K X25 at_51 (hw _ (List.mem_of_getElem? (i := 18) rfl)) e25 (F7.1.ext D25.2) (q := 54) rfl (fun T26 X26 e26 => ?_)
  refine s_stV K X26 at_54 e26 V25 O11 (by decide) rfl (fun y hy => by cases hy; exact Ins.self (F7.2.1.ext D25.2)) 7 rfl (Nat.le_of_ble_eq_true rfl) (vs' := [(.ref jj0), (.ref jj1), (.ref jj2), (.ref jj3), (.ref jj4), (.ref jj5), (.ref jj6), (.ref jj7), .null, .null, .null, .null, .null, .null, .null, .null, .null, .null, .null]) rfl (q := 55) rfl (fun T27 h27 X27 e27 W27 V27 => ?_)
  have D27 := D25.wr W27 g0
  have N27 := Fr.snoc X27 N25 g0
  refine s_dup K X27 at_55 rfl (q := 56) rfl ?_
  refine s_bipush K X27 at_56 (z := 8) rfl (q := 58) rfl ?_
  refine s_getS K X27 at_58 (hw _ (List.mem_of_getElem? (i := 20) rfl)) e27 (F8.1.ext D27.2) (q := 61) rfl (fun T28 X28 e28 => ?_)
  refine s_stV K X28 at_61 e28 V27 O11 (by decide) rfl (fun y hy => by cases hy; exact Ins.self (F8.2.1.ext D27.2)) 8 rfl (Nat.le_of_ble_eq_true rfl) (vs' := [(.ref jj0), (.ref jj1), (.ref jj2), (.ref jj3), (.ref jj4), (.ref jj5), (.ref jj6), (.ref jj7), (.ref jj8), .null, .null, .null, .null, .null, .null, .null, .null, .null, .null]) rfl (q := 62) rfl (fun T29 h29 X29 e29 W29 V29 => ?_)
  have D29 := D27.wr W29 g0
  have N29 := Fr.snoc X29 N27 g0
  refine s_dup K X29 at_62 rfl (q := 63) rfl ?_
  refine s_bipush K X29 at_63 (z := 9) rfl (q := 65) rfl ?_
  refine s_getS K X29 at_65 (hw _ (List.mem_of_getElem? (i := 22) rfl)) e29 (F9.1.ext D29.2) (q := 68) rfl (fun T30 X30 e30 => ?_)
  refine s_stV K X30 at_68 e30 V29 O11 (by decide) rfl (fun y hy => by cases hy; exact Ins.self (F9.2.1.ext D29.2)) 9 rfl (Nat.le_of_ble_eq_true rfl) (vs' := [(.ref jj0), (.ref jj1), (.ref jj2), (.ref jj3), (.ref jj4), (.ref jj5), (.ref jj6), (.ref jj7), (.ref jj8), (.ref jj9), .null, .null, .null, .null, .null, .null, .null, .null, .null]) rfl (q := 69) rfl (fun T31 h31 X31 e31 W31 V31 => ?_)
  have D31 := D29.wr W31 g0
  have N31 := Fr.snoc X31 N29 g0
  refine s_dup K X31 at_69 rfl (q := 70) rfl ?_
  refine s_bipush K X31 at_70 (z := 10) rfl (q := 72) rfl ?_
  refine s_getS K X31 at_72 (hw _ (List.mem_of_getElem? (i := 24) rfl)) e31 (F10.1.ext D31.2) (q := 75) rfl (fun T32 X32 e32 => ?_)
  refine s_stV K X32 at_75 e32 V31 O11 (by decide) rfl (fun y hy => by cases hy; exact Ins.self (F10.2.1.ext D31.2)) 10 rfl (Nat.le_of_ble_eq_true rfl) (vs' := [(.ref jj0), (.ref jj1), (.ref jj2), (.ref jj3), (.ref jj4), (.ref jj5), (.ref jj6), (.ref jj7), (.ref jj8), (.ref jj9), (.ref jj10), .null, .null, .null, .null, .null, .null, .null, .null]) rfl (q := 76) rfl (fun T33 h33 X33 e33 W33 V33 => ?_)
  have D33 := D31.wr W33 g0
  have N33 := Fr.snoc X33 N31 g0
  refine s_dup K X33 at_76 rfl (q := 77) rfl ?_
  refine s_bipush K X33 at_77 (z := 11) rfl (q := 79) rfl ?_
  refine s_getS K X33 at_79 (hw _ (List.mem_of_getElem? (i := 26) rfl)) e33 (F11.1.ext D33.2) (q := 82) rfl (fun T34 X34 e34 => ?_)
  refine s_stV K X34 at_82 e34 V33 O11 (by decide) rfl (fun y hy => by cases hy; exact Ins.self (F11.2.1.ext D33.2)) 11 rfl (Nat.le_of_ble_eq_true rfl) (vs' := [(.ref jj0), (.ref jj1), (.ref jj2), (.ref jj3), (.ref jj4), (.ref jj5), (.ref jj6), (.ref jj7), (.ref jj8), (.ref jj9), (.ref jj10), (.ref jj11), .null, .null, .null, .null, .null, .null, .null]) rfl (q := 83) rfl (fun T35 h35 X35 e35 W35 V35 => ?_)
  have D35 := D33.wr W35 g0
  have N35 := Fr.snoc X35 N33 g0
  refine s_dup K X35 at_83 rfl (q := 84) rfl ?_
  refine s_bipush K X35 at_84 (z := 12) rfl (q := 86) rfl ?_
  refine s_getS K X35 at_86 (hw _ (List.mem_of_getElem? (i := 28) rfl)) e35 (F12.1.ext D35.2) (q := 89) rfl (fun T36 X36 e36 => ?_)
  refine s_stV K X36 at_89 e36 V35 O11 (by decide) rfl (fun y hy => by cases hy; exact Ins.self (F12.2.1.ext D35.2)) 12 rfl (Nat.le_of_ble_eq_true rfl) (vs' := [(.ref jj0), (.ref jj1), (.ref jj2), (.ref jj3), (.ref jj4), (.ref jj5), (.ref jj6), (.ref jj7), (.ref jj8), (.ref jj9), (.ref jj10), (.ref jj11), (.ref jj12), .null, .null, .null, .null, .null, .null]) rfl (q := 90) rfl (fun T37 h37 X37 e37 W37 V37 => ?_)
  have D37 := D35.wr W37 g0
  have N37 := Fr.snoc X37 N35 g0
  refine s_dup K X37 at_90 rfl (q := 91) rfl ?_
  refine s_bipush K X37 at_91 (z := 13) rfl (q := 93) rfl ?_
  refine s_getS K X37 at_93 (hw _ (List.mem_of_getElem? (i := 30) rfl)) e37 (F13.1.ext D37.2) (q := 96) rfl (fun T38 X38 e38 => ?_)
  refine s_stV K X38 at_96 e38 V37 O11 (by decide) rfl (fun y hy => by cases hy; exact Ins.self (F13.2.1.ext D37.2)) 13 rfl (Nat.le_of_ble_eq_true rfl) (vs' := [(.ref jj0), (.ref jj1), (.ref jj2), (.ref jj3), (.ref jj4), (.ref jj5), (.ref jj6), (.ref jj7), (.ref jj8), (.ref jj9), (.ref jj10), (.ref jj11), (.ref jj12), (.ref jj13), .null, .null, .null, .null, .null]) rfl (q := 97) rfl (fun T39 h39 X39 e39 W39 V39 => ?_)
  have D39 := D37.wr W39 g0
  have N39 := Fr.snoc X39 N37 g0
  refine s_dup K X39 at_97 rfl (q := 98) rfl ?_
  refine s_bipush K X39 at_98 (z := 14) rfl (q := 100) rfl ?_
  refine s_getS K X39 at_100 (hw _ (List.mem_of_getElem? (i := 32) rfl)) e39 (F14.1.ext D39.2) (q := 103) rfl (fun T40 X40 e40 => ?_)
  refine s_stV K X40 at_103 e40 V39 O11 (by decide) rfl (fun y hy => by cases hy; exact Ins.self (F14.2.1.ext D39.2)) 14 rfl (Nat.le_of_ble_eq_true rfl) (vs' := [(.ref jj0), (.ref jj1), (.ref jj2), (.ref jj3), (.ref jj4), (.ref jj5), (.ref jj6), (.ref jj7), (.ref jj8), (.ref jj9), (.ref jj10), (.ref jj11), (.ref jj12), (.ref jj13), (.ref jj14), .null, .null, .null, .null]) rfl (q := 104) rfl (fun T41 h41 X41 e41 W41 V41 => ?_)
  have D41 := D39.wr W41 g0
  have N41 := Fr.snoc X41 N39 g0
  refine s_dup K X41 at_104 rfl (q := 105) rfl ?_
  refine s_bipush K X41 at_105 (z := 15) rfl (q := 107) rfl ?_
  refine s_getS K X41 at_107 (hw _ (List.mem_of_getElem? (i := 34) rfl)) e41 (F15.1.ext D41.2) (q := 110) rfl (fun T42 X42 e42 => ?_)
  refine s_stV K X42 at_110 e42 V41 O11 (by decide) rfl (fun y hy => by cases hy; exact Ins.self (F15.2.1.ext D41.2)) 15 rfl (Nat.le_of_ble_eq_true rfl) (vs' := [(.ref jj0), (.ref jj1), (.ref jj2), (.ref jj3), (.ref jj4), (.ref jj5), (.ref jj6), (.ref jj7), (.ref jj8), (.ref jj9), (.ref jj10), (.ref jj11), (.ref jj12), (.ref jj13), (.ref jj14), (.ref jj15), .null, .null, .null]) rfl (q := 111) rfl (fun T43 h43 X43 e43 W43 V43 => ?_)
  have D43 := D41.wr W43 g0
  have N43 := Fr.snoc X43 N41 g0
  refine s_dup K X43 at_111 rfl (q := 112) rfl ?_
  refine s_bipush K X43 at_112 (z := 16) rfl (q := 114) rfl ?_
  refine s_getS K X43 at_114 (hw _ (List.mem_of_getElem? (i := 36) rfl)) e43 (F16.1.ext D43.2) (q := 117) rfl (fun T44 X44 e44 => ?_)
  refine s_stV K X44 at_117 e44 V43 O11 (by decide) rfl (fun y hy => by cases hy; exact Ins.self (F16.2.1.ext D43.2)) 16 rfl (Nat.le_of_ble_eq_true rfl) (vs' := [(.ref jj0), (.ref jj1), (.ref jj2), (.ref jj3), (.ref jj4), (.ref jj5), (.ref jj6), (.ref jj7), (.ref jj8), (.ref jj9), (.ref jj10), (.ref jj11), (.ref jj12), (.ref jj13), (.ref jj14), (.ref jj15), (.ref jj16), .null, .null]) rfl (q := 118) rfl (fun T45 h45 X45 e45 W45 V45 => ?_)
  have D45 := D43.wr W45 g0
  have N45 := Fr.snoc X45 N43 g0
  refine s_dup K X45 at_118 rfl (q := 119) rfl ?_
  refine s_bipush K X45 at_119 (z := 17) rfl (q := 121) rfl ?_
  refine s_getS K X45 at_121 (hw _ (List.mem_of_getElem? (i := 38) rfl)) e45 (F17.1.ext D45.2) (q := 124) rfl (fun T46 X46 e46 => ?_)
  refine s_stV K X46 at_124 e46 V45 O11 (by decide) rfl (fun y hy => by cases hy; exact Ins.self (F17.2.1.ext D45.2)) 17 rfl (Nat.le_of_ble_eq_true rfl) (vs' := [(.ref jj0), (.ref jj1), (.ref jj2), (.ref jj3), (.ref jj4), (.ref jj5), (.ref jj6), (.ref jj7), (.ref jj8), (.ref jj9), (.ref jj10), (.ref jj11), (.ref jj12), (.ref jj13), (.ref jj14), (.ref jj15), (.ref jj16), (.ref jj17), .null]) rfl (q := 125) rfl (fun T47 h47 X47 e47 W47 V47 => ?_)
  have D47 := D45.wr W47 g0
  have N47 := Fr.snoc X47 N45 g0
  refine s_dup K X47 at_125 rfl (q := 126) rfl ?_
  refine s_bipush K X47 at_126 (z := 18) rfl (q := 128) rfl ?_
  refine s_getS K X47 at_128 (hw _ (List.mem_of_getElem? (i := 40) rfl)) e47 (F18.1.ext D47.2) (q := 131) rfl (fun T48 X48 e48 => ?_)
  refine s_stV K X48 at_131 e48 V47 O11 (by decide) rfl (fun y hy => by cases hy; exact Ins.self (F18.2.1.ext D47.2)) 18 rfl (Nat.le_of_ble_eq_true rfl) (vs' := [(.ref jj0), (.ref jj1), (.ref jj2), (.ref jj3), (.ref jj4), (.ref jj5), (.ref jj6), (.ref jj7), (.ref jj8), (.ref jj9), (.ref jj10), (.ref jj11), (.ref jj12), (.ref jj13), (.ref jj14), (.ref jj15), (.ref jj16), (.ref jj17), (.ref jj18)]) rfl (q := 132) rfl (fun T49 h49 X49 e49 W49 V49 => ?_)
  have D49 := D47.wr W49 g0
  have N49 := Fr.snoc X49 N47 g0
  refine s_astoreN K X49 at_132 rfl (l' := #[.val (.int p1), .val (.ref b11), .unset, .unset, .unset]) rfl (q := 133) rfl ?_
  refine s_iloadN K X49 at_133 rfl (q := 134) rfl ?_
  refine s_ldcI K X49 at_134 (hw _ (List.mem_of_getElem? (i := 42) rfl)) (q := 136) rfl ?_
  refine s_iand K X49 at_136 (q := 137) rfl ?_
  refine s_bipush K X49 at_137 (z := 19) rfl (q := 139) rfl ?_
  refine s_irem K X49 at_139 (by decide) (q := 140) rfl ?_
  obtain ⟨r, hr, r0, r1⟩ := own_r p1
  rw [hr]
  rcases r1 with r1 | rfl
  ·
    refine s_istoreN K X49 at_140 (l' := #[.val (.int p1), .val (.ref b11), .val (.int r), .unset, .unset]) rfl (q := 141) rfl ?_
    refine s_aloadN K X49 at_141 rfl rfl (q := 142) rfl ?_
    refine s_iloadN K X49 at_142 rfl (q := 143) rfl ?_
    obtain ⟨nn, ar, hv, J, ne⟩ := own_pick (Z := Z) F0 F1 F2 F3 F4 F5 F6 F7 F8 F9 F10 F11 F12 F13 F14 F15 F16 F17 F18 r0 r1
    refine s_ldV K X49 at_143 e49 V49 rfl ⟨r0, own_lt19 r1⟩ hv (q := 144) rfl ?_
    refine s_astoreN K X49 at_144 rfl (l' := #[.val (.int p1), .val (.ref b11), .val (.int r), .val (.ref ar), .unset]) rfl (q := 145) rfl ?_
    refine s_aloadN K X49 at_145 rfl rfl (q := 146) rfl ?_
    refine s_callV K X49 0 (y := (⟨"com/example/attest/attest/JRE", "lowestVersion", "()I"⟩ : MethodName)) (z := (⟨"com/example/attest/attest/JRE", "lowestVersion", "()I"⟩ : MethodName)) at_146 (hw _ (List.mem_of_getElem? (i := 43) rfl)) (hw _ (List.mem_of_getElem? (i := 44) rfl)) (notFace_of_selects (args := #[]) (mvT K.hZ (hw _ (List.mem_of_getElem? (i := 46) rfl)))) (hw _ (List.mem_of_getElem? (i := 46) rfl)) (hw _ (List.mem_of_getElem? (i := 45) rfl)) (hw _ (List.mem_of_getElem? (i := 3) rfl)) (hw _ (List.mem_of_getElem? (i := 47) rfl)) (by decide) pd___I rfl e49 (J.2.1.ext D49.2) (argsL := []) (st := []) (c_low l Z a0 hw _ D49 nn ar jj18 (r + 8) _ J F18 ne) rfl rfl (by decide) (Nat.le_of_eq rfl) (by decide) (by decide) (by decide) (q := 149) rfl (fun v50 T50 h50 L50 X50 e50 hQ50 => ?_)
    obtain ⟨rfl, rfl, rfl⟩ := hQ50
    refine s_istore K X50 at_149 (l' := #[.val (.int p1), .val (.ref b11), .val (.int r), .val (.ref ar), .val (.int (r + (8 : Int32)))]) rfl (q := 151) rfl ?_
    refine s_iloadN K X50 at_151 rfl (q := 152) rfl ?_
    refine s_bipush K X50 at_152 (z := 18) rfl (q := 154) rfl ?_
    refine s_icmp_ge K X50 at_154 (by decide) (q := 181) rfl (q' := 157) rfl (fun h_ => absurd r1 h_) (fun _ => ?_)
    refine s_iload K X50 at_157 rfl (q := 159) rfl ?_
    refine s_iloadN K X50 at_159 rfl (q := 160) rfl ?_
    refine s_bipush K X50 at_160 (z := 8) rfl (q := 162) rfl ?_
    refine s_iadd K X50 at_162 (q := 163) rfl ?_
    refine s_icmp_ne K X50 at_163 (by decide) (q := 179) rfl (q' := 166) rfl (fun h_ => absurd rfl h_) (fun _ => ?_)
    refine s_iload K X50 at_166 rfl (q := 168) rfl ?_
    refine s_aloadN K X50 at_168 rfl rfl (q := 169) rfl ?_
    refine s_callV K X50 1 (y := (⟨"com/example/attest/attest/JRE", "version", "()I"⟩ : MethodName)) (z := (⟨"com/example/attest/attest/JRE", "version", "()I"⟩ : MethodName)) at_169 (hw _ (List.mem_of_getElem? (i := 51) rfl)) (hw _ (List.mem_of_getElem? (i := 52) rfl)) (notFace_of_selects (args := #[]) (mvT K.hZ (hw _ (List.mem_of_getElem? (i := 54) rfl)))) (hw _ (List.mem_of_getElem? (i := 54) rfl)) (hw _ (List.mem_of_getElem? (i := 53) rfl)) (hw _ (List.mem_of_getElem? (i := 3) rfl)) (hw _ (List.mem_of_getElem? (i := 55) rfl)) (by decide) pd___I rfl e50 (J.2.1.ext D49.2) (argsL := []) (st := [(.int (r + (8 : Int32)))]) (c_version l Z a0 hw _ D49 nn ar (r + 8) J) rfl rfl (by decide) (Nat.le_of_eq rfl) (by decide) (by decide) (by decide) (q := 172) rfl (fun v51 T51 h51 L51 X51 e51 hQ51 => ?_)
    obtain ⟨rfl, rfl, rfl⟩ := hQ51
    refine s_icmp_ne K X51 at_172 (by decide) (q := 179) rfl (q' := 175) rfl (fun h_ => absurd rfl h_) (fun _ => ?_)
    refine s_iconst K X51 at_175 (z := 1) rfl (q := 176) rfl ?_
    refine s_goto K X51 at_176 (by decide) (q := 180) rfl ?_
    exact s_retZ K X51 at_180 rfl (by decide) e51 (by decide) (by decide) ⟨rfl, (N49.app (Fr.nil _)).app (Fr.nil _)⟩
  ·
    refine s_istoreN K X49 at_140 (l' := #[.val (.int p1), .val (.ref b11), .val (.int (18 : Int32)), .unset, .unset]) rfl (q := 141) rfl ?_
    refine s_aloadN K X49 at_141 rfl rfl (q := 142) rfl ?_
    refine s_iloadN K X49 at_142 rfl (q := 143) rfl ?_
    refine s_ldV K X49 at_143 e49 V49 rfl (by decide) rfl (q := 144) rfl ?_
    refine s_astoreN K X49 at_144 rfl (l' := #[.val (.int p1), .val (.ref b11), .val (.int (18 : Int32)), .val (.ref jj18), .unset]) rfl (q := 145) rfl ?_
    refine s_aloadN K X49 at_145 rfl rfl (q := 146) rfl ?_
    refine s_callV K X49 0 (y := (⟨"com/example/attest/attest/JRE", "lowestVersion", "()I"⟩ : MethodName)) (z := (⟨"com/example/attest/attest/JRE", "lowestVersion", "()I"⟩ : MethodName)) at_146 (hw _ (List.mem_of_getElem? (i := 43) rfl)) (hw _ (List.mem_of_getElem? (i := 44) rfl)) (notFace_of_selects (args := #[]) (mvT K.hZ (hw _ (List.mem_of_getElem? (i := 46) rfl)))) (hw _ (List.mem_of_getElem? (i := 46) rfl)) (hw _ (List.mem_of_getElem? (i := 45) rfl)) (hw _ (List.mem_of_getElem? (i := 3) rfl)) (hw _ (List.mem_of_getElem? (i := 47) rfl)) (by decide) pd___I rfl e49 (F18.2.1.ext D49.2) (argsL := []) (st := []) (c_lowO l Z a0 hw _ D49 jj18 k jj17 _ cA [.ref jj0, .ref jj1, .ref jj2, .ref jj3, .ref jj4, .ref jj5, .ref jj6, .ref jj7, .ref jj8, .ref jj9, .ref jj10, .ref jj11, .ref jj12, .ref jj13, .ref jj14, .ref jj15, .ref jj16, .ref jj17, .ref jj18] F18 G F17 rfl) rfl rfl (by decide) (Nat.le_of_eq rfl) (by decide) (by decide) (by decide) (q := 149) rfl (fun v52 T52 h52 L52 X52 e52 hQ52 => ?_)
    obtain ⟨rfl, rfl⟩ := hQ52
    refine s_istore K X52 at_149 (l' := #[.val (.int p1), .val (.ref b11), .val (.int (18 : Int32)), .val (.ref jj18), .val (.int (26 : Int32))]) rfl (q := 151) rfl ?_
    refine s_iloadN K X52 at_151 rfl (q := 152) rfl ?_
    refine s_bipush K X52 at_152 (z := 18) rfl (q := 154) rfl ?_
    refine s_icmp_ge K X52 at_154 (by decide) (q := 181) rfl (q' := 157) rfl (fun _ => ?_) (fun h_ => absurd h_ (by decide))
    refine s_iload K X52 at_181 rfl (q := 183) rfl ?_
    refine s_bipush K X52 at_183 (z := 26) rfl (q := 185) rfl ?_
    refine s_icmp_ne K X52 at_185 (by decide) (q := 192) rfl (q' := 188) rfl (fun h_ => absurd h_ (by decide)) (fun _ => ?_)
    refine s_iconst K X52 at_188 (z := 1) rfl (q := 189) rfl ?_
    refine s_goto K X52 at_189 (by decide) (q := 193) rfl ?_
    exact s_retZ K X52 at_193 rfl (by decide) e52 (by decide) (by decide) ⟨rfl, N49.app (Fr.nil _)⟩
theorem own_jre {s : State} {args : Array Value} {n : String} {i : Int32} (w1 : (Cond.initialized "com/example/attest/attest/JRE").before args s = true) (w2 : (Cond.laysStatic "com/example/attest/attest/JRE" n "Lcom/example/attest/attest/JRE;").before args s = true) (h1 : (Cond.exactly (Term.static "com/example/attest/attest/JRE" n "Lcom/example/attest/attest/JRE;") "com/example/attest/attest/JRE").value args s none s [] = some true) (h2 : (Cond.eq (Term.field (Term.static "com/example/attest/attest/JRE" n "Lcom/example/attest/attest/JRE;") "com/example/attest/attest/JRE" "version" "I") (Term.int i)).value args s none s [] = some true) : ∃ a, (Term.static "com/example/attest/attest/JRE" n "Lcom/example/attest/attest/JRE;").eval args s none [] s = some (.ref a) ∧ Jre s n a i := by
  obtain ⟨a, ha⟩ := exa_v h1
  exact ⟨a, ha, Sta.start ha (Or.inr ⟨w1, w2⟩), Exa.start ha h1, fld_start_i ha h2⟩
set_option maxRecDepth 65536 in
set_option maxHeartbeats 40000000 in
theorem comes_1 {Post : Tables → Env → Array Value → State → Outcome → State → Prop} (hpost : ∀ tb e args s v u, (limb_1_1.after args s (.returned v) u = true ∧ limb_1_2.after args s (.returned v) u = true ∧ True) → FrameEnd s (.returned v) u (Jvm.fieldLocs frame_1_writes args s ++ Jvm.arrayLocs frame_1_arrays args s ++ Jvm.staticLocs frame_1_statics s) 16 192 → Post tb e args s (.returned v) u) :
    ArmFor flags0 classFile x code maxLocals ret World_1 tables_1 room_1 Calls_1 rest_1 Pre_1 Post := by
  intro l hfl _ _ p e ha hc hk s m args below hf hA hF happ hP
  obtain ⟨hcalls, hrest, hpre⟩ := hP
  obtain ⟨-, -, -, hnamed, -, -, -, hat⟩ := (Spec.applies_iff hf).mp happ
  obtain ⟨hg, hn⟩ := and_e (Cond.before_iff.mp (show (Jvm.Cond.and given_1 narrow_1).before args s = true from hpre))
  obtain ⟨h1, h2⟩ := and_e hg
  obtain ⟨w0, rfl⟩ : ∃ w0 : Value, args = #[w0] := by
    have hs : args.size = 1 := by simpa [Cond.value, given_1] using h1
    obtain ⟨L⟩ := args
    match L, hs with
    | [w0], _ => exact ⟨w0, rfl⟩
  have hw := fun d (hd : d ∈ tables_1) => atoms_spec (ws := Jvm.Cond.code x code maxLocals ret :: tables_1) hat d (List.mem_cons_of_mem _ hd)
  have hfit : Fit s := fun {y c} hc i hi => by
    obtain ⟨ha, rfl⟩ := Array.getElem?_eq_some_iff.mp hc
    have q := List.all_eq_true.mp ((Array.all_eq_true_iff_forall_mem.mp hF) _ (Array.getElem_mem ha)) i (List.mem_range.mpr hi)
    simpa [Array.getElem?_eq_getElem hi] using q
  obtain ⟨i3, e3⟩ := is_v h2
  obtain rfl : w0 = (.int i3) := Option.some.inj e3
  obtain ⟨n0, hn⟩ := and_e hn
  obtain ⟨n1, hn⟩ := and_e hn
  obtain ⟨n2, hn⟩ := and_e hn
  obtain ⟨n3, hn⟩ := and_e hn
  obtain ⟨n4, hn⟩ := and_e hn
  obtain ⟨n5, hn⟩ := and_e hn
  obtain ⟨n6, hn⟩ := and_e hn
  obtain ⟨n7, hn⟩ := and_e hn
  obtain ⟨n8, hn⟩ := and_e hn
  obtain ⟨n9, hn⟩ := and_e hn
  obtain ⟨n10, hn⟩ := and_e hn
  obtain ⟨n11, hn⟩ := and_e hn
  obtain ⟨n12, hn⟩ := and_e hn
  obtain ⟨n13, hn⟩ := and_e hn
  obtain ⟨n14, hn⟩ := and_e hn
  obtain ⟨n15, hn⟩ := and_e hn
  obtain ⟨n16, hn⟩ := and_e hn
  obtain ⟨n17, hn⟩ := and_e hn
  obtain ⟨n18, hn⟩ := and_e hn
  obtain ⟨n19, hn⟩ := and_e hn
  obtain ⟨n20, hn⟩ := and_e hn
  obtain ⟨n21, hn⟩ := and_e hn
  obtain ⟨n22, hn⟩ := and_e hn
  obtain ⟨n23, hn⟩ := and_e hn
  obtain ⟨n24, hn⟩ := and_e hn
  obtain ⟨n25, hn⟩ := and_e hn
  obtain ⟨n26, hn⟩ := and_e hn
  obtain ⟨n27, hn⟩ := and_e hn
  obtain ⟨n28, hn⟩ := and_e hn
  obtain ⟨n29, hn⟩ := and_e hn
  obtain ⟨n30, hn⟩ := and_e hn
  obtain ⟨n31, hn⟩ := and_e hn
  obtain ⟨n32, hn⟩ := and_e hn
  obtain ⟨n33, hn⟩ := and_e hn
  obtain ⟨n34, hn⟩ := and_e hn
  obtain ⟨n35, hn⟩ := and_e hn
  obtain ⟨n36, hn⟩ := and_e hn
  obtain ⟨n37, hn⟩ := and_e hn
  obtain ⟨n38, hn⟩ := and_e hn
  obtain ⟨n39, hn⟩ := and_e hn
  obtain ⟨n40, hn⟩ := and_e hn
  obtain ⟨n41, hn⟩ := and_e hn
  obtain ⟨n42, hn⟩ := and_e hn
  obtain ⟨n43, hn⟩ := and_e hn
  obtain ⟨n44, hn⟩ := and_e hn
  obtain ⟨n45, hn⟩ := and_e hn
  obtain ⟨n46, hn⟩ := and_e hn
  obtain ⟨n47, hn⟩ := and_e hn
  obtain ⟨n48, hn⟩ := and_e hn
  obtain ⟨n49, hn⟩ := and_e hn
  obtain ⟨n50, hn⟩ := and_e hn
  obtain ⟨n51, hn⟩ := and_e hn
  obtain ⟨n52, hn⟩ := and_e hn
  obtain ⟨n53, hn⟩ := and_e hn
  obtain ⟨n54, hn⟩ := and_e hn
  obtain ⟨n55, hn⟩ := and_e hn
  obtain ⟨n56, hn⟩ := and_e hn
  obtain ⟨n57, hn⟩ := and_e hn
  obtain ⟨n58, hn⟩ := and_e hn
  obtain ⟨n59, hn⟩ := and_e hn
  obtain ⟨n60, hn⟩ := and_e hn
  obtain ⟨n61, hn⟩ := and_e hn
  obtain ⟨n62, hn⟩ := and_e hn
  obtain ⟨n63, hn⟩ := and_e hn
  obtain ⟨n64, hn⟩ := and_e hn
  obtain ⟨n65, hn⟩ := and_e hn
  obtain ⟨n66, hn⟩ := and_e hn
  obtain ⟨n67, hn⟩ := and_e hn
  obtain ⟨n68, hn⟩ := and_e hn
  obtain ⟨n69, hn⟩ := and_e hn
  obtain ⟨n70, hn⟩ := and_e hn
  obtain ⟨n71, hn⟩ := and_e hn
  obtain ⟨n72, hn⟩ := and_e hn
  obtain ⟨n73, hn⟩ := and_e hn
  obtain ⟨n74, hn⟩ := and_e hn
  obtain ⟨n75, hn⟩ := and_e hn
  obtain ⟨n76, hn⟩ := and_e hn
  obtain ⟨n77, hn⟩ := and_e hn
  have n78 := hn
  obtain ⟨jj0, t0, F0⟩ := own_jre (hw _ (List.mem_of_getElem? (i := 3) rfl)) (hw _ (List.mem_of_getElem? (i := 4) rfl)) n0 n21
  obtain ⟨jj1, t1, F1⟩ := own_jre (hw _ (List.mem_of_getElem? (i := 3) rfl)) (hw _ (List.mem_of_getElem? (i := 7) rfl)) n1 n41
  obtain ⟨jj2, t2, F2⟩ := own_jre (hw _ (List.mem_of_getElem? (i := 3) rfl)) (hw _ (List.mem_of_getElem? (i := 9) rfl)) n2 n33
  obtain ⟨jj3, t3, F3⟩ := own_jre (hw _ (List.mem_of_getElem? (i := 3) rfl)) (hw _ (List.mem_of_getElem? (i := 11) rfl)) n3 n23
  obtain ⟨jj4, t4, F4⟩ := own_jre (hw _ (List.mem_of_getElem? (i := 3) rfl)) (hw _ (List.mem_of_getElem? (i := 13) rfl)) n4 n71
  obtain ⟨jj5, t5, F5⟩ := own_jre (hw _ (List.mem_of_getElem? (i := 3) rfl)) (hw _ (List.mem_of_getElem? (i := 15) rfl)) n5 n27
  obtain ⟨jj6, t6, F6⟩ := own_jre (hw _ (List.mem_of_getElem? (i := 3) rfl)) (hw _ (List.mem_of_getElem? (i := 17) rfl)) n6 n67
  obtain ⟨jj7, t7, F7⟩ := own_jre (hw _ (List.mem_of_getElem? (i := 3) rfl)) (hw _ (List.mem_of_getElem? (i := 19) rfl)) n7 n31
  obtain ⟨jj8, t8, F8⟩ := own_jre (hw _ (List.mem_of_getElem? (i := 3) rfl)) (hw _ (List.mem_of_getElem? (i := 21) rfl)) n8 n39
  obtain ⟨jj9, t9, F9⟩ := own_jre (hw _ (List.mem_of_getElem? (i := 3) rfl)) (hw _ (List.mem_of_getElem? (i := 23) rfl)) n9 n73
  obtain ⟨jj10, t10, F10⟩ := own_jre (hw _ (List.mem_of_getElem? (i := 3) rfl)) (hw _ (List.mem_of_getElem? (i := 25) rfl)) n10 n37
  obtain ⟨jj11, t11, F11⟩ := own_jre (hw _ (List.mem_of_getElem? (i := 3) rfl)) (hw _ (List.mem_of_getElem? (i := 27) rfl)) n11 n35
  obtain ⟨jj12, t12, F12⟩ := own_jre (hw _ (List.mem_of_getElem? (i := 3) rfl)) (hw _ (List.mem_of_getElem? (i := 29) rfl)) n12 n75
  obtain ⟨jj13, t13, F13⟩ := own_jre (hw _ (List.mem_of_getElem? (i := 3) rfl)) (hw _ (List.mem_of_getElem? (i := 31) rfl)) n13 n77
  obtain ⟨jj14, t14, F14⟩ := own_jre (hw _ (List.mem_of_getElem? (i := 3) rfl)) (hw _ (List.mem_of_getElem? (i := 33) rfl)) n14 n43
  obtain ⟨jj15, t15, F15⟩ := own_jre (hw _ (List.mem_of_getElem? (i := 3) rfl)) (hw _ (List.mem_of_getElem? (i := 35) rfl)) n15 n25
  obtain ⟨jj16, t16, F16⟩ := own_jre (hw _ (List.mem_of_getElem? (i := 3) rfl)) (hw _ (List.mem_of_getElem? (i := 37) rfl)) n16 n69
  obtain ⟨jj17, t17, F17⟩ := own_jre (hw _ (List.mem_of_getElem? (i := 3) rfl)) (hw _ (List.mem_of_getElem? (i := 39) rfl)) n17 n29
  obtain ⟨jj18, t18, F18⟩ := own_jre (hw _ (List.mem_of_getElem? (i := 3) rfl)) (hw _ (List.mem_of_getElem? (i := 41) rfl)) n18 n78
  obtain ⟨k, ek⟩ := arr_v n44
  obtain ⟨cl, Ar⟩ := Arr.start ek n44
  obtain ⟨l1, l2⟩ := arr_len ek Ar n46
  have V := Arv.start (dv := .null) (vs := [.ref jj0, .ref jj1, .ref jj2, .ref jj3, .ref jj4, .ref jj5, .ref jj6, .ref jj7, .ref jj8, .ref jj9, .ref jj10, .ref jj11, .ref jj12, .ref jj13, .ref jj14, .ref jj15, .ref jj16, .ref jj17, .ref jj18]) hfit Ar l2 l1 (by decide) rfl ⟨(arr_elem ek Ar (eq_ref_start t0 n47)).2, (arr_elem ek Ar (eq_ref_start t1 n48)).2, (arr_elem ek Ar (eq_ref_start t2 n49)).2, (arr_elem ek Ar (eq_ref_start t3 n50)).2, (arr_elem ek Ar (eq_ref_start t4 n51)).2, (arr_elem ek Ar (eq_ref_start t5 n52)).2, (arr_elem ek Ar (eq_ref_start t6 n53)).2, (arr_elem ek Ar (eq_ref_start t7 n54)).2, (arr_elem ek Ar (eq_ref_start t8 n55)).2, (arr_elem ek Ar (eq_ref_start t9 n56)).2, (arr_elem ek Ar (eq_ref_start t10 n57)).2, (arr_elem ek Ar (eq_ref_start t11 n58)).2, (arr_elem ek Ar (eq_ref_start t12 n59)).2, (arr_elem ek Ar (eq_ref_start t13 n60)).2, (arr_elem ek Ar (eq_ref_start t14 n61)).2, (arr_elem ek Ar (eq_ref_start t15 n62)).2, (arr_elem ek Ar (eq_ref_start t16 n63)).2, (arr_elem ek Ar (eq_ref_start t17 n64)).2, (arr_elem ek Ar (eq_ref_start t18 n65)).2, trivial⟩
  have C := c_law l s _ hw i3 jj0 jj1 jj2 jj3 jj4 jj5 jj6 jj7 jj8 jj9 jj10 jj11 jj12 jj13 jj14 jj15 jj16 jj17 jj18 k _ F0 F1 F2 F3 F4 F5 F6 F7 F8 F9 F10 F11 F12 F13 F14 F15 F16 F17 F18 ⟨Sta.start ek (Or.inr ⟨(hw _ (List.mem_of_getElem? (i := 3) rfl)), (hw _ (List.mem_of_getElem? (i := 60) rfl))⟩), Exa.start ek n45, V⟩
  obtain ⟨n, o, h1, h2, h3, _, L, rfl, ⟨rfl, N⟩, hq⟩ := C tables_1 p e ha hc hk s m _ below hf ((Spec.applies_iff_loose hf).mp happ).1 ⟨rfl, State.Warmed39.refl s, rfl⟩ trivial
  refine ⟨n, _, h1, h2, h3, hpost _ _ _ _ _ _ ⟨Cond.after_iff.mpr rfl, Cond.after_iff.mpr (eq_i res_at (Term.int_eval (1)) rfl), trivial⟩ ⟨hq.1, hq.2.1, (hq.2.2.sift fun y hy => Or.inr (N y hy)).mono (by decide) (by decide)⟩⟩
theorem main_1_1 : Claimed_1_1 := comes_1 fun _ _ _ _ _ _ h hF => ⟨h.1, hF⟩
theorem main_1_2 : Claimed_1_2 := comes_1 fun _ _ _ _ _ _ h hF => ⟨h.2.1, hF⟩
end Jvm.Pilot.@@N@@
namespace Jvm.Pilot.@@N@@
open Jvm Jvm.ClassFile Sem Op Lib Jvm.Free Jvm.Stand Jvm.Pilot.@@N@@.Jvm.D
/-! MADE BY PROGRAM (witnessworld.py) out of the Statement's table words and the real class files: 11 classes; the members and pool entries that the words name. The judged class is class 1, her method 1. -/
namespace start1
open Jvm.ClassFile
def u (s : String) : CpInfo := .utf8 (stringToUtf16 s)
/-- a pool by its gaps: so many unusable entries, then the entry; so many at the end -/
def gap : Nat → List CpInfo → List CpInfo
  | 0, r => r
  | n + 1, r => .unusable :: gap n r
def poolList (es : List (Nat × CpInfo)) (last : Nat) : List CpInfo := es.foldr (fun e r => gap e.1 (e.2 :: r)) (gap last [])
def pool (es : List (Nat × CpInfo)) (last : Nat) : Array CpInfo := ⟨poolList es last⟩
def fileOf (pool : Array CpInfo) (this : Nat) (attrs : Array Attribute := #[]) (ms : Array MethodInfo := #[]) (fl : Nat := 33) (sup : Nat := 0) (ifs : Array Nat := #[]) (fds : Array FieldInfo := #[]) : ClassFile where
  minorVersion := 0
  majorVersion := 65
  constantPool := pool
  accessFlags := fl
  thisClass := this
  superClass := sup
  interfaces := ifs
  fields := fds
  methods := ms
  attributes := attrs
def plain (name : String) (sup : Option ClassId) : Class where
  name := name
  kind := .ordinary
  loader := none
  accessFlags := 33
  super := sup
  interfaces := #[]
  cf := none
  fields := #[]
  methods := #[]
  instanceTypes := #[]
  staticTypes := #[]
  resolved := #[]
  callSites := []
  init := .initialized
  statics := none
  mirror := none

def pool0 : Array CpInfo := pool [(5, u "<init>"), (0, u "()V"), (1, .class_ 10), (1, u "java/lang/Object"), (85, u "clone"), (0, u "()Ljava/lang/Object;")] 26

def k0m0 : Method := { name := "<init>", desc := "()V", sig := { parameters := [], returnType := none }, accessFlags := 1, code := none }
def k0m1 : Method := { name := "clone", desc := "()Ljava/lang/Object;", sig := { parameters := [], returnType := some (.object "java/lang/Object") }, accessFlags := 260, code := none }
/-- java/lang/Object -/
def k0 : Class := { plain "java/lang/Object" none with
  accessFlags := 33
  interfaces := #[]
  cf := some (fileOf pool0 8 #[] #[{ accessFlags := 1, nameIndex := 5, descriptorIndex := 6, attributes := #[] }, { accessFlags := 260, nameIndex := 96, descriptorIndex := 97, attributes := #[] }] 33 0 #[] #[])
  fields := #[]
  methods := #[k0m0, k0m1]
  instanceTypes := #[]
  staticTypes := #[]
  resolved := Array.replicate 124 none
  statics := none }

def pool1 : Array CpInfo := pool [(2, .class_ 4), (1, u "java/lang/Object"), (0, u "<init>"), (0, u "()V"), (0, .class_ 8), (0, u "com/example/attest/attest/JRE"), (0, .fieldref 7 10), (0, .nameAndType 11 12), (0, u "JAVA_8"), (0, u "Lcom/example/attest/attest/JRE;"), (0, .fieldref 7 14), (0, .nameAndType 15 12), (0, u "JAVA_9"), (0, .fieldref 7 17), (0, .nameAndType 18 12), (0, u "JAVA_10"), (0, .fieldref 7 20), (0, .nameAndType 21 12), (0, u "JAVA_11"), (0, .fieldref 7 23), (0, .nameAndType 24 12), (0, u "JAVA_12"), (0, .fieldref 7 26), (0, .nameAndType 27 12), (0, u "JAVA_13"), (0, .fieldref 7 29), (0, .nameAndType 30 12), (0, u "JAVA_14"), (0, .fieldref 7 32), (0, .nameAndType 33 12), (0, u "JAVA_15"), (0, .fieldref 7 35), (0, .nameAndType 36 12), (0, u "JAVA_16"), (0, .fieldref 7 38), (0, .nameAndType 39 12), (0, u "JAVA_17"), (0, .fieldref 7 41), (0, .nameAndType 42 12), (0, u "JAVA_18"), (0, .fieldref 7 44), (0, .nameAndType 45 12), (0, u "JAVA_19"), (0, .fieldref 7 47), (0, .nameAndType 48 12), (0, u "JAVA_20"), (0, .fieldref 7 50), (0, .nameAndType 51 12), (0, u "JAVA_21"), (0, .fieldref 7 53), (0, .nameAndType 54 12), (0, u "JAVA_22"), (0, .fieldref 7 56), (0, .nameAndType 57 12), (0, u "JAVA_23"), (0, .fieldref 7 59), (0, .nameAndType 60 12), (0, u "JAVA_24"), (0, .fieldref 7 62), (0, .nameAndType 63 12), (0, u "JAVA_25"), (0, .fieldref 7 65), (0, .nameAndType 66 12), (0, u "OTHER"), (0, .integer 2147483647), (0, .methodref 7 69), (0, .nameAndType 70 71), (0, u "lowestVersion"), (0, u "()I"), (0, .methodref 7 73), (0, .nameAndType 74 71), (0, u "version"), (0, .class_ 76), (0, u "com/example/attest/attest/JRELowestVersionPinLaw"), (2, u "law"), (0, u "(I)Z")] 5

def k1m0 : Method := { name := "<init>", desc := "()V", sig := { parameters := [], returnType := none }, accessFlags := 2, code := none }
def k1c1 : Code := { maxStack := 4, maxLocals := 5, code := code, exceptionTable := #[], attributes := #[] }
def k1m1 : Method := { name := "law", desc := "(I)Z", sig := { parameters := [.int], returnType := some .boolean }, accessFlags := 9, code := some k1c1 }
/-- com/example/attest/attest/JRELowestVersionPinLaw -/
def k1 : Class := { plain "com/example/attest/attest/JRELowestVersionPinLaw" (some 0) with
  accessFlags := 49
  interfaces := #[]
  cf := some (fileOf pool1 75 #[] #[{ accessFlags := 2, nameIndex := 5, descriptorIndex := 6, attributes := #[] }, { accessFlags := 9, nameIndex := 79, descriptorIndex := 80, attributes := #[] }] 49 2 #[] #[])
  fields := #[]
  methods := #[k1m0, k1m1]
  instanceTypes := #[]
  staticTypes := #[]
  resolved := Array.replicate 86 none
  statics := none }

def pool2 : Array CpInfo := pool [(1, .class_ 2), (0, u "java/lang/constant/Constable"), (0, .class_ 4), (0, u "java/lang/Object")] 6

/-- java/lang/constant/Constable -/
def k2 : Class := { plain "java/lang/constant/Constable" (some 0) with
  accessFlags := 1537
  interfaces := #[]
  cf := some (fileOf pool2 1 #[] #[] 1537 3 #[] #[])
  fields := #[]
  methods := #[]
  instanceTypes := #[]
  staticTypes := #[]
  resolved := Array.replicate 11 none
  statics := none }

def pool3 : Array CpInfo := pool [(1, .class_ 2), (0, u "java/lang/Comparable"), (0, .class_ 4), (0, u "java/lang/Object")] 7

/-- java/lang/Comparable -/
def k3 : Class := { plain "java/lang/Comparable" (some 0) with
  accessFlags := 1537
  interfaces := #[]
  cf := some (fileOf pool3 1 #[] #[] 1537 3 #[] #[])
  fields := #[]
  methods := #[]
  instanceTypes := #[]
  staticTypes := #[]
  resolved := Array.replicate 12 none
  statics := none }

def pool4 : Array CpInfo := pool [(1, .class_ 2), (0, u "java/io/Serializable"), (0, .class_ 4), (0, u "java/lang/Object")] 2

/-- java/io/Serializable -/
def k4 : Class := { plain "java/io/Serializable" (some 0) with
  accessFlags := 1537
  interfaces := #[]
  cf := some (fileOf pool4 1 #[] #[] 1537 3 #[] #[])
  fields := #[]
  methods := #[]
  instanceTypes := #[]
  staticTypes := #[]
  resolved := Array.replicate 7 none
  statics := none }

def pool5 : Array CpInfo := pool [(2, .class_ 4), (1, u "java/lang/Enum"), (0, u "name"), (0, u "Ljava/lang/String;"), (2, u "ordinal"), (0, u "I"), (1, .class_ 14), (1, u "java/lang/Object"), (4, u "hash"), (86, .class_ 108), (1, u "java/lang/Enum$EnumDesc"), (2, .class_ 112), (0, u "java/lang/constant/Constable"), (0, .class_ 114), (0, u "java/lang/Comparable"), (0, .class_ 116), (0, u "java/io/Serializable")] 87

/-- java/lang/Enum -/
def k5 : Class := { plain "java/lang/Enum" (some 0) with
  accessFlags := 1057
  interfaces := #[2, 3, 4]
  cf := some (fileOf pool5 2 #[.nestMembers #[106]] #[] 1057 12 #[111, 113, 115] #[{ accessFlags := 18, nameIndex := 5, descriptorIndex := 6, attributes := #[] }, { accessFlags := 18, nameIndex := 9, descriptorIndex := 10, attributes := #[] }, { accessFlags := 2, nameIndex := 19, descriptorIndex := 10, attributes := #[] }])
  fields := #[{ name := "name", type := (.object "java/lang/String"), accessFlags := 18, slot := 0, constantValue := 0 }, { name := "ordinal", type := .int, accessFlags := 18, slot := 1, constantValue := 0 }, { name := "hash", type := .int, accessFlags := 2, slot := 2, constantValue := 0 }]
  methods := #[]
  instanceTypes := #[(.object "java/lang/String"), .int, .int]
  staticTypes := #[]
  resolved := Array.replicate 204 none
  statics := none }

def pool6 : Array CpInfo := pool [(1, .class_ 2), (0, u "com/example/attest/attest/JRE"), (2, u "JAVA_8"), (0, u "Lcom/example/attest/attest/JRE;"), (2, u "JAVA_9"), (2, u "JAVA_10"), (2, u "JAVA_11"), (2, u "JAVA_12"), (2, u "JAVA_13"), (2, u "JAVA_14"), (2, u "JAVA_15"), (2, u "JAVA_16"), (2, u "JAVA_17"), (2, u "JAVA_18"), (2, u "JAVA_19"), (2, u "JAVA_20"), (2, u "JAVA_21"), (2, u "JAVA_22"), (2, u "JAVA_23"), (2, u "JAVA_24"), (2, u "JAVA_25"), (0, .fieldref 1 59), (0, .nameAndType 60 6), (0, u "OTHER"), (0, .fieldref 1 62), (0, .nameAndType 63 64), (0, u "$VALUES"), (0, u "[Lcom/example/attest/attest/JRE;"), (0, .methodref 66 67), (0, .class_ 64), (0, .nameAndType 68 69), (0, u "clone"), (0, u "()Ljava/lang/Object;"), (1, .class_ 73), (1, u "java/lang/Enum"), (6, .fieldref 1 81), (0, .nameAndType 82 83), (0, u "version"), (0, u "I"), (3, u "()I"), (0, .methodref 1 89), (0, .nameAndType 90 91), (0, u "values"), (0, u "()[Lcom/example/attest/attest/JRE;"), (63, u "lowestVersion")] 21

def k6c0 : Code := { maxStack := 1, maxLocals := 0, code := prog_46_method_1_code, exceptionTable := #[], attributes := #[] }
def k6m0 : Method := { name := "values", desc := "()[Lcom/example/attest/attest/JRE;", sig := { parameters := [], returnType := some (.array (.object "com/example/attest/attest/JRE")) }, accessFlags := 9, code := some k6c0 }
def k6c1 : Code := { maxStack := 1, maxLocals := 1, code := prog_46_method_8_code, exceptionTable := #[], attributes := #[] }
def k6m1 : Method := { name := "version", desc := "()I", sig := { parameters := [], returnType := some .int }, accessFlags := 1, code := some k6c1 }
def k6c2 : Code := { maxStack := 3, maxLocals := 1, code := prog_46_method_10_code, exceptionTable := #[], attributes := #[] }
def k6m2 : Method := { name := "lowestVersion", desc := "()I", sig := { parameters := [], returnType := some .int }, accessFlags := 0, code := some k6c2 }
/-- com/example/attest/attest/JRE -/
def k6 : Class := { plain "com/example/attest/attest/JRE" (some 5) with
  accessFlags := 16433
  interfaces := #[]
  cf := some (fileOf pool6 1 #[] #[{ accessFlags := 9, nameIndex := 90, descriptorIndex := 91, attributes := #[] }, { accessFlags := 1, nameIndex := 82, descriptorIndex := 87, attributes := #[] }, { accessFlags := 0, nameIndex := 155, descriptorIndex := 87, attributes := #[] }] 16433 71 #[] #[{ accessFlags := 16409, nameIndex := 5, descriptorIndex := 6, attributes := #[] }, { accessFlags := 16409, nameIndex := 9, descriptorIndex := 6, attributes := #[] }, { accessFlags := 16409, nameIndex := 12, descriptorIndex := 6, attributes := #[] }, { accessFlags := 16409, nameIndex := 15, descriptorIndex := 6, attributes := #[] }, { accessFlags := 16409, nameIndex := 18, descriptorIndex := 6, attributes := #[] }, { accessFlags := 16409, nameIndex := 21, descriptorIndex := 6, attributes := #[] }, { accessFlags := 16409, nameIndex := 24, descriptorIndex := 6, attributes := #[] }, { accessFlags := 16409, nameIndex := 27, descriptorIndex := 6, attributes := #[] }, { accessFlags := 16409, nameIndex := 30, descriptorIndex := 6, attributes := #[] }, { accessFlags := 16409, nameIndex := 33, descriptorIndex := 6, attributes := #[] }, { accessFlags := 16409, nameIndex := 36, descriptorIndex := 6, attributes := #[] }, { accessFlags := 16409, nameIndex := 39, descriptorIndex := 6, attributes := #[] }, { accessFlags := 16409, nameIndex := 42, descriptorIndex := 6, attributes := #[] }, { accessFlags := 16409, nameIndex := 45, descriptorIndex := 6, attributes := #[] }, { accessFlags := 16409, nameIndex := 48, descriptorIndex := 6, attributes := #[] }, { accessFlags := 16409, nameIndex := 51, descriptorIndex := 6, attributes := #[] }, { accessFlags := 16409, nameIndex := 54, descriptorIndex := 6, attributes := #[] }, { accessFlags := 16409, nameIndex := 57, descriptorIndex := 6, attributes := #[] }, { accessFlags := 16409, nameIndex := 60, descriptorIndex := 6, attributes := #[] }, { accessFlags := 18, nameIndex := 82, descriptorIndex := 83, attributes := #[] }, { accessFlags := 4122, nameIndex := 63, descriptorIndex := 64, attributes := #[] }])
  fields := #[{ name := "JAVA_8", type := (.object "com/example/attest/attest/JRE"), accessFlags := 16409, slot := 0, constantValue := 0 }, { name := "JAVA_9", type := (.object "com/example/attest/attest/JRE"), accessFlags := 16409, slot := 1, constantValue := 0 }, { name := "JAVA_10", type := (.object "com/example/attest/attest/JRE"), accessFlags := 16409, slot := 2, constantValue := 0 }, { name := "JAVA_11", type := (.object "com/example/attest/attest/JRE"), accessFlags := 16409, slot := 3, constantValue := 0 }, { name := "JAVA_12", type := (.object "com/example/attest/attest/JRE"), accessFlags := 16409, slot := 4, constantValue := 0 }, { name := "JAVA_13", type := (.object "com/example/attest/attest/JRE"), accessFlags := 16409, slot := 5, constantValue := 0 }, { name := "JAVA_14", type := (.object "com/example/attest/attest/JRE"), accessFlags := 16409, slot := 6, constantValue := 0 }, { name := "JAVA_15", type := (.object "com/example/attest/attest/JRE"), accessFlags := 16409, slot := 7, constantValue := 0 }, { name := "JAVA_16", type := (.object "com/example/attest/attest/JRE"), accessFlags := 16409, slot := 8, constantValue := 0 }, { name := "JAVA_17", type := (.object "com/example/attest/attest/JRE"), accessFlags := 16409, slot := 9, constantValue := 0 }, { name := "JAVA_18", type := (.object "com/example/attest/attest/JRE"), accessFlags := 16409, slot := 10, constantValue := 0 }, { name := "JAVA_19", type := (.object "com/example/attest/attest/JRE"), accessFlags := 16409, slot := 11, constantValue := 0 }, { name := "JAVA_20", type := (.object "com/example/attest/attest/JRE"), accessFlags := 16409, slot := 12, constantValue := 0 }, { name := "JAVA_21", type := (.object "com/example/attest/attest/JRE"), accessFlags := 16409, slot := 13, constantValue := 0 }, { name := "JAVA_22", type := (.object "com/example/attest/attest/JRE"), accessFlags := 16409, slot := 14, constantValue := 0 }, { name := "JAVA_23", type := (.object "com/example/attest/attest/JRE"), accessFlags := 16409, slot := 15, constantValue := 0 }, { name := "JAVA_24", type := (.object "com/example/attest/attest/JRE"), accessFlags := 16409, slot := 16, constantValue := 0 }, { name := "JAVA_25", type := (.object "com/example/attest/attest/JRE"), accessFlags := 16409, slot := 17, constantValue := 0 }, { name := "OTHER", type := (.object "com/example/attest/attest/JRE"), accessFlags := 16409, slot := 18, constantValue := 0 }, { name := "version", type := .int, accessFlags := 18, slot := 3, constantValue := 0 }, { name := "$VALUES", type := (.array (.object "com/example/attest/attest/JRE")), accessFlags := 4122, slot := 19, constantValue := 0 }]
  methods := #[k6m0, k6m1, k6m2]
  instanceTypes := #[(.object "java/lang/String"), .int, .int, .int]
  staticTypes := #[(.object "com/example/attest/attest/JRE"), (.object "com/example/attest/attest/JRE"), (.object "com/example/attest/attest/JRE"), (.object "com/example/attest/attest/JRE"), (.object "com/example/attest/attest/JRE"), (.object "com/example/attest/attest/JRE"), (.object "com/example/attest/attest/JRE"), (.object "com/example/attest/attest/JRE"), (.object "com/example/attest/attest/JRE"), (.object "com/example/attest/attest/JRE"), (.object "com/example/attest/attest/JRE"), (.object "com/example/attest/attest/JRE"), (.object "com/example/attest/attest/JRE"), (.object "com/example/attest/attest/JRE"), (.object "com/example/attest/attest/JRE"), (.object "com/example/attest/attest/JRE"), (.object "com/example/attest/attest/JRE"), (.object "com/example/attest/attest/JRE"), (.object "com/example/attest/attest/JRE"), (.array (.object "com/example/attest/attest/JRE"))]
  resolved := Array.replicate 177 none
  statics := some 0 }

def pool7 : Array CpInfo := pool [(1, .class_ 2), (0, u "java/lang/Cloneable"), (0, .class_ 4), (0, u "java/lang/Object")] 2

/-- java/lang/Cloneable -/
def k7 : Class := { plain "java/lang/Cloneable" (some 0) with
  accessFlags := 1537
  interfaces := #[]
  cf := some (fileOf pool7 1 #[] #[] 1537 3 #[] #[])
  fields := #[]
  methods := #[]
  instanceTypes := #[]
  staticTypes := #[]
  resolved := Array.replicate 7 none
  statics := none }

/-- the primitive byte -/
def k8 : Class := { plain "byte" none with kind := .primitive 'B', accessFlags := 0x411 }
/-- [B -/
def k9 : Class := { plain "[B" (some 0) with kind := .array 8 .byte, interfaces := #[7, 4], accessFlags := 1041 }

/-- [Lcom/example/attest/attest/JRE; -/
def k10 : Class := { plain "[Lcom/example/attest/attest/JRE;" (some 0) with kind := .array 6 (.object "com/example/attest/attest/JRE"), interfaces := #[7, 4], accessFlags := 1041 }

def heap : Heap := #[{ cls := 6, slots := #[.ref 2, .ref 3, .ref 4, .ref 5, .ref 6, .ref 7, .ref 8, .ref 9, .ref 10, .ref 11, .ref 12, .ref 13, .ref 14, .ref 15, .ref 16, .ref 17, .ref 18, .ref 19, .ref 20, .ref 1], vm := .statics 6 },
  { cls := 10, slots := #[.ref 2, .ref 3, .ref 4, .ref 5, .ref 6, .ref 7, .ref 8, .ref 9, .ref 10, .ref 11, .ref 12, .ref 13, .ref 14, .ref 15, .ref 16, .ref 17, .ref 18, .ref 19, .ref 20], vm := .none },
  { cls := 6, slots := #[.null, .int 0, .int 0, .int 8], vm := .none },
  { cls := 6, slots := #[.null, .int 1, .int 0, .int 9], vm := .none },
  { cls := 6, slots := #[.null, .int 2, .int 0, .int 10], vm := .none },
  { cls := 6, slots := #[.null, .int 3, .int 0, .int 11], vm := .none },
  { cls := 6, slots := #[.null, .int 4, .int 0, .int 12], vm := .none },
  { cls := 6, slots := #[.null, .int 5, .int 0, .int 13], vm := .none },
  { cls := 6, slots := #[.null, .int 6, .int 0, .int 14], vm := .none },
  { cls := 6, slots := #[.null, .int 7, .int 0, .int 15], vm := .none },
  { cls := 6, slots := #[.null, .int 8, .int 0, .int 16], vm := .none },
  { cls := 6, slots := #[.null, .int 9, .int 0, .int 17], vm := .none },
  { cls := 6, slots := #[.null, .int 10, .int 0, .int 18], vm := .none },
  { cls := 6, slots := #[.null, .int 11, .int 0, .int 19], vm := .none },
  { cls := 6, slots := #[.null, .int 12, .int 0, .int 20], vm := .none },
  { cls := 6, slots := #[.null, .int 13, .int 0, .int 21], vm := .none },
  { cls := 6, slots := #[.null, .int 14, .int 0, .int 22], vm := .none },
  { cls := 6, slots := #[.null, .int 15, .int 0, .int 23], vm := .none },
  { cls := 6, slots := #[.null, .int 16, .int 0, .int 24], vm := .none },
  { cls := 6, slots := #[.null, .int 17, .int 0, .int 25], vm := .none },
  { cls := 6, slots := #[.null, .int 18, .int 0, .int 2147483647], vm := .none }]
def classes : Array Class := #[k0, k1, k2, k3, k4, k5, k6, k7, k8, k9, k10]
def interned : List (Array UInt16 × Addr) := []
def slotsUsed : Nat := 115
def theMethod : MethodId := ⟨1, 1⟩
def args0 : Array Value := #[.int 18]
def aboutOver (below : List Frame) : State where
  vm := { classes := classes, interned := interned.toArray }
  heap := heap
  slotsUsed := slotsUsed
  threads := #[{ frames := .invoking theMethod args0 :: below }]
def below0 : List Frame := [.native { method := ⟨0, 0⟩, args := #[] }]
def about1 : State := aboutOver below0
def p0 : Program := .bare "" "" ""
def e0 : Env := launch0.env 0 0 0
theorem w_frames : about1.frames = Frame.invoking theMethod args0 :: below0 := rfl
set_option maxRecDepth 65536 in
theorem w_args : argsFit about1.vm theMethod args0 = true := by decide +kernel
set_option maxRecDepth 65536 in
theorem w_heap : heapFits about1 = true := by decide +kernel
set_option maxRecDepth 65536 in
theorem w_runnable : about1.curStatus? = some .runnable := by decide +kernel
set_option maxRecDepth 65536 in
theorem w_alone : about1.alone = true := by decide +kernel
set_option maxRecDepth 65536 in
theorem w_named : about1.methodNamed? x = some theMethod := by decide +kernel
set_option maxRecDepth 65536 in
theorem w_hears : about1.hears theMethod below0 = true := by decide +kernel
set_option maxRecDepth 65536 in
theorem w_ripe : about1.ripe theMethod args0 below0 = true := by decide +kernel
theorem w_running : about1.status = .running := rfl
set_option maxRecDepth 65536 in
theorem w_room : about1.hasRoom e0.platform room_1 = true :=
  launch0.hasRoom_least _ room_1 (by decide +kernel) (by decide +kernel) (by decide +kernel) (by decide +kernel) (by decide +kernel) (by decide +kernel)
theorem allAtoms_all (ts : List Jvm.Cond) (a : Array Jvm.Value) (st : Jvm.State) : (allAtoms ts).before a st = ts.all (fun c => c.before a st) := by
  induction ts with
  | nil => rfl
  | cons c t ih =>
    show (Jvm.Cond.and c (allAtoms t)).before a st = _
    rw [Jvm.Cond.before_and, ih, List.all_cons]
def words1 : List Jvm.Cond := Jvm.Cond.code x code maxLocals ret :: tables_1
/-- a 'code' word, met by the world's own term for the bytes: nothing is compared byte by byte -/
theorem code_word {y : MethodName} {bytes : ByteArray} {mx : Nat} {rt : Option FieldType} {a : Array Value} {s : State} {m : MethodId} {meth : Method} {c : Code} (h1 : s.methodNamed? y = some m) (h2 : s.vm.method? m = some meth) (h3 : meth.code = some c) (h4 : c.code = bytes)
    (h5 : (c.maxLocals == mx && c.exceptionTable.isEmpty && decide (c.maxStack ≤ mostOperands) && decide (meth.sig.returnType = rt) && !meth.locks && decide (parseMethodDescriptor y.desc = some meth.sig)) = true) : (Jvm.Cond.code y bytes mx rt).before a s = true := by
  simp only [Bool.and_eq_true, beq_iff_eq, Bool.not_eq_true', decide_eq_true_eq] at h5
  obtain ⟨⟨⟨⟨⟨g1, g2⟩, g3⟩, g4⟩, g5⟩, g6⟩ := h5
  simp [Cond.before, Cond.holds, Cond.value, h1, h2, h3, h4, g1, g2, g3, g4, g5, g6]
def isCode : Jvm.Cond → Bool
  | .code _ _ _ _ => true
  | _ => false
theorem all_split {L : List Jvm.Cond} {P : Jvm.Cond → Bool} (h1 : L.all (fun c => isCode c || P c) = true) (h2 : ∀ c ∈ L.filter isCode, P c = true) : L.all P = true := by
  refine List.all_eq_true.mpr fun c hc => ?_
  have h := List.all_eq_true.mp h1 c hc
  rcases Bool.eq_false_or_eq_true (isCode c) with hi | hi
  · exact h2 c (List.mem_filter.mpr ⟨hc, hi⟩)
  · simpa [hi] using h
set_option maxRecDepth 65536 in
theorem w_c0 : (Jvm.Cond.code x code maxLocals ret).before args0 about1 = true := code_word (m := ⟨1, 1⟩) (meth := k1m1) (c := k1c1) (by decide +kernel) rfl rfl rfl (by decide +kernel)
set_option maxRecDepth 65536 in
theorem w_c1 : (Jvm.Cond.code ({ cls := "com/example/attest/attest/JRE", name := "lowestVersion", desc := "()I" } : Jvm.MethodName) prog_46_method_10_code (1 : Nat) (Option.some Jvm.ClassFile.FieldType.int)).before args0 about1 = true := code_word (m := ⟨6, 2⟩) (meth := k6m2) (c := k6c2) (by decide +kernel) rfl rfl rfl (by decide +kernel)
set_option maxRecDepth 65536 in
theorem w_c2 : (Jvm.Cond.code ({ cls := "com/example/attest/attest/JRE", name := "version", desc := "()I" } : Jvm.MethodName) prog_46_method_8_code (1 : Nat) (Option.some Jvm.ClassFile.FieldType.int)).before args0 about1 = true := code_word (m := ⟨6, 1⟩) (meth := k6m1) (c := k6c1) (by decide +kernel) rfl rfl rfl (by decide +kernel)
set_option maxRecDepth 65536 in
theorem w_c3 : (Jvm.Cond.code ({ cls := "com/example/attest/attest/JRE", name := "values", desc := "()[Lcom/example/attest/attest/JRE;" } : Jvm.MethodName) prog_46_method_1_code (0 : Nat) (Option.some (Jvm.ClassFile.FieldType.array (Jvm.ClassFile.FieldType.object "com/example/attest/attest/JRE")))).before args0 about1 = true := code_word (m := ⟨6, 0⟩) (meth := k6m0) (c := k6c0) (by decide +kernel) rfl rfl rfl (by decide +kernel)
def codes1 : List Jvm.Cond := [Jvm.Cond.code x code maxLocals ret, Jvm.Cond.code ({ cls := "com/example/attest/attest/JRE", name := "lowestVersion", desc := "()I" } : Jvm.MethodName) prog_46_method_10_code (1 : Nat) (Option.some Jvm.ClassFile.FieldType.int), Jvm.Cond.code ({ cls := "com/example/attest/attest/JRE", name := "version", desc := "()I" } : Jvm.MethodName) prog_46_method_8_code (1 : Nat) (Option.some Jvm.ClassFile.FieldType.int), Jvm.Cond.code ({ cls := "com/example/attest/attest/JRE", name := "values", desc := "()[Lcom/example/attest/attest/JRE;" } : Jvm.MethodName) prog_46_method_1_code (0 : Nat) (Option.some (Jvm.ClassFile.FieldType.array (Jvm.ClassFile.FieldType.object "com/example/attest/attest/JRE")))]
set_option maxRecDepth 65536 in
theorem codes_eq : words1.filter isCode = codes1 := rfl
theorem w_codes : ∀ c ∈ words1.filter isCode, c.before args0 about1 = true := by
  rw [codes_eq]
  intro c hc
  simp only [codes1, List.mem_cons, List.not_mem_nil, or_false] at hc
  rcases hc with rfl | rfl | rfl | rfl
  · exact w_c0
  · exact w_c1
  · exact w_c2
  · exact w_c3
set_option maxRecDepth 65536 in
theorem w_t1 : (words1.take 24).all (fun c => isCode c || c.before args0 about1) = true := by decide +kernel
set_option maxRecDepth 65536 in
theorem w_t2 : ((words1.drop 24).take 24).all (fun c => isCode c || c.before args0 about1) = true := by decide +kernel
set_option maxRecDepth 65536 in
theorem w_t3 : ((words1.drop 24).drop 24).all (fun c => isCode c || c.before args0 about1) = true := by decide +kernel
theorem w_tables : (allAtoms (Jvm.Cond.code x code maxLocals ret :: tables_1)).before args0 about1 = true := by
  rw [allAtoms_all]
  show words1.all (fun c => c.before args0 about1) = true
  refine all_split ?_ w_codes
  rw [← List.take_append_drop 24 words1, List.all_append, w_t1, ← List.take_append_drop 24 (words1.drop 24), List.all_append, w_t2, w_t3]
  rfl
set_option maxRecDepth 65536 in
theorem w_case : (Jvm.Cond.and given_1 narrow_1).before args0 about1 = true := by decide +kernel
theorem w_applies : (headSpec (Jvm.Cond.code x code maxLocals ret :: tables_1) room_1).applies x e0.platform about1 = true :=
  (Spec.applies_iff w_frames).mpr ⟨w_running, w_runnable, w_alone, w_named, w_hears, w_ripe, w_room, w_tables⟩
theorem atStart : AtStart classFile x code maxLocals ret World_1 tables_1 room_1 Calls_1 rest_1 Pre_1 launch0 p0 e0 about1 theMethod args0 below0 :=
  ⟨lists_1, trivial, launch0.admits_env _ _ _, launch0.least_env, fairChoices_fair.cas, fairChoices_fair.clock, w_frames, w_args, w_heap, w_applies, trivial, trivial, w_case⟩
end start1
theorem witness_1 : WitnessClaimed_1 := ⟨start1.p0, start1.e0, start1.about1, start1.theMethod, start1.args0, start1.below0, start1.atStart⟩
end Jvm.Pilot.@@N@@
