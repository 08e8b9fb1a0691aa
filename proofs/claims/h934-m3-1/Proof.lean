import JvmDerived
import JvmDerived.Pilot.@@N@@Statement
import JvmDerived.Pilot.@@N@@Code
set_option linter.unusedVariables false
set_option linter.unusedSimpArgs false
namespace Jvm.Own
open Sem ClassFile Op Lib Jvm.Stand Jvm.Free Jvm.LawKit Jvm.RoadKit
/-- the walk from the frame g over T comes to its end, and P holds there -/
def Goes (p : Program) (e : Env) (below : List Frame) (P : State → Outcome → Prop) (T : State) (g : JFrame) : Prop :=
  ∃ U o, Steps p.tables e below (T.setTop g) U ∧ U.status = .running ∧ Ended U below o ∧ P U o
theorem Goes.st {p : Program} {e : Env} {below : List Frame} {P : State → Outcome → Prop} {T T' : State} {g g' : JFrame} (st : ∀ t, Steps p.tables e below (T'.setTop g') t → Steps p.tables e below (T.setTop g) t) (k : Goes p e below P T' g') : Goes p e below P T g := by
  obtain ⟨U, o, h1, h⟩ := k; exact ⟨U, o, st _ h1, h⟩
/-- what is known of the body that is walked -/
def Cx (Z : State) (p : Program) (s : State) (m : MethodId) (meth : Method) (c : Code) (own : String) (bytes : ByteArray) (maxL : Nat) (ret : Option FieldType) (nm : String) : Prop :=
  p.tables.exec = Jvm.exec ∧ c.code = bytes ∧ c.maxLocals = maxL ∧ meth.sig.returnType = ret ∧ meth.name = nm ∧ meth.locks = false ∧ Z.Warmed39 s.vm ∧ s.vm.findClass own = some m.cls
section Acc
variable {Z : State} {p : Program} {s : State} {m : MethodId} {meth : Method} {c : Code} {own : String} {bytes : ByteArray} {maxL : Nat} {ret : Option FieldType} {nm : String}
theorem Cx.hx (K : Cx Z p s m meth c own bytes maxL ret nm) : p.tables.exec = Jvm.exec := K.1
theorem Cx.by' (K : Cx Z p s m meth c own bytes maxL ret nm) : c.code = bytes := K.2.1
theorem Cx.ml (K : Cx Z p s m meth c own bytes maxL ret nm) : c.maxLocals = maxL := K.2.2.1
theorem Cx.rt (K : Cx Z p s m meth c own bytes maxL ret nm) : meth.sig.returnType = ret := K.2.2.2.1
theorem Cx.hnm (K : Cx Z p s m meth c own bytes maxL ret nm) : meth.name = nm := K.2.2.2.2.1
theorem Cx.lk (K : Cx Z p s m meth c own bytes maxL ret nm) : meth.locks = false := K.2.2.2.2.2.1
theorem Cx.hZ (K : Cx Z p s m meth c own bytes maxL ret nm) : Z.Warmed39 s.vm := K.2.2.2.2.2.2.1
theorem Cx.hown (K : Cx Z p s m meth c own bytes maxL ret nm) : s.vm.findClass own = some m.cls := K.2.2.2.2.2.2.2
end Acc
/-- the end of a walk -/
def Fini (s : State) (R : Room) (Q : Option Value → Heap → List Loc → Prop) (U : State) (o : Outcome) : Prop := ∃ v L, o = .returned v ∧ Q v U.heap L ∧ FrameEnd s o U L R.cells R.slots
/-- a body's contract, at the heap h0, for the arguments as' -/
def Con (l : Launch) (Z : State) (y : MethodName) (bytes : ByteArray) (maxL : Nat) (ret : Option FieldType) (rm : Room) (as' : Array Value) (h0 : Heap) (Q : Option Value → Heap → List Loc → Prop) : Prop :=
  ∀ ws : List Cond, MetFree l y (head1 (Cond.code y bytes maxL ret :: ws) rm) (fun a U => a = as' ∧ Z.Warmed39 U.vm ∧ U.heap = h0) (fun _ _ _ _ _ => True) (fun _ U o U' => ∃ v L, o = .returned v ∧ Q v U'.heap L ∧ FrameEnd U o U' L rm.cells rm.slots)
theorem Con.of {l : Launch} {Z : State} {y : MethodName} {bytes : ByteArray} {maxL : Nat} {ret : Option FieldType} {rm : Room} {as' : Array Value} {h0 : Heap} {Q : Option Value → Heap → List Loc → Prop} (hp : plainFor y = true) {Ls : Array Slot} (hE : ∀ m, entryFrame m as' maxL = mkF m 0 Ls [])
    (body : ∀ (p : Program) (e : Env) (s : State) (m : MethodId) (below : List Frame) (meth : Method) (c : Code) (T : State), Cx Z p s m meth c y.cls bytes maxL ret y.name → Stand p l e rm s m as' below meth c T [] 0 0 → T.heap = h0 → Goes p e below (Fini s rm Q) T (mkF m 0 Ls [])) : Con l Z y bytes maxL ret rm as' h0 Q := by
  intro ws
  refine MetFree.of_bodySF hp hisR ?_
  intro p e s m args below meth c s₁ Bd hml0 hP hK
  obtain ⟨rfl, hZ, hh⟩ := hP
  obtain ⟨U, o, h1, h2, h3, h4⟩ := body p e s m below meth c s₁ ⟨Bd.exec, Bd.bytes, hml0, Bd.returns, (name_of_methodNamed Bd.named Bd.method).1, Bd.notSynchronized, hZ, findClass_of_methodNamed Bd.named⟩ (Stand.of_body Bd) (by rw [← hh, Bd.state]; rfl)
  rw [← hE m] at h1
  exact ⟨U, o, h1, h2, h3, h4⟩
theorem Con.mono {l : Launch} {Z : State} {y : MethodName} {bytes : ByteArray} {maxL : Nat} {ret : Option FieldType} {rm : Room} {as' : Array Value} {h0 : Heap} {Q Q' : Option Value → Heap → List Loc → Prop} (K : Con l Z y bytes maxL ret rm as' h0 Q) (q : ∀ v h L, Q v h L → Q' v h L) : Con l Z y bytes maxL ret rm as' h0 Q' := by
  intro ws p e ha hc hk s m args below hf happ hP hK
  obtain ⟨n, o, h1, h2, h3, v, L, h4, h5, h6⟩ := K ws p e ha hc hk s m args below hf happ hP hK
  exact ⟨n, o, h1, h2, h3, v, L, h4, q _ _ _ h5, h6⟩
theorem and_l {a b : Prop} (h : a ∧ b) : a := h.1
section Steps

variable {Z : State} {p : Program} {l : Launch} {e : Env} {R : Room} {s : State} {m : MethodId} {args : Array Value} {below : List Frame} {meth : Method} {c : Code} {T : State} {locs : List Loc} {cells slots : Nat} {own : String} {bytes : ByteArray} {maxL : Nat} {ret : Option FieldType} {nm : String} {P : State → Outcome → Prop} {pc q : Nat} {Ls : Array Slot} {st : List Value} {h : Heap} {a0 : Array Value}
theorem s_iloadN (K : Cx Z p s m meth c own bytes maxL ret nm) (X : Stand p l e R s m args below meth c T locs cells slots) {k : Fin 4} {v : Int32} (hd : decode bytes pc = .ok (.iload_n k, 1)) (hl : Ls[k.val]? = some (.val (.int v))) (hq : pc + 1 = q) (h : Goes p e below P T (mkF m q Ls (.int v :: st))) : Goes p e below P T (mkF m pc Ls (st)) := by
  subst hq; exact Goes.st (fun _ k => XS.iloadN X.here K.hx rfl (hb K.by' hd) hl k) h
theorem s_iload (K : Cx Z p s m meth c own bytes maxL ret nm) (X : Stand p l e R s m args below meth c T locs cells slots) {k : Nat} {v : Int32} (hd : decode bytes pc = .ok (.iload k, 2)) (hl : Ls[k]? = some (.val (.int v))) (hq : pc + 2 = q) (h : Goes p e below P T (mkF m q Ls (.int v :: st))) : Goes p e below P T (mkF m pc Ls (st)) := by
  subst hq; exact Goes.st (fun _ k => XS.iload X.here K.hx rfl (hb K.by' hd) hl k) h
theorem s_aloadN (K : Cx Z p s m meth c own bytes maxL ret nm) (X : Stand p l e R s m args below meth c T locs cells slots) {k : Fin 4} {v : Value} (hd : decode bytes pc = .ok (.aload_n k, 1)) (hl : Ls[k.val]? = some (.val v)) (hv : v.isRef = true) (hq : pc + 1 = q) (h : Goes p e below P T (mkF m q Ls (v :: st))) : Goes p e below P T (mkF m pc Ls (st)) := by
  subst hq; exact Goes.st (fun _ k => XS.aloadN X.here K.hx rfl (hb K.by' hd) hl hv k) h
theorem s_aload (K : Cx Z p s m meth c own bytes maxL ret nm) (X : Stand p l e R s m args below meth c T locs cells slots) {k : Nat} {v : Value} (hd : decode bytes pc = .ok (.aload k, 2)) (hl : Ls[k]? = some (.val v)) (hv : v.isRef = true) (hq : pc + 2 = q) (h : Goes p e below P T (mkF m q Ls (v :: st))) : Goes p e below P T (mkF m pc Ls (st)) := by
  subst hq; exact Goes.st (fun _ k => XS.aload X.here K.hx rfl (hb K.by' hd) hl hv k) h
theorem s_istoreN (K : Cx Z p s m meth c own bytes maxL ret nm) (X : Stand p l e R s m args below meth c T locs cells slots) {k : Fin 4} {x : Int32} {l' : Array Slot} (hd : decode bytes pc = .ok (.istore_n k, 1)) (hl : storeLocals Ls k.val (.int x) = some l') (hq : pc + 1 = q) (h : Goes p e below P T (mkF m q l' (st))) : Goes p e below P T (mkF m pc Ls (.int x :: st)) := by
  subst hq; exact Goes.st (fun _ k => XS.istoreN X.here K.hx rfl (hb K.by' hd) rfl hl k) h
theorem s_istore (K : Cx Z p s m meth c own bytes maxL ret nm) (X : Stand p l e R s m args below meth c T locs cells slots) {k : Nat} {x : Int32} {l' : Array Slot} (hd : decode bytes pc = .ok (.istore k, 2)) (hl : storeLocals Ls k (.int x) = some l') (hq : pc + 2 = q) (h : Goes p e below P T (mkF m q l' (st))) : Goes p e below P T (mkF m pc Ls (.int x :: st)) := by
  subst hq; exact Goes.st (fun _ k => XS.istore X.here K.hx rfl (hb K.by' hd) rfl hl k) h
theorem s_astoreN (K : Cx Z p s m meth c own bytes maxL ret nm) (X : Stand p l e R s m args below meth c T locs cells slots) {k : Fin 4} {x : Value} {l' : Array Slot} (hd : decode bytes pc = .ok (.astore_n k, 1)) (hv : x.isRef = true) (hl : storeLocals Ls k.val x = some l') (hq : pc + 1 = q) (h : Goes p e below P T (mkF m q l' (st))) : Goes p e below P T (mkF m pc Ls (x :: st)) := by
  subst hq; exact Goes.st (fun _ k => XS.astoreN X.here K.hx rfl (hb K.by' hd) rfl hv hl k) h
theorem s_astore (K : Cx Z p s m meth c own bytes maxL ret nm) (X : Stand p l e R s m args below meth c T locs cells slots) {k : Nat} {x : Value} {l' : Array Slot} (hd : decode bytes pc = .ok (.astore k, 2)) (hv : x.isRef = true) (hl : storeLocals Ls k x = some l') (hq : pc + 2 = q) (h : Goes p e below P T (mkF m q l' (st))) : Goes p e below P T (mkF m pc Ls (x :: st)) := by
  subst hq; exact Goes.st (fun _ k => XS.astore X.here K.hx rfl (hb K.by' hd) rfl hv hl k) h
theorem s_iconst (K : Cx Z p s m meth c own bytes maxL ret nm) (X : Stand p l e R s m args below meth c T locs cells slots) {i : Int} {z : Int32} (hd : decode bytes pc = .ok (.iconst i, 1)) (hz : Int32.ofInt i = z) (hq : pc + 1 = q) (h : Goes p e below P T (mkF m q Ls (.int z :: st))) : Goes p e below P T (mkF m pc Ls (st)) := by
  subst hq; exact Goes.st (fun _ k => XS.iconst X.here K.hx rfl (hb K.by' hd) (by rw [hz]; exact k)) h
theorem s_bipush (K : Cx Z p s m meth c own bytes maxL ret nm) (X : Stand p l e R s m args below meth c T locs cells slots) {i : Int} {z : Int32} (hd : decode bytes pc = .ok (.bipush i, 2)) (hz : (Int8.ofInt i).toInt32 = z) (hq : pc + 2 = q) (h : Goes p e below P T (mkF m q Ls (.int z :: st))) : Goes p e below P T (mkF m pc Ls (st)) := by
  subst hq; exact Goes.st (fun _ k => XS.bipush X.here K.hx rfl (hb K.by' hd) (by rw [hz]; exact k)) h
theorem s_sipush (K : Cx Z p s m meth c own bytes maxL ret nm) (X : Stand p l e R s m args below meth c T locs cells slots) {i : Int} {z : Int32} (hd : decode bytes pc = .ok (.sipush i, 3)) (hz : (Int16.ofInt i).toInt32 = z) (hq : pc + 3 = q) (h : Goes p e below P T (mkF m q Ls (.int z :: st))) : Goes p e below P T (mkF m pc Ls (st)) := by
  subst hq; exact Goes.st (fun _ k => XS.sipush X.here K.hx rfl (hb K.by' hd) (by rw [hz]; exact k)) h
theorem s_ldcI (K : Cx Z p s m meth c own bytes maxL ret nm) (X : Stand p l e R s m args below meth c T locs cells slots) {i : Nat} {v : Int32} (hd : decode bytes pc = .ok (.ldc i, 2)) (w : (Cond.constant own i v).before a0 Z = true) (hq : pc + 2 = q) (h : Goes p e below P T (mkF m q Ls (.int v :: st))) : Goes p e below P T (mkF m pc Ls (st)) := by
  subst hq; exact Goes.st (fun _ k => X.ldcI K.hx K.hown (mvT K.hZ w) rfl (hb K.by' hd) k) h
theorem s_anull (K : Cx Z p s m meth c own bytes maxL ret nm) (X : Stand p l e R s m args below meth c T locs cells slots)  (hd : decode bytes pc = .ok (.aconst_null, 1))  (hq : pc + 1 = q) (h : Goes p e below P T (mkF m q Ls (.null :: st))) : Goes p e below P T (mkF m pc Ls (st)) := by
  subst hq; exact Goes.st (fun _ k => XS.aconstNull X.here K.hx rfl (hb K.by' hd) k) h
theorem s_iadd (K : Cx Z p s m meth c own bytes maxL ret nm) (X : Stand p l e R s m args below meth c T locs cells slots) {x y : Int32} (hd : decode bytes pc = .ok (.iadd, 1))  (hq : pc + 1 = q) (h : Goes p e below P T (mkF m q Ls (.int (x + y) :: st))) : Goes p e below P T (mkF m pc Ls (.int y :: .int x :: st)) := by
  subst hq; exact Goes.st (fun _ k => XS.iadd X.here K.hx rfl (hb K.by' hd) rfl k) h
theorem s_isub (K : Cx Z p s m meth c own bytes maxL ret nm) (X : Stand p l e R s m args below meth c T locs cells slots) {x y : Int32} (hd : decode bytes pc = .ok (.isub, 1))  (hq : pc + 1 = q) (h : Goes p e below P T (mkF m q Ls (.int (x - y) :: st))) : Goes p e below P T (mkF m pc Ls (.int y :: .int x :: st)) := by
  subst hq; exact Goes.st (fun _ k => XS.isub X.here K.hx rfl (hb K.by' hd) rfl k) h
theorem s_iand (K : Cx Z p s m meth c own bytes maxL ret nm) (X : Stand p l e R s m args below meth c T locs cells slots) {x y : Int32} (hd : decode bytes pc = .ok (.iand, 1))  (hq : pc + 1 = q) (h : Goes p e below P T (mkF m q Ls (.int (x &&& y) :: st))) : Goes p e below P T (mkF m pc Ls (.int y :: .int x :: st)) := by
  subst hq; exact Goes.st (fun _ k => XS.iand X.here K.hx rfl (hb K.by' hd) rfl k) h
theorem s_ishr (K : Cx Z p s m meth c own bytes maxL ret nm) (X : Stand p l e R s m args below meth c T locs cells slots) {x y : Int32} (hd : decode bytes pc = .ok (.ishr, 1))  (hq : pc + 1 = q) (h : Goes p e below P T (mkF m q Ls (.int (x >>> (y &&& 31)) :: st))) : Goes p e below P T (mkF m pc Ls (.int y :: .int x :: st)) := by
  subst hq; exact Goes.st (fun _ k => XT.ishr X.here K.hx rfl (hb K.by' hd) rfl k) h
theorem s_iushr (K : Cx Z p s m meth c own bytes maxL ret nm) (X : Stand p l e R s m args below meth c T locs cells slots) {x y : Int32} (hd : decode bytes pc = .ok (.iushr, 1))  (hq : pc + 1 = q) (h : Goes p e below P T (mkF m q Ls (.int (XT.ushr x y) :: st))) : Goes p e below P T (mkF m pc Ls (.int y :: .int x :: st)) := by
  subst hq; exact Goes.st (fun _ k => XT.iushr X.here K.hx rfl (hb K.by' hd) rfl k) h
theorem s_irem (K : Cx Z p s m meth c own bytes maxL ret nm) (X : Stand p l e R s m args below meth c T locs cells slots) {x y : Int32} (hd : decode bytes pc = .ok (.irem, 1)) (hy : y ≠ 0) (hq : pc + 1 = q) (h : Goes p e below P T (mkF m q Ls (.int (x % y) :: st))) : Goes p e below P T (mkF m pc Ls (.int y :: .int x :: st)) := by
  subst hq; exact Goes.st (fun _ k => iremM X K.hx rfl (hb K.by' hd) rfl hy k) h
theorem s_i2b (K : Cx Z p s m meth c own bytes maxL ret nm) (X : Stand p l e R s m args below meth c T locs cells slots) {x : Int32} (hd : decode bytes pc = .ok (.i2b, 1))  (hq : pc + 1 = q) (h : Goes p e below P T (mkF m q Ls (.int (x.toInt8.toInt32) :: st))) : Goes p e below P T (mkF m pc Ls (.int x :: st)) := by
  subst hq; exact Goes.st (fun _ k => XT.i2b X.here K.hx rfl (hb K.by' hd) rfl k) h
theorem s_dup (K : Cx Z p s m meth c own bytes maxL ret nm) (X : Stand p l e R s m args below meth c T locs cells slots) {x : Value} (hd : decode bytes pc = .ok (.dup, 1)) (hc : x.category = 1) (hq : pc + 1 = q) (h : Goes p e below P T (mkF m q Ls (x :: x :: st))) : Goes p e below P T (mkF m pc Ls (x :: st)) := by
  subst hq; exact Goes.st (fun _ k => XS.dup X.here K.hx rfl (hb K.by' hd) rfl hc k) h
theorem s_pop (K : Cx Z p s m meth c own bytes maxL ret nm) (X : Stand p l e R s m args below meth c T locs cells slots) {x : Value} (hd : decode bytes pc = .ok (.pop, 1)) (hc : x.category = 1) (hq : pc + 1 = q) (h : Goes p e below P T (mkF m q Ls (st))) : Goes p e below P T (mkF m pc Ls (x :: st)) := by
  subst hq; exact Goes.st (fun _ k => XT.pop X.here K.hx rfl (hb K.by' hd) rfl hc k) h
theorem s_dupX1 (K : Cx Z p s m meth c own bytes maxL ret nm) (X : Stand p l e R s m args below meth c T locs cells slots) {x y : Value} (hd : decode bytes pc = .ok (.dup_x1, 1)) (hc : x.category = 1) (hc' : y.category = 1) (hq : pc + 1 = q) (h : Goes p e below P T (mkF m q Ls (x :: y :: x :: st))) : Goes p e below P T (mkF m pc Ls (x :: y :: st)) := by
  subst hq; exact Goes.st (fun _ k => XT.dupX1 X.here K.hx rfl (hb K.by' hd) rfl hc hc' k) h
theorem s_iinc (K : Cx Z p s m meth c own bytes maxL ret nm) (X : Stand p l e R s m args below meth c T locs cells slots) {k : Nat} {cst : Int} {x : Int32} {l' : Array Slot} (hd : decode bytes pc = .ok (.iinc k cst, 3)) (hl : Ls[k]? = some (.val (.int x))) (hl' : storeLocals Ls k (.int (x + Int32.ofInt cst)) = some l') (hq : pc + 3 = q) (h : Goes p e below P T (mkF m q l' (st))) : Goes p e below P T (mkF m pc Ls (st)) := by
  subst hq; exact Goes.st (fun _ k => XS.iinc X.here K.hx rfl (hb K.by' hd) hl hl' k) h
theorem s_goto (K : Cx Z p s m meth c own bytes maxL ret nm) (X : Stand p l e R s m args below meth c T locs cells slots) {o : Int} (hd : decode bytes pc = .ok (.goto o, 3)) (ho : 0 ≤ (pc : Int) + o) (hp : ((pc : Int) + o).toNat = q) (h : Goes p e below P T (mkF m q Ls st)) : Goes p e below P T (mkF m pc Ls st) :=
  Goes.st (fun _ k => XS.goto X.here K.hx rfl rfl (hb K.by' hd) ho hp k) h
theorem s_icmp_eq (K : Cx Z p s m meth c own bytes maxL ret nm) (X : Stand p l e R s m args below meth c T locs cells slots) {x y : Int32} {o : Int} {q' : Nat} (hd : decode bytes pc = .ok (.if_icmp .eq o, 3)) (ho : 0 ≤ (pc : Int) + o) (hp : ((pc : Int) + o).toNat = q) (hq : pc + 3 = q') (hy : x = y → Goes p e below P T (mkF m q Ls st)) (hn : ¬ x = y → Goes p e below P T (mkF m q' Ls st)) : Goes p e below P T (mkF m pc Ls (.int y :: .int x :: st)) := by
  subst hq
  by_cases z : x = y
  · exact Goes.st (fun _ k => XS.icmpYes X.here K.hx rfl rfl (hb K.by' hd) rfl (XT.ii_eq_t z) ho hp k) (hy z)
  · exact Goes.st (fun _ k => XS.icmpNo X.here K.hx rfl (hb K.by' hd) rfl (XT.ii_eq_f (by simpa using z)) k) (hn (by simpa using z))
theorem s_if_eq (K : Cx Z p s m meth c own bytes maxL ret nm) (X : Stand p l e R s m args below meth c T locs cells slots) {x : Int32} {o : Int} {q' : Nat} (hd : decode bytes pc = .ok (.ifCond .eq o, 3)) (ho : 0 ≤ (pc : Int) + o) (hp : ((pc : Int) + o).toNat = q) (hq : pc + 3 = q') (hy : x = 0 → Goes p e below P T (mkF m q Ls st)) (hn : ¬ x = 0 → Goes p e below P T (mkF m q' Ls st)) : Goes p e below P T (mkF m pc Ls (.int x :: st)) := by
  subst hq
  by_cases z : x = 0
  · exact Goes.st (fun _ k => XS.ifYes X.here K.hx rfl rfl (hb K.by' hd) rfl (XT.i0_eq_t z) ho hp k) (hy z)
  · exact Goes.st (fun _ k => XS.ifNo X.here K.hx rfl (hb K.by' hd) rfl (XT.i0_eq_f (by simpa using z)) k) (hn (by simpa using z))
theorem s_icmp_ne (K : Cx Z p s m meth c own bytes maxL ret nm) (X : Stand p l e R s m args below meth c T locs cells slots) {x y : Int32} {o : Int} {q' : Nat} (hd : decode bytes pc = .ok (.if_icmp .ne o, 3)) (ho : 0 ≤ (pc : Int) + o) (hp : ((pc : Int) + o).toNat = q) (hq : pc + 3 = q') (hy : ¬ x = y → Goes p e below P T (mkF m q Ls st)) (hn : x = y → Goes p e below P T (mkF m q' Ls st)) : Goes p e below P T (mkF m pc Ls (.int y :: .int x :: st)) := by
  subst hq
  by_cases z : ¬ x = y
  · exact Goes.st (fun _ k => XS.icmpYes X.here K.hx rfl rfl (hb K.by' hd) rfl (XT.ii_ne_t z) ho hp k) (hy z)
  · exact Goes.st (fun _ k => XS.icmpNo X.here K.hx rfl (hb K.by' hd) rfl (XT.ii_ne_f (by simpa using z)) k) (hn (by simpa using z))
theorem s_if_ne (K : Cx Z p s m meth c own bytes maxL ret nm) (X : Stand p l e R s m args below meth c T locs cells slots) {x : Int32} {o : Int} {q' : Nat} (hd : decode bytes pc = .ok (.ifCond .ne o, 3)) (ho : 0 ≤ (pc : Int) + o) (hp : ((pc : Int) + o).toNat = q) (hq : pc + 3 = q') (hy : ¬ x = 0 → Goes p e below P T (mkF m q Ls st)) (hn : x = 0 → Goes p e below P T (mkF m q' Ls st)) : Goes p e below P T (mkF m pc Ls (.int x :: st)) := by
  subst hq
  by_cases z : ¬ x = 0
  · exact Goes.st (fun _ k => XS.ifYes X.here K.hx rfl rfl (hb K.by' hd) rfl (XT.i0_ne_t z) ho hp k) (hy z)
  · exact Goes.st (fun _ k => XS.ifNo X.here K.hx rfl (hb K.by' hd) rfl (XT.i0_ne_f (by simpa using z)) k) (hn (by simpa using z))
theorem s_icmp_lt (K : Cx Z p s m meth c own bytes maxL ret nm) (X : Stand p l e R s m args below meth c T locs cells slots) {x y : Int32} {o : Int} {q' : Nat} (hd : decode bytes pc = .ok (.if_icmp .lt o, 3)) (ho : 0 ≤ (pc : Int) + o) (hp : ((pc : Int) + o).toNat = q) (hq : pc + 3 = q') (hy : x < y → Goes p e below P T (mkF m q Ls st)) (hn : ¬ x < y → Goes p e below P T (mkF m q' Ls st)) : Goes p e below P T (mkF m pc Ls (.int y :: .int x :: st)) := by
  subst hq
  by_cases z : x < y
  · exact Goes.st (fun _ k => XS.icmpYes X.here K.hx rfl rfl (hb K.by' hd) rfl (XT.ii_lt_t z) ho hp k) (hy z)
  · exact Goes.st (fun _ k => XS.icmpNo X.here K.hx rfl (hb K.by' hd) rfl (XT.ii_lt_f (by simpa using z)) k) (hn (by simpa using z))
theorem s_if_lt (K : Cx Z p s m meth c own bytes maxL ret nm) (X : Stand p l e R s m args below meth c T locs cells slots) {x : Int32} {o : Int} {q' : Nat} (hd : decode bytes pc = .ok (.ifCond .lt o, 3)) (ho : 0 ≤ (pc : Int) + o) (hp : ((pc : Int) + o).toNat = q) (hq : pc + 3 = q') (hy : x < 0 → Goes p e below P T (mkF m q Ls st)) (hn : ¬ x < 0 → Goes p e below P T (mkF m q' Ls st)) : Goes p e below P T (mkF m pc Ls (.int x :: st)) := by
  subst hq
  by_cases z : x < 0
  · exact Goes.st (fun _ k => XS.ifYes X.here K.hx rfl rfl (hb K.by' hd) rfl (XT.i0_lt_t z) ho hp k) (hy z)
  · exact Goes.st (fun _ k => XS.ifNo X.here K.hx rfl (hb K.by' hd) rfl (XT.i0_lt_f (by simpa using z)) k) (hn (by simpa using z))
theorem s_icmp_ge (K : Cx Z p s m meth c own bytes maxL ret nm) (X : Stand p l e R s m args below meth c T locs cells slots) {x y : Int32} {o : Int} {q' : Nat} (hd : decode bytes pc = .ok (.if_icmp .ge o, 3)) (ho : 0 ≤ (pc : Int) + o) (hp : ((pc : Int) + o).toNat = q) (hq : pc + 3 = q') (hy : ¬ x < y → Goes p e below P T (mkF m q Ls st)) (hn : x < y → Goes p e below P T (mkF m q' Ls st)) : Goes p e below P T (mkF m pc Ls (.int y :: .int x :: st)) := by
  subst hq
  by_cases z : ¬ x < y
  · exact Goes.st (fun _ k => XS.icmpYes X.here K.hx rfl rfl (hb K.by' hd) rfl (XT.ii_ge_t z) ho hp k) (hy z)
  · exact Goes.st (fun _ k => XS.icmpNo X.here K.hx rfl (hb K.by' hd) rfl (XT.ii_ge_f (by simpa using z)) k) (hn (by simpa using z))
theorem s_if_ge (K : Cx Z p s m meth c own bytes maxL ret nm) (X : Stand p l e R s m args below meth c T locs cells slots) {x : Int32} {o : Int} {q' : Nat} (hd : decode bytes pc = .ok (.ifCond .ge o, 3)) (ho : 0 ≤ (pc : Int) + o) (hp : ((pc : Int) + o).toNat = q) (hq : pc + 3 = q') (hy : ¬ x < 0 → Goes p e below P T (mkF m q Ls st)) (hn : x < 0 → Goes p e below P T (mkF m q' Ls st)) : Goes p e below P T (mkF m pc Ls (.int x :: st)) := by
  subst hq
  by_cases z : ¬ x < 0
  · exact Goes.st (fun _ k => XS.ifYes X.here K.hx rfl rfl (hb K.by' hd) rfl (XT.i0_ge_t z) ho hp k) (hy z)
  · exact Goes.st (fun _ k => XS.ifNo X.here K.hx rfl (hb K.by' hd) rfl (XT.i0_ge_f (by simpa using z)) k) (hn (by simpa using z))
theorem s_icmp_gt (K : Cx Z p s m meth c own bytes maxL ret nm) (X : Stand p l e R s m args below meth c T locs cells slots) {x y : Int32} {o : Int} {q' : Nat} (hd : decode bytes pc = .ok (.if_icmp .gt o, 3)) (ho : 0 ≤ (pc : Int) + o) (hp : ((pc : Int) + o).toNat = q) (hq : pc + 3 = q') (hy : y < x → Goes p e below P T (mkF m q Ls st)) (hn : ¬ y < x → Goes p e below P T (mkF m q' Ls st)) : Goes p e below P T (mkF m pc Ls (.int y :: .int x :: st)) := by
  subst hq
  by_cases z : y < x
  · exact Goes.st (fun _ k => XS.icmpYes X.here K.hx rfl rfl (hb K.by' hd) rfl (XT.ii_gt_t z) ho hp k) (hy z)
  · exact Goes.st (fun _ k => XS.icmpNo X.here K.hx rfl (hb K.by' hd) rfl (XT.ii_gt_f (by simpa using z)) k) (hn (by simpa using z))
theorem s_if_gt (K : Cx Z p s m meth c own bytes maxL ret nm) (X : Stand p l e R s m args below meth c T locs cells slots) {x : Int32} {o : Int} {q' : Nat} (hd : decode bytes pc = .ok (.ifCond .gt o, 3)) (ho : 0 ≤ (pc : Int) + o) (hp : ((pc : Int) + o).toNat = q) (hq : pc + 3 = q') (hy : 0 < x → Goes p e below P T (mkF m q Ls st)) (hn : ¬ 0 < x → Goes p e below P T (mkF m q' Ls st)) : Goes p e below P T (mkF m pc Ls (.int x :: st)) := by
  subst hq
  by_cases z : 0 < x
  · exact Goes.st (fun _ k => XS.ifYes X.here K.hx rfl rfl (hb K.by' hd) rfl (XT.i0_gt_t z) ho hp k) (hy z)
  · exact Goes.st (fun _ k => XS.ifNo X.here K.hx rfl (hb K.by' hd) rfl (XT.i0_gt_f (by simpa using z)) k) (hn (by simpa using z))
theorem s_icmp_le (K : Cx Z p s m meth c own bytes maxL ret nm) (X : Stand p l e R s m args below meth c T locs cells slots) {x y : Int32} {o : Int} {q' : Nat} (hd : decode bytes pc = .ok (.if_icmp .le o, 3)) (ho : 0 ≤ (pc : Int) + o) (hp : ((pc : Int) + o).toNat = q) (hq : pc + 3 = q') (hy : ¬ y < x → Goes p e below P T (mkF m q Ls st)) (hn : y < x → Goes p e below P T (mkF m q' Ls st)) : Goes p e below P T (mkF m pc Ls (.int y :: .int x :: st)) := by
  subst hq
  by_cases z : ¬ y < x
  · exact Goes.st (fun _ k => XS.icmpYes X.here K.hx rfl rfl (hb K.by' hd) rfl (XT.ii_le_t z) ho hp k) (hy z)
  · exact Goes.st (fun _ k => XS.icmpNo X.here K.hx rfl (hb K.by' hd) rfl (XT.ii_le_f (by simpa using z)) k) (hn (by simpa using z))
theorem s_if_le (K : Cx Z p s m meth c own bytes maxL ret nm) (X : Stand p l e R s m args below meth c T locs cells slots) {x : Int32} {o : Int} {q' : Nat} (hd : decode bytes pc = .ok (.ifCond .le o, 3)) (ho : 0 ≤ (pc : Int) + o) (hp : ((pc : Int) + o).toNat = q) (hq : pc + 3 = q') (hy : ¬ 0 < x → Goes p e below P T (mkF m q Ls st)) (hn : 0 < x → Goes p e below P T (mkF m q' Ls st)) : Goes p e below P T (mkF m pc Ls (.int x :: st)) := by
  subst hq
  by_cases z : ¬ 0 < x
  · exact Goes.st (fun _ k => XS.ifYes X.here K.hx rfl rfl (hb K.by' hd) rfl (XT.i0_le_t z) ho hp k) (hy z)
  · exact Goes.st (fun _ k => XS.ifNo X.here K.hx rfl (hb K.by' hd) rfl (XT.i0_le_f (by simpa using z)) k) (hn (by simpa using z))
theorem s_acmp_eq (K : Cx Z p s m meth c own bytes maxL ret nm) (X : Stand p l e R s m args below meth c T locs cells slots) {x y : Value} {o : Int} {q' : Nat} (hd : decode bytes pc = .ok (.if_acmp .eq o, 3)) (h1 : x.isRef = true) (h2 : y.isRef = true) (ho : 0 ≤ (pc : Int) + o) (hp : ((pc : Int) + o).toNat = q) (hq : pc + 3 = q') (hy : x = y → Goes p e below P T (mkF m q Ls st)) (hn : ¬ x = y → Goes p e below P T (mkF m q' Ls st)) : Goes p e below P T (mkF m pc Ls (y :: x :: st)) := by
  subst hq
  by_cases z : x = y
  · exact Goes.st (fun _ k => XT.acmpYes X.here K.hx rfl rfl (hb K.by' hd) rfl h1 h2 (XT.aa_eq_t z) ho hp k) (hy z)
  · exact Goes.st (fun _ k => XT.acmpNo X.here K.hx rfl (hb K.by' hd) rfl h1 h2 (XT.aa_eq_f (by simpa using z)) k) (hn (by simpa using z))
theorem s_acmp_ne (K : Cx Z p s m meth c own bytes maxL ret nm) (X : Stand p l e R s m args below meth c T locs cells slots) {x y : Value} {o : Int} {q' : Nat} (hd : decode bytes pc = .ok (.if_acmp .ne o, 3)) (h1 : x.isRef = true) (h2 : y.isRef = true) (ho : 0 ≤ (pc : Int) + o) (hp : ((pc : Int) + o).toNat = q) (hq : pc + 3 = q') (hy : ¬ x = y → Goes p e below P T (mkF m q Ls st)) (hn : x = y → Goes p e below P T (mkF m q' Ls st)) : Goes p e below P T (mkF m pc Ls (y :: x :: st)) := by
  subst hq
  by_cases z : ¬ x = y
  · exact Goes.st (fun _ k => XT.acmpYes X.here K.hx rfl rfl (hb K.by' hd) rfl h1 h2 (XT.aa_ne_t z) ho hp k) (hy z)
  · exact Goes.st (fun _ k => XT.acmpNo X.here K.hx rfl (hb K.by' hd) rfl h1 h2 (XT.aa_ne_f (by simpa using z)) k) (hn (by simpa using z))
theorem s_ifnull (K : Cx Z p s m meth c own bytes maxL ret nm) (X : Stand p l e R s m args below meth c T locs cells slots) {x : Value} {o : Int} {q' : Nat} (hd : decode bytes pc = .ok (.ifnull o, 3)) (h1 : x.isRef = true) (ho : 0 ≤ (pc : Int) + o) (hp : ((pc : Int) + o).toNat = q) (hq : pc + 3 = q') (hy : x = .null → Goes p e below P T (mkF m q Ls st)) (hn : ¬ x = .null → Goes p e below P T (mkF m q' Ls st)) : Goes p e below P T (mkF m pc Ls (x :: st)) := by
  subst hq
  by_cases z : x = .null
  · exact Goes.st (fun _ k => XT.nullYes X.here K.hx rfl rfl (hb K.by' hd) rfl z ho hp k) (hy z)
  · exact Goes.st (fun _ k => XT.nullNo X.here K.hx rfl (hb K.by' hd) rfl h1 z k) (hn (by simpa using z))
theorem s_ifnonnull (K : Cx Z p s m meth c own bytes maxL ret nm) (X : Stand p l e R s m args below meth c T locs cells slots) {x : Value} {o : Int} {q' : Nat} (hd : decode bytes pc = .ok (.ifnonnull o, 3)) (h1 : x.isRef = true) (ho : 0 ≤ (pc : Int) + o) (hp : ((pc : Int) + o).toNat = q) (hq : pc + 3 = q') (hy : ¬ x = .null → Goes p e below P T (mkF m q Ls st)) (hn : x = .null → Goes p e below P T (mkF m q' Ls st)) : Goes p e below P T (mkF m pc Ls (x :: st)) := by
  subst hq
  by_cases z : ¬ x = .null
  · exact Goes.st (fun _ k => XT.nonnullYes X.here K.hx rfl rfl (hb K.by' hd) rfl h1 z ho hp k) (hy z)
  · exact Goes.st (fun _ k => XT.nonnullNo X.here K.hx rfl (hb K.by' hd) rfl (by simpa using z) k) (hn (by simpa using z))
theorem s_tsw (K : Cx Z p s m meth c own bytes maxL ret nm) (X : Stand p l e R s m args below meth c T locs cells slots) {dflt low high : Int} {offs : Array Int} {len : Nat} {o : Int} {i : Int32} (hd : decode bytes pc = .ok (.tableswitch dflt low high offs, len)) (hin : ¬ (i.toInt < low ∨ i.toInt > high)) (hoff : offs[(i.toInt - low).toNat]? = some o) (ho : 0 ≤ (pc : Int) + o) (hp : ((pc : Int) + o).toNat = q) (h : Goes p e below P T (mkF m q Ls st)) : Goes p e below P T (mkF m pc Ls (.int i :: st)) :=
  Goes.st (fun _ k => XS.tswIn X.here K.hx rfl rfl (hb K.by' hd) rfl hin hoff ho hp k) h
theorem s_getS (K : Cx Z p s m meth c own bytes maxL ret nm) (X : Stand p l e R s m args below meth c T locs cells slots) {C n d : String} {i : Nat} {v : Value} (hd : decode bytes pc = .ok (.getstatic i, 3)) (w : (Cond.fieldLink own i C n d).before a0 Z = true) (eT : T.heap = h) (F : Sta Z h C n d v) (hq : pc + 3 = q)
    (k : ∀ T', Stand p l e R s m args below meth c T' locs cells slots → T'.heap = h → Goes p e below P T' (mkF m q Ls (v :: st))) : Goes p e below P T (mkF m pc Ls st) := by
  subst hq
  obtain ⟨T', X', e', st'⟩ := getS (host := "") X K.hx K.hZ K.hown w Via.refl eT F (g := mkF m pc Ls st) rfl (hb K.by' hd)
  exact Goes.st st' (k T' X' e')
theorem s_getSN (K : Cx Z p s m meth c own bytes maxL ret nm) (X : Stand p l e R s m args below meth c T locs cells slots) {C n d host : String} {i : Nat} {v : Value} (hd : decode bytes pc = .ok (.getstatic i, 3)) (w : (Cond.fieldLinkNest own i C n d host).before a0 Z = true) (eT : T.heap = h) (F : Sta Z h C n d v) (hq : pc + 3 = q)
    (k : ∀ T', Stand p l e R s m args below meth c T' locs cells slots → T'.heap = h → Goes p e below P T' (mkF m q Ls (v :: st))) : Goes p e below P T (mkF m pc Ls st) := by
  subst hq
  obtain ⟨T', X', e', st'⟩ := getS2 X K.hx K.hZ K.hown (Or.inr w) Via.refl eT F (g := mkF m pc Ls st) rfl (hb K.by' hd)
  exact Goes.st st' (k T' X' e')
theorem s_getF (K : Cx Z p s m meth c own bytes maxL ret nm) (X : Stand p l e R s m args below meth c T locs cells slots) {C n d : String} {i : Nat} {a : Addr} {v : Value} (hd : decode bytes pc = .ok (.getfield i, 3)) (w : (Cond.fieldLink own i C n d).before a0 Z = true) (eT : T.heap = h) (F : Fld Z h a C n d v) (hq : pc + 3 = q)
    (k : ∀ T', Stand p l e R s m args below meth c T' locs cells slots → T'.heap = h → Goes p e below P T' (mkF m q Ls (v :: st))) : Goes p e below P T (mkF m pc Ls (.ref a :: st)) := by
  subst hq
  obtain ⟨T', X', e', st'⟩ := getF X K.hx K.hZ K.hown (host := "") (Or.inl w) Via.refl eT F (g := mkF m pc Ls (.ref a :: st)) rfl rfl (hb K.by' hd)
  exact Goes.st st' (k T' X' e')
theorem s_getFV (K : Cx Z p s m meth c own bytes maxL ret nm) (X : Stand p l e R s m args below meth c T locs cells slots) {R0 C n d : String} {i : Nat} {a : Addr} {v : Value} (hd : decode bytes pc = .ok (.getfield i, 3)) (w : (Cond.fieldLink own i R0 n d).before a0 Z = true) (wv : (Cond.sameField R0 C n d).before a0 Z = true) (eT : T.heap = h) (F : Fld Z h a C n d v) (hq : pc + 3 = q)
    (k : ∀ T', Stand p l e R s m args below meth c T' locs cells slots → T'.heap = h → Goes p e below P T' (mkF m q Ls (v :: st))) : Goes p e below P T (mkF m pc Ls (.ref a :: st)) := by
  subst hq
  obtain ⟨T', X', e', st'⟩ := getF X K.hx K.hZ K.hown (host := "") (Or.inl w) (Via.of wv) eT F (g := mkF m pc Ls (.ref a :: st)) rfl rfl (hb K.by' hd)
  exact Goes.st st' (k T' X' e')
theorem s_getFN (K : Cx Z p s m meth c own bytes maxL ret nm) (X : Stand p l e R s m args below meth c T locs cells slots) {C n d host : String} {i : Nat} {a : Addr} {v : Value} (hd : decode bytes pc = .ok (.getfield i, 3)) (w : (Cond.fieldLinkNest own i C n d host).before a0 Z = true) (eT : T.heap = h) (F : Fld Z h a C n d v) (hq : pc + 3 = q)
    (k : ∀ T', Stand p l e R s m args below meth c T' locs cells slots → T'.heap = h → Goes p e below P T' (mkF m q Ls (v :: st))) : Goes p e below P T (mkF m pc Ls (.ref a :: st)) := by
  subst hq
  obtain ⟨T', X', e', st'⟩ := getF X K.hx K.hZ K.hown (Or.inr w) Via.refl eT F (g := mkF m pc Ls (.ref a :: st)) rfl rfl (hb K.by' hd)
  exact Goes.st st' (k T' X' e')
/-- putfield: a field that is no final one -/
theorem s_putF (K : Cx Z p s m meth c own bytes maxL ret nm) (X : Stand p l e R s m args below meth c T locs cells slots) {C D n d : String} {i kk : Nat} {ty : FieldType} {a : Addr} {v old : Value} (hd : decode bytes pc = .ok (.putfield i, 3)) (w : (Cond.fieldLink own i D n d).before a0 Z = true) (eT : T.heap = h) (F : Fld Z h a D n d old) (E : Exa Z h a C) (L : (Cond.lays C D n d).before a0 Z = true ∨ ((Cond.laysFinal C D n d).before a0 Z = true ∧ own = D ∧ nm = "<init>")) (wi : (Cond.instantiable C kk).before a0 Z = true) (hty : parseFieldDescriptor d = some ty) (hn : narrow ty v = v) (hf : fits ty v = true) (hq : pc + 3 = q)
    (k : ∀ T' h', Stand p l e R s m args below meth c T' (locs ++ [⟨a, RoadKit.slotOf Z D n d⟩]) cells slots → T'.heap = h' → Wr h h' a (RoadKit.slotOf Z D n d) v → Goes p e below P T' (mkF m q Ls st)) : Goes p e below P T (mkF m pc Ls (v :: .ref a :: st)) := by
  subst hq
  obtain ⟨T', h', X', e', W, st'⟩ := putF X K.hx K.hZ K.hown (host := "") (Or.inl w) Via.refl eT F E (L.imp id fun z => ⟨z.1, z.2.1, K.hnm.trans z.2.2⟩) wi hty hn hf (g := mkF m pc Ls (v :: .ref a :: st)) rfl rfl (hb K.by' hd)
  exact Goes.st st' (k T' h' X' e' W)
theorem s_putFNest (K : Cx Z p s m meth c own bytes maxL ret nm) (X : Stand p l e R s m args below meth c T locs cells slots) {C D n d host : String} {i kk : Nat} {ty : FieldType} {a : Addr} {v old : Value} (hd : decode bytes pc = .ok (.putfield i, 3)) (w : (Cond.fieldLinkNest own i D n d host).before a0 Z = true) (eT : T.heap = h) (F : Fld Z h a D n d old) (E : Exa Z h a C) (L : (Cond.lays C D n d).before a0 Z = true) (wi : (Cond.instantiable C kk).before a0 Z = true) (hty : parseFieldDescriptor d = some ty) (hn : narrow ty v = v) (hf : fits ty v = true) (hq : pc + 3 = q)
    (k : ∀ T' h', Stand p l e R s m args below meth c T' (locs ++ [⟨a, RoadKit.slotOf Z D n d⟩]) cells slots → T'.heap = h' → Wr h h' a (RoadKit.slotOf Z D n d) v → Goes p e below P T' (mkF m q Ls st)) : Goes p e below P T (mkF m pc Ls (v :: .ref a :: st)) := by
  subst hq
  obtain ⟨T', h', X', e', W, st'⟩ := putF X K.hx K.hZ K.hown (Or.inr w) Via.refl eT F E (Or.inl L) wi hty hn hf (g := mkF m pc Ls (v :: .ref a :: st)) rfl rfl (hb K.by' hd)
  exact Goes.st st' (k T' h' X' e' W)
theorem s_new (K : Cx Z p s m meth c own bytes maxL ret nm) (X : Stand p l e R s m args below meth c T locs cells slots) {C : String} {i n : Nat} (hd : decode bytes pc = .ok (.new i, 3)) (w : (Cond.classLink own i C).before a0 Z = true) (wi : (Cond.instantiable C n).before a0 Z = true) (wz : (Cond.initialized C).before a0 Z = true) (eT : T.heap = h) (hc : cells + 1 ≤ R.cells) (hl : slots + n ≤ R.slots) (hq : pc + 3 = q)
    (k : ∀ T' h' a, a = h.size → Stand p l e R s m args below meth c T' locs (cells + 1) (slots + n) → T'.heap = h' → Ext h h' → Exa Z h' a C → (∀ {O nm d : String} {ty : FieldType}, Laid Z a0 C O nm d → parseFieldDescriptor d = some ty → Fld Z h' a O nm d (defaultValue ty)) → Goes p e below P T' (mkF m q Ls (.ref a :: st))) : Goes p e below P T (mkF m pc Ls st) := by
  subst hq
  obtain ⟨T', h', X', e', E, A, D, -, st'⟩ := newO X K.hx K.hZ K.hown w wi wz eT (g := mkF m pc Ls st) rfl (hb K.by' hd) hc hl
  exact Goes.st st' (k T' h' h.size rfl X' e' E A D)
theorem s_newR (K : Cx Z p s m meth c own bytes maxL ret nm) (X : Stand p l e R s m args below meth c T locs cells slots) {C : String} {i : Nat} {n : Int32} (hd : decode bytes pc = .ok (.anewarray i, 3)) (w1 : (Cond.classLink own i C).before a0 Z = true) (w2 : (Cond.arrayOver (.object C)).before a0 Z = true) (eT : T.heap = h) (hn : ¬ n < 0) (cap : Nat) (hcap : n.toNatClampNeg ≤ cap) (hb' : cap * 8 ≤ 536870912) (hc : cells + 1 ≤ R.cells) (hl : slots + cap ≤ R.slots) (hq : pc + 3 = q)
    (k : ∀ T' h' a cA, a = h.size → Stand p l e R s m args below meth c T' locs (cells + 1) (slots + cap) → T'.heap = h' → Ext h h' → Arr Z h' a (newA cA (.object C) n) (.object C) → Ovr Z cA C → Goes p e below P T' (mkF m q Ls (.ref a :: st))) : Goes p e below P T (mkF m pc Ls (.int n :: st)) := by
  subst hq
  obtain ⟨T', h', cA, X', e', E, A, O, st'⟩ := newR X K.hx K.hZ K.hown w1 w2 eT (g := mkF m pc Ls (.int n :: st)) rfl (hb K.by' hd) rfl hn hcap hb' hc hl
  exact Goes.st st' (k T' h' h.size cA rfl X' e' E A O)
theorem s_newP (K : Cx Z p s m meth c own bytes maxL ret nm) (X : Stand p l e R s m args below meth c T locs cells slots) {aty : ArrayType} {n : Int32} (hd : decode bytes pc = .ok (.newarray aty, 2)) (w : (Cond.arrayClass (newarray.typeOf aty)).before a0 Z = true) (eT : T.heap = h) (hn : ¬ n < 0) (cap : Nat) (hcap : n.toNatClampNeg ≤ cap) (hb' : cap * 8 ≤ 536870912) (hc : cells + 1 ≤ R.cells) (hl : slots + cap ≤ R.slots) (hq : pc + 2 = q)
    (k : ∀ T' h' a cA, a = h.size → Stand p l e R s m args below meth c T' locs (cells + 1) (slots + cap) → T'.heap = h' → Ext h h' → Arr Z h' a (newA cA (newarray.typeOf aty) n) (newarray.typeOf aty) → Goes p e below P T' (mkF m q Ls (.ref a :: st))) : Goes p e below P T (mkF m pc Ls (.int n :: st)) := by
  subst hq
  obtain ⟨T', h', cA, X', e', E, A, st'⟩ := newP X K.hx K.hZ w eT (g := mkF m pc Ls (.int n :: st)) rfl (hb K.by' hd) rfl hn hcap hb' hc hl
  exact Goes.st st' (k T' h' h.size cA rfl X' e' E A)
theorem s_stR (K : Cx Z p s m meth c own bytes maxL ret nm) (X : Stand p l e R s m args below meth c T locs cells slots) {a : Addr} {cl : Cell} {ty : FieldType} {j : Int32} {v : Value} (hd : decode bytes pc = .ok (.aastore, 1)) (eT : T.heap = h) (A : Arr Z h a cl ty) (hj : ¬ (j < 0 ∨ cl.slots.size ≤ j.toNatClampNeg)) (hty : ty.isReference = true) (F : Sto Z h a v) (hq : pc + 1 = q)
    (k : ∀ T' h', Stand p l e R s m args below meth c T' (locs ++ [⟨a, j.toNatClampNeg⟩]) cells slots → T'.heap = h' → Wr h h' a j.toNatClampNeg v → Goes p e below P T' (mkF m q Ls st)) : Goes p e below P T (mkF m pc Ls (v :: .int j :: .ref a :: st)) := by
  subst hq
  obtain ⟨T', h', X', e', W, st'⟩ := stR X K.hx K.hZ eT A hj hty F (g := mkF m pc Ls (v :: .int j :: .ref a :: st)) rfl rfl (hb K.by' hd)
  exact Goes.st st' (k T' h' X' e' W)
theorem s_stC (K : Cx Z p s m meth c own bytes maxL ret nm) (X : Stand p l e R s m args below meth c T locs cells slots) {a : Addr} {cl : Cell} {j x : Int32} (hd : decode bytes pc = .ok (.castore, 1)) (eT : T.heap = h) (A : Arr Z h a cl .char) (hj : ¬ (j < 0 ∨ cl.slots.size ≤ j.toNatClampNeg)) (hq : pc + 1 = q)
    (k : ∀ T' h', Stand p l e R s m args below meth c T' (locs ++ [⟨a, j.toNatClampNeg⟩]) cells slots → T'.heap = h' → Wr h h' a j.toNatClampNeg (.int (nar .char x)) → Goes p e below P T' (mkF m q Ls st)) : Goes p e below P T (mkF m pc Ls (.int x :: .int j :: .ref a :: st)) := by
  subst hq
  obtain ⟨T', h', X', e', W, st'⟩ := stC X K.hx K.hZ eT A hj (g := mkF m pc Ls (.int x :: .int j :: .ref a :: st)) rfl rfl (hb K.by' hd)
  exact Goes.st st' (k T' h' X' e' W)
theorem s_aaload (K : Cx Z p s m meth c own bytes maxL ret nm) (X : Stand p l e R s m args below meth c T locs cells slots) {a : Addr} {cl : Cell} {ty : FieldType} {j : Int32} {v : Value} (hd : decode bytes pc = .ok (.aaload, 1)) (eT : T.heap = h) (A : Arr Z h a cl ty) (hty : ty.isReference = true) (hj : ¬ (j < 0 ∨ cl.slots.size ≤ j.toNatClampNeg)) (hv : cl.slots[j.toNatClampNeg]? = some v) (hq : pc + 1 = q) (k : Goes p e below P T (mkF m q Ls (v :: st))) : Goes p e below P T (mkF m pc Ls (.int j :: .ref a :: st)) := by
  subst hq
  exact Goes.st (fun t kk => X.aaload K.hx (j := j) (v := v) (by rw [eT]; exact A.1) (State.isArrayOf_alike K.hZ.alike A.2.1) hty A.2.2 hj hv (g := mkF m pc Ls (.int j :: .ref a :: st)) rfl rfl (hb K.by' hd) t kk) k
theorem s_alen (K : Cx Z p s m meth c own bytes maxL ret nm) (X : Stand p l e R s m args below meth c T locs cells slots) {a : Addr} {cl : Cell} {ty : FieldType} {z : Int32} (hd : decode bytes pc = .ok (.arraylength, 1)) (eT : T.heap = h) (A : Arr Z h a cl ty) (hz : cl.slots.size.toInt32 = z) (hq : pc + 1 = q) (k : Goes p e below P T (mkF m q Ls (.int z :: st))) : Goes p e below P T (mkF m pc Ls (.ref a :: st)) := by
  subst hq hz
  exact Goes.st (fun t kk => X.arraylength K.hx (by rw [eT]; exact A.1) (State.isArrayOf_alike K.hZ.alike A.2.1) (g := mkF m pc Ls (.ref a :: st)) rfl rfl (hb K.by' hd) t kk) k
theorem s_castY (K : Cx Z p s m meth c own bytes maxL ret nm) (X : Stand p l e R s m args below meth c T locs cells slots) {C : String} {i : Nat} {a : Addr} (hd : decode bytes pc = .ok (.checkcast i, 3)) (w : (Cond.classLink own i C).before a0 Z = true) (eT : T.heap = h) (F : Ins Z h a C true) (hq : pc + 3 = q)
    (k : ∀ T', Stand p l e R s m args below meth c T' locs cells slots → T'.heap = h → Goes p e below P T' (mkF m q Ls (.ref a :: st))) : Goes p e below P T (mkF m pc Ls (.ref a :: st)) := by
  subst hq
  obtain ⟨T', X', e', st'⟩ := castY X K.hx K.hZ K.hown w eT F (g := mkF m pc Ls (.ref a :: st)) rfl rfl (hb K.by' hd)
  exact Goes.st st' (k T' X' e')
theorem s_castN (K : Cx Z p s m meth c own bytes maxL ret nm) (X : Stand p l e R s m args below meth c T locs cells slots) {i : Nat} (hd : decode bytes pc = .ok (.checkcast i, 3)) (hq : pc + 3 = q) (k : Goes p e below P T (mkF m q Ls (.null :: st))) : Goes p e below P T (mkF m pc Ls (.null :: st)) := by
  subst hq
  exact Goes.st (fun t kk => X.checkcastNull K.hx (g := mkF m pc Ls (.null :: st)) rfl rfl (hb K.by' hd) t kk) k
theorem s_instY (K : Cx Z p s m meth c own bytes maxL ret nm) (X : Stand p l e R s m args below meth c T locs cells slots) {C : String} {i : Nat} {a : Addr} (hd : decode bytes pc = .ok (.instanceof i, 3)) (w : (Cond.classLink own i C).before a0 Z = true) (eT : T.heap = h) (F : Ins Z h a C true) (hq : pc + 3 = q)
    (k : ∀ T', Stand p l e R s m args below meth c T' locs cells slots → T'.heap = h → Goes p e below P T' (mkF m q Ls (.int 1 :: st))) : Goes p e below P T (mkF m pc Ls (.ref a :: st)) := by
  subst hq
  obtain ⟨T', X', e', st'⟩ := instY X K.hx K.hZ K.hown w eT F (g := mkF m pc Ls (.ref a :: st)) rfl rfl (hb K.by' hd)
  exact Goes.st st' (k T' X' e')
theorem s_instNo (K : Cx Z p s m meth c own bytes maxL ret nm) (X : Stand p l e R s m args below meth c T locs cells slots) {C D : String} {i : Nat} {a : Addr} (hd : decode bytes pc = .ok (.instanceof i, 3)) (w : (Cond.classLink own i D).before a0 Z = true) (eT : T.heap = h) (E : Exa Z h a C) (F : ∃ c t, Z.vm.findClass C = some c ∧ Z.vm.findClass D = some t ∧ Z.vm.assignable c t = false) (hq : pc + 3 = q)
    (k : ∀ T', Stand p l e R s m args below meth c T' locs cells slots → T'.heap = h → Goes p e below P T' (mkF m q Ls (.int 0 :: st))) : Goes p e below P T (mkF m pc Ls (.ref a :: st)) := by
  subst hq
  obtain ⟨T', X', e', st'⟩ := instNo X K.hx K.hZ K.hown w eT E F (g := mkF m pc Ls (.ref a :: st)) rfl rfl (hb K.by' hd)
  exact Goes.st st' (k T' X' e')
theorem s_init0 (K : Cx Z p s m meth c own bytes maxL ret nm) (X : Stand p l e R s m args below meth c T locs cells slots) {i : Nat} {a : Addr} (W : Nat) (hd : decode bytes pc = .ok (.invokespecial i, 3)) (w1 : (Cond.methodLink own i Lib.objectInit).before a0 Z = true) (w2 : (Cond.instanceMethod Lib.objectInit).before a0 Z = true) (w3 : (Cond.code Lib.objectInit ⟨#[0xb1]⟩ 1 none).before a0 Z = true) (eT : T.heap = h) (hsz : Ls.size = maxL) (hf : 1 ≤ R.frames) (hW : (st.map fun v => v.category).sum ≤ W) (hl : W + 12 ≤ R.locals) (hq : pc + 3 = q)
    (k : ∀ T', Stand p l e R s m args below meth c T' locs cells slots → T'.heap = h → Goes p e below P T' (mkF m q Ls st)) : Goes p e below P T (mkF m pc Ls (.ref a :: st)) := by
  subst hq
  obtain ⟨T', X', e', st'⟩ := initO X K.hx K.hZ K.hown w1 w2 w3 eT (g := mkF m pc Ls (.ref a :: st)) rfl (by rw [K.ml]; exact hsz) rfl (hb K.by' hd) hf (W := W) (by simpa using hW) hl
  exact Goes.st st' (k T' X' e')
theorem fits_obj {v : Value} {C : String} (hv : v.isRef = true) : fits (.object C) v = true := by rcases ref_cases hv with rfl | ⟨a, rfl⟩ <;> rfl
theorem s_newV (K : Cx Z p s m meth c own bytes maxL ret nm) (X : Stand p l e R s m args below meth c T locs cells slots) {C : String} {i : Nat} {n : Int32} (hd : decode bytes pc = .ok (.anewarray i, 3)) (w1 : (Cond.classLink own i C).before a0 Z = true) (w2 : (Cond.arrayOver (.object C)).before a0 Z = true) (eT : T.heap = h) (hn : ¬ n < 0) (cap : Nat) (hcap : n.toNatClampNeg ≤ cap) (hb' : cap * 8 ≤ 536870912) (hc : cells + 1 ≤ R.cells) (hl : slots + cap ≤ R.slots) {vs : List Value} (hvs : vs = List.replicate n.toNatClampNeg .null) (hq : pc + 3 = q)
    (k : ∀ T' h' a cA, a = h.size → Stand p l e R s m args below meth c T' locs (cells + 1) (slots + cap) → T'.heap = h' → Ext h h' → Arv Z h' a cA (.object C) n vs .null → Ovr Z cA C → Goes p e below P T' (mkF m q Ls (.ref a :: st))) : Goes p e below P T (mkF m pc Ls (.int n :: st)) := by
  refine s_newR K X hd w1 w2 eT hn cap hcap hb' hc hl hq (fun T' h' a cA g X' e' E A O => k T' h' a cA g X' e' E ?_ O)
  subst hvs
  exact (Arv.new A hn).pad (pad_rep [] (defaultValue (.object C)) n.toNatClampNeg)
theorem s_stV (K : Cx Z p s m meth c own bytes maxL ret nm) (X : Stand p l e R s m args below meth c T locs cells slots) {a : Addr} {cA : ClassId} {C : String} {z j : Int32} {vs vs' : List Value} {v : Value} (hd : decode bytes pc = .ok (.aastore, 1)) (eT : T.heap = h) (V : Arv Z h a cA (.object C) z vs .null) (O : Ovr Z cA C) (hj : ¬ j < 0 ∧ j < z) (hv : v.isRef = true) (I : ∀ y, v = .ref y → Ins Z h y C true) (i : Nat) (hi : j.toNatClampNeg = i) (hl : i < vs.length) (hvs : vs.set i v = vs') (hq : pc + 1 = q)
    (k : ∀ T' h', Stand p l e R s m args below meth c T' (locs ++ [⟨a, i⟩]) cells slots → T'.heap = h' → Wr h h' a i v → Arv Z h' a cA (.object C) z vs' .null → Goes p e below P T' (mkF m q Ls st)) : Goes p e below P T (mkF m pc Ls (v :: .int j :: .ref a :: st)) := by
  obtain ⟨cl, Ar, q1, S, N, H, G⟩ := V
  refine s_stR K X hd eT Ar (inb_of S hj) rfl ?_ hq (fun T' h' X' e' W => ?_)
  · rcases ref_cases hv with rfl | ⟨y, rfl⟩
    · exact Or.inl rfl
    · exact Sto.ofV Ar q1 O (I y rfl)
  · have V' := Arv.set Ar q1 S N H G (fits_obj hv) W i hi hl
    rw [hvs] at V'
    subst hi
    exact k T' h' X' e' W V'
theorem s_ldV (K : Cx Z p s m meth c own bytes maxL ret nm) (X : Stand p l e R s m args below meth c T locs cells slots) {a : Addr} {cA : ClassId} {ty : FieldType} {z j : Int32} {vs : List Value} {v dv : Value} (hd : decode bytes pc = .ok (.aaload, 1)) (eT : T.heap = h) (V : Arv Z h a cA ty z vs dv) (hty : ty.isReference = true) (hj : ¬ j < 0 ∧ j < z) (hv : vs.getD j.toNatClampNeg dv = v) (hq : pc + 1 = q) (k : Goes p e below P T (mkF m q Ls (v :: st))) : Goes p e below P T (mkF m pc Ls (.int j :: .ref a :: st)) := by
  obtain ⟨cl, Ar, q1, S, N, H, G⟩ := V
  exact s_aaload K X hd eT Ar hty (inb_of S hj) (H.at (inb_of S hj) hv) hq k
theorem s_lenV (K : Cx Z p s m meth c own bytes maxL ret nm) (X : Stand p l e R s m args below meth c T locs cells slots) {a : Addr} {cA : ClassId} {ty : FieldType} {z : Int32} {vs : List Value} {dv : Value} (hd : decode bytes pc = .ok (.arraylength, 1)) (eT : T.heap = h) (V : Arv Z h a cA ty z vs dv) (hq : pc + 1 = q) (k : Goes p e below P T (mkF m q Ls (.int z :: st))) : Goes p e below P T (mkF m pc Ls (.ref a :: st)) := by
  obtain ⟨cl, Ar, q1, S, N, H, G⟩ := V
  exact s_alen K X hd eT Ar (len_of S N) hq k
theorem arv_of_arh {a : Addr} {k : ClassId} {ty : FieldType} {z : Int32} {vs : List Value} {dv : Value} (F : Arh Z h a k ty z [] vs dv) : Arv Z h a k ty z vs dv := by
  obtain ⟨c, A, q1, S, N, H, G⟩ := F; exact ⟨c, A, q1, S, N, H, G⟩
theorem s_clone (K : Cx Z p s m meth c own bytes maxL ret nm) (X : Stand p l e R s m args below meth c T locs cells slots) {ad : String} {i : Nat} {a : Addr} {k : ClassId} {ty : FieldType} {z : Int32} {vs : List Value} {dv : Value} (W cap : Nat) (hd : decode bytes pc = .ok (.invokevirtual i, 3)) (w1 : (Cond.methodLink own i ⟨ad, "clone", "()Ljava/lang/Object;"⟩).before a0 Z = true) (w2 : (Cond.sameMethod ad "java/lang/Object" "clone" "()Ljava/lang/Object;").before a0 Z = true) (w3 : (Cond.native ⟨"java/lang/Object", "clone", "()Ljava/lang/Object;"⟩).before a0 Z = true) (w4 : (Cond.instanceMethod ⟨"java/lang/Object", "clone", "()Ljava/lang/Object;"⟩).before a0 Z = true) (w5 : (Cond.selects ad ⟨ad, "clone", "()Ljava/lang/Object;"⟩ ⟨"java/lang/Object", "clone", "()Ljava/lang/Object;"⟩).before a0 Z = true) (w6 : (Cond.castable ad "java/lang/Cloneable").before a0 Z = true)
    (eT : T.heap = h) (V : Arv Z h a k ty z vs dv) (E : Exa Z h a ad) (hsz : Ls.size = maxL) (hf : 1 ≤ R.frames) (hW : (st.map fun v => v.category).sum ≤ W) (hl : W + 14 ≤ R.locals) (hcap : z.toNatClampNeg ≤ cap) (hc : cells + 1 ≤ R.cells) (hsl : slots + cap ≤ R.slots) (hq : pc + 3 = q)
    (kk : ∀ T' h' b, b = h.size → Stand p l e R s m args below meth c T' locs (cells + 1) (slots + cap) → T'.heap = h' → Ext h h' → Arv Z h' b k ty z vs dv → Exa Z h' b ad → Goes p e below P T' (mkF m q Ls (.ref b :: st))) : Goes p e below P T (mkF m pc Ls (.ref a :: st)) := by
  subst hq
  obtain ⟨T', h', X', e', E', V', A', st'⟩ := cloneH X K.hx K.hZ K.hown w1 w2 w3 w4 w5 w6 eT V.arh E (g := mkF m pc Ls (.ref a :: st)) rfl (by rw [K.ml]; exact hsz) rfl (hb K.by' hd) hf (W := W) (by simpa using hW) hl hcap hc hsl
  exact Goes.st st' (kk T' h' h.size rfl X' e' E' (arv_of_arh V') A')
theorem s_callS (K : Cx Z p s m meth c own bytes maxL ret nm) (X : Stand p l e R s m args below meth c T locs cells slots) (W : Nat) {Q : Option Value → Heap → List Loc → Prop} {yb : ByteArray} {ym : Nat} {rm : Room} {y : MethodName} {yr : Option FieldType} {i : Nat} {ps : List FieldType} {argsL : List Value} (hd : decode bytes pc = .ok (.invokestatic i, 3)) (w1 : (Cond.methodLink own i y).before a0 Z = true) (w2 : (Cond.static y).before a0 Z = true) (w3 : (Cond.initialized y.cls).before a0 Z = true) (w4 : (Cond.code y yb ym yr).before a0 Z = true) (hy : y.cls ≠ "java/lang/invoke/MethodHandle" ∧ y.cls ≠ "java/lang/invoke/VarHandle")
    (hpd : parseMethodDescriptor y.desc = some ⟨ps, yr⟩) (hlen : argsL.length = ps.length) (eT : T.heap = h) (C : Con l Z y yb ym yr rm argsL.toArray h Q) {stk : List Value} (hstk : stk = argsL.reverse ++ st) (hsz : Ls.size = maxL) (hf : rm.frames + 1 ≤ R.frames) (hW : (st.map fun v => v.category).sum ≤ W) (hlo : W + (ym + 11) + rm.locals ≤ R.locals) (hc : cells + rm.cells ≤ R.cells) (hs : slots + rm.slots ≤ R.slots) (hq : pc + 3 = q)
    (k : ∀ v T' h' L', Stand p l e R s m args below meth c T' (locs ++ L') (cells + rm.cells) (slots + rm.slots) → T'.heap = h' → Q v h' L' → Goes p e below P T' (mkF m q Ls (v.toList ++ st))) : Goes p e below P T (mkF m pc Ls stk) := by
  subst hq hstk
  obtain ⟨v, _, ⟨T', L', k', n'⟩, -, X', ⟨Lc, hQ, l1, l2, l3⟩, st'⟩ := Jvm.LawKit.callS X K.hx K.hown (mvT K.hZ w1) (mvT K.hZ w2) (mvT K.hZ w3) (mvT K.hZ w4) hy (backOf (W := W) (C []) K.hZ w4 w3 hf hlo) (g := mkF m pc Ls (argsL.reverse ++ st)) rfl (by rw [K.ml]; exact hsz) (argsL := argsL) (rest := st) (lenOf hpd hlen) rfl (by simpa using hW) (hb K.by' hd) (fun _ _ => ⟨rfl, eT, hc, hs⟩)
  dsimp only [Pt.U, Pt.locs, Pt.cells, Pt.slots] at X' l1 l2 l3 st' hQ
  subst l1 l2 l3
  exact Goes.st st' (k v T' _ _ X' rfl hQ)
theorem s_init (K : Cx Z p s m meth c own bytes maxL ret nm) (X : Stand p l e R s m args below meth c T locs cells slots) (W : Nat) {Q : Option Value → Heap → List Loc → Prop} {yb : ByteArray} {ym : Nat} {rm : Room} {y : MethodName} {i : Nat} {ps : List FieldType} {argsL : List Value} {a : Addr} (hd : decode bytes pc = .ok (.invokespecial i, 3)) (hy1 : y.name = "<init>") (w1 : (Cond.methodLink own i y).before a0 Z = true) (w2 : (Cond.instanceMethod y).before a0 Z = true) (w3 : (Cond.initialized y.cls).before a0 Z = true) (w4 : (Cond.code y yb ym none).before a0 Z = true) (hy : y.cls ≠ "java/lang/invoke/MethodHandle" ∧ y.cls ≠ "java/lang/invoke/VarHandle")
    (hpd : parseMethodDescriptor y.desc = some ⟨ps, none⟩) (hlen : argsL.length = ps.length) (eT : T.heap = h) (C : Con l Z y yb ym none rm (.ref a :: argsL).toArray h Q) {stk : List Value} (hstk : stk = argsL.reverse ++ .ref a :: st) (hsz : Ls.size = maxL) (hf : rm.frames + 1 ≤ R.frames) (hW : (st.map fun v => v.category).sum ≤ W) (hlo : W + (ym + 11) + rm.locals ≤ R.locals) (hc : cells + rm.cells ≤ R.cells) (hs : slots + rm.slots ≤ R.slots) (hq : pc + 3 = q)
    (k : ∀ v T' h' L', Stand p l e R s m args below meth c T' (locs ++ L') (cells + rm.cells) (slots + rm.slots) → T'.heap = h' → Q v h' L' → Goes p e below P T' (mkF m q Ls (v.toList ++ st))) : Goes p e below P T (mkF m pc Ls stk) := by
  subst hq hstk
  obtain ⟨v, _, ⟨T', L', k', n'⟩, -, X', ⟨Lc, hQ, l1, l2, l3⟩, st'⟩ := X.specialBack K.hx hy1 K.hown (mvT K.hZ w1) (mvT K.hZ w2) (mvT K.hZ w4) hy (backOf (W := W) (C []) K.hZ w4 w3 hf hlo) (g := mkF m pc Ls (argsL.reverse ++ .ref a :: st)) rfl (by rw [K.ml]; exact hsz) (Steps.refl _) (a := a) (argsL := argsL) (rest := st) (lenOf hpd hlen) rfl (by simpa using hW) (hb K.by' hd) (fun _ _ => ⟨rfl, eT, hc, hs⟩)
  dsimp only [Pt.U, Pt.locs, Pt.cells, Pt.slots] at X' l1 l2 l3 st' hQ
  subst l1 l2 l3
  exact Goes.st (fun _ kk => st'.trans kk) (k v T' _ _ X' rfl hQ)
theorem s_callV (K : Cx Z p s m meth c own bytes maxL ret nm) (X : Stand p l e R s m args below meth c T locs cells slots) (W : Nat) {Q : Option Value → Heap → List Loc → Prop} {yb : ByteArray} {ym : Nat} {rm : Room} {y z : MethodName} {yr : Option FieldType} {C : String} {i : Nat} {ps : List FieldType} {argsL : List Value} {a : Addr} (hd : decode bytes pc = .ok (.invokevirtual i, 3)) (w1 : (Cond.methodLink own i y).before a0 Z = true) (w2 : (Cond.declares y).before a0 Z = true) (hnf : NotFace s y) (w5 : (Cond.selects C y z).before a0 Z = true) (w6 : (Cond.instanceMethod z).before a0 Z = true) (w3 : (Cond.initialized z.cls).before a0 Z = true) (w4 : (Cond.code z yb ym yr).before a0 Z = true) (hy : y.cls ≠ "java/lang/invoke/MethodHandle" ∧ y.cls ≠ "java/lang/invoke/VarHandle")
    (hpd : parseMethodDescriptor y.desc = some ⟨ps, yr⟩) (hlen : argsL.length = ps.length) (eT : T.heap = h) (E : Exa Z h a C) (Cn : Con l Z z yb ym yr rm (.ref a :: argsL).toArray h Q) {stk : List Value} (hstk : stk = argsL.reverse ++ .ref a :: st) (hsz : Ls.size = maxL) (hf : rm.frames + 1 ≤ R.frames) (hW : (st.map fun v => v.category).sum ≤ W) (hlo : W + (ym + 11) + rm.locals ≤ R.locals) (hc : cells + rm.cells ≤ R.cells) (hs : slots + rm.slots ≤ R.slots) (hq : pc + 3 = q)
    (k : ∀ v T' h' L', Stand p l e R s m args below meth c T' (locs ++ L') (cells + rm.cells) (slots + rm.slots) → T'.heap = h' → Q v h' L' → Goes p e below P T' (mkF m q Ls (v.toList ++ st))) : Goes p e below P T (mkF m pc Ls stk) := by
  subst hq hstk
  obtain ⟨cq, kq, qa, qb, qc⟩ := isOf (T := T) K.hZ eT E
  obtain ⟨v, _, ⟨T', L', k', n'⟩, -, X', ⟨Lc, hQ, l1, l2, l3⟩, st'⟩ := X.virtualBack K.hx K.hown (mvT K.hZ w1) (mvT K.hZ w2) hnf (mvT K.hZ w5) (mvT K.hZ w6) hy (backOf (W := W) (Cn []) K.hZ w4 w3 hf hlo) qa qc (g := mkF m pc Ls (argsL.reverse ++ .ref a :: st)) rfl (by rw [K.ml]; exact hsz) (Steps.refl _) (argsL := argsL) (rest := st) (lenOf hpd hlen) rfl (by simpa using hW) (hb K.by' hd) (fun _ _ => ⟨rfl, eT, hc, hs⟩)
  dsimp only [Pt.U, Pt.locs, Pt.cells, Pt.slots] at X' l1 l2 l3 st' hQ
  subst l1 l2 l3
  exact Goes.st (fun _ kk => st'.trans kk) (k v T' _ _ X' rfl hQ)
theorem s_callU (K : Cx Z p s m meth c own bytes maxL ret nm) (X : Stand p l e R s m args below meth c T locs cells slots) (W : Nat) {Q : Option Value → Heap → List Loc → Prop} {yb : ByteArray} {ym : Nat} {rm : Room} {y z : MethodName} {yr : Option FieldType} {C owner : String} {i : Nat} {ps : List FieldType} {argsL : List Value} {a : Addr} (hd : decode bytes pc = .ok (.invokevirtual i, 3)) (w1 : (Cond.methodLink own i y).before a0 Z = true) (w2 : (Cond.sameMethod y.cls owner y.name y.desc).before a0 Z = true) (w2' : (Cond.declares ⟨owner, y.name, y.desc⟩).before a0 Z = true) (w5 : (Cond.selects C y z).before a0 Z = true) (w6 : (Cond.instanceMethod z).before a0 Z = true) (w3 : (Cond.initialized z.cls).before a0 Z = true) (w4 : (Cond.code z yb ym yr).before a0 Z = true) (hy : owner ≠ "java/lang/invoke/MethodHandle" ∧ owner ≠ "java/lang/invoke/VarHandle")
    (hpd : parseMethodDescriptor y.desc = some ⟨ps, yr⟩) (hlen : argsL.length = ps.length) (eT : T.heap = h) (E : Exa Z h a C) (Cn : Con l Z z yb ym yr rm (.ref a :: argsL).toArray h Q) {stk : List Value} (hstk : stk = argsL.reverse ++ .ref a :: st) (hsz : Ls.size = maxL) (hf : rm.frames + 1 ≤ R.frames) (hW : (st.map fun v => v.category).sum ≤ W) (hlo : W + (ym + 11) + rm.locals ≤ R.locals) (hc : cells + rm.cells ≤ R.cells) (hs : slots + rm.slots ≤ R.slots) (hq : pc + 3 = q)
    (k : ∀ v T' h' L', Stand p l e R s m args below meth c T' (locs ++ L') (cells + rm.cells) (slots + rm.slots) → T'.heap = h' → Q v h' L' → Goes p e below P T' (mkF m q Ls (v.toList ++ st))) : Goes p e below P T (mkF m pc Ls stk) := by
  subst hq hstk
  obtain ⟨cq, kq, qa, qb, qc⟩ := isOf (T := T) K.hZ eT E
  obtain ⟨v, _, ⟨T', L', k', n'⟩, -, X', ⟨Lc, hQ, l1, l2, l3⟩, st'⟩ := X.virtualBackUp K.hx K.hown (mvT K.hZ w1) (mvT K.hZ w2) (mvT K.hZ w2') hy (mvT K.hZ w5) (mvT K.hZ w6) (backOf (W := W) (Cn []) K.hZ w4 w3 hf hlo) qa qc (g := mkF m pc Ls (argsL.reverse ++ .ref a :: st)) rfl (by rw [K.ml]; exact hsz) (Steps.refl _) (argsL := argsL) (rest := st) (lenOf hpd hlen) rfl (by simpa using hW) (hb K.by' hd) (fun _ _ => ⟨rfl, eT, hc, hs⟩)
  dsimp only [Pt.U, Pt.locs, Pt.cells, Pt.slots] at X' l1 l2 l3 st' hQ
  subst l1 l2 l3
  exact Goes.st (fun _ kk => st'.trans kk) (k v T' _ _ X' rfl hQ)
theorem s_callI (K : Cx Z p s m meth c own bytes maxL ret nm) (X : Stand p l e R s m args below meth c T locs cells slots) (W : Nat) {Q : Option Value → Heap → List Loc → Prop} {yb : ByteArray} {ym : Nat} {rm : Room} {y z : MethodName} {yr : Option FieldType} {C : String} {i cnt : Nat} {ps : List FieldType} {argsL : List Value} {a : Addr} (hd : decode bytes pc = .ok (.invokeinterface i cnt, 5)) (w1 : (Cond.methodLink own i y).before a0 Z = true) (w2 : (Cond.declares y).before a0 Z = true) (w2' : (Cond.interfaceMethod y.cls y.cls y.name y.desc).before a0 Z = true) (hk9 : ((Cond.interfaceMethod y.cls y.cls y.name y.desc).onTables && (Cond.interfaceMethod y.cls y.cls y.name y.desc).keepsFace) = true) (w5 : (Cond.selects C y z).before a0 Z = true) (w6 : (Cond.instanceMethod z).before a0 Z = true) (w7 : (Cond.publicMethod z).before a0 Z = true) (w8 : (Cond.unhidden C y.name y.desc).before a0 Z = true) (w9 : (Cond.castable C y.cls).before a0 Z = true) (w3 : (Cond.initialized z.cls).before a0 Z = true) (w4 : (Cond.code z yb ym yr).before a0 Z = true) (hy : y.cls ≠ "java/lang/invoke/MethodHandle" ∧ y.cls ≠ "java/lang/invoke/VarHandle")
    (hpd : parseMethodDescriptor y.desc = some ⟨ps, yr⟩) (hlen : argsL.length = ps.length) (eT : T.heap = h) (E : Exa Z h a C) (Cn : Con l Z z yb ym yr rm (.ref a :: argsL).toArray h Q) {stk : List Value} (hstk : stk = argsL.reverse ++ .ref a :: st) (hsz : Ls.size = maxL) (hf : rm.frames + 1 ≤ R.frames) (hW : (st.map fun v => v.category).sum ≤ W) (hlo : W + (ym + 11) + rm.locals ≤ R.locals) (hc : cells + rm.cells ≤ R.cells) (hs : slots + rm.slots ≤ R.slots) (hq : pc + 5 = q)
    (k : ∀ v T' h' L', Stand p l e R s m args below meth c T' (locs ++ L') (cells + rm.cells) (slots + rm.slots) → T'.heap = h' → Q v h' L' → Goes p e below P T' (mkF m q Ls (v.toList ++ st))) : Goes p e below P T (mkF m pc Ls stk) := by
  subst hq hstk
  obtain ⟨cq, kq, qa, qb, qc⟩ := isOf (T := T) K.hZ eT E
  obtain ⟨v, _, ⟨T', L', k', n'⟩, -, X', ⟨Lc, hQ, l1, l2, l3⟩, st'⟩ := X.interfaceBack K.hx K.hown (mvT K.hZ w1) (mvT K.hZ w2) (mvT K.hZ w2' hk9) (mvT K.hZ w5) (mvT K.hZ w6) (mvT K.hZ w7) (mvT K.hZ w8) (mvT K.hZ w9) hy (backOf (W := W) (Cn []) K.hZ w4 w3 hf hlo) qa qb qc (g := mkF m pc Ls (argsL.reverse ++ .ref a :: st)) rfl (by rw [K.ml]; exact hsz) (Steps.refl _) (argsL := argsL) (rest := st) (lenOf hpd hlen) rfl (by simpa using hW) (hb K.by' hd) (fun _ _ => ⟨rfl, eT, hc, hs⟩)
  dsimp only [Pt.U, Pt.locs, Pt.cells, Pt.slots] at X' l1 l2 l3 st' hQ
  subst l1 l2 l3
  exact Goes.st (fun _ kk => st'.trans kk) (k v T' _ _ X' rfl hQ)
theorem s_retI (K : Cx Z p s m meth c own bytes maxL ret nm) (X : Stand p l e R s m args below meth c T locs cells slots) {z : Int32} {Q : Option Value → Heap → List Loc → Prop} (hd : decode bytes pc = .ok (.ireturn, 1)) (hr : ret = some .int) (eT : T.heap = h) (hc : cells ≤ R.cells) (hs : slots ≤ R.slots) (hQ : Q (some (.int z)) h locs) : Goes p e below (Fini s R Q) T (mkF m pc Ls (.int z :: st)) := by
  obtain ⟨fs, hl, hrun, hended, hW, hsame⟩ := X.leave (v := some (.int z)) (fun h => by rw [K.rt, hr] at h; cases h) K.lk
  exact ⟨_, _, retOut X K.hx (t := .int) (K.rt.trans hr) rfl (Or.inl ⟨rfl, Or.inl rfl, _, rfl⟩) (hb K.by' hd) hl, hrun, hended, _, _, rfl, (by rw [show (T.setFrames fs).heap = T.heap from rfl, eT]; exact hQ), ⟨_, rfl⟩, hW, hsame.mono hc hs⟩
theorem s_retZ (K : Cx Z p s m meth c own bytes maxL ret nm) (X : Stand p l e R s m args below meth c T locs cells slots) {z : Int32} {Q : Option Value → Heap → List Loc → Prop} (hd : decode bytes pc = .ok (.ireturn, 1)) (hr : ret = some .boolean) (hz : z &&& 1 = z) (eT : T.heap = h) (hc : cells ≤ R.cells) (hs : slots ≤ R.slots) (hQ : Q (some (.int z)) h locs) : Goes p e below (Fini s R Q) T (mkF m pc Ls (.int z :: st)) := by
  obtain ⟨fs, hl, hrun, hended, hW, hsame⟩ := X.leave (v := some (.int z)) (fun h => by rw [K.rt, hr] at h; cases h) K.lk
  exact ⟨_, _, retOut X K.hx (t := .boolean) (K.rt.trans hr) (by show Value.int (z &&& 1) = _; rw [hz]) (Or.inl ⟨rfl, Or.inr (Or.inl rfl), _, rfl⟩) (hb K.by' hd) hl, hrun, hended, _, _, rfl, (by rw [show (T.setFrames fs).heap = T.heap from rfl, eT]; exact hQ), ⟨_, rfl⟩, hW, hsame.mono hc hs⟩
theorem s_retA (K : Cx Z p s m meth c own bytes maxL ret nm) (X : Stand p l e R s m args below meth c T locs cells slots) {v : Value} {t : FieldType} {Q : Option Value → Heap → List Loc → Prop} (hd : decode bytes pc = .ok (.areturn, 1)) (hr : ret = some t) (ht : t.isReference = true) (hv : v.isRef = true) (eT : T.heap = h) (hc : cells ≤ R.cells) (hs : slots ≤ R.slots) (hQ : Q (some v) h locs) : Goes p e below (Fini s R Q) T (mkF m pc Ls (v :: st)) := by
  obtain ⟨fs, hl, hrun, hended, hW, hsame⟩ := X.leave (v := some v) (fun h => by rw [K.rt, hr] at h; cases h) K.lk
  have hn : narrow t v = v := by rcases ref_cases hv with rfl | ⟨a, rfl⟩ <;> cases t <;> rfl
  exact ⟨_, _, retOut X K.hx (K.rt.trans hr) hn (Or.inr (Or.inr (Or.inr (Or.inr ⟨rfl, ht, hv⟩)))) (hb K.by' hd) hl, hrun, hended, _, _, rfl, (by rw [show (T.setFrames fs).heap = T.heap from rfl, eT]; exact hQ), ⟨_, rfl⟩, hW, hsame.mono hc hs⟩
theorem s_ret (K : Cx Z p s m meth c own bytes maxL ret nm) (X : Stand p l e R s m args below meth c T locs cells slots) {Q : Option Value → Heap → List Loc → Prop} (hd : decode bytes pc = .ok (.return_, 1)) (hr : ret = none) (eT : T.heap = h) (hc : cells ≤ R.cells) (hs : slots ≤ R.slots) (hQ : Q none h locs) : Goes p e below (Fini s R Q) T (mkF m pc Ls []) := by
  obtain ⟨fs, hl, hrun, hended, hW, hsame⟩ := X.leave (v := none) (fun _ => rfl) K.lk
  exact ⟨_, _, X.returnOut K.hx (K.rt.trans hr) (hb K.by' hd) hl, hrun, hended, _, _, rfl, (by rw [show (T.setFrames fs).heap = T.heap from rfl, eT]; exact hQ), ⟨_, rfl⟩, hW, hsame.mono hc hs⟩
end Steps
section Facts
variable {Z : State} {args : Array Value} {t : Term} {a : Addr} {C n d : String} {v : Value} {h h' : Heap}
theorem fld_start_i {i : Int32} (ht : t.eval args Z none [] Z = some (.ref a)) (hv : (Cond.eq (.field t C n d) (.int i)).value args Z none Z [] = some true) : Fld Z Z.heap a C n d (.int i) := by
  obtain ⟨x, y, h1, h2, h3, -⟩ := cmp_v (Or.inl hv)
  have e : Z.fieldOf? a C n d = some x := by rw [← fld_at (t := t) (args := args) (first := Z) (o := none) (idx := []) ht]; exact h1
  cases (Term.int_eval i).symm.trans h2
  cases x <;> simp only [Kin] at h3
  case int x =>
    have : x = i := by simpa [Cond.value, h1, Term.int_eval] using hv
    subst this; exact Fld.start e
  all_goals first | (obtain ⟨z, hz⟩ := h3; cases hz) | (exact absurd h3.2 (by simp [Value.isRef]))
theorem eq_ref_start {u : Term} (ht : t.eval args Z none [] Z = some (.ref a)) (hv : (Cond.eq u t).value args Z none Z [] = some true) : u.eval args Z none [] Z = some (.ref a) := by
  obtain ⟨x, y, h1, h2, h3, h4⟩ := cmp_v (Or.inl hv)
  cases h2.symm.trans ht
  have hx : x.isRef = true := by cases x <;> simp [Kin, Value.isRef] at h3 h4 ⊢
  have := gotT (eq_R h1 ht hx rfl) hv
  rw [h1, this]
theorem eq_int_start {u : Term} {i : Int32} (hv : (Cond.eq u (.int i)).value args Z none Z [] = some true) : u.eval args Z none [] Z = some (.int i) := by
  obtain ⟨x, y, h1, h2, h3, -⟩ := cmp_v (Or.inl hv)
  cases (Term.int_eval i).symm.trans h2
  cases x <;> simp only [Kin] at h3
  case int x =>
    have : x = i := by simpa [Cond.value, h1, Term.int_eval] using hv
    subst this; exact h1
  all_goals first | (obtain ⟨z, hz⟩ := h3; cases hz) | (exact absurd h3.2 (by simp [Value.isRef]))
theorem arr_len {cl : Cell} {ty : FieldType} {z : Int32} (ht : t.eval args Z none [] Z = some (.ref a)) (A : Arr Z Z.heap a cl ty) (hv : (Cond.eq (.length t) (.int z)).value args Z none Z [] = some true) : cl.slots.size.toInt32 = z ∧ cl.slots.size < 2 ^ 31 := by
  have e := eq_int_start hv
  have ha := A.fin (Vm.Alike.refl _)
  by_cases q : cl.slots.size < 2 ^ 31
  · rw [len_f ht ha q] at e
    exact ⟨Value.int.inj (Option.some.inj e), q⟩
  · simp [Term.eval, ht, ha, q] at e
theorem arr_elem {cl : Cell} {ty : FieldType} {j : Int32} (ht : t.eval args Z none [] Z = some (.ref a)) (A : Arr Z Z.heap a cl ty) (hv : (Term.elem t (.int j)).eval args Z none [] Z = some v) : ¬ (j < 0 ∨ cl.slots.size ≤ j.toNatClampNeg) ∧ cl.slots[j.toNatClampNeg]? = some v :=
  elem_in hv ht (Term.int_eval j) A.1
end Facts
section Facts2
variable {Z : State} {h h' h'' : Heap} {a b : Addr} {sl : Nat} {v : Value}
theorem ext_trans (E : Ext h h') (E' : Ext h' h'') : Ext h h'' := ⟨Nat.le_trans E.1 E'.1, fun a c q => E'.2 a c (E.2 a c q)⟩
theorem ext_refl (h : Heap) : Ext h h := ⟨Nat.le_refl _, fun _ _ q => q⟩
theorem ext_wr (E : Ext h h') (W : Wr h' h'' a sl v) (q : h.size ≤ a) : Ext h h'' := by
  obtain ⟨cell, h1, -, -, rfl⟩ := W
  refine ⟨by simpa using E.1, fun x c hx => ?_⟩
  have : a ≠ x := fun z => absurd (Array.getElem?_eq_some_iff.mp hx).1 (Nat.not_lt.mpr (z ▸ q))
  rw [Array.getElem?_setIfInBounds_ne this]; exact E.2 x c hx
theorem old_le (O : Old Z Z.heap.size h) : Z.heap.size ≤ h.size := O.2.1
theorem fr_one {k : Nat} (q : k ≤ a) : Fr k [⟨a, sl⟩] := fun y hy => by cases List.mem_singleton.mp hy; exact q
/-- an Integer at a, worth c -/
def Bx (Z : State) (h : Heap) (a : Addr) (c : Int32) : Prop := Exa Z h a "java/lang/Integer" ∧ Fld Z h a "java/lang/Integer" "value" "I" (.int c)
theorem Bx.ext {c : Int32} (E : Ext h h') (F : Bx Z h a c) : Bx Z h' a c := ⟨F.1.ext E, F.2.ext E⟩
theorem Bx.keep {c : Int32} {ws : List Addr} (F : Bx Z h a c) (K : Keep h h' ws) (q : a ∉ ws) : Bx Z h' a c := ⟨F.1.keep K, F.2.keep K q⟩
theorem Bx.other {c : Int32} (F : Bx Z h a c) (W : Wr h h' b sl v) (q : a ≠ b) : Bx Z h' a c := ⟨F.1.wr W, F.2.other W (Or.inl q)⟩
/-- the Integer cache, as the set of statics says -/
def Cache (Z : State) (ca : Addr) (cc : Cell) : Prop := Sta Z Z.heap "java/lang/Integer$IntegerCache" "high" "I" (.int 127) ∧ Sta Z Z.heap "java/lang/Integer$IntegerCache" "cache" "[Ljava/lang/Integer;" (.ref ca) ∧ Bxs Z ca cc "java/lang/Integer" "I" 256 (fun j => .int (j - 128))
theorem cache_in {c : Int32} {cc : Cell} (hs : cc.slots.size = (256 : Int32).toNatClampNeg) (h1 : ¬ c < -128) (h2 : ¬ 127 < c) : ¬ (c + 128 < 0 ∨ cc.slots.size ≤ (c + 128).toNatClampNeg) := by
  rw [hs]
  rw [Int32.lt_iff_toInt_lt] at h1 h2
  have e1 : (-128 : Int32).toInt = -128 := rfl
  have e2 : (127 : Int32).toInt = 127 := rfl
  have e3 : (128 : Int32).toInt = 128 := rfl
  have q := c_iadd c 128
  have r := rng32 (c + 128)
  have e : (c + 128).toInt = c.toInt + 128 := by omega
  have e4 : (256 : Int32).toNatClampNeg = 256 := rfl
  have e5 : (0 : Int32).toInt = 0 := rfl
  rw [Int32.lt_iff_toInt_lt, e4]
  simp only [Int32.toNatClampNeg, e]
  omega
theorem cache_back (c : Int32) : c + 128 - 128 = c := by
  apply Int32.toBitVec_inj.mp
  simp
theorem sub_f {args : Array Value} {first s : State} {o : Option Outcome} {idx : List Nat} {a b : Term} {x y : Int32} (ha : a.eval args first o idx s = some (.int x)) (hb : b.eval args first o idx s = some (.int y)) : (Term.sub a b).eval args first o idx s = some (.int (x - y)) := by simp [Term.eval, ha, hb]
theorem cache_start {args : Array Value} (w1 : (Cond.laysStatic "java/lang/Integer$IntegerCache" "high" "I").before args Z = true) (w2 : (Cond.laysStatic "java/lang/Integer$IntegerCache" "cache" "[Ljava/lang/Integer;").before args Z = true) (wi : (Cond.initialized "java/lang/Integer$IntegerCache").before args Z = true)
    (h3 : (Cond.eq (.static "java/lang/Integer$IntegerCache" "high" "I") (.int 127)).before args Z = true) (h4 : (Cond.arrayOf (.static "java/lang/Integer$IntegerCache" "cache" "[Ljava/lang/Integer;") (.object "java/lang/Integer")).before args Z = true) (h6 : (Cond.eq (.length (.static "java/lang/Integer$IntegerCache" "cache" "[Ljava/lang/Integer;")) (.int 256)).before args Z = true)
    (h7 : (Cond.all (.static "java/lang/Integer$IntegerCache" "cache" "[Ljava/lang/Integer;") (.and (.exactly (.elem (.static "java/lang/Integer$IntegerCache" "cache" "[Ljava/lang/Integer;") (.index 0)) "java/lang/Integer") (.eq (.field (.elem (.static "java/lang/Integer$IntegerCache" "cache" "[Ljava/lang/Integer;") (.index 0)) "java/lang/Integer" "value" "I") (.sub (.index 0) (.int 128))))).before args Z = true) : ∃ ca cc, Cache Z ca cc := by
  have h3 := Cond.before_iff.mp h3
  have h4 := Cond.before_iff.mp h4
  have h6 := Cond.before_iff.mp h6
  have h7 := Cond.before_iff.mp h7
  obtain ⟨ca, ek⟩ := arr_v h4
  obtain ⟨cc, A⟩ := Arr.start ek h4
  obtain ⟨l1, l2⟩ := arr_len ek A h6
  refine ⟨ca, cc, Sta.start (eq_int_start h3) (Or.inr ⟨wi, w1⟩), Sta.start ek (Or.inr ⟨wi, w2⟩), Bxs.start (fun idx => ek) A l2 l1 (by decide) h7 (fun X j hj hv => ?_)⟩
  exact eqv_i (sub_f (idx_at hj) (Term.int_eval 128)) hv
end Facts2

end Jvm.Own

namespace Jvm.Pilot.@@N@@
open Jvm Jvm.ClassFile Sem Op Lib Jvm.Free Jvm.Stand Jvm.LawKit Jvm.RoadKit Bundle Jvm.Own Jvm.Pilot.@@N@@.Jvm.D
theorem d_jdk_18_method_1_code_0 : decode jdk_18_method_1_code 0 = .ok (.aload_n 0, 1) := by decide +kernel
theorem d_jdk_18_method_1_code_1 : decode jdk_18_method_1_code 1 = .ok (.invokespecial 1, 3) := by decide +kernel
theorem d_jdk_18_method_1_code_4 : decode jdk_18_method_1_code 4 = .ok (.return_, 1) := by decide +kernel
theorem pn_java_lang_Number : plainName "java/lang/Number" = true := by first | (simp [plainName, overriddenIn]; done) | decide +kernel
theorem d_jdk_33_method_23_code_0 : decode jdk_33_method_23_code 0 = .ok (.aload_n 0, 1) := by decide +kernel
theorem d_jdk_33_method_23_code_1 : decode jdk_33_method_23_code 1 = .ok (.invokespecial 202, 3) := by decide +kernel
theorem pd___V : parseMethodDescriptor "()V" = some ⟨[], none⟩ := by decide +kernel
theorem d_jdk_33_method_23_code_4 : decode jdk_33_method_23_code 4 = .ok (.aload_n 0, 1) := by decide +kernel
theorem d_jdk_33_method_23_code_5 : decode jdk_33_method_23_code 5 = .ok (.iload_n 1, 1) := by decide +kernel
theorem d_jdk_33_method_23_code_6 : decode jdk_33_method_23_code 6 = .ok (.putfield 205, 3) := by decide +kernel
theorem d_jdk_33_method_23_code_9 : decode jdk_33_method_23_code 9 = .ok (.return_, 1) := by decide +kernel
theorem pn_java_lang_Integer : plainName "java/lang/Integer" = true := by first | (simp [plainName, overriddenIn]; done) | decide +kernel
theorem d_jdk_33_method_22_code_0 : decode jdk_33_method_22_code 0 = .ok (.iload_n 0, 1) := by decide +kernel
theorem d_jdk_33_method_22_code_1 : decode jdk_33_method_22_code 1 = .ok (.bipush (-128), 2) := by decide +kernel
theorem d_jdk_33_method_22_code_3 : decode jdk_33_method_22_code 3 = .ok (.if_icmp .lt 20, 3) := by decide +kernel
theorem d_jdk_33_method_22_code_23 : decode jdk_33_method_22_code 23 = .ok (.new 1, 3) := by decide +kernel
theorem d_jdk_33_method_22_code_26 : decode jdk_33_method_22_code 26 = .ok (.dup, 1) := by decide +kernel
theorem d_jdk_33_method_22_code_27 : decode jdk_33_method_22_code 27 = .ok (.iload_n 0, 1) := by decide +kernel
theorem d_jdk_33_method_22_code_28 : decode jdk_33_method_22_code 28 = .ok (.invokespecial 199, 3) := by decide +kernel
theorem pd__I_V : parseMethodDescriptor "(I)V" = some ⟨[.int], none⟩ := by decide +kernel
theorem d_jdk_33_method_22_code_31 : decode jdk_33_method_22_code 31 = .ok (.areturn, 1) := by decide +kernel
theorem d_jdk_33_method_22_code_6 : decode jdk_33_method_22_code 6 = .ok (.iload_n 0, 1) := by decide +kernel
theorem d_jdk_33_method_22_code_7 : decode jdk_33_method_22_code 7 = .ok (.getstatic 191, 3) := by decide +kernel
theorem d_jdk_33_method_22_code_10 : decode jdk_33_method_22_code 10 = .ok (.if_icmp .gt 13, 3) := by decide +kernel
theorem d_jdk_33_method_22_code_13 : decode jdk_33_method_22_code 13 = .ok (.getstatic 195, 3) := by decide +kernel
theorem d_jdk_33_method_22_code_16 : decode jdk_33_method_22_code 16 = .ok (.iload_n 0, 1) := by decide +kernel
theorem d_jdk_33_method_22_code_17 : decode jdk_33_method_22_code 17 = .ok (.sipush 128, 3) := by decide +kernel
theorem d_jdk_33_method_22_code_20 : decode jdk_33_method_22_code 20 = .ok (.iadd, 1) := by decide +kernel
theorem d_jdk_33_method_22_code_21 : decode jdk_33_method_22_code 21 = .ok (.aaload, 1) := by decide +kernel
theorem d_jdk_33_method_22_code_22 : decode jdk_33_method_22_code 22 = .ok (.areturn, 1) := by decide +kernel
theorem d_jdk_33_method_27_code_0 : decode jdk_33_method_27_code 0 = .ok (.aload_n 0, 1) := by decide +kernel
theorem d_jdk_33_method_27_code_1 : decode jdk_33_method_27_code 1 = .ok (.getfield 205, 3) := by decide +kernel
theorem d_jdk_33_method_27_code_4 : decode jdk_33_method_27_code 4 = .ok (.ireturn, 1) := by decide +kernel
theorem d_prog_51_method_1_code_0 : decode prog_51_method_1_code 0 = .ok (.aload_n 0, 1) := by decide +kernel
theorem d_prog_51_method_1_code_1 : decode prog_51_method_1_code 1 = .ok (.invokespecial 1, 3) := by decide +kernel
theorem d_prog_51_method_1_code_4 : decode prog_51_method_1_code 4 = .ok (.aload_n 0, 1) := by decide +kernel
theorem d_prog_51_method_1_code_5 : decode prog_51_method_1_code 5 = .ok (.aload_n 0, 1) := by decide +kernel
theorem d_prog_51_method_1_code_6 : decode prog_51_method_1_code 6 = .ok (.putfield 7, 3) := by decide +kernel
theorem d_prog_51_method_1_code_9 : decode prog_51_method_1_code 9 = .ok (.aload_n 0, 1) := by decide +kernel
theorem d_prog_51_method_1_code_10 : decode prog_51_method_1_code 10 = .ok (.aload_n 0, 1) := by decide +kernel
theorem d_prog_51_method_1_code_11 : decode prog_51_method_1_code 11 = .ok (.putfield 13, 3) := by decide +kernel
theorem d_prog_51_method_1_code_14 : decode prog_51_method_1_code 14 = .ok (.aload_n 0, 1) := by decide +kernel
theorem d_prog_51_method_1_code_15 : decode prog_51_method_1_code 15 = .ok (.aload_n 1, 1) := by decide +kernel
theorem d_prog_51_method_1_code_16 : decode prog_51_method_1_code 16 = .ok (.putfield 16, 3) := by decide +kernel
theorem d_prog_51_method_1_code_19 : decode prog_51_method_1_code 19 = .ok (.return_, 1) := by decide +kernel
theorem pn_com_example_matchwright_matchwright_engine_Memory_Link : plainName "com/example/matchwright/matchwright/engine/Memory$Link" = true := by first | (simp [plainName, overriddenIn]; done) | decide +kernel
theorem d_method_3_code_0 : decode method_3_code 0 = .ok (.iload_n 1, 1) := by decide +kernel
theorem d_method_3_code_1 : decode method_3_code 1 = .ok (.iload_n 2, 1) := by decide +kernel
theorem d_method_3_code_2 : decode method_3_code 2 = .ok (.if_icmp .ge 31, 3) := by decide +kernel
theorem d_method_3_code_33 : decode method_3_code 33 = .ok (.return_, 1) := by decide +kernel
theorem pn_com_example_matchwright_matchwright_engine_LinkLinkBeforePinLaw : plainName "com/example/matchwright/matchwright/engine/LinkLinkBeforePinLaw" = true := by first | (simp [plainName, overriddenIn]; done) | decide +kernel
theorem d_method_3_code_5 : decode method_3_code 5 = .ok (.aload_n 0, 1) := by decide +kernel
theorem d_method_3_code_6 : decode method_3_code 6 = .ok (.iload_n 1, 1) := by decide +kernel
theorem d_method_3_code_7 : decode method_3_code 7 = .ok (.aaload, 1) := by decide +kernel
theorem d_method_3_code_8 : decode method_3_code 8 = .ok (.aload_n 0, 1) := by decide +kernel
theorem d_method_3_code_9 : decode method_3_code 9 = .ok (.iload_n 1, 1) := by decide +kernel
theorem d_method_3_code_10 : decode method_3_code 10 = .ok (.iconst 1, 1) := by decide +kernel
theorem d_method_3_code_11 : decode method_3_code 11 = .ok (.iadd, 1) := by decide +kernel
theorem d_method_3_code_12 : decode method_3_code 12 = .ok (.iload_n 2, 1) := by decide +kernel
theorem d_method_3_code_13 : decode method_3_code 13 = .ok (.irem, 1) := by decide +kernel
theorem d_method_3_code_14 : decode method_3_code 14 = .ok (.aaload, 1) := by decide +kernel
theorem d_method_3_code_15 : decode method_3_code 15 = .ok (.putfield 48, 3) := by decide +kernel
theorem d_method_3_code_18 : decode method_3_code 18 = .ok (.aload_n 0, 1) := by decide +kernel
theorem d_method_3_code_19 : decode method_3_code 19 = .ok (.iload_n 1, 1) := by decide +kernel
theorem d_method_3_code_20 : decode method_3_code 20 = .ok (.aaload, 1) := by decide +kernel
theorem d_method_3_code_21 : decode method_3_code 21 = .ok (.aload_n 0, 1) := by decide +kernel
theorem d_method_3_code_22 : decode method_3_code 22 = .ok (.iload_n 1, 1) := by decide +kernel
theorem d_method_3_code_23 : decode method_3_code 23 = .ok (.iload_n 2, 1) := by decide +kernel
theorem d_method_3_code_24 : decode method_3_code 24 = .ok (.iadd, 1) := by decide +kernel
theorem d_method_3_code_25 : decode method_3_code 25 = .ok (.iconst 1, 1) := by decide +kernel
theorem d_method_3_code_26 : decode method_3_code 26 = .ok (.isub, 1) := by decide +kernel
theorem d_method_3_code_27 : decode method_3_code 27 = .ok (.iload_n 2, 1) := by decide +kernel
theorem d_method_3_code_28 : decode method_3_code 28 = .ok (.irem, 1) := by decide +kernel
theorem d_method_3_code_29 : decode method_3_code 29 = .ok (.aaload, 1) := by decide +kernel
theorem d_method_3_code_30 : decode method_3_code 30 = .ok (.putfield 52, 3) := by decide +kernel
theorem d_prog_51_method_5_code_0 : decode prog_51_method_5_code 0 = .ok (.aload_n 0, 1) := by decide +kernel
theorem d_prog_51_method_5_code_1 : decode prog_51_method_5_code 1 = .ok (.aload_n 1, 1) := by decide +kernel
theorem d_prog_51_method_5_code_2 : decode prog_51_method_5_code 2 = .ok (.getfield 7, 3) := by decide +kernel
theorem d_prog_51_method_5_code_5 : decode prog_51_method_5_code 5 = .ok (.putfield 7, 3) := by decide +kernel
theorem d_prog_51_method_5_code_8 : decode prog_51_method_5_code 8 = .ok (.aload_n 0, 1) := by decide +kernel
theorem d_prog_51_method_5_code_9 : decode prog_51_method_5_code 9 = .ok (.aload_n 1, 1) := by decide +kernel
theorem d_prog_51_method_5_code_10 : decode prog_51_method_5_code 10 = .ok (.putfield 13, 3) := by decide +kernel
theorem d_prog_51_method_5_code_13 : decode prog_51_method_5_code 13 = .ok (.aload_n 1, 1) := by decide +kernel
theorem d_prog_51_method_5_code_14 : decode prog_51_method_5_code 14 = .ok (.getfield 7, 3) := by decide +kernel
theorem d_prog_51_method_5_code_17 : decode prog_51_method_5_code 17 = .ok (.aload_n 0, 1) := by decide +kernel
theorem d_prog_51_method_5_code_18 : decode prog_51_method_5_code 18 = .ok (.putfield 13, 3) := by decide +kernel
theorem d_prog_51_method_5_code_21 : decode prog_51_method_5_code 21 = .ok (.aload_n 1, 1) := by decide +kernel
theorem d_prog_51_method_5_code_22 : decode prog_51_method_5_code 22 = .ok (.aload_n 0, 1) := by decide +kernel
theorem d_prog_51_method_5_code_23 : decode prog_51_method_5_code 23 = .ok (.putfield 7, 3) := by decide +kernel
theorem d_prog_51_method_5_code_26 : decode prog_51_method_5_code 26 = .ok (.return_, 1) := by decide +kernel
theorem d_method_4_code_0 : decode method_4_code 0 = .ok (.iload_n 3, 1) := by decide +kernel
theorem d_method_4_code_1 : decode method_4_code 1 = .ok (.iload_n 2, 1) := by decide +kernel
theorem d_method_4_code_2 : decode method_4_code 2 = .ok (.if_icmp .ge 7, 3) := by decide +kernel
theorem d_method_4_code_9 : decode method_4_code 9 = .ok (.iload_n 3, 1) := by decide +kernel
theorem d_method_4_code_10 : decode method_4_code 10 = .ok (.iload_n 2, 1) := by decide +kernel
theorem d_method_4_code_11 : decode method_4_code 11 = .ok (.if_icmp .ne 5, 3) := by decide +kernel
theorem d_method_4_code_14 : decode method_4_code 14 = .ok (.aload_n 1, 1) := by decide +kernel
theorem d_method_4_code_15 : decode method_4_code 15 = .ok (.areturn, 1) := by decide +kernel
theorem d_method_4_code_16 : decode method_4_code 16 = .ok (.aload_n 0, 1) := by decide +kernel
theorem d_method_4_code_17 : decode method_4_code 17 = .ok (.iload_n 3, 1) := by decide +kernel
theorem d_method_4_code_18 : decode method_4_code 18 = .ok (.iconst 1, 1) := by decide +kernel
theorem d_method_4_code_19 : decode method_4_code 19 = .ok (.isub, 1) := by decide +kernel
theorem d_method_4_code_20 : decode method_4_code 20 = .ok (.aaload, 1) := by decide +kernel
theorem d_method_4_code_21 : decode method_4_code 21 = .ok (.areturn, 1) := by decide +kernel
theorem d_method_4_code_5 : decode method_4_code 5 = .ok (.aload_n 0, 1) := by decide +kernel
theorem d_method_4_code_6 : decode method_4_code 6 = .ok (.iload_n 3, 1) := by decide +kernel
theorem d_method_4_code_7 : decode method_4_code 7 = .ok (.aaload, 1) := by decide +kernel
theorem d_method_4_code_8 : decode method_4_code 8 = .ok (.areturn, 1) := by decide +kernel
theorem d_prog_51_method_2_code_0 : decode prog_51_method_2_code 0 = .ok (.aload_n 0, 1) := by decide +kernel
theorem d_prog_51_method_2_code_1 : decode prog_51_method_2_code 1 = .ok (.getfield 16, 3) := by decide +kernel
theorem d_prog_51_method_2_code_4 : decode prog_51_method_2_code 4 = .ok (.areturn, 1) := by decide +kernel
theorem d_method_5_code_0 : decode method_5_code 0 = .ok (.iload_n 1, 1) := by decide +kernel
theorem d_method_5_code_1 : decode method_5_code 1 = .ok (.iload_n 2, 1) := by decide +kernel
theorem d_method_5_code_2 : decode method_5_code 2 = .ok (.if_icmp .lt 5, 3) := by decide +kernel
theorem d_method_5_code_5 : decode method_5_code 5 = .ok (.iconst 1, 1) := by decide +kernel
theorem d_method_5_code_6 : decode method_5_code 6 = .ok (.ireturn, 1) := by decide +kernel
theorem d_method_5_code_7 : decode method_5_code 7 = .ok (.aload_n 0, 1) := by decide +kernel
theorem d_method_5_code_8 : decode method_5_code 8 = .ok (.iload_n 1, 1) := by decide +kernel
theorem d_method_5_code_9 : decode method_5_code 9 = .ok (.aaload, 1) := by decide +kernel
theorem d_method_5_code_10 : decode method_5_code 10 = .ok (.getfield 48, 3) := by decide +kernel
theorem d_method_5_code_13 : decode method_5_code 13 = .ok (.aload_n 0, 1) := by decide +kernel
theorem d_method_5_code_14 : decode method_5_code 14 = .ok (.iload_n 1, 1) := by decide +kernel
theorem d_method_5_code_15 : decode method_5_code 15 = .ok (.iconst 1, 1) := by decide +kernel
theorem d_method_5_code_16 : decode method_5_code 16 = .ok (.iadd, 1) := by decide +kernel
theorem d_method_5_code_17 : decode method_5_code 17 = .ok (.iload_n 2, 1) := by decide +kernel
theorem d_method_5_code_18 : decode method_5_code 18 = .ok (.irem, 1) := by decide +kernel
theorem d_method_5_code_19 : decode method_5_code 19 = .ok (.aaload, 1) := by decide +kernel
theorem d_method_5_code_20 : decode method_5_code 20 = .ok (.if_acmp .ne 25, 3) := by decide +kernel
theorem d_method_5_code_23 : decode method_5_code 23 = .ok (.aload_n 0, 1) := by decide +kernel
theorem d_method_5_code_24 : decode method_5_code 24 = .ok (.iload_n 1, 1) := by decide +kernel
theorem d_method_5_code_25 : decode method_5_code 25 = .ok (.aaload, 1) := by decide +kernel
theorem d_method_5_code_26 : decode method_5_code 26 = .ok (.getfield 52, 3) := by decide +kernel
theorem d_method_5_code_29 : decode method_5_code 29 = .ok (.aload_n 0, 1) := by decide +kernel
theorem d_method_5_code_30 : decode method_5_code 30 = .ok (.iload_n 1, 1) := by decide +kernel
theorem d_method_5_code_31 : decode method_5_code 31 = .ok (.iload_n 2, 1) := by decide +kernel
theorem d_method_5_code_32 : decode method_5_code 32 = .ok (.iadd, 1) := by decide +kernel
theorem d_method_5_code_33 : decode method_5_code 33 = .ok (.iconst 1, 1) := by decide +kernel
theorem d_method_5_code_34 : decode method_5_code 34 = .ok (.isub, 1) := by decide +kernel
theorem d_method_5_code_35 : decode method_5_code 35 = .ok (.iload_n 2, 1) := by decide +kernel
theorem d_method_5_code_36 : decode method_5_code 36 = .ok (.irem, 1) := by decide +kernel
theorem d_method_5_code_37 : decode method_5_code 37 = .ok (.aaload, 1) := by decide +kernel
theorem d_method_5_code_38 : decode method_5_code 38 = .ok (.if_acmp .ne 7, 3) := by decide +kernel
theorem d_method_5_code_41 : decode method_5_code 41 = .ok (.iconst 1, 1) := by decide +kernel
theorem d_method_5_code_42 : decode method_5_code 42 = .ok (.goto 4, 3) := by decide +kernel
theorem d_method_5_code_46 : decode method_5_code 46 = .ok (.ireturn, 1) := by decide +kernel
theorem d_method_6_code_0 : decode method_6_code 0 = .ok (.iload_n 1, 1) := by decide +kernel
theorem d_method_6_code_1 : decode method_6_code 1 = .ok (.iload_n 2, 1) := by decide +kernel
theorem d_method_6_code_2 : decode method_6_code 2 = .ok (.if_icmp .ge 5, 3) := by decide +kernel
theorem d_method_6_code_5 : decode method_6_code 5 = .ok (.iconst 1, 1) := by decide +kernel
theorem d_method_6_code_6 : decode method_6_code 6 = .ok (.ireturn, 1) := by decide +kernel
theorem d_method_6_code_7 : decode method_6_code 7 = .ok (.aload_n 0, 1) := by decide +kernel
theorem d_method_6_code_8 : decode method_6_code 8 = .ok (.iload_n 1, 1) := by decide +kernel
theorem d_method_6_code_9 : decode method_6_code 9 = .ok (.aaload, 1) := by decide +kernel
theorem d_method_6_code_10 : decode method_6_code 10 = .ok (.getfield 48, 3) := by decide +kernel
theorem d_method_6_code_13 : decode method_6_code 13 = .ok (.aload_n 0, 1) := by decide +kernel
theorem d_method_6_code_14 : decode method_6_code 14 = .ok (.iload_n 1, 1) := by decide +kernel
theorem d_method_6_code_15 : decode method_6_code 15 = .ok (.aaload, 1) := by decide +kernel
theorem d_method_6_code_16 : decode method_6_code 16 = .ok (.if_acmp .ne 19, 3) := by decide +kernel
theorem d_method_6_code_19 : decode method_6_code 19 = .ok (.aload_n 0, 1) := by decide +kernel
theorem d_method_6_code_20 : decode method_6_code 20 = .ok (.iload_n 1, 1) := by decide +kernel
theorem d_method_6_code_21 : decode method_6_code 21 = .ok (.aaload, 1) := by decide +kernel
theorem d_method_6_code_22 : decode method_6_code 22 = .ok (.getfield 52, 3) := by decide +kernel
theorem d_method_6_code_25 : decode method_6_code 25 = .ok (.aload_n 0, 1) := by decide +kernel
theorem d_method_6_code_26 : decode method_6_code 26 = .ok (.iload_n 1, 1) := by decide +kernel
theorem d_method_6_code_27 : decode method_6_code 27 = .ok (.aaload, 1) := by decide +kernel
theorem d_method_6_code_28 : decode method_6_code 28 = .ok (.if_acmp .ne 7, 3) := by decide +kernel
theorem d_method_6_code_31 : decode method_6_code 31 = .ok (.iconst 1, 1) := by decide +kernel
theorem d_method_6_code_32 : decode method_6_code 32 = .ok (.goto 4, 3) := by decide +kernel
theorem d_method_6_code_36 : decode method_6_code 36 = .ok (.ireturn, 1) := by decide +kernel
theorem pd__I_Ljava_lang_Integer_ : parseMethodDescriptor "(I)Ljava/lang/Integer;" = some ⟨[.int], (some (.object "java/lang/Integer"))⟩ := by decide +kernel
theorem pd__Ljava_lang_Object__V : parseMethodDescriptor "(Ljava/lang/Object;)V" = some ⟨[(.object "java/lang/Object")], none⟩ := by decide +kernel
theorem pd___Lcom_example_matchwright_matchwright_engine_Memory_Link_II_V : parseMethodDescriptor "([Lcom/example/matchwright/matchwright/engine/Memory$Link;II)V" = some ⟨[(.array (.object "com/example/matchwright/matchwright/engine/Memory$Link")), .int, .int], none⟩ := by decide +kernel
theorem pd__Lcom_example_matchwright_matchwright_engine_Memory_Link__V : parseMethodDescriptor "(Lcom/example/matchwright/matchwright/engine/Memory$Link;)V" = some ⟨[(.object "com/example/matchwright/matchwright/engine/Memory$Link")], none⟩ := by decide +kernel
theorem pd___Lcom_example_matchwright_matchwright_engine_Memory_Link_Lcom_example_matchwright_matchwright_engine_Memory_Link_II_Lcom_example_matchwright_matchwright_engine_Memory_Link_ : parseMethodDescriptor "([Lcom/example/matchwright/matchwright/engine/Memory$Link;Lcom/example/matchwright/matchwright/engine/Memory$Link;II)Lcom/example/matchwright/matchwright/engine/Memory$Link;" = some ⟨[(.array (.object "com/example/matchwright/matchwright/engine/Memory$Link")), (.object "com/example/matchwright/matchwright/engine/Memory$Link"), .int, .int], (some (.object "com/example/matchwright/matchwright/engine/Memory$Link"))⟩ := by decide +kernel
theorem pd___Ljava_lang_Object_ : parseMethodDescriptor "()Ljava/lang/Object;" = some ⟨[], (some (.object "java/lang/Object"))⟩ := by decide +kernel
theorem pd___I : parseMethodDescriptor "()I" = some ⟨[], (some .int)⟩ := by decide +kernel
theorem pd___Lcom_example_matchwright_matchwright_engine_Memory_Link_II_Z : parseMethodDescriptor "([Lcom/example/matchwright/matchwright/engine/Memory$Link;II)Z" = some ⟨[(.array (.object "com/example/matchwright/matchwright/engine/Memory$Link")), .int, .int], (some .boolean)⟩ := by decide +kernel
set_option maxRecDepth 65536 in
set_option maxHeartbeats 40000000 in
theorem c_numInit (l : Launch) (Z : State) (a0 : Array Value) (hw : ∀ d ∈ tables_1, d.before a0 Z = true) (h0 : Heap) (a : Addr)  : Con l Z (⟨"java/lang/Number", "<init>", "()V"⟩ : MethodName) jdk_18_method_1_code 1 none ({ frames := 1, cells := 0, slots := 0, locals := 12 } : Room) #[(.ref a)] h0 (fun v h L => v = none ∧ h = h0 ∧ L = []) := by
  refine Con.of (plainFor_of_name pn_java_lang_Number) (Ls := #[.val (.ref a)]) (fun m => by first | (simp [entryFrame, mkF, argsToLocals, Value.category]; done) | rfl) (fun p e s m below meth cod T K X eT => ?_)
  refine s_aloadN K X d_jdk_18_method_1_code_0 rfl rfl (q := 1) rfl ?_
  refine s_init0 K X (st := []) 0 d_jdk_18_method_1_code_1 (hw _ (List.mem_of_getElem? (i := 70) rfl)) (hw _ (List.mem_of_getElem? (i := 16) rfl)) (hw _ (List.mem_of_getElem? (i := 17) rfl)) eT rfl (by decide) (Nat.le_of_eq rfl) (by decide) (q := 4) rfl (fun T1 X1 e1 => ?_)
  exact s_ret K X1 d_jdk_18_method_1_code_4 rfl e1 (by decide) (by decide) ⟨rfl, rfl, rfl⟩
set_option maxRecDepth 65536 in
set_option maxHeartbeats 40000000 in
theorem c_intInit (l : Launch) (Z : State) (a0 : Array Value) (hw : ∀ d ∈ tables_1, d.before a0 Z = true) (h0 : Heap) (a : Addr) (c : Int32) (F : Fld Z h0 a "java/lang/Integer" "value" "I" (.int 0)) (E : Exa Z h0 a "java/lang/Integer") : Con l Z (⟨"java/lang/Integer", "<init>", "(I)V"⟩ : MethodName) jdk_33_method_23_code 2 none ({ frames := 2, cells := 0, slots := 0, locals := 24 } : Room) #[(.ref a), (.int c)] h0 (fun v h L => v = none ∧ Wr h0 h a (RoadKit.slotOf Z "java/lang/Integer" "value" "I") (.int c) ∧ L = [⟨a, RoadKit.slotOf Z "java/lang/Integer" "value" "I"⟩]) := by
  refine Con.of (plainFor_of_name pn_java_lang_Integer) (Ls := #[.val (.ref a), .val (.int c)]) (fun m => by first | (simp [entryFrame, mkF, argsToLocals, Value.category]; done) | rfl) (fun p e s m below meth cod T K X eT => ?_)
  refine s_aloadN K X d_jdk_33_method_23_code_0 rfl rfl (q := 1) rfl ?_
  refine s_init K X 0 d_jdk_33_method_23_code_1 rfl (hw _ (List.mem_of_getElem? (i := 64) rfl)) (hw _ (List.mem_of_getElem? (i := 65) rfl)) (hw _ (List.mem_of_getElem? (i := 68) rfl)) (hw _ (List.mem_of_getElem? (i := 69) rfl)) (by decide) pd___V rfl eT (a := a) (argsL := []) (st := []) (c_numInit l Z a0 hw h0 a) rfl rfl (by decide) (Nat.le_of_eq rfl) (by decide) (by decide) (by decide) (q := 4) rfl (fun v2 T2 h2 L2 X2 e2 hQ2 => ?_)
  obtain ⟨rfl, rfl, rfl⟩ := hQ2
  refine s_aloadN K X2 d_jdk_33_method_23_code_4 rfl rfl (q := 5) rfl ?_
  refine s_iloadN K X2 d_jdk_33_method_23_code_5 rfl (q := 6) rfl ?_
  refine s_putF K X2 d_jdk_33_method_23_code_6 (hw _ (List.mem_of_getElem? (i := 51) rfl)) e2 F E (Or.inr ⟨(hw _ (List.mem_of_getElem? (i := 52) rfl)), rfl, rfl⟩) (hw _ (List.mem_of_getElem? (i := 60) rfl)) (ty := .int) (by decide) rfl rfl (q := 9) rfl (fun T3 h3 X3 e3 W3 => ?_)
  exact s_ret K X3 d_jdk_33_method_23_code_9 rfl e3 (by decide) (by decide) ⟨rfl, W3, rfl⟩
set_option maxRecDepth 65536 in
set_option maxHeartbeats 40000000 in
theorem c_valueOf (l : Launch) (Z : State) (a0 : Array Value) (hw : ∀ d ∈ tables_1, d.before a0 Z = true) (h0 : Heap) (O : Old Z Z.heap.size h0) (ca : Addr) (cc : Cell) (c : Int32) (F : Cache Z ca cc) : Con l Z (⟨"java/lang/Integer", "valueOf", "(I)Ljava/lang/Integer;"⟩ : MethodName) jdk_33_method_22_code 1 (some (.object "java/lang/Integer")) ({ frames := 3, cells := 1, slots := 1, locals := 38 } : Room) #[(.int c)] h0 (fun v h L => ∃ a, v = some (.ref a) ∧ Bx Z h a c ∧ Ext h0 h ∧ Fr Z.heap.size L) := by
  refine Con.of (plainFor_of_name pn_java_lang_Integer) (Ls := #[.val (.int c)]) (fun m => by first | (simp [entryFrame, mkF, argsToLocals, Value.category]; done) | rfl) (fun p e s m below meth cod T K X eT => ?_)
  refine s_iloadN K X d_jdk_33_method_22_code_0 rfl (q := 1) rfl ?_
  refine s_bipush K X d_jdk_33_method_22_code_1 (z := -128) rfl (q := 3) rfl ?_
  refine s_icmp_lt K X d_jdk_33_method_22_code_3 (by decide) (q := 23) rfl (q' := 6) rfl (fun h1 => ?_) (fun h1 => ?_)
  ·
    refine s_new K X d_jdk_33_method_22_code_23 (hw _ (List.mem_of_getElem? (i := 59) rfl)) (hw _ (List.mem_of_getElem? (i := 60) rfl)) (hw _ (List.mem_of_getElem? (i := 7) rfl)) eT (by decide) (by decide) (q := 26) rfl (fun T4 h4 b4 g4 X4 e4 E4 A4 D4 => ?_)
    have F4 := D4 (Or.inr (hw _ (List.mem_of_getElem? (i := 52) rfl))) (ty := .int) (by decide)
    refine s_dup K X4 d_jdk_33_method_22_code_26 rfl (q := 27) rfl ?_
    refine s_iloadN K X4 d_jdk_33_method_22_code_27 rfl (q := 28) rfl ?_
    refine s_init K X4 1 d_jdk_33_method_22_code_28 rfl (hw _ (List.mem_of_getElem? (i := 61) rfl)) (hw _ (List.mem_of_getElem? (i := 62) rfl)) (hw _ (List.mem_of_getElem? (i := 7) rfl)) (hw _ (List.mem_of_getElem? (i := 63) rfl)) (by decide) pd__I_V rfl e4 (a := b4) (argsL := [(.int c)]) (st := [(.ref b4)]) (c_intInit l Z a0 hw _ b4 c F4 A4) rfl rfl (by decide) (Nat.le_of_eq rfl) (by decide) (by decide) (by decide) (q := 31) rfl (fun v5 T5 h5 L5 X5 e5 hQ5 => ?_)
    obtain ⟨rfl, W5, rfl⟩ := hQ5
    have g0 : h0.size ≤ b4 := by rw [g4]; exact Nat.le_refl _
    exact s_retA K X5 d_jdk_33_method_22_code_31 rfl rfl rfl e5 (by decide) (by decide) ⟨_, rfl, ⟨A4.wr W5, F4.same W5⟩, ext_wr E4 W5 g0, (Fr.nil _).app (fr_one (Nat.le_trans (old_le O) g0))⟩
  ·
    refine s_iloadN K X d_jdk_33_method_22_code_6 rfl (q := 7) rfl ?_
    refine s_getS K X d_jdk_33_method_22_code_7 (hw _ (List.mem_of_getElem? (i := 9) rfl)) eT (F.1.ext O.2) (q := 10) rfl (fun T6 X6 e6 => ?_)
    refine s_icmp_gt K X6 d_jdk_33_method_22_code_10 (by decide) (q := 23) rfl (q' := 13) rfl (fun h2 => ?_) (fun h2 => ?_)
    ·
      refine s_new K X6 d_jdk_33_method_22_code_23 (hw _ (List.mem_of_getElem? (i := 59) rfl)) (hw _ (List.mem_of_getElem? (i := 60) rfl)) (hw _ (List.mem_of_getElem? (i := 7) rfl)) e6 (by decide) (by decide) (q := 26) rfl (fun T7 h7 b7 g7 X7 e7 E7 A7 D7 => ?_)
      have F7 := D7 (Or.inr (hw _ (List.mem_of_getElem? (i := 52) rfl))) (ty := .int) (by decide)
      refine s_dup K X7 d_jdk_33_method_22_code_26 rfl (q := 27) rfl ?_
      refine s_iloadN K X7 d_jdk_33_method_22_code_27 rfl (q := 28) rfl ?_
      refine s_init K X7 1 d_jdk_33_method_22_code_28 rfl (hw _ (List.mem_of_getElem? (i := 61) rfl)) (hw _ (List.mem_of_getElem? (i := 62) rfl)) (hw _ (List.mem_of_getElem? (i := 7) rfl)) (hw _ (List.mem_of_getElem? (i := 63) rfl)) (by decide) pd__I_V rfl e7 (a := b7) (argsL := [(.int c)]) (st := [(.ref b7)]) (c_intInit l Z a0 hw _ b7 c F7 A7) rfl rfl (by decide) (Nat.le_of_eq rfl) (by decide) (by decide) (by decide) (q := 31) rfl (fun v8 T8 h8 L8 X8 e8 hQ8 => ?_)
      obtain ⟨rfl, W8, rfl⟩ := hQ8
      have g0 : h0.size ≤ b7 := by rw [g7]; exact Nat.le_refl _
      exact s_retA K X8 d_jdk_33_method_22_code_31 rfl rfl rfl e8 (by decide) (by decide) ⟨_, rfl, ⟨A7.wr W8, F7.same W8⟩, ext_wr E7 W8 g0, (Fr.nil _).app (fr_one (Nat.le_trans (old_le O) g0))⟩
    ·
      refine s_getS K X6 d_jdk_33_method_22_code_13 (hw _ (List.mem_of_getElem? (i := 11) rfl)) e6 (F.2.1.ext O.2) (q := 16) rfl (fun T9 X9 e9 => ?_)
      refine s_iloadN K X9 d_jdk_33_method_22_code_16 rfl (q := 17) rfl ?_
      refine s_sipush K X9 d_jdk_33_method_22_code_17 (z := 128) rfl (q := 20) rfl ?_
      refine s_iadd K X9 d_jdk_33_method_22_code_20 (q := 21) rfl ?_
      have hin := cache_in F.2.2.2.1 h1 h2
      obtain ⟨b, hb1, hb2, hb3⟩ := F.2.2.2.2.2 (c + 128) hin
      have hb3 : Fld Z Z.heap b "java/lang/Integer" "value" "I" (.int (c + 128 - 128)) := hb3
      rw [cache_back] at hb3
      refine s_aaload K X9 d_jdk_33_method_22_code_21 e9 (F.2.2.1.ext O.2) rfl hin hb1 (q := 22) rfl ?_
      exact s_retA K X9 d_jdk_33_method_22_code_22 rfl rfl rfl e9 (by decide) (by decide) ⟨_, rfl, ⟨hb2.ext O.2, hb3.ext O.2⟩, ext_refl _, Fr.nil _⟩
set_option maxRecDepth 65536 in
set_option maxHeartbeats 40000000 in
theorem c_intValue (l : Launch) (Z : State) (a0 : Array Value) (hw : ∀ d ∈ tables_1, d.before a0 Z = true) (h0 : Heap) (a : Addr) (c : Int32) (F : Bx Z h0 a c) : Con l Z (⟨"java/lang/Integer", "intValue", "()I"⟩ : MethodName) jdk_33_method_27_code 1 (some .int) ({ frames := 0, cells := 0, slots := 0, locals := 0 } : Room) #[(.ref a)] h0 (fun v h L => v = some (.int c) ∧ h = h0 ∧ L = []) := by
  refine Con.of (plainFor_of_name pn_java_lang_Integer) (Ls := #[.val (.ref a)]) (fun m => by first | (simp [entryFrame, mkF, argsToLocals, Value.category]; done) | rfl) (fun p e s m below meth cod T K X eT => ?_)
  refine s_aloadN K X d_jdk_33_method_27_code_0 rfl rfl (q := 1) rfl ?_
  refine s_getF K X d_jdk_33_method_27_code_1 (hw _ (List.mem_of_getElem? (i := 51) rfl)) eT F.2 (q := 4) rfl (fun T10 X10 e10 => ?_)
  exact s_retI K X10 d_jdk_33_method_27_code_4 rfl e10 (by decide) (by decide) ⟨rfl, rfl, rfl⟩
def Lk (Z : State) (h : Heap) (a nx pv : Addr) : Prop := Exa Z h a "com/example/matchwright/matchwright/engine/Memory$Link" ∧ Fld Z h a "com/example/matchwright/matchwright/engine/Memory$Link" "next" "Lcom/example/matchwright/matchwright/engine/Memory$Link;" (.ref nx) ∧ Fld Z h a "com/example/matchwright/matchwright/engine/Memory$Link" "previous" "Lcom/example/matchwright/matchwright/engine/Memory$Link;" (.ref pv)
def View (Z : State) (h : Heap) (As : List Addr) (nx pv : List Nat) : Prop := ∀ i, i < 5 → Lk Z h (As.getD i 0) (As.getD (nx.getD i 0) 0) (As.getD (pv.getD i 0) 0)
theorem Lk.ext {Z : State} {h h' : Heap} {a x y : Addr} (E : Ext h h') (F : Lk Z h a x y) : Lk Z h' a x y := ⟨F.1.ext E, F.2.1.ext E, F.2.2.ext E⟩
theorem Lk.keep {Z : State} {h h' : Heap} {a x y : Addr} {ws : List Addr} (F : Lk Z h a x y) (K : Keep h h' ws) (q : a ∉ ws) : Lk Z h' a x y := ⟨F.1.keep K, F.2.1.keep K q, F.2.2.keep K q⟩
theorem Lk.other {Z : State} {h h' : Heap} {a x y b : Addr} {sl : Nat} {v : Value} (F : Lk Z h a x y) (W : Wr h h' b sl v) (q : a ≠ b) : Lk Z h' a x y := ⟨F.1.wr W, F.2.1.other W (Or.inl q), F.2.2.other W (Or.inl q)⟩
def Slots (Z : State) : Prop := RoadKit.slotOf Z "com/example/matchwright/matchwright/engine/Memory$Link" "next" "Lcom/example/matchwright/matchwright/engine/Memory$Link;" ≠ RoadKit.slotOf Z "com/example/matchwright/matchwright/engine/Memory$Link" "previous" "Lcom/example/matchwright/matchwright/engine/Memory$Link;" ∧ RoadKit.slotOf Z "com/example/matchwright/matchwright/engine/Memory$Link" "item" "Ljava/lang/Object;" ≠ RoadKit.slotOf Z "com/example/matchwright/matchwright/engine/Memory$Link" "next" "Lcom/example/matchwright/matchwright/engine/Memory$Link;" ∧ RoadKit.slotOf Z "com/example/matchwright/matchwright/engine/Memory$Link" "item" "Ljava/lang/Object;" ≠ RoadKit.slotOf Z "com/example/matchwright/matchwright/engine/Memory$Link" "previous" "Lcom/example/matchwright/matchwright/engine/Memory$Link;"
theorem own_slots (Z : State) (a0 : Array Value) (hw : ∀ d ∈ tables_1, d.before a0 Z = true) : Slots Z := by
  have l1 : Laid Z a0 "com/example/matchwright/matchwright/engine/Memory$Link" "com/example/matchwright/matchwright/engine/Memory$Link" "next" "Lcom/example/matchwright/matchwright/engine/Memory$Link;" := Or.inl (hw _ (List.mem_of_getElem? (i := 21) rfl))
  have l2 : Laid Z a0 "com/example/matchwright/matchwright/engine/Memory$Link" "com/example/matchwright/matchwright/engine/Memory$Link" "previous" "Lcom/example/matchwright/matchwright/engine/Memory$Link;" := Or.inl (hw _ (List.mem_of_getElem? (i := 19) rfl))
  have l3 : Laid Z a0 "com/example/matchwright/matchwright/engine/Memory$Link" "com/example/matchwright/matchwright/engine/Memory$Link" "item" "Ljava/lang/Object;" := Or.inr (hw _ (List.mem_of_getElem? (i := 23) rfl))
  exact ⟨slot_ne l1 l2 (by decide) (t := .object "com/example/matchwright/matchwright/engine/Memory$Link") (t' := .object "com/example/matchwright/matchwright/engine/Memory$Link") (by decide) (by decide), slot_ne l3 l1 (by decide) (t := .object "java/lang/Object") (t' := .object "com/example/matchwright/matchwright/engine/Memory$Link") (by decide) (by decide), slot_ne l3 l2 (by decide) (t := .object "java/lang/Object") (t' := .object "com/example/matchwright/matchwright/engine/Memory$Link") (by decide) (by decide)⟩
def Sep (Z : State) (B : Addr) (As : List Addr) : Prop := (∀ i j, i < 5 → j < 5 → As.getD i 0 = As.getD j 0 → i = j) ∧ (∀ i, i < 5 → Z.heap.size ≤ As.getD i 0 ∧ As.getD i 0 ≠ B)
def Inv (Z : State) (h : Heap) (B : Addr) (kB : ClassId) (As : List Addr) (nx pv : List Nat) (I : Addr) (v : Int32) : Prop :=
  View Z h As nx pv ∧ Arv Z h B kB (.object "com/example/matchwright/matchwright/engine/Memory$Link") 4 [.ref (As.getD 0 0), .ref (As.getD 1 0), .ref (As.getD 2 0), .ref (As.getD 3 0)] .null ∧ Fld Z h (As.getD 4 0) "com/example/matchwright/matchwright/engine/Memory$Link" "item" "Ljava/lang/Object;" (.ref I) ∧ Bx Z h I v ∧ Old Z Z.heap.size h
theorem Inv.ext {Z : State} {h h' : Heap} {B : Addr} {kB : ClassId} {As : List Addr} {nx pv : List Nat} {I : Addr} {v : Int32} (F : Inv Z h B kB As nx pv I v) (E : Ext h h') : Inv Z h' B kB As nx pv I v :=
  ⟨fun i hi => (F.1 i hi).ext E, F.2.1.ext E, F.2.2.1.ext E, F.2.2.2.1.ext E, F.2.2.2.2.ext E⟩
theorem Inv.other {Z : State} {h h' : Heap} {B : Addr} {kB : ClassId} {As : List Addr} {nx pv : List Nat} {I : Addr} {v : Int32} {b : Addr} {sl : Nat} {w : Value} (F : Inv Z h B kB As nx pv I v) (W : Wr h h' b sl w) (q1 : ∀ i, i < 5 → As.getD i 0 ≠ b) (q2 : B ≠ b) (q3 : I ≠ b) (q4 : Z.heap.size ≤ b) : Inv Z h' B kB As nx pv I v :=
  ⟨fun i hi => (F.1 i hi).other W (q1 i hi), F.2.1.other W q2, F.2.2.1.other W (Or.inl (q1 4 (by decide))), F.2.2.2.1.other W q3, F.2.2.2.2.wr W q4⟩
theorem own_ne {Z : State} {h : Heap} {I a : Addr} {v : Int32} (F : Bx Z h I v) (G : Exa Z h a "com/example/matchwright/matchwright/engine/Memory$Link") : I ≠ a := ne_exa F.1 G (by decide)
theorem Inv.next {Z : State} {h h' : Heap} {B : Addr} {kB : ClassId} {As : List Addr} {nx pv : List Nat} {I : Addr} {v : Int32} {i j : Nat} (S : Slots Z) (P : Sep Z B As) (F : Inv Z h B kB As nx pv I v) (hn : nx.length = 5) (hi : i < 5) (W : Wr h h' (As.getD i 0) (RoadKit.slotOf Z "com/example/matchwright/matchwright/engine/Memory$Link" "next" "Lcom/example/matchwright/matchwright/engine/Memory$Link;") (.ref (As.getD j 0))) : Inv Z h' B kB As (nx.set i j) pv I v := by
  refine ⟨fun t ht => ?_, F.2.1.other W (Ne.symm (P.2 i hi).2), F.2.2.1.other W (Or.inr S.2.1), F.2.2.2.1.other W (own_ne F.2.2.2.1 (F.1 i hi).1), F.2.2.2.2.wr W (P.2 i hi).1⟩
  by_cases q : t = i
  · subst q
    have e : (nx.set t j).getD t 0 = j := by simp [List.getD, hn, ht]
    rw [e]
    exact ⟨(F.1 t ht).1.wr W, (F.1 t ht).2.1.same W, (F.1 t ht).2.2.other W (Or.inr (Ne.symm S.1))⟩
  · have e : (nx.set i j).getD t 0 = nx.getD t 0 := by simp [List.getD, List.getElem?_set, Ne.symm q]
    rw [e]
    exact (F.1 t ht).other W (fun z => q (P.1 t i ht hi z))
theorem Inv.prev {Z : State} {h h' : Heap} {B : Addr} {kB : ClassId} {As : List Addr} {nx pv : List Nat} {I : Addr} {v : Int32} {i j : Nat} (S : Slots Z) (P : Sep Z B As) (F : Inv Z h B kB As nx pv I v) (hn : pv.length = 5) (hi : i < 5) (W : Wr h h' (As.getD i 0) (RoadKit.slotOf Z "com/example/matchwright/matchwright/engine/Memory$Link" "previous" "Lcom/example/matchwright/matchwright/engine/Memory$Link;") (.ref (As.getD j 0))) : Inv Z h' B kB As nx (pv.set i j) I v := by
  refine ⟨fun t ht => ?_, F.2.1.other W (Ne.symm (P.2 i hi).2), F.2.2.1.other W (Or.inr S.2.2), F.2.2.2.1.other W (own_ne F.2.2.2.1 (F.1 i hi).1), F.2.2.2.2.wr W (P.2 i hi).1⟩
  by_cases q : t = i
  · subst q
    have e : (pv.set t j).getD t 0 = j := by simp [List.getD, hn, ht]
    rw [e]
    exact ⟨(F.1 t ht).1.wr W, (F.1 t ht).2.1.other W (Or.inr S.1), (F.1 t ht).2.2.same W⟩
  · have e : (pv.set i j).getD t 0 = pv.getD t 0 := by simp [List.getD, List.getElem?_set, Ne.symm q]
    rw [e]
    exact (F.1 t ht).other W (fun z => q (P.1 t i ht hi z))
set_option maxRecDepth 65536 in
set_option maxHeartbeats 40000000 in
theorem c_linkInit (l : Launch) (Z : State) (a0 : Array Value) (hw : ∀ d ∈ tables_1, d.before a0 Z = true) (S : Slots Z) (h0 : Heap) (a b : Addr) (g : Z.heap.size ≤ a) (E : Exa Z h0 a "com/example/matchwright/matchwright/engine/Memory$Link") (FN : Fld Z h0 a "com/example/matchwright/matchwright/engine/Memory$Link" "next" "Lcom/example/matchwright/matchwright/engine/Memory$Link;" .null) (FP : Fld Z h0 a "com/example/matchwright/matchwright/engine/Memory$Link" "previous" "Lcom/example/matchwright/matchwright/engine/Memory$Link;" .null) (FI : Fld Z h0 a "com/example/matchwright/matchwright/engine/Memory$Link" "item" "Ljava/lang/Object;" .null) : Con l Z (⟨"com/example/matchwright/matchwright/engine/Memory$Link", "<init>", "(Ljava/lang/Object;)V"⟩ : MethodName) prog_51_method_1_code 2 none ({ frames := 1, cells := 0, slots := 0, locals := 13 } : Room) #[(.ref a), (.ref b)] h0 (fun v h L => v = none ∧ Lk Z h a a a ∧ Fld Z h a "com/example/matchwright/matchwright/engine/Memory$Link" "item" "Ljava/lang/Object;" (.ref b) ∧ Keep h0 h [a] ∧ Fr Z.heap.size L) := by
  refine Con.of (plainFor_of_name pn_com_example_matchwright_matchwright_engine_Memory_Link) (Ls := #[.val (.ref a), .val (.ref b)]) (fun m => by first | (simp [entryFrame, mkF, argsToLocals, Value.category]; done) | rfl) (fun p e s m below meth cod T K X eT => ?_)
  refine s_aloadN K X d_prog_51_method_1_code_0 rfl rfl (q := 1) rfl ?_
  refine s_init0 K X (st := []) 0 d_prog_51_method_1_code_1 (hw _ (List.mem_of_getElem? (i := 15) rfl)) (hw _ (List.mem_of_getElem? (i := 16) rfl)) (hw _ (List.mem_of_getElem? (i := 17) rfl)) eT rfl (by decide) (Nat.le_of_eq rfl) (by decide) (q := 4) rfl (fun T11 X11 e11 => ?_)
  refine s_aloadN K X11 d_prog_51_method_1_code_4 rfl rfl (q := 5) rfl ?_
  refine s_aloadN K X11 d_prog_51_method_1_code_5 rfl rfl (q := 6) rfl ?_
  refine s_putF K X11 d_prog_51_method_1_code_6 (hw _ (List.mem_of_getElem? (i := 18) rfl)) e11 FP E (Or.inl (hw _ (List.mem_of_getElem? (i := 19) rfl))) (hw _ (List.mem_of_getElem? (i := 3) rfl)) (ty := (.object "com/example/matchwright/matchwright/engine/Memory$Link")) (by decide) rfl rfl (q := 9) rfl (fun T12 h12 X12 e12 W12 => ?_)
  have P1 := FP.same W12
  have Q1 := FN.other W12 (Or.inr S.1)
  have I1 := FI.other W12 (Or.inr S.2.2)
  refine s_aloadN K X12 d_prog_51_method_1_code_9 rfl rfl (q := 10) rfl ?_
  refine s_aloadN K X12 d_prog_51_method_1_code_10 rfl rfl (q := 11) rfl ?_
  refine s_putF K X12 d_prog_51_method_1_code_11 (hw _ (List.mem_of_getElem? (i := 20) rfl)) e12 Q1 (E.wr W12) (Or.inl (hw _ (List.mem_of_getElem? (i := 21) rfl))) (hw _ (List.mem_of_getElem? (i := 3) rfl)) (ty := (.object "com/example/matchwright/matchwright/engine/Memory$Link")) (by decide) rfl rfl (q := 14) rfl (fun T13 h13 X13 e13 W13 => ?_)
  have P2 := P1.other W13 (Or.inr (Ne.symm S.1))
  have Q2 := Q1.same W13
  have I2 := I1.other W13 (Or.inr S.2.1)
  refine s_aloadN K X13 d_prog_51_method_1_code_14 rfl rfl (q := 15) rfl ?_
  refine s_aloadN K X13 d_prog_51_method_1_code_15 rfl rfl (q := 16) rfl ?_
  refine s_putF K X13 d_prog_51_method_1_code_16 (hw _ (List.mem_of_getElem? (i := 22) rfl)) e13 I2 ((E.wr W12).wr W13) (Or.inr ⟨(hw _ (List.mem_of_getElem? (i := 23) rfl)), rfl, rfl⟩) (hw _ (List.mem_of_getElem? (i := 3) rfl)) (ty := (.object "java/lang/Object")) (by decide) rfl rfl (q := 19) rfl (fun T14 h14 X14 e14 W14 => ?_)
  exact s_ret K X14 d_prog_51_method_1_code_19 rfl e14 (by decide) (by decide) ⟨rfl, ⟨((E.wr W12).wr W13).wr W14, Q2.other W14 (Or.inr (Ne.symm S.2.1)), P2.other W14 (Or.inr (Ne.symm S.2.2))⟩, I2.same W14, (((Keep.refl _ _).wr W12 (Or.inl (List.mem_singleton.mpr rfl))).wr W13 (Or.inl (List.mem_singleton.mpr rfl))).wr W14 (Or.inl (List.mem_singleton.mpr rfl)), (((Fr.nil _).app (fr_one g)).app (fr_one g)).app (fr_one g)⟩
set_option maxRecDepth 65536 in
set_option maxHeartbeats 40000000 in
theorem c_ring_no (l : Launch) (Z : State) (a0 : Array Value) (hw : ∀ d ∈ tables_1, d.before a0 Z = true) (h0 : Heap) (B : Addr) (i n : Int32) (hn : ¬ i < n) : Con l Z (⟨"com/example/matchwright/matchwright/engine/LinkLinkBeforePinLaw", "ring", "([Lcom/example/matchwright/matchwright/engine/Memory$Link;II)V"⟩ : MethodName) method_3_code 3 none ({ frames := 0, cells := 0, slots := 0, locals := 0 } : Room) #[(.ref B), (.int i), (.int n)] h0 (fun v h L => v = none ∧ h = h0 ∧ L = []) := by
  refine Con.of (plainFor_of_name pn_com_example_matchwright_matchwright_engine_LinkLinkBeforePinLaw) (Ls := #[.val (.ref B), .val (.int i), .val (.int n)]) (fun m => by first | (simp [entryFrame, mkF, argsToLocals, Value.category]; done) | rfl) (fun p e s m below meth cod T K X eT => ?_)
  refine s_iloadN K X d_method_3_code_0 rfl (q := 1) rfl ?_
  refine s_iloadN K X d_method_3_code_1 rfl (q := 2) rfl ?_
  refine s_icmp_ge K X d_method_3_code_2 (by decide) (q := 33) rfl (q' := 5) rfl (fun _ => ?_) (fun h_ => absurd h_ hn)
  exact s_ret K X d_method_3_code_33 rfl eT (by decide) (by decide) ⟨rfl, rfl, rfl⟩
set_option maxRecDepth 65536 in
set_option maxHeartbeats 40000000 in
theorem c_ring_0_1 (l : Launch) (Z : State) (a0 : Array Value) (hw : ∀ d ∈ tables_1, d.before a0 Z = true) (S : Slots Z) (h0 : Heap) (B : Addr) (kB : ClassId) (As : List Addr) (nx pv : List Nat) (I : Addr) (v0 : Int32) (P : Sep Z B As) (F : Inv Z h0 B kB As nx pv I v0) (hnx : nx.length = 5) (hpv : pv.length = 5) : Con l Z (⟨"com/example/matchwright/matchwright/engine/LinkLinkBeforePinLaw", "ring", "([Lcom/example/matchwright/matchwright/engine/Memory$Link;II)V"⟩ : MethodName) method_3_code 3 none ({ frames := 0, cells := 0, slots := 0, locals := 0 } : Room) #[(.ref B), (.int (0 : Int32)), (.int (1 : Int32))] h0 (fun v h L => v = none ∧ Inv Z h B kB As (nx.set 0 0) (pv.set 0 0) I v0 ∧ Fr Z.heap.size L) := by
  refine Con.of (plainFor_of_name pn_com_example_matchwright_matchwright_engine_LinkLinkBeforePinLaw) (Ls := #[.val (.ref B), .val (.int (0 : Int32)), .val (.int (1 : Int32))]) (fun m => by first | (simp [entryFrame, mkF, argsToLocals, Value.category]; done) | rfl) (fun p e s m below meth cod T K X eT => ?_)
  refine s_iloadN K X d_method_3_code_0 rfl (q := 1) rfl ?_
  refine s_iloadN K X d_method_3_code_1 rfl (q := 2) rfl ?_
  refine s_icmp_ge K X d_method_3_code_2 (by decide) (q := 33) rfl (q' := 5) rfl (fun h_ => absurd h_ (by decide)) (fun _ => ?_)
  refine s_aloadN K X d_method_3_code_5 rfl rfl (q := 6) rfl ?_
  refine s_iloadN K X d_method_3_code_6 rfl (q := 7) rfl ?_
  refine s_ldV K X d_method_3_code_7 eT F.2.1 rfl (by decide) rfl (q := 8) rfl ?_
  refine s_aloadN K X d_method_3_code_8 rfl rfl (q := 9) rfl ?_
  refine s_iloadN K X d_method_3_code_9 rfl (q := 10) rfl ?_
  refine s_iconst K X d_method_3_code_10 (z := 1) rfl (q := 11) rfl ?_
  refine s_iadd K X d_method_3_code_11 (q := 12) rfl ?_
  refine s_iloadN K X d_method_3_code_12 rfl (q := 13) rfl ?_
  refine s_irem K X d_method_3_code_13 (by decide) (q := 14) rfl ?_
  refine s_ldV K X d_method_3_code_14 eT F.2.1 rfl (by decide) rfl (q := 15) rfl ?_
  refine s_putF K X d_method_3_code_15 (hw _ (List.mem_of_getElem? (i := 29) rfl)) eT (F.1 0 (by decide)).2.1 (F.1 0 (by decide)).1 (Or.inl (hw _ (List.mem_of_getElem? (i := 21) rfl))) (hw _ (List.mem_of_getElem? (i := 3) rfl)) (ty := (.object "com/example/matchwright/matchwright/engine/Memory$Link")) (by decide) rfl rfl (q := 18) rfl (fun T15 h15 X15 e15 W15 => ?_)
  have F1 := Inv.next S P F hnx (i := 0) (j := 0) (by decide) W15
  refine s_aloadN K X15 d_method_3_code_18 rfl rfl (q := 19) rfl ?_
  refine s_iloadN K X15 d_method_3_code_19 rfl (q := 20) rfl ?_
  refine s_ldV K X15 d_method_3_code_20 e15 F1.2.1 rfl (by decide) rfl (q := 21) rfl ?_
  refine s_aloadN K X15 d_method_3_code_21 rfl rfl (q := 22) rfl ?_
  refine s_iloadN K X15 d_method_3_code_22 rfl (q := 23) rfl ?_
  refine s_iloadN K X15 d_method_3_code_23 rfl (q := 24) rfl ?_
  refine s_iadd K X15 d_method_3_code_24 (q := 25) rfl ?_
  refine s_iconst K X15 d_method_3_code_25 (z := 1) rfl (q := 26) rfl ?_
  refine s_isub K X15 d_method_3_code_26 (q := 27) rfl ?_
  refine s_iloadN K X15 d_method_3_code_27 rfl (q := 28) rfl ?_
  refine s_irem K X15 d_method_3_code_28 (by decide) (q := 29) rfl ?_
  refine s_ldV K X15 d_method_3_code_29 e15 F1.2.1 rfl (by decide) rfl (q := 30) rfl ?_
  refine s_putF K X15 d_method_3_code_30 (hw _ (List.mem_of_getElem? (i := 30) rfl)) e15 (F1.1 0 (by decide)).2.2 (F1.1 0 (by decide)).1 (Or.inl (hw _ (List.mem_of_getElem? (i := 19) rfl))) (hw _ (List.mem_of_getElem? (i := 3) rfl)) (ty := (.object "com/example/matchwright/matchwright/engine/Memory$Link")) (by decide) rfl rfl (q := 33) rfl (fun T16 h16 X16 e16 W16 => ?_)
  have F2 := Inv.prev S P F1 hpv (i := 0) (j := 0) (by decide) W16
  exact s_ret K X16 d_method_3_code_33 rfl e16 (by decide) (by decide) ⟨rfl, F2, ((Fr.nil _).app (fr_one (P.2 0 (by decide)).1)).app (fr_one (P.2 0 (by decide)).1)⟩
set_option maxRecDepth 65536 in
set_option maxHeartbeats 40000000 in
theorem c_ring_0_2 (l : Launch) (Z : State) (a0 : Array Value) (hw : ∀ d ∈ tables_1, d.before a0 Z = true) (S : Slots Z) (h0 : Heap) (B : Addr) (kB : ClassId) (As : List Addr) (nx pv : List Nat) (I : Addr) (v0 : Int32) (P : Sep Z B As) (F : Inv Z h0 B kB As nx pv I v0) (hnx : nx.length = 5) (hpv : pv.length = 5) : Con l Z (⟨"com/example/matchwright/matchwright/engine/LinkLinkBeforePinLaw", "ring", "([Lcom/example/matchwright/matchwright/engine/Memory$Link;II)V"⟩ : MethodName) method_3_code 3 none ({ frames := 0, cells := 0, slots := 0, locals := 0 } : Room) #[(.ref B), (.int (0 : Int32)), (.int (2 : Int32))] h0 (fun v h L => v = none ∧ Inv Z h B kB As (nx.set 0 1) (pv.set 0 1) I v0 ∧ Fr Z.heap.size L) := by
  refine Con.of (plainFor_of_name pn_com_example_matchwright_matchwright_engine_LinkLinkBeforePinLaw) (Ls := #[.val (.ref B), .val (.int (0 : Int32)), .val (.int (2 : Int32))]) (fun m => by first | (simp [entryFrame, mkF, argsToLocals, Value.category]; done) | rfl) (fun p e s m below meth cod T K X eT => ?_)
  refine s_iloadN K X d_method_3_code_0 rfl (q := 1) rfl ?_
  refine s_iloadN K X d_method_3_code_1 rfl (q := 2) rfl ?_
  refine s_icmp_ge K X d_method_3_code_2 (by decide) (q := 33) rfl (q' := 5) rfl (fun h_ => absurd h_ (by decide)) (fun _ => ?_)
  refine s_aloadN K X d_method_3_code_5 rfl rfl (q := 6) rfl ?_
  refine s_iloadN K X d_method_3_code_6 rfl (q := 7) rfl ?_
  refine s_ldV K X d_method_3_code_7 eT F.2.1 rfl (by decide) rfl (q := 8) rfl ?_
  refine s_aloadN K X d_method_3_code_8 rfl rfl (q := 9) rfl ?_
  refine s_iloadN K X d_method_3_code_9 rfl (q := 10) rfl ?_
  refine s_iconst K X d_method_3_code_10 (z := 1) rfl (q := 11) rfl ?_
  refine s_iadd K X d_method_3_code_11 (q := 12) rfl ?_
  refine s_iloadN K X d_method_3_code_12 rfl (q := 13) rfl ?_
  refine s_irem K X d_method_3_code_13 (by decide) (q := 14) rfl ?_
  refine s_ldV K X d_method_3_code_14 eT F.2.1 rfl (by decide) rfl (q := 15) rfl ?_
  refine s_putF K X d_method_3_code_15 (hw _ (List.mem_of_getElem? (i := 29) rfl)) eT (F.1 0 (by decide)).2.1 (F.1 0 (by decide)).1 (Or.inl (hw _ (List.mem_of_getElem? (i := 21) rfl))) (hw _ (List.mem_of_getElem? (i := 3) rfl)) (ty := (.object "com/example/matchwright/matchwright/engine/Memory$Link")) (by decide) rfl rfl (q := 18) rfl (fun T17 h17 X17 e17 W17 => ?_)
  have F1 := Inv.next S P F hnx (i := 0) (j := 1) (by decide) W17
  refine s_aloadN K X17 d_method_3_code_18 rfl rfl (q := 19) rfl ?_
  refine s_iloadN K X17 d_method_3_code_19 rfl (q := 20) rfl ?_
  refine s_ldV K X17 d_method_3_code_20 e17 F1.2.1 rfl (by decide) rfl (q := 21) rfl ?_
  refine s_aloadN K X17 d_method_3_code_21 rfl rfl (q := 22) rfl ?_
  refine s_iloadN K X17 d_method_3_code_22 rfl (q := 23) rfl ?_
  refine s_iloadN K X17 d_method_3_code_23 rfl (q := 24) rfl ?_
  refine s_iadd K X17 d_method_3_code_24 (q := 25) rfl ?_
  refine s_iconst K X17 d_method_3_code_25 (z := 1) rfl (q := 26) rfl ?_
  refine s_isub K X17 d_method_3_code_26 (q := 27) rfl ?_
  refine s_iloadN K X17 d_method_3_code_27 rfl (q := 28) rfl ?_
  refine s_irem K X17 d_method_3_code_28 (by decide) (q := 29) rfl ?_
  refine s_ldV K X17 d_method_3_code_29 e17 F1.2.1 rfl (by decide) rfl (q := 30) rfl ?_
  refine s_putF K X17 d_method_3_code_30 (hw _ (List.mem_of_getElem? (i := 30) rfl)) e17 (F1.1 0 (by decide)).2.2 (F1.1 0 (by decide)).1 (Or.inl (hw _ (List.mem_of_getElem? (i := 19) rfl))) (hw _ (List.mem_of_getElem? (i := 3) rfl)) (ty := (.object "com/example/matchwright/matchwright/engine/Memory$Link")) (by decide) rfl rfl (q := 33) rfl (fun T18 h18 X18 e18 W18 => ?_)
  have F2 := Inv.prev S P F1 hpv (i := 0) (j := 1) (by decide) W18
  exact s_ret K X18 d_method_3_code_33 rfl e18 (by decide) (by decide) ⟨rfl, F2, ((Fr.nil _).app (fr_one (P.2 0 (by decide)).1)).app (fr_one (P.2 0 (by decide)).1)⟩
set_option maxRecDepth 65536 in
set_option maxHeartbeats 40000000 in
theorem c_ring_1_2 (l : Launch) (Z : State) (a0 : Array Value) (hw : ∀ d ∈ tables_1, d.before a0 Z = true) (S : Slots Z) (h0 : Heap) (B : Addr) (kB : ClassId) (As : List Addr) (nx pv : List Nat) (I : Addr) (v0 : Int32) (P : Sep Z B As) (F : Inv Z h0 B kB As nx pv I v0) (hnx : nx.length = 5) (hpv : pv.length = 5) : Con l Z (⟨"com/example/matchwright/matchwright/engine/LinkLinkBeforePinLaw", "ring", "([Lcom/example/matchwright/matchwright/engine/Memory$Link;II)V"⟩ : MethodName) method_3_code 3 none ({ frames := 0, cells := 0, slots := 0, locals := 0 } : Room) #[(.ref B), (.int (1 : Int32)), (.int (2 : Int32))] h0 (fun v h L => v = none ∧ Inv Z h B kB As (nx.set 1 0) (pv.set 1 0) I v0 ∧ Fr Z.heap.size L) := by
  refine Con.of (plainFor_of_name pn_com_example_matchwright_matchwright_engine_LinkLinkBeforePinLaw) (Ls := #[.val (.ref B), .val (.int (1 : Int32)), .val (.int (2 : Int32))]) (fun m => by first | (simp [entryFrame, mkF, argsToLocals, Value.category]; done) | rfl) (fun p e s m below meth cod T K X eT => ?_)
  refine s_iloadN K X d_method_3_code_0 rfl (q := 1) rfl ?_
  refine s_iloadN K X d_method_3_code_1 rfl (q := 2) rfl ?_
  refine s_icmp_ge K X d_method_3_code_2 (by decide) (q := 33) rfl (q' := 5) rfl (fun h_ => absurd h_ (by decide)) (fun _ => ?_)
  refine s_aloadN K X d_method_3_code_5 rfl rfl (q := 6) rfl ?_
  refine s_iloadN K X d_method_3_code_6 rfl (q := 7) rfl ?_
  refine s_ldV K X d_method_3_code_7 eT F.2.1 rfl (by decide) rfl (q := 8) rfl ?_
  refine s_aloadN K X d_method_3_code_8 rfl rfl (q := 9) rfl ?_
  refine s_iloadN K X d_method_3_code_9 rfl (q := 10) rfl ?_
  refine s_iconst K X d_method_3_code_10 (z := 1) rfl (q := 11) rfl ?_
  refine s_iadd K X d_method_3_code_11 (q := 12) rfl ?_
  refine s_iloadN K X d_method_3_code_12 rfl (q := 13) rfl ?_
  refine s_irem K X d_method_3_code_13 (by decide) (q := 14) rfl ?_
  refine s_ldV K X d_method_3_code_14 eT F.2.1 rfl (by decide) rfl (q := 15) rfl ?_
  refine s_putF K X d_method_3_code_15 (hw _ (List.mem_of_getElem? (i := 29) rfl)) eT (F.1 1 (by decide)).2.1 (F.1 1 (by decide)).1 (Or.inl (hw _ (List.mem_of_getElem? (i := 21) rfl))) (hw _ (List.mem_of_getElem? (i := 3) rfl)) (ty := (.object "com/example/matchwright/matchwright/engine/Memory$Link")) (by decide) rfl rfl (q := 18) rfl (fun T19 h19 X19 e19 W19 => ?_)
  have F1 := Inv.next S P F hnx (i := 1) (j := 0) (by decide) W19
  refine s_aloadN K X19 d_method_3_code_18 rfl rfl (q := 19) rfl ?_
  refine s_iloadN K X19 d_method_3_code_19 rfl (q := 20) rfl ?_
  refine s_ldV K X19 d_method_3_code_20 e19 F1.2.1 rfl (by decide) rfl (q := 21) rfl ?_
  refine s_aloadN K X19 d_method_3_code_21 rfl rfl (q := 22) rfl ?_
  refine s_iloadN K X19 d_method_3_code_22 rfl (q := 23) rfl ?_
  refine s_iloadN K X19 d_method_3_code_23 rfl (q := 24) rfl ?_
  refine s_iadd K X19 d_method_3_code_24 (q := 25) rfl ?_
  refine s_iconst K X19 d_method_3_code_25 (z := 1) rfl (q := 26) rfl ?_
  refine s_isub K X19 d_method_3_code_26 (q := 27) rfl ?_
  refine s_iloadN K X19 d_method_3_code_27 rfl (q := 28) rfl ?_
  refine s_irem K X19 d_method_3_code_28 (by decide) (q := 29) rfl ?_
  refine s_ldV K X19 d_method_3_code_29 e19 F1.2.1 rfl (by decide) rfl (q := 30) rfl ?_
  refine s_putF K X19 d_method_3_code_30 (hw _ (List.mem_of_getElem? (i := 30) rfl)) e19 (F1.1 1 (by decide)).2.2 (F1.1 1 (by decide)).1 (Or.inl (hw _ (List.mem_of_getElem? (i := 19) rfl))) (hw _ (List.mem_of_getElem? (i := 3) rfl)) (ty := (.object "com/example/matchwright/matchwright/engine/Memory$Link")) (by decide) rfl rfl (q := 33) rfl (fun T20 h20 X20 e20 W20 => ?_)
  have F2 := Inv.prev S P F1 hpv (i := 1) (j := 0) (by decide) W20
  exact s_ret K X20 d_method_3_code_33 rfl e20 (by decide) (by decide) ⟨rfl, F2, ((Fr.nil _).app (fr_one (P.2 1 (by decide)).1)).app (fr_one (P.2 1 (by decide)).1)⟩
set_option maxRecDepth 65536 in
set_option maxHeartbeats 40000000 in
theorem c_ring_0_3 (l : Launch) (Z : State) (a0 : Array Value) (hw : ∀ d ∈ tables_1, d.before a0 Z = true) (S : Slots Z) (h0 : Heap) (B : Addr) (kB : ClassId) (As : List Addr) (nx pv : List Nat) (I : Addr) (v0 : Int32) (P : Sep Z B As) (F : Inv Z h0 B kB As nx pv I v0) (hnx : nx.length = 5) (hpv : pv.length = 5) : Con l Z (⟨"com/example/matchwright/matchwright/engine/LinkLinkBeforePinLaw", "ring", "([Lcom/example/matchwright/matchwright/engine/Memory$Link;II)V"⟩ : MethodName) method_3_code 3 none ({ frames := 0, cells := 0, slots := 0, locals := 0 } : Room) #[(.ref B), (.int (0 : Int32)), (.int (3 : Int32))] h0 (fun v h L => v = none ∧ Inv Z h B kB As (nx.set 0 1) (pv.set 0 2) I v0 ∧ Fr Z.heap.size L) := by
  refine Con.of (plainFor_of_name pn_com_example_matchwright_matchwright_engine_LinkLinkBeforePinLaw) (Ls := #[.val (.ref B), .val (.int (0 : Int32)), .val (.int (3 : Int32))]) (fun m => by first | (simp [entryFrame, mkF, argsToLocals, Value.category]; done) | rfl) (fun p e s m below meth cod T K X eT => ?_)
  refine s_iloadN K X d_method_3_code_0 rfl (q := 1) rfl ?_
  refine s_iloadN K X d_method_3_code_1 rfl (q := 2) rfl ?_
  refine s_icmp_ge K X d_method_3_code_2 (by decide) (q := 33) rfl (q' := 5) rfl (fun h_ => absurd h_ (by decide)) (fun _ => ?_)
  refine s_aloadN K X d_method_3_code_5 rfl rfl (q := 6) rfl ?_
  refine s_iloadN K X d_method_3_code_6 rfl (q := 7) rfl ?_
  refine s_ldV K X d_method_3_code_7 eT F.2.1 rfl (by decide) rfl (q := 8) rfl ?_
  refine s_aloadN K X d_method_3_code_8 rfl rfl (q := 9) rfl ?_
  refine s_iloadN K X d_method_3_code_9 rfl (q := 10) rfl ?_
  refine s_iconst K X d_method_3_code_10 (z := 1) rfl (q := 11) rfl ?_
  refine s_iadd K X d_method_3_code_11 (q := 12) rfl ?_
  refine s_iloadN K X d_method_3_code_12 rfl (q := 13) rfl ?_
  refine s_irem K X d_method_3_code_13 (by decide) (q := 14) rfl ?_
  refine s_ldV K X d_method_3_code_14 eT F.2.1 rfl (by decide) rfl (q := 15) rfl ?_
  refine s_putF K X d_method_3_code_15 (hw _ (List.mem_of_getElem? (i := 29) rfl)) eT (F.1 0 (by decide)).2.1 (F.1 0 (by decide)).1 (Or.inl (hw _ (List.mem_of_getElem? (i := 21) rfl))) (hw _ (List.mem_of_getElem? (i := 3) rfl)) (ty := (.object "com/example/matchwright/matchwright/engine/Memory$Link")) (by decide) rfl rfl (q := 18) rfl (fun T21 h21 X21 e21 W21 => ?_)
  have F1 := Inv.next S P F hnx (i := 0) (j := 1) (by decide) W21
  refine s_aloadN K X21 d_method_3_code_18 rfl rfl (q := 19) rfl ?_
  refine s_iloadN K X21 d_method_3_code_19 rfl (q := 20) rfl ?_
  refine s_ldV K X21 d_method_3_code_20 e21 F1.2.1 rfl (by decide) rfl (q := 21) rfl ?_
  refine s_aloadN K X21 d_method_3_code_21 rfl rfl (q := 22) rfl ?_
  refine s_iloadN K X21 d_method_3_code_22 rfl (q := 23) rfl ?_
  refine s_iloadN K X21 d_method_3_code_23 rfl (q := 24) rfl ?_
  refine s_iadd K X21 d_method_3_code_24 (q := 25) rfl ?_
  refine s_iconst K X21 d_method_3_code_25 (z := 1) rfl (q := 26) rfl ?_
  refine s_isub K X21 d_method_3_code_26 (q := 27) rfl ?_
  refine s_iloadN K X21 d_method_3_code_27 rfl (q := 28) rfl ?_
  refine s_irem K X21 d_method_3_code_28 (by decide) (q := 29) rfl ?_
  refine s_ldV K X21 d_method_3_code_29 e21 F1.2.1 rfl (by decide) rfl (q := 30) rfl ?_
  refine s_putF K X21 d_method_3_code_30 (hw _ (List.mem_of_getElem? (i := 30) rfl)) e21 (F1.1 0 (by decide)).2.2 (F1.1 0 (by decide)).1 (Or.inl (hw _ (List.mem_of_getElem? (i := 19) rfl))) (hw _ (List.mem_of_getElem? (i := 3) rfl)) (ty := (.object "com/example/matchwright/matchwright/engine/Memory$Link")) (by decide) rfl rfl (q := 33) rfl (fun T22 h22 X22 e22 W22 => ?_)
  have F2 := Inv.prev S P F1 hpv (i := 0) (j := 2) (by decide) W22
  exact s_ret K X22 d_method_3_code_33 rfl e22 (by decide) (by decide) ⟨rfl, F2, ((Fr.nil _).app (fr_one (P.2 0 (by decide)).1)).app (fr_one (P.2 0 (by decide)).1)⟩
set_option maxRecDepth 65536 in
set_option maxHeartbeats 40000000 in
theorem c_ring_1_3 (l : Launch) (Z : State) (a0 : Array Value) (hw : ∀ d ∈ tables_1, d.before a0 Z = true) (S : Slots Z) (h0 : Heap) (B : Addr) (kB : ClassId) (As : List Addr) (nx pv : List Nat) (I : Addr) (v0 : Int32) (P : Sep Z B As) (F : Inv Z h0 B kB As nx pv I v0) (hnx : nx.length = 5) (hpv : pv.length = 5) : Con l Z (⟨"com/example/matchwright/matchwright/engine/LinkLinkBeforePinLaw", "ring", "([Lcom/example/matchwright/matchwright/engine/Memory$Link;II)V"⟩ : MethodName) method_3_code 3 none ({ frames := 0, cells := 0, slots := 0, locals := 0 } : Room) #[(.ref B), (.int (1 : Int32)), (.int (3 : Int32))] h0 (fun v h L => v = none ∧ Inv Z h B kB As (nx.set 1 2) (pv.set 1 0) I v0 ∧ Fr Z.heap.size L) := by
  refine Con.of (plainFor_of_name pn_com_example_matchwright_matchwright_engine_LinkLinkBeforePinLaw) (Ls := #[.val (.ref B), .val (.int (1 : Int32)), .val (.int (3 : Int32))]) (fun m => by first | (simp [entryFrame, mkF, argsToLocals, Value.category]; done) | rfl) (fun p e s m below meth cod T K X eT => ?_)
  refine s_iloadN K X d_method_3_code_0 rfl (q := 1) rfl ?_
  refine s_iloadN K X d_method_3_code_1 rfl (q := 2) rfl ?_
  refine s_icmp_ge K X d_method_3_code_2 (by decide) (q := 33) rfl (q' := 5) rfl (fun h_ => absurd h_ (by decide)) (fun _ => ?_)
  refine s_aloadN K X d_method_3_code_5 rfl rfl (q := 6) rfl ?_
  refine s_iloadN K X d_method_3_code_6 rfl (q := 7) rfl ?_
  refine s_ldV K X d_method_3_code_7 eT F.2.1 rfl (by decide) rfl (q := 8) rfl ?_
  refine s_aloadN K X d_method_3_code_8 rfl rfl (q := 9) rfl ?_
  refine s_iloadN K X d_method_3_code_9 rfl (q := 10) rfl ?_
  refine s_iconst K X d_method_3_code_10 (z := 1) rfl (q := 11) rfl ?_
  refine s_iadd K X d_method_3_code_11 (q := 12) rfl ?_
  refine s_iloadN K X d_method_3_code_12 rfl (q := 13) rfl ?_
  refine s_irem K X d_method_3_code_13 (by decide) (q := 14) rfl ?_
  refine s_ldV K X d_method_3_code_14 eT F.2.1 rfl (by decide) rfl (q := 15) rfl ?_
  refine s_putF K X d_method_3_code_15 (hw _ (List.mem_of_getElem? (i := 29) rfl)) eT (F.1 1 (by decide)).2.1 (F.1 1 (by decide)).1 (Or.inl (hw _ (List.mem_of_getElem? (i := 21) rfl))) (hw _ (List.mem_of_getElem? (i := 3) rfl)) (ty := (.object "com/example/matchwright/matchwright/engine/Memory$Link")) (by decide) rfl rfl (q := 18) rfl (fun T23 h23 X23 e23 W23 => ?_)
  have F1 := Inv.next S P F hnx (i := 1) (j := 2) (by decide) W23
  refine s_aloadN K X23 d_method_3_code_18 rfl rfl (q := 19) rfl ?_
  refine s_iloadN K X23 d_method_3_code_19 rfl (q := 20) rfl ?_
  refine s_ldV K X23 d_method_3_code_20 e23 F1.2.1 rfl (by decide) rfl (q := 21) rfl ?_
  refine s_aloadN K X23 d_method_3_code_21 rfl rfl (q := 22) rfl ?_
  refine s_iloadN K X23 d_method_3_code_22 rfl (q := 23) rfl ?_
  refine s_iloadN K X23 d_method_3_code_23 rfl (q := 24) rfl ?_
  refine s_iadd K X23 d_method_3_code_24 (q := 25) rfl ?_
  refine s_iconst K X23 d_method_3_code_25 (z := 1) rfl (q := 26) rfl ?_
  refine s_isub K X23 d_method_3_code_26 (q := 27) rfl ?_
  refine s_iloadN K X23 d_method_3_code_27 rfl (q := 28) rfl ?_
  refine s_irem K X23 d_method_3_code_28 (by decide) (q := 29) rfl ?_
  refine s_ldV K X23 d_method_3_code_29 e23 F1.2.1 rfl (by decide) rfl (q := 30) rfl ?_
  refine s_putF K X23 d_method_3_code_30 (hw _ (List.mem_of_getElem? (i := 30) rfl)) e23 (F1.1 1 (by decide)).2.2 (F1.1 1 (by decide)).1 (Or.inl (hw _ (List.mem_of_getElem? (i := 19) rfl))) (hw _ (List.mem_of_getElem? (i := 3) rfl)) (ty := (.object "com/example/matchwright/matchwright/engine/Memory$Link")) (by decide) rfl rfl (q := 33) rfl (fun T24 h24 X24 e24 W24 => ?_)
  have F2 := Inv.prev S P F1 hpv (i := 1) (j := 0) (by decide) W24
  exact s_ret K X24 d_method_3_code_33 rfl e24 (by decide) (by decide) ⟨rfl, F2, ((Fr.nil _).app (fr_one (P.2 1 (by decide)).1)).app (fr_one (P.2 1 (by decide)).1)⟩
set_option maxRecDepth 65536 in
set_option maxHeartbeats 40000000 in
theorem c_ring_2_3 (l : Launch) (Z : State) (a0 : Array Value) (hw : ∀ d ∈ tables_1, d.before a0 Z = true) (S : Slots Z) (h0 : Heap) (B : Addr) (kB : ClassId) (As : List Addr) (nx pv : List Nat) (I : Addr) (v0 : Int32) (P : Sep Z B As) (F : Inv Z h0 B kB As nx pv I v0) (hnx : nx.length = 5) (hpv : pv.length = 5) : Con l Z (⟨"com/example/matchwright/matchwright/engine/LinkLinkBeforePinLaw", "ring", "([Lcom/example/matchwright/matchwright/engine/Memory$Link;II)V"⟩ : MethodName) method_3_code 3 none ({ frames := 0, cells := 0, slots := 0, locals := 0 } : Room) #[(.ref B), (.int (2 : Int32)), (.int (3 : Int32))] h0 (fun v h L => v = none ∧ Inv Z h B kB As (nx.set 2 0) (pv.set 2 1) I v0 ∧ Fr Z.heap.size L) := by
  refine Con.of (plainFor_of_name pn_com_example_matchwright_matchwright_engine_LinkLinkBeforePinLaw) (Ls := #[.val (.ref B), .val (.int (2 : Int32)), .val (.int (3 : Int32))]) (fun m => by first | (simp [entryFrame, mkF, argsToLocals, Value.category]; done) | rfl) (fun p e s m below meth cod T K X eT => ?_)
  refine s_iloadN K X d_method_3_code_0 rfl (q := 1) rfl ?_
  refine s_iloadN K X d_method_3_code_1 rfl (q := 2) rfl ?_
  refine s_icmp_ge K X d_method_3_code_2 (by decide) (q := 33) rfl (q' := 5) rfl (fun h_ => absurd h_ (by decide)) (fun _ => ?_)
  refine s_aloadN K X d_method_3_code_5 rfl rfl (q := 6) rfl ?_
  refine s_iloadN K X d_method_3_code_6 rfl (q := 7) rfl ?_
  refine s_ldV K X d_method_3_code_7 eT F.2.1 rfl (by decide) rfl (q := 8) rfl ?_
  refine s_aloadN K X d_method_3_code_8 rfl rfl (q := 9) rfl ?_
  refine s_iloadN K X d_method_3_code_9 rfl (q := 10) rfl ?_
  refine s_iconst K X d_method_3_code_10 (z := 1) rfl (q := 11) rfl ?_
  refine s_iadd K X d_method_3_code_11 (q := 12) rfl ?_
  refine s_iloadN K X d_method_3_code_12 rfl (q := 13) rfl ?_
  refine s_irem K X d_method_3_code_13 (by decide) (q := 14) rfl ?_
  refine s_ldV K X d_method_3_code_14 eT F.2.1 rfl (by decide) rfl (q := 15) rfl ?_
  refine s_putF K X d_method_3_code_15 (hw _ (List.mem_of_getElem? (i := 29) rfl)) eT (F.1 2 (by decide)).2.1 (F.1 2 (by decide)).1 (Or.inl (hw _ (List.mem_of_getElem? (i := 21) rfl))) (hw _ (List.mem_of_getElem? (i := 3) rfl)) (ty := (.object "com/example/matchwright/matchwright/engine/Memory$Link")) (by decide) rfl rfl (q := 18) rfl (fun T25 h25 X25 e25 W25 => ?_)
  have F1 := Inv.next S P F hnx (i := 2) (j := 0) (by decide) W25
  refine s_aloadN K X25 d_method_3_code_18 rfl rfl (q := 19) rfl ?_
  refine s_iloadN K X25 d_method_3_code_19 rfl (q := 20) rfl ?_
  refine s_ldV K X25 d_method_3_code_20 e25 F1.2.1 rfl (by decide) rfl (q := 21) rfl ?_
  refine s_aloadN K X25 d_method_3_code_21 rfl rfl (q := 22) rfl ?_
  refine s_iloadN K X25 d_method_3_code_22 rfl (q := 23) rfl ?_
  refine s_iloadN K X25 d_method_3_code_23 rfl (q := 24) rfl ?_
  refine s_iadd K X25 d_method_3_code_24 (q := 25) rfl ?_
  refine s_iconst K X25 d_method_3_code_25 (z := 1) rfl (q := 26) rfl ?_
  refine s_isub K X25 d_method_3_code_26 (q := 27) rfl ?_
  refine s_iloadN K X25 d_method_3_code_27 rfl (q := 28) rfl ?_
  refine s_irem K X25 d_method_3_code_28 (by decide) (q := 29) rfl ?_
  refine s_ldV K X25 d_method_3_code_29 e25 F1.2.1 rfl (by decide) rfl (q := 30) rfl ?_
  refine s_putF K X25 d_method_3_code_30 (hw _ (List.mem_of_getElem? (i := 30) rfl)) e25 (F1.1 2 (by decide)).2.2 (F1.1 2 (by decide)).1 (Or.inl (hw _ (List.mem_of_getElem? (i := 19) rfl))) (hw _ (List.mem_of_getElem? (i := 3) rfl)) (ty := (.object "com/example/matchwright/matchwright/engine/Memory$Link")) (by decide) rfl rfl (q := 33) rfl (fun T26 h26 X26 e26 W26 => ?_)
  have F2 := Inv.prev S P F1 hpv (i := 2) (j := 1) (by decide) W26
  exact s_ret K X26 d_method_3_code_33 rfl e26 (by decide) (by decide) ⟨rfl, F2, ((Fr.nil _).app (fr_one (P.2 2 (by decide)).1)).app (fr_one (P.2 2 (by decide)).1)⟩
set_option maxRecDepth 65536 in
set_option maxHeartbeats 40000000 in
theorem c_ring_0_4 (l : Launch) (Z : State) (a0 : Array Value) (hw : ∀ d ∈ tables_1, d.before a0 Z = true) (S : Slots Z) (h0 : Heap) (B : Addr) (kB : ClassId) (As : List Addr) (nx pv : List Nat) (I : Addr) (v0 : Int32) (P : Sep Z B As) (F : Inv Z h0 B kB As nx pv I v0) (hnx : nx.length = 5) (hpv : pv.length = 5) : Con l Z (⟨"com/example/matchwright/matchwright/engine/LinkLinkBeforePinLaw", "ring", "([Lcom/example/matchwright/matchwright/engine/Memory$Link;II)V"⟩ : MethodName) method_3_code 3 none ({ frames := 0, cells := 0, slots := 0, locals := 0 } : Room) #[(.ref B), (.int (0 : Int32)), (.int (4 : Int32))] h0 (fun v h L => v = none ∧ Inv Z h B kB As (nx.set 0 1) (pv.set 0 3) I v0 ∧ Fr Z.heap.size L) := by
  refine Con.of (plainFor_of_name pn_com_example_matchwright_matchwright_engine_LinkLinkBeforePinLaw) (Ls := #[.val (.ref B), .val (.int (0 : Int32)), .val (.int (4 : Int32))]) (fun m => by first | (simp [entryFrame, mkF, argsToLocals, Value.category]; done) | rfl) (fun p e s m below meth cod T K X eT => ?_)
  refine s_iloadN K X d_method_3_code_0 rfl (q := 1) rfl ?_
  refine s_iloadN K X d_method_3_code_1 rfl (q := 2) rfl ?_
  refine s_icmp_ge K X d_method_3_code_2 (by decide) (q := 33) rfl (q' := 5) rfl (fun h_ => absurd h_ (by decide)) (fun _ => ?_)
  refine s_aloadN K X d_method_3_code_5 rfl rfl (q := 6) rfl ?_
  refine s_iloadN K X d_method_3_code_6 rfl (q := 7) rfl ?_
  refine s_ldV K X d_method_3_code_7 eT F.2.1 rfl (by decide) rfl (q := 8) rfl ?_
  refine s_aloadN K X d_method_3_code_8 rfl rfl (q := 9) rfl ?_
  refine s_iloadN K X d_method_3_code_9 rfl (q := 10) rfl ?_
  refine s_iconst K X d_method_3_code_10 (z := 1) rfl (q := 11) rfl ?_
  refine s_iadd K X d_method_3_code_11 (q := 12) rfl ?_
  refine s_iloadN K X d_method_3_code_12 rfl (q := 13) rfl ?_
  refine s_irem K X d_method_3_code_13 (by decide) (q := 14) rfl ?_
  refine s_ldV K X d_method_3_code_14 eT F.2.1 rfl (by decide) rfl (q := 15) rfl ?_
  refine s_putF K X d_method_3_code_15 (hw _ (List.mem_of_getElem? (i := 29) rfl)) eT (F.1 0 (by decide)).2.1 (F.1 0 (by decide)).1 (Or.inl (hw _ (List.mem_of_getElem? (i := 21) rfl))) (hw _ (List.mem_of_getElem? (i := 3) rfl)) (ty := (.object "com/example/matchwright/matchwright/engine/Memory$Link")) (by decide) rfl rfl (q := 18) rfl (fun T27 h27 X27 e27 W27 => ?_)
  have F1 := Inv.next S P F hnx (i := 0) (j := 1) (by decide) W27
  refine s_aloadN K X27 d_method_3_code_18 rfl rfl (q := 19) rfl ?_
  refine s_iloadN K X27 d_method_3_code_19 rfl (q := 20) rfl ?_
  refine s_ldV K X27 d_method_3_code_20 e27 F1.2.1 rfl (by decide) rfl (q := 21) rfl ?_
  refine s_aloadN K X27 d_method_3_code_21 rfl rfl (q := 22) rfl ?_
  refine s_iloadN K X27 d_method_3_code_22 rfl (q := 23) rfl ?_
  refine s_iloadN K X27 d_method_3_code_23 rfl (q := 24) rfl ?_
  refine s_iadd K X27 d_method_3_code_24 (q := 25) rfl ?_
  refine s_iconst K X27 d_method_3_code_25 (z := 1) rfl (q := 26) rfl ?_
  refine s_isub K X27 d_method_3_code_26 (q := 27) rfl ?_
  refine s_iloadN K X27 d_method_3_code_27 rfl (q := 28) rfl ?_
  refine s_irem K X27 d_method_3_code_28 (by decide) (q := 29) rfl ?_
  refine s_ldV K X27 d_method_3_code_29 e27 F1.2.1 rfl (by decide) rfl (q := 30) rfl ?_
  refine s_putF K X27 d_method_3_code_30 (hw _ (List.mem_of_getElem? (i := 30) rfl)) e27 (F1.1 0 (by decide)).2.2 (F1.1 0 (by decide)).1 (Or.inl (hw _ (List.mem_of_getElem? (i := 19) rfl))) (hw _ (List.mem_of_getElem? (i := 3) rfl)) (ty := (.object "com/example/matchwright/matchwright/engine/Memory$Link")) (by decide) rfl rfl (q := 33) rfl (fun T28 h28 X28 e28 W28 => ?_)
  have F2 := Inv.prev S P F1 hpv (i := 0) (j := 3) (by decide) W28
  exact s_ret K X28 d_method_3_code_33 rfl e28 (by decide) (by decide) ⟨rfl, F2, ((Fr.nil _).app (fr_one (P.2 0 (by decide)).1)).app (fr_one (P.2 0 (by decide)).1)⟩
set_option maxRecDepth 65536 in
set_option maxHeartbeats 40000000 in
theorem c_ring_1_4 (l : Launch) (Z : State) (a0 : Array Value) (hw : ∀ d ∈ tables_1, d.before a0 Z = true) (S : Slots Z) (h0 : Heap) (B : Addr) (kB : ClassId) (As : List Addr) (nx pv : List Nat) (I : Addr) (v0 : Int32) (P : Sep Z B As) (F : Inv Z h0 B kB As nx pv I v0) (hnx : nx.length = 5) (hpv : pv.length = 5) : Con l Z (⟨"com/example/matchwright/matchwright/engine/LinkLinkBeforePinLaw", "ring", "([Lcom/example/matchwright/matchwright/engine/Memory$Link;II)V"⟩ : MethodName) method_3_code 3 none ({ frames := 0, cells := 0, slots := 0, locals := 0 } : Room) #[(.ref B), (.int (1 : Int32)), (.int (4 : Int32))] h0 (fun v h L => v = none ∧ Inv Z h B kB As (nx.set 1 2) (pv.set 1 0) I v0 ∧ Fr Z.heap.size L) := by
  refine Con.of (plainFor_of_name pn_com_example_matchwright_matchwright_engine_LinkLinkBeforePinLaw) (Ls := #[.val (.ref B), .val (.int (1 : Int32)), .val (.int (4 : Int32))]) (fun m => by first | (simp [entryFrame, mkF, argsToLocals, Value.category]; done) | rfl) (fun p e s m below meth cod T K X eT => ?_)
  refine s_iloadN K X d_method_3_code_0 rfl (q := 1) rfl ?_
  refine s_iloadN K X d_method_3_code_1 rfl (q := 2) rfl ?_
  refine s_icmp_ge K X d_method_3_code_2 (by decide) (q := 33) rfl (q' := 5) rfl (fun h_ => absurd h_ (by decide)) (fun _ => ?_)
  refine s_aloadN K X d_method_3_code_5 rfl rfl (q := 6) rfl ?_
  refine s_iloadN K X d_method_3_code_6 rfl (q := 7) rfl ?_
  refine s_ldV K X d_method_3_code_7 eT F.2.1 rfl (by decide) rfl (q := 8) rfl ?_
  refine s_aloadN K X d_method_3_code_8 rfl rfl (q := 9) rfl ?_
  refine s_iloadN K X d_method_3_code_9 rfl (q := 10) rfl ?_
  refine s_iconst K X d_method_3_code_10 (z := 1) rfl (q := 11) rfl ?_
  refine s_iadd K X d_method_3_code_11 (q := 12) rfl ?_
  refine s_iloadN K X d_method_3_code_12 rfl (q := 13) rfl ?_
  refine s_irem K X d_method_3_code_13 (by decide) (q := 14) rfl ?_
  refine s_ldV K X d_method_3_code_14 eT F.2.1 rfl (by decide) rfl (q := 15) rfl ?_
  refine s_putF K X d_method_3_code_15 (hw _ (List.mem_of_getElem? (i := 29) rfl)) eT (F.1 1 (by decide)).2.1 (F.1 1 (by decide)).1 (Or.inl (hw _ (List.mem_of_getElem? (i := 21) rfl))) (hw _ (List.mem_of_getElem? (i := 3) rfl)) (ty := (.object "com/example/matchwright/matchwright/engine/Memory$Link")) (by decide) rfl rfl (q := 18) rfl (fun T29 h29 X29 e29 W29 => ?_)
  have F1 := Inv.next S P F hnx (i := 1) (j := 2) (by decide) W29
  refine s_aloadN K X29 d_method_3_code_18 rfl rfl (q := 19) rfl ?_
  refine s_iloadN K X29 d_method_3_code_19 rfl (q := 20) rfl ?_
  refine s_ldV K X29 d_method_3_code_20 e29 F1.2.1 rfl (by decide) rfl (q := 21) rfl ?_
  refine s_aloadN K X29 d_method_3_code_21 rfl rfl (q := 22) rfl ?_
  refine s_iloadN K X29 d_method_3_code_22 rfl (q := 23) rfl ?_
  refine s_iloadN K X29 d_method_3_code_23 rfl (q := 24) rfl ?_
  refine s_iadd K X29 d_method_3_code_24 (q := 25) rfl ?_
  refine s_iconst K X29 d_method_3_code_25 (z := 1) rfl (q := 26) rfl ?_
  refine s_isub K X29 d_method_3_code_26 (q := 27) rfl ?_
  refine s_iloadN K X29 d_method_3_code_27 rfl (q := 28) rfl ?_
  refine s_irem K X29 d_method_3_code_28 (by decide) (q := 29) rfl ?_
  refine s_ldV K X29 d_method_3_code_29 e29 F1.2.1 rfl (by decide) rfl (q := 30) rfl ?_
  refine s_putF K X29 d_method_3_code_30 (hw _ (List.mem_of_getElem? (i := 30) rfl)) e29 (F1.1 1 (by decide)).2.2 (F1.1 1 (by decide)).1 (Or.inl (hw _ (List.mem_of_getElem? (i := 19) rfl))) (hw _ (List.mem_of_getElem? (i := 3) rfl)) (ty := (.object "com/example/matchwright/matchwright/engine/Memory$Link")) (by decide) rfl rfl (q := 33) rfl (fun T30 h30 X30 e30 W30 => ?_)
  have F2 := Inv.prev S P F1 hpv (i := 1) (j := 0) (by decide) W30
  exact s_ret K X30 d_method_3_code_33 rfl e30 (by decide) (by decide) ⟨rfl, F2, ((Fr.nil _).app (fr_one (P.2 1 (by decide)).1)).app (fr_one (P.2 1 (by decide)).1)⟩
set_option maxRecDepth 65536 in
set_option maxHeartbeats 40000000 in
theorem c_ring_2_4 (l : Launch) (Z : State) (a0 : Array Value) (hw : ∀ d ∈ tables_1, d.before a0 Z = true) (S : Slots Z) (h0 : Heap) (B : Addr) (kB : ClassId) (As : List Addr) (nx pv : List Nat) (I : Addr) (v0 : Int32) (P : Sep Z B As) (F : Inv Z h0 B kB As nx pv I v0) (hnx : nx.length = 5) (hpv : pv.length = 5) : Con l Z (⟨"com/example/matchwright/matchwright/engine/LinkLinkBeforePinLaw", "ring", "([Lcom/example/matchwright/matchwright/engine/Memory$Link;II)V"⟩ : MethodName) method_3_code 3 none ({ frames := 0, cells := 0, slots := 0, locals := 0 } : Room) #[(.ref B), (.int (2 : Int32)), (.int (4 : Int32))] h0 (fun v h L => v = none ∧ Inv Z h B kB As (nx.set 2 3) (pv.set 2 1) I v0 ∧ Fr Z.heap.size L) := by
  refine Con.of (plainFor_of_name pn_com_example_matchwright_matchwright_engine_LinkLinkBeforePinLaw) (Ls := #[.val (.ref B), .val (.int (2 : Int32)), .val (.int (4 : Int32))]) (fun m => by first | (simp [entryFrame, mkF, argsToLocals, Value.category]; done) | rfl) (fun p e s m below meth cod T K X eT => ?_)
  refine s_iloadN K X d_method_3_code_0 rfl (q := 1) rfl ?_
  refine s_iloadN K X d_method_3_code_1 rfl (q := 2) rfl ?_
  refine s_icmp_ge K X d_method_3_code_2 (by decide) (q := 33) rfl (q' := 5) rfl (fun h_ => absurd h_ (by decide)) (fun _ => ?_)
  refine s_aloadN K X d_method_3_code_5 rfl rfl (q := 6) rfl ?_
  refine s_iloadN K X d_method_3_code_6 rfl (q := 7) rfl ?_
  refine s_ldV K X d_method_3_code_7 eT F.2.1 rfl (by decide) rfl (q := 8) rfl ?_
  refine s_aloadN K X d_method_3_code_8 rfl rfl (q := 9) rfl ?_
  refine s_iloadN K X d_method_3_code_9 rfl (q := 10) rfl ?_
  refine s_iconst K X d_method_3_code_10 (z := 1) rfl (q := 11) rfl ?_
  refine s_iadd K X d_method_3_code_11 (q := 12) rfl ?_
  refine s_iloadN K X d_method_3_code_12 rfl (q := 13) rfl ?_
  refine s_irem K X d_method_3_code_13 (by decide) (q := 14) rfl ?_
  refine s_ldV K X d_method_3_code_14 eT F.2.1 rfl (by decide) rfl (q := 15) rfl ?_
  refine s_putF K X d_method_3_code_15 (hw _ (List.mem_of_getElem? (i := 29) rfl)) eT (F.1 2 (by decide)).2.1 (F.1 2 (by decide)).1 (Or.inl (hw _ (List.mem_of_getElem? (i := 21) rfl))) (hw _ (List.mem_of_getElem? (i := 3) rfl)) (ty := (.object "com/example/matchwright/matchwright/engine/Memory$Link")) (by decide) rfl rfl (q := 18) rfl (fun T31 h31 X31 e31 W31 => ?_)
  have F1 := Inv.next S P F hnx (i := 2) (j := 3) (by decide) W31
  refine s_aloadN K X31 d_method_3_code_18 rfl rfl (q := 19) rfl ?_
  refine s_iloadN K X31 d_method_3_code_19 rfl (q := 20) rfl ?_
  refine s_ldV K X31 d_method_3_code_20 e31 F1.2.1 rfl (by decide) rfl (q := 21) rfl ?_
  refine s_aloadN K X31 d_method_3_code_21 rfl rfl (q := 22) rfl ?_
  refine s_iloadN K X31 d_method_3_code_22 rfl (q := 23) rfl ?_
  refine s_iloadN K X31 d_method_3_code_23 rfl (q := 24) rfl ?_
  refine s_iadd K X31 d_method_3_code_24 (q := 25) rfl ?_
  refine s_iconst K X31 d_method_3_code_25 (z := 1) rfl (q := 26) rfl ?_
  refine s_isub K X31 d_method_3_code_26 (q := 27) rfl ?_
  refine s_iloadN K X31 d_method_3_code_27 rfl (q := 28) rfl ?_
  refine s_irem K X31 d_method_3_code_28 (by decide) (q := 29) rfl ?_
  refine s_ldV K X31 d_method_3_code_29 e31 F1.2.1 rfl (by decide) rfl (q := 30) rfl ?_
  refine s_putF K X31 d_method_3_code_30 (hw _ (List.mem_of_getElem? (i := 30) rfl)) e31 (F1.1 2 (by decide)).2.2 (F1.1 2 (by decide)).1 (Or.inl (hw _ (List.mem_of_getElem? (i := 19) rfl))) (hw _ (List.mem_of_getElem? (i := 3) rfl)) (ty := (.object "com/example/matchwright/matchwright/engine/Memory$Link")) (by decide) rfl rfl (q := 33) rfl (fun T32 h32 X32 e32 W32 => ?_)
  have F2 := Inv.prev S P F1 hpv (i := 2) (j := 1) (by decide) W32
  exact s_ret K X32 d_method_3_code_33 rfl e32 (by decide) (by decide) ⟨rfl, F2, ((Fr.nil _).app (fr_one (P.2 2 (by decide)).1)).app (fr_one (P.2 2 (by decide)).1)⟩
set_option maxRecDepth 65536 in
set_option maxHeartbeats 40000000 in
theorem c_ring_3_4 (l : Launch) (Z : State) (a0 : Array Value) (hw : ∀ d ∈ tables_1, d.before a0 Z = true) (S : Slots Z) (h0 : Heap) (B : Addr) (kB : ClassId) (As : List Addr) (nx pv : List Nat) (I : Addr) (v0 : Int32) (P : Sep Z B As) (F : Inv Z h0 B kB As nx pv I v0) (hnx : nx.length = 5) (hpv : pv.length = 5) : Con l Z (⟨"com/example/matchwright/matchwright/engine/LinkLinkBeforePinLaw", "ring", "([Lcom/example/matchwright/matchwright/engine/Memory$Link;II)V"⟩ : MethodName) method_3_code 3 none ({ frames := 0, cells := 0, slots := 0, locals := 0 } : Room) #[(.ref B), (.int (3 : Int32)), (.int (4 : Int32))] h0 (fun v h L => v = none ∧ Inv Z h B kB As (nx.set 3 0) (pv.set 3 2) I v0 ∧ Fr Z.heap.size L) := by
  refine Con.of (plainFor_of_name pn_com_example_matchwright_matchwright_engine_LinkLinkBeforePinLaw) (Ls := #[.val (.ref B), .val (.int (3 : Int32)), .val (.int (4 : Int32))]) (fun m => by first | (simp [entryFrame, mkF, argsToLocals, Value.category]; done) | rfl) (fun p e s m below meth cod T K X eT => ?_)
  refine s_iloadN K X d_method_3_code_0 rfl (q := 1) rfl ?_
  refine s_iloadN K X d_method_3_code_1 rfl (q := 2) rfl ?_
  refine s_icmp_ge K X d_method_3_code_2 (by decide) (q := 33) rfl (q' := 5) rfl (fun h_ => absurd h_ (by decide)) (fun _ => ?_)
  refine s_aloadN K X d_method_3_code_5 rfl rfl (q := 6) rfl ?_
  refine s_iloadN K X d_method_3_code_6 rfl (q := 7) rfl ?_
  refine s_ldV K X d_method_3_code_7 eT F.2.1 rfl (by decide) rfl (q := 8) rfl ?_
  refine s_aloadN K X d_method_3_code_8 rfl rfl (q := 9) rfl ?_
  refine s_iloadN K X d_method_3_code_9 rfl (q := 10) rfl ?_
  refine s_iconst K X d_method_3_code_10 (z := 1) rfl (q := 11) rfl ?_
  refine s_iadd K X d_method_3_code_11 (q := 12) rfl ?_
  refine s_iloadN K X d_method_3_code_12 rfl (q := 13) rfl ?_
  refine s_irem K X d_method_3_code_13 (by decide) (q := 14) rfl ?_
  refine s_ldV K X d_method_3_code_14 eT F.2.1 rfl (by decide) rfl (q := 15) rfl ?_
  refine s_putF K X d_method_3_code_15 (hw _ (List.mem_of_getElem? (i := 29) rfl)) eT (F.1 3 (by decide)).2.1 (F.1 3 (by decide)).1 (Or.inl (hw _ (List.mem_of_getElem? (i := 21) rfl))) (hw _ (List.mem_of_getElem? (i := 3) rfl)) (ty := (.object "com/example/matchwright/matchwright/engine/Memory$Link")) (by decide) rfl rfl (q := 18) rfl (fun T33 h33 X33 e33 W33 => ?_)
  have F1 := Inv.next S P F hnx (i := 3) (j := 0) (by decide) W33
  refine s_aloadN K X33 d_method_3_code_18 rfl rfl (q := 19) rfl ?_
  refine s_iloadN K X33 d_method_3_code_19 rfl (q := 20) rfl ?_
  refine s_ldV K X33 d_method_3_code_20 e33 F1.2.1 rfl (by decide) rfl (q := 21) rfl ?_
  refine s_aloadN K X33 d_method_3_code_21 rfl rfl (q := 22) rfl ?_
  refine s_iloadN K X33 d_method_3_code_22 rfl (q := 23) rfl ?_
  refine s_iloadN K X33 d_method_3_code_23 rfl (q := 24) rfl ?_
  refine s_iadd K X33 d_method_3_code_24 (q := 25) rfl ?_
  refine s_iconst K X33 d_method_3_code_25 (z := 1) rfl (q := 26) rfl ?_
  refine s_isub K X33 d_method_3_code_26 (q := 27) rfl ?_
  refine s_iloadN K X33 d_method_3_code_27 rfl (q := 28) rfl ?_
  refine s_irem K X33 d_method_3_code_28 (by decide) (q := 29) rfl ?_
  refine s_ldV K X33 d_method_3_code_29 e33 F1.2.1 rfl (by decide) rfl (q := 30) rfl ?_
  refine s_putF K X33 d_method_3_code_30 (hw _ (List.mem_of_getElem? (i := 30) rfl)) e33 (F1.1 3 (by decide)).2.2 (F1.1 3 (by decide)).1 (Or.inl (hw _ (List.mem_of_getElem? (i := 19) rfl))) (hw _ (List.mem_of_getElem? (i := 3) rfl)) (ty := (.object "com/example/matchwright/matchwright/engine/Memory$Link")) (by decide) rfl rfl (q := 33) rfl (fun T34 h34 X34 e34 W34 => ?_)
  have F2 := Inv.prev S P F1 hpv (i := 3) (j := 2) (by decide) W34
  exact s_ret K X34 d_method_3_code_33 rfl e34 (by decide) (by decide) ⟨rfl, F2, ((Fr.nil _).app (fr_one (P.2 3 (by decide)).1)).app (fr_one (P.2 3 (by decide)).1)⟩
set_option maxRecDepth 65536 in
set_option maxHeartbeats 40000000 in
theorem c_before (l : Launch) (Z : State) (a0 : Array Value) (hw : ∀ d ∈ tables_1, d.before a0 Z = true) (S : Slots Z) (h0 : Heap) (B : Addr) (kB : ClassId) (As : List Addr) (nx pv : List Nat) (I : Addr) (v0 : Int32) (P : Sep Z B As) (F : Inv Z h0 B kB As nx pv I v0) (hnx : nx.length = 5) (hpv : pv.length = 5) (k q0 : Nat) (hk : k < 5) (hq : q0 < 5) (h1 : pv.getD k 0 = q0) (h2 : (pv.set 4 q0).getD k 0 = q0) : Con l Z (⟨"com/example/matchwright/matchwright/engine/Memory$Link", "linkBefore", "(Lcom/example/matchwright/matchwright/engine/Memory$Link;)V"⟩ : MethodName) prog_51_method_5_code 2 none ({ frames := 0, cells := 0, slots := 0, locals := 0 } : Room) #[(.ref (As.getD 4 0)), (.ref (As.getD k 0))] h0 (fun v h L => v = none ∧ Inv Z h B kB As ((nx.set 4 k).set q0 4) ((pv.set 4 q0).set k 4) I v0 ∧ Fr Z.heap.size L) := by
  refine Con.of (plainFor_of_name pn_com_example_matchwright_matchwright_engine_Memory_Link) (Ls := #[.val (.ref (As.getD 4 0)), .val (.ref (As.getD k 0))]) (fun m => by first | (simp [entryFrame, mkF, argsToLocals, Value.category]; done) | rfl) (fun p e s m below meth cod T K X eT => ?_)
  refine s_aloadN K X d_prog_51_method_5_code_0 rfl rfl (q := 1) rfl ?_
  refine s_aloadN K X d_prog_51_method_5_code_1 rfl rfl (q := 2) rfl ?_
  refine s_getF K X d_prog_51_method_5_code_2 (hw _ (List.mem_of_getElem? (i := 18) rfl)) eT (F.1 k hk).2.2 (q := 5) rfl (fun T35 X35 e35 => ?_)
  rw [h1]
  refine s_putF K X35 d_prog_51_method_5_code_5 (hw _ (List.mem_of_getElem? (i := 18) rfl)) e35 (F.1 4 (by decide)).2.2 (F.1 4 (by decide)).1 (Or.inl (hw _ (List.mem_of_getElem? (i := 19) rfl))) (hw _ (List.mem_of_getElem? (i := 3) rfl)) (ty := (.object "com/example/matchwright/matchwright/engine/Memory$Link")) (by decide) rfl rfl (q := 8) rfl (fun T36 h36 X36 e36 W36 => ?_)
  have F1 := Inv.prev S P F hpv (i := 4) (j := q0) (by decide) W36
  refine s_aloadN K X36 d_prog_51_method_5_code_8 rfl rfl (q := 9) rfl ?_
  refine s_aloadN K X36 d_prog_51_method_5_code_9 rfl rfl (q := 10) rfl ?_
  refine s_putF K X36 d_prog_51_method_5_code_10 (hw _ (List.mem_of_getElem? (i := 20) rfl)) e36 (F1.1 4 (by decide)).2.1 (F1.1 4 (by decide)).1 (Or.inl (hw _ (List.mem_of_getElem? (i := 21) rfl))) (hw _ (List.mem_of_getElem? (i := 3) rfl)) (ty := (.object "com/example/matchwright/matchwright/engine/Memory$Link")) (by decide) rfl rfl (q := 13) rfl (fun T37 h37 X37 e37 W37 => ?_)
  have F2 := Inv.next S P F1 hnx (i := 4) (j := k) (by decide) W37
  refine s_aloadN K X37 d_prog_51_method_5_code_13 rfl rfl (q := 14) rfl ?_
  refine s_getF K X37 d_prog_51_method_5_code_14 (hw _ (List.mem_of_getElem? (i := 18) rfl)) e37 (F2.1 k hk).2.2 (q := 17) rfl (fun T38 X38 e38 => ?_)
  rw [h2]
  refine s_aloadN K X38 d_prog_51_method_5_code_17 rfl rfl (q := 18) rfl ?_
  refine s_putF K X38 d_prog_51_method_5_code_18 (hw _ (List.mem_of_getElem? (i := 20) rfl)) e38 (F2.1 q0 hq).2.1 (F2.1 q0 hq).1 (Or.inl (hw _ (List.mem_of_getElem? (i := 21) rfl))) (hw _ (List.mem_of_getElem? (i := 3) rfl)) (ty := (.object "com/example/matchwright/matchwright/engine/Memory$Link")) (by decide) rfl rfl (q := 21) rfl (fun T39 h39 X39 e39 W39 => ?_)
  have F3 := Inv.next S P F2 (by rw [List.length_set]; exact hnx) (i := q0) (j := 4) hq W39
  refine s_aloadN K X39 d_prog_51_method_5_code_21 rfl rfl (q := 22) rfl ?_
  refine s_aloadN K X39 d_prog_51_method_5_code_22 rfl rfl (q := 23) rfl ?_
  refine s_putF K X39 d_prog_51_method_5_code_23 (hw _ (List.mem_of_getElem? (i := 18) rfl)) e39 (F3.1 k hk).2.2 (F3.1 k hk).1 (Or.inl (hw _ (List.mem_of_getElem? (i := 19) rfl))) (hw _ (List.mem_of_getElem? (i := 3) rfl)) (ty := (.object "com/example/matchwright/matchwright/engine/Memory$Link")) (by decide) rfl rfl (q := 26) rfl (fun T40 h40 X40 e40 W40 => ?_)
  have F4 := Inv.prev S P F3 (by rw [List.length_set]; exact hpv) (i := k) (j := 4) hk W40
  exact s_ret K X40 d_prog_51_method_5_code_26 rfl e40 (by decide) (by decide) ⟨rfl, F4, ((((Fr.nil _).app (fr_one (P.2 4 (by decide)).1)).app (fr_one (P.2 4 (by decide)).1)).app (fr_one (P.2 q0 hq).1)).app (fr_one (P.2 k hk).1)⟩
set_option maxRecDepth 65536 in
set_option maxHeartbeats 40000000 in
theorem c_at_0_0 (l : Launch) (Z : State) (a0 : Array Value) (hw : ∀ d ∈ tables_1, d.before a0 Z = true) (h0 : Heap) (B : Addr) (kB : ClassId) (As : List Addr) (nx pv : List Nat) (I : Addr) (v0 : Int32) (F : Inv Z h0 B kB As nx pv I v0)  : Con l Z (⟨"com/example/matchwright/matchwright/engine/LinkLinkBeforePinLaw", "at", "([Lcom/example/matchwright/matchwright/engine/Memory$Link;Lcom/example/matchwright/matchwright/engine/Memory$Link;II)Lcom/example/matchwright/matchwright/engine/Memory$Link;"⟩ : MethodName) method_4_code 4 (some (.object "com/example/matchwright/matchwright/engine/Memory$Link")) ({ frames := 0, cells := 0, slots := 0, locals := 0 } : Room) #[(.ref B), (.ref (As.getD 4 0)), (.int (0 : Int32)), (.int (0 : Int32))] h0 (fun v h L => v = some (.ref (As.getD 4 0)) ∧ h = h0 ∧ L = []) := by
  refine Con.of (plainFor_of_name pn_com_example_matchwright_matchwright_engine_LinkLinkBeforePinLaw) (Ls := #[.val (.ref B), .val (.ref (As.getD 4 0)), .val (.int (0 : Int32)), .val (.int (0 : Int32))]) (fun m => by first | (simp [entryFrame, mkF, argsToLocals, Value.category]; done) | rfl) (fun p e s m below meth cod T K X eT => ?_)
  refine s_iloadN K X d_method_4_code_0 rfl (q := 1) rfl ?_
  refine s_iloadN K X d_method_4_code_1 rfl (q := 2) rfl ?_
  refine s_icmp_ge K X d_method_4_code_2 (by decide) (q := 9) rfl (q' := 5) rfl (fun _ => ?_) (fun h_ => absurd h_ (by decide))
  refine s_iloadN K X d_method_4_code_9 rfl (q := 10) rfl ?_
  refine s_iloadN K X d_method_4_code_10 rfl (q := 11) rfl ?_
  refine s_icmp_ne K X d_method_4_code_11 (by decide) (q := 16) rfl (q' := 14) rfl (fun h_ => absurd h_ (by decide)) (fun _ => ?_)
  refine s_aloadN K X d_method_4_code_14 rfl rfl (q := 15) rfl ?_
  exact s_retA K X d_method_4_code_15 rfl rfl rfl eT (by decide) (by decide) ⟨rfl, rfl, rfl⟩
set_option maxRecDepth 65536 in
set_option maxHeartbeats 40000000 in
theorem c_at_0_1 (l : Launch) (Z : State) (a0 : Array Value) (hw : ∀ d ∈ tables_1, d.before a0 Z = true) (h0 : Heap) (B : Addr) (kB : ClassId) (As : List Addr) (nx pv : List Nat) (I : Addr) (v0 : Int32) (F : Inv Z h0 B kB As nx pv I v0)  : Con l Z (⟨"com/example/matchwright/matchwright/engine/LinkLinkBeforePinLaw", "at", "([Lcom/example/matchwright/matchwright/engine/Memory$Link;Lcom/example/matchwright/matchwright/engine/Memory$Link;II)Lcom/example/matchwright/matchwright/engine/Memory$Link;"⟩ : MethodName) method_4_code 4 (some (.object "com/example/matchwright/matchwright/engine/Memory$Link")) ({ frames := 0, cells := 0, slots := 0, locals := 0 } : Room) #[(.ref B), (.ref (As.getD 4 0)), (.int (0 : Int32)), (.int (1 : Int32))] h0 (fun v h L => v = some (.ref (As.getD 0 0)) ∧ h = h0 ∧ L = []) := by
  refine Con.of (plainFor_of_name pn_com_example_matchwright_matchwright_engine_LinkLinkBeforePinLaw) (Ls := #[.val (.ref B), .val (.ref (As.getD 4 0)), .val (.int (0 : Int32)), .val (.int (1 : Int32))]) (fun m => by first | (simp [entryFrame, mkF, argsToLocals, Value.category]; done) | rfl) (fun p e s m below meth cod T K X eT => ?_)
  refine s_iloadN K X d_method_4_code_0 rfl (q := 1) rfl ?_
  refine s_iloadN K X d_method_4_code_1 rfl (q := 2) rfl ?_
  refine s_icmp_ge K X d_method_4_code_2 (by decide) (q := 9) rfl (q' := 5) rfl (fun _ => ?_) (fun h_ => absurd h_ (by decide))
  refine s_iloadN K X d_method_4_code_9 rfl (q := 10) rfl ?_
  refine s_iloadN K X d_method_4_code_10 rfl (q := 11) rfl ?_
  refine s_icmp_ne K X d_method_4_code_11 (by decide) (q := 16) rfl (q' := 14) rfl (fun _ => ?_) (fun h_ => absurd h_ (by decide))
  refine s_aloadN K X d_method_4_code_16 rfl rfl (q := 17) rfl ?_
  refine s_iloadN K X d_method_4_code_17 rfl (q := 18) rfl ?_
  refine s_iconst K X d_method_4_code_18 (z := 1) rfl (q := 19) rfl ?_
  refine s_isub K X d_method_4_code_19 (q := 20) rfl ?_
  refine s_ldV K X d_method_4_code_20 eT F.2.1 rfl (by decide) rfl (q := 21) rfl ?_
  exact s_retA K X d_method_4_code_21 rfl rfl rfl eT (by decide) (by decide) ⟨rfl, rfl, rfl⟩
set_option maxRecDepth 65536 in
set_option maxHeartbeats 40000000 in
theorem c_at_0_2 (l : Launch) (Z : State) (a0 : Array Value) (hw : ∀ d ∈ tables_1, d.before a0 Z = true) (h0 : Heap) (B : Addr) (kB : ClassId) (As : List Addr) (nx pv : List Nat) (I : Addr) (v0 : Int32) (F : Inv Z h0 B kB As nx pv I v0)  : Con l Z (⟨"com/example/matchwright/matchwright/engine/LinkLinkBeforePinLaw", "at", "([Lcom/example/matchwright/matchwright/engine/Memory$Link;Lcom/example/matchwright/matchwright/engine/Memory$Link;II)Lcom/example/matchwright/matchwright/engine/Memory$Link;"⟩ : MethodName) method_4_code 4 (some (.object "com/example/matchwright/matchwright/engine/Memory$Link")) ({ frames := 0, cells := 0, slots := 0, locals := 0 } : Room) #[(.ref B), (.ref (As.getD 4 0)), (.int (0 : Int32)), (.int (2 : Int32))] h0 (fun v h L => v = some (.ref (As.getD 1 0)) ∧ h = h0 ∧ L = []) := by
  refine Con.of (plainFor_of_name pn_com_example_matchwright_matchwright_engine_LinkLinkBeforePinLaw) (Ls := #[.val (.ref B), .val (.ref (As.getD 4 0)), .val (.int (0 : Int32)), .val (.int (2 : Int32))]) (fun m => by first | (simp [entryFrame, mkF, argsToLocals, Value.category]; done) | rfl) (fun p e s m below meth cod T K X eT => ?_)
  refine s_iloadN K X d_method_4_code_0 rfl (q := 1) rfl ?_
  refine s_iloadN K X d_method_4_code_1 rfl (q := 2) rfl ?_
  refine s_icmp_ge K X d_method_4_code_2 (by decide) (q := 9) rfl (q' := 5) rfl (fun _ => ?_) (fun h_ => absurd h_ (by decide))
  refine s_iloadN K X d_method_4_code_9 rfl (q := 10) rfl ?_
  refine s_iloadN K X d_method_4_code_10 rfl (q := 11) rfl ?_
  refine s_icmp_ne K X d_method_4_code_11 (by decide) (q := 16) rfl (q' := 14) rfl (fun _ => ?_) (fun h_ => absurd h_ (by decide))
  refine s_aloadN K X d_method_4_code_16 rfl rfl (q := 17) rfl ?_
  refine s_iloadN K X d_method_4_code_17 rfl (q := 18) rfl ?_
  refine s_iconst K X d_method_4_code_18 (z := 1) rfl (q := 19) rfl ?_
  refine s_isub K X d_method_4_code_19 (q := 20) rfl ?_
  refine s_ldV K X d_method_4_code_20 eT F.2.1 rfl (by decide) rfl (q := 21) rfl ?_
  exact s_retA K X d_method_4_code_21 rfl rfl rfl eT (by decide) (by decide) ⟨rfl, rfl, rfl⟩
set_option maxRecDepth 65536 in
set_option maxHeartbeats 40000000 in
theorem c_at_0_3 (l : Launch) (Z : State) (a0 : Array Value) (hw : ∀ d ∈ tables_1, d.before a0 Z = true) (h0 : Heap) (B : Addr) (kB : ClassId) (As : List Addr) (nx pv : List Nat) (I : Addr) (v0 : Int32) (F : Inv Z h0 B kB As nx pv I v0)  : Con l Z (⟨"com/example/matchwright/matchwright/engine/LinkLinkBeforePinLaw", "at", "([Lcom/example/matchwright/matchwright/engine/Memory$Link;Lcom/example/matchwright/matchwright/engine/Memory$Link;II)Lcom/example/matchwright/matchwright/engine/Memory$Link;"⟩ : MethodName) method_4_code 4 (some (.object "com/example/matchwright/matchwright/engine/Memory$Link")) ({ frames := 0, cells := 0, slots := 0, locals := 0 } : Room) #[(.ref B), (.ref (As.getD 4 0)), (.int (0 : Int32)), (.int (3 : Int32))] h0 (fun v h L => v = some (.ref (As.getD 2 0)) ∧ h = h0 ∧ L = []) := by
  refine Con.of (plainFor_of_name pn_com_example_matchwright_matchwright_engine_LinkLinkBeforePinLaw) (Ls := #[.val (.ref B), .val (.ref (As.getD 4 0)), .val (.int (0 : Int32)), .val (.int (3 : Int32))]) (fun m => by first | (simp [entryFrame, mkF, argsToLocals, Value.category]; done) | rfl) (fun p e s m below meth cod T K X eT => ?_)
  refine s_iloadN K X d_method_4_code_0 rfl (q := 1) rfl ?_
  refine s_iloadN K X d_method_4_code_1 rfl (q := 2) rfl ?_
  refine s_icmp_ge K X d_method_4_code_2 (by decide) (q := 9) rfl (q' := 5) rfl (fun _ => ?_) (fun h_ => absurd h_ (by decide))
  refine s_iloadN K X d_method_4_code_9 rfl (q := 10) rfl ?_
  refine s_iloadN K X d_method_4_code_10 rfl (q := 11) rfl ?_
  refine s_icmp_ne K X d_method_4_code_11 (by decide) (q := 16) rfl (q' := 14) rfl (fun _ => ?_) (fun h_ => absurd h_ (by decide))
  refine s_aloadN K X d_method_4_code_16 rfl rfl (q := 17) rfl ?_
  refine s_iloadN K X d_method_4_code_17 rfl (q := 18) rfl ?_
  refine s_iconst K X d_method_4_code_18 (z := 1) rfl (q := 19) rfl ?_
  refine s_isub K X d_method_4_code_19 (q := 20) rfl ?_
  refine s_ldV K X d_method_4_code_20 eT F.2.1 rfl (by decide) rfl (q := 21) rfl ?_
  exact s_retA K X d_method_4_code_21 rfl rfl rfl eT (by decide) (by decide) ⟨rfl, rfl, rfl⟩
set_option maxRecDepth 65536 in
set_option maxHeartbeats 40000000 in
theorem c_at_0_4 (l : Launch) (Z : State) (a0 : Array Value) (hw : ∀ d ∈ tables_1, d.before a0 Z = true) (h0 : Heap) (B : Addr) (kB : ClassId) (As : List Addr) (nx pv : List Nat) (I : Addr) (v0 : Int32) (F : Inv Z h0 B kB As nx pv I v0)  : Con l Z (⟨"com/example/matchwright/matchwright/engine/LinkLinkBeforePinLaw", "at", "([Lcom/example/matchwright/matchwright/engine/Memory$Link;Lcom/example/matchwright/matchwright/engine/Memory$Link;II)Lcom/example/matchwright/matchwright/engine/Memory$Link;"⟩ : MethodName) method_4_code 4 (some (.object "com/example/matchwright/matchwright/engine/Memory$Link")) ({ frames := 0, cells := 0, slots := 0, locals := 0 } : Room) #[(.ref B), (.ref (As.getD 4 0)), (.int (0 : Int32)), (.int (4 : Int32))] h0 (fun v h L => v = some (.ref (As.getD 3 0)) ∧ h = h0 ∧ L = []) := by
  refine Con.of (plainFor_of_name pn_com_example_matchwright_matchwright_engine_LinkLinkBeforePinLaw) (Ls := #[.val (.ref B), .val (.ref (As.getD 4 0)), .val (.int (0 : Int32)), .val (.int (4 : Int32))]) (fun m => by first | (simp [entryFrame, mkF, argsToLocals, Value.category]; done) | rfl) (fun p e s m below meth cod T K X eT => ?_)
  refine s_iloadN K X d_method_4_code_0 rfl (q := 1) rfl ?_
  refine s_iloadN K X d_method_4_code_1 rfl (q := 2) rfl ?_
  refine s_icmp_ge K X d_method_4_code_2 (by decide) (q := 9) rfl (q' := 5) rfl (fun _ => ?_) (fun h_ => absurd h_ (by decide))
  refine s_iloadN K X d_method_4_code_9 rfl (q := 10) rfl ?_
  refine s_iloadN K X d_method_4_code_10 rfl (q := 11) rfl ?_
  refine s_icmp_ne K X d_method_4_code_11 (by decide) (q := 16) rfl (q' := 14) rfl (fun _ => ?_) (fun h_ => absurd h_ (by decide))
  refine s_aloadN K X d_method_4_code_16 rfl rfl (q := 17) rfl ?_
  refine s_iloadN K X d_method_4_code_17 rfl (q := 18) rfl ?_
  refine s_iconst K X d_method_4_code_18 (z := 1) rfl (q := 19) rfl ?_
  refine s_isub K X d_method_4_code_19 (q := 20) rfl ?_
  refine s_ldV K X d_method_4_code_20 eT F.2.1 rfl (by decide) rfl (q := 21) rfl ?_
  exact s_retA K X d_method_4_code_21 rfl rfl rfl eT (by decide) (by decide) ⟨rfl, rfl, rfl⟩
set_option maxRecDepth 65536 in
set_option maxHeartbeats 40000000 in
theorem c_at_1_0 (l : Launch) (Z : State) (a0 : Array Value) (hw : ∀ d ∈ tables_1, d.before a0 Z = true) (h0 : Heap) (B : Addr) (kB : ClassId) (As : List Addr) (nx pv : List Nat) (I : Addr) (v0 : Int32) (F : Inv Z h0 B kB As nx pv I v0)  : Con l Z (⟨"com/example/matchwright/matchwright/engine/LinkLinkBeforePinLaw", "at", "([Lcom/example/matchwright/matchwright/engine/Memory$Link;Lcom/example/matchwright/matchwright/engine/Memory$Link;II)Lcom/example/matchwright/matchwright/engine/Memory$Link;"⟩ : MethodName) method_4_code 4 (some (.object "com/example/matchwright/matchwright/engine/Memory$Link")) ({ frames := 0, cells := 0, slots := 0, locals := 0 } : Room) #[(.ref B), (.ref (As.getD 4 0)), (.int (1 : Int32)), (.int (0 : Int32))] h0 (fun v h L => v = some (.ref (As.getD 0 0)) ∧ h = h0 ∧ L = []) := by
  refine Con.of (plainFor_of_name pn_com_example_matchwright_matchwright_engine_LinkLinkBeforePinLaw) (Ls := #[.val (.ref B), .val (.ref (As.getD 4 0)), .val (.int (1 : Int32)), .val (.int (0 : Int32))]) (fun m => by first | (simp [entryFrame, mkF, argsToLocals, Value.category]; done) | rfl) (fun p e s m below meth cod T K X eT => ?_)
  refine s_iloadN K X d_method_4_code_0 rfl (q := 1) rfl ?_
  refine s_iloadN K X d_method_4_code_1 rfl (q := 2) rfl ?_
  refine s_icmp_ge K X d_method_4_code_2 (by decide) (q := 9) rfl (q' := 5) rfl (fun h_ => absurd h_ (by decide)) (fun _ => ?_)
  refine s_aloadN K X d_method_4_code_5 rfl rfl (q := 6) rfl ?_
  refine s_iloadN K X d_method_4_code_6 rfl (q := 7) rfl ?_
  refine s_ldV K X d_method_4_code_7 eT F.2.1 rfl (by decide) rfl (q := 8) rfl ?_
  exact s_retA K X d_method_4_code_8 rfl rfl rfl eT (by decide) (by decide) ⟨rfl, rfl, rfl⟩
set_option maxRecDepth 65536 in
set_option maxHeartbeats 40000000 in
theorem c_at_1_1 (l : Launch) (Z : State) (a0 : Array Value) (hw : ∀ d ∈ tables_1, d.before a0 Z = true) (h0 : Heap) (B : Addr) (kB : ClassId) (As : List Addr) (nx pv : List Nat) (I : Addr) (v0 : Int32) (F : Inv Z h0 B kB As nx pv I v0)  : Con l Z (⟨"com/example/matchwright/matchwright/engine/LinkLinkBeforePinLaw", "at", "([Lcom/example/matchwright/matchwright/engine/Memory$Link;Lcom/example/matchwright/matchwright/engine/Memory$Link;II)Lcom/example/matchwright/matchwright/engine/Memory$Link;"⟩ : MethodName) method_4_code 4 (some (.object "com/example/matchwright/matchwright/engine/Memory$Link")) ({ frames := 0, cells := 0, slots := 0, locals := 0 } : Room) #[(.ref B), (.ref (As.getD 4 0)), (.int (1 : Int32)), (.int (1 : Int32))] h0 (fun v h L => v = some (.ref (As.getD 4 0)) ∧ h = h0 ∧ L = []) := by
  refine Con.of (plainFor_of_name pn_com_example_matchwright_matchwright_engine_LinkLinkBeforePinLaw) (Ls := #[.val (.ref B), .val (.ref (As.getD 4 0)), .val (.int (1 : Int32)), .val (.int (1 : Int32))]) (fun m => by first | (simp [entryFrame, mkF, argsToLocals, Value.category]; done) | rfl) (fun p e s m below meth cod T K X eT => ?_)
  refine s_iloadN K X d_method_4_code_0 rfl (q := 1) rfl ?_
  refine s_iloadN K X d_method_4_code_1 rfl (q := 2) rfl ?_
  refine s_icmp_ge K X d_method_4_code_2 (by decide) (q := 9) rfl (q' := 5) rfl (fun _ => ?_) (fun h_ => absurd h_ (by decide))
  refine s_iloadN K X d_method_4_code_9 rfl (q := 10) rfl ?_
  refine s_iloadN K X d_method_4_code_10 rfl (q := 11) rfl ?_
  refine s_icmp_ne K X d_method_4_code_11 (by decide) (q := 16) rfl (q' := 14) rfl (fun h_ => absurd h_ (by decide)) (fun _ => ?_)
  refine s_aloadN K X d_method_4_code_14 rfl rfl (q := 15) rfl ?_
  exact s_retA K X d_method_4_code_15 rfl rfl rfl eT (by decide) (by decide) ⟨rfl, rfl, rfl⟩
set_option maxRecDepth 65536 in
set_option maxHeartbeats 40000000 in
theorem c_at_1_2 (l : Launch) (Z : State) (a0 : Array Value) (hw : ∀ d ∈ tables_1, d.before a0 Z = true) (h0 : Heap) (B : Addr) (kB : ClassId) (As : List Addr) (nx pv : List Nat) (I : Addr) (v0 : Int32) (F : Inv Z h0 B kB As nx pv I v0)  : Con l Z (⟨"com/example/matchwright/matchwright/engine/LinkLinkBeforePinLaw", "at", "([Lcom/example/matchwright/matchwright/engine/Memory$Link;Lcom/example/matchwright/matchwright/engine/Memory$Link;II)Lcom/example/matchwright/matchwright/engine/Memory$Link;"⟩ : MethodName) method_4_code 4 (some (.object "com/example/matchwright/matchwright/engine/Memory$Link")) ({ frames := 0, cells := 0, slots := 0, locals := 0 } : Room) #[(.ref B), (.ref (As.getD 4 0)), (.int (1 : Int32)), (.int (2 : Int32))] h0 (fun v h L => v = some (.ref (As.getD 1 0)) ∧ h = h0 ∧ L = []) := by
  refine Con.of (plainFor_of_name pn_com_example_matchwright_matchwright_engine_LinkLinkBeforePinLaw) (Ls := #[.val (.ref B), .val (.ref (As.getD 4 0)), .val (.int (1 : Int32)), .val (.int (2 : Int32))]) (fun m => by first | (simp [entryFrame, mkF, argsToLocals, Value.category]; done) | rfl) (fun p e s m below meth cod T K X eT => ?_)
  refine s_iloadN K X d_method_4_code_0 rfl (q := 1) rfl ?_
  refine s_iloadN K X d_method_4_code_1 rfl (q := 2) rfl ?_
  refine s_icmp_ge K X d_method_4_code_2 (by decide) (q := 9) rfl (q' := 5) rfl (fun _ => ?_) (fun h_ => absurd h_ (by decide))
  refine s_iloadN K X d_method_4_code_9 rfl (q := 10) rfl ?_
  refine s_iloadN K X d_method_4_code_10 rfl (q := 11) rfl ?_
  refine s_icmp_ne K X d_method_4_code_11 (by decide) (q := 16) rfl (q' := 14) rfl (fun _ => ?_) (fun h_ => absurd h_ (by decide))
  refine s_aloadN K X d_method_4_code_16 rfl rfl (q := 17) rfl ?_
  refine s_iloadN K X d_method_4_code_17 rfl (q := 18) rfl ?_
  refine s_iconst K X d_method_4_code_18 (z := 1) rfl (q := 19) rfl ?_
  refine s_isub K X d_method_4_code_19 (q := 20) rfl ?_
  refine s_ldV K X d_method_4_code_20 eT F.2.1 rfl (by decide) rfl (q := 21) rfl ?_
  exact s_retA K X d_method_4_code_21 rfl rfl rfl eT (by decide) (by decide) ⟨rfl, rfl, rfl⟩
set_option maxRecDepth 65536 in
set_option maxHeartbeats 40000000 in
theorem c_at_1_3 (l : Launch) (Z : State) (a0 : Array Value) (hw : ∀ d ∈ tables_1, d.before a0 Z = true) (h0 : Heap) (B : Addr) (kB : ClassId) (As : List Addr) (nx pv : List Nat) (I : Addr) (v0 : Int32) (F : Inv Z h0 B kB As nx pv I v0)  : Con l Z (⟨"com/example/matchwright/matchwright/engine/LinkLinkBeforePinLaw", "at", "([Lcom/example/matchwright/matchwright/engine/Memory$Link;Lcom/example/matchwright/matchwright/engine/Memory$Link;II)Lcom/example/matchwright/matchwright/engine/Memory$Link;"⟩ : MethodName) method_4_code 4 (some (.object "com/example/matchwright/matchwright/engine/Memory$Link")) ({ frames := 0, cells := 0, slots := 0, locals := 0 } : Room) #[(.ref B), (.ref (As.getD 4 0)), (.int (1 : Int32)), (.int (3 : Int32))] h0 (fun v h L => v = some (.ref (As.getD 2 0)) ∧ h = h0 ∧ L = []) := by
  refine Con.of (plainFor_of_name pn_com_example_matchwright_matchwright_engine_LinkLinkBeforePinLaw) (Ls := #[.val (.ref B), .val (.ref (As.getD 4 0)), .val (.int (1 : Int32)), .val (.int (3 : Int32))]) (fun m => by first | (simp [entryFrame, mkF, argsToLocals, Value.category]; done) | rfl) (fun p e s m below meth cod T K X eT => ?_)
  refine s_iloadN K X d_method_4_code_0 rfl (q := 1) rfl ?_
  refine s_iloadN K X d_method_4_code_1 rfl (q := 2) rfl ?_
  refine s_icmp_ge K X d_method_4_code_2 (by decide) (q := 9) rfl (q' := 5) rfl (fun _ => ?_) (fun h_ => absurd h_ (by decide))
  refine s_iloadN K X d_method_4_code_9 rfl (q := 10) rfl ?_
  refine s_iloadN K X d_method_4_code_10 rfl (q := 11) rfl ?_
  refine s_icmp_ne K X d_method_4_code_11 (by decide) (q := 16) rfl (q' := 14) rfl (fun _ => ?_) (fun h_ => absurd h_ (by decide))
  refine s_aloadN K X d_method_4_code_16 rfl rfl (q := 17) rfl ?_
  refine s_iloadN K X d_method_4_code_17 rfl (q := 18) rfl ?_
  refine s_iconst K X d_method_4_code_18 (z := 1) rfl (q := 19) rfl ?_
  refine s_isub K X d_method_4_code_19 (q := 20) rfl ?_
  refine s_ldV K X d_method_4_code_20 eT F.2.1 rfl (by decide) rfl (q := 21) rfl ?_
  exact s_retA K X d_method_4_code_21 rfl rfl rfl eT (by decide) (by decide) ⟨rfl, rfl, rfl⟩
set_option maxRecDepth 65536 in
set_option maxHeartbeats 40000000 in
theorem c_at_1_4 (l : Launch) (Z : State) (a0 : Array Value) (hw : ∀ d ∈ tables_1, d.before a0 Z = true) (h0 : Heap) (B : Addr) (kB : ClassId) (As : List Addr) (nx pv : List Nat) (I : Addr) (v0 : Int32) (F : Inv Z h0 B kB As nx pv I v0)  : Con l Z (⟨"com/example/matchwright/matchwright/engine/LinkLinkBeforePinLaw", "at", "([Lcom/example/matchwright/matchwright/engine/Memory$Link;Lcom/example/matchwright/matchwright/engine/Memory$Link;II)Lcom/example/matchwright/matchwright/engine/Memory$Link;"⟩ : MethodName) method_4_code 4 (some (.object "com/example/matchwright/matchwright/engine/Memory$Link")) ({ frames := 0, cells := 0, slots := 0, locals := 0 } : Room) #[(.ref B), (.ref (As.getD 4 0)), (.int (1 : Int32)), (.int (4 : Int32))] h0 (fun v h L => v = some (.ref (As.getD 3 0)) ∧ h = h0 ∧ L = []) := by
  refine Con.of (plainFor_of_name pn_com_example_matchwright_matchwright_engine_LinkLinkBeforePinLaw) (Ls := #[.val (.ref B), .val (.ref (As.getD 4 0)), .val (.int (1 : Int32)), .val (.int (4 : Int32))]) (fun m => by first | (simp [entryFrame, mkF, argsToLocals, Value.category]; done) | rfl) (fun p e s m below meth cod T K X eT => ?_)
  refine s_iloadN K X d_method_4_code_0 rfl (q := 1) rfl ?_
  refine s_iloadN K X d_method_4_code_1 rfl (q := 2) rfl ?_
  refine s_icmp_ge K X d_method_4_code_2 (by decide) (q := 9) rfl (q' := 5) rfl (fun _ => ?_) (fun h_ => absurd h_ (by decide))
  refine s_iloadN K X d_method_4_code_9 rfl (q := 10) rfl ?_
  refine s_iloadN K X d_method_4_code_10 rfl (q := 11) rfl ?_
  refine s_icmp_ne K X d_method_4_code_11 (by decide) (q := 16) rfl (q' := 14) rfl (fun _ => ?_) (fun h_ => absurd h_ (by decide))
  refine s_aloadN K X d_method_4_code_16 rfl rfl (q := 17) rfl ?_
  refine s_iloadN K X d_method_4_code_17 rfl (q := 18) rfl ?_
  refine s_iconst K X d_method_4_code_18 (z := 1) rfl (q := 19) rfl ?_
  refine s_isub K X d_method_4_code_19 (q := 20) rfl ?_
  refine s_ldV K X d_method_4_code_20 eT F.2.1 rfl (by decide) rfl (q := 21) rfl ?_
  exact s_retA K X d_method_4_code_21 rfl rfl rfl eT (by decide) (by decide) ⟨rfl, rfl, rfl⟩
set_option maxRecDepth 65536 in
set_option maxHeartbeats 40000000 in
theorem c_at_2_0 (l : Launch) (Z : State) (a0 : Array Value) (hw : ∀ d ∈ tables_1, d.before a0 Z = true) (h0 : Heap) (B : Addr) (kB : ClassId) (As : List Addr) (nx pv : List Nat) (I : Addr) (v0 : Int32) (F : Inv Z h0 B kB As nx pv I v0)  : Con l Z (⟨"com/example/matchwright/matchwright/engine/LinkLinkBeforePinLaw", "at", "([Lcom/example/matchwright/matchwright/engine/Memory$Link;Lcom/example/matchwright/matchwright/engine/Memory$Link;II)Lcom/example/matchwright/matchwright/engine/Memory$Link;"⟩ : MethodName) method_4_code 4 (some (.object "com/example/matchwright/matchwright/engine/Memory$Link")) ({ frames := 0, cells := 0, slots := 0, locals := 0 } : Room) #[(.ref B), (.ref (As.getD 4 0)), (.int (2 : Int32)), (.int (0 : Int32))] h0 (fun v h L => v = some (.ref (As.getD 0 0)) ∧ h = h0 ∧ L = []) := by
  refine Con.of (plainFor_of_name pn_com_example_matchwright_matchwright_engine_LinkLinkBeforePinLaw) (Ls := #[.val (.ref B), .val (.ref (As.getD 4 0)), .val (.int (2 : Int32)), .val (.int (0 : Int32))]) (fun m => by first | (simp [entryFrame, mkF, argsToLocals, Value.category]; done) | rfl) (fun p e s m below meth cod T K X eT => ?_)
  refine s_iloadN K X d_method_4_code_0 rfl (q := 1) rfl ?_
  refine s_iloadN K X d_method_4_code_1 rfl (q := 2) rfl ?_
  refine s_icmp_ge K X d_method_4_code_2 (by decide) (q := 9) rfl (q' := 5) rfl (fun h_ => absurd h_ (by decide)) (fun _ => ?_)
  refine s_aloadN K X d_method_4_code_5 rfl rfl (q := 6) rfl ?_
  refine s_iloadN K X d_method_4_code_6 rfl (q := 7) rfl ?_
  refine s_ldV K X d_method_4_code_7 eT F.2.1 rfl (by decide) rfl (q := 8) rfl ?_
  exact s_retA K X d_method_4_code_8 rfl rfl rfl eT (by decide) (by decide) ⟨rfl, rfl, rfl⟩
set_option maxRecDepth 65536 in
set_option maxHeartbeats 40000000 in
theorem c_at_2_1 (l : Launch) (Z : State) (a0 : Array Value) (hw : ∀ d ∈ tables_1, d.before a0 Z = true) (h0 : Heap) (B : Addr) (kB : ClassId) (As : List Addr) (nx pv : List Nat) (I : Addr) (v0 : Int32) (F : Inv Z h0 B kB As nx pv I v0)  : Con l Z (⟨"com/example/matchwright/matchwright/engine/LinkLinkBeforePinLaw", "at", "([Lcom/example/matchwright/matchwright/engine/Memory$Link;Lcom/example/matchwright/matchwright/engine/Memory$Link;II)Lcom/example/matchwright/matchwright/engine/Memory$Link;"⟩ : MethodName) method_4_code 4 (some (.object "com/example/matchwright/matchwright/engine/Memory$Link")) ({ frames := 0, cells := 0, slots := 0, locals := 0 } : Room) #[(.ref B), (.ref (As.getD 4 0)), (.int (2 : Int32)), (.int (1 : Int32))] h0 (fun v h L => v = some (.ref (As.getD 1 0)) ∧ h = h0 ∧ L = []) := by
  refine Con.of (plainFor_of_name pn_com_example_matchwright_matchwright_engine_LinkLinkBeforePinLaw) (Ls := #[.val (.ref B), .val (.ref (As.getD 4 0)), .val (.int (2 : Int32)), .val (.int (1 : Int32))]) (fun m => by first | (simp [entryFrame, mkF, argsToLocals, Value.category]; done) | rfl) (fun p e s m below meth cod T K X eT => ?_)
  refine s_iloadN K X d_method_4_code_0 rfl (q := 1) rfl ?_
  refine s_iloadN K X d_method_4_code_1 rfl (q := 2) rfl ?_
  refine s_icmp_ge K X d_method_4_code_2 (by decide) (q := 9) rfl (q' := 5) rfl (fun h_ => absurd h_ (by decide)) (fun _ => ?_)
  refine s_aloadN K X d_method_4_code_5 rfl rfl (q := 6) rfl ?_
  refine s_iloadN K X d_method_4_code_6 rfl (q := 7) rfl ?_
  refine s_ldV K X d_method_4_code_7 eT F.2.1 rfl (by decide) rfl (q := 8) rfl ?_
  exact s_retA K X d_method_4_code_8 rfl rfl rfl eT (by decide) (by decide) ⟨rfl, rfl, rfl⟩
set_option maxRecDepth 65536 in
set_option maxHeartbeats 40000000 in
theorem c_at_2_2 (l : Launch) (Z : State) (a0 : Array Value) (hw : ∀ d ∈ tables_1, d.before a0 Z = true) (h0 : Heap) (B : Addr) (kB : ClassId) (As : List Addr) (nx pv : List Nat) (I : Addr) (v0 : Int32) (F : Inv Z h0 B kB As nx pv I v0)  : Con l Z (⟨"com/example/matchwright/matchwright/engine/LinkLinkBeforePinLaw", "at", "([Lcom/example/matchwright/matchwright/engine/Memory$Link;Lcom/example/matchwright/matchwright/engine/Memory$Link;II)Lcom/example/matchwright/matchwright/engine/Memory$Link;"⟩ : MethodName) method_4_code 4 (some (.object "com/example/matchwright/matchwright/engine/Memory$Link")) ({ frames := 0, cells := 0, slots := 0, locals := 0 } : Room) #[(.ref B), (.ref (As.getD 4 0)), (.int (2 : Int32)), (.int (2 : Int32))] h0 (fun v h L => v = some (.ref (As.getD 4 0)) ∧ h = h0 ∧ L = []) := by
  refine Con.of (plainFor_of_name pn_com_example_matchwright_matchwright_engine_LinkLinkBeforePinLaw) (Ls := #[.val (.ref B), .val (.ref (As.getD 4 0)), .val (.int (2 : Int32)), .val (.int (2 : Int32))]) (fun m => by first | (simp [entryFrame, mkF, argsToLocals, Value.category]; done) | rfl) (fun p e s m below meth cod T K X eT => ?_)
  refine s_iloadN K X d_method_4_code_0 rfl (q := 1) rfl ?_
  refine s_iloadN K X d_method_4_code_1 rfl (q := 2) rfl ?_
  refine s_icmp_ge K X d_method_4_code_2 (by decide) (q := 9) rfl (q' := 5) rfl (fun _ => ?_) (fun h_ => absurd h_ (by decide))
  refine s_iloadN K X d_method_4_code_9 rfl (q := 10) rfl ?_
  refine s_iloadN K X d_method_4_code_10 rfl (q := 11) rfl ?_
  refine s_icmp_ne K X d_method_4_code_11 (by decide) (q := 16) rfl (q' := 14) rfl (fun h_ => absurd h_ (by decide)) (fun _ => ?_)
  refine s_aloadN K X d_method_4_code_14 rfl rfl (q := 15) rfl ?_
  exact s_retA K X d_method_4_code_15 rfl rfl rfl eT (by decide) (by decide) ⟨rfl, rfl, rfl⟩
set_option maxRecDepth 65536 in
set_option maxHeartbeats 40000000 in
theorem c_at_2_3 (l : Launch) (Z : State) (a0 : Array Value) (hw : ∀ d ∈ tables_1, d.before a0 Z = true) (h0 : Heap) (B : Addr) (kB : ClassId) (As : List Addr) (nx pv : List Nat) (I : Addr) (v0 : Int32) (F : Inv Z h0 B kB As nx pv I v0)  : Con l Z (⟨"com/example/matchwright/matchwright/engine/LinkLinkBeforePinLaw", "at", "([Lcom/example/matchwright/matchwright/engine/Memory$Link;Lcom/example/matchwright/matchwright/engine/Memory$Link;II)Lcom/example/matchwright/matchwright/engine/Memory$Link;"⟩ : MethodName) method_4_code 4 (some (.object "com/example/matchwright/matchwright/engine/Memory$Link")) ({ frames := 0, cells := 0, slots := 0, locals := 0 } : Room) #[(.ref B), (.ref (As.getD 4 0)), (.int (2 : Int32)), (.int (3 : Int32))] h0 (fun v h L => v = some (.ref (As.getD 2 0)) ∧ h = h0 ∧ L = []) := by
  refine Con.of (plainFor_of_name pn_com_example_matchwright_matchwright_engine_LinkLinkBeforePinLaw) (Ls := #[.val (.ref B), .val (.ref (As.getD 4 0)), .val (.int (2 : Int32)), .val (.int (3 : Int32))]) (fun m => by first | (simp [entryFrame, mkF, argsToLocals, Value.category]; done) | rfl) (fun p e s m below meth cod T K X eT => ?_)
  refine s_iloadN K X d_method_4_code_0 rfl (q := 1) rfl ?_
  refine s_iloadN K X d_method_4_code_1 rfl (q := 2) rfl ?_
  refine s_icmp_ge K X d_method_4_code_2 (by decide) (q := 9) rfl (q' := 5) rfl (fun _ => ?_) (fun h_ => absurd h_ (by decide))
  refine s_iloadN K X d_method_4_code_9 rfl (q := 10) rfl ?_
  refine s_iloadN K X d_method_4_code_10 rfl (q := 11) rfl ?_
  refine s_icmp_ne K X d_method_4_code_11 (by decide) (q := 16) rfl (q' := 14) rfl (fun _ => ?_) (fun h_ => absurd h_ (by decide))
  refine s_aloadN K X d_method_4_code_16 rfl rfl (q := 17) rfl ?_
  refine s_iloadN K X d_method_4_code_17 rfl (q := 18) rfl ?_
  refine s_iconst K X d_method_4_code_18 (z := 1) rfl (q := 19) rfl ?_
  refine s_isub K X d_method_4_code_19 (q := 20) rfl ?_
  refine s_ldV K X d_method_4_code_20 eT F.2.1 rfl (by decide) rfl (q := 21) rfl ?_
  exact s_retA K X d_method_4_code_21 rfl rfl rfl eT (by decide) (by decide) ⟨rfl, rfl, rfl⟩
set_option maxRecDepth 65536 in
set_option maxHeartbeats 40000000 in
theorem c_at_2_4 (l : Launch) (Z : State) (a0 : Array Value) (hw : ∀ d ∈ tables_1, d.before a0 Z = true) (h0 : Heap) (B : Addr) (kB : ClassId) (As : List Addr) (nx pv : List Nat) (I : Addr) (v0 : Int32) (F : Inv Z h0 B kB As nx pv I v0)  : Con l Z (⟨"com/example/matchwright/matchwright/engine/LinkLinkBeforePinLaw", "at", "([Lcom/example/matchwright/matchwright/engine/Memory$Link;Lcom/example/matchwright/matchwright/engine/Memory$Link;II)Lcom/example/matchwright/matchwright/engine/Memory$Link;"⟩ : MethodName) method_4_code 4 (some (.object "com/example/matchwright/matchwright/engine/Memory$Link")) ({ frames := 0, cells := 0, slots := 0, locals := 0 } : Room) #[(.ref B), (.ref (As.getD 4 0)), (.int (2 : Int32)), (.int (4 : Int32))] h0 (fun v h L => v = some (.ref (As.getD 3 0)) ∧ h = h0 ∧ L = []) := by
  refine Con.of (plainFor_of_name pn_com_example_matchwright_matchwright_engine_LinkLinkBeforePinLaw) (Ls := #[.val (.ref B), .val (.ref (As.getD 4 0)), .val (.int (2 : Int32)), .val (.int (4 : Int32))]) (fun m => by first | (simp [entryFrame, mkF, argsToLocals, Value.category]; done) | rfl) (fun p e s m below meth cod T K X eT => ?_)
  refine s_iloadN K X d_method_4_code_0 rfl (q := 1) rfl ?_
  refine s_iloadN K X d_method_4_code_1 rfl (q := 2) rfl ?_
  refine s_icmp_ge K X d_method_4_code_2 (by decide) (q := 9) rfl (q' := 5) rfl (fun _ => ?_) (fun h_ => absurd h_ (by decide))
  refine s_iloadN K X d_method_4_code_9 rfl (q := 10) rfl ?_
  refine s_iloadN K X d_method_4_code_10 rfl (q := 11) rfl ?_
  refine s_icmp_ne K X d_method_4_code_11 (by decide) (q := 16) rfl (q' := 14) rfl (fun _ => ?_) (fun h_ => absurd h_ (by decide))
  refine s_aloadN K X d_method_4_code_16 rfl rfl (q := 17) rfl ?_
  refine s_iloadN K X d_method_4_code_17 rfl (q := 18) rfl ?_
  refine s_iconst K X d_method_4_code_18 (z := 1) rfl (q := 19) rfl ?_
  refine s_isub K X d_method_4_code_19 (q := 20) rfl ?_
  refine s_ldV K X d_method_4_code_20 eT F.2.1 rfl (by decide) rfl (q := 21) rfl ?_
  exact s_retA K X d_method_4_code_21 rfl rfl rfl eT (by decide) (by decide) ⟨rfl, rfl, rfl⟩
set_option maxRecDepth 65536 in
set_option maxHeartbeats 40000000 in
theorem c_at_3_0 (l : Launch) (Z : State) (a0 : Array Value) (hw : ∀ d ∈ tables_1, d.before a0 Z = true) (h0 : Heap) (B : Addr) (kB : ClassId) (As : List Addr) (nx pv : List Nat) (I : Addr) (v0 : Int32) (F : Inv Z h0 B kB As nx pv I v0)  : Con l Z (⟨"com/example/matchwright/matchwright/engine/LinkLinkBeforePinLaw", "at", "([Lcom/example/matchwright/matchwright/engine/Memory$Link;Lcom/example/matchwright/matchwright/engine/Memory$Link;II)Lcom/example/matchwright/matchwright/engine/Memory$Link;"⟩ : MethodName) method_4_code 4 (some (.object "com/example/matchwright/matchwright/engine/Memory$Link")) ({ frames := 0, cells := 0, slots := 0, locals := 0 } : Room) #[(.ref B), (.ref (As.getD 4 0)), (.int (3 : Int32)), (.int (0 : Int32))] h0 (fun v h L => v = some (.ref (As.getD 0 0)) ∧ h = h0 ∧ L = []) := by
  refine Con.of (plainFor_of_name pn_com_example_matchwright_matchwright_engine_LinkLinkBeforePinLaw) (Ls := #[.val (.ref B), .val (.ref (As.getD 4 0)), .val (.int (3 : Int32)), .val (.int (0 : Int32))]) (fun m => by first | (simp [entryFrame, mkF, argsToLocals, Value.category]; done) | rfl) (fun p e s m below meth cod T K X eT => ?_)
  refine s_iloadN K X d_method_4_code_0 rfl (q := 1) rfl ?_
  refine s_iloadN K X d_method_4_code_1 rfl (q := 2) rfl ?_
  refine s_icmp_ge K X d_method_4_code_2 (by decide) (q := 9) rfl (q' := 5) rfl (fun h_ => absurd h_ (by decide)) (fun _ => ?_)
  refine s_aloadN K X d_method_4_code_5 rfl rfl (q := 6) rfl ?_
  refine s_iloadN K X d_method_4_code_6 rfl (q := 7) rfl ?_
  refine s_ldV K X d_method_4_code_7 eT F.2.1 rfl (by decide) rfl (q := 8) rfl ?_
  exact s_retA K X d_method_4_code_8 rfl rfl rfl eT (by decide) (by decide) ⟨rfl, rfl, rfl⟩
set_option maxRecDepth 65536 in
set_option maxHeartbeats 40000000 in
theorem c_at_3_1 (l : Launch) (Z : State) (a0 : Array Value) (hw : ∀ d ∈ tables_1, d.before a0 Z = true) (h0 : Heap) (B : Addr) (kB : ClassId) (As : List Addr) (nx pv : List Nat) (I : Addr) (v0 : Int32) (F : Inv Z h0 B kB As nx pv I v0)  : Con l Z (⟨"com/example/matchwright/matchwright/engine/LinkLinkBeforePinLaw", "at", "([Lcom/example/matchwright/matchwright/engine/Memory$Link;Lcom/example/matchwright/matchwright/engine/Memory$Link;II)Lcom/example/matchwright/matchwright/engine/Memory$Link;"⟩ : MethodName) method_4_code 4 (some (.object "com/example/matchwright/matchwright/engine/Memory$Link")) ({ frames := 0, cells := 0, slots := 0, locals := 0 } : Room) #[(.ref B), (.ref (As.getD 4 0)), (.int (3 : Int32)), (.int (1 : Int32))] h0 (fun v h L => v = some (.ref (As.getD 1 0)) ∧ h = h0 ∧ L = []) := by
  refine Con.of (plainFor_of_name pn_com_example_matchwright_matchwright_engine_LinkLinkBeforePinLaw) (Ls := #[.val (.ref B), .val (.ref (As.getD 4 0)), .val (.int (3 : Int32)), .val (.int (1 : Int32))]) (fun m => by first | (simp [entryFrame, mkF, argsToLocals, Value.category]; done) | rfl) (fun p e s m below meth cod T K X eT => ?_)
  refine s_iloadN K X d_method_4_code_0 rfl (q := 1) rfl ?_
  refine s_iloadN K X d_method_4_code_1 rfl (q := 2) rfl ?_
  refine s_icmp_ge K X d_method_4_code_2 (by decide) (q := 9) rfl (q' := 5) rfl (fun h_ => absurd h_ (by decide)) (fun _ => ?_)
  refine s_aloadN K X d_method_4_code_5 rfl rfl (q := 6) rfl ?_
  refine s_iloadN K X d_method_4_code_6 rfl (q := 7) rfl ?_
  refine s_ldV K X d_method_4_code_7 eT F.2.1 rfl (by decide) rfl (q := 8) rfl ?_
  exact s_retA K X d_method_4_code_8 rfl rfl rfl eT (by decide) (by decide) ⟨rfl, rfl, rfl⟩
set_option maxRecDepth 65536 in
set_option maxHeartbeats 40000000 in
theorem c_at_3_2 (l : Launch) (Z : State) (a0 : Array Value) (hw : ∀ d ∈ tables_1, d.before a0 Z = true) (h0 : Heap) (B : Addr) (kB : ClassId) (As : List Addr) (nx pv : List Nat) (I : Addr) (v0 : Int32) (F : Inv Z h0 B kB As nx pv I v0)  : Con l Z (⟨"com/example/matchwright/matchwright/engine/LinkLinkBeforePinLaw", "at", "([Lcom/example/matchwright/matchwright/engine/Memory$Link;Lcom/example/matchwright/matchwright/engine/Memory$Link;II)Lcom/example/matchwright/matchwright/engine/Memory$Link;"⟩ : MethodName) method_4_code 4 (some (.object "com/example/matchwright/matchwright/engine/Memory$Link")) ({ frames := 0, cells := 0, slots := 0, locals := 0 } : Room) #[(.ref B), (.ref (As.getD 4 0)), (.int (3 : Int32)), (.int (2 : Int32))] h0 (fun v h L => v = some (.ref (As.getD 2 0)) ∧ h = h0 ∧ L = []) := by
  refine Con.of (plainFor_of_name pn_com_example_matchwright_matchwright_engine_LinkLinkBeforePinLaw) (Ls := #[.val (.ref B), .val (.ref (As.getD 4 0)), .val (.int (3 : Int32)), .val (.int (2 : Int32))]) (fun m => by first | (simp [entryFrame, mkF, argsToLocals, Value.category]; done) | rfl) (fun p e s m below meth cod T K X eT => ?_)
  refine s_iloadN K X d_method_4_code_0 rfl (q := 1) rfl ?_
  refine s_iloadN K X d_method_4_code_1 rfl (q := 2) rfl ?_
  refine s_icmp_ge K X d_method_4_code_2 (by decide) (q := 9) rfl (q' := 5) rfl (fun h_ => absurd h_ (by decide)) (fun _ => ?_)
  refine s_aloadN K X d_method_4_code_5 rfl rfl (q := 6) rfl ?_
  refine s_iloadN K X d_method_4_code_6 rfl (q := 7) rfl ?_
  refine s_ldV K X d_method_4_code_7 eT F.2.1 rfl (by decide) rfl (q := 8) rfl ?_
  exact s_retA K X d_method_4_code_8 rfl rfl rfl eT (by decide) (by decide) ⟨rfl, rfl, rfl⟩
set_option maxRecDepth 65536 in
set_option maxHeartbeats 40000000 in
theorem c_at_3_3 (l : Launch) (Z : State) (a0 : Array Value) (hw : ∀ d ∈ tables_1, d.before a0 Z = true) (h0 : Heap) (B : Addr) (kB : ClassId) (As : List Addr) (nx pv : List Nat) (I : Addr) (v0 : Int32) (F : Inv Z h0 B kB As nx pv I v0)  : Con l Z (⟨"com/example/matchwright/matchwright/engine/LinkLinkBeforePinLaw", "at", "([Lcom/example/matchwright/matchwright/engine/Memory$Link;Lcom/example/matchwright/matchwright/engine/Memory$Link;II)Lcom/example/matchwright/matchwright/engine/Memory$Link;"⟩ : MethodName) method_4_code 4 (some (.object "com/example/matchwright/matchwright/engine/Memory$Link")) ({ frames := 0, cells := 0, slots := 0, locals := 0 } : Room) #[(.ref B), (.ref (As.getD 4 0)), (.int (3 : Int32)), (.int (3 : Int32))] h0 (fun v h L => v = some (.ref (As.getD 4 0)) ∧ h = h0 ∧ L = []) := by
  refine Con.of (plainFor_of_name pn_com_example_matchwright_matchwright_engine_LinkLinkBeforePinLaw) (Ls := #[.val (.ref B), .val (.ref (As.getD 4 0)), .val (.int (3 : Int32)), .val (.int (3 : Int32))]) (fun m => by first | (simp [entryFrame, mkF, argsToLocals, Value.category]; done) | rfl) (fun p e s m below meth cod T K X eT => ?_)
  refine s_iloadN K X d_method_4_code_0 rfl (q := 1) rfl ?_
  refine s_iloadN K X d_method_4_code_1 rfl (q := 2) rfl ?_
  refine s_icmp_ge K X d_method_4_code_2 (by decide) (q := 9) rfl (q' := 5) rfl (fun _ => ?_) (fun h_ => absurd h_ (by decide))
  refine s_iloadN K X d_method_4_code_9 rfl (q := 10) rfl ?_
  refine s_iloadN K X d_method_4_code_10 rfl (q := 11) rfl ?_
  refine s_icmp_ne K X d_method_4_code_11 (by decide) (q := 16) rfl (q' := 14) rfl (fun h_ => absurd h_ (by decide)) (fun _ => ?_)
  refine s_aloadN K X d_method_4_code_14 rfl rfl (q := 15) rfl ?_
  exact s_retA K X d_method_4_code_15 rfl rfl rfl eT (by decide) (by decide) ⟨rfl, rfl, rfl⟩
set_option maxRecDepth 65536 in
set_option maxHeartbeats 40000000 in
theorem c_at_3_4 (l : Launch) (Z : State) (a0 : Array Value) (hw : ∀ d ∈ tables_1, d.before a0 Z = true) (h0 : Heap) (B : Addr) (kB : ClassId) (As : List Addr) (nx pv : List Nat) (I : Addr) (v0 : Int32) (F : Inv Z h0 B kB As nx pv I v0)  : Con l Z (⟨"com/example/matchwright/matchwright/engine/LinkLinkBeforePinLaw", "at", "([Lcom/example/matchwright/matchwright/engine/Memory$Link;Lcom/example/matchwright/matchwright/engine/Memory$Link;II)Lcom/example/matchwright/matchwright/engine/Memory$Link;"⟩ : MethodName) method_4_code 4 (some (.object "com/example/matchwright/matchwright/engine/Memory$Link")) ({ frames := 0, cells := 0, slots := 0, locals := 0 } : Room) #[(.ref B), (.ref (As.getD 4 0)), (.int (3 : Int32)), (.int (4 : Int32))] h0 (fun v h L => v = some (.ref (As.getD 3 0)) ∧ h = h0 ∧ L = []) := by
  refine Con.of (plainFor_of_name pn_com_example_matchwright_matchwright_engine_LinkLinkBeforePinLaw) (Ls := #[.val (.ref B), .val (.ref (As.getD 4 0)), .val (.int (3 : Int32)), .val (.int (4 : Int32))]) (fun m => by first | (simp [entryFrame, mkF, argsToLocals, Value.category]; done) | rfl) (fun p e s m below meth cod T K X eT => ?_)
  refine s_iloadN K X d_method_4_code_0 rfl (q := 1) rfl ?_
  refine s_iloadN K X d_method_4_code_1 rfl (q := 2) rfl ?_
  refine s_icmp_ge K X d_method_4_code_2 (by decide) (q := 9) rfl (q' := 5) rfl (fun _ => ?_) (fun h_ => absurd h_ (by decide))
  refine s_iloadN K X d_method_4_code_9 rfl (q := 10) rfl ?_
  refine s_iloadN K X d_method_4_code_10 rfl (q := 11) rfl ?_
  refine s_icmp_ne K X d_method_4_code_11 (by decide) (q := 16) rfl (q' := 14) rfl (fun _ => ?_) (fun h_ => absurd h_ (by decide))
  refine s_aloadN K X d_method_4_code_16 rfl rfl (q := 17) rfl ?_
  refine s_iloadN K X d_method_4_code_17 rfl (q := 18) rfl ?_
  refine s_iconst K X d_method_4_code_18 (z := 1) rfl (q := 19) rfl ?_
  refine s_isub K X d_method_4_code_19 (q := 20) rfl ?_
  refine s_ldV K X d_method_4_code_20 eT F.2.1 rfl (by decide) rfl (q := 21) rfl ?_
  exact s_retA K X d_method_4_code_21 rfl rfl rfl eT (by decide) (by decide) ⟨rfl, rfl, rfl⟩
set_option maxRecDepth 65536 in
set_option maxHeartbeats 40000000 in
theorem c_item (l : Launch) (Z : State) (a0 : Array Value) (hw : ∀ d ∈ tables_1, d.before a0 Z = true) (h0 : Heap) (a b : Addr) (F : Fld Z h0 a "com/example/matchwright/matchwright/engine/Memory$Link" "item" "Ljava/lang/Object;" (.ref b)) : Con l Z (⟨"com/example/matchwright/matchwright/engine/Memory$Link", "item", "()Ljava/lang/Object;"⟩ : MethodName) prog_51_method_2_code 1 (some (.object "java/lang/Object")) ({ frames := 0, cells := 0, slots := 0, locals := 0 } : Room) #[(.ref a)] h0 (fun v h L => v = some (.ref b) ∧ h = h0 ∧ L = []) := by
  refine Con.of (plainFor_of_name pn_com_example_matchwright_matchwright_engine_Memory_Link) (Ls := #[.val (.ref a)]) (fun m => by first | (simp [entryFrame, mkF, argsToLocals, Value.category]; done) | rfl) (fun p e s m below meth cod T K X eT => ?_)
  refine s_aloadN K X d_prog_51_method_2_code_0 rfl rfl (q := 1) rfl ?_
  refine s_getF K X d_prog_51_method_2_code_1 (hw _ (List.mem_of_getElem? (i := 22) rfl)) eT F (q := 4) rfl (fun T41 X41 e41 => ?_)
  exact s_retA K X41 d_prog_51_method_2_code_4 rfl rfl rfl e41 (by decide) (by decide) ⟨rfl, rfl, rfl⟩
set_option maxRecDepth 65536 in
set_option maxHeartbeats 40000000 in
theorem c_check_no (l : Launch) (Z : State) (a0 : Array Value) (hw : ∀ d ∈ tables_1, d.before a0 Z = true) (h0 : Heap) (E : Addr) (j m0 : Int32) (hn : ¬ j < m0) : Con l Z (⟨"com/example/matchwright/matchwright/engine/LinkLinkBeforePinLaw", "check", "([Lcom/example/matchwright/matchwright/engine/Memory$Link;II)Z"⟩ : MethodName) method_5_code 3 (some .boolean) ({ frames := 0, cells := 0, slots := 0, locals := 0 } : Room) #[(.ref E), (.int j), (.int m0)] h0 (fun v h L => v = some (.int 1) ∧ h = h0 ∧ L = []) := by
  refine Con.of (plainFor_of_name pn_com_example_matchwright_matchwright_engine_LinkLinkBeforePinLaw) (Ls := #[.val (.ref E), .val (.int j), .val (.int m0)]) (fun m => by first | (simp [entryFrame, mkF, argsToLocals, Value.category]; done) | rfl) (fun p e s m below meth cod T K X eT => ?_)
  refine s_iloadN K X d_method_5_code_0 rfl (q := 1) rfl ?_
  refine s_iloadN K X d_method_5_code_1 rfl (q := 2) rfl ?_
  refine s_icmp_lt K X d_method_5_code_2 (by decide) (q := 7) rfl (q' := 5) rfl (fun h_ => absurd h_ hn) (fun _ => ?_)
  refine s_iconst K X d_method_5_code_5 (z := 1) rfl (q := 6) rfl ?_
  exact s_retZ K X d_method_5_code_6 rfl (by decide) eT (by decide) (by decide) ⟨rfl, rfl, rfl⟩
set_option maxRecDepth 65536 in
set_option maxHeartbeats 40000000 in
theorem c_check_0_2 (l : Launch) (Z : State) (a0 : Array Value) (hw : ∀ d ∈ tables_1, d.before a0 Z = true) (h0 : Heap) (E : Addr) (kE : ClassId) (es : List Value) (a b d : Addr) (V : Arv Z h0 E kE (.object "com/example/matchwright/matchwright/engine/Memory$Link") 5 es .null) (h1 : es.getD 0 .null = .ref a) (h2 : es.getD 1 .null = .ref b) (h3 : es.getD 1 .null = .ref d) (F : Lk Z h0 a b d) : Con l Z (⟨"com/example/matchwright/matchwright/engine/LinkLinkBeforePinLaw", "check", "([Lcom/example/matchwright/matchwright/engine/Memory$Link;II)Z"⟩ : MethodName) method_5_code 3 (some .boolean) ({ frames := 0, cells := 0, slots := 0, locals := 0 } : Room) #[(.ref E), (.int (0 : Int32)), (.int (2 : Int32))] h0 (fun v h L => v = some (.int 1) ∧ h = h0 ∧ L = []) := by
  refine Con.of (plainFor_of_name pn_com_example_matchwright_matchwright_engine_LinkLinkBeforePinLaw) (Ls := #[.val (.ref E), .val (.int (0 : Int32)), .val (.int (2 : Int32))]) (fun m => by first | (simp [entryFrame, mkF, argsToLocals, Value.category]; done) | rfl) (fun p e s m below meth cod T K X eT => ?_)
  refine s_iloadN K X d_method_5_code_0 rfl (q := 1) rfl ?_
  refine s_iloadN K X d_method_5_code_1 rfl (q := 2) rfl ?_
  refine s_icmp_lt K X d_method_5_code_2 (by decide) (q := 7) rfl (q' := 5) rfl (fun _ => ?_) (fun h_ => absurd h_ (by decide))
  refine s_aloadN K X d_method_5_code_7 rfl rfl (q := 8) rfl ?_
  refine s_iloadN K X d_method_5_code_8 rfl (q := 9) rfl ?_
  refine s_ldV K X d_method_5_code_9 eT V rfl (by decide) h1 (q := 10) rfl ?_
  refine s_getF K X d_method_5_code_10 (hw _ (List.mem_of_getElem? (i := 29) rfl)) eT F.2.1 (q := 13) rfl (fun T42 X42 e42 => ?_)
  refine s_aloadN K X42 d_method_5_code_13 rfl rfl (q := 14) rfl ?_
  refine s_iloadN K X42 d_method_5_code_14 rfl (q := 15) rfl ?_
  refine s_iconst K X42 d_method_5_code_15 (z := 1) rfl (q := 16) rfl ?_
  refine s_iadd K X42 d_method_5_code_16 (q := 17) rfl ?_
  refine s_iloadN K X42 d_method_5_code_17 rfl (q := 18) rfl ?_
  refine s_irem K X42 d_method_5_code_18 (by decide) (q := 19) rfl ?_
  refine s_ldV K X42 d_method_5_code_19 e42 V rfl (by decide) h2 (q := 20) rfl ?_
  refine s_acmp_ne K X42 d_method_5_code_20 rfl rfl (by decide) (q := 45) rfl (q' := 23) rfl (fun h_ => absurd rfl h_) (fun _ => ?_)
  refine s_aloadN K X42 d_method_5_code_23 rfl rfl (q := 24) rfl ?_
  refine s_iloadN K X42 d_method_5_code_24 rfl (q := 25) rfl ?_
  refine s_ldV K X42 d_method_5_code_25 e42 V rfl (by decide) h1 (q := 26) rfl ?_
  refine s_getF K X42 d_method_5_code_26 (hw _ (List.mem_of_getElem? (i := 30) rfl)) e42 F.2.2 (q := 29) rfl (fun T43 X43 e43 => ?_)
  refine s_aloadN K X43 d_method_5_code_29 rfl rfl (q := 30) rfl ?_
  refine s_iloadN K X43 d_method_5_code_30 rfl (q := 31) rfl ?_
  refine s_iloadN K X43 d_method_5_code_31 rfl (q := 32) rfl ?_
  refine s_iadd K X43 d_method_5_code_32 (q := 33) rfl ?_
  refine s_iconst K X43 d_method_5_code_33 (z := 1) rfl (q := 34) rfl ?_
  refine s_isub K X43 d_method_5_code_34 (q := 35) rfl ?_
  refine s_iloadN K X43 d_method_5_code_35 rfl (q := 36) rfl ?_
  refine s_irem K X43 d_method_5_code_36 (by decide) (q := 37) rfl ?_
  refine s_ldV K X43 d_method_5_code_37 e43 V rfl (by decide) h3 (q := 38) rfl ?_
  refine s_acmp_ne K X43 d_method_5_code_38 rfl rfl (by decide) (q := 45) rfl (q' := 41) rfl (fun h_ => absurd rfl h_) (fun _ => ?_)
  refine s_iconst K X43 d_method_5_code_41 (z := 1) rfl (q := 42) rfl ?_
  refine s_goto K X43 d_method_5_code_42 (by decide) (q := 46) rfl ?_
  exact s_retZ K X43 d_method_5_code_46 rfl (by decide) e43 (by decide) (by decide) ⟨rfl, rfl, rfl⟩
set_option maxRecDepth 65536 in
set_option maxHeartbeats 40000000 in
theorem c_check_1_2 (l : Launch) (Z : State) (a0 : Array Value) (hw : ∀ d ∈ tables_1, d.before a0 Z = true) (h0 : Heap) (E : Addr) (kE : ClassId) (es : List Value) (a b d : Addr) (V : Arv Z h0 E kE (.object "com/example/matchwright/matchwright/engine/Memory$Link") 5 es .null) (h1 : es.getD 1 .null = .ref a) (h2 : es.getD 0 .null = .ref b) (h3 : es.getD 0 .null = .ref d) (F : Lk Z h0 a b d) : Con l Z (⟨"com/example/matchwright/matchwright/engine/LinkLinkBeforePinLaw", "check", "([Lcom/example/matchwright/matchwright/engine/Memory$Link;II)Z"⟩ : MethodName) method_5_code 3 (some .boolean) ({ frames := 0, cells := 0, slots := 0, locals := 0 } : Room) #[(.ref E), (.int (1 : Int32)), (.int (2 : Int32))] h0 (fun v h L => v = some (.int 1) ∧ h = h0 ∧ L = []) := by
  refine Con.of (plainFor_of_name pn_com_example_matchwright_matchwright_engine_LinkLinkBeforePinLaw) (Ls := #[.val (.ref E), .val (.int (1 : Int32)), .val (.int (2 : Int32))]) (fun m => by first | (simp [entryFrame, mkF, argsToLocals, Value.category]; done) | rfl) (fun p e s m below meth cod T K X eT => ?_)
  refine s_iloadN K X d_method_5_code_0 rfl (q := 1) rfl ?_
  refine s_iloadN K X d_method_5_code_1 rfl (q := 2) rfl ?_
  refine s_icmp_lt K X d_method_5_code_2 (by decide) (q := 7) rfl (q' := 5) rfl (fun _ => ?_) (fun h_ => absurd h_ (by decide))
  refine s_aloadN K X d_method_5_code_7 rfl rfl (q := 8) rfl ?_
  refine s_iloadN K X d_method_5_code_8 rfl (q := 9) rfl ?_
  refine s_ldV K X d_method_5_code_9 eT V rfl (by decide) h1 (q := 10) rfl ?_
  refine s_getF K X d_method_5_code_10 (hw _ (List.mem_of_getElem? (i := 29) rfl)) eT F.2.1 (q := 13) rfl (fun T44 X44 e44 => ?_)
  refine s_aloadN K X44 d_method_5_code_13 rfl rfl (q := 14) rfl ?_
  refine s_iloadN K X44 d_method_5_code_14 rfl (q := 15) rfl ?_
  refine s_iconst K X44 d_method_5_code_15 (z := 1) rfl (q := 16) rfl ?_
  refine s_iadd K X44 d_method_5_code_16 (q := 17) rfl ?_
  refine s_iloadN K X44 d_method_5_code_17 rfl (q := 18) rfl ?_
  refine s_irem K X44 d_method_5_code_18 (by decide) (q := 19) rfl ?_
  refine s_ldV K X44 d_method_5_code_19 e44 V rfl (by decide) h2 (q := 20) rfl ?_
  refine s_acmp_ne K X44 d_method_5_code_20 rfl rfl (by decide) (q := 45) rfl (q' := 23) rfl (fun h_ => absurd rfl h_) (fun _ => ?_)
  refine s_aloadN K X44 d_method_5_code_23 rfl rfl (q := 24) rfl ?_
  refine s_iloadN K X44 d_method_5_code_24 rfl (q := 25) rfl ?_
  refine s_ldV K X44 d_method_5_code_25 e44 V rfl (by decide) h1 (q := 26) rfl ?_
  refine s_getF K X44 d_method_5_code_26 (hw _ (List.mem_of_getElem? (i := 30) rfl)) e44 F.2.2 (q := 29) rfl (fun T45 X45 e45 => ?_)
  refine s_aloadN K X45 d_method_5_code_29 rfl rfl (q := 30) rfl ?_
  refine s_iloadN K X45 d_method_5_code_30 rfl (q := 31) rfl ?_
  refine s_iloadN K X45 d_method_5_code_31 rfl (q := 32) rfl ?_
  refine s_iadd K X45 d_method_5_code_32 (q := 33) rfl ?_
  refine s_iconst K X45 d_method_5_code_33 (z := 1) rfl (q := 34) rfl ?_
  refine s_isub K X45 d_method_5_code_34 (q := 35) rfl ?_
  refine s_iloadN K X45 d_method_5_code_35 rfl (q := 36) rfl ?_
  refine s_irem K X45 d_method_5_code_36 (by decide) (q := 37) rfl ?_
  refine s_ldV K X45 d_method_5_code_37 e45 V rfl (by decide) h3 (q := 38) rfl ?_
  refine s_acmp_ne K X45 d_method_5_code_38 rfl rfl (by decide) (q := 45) rfl (q' := 41) rfl (fun h_ => absurd rfl h_) (fun _ => ?_)
  refine s_iconst K X45 d_method_5_code_41 (z := 1) rfl (q := 42) rfl ?_
  refine s_goto K X45 d_method_5_code_42 (by decide) (q := 46) rfl ?_
  exact s_retZ K X45 d_method_5_code_46 rfl (by decide) e45 (by decide) (by decide) ⟨rfl, rfl, rfl⟩
set_option maxRecDepth 65536 in
set_option maxHeartbeats 40000000 in
theorem c_check_0_3 (l : Launch) (Z : State) (a0 : Array Value) (hw : ∀ d ∈ tables_1, d.before a0 Z = true) (h0 : Heap) (E : Addr) (kE : ClassId) (es : List Value) (a b d : Addr) (V : Arv Z h0 E kE (.object "com/example/matchwright/matchwright/engine/Memory$Link") 5 es .null) (h1 : es.getD 0 .null = .ref a) (h2 : es.getD 1 .null = .ref b) (h3 : es.getD 2 .null = .ref d) (F : Lk Z h0 a b d) : Con l Z (⟨"com/example/matchwright/matchwright/engine/LinkLinkBeforePinLaw", "check", "([Lcom/example/matchwright/matchwright/engine/Memory$Link;II)Z"⟩ : MethodName) method_5_code 3 (some .boolean) ({ frames := 0, cells := 0, slots := 0, locals := 0 } : Room) #[(.ref E), (.int (0 : Int32)), (.int (3 : Int32))] h0 (fun v h L => v = some (.int 1) ∧ h = h0 ∧ L = []) := by
  refine Con.of (plainFor_of_name pn_com_example_matchwright_matchwright_engine_LinkLinkBeforePinLaw) (Ls := #[.val (.ref E), .val (.int (0 : Int32)), .val (.int (3 : Int32))]) (fun m => by first | (simp [entryFrame, mkF, argsToLocals, Value.category]; done) | rfl) (fun p e s m below meth cod T K X eT => ?_)
  refine s_iloadN K X d_method_5_code_0 rfl (q := 1) rfl ?_
  refine s_iloadN K X d_method_5_code_1 rfl (q := 2) rfl ?_
  refine s_icmp_lt K X d_method_5_code_2 (by decide) (q := 7) rfl (q' := 5) rfl (fun _ => ?_) (fun h_ => absurd h_ (by decide))
  refine s_aloadN K X d_method_5_code_7 rfl rfl (q := 8) rfl ?_
  refine s_iloadN K X d_method_5_code_8 rfl (q := 9) rfl ?_
  refine s_ldV K X d_method_5_code_9 eT V rfl (by decide) h1 (q := 10) rfl ?_
  refine s_getF K X d_method_5_code_10 (hw _ (List.mem_of_getElem? (i := 29) rfl)) eT F.2.1 (q := 13) rfl (fun T46 X46 e46 => ?_)
  refine s_aloadN K X46 d_method_5_code_13 rfl rfl (q := 14) rfl ?_
  refine s_iloadN K X46 d_method_5_code_14 rfl (q := 15) rfl ?_
  refine s_iconst K X46 d_method_5_code_15 (z := 1) rfl (q := 16) rfl ?_
  refine s_iadd K X46 d_method_5_code_16 (q := 17) rfl ?_
  refine s_iloadN K X46 d_method_5_code_17 rfl (q := 18) rfl ?_
  refine s_irem K X46 d_method_5_code_18 (by decide) (q := 19) rfl ?_
  refine s_ldV K X46 d_method_5_code_19 e46 V rfl (by decide) h2 (q := 20) rfl ?_
  refine s_acmp_ne K X46 d_method_5_code_20 rfl rfl (by decide) (q := 45) rfl (q' := 23) rfl (fun h_ => absurd rfl h_) (fun _ => ?_)
  refine s_aloadN K X46 d_method_5_code_23 rfl rfl (q := 24) rfl ?_
  refine s_iloadN K X46 d_method_5_code_24 rfl (q := 25) rfl ?_
  refine s_ldV K X46 d_method_5_code_25 e46 V rfl (by decide) h1 (q := 26) rfl ?_
  refine s_getF K X46 d_method_5_code_26 (hw _ (List.mem_of_getElem? (i := 30) rfl)) e46 F.2.2 (q := 29) rfl (fun T47 X47 e47 => ?_)
  refine s_aloadN K X47 d_method_5_code_29 rfl rfl (q := 30) rfl ?_
  refine s_iloadN K X47 d_method_5_code_30 rfl (q := 31) rfl ?_
  refine s_iloadN K X47 d_method_5_code_31 rfl (q := 32) rfl ?_
  refine s_iadd K X47 d_method_5_code_32 (q := 33) rfl ?_
  refine s_iconst K X47 d_method_5_code_33 (z := 1) rfl (q := 34) rfl ?_
  refine s_isub K X47 d_method_5_code_34 (q := 35) rfl ?_
  refine s_iloadN K X47 d_method_5_code_35 rfl (q := 36) rfl ?_
  refine s_irem K X47 d_method_5_code_36 (by decide) (q := 37) rfl ?_
  refine s_ldV K X47 d_method_5_code_37 e47 V rfl (by decide) h3 (q := 38) rfl ?_
  refine s_acmp_ne K X47 d_method_5_code_38 rfl rfl (by decide) (q := 45) rfl (q' := 41) rfl (fun h_ => absurd rfl h_) (fun _ => ?_)
  refine s_iconst K X47 d_method_5_code_41 (z := 1) rfl (q := 42) rfl ?_
  refine s_goto K X47 d_method_5_code_42 (by decide) (q := 46) rfl ?_
  exact s_retZ K X47 d_method_5_code_46 rfl (by decide) e47 (by decide) (by decide) ⟨rfl, rfl, rfl⟩
set_option maxRecDepth 65536 in
set_option maxHeartbeats 40000000 in
theorem c_check_1_3 (l : Launch) (Z : State) (a0 : Array Value) (hw : ∀ d ∈ tables_1, d.before a0 Z = true) (h0 : Heap) (E : Addr) (kE : ClassId) (es : List Value) (a b d : Addr) (V : Arv Z h0 E kE (.object "com/example/matchwright/matchwright/engine/Memory$Link") 5 es .null) (h1 : es.getD 1 .null = .ref a) (h2 : es.getD 2 .null = .ref b) (h3 : es.getD 0 .null = .ref d) (F : Lk Z h0 a b d) : Con l Z (⟨"com/example/matchwright/matchwright/engine/LinkLinkBeforePinLaw", "check", "([Lcom/example/matchwright/matchwright/engine/Memory$Link;II)Z"⟩ : MethodName) method_5_code 3 (some .boolean) ({ frames := 0, cells := 0, slots := 0, locals := 0 } : Room) #[(.ref E), (.int (1 : Int32)), (.int (3 : Int32))] h0 (fun v h L => v = some (.int 1) ∧ h = h0 ∧ L = []) := by
  refine Con.of (plainFor_of_name pn_com_example_matchwright_matchwright_engine_LinkLinkBeforePinLaw) (Ls := #[.val (.ref E), .val (.int (1 : Int32)), .val (.int (3 : Int32))]) (fun m => by first | (simp [entryFrame, mkF, argsToLocals, Value.category]; done) | rfl) (fun p e s m below meth cod T K X eT => ?_)
  refine s_iloadN K X d_method_5_code_0 rfl (q := 1) rfl ?_
  refine s_iloadN K X d_method_5_code_1 rfl (q := 2) rfl ?_
  refine s_icmp_lt K X d_method_5_code_2 (by decide) (q := 7) rfl (q' := 5) rfl (fun _ => ?_) (fun h_ => absurd h_ (by decide))
  refine s_aloadN K X d_method_5_code_7 rfl rfl (q := 8) rfl ?_
  refine s_iloadN K X d_method_5_code_8 rfl (q := 9) rfl ?_
  refine s_ldV K X d_method_5_code_9 eT V rfl (by decide) h1 (q := 10) rfl ?_
  refine s_getF K X d_method_5_code_10 (hw _ (List.mem_of_getElem? (i := 29) rfl)) eT F.2.1 (q := 13) rfl (fun T48 X48 e48 => ?_)
  refine s_aloadN K X48 d_method_5_code_13 rfl rfl (q := 14) rfl ?_
  refine s_iloadN K X48 d_method_5_code_14 rfl (q := 15) rfl ?_
  refine s_iconst K X48 d_method_5_code_15 (z := 1) rfl (q := 16) rfl ?_
  refine s_iadd K X48 d_method_5_code_16 (q := 17) rfl ?_
  refine s_iloadN K X48 d_method_5_code_17 rfl (q := 18) rfl ?_
  refine s_irem K X48 d_method_5_code_18 (by decide) (q := 19) rfl ?_
  refine s_ldV K X48 d_method_5_code_19 e48 V rfl (by decide) h2 (q := 20) rfl ?_
  refine s_acmp_ne K X48 d_method_5_code_20 rfl rfl (by decide) (q := 45) rfl (q' := 23) rfl (fun h_ => absurd rfl h_) (fun _ => ?_)
  refine s_aloadN K X48 d_method_5_code_23 rfl rfl (q := 24) rfl ?_
  refine s_iloadN K X48 d_method_5_code_24 rfl (q := 25) rfl ?_
  refine s_ldV K X48 d_method_5_code_25 e48 V rfl (by decide) h1 (q := 26) rfl ?_
  refine s_getF K X48 d_method_5_code_26 (hw _ (List.mem_of_getElem? (i := 30) rfl)) e48 F.2.2 (q := 29) rfl (fun T49 X49 e49 => ?_)
  refine s_aloadN K X49 d_method_5_code_29 rfl rfl (q := 30) rfl ?_
  refine s_iloadN K X49 d_method_5_code_30 rfl (q := 31) rfl ?_
  refine s_iloadN K X49 d_method_5_code_31 rfl (q := 32) rfl ?_
  refine s_iadd K X49 d_method_5_code_32 (q := 33) rfl ?_
  refine s_iconst K X49 d_method_5_code_33 (z := 1) rfl (q := 34) rfl ?_
  refine s_isub K X49 d_method_5_code_34 (q := 35) rfl ?_
  refine s_iloadN K X49 d_method_5_code_35 rfl (q := 36) rfl ?_
  refine s_irem K X49 d_method_5_code_36 (by decide) (q := 37) rfl ?_
  refine s_ldV K X49 d_method_5_code_37 e49 V rfl (by decide) h3 (q := 38) rfl ?_
  refine s_acmp_ne K X49 d_method_5_code_38 rfl rfl (by decide) (q := 45) rfl (q' := 41) rfl (fun h_ => absurd rfl h_) (fun _ => ?_)
  refine s_iconst K X49 d_method_5_code_41 (z := 1) rfl (q := 42) rfl ?_
  refine s_goto K X49 d_method_5_code_42 (by decide) (q := 46) rfl ?_
  exact s_retZ K X49 d_method_5_code_46 rfl (by decide) e49 (by decide) (by decide) ⟨rfl, rfl, rfl⟩
set_option maxRecDepth 65536 in
set_option maxHeartbeats 40000000 in
theorem c_check_2_3 (l : Launch) (Z : State) (a0 : Array Value) (hw : ∀ d ∈ tables_1, d.before a0 Z = true) (h0 : Heap) (E : Addr) (kE : ClassId) (es : List Value) (a b d : Addr) (V : Arv Z h0 E kE (.object "com/example/matchwright/matchwright/engine/Memory$Link") 5 es .null) (h1 : es.getD 2 .null = .ref a) (h2 : es.getD 0 .null = .ref b) (h3 : es.getD 1 .null = .ref d) (F : Lk Z h0 a b d) : Con l Z (⟨"com/example/matchwright/matchwright/engine/LinkLinkBeforePinLaw", "check", "([Lcom/example/matchwright/matchwright/engine/Memory$Link;II)Z"⟩ : MethodName) method_5_code 3 (some .boolean) ({ frames := 0, cells := 0, slots := 0, locals := 0 } : Room) #[(.ref E), (.int (2 : Int32)), (.int (3 : Int32))] h0 (fun v h L => v = some (.int 1) ∧ h = h0 ∧ L = []) := by
  refine Con.of (plainFor_of_name pn_com_example_matchwright_matchwright_engine_LinkLinkBeforePinLaw) (Ls := #[.val (.ref E), .val (.int (2 : Int32)), .val (.int (3 : Int32))]) (fun m => by first | (simp [entryFrame, mkF, argsToLocals, Value.category]; done) | rfl) (fun p e s m below meth cod T K X eT => ?_)
  refine s_iloadN K X d_method_5_code_0 rfl (q := 1) rfl ?_
  refine s_iloadN K X d_method_5_code_1 rfl (q := 2) rfl ?_
  refine s_icmp_lt K X d_method_5_code_2 (by decide) (q := 7) rfl (q' := 5) rfl (fun _ => ?_) (fun h_ => absurd h_ (by decide))
  refine s_aloadN K X d_method_5_code_7 rfl rfl (q := 8) rfl ?_
  refine s_iloadN K X d_method_5_code_8 rfl (q := 9) rfl ?_
  refine s_ldV K X d_method_5_code_9 eT V rfl (by decide) h1 (q := 10) rfl ?_
  refine s_getF K X d_method_5_code_10 (hw _ (List.mem_of_getElem? (i := 29) rfl)) eT F.2.1 (q := 13) rfl (fun T50 X50 e50 => ?_)
  refine s_aloadN K X50 d_method_5_code_13 rfl rfl (q := 14) rfl ?_
  refine s_iloadN K X50 d_method_5_code_14 rfl (q := 15) rfl ?_
  refine s_iconst K X50 d_method_5_code_15 (z := 1) rfl (q := 16) rfl ?_
  refine s_iadd K X50 d_method_5_code_16 (q := 17) rfl ?_
  refine s_iloadN K X50 d_method_5_code_17 rfl (q := 18) rfl ?_
  refine s_irem K X50 d_method_5_code_18 (by decide) (q := 19) rfl ?_
  refine s_ldV K X50 d_method_5_code_19 e50 V rfl (by decide) h2 (q := 20) rfl ?_
  refine s_acmp_ne K X50 d_method_5_code_20 rfl rfl (by decide) (q := 45) rfl (q' := 23) rfl (fun h_ => absurd rfl h_) (fun _ => ?_)
  refine s_aloadN K X50 d_method_5_code_23 rfl rfl (q := 24) rfl ?_
  refine s_iloadN K X50 d_method_5_code_24 rfl (q := 25) rfl ?_
  refine s_ldV K X50 d_method_5_code_25 e50 V rfl (by decide) h1 (q := 26) rfl ?_
  refine s_getF K X50 d_method_5_code_26 (hw _ (List.mem_of_getElem? (i := 30) rfl)) e50 F.2.2 (q := 29) rfl (fun T51 X51 e51 => ?_)
  refine s_aloadN K X51 d_method_5_code_29 rfl rfl (q := 30) rfl ?_
  refine s_iloadN K X51 d_method_5_code_30 rfl (q := 31) rfl ?_
  refine s_iloadN K X51 d_method_5_code_31 rfl (q := 32) rfl ?_
  refine s_iadd K X51 d_method_5_code_32 (q := 33) rfl ?_
  refine s_iconst K X51 d_method_5_code_33 (z := 1) rfl (q := 34) rfl ?_
  refine s_isub K X51 d_method_5_code_34 (q := 35) rfl ?_
  refine s_iloadN K X51 d_method_5_code_35 rfl (q := 36) rfl ?_
  refine s_irem K X51 d_method_5_code_36 (by decide) (q := 37) rfl ?_
  refine s_ldV K X51 d_method_5_code_37 e51 V rfl (by decide) h3 (q := 38) rfl ?_
  refine s_acmp_ne K X51 d_method_5_code_38 rfl rfl (by decide) (q := 45) rfl (q' := 41) rfl (fun h_ => absurd rfl h_) (fun _ => ?_)
  refine s_iconst K X51 d_method_5_code_41 (z := 1) rfl (q := 42) rfl ?_
  refine s_goto K X51 d_method_5_code_42 (by decide) (q := 46) rfl ?_
  exact s_retZ K X51 d_method_5_code_46 rfl (by decide) e51 (by decide) (by decide) ⟨rfl, rfl, rfl⟩
set_option maxRecDepth 65536 in
set_option maxHeartbeats 40000000 in
theorem c_check_0_4 (l : Launch) (Z : State) (a0 : Array Value) (hw : ∀ d ∈ tables_1, d.before a0 Z = true) (h0 : Heap) (E : Addr) (kE : ClassId) (es : List Value) (a b d : Addr) (V : Arv Z h0 E kE (.object "com/example/matchwright/matchwright/engine/Memory$Link") 5 es .null) (h1 : es.getD 0 .null = .ref a) (h2 : es.getD 1 .null = .ref b) (h3 : es.getD 3 .null = .ref d) (F : Lk Z h0 a b d) : Con l Z (⟨"com/example/matchwright/matchwright/engine/LinkLinkBeforePinLaw", "check", "([Lcom/example/matchwright/matchwright/engine/Memory$Link;II)Z"⟩ : MethodName) method_5_code 3 (some .boolean) ({ frames := 0, cells := 0, slots := 0, locals := 0 } : Room) #[(.ref E), (.int (0 : Int32)), (.int (4 : Int32))] h0 (fun v h L => v = some (.int 1) ∧ h = h0 ∧ L = []) := by
  refine Con.of (plainFor_of_name pn_com_example_matchwright_matchwright_engine_LinkLinkBeforePinLaw) (Ls := #[.val (.ref E), .val (.int (0 : Int32)), .val (.int (4 : Int32))]) (fun m => by first | (simp [entryFrame, mkF, argsToLocals, Value.category]; done) | rfl) (fun p e s m below meth cod T K X eT => ?_)
  refine s_iloadN K X d_method_5_code_0 rfl (q := 1) rfl ?_
  refine s_iloadN K X d_method_5_code_1 rfl (q := 2) rfl ?_
  refine s_icmp_lt K X d_method_5_code_2 (by decide) (q := 7) rfl (q' := 5) rfl (fun _ => ?_) (fun h_ => absurd h_ (by decide))
  refine s_aloadN K X d_method_5_code_7 rfl rfl (q := 8) rfl ?_
  refine s_iloadN K X d_method_5_code_8 rfl (q := 9) rfl ?_
  refine s_ldV K X d_method_5_code_9 eT V rfl (by decide) h1 (q := 10) rfl ?_
  refine s_getF K X d_method_5_code_10 (hw _ (List.mem_of_getElem? (i := 29) rfl)) eT F.2.1 (q := 13) rfl (fun T52 X52 e52 => ?_)
  refine s_aloadN K X52 d_method_5_code_13 rfl rfl (q := 14) rfl ?_
  refine s_iloadN K X52 d_method_5_code_14 rfl (q := 15) rfl ?_
  refine s_iconst K X52 d_method_5_code_15 (z := 1) rfl (q := 16) rfl ?_
  refine s_iadd K X52 d_method_5_code_16 (q := 17) rfl ?_
  refine s_iloadN K X52 d_method_5_code_17 rfl (q := 18) rfl ?_
  refine s_irem K X52 d_method_5_code_18 (by decide) (q := 19) rfl ?_
  refine s_ldV K X52 d_method_5_code_19 e52 V rfl (by decide) h2 (q := 20) rfl ?_
  refine s_acmp_ne K X52 d_method_5_code_20 rfl rfl (by decide) (q := 45) rfl (q' := 23) rfl (fun h_ => absurd rfl h_) (fun _ => ?_)
  refine s_aloadN K X52 d_method_5_code_23 rfl rfl (q := 24) rfl ?_
  refine s_iloadN K X52 d_method_5_code_24 rfl (q := 25) rfl ?_
  refine s_ldV K X52 d_method_5_code_25 e52 V rfl (by decide) h1 (q := 26) rfl ?_
  refine s_getF K X52 d_method_5_code_26 (hw _ (List.mem_of_getElem? (i := 30) rfl)) e52 F.2.2 (q := 29) rfl (fun T53 X53 e53 => ?_)
  refine s_aloadN K X53 d_method_5_code_29 rfl rfl (q := 30) rfl ?_
  refine s_iloadN K X53 d_method_5_code_30 rfl (q := 31) rfl ?_
  refine s_iloadN K X53 d_method_5_code_31 rfl (q := 32) rfl ?_
  refine s_iadd K X53 d_method_5_code_32 (q := 33) rfl ?_
  refine s_iconst K X53 d_method_5_code_33 (z := 1) rfl (q := 34) rfl ?_
  refine s_isub K X53 d_method_5_code_34 (q := 35) rfl ?_
  refine s_iloadN K X53 d_method_5_code_35 rfl (q := 36) rfl ?_
  refine s_irem K X53 d_method_5_code_36 (by decide) (q := 37) rfl ?_
  refine s_ldV K X53 d_method_5_code_37 e53 V rfl (by decide) h3 (q := 38) rfl ?_
  refine s_acmp_ne K X53 d_method_5_code_38 rfl rfl (by decide) (q := 45) rfl (q' := 41) rfl (fun h_ => absurd rfl h_) (fun _ => ?_)
  refine s_iconst K X53 d_method_5_code_41 (z := 1) rfl (q := 42) rfl ?_
  refine s_goto K X53 d_method_5_code_42 (by decide) (q := 46) rfl ?_
  exact s_retZ K X53 d_method_5_code_46 rfl (by decide) e53 (by decide) (by decide) ⟨rfl, rfl, rfl⟩
set_option maxRecDepth 65536 in
set_option maxHeartbeats 40000000 in
theorem c_check_1_4 (l : Launch) (Z : State) (a0 : Array Value) (hw : ∀ d ∈ tables_1, d.before a0 Z = true) (h0 : Heap) (E : Addr) (kE : ClassId) (es : List Value) (a b d : Addr) (V : Arv Z h0 E kE (.object "com/example/matchwright/matchwright/engine/Memory$Link") 5 es .null) (h1 : es.getD 1 .null = .ref a) (h2 : es.getD 2 .null = .ref b) (h3 : es.getD 0 .null = .ref d) (F : Lk Z h0 a b d) : Con l Z (⟨"com/example/matchwright/matchwright/engine/LinkLinkBeforePinLaw", "check", "([Lcom/example/matchwright/matchwright/engine/Memory$Link;II)Z"⟩ : MethodName) method_5_code 3 (some .boolean) ({ frames := 0, cells := 0, slots := 0, locals := 0 } : Room) #[(.ref E), (.int (1 : Int32)), (.int (4 : Int32))] h0 (fun v h L => v = some (.int 1) ∧ h = h0 ∧ L = []) := by
  refine Con.of (plainFor_of_name pn_com_example_matchwright_matchwright_engine_LinkLinkBeforePinLaw) (Ls := #[.val (.ref E), .val (.int (1 : Int32)), .val (.int (4 : Int32))]) (fun m => by first | (simp [entryFrame, mkF, argsToLocals, Value.category]; done) | rfl) (fun p e s m below meth cod T K X eT => ?_)
  refine s_iloadN K X d_method_5_code_0 rfl (q := 1) rfl ?_
  refine s_iloadN K X d_method_5_code_1 rfl (q := 2) rfl ?_
  refine s_icmp_lt K X d_method_5_code_2 (by decide) (q := 7) rfl (q' := 5) rfl (fun _ => ?_) (fun h_ => absurd h_ (by decide))
  refine s_aloadN K X d_method_5_code_7 rfl rfl (q := 8) rfl ?_
  refine s_iloadN K X d_method_5_code_8 rfl (q := 9) rfl ?_
  refine s_ldV K X d_method_5_code_9 eT V rfl (by decide) h1 (q := 10) rfl ?_
  refine s_getF K X d_method_5_code_10 (hw _ (List.mem_of_getElem? (i := 29) rfl)) eT F.2.1 (q := 13) rfl (fun T54 X54 e54 => ?_)
  refine s_aloadN K X54 d_method_5_code_13 rfl rfl (q := 14) rfl ?_
  refine s_iloadN K X54 d_method_5_code_14 rfl (q := 15) rfl ?_
  refine s_iconst K X54 d_method_5_code_15 (z := 1) rfl (q := 16) rfl ?_
  refine s_iadd K X54 d_method_5_code_16 (q := 17) rfl ?_
  refine s_iloadN K X54 d_method_5_code_17 rfl (q := 18) rfl ?_
  refine s_irem K X54 d_method_5_code_18 (by decide) (q := 19) rfl ?_
  refine s_ldV K X54 d_method_5_code_19 e54 V rfl (by decide) h2 (q := 20) rfl ?_
  refine s_acmp_ne K X54 d_method_5_code_20 rfl rfl (by decide) (q := 45) rfl (q' := 23) rfl (fun h_ => absurd rfl h_) (fun _ => ?_)
  refine s_aloadN K X54 d_method_5_code_23 rfl rfl (q := 24) rfl ?_
  refine s_iloadN K X54 d_method_5_code_24 rfl (q := 25) rfl ?_
  refine s_ldV K X54 d_method_5_code_25 e54 V rfl (by decide) h1 (q := 26) rfl ?_
  refine s_getF K X54 d_method_5_code_26 (hw _ (List.mem_of_getElem? (i := 30) rfl)) e54 F.2.2 (q := 29) rfl (fun T55 X55 e55 => ?_)
  refine s_aloadN K X55 d_method_5_code_29 rfl rfl (q := 30) rfl ?_
  refine s_iloadN K X55 d_method_5_code_30 rfl (q := 31) rfl ?_
  refine s_iloadN K X55 d_method_5_code_31 rfl (q := 32) rfl ?_
  refine s_iadd K X55 d_method_5_code_32 (q := 33) rfl ?_
  refine s_iconst K X55 d_method_5_code_33 (z := 1) rfl (q := 34) rfl ?_
  refine s_isub K X55 d_method_5_code_34 (q := 35) rfl ?_
  refine s_iloadN K X55 d_method_5_code_35 rfl (q := 36) rfl ?_
  refine s_irem K X55 d_method_5_code_36 (by decide) (q := 37) rfl ?_
  refine s_ldV K X55 d_method_5_code_37 e55 V rfl (by decide) h3 (q := 38) rfl ?_
  refine s_acmp_ne K X55 d_method_5_code_38 rfl rfl (by decide) (q := 45) rfl (q' := 41) rfl (fun h_ => absurd rfl h_) (fun _ => ?_)
  refine s_iconst K X55 d_method_5_code_41 (z := 1) rfl (q := 42) rfl ?_
  refine s_goto K X55 d_method_5_code_42 (by decide) (q := 46) rfl ?_
  exact s_retZ K X55 d_method_5_code_46 rfl (by decide) e55 (by decide) (by decide) ⟨rfl, rfl, rfl⟩
set_option maxRecDepth 65536 in
set_option maxHeartbeats 40000000 in
theorem c_check_2_4 (l : Launch) (Z : State) (a0 : Array Value) (hw : ∀ d ∈ tables_1, d.before a0 Z = true) (h0 : Heap) (E : Addr) (kE : ClassId) (es : List Value) (a b d : Addr) (V : Arv Z h0 E kE (.object "com/example/matchwright/matchwright/engine/Memory$Link") 5 es .null) (h1 : es.getD 2 .null = .ref a) (h2 : es.getD 3 .null = .ref b) (h3 : es.getD 1 .null = .ref d) (F : Lk Z h0 a b d) : Con l Z (⟨"com/example/matchwright/matchwright/engine/LinkLinkBeforePinLaw", "check", "([Lcom/example/matchwright/matchwright/engine/Memory$Link;II)Z"⟩ : MethodName) method_5_code 3 (some .boolean) ({ frames := 0, cells := 0, slots := 0, locals := 0 } : Room) #[(.ref E), (.int (2 : Int32)), (.int (4 : Int32))] h0 (fun v h L => v = some (.int 1) ∧ h = h0 ∧ L = []) := by
  refine Con.of (plainFor_of_name pn_com_example_matchwright_matchwright_engine_LinkLinkBeforePinLaw) (Ls := #[.val (.ref E), .val (.int (2 : Int32)), .val (.int (4 : Int32))]) (fun m => by first | (simp [entryFrame, mkF, argsToLocals, Value.category]; done) | rfl) (fun p e s m below meth cod T K X eT => ?_)
  refine s_iloadN K X d_method_5_code_0 rfl (q := 1) rfl ?_
  refine s_iloadN K X d_method_5_code_1 rfl (q := 2) rfl ?_
  refine s_icmp_lt K X d_method_5_code_2 (by decide) (q := 7) rfl (q' := 5) rfl (fun _ => ?_) (fun h_ => absurd h_ (by decide))
  refine s_aloadN K X d_method_5_code_7 rfl rfl (q := 8) rfl ?_
  refine s_iloadN K X d_method_5_code_8 rfl (q := 9) rfl ?_
  refine s_ldV K X d_method_5_code_9 eT V rfl (by decide) h1 (q := 10) rfl ?_
  refine s_getF K X d_method_5_code_10 (hw _ (List.mem_of_getElem? (i := 29) rfl)) eT F.2.1 (q := 13) rfl (fun T56 X56 e56 => ?_)
  refine s_aloadN K X56 d_method_5_code_13 rfl rfl (q := 14) rfl ?_
  refine s_iloadN K X56 d_method_5_code_14 rfl (q := 15) rfl ?_
  refine s_iconst K X56 d_method_5_code_15 (z := 1) rfl (q := 16) rfl ?_
  refine s_iadd K X56 d_method_5_code_16 (q := 17) rfl ?_
  refine s_iloadN K X56 d_method_5_code_17 rfl (q := 18) rfl ?_
  refine s_irem K X56 d_method_5_code_18 (by decide) (q := 19) rfl ?_
  refine s_ldV K X56 d_method_5_code_19 e56 V rfl (by decide) h2 (q := 20) rfl ?_
  refine s_acmp_ne K X56 d_method_5_code_20 rfl rfl (by decide) (q := 45) rfl (q' := 23) rfl (fun h_ => absurd rfl h_) (fun _ => ?_)
  refine s_aloadN K X56 d_method_5_code_23 rfl rfl (q := 24) rfl ?_
  refine s_iloadN K X56 d_method_5_code_24 rfl (q := 25) rfl ?_
  refine s_ldV K X56 d_method_5_code_25 e56 V rfl (by decide) h1 (q := 26) rfl ?_
  refine s_getF K X56 d_method_5_code_26 (hw _ (List.mem_of_getElem? (i := 30) rfl)) e56 F.2.2 (q := 29) rfl (fun T57 X57 e57 => ?_)
  refine s_aloadN K X57 d_method_5_code_29 rfl rfl (q := 30) rfl ?_
  refine s_iloadN K X57 d_method_5_code_30 rfl (q := 31) rfl ?_
  refine s_iloadN K X57 d_method_5_code_31 rfl (q := 32) rfl ?_
  refine s_iadd K X57 d_method_5_code_32 (q := 33) rfl ?_
  refine s_iconst K X57 d_method_5_code_33 (z := 1) rfl (q := 34) rfl ?_
  refine s_isub K X57 d_method_5_code_34 (q := 35) rfl ?_
  refine s_iloadN K X57 d_method_5_code_35 rfl (q := 36) rfl ?_
  refine s_irem K X57 d_method_5_code_36 (by decide) (q := 37) rfl ?_
  refine s_ldV K X57 d_method_5_code_37 e57 V rfl (by decide) h3 (q := 38) rfl ?_
  refine s_acmp_ne K X57 d_method_5_code_38 rfl rfl (by decide) (q := 45) rfl (q' := 41) rfl (fun h_ => absurd rfl h_) (fun _ => ?_)
  refine s_iconst K X57 d_method_5_code_41 (z := 1) rfl (q := 42) rfl ?_
  refine s_goto K X57 d_method_5_code_42 (by decide) (q := 46) rfl ?_
  exact s_retZ K X57 d_method_5_code_46 rfl (by decide) e57 (by decide) (by decide) ⟨rfl, rfl, rfl⟩
set_option maxRecDepth 65536 in
set_option maxHeartbeats 40000000 in
theorem c_check_3_4 (l : Launch) (Z : State) (a0 : Array Value) (hw : ∀ d ∈ tables_1, d.before a0 Z = true) (h0 : Heap) (E : Addr) (kE : ClassId) (es : List Value) (a b d : Addr) (V : Arv Z h0 E kE (.object "com/example/matchwright/matchwright/engine/Memory$Link") 5 es .null) (h1 : es.getD 3 .null = .ref a) (h2 : es.getD 0 .null = .ref b) (h3 : es.getD 2 .null = .ref d) (F : Lk Z h0 a b d) : Con l Z (⟨"com/example/matchwright/matchwright/engine/LinkLinkBeforePinLaw", "check", "([Lcom/example/matchwright/matchwright/engine/Memory$Link;II)Z"⟩ : MethodName) method_5_code 3 (some .boolean) ({ frames := 0, cells := 0, slots := 0, locals := 0 } : Room) #[(.ref E), (.int (3 : Int32)), (.int (4 : Int32))] h0 (fun v h L => v = some (.int 1) ∧ h = h0 ∧ L = []) := by
  refine Con.of (plainFor_of_name pn_com_example_matchwright_matchwright_engine_LinkLinkBeforePinLaw) (Ls := #[.val (.ref E), .val (.int (3 : Int32)), .val (.int (4 : Int32))]) (fun m => by first | (simp [entryFrame, mkF, argsToLocals, Value.category]; done) | rfl) (fun p e s m below meth cod T K X eT => ?_)
  refine s_iloadN K X d_method_5_code_0 rfl (q := 1) rfl ?_
  refine s_iloadN K X d_method_5_code_1 rfl (q := 2) rfl ?_
  refine s_icmp_lt K X d_method_5_code_2 (by decide) (q := 7) rfl (q' := 5) rfl (fun _ => ?_) (fun h_ => absurd h_ (by decide))
  refine s_aloadN K X d_method_5_code_7 rfl rfl (q := 8) rfl ?_
  refine s_iloadN K X d_method_5_code_8 rfl (q := 9) rfl ?_
  refine s_ldV K X d_method_5_code_9 eT V rfl (by decide) h1 (q := 10) rfl ?_
  refine s_getF K X d_method_5_code_10 (hw _ (List.mem_of_getElem? (i := 29) rfl)) eT F.2.1 (q := 13) rfl (fun T58 X58 e58 => ?_)
  refine s_aloadN K X58 d_method_5_code_13 rfl rfl (q := 14) rfl ?_
  refine s_iloadN K X58 d_method_5_code_14 rfl (q := 15) rfl ?_
  refine s_iconst K X58 d_method_5_code_15 (z := 1) rfl (q := 16) rfl ?_
  refine s_iadd K X58 d_method_5_code_16 (q := 17) rfl ?_
  refine s_iloadN K X58 d_method_5_code_17 rfl (q := 18) rfl ?_
  refine s_irem K X58 d_method_5_code_18 (by decide) (q := 19) rfl ?_
  refine s_ldV K X58 d_method_5_code_19 e58 V rfl (by decide) h2 (q := 20) rfl ?_
  refine s_acmp_ne K X58 d_method_5_code_20 rfl rfl (by decide) (q := 45) rfl (q' := 23) rfl (fun h_ => absurd rfl h_) (fun _ => ?_)
  refine s_aloadN K X58 d_method_5_code_23 rfl rfl (q := 24) rfl ?_
  refine s_iloadN K X58 d_method_5_code_24 rfl (q := 25) rfl ?_
  refine s_ldV K X58 d_method_5_code_25 e58 V rfl (by decide) h1 (q := 26) rfl ?_
  refine s_getF K X58 d_method_5_code_26 (hw _ (List.mem_of_getElem? (i := 30) rfl)) e58 F.2.2 (q := 29) rfl (fun T59 X59 e59 => ?_)
  refine s_aloadN K X59 d_method_5_code_29 rfl rfl (q := 30) rfl ?_
  refine s_iloadN K X59 d_method_5_code_30 rfl (q := 31) rfl ?_
  refine s_iloadN K X59 d_method_5_code_31 rfl (q := 32) rfl ?_
  refine s_iadd K X59 d_method_5_code_32 (q := 33) rfl ?_
  refine s_iconst K X59 d_method_5_code_33 (z := 1) rfl (q := 34) rfl ?_
  refine s_isub K X59 d_method_5_code_34 (q := 35) rfl ?_
  refine s_iloadN K X59 d_method_5_code_35 rfl (q := 36) rfl ?_
  refine s_irem K X59 d_method_5_code_36 (by decide) (q := 37) rfl ?_
  refine s_ldV K X59 d_method_5_code_37 e59 V rfl (by decide) h3 (q := 38) rfl ?_
  refine s_acmp_ne K X59 d_method_5_code_38 rfl rfl (by decide) (q := 45) rfl (q' := 41) rfl (fun h_ => absurd rfl h_) (fun _ => ?_)
  refine s_iconst K X59 d_method_5_code_41 (z := 1) rfl (q := 42) rfl ?_
  refine s_goto K X59 d_method_5_code_42 (by decide) (q := 46) rfl ?_
  exact s_retZ K X59 d_method_5_code_46 rfl (by decide) e59 (by decide) (by decide) ⟨rfl, rfl, rfl⟩
set_option maxRecDepth 65536 in
set_option maxHeartbeats 40000000 in
theorem c_check_0_5 (l : Launch) (Z : State) (a0 : Array Value) (hw : ∀ d ∈ tables_1, d.before a0 Z = true) (h0 : Heap) (E : Addr) (kE : ClassId) (es : List Value) (a b d : Addr) (V : Arv Z h0 E kE (.object "com/example/matchwright/matchwright/engine/Memory$Link") 5 es .null) (h1 : es.getD 0 .null = .ref a) (h2 : es.getD 1 .null = .ref b) (h3 : es.getD 4 .null = .ref d) (F : Lk Z h0 a b d) : Con l Z (⟨"com/example/matchwright/matchwright/engine/LinkLinkBeforePinLaw", "check", "([Lcom/example/matchwright/matchwright/engine/Memory$Link;II)Z"⟩ : MethodName) method_5_code 3 (some .boolean) ({ frames := 0, cells := 0, slots := 0, locals := 0 } : Room) #[(.ref E), (.int (0 : Int32)), (.int (5 : Int32))] h0 (fun v h L => v = some (.int 1) ∧ h = h0 ∧ L = []) := by
  refine Con.of (plainFor_of_name pn_com_example_matchwright_matchwright_engine_LinkLinkBeforePinLaw) (Ls := #[.val (.ref E), .val (.int (0 : Int32)), .val (.int (5 : Int32))]) (fun m => by first | (simp [entryFrame, mkF, argsToLocals, Value.category]; done) | rfl) (fun p e s m below meth cod T K X eT => ?_)
  refine s_iloadN K X d_method_5_code_0 rfl (q := 1) rfl ?_
  refine s_iloadN K X d_method_5_code_1 rfl (q := 2) rfl ?_
  refine s_icmp_lt K X d_method_5_code_2 (by decide) (q := 7) rfl (q' := 5) rfl (fun _ => ?_) (fun h_ => absurd h_ (by decide))
  refine s_aloadN K X d_method_5_code_7 rfl rfl (q := 8) rfl ?_
  refine s_iloadN K X d_method_5_code_8 rfl (q := 9) rfl ?_
  refine s_ldV K X d_method_5_code_9 eT V rfl (by decide) h1 (q := 10) rfl ?_
  refine s_getF K X d_method_5_code_10 (hw _ (List.mem_of_getElem? (i := 29) rfl)) eT F.2.1 (q := 13) rfl (fun T60 X60 e60 => ?_)
  refine s_aloadN K X60 d_method_5_code_13 rfl rfl (q := 14) rfl ?_
  refine s_iloadN K X60 d_method_5_code_14 rfl (q := 15) rfl ?_
  refine s_iconst K X60 d_method_5_code_15 (z := 1) rfl (q := 16) rfl ?_
  refine s_iadd K X60 d_method_5_code_16 (q := 17) rfl ?_
  refine s_iloadN K X60 d_method_5_code_17 rfl (q := 18) rfl ?_
  refine s_irem K X60 d_method_5_code_18 (by decide) (q := 19) rfl ?_
  refine s_ldV K X60 d_method_5_code_19 e60 V rfl (by decide) h2 (q := 20) rfl ?_
  refine s_acmp_ne K X60 d_method_5_code_20 rfl rfl (by decide) (q := 45) rfl (q' := 23) rfl (fun h_ => absurd rfl h_) (fun _ => ?_)
  refine s_aloadN K X60 d_method_5_code_23 rfl rfl (q := 24) rfl ?_
  refine s_iloadN K X60 d_method_5_code_24 rfl (q := 25) rfl ?_
  refine s_ldV K X60 d_method_5_code_25 e60 V rfl (by decide) h1 (q := 26) rfl ?_
  refine s_getF K X60 d_method_5_code_26 (hw _ (List.mem_of_getElem? (i := 30) rfl)) e60 F.2.2 (q := 29) rfl (fun T61 X61 e61 => ?_)
  refine s_aloadN K X61 d_method_5_code_29 rfl rfl (q := 30) rfl ?_
  refine s_iloadN K X61 d_method_5_code_30 rfl (q := 31) rfl ?_
  refine s_iloadN K X61 d_method_5_code_31 rfl (q := 32) rfl ?_
  refine s_iadd K X61 d_method_5_code_32 (q := 33) rfl ?_
  refine s_iconst K X61 d_method_5_code_33 (z := 1) rfl (q := 34) rfl ?_
  refine s_isub K X61 d_method_5_code_34 (q := 35) rfl ?_
  refine s_iloadN K X61 d_method_5_code_35 rfl (q := 36) rfl ?_
  refine s_irem K X61 d_method_5_code_36 (by decide) (q := 37) rfl ?_
  refine s_ldV K X61 d_method_5_code_37 e61 V rfl (by decide) h3 (q := 38) rfl ?_
  refine s_acmp_ne K X61 d_method_5_code_38 rfl rfl (by decide) (q := 45) rfl (q' := 41) rfl (fun h_ => absurd rfl h_) (fun _ => ?_)
  refine s_iconst K X61 d_method_5_code_41 (z := 1) rfl (q := 42) rfl ?_
  refine s_goto K X61 d_method_5_code_42 (by decide) (q := 46) rfl ?_
  exact s_retZ K X61 d_method_5_code_46 rfl (by decide) e61 (by decide) (by decide) ⟨rfl, rfl, rfl⟩
set_option maxRecDepth 65536 in
set_option maxHeartbeats 40000000 in
theorem c_check_1_5 (l : Launch) (Z : State) (a0 : Array Value) (hw : ∀ d ∈ tables_1, d.before a0 Z = true) (h0 : Heap) (E : Addr) (kE : ClassId) (es : List Value) (a b d : Addr) (V : Arv Z h0 E kE (.object "com/example/matchwright/matchwright/engine/Memory$Link") 5 es .null) (h1 : es.getD 1 .null = .ref a) (h2 : es.getD 2 .null = .ref b) (h3 : es.getD 0 .null = .ref d) (F : Lk Z h0 a b d) : Con l Z (⟨"com/example/matchwright/matchwright/engine/LinkLinkBeforePinLaw", "check", "([Lcom/example/matchwright/matchwright/engine/Memory$Link;II)Z"⟩ : MethodName) method_5_code 3 (some .boolean) ({ frames := 0, cells := 0, slots := 0, locals := 0 } : Room) #[(.ref E), (.int (1 : Int32)), (.int (5 : Int32))] h0 (fun v h L => v = some (.int 1) ∧ h = h0 ∧ L = []) := by
  refine Con.of (plainFor_of_name pn_com_example_matchwright_matchwright_engine_LinkLinkBeforePinLaw) (Ls := #[.val (.ref E), .val (.int (1 : Int32)), .val (.int (5 : Int32))]) (fun m => by first | (simp [entryFrame, mkF, argsToLocals, Value.category]; done) | rfl) (fun p e s m below meth cod T K X eT => ?_)
  refine s_iloadN K X d_method_5_code_0 rfl (q := 1) rfl ?_
  refine s_iloadN K X d_method_5_code_1 rfl (q := 2) rfl ?_
  refine s_icmp_lt K X d_method_5_code_2 (by decide) (q := 7) rfl (q' := 5) rfl (fun _ => ?_) (fun h_ => absurd h_ (by decide))
  refine s_aloadN K X d_method_5_code_7 rfl rfl (q := 8) rfl ?_
  refine s_iloadN K X d_method_5_code_8 rfl (q := 9) rfl ?_
  refine s_ldV K X d_method_5_code_9 eT V rfl (by decide) h1 (q := 10) rfl ?_
  refine s_getF K X d_method_5_code_10 (hw _ (List.mem_of_getElem? (i := 29) rfl)) eT F.2.1 (q := 13) rfl (fun T62 X62 e62 => ?_)
  refine s_aloadN K X62 d_method_5_code_13 rfl rfl (q := 14) rfl ?_
  refine s_iloadN K X62 d_method_5_code_14 rfl (q := 15) rfl ?_
  refine s_iconst K X62 d_method_5_code_15 (z := 1) rfl (q := 16) rfl ?_
  refine s_iadd K X62 d_method_5_code_16 (q := 17) rfl ?_
  refine s_iloadN K X62 d_method_5_code_17 rfl (q := 18) rfl ?_
  refine s_irem K X62 d_method_5_code_18 (by decide) (q := 19) rfl ?_
  refine s_ldV K X62 d_method_5_code_19 e62 V rfl (by decide) h2 (q := 20) rfl ?_
  refine s_acmp_ne K X62 d_method_5_code_20 rfl rfl (by decide) (q := 45) rfl (q' := 23) rfl (fun h_ => absurd rfl h_) (fun _ => ?_)
  refine s_aloadN K X62 d_method_5_code_23 rfl rfl (q := 24) rfl ?_
  refine s_iloadN K X62 d_method_5_code_24 rfl (q := 25) rfl ?_
  refine s_ldV K X62 d_method_5_code_25 e62 V rfl (by decide) h1 (q := 26) rfl ?_
  refine s_getF K X62 d_method_5_code_26 (hw _ (List.mem_of_getElem? (i := 30) rfl)) e62 F.2.2 (q := 29) rfl (fun T63 X63 e63 => ?_)
  refine s_aloadN K X63 d_method_5_code_29 rfl rfl (q := 30) rfl ?_
  refine s_iloadN K X63 d_method_5_code_30 rfl (q := 31) rfl ?_
  refine s_iloadN K X63 d_method_5_code_31 rfl (q := 32) rfl ?_
  refine s_iadd K X63 d_method_5_code_32 (q := 33) rfl ?_
  refine s_iconst K X63 d_method_5_code_33 (z := 1) rfl (q := 34) rfl ?_
  refine s_isub K X63 d_method_5_code_34 (q := 35) rfl ?_
  refine s_iloadN K X63 d_method_5_code_35 rfl (q := 36) rfl ?_
  refine s_irem K X63 d_method_5_code_36 (by decide) (q := 37) rfl ?_
  refine s_ldV K X63 d_method_5_code_37 e63 V rfl (by decide) h3 (q := 38) rfl ?_
  refine s_acmp_ne K X63 d_method_5_code_38 rfl rfl (by decide) (q := 45) rfl (q' := 41) rfl (fun h_ => absurd rfl h_) (fun _ => ?_)
  refine s_iconst K X63 d_method_5_code_41 (z := 1) rfl (q := 42) rfl ?_
  refine s_goto K X63 d_method_5_code_42 (by decide) (q := 46) rfl ?_
  exact s_retZ K X63 d_method_5_code_46 rfl (by decide) e63 (by decide) (by decide) ⟨rfl, rfl, rfl⟩
set_option maxRecDepth 65536 in
set_option maxHeartbeats 40000000 in
theorem c_check_2_5 (l : Launch) (Z : State) (a0 : Array Value) (hw : ∀ d ∈ tables_1, d.before a0 Z = true) (h0 : Heap) (E : Addr) (kE : ClassId) (es : List Value) (a b d : Addr) (V : Arv Z h0 E kE (.object "com/example/matchwright/matchwright/engine/Memory$Link") 5 es .null) (h1 : es.getD 2 .null = .ref a) (h2 : es.getD 3 .null = .ref b) (h3 : es.getD 1 .null = .ref d) (F : Lk Z h0 a b d) : Con l Z (⟨"com/example/matchwright/matchwright/engine/LinkLinkBeforePinLaw", "check", "([Lcom/example/matchwright/matchwright/engine/Memory$Link;II)Z"⟩ : MethodName) method_5_code 3 (some .boolean) ({ frames := 0, cells := 0, slots := 0, locals := 0 } : Room) #[(.ref E), (.int (2 : Int32)), (.int (5 : Int32))] h0 (fun v h L => v = some (.int 1) ∧ h = h0 ∧ L = []) := by
  refine Con.of (plainFor_of_name pn_com_example_matchwright_matchwright_engine_LinkLinkBeforePinLaw) (Ls := #[.val (.ref E), .val (.int (2 : Int32)), .val (.int (5 : Int32))]) (fun m => by first | (simp [entryFrame, mkF, argsToLocals, Value.category]; done) | rfl) (fun p e s m below meth cod T K X eT => ?_)
  refine s_iloadN K X d_method_5_code_0 rfl (q := 1) rfl ?_
  refine s_iloadN K X d_method_5_code_1 rfl (q := 2) rfl ?_
  refine s_icmp_lt K X d_method_5_code_2 (by decide) (q := 7) rfl (q' := 5) rfl (fun _ => ?_) (fun h_ => absurd h_ (by decide))
  refine s_aloadN K X d_method_5_code_7 rfl rfl (q := 8) rfl ?_
  refine s_iloadN K X d_method_5_code_8 rfl (q := 9) rfl ?_
  refine s_ldV K X d_method_5_code_9 eT V rfl (by decide) h1 (q := 10) rfl ?_
  refine s_getF K X d_method_5_code_10 (hw _ (List.mem_of_getElem? (i := 29) rfl)) eT F.2.1 (q := 13) rfl (fun T64 X64 e64 => ?_)
  refine s_aloadN K X64 d_method_5_code_13 rfl rfl (q := 14) rfl ?_
  refine s_iloadN K X64 d_method_5_code_14 rfl (q := 15) rfl ?_
  refine s_iconst K X64 d_method_5_code_15 (z := 1) rfl (q := 16) rfl ?_
  refine s_iadd K X64 d_method_5_code_16 (q := 17) rfl ?_
  refine s_iloadN K X64 d_method_5_code_17 rfl (q := 18) rfl ?_
  refine s_irem K X64 d_method_5_code_18 (by decide) (q := 19) rfl ?_
  refine s_ldV K X64 d_method_5_code_19 e64 V rfl (by decide) h2 (q := 20) rfl ?_
  refine s_acmp_ne K X64 d_method_5_code_20 rfl rfl (by decide) (q := 45) rfl (q' := 23) rfl (fun h_ => absurd rfl h_) (fun _ => ?_)
  refine s_aloadN K X64 d_method_5_code_23 rfl rfl (q := 24) rfl ?_
  refine s_iloadN K X64 d_method_5_code_24 rfl (q := 25) rfl ?_
  refine s_ldV K X64 d_method_5_code_25 e64 V rfl (by decide) h1 (q := 26) rfl ?_
  refine s_getF K X64 d_method_5_code_26 (hw _ (List.mem_of_getElem? (i := 30) rfl)) e64 F.2.2 (q := 29) rfl (fun T65 X65 e65 => ?_)
  refine s_aloadN K X65 d_method_5_code_29 rfl rfl (q := 30) rfl ?_
  refine s_iloadN K X65 d_method_5_code_30 rfl (q := 31) rfl ?_
  refine s_iloadN K X65 d_method_5_code_31 rfl (q := 32) rfl ?_
  refine s_iadd K X65 d_method_5_code_32 (q := 33) rfl ?_
  refine s_iconst K X65 d_method_5_code_33 (z := 1) rfl (q := 34) rfl ?_
  refine s_isub K X65 d_method_5_code_34 (q := 35) rfl ?_
  refine s_iloadN K X65 d_method_5_code_35 rfl (q := 36) rfl ?_
  refine s_irem K X65 d_method_5_code_36 (by decide) (q := 37) rfl ?_
  refine s_ldV K X65 d_method_5_code_37 e65 V rfl (by decide) h3 (q := 38) rfl ?_
  refine s_acmp_ne K X65 d_method_5_code_38 rfl rfl (by decide) (q := 45) rfl (q' := 41) rfl (fun h_ => absurd rfl h_) (fun _ => ?_)
  refine s_iconst K X65 d_method_5_code_41 (z := 1) rfl (q := 42) rfl ?_
  refine s_goto K X65 d_method_5_code_42 (by decide) (q := 46) rfl ?_
  exact s_retZ K X65 d_method_5_code_46 rfl (by decide) e65 (by decide) (by decide) ⟨rfl, rfl, rfl⟩
set_option maxRecDepth 65536 in
set_option maxHeartbeats 40000000 in
theorem c_check_3_5 (l : Launch) (Z : State) (a0 : Array Value) (hw : ∀ d ∈ tables_1, d.before a0 Z = true) (h0 : Heap) (E : Addr) (kE : ClassId) (es : List Value) (a b d : Addr) (V : Arv Z h0 E kE (.object "com/example/matchwright/matchwright/engine/Memory$Link") 5 es .null) (h1 : es.getD 3 .null = .ref a) (h2 : es.getD 4 .null = .ref b) (h3 : es.getD 2 .null = .ref d) (F : Lk Z h0 a b d) : Con l Z (⟨"com/example/matchwright/matchwright/engine/LinkLinkBeforePinLaw", "check", "([Lcom/example/matchwright/matchwright/engine/Memory$Link;II)Z"⟩ : MethodName) method_5_code 3 (some .boolean) ({ frames := 0, cells := 0, slots := 0, locals := 0 } : Room) #[(.ref E), (.int (3 : Int32)), (.int (5 : Int32))] h0 (fun v h L => v = some (.int 1) ∧ h = h0 ∧ L = []) := by
  refine Con.of (plainFor_of_name pn_com_example_matchwright_matchwright_engine_LinkLinkBeforePinLaw) (Ls := #[.val (.ref E), .val (.int (3 : Int32)), .val (.int (5 : Int32))]) (fun m => by first | (simp [entryFrame, mkF, argsToLocals, Value.category]; done) | rfl) (fun p e s m below meth cod T K X eT => ?_)
  refine s_iloadN K X d_method_5_code_0 rfl (q := 1) rfl ?_
  refine s_iloadN K X d_method_5_code_1 rfl (q := 2) rfl ?_
  refine s_icmp_lt K X d_method_5_code_2 (by decide) (q := 7) rfl (q' := 5) rfl (fun _ => ?_) (fun h_ => absurd h_ (by decide))
  refine s_aloadN K X d_method_5_code_7 rfl rfl (q := 8) rfl ?_
  refine s_iloadN K X d_method_5_code_8 rfl (q := 9) rfl ?_
  refine s_ldV K X d_method_5_code_9 eT V rfl (by decide) h1 (q := 10) rfl ?_
  refine s_getF K X d_method_5_code_10 (hw _ (List.mem_of_getElem? (i := 29) rfl)) eT F.2.1 (q := 13) rfl (fun T66 X66 e66 => ?_)
  refine s_aloadN K X66 d_method_5_code_13 rfl rfl (q := 14) rfl ?_
  refine s_iloadN K X66 d_method_5_code_14 rfl (q := 15) rfl ?_
  refine s_iconst K X66 d_method_5_code_15 (z := 1) rfl (q := 16) rfl ?_
  refine s_iadd K X66 d_method_5_code_16 (q := 17) rfl ?_
  refine s_iloadN K X66 d_method_5_code_17 rfl (q := 18) rfl ?_
  refine s_irem K X66 d_method_5_code_18 (by decide) (q := 19) rfl ?_
  refine s_ldV K X66 d_method_5_code_19 e66 V rfl (by decide) h2 (q := 20) rfl ?_
  refine s_acmp_ne K X66 d_method_5_code_20 rfl rfl (by decide) (q := 45) rfl (q' := 23) rfl (fun h_ => absurd rfl h_) (fun _ => ?_)
  refine s_aloadN K X66 d_method_5_code_23 rfl rfl (q := 24) rfl ?_
  refine s_iloadN K X66 d_method_5_code_24 rfl (q := 25) rfl ?_
  refine s_ldV K X66 d_method_5_code_25 e66 V rfl (by decide) h1 (q := 26) rfl ?_
  refine s_getF K X66 d_method_5_code_26 (hw _ (List.mem_of_getElem? (i := 30) rfl)) e66 F.2.2 (q := 29) rfl (fun T67 X67 e67 => ?_)
  refine s_aloadN K X67 d_method_5_code_29 rfl rfl (q := 30) rfl ?_
  refine s_iloadN K X67 d_method_5_code_30 rfl (q := 31) rfl ?_
  refine s_iloadN K X67 d_method_5_code_31 rfl (q := 32) rfl ?_
  refine s_iadd K X67 d_method_5_code_32 (q := 33) rfl ?_
  refine s_iconst K X67 d_method_5_code_33 (z := 1) rfl (q := 34) rfl ?_
  refine s_isub K X67 d_method_5_code_34 (q := 35) rfl ?_
  refine s_iloadN K X67 d_method_5_code_35 rfl (q := 36) rfl ?_
  refine s_irem K X67 d_method_5_code_36 (by decide) (q := 37) rfl ?_
  refine s_ldV K X67 d_method_5_code_37 e67 V rfl (by decide) h3 (q := 38) rfl ?_
  refine s_acmp_ne K X67 d_method_5_code_38 rfl rfl (by decide) (q := 45) rfl (q' := 41) rfl (fun h_ => absurd rfl h_) (fun _ => ?_)
  refine s_iconst K X67 d_method_5_code_41 (z := 1) rfl (q := 42) rfl ?_
  refine s_goto K X67 d_method_5_code_42 (by decide) (q := 46) rfl ?_
  exact s_retZ K X67 d_method_5_code_46 rfl (by decide) e67 (by decide) (by decide) ⟨rfl, rfl, rfl⟩
set_option maxRecDepth 65536 in
set_option maxHeartbeats 40000000 in
theorem c_check_4_5 (l : Launch) (Z : State) (a0 : Array Value) (hw : ∀ d ∈ tables_1, d.before a0 Z = true) (h0 : Heap) (E : Addr) (kE : ClassId) (es : List Value) (a b d : Addr) (V : Arv Z h0 E kE (.object "com/example/matchwright/matchwright/engine/Memory$Link") 5 es .null) (h1 : es.getD 4 .null = .ref a) (h2 : es.getD 0 .null = .ref b) (h3 : es.getD 3 .null = .ref d) (F : Lk Z h0 a b d) : Con l Z (⟨"com/example/matchwright/matchwright/engine/LinkLinkBeforePinLaw", "check", "([Lcom/example/matchwright/matchwright/engine/Memory$Link;II)Z"⟩ : MethodName) method_5_code 3 (some .boolean) ({ frames := 0, cells := 0, slots := 0, locals := 0 } : Room) #[(.ref E), (.int (4 : Int32)), (.int (5 : Int32))] h0 (fun v h L => v = some (.int 1) ∧ h = h0 ∧ L = []) := by
  refine Con.of (plainFor_of_name pn_com_example_matchwright_matchwright_engine_LinkLinkBeforePinLaw) (Ls := #[.val (.ref E), .val (.int (4 : Int32)), .val (.int (5 : Int32))]) (fun m => by first | (simp [entryFrame, mkF, argsToLocals, Value.category]; done) | rfl) (fun p e s m below meth cod T K X eT => ?_)
  refine s_iloadN K X d_method_5_code_0 rfl (q := 1) rfl ?_
  refine s_iloadN K X d_method_5_code_1 rfl (q := 2) rfl ?_
  refine s_icmp_lt K X d_method_5_code_2 (by decide) (q := 7) rfl (q' := 5) rfl (fun _ => ?_) (fun h_ => absurd h_ (by decide))
  refine s_aloadN K X d_method_5_code_7 rfl rfl (q := 8) rfl ?_
  refine s_iloadN K X d_method_5_code_8 rfl (q := 9) rfl ?_
  refine s_ldV K X d_method_5_code_9 eT V rfl (by decide) h1 (q := 10) rfl ?_
  refine s_getF K X d_method_5_code_10 (hw _ (List.mem_of_getElem? (i := 29) rfl)) eT F.2.1 (q := 13) rfl (fun T68 X68 e68 => ?_)
  refine s_aloadN K X68 d_method_5_code_13 rfl rfl (q := 14) rfl ?_
  refine s_iloadN K X68 d_method_5_code_14 rfl (q := 15) rfl ?_
  refine s_iconst K X68 d_method_5_code_15 (z := 1) rfl (q := 16) rfl ?_
  refine s_iadd K X68 d_method_5_code_16 (q := 17) rfl ?_
  refine s_iloadN K X68 d_method_5_code_17 rfl (q := 18) rfl ?_
  refine s_irem K X68 d_method_5_code_18 (by decide) (q := 19) rfl ?_
  refine s_ldV K X68 d_method_5_code_19 e68 V rfl (by decide) h2 (q := 20) rfl ?_
  refine s_acmp_ne K X68 d_method_5_code_20 rfl rfl (by decide) (q := 45) rfl (q' := 23) rfl (fun h_ => absurd rfl h_) (fun _ => ?_)
  refine s_aloadN K X68 d_method_5_code_23 rfl rfl (q := 24) rfl ?_
  refine s_iloadN K X68 d_method_5_code_24 rfl (q := 25) rfl ?_
  refine s_ldV K X68 d_method_5_code_25 e68 V rfl (by decide) h1 (q := 26) rfl ?_
  refine s_getF K X68 d_method_5_code_26 (hw _ (List.mem_of_getElem? (i := 30) rfl)) e68 F.2.2 (q := 29) rfl (fun T69 X69 e69 => ?_)
  refine s_aloadN K X69 d_method_5_code_29 rfl rfl (q := 30) rfl ?_
  refine s_iloadN K X69 d_method_5_code_30 rfl (q := 31) rfl ?_
  refine s_iloadN K X69 d_method_5_code_31 rfl (q := 32) rfl ?_
  refine s_iadd K X69 d_method_5_code_32 (q := 33) rfl ?_
  refine s_iconst K X69 d_method_5_code_33 (z := 1) rfl (q := 34) rfl ?_
  refine s_isub K X69 d_method_5_code_34 (q := 35) rfl ?_
  refine s_iloadN K X69 d_method_5_code_35 rfl (q := 36) rfl ?_
  refine s_irem K X69 d_method_5_code_36 (by decide) (q := 37) rfl ?_
  refine s_ldV K X69 d_method_5_code_37 e69 V rfl (by decide) h3 (q := 38) rfl ?_
  refine s_acmp_ne K X69 d_method_5_code_38 rfl rfl (by decide) (q := 45) rfl (q' := 41) rfl (fun h_ => absurd rfl h_) (fun _ => ?_)
  refine s_iconst K X69 d_method_5_code_41 (z := 1) rfl (q := 42) rfl ?_
  refine s_goto K X69 d_method_5_code_42 (by decide) (q := 46) rfl ?_
  exact s_retZ K X69 d_method_5_code_46 rfl (by decide) e69 (by decide) (by decide) ⟨rfl, rfl, rfl⟩
set_option maxRecDepth 65536 in
set_option maxHeartbeats 40000000 in
theorem c_alone_in (l : Launch) (Z : State) (a0 : Array Value) (hw : ∀ d ∈ tables_1, d.before a0 Z = true) (h0 : Heap) (B : Addr) (i n : Int32) (hn : i < n) : Con l Z (⟨"com/example/matchwright/matchwright/engine/LinkLinkBeforePinLaw", "alone", "([Lcom/example/matchwright/matchwright/engine/Memory$Link;II)Z"⟩ : MethodName) method_6_code 3 (some .boolean) ({ frames := 0, cells := 0, slots := 0, locals := 0 } : Room) #[(.ref B), (.int i), (.int n)] h0 (fun v h L => v = some (.int 1) ∧ h = h0 ∧ L = []) := by
  refine Con.of (plainFor_of_name pn_com_example_matchwright_matchwright_engine_LinkLinkBeforePinLaw) (Ls := #[.val (.ref B), .val (.int i), .val (.int n)]) (fun m => by first | (simp [entryFrame, mkF, argsToLocals, Value.category]; done) | rfl) (fun p e s m below meth cod T K X eT => ?_)
  refine s_iloadN K X d_method_6_code_0 rfl (q := 1) rfl ?_
  refine s_iloadN K X d_method_6_code_1 rfl (q := 2) rfl ?_
  refine s_icmp_ge K X d_method_6_code_2 (by decide) (q := 7) rfl (q' := 5) rfl (fun h_ => absurd hn h_) (fun _ => ?_)
  refine s_iconst K X d_method_6_code_5 (z := 1) rfl (q := 6) rfl ?_
  exact s_retZ K X d_method_6_code_6 rfl (by decide) eT (by decide) (by decide) ⟨rfl, rfl, rfl⟩
set_option maxRecDepth 65536 in
set_option maxHeartbeats 40000000 in
theorem c_alone_1 (l : Launch) (Z : State) (a0 : Array Value) (hw : ∀ d ∈ tables_1, d.before a0 Z = true) (h0 : Heap) (B : Addr) (kB : ClassId) (ls : List Value) (a : Addr) (n : Int32) (V : Arv Z h0 B kB (.object "com/example/matchwright/matchwright/engine/Memory$Link") 4 ls .null) (h1 : ls.getD 1 .null = .ref a) (F : Lk Z h0 a a a) (hn : ¬ 1 < n) : Con l Z (⟨"com/example/matchwright/matchwright/engine/LinkLinkBeforePinLaw", "alone", "([Lcom/example/matchwright/matchwright/engine/Memory$Link;II)Z"⟩ : MethodName) method_6_code 3 (some .boolean) ({ frames := 0, cells := 0, slots := 0, locals := 0 } : Room) #[(.ref B), (.int (1 : Int32)), (.int n)] h0 (fun v h L => v = some (.int 1) ∧ h = h0 ∧ L = []) := by
  refine Con.of (plainFor_of_name pn_com_example_matchwright_matchwright_engine_LinkLinkBeforePinLaw) (Ls := #[.val (.ref B), .val (.int (1 : Int32)), .val (.int n)]) (fun m => by first | (simp [entryFrame, mkF, argsToLocals, Value.category]; done) | rfl) (fun p e s m below meth cod T K X eT => ?_)
  refine s_iloadN K X d_method_6_code_0 rfl (q := 1) rfl ?_
  refine s_iloadN K X d_method_6_code_1 rfl (q := 2) rfl ?_
  refine s_icmp_ge K X d_method_6_code_2 (by decide) (q := 7) rfl (q' := 5) rfl (fun _ => ?_) (fun h_ => absurd h_ hn)
  refine s_aloadN K X d_method_6_code_7 rfl rfl (q := 8) rfl ?_
  refine s_iloadN K X d_method_6_code_8 rfl (q := 9) rfl ?_
  refine s_ldV K X d_method_6_code_9 eT V rfl (by decide) h1 (q := 10) rfl ?_
  refine s_getF K X d_method_6_code_10 (hw _ (List.mem_of_getElem? (i := 29) rfl)) eT F.2.1 (q := 13) rfl (fun T70 X70 e70 => ?_)
  refine s_aloadN K X70 d_method_6_code_13 rfl rfl (q := 14) rfl ?_
  refine s_iloadN K X70 d_method_6_code_14 rfl (q := 15) rfl ?_
  refine s_ldV K X70 d_method_6_code_15 e70 V rfl (by decide) h1 (q := 16) rfl ?_
  refine s_acmp_ne K X70 d_method_6_code_16 rfl rfl (by decide) (q := 35) rfl (q' := 19) rfl (fun h_ => absurd rfl h_) (fun _ => ?_)
  refine s_aloadN K X70 d_method_6_code_19 rfl rfl (q := 20) rfl ?_
  refine s_iloadN K X70 d_method_6_code_20 rfl (q := 21) rfl ?_
  refine s_ldV K X70 d_method_6_code_21 e70 V rfl (by decide) h1 (q := 22) rfl ?_
  refine s_getF K X70 d_method_6_code_22 (hw _ (List.mem_of_getElem? (i := 30) rfl)) e70 F.2.2 (q := 25) rfl (fun T71 X71 e71 => ?_)
  refine s_aloadN K X71 d_method_6_code_25 rfl rfl (q := 26) rfl ?_
  refine s_iloadN K X71 d_method_6_code_26 rfl (q := 27) rfl ?_
  refine s_ldV K X71 d_method_6_code_27 e71 V rfl (by decide) h1 (q := 28) rfl ?_
  refine s_acmp_ne K X71 d_method_6_code_28 rfl rfl (by decide) (q := 35) rfl (q' := 31) rfl (fun h_ => absurd rfl h_) (fun _ => ?_)
  refine s_iconst K X71 d_method_6_code_31 (z := 1) rfl (q := 32) rfl ?_
  refine s_goto K X71 d_method_6_code_32 (by decide) (q := 36) rfl ?_
  exact s_retZ K X71 d_method_6_code_36 rfl (by decide) e71 (by decide) (by decide) ⟨rfl, rfl, rfl⟩
set_option maxRecDepth 65536 in
set_option maxHeartbeats 40000000 in
theorem c_alone_2 (l : Launch) (Z : State) (a0 : Array Value) (hw : ∀ d ∈ tables_1, d.before a0 Z = true) (h0 : Heap) (B : Addr) (kB : ClassId) (ls : List Value) (a : Addr) (n : Int32) (V : Arv Z h0 B kB (.object "com/example/matchwright/matchwright/engine/Memory$Link") 4 ls .null) (h1 : ls.getD 2 .null = .ref a) (F : Lk Z h0 a a a) (hn : ¬ 2 < n) : Con l Z (⟨"com/example/matchwright/matchwright/engine/LinkLinkBeforePinLaw", "alone", "([Lcom/example/matchwright/matchwright/engine/Memory$Link;II)Z"⟩ : MethodName) method_6_code 3 (some .boolean) ({ frames := 0, cells := 0, slots := 0, locals := 0 } : Room) #[(.ref B), (.int (2 : Int32)), (.int n)] h0 (fun v h L => v = some (.int 1) ∧ h = h0 ∧ L = []) := by
  refine Con.of (plainFor_of_name pn_com_example_matchwright_matchwright_engine_LinkLinkBeforePinLaw) (Ls := #[.val (.ref B), .val (.int (2 : Int32)), .val (.int n)]) (fun m => by first | (simp [entryFrame, mkF, argsToLocals, Value.category]; done) | rfl) (fun p e s m below meth cod T K X eT => ?_)
  refine s_iloadN K X d_method_6_code_0 rfl (q := 1) rfl ?_
  refine s_iloadN K X d_method_6_code_1 rfl (q := 2) rfl ?_
  refine s_icmp_ge K X d_method_6_code_2 (by decide) (q := 7) rfl (q' := 5) rfl (fun _ => ?_) (fun h_ => absurd h_ hn)
  refine s_aloadN K X d_method_6_code_7 rfl rfl (q := 8) rfl ?_
  refine s_iloadN K X d_method_6_code_8 rfl (q := 9) rfl ?_
  refine s_ldV K X d_method_6_code_9 eT V rfl (by decide) h1 (q := 10) rfl ?_
  refine s_getF K X d_method_6_code_10 (hw _ (List.mem_of_getElem? (i := 29) rfl)) eT F.2.1 (q := 13) rfl (fun T72 X72 e72 => ?_)
  refine s_aloadN K X72 d_method_6_code_13 rfl rfl (q := 14) rfl ?_
  refine s_iloadN K X72 d_method_6_code_14 rfl (q := 15) rfl ?_
  refine s_ldV K X72 d_method_6_code_15 e72 V rfl (by decide) h1 (q := 16) rfl ?_
  refine s_acmp_ne K X72 d_method_6_code_16 rfl rfl (by decide) (q := 35) rfl (q' := 19) rfl (fun h_ => absurd rfl h_) (fun _ => ?_)
  refine s_aloadN K X72 d_method_6_code_19 rfl rfl (q := 20) rfl ?_
  refine s_iloadN K X72 d_method_6_code_20 rfl (q := 21) rfl ?_
  refine s_ldV K X72 d_method_6_code_21 e72 V rfl (by decide) h1 (q := 22) rfl ?_
  refine s_getF K X72 d_method_6_code_22 (hw _ (List.mem_of_getElem? (i := 30) rfl)) e72 F.2.2 (q := 25) rfl (fun T73 X73 e73 => ?_)
  refine s_aloadN K X73 d_method_6_code_25 rfl rfl (q := 26) rfl ?_
  refine s_iloadN K X73 d_method_6_code_26 rfl (q := 27) rfl ?_
  refine s_ldV K X73 d_method_6_code_27 e73 V rfl (by decide) h1 (q := 28) rfl ?_
  refine s_acmp_ne K X73 d_method_6_code_28 rfl rfl (by decide) (q := 35) rfl (q' := 31) rfl (fun h_ => absurd rfl h_) (fun _ => ?_)
  refine s_iconst K X73 d_method_6_code_31 (z := 1) rfl (q := 32) rfl ?_
  refine s_goto K X73 d_method_6_code_32 (by decide) (q := 36) rfl ?_
  exact s_retZ K X73 d_method_6_code_36 rfl (by decide) e73 (by decide) (by decide) ⟨rfl, rfl, rfl⟩
set_option maxRecDepth 65536 in
set_option maxHeartbeats 40000000 in
theorem c_alone_3 (l : Launch) (Z : State) (a0 : Array Value) (hw : ∀ d ∈ tables_1, d.before a0 Z = true) (h0 : Heap) (B : Addr) (kB : ClassId) (ls : List Value) (a : Addr) (n : Int32) (V : Arv Z h0 B kB (.object "com/example/matchwright/matchwright/engine/Memory$Link") 4 ls .null) (h1 : ls.getD 3 .null = .ref a) (F : Lk Z h0 a a a) (hn : ¬ 3 < n) : Con l Z (⟨"com/example/matchwright/matchwright/engine/LinkLinkBeforePinLaw", "alone", "([Lcom/example/matchwright/matchwright/engine/Memory$Link;II)Z"⟩ : MethodName) method_6_code 3 (some .boolean) ({ frames := 0, cells := 0, slots := 0, locals := 0 } : Room) #[(.ref B), (.int (3 : Int32)), (.int n)] h0 (fun v h L => v = some (.int 1) ∧ h = h0 ∧ L = []) := by
  refine Con.of (plainFor_of_name pn_com_example_matchwright_matchwright_engine_LinkLinkBeforePinLaw) (Ls := #[.val (.ref B), .val (.int (3 : Int32)), .val (.int n)]) (fun m => by first | (simp [entryFrame, mkF, argsToLocals, Value.category]; done) | rfl) (fun p e s m below meth cod T K X eT => ?_)
  refine s_iloadN K X d_method_6_code_0 rfl (q := 1) rfl ?_
  refine s_iloadN K X d_method_6_code_1 rfl (q := 2) rfl ?_
  refine s_icmp_ge K X d_method_6_code_2 (by decide) (q := 7) rfl (q' := 5) rfl (fun _ => ?_) (fun h_ => absurd h_ hn)
  refine s_aloadN K X d_method_6_code_7 rfl rfl (q := 8) rfl ?_
  refine s_iloadN K X d_method_6_code_8 rfl (q := 9) rfl ?_
  refine s_ldV K X d_method_6_code_9 eT V rfl (by decide) h1 (q := 10) rfl ?_
  refine s_getF K X d_method_6_code_10 (hw _ (List.mem_of_getElem? (i := 29) rfl)) eT F.2.1 (q := 13) rfl (fun T74 X74 e74 => ?_)
  refine s_aloadN K X74 d_method_6_code_13 rfl rfl (q := 14) rfl ?_
  refine s_iloadN K X74 d_method_6_code_14 rfl (q := 15) rfl ?_
  refine s_ldV K X74 d_method_6_code_15 e74 V rfl (by decide) h1 (q := 16) rfl ?_
  refine s_acmp_ne K X74 d_method_6_code_16 rfl rfl (by decide) (q := 35) rfl (q' := 19) rfl (fun h_ => absurd rfl h_) (fun _ => ?_)
  refine s_aloadN K X74 d_method_6_code_19 rfl rfl (q := 20) rfl ?_
  refine s_iloadN K X74 d_method_6_code_20 rfl (q := 21) rfl ?_
  refine s_ldV K X74 d_method_6_code_21 e74 V rfl (by decide) h1 (q := 22) rfl ?_
  refine s_getF K X74 d_method_6_code_22 (hw _ (List.mem_of_getElem? (i := 30) rfl)) e74 F.2.2 (q := 25) rfl (fun T75 X75 e75 => ?_)
  refine s_aloadN K X75 d_method_6_code_25 rfl rfl (q := 26) rfl ?_
  refine s_iloadN K X75 d_method_6_code_26 rfl (q := 27) rfl ?_
  refine s_ldV K X75 d_method_6_code_27 e75 V rfl (by decide) h1 (q := 28) rfl ?_
  refine s_acmp_ne K X75 d_method_6_code_28 rfl rfl (by decide) (q := 35) rfl (q' := 31) rfl (fun h_ => absurd rfl h_) (fun _ => ?_)
  refine s_iconst K X75 d_method_6_code_31 (z := 1) rfl (q := 32) rfl ?_
  refine s_goto K X75 d_method_6_code_32 (by decide) (q := 36) rfl ?_
  exact s_retZ K X75 d_method_6_code_36 rfl (by decide) e75 (by decide) (by decide) ⟨rfl, rfl, rfl⟩
set_option maxRecDepth 65536 in
set_option maxHeartbeats 40000000 in
theorem c_tail_1_0 (l : Launch) (Z : State) (a0 : Array Value) (hw : ∀ d ∈ tables_1, d.before a0 Z = true) (S : Slots Z) {p : Program} {e : Env} {s : State} {m : MethodId} {args : Array Value} {below : List Frame} {meth : Method} {cod : Code} {T : State} {locs : List Loc} {h : Heap} (K : Cx Z p s m meth cod x.cls code maxLocals ret x.name) (X : Stand p l e room_1 s m args below meth cod T locs 11 24) (B : Addr) (kB : ClassId) (l0 l1 l2 l3 xx I : Addr) (v0 p1 p2 : Int32) (eT : T.heap = h) (P : Sep Z B [l0, l1, l2, l3, xx]) (F : Inv Z h B kB [l0, l1, l2, l3, xx] [0, 1, 2, 3, 4] [0, 1, 2, 3, 4] I v0) (NN : Fr Z.heap.size locs) :
    Goes p e below (Fini s room_1 (fun v h L => v = some (.int 1) ∧ Fr Z.heap.size L)) T (mkF m 93 #[.val (.int p1), .val (.int p2), .val (.int v0), .val (.int (1 : Int32)), .val (.int (0 : Int32)), .val (.ref B), .val (.ref xx), .unset, .unset, .unset] []) := by
  refine s_aload K X at_93 rfl rfl (q := 95) rfl ?_
  refine s_iconst K X at_95 (z := 0) rfl (q := 96) rfl ?_
  refine s_iloadN K X at_96 rfl (q := 97) rfl ?_
  refine s_callS K X 0 at_97 (hw _ (List.mem_of_getElem? (i := 25) rfl)) (hw _ (List.mem_of_getElem? (i := 26) rfl)) (hw _ (List.mem_of_getElem? (i := 27) rfl)) (hw _ (List.mem_of_getElem? (i := 28) rfl)) (by decide) pd___Lcom_example_matchwright_matchwright_engine_Memory_Link_II_V rfl eT (argsL := [(.ref B), (.int (0 : Int32)), (.int (1 : Int32))]) (st := []) (c_ring_0_1 l Z a0 hw S _ B kB [l0, l1, l2, l3, xx] [0, 1, 2, 3, 4] [0, 1, 2, 3, 4] I v0 P F rfl rfl) rfl rfl (by decide) (Nat.le_of_eq rfl) (by decide) (by decide) (by decide) (q := 100) rfl (fun v96 T96 h96 L96 X96 e96 hQ96 => ?_)
  obtain ⟨rfl, F96, M96⟩ := hQ96
  refine s_aload K X96 at_100 rfl rfl (q := 102) rfl ?_
  refine s_iconst K X96 at_102 (z := 1) rfl (q := 103) rfl ?_
  refine s_iloadN K X96 at_103 rfl (q := 104) rfl ?_
  refine s_callS K X96 0 at_104 (hw _ (List.mem_of_getElem? (i := 25) rfl)) (hw _ (List.mem_of_getElem? (i := 26) rfl)) (hw _ (List.mem_of_getElem? (i := 27) rfl)) (hw _ (List.mem_of_getElem? (i := 28) rfl)) (by decide) pd___Lcom_example_matchwright_matchwright_engine_Memory_Link_II_V rfl e96 (argsL := [(.ref B), (.int (1 : Int32)), (.int (1 : Int32))]) (st := []) (c_ring_no l Z a0 hw _ B 1 1 (by decide)) rfl rfl (by decide) (Nat.le_of_eq rfl) (by decide) (by decide) (by decide) (q := 107) rfl (fun v97 T97 h97 L97 X97 e97 hQ97 => ?_)
  obtain ⟨rfl, rfl, rfl⟩ := hQ97
  refine s_aload K X97 at_107 rfl rfl (q := 109) rfl ?_
  refine s_iconst K X97 at_109 (z := 2) rfl (q := 110) rfl ?_
  refine s_iloadN K X97 at_110 rfl (q := 111) rfl ?_
  refine s_callS K X97 0 at_111 (hw _ (List.mem_of_getElem? (i := 25) rfl)) (hw _ (List.mem_of_getElem? (i := 26) rfl)) (hw _ (List.mem_of_getElem? (i := 27) rfl)) (hw _ (List.mem_of_getElem? (i := 28) rfl)) (by decide) pd___Lcom_example_matchwright_matchwright_engine_Memory_Link_II_V rfl e97 (argsL := [(.ref B), (.int (2 : Int32)), (.int (1 : Int32))]) (st := []) (c_ring_no l Z a0 hw _ B 2 1 (by decide)) rfl rfl (by decide) (Nat.le_of_eq rfl) (by decide) (by decide) (by decide) (q := 114) rfl (fun v98 T98 h98 L98 X98 e98 hQ98 => ?_)
  obtain ⟨rfl, rfl, rfl⟩ := hQ98
  refine s_aload K X98 at_114 rfl rfl (q := 116) rfl ?_
  refine s_iconst K X98 at_116 (z := 3) rfl (q := 117) rfl ?_
  refine s_iloadN K X98 at_117 rfl (q := 118) rfl ?_
  refine s_callS K X98 0 at_118 (hw _ (List.mem_of_getElem? (i := 25) rfl)) (hw _ (List.mem_of_getElem? (i := 26) rfl)) (hw _ (List.mem_of_getElem? (i := 27) rfl)) (hw _ (List.mem_of_getElem? (i := 28) rfl)) (by decide) pd___Lcom_example_matchwright_matchwright_engine_Memory_Link_II_V rfl e98 (argsL := [(.ref B), (.int (3 : Int32)), (.int (1 : Int32))]) (st := []) (c_ring_no l Z a0 hw _ B 3 1 (by decide)) rfl rfl (by decide) (Nat.le_of_eq rfl) (by decide) (by decide) (by decide) (q := 121) rfl (fun v99 T99 h99 L99 X99 e99 hQ99 => ?_)
  obtain ⟨rfl, rfl, rfl⟩ := hQ99
  refine s_aload K X99 at_121 rfl rfl (q := 123) rfl ?_
  refine s_aload K X99 at_123 rfl rfl (q := 125) rfl ?_
  refine s_iload K X99 at_125 rfl (q := 127) rfl ?_
  refine s_ldV K X99 at_127 e99 F96.2.1 rfl (by decide) rfl (q := 128) rfl ?_
  refine s_callV K X99 0 (y := (⟨"com/example/matchwright/matchwright/engine/Memory$Link", "linkBefore", "(Lcom/example/matchwright/matchwright/engine/Memory$Link;)V"⟩ : MethodName)) (z := (⟨"com/example/matchwright/matchwright/engine/Memory$Link", "linkBefore", "(Lcom/example/matchwright/matchwright/engine/Memory$Link;)V"⟩ : MethodName)) at_128 (hw _ (List.mem_of_getElem? (i := 31) rfl)) (hw _ (List.mem_of_getElem? (i := 32) rfl)) (notFace_of_selects (args := #[]) (mvT K.hZ (hw _ (List.mem_of_getElem? (i := 34) rfl)))) (hw _ (List.mem_of_getElem? (i := 34) rfl)) (hw _ (List.mem_of_getElem? (i := 33) rfl)) (hw _ (List.mem_of_getElem? (i := 4) rfl)) (hw _ (List.mem_of_getElem? (i := 35) rfl)) (by decide) pd__Lcom_example_matchwright_matchwright_engine_Memory_Link__V rfl e99 (F96.1 4 (by decide)).1 (argsL := [(.ref l0)]) (st := []) (c_before l Z a0 hw S _ B kB [l0, l1, l2, l3, xx] [0, 1, 2, 3, 4] [0, 1, 2, 3, 4] I v0 P F96 rfl rfl 0 0 (by decide) (by decide) rfl rfl) rfl rfl (by decide) (Nat.le_of_eq rfl) (by decide) (by decide) (by decide) (q := 131) rfl (fun v100 T100 h100 L100 X100 e100 hQ100 => ?_)
  obtain ⟨rfl, F100, M100⟩ := hQ100
  refine s_iloadN K X100 at_131 rfl (q := 132) rfl ?_
  refine s_iconst K X100 at_132 (z := 1) rfl (q := 133) rfl ?_
  refine s_iadd K X100 at_133 (q := 134) rfl ?_
  refine s_istore K X100 at_134 (l' := #[.val (.int p1), .val (.int p2), .val (.int v0), .val (.int (1 : Int32)), .val (.int (0 : Int32)), .val (.ref B), .val (.ref xx), .val (.int ((1 : Int32) + (1 : Int32))), .unset, .unset]) rfl (q := 136) rfl ?_
  refine s_iconst K X100 at_136 (z := 5) rfl (q := 137) rfl ?_
  refine s_newV K X100 at_137 (hw _ (List.mem_of_getElem? (i := 1) rfl)) (hw _ (List.mem_of_getElem? (i := 2) rfl)) e100 (by decide) 5 (by decide) (by decide) (by decide) (by decide) (vs := [.null, .null, .null, .null, .null]) rfl (q := 140) rfl (fun T101 h101 b101 k101 g101 X101 e101 E101 V101 O101 => ?_)
  have gE : Z.heap.size ≤ b101 := by rw [g101]; exact old_le F100.2.2.2.2
  have nE : ∀ i, i < 5 → ([l0, l1, l2, l3, xx] : List Addr).getD i 0 ≠ b101 := fun i hi => Nat.ne_of_lt (by rw [g101]; exact (F100.1 i hi).1.lt)
  have nB : B ≠ b101 := Nat.ne_of_lt (by rw [g101]; exact F100.2.1.lt)
  have nI : I ≠ b101 := Nat.ne_of_lt (by rw [g101]; exact F100.2.2.2.1.1.lt)
  have F101 := F100.ext E101
  change Inv Z _ B kB [l0, l1, l2, l3, xx] [4, 1, 2, 3, 0] [4, 1, 2, 3, 0] I v0 at F101
  refine s_astore K X101 at_140 rfl (l' := #[.val (.int p1), .val (.int p2), .val (.int v0), .val (.int (1 : Int32)), .val (.int (0 : Int32)), .val (.ref B), .val (.ref xx), .val (.int ((1 : Int32) + (1 : Int32))), .val (.ref b101), .unset]) rfl (q := 142) rfl ?_
  refine s_aload K X101 at_142 rfl rfl (q := 144) rfl ?_
  refine s_iconst K X101 at_144 (z := 0) rfl (q := 145) rfl ?_
  refine s_aload K X101 at_145 rfl rfl (q := 147) rfl ?_
  refine s_aload K X101 at_147 rfl rfl (q := 149) rfl ?_
  refine s_iload K X101 at_149 rfl (q := 151) rfl ?_
  refine s_iconst K X101 at_151 (z := 0) rfl (q := 152) rfl ?_
  refine s_callS K X101 2 at_152 (hw _ (List.mem_of_getElem? (i := 36) rfl)) (hw _ (List.mem_of_getElem? (i := 37) rfl)) (hw _ (List.mem_of_getElem? (i := 27) rfl)) (hw _ (List.mem_of_getElem? (i := 38) rfl)) (by decide) pd___Lcom_example_matchwright_matchwright_engine_Memory_Link_Lcom_example_matchwright_matchwright_engine_Memory_Link_II_Lcom_example_matchwright_matchwright_engine_Memory_Link_ rfl e101 (argsL := [(.ref B), (.ref xx), (.int (0 : Int32)), (.int (0 : Int32))]) (st := [(.int (0 : Int32)), (.ref b101)]) (c_at_0_0 l Z a0 hw _ B kB [l0, l1, l2, l3, xx] [4, 1, 2, 3, 0] [4, 1, 2, 3, 0] I v0 F101) rfl rfl (by decide) (Nat.le_of_eq rfl) (by decide) (by decide) (by decide) (q := 155) rfl (fun v102 T102 h102 L102 X102 e102 hQ102 => ?_)
  obtain ⟨rfl, rfl, rfl⟩ := hQ102
  refine s_stV K X102 at_155 e102 V101 O101 (by decide) rfl (fun y hy => by cases hy; exact Ins.self (F101.1 4 (by decide)).1) 0 rfl (Nat.le_of_ble_eq_true rfl) (vs' := [(.ref xx), .null, .null, .null, .null]) rfl (q := 156) rfl (fun T103 h103 X103 e103 W103 V103 => ?_)
  have F103 := F101.other W103 nE nB nI gE
  refine s_aload K X103 at_156 rfl rfl (q := 158) rfl ?_
  refine s_iconst K X103 at_158 (z := 1) rfl (q := 159) rfl ?_
  refine s_aload K X103 at_159 rfl rfl (q := 161) rfl ?_
  refine s_aload K X103 at_161 rfl rfl (q := 163) rfl ?_
  refine s_iload K X103 at_163 rfl (q := 165) rfl ?_
  refine s_iconst K X103 at_165 (z := 1) rfl (q := 166) rfl ?_
  refine s_callS K X103 2 at_166 (hw _ (List.mem_of_getElem? (i := 36) rfl)) (hw _ (List.mem_of_getElem? (i := 37) rfl)) (hw _ (List.mem_of_getElem? (i := 27) rfl)) (hw _ (List.mem_of_getElem? (i := 38) rfl)) (by decide) pd___Lcom_example_matchwright_matchwright_engine_Memory_Link_Lcom_example_matchwright_matchwright_engine_Memory_Link_II_Lcom_example_matchwright_matchwright_engine_Memory_Link_ rfl e103 (argsL := [(.ref B), (.ref xx), (.int (0 : Int32)), (.int (1 : Int32))]) (st := [(.int (1 : Int32)), (.ref b101)]) (c_at_0_1 l Z a0 hw _ B kB [l0, l1, l2, l3, xx] [4, 1, 2, 3, 0] [4, 1, 2, 3, 0] I v0 F103) rfl rfl (by decide) (Nat.le_of_eq rfl) (by decide) (by decide) (by decide) (q := 169) rfl (fun v104 T104 h104 L104 X104 e104 hQ104 => ?_)
  obtain ⟨rfl, rfl, rfl⟩ := hQ104
  refine s_stV K X104 at_169 e104 V103 O101 (by decide) rfl (fun y hy => by cases hy; exact Ins.self (F103.1 0 (by decide)).1) 1 rfl (Nat.le_of_ble_eq_true rfl) (vs' := [(.ref xx), (.ref l0), .null, .null, .null]) rfl (q := 170) rfl (fun T105 h105 X105 e105 W105 V105 => ?_)
  have F105 := F103.other W105 nE nB nI gE
  refine s_aload K X105 at_170 rfl rfl (q := 172) rfl ?_
  refine s_iconst K X105 at_172 (z := 2) rfl (q := 173) rfl ?_
  refine s_aload K X105 at_173 rfl rfl (q := 175) rfl ?_
  refine s_aload K X105 at_175 rfl rfl (q := 177) rfl ?_
  refine s_iload K X105 at_177 rfl (q := 179) rfl ?_
  refine s_iconst K X105 at_179 (z := 2) rfl (q := 180) rfl ?_
  refine s_callS K X105 2 at_180 (hw _ (List.mem_of_getElem? (i := 36) rfl)) (hw _ (List.mem_of_getElem? (i := 37) rfl)) (hw _ (List.mem_of_getElem? (i := 27) rfl)) (hw _ (List.mem_of_getElem? (i := 38) rfl)) (by decide) pd___Lcom_example_matchwright_matchwright_engine_Memory_Link_Lcom_example_matchwright_matchwright_engine_Memory_Link_II_Lcom_example_matchwright_matchwright_engine_Memory_Link_ rfl e105 (argsL := [(.ref B), (.ref xx), (.int (0 : Int32)), (.int (2 : Int32))]) (st := [(.int (2 : Int32)), (.ref b101)]) (c_at_0_2 l Z a0 hw _ B kB [l0, l1, l2, l3, xx] [4, 1, 2, 3, 0] [4, 1, 2, 3, 0] I v0 F105) rfl rfl (by decide) (Nat.le_of_eq rfl) (by decide) (by decide) (by decide) (q := 183) rfl (fun v106 T106 h106 L106 X106 e106 hQ106 => ?_)
  obtain ⟨rfl, rfl, rfl⟩ := hQ106
  refine s_stV K X106 at_183 e106 V105 O101 (by decide) rfl (fun y hy => by cases hy; exact Ins.self (F105.1 1 (by decide)).1) 2 rfl (Nat.le_of_ble_eq_true rfl) (vs' := [(.ref xx), (.ref l0), (.ref l1), .null, .null]) rfl (q := 184) rfl (fun T107 h107 X107 e107 W107 V107 => ?_)
  have F107 := F105.other W107 nE nB nI gE
  refine s_aload K X107 at_184 rfl rfl (q := 186) rfl ?_
  refine s_iconst K X107 at_186 (z := 3) rfl (q := 187) rfl ?_
  refine s_aload K X107 at_187 rfl rfl (q := 189) rfl ?_
  refine s_aload K X107 at_189 rfl rfl (q := 191) rfl ?_
  refine s_iload K X107 at_191 rfl (q := 193) rfl ?_
  refine s_iconst K X107 at_193 (z := 3) rfl (q := 194) rfl ?_
  refine s_callS K X107 2 at_194 (hw _ (List.mem_of_getElem? (i := 36) rfl)) (hw _ (List.mem_of_getElem? (i := 37) rfl)) (hw _ (List.mem_of_getElem? (i := 27) rfl)) (hw _ (List.mem_of_getElem? (i := 38) rfl)) (by decide) pd___Lcom_example_matchwright_matchwright_engine_Memory_Link_Lcom_example_matchwright_matchwright_engine_Memory_Link_II_Lcom_example_matchwright_matchwright_engine_Memory_Link_ rfl e107 (argsL := [(.ref B), (.ref xx), (.int (0 : Int32)), (.int (3 : Int32))]) (st := [(.int (3 : Int32)), (.ref b101)]) (c_at_0_3 l Z a0 hw _ B kB [l0, l1, l2, l3, xx] [4, 1, 2, 3, 0] [4, 1, 2, 3, 0] I v0 F107) rfl rfl (by decide) (Nat.le_of_eq rfl) (by decide) (by decide) (by decide) (q := 197) rfl (fun v108 T108 h108 L108 X108 e108 hQ108 => ?_)
  obtain ⟨rfl, rfl, rfl⟩ := hQ108
  refine s_stV K X108 at_197 e108 V107 O101 (by decide) rfl (fun y hy => by cases hy; exact Ins.self (F107.1 2 (by decide)).1) 3 rfl (Nat.le_of_ble_eq_true rfl) (vs' := [(.ref xx), (.ref l0), (.ref l1), (.ref l2), .null]) rfl (q := 198) rfl (fun T109 h109 X109 e109 W109 V109 => ?_)
  have F109 := F107.other W109 nE nB nI gE
  refine s_aload K X109 at_198 rfl rfl (q := 200) rfl ?_
  refine s_iconst K X109 at_200 (z := 4) rfl (q := 201) rfl ?_
  refine s_aload K X109 at_201 rfl rfl (q := 203) rfl ?_
  refine s_aload K X109 at_203 rfl rfl (q := 205) rfl ?_
  refine s_iload K X109 at_205 rfl (q := 207) rfl ?_
  refine s_iconst K X109 at_207 (z := 4) rfl (q := 208) rfl ?_
  refine s_callS K X109 2 at_208 (hw _ (List.mem_of_getElem? (i := 36) rfl)) (hw _ (List.mem_of_getElem? (i := 37) rfl)) (hw _ (List.mem_of_getElem? (i := 27) rfl)) (hw _ (List.mem_of_getElem? (i := 38) rfl)) (by decide) pd___Lcom_example_matchwright_matchwright_engine_Memory_Link_Lcom_example_matchwright_matchwright_engine_Memory_Link_II_Lcom_example_matchwright_matchwright_engine_Memory_Link_ rfl e109 (argsL := [(.ref B), (.ref xx), (.int (0 : Int32)), (.int (4 : Int32))]) (st := [(.int (4 : Int32)), (.ref b101)]) (c_at_0_4 l Z a0 hw _ B kB [l0, l1, l2, l3, xx] [4, 1, 2, 3, 0] [4, 1, 2, 3, 0] I v0 F109) rfl rfl (by decide) (Nat.le_of_eq rfl) (by decide) (by decide) (by decide) (q := 211) rfl (fun v110 T110 h110 L110 X110 e110 hQ110 => ?_)
  obtain ⟨rfl, rfl, rfl⟩ := hQ110
  refine s_stV K X110 at_211 e110 V109 O101 (by decide) rfl (fun y hy => by cases hy; exact Ins.self (F109.1 3 (by decide)).1) 4 rfl (Nat.le_of_ble_eq_true rfl) (vs' := [(.ref xx), (.ref l0), (.ref l1), (.ref l2), (.ref l3)]) rfl (q := 212) rfl (fun T111 h111 X111 e111 W111 V111 => ?_)
  have F111 := F109.other W111 nE nB nI gE
  refine s_aload K X111 at_212 rfl rfl (q := 214) rfl ?_
  refine s_callV K X111 0 (y := (⟨"com/example/matchwright/matchwright/engine/Memory$Link", "item", "()Ljava/lang/Object;"⟩ : MethodName)) (z := (⟨"com/example/matchwright/matchwright/engine/Memory$Link", "item", "()Ljava/lang/Object;"⟩ : MethodName)) at_214 (hw _ (List.mem_of_getElem? (i := 39) rfl)) (hw _ (List.mem_of_getElem? (i := 40) rfl)) (notFace_of_selects (args := #[]) (mvT K.hZ (hw _ (List.mem_of_getElem? (i := 42) rfl)))) (hw _ (List.mem_of_getElem? (i := 42) rfl)) (hw _ (List.mem_of_getElem? (i := 41) rfl)) (hw _ (List.mem_of_getElem? (i := 4) rfl)) (hw _ (List.mem_of_getElem? (i := 43) rfl)) (by decide) pd___Ljava_lang_Object_ rfl e111 (F111.1 4 (by decide)).1 (argsL := []) (st := []) (c_item l Z a0 hw _ xx I F111.2.2.1) rfl rfl (by decide) (Nat.le_of_eq rfl) (by decide) (by decide) (by decide) (q := 217) rfl (fun v112 T112 h112 L112 X112 e112 hQ112 => ?_)
  obtain ⟨rfl, rfl, rfl⟩ := hQ112
  refine s_castY K X112 at_217 (hw _ (List.mem_of_getElem? (i := 44) rfl)) e112 (Ins.self F111.2.2.2.1.1) (q := 220) rfl (fun T113 X113 e113 => ?_)
  refine s_callV K X113 0 (y := (⟨"java/lang/Integer", "intValue", "()I"⟩ : MethodName)) (z := (⟨"java/lang/Integer", "intValue", "()I"⟩ : MethodName)) at_220 (hw _ (List.mem_of_getElem? (i := 46) rfl)) (hw _ (List.mem_of_getElem? (i := 47) rfl)) (notFace_of_selects (args := #[]) (mvT K.hZ (hw _ (List.mem_of_getElem? (i := 49) rfl)))) (hw _ (List.mem_of_getElem? (i := 49) rfl)) (hw _ (List.mem_of_getElem? (i := 48) rfl)) (hw _ (List.mem_of_getElem? (i := 7) rfl)) (hw _ (List.mem_of_getElem? (i := 50) rfl)) (by decide) pd___I rfl e113 F111.2.2.2.1.1 (argsL := []) (st := []) (c_intValue l Z a0 hw _ I v0 F111.2.2.2.1) rfl rfl (by decide) (Nat.le_of_eq rfl) (by decide) (by decide) (by decide) (q := 223) rfl (fun v114 T114 h114 L114 X114 e114 hQ114 => ?_)
  obtain ⟨rfl, rfl, rfl⟩ := hQ114
  refine s_iloadN K X114 at_223 rfl (q := 224) rfl ?_
  refine s_icmp_ne K X114 at_224 (by decide) (q := 231) rfl (q' := 227) rfl (fun h_ => absurd rfl h_) (fun _ => ?_)
  refine s_iconst K X114 at_227 (z := 1) rfl (q := 228) rfl ?_
  refine s_goto K X114 at_228 (by decide) (q := 232) rfl ?_
  refine s_istore K X114 at_232 (l' := #[.val (.int p1), .val (.int p2), .val (.int v0), .val (.int (1 : Int32)), .val (.int (0 : Int32)), .val (.ref B), .val (.ref xx), .val (.int ((1 : Int32) + (1 : Int32))), .val (.ref b101), .val (.int (1 : Int32))]) rfl (q := 234) rfl ?_
  refine s_iload K X114 at_234 rfl (q := 236) rfl ?_
  refine s_if_eq K X114 at_236 (by decide) (q := 254) rfl (q' := 239) rfl (fun h_ => absurd h_ (by decide)) (fun _ => ?_)
  refine s_aload K X114 at_239 rfl rfl (q := 241) rfl ?_
  refine s_iconst K X114 at_241 (z := 0) rfl (q := 242) rfl ?_
  refine s_iload K X114 at_242 rfl (q := 244) rfl ?_
  refine s_callS K X114 0 at_244 (hw _ (List.mem_of_getElem? (i := 53) rfl)) (hw _ (List.mem_of_getElem? (i := 54) rfl)) (hw _ (List.mem_of_getElem? (i := 27) rfl)) (hw _ (List.mem_of_getElem? (i := 55) rfl)) (by decide) pd___Lcom_example_matchwright_matchwright_engine_Memory_Link_II_Z rfl e114 (argsL := [(.ref b101), (.int (0 : Int32)), (.int ((1 : Int32) + (1 : Int32)))]) (st := []) (c_check_0_2 l Z a0 hw _ b101 _ _ xx l0 l0 V111 rfl rfl rfl (F111.1 4 (by decide))) rfl rfl (by decide) (Nat.le_of_eq rfl) (by decide) (by decide) (by decide) (q := 247) rfl (fun v115 T115 h115 L115 X115 e115 hQ115 => ?_)
  obtain ⟨rfl, rfl, rfl⟩ := hQ115
  refine s_if_eq K X115 at_247 (by decide) (q := 254) rfl (q' := 250) rfl (fun h_ => absurd h_ (by decide)) (fun _ => ?_)
  refine s_iconst K X115 at_250 (z := 1) rfl (q := 251) rfl ?_
  refine s_goto K X115 at_251 (by decide) (q := 255) rfl ?_
  refine s_istore K X115 at_255 (l' := #[.val (.int p1), .val (.int p2), .val (.int v0), .val (.int (1 : Int32)), .val (.int (0 : Int32)), .val (.ref B), .val (.ref xx), .val (.int ((1 : Int32) + (1 : Int32))), .val (.ref b101), .val (.int (1 : Int32))]) rfl (q := 257) rfl ?_
  refine s_iload K X115 at_257 rfl (q := 259) rfl ?_
  refine s_if_eq K X115 at_259 (by decide) (q := 277) rfl (q' := 262) rfl (fun h_ => absurd h_ (by decide)) (fun _ => ?_)
  refine s_aload K X115 at_262 rfl rfl (q := 264) rfl ?_
  refine s_iconst K X115 at_264 (z := 1) rfl (q := 265) rfl ?_
  refine s_iload K X115 at_265 rfl (q := 267) rfl ?_
  refine s_callS K X115 0 at_267 (hw _ (List.mem_of_getElem? (i := 53) rfl)) (hw _ (List.mem_of_getElem? (i := 54) rfl)) (hw _ (List.mem_of_getElem? (i := 27) rfl)) (hw _ (List.mem_of_getElem? (i := 55) rfl)) (by decide) pd___Lcom_example_matchwright_matchwright_engine_Memory_Link_II_Z rfl e115 (argsL := [(.ref b101), (.int (1 : Int32)), (.int ((1 : Int32) + (1 : Int32)))]) (st := []) (c_check_1_2 l Z a0 hw _ b101 _ _ l0 xx xx V111 rfl rfl rfl (F111.1 0 (by decide))) rfl rfl (by decide) (Nat.le_of_eq rfl) (by decide) (by decide) (by decide) (q := 270) rfl (fun v116 T116 h116 L116 X116 e116 hQ116 => ?_)
  obtain ⟨rfl, rfl, rfl⟩ := hQ116
  refine s_if_eq K X116 at_270 (by decide) (q := 277) rfl (q' := 273) rfl (fun h_ => absurd h_ (by decide)) (fun _ => ?_)
  refine s_iconst K X116 at_273 (z := 1) rfl (q := 274) rfl ?_
  refine s_goto K X116 at_274 (by decide) (q := 278) rfl ?_
  refine s_istore K X116 at_278 (l' := #[.val (.int p1), .val (.int p2), .val (.int v0), .val (.int (1 : Int32)), .val (.int (0 : Int32)), .val (.ref B), .val (.ref xx), .val (.int ((1 : Int32) + (1 : Int32))), .val (.ref b101), .val (.int (1 : Int32))]) rfl (q := 280) rfl ?_
  refine s_iload K X116 at_280 rfl (q := 282) rfl ?_
  refine s_if_eq K X116 at_282 (by decide) (q := 300) rfl (q' := 285) rfl (fun h_ => absurd h_ (by decide)) (fun _ => ?_)
  refine s_aload K X116 at_285 rfl rfl (q := 287) rfl ?_
  refine s_iconst K X116 at_287 (z := 2) rfl (q := 288) rfl ?_
  refine s_iload K X116 at_288 rfl (q := 290) rfl ?_
  refine s_callS K X116 0 at_290 (hw _ (List.mem_of_getElem? (i := 53) rfl)) (hw _ (List.mem_of_getElem? (i := 54) rfl)) (hw _ (List.mem_of_getElem? (i := 27) rfl)) (hw _ (List.mem_of_getElem? (i := 55) rfl)) (by decide) pd___Lcom_example_matchwright_matchwright_engine_Memory_Link_II_Z rfl e116 (argsL := [(.ref b101), (.int (2 : Int32)), (.int ((1 : Int32) + (1 : Int32)))]) (st := []) (c_check_no l Z a0 hw _ b101 2 2 (by decide)) rfl rfl (by decide) (Nat.le_of_eq rfl) (by decide) (by decide) (by decide) (q := 293) rfl (fun v117 T117 h117 L117 X117 e117 hQ117 => ?_)
  obtain ⟨rfl, rfl, rfl⟩ := hQ117
  refine s_if_eq K X117 at_293 (by decide) (q := 300) rfl (q' := 296) rfl (fun h_ => absurd h_ (by decide)) (fun _ => ?_)
  refine s_iconst K X117 at_296 (z := 1) rfl (q := 297) rfl ?_
  refine s_goto K X117 at_297 (by decide) (q := 301) rfl ?_
  refine s_istore K X117 at_301 (l' := #[.val (.int p1), .val (.int p2), .val (.int v0), .val (.int (1 : Int32)), .val (.int (0 : Int32)), .val (.ref B), .val (.ref xx), .val (.int ((1 : Int32) + (1 : Int32))), .val (.ref b101), .val (.int (1 : Int32))]) rfl (q := 303) rfl ?_
  refine s_iload K X117 at_303 rfl (q := 305) rfl ?_
  refine s_if_eq K X117 at_305 (by decide) (q := 323) rfl (q' := 308) rfl (fun h_ => absurd h_ (by decide)) (fun _ => ?_)
  refine s_aload K X117 at_308 rfl rfl (q := 310) rfl ?_
  refine s_iconst K X117 at_310 (z := 3) rfl (q := 311) rfl ?_
  refine s_iload K X117 at_311 rfl (q := 313) rfl ?_
  refine s_callS K X117 0 at_313 (hw _ (List.mem_of_getElem? (i := 53) rfl)) (hw _ (List.mem_of_getElem? (i := 54) rfl)) (hw _ (List.mem_of_getElem? (i := 27) rfl)) (hw _ (List.mem_of_getElem? (i := 55) rfl)) (by decide) pd___Lcom_example_matchwright_matchwright_engine_Memory_Link_II_Z rfl e117 (argsL := [(.ref b101), (.int (3 : Int32)), (.int ((1 : Int32) + (1 : Int32)))]) (st := []) (c_check_no l Z a0 hw _ b101 3 2 (by decide)) rfl rfl (by decide) (Nat.le_of_eq rfl) (by decide) (by decide) (by decide) (q := 316) rfl (fun v118 T118 h118 L118 X118 e118 hQ118 => ?_)
  obtain ⟨rfl, rfl, rfl⟩ := hQ118
  refine s_if_eq K X118 at_316 (by decide) (q := 323) rfl (q' := 319) rfl (fun h_ => absurd h_ (by decide)) (fun _ => ?_)
  refine s_iconst K X118 at_319 (z := 1) rfl (q := 320) rfl ?_
  refine s_goto K X118 at_320 (by decide) (q := 324) rfl ?_
  refine s_istore K X118 at_324 (l' := #[.val (.int p1), .val (.int p2), .val (.int v0), .val (.int (1 : Int32)), .val (.int (0 : Int32)), .val (.ref B), .val (.ref xx), .val (.int ((1 : Int32) + (1 : Int32))), .val (.ref b101), .val (.int (1 : Int32))]) rfl (q := 326) rfl ?_
  refine s_iload K X118 at_326 rfl (q := 328) rfl ?_
  refine s_if_eq K X118 at_328 (by decide) (q := 346) rfl (q' := 331) rfl (fun h_ => absurd h_ (by decide)) (fun _ => ?_)
  refine s_aload K X118 at_331 rfl rfl (q := 333) rfl ?_
  refine s_iconst K X118 at_333 (z := 4) rfl (q := 334) rfl ?_
  refine s_iload K X118 at_334 rfl (q := 336) rfl ?_
  refine s_callS K X118 0 at_336 (hw _ (List.mem_of_getElem? (i := 53) rfl)) (hw _ (List.mem_of_getElem? (i := 54) rfl)) (hw _ (List.mem_of_getElem? (i := 27) rfl)) (hw _ (List.mem_of_getElem? (i := 55) rfl)) (by decide) pd___Lcom_example_matchwright_matchwright_engine_Memory_Link_II_Z rfl e118 (argsL := [(.ref b101), (.int (4 : Int32)), (.int ((1 : Int32) + (1 : Int32)))]) (st := []) (c_check_no l Z a0 hw _ b101 4 2 (by decide)) rfl rfl (by decide) (Nat.le_of_eq rfl) (by decide) (by decide) (by decide) (q := 339) rfl (fun v119 T119 h119 L119 X119 e119 hQ119 => ?_)
  obtain ⟨rfl, rfl, rfl⟩ := hQ119
  refine s_if_eq K X119 at_339 (by decide) (q := 346) rfl (q' := 342) rfl (fun h_ => absurd h_ (by decide)) (fun _ => ?_)
  refine s_iconst K X119 at_342 (z := 1) rfl (q := 343) rfl ?_
  refine s_goto K X119 at_343 (by decide) (q := 347) rfl ?_
  refine s_istore K X119 at_347 (l' := #[.val (.int p1), .val (.int p2), .val (.int v0), .val (.int (1 : Int32)), .val (.int (0 : Int32)), .val (.ref B), .val (.ref xx), .val (.int ((1 : Int32) + (1 : Int32))), .val (.ref b101), .val (.int (1 : Int32))]) rfl (q := 349) rfl ?_
  refine s_iload K X119 at_349 rfl (q := 351) rfl ?_
  refine s_if_eq K X119 at_351 (by decide) (q := 368) rfl (q' := 354) rfl (fun h_ => absurd h_ (by decide)) (fun _ => ?_)
  refine s_aload K X119 at_354 rfl rfl (q := 356) rfl ?_
  refine s_iconst K X119 at_356 (z := 1) rfl (q := 357) rfl ?_
  refine s_iloadN K X119 at_357 rfl (q := 358) rfl ?_
  refine s_callS K X119 0 at_358 (hw _ (List.mem_of_getElem? (i := 56) rfl)) (hw _ (List.mem_of_getElem? (i := 57) rfl)) (hw _ (List.mem_of_getElem? (i := 27) rfl)) (hw _ (List.mem_of_getElem? (i := 58) rfl)) (by decide) pd___Lcom_example_matchwright_matchwright_engine_Memory_Link_II_Z rfl e119 (argsL := [(.ref B), (.int (1 : Int32)), (.int (1 : Int32))]) (st := []) (c_alone_1 l Z a0 hw _ B kB _ l1 1 F111.2.1 rfl (F111.1 1 (by decide)) (by decide)) rfl rfl (by decide) (Nat.le_of_eq rfl) (by decide) (by decide) (by decide) (q := 361) rfl (fun v120 T120 h120 L120 X120 e120 hQ120 => ?_)
  obtain ⟨rfl, rfl, rfl⟩ := hQ120
  refine s_if_eq K X120 at_361 (by decide) (q := 368) rfl (q' := 364) rfl (fun h_ => absurd h_ (by decide)) (fun _ => ?_)
  refine s_iconst K X120 at_364 (z := 1) rfl (q := 365) rfl ?_
  refine s_goto K X120 at_365 (by decide) (q := 369) rfl ?_
  refine s_istore K X120 at_369 (l' := #[.val (.int p1), .val (.int p2), .val (.int v0), .val (.int (1 : Int32)), .val (.int (0 : Int32)), .val (.ref B), .val (.ref xx), .val (.int ((1 : Int32) + (1 : Int32))), .val (.ref b101), .val (.int (1 : Int32))]) rfl (q := 371) rfl ?_
  refine s_iload K X120 at_371 rfl (q := 373) rfl ?_
  refine s_if_eq K X120 at_373 (by decide) (q := 390) rfl (q' := 376) rfl (fun h_ => absurd h_ (by decide)) (fun _ => ?_)
  refine s_aload K X120 at_376 rfl rfl (q := 378) rfl ?_
  refine s_iconst K X120 at_378 (z := 2) rfl (q := 379) rfl ?_
  refine s_iloadN K X120 at_379 rfl (q := 380) rfl ?_
  refine s_callS K X120 0 at_380 (hw _ (List.mem_of_getElem? (i := 56) rfl)) (hw _ (List.mem_of_getElem? (i := 57) rfl)) (hw _ (List.mem_of_getElem? (i := 27) rfl)) (hw _ (List.mem_of_getElem? (i := 58) rfl)) (by decide) pd___Lcom_example_matchwright_matchwright_engine_Memory_Link_II_Z rfl e120 (argsL := [(.ref B), (.int (2 : Int32)), (.int (1 : Int32))]) (st := []) (c_alone_2 l Z a0 hw _ B kB _ l2 1 F111.2.1 rfl (F111.1 2 (by decide)) (by decide)) rfl rfl (by decide) (Nat.le_of_eq rfl) (by decide) (by decide) (by decide) (q := 383) rfl (fun v121 T121 h121 L121 X121 e121 hQ121 => ?_)
  obtain ⟨rfl, rfl, rfl⟩ := hQ121
  refine s_if_eq K X121 at_383 (by decide) (q := 390) rfl (q' := 386) rfl (fun h_ => absurd h_ (by decide)) (fun _ => ?_)
  refine s_iconst K X121 at_386 (z := 1) rfl (q := 387) rfl ?_
  refine s_goto K X121 at_387 (by decide) (q := 391) rfl ?_
  refine s_istore K X121 at_391 (l' := #[.val (.int p1), .val (.int p2), .val (.int v0), .val (.int (1 : Int32)), .val (.int (0 : Int32)), .val (.ref B), .val (.ref xx), .val (.int ((1 : Int32) + (1 : Int32))), .val (.ref b101), .val (.int (1 : Int32))]) rfl (q := 393) rfl ?_
  refine s_iload K X121 at_393 rfl (q := 395) rfl ?_
  refine s_if_eq K X121 at_395 (by decide) (q := 412) rfl (q' := 398) rfl (fun h_ => absurd h_ (by decide)) (fun _ => ?_)
  refine s_aload K X121 at_398 rfl rfl (q := 400) rfl ?_
  refine s_iconst K X121 at_400 (z := 3) rfl (q := 401) rfl ?_
  refine s_iloadN K X121 at_401 rfl (q := 402) rfl ?_
  refine s_callS K X121 0 at_402 (hw _ (List.mem_of_getElem? (i := 56) rfl)) (hw _ (List.mem_of_getElem? (i := 57) rfl)) (hw _ (List.mem_of_getElem? (i := 27) rfl)) (hw _ (List.mem_of_getElem? (i := 58) rfl)) (by decide) pd___Lcom_example_matchwright_matchwright_engine_Memory_Link_II_Z rfl e121 (argsL := [(.ref B), (.int (3 : Int32)), (.int (1 : Int32))]) (st := []) (c_alone_3 l Z a0 hw _ B kB _ l3 1 F111.2.1 rfl (F111.1 3 (by decide)) (by decide)) rfl rfl (by decide) (Nat.le_of_eq rfl) (by decide) (by decide) (by decide) (q := 405) rfl (fun v122 T122 h122 L122 X122 e122 hQ122 => ?_)
  obtain ⟨rfl, rfl, rfl⟩ := hQ122
  refine s_if_eq K X122 at_405 (by decide) (q := 412) rfl (q' := 408) rfl (fun h_ => absurd h_ (by decide)) (fun _ => ?_)
  refine s_iconst K X122 at_408 (z := 1) rfl (q := 409) rfl ?_
  refine s_goto K X122 at_409 (by decide) (q := 413) rfl ?_
  refine s_istore K X122 at_413 (l' := #[.val (.int p1), .val (.int p2), .val (.int v0), .val (.int (1 : Int32)), .val (.int (0 : Int32)), .val (.ref B), .val (.ref xx), .val (.int ((1 : Int32) + (1 : Int32))), .val (.ref b101), .val (.int (1 : Int32))]) rfl (q := 415) rfl ?_
  refine s_iload K X122 at_415 rfl (q := 417) rfl ?_
  exact s_retZ K X122 at_417 rfl (by decide) e122 (by decide) (by decide) ⟨rfl, (Fr.app (Fr.app (Fr.app (Fr.app (Fr.app (Fr.app (Fr.app (Fr.app (Fr.app (Fr.app (Fr.app (Fr.app (Fr.app (Fr.app (Fr.app (Fr.app (Fr.app (Fr.app (Fr.app (Fr.app (Fr.app (Fr.app (Fr.app (Fr.app (Fr.app NN M96) (Fr.nil _)) (Fr.nil _)) (Fr.nil _)) M100) (Fr.nil _)) (fr_one gE)) (Fr.nil _)) (fr_one gE)) (Fr.nil _)) (fr_one gE)) (Fr.nil _)) (fr_one gE)) (Fr.nil _)) (fr_one gE)) (Fr.nil _)) (Fr.nil _)) (Fr.nil _)) (Fr.nil _)) (Fr.nil _)) (Fr.nil _)) (Fr.nil _)) (Fr.nil _)) (Fr.nil _)) (Fr.nil _))⟩
set_option maxRecDepth 65536 in
set_option maxHeartbeats 40000000 in
theorem c_tail_2_0 (l : Launch) (Z : State) (a0 : Array Value) (hw : ∀ d ∈ tables_1, d.before a0 Z = true) (S : Slots Z) {p : Program} {e : Env} {s : State} {m : MethodId} {args : Array Value} {below : List Frame} {meth : Method} {cod : Code} {T : State} {locs : List Loc} {h : Heap} (K : Cx Z p s m meth cod x.cls code maxLocals ret x.name) (X : Stand p l e room_1 s m args below meth cod T locs 11 24) (B : Addr) (kB : ClassId) (l0 l1 l2 l3 xx I : Addr) (v0 p1 p2 : Int32) (eT : T.heap = h) (P : Sep Z B [l0, l1, l2, l3, xx]) (F : Inv Z h B kB [l0, l1, l2, l3, xx] [0, 1, 2, 3, 4] [0, 1, 2, 3, 4] I v0) (NN : Fr Z.heap.size locs) :
    Goes p e below (Fini s room_1 (fun v h L => v = some (.int 1) ∧ Fr Z.heap.size L)) T (mkF m 93 #[.val (.int p1), .val (.int p2), .val (.int v0), .val (.int (2 : Int32)), .val (.int (0 : Int32)), .val (.ref B), .val (.ref xx), .unset, .unset, .unset] []) := by
  refine s_aload K X at_93 rfl rfl (q := 95) rfl ?_
  refine s_iconst K X at_95 (z := 0) rfl (q := 96) rfl ?_
  refine s_iloadN K X at_96 rfl (q := 97) rfl ?_
  refine s_callS K X 0 at_97 (hw _ (List.mem_of_getElem? (i := 25) rfl)) (hw _ (List.mem_of_getElem? (i := 26) rfl)) (hw _ (List.mem_of_getElem? (i := 27) rfl)) (hw _ (List.mem_of_getElem? (i := 28) rfl)) (by decide) pd___Lcom_example_matchwright_matchwright_engine_Memory_Link_II_V rfl eT (argsL := [(.ref B), (.int (0 : Int32)), (.int (2 : Int32))]) (st := []) (c_ring_0_2 l Z a0 hw S _ B kB [l0, l1, l2, l3, xx] [0, 1, 2, 3, 4] [0, 1, 2, 3, 4] I v0 P F rfl rfl) rfl rfl (by decide) (Nat.le_of_eq rfl) (by decide) (by decide) (by decide) (q := 100) rfl (fun v123 T123 h123 L123 X123 e123 hQ123 => ?_)
  obtain ⟨rfl, F123, M123⟩ := hQ123
  refine s_aload K X123 at_100 rfl rfl (q := 102) rfl ?_
  refine s_iconst K X123 at_102 (z := 1) rfl (q := 103) rfl ?_
  refine s_iloadN K X123 at_103 rfl (q := 104) rfl ?_
  refine s_callS K X123 0 at_104 (hw _ (List.mem_of_getElem? (i := 25) rfl)) (hw _ (List.mem_of_getElem? (i := 26) rfl)) (hw _ (List.mem_of_getElem? (i := 27) rfl)) (hw _ (List.mem_of_getElem? (i := 28) rfl)) (by decide) pd___Lcom_example_matchwright_matchwright_engine_Memory_Link_II_V rfl e123 (argsL := [(.ref B), (.int (1 : Int32)), (.int (2 : Int32))]) (st := []) (c_ring_1_2 l Z a0 hw S _ B kB [l0, l1, l2, l3, xx] [1, 1, 2, 3, 4] [1, 1, 2, 3, 4] I v0 P F123 rfl rfl) rfl rfl (by decide) (Nat.le_of_eq rfl) (by decide) (by decide) (by decide) (q := 107) rfl (fun v124 T124 h124 L124 X124 e124 hQ124 => ?_)
  obtain ⟨rfl, F124, M124⟩ := hQ124
  refine s_aload K X124 at_107 rfl rfl (q := 109) rfl ?_
  refine s_iconst K X124 at_109 (z := 2) rfl (q := 110) rfl ?_
  refine s_iloadN K X124 at_110 rfl (q := 111) rfl ?_
  refine s_callS K X124 0 at_111 (hw _ (List.mem_of_getElem? (i := 25) rfl)) (hw _ (List.mem_of_getElem? (i := 26) rfl)) (hw _ (List.mem_of_getElem? (i := 27) rfl)) (hw _ (List.mem_of_getElem? (i := 28) rfl)) (by decide) pd___Lcom_example_matchwright_matchwright_engine_Memory_Link_II_V rfl e124 (argsL := [(.ref B), (.int (2 : Int32)), (.int (2 : Int32))]) (st := []) (c_ring_no l Z a0 hw _ B 2 2 (by decide)) rfl rfl (by decide) (Nat.le_of_eq rfl) (by decide) (by decide) (by decide) (q := 114) rfl (fun v125 T125 h125 L125 X125 e125 hQ125 => ?_)
  obtain ⟨rfl, rfl, rfl⟩ := hQ125
  refine s_aload K X125 at_114 rfl rfl (q := 116) rfl ?_
  refine s_iconst K X125 at_116 (z := 3) rfl (q := 117) rfl ?_
  refine s_iloadN K X125 at_117 rfl (q := 118) rfl ?_
  refine s_callS K X125 0 at_118 (hw _ (List.mem_of_getElem? (i := 25) rfl)) (hw _ (List.mem_of_getElem? (i := 26) rfl)) (hw _ (List.mem_of_getElem? (i := 27) rfl)) (hw _ (List.mem_of_getElem? (i := 28) rfl)) (by decide) pd___Lcom_example_matchwright_matchwright_engine_Memory_Link_II_V rfl e125 (argsL := [(.ref B), (.int (3 : Int32)), (.int (2 : Int32))]) (st := []) (c_ring_no l Z a0 hw _ B 3 2 (by decide)) rfl rfl (by decide) (Nat.le_of_eq rfl) (by decide) (by decide) (by decide) (q := 121) rfl (fun v126 T126 h126 L126 X126 e126 hQ126 => ?_)
  obtain ⟨rfl, rfl, rfl⟩ := hQ126
  refine s_aload K X126 at_121 rfl rfl (q := 123) rfl ?_
  refine s_aload K X126 at_123 rfl rfl (q := 125) rfl ?_
  refine s_iload K X126 at_125 rfl (q := 127) rfl ?_
  refine s_ldV K X126 at_127 e126 F124.2.1 rfl (by decide) rfl (q := 128) rfl ?_
  refine s_callV K X126 0 (y := (⟨"com/example/matchwright/matchwright/engine/Memory$Link", "linkBefore", "(Lcom/example/matchwright/matchwright/engine/Memory$Link;)V"⟩ : MethodName)) (z := (⟨"com/example/matchwright/matchwright/engine/Memory$Link", "linkBefore", "(Lcom/example/matchwright/matchwright/engine/Memory$Link;)V"⟩ : MethodName)) at_128 (hw _ (List.mem_of_getElem? (i := 31) rfl)) (hw _ (List.mem_of_getElem? (i := 32) rfl)) (notFace_of_selects (args := #[]) (mvT K.hZ (hw _ (List.mem_of_getElem? (i := 34) rfl)))) (hw _ (List.mem_of_getElem? (i := 34) rfl)) (hw _ (List.mem_of_getElem? (i := 33) rfl)) (hw _ (List.mem_of_getElem? (i := 4) rfl)) (hw _ (List.mem_of_getElem? (i := 35) rfl)) (by decide) pd__Lcom_example_matchwright_matchwright_engine_Memory_Link__V rfl e126 (F124.1 4 (by decide)).1 (argsL := [(.ref l0)]) (st := []) (c_before l Z a0 hw S _ B kB [l0, l1, l2, l3, xx] [1, 0, 2, 3, 4] [1, 0, 2, 3, 4] I v0 P F124 rfl rfl 0 1 (by decide) (by decide) rfl rfl) rfl rfl (by decide) (Nat.le_of_eq rfl) (by decide) (by decide) (by decide) (q := 131) rfl (fun v127 T127 h127 L127 X127 e127 hQ127 => ?_)
  obtain ⟨rfl, F127, M127⟩ := hQ127
  refine s_iloadN K X127 at_131 rfl (q := 132) rfl ?_
  refine s_iconst K X127 at_132 (z := 1) rfl (q := 133) rfl ?_
  refine s_iadd K X127 at_133 (q := 134) rfl ?_
  refine s_istore K X127 at_134 (l' := #[.val (.int p1), .val (.int p2), .val (.int v0), .val (.int (2 : Int32)), .val (.int (0 : Int32)), .val (.ref B), .val (.ref xx), .val (.int ((2 : Int32) + (1 : Int32))), .unset, .unset]) rfl (q := 136) rfl ?_
  refine s_iconst K X127 at_136 (z := 5) rfl (q := 137) rfl ?_
  refine s_newV K X127 at_137 (hw _ (List.mem_of_getElem? (i := 1) rfl)) (hw _ (List.mem_of_getElem? (i := 2) rfl)) e127 (by decide) 5 (by decide) (by decide) (by decide) (by decide) (vs := [.null, .null, .null, .null, .null]) rfl (q := 140) rfl (fun T128 h128 b128 k128 g128 X128 e128 E128 V128 O128 => ?_)
  have gE : Z.heap.size ≤ b128 := by rw [g128]; exact old_le F127.2.2.2.2
  have nE : ∀ i, i < 5 → ([l0, l1, l2, l3, xx] : List Addr).getD i 0 ≠ b128 := fun i hi => Nat.ne_of_lt (by rw [g128]; exact (F127.1 i hi).1.lt)
  have nB : B ≠ b128 := Nat.ne_of_lt (by rw [g128]; exact F127.2.1.lt)
  have nI : I ≠ b128 := Nat.ne_of_lt (by rw [g128]; exact F127.2.2.2.1.1.lt)
  have F128 := F127.ext E128
  change Inv Z _ B kB [l0, l1, l2, l3, xx] [1, 4, 2, 3, 0] [4, 0, 2, 3, 1] I v0 at F128
  refine s_astore K X128 at_140 rfl (l' := #[.val (.int p1), .val (.int p2), .val (.int v0), .val (.int (2 : Int32)), .val (.int (0 : Int32)), .val (.ref B), .val (.ref xx), .val (.int ((2 : Int32) + (1 : Int32))), .val (.ref b128), .unset]) rfl (q := 142) rfl ?_
  refine s_aload K X128 at_142 rfl rfl (q := 144) rfl ?_
  refine s_iconst K X128 at_144 (z := 0) rfl (q := 145) rfl ?_
  refine s_aload K X128 at_145 rfl rfl (q := 147) rfl ?_
  refine s_aload K X128 at_147 rfl rfl (q := 149) rfl ?_
  refine s_iload K X128 at_149 rfl (q := 151) rfl ?_
  refine s_iconst K X128 at_151 (z := 0) rfl (q := 152) rfl ?_
  refine s_callS K X128 2 at_152 (hw _ (List.mem_of_getElem? (i := 36) rfl)) (hw _ (List.mem_of_getElem? (i := 37) rfl)) (hw _ (List.mem_of_getElem? (i := 27) rfl)) (hw _ (List.mem_of_getElem? (i := 38) rfl)) (by decide) pd___Lcom_example_matchwright_matchwright_engine_Memory_Link_Lcom_example_matchwright_matchwright_engine_Memory_Link_II_Lcom_example_matchwright_matchwright_engine_Memory_Link_ rfl e128 (argsL := [(.ref B), (.ref xx), (.int (0 : Int32)), (.int (0 : Int32))]) (st := [(.int (0 : Int32)), (.ref b128)]) (c_at_0_0 l Z a0 hw _ B kB [l0, l1, l2, l3, xx] [1, 4, 2, 3, 0] [4, 0, 2, 3, 1] I v0 F128) rfl rfl (by decide) (Nat.le_of_eq rfl) (by decide) (by decide) (by decide) (q := 155) rfl (fun v129 T129 h129 L129 X129 e129 hQ129 => ?_)
  obtain ⟨rfl, rfl, rfl⟩ := hQ129
  refine s_stV K X129 at_155 e129 V128 O128 (by decide) rfl (fun y hy => by cases hy; exact Ins.self (F128.1 4 (by decide)).1) 0 rfl (Nat.le_of_ble_eq_true rfl) (vs' := [(.ref xx), .null, .null, .null, .null]) rfl (q := 156) rfl (fun T130 h130 X130 e130 W130 V130 => ?_)
  have F130 := F128.other W130 nE nB nI gE
  refine s_aload K X130 at_156 rfl rfl (q := 158) rfl ?_
  refine s_iconst K X130 at_158 (z := 1) rfl (q := 159) rfl ?_
  refine s_aload K X130 at_159 rfl rfl (q := 161) rfl ?_
  refine s_aload K X130 at_161 rfl rfl (q := 163) rfl ?_
  refine s_iload K X130 at_163 rfl (q := 165) rfl ?_
  refine s_iconst K X130 at_165 (z := 1) rfl (q := 166) rfl ?_
  refine s_callS K X130 2 at_166 (hw _ (List.mem_of_getElem? (i := 36) rfl)) (hw _ (List.mem_of_getElem? (i := 37) rfl)) (hw _ (List.mem_of_getElem? (i := 27) rfl)) (hw _ (List.mem_of_getElem? (i := 38) rfl)) (by decide) pd___Lcom_example_matchwright_matchwright_engine_Memory_Link_Lcom_example_matchwright_matchwright_engine_Memory_Link_II_Lcom_example_matchwright_matchwright_engine_Memory_Link_ rfl e130 (argsL := [(.ref B), (.ref xx), (.int (0 : Int32)), (.int (1 : Int32))]) (st := [(.int (1 : Int32)), (.ref b128)]) (c_at_0_1 l Z a0 hw _ B kB [l0, l1, l2, l3, xx] [1, 4, 2, 3, 0] [4, 0, 2, 3, 1] I v0 F130) rfl rfl (by decide) (Nat.le_of_eq rfl) (by decide) (by decide) (by decide) (q := 169) rfl (fun v131 T131 h131 L131 X131 e131 hQ131 => ?_)
  obtain ⟨rfl, rfl, rfl⟩ := hQ131
  refine s_stV K X131 at_169 e131 V130 O128 (by decide) rfl (fun y hy => by cases hy; exact Ins.self (F130.1 0 (by decide)).1) 1 rfl (Nat.le_of_ble_eq_true rfl) (vs' := [(.ref xx), (.ref l0), .null, .null, .null]) rfl (q := 170) rfl (fun T132 h132 X132 e132 W132 V132 => ?_)
  have F132 := F130.other W132 nE nB nI gE
  refine s_aload K X132 at_170 rfl rfl (q := 172) rfl ?_
  refine s_iconst K X132 at_172 (z := 2) rfl (q := 173) rfl ?_
  refine s_aload K X132 at_173 rfl rfl (q := 175) rfl ?_
  refine s_aload K X132 at_175 rfl rfl (q := 177) rfl ?_
  refine s_iload K X132 at_177 rfl (q := 179) rfl ?_
  refine s_iconst K X132 at_179 (z := 2) rfl (q := 180) rfl ?_
  refine s_callS K X132 2 at_180 (hw _ (List.mem_of_getElem? (i := 36) rfl)) (hw _ (List.mem_of_getElem? (i := 37) rfl)) (hw _ (List.mem_of_getElem? (i := 27) rfl)) (hw _ (List.mem_of_getElem? (i := 38) rfl)) (by decide) pd___Lcom_example_matchwright_matchwright_engine_Memory_Link_Lcom_example_matchwright_matchwright_engine_Memory_Link_II_Lcom_example_matchwright_matchwright_engine_Memory_Link_ rfl e132 (argsL := [(.ref B), (.ref xx), (.int (0 : Int32)), (.int (2 : Int32))]) (st := [(.int (2 : Int32)), (.ref b128)]) (c_at_0_2 l Z a0 hw _ B kB [l0, l1, l2, l3, xx] [1, 4, 2, 3, 0] [4, 0, 2, 3, 1] I v0 F132) rfl rfl (by decide) (Nat.le_of_eq rfl) (by decide) (by decide) (by decide) (q := 183) rfl (fun v133 T133 h133 L133 X133 e133 hQ133 => ?_)
  obtain ⟨rfl, rfl, rfl⟩ := hQ133
  refine s_stV K X133 at_183 e133 V132 O128 (by decide) rfl (fun y hy => by cases hy; exact Ins.self (F132.1 1 (by decide)).1) 2 rfl (Nat.le_of_ble_eq_true rfl) (vs' := [(.ref xx), (.ref l0), (.ref l1), .null, .null]) rfl (q := 184) rfl (fun T134 h134 X134 e134 W134 V134 => ?_)
  have F134 := F132.other W134 nE nB nI gE
  refine s_aload K X134 at_184 rfl rfl (q := 186) rfl ?_
  refine s_iconst K X134 at_186 (z := 3) rfl (q := 187) rfl ?_
  refine s_aload K X134 at_187 rfl rfl (q := 189) rfl ?_
  refine s_aload K X134 at_189 rfl rfl (q := 191) rfl ?_
  refine s_iload K X134 at_191 rfl (q := 193) rfl ?_
  refine s_iconst K X134 at_193 (z := 3) rfl (q := 194) rfl ?_
  refine s_callS K X134 2 at_194 (hw _ (List.mem_of_getElem? (i := 36) rfl)) (hw _ (List.mem_of_getElem? (i := 37) rfl)) (hw _ (List.mem_of_getElem? (i := 27) rfl)) (hw _ (List.mem_of_getElem? (i := 38) rfl)) (by decide) pd___Lcom_example_matchwright_matchwright_engine_Memory_Link_Lcom_example_matchwright_matchwright_engine_Memory_Link_II_Lcom_example_matchwright_matchwright_engine_Memory_Link_ rfl e134 (argsL := [(.ref B), (.ref xx), (.int (0 : Int32)), (.int (3 : Int32))]) (st := [(.int (3 : Int32)), (.ref b128)]) (c_at_0_3 l Z a0 hw _ B kB [l0, l1, l2, l3, xx] [1, 4, 2, 3, 0] [4, 0, 2, 3, 1] I v0 F134) rfl rfl (by decide) (Nat.le_of_eq rfl) (by decide) (by decide) (by decide) (q := 197) rfl (fun v135 T135 h135 L135 X135 e135 hQ135 => ?_)
  obtain ⟨rfl, rfl, rfl⟩ := hQ135
  refine s_stV K X135 at_197 e135 V134 O128 (by decide) rfl (fun y hy => by cases hy; exact Ins.self (F134.1 2 (by decide)).1) 3 rfl (Nat.le_of_ble_eq_true rfl) (vs' := [(.ref xx), (.ref l0), (.ref l1), (.ref l2), .null]) rfl (q := 198) rfl (fun T136 h136 X136 e136 W136 V136 => ?_)
  have F136 := F134.other W136 nE nB nI gE
  refine s_aload K X136 at_198 rfl rfl (q := 200) rfl ?_
  refine s_iconst K X136 at_200 (z := 4) rfl (q := 201) rfl ?_
  refine s_aload K X136 at_201 rfl rfl (q := 203) rfl ?_
  refine s_aload K X136 at_203 rfl rfl (q := 205) rfl ?_
  refine s_iload K X136 at_205 rfl (q := 207) rfl ?_
  refine s_iconst K X136 at_207 (z := 4) rfl (q := 208) rfl ?_
  refine s_callS K X136 2 at_208 (hw _ (List.mem_of_getElem? (i := 36) rfl)) (hw _ (List.mem_of_getElem? (i := 37) rfl)) (hw _ (List.mem_of_getElem? (i := 27) rfl)) (hw _ (List.mem_of_getElem? (i := 38) rfl)) (by decide) pd___Lcom_example_matchwright_matchwright_engine_Memory_Link_Lcom_example_matchwright_matchwright_engine_Memory_Link_II_Lcom_example_matchwright_matchwright_engine_Memory_Link_ rfl e136 (argsL := [(.ref B), (.ref xx), (.int (0 : Int32)), (.int (4 : Int32))]) (st := [(.int (4 : Int32)), (.ref b128)]) (c_at_0_4 l Z a0 hw _ B kB [l0, l1, l2, l3, xx] [1, 4, 2, 3, 0] [4, 0, 2, 3, 1] I v0 F136) rfl rfl (by decide) (Nat.le_of_eq rfl) (by decide) (by decide) (by decide) (q := 211) rfl (fun v137 T137 h137 L137 X137 e137 hQ137 => ?_)
  obtain ⟨rfl, rfl, rfl⟩ := hQ137
  refine s_stV K X137 at_211 e137 V136 O128 (by decide) rfl (fun y hy => by cases hy; exact Ins.self (F136.1 3 (by decide)).1) 4 rfl (Nat.le_of_ble_eq_true rfl) (vs' := [(.ref xx), (.ref l0), (.ref l1), (.ref l2), (.ref l3)]) rfl (q := 212) rfl (fun T138 h138 X138 e138 W138 V138 => ?_)
  have F138 := F136.other W138 nE nB nI gE
  refine s_aload K X138 at_212 rfl rfl (q := 214) rfl ?_
  refine s_callV K X138 0 (y := (⟨"com/example/matchwright/matchwright/engine/Memory$Link", "item", "()Ljava/lang/Object;"⟩ : MethodName)) (z := (⟨"com/example/matchwright/matchwright/engine/Memory$Link", "item", "()Ljava/lang/Object;"⟩ : MethodName)) at_214 (hw _ (List.mem_of_getElem? (i := 39) rfl)) (hw _ (List.mem_of_getElem? (i := 40) rfl)) (notFace_of_selects (args := #[]) (mvT K.hZ (hw _ (List.mem_of_getElem? (i := 42) rfl)))) (hw _ (List.mem_of_getElem? (i := 42) rfl)) (hw _ (List.mem_of_getElem? (i := 41) rfl)) (hw _ (List.mem_of_getElem? (i := 4) rfl)) (hw _ (List.mem_of_getElem? (i := 43) rfl)) (by decide) pd___Ljava_lang_Object_ rfl e138 (F138.1 4 (by decide)).1 (argsL := []) (st := []) (c_item l Z a0 hw _ xx I F138.2.2.1) rfl rfl (by decide) (Nat.le_of_eq rfl) (by decide) (by decide) (by decide) (q := 217) rfl (fun v139 T139 h139 L139 X139 e139 hQ139 => ?_)
  obtain ⟨rfl, rfl, rfl⟩ := hQ139
  refine s_castY K X139 at_217 (hw _ (List.mem_of_getElem? (i := 44) rfl)) e139 (Ins.self F138.2.2.2.1.1) (q := 220) rfl (fun T140 X140 e140 => ?_)
  refine s_callV K X140 0 (y := (⟨"java/lang/Integer", "intValue", "()I"⟩ : MethodName)) (z := (⟨"java/lang/Integer", "intValue", "()I"⟩ : MethodName)) at_220 (hw _ (List.mem_of_getElem? (i := 46) rfl)) (hw _ (List.mem_of_getElem? (i := 47) rfl)) (notFace_of_selects (args := #[]) (mvT K.hZ (hw _ (List.mem_of_getElem? (i := 49) rfl)))) (hw _ (List.mem_of_getElem? (i := 49) rfl)) (hw _ (List.mem_of_getElem? (i := 48) rfl)) (hw _ (List.mem_of_getElem? (i := 7) rfl)) (hw _ (List.mem_of_getElem? (i := 50) rfl)) (by decide) pd___I rfl e140 F138.2.2.2.1.1 (argsL := []) (st := []) (c_intValue l Z a0 hw _ I v0 F138.2.2.2.1) rfl rfl (by decide) (Nat.le_of_eq rfl) (by decide) (by decide) (by decide) (q := 223) rfl (fun v141 T141 h141 L141 X141 e141 hQ141 => ?_)
  obtain ⟨rfl, rfl, rfl⟩ := hQ141
  refine s_iloadN K X141 at_223 rfl (q := 224) rfl ?_
  refine s_icmp_ne K X141 at_224 (by decide) (q := 231) rfl (q' := 227) rfl (fun h_ => absurd rfl h_) (fun _ => ?_)
  refine s_iconst K X141 at_227 (z := 1) rfl (q := 228) rfl ?_
  refine s_goto K X141 at_228 (by decide) (q := 232) rfl ?_
  refine s_istore K X141 at_232 (l' := #[.val (.int p1), .val (.int p2), .val (.int v0), .val (.int (2 : Int32)), .val (.int (0 : Int32)), .val (.ref B), .val (.ref xx), .val (.int ((2 : Int32) + (1 : Int32))), .val (.ref b128), .val (.int (1 : Int32))]) rfl (q := 234) rfl ?_
  refine s_iload K X141 at_234 rfl (q := 236) rfl ?_
  refine s_if_eq K X141 at_236 (by decide) (q := 254) rfl (q' := 239) rfl (fun h_ => absurd h_ (by decide)) (fun _ => ?_)
  refine s_aload K X141 at_239 rfl rfl (q := 241) rfl ?_
  refine s_iconst K X141 at_241 (z := 0) rfl (q := 242) rfl ?_
  refine s_iload K X141 at_242 rfl (q := 244) rfl ?_
  refine s_callS K X141 0 at_244 (hw _ (List.mem_of_getElem? (i := 53) rfl)) (hw _ (List.mem_of_getElem? (i := 54) rfl)) (hw _ (List.mem_of_getElem? (i := 27) rfl)) (hw _ (List.mem_of_getElem? (i := 55) rfl)) (by decide) pd___Lcom_example_matchwright_matchwright_engine_Memory_Link_II_Z rfl e141 (argsL := [(.ref b128), (.int (0 : Int32)), (.int ((2 : Int32) + (1 : Int32)))]) (st := []) (c_check_0_3 l Z a0 hw _ b128 _ _ xx l0 l1 V138 rfl rfl rfl (F138.1 4 (by decide))) rfl rfl (by decide) (Nat.le_of_eq rfl) (by decide) (by decide) (by decide) (q := 247) rfl (fun v142 T142 h142 L142 X142 e142 hQ142 => ?_)
  obtain ⟨rfl, rfl, rfl⟩ := hQ142
  refine s_if_eq K X142 at_247 (by decide) (q := 254) rfl (q' := 250) rfl (fun h_ => absurd h_ (by decide)) (fun _ => ?_)
  refine s_iconst K X142 at_250 (z := 1) rfl (q := 251) rfl ?_
  refine s_goto K X142 at_251 (by decide) (q := 255) rfl ?_
  refine s_istore K X142 at_255 (l' := #[.val (.int p1), .val (.int p2), .val (.int v0), .val (.int (2 : Int32)), .val (.int (0 : Int32)), .val (.ref B), .val (.ref xx), .val (.int ((2 : Int32) + (1 : Int32))), .val (.ref b128), .val (.int (1 : Int32))]) rfl (q := 257) rfl ?_
  refine s_iload K X142 at_257 rfl (q := 259) rfl ?_
  refine s_if_eq K X142 at_259 (by decide) (q := 277) rfl (q' := 262) rfl (fun h_ => absurd h_ (by decide)) (fun _ => ?_)
  refine s_aload K X142 at_262 rfl rfl (q := 264) rfl ?_
  refine s_iconst K X142 at_264 (z := 1) rfl (q := 265) rfl ?_
  refine s_iload K X142 at_265 rfl (q := 267) rfl ?_
  refine s_callS K X142 0 at_267 (hw _ (List.mem_of_getElem? (i := 53) rfl)) (hw _ (List.mem_of_getElem? (i := 54) rfl)) (hw _ (List.mem_of_getElem? (i := 27) rfl)) (hw _ (List.mem_of_getElem? (i := 55) rfl)) (by decide) pd___Lcom_example_matchwright_matchwright_engine_Memory_Link_II_Z rfl e142 (argsL := [(.ref b128), (.int (1 : Int32)), (.int ((2 : Int32) + (1 : Int32)))]) (st := []) (c_check_1_3 l Z a0 hw _ b128 _ _ l0 l1 xx V138 rfl rfl rfl (F138.1 0 (by decide))) rfl rfl (by decide) (Nat.le_of_eq rfl) (by decide) (by decide) (by decide) (q := 270) rfl (fun v143 T143 h143 L143 X143 e143 hQ143 => ?_)
  obtain ⟨rfl, rfl, rfl⟩ := hQ143
  refine s_if_eq K X143 at_270 (by decide) (q := 277) rfl (q' := 273) rfl (fun h_ => absurd h_ (by decide)) (fun _ => ?_)
  refine s_iconst K X143 at_273 (z := 1) rfl (q := 274) rfl ?_
  refine s_goto K X143 at_274 (by decide) (q := 278) rfl ?_
  refine s_istore K X143 at_278 (l' := #[.val (.int p1), .val (.int p2), .val (.int v0), .val (.int (2 : Int32)), .val (.int (0 : Int32)), .val (.ref B), .val (.ref xx), .val (.int ((2 : Int32) + (1 : Int32))), .val (.ref b128), .val (.int (1 : Int32))]) rfl (q := 280) rfl ?_
  refine s_iload K X143 at_280 rfl (q := 282) rfl ?_
  refine s_if_eq K X143 at_282 (by decide) (q := 300) rfl (q' := 285) rfl (fun h_ => absurd h_ (by decide)) (fun _ => ?_)
  refine s_aload K X143 at_285 rfl rfl (q := 287) rfl ?_
  refine s_iconst K X143 at_287 (z := 2) rfl (q := 288) rfl ?_
  refine s_iload K X143 at_288 rfl (q := 290) rfl ?_
  refine s_callS K X143 0 at_290 (hw _ (List.mem_of_getElem? (i := 53) rfl)) (hw _ (List.mem_of_getElem? (i := 54) rfl)) (hw _ (List.mem_of_getElem? (i := 27) rfl)) (hw _ (List.mem_of_getElem? (i := 55) rfl)) (by decide) pd___Lcom_example_matchwright_matchwright_engine_Memory_Link_II_Z rfl e143 (argsL := [(.ref b128), (.int (2 : Int32)), (.int ((2 : Int32) + (1 : Int32)))]) (st := []) (c_check_2_3 l Z a0 hw _ b128 _ _ l1 xx l0 V138 rfl rfl rfl (F138.1 1 (by decide))) rfl rfl (by decide) (Nat.le_of_eq rfl) (by decide) (by decide) (by decide) (q := 293) rfl (fun v144 T144 h144 L144 X144 e144 hQ144 => ?_)
  obtain ⟨rfl, rfl, rfl⟩ := hQ144
  refine s_if_eq K X144 at_293 (by decide) (q := 300) rfl (q' := 296) rfl (fun h_ => absurd h_ (by decide)) (fun _ => ?_)
  refine s_iconst K X144 at_296 (z := 1) rfl (q := 297) rfl ?_
  refine s_goto K X144 at_297 (by decide) (q := 301) rfl ?_
  refine s_istore K X144 at_301 (l' := #[.val (.int p1), .val (.int p2), .val (.int v0), .val (.int (2 : Int32)), .val (.int (0 : Int32)), .val (.ref B), .val (.ref xx), .val (.int ((2 : Int32) + (1 : Int32))), .val (.ref b128), .val (.int (1 : Int32))]) rfl (q := 303) rfl ?_
  refine s_iload K X144 at_303 rfl (q := 305) rfl ?_
  refine s_if_eq K X144 at_305 (by decide) (q := 323) rfl (q' := 308) rfl (fun h_ => absurd h_ (by decide)) (fun _ => ?_)
  refine s_aload K X144 at_308 rfl rfl (q := 310) rfl ?_
  refine s_iconst K X144 at_310 (z := 3) rfl (q := 311) rfl ?_
  refine s_iload K X144 at_311 rfl (q := 313) rfl ?_
  refine s_callS K X144 0 at_313 (hw _ (List.mem_of_getElem? (i := 53) rfl)) (hw _ (List.mem_of_getElem? (i := 54) rfl)) (hw _ (List.mem_of_getElem? (i := 27) rfl)) (hw _ (List.mem_of_getElem? (i := 55) rfl)) (by decide) pd___Lcom_example_matchwright_matchwright_engine_Memory_Link_II_Z rfl e144 (argsL := [(.ref b128), (.int (3 : Int32)), (.int ((2 : Int32) + (1 : Int32)))]) (st := []) (c_check_no l Z a0 hw _ b128 3 3 (by decide)) rfl rfl (by decide) (Nat.le_of_eq rfl) (by decide) (by decide) (by decide) (q := 316) rfl (fun v145 T145 h145 L145 X145 e145 hQ145 => ?_)
  obtain ⟨rfl, rfl, rfl⟩ := hQ145
  refine s_if_eq K X145 at_316 (by decide) (q := 323) rfl (q' := 319) rfl (fun h_ => absurd h_ (by decide)) (fun _ => ?_)
  refine s_iconst K X145 at_319 (z := 1) rfl (q := 320) rfl ?_
  refine s_goto K X145 at_320 (by decide) (q := 324) rfl ?_
  refine s_istore K X145 at_324 (l' := #[.val (.int p1), .val (.int p2), .val (.int v0), .val (.int (2 : Int32)), .val (.int (0 : Int32)), .val (.ref B), .val (.ref xx), .val (.int ((2 : Int32) + (1 : Int32))), .val (.ref b128), .val (.int (1 : Int32))]) rfl (q := 326) rfl ?_
  refine s_iload K X145 at_326 rfl (q := 328) rfl ?_
  refine s_if_eq K X145 at_328 (by decide) (q := 346) rfl (q' := 331) rfl (fun h_ => absurd h_ (by decide)) (fun _ => ?_)
  refine s_aload K X145 at_331 rfl rfl (q := 333) rfl ?_
  refine s_iconst K X145 at_333 (z := 4) rfl (q := 334) rfl ?_
  refine s_iload K X145 at_334 rfl (q := 336) rfl ?_
  refine s_callS K X145 0 at_336 (hw _ (List.mem_of_getElem? (i := 53) rfl)) (hw _ (List.mem_of_getElem? (i := 54) rfl)) (hw _ (List.mem_of_getElem? (i := 27) rfl)) (hw _ (List.mem_of_getElem? (i := 55) rfl)) (by decide) pd___Lcom_example_matchwright_matchwright_engine_Memory_Link_II_Z rfl e145 (argsL := [(.ref b128), (.int (4 : Int32)), (.int ((2 : Int32) + (1 : Int32)))]) (st := []) (c_check_no l Z a0 hw _ b128 4 3 (by decide)) rfl rfl (by decide) (Nat.le_of_eq rfl) (by decide) (by decide) (by decide) (q := 339) rfl (fun v146 T146 h146 L146 X146 e146 hQ146 => ?_)
  obtain ⟨rfl, rfl, rfl⟩ := hQ146
  refine s_if_eq K X146 at_339 (by decide) (q := 346) rfl (q' := 342) rfl (fun h_ => absurd h_ (by decide)) (fun _ => ?_)
  refine s_iconst K X146 at_342 (z := 1) rfl (q := 343) rfl ?_
  refine s_goto K X146 at_343 (by decide) (q := 347) rfl ?_
  refine s_istore K X146 at_347 (l' := #[.val (.int p1), .val (.int p2), .val (.int v0), .val (.int (2 : Int32)), .val (.int (0 : Int32)), .val (.ref B), .val (.ref xx), .val (.int ((2 : Int32) + (1 : Int32))), .val (.ref b128), .val (.int (1 : Int32))]) rfl (q := 349) rfl ?_
  refine s_iload K X146 at_349 rfl (q := 351) rfl ?_
  refine s_if_eq K X146 at_351 (by decide) (q := 368) rfl (q' := 354) rfl (fun h_ => absurd h_ (by decide)) (fun _ => ?_)
  refine s_aload K X146 at_354 rfl rfl (q := 356) rfl ?_
  refine s_iconst K X146 at_356 (z := 1) rfl (q := 357) rfl ?_
  refine s_iloadN K X146 at_357 rfl (q := 358) rfl ?_
  refine s_callS K X146 0 at_358 (hw _ (List.mem_of_getElem? (i := 56) rfl)) (hw _ (List.mem_of_getElem? (i := 57) rfl)) (hw _ (List.mem_of_getElem? (i := 27) rfl)) (hw _ (List.mem_of_getElem? (i := 58) rfl)) (by decide) pd___Lcom_example_matchwright_matchwright_engine_Memory_Link_II_Z rfl e146 (argsL := [(.ref B), (.int (1 : Int32)), (.int (2 : Int32))]) (st := []) (c_alone_in l Z a0 hw _ B 1 2 (by decide)) rfl rfl (by decide) (Nat.le_of_eq rfl) (by decide) (by decide) (by decide) (q := 361) rfl (fun v147 T147 h147 L147 X147 e147 hQ147 => ?_)
  obtain ⟨rfl, rfl, rfl⟩ := hQ147
  refine s_if_eq K X147 at_361 (by decide) (q := 368) rfl (q' := 364) rfl (fun h_ => absurd h_ (by decide)) (fun _ => ?_)
  refine s_iconst K X147 at_364 (z := 1) rfl (q := 365) rfl ?_
  refine s_goto K X147 at_365 (by decide) (q := 369) rfl ?_
  refine s_istore K X147 at_369 (l' := #[.val (.int p1), .val (.int p2), .val (.int v0), .val (.int (2 : Int32)), .val (.int (0 : Int32)), .val (.ref B), .val (.ref xx), .val (.int ((2 : Int32) + (1 : Int32))), .val (.ref b128), .val (.int (1 : Int32))]) rfl (q := 371) rfl ?_
  refine s_iload K X147 at_371 rfl (q := 373) rfl ?_
  refine s_if_eq K X147 at_373 (by decide) (q := 390) rfl (q' := 376) rfl (fun h_ => absurd h_ (by decide)) (fun _ => ?_)
  refine s_aload K X147 at_376 rfl rfl (q := 378) rfl ?_
  refine s_iconst K X147 at_378 (z := 2) rfl (q := 379) rfl ?_
  refine s_iloadN K X147 at_379 rfl (q := 380) rfl ?_
  refine s_callS K X147 0 at_380 (hw _ (List.mem_of_getElem? (i := 56) rfl)) (hw _ (List.mem_of_getElem? (i := 57) rfl)) (hw _ (List.mem_of_getElem? (i := 27) rfl)) (hw _ (List.mem_of_getElem? (i := 58) rfl)) (by decide) pd___Lcom_example_matchwright_matchwright_engine_Memory_Link_II_Z rfl e147 (argsL := [(.ref B), (.int (2 : Int32)), (.int (2 : Int32))]) (st := []) (c_alone_2 l Z a0 hw _ B kB _ l2 2 F138.2.1 rfl (F138.1 2 (by decide)) (by decide)) rfl rfl (by decide) (Nat.le_of_eq rfl) (by decide) (by decide) (by decide) (q := 383) rfl (fun v148 T148 h148 L148 X148 e148 hQ148 => ?_)
  obtain ⟨rfl, rfl, rfl⟩ := hQ148
  refine s_if_eq K X148 at_383 (by decide) (q := 390) rfl (q' := 386) rfl (fun h_ => absurd h_ (by decide)) (fun _ => ?_)
  refine s_iconst K X148 at_386 (z := 1) rfl (q := 387) rfl ?_
  refine s_goto K X148 at_387 (by decide) (q := 391) rfl ?_
  refine s_istore K X148 at_391 (l' := #[.val (.int p1), .val (.int p2), .val (.int v0), .val (.int (2 : Int32)), .val (.int (0 : Int32)), .val (.ref B), .val (.ref xx), .val (.int ((2 : Int32) + (1 : Int32))), .val (.ref b128), .val (.int (1 : Int32))]) rfl (q := 393) rfl ?_
  refine s_iload K X148 at_393 rfl (q := 395) rfl ?_
  refine s_if_eq K X148 at_395 (by decide) (q := 412) rfl (q' := 398) rfl (fun h_ => absurd h_ (by decide)) (fun _ => ?_)
  refine s_aload K X148 at_398 rfl rfl (q := 400) rfl ?_
  refine s_iconst K X148 at_400 (z := 3) rfl (q := 401) rfl ?_
  refine s_iloadN K X148 at_401 rfl (q := 402) rfl ?_
  refine s_callS K X148 0 at_402 (hw _ (List.mem_of_getElem? (i := 56) rfl)) (hw _ (List.mem_of_getElem? (i := 57) rfl)) (hw _ (List.mem_of_getElem? (i := 27) rfl)) (hw _ (List.mem_of_getElem? (i := 58) rfl)) (by decide) pd___Lcom_example_matchwright_matchwright_engine_Memory_Link_II_Z rfl e148 (argsL := [(.ref B), (.int (3 : Int32)), (.int (2 : Int32))]) (st := []) (c_alone_3 l Z a0 hw _ B kB _ l3 2 F138.2.1 rfl (F138.1 3 (by decide)) (by decide)) rfl rfl (by decide) (Nat.le_of_eq rfl) (by decide) (by decide) (by decide) (q := 405) rfl (fun v149 T149 h149 L149 X149 e149 hQ149 => ?_)
  obtain ⟨rfl, rfl, rfl⟩ := hQ149
  refine s_if_eq K X149 at_405 (by decide) (q := 412) rfl (q' := 408) rfl (fun h_ => absurd h_ (by decide)) (fun _ => ?_)
  refine s_iconst K X149 at_408 (z := 1) rfl (q := 409) rfl ?_
  refine s_goto K X149 at_409 (by decide) (q := 413) rfl ?_
  refine s_istore K X149 at_413 (l' := #[.val (.int p1), .val (.int p2), .val (.int v0), .val (.int (2 : Int32)), .val (.int (0 : Int32)), .val (.ref B), .val (.ref xx), .val (.int ((2 : Int32) + (1 : Int32))), .val (.ref b128), .val (.int (1 : Int32))]) rfl (q := 415) rfl ?_
  refine s_iload K X149 at_415 rfl (q := 417) rfl ?_
  exact s_retZ K X149 at_417 rfl (by decide) e149 (by decide) (by decide) ⟨rfl, (Fr.app (Fr.app (Fr.app (Fr.app (Fr.app (Fr.app (Fr.app (Fr.app (Fr.app (Fr.app (Fr.app (Fr.app (Fr.app (Fr.app (Fr.app (Fr.app (Fr.app (Fr.app (Fr.app (Fr.app (Fr.app (Fr.app (Fr.app (Fr.app (Fr.app NN M123) M124) (Fr.nil _)) (Fr.nil _)) M127) (Fr.nil _)) (fr_one gE)) (Fr.nil _)) (fr_one gE)) (Fr.nil _)) (fr_one gE)) (Fr.nil _)) (fr_one gE)) (Fr.nil _)) (fr_one gE)) (Fr.nil _)) (Fr.nil _)) (Fr.nil _)) (Fr.nil _)) (Fr.nil _)) (Fr.nil _)) (Fr.nil _)) (Fr.nil _)) (Fr.nil _)) (Fr.nil _))⟩
set_option maxRecDepth 65536 in
set_option maxHeartbeats 40000000 in
theorem c_tail_2_1 (l : Launch) (Z : State) (a0 : Array Value) (hw : ∀ d ∈ tables_1, d.before a0 Z = true) (S : Slots Z) {p : Program} {e : Env} {s : State} {m : MethodId} {args : Array Value} {below : List Frame} {meth : Method} {cod : Code} {T : State} {locs : List Loc} {h : Heap} (K : Cx Z p s m meth cod x.cls code maxLocals ret x.name) (X : Stand p l e room_1 s m args below meth cod T locs 11 24) (B : Addr) (kB : ClassId) (l0 l1 l2 l3 xx I : Addr) (v0 p1 p2 : Int32) (eT : T.heap = h) (P : Sep Z B [l0, l1, l2, l3, xx]) (F : Inv Z h B kB [l0, l1, l2, l3, xx] [0, 1, 2, 3, 4] [0, 1, 2, 3, 4] I v0) (NN : Fr Z.heap.size locs) :
    Goes p e below (Fini s room_1 (fun v h L => v = some (.int 1) ∧ Fr Z.heap.size L)) T (mkF m 93 #[.val (.int p1), .val (.int p2), .val (.int v0), .val (.int (2 : Int32)), .val (.int (1 : Int32)), .val (.ref B), .val (.ref xx), .unset, .unset, .unset] []) := by
  refine s_aload K X at_93 rfl rfl (q := 95) rfl ?_
  refine s_iconst K X at_95 (z := 0) rfl (q := 96) rfl ?_
  refine s_iloadN K X at_96 rfl (q := 97) rfl ?_
  refine s_callS K X 0 at_97 (hw _ (List.mem_of_getElem? (i := 25) rfl)) (hw _ (List.mem_of_getElem? (i := 26) rfl)) (hw _ (List.mem_of_getElem? (i := 27) rfl)) (hw _ (List.mem_of_getElem? (i := 28) rfl)) (by decide) pd___Lcom_example_matchwright_matchwright_engine_Memory_Link_II_V rfl eT (argsL := [(.ref B), (.int (0 : Int32)), (.int (2 : Int32))]) (st := []) (c_ring_0_2 l Z a0 hw S _ B kB [l0, l1, l2, l3, xx] [0, 1, 2, 3, 4] [0, 1, 2, 3, 4] I v0 P F rfl rfl) rfl rfl (by decide) (Nat.le_of_eq rfl) (by decide) (by decide) (by decide) (q := 100) rfl (fun v150 T150 h150 L150 X150 e150 hQ150 => ?_)
  obtain ⟨rfl, F150, M150⟩ := hQ150
  refine s_aload K X150 at_100 rfl rfl (q := 102) rfl ?_
  refine s_iconst K X150 at_102 (z := 1) rfl (q := 103) rfl ?_
  refine s_iloadN K X150 at_103 rfl (q := 104) rfl ?_
  refine s_callS K X150 0 at_104 (hw _ (List.mem_of_getElem? (i := 25) rfl)) (hw _ (List.mem_of_getElem? (i := 26) rfl)) (hw _ (List.mem_of_getElem? (i := 27) rfl)) (hw _ (List.mem_of_getElem? (i := 28) rfl)) (by decide) pd___Lcom_example_matchwright_matchwright_engine_Memory_Link_II_V rfl e150 (argsL := [(.ref B), (.int (1 : Int32)), (.int (2 : Int32))]) (st := []) (c_ring_1_2 l Z a0 hw S _ B kB [l0, l1, l2, l3, xx] [1, 1, 2, 3, 4] [1, 1, 2, 3, 4] I v0 P F150 rfl rfl) rfl rfl (by decide) (Nat.le_of_eq rfl) (by decide) (by decide) (by decide) (q := 107) rfl (fun v151 T151 h151 L151 X151 e151 hQ151 => ?_)
  obtain ⟨rfl, F151, M151⟩ := hQ151
  refine s_aload K X151 at_107 rfl rfl (q := 109) rfl ?_
  refine s_iconst K X151 at_109 (z := 2) rfl (q := 110) rfl ?_
  refine s_iloadN K X151 at_110 rfl (q := 111) rfl ?_
  refine s_callS K X151 0 at_111 (hw _ (List.mem_of_getElem? (i := 25) rfl)) (hw _ (List.mem_of_getElem? (i := 26) rfl)) (hw _ (List.mem_of_getElem? (i := 27) rfl)) (hw _ (List.mem_of_getElem? (i := 28) rfl)) (by decide) pd___Lcom_example_matchwright_matchwright_engine_Memory_Link_II_V rfl e151 (argsL := [(.ref B), (.int (2 : Int32)), (.int (2 : Int32))]) (st := []) (c_ring_no l Z a0 hw _ B 2 2 (by decide)) rfl rfl (by decide) (Nat.le_of_eq rfl) (by decide) (by decide) (by decide) (q := 114) rfl (fun v152 T152 h152 L152 X152 e152 hQ152 => ?_)
  obtain ⟨rfl, rfl, rfl⟩ := hQ152
  refine s_aload K X152 at_114 rfl rfl (q := 116) rfl ?_
  refine s_iconst K X152 at_116 (z := 3) rfl (q := 117) rfl ?_
  refine s_iloadN K X152 at_117 rfl (q := 118) rfl ?_
  refine s_callS K X152 0 at_118 (hw _ (List.mem_of_getElem? (i := 25) rfl)) (hw _ (List.mem_of_getElem? (i := 26) rfl)) (hw _ (List.mem_of_getElem? (i := 27) rfl)) (hw _ (List.mem_of_getElem? (i := 28) rfl)) (by decide) pd___Lcom_example_matchwright_matchwright_engine_Memory_Link_II_V rfl e152 (argsL := [(.ref B), (.int (3 : Int32)), (.int (2 : Int32))]) (st := []) (c_ring_no l Z a0 hw _ B 3 2 (by decide)) rfl rfl (by decide) (Nat.le_of_eq rfl) (by decide) (by decide) (by decide) (q := 121) rfl (fun v153 T153 h153 L153 X153 e153 hQ153 => ?_)
  obtain ⟨rfl, rfl, rfl⟩ := hQ153
  refine s_aload K X153 at_121 rfl rfl (q := 123) rfl ?_
  refine s_aload K X153 at_123 rfl rfl (q := 125) rfl ?_
  refine s_iload K X153 at_125 rfl (q := 127) rfl ?_
  refine s_ldV K X153 at_127 e153 F151.2.1 rfl (by decide) rfl (q := 128) rfl ?_
  refine s_callV K X153 0 (y := (⟨"com/example/matchwright/matchwright/engine/Memory$Link", "linkBefore", "(Lcom/example/matchwright/matchwright/engine/Memory$Link;)V"⟩ : MethodName)) (z := (⟨"com/example/matchwright/matchwright/engine/Memory$Link", "linkBefore", "(Lcom/example/matchwright/matchwright/engine/Memory$Link;)V"⟩ : MethodName)) at_128 (hw _ (List.mem_of_getElem? (i := 31) rfl)) (hw _ (List.mem_of_getElem? (i := 32) rfl)) (notFace_of_selects (args := #[]) (mvT K.hZ (hw _ (List.mem_of_getElem? (i := 34) rfl)))) (hw _ (List.mem_of_getElem? (i := 34) rfl)) (hw _ (List.mem_of_getElem? (i := 33) rfl)) (hw _ (List.mem_of_getElem? (i := 4) rfl)) (hw _ (List.mem_of_getElem? (i := 35) rfl)) (by decide) pd__Lcom_example_matchwright_matchwright_engine_Memory_Link__V rfl e153 (F151.1 4 (by decide)).1 (argsL := [(.ref l1)]) (st := []) (c_before l Z a0 hw S _ B kB [l0, l1, l2, l3, xx] [1, 0, 2, 3, 4] [1, 0, 2, 3, 4] I v0 P F151 rfl rfl 1 0 (by decide) (by decide) rfl rfl) rfl rfl (by decide) (Nat.le_of_eq rfl) (by decide) (by decide) (by decide) (q := 131) rfl (fun v154 T154 h154 L154 X154 e154 hQ154 => ?_)
  obtain ⟨rfl, F154, M154⟩ := hQ154
  refine s_iloadN K X154 at_131 rfl (q := 132) rfl ?_
  refine s_iconst K X154 at_132 (z := 1) rfl (q := 133) rfl ?_
  refine s_iadd K X154 at_133 (q := 134) rfl ?_
  refine s_istore K X154 at_134 (l' := #[.val (.int p1), .val (.int p2), .val (.int v0), .val (.int (2 : Int32)), .val (.int (1 : Int32)), .val (.ref B), .val (.ref xx), .val (.int ((2 : Int32) + (1 : Int32))), .unset, .unset]) rfl (q := 136) rfl ?_
  refine s_iconst K X154 at_136 (z := 5) rfl (q := 137) rfl ?_
  refine s_newV K X154 at_137 (hw _ (List.mem_of_getElem? (i := 1) rfl)) (hw _ (List.mem_of_getElem? (i := 2) rfl)) e154 (by decide) 5 (by decide) (by decide) (by decide) (by decide) (vs := [.null, .null, .null, .null, .null]) rfl (q := 140) rfl (fun T155 h155 b155 k155 g155 X155 e155 E155 V155 O155 => ?_)
  have gE : Z.heap.size ≤ b155 := by rw [g155]; exact old_le F154.2.2.2.2
  have nE : ∀ i, i < 5 → ([l0, l1, l2, l3, xx] : List Addr).getD i 0 ≠ b155 := fun i hi => Nat.ne_of_lt (by rw [g155]; exact (F154.1 i hi).1.lt)
  have nB : B ≠ b155 := Nat.ne_of_lt (by rw [g155]; exact F154.2.1.lt)
  have nI : I ≠ b155 := Nat.ne_of_lt (by rw [g155]; exact F154.2.2.2.1.1.lt)
  have F155 := F154.ext E155
  change Inv Z _ B kB [l0, l1, l2, l3, xx] [4, 0, 2, 3, 1] [1, 4, 2, 3, 0] I v0 at F155
  refine s_astore K X155 at_140 rfl (l' := #[.val (.int p1), .val (.int p2), .val (.int v0), .val (.int (2 : Int32)), .val (.int (1 : Int32)), .val (.ref B), .val (.ref xx), .val (.int ((2 : Int32) + (1 : Int32))), .val (.ref b155), .unset]) rfl (q := 142) rfl ?_
  refine s_aload K X155 at_142 rfl rfl (q := 144) rfl ?_
  refine s_iconst K X155 at_144 (z := 0) rfl (q := 145) rfl ?_
  refine s_aload K X155 at_145 rfl rfl (q := 147) rfl ?_
  refine s_aload K X155 at_147 rfl rfl (q := 149) rfl ?_
  refine s_iload K X155 at_149 rfl (q := 151) rfl ?_
  refine s_iconst K X155 at_151 (z := 0) rfl (q := 152) rfl ?_
  refine s_callS K X155 2 at_152 (hw _ (List.mem_of_getElem? (i := 36) rfl)) (hw _ (List.mem_of_getElem? (i := 37) rfl)) (hw _ (List.mem_of_getElem? (i := 27) rfl)) (hw _ (List.mem_of_getElem? (i := 38) rfl)) (by decide) pd___Lcom_example_matchwright_matchwright_engine_Memory_Link_Lcom_example_matchwright_matchwright_engine_Memory_Link_II_Lcom_example_matchwright_matchwright_engine_Memory_Link_ rfl e155 (argsL := [(.ref B), (.ref xx), (.int (1 : Int32)), (.int (0 : Int32))]) (st := [(.int (0 : Int32)), (.ref b155)]) (c_at_1_0 l Z a0 hw _ B kB [l0, l1, l2, l3, xx] [4, 0, 2, 3, 1] [1, 4, 2, 3, 0] I v0 F155) rfl rfl (by decide) (Nat.le_of_eq rfl) (by decide) (by decide) (by decide) (q := 155) rfl (fun v156 T156 h156 L156 X156 e156 hQ156 => ?_)
  obtain ⟨rfl, rfl, rfl⟩ := hQ156
  refine s_stV K X156 at_155 e156 V155 O155 (by decide) rfl (fun y hy => by cases hy; exact Ins.self (F155.1 0 (by decide)).1) 0 rfl (Nat.le_of_ble_eq_true rfl) (vs' := [(.ref l0), .null, .null, .null, .null]) rfl (q := 156) rfl (fun T157 h157 X157 e157 W157 V157 => ?_)
  have F157 := F155.other W157 nE nB nI gE
  refine s_aload K X157 at_156 rfl rfl (q := 158) rfl ?_
  refine s_iconst K X157 at_158 (z := 1) rfl (q := 159) rfl ?_
  refine s_aload K X157 at_159 rfl rfl (q := 161) rfl ?_
  refine s_aload K X157 at_161 rfl rfl (q := 163) rfl ?_
  refine s_iload K X157 at_163 rfl (q := 165) rfl ?_
  refine s_iconst K X157 at_165 (z := 1) rfl (q := 166) rfl ?_
  refine s_callS K X157 2 at_166 (hw _ (List.mem_of_getElem? (i := 36) rfl)) (hw _ (List.mem_of_getElem? (i := 37) rfl)) (hw _ (List.mem_of_getElem? (i := 27) rfl)) (hw _ (List.mem_of_getElem? (i := 38) rfl)) (by decide) pd___Lcom_example_matchwright_matchwright_engine_Memory_Link_Lcom_example_matchwright_matchwright_engine_Memory_Link_II_Lcom_example_matchwright_matchwright_engine_Memory_Link_ rfl e157 (argsL := [(.ref B), (.ref xx), (.int (1 : Int32)), (.int (1 : Int32))]) (st := [(.int (1 : Int32)), (.ref b155)]) (c_at_1_1 l Z a0 hw _ B kB [l0, l1, l2, l3, xx] [4, 0, 2, 3, 1] [1, 4, 2, 3, 0] I v0 F157) rfl rfl (by decide) (Nat.le_of_eq rfl) (by decide) (by decide) (by decide) (q := 169) rfl (fun v158 T158 h158 L158 X158 e158 hQ158 => ?_)
  obtain ⟨rfl, rfl, rfl⟩ := hQ158
  refine s_stV K X158 at_169 e158 V157 O155 (by decide) rfl (fun y hy => by cases hy; exact Ins.self (F157.1 4 (by decide)).1) 1 rfl (Nat.le_of_ble_eq_true rfl) (vs' := [(.ref l0), (.ref xx), .null, .null, .null]) rfl (q := 170) rfl (fun T159 h159 X159 e159 W159 V159 => ?_)
  have F159 := F157.other W159 nE nB nI gE
  refine s_aload K X159 at_170 rfl rfl (q := 172) rfl ?_
  refine s_iconst K X159 at_172 (z := 2) rfl (q := 173) rfl ?_
  refine s_aload K X159 at_173 rfl rfl (q := 175) rfl ?_
  refine s_aload K X159 at_175 rfl rfl (q := 177) rfl ?_
  refine s_iload K X159 at_177 rfl (q := 179) rfl ?_
  refine s_iconst K X159 at_179 (z := 2) rfl (q := 180) rfl ?_
  refine s_callS K X159 2 at_180 (hw _ (List.mem_of_getElem? (i := 36) rfl)) (hw _ (List.mem_of_getElem? (i := 37) rfl)) (hw _ (List.mem_of_getElem? (i := 27) rfl)) (hw _ (List.mem_of_getElem? (i := 38) rfl)) (by decide) pd___Lcom_example_matchwright_matchwright_engine_Memory_Link_Lcom_example_matchwright_matchwright_engine_Memory_Link_II_Lcom_example_matchwright_matchwright_engine_Memory_Link_ rfl e159 (argsL := [(.ref B), (.ref xx), (.int (1 : Int32)), (.int (2 : Int32))]) (st := [(.int (2 : Int32)), (.ref b155)]) (c_at_1_2 l Z a0 hw _ B kB [l0, l1, l2, l3, xx] [4, 0, 2, 3, 1] [1, 4, 2, 3, 0] I v0 F159) rfl rfl (by decide) (Nat.le_of_eq rfl) (by decide) (by decide) (by decide) (q := 183) rfl (fun v160 T160 h160 L160 X160 e160 hQ160 => ?_)
  obtain ⟨rfl, rfl, rfl⟩ := hQ160
  refine s_stV K X160 at_183 e160 V159 O155 (by decide) rfl (fun y hy => by cases hy; exact Ins.self (F159.1 1 (by decide)).1) 2 rfl (Nat.le_of_ble_eq_true rfl) (vs' := [(.ref l0), (.ref xx), (.ref l1), .null, .null]) rfl (q := 184) rfl (fun T161 h161 X161 e161 W161 V161 => ?_)
  have F161 := F159.other W161 nE nB nI gE
  refine s_aload K X161 at_184 rfl rfl (q := 186) rfl ?_
  refine s_iconst K X161 at_186 (z := 3) rfl (q := 187) rfl ?_
  refine s_aload K X161 at_187 rfl rfl (q := 189) rfl ?_
  refine s_aload K X161 at_189 rfl rfl (q := 191) rfl ?_
  refine s_iload K X161 at_191 rfl (q := 193) rfl ?_
  refine s_iconst K X161 at_193 (z := 3) rfl (q := 194) rfl ?_
  refine s_callS K X161 2 at_194 (hw _ (List.mem_of_getElem? (i := 36) rfl)) (hw _ (List.mem_of_getElem? (i := 37) rfl)) (hw _ (List.mem_of_getElem? (i := 27) rfl)) (hw _ (List.mem_of_getElem? (i := 38) rfl)) (by decide) pd___Lcom_example_matchwright_matchwright_engine_Memory_Link_Lcom_example_matchwright_matchwright_engine_Memory_Link_II_Lcom_example_matchwright_matchwright_engine_Memory_Link_ rfl e161 (argsL := [(.ref B), (.ref xx), (.int (1 : Int32)), (.int (3 : Int32))]) (st := [(.int (3 : Int32)), (.ref b155)]) (c_at_1_3 l Z a0 hw _ B kB [l0, l1, l2, l3, xx] [4, 0, 2, 3, 1] [1, 4, 2, 3, 0] I v0 F161) rfl rfl (by decide) (Nat.le_of_eq rfl) (by decide) (by decide) (by decide) (q := 197) rfl (fun v162 T162 h162 L162 X162 e162 hQ162 => ?_)
  obtain ⟨rfl, rfl, rfl⟩ := hQ162
  refine s_stV K X162 at_197 e162 V161 O155 (by decide) rfl (fun y hy => by cases hy; exact Ins.self (F161.1 2 (by decide)).1) 3 rfl (Nat.le_of_ble_eq_true rfl) (vs' := [(.ref l0), (.ref xx), (.ref l1), (.ref l2), .null]) rfl (q := 198) rfl (fun T163 h163 X163 e163 W163 V163 => ?_)
  have F163 := F161.other W163 nE nB nI gE
  refine s_aload K X163 at_198 rfl rfl (q := 200) rfl ?_
  refine s_iconst K X163 at_200 (z := 4) rfl (q := 201) rfl ?_
  refine s_aload K X163 at_201 rfl rfl (q := 203) rfl ?_
  refine s_aload K X163 at_203 rfl rfl (q := 205) rfl ?_
  refine s_iload K X163 at_205 rfl (q := 207) rfl ?_
  refine s_iconst K X163 at_207 (z := 4) rfl (q := 208) rfl ?_
  refine s_callS K X163 2 at_208 (hw _ (List.mem_of_getElem? (i := 36) rfl)) (hw _ (List.mem_of_getElem? (i := 37) rfl)) (hw _ (List.mem_of_getElem? (i := 27) rfl)) (hw _ (List.mem_of_getElem? (i := 38) rfl)) (by decide) pd___Lcom_example_matchwright_matchwright_engine_Memory_Link_Lcom_example_matchwright_matchwright_engine_Memory_Link_II_Lcom_example_matchwright_matchwright_engine_Memory_Link_ rfl e163 (argsL := [(.ref B), (.ref xx), (.int (1 : Int32)), (.int (4 : Int32))]) (st := [(.int (4 : Int32)), (.ref b155)]) (c_at_1_4 l Z a0 hw _ B kB [l0, l1, l2, l3, xx] [4, 0, 2, 3, 1] [1, 4, 2, 3, 0] I v0 F163) rfl rfl (by decide) (Nat.le_of_eq rfl) (by decide) (by decide) (by decide) (q := 211) rfl (fun v164 T164 h164 L164 X164 e164 hQ164 => ?_)
  obtain ⟨rfl, rfl, rfl⟩ := hQ164
  refine s_stV K X164 at_211 e164 V163 O155 (by decide) rfl (fun y hy => by cases hy; exact Ins.self (F163.1 3 (by decide)).1) 4 rfl (Nat.le_of_ble_eq_true rfl) (vs' := [(.ref l0), (.ref xx), (.ref l1), (.ref l2), (.ref l3)]) rfl (q := 212) rfl (fun T165 h165 X165 e165 W165 V165 => ?_)
  have F165 := F163.other W165 nE nB nI gE
  refine s_aload K X165 at_212 rfl rfl (q := 214) rfl ?_
  refine s_callV K X165 0 (y := (⟨"com/example/matchwright/matchwright/engine/Memory$Link", "item", "()Ljava/lang/Object;"⟩ : MethodName)) (z := (⟨"com/example/matchwright/matchwright/engine/Memory$Link", "item", "()Ljava/lang/Object;"⟩ : MethodName)) at_214 (hw _ (List.mem_of_getElem? (i := 39) rfl)) (hw _ (List.mem_of_getElem? (i := 40) rfl)) (notFace_of_selects (args := #[]) (mvT K.hZ (hw _ (List.mem_of_getElem? (i := 42) rfl)))) (hw _ (List.mem_of_getElem? (i := 42) rfl)) (hw _ (List.mem_of_getElem? (i := 41) rfl)) (hw _ (List.mem_of_getElem? (i := 4) rfl)) (hw _ (List.mem_of_getElem? (i := 43) rfl)) (by decide) pd___Ljava_lang_Object_ rfl e165 (F165.1 4 (by decide)).1 (argsL := []) (st := []) (c_item l Z a0 hw _ xx I F165.2.2.1) rfl rfl (by decide) (Nat.le_of_eq rfl) (by decide) (by decide) (by decide) (q := 217) rfl (fun v166 T166 h166 L166 X166 e166 hQ166 => ?_)
  obtain ⟨rfl, rfl, rfl⟩ := hQ166
  refine s_castY K X166 at_217 (hw _ (List.mem_of_getElem? (i := 44) rfl)) e166 (Ins.self F165.2.2.2.1.1) (q := 220) rfl (fun T167 X167 e167 => ?_)
  refine s_callV K X167 0 (y := (⟨"java/lang/Integer", "intValue", "()I"⟩ : MethodName)) (z := (⟨"java/lang/Integer", "intValue", "()I"⟩ : MethodName)) at_220 (hw _ (List.mem_of_getElem? (i := 46) rfl)) (hw _ (List.mem_of_getElem? (i := 47) rfl)) (notFace_of_selects (args := #[]) (mvT K.hZ (hw _ (List.mem_of_getElem? (i := 49) rfl)))) (hw _ (List.mem_of_getElem? (i := 49) rfl)) (hw _ (List.mem_of_getElem? (i := 48) rfl)) (hw _ (List.mem_of_getElem? (i := 7) rfl)) (hw _ (List.mem_of_getElem? (i := 50) rfl)) (by decide) pd___I rfl e167 F165.2.2.2.1.1 (argsL := []) (st := []) (c_intValue l Z a0 hw _ I v0 F165.2.2.2.1) rfl rfl (by decide) (Nat.le_of_eq rfl) (by decide) (by decide) (by decide) (q := 223) rfl (fun v168 T168 h168 L168 X168 e168 hQ168 => ?_)
  obtain ⟨rfl, rfl, rfl⟩ := hQ168
  refine s_iloadN K X168 at_223 rfl (q := 224) rfl ?_
  refine s_icmp_ne K X168 at_224 (by decide) (q := 231) rfl (q' := 227) rfl (fun h_ => absurd rfl h_) (fun _ => ?_)
  refine s_iconst K X168 at_227 (z := 1) rfl (q := 228) rfl ?_
  refine s_goto K X168 at_228 (by decide) (q := 232) rfl ?_
  refine s_istore K X168 at_232 (l' := #[.val (.int p1), .val (.int p2), .val (.int v0), .val (.int (2 : Int32)), .val (.int (1 : Int32)), .val (.ref B), .val (.ref xx), .val (.int ((2 : Int32) + (1 : Int32))), .val (.ref b155), .val (.int (1 : Int32))]) rfl (q := 234) rfl ?_
  refine s_iload K X168 at_234 rfl (q := 236) rfl ?_
  refine s_if_eq K X168 at_236 (by decide) (q := 254) rfl (q' := 239) rfl (fun h_ => absurd h_ (by decide)) (fun _ => ?_)
  refine s_aload K X168 at_239 rfl rfl (q := 241) rfl ?_
  refine s_iconst K X168 at_241 (z := 0) rfl (q := 242) rfl ?_
  refine s_iload K X168 at_242 rfl (q := 244) rfl ?_
  refine s_callS K X168 0 at_244 (hw _ (List.mem_of_getElem? (i := 53) rfl)) (hw _ (List.mem_of_getElem? (i := 54) rfl)) (hw _ (List.mem_of_getElem? (i := 27) rfl)) (hw _ (List.mem_of_getElem? (i := 55) rfl)) (by decide) pd___Lcom_example_matchwright_matchwright_engine_Memory_Link_II_Z rfl e168 (argsL := [(.ref b155), (.int (0 : Int32)), (.int ((2 : Int32) + (1 : Int32)))]) (st := []) (c_check_0_3 l Z a0 hw _ b155 _ _ l0 xx l1 V165 rfl rfl rfl (F165.1 0 (by decide))) rfl rfl (by decide) (Nat.le_of_eq rfl) (by decide) (by decide) (by decide) (q := 247) rfl (fun v169 T169 h169 L169 X169 e169 hQ169 => ?_)
  obtain ⟨rfl, rfl, rfl⟩ := hQ169
  refine s_if_eq K X169 at_247 (by decide) (q := 254) rfl (q' := 250) rfl (fun h_ => absurd h_ (by decide)) (fun _ => ?_)
  refine s_iconst K X169 at_250 (z := 1) rfl (q := 251) rfl ?_
  refine s_goto K X169 at_251 (by decide) (q := 255) rfl ?_
  refine s_istore K X169 at_255 (l' := #[.val (.int p1), .val (.int p2), .val (.int v0), .val (.int (2 : Int32)), .val (.int (1 : Int32)), .val (.ref B), .val (.ref xx), .val (.int ((2 : Int32) + (1 : Int32))), .val (.ref b155), .val (.int (1 : Int32))]) rfl (q := 257) rfl ?_
  refine s_iload K X169 at_257 rfl (q := 259) rfl ?_
  refine s_if_eq K X169 at_259 (by decide) (q := 277) rfl (q' := 262) rfl (fun h_ => absurd h_ (by decide)) (fun _ => ?_)
  refine s_aload K X169 at_262 rfl rfl (q := 264) rfl ?_
  refine s_iconst K X169 at_264 (z := 1) rfl (q := 265) rfl ?_
  refine s_iload K X169 at_265 rfl (q := 267) rfl ?_
  refine s_callS K X169 0 at_267 (hw _ (List.mem_of_getElem? (i := 53) rfl)) (hw _ (List.mem_of_getElem? (i := 54) rfl)) (hw _ (List.mem_of_getElem? (i := 27) rfl)) (hw _ (List.mem_of_getElem? (i := 55) rfl)) (by decide) pd___Lcom_example_matchwright_matchwright_engine_Memory_Link_II_Z rfl e169 (argsL := [(.ref b155), (.int (1 : Int32)), (.int ((2 : Int32) + (1 : Int32)))]) (st := []) (c_check_1_3 l Z a0 hw _ b155 _ _ xx l1 l0 V165 rfl rfl rfl (F165.1 4 (by decide))) rfl rfl (by decide) (Nat.le_of_eq rfl) (by decide) (by decide) (by decide) (q := 270) rfl (fun v170 T170 h170 L170 X170 e170 hQ170 => ?_)
  obtain ⟨rfl, rfl, rfl⟩ := hQ170
  refine s_if_eq K X170 at_270 (by decide) (q := 277) rfl (q' := 273) rfl (fun h_ => absurd h_ (by decide)) (fun _ => ?_)
  refine s_iconst K X170 at_273 (z := 1) rfl (q := 274) rfl ?_
  refine s_goto K X170 at_274 (by decide) (q := 278) rfl ?_
  refine s_istore K X170 at_278 (l' := #[.val (.int p1), .val (.int p2), .val (.int v0), .val (.int (2 : Int32)), .val (.int (1 : Int32)), .val (.ref B), .val (.ref xx), .val (.int ((2 : Int32) + (1 : Int32))), .val (.ref b155), .val (.int (1 : Int32))]) rfl (q := 280) rfl ?_
  refine s_iload K X170 at_280 rfl (q := 282) rfl ?_
  refine s_if_eq K X170 at_282 (by decide) (q := 300) rfl (q' := 285) rfl (fun h_ => absurd h_ (by decide)) (fun _ => ?_)
  refine s_aload K X170 at_285 rfl rfl (q := 287) rfl ?_
  refine s_iconst K X170 at_287 (z := 2) rfl (q := 288) rfl ?_
  refine s_iload K X170 at_288 rfl (q := 290) rfl ?_
  refine s_callS K X170 0 at_290 (hw _ (List.mem_of_getElem? (i := 53) rfl)) (hw _ (List.mem_of_getElem? (i := 54) rfl)) (hw _ (List.mem_of_getElem? (i := 27) rfl)) (hw _ (List.mem_of_getElem? (i := 55) rfl)) (by decide) pd___Lcom_example_matchwright_matchwright_engine_Memory_Link_II_Z rfl e170 (argsL := [(.ref b155), (.int (2 : Int32)), (.int ((2 : Int32) + (1 : Int32)))]) (st := []) (c_check_2_3 l Z a0 hw _ b155 _ _ l1 l0 xx V165 rfl rfl rfl (F165.1 1 (by decide))) rfl rfl (by decide) (Nat.le_of_eq rfl) (by decide) (by decide) (by decide) (q := 293) rfl (fun v171 T171 h171 L171 X171 e171 hQ171 => ?_)
  obtain ⟨rfl, rfl, rfl⟩ := hQ171
  refine s_if_eq K X171 at_293 (by decide) (q := 300) rfl (q' := 296) rfl (fun h_ => absurd h_ (by decide)) (fun _ => ?_)
  refine s_iconst K X171 at_296 (z := 1) rfl (q := 297) rfl ?_
  refine s_goto K X171 at_297 (by decide) (q := 301) rfl ?_
  refine s_istore K X171 at_301 (l' := #[.val (.int p1), .val (.int p2), .val (.int v0), .val (.int (2 : Int32)), .val (.int (1 : Int32)), .val (.ref B), .val (.ref xx), .val (.int ((2 : Int32) + (1 : Int32))), .val (.ref b155), .val (.int (1 : Int32))]) rfl (q := 303) rfl ?_
  refine s_iload K X171 at_303 rfl (q := 305) rfl ?_
  refine s_if_eq K X171 at_305 (by decide) (q := 323) rfl (q' := 308) rfl (fun h_ => absurd h_ (by decide)) (fun _ => ?_)
  refine s_aload K X171 at_308 rfl rfl (q := 310) rfl ?_
  refine s_iconst K X171 at_310 (z := 3) rfl (q := 311) rfl ?_
  refine s_iload K X171 at_311 rfl (q := 313) rfl ?_
  refine s_callS K X171 0 at_313 (hw _ (List.mem_of_getElem? (i := 53) rfl)) (hw _ (List.mem_of_getElem? (i := 54) rfl)) (hw _ (List.mem_of_getElem? (i := 27) rfl)) (hw _ (List.mem_of_getElem? (i := 55) rfl)) (by decide) pd___Lcom_example_matchwright_matchwright_engine_Memory_Link_II_Z rfl e171 (argsL := [(.ref b155), (.int (3 : Int32)), (.int ((2 : Int32) + (1 : Int32)))]) (st := []) (c_check_no l Z a0 hw _ b155 3 3 (by decide)) rfl rfl (by decide) (Nat.le_of_eq rfl) (by decide) (by decide) (by decide) (q := 316) rfl (fun v172 T172 h172 L172 X172 e172 hQ172 => ?_)
  obtain ⟨rfl, rfl, rfl⟩ := hQ172
  refine s_if_eq K X172 at_316 (by decide) (q := 323) rfl (q' := 319) rfl (fun h_ => absurd h_ (by decide)) (fun _ => ?_)
  refine s_iconst K X172 at_319 (z := 1) rfl (q := 320) rfl ?_
  refine s_goto K X172 at_320 (by decide) (q := 324) rfl ?_
  refine s_istore K X172 at_324 (l' := #[.val (.int p1), .val (.int p2), .val (.int v0), .val (.int (2 : Int32)), .val (.int (1 : Int32)), .val (.ref B), .val (.ref xx), .val (.int ((2 : Int32) + (1 : Int32))), .val (.ref b155), .val (.int (1 : Int32))]) rfl (q := 326) rfl ?_
  refine s_iload K X172 at_326 rfl (q := 328) rfl ?_
  refine s_if_eq K X172 at_328 (by decide) (q := 346) rfl (q' := 331) rfl (fun h_ => absurd h_ (by decide)) (fun _ => ?_)
  refine s_aload K X172 at_331 rfl rfl (q := 333) rfl ?_
  refine s_iconst K X172 at_333 (z := 4) rfl (q := 334) rfl ?_
  refine s_iload K X172 at_334 rfl (q := 336) rfl ?_
  refine s_callS K X172 0 at_336 (hw _ (List.mem_of_getElem? (i := 53) rfl)) (hw _ (List.mem_of_getElem? (i := 54) rfl)) (hw _ (List.mem_of_getElem? (i := 27) rfl)) (hw _ (List.mem_of_getElem? (i := 55) rfl)) (by decide) pd___Lcom_example_matchwright_matchwright_engine_Memory_Link_II_Z rfl e172 (argsL := [(.ref b155), (.int (4 : Int32)), (.int ((2 : Int32) + (1 : Int32)))]) (st := []) (c_check_no l Z a0 hw _ b155 4 3 (by decide)) rfl rfl (by decide) (Nat.le_of_eq rfl) (by decide) (by decide) (by decide) (q := 339) rfl (fun v173 T173 h173 L173 X173 e173 hQ173 => ?_)
  obtain ⟨rfl, rfl, rfl⟩ := hQ173
  refine s_if_eq K X173 at_339 (by decide) (q := 346) rfl (q' := 342) rfl (fun h_ => absurd h_ (by decide)) (fun _ => ?_)
  refine s_iconst K X173 at_342 (z := 1) rfl (q := 343) rfl ?_
  refine s_goto K X173 at_343 (by decide) (q := 347) rfl ?_
  refine s_istore K X173 at_347 (l' := #[.val (.int p1), .val (.int p2), .val (.int v0), .val (.int (2 : Int32)), .val (.int (1 : Int32)), .val (.ref B), .val (.ref xx), .val (.int ((2 : Int32) + (1 : Int32))), .val (.ref b155), .val (.int (1 : Int32))]) rfl (q := 349) rfl ?_
  refine s_iload K X173 at_349 rfl (q := 351) rfl ?_
  refine s_if_eq K X173 at_351 (by decide) (q := 368) rfl (q' := 354) rfl (fun h_ => absurd h_ (by decide)) (fun _ => ?_)
  refine s_aload K X173 at_354 rfl rfl (q := 356) rfl ?_
  refine s_iconst K X173 at_356 (z := 1) rfl (q := 357) rfl ?_
  refine s_iloadN K X173 at_357 rfl (q := 358) rfl ?_
  refine s_callS K X173 0 at_358 (hw _ (List.mem_of_getElem? (i := 56) rfl)) (hw _ (List.mem_of_getElem? (i := 57) rfl)) (hw _ (List.mem_of_getElem? (i := 27) rfl)) (hw _ (List.mem_of_getElem? (i := 58) rfl)) (by decide) pd___Lcom_example_matchwright_matchwright_engine_Memory_Link_II_Z rfl e173 (argsL := [(.ref B), (.int (1 : Int32)), (.int (2 : Int32))]) (st := []) (c_alone_in l Z a0 hw _ B 1 2 (by decide)) rfl rfl (by decide) (Nat.le_of_eq rfl) (by decide) (by decide) (by decide) (q := 361) rfl (fun v174 T174 h174 L174 X174 e174 hQ174 => ?_)
  obtain ⟨rfl, rfl, rfl⟩ := hQ174
  refine s_if_eq K X174 at_361 (by decide) (q := 368) rfl (q' := 364) rfl (fun h_ => absurd h_ (by decide)) (fun _ => ?_)
  refine s_iconst K X174 at_364 (z := 1) rfl (q := 365) rfl ?_
  refine s_goto K X174 at_365 (by decide) (q := 369) rfl ?_
  refine s_istore K X174 at_369 (l' := #[.val (.int p1), .val (.int p2), .val (.int v0), .val (.int (2 : Int32)), .val (.int (1 : Int32)), .val (.ref B), .val (.ref xx), .val (.int ((2 : Int32) + (1 : Int32))), .val (.ref b155), .val (.int (1 : Int32))]) rfl (q := 371) rfl ?_
  refine s_iload K X174 at_371 rfl (q := 373) rfl ?_
  refine s_if_eq K X174 at_373 (by decide) (q := 390) rfl (q' := 376) rfl (fun h_ => absurd h_ (by decide)) (fun _ => ?_)
  refine s_aload K X174 at_376 rfl rfl (q := 378) rfl ?_
  refine s_iconst K X174 at_378 (z := 2) rfl (q := 379) rfl ?_
  refine s_iloadN K X174 at_379 rfl (q := 380) rfl ?_
  refine s_callS K X174 0 at_380 (hw _ (List.mem_of_getElem? (i := 56) rfl)) (hw _ (List.mem_of_getElem? (i := 57) rfl)) (hw _ (List.mem_of_getElem? (i := 27) rfl)) (hw _ (List.mem_of_getElem? (i := 58) rfl)) (by decide) pd___Lcom_example_matchwright_matchwright_engine_Memory_Link_II_Z rfl e174 (argsL := [(.ref B), (.int (2 : Int32)), (.int (2 : Int32))]) (st := []) (c_alone_2 l Z a0 hw _ B kB _ l2 2 F165.2.1 rfl (F165.1 2 (by decide)) (by decide)) rfl rfl (by decide) (Nat.le_of_eq rfl) (by decide) (by decide) (by decide) (q := 383) rfl (fun v175 T175 h175 L175 X175 e175 hQ175 => ?_)
  obtain ⟨rfl, rfl, rfl⟩ := hQ175
  refine s_if_eq K X175 at_383 (by decide) (q := 390) rfl (q' := 386) rfl (fun h_ => absurd h_ (by decide)) (fun _ => ?_)
  refine s_iconst K X175 at_386 (z := 1) rfl (q := 387) rfl ?_
  refine s_goto K X175 at_387 (by decide) (q := 391) rfl ?_
  refine s_istore K X175 at_391 (l' := #[.val (.int p1), .val (.int p2), .val (.int v0), .val (.int (2 : Int32)), .val (.int (1 : Int32)), .val (.ref B), .val (.ref xx), .val (.int ((2 : Int32) + (1 : Int32))), .val (.ref b155), .val (.int (1 : Int32))]) rfl (q := 393) rfl ?_
  refine s_iload K X175 at_393 rfl (q := 395) rfl ?_
  refine s_if_eq K X175 at_395 (by decide) (q := 412) rfl (q' := 398) rfl (fun h_ => absurd h_ (by decide)) (fun _ => ?_)
  refine s_aload K X175 at_398 rfl rfl (q := 400) rfl ?_
  refine s_iconst K X175 at_400 (z := 3) rfl (q := 401) rfl ?_
  refine s_iloadN K X175 at_401 rfl (q := 402) rfl ?_
  refine s_callS K X175 0 at_402 (hw _ (List.mem_of_getElem? (i := 56) rfl)) (hw _ (List.mem_of_getElem? (i := 57) rfl)) (hw _ (List.mem_of_getElem? (i := 27) rfl)) (hw _ (List.mem_of_getElem? (i := 58) rfl)) (by decide) pd___Lcom_example_matchwright_matchwright_engine_Memory_Link_II_Z rfl e175 (argsL := [(.ref B), (.int (3 : Int32)), (.int (2 : Int32))]) (st := []) (c_alone_3 l Z a0 hw _ B kB _ l3 2 F165.2.1 rfl (F165.1 3 (by decide)) (by decide)) rfl rfl (by decide) (Nat.le_of_eq rfl) (by decide) (by decide) (by decide) (q := 405) rfl (fun v176 T176 h176 L176 X176 e176 hQ176 => ?_)
  obtain ⟨rfl, rfl, rfl⟩ := hQ176
  refine s_if_eq K X176 at_405 (by decide) (q := 412) rfl (q' := 408) rfl (fun h_ => absurd h_ (by decide)) (fun _ => ?_)
  refine s_iconst K X176 at_408 (z := 1) rfl (q := 409) rfl ?_
  refine s_goto K X176 at_409 (by decide) (q := 413) rfl ?_
  refine s_istore K X176 at_413 (l' := #[.val (.int p1), .val (.int p2), .val (.int v0), .val (.int (2 : Int32)), .val (.int (1 : Int32)), .val (.ref B), .val (.ref xx), .val (.int ((2 : Int32) + (1 : Int32))), .val (.ref b155), .val (.int (1 : Int32))]) rfl (q := 415) rfl ?_
  refine s_iload K X176 at_415 rfl (q := 417) rfl ?_
  exact s_retZ K X176 at_417 rfl (by decide) e176 (by decide) (by decide) ⟨rfl, (Fr.app (Fr.app (Fr.app (Fr.app (Fr.app (Fr.app (Fr.app (Fr.app (Fr.app (Fr.app (Fr.app (Fr.app (Fr.app (Fr.app (Fr.app (Fr.app (Fr.app (Fr.app (Fr.app (Fr.app (Fr.app (Fr.app (Fr.app (Fr.app (Fr.app NN M150) M151) (Fr.nil _)) (Fr.nil _)) M154) (Fr.nil _)) (fr_one gE)) (Fr.nil _)) (fr_one gE)) (Fr.nil _)) (fr_one gE)) (Fr.nil _)) (fr_one gE)) (Fr.nil _)) (fr_one gE)) (Fr.nil _)) (Fr.nil _)) (Fr.nil _)) (Fr.nil _)) (Fr.nil _)) (Fr.nil _)) (Fr.nil _)) (Fr.nil _)) (Fr.nil _)) (Fr.nil _))⟩
set_option maxRecDepth 65536 in
set_option maxHeartbeats 40000000 in
theorem c_tail_3_0 (l : Launch) (Z : State) (a0 : Array Value) (hw : ∀ d ∈ tables_1, d.before a0 Z = true) (S : Slots Z) {p : Program} {e : Env} {s : State} {m : MethodId} {args : Array Value} {below : List Frame} {meth : Method} {cod : Code} {T : State} {locs : List Loc} {h : Heap} (K : Cx Z p s m meth cod x.cls code maxLocals ret x.name) (X : Stand p l e room_1 s m args below meth cod T locs 11 24) (B : Addr) (kB : ClassId) (l0 l1 l2 l3 xx I : Addr) (v0 p1 p2 : Int32) (eT : T.heap = h) (P : Sep Z B [l0, l1, l2, l3, xx]) (F : Inv Z h B kB [l0, l1, l2, l3, xx] [0, 1, 2, 3, 4] [0, 1, 2, 3, 4] I v0) (NN : Fr Z.heap.size locs) :
    Goes p e below (Fini s room_1 (fun v h L => v = some (.int 1) ∧ Fr Z.heap.size L)) T (mkF m 93 #[.val (.int p1), .val (.int p2), .val (.int v0), .val (.int (3 : Int32)), .val (.int (0 : Int32)), .val (.ref B), .val (.ref xx), .unset, .unset, .unset] []) := by
  refine s_aload K X at_93 rfl rfl (q := 95) rfl ?_
  refine s_iconst K X at_95 (z := 0) rfl (q := 96) rfl ?_
  refine s_iloadN K X at_96 rfl (q := 97) rfl ?_
  refine s_callS K X 0 at_97 (hw _ (List.mem_of_getElem? (i := 25) rfl)) (hw _ (List.mem_of_getElem? (i := 26) rfl)) (hw _ (List.mem_of_getElem? (i := 27) rfl)) (hw _ (List.mem_of_getElem? (i := 28) rfl)) (by decide) pd___Lcom_example_matchwright_matchwright_engine_Memory_Link_II_V rfl eT (argsL := [(.ref B), (.int (0 : Int32)), (.int (3 : Int32))]) (st := []) (c_ring_0_3 l Z a0 hw S _ B kB [l0, l1, l2, l3, xx] [0, 1, 2, 3, 4] [0, 1, 2, 3, 4] I v0 P F rfl rfl) rfl rfl (by decide) (Nat.le_of_eq rfl) (by decide) (by decide) (by decide) (q := 100) rfl (fun v177 T177 h177 L177 X177 e177 hQ177 => ?_)
  obtain ⟨rfl, F177, M177⟩ := hQ177
  refine s_aload K X177 at_100 rfl rfl (q := 102) rfl ?_
  refine s_iconst K X177 at_102 (z := 1) rfl (q := 103) rfl ?_
  refine s_iloadN K X177 at_103 rfl (q := 104) rfl ?_
  refine s_callS K X177 0 at_104 (hw _ (List.mem_of_getElem? (i := 25) rfl)) (hw _ (List.mem_of_getElem? (i := 26) rfl)) (hw _ (List.mem_of_getElem? (i := 27) rfl)) (hw _ (List.mem_of_getElem? (i := 28) rfl)) (by decide) pd___Lcom_example_matchwright_matchwright_engine_Memory_Link_II_V rfl e177 (argsL := [(.ref B), (.int (1 : Int32)), (.int (3 : Int32))]) (st := []) (c_ring_1_3 l Z a0 hw S _ B kB [l0, l1, l2, l3, xx] [1, 1, 2, 3, 4] [2, 1, 2, 3, 4] I v0 P F177 rfl rfl) rfl rfl (by decide) (Nat.le_of_eq rfl) (by decide) (by decide) (by decide) (q := 107) rfl (fun v178 T178 h178 L178 X178 e178 hQ178 => ?_)
  obtain ⟨rfl, F178, M178⟩ := hQ178
  refine s_aload K X178 at_107 rfl rfl (q := 109) rfl ?_
  refine s_iconst K X178 at_109 (z := 2) rfl (q := 110) rfl ?_
  refine s_iloadN K X178 at_110 rfl (q := 111) rfl ?_
  refine s_callS K X178 0 at_111 (hw _ (List.mem_of_getElem? (i := 25) rfl)) (hw _ (List.mem_of_getElem? (i := 26) rfl)) (hw _ (List.mem_of_getElem? (i := 27) rfl)) (hw _ (List.mem_of_getElem? (i := 28) rfl)) (by decide) pd___Lcom_example_matchwright_matchwright_engine_Memory_Link_II_V rfl e178 (argsL := [(.ref B), (.int (2 : Int32)), (.int (3 : Int32))]) (st := []) (c_ring_2_3 l Z a0 hw S _ B kB [l0, l1, l2, l3, xx] [1, 2, 2, 3, 4] [2, 0, 2, 3, 4] I v0 P F178 rfl rfl) rfl rfl (by decide) (Nat.le_of_eq rfl) (by decide) (by decide) (by decide) (q := 114) rfl (fun v179 T179 h179 L179 X179 e179 hQ179 => ?_)
  obtain ⟨rfl, F179, M179⟩ := hQ179
  refine s_aload K X179 at_114 rfl rfl (q := 116) rfl ?_
  refine s_iconst K X179 at_116 (z := 3) rfl (q := 117) rfl ?_
  refine s_iloadN K X179 at_117 rfl (q := 118) rfl ?_
  refine s_callS K X179 0 at_118 (hw _ (List.mem_of_getElem? (i := 25) rfl)) (hw _ (List.mem_of_getElem? (i := 26) rfl)) (hw _ (List.mem_of_getElem? (i := 27) rfl)) (hw _ (List.mem_of_getElem? (i := 28) rfl)) (by decide) pd___Lcom_example_matchwright_matchwright_engine_Memory_Link_II_V rfl e179 (argsL := [(.ref B), (.int (3 : Int32)), (.int (3 : Int32))]) (st := []) (c_ring_no l Z a0 hw _ B 3 3 (by decide)) rfl rfl (by decide) (Nat.le_of_eq rfl) (by decide) (by decide) (by decide) (q := 121) rfl (fun v180 T180 h180 L180 X180 e180 hQ180 => ?_)
  obtain ⟨rfl, rfl, rfl⟩ := hQ180
  refine s_aload K X180 at_121 rfl rfl (q := 123) rfl ?_
  refine s_aload K X180 at_123 rfl rfl (q := 125) rfl ?_
  refine s_iload K X180 at_125 rfl (q := 127) rfl ?_
  refine s_ldV K X180 at_127 e180 F179.2.1 rfl (by decide) rfl (q := 128) rfl ?_
  refine s_callV K X180 0 (y := (⟨"com/example/matchwright/matchwright/engine/Memory$Link", "linkBefore", "(Lcom/example/matchwright/matchwright/engine/Memory$Link;)V"⟩ : MethodName)) (z := (⟨"com/example/matchwright/matchwright/engine/Memory$Link", "linkBefore", "(Lcom/example/matchwright/matchwright/engine/Memory$Link;)V"⟩ : MethodName)) at_128 (hw _ (List.mem_of_getElem? (i := 31) rfl)) (hw _ (List.mem_of_getElem? (i := 32) rfl)) (notFace_of_selects (args := #[]) (mvT K.hZ (hw _ (List.mem_of_getElem? (i := 34) rfl)))) (hw _ (List.mem_of_getElem? (i := 34) rfl)) (hw _ (List.mem_of_getElem? (i := 33) rfl)) (hw _ (List.mem_of_getElem? (i := 4) rfl)) (hw _ (List.mem_of_getElem? (i := 35) rfl)) (by decide) pd__Lcom_example_matchwright_matchwright_engine_Memory_Link__V rfl e180 (F179.1 4 (by decide)).1 (argsL := [(.ref l0)]) (st := []) (c_before l Z a0 hw S _ B kB [l0, l1, l2, l3, xx] [1, 2, 0, 3, 4] [2, 0, 1, 3, 4] I v0 P F179 rfl rfl 0 2 (by decide) (by decide) rfl rfl) rfl rfl (by decide) (Nat.le_of_eq rfl) (by decide) (by decide) (by decide) (q := 131) rfl (fun v181 T181 h181 L181 X181 e181 hQ181 => ?_)
  obtain ⟨rfl, F181, M181⟩ := hQ181
  refine s_iloadN K X181 at_131 rfl (q := 132) rfl ?_
  refine s_iconst K X181 at_132 (z := 1) rfl (q := 133) rfl ?_
  refine s_iadd K X181 at_133 (q := 134) rfl ?_
  refine s_istore K X181 at_134 (l' := #[.val (.int p1), .val (.int p2), .val (.int v0), .val (.int (3 : Int32)), .val (.int (0 : Int32)), .val (.ref B), .val (.ref xx), .val (.int ((3 : Int32) + (1 : Int32))), .unset, .unset]) rfl (q := 136) rfl ?_
  refine s_iconst K X181 at_136 (z := 5) rfl (q := 137) rfl ?_
  refine s_newV K X181 at_137 (hw _ (List.mem_of_getElem? (i := 1) rfl)) (hw _ (List.mem_of_getElem? (i := 2) rfl)) e181 (by decide) 5 (by decide) (by decide) (by decide) (by decide) (vs := [.null, .null, .null, .null, .null]) rfl (q := 140) rfl (fun T182 h182 b182 k182 g182 X182 e182 E182 V182 O182 => ?_)
  have gE : Z.heap.size ≤ b182 := by rw [g182]; exact old_le F181.2.2.2.2
  have nE : ∀ i, i < 5 → ([l0, l1, l2, l3, xx] : List Addr).getD i 0 ≠ b182 := fun i hi => Nat.ne_of_lt (by rw [g182]; exact (F181.1 i hi).1.lt)
  have nB : B ≠ b182 := Nat.ne_of_lt (by rw [g182]; exact F181.2.1.lt)
  have nI : I ≠ b182 := Nat.ne_of_lt (by rw [g182]; exact F181.2.2.2.1.1.lt)
  have F182 := F181.ext E182
  change Inv Z _ B kB [l0, l1, l2, l3, xx] [1, 2, 4, 3, 0] [4, 0, 1, 3, 2] I v0 at F182
  refine s_astore K X182 at_140 rfl (l' := #[.val (.int p1), .val (.int p2), .val (.int v0), .val (.int (3 : Int32)), .val (.int (0 : Int32)), .val (.ref B), .val (.ref xx), .val (.int ((3 : Int32) + (1 : Int32))), .val (.ref b182), .unset]) rfl (q := 142) rfl ?_
  refine s_aload K X182 at_142 rfl rfl (q := 144) rfl ?_
  refine s_iconst K X182 at_144 (z := 0) rfl (q := 145) rfl ?_
  refine s_aload K X182 at_145 rfl rfl (q := 147) rfl ?_
  refine s_aload K X182 at_147 rfl rfl (q := 149) rfl ?_
  refine s_iload K X182 at_149 rfl (q := 151) rfl ?_
  refine s_iconst K X182 at_151 (z := 0) rfl (q := 152) rfl ?_
  refine s_callS K X182 2 at_152 (hw _ (List.mem_of_getElem? (i := 36) rfl)) (hw _ (List.mem_of_getElem? (i := 37) rfl)) (hw _ (List.mem_of_getElem? (i := 27) rfl)) (hw _ (List.mem_of_getElem? (i := 38) rfl)) (by decide) pd___Lcom_example_matchwright_matchwright_engine_Memory_Link_Lcom_example_matchwright_matchwright_engine_Memory_Link_II_Lcom_example_matchwright_matchwright_engine_Memory_Link_ rfl e182 (argsL := [(.ref B), (.ref xx), (.int (0 : Int32)), (.int (0 : Int32))]) (st := [(.int (0 : Int32)), (.ref b182)]) (c_at_0_0 l Z a0 hw _ B kB [l0, l1, l2, l3, xx] [1, 2, 4, 3, 0] [4, 0, 1, 3, 2] I v0 F182) rfl rfl (by decide) (Nat.le_of_eq rfl) (by decide) (by decide) (by decide) (q := 155) rfl (fun v183 T183 h183 L183 X183 e183 hQ183 => ?_)
  obtain ⟨rfl, rfl, rfl⟩ := hQ183
  refine s_stV K X183 at_155 e183 V182 O182 (by decide) rfl (fun y hy => by cases hy; exact Ins.self (F182.1 4 (by decide)).1) 0 rfl (Nat.le_of_ble_eq_true rfl) (vs' := [(.ref xx), .null, .null, .null, .null]) rfl (q := 156) rfl (fun T184 h184 X184 e184 W184 V184 => ?_)
  have F184 := F182.other W184 nE nB nI gE
  refine s_aload K X184 at_156 rfl rfl (q := 158) rfl ?_
  refine s_iconst K X184 at_158 (z := 1) rfl (q := 159) rfl ?_
  refine s_aload K X184 at_159 rfl rfl (q := 161) rfl ?_
  refine s_aload K X184 at_161 rfl rfl (q := 163) rfl ?_
  refine s_iload K X184 at_163 rfl (q := 165) rfl ?_
  refine s_iconst K X184 at_165 (z := 1) rfl (q := 166) rfl ?_
  refine s_callS K X184 2 at_166 (hw _ (List.mem_of_getElem? (i := 36) rfl)) (hw _ (List.mem_of_getElem? (i := 37) rfl)) (hw _ (List.mem_of_getElem? (i := 27) rfl)) (hw _ (List.mem_of_getElem? (i := 38) rfl)) (by decide) pd___Lcom_example_matchwright_matchwright_engine_Memory_Link_Lcom_example_matchwright_matchwright_engine_Memory_Link_II_Lcom_example_matchwright_matchwright_engine_Memory_Link_ rfl e184 (argsL := [(.ref B), (.ref xx), (.int (0 : Int32)), (.int (1 : Int32))]) (st := [(.int (1 : Int32)), (.ref b182)]) (c_at_0_1 l Z a0 hw _ B kB [l0, l1, l2, l3, xx] [1, 2, 4, 3, 0] [4, 0, 1, 3, 2] I v0 F184) rfl rfl (by decide) (Nat.le_of_eq rfl) (by decide) (by decide) (by decide) (q := 169) rfl (fun v185 T185 h185 L185 X185 e185 hQ185 => ?_)
  obtain ⟨rfl, rfl, rfl⟩ := hQ185
  refine s_stV K X185 at_169 e185 V184 O182 (by decide) rfl (fun y hy => by cases hy; exact Ins.self (F184.1 0 (by decide)).1) 1 rfl (Nat.le_of_ble_eq_true rfl) (vs' := [(.ref xx), (.ref l0), .null, .null, .null]) rfl (q := 170) rfl (fun T186 h186 X186 e186 W186 V186 => ?_)
  have F186 := F184.other W186 nE nB nI gE
  refine s_aload K X186 at_170 rfl rfl (q := 172) rfl ?_
  refine s_iconst K X186 at_172 (z := 2) rfl (q := 173) rfl ?_
  refine s_aload K X186 at_173 rfl rfl (q := 175) rfl ?_
  refine s_aload K X186 at_175 rfl rfl (q := 177) rfl ?_
  refine s_iload K X186 at_177 rfl (q := 179) rfl ?_
  refine s_iconst K X186 at_179 (z := 2) rfl (q := 180) rfl ?_
  refine s_callS K X186 2 at_180 (hw _ (List.mem_of_getElem? (i := 36) rfl)) (hw _ (List.mem_of_getElem? (i := 37) rfl)) (hw _ (List.mem_of_getElem? (i := 27) rfl)) (hw _ (List.mem_of_getElem? (i := 38) rfl)) (by decide) pd___Lcom_example_matchwright_matchwright_engine_Memory_Link_Lcom_example_matchwright_matchwright_engine_Memory_Link_II_Lcom_example_matchwright_matchwright_engine_Memory_Link_ rfl e186 (argsL := [(.ref B), (.ref xx), (.int (0 : Int32)), (.int (2 : Int32))]) (st := [(.int (2 : Int32)), (.ref b182)]) (c_at_0_2 l Z a0 hw _ B kB [l0, l1, l2, l3, xx] [1, 2, 4, 3, 0] [4, 0, 1, 3, 2] I v0 F186) rfl rfl (by decide) (Nat.le_of_eq rfl) (by decide) (by decide) (by decide) (q := 183) rfl (fun v187 T187 h187 L187 X187 e187 hQ187 => ?_)
  obtain ⟨rfl, rfl, rfl⟩ := hQ187
  refine s_stV K X187 at_183 e187 V186 O182 (by decide) rfl (fun y hy => by cases hy; exact Ins.self (F186.1 1 (by decide)).1) 2 rfl (Nat.le_of_ble_eq_true rfl) (vs' := [(.ref xx), (.ref l0), (.ref l1), .null, .null]) rfl (q := 184) rfl (fun T188 h188 X188 e188 W188 V188 => ?_)
  have F188 := F186.other W188 nE nB nI gE
  refine s_aload K X188 at_184 rfl rfl (q := 186) rfl ?_
  refine s_iconst K X188 at_186 (z := 3) rfl (q := 187) rfl ?_
  refine s_aload K X188 at_187 rfl rfl (q := 189) rfl ?_
  refine s_aload K X188 at_189 rfl rfl (q := 191) rfl ?_
  refine s_iload K X188 at_191 rfl (q := 193) rfl ?_
  refine s_iconst K X188 at_193 (z := 3) rfl (q := 194) rfl ?_
  refine s_callS K X188 2 at_194 (hw _ (List.mem_of_getElem? (i := 36) rfl)) (hw _ (List.mem_of_getElem? (i := 37) rfl)) (hw _ (List.mem_of_getElem? (i := 27) rfl)) (hw _ (List.mem_of_getElem? (i := 38) rfl)) (by decide) pd___Lcom_example_matchwright_matchwright_engine_Memory_Link_Lcom_example_matchwright_matchwright_engine_Memory_Link_II_Lcom_example_matchwright_matchwright_engine_Memory_Link_ rfl e188 (argsL := [(.ref B), (.ref xx), (.int (0 : Int32)), (.int (3 : Int32))]) (st := [(.int (3 : Int32)), (.ref b182)]) (c_at_0_3 l Z a0 hw _ B kB [l0, l1, l2, l3, xx] [1, 2, 4, 3, 0] [4, 0, 1, 3, 2] I v0 F188) rfl rfl (by decide) (Nat.le_of_eq rfl) (by decide) (by decide) (by decide) (q := 197) rfl (fun v189 T189 h189 L189 X189 e189 hQ189 => ?_)
  obtain ⟨rfl, rfl, rfl⟩ := hQ189
  refine s_stV K X189 at_197 e189 V188 O182 (by decide) rfl (fun y hy => by cases hy; exact Ins.self (F188.1 2 (by decide)).1) 3 rfl (Nat.le_of_ble_eq_true rfl) (vs' := [(.ref xx), (.ref l0), (.ref l1), (.ref l2), .null]) rfl (q := 198) rfl (fun T190 h190 X190 e190 W190 V190 => ?_)
  have F190 := F188.other W190 nE nB nI gE
  refine s_aload K X190 at_198 rfl rfl (q := 200) rfl ?_
  refine s_iconst K X190 at_200 (z := 4) rfl (q := 201) rfl ?_
  refine s_aload K X190 at_201 rfl rfl (q := 203) rfl ?_
  refine s_aload K X190 at_203 rfl rfl (q := 205) rfl ?_
  refine s_iload K X190 at_205 rfl (q := 207) rfl ?_
  refine s_iconst K X190 at_207 (z := 4) rfl (q := 208) rfl ?_
  refine s_callS K X190 2 at_208 (hw _ (List.mem_of_getElem? (i := 36) rfl)) (hw _ (List.mem_of_getElem? (i := 37) rfl)) (hw _ (List.mem_of_getElem? (i := 27) rfl)) (hw _ (List.mem_of_getElem? (i := 38) rfl)) (by decide) pd___Lcom_example_matchwright_matchwright_engine_Memory_Link_Lcom_example_matchwright_matchwright_engine_Memory_Link_II_Lcom_example_matchwright_matchwright_engine_Memory_Link_ rfl e190 (argsL := [(.ref B), (.ref xx), (.int (0 : Int32)), (.int (4 : Int32))]) (st := [(.int (4 : Int32)), (.ref b182)]) (c_at_0_4 l Z a0 hw _ B kB [l0, l1, l2, l3, xx] [1, 2, 4, 3, 0] [4, 0, 1, 3, 2] I v0 F190) rfl rfl (by decide) (Nat.le_of_eq rfl) (by decide) (by decide) (by decide) (q := 211) rfl (fun v191 T191 h191 L191 X191 e191 hQ191 => ?_)
  obtain ⟨rfl, rfl, rfl⟩ := hQ191
  refine s_stV K X191 at_211 e191 V190 O182 (by decide) rfl (fun y hy => by cases hy; exact Ins.self (F190.1 3 (by decide)).1) 4 rfl (Nat.le_of_ble_eq_true rfl) (vs' := [(.ref xx), (.ref l0), (.ref l1), (.ref l2), (.ref l3)]) rfl (q := 212) rfl (fun T192 h192 X192 e192 W192 V192 => ?_)
  have F192 := F190.other W192 nE nB nI gE
  refine s_aload K X192 at_212 rfl rfl (q := 214) rfl ?_
  refine s_callV K X192 0 (y := (⟨"com/example/matchwright/matchwright/engine/Memory$Link", "item", "()Ljava/lang/Object;"⟩ : MethodName)) (z := (⟨"com/example/matchwright/matchwright/engine/Memory$Link", "item", "()Ljava/lang/Object;"⟩ : MethodName)) at_214 (hw _ (List.mem_of_getElem? (i := 39) rfl)) (hw _ (List.mem_of_getElem? (i := 40) rfl)) (notFace_of_selects (args := #[]) (mvT K.hZ (hw _ (List.mem_of_getElem? (i := 42) rfl)))) (hw _ (List.mem_of_getElem? (i := 42) rfl)) (hw _ (List.mem_of_getElem? (i := 41) rfl)) (hw _ (List.mem_of_getElem? (i := 4) rfl)) (hw _ (List.mem_of_getElem? (i := 43) rfl)) (by decide) pd___Ljava_lang_Object_ rfl e192 (F192.1 4 (by decide)).1 (argsL := []) (st := []) (c_item l Z a0 hw _ xx I F192.2.2.1) rfl rfl (by decide) (Nat.le_of_eq rfl) (by decide) (by decide) (by decide) (q := 217) rfl (fun v193 T193 h193 L193 X193 e193 hQ193 => ?_)
  obtain ⟨rfl, rfl, rfl⟩ := hQ193
  refine s_castY K X193 at_217 (hw _ (List.mem_of_getElem? (i := 44) rfl)) e193 (Ins.self F192.2.2.2.1.1) (q := 220) rfl (fun T194 X194 e194 => ?_)
  refine s_callV K X194 0 (y := (⟨"java/lang/Integer", "intValue", "()I"⟩ : MethodName)) (z := (⟨"java/lang/Integer", "intValue", "()I"⟩ : MethodName)) at_220 (hw _ (List.mem_of_getElem? (i := 46) rfl)) (hw _ (List.mem_of_getElem? (i := 47) rfl)) (notFace_of_selects (args := #[]) (mvT K.hZ (hw _ (List.mem_of_getElem? (i := 49) rfl)))) (hw _ (List.mem_of_getElem? (i := 49) rfl)) (hw _ (List.mem_of_getElem? (i := 48) rfl)) (hw _ (List.mem_of_getElem? (i := 7) rfl)) (hw _ (List.mem_of_getElem? (i := 50) rfl)) (by decide) pd___I rfl e194 F192.2.2.2.1.1 (argsL := []) (st := []) (c_intValue l Z a0 hw _ I v0 F192.2.2.2.1) rfl rfl (by decide) (Nat.le_of_eq rfl) (by decide) (by decide) (by decide) (q := 223) rfl (fun v195 T195 h195 L195 X195 e195 hQ195 => ?_)
  obtain ⟨rfl, rfl, rfl⟩ := hQ195
  refine s_iloadN K X195 at_223 rfl (q := 224) rfl ?_
  refine s_icmp_ne K X195 at_224 (by decide) (q := 231) rfl (q' := 227) rfl (fun h_ => absurd rfl h_) (fun _ => ?_)
  refine s_iconst K X195 at_227 (z := 1) rfl (q := 228) rfl ?_
  refine s_goto K X195 at_228 (by decide) (q := 232) rfl ?_
  refine s_istore K X195 at_232 (l' := #[.val (.int p1), .val (.int p2), .val (.int v0), .val (.int (3 : Int32)), .val (.int (0 : Int32)), .val (.ref B), .val (.ref xx), .val (.int ((3 : Int32) + (1 : Int32))), .val (.ref b182), .val (.int (1 : Int32))]) rfl (q := 234) rfl ?_
  refine s_iload K X195 at_234 rfl (q := 236) rfl ?_
  refine s_if_eq K X195 at_236 (by decide) (q := 254) rfl (q' := 239) rfl (fun h_ => absurd h_ (by decide)) (fun _ => ?_)
  refine s_aload K X195 at_239 rfl rfl (q := 241) rfl ?_
  refine s_iconst K X195 at_241 (z := 0) rfl (q := 242) rfl ?_
  refine s_iload K X195 at_242 rfl (q := 244) rfl ?_
  refine s_callS K X195 0 at_244 (hw _ (List.mem_of_getElem? (i := 53) rfl)) (hw _ (List.mem_of_getElem? (i := 54) rfl)) (hw _ (List.mem_of_getElem? (i := 27) rfl)) (hw _ (List.mem_of_getElem? (i := 55) rfl)) (by decide) pd___Lcom_example_matchwright_matchwright_engine_Memory_Link_II_Z rfl e195 (argsL := [(.ref b182), (.int (0 : Int32)), (.int ((3 : Int32) + (1 : Int32)))]) (st := []) (c_check_0_4 l Z a0 hw _ b182 _ _ xx l0 l2 V192 rfl rfl rfl (F192.1 4 (by decide))) rfl rfl (by decide) (Nat.le_of_eq rfl) (by decide) (by decide) (by decide) (q := 247) rfl (fun v196 T196 h196 L196 X196 e196 hQ196 => ?_)
  obtain ⟨rfl, rfl, rfl⟩ := hQ196
  refine s_if_eq K X196 at_247 (by decide) (q := 254) rfl (q' := 250) rfl (fun h_ => absurd h_ (by decide)) (fun _ => ?_)
  refine s_iconst K X196 at_250 (z := 1) rfl (q := 251) rfl ?_
  refine s_goto K X196 at_251 (by decide) (q := 255) rfl ?_
  refine s_istore K X196 at_255 (l' := #[.val (.int p1), .val (.int p2), .val (.int v0), .val (.int (3 : Int32)), .val (.int (0 : Int32)), .val (.ref B), .val (.ref xx), .val (.int ((3 : Int32) + (1 : Int32))), .val (.ref b182), .val (.int (1 : Int32))]) rfl (q := 257) rfl ?_
  refine s_iload K X196 at_257 rfl (q := 259) rfl ?_
  refine s_if_eq K X196 at_259 (by decide) (q := 277) rfl (q' := 262) rfl (fun h_ => absurd h_ (by decide)) (fun _ => ?_)
  refine s_aload K X196 at_262 rfl rfl (q := 264) rfl ?_
  refine s_iconst K X196 at_264 (z := 1) rfl (q := 265) rfl ?_
  refine s_iload K X196 at_265 rfl (q := 267) rfl ?_
  refine s_callS K X196 0 at_267 (hw _ (List.mem_of_getElem? (i := 53) rfl)) (hw _ (List.mem_of_getElem? (i := 54) rfl)) (hw _ (List.mem_of_getElem? (i := 27) rfl)) (hw _ (List.mem_of_getElem? (i := 55) rfl)) (by decide) pd___Lcom_example_matchwright_matchwright_engine_Memory_Link_II_Z rfl e196 (argsL := [(.ref b182), (.int (1 : Int32)), (.int ((3 : Int32) + (1 : Int32)))]) (st := []) (c_check_1_4 l Z a0 hw _ b182 _ _ l0 l1 xx V192 rfl rfl rfl (F192.1 0 (by decide))) rfl rfl (by decide) (Nat.le_of_eq rfl) (by decide) (by decide) (by decide) (q := 270) rfl (fun v197 T197 h197 L197 X197 e197 hQ197 => ?_)
  obtain ⟨rfl, rfl, rfl⟩ := hQ197
  refine s_if_eq K X197 at_270 (by decide) (q := 277) rfl (q' := 273) rfl (fun h_ => absurd h_ (by decide)) (fun _ => ?_)
  refine s_iconst K X197 at_273 (z := 1) rfl (q := 274) rfl ?_
  refine s_goto K X197 at_274 (by decide) (q := 278) rfl ?_
  refine s_istore K X197 at_278 (l' := #[.val (.int p1), .val (.int p2), .val (.int v0), .val (.int (3 : Int32)), .val (.int (0 : Int32)), .val (.ref B), .val (.ref xx), .val (.int ((3 : Int32) + (1 : Int32))), .val (.ref b182), .val (.int (1 : Int32))]) rfl (q := 280) rfl ?_
  refine s_iload K X197 at_280 rfl (q := 282) rfl ?_
  refine s_if_eq K X197 at_282 (by decide) (q := 300) rfl (q' := 285) rfl (fun h_ => absurd h_ (by decide)) (fun _ => ?_)
  refine s_aload K X197 at_285 rfl rfl (q := 287) rfl ?_
  refine s_iconst K X197 at_287 (z := 2) rfl (q := 288) rfl ?_
  refine s_iload K X197 at_288 rfl (q := 290) rfl ?_
  refine s_callS K X197 0 at_290 (hw _ (List.mem_of_getElem? (i := 53) rfl)) (hw _ (List.mem_of_getElem? (i := 54) rfl)) (hw _ (List.mem_of_getElem? (i := 27) rfl)) (hw _ (List.mem_of_getElem? (i := 55) rfl)) (by decide) pd___Lcom_example_matchwright_matchwright_engine_Memory_Link_II_Z rfl e197 (argsL := [(.ref b182), (.int (2 : Int32)), (.int ((3 : Int32) + (1 : Int32)))]) (st := []) (c_check_2_4 l Z a0 hw _ b182 _ _ l1 l2 l0 V192 rfl rfl rfl (F192.1 1 (by decide))) rfl rfl (by decide) (Nat.le_of_eq rfl) (by decide) (by decide) (by decide) (q := 293) rfl (fun v198 T198 h198 L198 X198 e198 hQ198 => ?_)
  obtain ⟨rfl, rfl, rfl⟩ := hQ198
  refine s_if_eq K X198 at_293 (by decide) (q := 300) rfl (q' := 296) rfl (fun h_ => absurd h_ (by decide)) (fun _ => ?_)
  refine s_iconst K X198 at_296 (z := 1) rfl (q := 297) rfl ?_
  refine s_goto K X198 at_297 (by decide) (q := 301) rfl ?_
  refine s_istore K X198 at_301 (l' := #[.val (.int p1), .val (.int p2), .val (.int v0), .val (.int (3 : Int32)), .val (.int (0 : Int32)), .val (.ref B), .val (.ref xx), .val (.int ((3 : Int32) + (1 : Int32))), .val (.ref b182), .val (.int (1 : Int32))]) rfl (q := 303) rfl ?_
  refine s_iload K X198 at_303 rfl (q := 305) rfl ?_
  refine s_if_eq K X198 at_305 (by decide) (q := 323) rfl (q' := 308) rfl (fun h_ => absurd h_ (by decide)) (fun _ => ?_)
  refine s_aload K X198 at_308 rfl rfl (q := 310) rfl ?_
  refine s_iconst K X198 at_310 (z := 3) rfl (q := 311) rfl ?_
  refine s_iload K X198 at_311 rfl (q := 313) rfl ?_
  refine s_callS K X198 0 at_313 (hw _ (List.mem_of_getElem? (i := 53) rfl)) (hw _ (List.mem_of_getElem? (i := 54) rfl)) (hw _ (List.mem_of_getElem? (i := 27) rfl)) (hw _ (List.mem_of_getElem? (i := 55) rfl)) (by decide) pd___Lcom_example_matchwright_matchwright_engine_Memory_Link_II_Z rfl e198 (argsL := [(.ref b182), (.int (3 : Int32)), (.int ((3 : Int32) + (1 : Int32)))]) (st := []) (c_check_3_4 l Z a0 hw _ b182 _ _ l2 xx l1 V192 rfl rfl rfl (F192.1 2 (by decide))) rfl rfl (by decide) (Nat.le_of_eq rfl) (by decide) (by decide) (by decide) (q := 316) rfl (fun v199 T199 h199 L199 X199 e199 hQ199 => ?_)
  obtain ⟨rfl, rfl, rfl⟩ := hQ199
  refine s_if_eq K X199 at_316 (by decide) (q := 323) rfl (q' := 319) rfl (fun h_ => absurd h_ (by decide)) (fun _ => ?_)
  refine s_iconst K X199 at_319 (z := 1) rfl (q := 320) rfl ?_
  refine s_goto K X199 at_320 (by decide) (q := 324) rfl ?_
  refine s_istore K X199 at_324 (l' := #[.val (.int p1), .val (.int p2), .val (.int v0), .val (.int (3 : Int32)), .val (.int (0 : Int32)), .val (.ref B), .val (.ref xx), .val (.int ((3 : Int32) + (1 : Int32))), .val (.ref b182), .val (.int (1 : Int32))]) rfl (q := 326) rfl ?_
  refine s_iload K X199 at_326 rfl (q := 328) rfl ?_
  refine s_if_eq K X199 at_328 (by decide) (q := 346) rfl (q' := 331) rfl (fun h_ => absurd h_ (by decide)) (fun _ => ?_)
  refine s_aload K X199 at_331 rfl rfl (q := 333) rfl ?_
  refine s_iconst K X199 at_333 (z := 4) rfl (q := 334) rfl ?_
  refine s_iload K X199 at_334 rfl (q := 336) rfl ?_
  refine s_callS K X199 0 at_336 (hw _ (List.mem_of_getElem? (i := 53) rfl)) (hw _ (List.mem_of_getElem? (i := 54) rfl)) (hw _ (List.mem_of_getElem? (i := 27) rfl)) (hw _ (List.mem_of_getElem? (i := 55) rfl)) (by decide) pd___Lcom_example_matchwright_matchwright_engine_Memory_Link_II_Z rfl e199 (argsL := [(.ref b182), (.int (4 : Int32)), (.int ((3 : Int32) + (1 : Int32)))]) (st := []) (c_check_no l Z a0 hw _ b182 4 4 (by decide)) rfl rfl (by decide) (Nat.le_of_eq rfl) (by decide) (by decide) (by decide) (q := 339) rfl (fun v200 T200 h200 L200 X200 e200 hQ200 => ?_)
  obtain ⟨rfl, rfl, rfl⟩ := hQ200
  refine s_if_eq K X200 at_339 (by decide) (q := 346) rfl (q' := 342) rfl (fun h_ => absurd h_ (by decide)) (fun _ => ?_)
  refine s_iconst K X200 at_342 (z := 1) rfl (q := 343) rfl ?_
  refine s_goto K X200 at_343 (by decide) (q := 347) rfl ?_
  refine s_istore K X200 at_347 (l' := #[.val (.int p1), .val (.int p2), .val (.int v0), .val (.int (3 : Int32)), .val (.int (0 : Int32)), .val (.ref B), .val (.ref xx), .val (.int ((3 : Int32) + (1 : Int32))), .val (.ref b182), .val (.int (1 : Int32))]) rfl (q := 349) rfl ?_
  refine s_iload K X200 at_349 rfl (q := 351) rfl ?_
  refine s_if_eq K X200 at_351 (by decide) (q := 368) rfl (q' := 354) rfl (fun h_ => absurd h_ (by decide)) (fun _ => ?_)
  refine s_aload K X200 at_354 rfl rfl (q := 356) rfl ?_
  refine s_iconst K X200 at_356 (z := 1) rfl (q := 357) rfl ?_
  refine s_iloadN K X200 at_357 rfl (q := 358) rfl ?_
  refine s_callS K X200 0 at_358 (hw _ (List.mem_of_getElem? (i := 56) rfl)) (hw _ (List.mem_of_getElem? (i := 57) rfl)) (hw _ (List.mem_of_getElem? (i := 27) rfl)) (hw _ (List.mem_of_getElem? (i := 58) rfl)) (by decide) pd___Lcom_example_matchwright_matchwright_engine_Memory_Link_II_Z rfl e200 (argsL := [(.ref B), (.int (1 : Int32)), (.int (3 : Int32))]) (st := []) (c_alone_in l Z a0 hw _ B 1 3 (by decide)) rfl rfl (by decide) (Nat.le_of_eq rfl) (by decide) (by decide) (by decide) (q := 361) rfl (fun v201 T201 h201 L201 X201 e201 hQ201 => ?_)
  obtain ⟨rfl, rfl, rfl⟩ := hQ201
  refine s_if_eq K X201 at_361 (by decide) (q := 368) rfl (q' := 364) rfl (fun h_ => absurd h_ (by decide)) (fun _ => ?_)
  refine s_iconst K X201 at_364 (z := 1) rfl (q := 365) rfl ?_
  refine s_goto K X201 at_365 (by decide) (q := 369) rfl ?_
  refine s_istore K X201 at_369 (l' := #[.val (.int p1), .val (.int p2), .val (.int v0), .val (.int (3 : Int32)), .val (.int (0 : Int32)), .val (.ref B), .val (.ref xx), .val (.int ((3 : Int32) + (1 : Int32))), .val (.ref b182), .val (.int (1 : Int32))]) rfl (q := 371) rfl ?_
  refine s_iload K X201 at_371 rfl (q := 373) rfl ?_
  refine s_if_eq K X201 at_373 (by decide) (q := 390) rfl (q' := 376) rfl (fun h_ => absurd h_ (by decide)) (fun _ => ?_)
  refine s_aload K X201 at_376 rfl rfl (q := 378) rfl ?_
  refine s_iconst K X201 at_378 (z := 2) rfl (q := 379) rfl ?_
  refine s_iloadN K X201 at_379 rfl (q := 380) rfl ?_
  refine s_callS K X201 0 at_380 (hw _ (List.mem_of_getElem? (i := 56) rfl)) (hw _ (List.mem_of_getElem? (i := 57) rfl)) (hw _ (List.mem_of_getElem? (i := 27) rfl)) (hw _ (List.mem_of_getElem? (i := 58) rfl)) (by decide) pd___Lcom_example_matchwright_matchwright_engine_Memory_Link_II_Z rfl e201 (argsL := [(.ref B), (.int (2 : Int32)), (.int (3 : Int32))]) (st := []) (c_alone_in l Z a0 hw _ B 2 3 (by decide)) rfl rfl (by decide) (Nat.le_of_eq rfl) (by decide) (by decide) (by decide) (q := 383) rfl (fun v202 T202 h202 L202 X202 e202 hQ202 => ?_)
  obtain ⟨rfl, rfl, rfl⟩ := hQ202
  refine s_if_eq K X202 at_383 (by decide) (q := 390) rfl (q' := 386) rfl (fun h_ => absurd h_ (by decide)) (fun _ => ?_)
  refine s_iconst K X202 at_386 (z := 1) rfl (q := 387) rfl ?_
  refine s_goto K X202 at_387 (by decide) (q := 391) rfl ?_
  refine s_istore K X202 at_391 (l' := #[.val (.int p1), .val (.int p2), .val (.int v0), .val (.int (3 : Int32)), .val (.int (0 : Int32)), .val (.ref B), .val (.ref xx), .val (.int ((3 : Int32) + (1 : Int32))), .val (.ref b182), .val (.int (1 : Int32))]) rfl (q := 393) rfl ?_
  refine s_iload K X202 at_393 rfl (q := 395) rfl ?_
  refine s_if_eq K X202 at_395 (by decide) (q := 412) rfl (q' := 398) rfl (fun h_ => absurd h_ (by decide)) (fun _ => ?_)
  refine s_aload K X202 at_398 rfl rfl (q := 400) rfl ?_
  refine s_iconst K X202 at_400 (z := 3) rfl (q := 401) rfl ?_
  refine s_iloadN K X202 at_401 rfl (q := 402) rfl ?_
  refine s_callS K X202 0 at_402 (hw _ (List.mem_of_getElem? (i := 56) rfl)) (hw _ (List.mem_of_getElem? (i := 57) rfl)) (hw _ (List.mem_of_getElem? (i := 27) rfl)) (hw _ (List.mem_of_getElem? (i := 58) rfl)) (by decide) pd___Lcom_example_matchwright_matchwright_engine_Memory_Link_II_Z rfl e202 (argsL := [(.ref B), (.int (3 : Int32)), (.int (3 : Int32))]) (st := []) (c_alone_3 l Z a0 hw _ B kB _ l3 3 F192.2.1 rfl (F192.1 3 (by decide)) (by decide)) rfl rfl (by decide) (Nat.le_of_eq rfl) (by decide) (by decide) (by decide) (q := 405) rfl (fun v203 T203 h203 L203 X203 e203 hQ203 => ?_)
  obtain ⟨rfl, rfl, rfl⟩ := hQ203
  refine s_if_eq K X203 at_405 (by decide) (q := 412) rfl (q' := 408) rfl (fun h_ => absurd h_ (by decide)) (fun _ => ?_)
  refine s_iconst K X203 at_408 (z := 1) rfl (q := 409) rfl ?_
  refine s_goto K X203 at_409 (by decide) (q := 413) rfl ?_
  refine s_istore K X203 at_413 (l' := #[.val (.int p1), .val (.int p2), .val (.int v0), .val (.int (3 : Int32)), .val (.int (0 : Int32)), .val (.ref B), .val (.ref xx), .val (.int ((3 : Int32) + (1 : Int32))), .val (.ref b182), .val (.int (1 : Int32))]) rfl (q := 415) rfl ?_
  refine s_iload K X203 at_415 rfl (q := 417) rfl ?_
  exact s_retZ K X203 at_417 rfl (by decide) e203 (by decide) (by decide) ⟨rfl, (Fr.app (Fr.app (Fr.app (Fr.app (Fr.app (Fr.app (Fr.app (Fr.app (Fr.app (Fr.app (Fr.app (Fr.app (Fr.app (Fr.app (Fr.app (Fr.app (Fr.app (Fr.app (Fr.app (Fr.app (Fr.app (Fr.app (Fr.app (Fr.app (Fr.app NN M177) M178) M179) (Fr.nil _)) M181) (Fr.nil _)) (fr_one gE)) (Fr.nil _)) (fr_one gE)) (Fr.nil _)) (fr_one gE)) (Fr.nil _)) (fr_one gE)) (Fr.nil _)) (fr_one gE)) (Fr.nil _)) (Fr.nil _)) (Fr.nil _)) (Fr.nil _)) (Fr.nil _)) (Fr.nil _)) (Fr.nil _)) (Fr.nil _)) (Fr.nil _)) (Fr.nil _))⟩
set_option maxRecDepth 65536 in
set_option maxHeartbeats 40000000 in
theorem c_tail_3_1 (l : Launch) (Z : State) (a0 : Array Value) (hw : ∀ d ∈ tables_1, d.before a0 Z = true) (S : Slots Z) {p : Program} {e : Env} {s : State} {m : MethodId} {args : Array Value} {below : List Frame} {meth : Method} {cod : Code} {T : State} {locs : List Loc} {h : Heap} (K : Cx Z p s m meth cod x.cls code maxLocals ret x.name) (X : Stand p l e room_1 s m args below meth cod T locs 11 24) (B : Addr) (kB : ClassId) (l0 l1 l2 l3 xx I : Addr) (v0 p1 p2 : Int32) (eT : T.heap = h) (P : Sep Z B [l0, l1, l2, l3, xx]) (F : Inv Z h B kB [l0, l1, l2, l3, xx] [0, 1, 2, 3, 4] [0, 1, 2, 3, 4] I v0) (NN : Fr Z.heap.size locs) :
    Goes p e below (Fini s room_1 (fun v h L => v = some (.int 1) ∧ Fr Z.heap.size L)) T (mkF m 93 #[.val (.int p1), .val (.int p2), .val (.int v0), .val (.int (3 : Int32)), .val (.int (1 : Int32)), .val (.ref B), .val (.ref xx), .unset, .unset, .unset] []) := by
  refine s_aload K X at_93 rfl rfl (q := 95) rfl ?_
  refine s_iconst K X at_95 (z := 0) rfl (q := 96) rfl ?_
  refine s_iloadN K X at_96 rfl (q := 97) rfl ?_
  refine s_callS K X 0 at_97 (hw _ (List.mem_of_getElem? (i := 25) rfl)) (hw _ (List.mem_of_getElem? (i := 26) rfl)) (hw _ (List.mem_of_getElem? (i := 27) rfl)) (hw _ (List.mem_of_getElem? (i := 28) rfl)) (by decide) pd___Lcom_example_matchwright_matchwright_engine_Memory_Link_II_V rfl eT (argsL := [(.ref B), (.int (0 : Int32)), (.int (3 : Int32))]) (st := []) (c_ring_0_3 l Z a0 hw S _ B kB [l0, l1, l2, l3, xx] [0, 1, 2, 3, 4] [0, 1, 2, 3, 4] I v0 P F rfl rfl) rfl rfl (by decide) (Nat.le_of_eq rfl) (by decide) (by decide) (by decide) (q := 100) rfl (fun v204 T204 h204 L204 X204 e204 hQ204 => ?_)
  obtain ⟨rfl, F204, M204⟩ := hQ204
  refine s_aload K X204 at_100 rfl rfl (q := 102) rfl ?_
  refine s_iconst K X204 at_102 (z := 1) rfl (q := 103) rfl ?_
  refine s_iloadN K X204 at_103 rfl (q := 104) rfl ?_
  refine s_callS K X204 0 at_104 (hw _ (List.mem_of_getElem? (i := 25) rfl)) (hw _ (List.mem_of_getElem? (i := 26) rfl)) (hw _ (List.mem_of_getElem? (i := 27) rfl)) (hw _ (List.mem_of_getElem? (i := 28) rfl)) (by decide) pd___Lcom_example_matchwright_matchwright_engine_Memory_Link_II_V rfl e204 (argsL := [(.ref B), (.int (1 : Int32)), (.int (3 : Int32))]) (st := []) (c_ring_1_3 l Z a0 hw S _ B kB [l0, l1, l2, l3, xx] [1, 1, 2, 3, 4] [2, 1, 2, 3, 4] I v0 P F204 rfl rfl) rfl rfl (by decide) (Nat.le_of_eq rfl) (by decide) (by decide) (by decide) (q := 107) rfl (fun v205 T205 h205 L205 X205 e205 hQ205 => ?_)
  obtain ⟨rfl, F205, M205⟩ := hQ205
  refine s_aload K X205 at_107 rfl rfl (q := 109) rfl ?_
  refine s_iconst K X205 at_109 (z := 2) rfl (q := 110) rfl ?_
  refine s_iloadN K X205 at_110 rfl (q := 111) rfl ?_
  refine s_callS K X205 0 at_111 (hw _ (List.mem_of_getElem? (i := 25) rfl)) (hw _ (List.mem_of_getElem? (i := 26) rfl)) (hw _ (List.mem_of_getElem? (i := 27) rfl)) (hw _ (List.mem_of_getElem? (i := 28) rfl)) (by decide) pd___Lcom_example_matchwright_matchwright_engine_Memory_Link_II_V rfl e205 (argsL := [(.ref B), (.int (2 : Int32)), (.int (3 : Int32))]) (st := []) (c_ring_2_3 l Z a0 hw S _ B kB [l0, l1, l2, l3, xx] [1, 2, 2, 3, 4] [2, 0, 2, 3, 4] I v0 P F205 rfl rfl) rfl rfl (by decide) (Nat.le_of_eq rfl) (by decide) (by decide) (by decide) (q := 114) rfl (fun v206 T206 h206 L206 X206 e206 hQ206 => ?_)
  obtain ⟨rfl, F206, M206⟩ := hQ206
  refine s_aload K X206 at_114 rfl rfl (q := 116) rfl ?_
  refine s_iconst K X206 at_116 (z := 3) rfl (q := 117) rfl ?_
  refine s_iloadN K X206 at_117 rfl (q := 118) rfl ?_
  refine s_callS K X206 0 at_118 (hw _ (List.mem_of_getElem? (i := 25) rfl)) (hw _ (List.mem_of_getElem? (i := 26) rfl)) (hw _ (List.mem_of_getElem? (i := 27) rfl)) (hw _ (List.mem_of_getElem? (i := 28) rfl)) (by decide) pd___Lcom_example_matchwright_matchwright_engine_Memory_Link_II_V rfl e206 (argsL := [(.ref B), (.int (3 : Int32)), (.int (3 : Int32))]) (st := []) (c_ring_no l Z a0 hw _ B 3 3 (by decide)) rfl rfl (by decide) (Nat.le_of_eq rfl) (by decide) (by decide) (by decide) (q := 121) rfl (fun v207 T207 h207 L207 X207 e207 hQ207 => ?_)
  obtain ⟨rfl, rfl, rfl⟩ := hQ207
  refine s_aload K X207 at_121 rfl rfl (q := 123) rfl ?_
  refine s_aload K X207 at_123 rfl rfl (q := 125) rfl ?_
  refine s_iload K X207 at_125 rfl (q := 127) rfl ?_
  refine s_ldV K X207 at_127 e207 F206.2.1 rfl (by decide) rfl (q := 128) rfl ?_
  refine s_callV K X207 0 (y := (⟨"com/example/matchwright/matchwright/engine/Memory$Link", "linkBefore", "(Lcom/example/matchwright/matchwright/engine/Memory$Link;)V"⟩ : MethodName)) (z := (⟨"com/example/matchwright/matchwright/engine/Memory$Link", "linkBefore", "(Lcom/example/matchwright/matchwright/engine/Memory$Link;)V"⟩ : MethodName)) at_128 (hw _ (List.mem_of_getElem? (i := 31) rfl)) (hw _ (List.mem_of_getElem? (i := 32) rfl)) (notFace_of_selects (args := #[]) (mvT K.hZ (hw _ (List.mem_of_getElem? (i := 34) rfl)))) (hw _ (List.mem_of_getElem? (i := 34) rfl)) (hw _ (List.mem_of_getElem? (i := 33) rfl)) (hw _ (List.mem_of_getElem? (i := 4) rfl)) (hw _ (List.mem_of_getElem? (i := 35) rfl)) (by decide) pd__Lcom_example_matchwright_matchwright_engine_Memory_Link__V rfl e207 (F206.1 4 (by decide)).1 (argsL := [(.ref l1)]) (st := []) (c_before l Z a0 hw S _ B kB [l0, l1, l2, l3, xx] [1, 2, 0, 3, 4] [2, 0, 1, 3, 4] I v0 P F206 rfl rfl 1 0 (by decide) (by decide) rfl rfl) rfl rfl (by decide) (Nat.le_of_eq rfl) (by decide) (by decide) (by decide) (q := 131) rfl (fun v208 T208 h208 L208 X208 e208 hQ208 => ?_)
  obtain ⟨rfl, F208, M208⟩ := hQ208
  refine s_iloadN K X208 at_131 rfl (q := 132) rfl ?_
  refine s_iconst K X208 at_132 (z := 1) rfl (q := 133) rfl ?_
  refine s_iadd K X208 at_133 (q := 134) rfl ?_
  refine s_istore K X208 at_134 (l' := #[.val (.int p1), .val (.int p2), .val (.int v0), .val (.int (3 : Int32)), .val (.int (1 : Int32)), .val (.ref B), .val (.ref xx), .val (.int ((3 : Int32) + (1 : Int32))), .unset, .unset]) rfl (q := 136) rfl ?_
  refine s_iconst K X208 at_136 (z := 5) rfl (q := 137) rfl ?_
  refine s_newV K X208 at_137 (hw _ (List.mem_of_getElem? (i := 1) rfl)) (hw _ (List.mem_of_getElem? (i := 2) rfl)) e208 (by decide) 5 (by decide) (by decide) (by decide) (by decide) (vs := [.null, .null, .null, .null, .null]) rfl (q := 140) rfl (fun T209 h209 b209 k209 g209 X209 e209 E209 V209 O209 => ?_)
  have gE : Z.heap.size ≤ b209 := by rw [g209]; exact old_le F208.2.2.2.2
  have nE : ∀ i, i < 5 → ([l0, l1, l2, l3, xx] : List Addr).getD i 0 ≠ b209 := fun i hi => Nat.ne_of_lt (by rw [g209]; exact (F208.1 i hi).1.lt)
  have nB : B ≠ b209 := Nat.ne_of_lt (by rw [g209]; exact F208.2.1.lt)
  have nI : I ≠ b209 := Nat.ne_of_lt (by rw [g209]; exact F208.2.2.2.1.1.lt)
  have F209 := F208.ext E209
  change Inv Z _ B kB [l0, l1, l2, l3, xx] [4, 2, 0, 3, 1] [2, 4, 1, 3, 0] I v0 at F209
  refine s_astore K X209 at_140 rfl (l' := #[.val (.int p1), .val (.int p2), .val (.int v0), .val (.int (3 : Int32)), .val (.int (1 : Int32)), .val (.ref B), .val (.ref xx), .val (.int ((3 : Int32) + (1 : Int32))), .val (.ref b209), .unset]) rfl (q := 142) rfl ?_
  refine s_aload K X209 at_142 rfl rfl (q := 144) rfl ?_
  refine s_iconst K X209 at_144 (z := 0) rfl (q := 145) rfl ?_
  refine s_aload K X209 at_145 rfl rfl (q := 147) rfl ?_
  refine s_aload K X209 at_147 rfl rfl (q := 149) rfl ?_
  refine s_iload K X209 at_149 rfl (q := 151) rfl ?_
  refine s_iconst K X209 at_151 (z := 0) rfl (q := 152) rfl ?_
  refine s_callS K X209 2 at_152 (hw _ (List.mem_of_getElem? (i := 36) rfl)) (hw _ (List.mem_of_getElem? (i := 37) rfl)) (hw _ (List.mem_of_getElem? (i := 27) rfl)) (hw _ (List.mem_of_getElem? (i := 38) rfl)) (by decide) pd___Lcom_example_matchwright_matchwright_engine_Memory_Link_Lcom_example_matchwright_matchwright_engine_Memory_Link_II_Lcom_example_matchwright_matchwright_engine_Memory_Link_ rfl e209 (argsL := [(.ref B), (.ref xx), (.int (1 : Int32)), (.int (0 : Int32))]) (st := [(.int (0 : Int32)), (.ref b209)]) (c_at_1_0 l Z a0 hw _ B kB [l0, l1, l2, l3, xx] [4, 2, 0, 3, 1] [2, 4, 1, 3, 0] I v0 F209) rfl rfl (by decide) (Nat.le_of_eq rfl) (by decide) (by decide) (by decide) (q := 155) rfl (fun v210 T210 h210 L210 X210 e210 hQ210 => ?_)
  obtain ⟨rfl, rfl, rfl⟩ := hQ210
  refine s_stV K X210 at_155 e210 V209 O209 (by decide) rfl (fun y hy => by cases hy; exact Ins.self (F209.1 0 (by decide)).1) 0 rfl (Nat.le_of_ble_eq_true rfl) (vs' := [(.ref l0), .null, .null, .null, .null]) rfl (q := 156) rfl (fun T211 h211 X211 e211 W211 V211 => ?_)
  have F211 := F209.other W211 nE nB nI gE
  refine s_aload K X211 at_156 rfl rfl (q := 158) rfl ?_
  refine s_iconst K X211 at_158 (z := 1) rfl (q := 159) rfl ?_
  refine s_aload K X211 at_159 rfl rfl (q := 161) rfl ?_
  refine s_aload K X211 at_161 rfl rfl (q := 163) rfl ?_
  refine s_iload K X211 at_163 rfl (q := 165) rfl ?_
  refine s_iconst K X211 at_165 (z := 1) rfl (q := 166) rfl ?_
  refine s_callS K X211 2 at_166 (hw _ (List.mem_of_getElem? (i := 36) rfl)) (hw _ (List.mem_of_getElem? (i := 37) rfl)) (hw _ (List.mem_of_getElem? (i := 27) rfl)) (hw _ (List.mem_of_getElem? (i := 38) rfl)) (by decide) pd___Lcom_example_matchwright_matchwright_engine_Memory_Link_Lcom_example_matchwright_matchwright_engine_Memory_Link_II_Lcom_example_matchwright_matchwright_engine_Memory_Link_ rfl e211 (argsL := [(.ref B), (.ref xx), (.int (1 : Int32)), (.int (1 : Int32))]) (st := [(.int (1 : Int32)), (.ref b209)]) (c_at_1_1 l Z a0 hw _ B kB [l0, l1, l2, l3, xx] [4, 2, 0, 3, 1] [2, 4, 1, 3, 0] I v0 F211) rfl rfl (by decide) (Nat.le_of_eq rfl) (by decide) (by decide) (by decide) (q := 169) rfl (fun v212 T212 h212 L212 X212 e212 hQ212 => ?_)
  obtain ⟨rfl, rfl, rfl⟩ := hQ212
  refine s_stV K X212 at_169 e212 V211 O209 (by decide) rfl (fun y hy => by cases hy; exact Ins.self (F211.1 4 (by decide)).1) 1 rfl (Nat.le_of_ble_eq_true rfl) (vs' := [(.ref l0), (.ref xx), .null, .null, .null]) rfl (q := 170) rfl (fun T213 h213 X213 e213 W213 V213 => ?_)
  have F213 := F211.other W213 nE nB nI gE
  refine s_aload K X213 at_170 rfl rfl (q := 172) rfl ?_
  refine s_iconst K X213 at_172 (z := 2) rfl (q := 173) rfl ?_
  refine s_aload K X213 at_173 rfl rfl (q := 175) rfl ?_
  refine s_aload K X213 at_175 rfl rfl (q := 177) rfl ?_
  refine s_iload K X213 at_177 rfl (q := 179) rfl ?_
  refine s_iconst K X213 at_179 (z := 2) rfl (q := 180) rfl ?_
  refine s_callS K X213 2 at_180 (hw _ (List.mem_of_getElem? (i := 36) rfl)) (hw _ (List.mem_of_getElem? (i := 37) rfl)) (hw _ (List.mem_of_getElem? (i := 27) rfl)) (hw _ (List.mem_of_getElem? (i := 38) rfl)) (by decide) pd___Lcom_example_matchwright_matchwright_engine_Memory_Link_Lcom_example_matchwright_matchwright_engine_Memory_Link_II_Lcom_example_matchwright_matchwright_engine_Memory_Link_ rfl e213 (argsL := [(.ref B), (.ref xx), (.int (1 : Int32)), (.int (2 : Int32))]) (st := [(.int (2 : Int32)), (.ref b209)]) (c_at_1_2 l Z a0 hw _ B kB [l0, l1, l2, l3, xx] [4, 2, 0, 3, 1] [2, 4, 1, 3, 0] I v0 F213) rfl rfl (by decide) (Nat.le_of_eq rfl) (by decide) (by decide) (by decide) (q := 183) rfl (fun v214 T214 h214 L214 X214 e214 hQ214 => ?_)
  obtain ⟨rfl, rfl, rfl⟩ := hQ214
  refine s_stV K X214 at_183 e214 V213 O209 (by decide) rfl (fun y hy => by cases hy; exact Ins.self (F213.1 1 (by decide)).1) 2 rfl (Nat.le_of_ble_eq_true rfl) (vs' := [(.ref l0), (.ref xx), (.ref l1), .null, .null]) rfl (q := 184) rfl (fun T215 h215 X215 e215 W215 V215 => ?_)
  have F215 := F213.other W215 nE nB nI gE
  refine s_aload K X215 at_184 rfl rfl (q := 186) rfl ?_
  refine s_iconst K X215 at_186 (z := 3) rfl (q := 187) rfl ?_
  refine s_aload K X215 at_187 rfl rfl (q := 189) rfl ?_
  refine s_aload K X215 at_189 rfl rfl (q := 191) rfl ?_
  refine s_iload K X215 at_191 rfl (q := 193) rfl ?_
  refine s_iconst K X215 at_193 (z := 3) rfl (q := 194) rfl ?_
  refine s_callS K X215 2 at_194 (hw _ (List.mem_of_getElem? (i := 36) rfl)) (hw _ (List.mem_of_getElem? (i := 37) rfl)) (hw _ (List.mem_of_getElem? (i := 27) rfl)) (hw _ (List.mem_of_getElem? (i := 38) rfl)) (by decide) pd___Lcom_example_matchwright_matchwright_engine_Memory_Link_Lcom_example_matchwright_matchwright_engine_Memory_Link_II_Lcom_example_matchwright_matchwright_engine_Memory_Link_ rfl e215 (argsL := [(.ref B), (.ref xx), (.int (1 : Int32)), (.int (3 : Int32))]) (st := [(.int (3 : Int32)), (.ref b209)]) (c_at_1_3 l Z a0 hw _ B kB [l0, l1, l2, l3, xx] [4, 2, 0, 3, 1] [2, 4, 1, 3, 0] I v0 F215) rfl rfl (by decide) (Nat.le_of_eq rfl) (by decide) (by decide) (by decide) (q := 197) rfl (fun v216 T216 h216 L216 X216 e216 hQ216 => ?_)
  obtain ⟨rfl, rfl, rfl⟩ := hQ216
  refine s_stV K X216 at_197 e216 V215 O209 (by decide) rfl (fun y hy => by cases hy; exact Ins.self (F215.1 2 (by decide)).1) 3 rfl (Nat.le_of_ble_eq_true rfl) (vs' := [(.ref l0), (.ref xx), (.ref l1), (.ref l2), .null]) rfl (q := 198) rfl (fun T217 h217 X217 e217 W217 V217 => ?_)
  have F217 := F215.other W217 nE nB nI gE
  refine s_aload K X217 at_198 rfl rfl (q := 200) rfl ?_
  refine s_iconst K X217 at_200 (z := 4) rfl (q := 201) rfl ?_
  refine s_aload K X217 at_201 rfl rfl (q := 203) rfl ?_
  refine s_aload K X217 at_203 rfl rfl (q := 205) rfl ?_
  refine s_iload K X217 at_205 rfl (q := 207) rfl ?_
  refine s_iconst K X217 at_207 (z := 4) rfl (q := 208) rfl ?_
  refine s_callS K X217 2 at_208 (hw _ (List.mem_of_getElem? (i := 36) rfl)) (hw _ (List.mem_of_getElem? (i := 37) rfl)) (hw _ (List.mem_of_getElem? (i := 27) rfl)) (hw _ (List.mem_of_getElem? (i := 38) rfl)) (by decide) pd___Lcom_example_matchwright_matchwright_engine_Memory_Link_Lcom_example_matchwright_matchwright_engine_Memory_Link_II_Lcom_example_matchwright_matchwright_engine_Memory_Link_ rfl e217 (argsL := [(.ref B), (.ref xx), (.int (1 : Int32)), (.int (4 : Int32))]) (st := [(.int (4 : Int32)), (.ref b209)]) (c_at_1_4 l Z a0 hw _ B kB [l0, l1, l2, l3, xx] [4, 2, 0, 3, 1] [2, 4, 1, 3, 0] I v0 F217) rfl rfl (by decide) (Nat.le_of_eq rfl) (by decide) (by decide) (by decide) (q := 211) rfl (fun v218 T218 h218 L218 X218 e218 hQ218 => ?_)
  obtain ⟨rfl, rfl, rfl⟩ := hQ218
  refine s_stV K X218 at_211 e218 V217 O209 (by decide) rfl (fun y hy => by cases hy; exact Ins.self (F217.1 3 (by decide)).1) 4 rfl (Nat.le_of_ble_eq_true rfl) (vs' := [(.ref l0), (.ref xx), (.ref l1), (.ref l2), (.ref l3)]) rfl (q := 212) rfl (fun T219 h219 X219 e219 W219 V219 => ?_)
  have F219 := F217.other W219 nE nB nI gE
  refine s_aload K X219 at_212 rfl rfl (q := 214) rfl ?_
  refine s_callV K X219 0 (y := (⟨"com/example/matchwright/matchwright/engine/Memory$Link", "item", "()Ljava/lang/Object;"⟩ : MethodName)) (z := (⟨"com/example/matchwright/matchwright/engine/Memory$Link", "item", "()Ljava/lang/Object;"⟩ : MethodName)) at_214 (hw _ (List.mem_of_getElem? (i := 39) rfl)) (hw _ (List.mem_of_getElem? (i := 40) rfl)) (notFace_of_selects (args := #[]) (mvT K.hZ (hw _ (List.mem_of_getElem? (i := 42) rfl)))) (hw _ (List.mem_of_getElem? (i := 42) rfl)) (hw _ (List.mem_of_getElem? (i := 41) rfl)) (hw _ (List.mem_of_getElem? (i := 4) rfl)) (hw _ (List.mem_of_getElem? (i := 43) rfl)) (by decide) pd___Ljava_lang_Object_ rfl e219 (F219.1 4 (by decide)).1 (argsL := []) (st := []) (c_item l Z a0 hw _ xx I F219.2.2.1) rfl rfl (by decide) (Nat.le_of_eq rfl) (by decide) (by decide) (by decide) (q := 217) rfl (fun v220 T220 h220 L220 X220 e220 hQ220 => ?_)
  obtain ⟨rfl, rfl, rfl⟩ := hQ220
  refine s_castY K X220 at_217 (hw _ (List.mem_of_getElem? (i := 44) rfl)) e220 (Ins.self F219.2.2.2.1.1) (q := 220) rfl (fun T221 X221 e221 => ?_)
  refine s_callV K X221 0 (y := (⟨"java/lang/Integer", "intValue", "()I"⟩ : MethodName)) (z := (⟨"java/lang/Integer", "intValue", "()I"⟩ : MethodName)) at_220 (hw _ (List.mem_of_getElem? (i := 46) rfl)) (hw _ (List.mem_of_getElem? (i := 47) rfl)) (notFace_of_selects (args := #[]) (mvT K.hZ (hw _ (List.mem_of_getElem? (i := 49) rfl)))) (hw _ (List.mem_of_getElem? (i := 49) rfl)) (hw _ (List.mem_of_getElem? (i := 48) rfl)) (hw _ (List.mem_of_getElem? (i := 7) rfl)) (hw _ (List.mem_of_getElem? (i := 50) rfl)) (by decide) pd___I rfl e221 F219.2.2.2.1.1 (argsL := []) (st := []) (c_intValue l Z a0 hw _ I v0 F219.2.2.2.1) rfl rfl (by decide) (Nat.le_of_eq rfl) (by decide) (by decide) (by decide) (q := 223) rfl (fun v222 T222 h222 L222 X222 e222 hQ222 => ?_)
  obtain ⟨rfl, rfl, rfl⟩ := hQ222
  refine s_iloadN K X222 at_223 rfl (q := 224) rfl ?_
  refine s_icmp_ne K X222 at_224 (by decide) (q := 231) rfl (q' := 227) rfl (fun h_ => absurd rfl h_) (fun _ => ?_)
  refine s_iconst K X222 at_227 (z := 1) rfl (q := 228) rfl ?_
  refine s_goto K X222 at_228 (by decide) (q := 232) rfl ?_
  refine s_istore K X222 at_232 (l' := #[.val (.int p1), .val (.int p2), .val (.int v0), .val (.int (3 : Int32)), .val (.int (1 : Int32)), .val (.ref B), .val (.ref xx), .val (.int ((3 : Int32) + (1 : Int32))), .val (.ref b209), .val (.int (1 : Int32))]) rfl (q := 234) rfl ?_
  refine s_iload K X222 at_234 rfl (q := 236) rfl ?_
  refine s_if_eq K X222 at_236 (by decide) (q := 254) rfl (q' := 239) rfl (fun h_ => absurd h_ (by decide)) (fun _ => ?_)
  refine s_aload K X222 at_239 rfl rfl (q := 241) rfl ?_
  refine s_iconst K X222 at_241 (z := 0) rfl (q := 242) rfl ?_
  refine s_iload K X222 at_242 rfl (q := 244) rfl ?_
  refine s_callS K X222 0 at_244 (hw _ (List.mem_of_getElem? (i := 53) rfl)) (hw _ (List.mem_of_getElem? (i := 54) rfl)) (hw _ (List.mem_of_getElem? (i := 27) rfl)) (hw _ (List.mem_of_getElem? (i := 55) rfl)) (by decide) pd___Lcom_example_matchwright_matchwright_engine_Memory_Link_II_Z rfl e222 (argsL := [(.ref b209), (.int (0 : Int32)), (.int ((3 : Int32) + (1 : Int32)))]) (st := []) (c_check_0_4 l Z a0 hw _ b209 _ _ l0 xx l2 V219 rfl rfl rfl (F219.1 0 (by decide))) rfl rfl (by decide) (Nat.le_of_eq rfl) (by decide) (by decide) (by decide) (q := 247) rfl (fun v223 T223 h223 L223 X223 e223 hQ223 => ?_)
  obtain ⟨rfl, rfl, rfl⟩ := hQ223
  refine s_if_eq K X223 at_247 (by decide) (q := 254) rfl (q' := 250) rfl (fun h_ => absurd h_ (by decide)) (fun _ => ?_)
  refine s_iconst K X223 at_250 (z := 1) rfl (q := 251) rfl ?_
  refine s_goto K X223 at_251 (by decide) (q := 255) rfl ?_
  refine s_istore K X223 at_255 (l' := #[.val (.int p1), .val (.int p2), .val (.int v0), .val (.int (3 : Int32)), .val (.int (1 : Int32)), .val (.ref B), .val (.ref xx), .val (.int ((3 : Int32) + (1 : Int32))), .val (.ref b209), .val (.int (1 : Int32))]) rfl (q := 257) rfl ?_
  refine s_iload K X223 at_257 rfl (q := 259) rfl ?_
  refine s_if_eq K X223 at_259 (by decide) (q := 277) rfl (q' := 262) rfl (fun h_ => absurd h_ (by decide)) (fun _ => ?_)
  refine s_aload K X223 at_262 rfl rfl (q := 264) rfl ?_
  refine s_iconst K X223 at_264 (z := 1) rfl (q := 265) rfl ?_
  refine s_iload K X223 at_265 rfl (q := 267) rfl ?_
  refine s_callS K X223 0 at_267 (hw _ (List.mem_of_getElem? (i := 53) rfl)) (hw _ (List.mem_of_getElem? (i := 54) rfl)) (hw _ (List.mem_of_getElem? (i := 27) rfl)) (hw _ (List.mem_of_getElem? (i := 55) rfl)) (by decide) pd___Lcom_example_matchwright_matchwright_engine_Memory_Link_II_Z rfl e223 (argsL := [(.ref b209), (.int (1 : Int32)), (.int ((3 : Int32) + (1 : Int32)))]) (st := []) (c_check_1_4 l Z a0 hw _ b209 _ _ xx l1 l0 V219 rfl rfl rfl (F219.1 4 (by decide))) rfl rfl (by decide) (Nat.le_of_eq rfl) (by decide) (by decide) (by decide) (q := 270) rfl (fun v224 T224 h224 L224 X224 e224 hQ224 => ?_)
  obtain ⟨rfl, rfl, rfl⟩ := hQ224
  refine s_if_eq K X224 at_270 (by decide) (q := 277) rfl (q' := 273) rfl (fun h_ => absurd h_ (by decide)) (fun _ => ?_)
  refine s_iconst K X224 at_273 (z := 1) rfl (q := 274) rfl ?_
  refine s_goto K X224 at_274 (by decide) (q := 278) rfl ?_
  refine s_istore K X224 at_278 (l' := #[.val (.int p1), .val (.int p2), .val (.int v0), .val (.int (3 : Int32)), .val (.int (1 : Int32)), .val (.ref B), .val (.ref xx), .val (.int ((3 : Int32) + (1 : Int32))), .val (.ref b209), .val (.int (1 : Int32))]) rfl (q := 280) rfl ?_
  refine s_iload K X224 at_280 rfl (q := 282) rfl ?_
  refine s_if_eq K X224 at_282 (by decide) (q := 300) rfl (q' := 285) rfl (fun h_ => absurd h_ (by decide)) (fun _ => ?_)
  refine s_aload K X224 at_285 rfl rfl (q := 287) rfl ?_
  refine s_iconst K X224 at_287 (z := 2) rfl (q := 288) rfl ?_
  refine s_iload K X224 at_288 rfl (q := 290) rfl ?_
  refine s_callS K X224 0 at_290 (hw _ (List.mem_of_getElem? (i := 53) rfl)) (hw _ (List.mem_of_getElem? (i := 54) rfl)) (hw _ (List.mem_of_getElem? (i := 27) rfl)) (hw _ (List.mem_of_getElem? (i := 55) rfl)) (by decide) pd___Lcom_example_matchwright_matchwright_engine_Memory_Link_II_Z rfl e224 (argsL := [(.ref b209), (.int (2 : Int32)), (.int ((3 : Int32) + (1 : Int32)))]) (st := []) (c_check_2_4 l Z a0 hw _ b209 _ _ l1 l2 xx V219 rfl rfl rfl (F219.1 1 (by decide))) rfl rfl (by decide) (Nat.le_of_eq rfl) (by decide) (by decide) (by decide) (q := 293) rfl (fun v225 T225 h225 L225 X225 e225 hQ225 => ?_)
  obtain ⟨rfl, rfl, rfl⟩ := hQ225
  refine s_if_eq K X225 at_293 (by decide) (q := 300) rfl (q' := 296) rfl (fun h_ => absurd h_ (by decide)) (fun _ => ?_)
  refine s_iconst K X225 at_296 (z := 1) rfl (q := 297) rfl ?_
  refine s_goto K X225 at_297 (by decide) (q := 301) rfl ?_
  refine s_istore K X225 at_301 (l' := #[.val (.int p1), .val (.int p2), .val (.int v0), .val (.int (3 : Int32)), .val (.int (1 : Int32)), .val (.ref B), .val (.ref xx), .val (.int ((3 : Int32) + (1 : Int32))), .val (.ref b209), .val (.int (1 : Int32))]) rfl (q := 303) rfl ?_
  refine s_iload K X225 at_303 rfl (q := 305) rfl ?_
  refine s_if_eq K X225 at_305 (by decide) (q := 323) rfl (q' := 308) rfl (fun h_ => absurd h_ (by decide)) (fun _ => ?_)
  refine s_aload K X225 at_308 rfl rfl (q := 310) rfl ?_
  refine s_iconst K X225 at_310 (z := 3) rfl (q := 311) rfl ?_
  refine s_iload K X225 at_311 rfl (q := 313) rfl ?_
  refine s_callS K X225 0 at_313 (hw _ (List.mem_of_getElem? (i := 53) rfl)) (hw _ (List.mem_of_getElem? (i := 54) rfl)) (hw _ (List.mem_of_getElem? (i := 27) rfl)) (hw _ (List.mem_of_getElem? (i := 55) rfl)) (by decide) pd___Lcom_example_matchwright_matchwright_engine_Memory_Link_II_Z rfl e225 (argsL := [(.ref b209), (.int (3 : Int32)), (.int ((3 : Int32) + (1 : Int32)))]) (st := []) (c_check_3_4 l Z a0 hw _ b209 _ _ l2 l0 l1 V219 rfl rfl rfl (F219.1 2 (by decide))) rfl rfl (by decide) (Nat.le_of_eq rfl) (by decide) (by decide) (by decide) (q := 316) rfl (fun v226 T226 h226 L226 X226 e226 hQ226 => ?_)
  obtain ⟨rfl, rfl, rfl⟩ := hQ226
  refine s_if_eq K X226 at_316 (by decide) (q := 323) rfl (q' := 319) rfl (fun h_ => absurd h_ (by decide)) (fun _ => ?_)
  refine s_iconst K X226 at_319 (z := 1) rfl (q := 320) rfl ?_
  refine s_goto K X226 at_320 (by decide) (q := 324) rfl ?_
  refine s_istore K X226 at_324 (l' := #[.val (.int p1), .val (.int p2), .val (.int v0), .val (.int (3 : Int32)), .val (.int (1 : Int32)), .val (.ref B), .val (.ref xx), .val (.int ((3 : Int32) + (1 : Int32))), .val (.ref b209), .val (.int (1 : Int32))]) rfl (q := 326) rfl ?_
  refine s_iload K X226 at_326 rfl (q := 328) rfl ?_
  refine s_if_eq K X226 at_328 (by decide) (q := 346) rfl (q' := 331) rfl (fun h_ => absurd h_ (by decide)) (fun _ => ?_)
  refine s_aload K X226 at_331 rfl rfl (q := 333) rfl ?_
  refine s_iconst K X226 at_333 (z := 4) rfl (q := 334) rfl ?_
  refine s_iload K X226 at_334 rfl (q := 336) rfl ?_
  refine s_callS K X226 0 at_336 (hw _ (List.mem_of_getElem? (i := 53) rfl)) (hw _ (List.mem_of_getElem? (i := 54) rfl)) (hw _ (List.mem_of_getElem? (i := 27) rfl)) (hw _ (List.mem_of_getElem? (i := 55) rfl)) (by decide) pd___Lcom_example_matchwright_matchwright_engine_Memory_Link_II_Z rfl e226 (argsL := [(.ref b209), (.int (4 : Int32)), (.int ((3 : Int32) + (1 : Int32)))]) (st := []) (c_check_no l Z a0 hw _ b209 4 4 (by decide)) rfl rfl (by decide) (Nat.le_of_eq rfl) (by decide) (by decide) (by decide) (q := 339) rfl (fun v227 T227 h227 L227 X227 e227 hQ227 => ?_)
  obtain ⟨rfl, rfl, rfl⟩ := hQ227
  refine s_if_eq K X227 at_339 (by decide) (q := 346) rfl (q' := 342) rfl (fun h_ => absurd h_ (by decide)) (fun _ => ?_)
  refine s_iconst K X227 at_342 (z := 1) rfl (q := 343) rfl ?_
  refine s_goto K X227 at_343 (by decide) (q := 347) rfl ?_
  refine s_istore K X227 at_347 (l' := #[.val (.int p1), .val (.int p2), .val (.int v0), .val (.int (3 : Int32)), .val (.int (1 : Int32)), .val (.ref B), .val (.ref xx), .val (.int ((3 : Int32) + (1 : Int32))), .val (.ref b209), .val (.int (1 : Int32))]) rfl (q := 349) rfl ?_
  refine s_iload K X227 at_349 rfl (q := 351) rfl ?_
  refine s_if_eq K X227 at_351 (by decide) (q := 368) rfl (q' := 354) rfl (fun h_ => absurd h_ (by decide)) (fun _ => ?_)
  refine s_aload K X227 at_354 rfl rfl (q := 356) rfl ?_
  refine s_iconst K X227 at_356 (z := 1) rfl (q := 357) rfl ?_
  refine s_iloadN K X227 at_357 rfl (q := 358) rfl ?_
  refine s_callS K X227 0 at_358 (hw _ (List.mem_of_getElem? (i := 56) rfl)) (hw _ (List.mem_of_getElem? (i := 57) rfl)) (hw _ (List.mem_of_getElem? (i := 27) rfl)) (hw _ (List.mem_of_getElem? (i := 58) rfl)) (by decide) pd___Lcom_example_matchwright_matchwright_engine_Memory_Link_II_Z rfl e227 (argsL := [(.ref B), (.int (1 : Int32)), (.int (3 : Int32))]) (st := []) (c_alone_in l Z a0 hw _ B 1 3 (by decide)) rfl rfl (by decide) (Nat.le_of_eq rfl) (by decide) (by decide) (by decide) (q := 361) rfl (fun v228 T228 h228 L228 X228 e228 hQ228 => ?_)
  obtain ⟨rfl, rfl, rfl⟩ := hQ228
  refine s_if_eq K X228 at_361 (by decide) (q := 368) rfl (q' := 364) rfl (fun h_ => absurd h_ (by decide)) (fun _ => ?_)
  refine s_iconst K X228 at_364 (z := 1) rfl (q := 365) rfl ?_
  refine s_goto K X228 at_365 (by decide) (q := 369) rfl ?_
  refine s_istore K X228 at_369 (l' := #[.val (.int p1), .val (.int p2), .val (.int v0), .val (.int (3 : Int32)), .val (.int (1 : Int32)), .val (.ref B), .val (.ref xx), .val (.int ((3 : Int32) + (1 : Int32))), .val (.ref b209), .val (.int (1 : Int32))]) rfl (q := 371) rfl ?_
  refine s_iload K X228 at_371 rfl (q := 373) rfl ?_
  refine s_if_eq K X228 at_373 (by decide) (q := 390) rfl (q' := 376) rfl (fun h_ => absurd h_ (by decide)) (fun _ => ?_)
  refine s_aload K X228 at_376 rfl rfl (q := 378) rfl ?_
  refine s_iconst K X228 at_378 (z := 2) rfl (q := 379) rfl ?_
  refine s_iloadN K X228 at_379 rfl (q := 380) rfl ?_
  refine s_callS K X228 0 at_380 (hw _ (List.mem_of_getElem? (i := 56) rfl)) (hw _ (List.mem_of_getElem? (i := 57) rfl)) (hw _ (List.mem_of_getElem? (i := 27) rfl)) (hw _ (List.mem_of_getElem? (i := 58) rfl)) (by decide) pd___Lcom_example_matchwright_matchwright_engine_Memory_Link_II_Z rfl e228 (argsL := [(.ref B), (.int (2 : Int32)), (.int (3 : Int32))]) (st := []) (c_alone_in l Z a0 hw _ B 2 3 (by decide)) rfl rfl (by decide) (Nat.le_of_eq rfl) (by decide) (by decide) (by decide) (q := 383) rfl (fun v229 T229 h229 L229 X229 e229 hQ229 => ?_)
  obtain ⟨rfl, rfl, rfl⟩ := hQ229
  refine s_if_eq K X229 at_383 (by decide) (q := 390) rfl (q' := 386) rfl (fun h_ => absurd h_ (by decide)) (fun _ => ?_)
  refine s_iconst K X229 at_386 (z := 1) rfl (q := 387) rfl ?_
  refine s_goto K X229 at_387 (by decide) (q := 391) rfl ?_
  refine s_istore K X229 at_391 (l' := #[.val (.int p1), .val (.int p2), .val (.int v0), .val (.int (3 : Int32)), .val (.int (1 : Int32)), .val (.ref B), .val (.ref xx), .val (.int ((3 : Int32) + (1 : Int32))), .val (.ref b209), .val (.int (1 : Int32))]) rfl (q := 393) rfl ?_
  refine s_iload K X229 at_393 rfl (q := 395) rfl ?_
  refine s_if_eq K X229 at_395 (by decide) (q := 412) rfl (q' := 398) rfl (fun h_ => absurd h_ (by decide)) (fun _ => ?_)
  refine s_aload K X229 at_398 rfl rfl (q := 400) rfl ?_
  refine s_iconst K X229 at_400 (z := 3) rfl (q := 401) rfl ?_
  refine s_iloadN K X229 at_401 rfl (q := 402) rfl ?_
  refine s_callS K X229 0 at_402 (hw _ (List.mem_of_getElem? (i := 56) rfl)) (hw _ (List.mem_of_getElem? (i := 57) rfl)) (hw _ (List.mem_of_getElem? (i := 27) rfl)) (hw _ (List.mem_of_getElem? (i := 58) rfl)) (by decide) pd___Lcom_example_matchwright_matchwright_engine_Memory_Link_II_Z rfl e229 (argsL := [(.ref B), (.int (3 : Int32)), (.int (3 : Int32))]) (st := []) (c_alone_3 l Z a0 hw _ B kB _ l3 3 F219.2.1 rfl (F219.1 3 (by decide)) (by decide)) rfl rfl (by decide) (Nat.le_of_eq rfl) (by decide) (by decide) (by decide) (q := 405) rfl (fun v230 T230 h230 L230 X230 e230 hQ230 => ?_)
  obtain ⟨rfl, rfl, rfl⟩ := hQ230
  refine s_if_eq K X230 at_405 (by decide) (q := 412) rfl (q' := 408) rfl (fun h_ => absurd h_ (by decide)) (fun _ => ?_)
  refine s_iconst K X230 at_408 (z := 1) rfl (q := 409) rfl ?_
  refine s_goto K X230 at_409 (by decide) (q := 413) rfl ?_
  refine s_istore K X230 at_413 (l' := #[.val (.int p1), .val (.int p2), .val (.int v0), .val (.int (3 : Int32)), .val (.int (1 : Int32)), .val (.ref B), .val (.ref xx), .val (.int ((3 : Int32) + (1 : Int32))), .val (.ref b209), .val (.int (1 : Int32))]) rfl (q := 415) rfl ?_
  refine s_iload K X230 at_415 rfl (q := 417) rfl ?_
  exact s_retZ K X230 at_417 rfl (by decide) e230 (by decide) (by decide) ⟨rfl, (Fr.app (Fr.app (Fr.app (Fr.app (Fr.app (Fr.app (Fr.app (Fr.app (Fr.app (Fr.app (Fr.app (Fr.app (Fr.app (Fr.app (Fr.app (Fr.app (Fr.app (Fr.app (Fr.app (Fr.app (Fr.app (Fr.app (Fr.app (Fr.app (Fr.app NN M204) M205) M206) (Fr.nil _)) M208) (Fr.nil _)) (fr_one gE)) (Fr.nil _)) (fr_one gE)) (Fr.nil _)) (fr_one gE)) (Fr.nil _)) (fr_one gE)) (Fr.nil _)) (fr_one gE)) (Fr.nil _)) (Fr.nil _)) (Fr.nil _)) (Fr.nil _)) (Fr.nil _)) (Fr.nil _)) (Fr.nil _)) (Fr.nil _)) (Fr.nil _)) (Fr.nil _))⟩
set_option maxRecDepth 65536 in
set_option maxHeartbeats 40000000 in
theorem c_tail_3_2 (l : Launch) (Z : State) (a0 : Array Value) (hw : ∀ d ∈ tables_1, d.before a0 Z = true) (S : Slots Z) {p : Program} {e : Env} {s : State} {m : MethodId} {args : Array Value} {below : List Frame} {meth : Method} {cod : Code} {T : State} {locs : List Loc} {h : Heap} (K : Cx Z p s m meth cod x.cls code maxLocals ret x.name) (X : Stand p l e room_1 s m args below meth cod T locs 11 24) (B : Addr) (kB : ClassId) (l0 l1 l2 l3 xx I : Addr) (v0 p1 p2 : Int32) (eT : T.heap = h) (P : Sep Z B [l0, l1, l2, l3, xx]) (F : Inv Z h B kB [l0, l1, l2, l3, xx] [0, 1, 2, 3, 4] [0, 1, 2, 3, 4] I v0) (NN : Fr Z.heap.size locs) :
    Goes p e below (Fini s room_1 (fun v h L => v = some (.int 1) ∧ Fr Z.heap.size L)) T (mkF m 93 #[.val (.int p1), .val (.int p2), .val (.int v0), .val (.int (3 : Int32)), .val (.int (2 : Int32)), .val (.ref B), .val (.ref xx), .unset, .unset, .unset] []) := by
  refine s_aload K X at_93 rfl rfl (q := 95) rfl ?_
  refine s_iconst K X at_95 (z := 0) rfl (q := 96) rfl ?_
  refine s_iloadN K X at_96 rfl (q := 97) rfl ?_
  refine s_callS K X 0 at_97 (hw _ (List.mem_of_getElem? (i := 25) rfl)) (hw _ (List.mem_of_getElem? (i := 26) rfl)) (hw _ (List.mem_of_getElem? (i := 27) rfl)) (hw _ (List.mem_of_getElem? (i := 28) rfl)) (by decide) pd___Lcom_example_matchwright_matchwright_engine_Memory_Link_II_V rfl eT (argsL := [(.ref B), (.int (0 : Int32)), (.int (3 : Int32))]) (st := []) (c_ring_0_3 l Z a0 hw S _ B kB [l0, l1, l2, l3, xx] [0, 1, 2, 3, 4] [0, 1, 2, 3, 4] I v0 P F rfl rfl) rfl rfl (by decide) (Nat.le_of_eq rfl) (by decide) (by decide) (by decide) (q := 100) rfl (fun v231 T231 h231 L231 X231 e231 hQ231 => ?_)
  obtain ⟨rfl, F231, M231⟩ := hQ231
  refine s_aload K X231 at_100 rfl rfl (q := 102) rfl ?_
  refine s_iconst K X231 at_102 (z := 1) rfl (q := 103) rfl ?_
  refine s_iloadN K X231 at_103 rfl (q := 104) rfl ?_
  refine s_callS K X231 0 at_104 (hw _ (List.mem_of_getElem? (i := 25) rfl)) (hw _ (List.mem_of_getElem? (i := 26) rfl)) (hw _ (List.mem_of_getElem? (i := 27) rfl)) (hw _ (List.mem_of_getElem? (i := 28) rfl)) (by decide) pd___Lcom_example_matchwright_matchwright_engine_Memory_Link_II_V rfl e231 (argsL := [(.ref B), (.int (1 : Int32)), (.int (3 : Int32))]) (st := []) (c_ring_1_3 l Z a0 hw S _ B kB [l0, l1, l2, l3, xx] [1, 1, 2, 3, 4] [2, 1, 2, 3, 4] I v0 P F231 rfl rfl) rfl rfl (by decide) (Nat.le_of_eq rfl) (by decide) (by decide) (by decide) (q := 107) rfl (fun v232 T232 h232 L232 X232 e232 hQ232 => ?_)
  obtain ⟨rfl, F232, M232⟩ := hQ232
  refine s_aload K X232 at_107 rfl rfl (q := 109) rfl ?_
  refine s_iconst K X232 at_109 (z := 2) rfl (q := 110) rfl ?_
  refine s_iloadN K X232 at_110 rfl (q := 111) rfl ?_
  refine s_callS K X232 0 at_111 (hw _ (List.mem_of_getElem? (i := 25) rfl)) (hw _ (List.mem_of_getElem? (i := 26) rfl)) (hw _ (List.mem_of_getElem? (i := 27) rfl)) (hw _ (List.mem_of_getElem? (i := 28) rfl)) (by decide) pd___Lcom_example_matchwright_matchwright_engine_Memory_Link_II_V rfl e232 (argsL := [(.ref B), (.int (2 : Int32)), (.int (3 : Int32))]) (st := []) (c_ring_2_3 l Z a0 hw S _ B kB [l0, l1, l2, l3, xx] [1, 2, 2, 3, 4] [2, 0, 2, 3, 4] I v0 P F232 rfl rfl) rfl rfl (by decide) (Nat.le_of_eq rfl) (by decide) (by decide) (by decide) (q := 114) rfl (fun v233 T233 h233 L233 X233 e233 hQ233 => ?_)
  obtain ⟨rfl, F233, M233⟩ := hQ233
  refine s_aload K X233 at_114 rfl rfl (q := 116) rfl ?_
  refine s_iconst K X233 at_116 (z := 3) rfl (q := 117) rfl ?_
  refine s_iloadN K X233 at_117 rfl (q := 118) rfl ?_
  refine s_callS K X233 0 at_118 (hw _ (List.mem_of_getElem? (i := 25) rfl)) (hw _ (List.mem_of_getElem? (i := 26) rfl)) (hw _ (List.mem_of_getElem? (i := 27) rfl)) (hw _ (List.mem_of_getElem? (i := 28) rfl)) (by decide) pd___Lcom_example_matchwright_matchwright_engine_Memory_Link_II_V rfl e233 (argsL := [(.ref B), (.int (3 : Int32)), (.int (3 : Int32))]) (st := []) (c_ring_no l Z a0 hw _ B 3 3 (by decide)) rfl rfl (by decide) (Nat.le_of_eq rfl) (by decide) (by decide) (by decide) (q := 121) rfl (fun v234 T234 h234 L234 X234 e234 hQ234 => ?_)
  obtain ⟨rfl, rfl, rfl⟩ := hQ234
  refine s_aload K X234 at_121 rfl rfl (q := 123) rfl ?_
  refine s_aload K X234 at_123 rfl rfl (q := 125) rfl ?_
  refine s_iload K X234 at_125 rfl (q := 127) rfl ?_
  refine s_ldV K X234 at_127 e234 F233.2.1 rfl (by decide) rfl (q := 128) rfl ?_
  refine s_callV K X234 0 (y := (⟨"com/example/matchwright/matchwright/engine/Memory$Link", "linkBefore", "(Lcom/example/matchwright/matchwright/engine/Memory$Link;)V"⟩ : MethodName)) (z := (⟨"com/example/matchwright/matchwright/engine/Memory$Link", "linkBefore", "(Lcom/example/matchwright/matchwright/engine/Memory$Link;)V"⟩ : MethodName)) at_128 (hw _ (List.mem_of_getElem? (i := 31) rfl)) (hw _ (List.mem_of_getElem? (i := 32) rfl)) (notFace_of_selects (args := #[]) (mvT K.hZ (hw _ (List.mem_of_getElem? (i := 34) rfl)))) (hw _ (List.mem_of_getElem? (i := 34) rfl)) (hw _ (List.mem_of_getElem? (i := 33) rfl)) (hw _ (List.mem_of_getElem? (i := 4) rfl)) (hw _ (List.mem_of_getElem? (i := 35) rfl)) (by decide) pd__Lcom_example_matchwright_matchwright_engine_Memory_Link__V rfl e234 (F233.1 4 (by decide)).1 (argsL := [(.ref l2)]) (st := []) (c_before l Z a0 hw S _ B kB [l0, l1, l2, l3, xx] [1, 2, 0, 3, 4] [2, 0, 1, 3, 4] I v0 P F233 rfl rfl 2 1 (by decide) (by decide) rfl rfl) rfl rfl (by decide) (Nat.le_of_eq rfl) (by decide) (by decide) (by decide) (q := 131) rfl (fun v235 T235 h235 L235 X235 e235 hQ235 => ?_)
  obtain ⟨rfl, F235, M235⟩ := hQ235
  refine s_iloadN K X235 at_131 rfl (q := 132) rfl ?_
  refine s_iconst K X235 at_132 (z := 1) rfl (q := 133) rfl ?_
  refine s_iadd K X235 at_133 (q := 134) rfl ?_
  refine s_istore K X235 at_134 (l' := #[.val (.int p1), .val (.int p2), .val (.int v0), .val (.int (3 : Int32)), .val (.int (2 : Int32)), .val (.ref B), .val (.ref xx), .val (.int ((3 : Int32) + (1 : Int32))), .unset, .unset]) rfl (q := 136) rfl ?_
  refine s_iconst K X235 at_136 (z := 5) rfl (q := 137) rfl ?_
  refine s_newV K X235 at_137 (hw _ (List.mem_of_getElem? (i := 1) rfl)) (hw _ (List.mem_of_getElem? (i := 2) rfl)) e235 (by decide) 5 (by decide) (by decide) (by decide) (by decide) (vs := [.null, .null, .null, .null, .null]) rfl (q := 140) rfl (fun T236 h236 b236 k236 g236 X236 e236 E236 V236 O236 => ?_)
  have gE : Z.heap.size ≤ b236 := by rw [g236]; exact old_le F235.2.2.2.2
  have nE : ∀ i, i < 5 → ([l0, l1, l2, l3, xx] : List Addr).getD i 0 ≠ b236 := fun i hi => Nat.ne_of_lt (by rw [g236]; exact (F235.1 i hi).1.lt)
  have nB : B ≠ b236 := Nat.ne_of_lt (by rw [g236]; exact F235.2.1.lt)
  have nI : I ≠ b236 := Nat.ne_of_lt (by rw [g236]; exact F235.2.2.2.1.1.lt)
  have F236 := F235.ext E236
  change Inv Z _ B kB [l0, l1, l2, l3, xx] [1, 4, 0, 3, 2] [2, 0, 4, 3, 1] I v0 at F236
  refine s_astore K X236 at_140 rfl (l' := #[.val (.int p1), .val (.int p2), .val (.int v0), .val (.int (3 : Int32)), .val (.int (2 : Int32)), .val (.ref B), .val (.ref xx), .val (.int ((3 : Int32) + (1 : Int32))), .val (.ref b236), .unset]) rfl (q := 142) rfl ?_
  refine s_aload K X236 at_142 rfl rfl (q := 144) rfl ?_
  refine s_iconst K X236 at_144 (z := 0) rfl (q := 145) rfl ?_
  refine s_aload K X236 at_145 rfl rfl (q := 147) rfl ?_
  refine s_aload K X236 at_147 rfl rfl (q := 149) rfl ?_
  refine s_iload K X236 at_149 rfl (q := 151) rfl ?_
  refine s_iconst K X236 at_151 (z := 0) rfl (q := 152) rfl ?_
  refine s_callS K X236 2 at_152 (hw _ (List.mem_of_getElem? (i := 36) rfl)) (hw _ (List.mem_of_getElem? (i := 37) rfl)) (hw _ (List.mem_of_getElem? (i := 27) rfl)) (hw _ (List.mem_of_getElem? (i := 38) rfl)) (by decide) pd___Lcom_example_matchwright_matchwright_engine_Memory_Link_Lcom_example_matchwright_matchwright_engine_Memory_Link_II_Lcom_example_matchwright_matchwright_engine_Memory_Link_ rfl e236 (argsL := [(.ref B), (.ref xx), (.int (2 : Int32)), (.int (0 : Int32))]) (st := [(.int (0 : Int32)), (.ref b236)]) (c_at_2_0 l Z a0 hw _ B kB [l0, l1, l2, l3, xx] [1, 4, 0, 3, 2] [2, 0, 4, 3, 1] I v0 F236) rfl rfl (by decide) (Nat.le_of_eq rfl) (by decide) (by decide) (by decide) (q := 155) rfl (fun v237 T237 h237 L237 X237 e237 hQ237 => ?_)
  obtain ⟨rfl, rfl, rfl⟩ := hQ237
  refine s_stV K X237 at_155 e237 V236 O236 (by decide) rfl (fun y hy => by cases hy; exact Ins.self (F236.1 0 (by decide)).1) 0 rfl (Nat.le_of_ble_eq_true rfl) (vs' := [(.ref l0), .null, .null, .null, .null]) rfl (q := 156) rfl (fun T238 h238 X238 e238 W238 V238 => ?_)
  have F238 := F236.other W238 nE nB nI gE
  refine s_aload K X238 at_156 rfl rfl (q := 158) rfl ?_
  refine s_iconst K X238 at_158 (z := 1) rfl (q := 159) rfl ?_
  refine s_aload K X238 at_159 rfl rfl (q := 161) rfl ?_
  refine s_aload K X238 at_161 rfl rfl (q := 163) rfl ?_
  refine s_iload K X238 at_163 rfl (q := 165) rfl ?_
  refine s_iconst K X238 at_165 (z := 1) rfl (q := 166) rfl ?_
  refine s_callS K X238 2 at_166 (hw _ (List.mem_of_getElem? (i := 36) rfl)) (hw _ (List.mem_of_getElem? (i := 37) rfl)) (hw _ (List.mem_of_getElem? (i := 27) rfl)) (hw _ (List.mem_of_getElem? (i := 38) rfl)) (by decide) pd___Lcom_example_matchwright_matchwright_engine_Memory_Link_Lcom_example_matchwright_matchwright_engine_Memory_Link_II_Lcom_example_matchwright_matchwright_engine_Memory_Link_ rfl e238 (argsL := [(.ref B), (.ref xx), (.int (2 : Int32)), (.int (1 : Int32))]) (st := [(.int (1 : Int32)), (.ref b236)]) (c_at_2_1 l Z a0 hw _ B kB [l0, l1, l2, l3, xx] [1, 4, 0, 3, 2] [2, 0, 4, 3, 1] I v0 F238) rfl rfl (by decide) (Nat.le_of_eq rfl) (by decide) (by decide) (by decide) (q := 169) rfl (fun v239 T239 h239 L239 X239 e239 hQ239 => ?_)
  obtain ⟨rfl, rfl, rfl⟩ := hQ239
  refine s_stV K X239 at_169 e239 V238 O236 (by decide) rfl (fun y hy => by cases hy; exact Ins.self (F238.1 1 (by decide)).1) 1 rfl (Nat.le_of_ble_eq_true rfl) (vs' := [(.ref l0), (.ref l1), .null, .null, .null]) rfl (q := 170) rfl (fun T240 h240 X240 e240 W240 V240 => ?_)
  have F240 := F238.other W240 nE nB nI gE
  refine s_aload K X240 at_170 rfl rfl (q := 172) rfl ?_
  refine s_iconst K X240 at_172 (z := 2) rfl (q := 173) rfl ?_
  refine s_aload K X240 at_173 rfl rfl (q := 175) rfl ?_
  refine s_aload K X240 at_175 rfl rfl (q := 177) rfl ?_
  refine s_iload K X240 at_177 rfl (q := 179) rfl ?_
  refine s_iconst K X240 at_179 (z := 2) rfl (q := 180) rfl ?_
  refine s_callS K X240 2 at_180 (hw _ (List.mem_of_getElem? (i := 36) rfl)) (hw _ (List.mem_of_getElem? (i := 37) rfl)) (hw _ (List.mem_of_getElem? (i := 27) rfl)) (hw _ (List.mem_of_getElem? (i := 38) rfl)) (by decide) pd___Lcom_example_matchwright_matchwright_engine_Memory_Link_Lcom_example_matchwright_matchwright_engine_Memory_Link_II_Lcom_example_matchwright_matchwright_engine_Memory_Link_ rfl e240 (argsL := [(.ref B), (.ref xx), (.int (2 : Int32)), (.int (2 : Int32))]) (st := [(.int (2 : Int32)), (.ref b236)]) (c_at_2_2 l Z a0 hw _ B kB [l0, l1, l2, l3, xx] [1, 4, 0, 3, 2] [2, 0, 4, 3, 1] I v0 F240) rfl rfl (by decide) (Nat.le_of_eq rfl) (by decide) (by decide) (by decide) (q := 183) rfl (fun v241 T241 h241 L241 X241 e241 hQ241 => ?_)
  obtain ⟨rfl, rfl, rfl⟩ := hQ241
  refine s_stV K X241 at_183 e241 V240 O236 (by decide) rfl (fun y hy => by cases hy; exact Ins.self (F240.1 4 (by decide)).1) 2 rfl (Nat.le_of_ble_eq_true rfl) (vs' := [(.ref l0), (.ref l1), (.ref xx), .null, .null]) rfl (q := 184) rfl (fun T242 h242 X242 e242 W242 V242 => ?_)
  have F242 := F240.other W242 nE nB nI gE
  refine s_aload K X242 at_184 rfl rfl (q := 186) rfl ?_
  refine s_iconst K X242 at_186 (z := 3) rfl (q := 187) rfl ?_
  refine s_aload K X242 at_187 rfl rfl (q := 189) rfl ?_
  refine s_aload K X242 at_189 rfl rfl (q := 191) rfl ?_
  refine s_iload K X242 at_191 rfl (q := 193) rfl ?_
  refine s_iconst K X242 at_193 (z := 3) rfl (q := 194) rfl ?_
  refine s_callS K X242 2 at_194 (hw _ (List.mem_of_getElem? (i := 36) rfl)) (hw _ (List.mem_of_getElem? (i := 37) rfl)) (hw _ (List.mem_of_getElem? (i := 27) rfl)) (hw _ (List.mem_of_getElem? (i := 38) rfl)) (by decide) pd___Lcom_example_matchwright_matchwright_engine_Memory_Link_Lcom_example_matchwright_matchwright_engine_Memory_Link_II_Lcom_example_matchwright_matchwright_engine_Memory_Link_ rfl e242 (argsL := [(.ref B), (.ref xx), (.int (2 : Int32)), (.int (3 : Int32))]) (st := [(.int (3 : Int32)), (.ref b236)]) (c_at_2_3 l Z a0 hw _ B kB [l0, l1, l2, l3, xx] [1, 4, 0, 3, 2] [2, 0, 4, 3, 1] I v0 F242) rfl rfl (by decide) (Nat.le_of_eq rfl) (by decide) (by decide) (by decide) (q := 197) rfl (fun v243 T243 h243 L243 X243 e243 hQ243 => ?_)
  obtain ⟨rfl, rfl, rfl⟩ := hQ243
  refine s_stV K X243 at_197 e243 V242 O236 (by decide) rfl (fun y hy => by cases hy; exact Ins.self (F242.1 2 (by decide)).1) 3 rfl (Nat.le_of_ble_eq_true rfl) (vs' := [(.ref l0), (.ref l1), (.ref xx), (.ref l2), .null]) rfl (q := 198) rfl (fun T244 h244 X244 e244 W244 V244 => ?_)
  have F244 := F242.other W244 nE nB nI gE
  refine s_aload K X244 at_198 rfl rfl (q := 200) rfl ?_
  refine s_iconst K X244 at_200 (z := 4) rfl (q := 201) rfl ?_
  refine s_aload K X244 at_201 rfl rfl (q := 203) rfl ?_
  refine s_aload K X244 at_203 rfl rfl (q := 205) rfl ?_
  refine s_iload K X244 at_205 rfl (q := 207) rfl ?_
  refine s_iconst K X244 at_207 (z := 4) rfl (q := 208) rfl ?_
  refine s_callS K X244 2 at_208 (hw _ (List.mem_of_getElem? (i := 36) rfl)) (hw _ (List.mem_of_getElem? (i := 37) rfl)) (hw _ (List.mem_of_getElem? (i := 27) rfl)) (hw _ (List.mem_of_getElem? (i := 38) rfl)) (by decide) pd___Lcom_example_matchwright_matchwright_engine_Memory_Link_Lcom_example_matchwright_matchwright_engine_Memory_Link_II_Lcom_example_matchwright_matchwright_engine_Memory_Link_ rfl e244 (argsL := [(.ref B), (.ref xx), (.int (2 : Int32)), (.int (4 : Int32))]) (st := [(.int (4 : Int32)), (.ref b236)]) (c_at_2_4 l Z a0 hw _ B kB [l0, l1, l2, l3, xx] [1, 4, 0, 3, 2] [2, 0, 4, 3, 1] I v0 F244) rfl rfl (by decide) (Nat.le_of_eq rfl) (by decide) (by decide) (by decide) (q := 211) rfl (fun v245 T245 h245 L245 X245 e245 hQ245 => ?_)
  obtain ⟨rfl, rfl, rfl⟩ := hQ245
  refine s_stV K X245 at_211 e245 V244 O236 (by decide) rfl (fun y hy => by cases hy; exact Ins.self (F244.1 3 (by decide)).1) 4 rfl (Nat.le_of_ble_eq_true rfl) (vs' := [(.ref l0), (.ref l1), (.ref xx), (.ref l2), (.ref l3)]) rfl (q := 212) rfl (fun T246 h246 X246 e246 W246 V246 => ?_)
  have F246 := F244.other W246 nE nB nI gE
  refine s_aload K X246 at_212 rfl rfl (q := 214) rfl ?_
  refine s_callV K X246 0 (y := (⟨"com/example/matchwright/matchwright/engine/Memory$Link", "item", "()Ljava/lang/Object;"⟩ : MethodName)) (z := (⟨"com/example/matchwright/matchwright/engine/Memory$Link", "item", "()Ljava/lang/Object;"⟩ : MethodName)) at_214 (hw _ (List.mem_of_getElem? (i := 39) rfl)) (hw _ (List.mem_of_getElem? (i := 40) rfl)) (notFace_of_selects (args := #[]) (mvT K.hZ (hw _ (List.mem_of_getElem? (i := 42) rfl)))) (hw _ (List.mem_of_getElem? (i := 42) rfl)) (hw _ (List.mem_of_getElem? (i := 41) rfl)) (hw _ (List.mem_of_getElem? (i := 4) rfl)) (hw _ (List.mem_of_getElem? (i := 43) rfl)) (by decide) pd___Ljava_lang_Object_ rfl e246 (F246.1 4 (by decide)).1 (argsL := []) (st := []) (c_item l Z a0 hw _ xx I F246.2.2.1) rfl rfl (by decide) (Nat.le_of_eq rfl) (by decide) (by decide) (by decide) (q := 217) rfl (fun v247 T247 h247 L247 X247 e247 hQ247 => ?_)
  obtain ⟨rfl, rfl, rfl⟩ := hQ247
  refine s_castY K X247 at_217 (hw _ (List.mem_of_getElem? (i := 44) rfl)) e247 (Ins.self F246.2.2.2.1.1) (q := 220) rfl (fun T248 X248 e248 => ?_)
  refine s_callV K X248 0 (y := (⟨"java/lang/Integer", "intValue", "()I"⟩ : MethodName)) (z := (⟨"java/lang/Integer", "intValue", "()I"⟩ : MethodName)) at_220 (hw _ (List.mem_of_getElem? (i := 46) rfl)) (hw _ (List.mem_of_getElem? (i := 47) rfl)) (notFace_of_selects (args := #[]) (mvT K.hZ (hw _ (List.mem_of_getElem? (i := 49) rfl)))) (hw _ (List.mem_of_getElem? (i := 49) rfl)) (hw _ (List.mem_of_getElem? (i := 48) rfl)) (hw _ (List.mem_of_getElem? (i := 7) rfl)) (hw _ (List.mem_of_getElem? (i := 50) rfl)) (by decide) pd___I rfl e248 F246.2.2.2.1.1 (argsL := []) (st := []) (c_intValue l Z a0 hw _ I v0 F246.2.2.2.1) rfl rfl (by decide) (Nat.le_of_eq rfl) (by decide) (by decide) (by decide) (q := 223) rfl (fun v249 T249 h249 L249 X249 e249 hQ249 => ?_)
  obtain ⟨rfl, rfl, rfl⟩ := hQ249
  refine s_iloadN K X249 at_223 rfl (q := 224) rfl ?_
  refine s_icmp_ne K X249 at_224 (by decide) (q := 231) rfl (q' := 227) rfl (fun h_ => absurd rfl h_) (fun _ => ?_)
  refine s_iconst K X249 at_227 (z := 1) rfl (q := 228) rfl ?_
  refine s_goto K X249 at_228 (by decide) (q := 232) rfl ?_
  refine s_istore K X249 at_232 (l' := #[.val (.int p1), .val (.int p2), .val (.int v0), .val (.int (3 : Int32)), .val (.int (2 : Int32)), .val (.ref B), .val (.ref xx), .val (.int ((3 : Int32) + (1 : Int32))), .val (.ref b236), .val (.int (1 : Int32))]) rfl (q := 234) rfl ?_
  refine s_iload K X249 at_234 rfl (q := 236) rfl ?_
  refine s_if_eq K X249 at_236 (by decide) (q := 254) rfl (q' := 239) rfl (fun h_ => absurd h_ (by decide)) (fun _ => ?_)
  refine s_aload K X249 at_239 rfl rfl (q := 241) rfl ?_
  refine s_iconst K X249 at_241 (z := 0) rfl (q := 242) rfl ?_
  refine s_iload K X249 at_242 rfl (q := 244) rfl ?_
  refine s_callS K X249 0 at_244 (hw _ (List.mem_of_getElem? (i := 53) rfl)) (hw _ (List.mem_of_getElem? (i := 54) rfl)) (hw _ (List.mem_of_getElem? (i := 27) rfl)) (hw _ (List.mem_of_getElem? (i := 55) rfl)) (by decide) pd___Lcom_example_matchwright_matchwright_engine_Memory_Link_II_Z rfl e249 (argsL := [(.ref b236), (.int (0 : Int32)), (.int ((3 : Int32) + (1 : Int32)))]) (st := []) (c_check_0_4 l Z a0 hw _ b236 _ _ l0 l1 l2 V246 rfl rfl rfl (F246.1 0 (by decide))) rfl rfl (by decide) (Nat.le_of_eq rfl) (by decide) (by decide) (by decide) (q := 247) rfl (fun v250 T250 h250 L250 X250 e250 hQ250 => ?_)
  obtain ⟨rfl, rfl, rfl⟩ := hQ250
  refine s_if_eq K X250 at_247 (by decide) (q := 254) rfl (q' := 250) rfl (fun h_ => absurd h_ (by decide)) (fun _ => ?_)
  refine s_iconst K X250 at_250 (z := 1) rfl (q := 251) rfl ?_
  refine s_goto K X250 at_251 (by decide) (q := 255) rfl ?_
  refine s_istore K X250 at_255 (l' := #[.val (.int p1), .val (.int p2), .val (.int v0), .val (.int (3 : Int32)), .val (.int (2 : Int32)), .val (.ref B), .val (.ref xx), .val (.int ((3 : Int32) + (1 : Int32))), .val (.ref b236), .val (.int (1 : Int32))]) rfl (q := 257) rfl ?_
  refine s_iload K X250 at_257 rfl (q := 259) rfl ?_
  refine s_if_eq K X250 at_259 (by decide) (q := 277) rfl (q' := 262) rfl (fun h_ => absurd h_ (by decide)) (fun _ => ?_)
  refine s_aload K X250 at_262 rfl rfl (q := 264) rfl ?_
  refine s_iconst K X250 at_264 (z := 1) rfl (q := 265) rfl ?_
  refine s_iload K X250 at_265 rfl (q := 267) rfl ?_
  refine s_callS K X250 0 at_267 (hw _ (List.mem_of_getElem? (i := 53) rfl)) (hw _ (List.mem_of_getElem? (i := 54) rfl)) (hw _ (List.mem_of_getElem? (i := 27) rfl)) (hw _ (List.mem_of_getElem? (i := 55) rfl)) (by decide) pd___Lcom_example_matchwright_matchwright_engine_Memory_Link_II_Z rfl e250 (argsL := [(.ref b236), (.int (1 : Int32)), (.int ((3 : Int32) + (1 : Int32)))]) (st := []) (c_check_1_4 l Z a0 hw _ b236 _ _ l1 xx l0 V246 rfl rfl rfl (F246.1 1 (by decide))) rfl rfl (by decide) (Nat.le_of_eq rfl) (by decide) (by decide) (by decide) (q := 270) rfl (fun v251 T251 h251 L251 X251 e251 hQ251 => ?_)
  obtain ⟨rfl, rfl, rfl⟩ := hQ251
  refine s_if_eq K X251 at_270 (by decide) (q := 277) rfl (q' := 273) rfl (fun h_ => absurd h_ (by decide)) (fun _ => ?_)
  refine s_iconst K X251 at_273 (z := 1) rfl (q := 274) rfl ?_
  refine s_goto K X251 at_274 (by decide) (q := 278) rfl ?_
  refine s_istore K X251 at_278 (l' := #[.val (.int p1), .val (.int p2), .val (.int v0), .val (.int (3 : Int32)), .val (.int (2 : Int32)), .val (.ref B), .val (.ref xx), .val (.int ((3 : Int32) + (1 : Int32))), .val (.ref b236), .val (.int (1 : Int32))]) rfl (q := 280) rfl ?_
  refine s_iload K X251 at_280 rfl (q := 282) rfl ?_
  refine s_if_eq K X251 at_282 (by decide) (q := 300) rfl (q' := 285) rfl (fun h_ => absurd h_ (by decide)) (fun _ => ?_)
  refine s_aload K X251 at_285 rfl rfl (q := 287) rfl ?_
  refine s_iconst K X251 at_287 (z := 2) rfl (q := 288) rfl ?_
  refine s_iload K X251 at_288 rfl (q := 290) rfl ?_
  refine s_callS K X251 0 at_290 (hw _ (List.mem_of_getElem? (i := 53) rfl)) (hw _ (List.mem_of_getElem? (i := 54) rfl)) (hw _ (List.mem_of_getElem? (i := 27) rfl)) (hw _ (List.mem_of_getElem? (i := 55) rfl)) (by decide) pd___Lcom_example_matchwright_matchwright_engine_Memory_Link_II_Z rfl e251 (argsL := [(.ref b236), (.int (2 : Int32)), (.int ((3 : Int32) + (1 : Int32)))]) (st := []) (c_check_2_4 l Z a0 hw _ b236 _ _ xx l2 l1 V246 rfl rfl rfl (F246.1 4 (by decide))) rfl rfl (by decide) (Nat.le_of_eq rfl) (by decide) (by decide) (by decide) (q := 293) rfl (fun v252 T252 h252 L252 X252 e252 hQ252 => ?_)
  obtain ⟨rfl, rfl, rfl⟩ := hQ252
  refine s_if_eq K X252 at_293 (by decide) (q := 300) rfl (q' := 296) rfl (fun h_ => absurd h_ (by decide)) (fun _ => ?_)
  refine s_iconst K X252 at_296 (z := 1) rfl (q := 297) rfl ?_
  refine s_goto K X252 at_297 (by decide) (q := 301) rfl ?_
  refine s_istore K X252 at_301 (l' := #[.val (.int p1), .val (.int p2), .val (.int v0), .val (.int (3 : Int32)), .val (.int (2 : Int32)), .val (.ref B), .val (.ref xx), .val (.int ((3 : Int32) + (1 : Int32))), .val (.ref b236), .val (.int (1 : Int32))]) rfl (q := 303) rfl ?_
  refine s_iload K X252 at_303 rfl (q := 305) rfl ?_
  refine s_if_eq K X252 at_305 (by decide) (q := 323) rfl (q' := 308) rfl (fun h_ => absurd h_ (by decide)) (fun _ => ?_)
  refine s_aload K X252 at_308 rfl rfl (q := 310) rfl ?_
  refine s_iconst K X252 at_310 (z := 3) rfl (q := 311) rfl ?_
  refine s_iload K X252 at_311 rfl (q := 313) rfl ?_
  refine s_callS K X252 0 at_313 (hw _ (List.mem_of_getElem? (i := 53) rfl)) (hw _ (List.mem_of_getElem? (i := 54) rfl)) (hw _ (List.mem_of_getElem? (i := 27) rfl)) (hw _ (List.mem_of_getElem? (i := 55) rfl)) (by decide) pd___Lcom_example_matchwright_matchwright_engine_Memory_Link_II_Z rfl e252 (argsL := [(.ref b236), (.int (3 : Int32)), (.int ((3 : Int32) + (1 : Int32)))]) (st := []) (c_check_3_4 l Z a0 hw _ b236 _ _ l2 l0 xx V246 rfl rfl rfl (F246.1 2 (by decide))) rfl rfl (by decide) (Nat.le_of_eq rfl) (by decide) (by decide) (by decide) (q := 316) rfl (fun v253 T253 h253 L253 X253 e253 hQ253 => ?_)
  obtain ⟨rfl, rfl, rfl⟩ := hQ253
  refine s_if_eq K X253 at_316 (by decide) (q := 323) rfl (q' := 319) rfl (fun h_ => absurd h_ (by decide)) (fun _ => ?_)
  refine s_iconst K X253 at_319 (z := 1) rfl (q := 320) rfl ?_
  refine s_goto K X253 at_320 (by decide) (q := 324) rfl ?_
  refine s_istore K X253 at_324 (l' := #[.val (.int p1), .val (.int p2), .val (.int v0), .val (.int (3 : Int32)), .val (.int (2 : Int32)), .val (.ref B), .val (.ref xx), .val (.int ((3 : Int32) + (1 : Int32))), .val (.ref b236), .val (.int (1 : Int32))]) rfl (q := 326) rfl ?_
  refine s_iload K X253 at_326 rfl (q := 328) rfl ?_
  refine s_if_eq K X253 at_328 (by decide) (q := 346) rfl (q' := 331) rfl (fun h_ => absurd h_ (by decide)) (fun _ => ?_)
  refine s_aload K X253 at_331 rfl rfl (q := 333) rfl ?_
  refine s_iconst K X253 at_333 (z := 4) rfl (q := 334) rfl ?_
  refine s_iload K X253 at_334 rfl (q := 336) rfl ?_
  refine s_callS K X253 0 at_336 (hw _ (List.mem_of_getElem? (i := 53) rfl)) (hw _ (List.mem_of_getElem? (i := 54) rfl)) (hw _ (List.mem_of_getElem? (i := 27) rfl)) (hw _ (List.mem_of_getElem? (i := 55) rfl)) (by decide) pd___Lcom_example_matchwright_matchwright_engine_Memory_Link_II_Z rfl e253 (argsL := [(.ref b236), (.int (4 : Int32)), (.int ((3 : Int32) + (1 : Int32)))]) (st := []) (c_check_no l Z a0 hw _ b236 4 4 (by decide)) rfl rfl (by decide) (Nat.le_of_eq rfl) (by decide) (by decide) (by decide) (q := 339) rfl (fun v254 T254 h254 L254 X254 e254 hQ254 => ?_)
  obtain ⟨rfl, rfl, rfl⟩ := hQ254
  refine s_if_eq K X254 at_339 (by decide) (q := 346) rfl (q' := 342) rfl (fun h_ => absurd h_ (by decide)) (fun _ => ?_)
  refine s_iconst K X254 at_342 (z := 1) rfl (q := 343) rfl ?_
  refine s_goto K X254 at_343 (by decide) (q := 347) rfl ?_
  refine s_istore K X254 at_347 (l' := #[.val (.int p1), .val (.int p2), .val (.int v0), .val (.int (3 : Int32)), .val (.int (2 : Int32)), .val (.ref B), .val (.ref xx), .val (.int ((3 : Int32) + (1 : Int32))), .val (.ref b236), .val (.int (1 : Int32))]) rfl (q := 349) rfl ?_
  refine s_iload K X254 at_349 rfl (q := 351) rfl ?_
  refine s_if_eq K X254 at_351 (by decide) (q := 368) rfl (q' := 354) rfl (fun h_ => absurd h_ (by decide)) (fun _ => ?_)
  refine s_aload K X254 at_354 rfl rfl (q := 356) rfl ?_
  refine s_iconst K X254 at_356 (z := 1) rfl (q := 357) rfl ?_
  refine s_iloadN K X254 at_357 rfl (q := 358) rfl ?_
  refine s_callS K X254 0 at_358 (hw _ (List.mem_of_getElem? (i := 56) rfl)) (hw _ (List.mem_of_getElem? (i := 57) rfl)) (hw _ (List.mem_of_getElem? (i := 27) rfl)) (hw _ (List.mem_of_getElem? (i := 58) rfl)) (by decide) pd___Lcom_example_matchwright_matchwright_engine_Memory_Link_II_Z rfl e254 (argsL := [(.ref B), (.int (1 : Int32)), (.int (3 : Int32))]) (st := []) (c_alone_in l Z a0 hw _ B 1 3 (by decide)) rfl rfl (by decide) (Nat.le_of_eq rfl) (by decide) (by decide) (by decide) (q := 361) rfl (fun v255 T255 h255 L255 X255 e255 hQ255 => ?_)
  obtain ⟨rfl, rfl, rfl⟩ := hQ255
  refine s_if_eq K X255 at_361 (by decide) (q := 368) rfl (q' := 364) rfl (fun h_ => absurd h_ (by decide)) (fun _ => ?_)
  refine s_iconst K X255 at_364 (z := 1) rfl (q := 365) rfl ?_
  refine s_goto K X255 at_365 (by decide) (q := 369) rfl ?_
  refine s_istore K X255 at_369 (l' := #[.val (.int p1), .val (.int p2), .val (.int v0), .val (.int (3 : Int32)), .val (.int (2 : Int32)), .val (.ref B), .val (.ref xx), .val (.int ((3 : Int32) + (1 : Int32))), .val (.ref b236), .val (.int (1 : Int32))]) rfl (q := 371) rfl ?_
  refine s_iload K X255 at_371 rfl (q := 373) rfl ?_
  refine s_if_eq K X255 at_373 (by decide) (q := 390) rfl (q' := 376) rfl (fun h_ => absurd h_ (by decide)) (fun _ => ?_)
  refine s_aload K X255 at_376 rfl rfl (q := 378) rfl ?_
  refine s_iconst K X255 at_378 (z := 2) rfl (q := 379) rfl ?_
  refine s_iloadN K X255 at_379 rfl (q := 380) rfl ?_
  refine s_callS K X255 0 at_380 (hw _ (List.mem_of_getElem? (i := 56) rfl)) (hw _ (List.mem_of_getElem? (i := 57) rfl)) (hw _ (List.mem_of_getElem? (i := 27) rfl)) (hw _ (List.mem_of_getElem? (i := 58) rfl)) (by decide) pd___Lcom_example_matchwright_matchwright_engine_Memory_Link_II_Z rfl e255 (argsL := [(.ref B), (.int (2 : Int32)), (.int (3 : Int32))]) (st := []) (c_alone_in l Z a0 hw _ B 2 3 (by decide)) rfl rfl (by decide) (Nat.le_of_eq rfl) (by decide) (by decide) (by decide) (q := 383) rfl (fun v256 T256 h256 L256 X256 e256 hQ256 => ?_)
  obtain ⟨rfl, rfl, rfl⟩ := hQ256
  refine s_if_eq K X256 at_383 (by decide) (q := 390) rfl (q' := 386) rfl (fun h_ => absurd h_ (by decide)) (fun _ => ?_)
  refine s_iconst K X256 at_386 (z := 1) rfl (q := 387) rfl ?_
  refine s_goto K X256 at_387 (by decide) (q := 391) rfl ?_
  refine s_istore K X256 at_391 (l' := #[.val (.int p1), .val (.int p2), .val (.int v0), .val (.int (3 : Int32)), .val (.int (2 : Int32)), .val (.ref B), .val (.ref xx), .val (.int ((3 : Int32) + (1 : Int32))), .val (.ref b236), .val (.int (1 : Int32))]) rfl (q := 393) rfl ?_
  refine s_iload K X256 at_393 rfl (q := 395) rfl ?_
  refine s_if_eq K X256 at_395 (by decide) (q := 412) rfl (q' := 398) rfl (fun h_ => absurd h_ (by decide)) (fun _ => ?_)
  refine s_aload K X256 at_398 rfl rfl (q := 400) rfl ?_
  refine s_iconst K X256 at_400 (z := 3) rfl (q := 401) rfl ?_
  refine s_iloadN K X256 at_401 rfl (q := 402) rfl ?_
  refine s_callS K X256 0 at_402 (hw _ (List.mem_of_getElem? (i := 56) rfl)) (hw _ (List.mem_of_getElem? (i := 57) rfl)) (hw _ (List.mem_of_getElem? (i := 27) rfl)) (hw _ (List.mem_of_getElem? (i := 58) rfl)) (by decide) pd___Lcom_example_matchwright_matchwright_engine_Memory_Link_II_Z rfl e256 (argsL := [(.ref B), (.int (3 : Int32)), (.int (3 : Int32))]) (st := []) (c_alone_3 l Z a0 hw _ B kB _ l3 3 F246.2.1 rfl (F246.1 3 (by decide)) (by decide)) rfl rfl (by decide) (Nat.le_of_eq rfl) (by decide) (by decide) (by decide) (q := 405) rfl (fun v257 T257 h257 L257 X257 e257 hQ257 => ?_)
  obtain ⟨rfl, rfl, rfl⟩ := hQ257
  refine s_if_eq K X257 at_405 (by decide) (q := 412) rfl (q' := 408) rfl (fun h_ => absurd h_ (by decide)) (fun _ => ?_)
  refine s_iconst K X257 at_408 (z := 1) rfl (q := 409) rfl ?_
  refine s_goto K X257 at_409 (by decide) (q := 413) rfl ?_
  refine s_istore K X257 at_413 (l' := #[.val (.int p1), .val (.int p2), .val (.int v0), .val (.int (3 : Int32)), .val (.int (2 : Int32)), .val (.ref B), .val (.ref xx), .val (.int ((3 : Int32) + (1 : Int32))), .val (.ref b236), .val (.int (1 : Int32))]) rfl (q := 415) rfl ?_
  refine s_iload K X257 at_415 rfl (q := 417) rfl ?_
  exact s_retZ K X257 at_417 rfl (by decide) e257 (by decide) (by decide) ⟨rfl, (Fr.app (Fr.app (Fr.app (Fr.app (Fr.app (Fr.app (Fr.app (Fr.app (Fr.app (Fr.app (Fr.app (Fr.app (Fr.app (Fr.app (Fr.app (Fr.app (Fr.app (Fr.app (Fr.app (Fr.app (Fr.app (Fr.app (Fr.app (Fr.app (Fr.app NN M231) M232) M233) (Fr.nil _)) M235) (Fr.nil _)) (fr_one gE)) (Fr.nil _)) (fr_one gE)) (Fr.nil _)) (fr_one gE)) (Fr.nil _)) (fr_one gE)) (Fr.nil _)) (fr_one gE)) (Fr.nil _)) (Fr.nil _)) (Fr.nil _)) (Fr.nil _)) (Fr.nil _)) (Fr.nil _)) (Fr.nil _)) (Fr.nil _)) (Fr.nil _)) (Fr.nil _))⟩
set_option maxRecDepth 65536 in
set_option maxHeartbeats 40000000 in
theorem c_tail_4_0 (l : Launch) (Z : State) (a0 : Array Value) (hw : ∀ d ∈ tables_1, d.before a0 Z = true) (S : Slots Z) {p : Program} {e : Env} {s : State} {m : MethodId} {args : Array Value} {below : List Frame} {meth : Method} {cod : Code} {T : State} {locs : List Loc} {h : Heap} (K : Cx Z p s m meth cod x.cls code maxLocals ret x.name) (X : Stand p l e room_1 s m args below meth cod T locs 11 24) (B : Addr) (kB : ClassId) (l0 l1 l2 l3 xx I : Addr) (v0 p1 p2 : Int32) (eT : T.heap = h) (P : Sep Z B [l0, l1, l2, l3, xx]) (F : Inv Z h B kB [l0, l1, l2, l3, xx] [0, 1, 2, 3, 4] [0, 1, 2, 3, 4] I v0) (NN : Fr Z.heap.size locs) :
    Goes p e below (Fini s room_1 (fun v h L => v = some (.int 1) ∧ Fr Z.heap.size L)) T (mkF m 93 #[.val (.int p1), .val (.int p2), .val (.int v0), .val (.int (4 : Int32)), .val (.int (0 : Int32)), .val (.ref B), .val (.ref xx), .unset, .unset, .unset] []) := by
  refine s_aload K X at_93 rfl rfl (q := 95) rfl ?_
  refine s_iconst K X at_95 (z := 0) rfl (q := 96) rfl ?_
  refine s_iloadN K X at_96 rfl (q := 97) rfl ?_
  refine s_callS K X 0 at_97 (hw _ (List.mem_of_getElem? (i := 25) rfl)) (hw _ (List.mem_of_getElem? (i := 26) rfl)) (hw _ (List.mem_of_getElem? (i := 27) rfl)) (hw _ (List.mem_of_getElem? (i := 28) rfl)) (by decide) pd___Lcom_example_matchwright_matchwright_engine_Memory_Link_II_V rfl eT (argsL := [(.ref B), (.int (0 : Int32)), (.int (4 : Int32))]) (st := []) (c_ring_0_4 l Z a0 hw S _ B kB [l0, l1, l2, l3, xx] [0, 1, 2, 3, 4] [0, 1, 2, 3, 4] I v0 P F rfl rfl) rfl rfl (by decide) (Nat.le_of_eq rfl) (by decide) (by decide) (by decide) (q := 100) rfl (fun v258 T258 h258 L258 X258 e258 hQ258 => ?_)
  obtain ⟨rfl, F258, M258⟩ := hQ258
  refine s_aload K X258 at_100 rfl rfl (q := 102) rfl ?_
  refine s_iconst K X258 at_102 (z := 1) rfl (q := 103) rfl ?_
  refine s_iloadN K X258 at_103 rfl (q := 104) rfl ?_
  refine s_callS K X258 0 at_104 (hw _ (List.mem_of_getElem? (i := 25) rfl)) (hw _ (List.mem_of_getElem? (i := 26) rfl)) (hw _ (List.mem_of_getElem? (i := 27) rfl)) (hw _ (List.mem_of_getElem? (i := 28) rfl)) (by decide) pd___Lcom_example_matchwright_matchwright_engine_Memory_Link_II_V rfl e258 (argsL := [(.ref B), (.int (1 : Int32)), (.int (4 : Int32))]) (st := []) (c_ring_1_4 l Z a0 hw S _ B kB [l0, l1, l2, l3, xx] [1, 1, 2, 3, 4] [3, 1, 2, 3, 4] I v0 P F258 rfl rfl) rfl rfl (by decide) (Nat.le_of_eq rfl) (by decide) (by decide) (by decide) (q := 107) rfl (fun v259 T259 h259 L259 X259 e259 hQ259 => ?_)
  obtain ⟨rfl, F259, M259⟩ := hQ259
  refine s_aload K X259 at_107 rfl rfl (q := 109) rfl ?_
  refine s_iconst K X259 at_109 (z := 2) rfl (q := 110) rfl ?_
  refine s_iloadN K X259 at_110 rfl (q := 111) rfl ?_
  refine s_callS K X259 0 at_111 (hw _ (List.mem_of_getElem? (i := 25) rfl)) (hw _ (List.mem_of_getElem? (i := 26) rfl)) (hw _ (List.mem_of_getElem? (i := 27) rfl)) (hw _ (List.mem_of_getElem? (i := 28) rfl)) (by decide) pd___Lcom_example_matchwright_matchwright_engine_Memory_Link_II_V rfl e259 (argsL := [(.ref B), (.int (2 : Int32)), (.int (4 : Int32))]) (st := []) (c_ring_2_4 l Z a0 hw S _ B kB [l0, l1, l2, l3, xx] [1, 2, 2, 3, 4] [3, 0, 2, 3, 4] I v0 P F259 rfl rfl) rfl rfl (by decide) (Nat.le_of_eq rfl) (by decide) (by decide) (by decide) (q := 114) rfl (fun v260 T260 h260 L260 X260 e260 hQ260 => ?_)
  obtain ⟨rfl, F260, M260⟩ := hQ260
  refine s_aload K X260 at_114 rfl rfl (q := 116) rfl ?_
  refine s_iconst K X260 at_116 (z := 3) rfl (q := 117) rfl ?_
  refine s_iloadN K X260 at_117 rfl (q := 118) rfl ?_
  refine s_callS K X260 0 at_118 (hw _ (List.mem_of_getElem? (i := 25) rfl)) (hw _ (List.mem_of_getElem? (i := 26) rfl)) (hw _ (List.mem_of_getElem? (i := 27) rfl)) (hw _ (List.mem_of_getElem? (i := 28) rfl)) (by decide) pd___Lcom_example_matchwright_matchwright_engine_Memory_Link_II_V rfl e260 (argsL := [(.ref B), (.int (3 : Int32)), (.int (4 : Int32))]) (st := []) (c_ring_3_4 l Z a0 hw S _ B kB [l0, l1, l2, l3, xx] [1, 2, 3, 3, 4] [3, 0, 1, 3, 4] I v0 P F260 rfl rfl) rfl rfl (by decide) (Nat.le_of_eq rfl) (by decide) (by decide) (by decide) (q := 121) rfl (fun v261 T261 h261 L261 X261 e261 hQ261 => ?_)
  obtain ⟨rfl, F261, M261⟩ := hQ261
  refine s_aload K X261 at_121 rfl rfl (q := 123) rfl ?_
  refine s_aload K X261 at_123 rfl rfl (q := 125) rfl ?_
  refine s_iload K X261 at_125 rfl (q := 127) rfl ?_
  refine s_ldV K X261 at_127 e261 F261.2.1 rfl (by decide) rfl (q := 128) rfl ?_
  refine s_callV K X261 0 (y := (⟨"com/example/matchwright/matchwright/engine/Memory$Link", "linkBefore", "(Lcom/example/matchwright/matchwright/engine/Memory$Link;)V"⟩ : MethodName)) (z := (⟨"com/example/matchwright/matchwright/engine/Memory$Link", "linkBefore", "(Lcom/example/matchwright/matchwright/engine/Memory$Link;)V"⟩ : MethodName)) at_128 (hw _ (List.mem_of_getElem? (i := 31) rfl)) (hw _ (List.mem_of_getElem? (i := 32) rfl)) (notFace_of_selects (args := #[]) (mvT K.hZ (hw _ (List.mem_of_getElem? (i := 34) rfl)))) (hw _ (List.mem_of_getElem? (i := 34) rfl)) (hw _ (List.mem_of_getElem? (i := 33) rfl)) (hw _ (List.mem_of_getElem? (i := 4) rfl)) (hw _ (List.mem_of_getElem? (i := 35) rfl)) (by decide) pd__Lcom_example_matchwright_matchwright_engine_Memory_Link__V rfl e261 (F261.1 4 (by decide)).1 (argsL := [(.ref l0)]) (st := []) (c_before l Z a0 hw S _ B kB [l0, l1, l2, l3, xx] [1, 2, 3, 0, 4] [3, 0, 1, 2, 4] I v0 P F261 rfl rfl 0 3 (by decide) (by decide) rfl rfl) rfl rfl (by decide) (Nat.le_of_eq rfl) (by decide) (by decide) (by decide) (q := 131) rfl (fun v262 T262 h262 L262 X262 e262 hQ262 => ?_)
  obtain ⟨rfl, F262, M262⟩ := hQ262
  refine s_iloadN K X262 at_131 rfl (q := 132) rfl ?_
  refine s_iconst K X262 at_132 (z := 1) rfl (q := 133) rfl ?_
  refine s_iadd K X262 at_133 (q := 134) rfl ?_
  refine s_istore K X262 at_134 (l' := #[.val (.int p1), .val (.int p2), .val (.int v0), .val (.int (4 : Int32)), .val (.int (0 : Int32)), .val (.ref B), .val (.ref xx), .val (.int ((4 : Int32) + (1 : Int32))), .unset, .unset]) rfl (q := 136) rfl ?_
  refine s_iconst K X262 at_136 (z := 5) rfl (q := 137) rfl ?_
  refine s_newV K X262 at_137 (hw _ (List.mem_of_getElem? (i := 1) rfl)) (hw _ (List.mem_of_getElem? (i := 2) rfl)) e262 (by decide) 5 (by decide) (by decide) (by decide) (by decide) (vs := [.null, .null, .null, .null, .null]) rfl (q := 140) rfl (fun T263 h263 b263 k263 g263 X263 e263 E263 V263 O263 => ?_)
  have gE : Z.heap.size ≤ b263 := by rw [g263]; exact old_le F262.2.2.2.2
  have nE : ∀ i, i < 5 → ([l0, l1, l2, l3, xx] : List Addr).getD i 0 ≠ b263 := fun i hi => Nat.ne_of_lt (by rw [g263]; exact (F262.1 i hi).1.lt)
  have nB : B ≠ b263 := Nat.ne_of_lt (by rw [g263]; exact F262.2.1.lt)
  have nI : I ≠ b263 := Nat.ne_of_lt (by rw [g263]; exact F262.2.2.2.1.1.lt)
  have F263 := F262.ext E263
  change Inv Z _ B kB [l0, l1, l2, l3, xx] [1, 2, 3, 4, 0] [4, 0, 1, 2, 3] I v0 at F263
  refine s_astore K X263 at_140 rfl (l' := #[.val (.int p1), .val (.int p2), .val (.int v0), .val (.int (4 : Int32)), .val (.int (0 : Int32)), .val (.ref B), .val (.ref xx), .val (.int ((4 : Int32) + (1 : Int32))), .val (.ref b263), .unset]) rfl (q := 142) rfl ?_
  refine s_aload K X263 at_142 rfl rfl (q := 144) rfl ?_
  refine s_iconst K X263 at_144 (z := 0) rfl (q := 145) rfl ?_
  refine s_aload K X263 at_145 rfl rfl (q := 147) rfl ?_
  refine s_aload K X263 at_147 rfl rfl (q := 149) rfl ?_
  refine s_iload K X263 at_149 rfl (q := 151) rfl ?_
  refine s_iconst K X263 at_151 (z := 0) rfl (q := 152) rfl ?_
  refine s_callS K X263 2 at_152 (hw _ (List.mem_of_getElem? (i := 36) rfl)) (hw _ (List.mem_of_getElem? (i := 37) rfl)) (hw _ (List.mem_of_getElem? (i := 27) rfl)) (hw _ (List.mem_of_getElem? (i := 38) rfl)) (by decide) pd___Lcom_example_matchwright_matchwright_engine_Memory_Link_Lcom_example_matchwright_matchwright_engine_Memory_Link_II_Lcom_example_matchwright_matchwright_engine_Memory_Link_ rfl e263 (argsL := [(.ref B), (.ref xx), (.int (0 : Int32)), (.int (0 : Int32))]) (st := [(.int (0 : Int32)), (.ref b263)]) (c_at_0_0 l Z a0 hw _ B kB [l0, l1, l2, l3, xx] [1, 2, 3, 4, 0] [4, 0, 1, 2, 3] I v0 F263) rfl rfl (by decide) (Nat.le_of_eq rfl) (by decide) (by decide) (by decide) (q := 155) rfl (fun v264 T264 h264 L264 X264 e264 hQ264 => ?_)
  obtain ⟨rfl, rfl, rfl⟩ := hQ264
  refine s_stV K X264 at_155 e264 V263 O263 (by decide) rfl (fun y hy => by cases hy; exact Ins.self (F263.1 4 (by decide)).1) 0 rfl (Nat.le_of_ble_eq_true rfl) (vs' := [(.ref xx), .null, .null, .null, .null]) rfl (q := 156) rfl (fun T265 h265 X265 e265 W265 V265 => ?_)
  have F265 := F263.other W265 nE nB nI gE
  refine s_aload K X265 at_156 rfl rfl (q := 158) rfl ?_
  refine s_iconst K X265 at_158 (z := 1) rfl (q := 159) rfl ?_
  refine s_aload K X265 at_159 rfl rfl (q := 161) rfl ?_
  refine s_aload K X265 at_161 rfl rfl (q := 163) rfl ?_
  refine s_iload K X265 at_163 rfl (q := 165) rfl ?_
  refine s_iconst K X265 at_165 (z := 1) rfl (q := 166) rfl ?_
  refine s_callS K X265 2 at_166 (hw _ (List.mem_of_getElem? (i := 36) rfl)) (hw _ (List.mem_of_getElem? (i := 37) rfl)) (hw _ (List.mem_of_getElem? (i := 27) rfl)) (hw _ (List.mem_of_getElem? (i := 38) rfl)) (by decide) pd___Lcom_example_matchwright_matchwright_engine_Memory_Link_Lcom_example_matchwright_matchwright_engine_Memory_Link_II_Lcom_example_matchwright_matchwright_engine_Memory_Link_ rfl e265 (argsL := [(.ref B), (.ref xx), (.int (0 : Int32)), (.int (1 : Int32))]) (st := [(.int (1 : Int32)), (.ref b263)]) (c_at_0_1 l Z a0 hw _ B kB [l0, l1, l2, l3, xx] [1, 2, 3, 4, 0] [4, 0, 1, 2, 3] I v0 F265) rfl rfl (by decide) (Nat.le_of_eq rfl) (by decide) (by decide) (by decide) (q := 169) rfl (fun v266 T266 h266 L266 X266 e266 hQ266 => ?_)
  obtain ⟨rfl, rfl, rfl⟩ := hQ266
  refine s_stV K X266 at_169 e266 V265 O263 (by decide) rfl (fun y hy => by cases hy; exact Ins.self (F265.1 0 (by decide)).1) 1 rfl (Nat.le_of_ble_eq_true rfl) (vs' := [(.ref xx), (.ref l0), .null, .null, .null]) rfl (q := 170) rfl (fun T267 h267 X267 e267 W267 V267 => ?_)
  have F267 := F265.other W267 nE nB nI gE
  refine s_aload K X267 at_170 rfl rfl (q := 172) rfl ?_
  refine s_iconst K X267 at_172 (z := 2) rfl (q := 173) rfl ?_
  refine s_aload K X267 at_173 rfl rfl (q := 175) rfl ?_
  refine s_aload K X267 at_175 rfl rfl (q := 177) rfl ?_
  refine s_iload K X267 at_177 rfl (q := 179) rfl ?_
  refine s_iconst K X267 at_179 (z := 2) rfl (q := 180) rfl ?_
  refine s_callS K X267 2 at_180 (hw _ (List.mem_of_getElem? (i := 36) rfl)) (hw _ (List.mem_of_getElem? (i := 37) rfl)) (hw _ (List.mem_of_getElem? (i := 27) rfl)) (hw _ (List.mem_of_getElem? (i := 38) rfl)) (by decide) pd___Lcom_example_matchwright_matchwright_engine_Memory_Link_Lcom_example_matchwright_matchwright_engine_Memory_Link_II_Lcom_example_matchwright_matchwright_engine_Memory_Link_ rfl e267 (argsL := [(.ref B), (.ref xx), (.int (0 : Int32)), (.int (2 : Int32))]) (st := [(.int (2 : Int32)), (.ref b263)]) (c_at_0_2 l Z a0 hw _ B kB [l0, l1, l2, l3, xx] [1, 2, 3, 4, 0] [4, 0, 1, 2, 3] I v0 F267) rfl rfl (by decide) (Nat.le_of_eq rfl) (by decide) (by decide) (by decide) (q := 183) rfl (fun v268 T268 h268 L268 X268 e268 hQ268 => ?_)
  obtain ⟨rfl, rfl, rfl⟩ := hQ268
  refine s_stV K X268 at_183 e268 V267 O263 (by decide) rfl (fun y hy => by cases hy; exact Ins.self (F267.1 1 (by decide)).1) 2 rfl (Nat.le_of_ble_eq_true rfl) (vs' := [(.ref xx), (.ref l0), (.ref l1), .null, .null]) rfl (q := 184) rfl (fun T269 h269 X269 e269 W269 V269 => ?_)
  have F269 := F267.other W269 nE nB nI gE
  refine s_aload K X269 at_184 rfl rfl (q := 186) rfl ?_
  refine s_iconst K X269 at_186 (z := 3) rfl (q := 187) rfl ?_
  refine s_aload K X269 at_187 rfl rfl (q := 189) rfl ?_
  refine s_aload K X269 at_189 rfl rfl (q := 191) rfl ?_
  refine s_iload K X269 at_191 rfl (q := 193) rfl ?_
  refine s_iconst K X269 at_193 (z := 3) rfl (q := 194) rfl ?_
  refine s_callS K X269 2 at_194 (hw _ (List.mem_of_getElem? (i := 36) rfl)) (hw _ (List.mem_of_getElem? (i := 37) rfl)) (hw _ (List.mem_of_getElem? (i := 27) rfl)) (hw _ (List.mem_of_getElem? (i := 38) rfl)) (by decide) pd___Lcom_example_matchwright_matchwright_engine_Memory_Link_Lcom_example_matchwright_matchwright_engine_Memory_Link_II_Lcom_example_matchwright_matchwright_engine_Memory_Link_ rfl e269 (argsL := [(.ref B), (.ref xx), (.int (0 : Int32)), (.int (3 : Int32))]) (st := [(.int (3 : Int32)), (.ref b263)]) (c_at_0_3 l Z a0 hw _ B kB [l0, l1, l2, l3, xx] [1, 2, 3, 4, 0] [4, 0, 1, 2, 3] I v0 F269) rfl rfl (by decide) (Nat.le_of_eq rfl) (by decide) (by decide) (by decide) (q := 197) rfl (fun v270 T270 h270 L270 X270 e270 hQ270 => ?_)
  obtain ⟨rfl, rfl, rfl⟩ := hQ270
  refine s_stV K X270 at_197 e270 V269 O263 (by decide) rfl (fun y hy => by cases hy; exact Ins.self (F269.1 2 (by decide)).1) 3 rfl (Nat.le_of_ble_eq_true rfl) (vs' := [(.ref xx), (.ref l0), (.ref l1), (.ref l2), .null]) rfl (q := 198) rfl (fun T271 h271 X271 e271 W271 V271 => ?_)
  have F271 := F269.other W271 nE nB nI gE
  refine s_aload K X271 at_198 rfl rfl (q := 200) rfl ?_
  refine s_iconst K X271 at_200 (z := 4) rfl (q := 201) rfl ?_
  refine s_aload K X271 at_201 rfl rfl (q := 203) rfl ?_
  refine s_aload K X271 at_203 rfl rfl (q := 205) rfl ?_
  refine s_iload K X271 at_205 rfl (q := 207) rfl ?_
  refine s_iconst K X271 at_207 (z := 4) rfl (q := 208) rfl ?_
  refine s_callS K X271 2 at_208 (hw _ (List.mem_of_getElem? (i := 36) rfl)) (hw _ (List.mem_of_getElem? (i := 37) rfl)) (hw _ (List.mem_of_getElem? (i := 27) rfl)) (hw _ (List.mem_of_getElem? (i := 38) rfl)) (by decide) pd___Lcom_example_matchwright_matchwright_engine_Memory_Link_Lcom_example_matchwright_matchwright_engine_Memory_Link_II_Lcom_example_matchwright_matchwright_engine_Memory_Link_ rfl e271 (argsL := [(.ref B), (.ref xx), (.int (0 : Int32)), (.int (4 : Int32))]) (st := [(.int (4 : Int32)), (.ref b263)]) (c_at_0_4 l Z a0 hw _ B kB [l0, l1, l2, l3, xx] [1, 2, 3, 4, 0] [4, 0, 1, 2, 3] I v0 F271) rfl rfl (by decide) (Nat.le_of_eq rfl) (by decide) (by decide) (by decide) (q := 211) rfl (fun v272 T272 h272 L272 X272 e272 hQ272 => ?_)
  obtain ⟨rfl, rfl, rfl⟩ := hQ272
  refine s_stV K X272 at_211 e272 V271 O263 (by decide) rfl (fun y hy => by cases hy; exact Ins.self (F271.1 3 (by decide)).1) 4 rfl (Nat.le_of_ble_eq_true rfl) (vs' := [(.ref xx), (.ref l0), (.ref l1), (.ref l2), (.ref l3)]) rfl (q := 212) rfl (fun T273 h273 X273 e273 W273 V273 => ?_)
  have F273 := F271.other W273 nE nB nI gE
  refine s_aload K X273 at_212 rfl rfl (q := 214) rfl ?_
  refine s_callV K X273 0 (y := (⟨"com/example/matchwright/matchwright/engine/Memory$Link", "item", "()Ljava/lang/Object;"⟩ : MethodName)) (z := (⟨"com/example/matchwright/matchwright/engine/Memory$Link", "item", "()Ljava/lang/Object;"⟩ : MethodName)) at_214 (hw _ (List.mem_of_getElem? (i := 39) rfl)) (hw _ (List.mem_of_getElem? (i := 40) rfl)) (notFace_of_selects (args := #[]) (mvT K.hZ (hw _ (List.mem_of_getElem? (i := 42) rfl)))) (hw _ (List.mem_of_getElem? (i := 42) rfl)) (hw _ (List.mem_of_getElem? (i := 41) rfl)) (hw _ (List.mem_of_getElem? (i := 4) rfl)) (hw _ (List.mem_of_getElem? (i := 43) rfl)) (by decide) pd___Ljava_lang_Object_ rfl e273 (F273.1 4 (by decide)).1 (argsL := []) (st := []) (c_item l Z a0 hw _ xx I F273.2.2.1) rfl rfl (by decide) (Nat.le_of_eq rfl) (by decide) (by decide) (by decide) (q := 217) rfl (fun v274 T274 h274 L274 X274 e274 hQ274 => ?_)
  obtain ⟨rfl, rfl, rfl⟩ := hQ274
  refine s_castY K X274 at_217 (hw _ (List.mem_of_getElem? (i := 44) rfl)) e274 (Ins.self F273.2.2.2.1.1) (q := 220) rfl (fun T275 X275 e275 => ?_)
  refine s_callV K X275 0 (y := (⟨"java/lang/Integer", "intValue", "()I"⟩ : MethodName)) (z := (⟨"java/lang/Integer", "intValue", "()I"⟩ : MethodName)) at_220 (hw _ (List.mem_of_getElem? (i := 46) rfl)) (hw _ (List.mem_of_getElem? (i := 47) rfl)) (notFace_of_selects (args := #[]) (mvT K.hZ (hw _ (List.mem_of_getElem? (i := 49) rfl)))) (hw _ (List.mem_of_getElem? (i := 49) rfl)) (hw _ (List.mem_of_getElem? (i := 48) rfl)) (hw _ (List.mem_of_getElem? (i := 7) rfl)) (hw _ (List.mem_of_getElem? (i := 50) rfl)) (by decide) pd___I rfl e275 F273.2.2.2.1.1 (argsL := []) (st := []) (c_intValue l Z a0 hw _ I v0 F273.2.2.2.1) rfl rfl (by decide) (Nat.le_of_eq rfl) (by decide) (by decide) (by decide) (q := 223) rfl (fun v276 T276 h276 L276 X276 e276 hQ276 => ?_)
  obtain ⟨rfl, rfl, rfl⟩ := hQ276
  refine s_iloadN K X276 at_223 rfl (q := 224) rfl ?_
  refine s_icmp_ne K X276 at_224 (by decide) (q := 231) rfl (q' := 227) rfl (fun h_ => absurd rfl h_) (fun _ => ?_)
  refine s_iconst K X276 at_227 (z := 1) rfl (q := 228) rfl ?_
  refine s_goto K X276 at_228 (by decide) (q := 232) rfl ?_
  refine s_istore K X276 at_232 (l' := #[.val (.int p1), .val (.int p2), .val (.int v0), .val (.int (4 : Int32)), .val (.int (0 : Int32)), .val (.ref B), .val (.ref xx), .val (.int ((4 : Int32) + (1 : Int32))), .val (.ref b263), .val (.int (1 : Int32))]) rfl (q := 234) rfl ?_
  refine s_iload K X276 at_234 rfl (q := 236) rfl ?_
  refine s_if_eq K X276 at_236 (by decide) (q := 254) rfl (q' := 239) rfl (fun h_ => absurd h_ (by decide)) (fun _ => ?_)
  refine s_aload K X276 at_239 rfl rfl (q := 241) rfl ?_
  refine s_iconst K X276 at_241 (z := 0) rfl (q := 242) rfl ?_
  refine s_iload K X276 at_242 rfl (q := 244) rfl ?_
  refine s_callS K X276 0 at_244 (hw _ (List.mem_of_getElem? (i := 53) rfl)) (hw _ (List.mem_of_getElem? (i := 54) rfl)) (hw _ (List.mem_of_getElem? (i := 27) rfl)) (hw _ (List.mem_of_getElem? (i := 55) rfl)) (by decide) pd___Lcom_example_matchwright_matchwright_engine_Memory_Link_II_Z rfl e276 (argsL := [(.ref b263), (.int (0 : Int32)), (.int ((4 : Int32) + (1 : Int32)))]) (st := []) (c_check_0_5 l Z a0 hw _ b263 _ _ xx l0 l3 V273 rfl rfl rfl (F273.1 4 (by decide))) rfl rfl (by decide) (Nat.le_of_eq rfl) (by decide) (by decide) (by decide) (q := 247) rfl (fun v277 T277 h277 L277 X277 e277 hQ277 => ?_)
  obtain ⟨rfl, rfl, rfl⟩ := hQ277
  refine s_if_eq K X277 at_247 (by decide) (q := 254) rfl (q' := 250) rfl (fun h_ => absurd h_ (by decide)) (fun _ => ?_)
  refine s_iconst K X277 at_250 (z := 1) rfl (q := 251) rfl ?_
  refine s_goto K X277 at_251 (by decide) (q := 255) rfl ?_
  refine s_istore K X277 at_255 (l' := #[.val (.int p1), .val (.int p2), .val (.int v0), .val (.int (4 : Int32)), .val (.int (0 : Int32)), .val (.ref B), .val (.ref xx), .val (.int ((4 : Int32) + (1 : Int32))), .val (.ref b263), .val (.int (1 : Int32))]) rfl (q := 257) rfl ?_
  refine s_iload K X277 at_257 rfl (q := 259) rfl ?_
  refine s_if_eq K X277 at_259 (by decide) (q := 277) rfl (q' := 262) rfl (fun h_ => absurd h_ (by decide)) (fun _ => ?_)
  refine s_aload K X277 at_262 rfl rfl (q := 264) rfl ?_
  refine s_iconst K X277 at_264 (z := 1) rfl (q := 265) rfl ?_
  refine s_iload K X277 at_265 rfl (q := 267) rfl ?_
  refine s_callS K X277 0 at_267 (hw _ (List.mem_of_getElem? (i := 53) rfl)) (hw _ (List.mem_of_getElem? (i := 54) rfl)) (hw _ (List.mem_of_getElem? (i := 27) rfl)) (hw _ (List.mem_of_getElem? (i := 55) rfl)) (by decide) pd___Lcom_example_matchwright_matchwright_engine_Memory_Link_II_Z rfl e277 (argsL := [(.ref b263), (.int (1 : Int32)), (.int ((4 : Int32) + (1 : Int32)))]) (st := []) (c_check_1_5 l Z a0 hw _ b263 _ _ l0 l1 xx V273 rfl rfl rfl (F273.1 0 (by decide))) rfl rfl (by decide) (Nat.le_of_eq rfl) (by decide) (by decide) (by decide) (q := 270) rfl (fun v278 T278 h278 L278 X278 e278 hQ278 => ?_)
  obtain ⟨rfl, rfl, rfl⟩ := hQ278
  refine s_if_eq K X278 at_270 (by decide) (q := 277) rfl (q' := 273) rfl (fun h_ => absurd h_ (by decide)) (fun _ => ?_)
  refine s_iconst K X278 at_273 (z := 1) rfl (q := 274) rfl ?_
  refine s_goto K X278 at_274 (by decide) (q := 278) rfl ?_
  refine s_istore K X278 at_278 (l' := #[.val (.int p1), .val (.int p2), .val (.int v0), .val (.int (4 : Int32)), .val (.int (0 : Int32)), .val (.ref B), .val (.ref xx), .val (.int ((4 : Int32) + (1 : Int32))), .val (.ref b263), .val (.int (1 : Int32))]) rfl (q := 280) rfl ?_
  refine s_iload K X278 at_280 rfl (q := 282) rfl ?_
  refine s_if_eq K X278 at_282 (by decide) (q := 300) rfl (q' := 285) rfl (fun h_ => absurd h_ (by decide)) (fun _ => ?_)
  refine s_aload K X278 at_285 rfl rfl (q := 287) rfl ?_
  refine s_iconst K X278 at_287 (z := 2) rfl (q := 288) rfl ?_
  refine s_iload K X278 at_288 rfl (q := 290) rfl ?_
  refine s_callS K X278 0 at_290 (hw _ (List.mem_of_getElem? (i := 53) rfl)) (hw _ (List.mem_of_getElem? (i := 54) rfl)) (hw _ (List.mem_of_getElem? (i := 27) rfl)) (hw _ (List.mem_of_getElem? (i := 55) rfl)) (by decide) pd___Lcom_example_matchwright_matchwright_engine_Memory_Link_II_Z rfl e278 (argsL := [(.ref b263), (.int (2 : Int32)), (.int ((4 : Int32) + (1 : Int32)))]) (st := []) (c_check_2_5 l Z a0 hw _ b263 _ _ l1 l2 l0 V273 rfl rfl rfl (F273.1 1 (by decide))) rfl rfl (by decide) (Nat.le_of_eq rfl) (by decide) (by decide) (by decide) (q := 293) rfl (fun v279 T279 h279 L279 X279 e279 hQ279 => ?_)
  obtain ⟨rfl, rfl, rfl⟩ := hQ279
  refine s_if_eq K X279 at_293 (by decide) (q := 300) rfl (q' := 296) rfl (fun h_ => absurd h_ (by decide)) (fun _ => ?_)
  refine s_iconst K X279 at_296 (z := 1) rfl (q := 297) rfl ?_
  refine s_goto K X279 at_297 (by decide) (q := 301) rfl ?_
  refine s_istore K X279 at_301 (l' := #[.val (.int p1), .val (.int p2), .val (.int v0), .val (.int (4 : Int32)), .val (.int (0 : Int32)), .val (.ref B), .val (.ref xx), .val (.int ((4 : Int32) + (1 : Int32))), .val (.ref b263), .val (.int (1 : Int32))]) rfl (q := 303) rfl ?_
  refine s_iload K X279 at_303 rfl (q := 305) rfl ?_
  refine s_if_eq K X279 at_305 (by decide) (q := 323) rfl (q' := 308) rfl (fun h_ => absurd h_ (by decide)) (fun _ => ?_)
  refine s_aload K X279 at_308 rfl rfl (q := 310) rfl ?_
  refine s_iconst K X279 at_310 (z := 3) rfl (q := 311) rfl ?_
  refine s_iload K X279 at_311 rfl (q := 313) rfl ?_
  refine s_callS K X279 0 at_313 (hw _ (List.mem_of_getElem? (i := 53) rfl)) (hw _ (List.mem_of_getElem? (i := 54) rfl)) (hw _ (List.mem_of_getElem? (i := 27) rfl)) (hw _ (List.mem_of_getElem? (i := 55) rfl)) (by decide) pd___Lcom_example_matchwright_matchwright_engine_Memory_Link_II_Z rfl e279 (argsL := [(.ref b263), (.int (3 : Int32)), (.int ((4 : Int32) + (1 : Int32)))]) (st := []) (c_check_3_5 l Z a0 hw _ b263 _ _ l2 l3 l1 V273 rfl rfl rfl (F273.1 2 (by decide))) rfl rfl (by decide) (Nat.le_of_eq rfl) (by decide) (by decide) (by decide) (q := 316) rfl (fun v280 T280 h280 L280 X280 e280 hQ280 => ?_)
  obtain ⟨rfl, rfl, rfl⟩ := hQ280
  refine s_if_eq K X280 at_316 (by decide) (q := 323) rfl (q' := 319) rfl (fun h_ => absurd h_ (by decide)) (fun _ => ?_)
  refine s_iconst K X280 at_319 (z := 1) rfl (q := 320) rfl ?_
  refine s_goto K X280 at_320 (by decide) (q := 324) rfl ?_
  refine s_istore K X280 at_324 (l' := #[.val (.int p1), .val (.int p2), .val (.int v0), .val (.int (4 : Int32)), .val (.int (0 : Int32)), .val (.ref B), .val (.ref xx), .val (.int ((4 : Int32) + (1 : Int32))), .val (.ref b263), .val (.int (1 : Int32))]) rfl (q := 326) rfl ?_
  refine s_iload K X280 at_326 rfl (q := 328) rfl ?_
  refine s_if_eq K X280 at_328 (by decide) (q := 346) rfl (q' := 331) rfl (fun h_ => absurd h_ (by decide)) (fun _ => ?_)
  refine s_aload K X280 at_331 rfl rfl (q := 333) rfl ?_
  refine s_iconst K X280 at_333 (z := 4) rfl (q := 334) rfl ?_
  refine s_iload K X280 at_334 rfl (q := 336) rfl ?_
  refine s_callS K X280 0 at_336 (hw _ (List.mem_of_getElem? (i := 53) rfl)) (hw _ (List.mem_of_getElem? (i := 54) rfl)) (hw _ (List.mem_of_getElem? (i := 27) rfl)) (hw _ (List.mem_of_getElem? (i := 55) rfl)) (by decide) pd___Lcom_example_matchwright_matchwright_engine_Memory_Link_II_Z rfl e280 (argsL := [(.ref b263), (.int (4 : Int32)), (.int ((4 : Int32) + (1 : Int32)))]) (st := []) (c_check_4_5 l Z a0 hw _ b263 _ _ l3 xx l2 V273 rfl rfl rfl (F273.1 3 (by decide))) rfl rfl (by decide) (Nat.le_of_eq rfl) (by decide) (by decide) (by decide) (q := 339) rfl (fun v281 T281 h281 L281 X281 e281 hQ281 => ?_)
  obtain ⟨rfl, rfl, rfl⟩ := hQ281
  refine s_if_eq K X281 at_339 (by decide) (q := 346) rfl (q' := 342) rfl (fun h_ => absurd h_ (by decide)) (fun _ => ?_)
  refine s_iconst K X281 at_342 (z := 1) rfl (q := 343) rfl ?_
  refine s_goto K X281 at_343 (by decide) (q := 347) rfl ?_
  refine s_istore K X281 at_347 (l' := #[.val (.int p1), .val (.int p2), .val (.int v0), .val (.int (4 : Int32)), .val (.int (0 : Int32)), .val (.ref B), .val (.ref xx), .val (.int ((4 : Int32) + (1 : Int32))), .val (.ref b263), .val (.int (1 : Int32))]) rfl (q := 349) rfl ?_
  refine s_iload K X281 at_349 rfl (q := 351) rfl ?_
  refine s_if_eq K X281 at_351 (by decide) (q := 368) rfl (q' := 354) rfl (fun h_ => absurd h_ (by decide)) (fun _ => ?_)
  refine s_aload K X281 at_354 rfl rfl (q := 356) rfl ?_
  refine s_iconst K X281 at_356 (z := 1) rfl (q := 357) rfl ?_
  refine s_iloadN K X281 at_357 rfl (q := 358) rfl ?_
  refine s_callS K X281 0 at_358 (hw _ (List.mem_of_getElem? (i := 56) rfl)) (hw _ (List.mem_of_getElem? (i := 57) rfl)) (hw _ (List.mem_of_getElem? (i := 27) rfl)) (hw _ (List.mem_of_getElem? (i := 58) rfl)) (by decide) pd___Lcom_example_matchwright_matchwright_engine_Memory_Link_II_Z rfl e281 (argsL := [(.ref B), (.int (1 : Int32)), (.int (4 : Int32))]) (st := []) (c_alone_in l Z a0 hw _ B 1 4 (by decide)) rfl rfl (by decide) (Nat.le_of_eq rfl) (by decide) (by decide) (by decide) (q := 361) rfl (fun v282 T282 h282 L282 X282 e282 hQ282 => ?_)
  obtain ⟨rfl, rfl, rfl⟩ := hQ282
  refine s_if_eq K X282 at_361 (by decide) (q := 368) rfl (q' := 364) rfl (fun h_ => absurd h_ (by decide)) (fun _ => ?_)
  refine s_iconst K X282 at_364 (z := 1) rfl (q := 365) rfl ?_
  refine s_goto K X282 at_365 (by decide) (q := 369) rfl ?_
  refine s_istore K X282 at_369 (l' := #[.val (.int p1), .val (.int p2), .val (.int v0), .val (.int (4 : Int32)), .val (.int (0 : Int32)), .val (.ref B), .val (.ref xx), .val (.int ((4 : Int32) + (1 : Int32))), .val (.ref b263), .val (.int (1 : Int32))]) rfl (q := 371) rfl ?_
  refine s_iload K X282 at_371 rfl (q := 373) rfl ?_
  refine s_if_eq K X282 at_373 (by decide) (q := 390) rfl (q' := 376) rfl (fun h_ => absurd h_ (by decide)) (fun _ => ?_)
  refine s_aload K X282 at_376 rfl rfl (q := 378) rfl ?_
  refine s_iconst K X282 at_378 (z := 2) rfl (q := 379) rfl ?_
  refine s_iloadN K X282 at_379 rfl (q := 380) rfl ?_
  refine s_callS K X282 0 at_380 (hw _ (List.mem_of_getElem? (i := 56) rfl)) (hw _ (List.mem_of_getElem? (i := 57) rfl)) (hw _ (List.mem_of_getElem? (i := 27) rfl)) (hw _ (List.mem_of_getElem? (i := 58) rfl)) (by decide) pd___Lcom_example_matchwright_matchwright_engine_Memory_Link_II_Z rfl e282 (argsL := [(.ref B), (.int (2 : Int32)), (.int (4 : Int32))]) (st := []) (c_alone_in l Z a0 hw _ B 2 4 (by decide)) rfl rfl (by decide) (Nat.le_of_eq rfl) (by decide) (by decide) (by decide) (q := 383) rfl (fun v283 T283 h283 L283 X283 e283 hQ283 => ?_)
  obtain ⟨rfl, rfl, rfl⟩ := hQ283
  refine s_if_eq K X283 at_383 (by decide) (q := 390) rfl (q' := 386) rfl (fun h_ => absurd h_ (by decide)) (fun _ => ?_)
  refine s_iconst K X283 at_386 (z := 1) rfl (q := 387) rfl ?_
  refine s_goto K X283 at_387 (by decide) (q := 391) rfl ?_
  refine s_istore K X283 at_391 (l' := #[.val (.int p1), .val (.int p2), .val (.int v0), .val (.int (4 : Int32)), .val (.int (0 : Int32)), .val (.ref B), .val (.ref xx), .val (.int ((4 : Int32) + (1 : Int32))), .val (.ref b263), .val (.int (1 : Int32))]) rfl (q := 393) rfl ?_
  refine s_iload K X283 at_393 rfl (q := 395) rfl ?_
  refine s_if_eq K X283 at_395 (by decide) (q := 412) rfl (q' := 398) rfl (fun h_ => absurd h_ (by decide)) (fun _ => ?_)
  refine s_aload K X283 at_398 rfl rfl (q := 400) rfl ?_
  refine s_iconst K X283 at_400 (z := 3) rfl (q := 401) rfl ?_
  refine s_iloadN K X283 at_401 rfl (q := 402) rfl ?_
  refine s_callS K X283 0 at_402 (hw _ (List.mem_of_getElem? (i := 56) rfl)) (hw _ (List.mem_of_getElem? (i := 57) rfl)) (hw _ (List.mem_of_getElem? (i := 27) rfl)) (hw _ (List.mem_of_getElem? (i := 58) rfl)) (by decide) pd___Lcom_example_matchwright_matchwright_engine_Memory_Link_II_Z rfl e283 (argsL := [(.ref B), (.int (3 : Int32)), (.int (4 : Int32))]) (st := []) (c_alone_in l Z a0 hw _ B 3 4 (by decide)) rfl rfl (by decide) (Nat.le_of_eq rfl) (by decide) (by decide) (by decide) (q := 405) rfl (fun v284 T284 h284 L284 X284 e284 hQ284 => ?_)
  obtain ⟨rfl, rfl, rfl⟩ := hQ284
  refine s_if_eq K X284 at_405 (by decide) (q := 412) rfl (q' := 408) rfl (fun h_ => absurd h_ (by decide)) (fun _ => ?_)
  refine s_iconst K X284 at_408 (z := 1) rfl (q := 409) rfl ?_
  refine s_goto K X284 at_409 (by decide) (q := 413) rfl ?_
  refine s_istore K X284 at_413 (l' := #[.val (.int p1), .val (.int p2), .val (.int v0), .val (.int (4 : Int32)), .val (.int (0 : Int32)), .val (.ref B), .val (.ref xx), .val (.int ((4 : Int32) + (1 : Int32))), .val (.ref b263), .val (.int (1 : Int32))]) rfl (q := 415) rfl ?_
  refine s_iload K X284 at_415 rfl (q := 417) rfl ?_
  exact s_retZ K X284 at_417 rfl (by decide) e284 (by decide) (by decide) ⟨rfl, (Fr.app (Fr.app (Fr.app (Fr.app (Fr.app (Fr.app (Fr.app (Fr.app (Fr.app (Fr.app (Fr.app (Fr.app (Fr.app (Fr.app (Fr.app (Fr.app (Fr.app (Fr.app (Fr.app (Fr.app (Fr.app (Fr.app (Fr.app (Fr.app (Fr.app NN M258) M259) M260) M261) M262) (Fr.nil _)) (fr_one gE)) (Fr.nil _)) (fr_one gE)) (Fr.nil _)) (fr_one gE)) (Fr.nil _)) (fr_one gE)) (Fr.nil _)) (fr_one gE)) (Fr.nil _)) (Fr.nil _)) (Fr.nil _)) (Fr.nil _)) (Fr.nil _)) (Fr.nil _)) (Fr.nil _)) (Fr.nil _)) (Fr.nil _)) (Fr.nil _))⟩
set_option maxRecDepth 65536 in
set_option maxHeartbeats 40000000 in
theorem c_tail_4_1 (l : Launch) (Z : State) (a0 : Array Value) (hw : ∀ d ∈ tables_1, d.before a0 Z = true) (S : Slots Z) {p : Program} {e : Env} {s : State} {m : MethodId} {args : Array Value} {below : List Frame} {meth : Method} {cod : Code} {T : State} {locs : List Loc} {h : Heap} (K : Cx Z p s m meth cod x.cls code maxLocals ret x.name) (X : Stand p l e room_1 s m args below meth cod T locs 11 24) (B : Addr) (kB : ClassId) (l0 l1 l2 l3 xx I : Addr) (v0 p1 p2 : Int32) (eT : T.heap = h) (P : Sep Z B [l0, l1, l2, l3, xx]) (F : Inv Z h B kB [l0, l1, l2, l3, xx] [0, 1, 2, 3, 4] [0, 1, 2, 3, 4] I v0) (NN : Fr Z.heap.size locs) :
    Goes p e below (Fini s room_1 (fun v h L => v = some (.int 1) ∧ Fr Z.heap.size L)) T (mkF m 93 #[.val (.int p1), .val (.int p2), .val (.int v0), .val (.int (4 : Int32)), .val (.int (1 : Int32)), .val (.ref B), .val (.ref xx), .unset, .unset, .unset] []) := by
  refine s_aload K X at_93 rfl rfl (q := 95) rfl ?_
  refine s_iconst K X at_95 (z := 0) rfl (q := 96) rfl ?_
  refine s_iloadN K X at_96 rfl (q := 97) rfl ?_
  refine s_callS K X 0 at_97 (hw _ (List.mem_of_getElem? (i := 25) rfl)) (hw _ (List.mem_of_getElem? (i := 26) rfl)) (hw _ (List.mem_of_getElem? (i := 27) rfl)) (hw _ (List.mem_of_getElem? (i := 28) rfl)) (by decide) pd___Lcom_example_matchwright_matchwright_engine_Memory_Link_II_V rfl eT (argsL := [(.ref B), (.int (0 : Int32)), (.int (4 : Int32))]) (st := []) (c_ring_0_4 l Z a0 hw S _ B kB [l0, l1, l2, l3, xx] [0, 1, 2, 3, 4] [0, 1, 2, 3, 4] I v0 P F rfl rfl) rfl rfl (by decide) (Nat.le_of_eq rfl) (by decide) (by decide) (by decide) (q := 100) rfl (fun v285 T285 h285 L285 X285 e285 hQ285 => ?_)
  obtain ⟨rfl, F285, M285⟩ := hQ285
  refine s_aload K X285 at_100 rfl rfl (q := 102) rfl ?_
  refine s_iconst K X285 at_102 (z := 1) rfl (q := 103) rfl ?_
  refine s_iloadN K X285 at_103 rfl (q := 104) rfl ?_
  refine s_callS K X285 0 at_104 (hw _ (List.mem_of_getElem? (i := 25) rfl)) (hw _ (List.mem_of_getElem? (i := 26) rfl)) (hw _ (List.mem_of_getElem? (i := 27) rfl)) (hw _ (List.mem_of_getElem? (i := 28) rfl)) (by decide) pd___Lcom_example_matchwright_matchwright_engine_Memory_Link_II_V rfl e285 (argsL := [(.ref B), (.int (1 : Int32)), (.int (4 : Int32))]) (st := []) (c_ring_1_4 l Z a0 hw S _ B kB [l0, l1, l2, l3, xx] [1, 1, 2, 3, 4] [3, 1, 2, 3, 4] I v0 P F285 rfl rfl) rfl rfl (by decide) (Nat.le_of_eq rfl) (by decide) (by decide) (by decide) (q := 107) rfl (fun v286 T286 h286 L286 X286 e286 hQ286 => ?_)
  obtain ⟨rfl, F286, M286⟩ := hQ286
  refine s_aload K X286 at_107 rfl rfl (q := 109) rfl ?_
  refine s_iconst K X286 at_109 (z := 2) rfl (q := 110) rfl ?_
  refine s_iloadN K X286 at_110 rfl (q := 111) rfl ?_
  refine s_callS K X286 0 at_111 (hw _ (List.mem_of_getElem? (i := 25) rfl)) (hw _ (List.mem_of_getElem? (i := 26) rfl)) (hw _ (List.mem_of_getElem? (i := 27) rfl)) (hw _ (List.mem_of_getElem? (i := 28) rfl)) (by decide) pd___Lcom_example_matchwright_matchwright_engine_Memory_Link_II_V rfl e286 (argsL := [(.ref B), (.int (2 : Int32)), (.int (4 : Int32))]) (st := []) (c_ring_2_4 l Z a0 hw S _ B kB [l0, l1, l2, l3, xx] [1, 2, 2, 3, 4] [3, 0, 2, 3, 4] I v0 P F286 rfl rfl) rfl rfl (by decide) (Nat.le_of_eq rfl) (by decide) (by decide) (by decide) (q := 114) rfl (fun v287 T287 h287 L287 X287 e287 hQ287 => ?_)
  obtain ⟨rfl, F287, M287⟩ := hQ287
  refine s_aload K X287 at_114 rfl rfl (q := 116) rfl ?_
  refine s_iconst K X287 at_116 (z := 3) rfl (q := 117) rfl ?_
  refine s_iloadN K X287 at_117 rfl (q := 118) rfl ?_
  refine s_callS K X287 0 at_118 (hw _ (List.mem_of_getElem? (i := 25) rfl)) (hw _ (List.mem_of_getElem? (i := 26) rfl)) (hw _ (List.mem_of_getElem? (i := 27) rfl)) (hw _ (List.mem_of_getElem? (i := 28) rfl)) (by decide) pd___Lcom_example_matchwright_matchwright_engine_Memory_Link_II_V rfl e287 (argsL := [(.ref B), (.int (3 : Int32)), (.int (4 : Int32))]) (st := []) (c_ring_3_4 l Z a0 hw S _ B kB [l0, l1, l2, l3, xx] [1, 2, 3, 3, 4] [3, 0, 1, 3, 4] I v0 P F287 rfl rfl) rfl rfl (by decide) (Nat.le_of_eq rfl) (by decide) (by decide) (by decide) (q := 121) rfl (fun v288 T288 h288 L288 X288 e288 hQ288 => ?_)
  obtain ⟨rfl, F288, M288⟩ := hQ288
  refine s_aload K X288 at_121 rfl rfl (q := 123) rfl ?_
  refine s_aload K X288 at_123 rfl rfl (q := 125) rfl ?_
  refine s_iload K X288 at_125 rfl (q := 127) rfl ?_
  refine s_ldV K X288 at_127 e288 F288.2.1 rfl (by decide) rfl (q := 128) rfl ?_
  refine s_callV K X288 0 (y := (⟨"com/example/matchwright/matchwright/engine/Memory$Link", "linkBefore", "(Lcom/example/matchwright/matchwright/engine/Memory$Link;)V"⟩ : MethodName)) (z := (⟨"com/example/matchwright/matchwright/engine/Memory$Link", "linkBefore", "(Lcom/example/matchwright/matchwright/engine/Memory$Link;)V"⟩ : MethodName)) at_128 (hw _ (List.mem_of_getElem? (i := 31) rfl)) (hw _ (List.mem_of_getElem? (i := 32) rfl)) (notFace_of_selects (args := #[]) (mvT K.hZ (hw _ (List.mem_of_getElem? (i := 34) rfl)))) (hw _ (List.mem_of_getElem? (i := 34) rfl)) (hw _ (List.mem_of_getElem? (i := 33) rfl)) (hw _ (List.mem_of_getElem? (i := 4) rfl)) (hw _ (List.mem_of_getElem? (i := 35) rfl)) (by decide) pd__Lcom_example_matchwright_matchwright_engine_Memory_Link__V rfl e288 (F288.1 4 (by decide)).1 (argsL := [(.ref l1)]) (st := []) (c_before l Z a0 hw S _ B kB [l0, l1, l2, l3, xx] [1, 2, 3, 0, 4] [3, 0, 1, 2, 4] I v0 P F288 rfl rfl 1 0 (by decide) (by decide) rfl rfl) rfl rfl (by decide) (Nat.le_of_eq rfl) (by decide) (by decide) (by decide) (q := 131) rfl (fun v289 T289 h289 L289 X289 e289 hQ289 => ?_)
  obtain ⟨rfl, F289, M289⟩ := hQ289
  refine s_iloadN K X289 at_131 rfl (q := 132) rfl ?_
  refine s_iconst K X289 at_132 (z := 1) rfl (q := 133) rfl ?_
  refine s_iadd K X289 at_133 (q := 134) rfl ?_
  refine s_istore K X289 at_134 (l' := #[.val (.int p1), .val (.int p2), .val (.int v0), .val (.int (4 : Int32)), .val (.int (1 : Int32)), .val (.ref B), .val (.ref xx), .val (.int ((4 : Int32) + (1 : Int32))), .unset, .unset]) rfl (q := 136) rfl ?_
  refine s_iconst K X289 at_136 (z := 5) rfl (q := 137) rfl ?_
  refine s_newV K X289 at_137 (hw _ (List.mem_of_getElem? (i := 1) rfl)) (hw _ (List.mem_of_getElem? (i := 2) rfl)) e289 (by decide) 5 (by decide) (by decide) (by decide) (by decide) (vs := [.null, .null, .null, .null, .null]) rfl (q := 140) rfl (fun T290 h290 b290 k290 g290 X290 e290 E290 V290 O290 => ?_)
  have gE : Z.heap.size ≤ b290 := by rw [g290]; exact old_le F289.2.2.2.2
  have nE : ∀ i, i < 5 → ([l0, l1, l2, l3, xx] : List Addr).getD i 0 ≠ b290 := fun i hi => Nat.ne_of_lt (by rw [g290]; exact (F289.1 i hi).1.lt)
  have nB : B ≠ b290 := Nat.ne_of_lt (by rw [g290]; exact F289.2.1.lt)
  have nI : I ≠ b290 := Nat.ne_of_lt (by rw [g290]; exact F289.2.2.2.1.1.lt)
  have F290 := F289.ext E290
  change Inv Z _ B kB [l0, l1, l2, l3, xx] [4, 2, 3, 0, 1] [3, 4, 1, 2, 0] I v0 at F290
  refine s_astore K X290 at_140 rfl (l' := #[.val (.int p1), .val (.int p2), .val (.int v0), .val (.int (4 : Int32)), .val (.int (1 : Int32)), .val (.ref B), .val (.ref xx), .val (.int ((4 : Int32) + (1 : Int32))), .val (.ref b290), .unset]) rfl (q := 142) rfl ?_
  refine s_aload K X290 at_142 rfl rfl (q := 144) rfl ?_
  refine s_iconst K X290 at_144 (z := 0) rfl (q := 145) rfl ?_
  refine s_aload K X290 at_145 rfl rfl (q := 147) rfl ?_
  refine s_aload K X290 at_147 rfl rfl (q := 149) rfl ?_
  refine s_iload K X290 at_149 rfl (q := 151) rfl ?_
  refine s_iconst K X290 at_151 (z := 0) rfl (q := 152) rfl ?_
  refine s_callS K X290 2 at_152 (hw _ (List.mem_of_getElem? (i := 36) rfl)) (hw _ (List.mem_of_getElem? (i := 37) rfl)) (hw _ (List.mem_of_getElem? (i := 27) rfl)) (hw _ (List.mem_of_getElem? (i := 38) rfl)) (by decide) pd___Lcom_example_matchwright_matchwright_engine_Memory_Link_Lcom_example_matchwright_matchwright_engine_Memory_Link_II_Lcom_example_matchwright_matchwright_engine_Memory_Link_ rfl e290 (argsL := [(.ref B), (.ref xx), (.int (1 : Int32)), (.int (0 : Int32))]) (st := [(.int (0 : Int32)), (.ref b290)]) (c_at_1_0 l Z a0 hw _ B kB [l0, l1, l2, l3, xx] [4, 2, 3, 0, 1] [3, 4, 1, 2, 0] I v0 F290) rfl rfl (by decide) (Nat.le_of_eq rfl) (by decide) (by decide) (by decide) (q := 155) rfl (fun v291 T291 h291 L291 X291 e291 hQ291 => ?_)
  obtain ⟨rfl, rfl, rfl⟩ := hQ291
  refine s_stV K X291 at_155 e291 V290 O290 (by decide) rfl (fun y hy => by cases hy; exact Ins.self (F290.1 0 (by decide)).1) 0 rfl (Nat.le_of_ble_eq_true rfl) (vs' := [(.ref l0), .null, .null, .null, .null]) rfl (q := 156) rfl (fun T292 h292 X292 e292 W292 V292 => ?_)
  have F292 := F290.other W292 nE nB nI gE
  refine s_aload K X292 at_156 rfl rfl (q := 158) rfl ?_
  refine s_iconst K X292 at_158 (z := 1) rfl (q := 159) rfl ?_
  refine s_aload K X292 at_159 rfl rfl (q := 161) rfl ?_
  refine s_aload K X292 at_161 rfl rfl (q := 163) rfl ?_
  refine s_iload K X292 at_163 rfl (q := 165) rfl ?_
  refine s_iconst K X292 at_165 (z := 1) rfl (q := 166) rfl ?_
  refine s_callS K X292 2 at_166 (hw _ (List.mem_of_getElem? (i := 36) rfl)) (hw _ (List.mem_of_getElem? (i := 37) rfl)) (hw _ (List.mem_of_getElem? (i := 27) rfl)) (hw _ (List.mem_of_getElem? (i := 38) rfl)) (by decide) pd___Lcom_example_matchwright_matchwright_engine_Memory_Link_Lcom_example_matchwright_matchwright_engine_Memory_Link_II_Lcom_example_matchwright_matchwright_engine_Memory_Link_ rfl e292 (argsL := [(.ref B), (.ref xx), (.int (1 : Int32)), (.int (1 : Int32))]) (st := [(.int (1 : Int32)), (.ref b290)]) (c_at_1_1 l Z a0 hw _ B kB [l0, l1, l2, l3, xx] [4, 2, 3, 0, 1] [3, 4, 1, 2, 0] I v0 F292) rfl rfl (by decide) (Nat.le_of_eq rfl) (by decide) (by decide) (by decide) (q := 169) rfl (fun v293 T293 h293 L293 X293 e293 hQ293 => ?_)
  obtain ⟨rfl, rfl, rfl⟩ := hQ293
  refine s_stV K X293 at_169 e293 V292 O290 (by decide) rfl (fun y hy => by cases hy; exact Ins.self (F292.1 4 (by decide)).1) 1 rfl (Nat.le_of_ble_eq_true rfl) (vs' := [(.ref l0), (.ref xx), .null, .null, .null]) rfl (q := 170) rfl (fun T294 h294 X294 e294 W294 V294 => ?_)
  have F294 := F292.other W294 nE nB nI gE
  refine s_aload K X294 at_170 rfl rfl (q := 172) rfl ?_
  refine s_iconst K X294 at_172 (z := 2) rfl (q := 173) rfl ?_
  refine s_aload K X294 at_173 rfl rfl (q := 175) rfl ?_
  refine s_aload K X294 at_175 rfl rfl (q := 177) rfl ?_
  refine s_iload K X294 at_177 rfl (q := 179) rfl ?_
  refine s_iconst K X294 at_179 (z := 2) rfl (q := 180) rfl ?_
  refine s_callS K X294 2 at_180 (hw _ (List.mem_of_getElem? (i := 36) rfl)) (hw _ (List.mem_of_getElem? (i := 37) rfl)) (hw _ (List.mem_of_getElem? (i := 27) rfl)) (hw _ (List.mem_of_getElem? (i := 38) rfl)) (by decide) pd___Lcom_example_matchwright_matchwright_engine_Memory_Link_Lcom_example_matchwright_matchwright_engine_Memory_Link_II_Lcom_example_matchwright_matchwright_engine_Memory_Link_ rfl e294 (argsL := [(.ref B), (.ref xx), (.int (1 : Int32)), (.int (2 : Int32))]) (st := [(.int (2 : Int32)), (.ref b290)]) (c_at_1_2 l Z a0 hw _ B kB [l0, l1, l2, l3, xx] [4, 2, 3, 0, 1] [3, 4, 1, 2, 0] I v0 F294) rfl rfl (by decide) (Nat.le_of_eq rfl) (by decide) (by decide) (by decide) (q := 183) rfl (fun v295 T295 h295 L295 X295 e295 hQ295 => ?_)
  obtain ⟨rfl, rfl, rfl⟩ := hQ295
  refine s_stV K X295 at_183 e295 V294 O290 (by decide) rfl (fun y hy => by cases hy; exact Ins.self (F294.1 1 (by decide)).1) 2 rfl (Nat.le_of_ble_eq_true rfl) (vs' := [(.ref l0), (.ref xx), (.ref l1), .null, .null]) rfl (q := 184) rfl (fun T296 h296 X296 e296 W296 V296 => ?_)
  have F296 := F294.other W296 nE nB nI gE
  refine s_aload K X296 at_184 rfl rfl (q := 186) rfl ?_
  refine s_iconst K X296 at_186 (z := 3) rfl (q := 187) rfl ?_
  refine s_aload K X296 at_187 rfl rfl (q := 189) rfl ?_
  refine s_aload K X296 at_189 rfl rfl (q := 191) rfl ?_
  refine s_iload K X296 at_191 rfl (q := 193) rfl ?_
  refine s_iconst K X296 at_193 (z := 3) rfl (q := 194) rfl ?_
  refine s_callS K X296 2 at_194 (hw _ (List.mem_of_getElem? (i := 36) rfl)) (hw _ (List.mem_of_getElem? (i := 37) rfl)) (hw _ (List.mem_of_getElem? (i := 27) rfl)) (hw _ (List.mem_of_getElem? (i := 38) rfl)) (by decide) pd___Lcom_example_matchwright_matchwright_engine_Memory_Link_Lcom_example_matchwright_matchwright_engine_Memory_Link_II_Lcom_example_matchwright_matchwright_engine_Memory_Link_ rfl e296 (argsL := [(.ref B), (.ref xx), (.int (1 : Int32)), (.int (3 : Int32))]) (st := [(.int (3 : Int32)), (.ref b290)]) (c_at_1_3 l Z a0 hw _ B kB [l0, l1, l2, l3, xx] [4, 2, 3, 0, 1] [3, 4, 1, 2, 0] I v0 F296) rfl rfl (by decide) (Nat.le_of_eq rfl) (by decide) (by decide) (by decide) (q := 197) rfl (fun v297 T297 h297 L297 X297 e297 hQ297 => ?_)
  obtain ⟨rfl, rfl, rfl⟩ := hQ297
  refine s_stV K X297 at_197 e297 V296 O290 (by decide) rfl (fun y hy => by cases hy; exact Ins.self (F296.1 2 (by decide)).1) 3 rfl (Nat.le_of_ble_eq_true rfl) (vs' := [(.ref l0), (.ref xx), (.ref l1), (.ref l2), .null]) rfl (q := 198) rfl (fun T298 h298 X298 e298 W298 V298 => ?_)
  have F298 := F296.other W298 nE nB nI gE
  refine s_aload K X298 at_198 rfl rfl (q := 200) rfl ?_
  refine s_iconst K X298 at_200 (z := 4) rfl (q := 201) rfl ?_
  refine s_aload K X298 at_201 rfl rfl (q := 203) rfl ?_
  refine s_aload K X298 at_203 rfl rfl (q := 205) rfl ?_
  refine s_iload K X298 at_205 rfl (q := 207) rfl ?_
  refine s_iconst K X298 at_207 (z := 4) rfl (q := 208) rfl ?_
  refine s_callS K X298 2 at_208 (hw _ (List.mem_of_getElem? (i := 36) rfl)) (hw _ (List.mem_of_getElem? (i := 37) rfl)) (hw _ (List.mem_of_getElem? (i := 27) rfl)) (hw _ (List.mem_of_getElem? (i := 38) rfl)) (by decide) pd___Lcom_example_matchwright_matchwright_engine_Memory_Link_Lcom_example_matchwright_matchwright_engine_Memory_Link_II_Lcom_example_matchwright_matchwright_engine_Memory_Link_ rfl e298 (argsL := [(.ref B), (.ref xx), (.int (1 : Int32)), (.int (4 : Int32))]) (st := [(.int (4 : Int32)), (.ref b290)]) (c_at_1_4 l Z a0 hw _ B kB [l0, l1, l2, l3, xx] [4, 2, 3, 0, 1] [3, 4, 1, 2, 0] I v0 F298) rfl rfl (by decide) (Nat.le_of_eq rfl) (by decide) (by decide) (by decide) (q := 211) rfl (fun v299 T299 h299 L299 X299 e299 hQ299 => ?_)
  obtain ⟨rfl, rfl, rfl⟩ := hQ299
  refine s_stV K X299 at_211 e299 V298 O290 (by decide) rfl (fun y hy => by cases hy; exact Ins.self (F298.1 3 (by decide)).1) 4 rfl (Nat.le_of_ble_eq_true rfl) (vs' := [(.ref l0), (.ref xx), (.ref l1), (.ref l2), (.ref l3)]) rfl (q := 212) rfl (fun T300 h300 X300 e300 W300 V300 => ?_)
  have F300 := F298.other W300 nE nB nI gE
  refine s_aload K X300 at_212 rfl rfl (q := 214) rfl ?_
  refine s_callV K X300 0 (y := (⟨"com/example/matchwright/matchwright/engine/Memory$Link", "item", "()Ljava/lang/Object;"⟩ : MethodName)) (z := (⟨"com/example/matchwright/matchwright/engine/Memory$Link", "item", "()Ljava/lang/Object;"⟩ : MethodName)) at_214 (hw _ (List.mem_of_getElem? (i := 39) rfl)) (hw _ (List.mem_of_getElem? (i := 40) rfl)) (notFace_of_selects (args := #[]) (mvT K.hZ (hw _ (List.mem_of_getElem? (i := 42) rfl)))) (hw _ (List.mem_of_getElem? (i := 42) rfl)) (hw _ (List.mem_of_getElem? (i := 41) rfl)) (hw _ (List.mem_of_getElem? (i := 4) rfl)) (hw _ (List.mem_of_getElem? (i := 43) rfl)) (by decide) pd___Ljava_lang_Object_ rfl e300 (F300.1 4 (by decide)).1 (argsL := []) (st := []) (c_item l Z a0 hw _ xx I F300.2.2.1) rfl rfl (by decide) (Nat.le_of_eq rfl) (by decide) (by decide) (by decide) (q := 217) rfl (fun v301 T301 h301 L301 X301 e301 hQ301 => ?_)
  obtain ⟨rfl, rfl, rfl⟩ := hQ301
  refine s_castY K X301 at_217 (hw _ (List.mem_of_getElem? (i := 44) rfl)) e301 (Ins.self F300.2.2.2.1.1) (q := 220) rfl (fun T302 X302 e302 => ?_)
  refine s_callV K X302 0 (y := (⟨"java/lang/Integer", "intValue", "()I"⟩ : MethodName)) (z := (⟨"java/lang/Integer", "intValue", "()I"⟩ : MethodName)) at_220 (hw _ (List.mem_of_getElem? (i := 46) rfl)) (hw _ (List.mem_of_getElem? (i := 47) rfl)) (notFace_of_selects (args := #[]) (mvT K.hZ (hw _ (List.mem_of_getElem? (i := 49) rfl)))) (hw _ (List.mem_of_getElem? (i := 49) rfl)) (hw _ (List.mem_of_getElem? (i := 48) rfl)) (hw _ (List.mem_of_getElem? (i := 7) rfl)) (hw _ (List.mem_of_getElem? (i := 50) rfl)) (by decide) pd___I rfl e302 F300.2.2.2.1.1 (argsL := []) (st := []) (c_intValue l Z a0 hw _ I v0 F300.2.2.2.1) rfl rfl (by decide) (Nat.le_of_eq rfl) (by decide) (by decide) (by decide) (q := 223) rfl (fun v303 T303 h303 L303 X303 e303 hQ303 => ?_)
  obtain ⟨rfl, rfl, rfl⟩ := hQ303
  refine s_iloadN K X303 at_223 rfl (q := 224) rfl ?_
  refine s_icmp_ne K X303 at_224 (by decide) (q := 231) rfl (q' := 227) rfl (fun h_ => absurd rfl h_) (fun _ => ?_)
  refine s_iconst K X303 at_227 (z := 1) rfl (q := 228) rfl ?_
  refine s_goto K X303 at_228 (by decide) (q := 232) rfl ?_
  refine s_istore K X303 at_232 (l' := #[.val (.int p1), .val (.int p2), .val (.int v0), .val (.int (4 : Int32)), .val (.int (1 : Int32)), .val (.ref B), .val (.ref xx), .val (.int ((4 : Int32) + (1 : Int32))), .val (.ref b290), .val (.int (1 : Int32))]) rfl (q := 234) rfl ?_
  refine s_iload K X303 at_234 rfl (q := 236) rfl ?_
  refine s_if_eq K X303 at_236 (by decide) (q := 254) rfl (q' := 239) rfl (fun h_ => absurd h_ (by decide)) (fun _ => ?_)
  refine s_aload K X303 at_239 rfl rfl (q := 241) rfl ?_
  refine s_iconst K X303 at_241 (z := 0) rfl (q := 242) rfl ?_
  refine s_iload K X303 at_242 rfl (q := 244) rfl ?_
  refine s_callS K X303 0 at_244 (hw _ (List.mem_of_getElem? (i := 53) rfl)) (hw _ (List.mem_of_getElem? (i := 54) rfl)) (hw _ (List.mem_of_getElem? (i := 27) rfl)) (hw _ (List.mem_of_getElem? (i := 55) rfl)) (by decide) pd___Lcom_example_matchwright_matchwright_engine_Memory_Link_II_Z rfl e303 (argsL := [(.ref b290), (.int (0 : Int32)), (.int ((4 : Int32) + (1 : Int32)))]) (st := []) (c_check_0_5 l Z a0 hw _ b290 _ _ l0 xx l3 V300 rfl rfl rfl (F300.1 0 (by decide))) rfl rfl (by decide) (Nat.le_of_eq rfl) (by decide) (by decide) (by decide) (q := 247) rfl (fun v304 T304 h304 L304 X304 e304 hQ304 => ?_)
  obtain ⟨rfl, rfl, rfl⟩ := hQ304
  refine s_if_eq K X304 at_247 (by decide) (q := 254) rfl (q' := 250) rfl (fun h_ => absurd h_ (by decide)) (fun _ => ?_)
  refine s_iconst K X304 at_250 (z := 1) rfl (q := 251) rfl ?_
  refine s_goto K X304 at_251 (by decide) (q := 255) rfl ?_
  refine s_istore K X304 at_255 (l' := #[.val (.int p1), .val (.int p2), .val (.int v0), .val (.int (4 : Int32)), .val (.int (1 : Int32)), .val (.ref B), .val (.ref xx), .val (.int ((4 : Int32) + (1 : Int32))), .val (.ref b290), .val (.int (1 : Int32))]) rfl (q := 257) rfl ?_
  refine s_iload K X304 at_257 rfl (q := 259) rfl ?_
  refine s_if_eq K X304 at_259 (by decide) (q := 277) rfl (q' := 262) rfl (fun h_ => absurd h_ (by decide)) (fun _ => ?_)
  refine s_aload K X304 at_262 rfl rfl (q := 264) rfl ?_
  refine s_iconst K X304 at_264 (z := 1) rfl (q := 265) rfl ?_
  refine s_iload K X304 at_265 rfl (q := 267) rfl ?_
  refine s_callS K X304 0 at_267 (hw _ (List.mem_of_getElem? (i := 53) rfl)) (hw _ (List.mem_of_getElem? (i := 54) rfl)) (hw _ (List.mem_of_getElem? (i := 27) rfl)) (hw _ (List.mem_of_getElem? (i := 55) rfl)) (by decide) pd___Lcom_example_matchwright_matchwright_engine_Memory_Link_II_Z rfl e304 (argsL := [(.ref b290), (.int (1 : Int32)), (.int ((4 : Int32) + (1 : Int32)))]) (st := []) (c_check_1_5 l Z a0 hw _ b290 _ _ xx l1 l0 V300 rfl rfl rfl (F300.1 4 (by decide))) rfl rfl (by decide) (Nat.le_of_eq rfl) (by decide) (by decide) (by decide) (q := 270) rfl (fun v305 T305 h305 L305 X305 e305 hQ305 => ?_)
  obtain ⟨rfl, rfl, rfl⟩ := hQ305
  refine s_if_eq K X305 at_270 (by decide) (q := 277) rfl (q' := 273) rfl (fun h_ => absurd h_ (by decide)) (fun _ => ?_)
  refine s_iconst K X305 at_273 (z := 1) rfl (q := 274) rfl ?_
  refine s_goto K X305 at_274 (by decide) (q := 278) rfl ?_
  refine s_istore K X305 at_278 (l' := #[.val (.int p1), .val (.int p2), .val (.int v0), .val (.int (4 : Int32)), .val (.int (1 : Int32)), .val (.ref B), .val (.ref xx), .val (.int ((4 : Int32) + (1 : Int32))), .val (.ref b290), .val (.int (1 : Int32))]) rfl (q := 280) rfl ?_
  refine s_iload K X305 at_280 rfl (q := 282) rfl ?_
  refine s_if_eq K X305 at_282 (by decide) (q := 300) rfl (q' := 285) rfl (fun h_ => absurd h_ (by decide)) (fun _ => ?_)
  refine s_aload K X305 at_285 rfl rfl (q := 287) rfl ?_
  refine s_iconst K X305 at_287 (z := 2) rfl (q := 288) rfl ?_
  refine s_iload K X305 at_288 rfl (q := 290) rfl ?_
  refine s_callS K X305 0 at_290 (hw _ (List.mem_of_getElem? (i := 53) rfl)) (hw _ (List.mem_of_getElem? (i := 54) rfl)) (hw _ (List.mem_of_getElem? (i := 27) rfl)) (hw _ (List.mem_of_getElem? (i := 55) rfl)) (by decide) pd___Lcom_example_matchwright_matchwright_engine_Memory_Link_II_Z rfl e305 (argsL := [(.ref b290), (.int (2 : Int32)), (.int ((4 : Int32) + (1 : Int32)))]) (st := []) (c_check_2_5 l Z a0 hw _ b290 _ _ l1 l2 xx V300 rfl rfl rfl (F300.1 1 (by decide))) rfl rfl (by decide) (Nat.le_of_eq rfl) (by decide) (by decide) (by decide) (q := 293) rfl (fun v306 T306 h306 L306 X306 e306 hQ306 => ?_)
  obtain ⟨rfl, rfl, rfl⟩ := hQ306
  refine s_if_eq K X306 at_293 (by decide) (q := 300) rfl (q' := 296) rfl (fun h_ => absurd h_ (by decide)) (fun _ => ?_)
  refine s_iconst K X306 at_296 (z := 1) rfl (q := 297) rfl ?_
  refine s_goto K X306 at_297 (by decide) (q := 301) rfl ?_
  refine s_istore K X306 at_301 (l' := #[.val (.int p1), .val (.int p2), .val (.int v0), .val (.int (4 : Int32)), .val (.int (1 : Int32)), .val (.ref B), .val (.ref xx), .val (.int ((4 : Int32) + (1 : Int32))), .val (.ref b290), .val (.int (1 : Int32))]) rfl (q := 303) rfl ?_
  refine s_iload K X306 at_303 rfl (q := 305) rfl ?_
  refine s_if_eq K X306 at_305 (by decide) (q := 323) rfl (q' := 308) rfl (fun h_ => absurd h_ (by decide)) (fun _ => ?_)
  refine s_aload K X306 at_308 rfl rfl (q := 310) rfl ?_
  refine s_iconst K X306 at_310 (z := 3) rfl (q := 311) rfl ?_
  refine s_iload K X306 at_311 rfl (q := 313) rfl ?_
  refine s_callS K X306 0 at_313 (hw _ (List.mem_of_getElem? (i := 53) rfl)) (hw _ (List.mem_of_getElem? (i := 54) rfl)) (hw _ (List.mem_of_getElem? (i := 27) rfl)) (hw _ (List.mem_of_getElem? (i := 55) rfl)) (by decide) pd___Lcom_example_matchwright_matchwright_engine_Memory_Link_II_Z rfl e306 (argsL := [(.ref b290), (.int (3 : Int32)), (.int ((4 : Int32) + (1 : Int32)))]) (st := []) (c_check_3_5 l Z a0 hw _ b290 _ _ l2 l3 l1 V300 rfl rfl rfl (F300.1 2 (by decide))) rfl rfl (by decide) (Nat.le_of_eq rfl) (by decide) (by decide) (by decide) (q := 316) rfl (fun v307 T307 h307 L307 X307 e307 hQ307 => ?_)
  obtain ⟨rfl, rfl, rfl⟩ := hQ307
  refine s_if_eq K X307 at_316 (by decide) (q := 323) rfl (q' := 319) rfl (fun h_ => absurd h_ (by decide)) (fun _ => ?_)
  refine s_iconst K X307 at_319 (z := 1) rfl (q := 320) rfl ?_
  refine s_goto K X307 at_320 (by decide) (q := 324) rfl ?_
  refine s_istore K X307 at_324 (l' := #[.val (.int p1), .val (.int p2), .val (.int v0), .val (.int (4 : Int32)), .val (.int (1 : Int32)), .val (.ref B), .val (.ref xx), .val (.int ((4 : Int32) + (1 : Int32))), .val (.ref b290), .val (.int (1 : Int32))]) rfl (q := 326) rfl ?_
  refine s_iload K X307 at_326 rfl (q := 328) rfl ?_
  refine s_if_eq K X307 at_328 (by decide) (q := 346) rfl (q' := 331) rfl (fun h_ => absurd h_ (by decide)) (fun _ => ?_)
  refine s_aload K X307 at_331 rfl rfl (q := 333) rfl ?_
  refine s_iconst K X307 at_333 (z := 4) rfl (q := 334) rfl ?_
  refine s_iload K X307 at_334 rfl (q := 336) rfl ?_
  refine s_callS K X307 0 at_336 (hw _ (List.mem_of_getElem? (i := 53) rfl)) (hw _ (List.mem_of_getElem? (i := 54) rfl)) (hw _ (List.mem_of_getElem? (i := 27) rfl)) (hw _ (List.mem_of_getElem? (i := 55) rfl)) (by decide) pd___Lcom_example_matchwright_matchwright_engine_Memory_Link_II_Z rfl e307 (argsL := [(.ref b290), (.int (4 : Int32)), (.int ((4 : Int32) + (1 : Int32)))]) (st := []) (c_check_4_5 l Z a0 hw _ b290 _ _ l3 l0 l2 V300 rfl rfl rfl (F300.1 3 (by decide))) rfl rfl (by decide) (Nat.le_of_eq rfl) (by decide) (by decide) (by decide) (q := 339) rfl (fun v308 T308 h308 L308 X308 e308 hQ308 => ?_)
  obtain ⟨rfl, rfl, rfl⟩ := hQ308
  refine s_if_eq K X308 at_339 (by decide) (q := 346) rfl (q' := 342) rfl (fun h_ => absurd h_ (by decide)) (fun _ => ?_)
  refine s_iconst K X308 at_342 (z := 1) rfl (q := 343) rfl ?_
  refine s_goto K X308 at_343 (by decide) (q := 347) rfl ?_
  refine s_istore K X308 at_347 (l' := #[.val (.int p1), .val (.int p2), .val (.int v0), .val (.int (4 : Int32)), .val (.int (1 : Int32)), .val (.ref B), .val (.ref xx), .val (.int ((4 : Int32) + (1 : Int32))), .val (.ref b290), .val (.int (1 : Int32))]) rfl (q := 349) rfl ?_
  refine s_iload K X308 at_349 rfl (q := 351) rfl ?_
  refine s_if_eq K X308 at_351 (by decide) (q := 368) rfl (q' := 354) rfl (fun h_ => absurd h_ (by decide)) (fun _ => ?_)
  refine s_aload K X308 at_354 rfl rfl (q := 356) rfl ?_
  refine s_iconst K X308 at_356 (z := 1) rfl (q := 357) rfl ?_
  refine s_iloadN K X308 at_357 rfl (q := 358) rfl ?_
  refine s_callS K X308 0 at_358 (hw _ (List.mem_of_getElem? (i := 56) rfl)) (hw _ (List.mem_of_getElem? (i := 57) rfl)) (hw _ (List.mem_of_getElem? (i := 27) rfl)) (hw _ (List.mem_of_getElem? (i := 58) rfl)) (by decide) pd___Lcom_example_matchwright_matchwright_engine_Memory_Link_II_Z rfl e308 (argsL := [(.ref B), (.int (1 : Int32)), (.int (4 : Int32))]) (st := []) (c_alone_in l Z a0 hw _ B 1 4 (by decide)) rfl rfl (by decide) (Nat.le_of_eq rfl) (by decide) (by decide) (by decide) (q := 361) rfl (fun v309 T309 h309 L309 X309 e309 hQ309 => ?_)
  obtain ⟨rfl, rfl, rfl⟩ := hQ309
  refine s_if_eq K X309 at_361 (by decide) (q := 368) rfl (q' := 364) rfl (fun h_ => absurd h_ (by decide)) (fun _ => ?_)
  refine s_iconst K X309 at_364 (z := 1) rfl (q := 365) rfl ?_
  refine s_goto K X309 at_365 (by decide) (q := 369) rfl ?_
  refine s_istore K X309 at_369 (l' := #[.val (.int p1), .val (.int p2), .val (.int v0), .val (.int (4 : Int32)), .val (.int (1 : Int32)), .val (.ref B), .val (.ref xx), .val (.int ((4 : Int32) + (1 : Int32))), .val (.ref b290), .val (.int (1 : Int32))]) rfl (q := 371) rfl ?_
  refine s_iload K X309 at_371 rfl (q := 373) rfl ?_
  refine s_if_eq K X309 at_373 (by decide) (q := 390) rfl (q' := 376) rfl (fun h_ => absurd h_ (by decide)) (fun _ => ?_)
  refine s_aload K X309 at_376 rfl rfl (q := 378) rfl ?_
  refine s_iconst K X309 at_378 (z := 2) rfl (q := 379) rfl ?_
  refine s_iloadN K X309 at_379 rfl (q := 380) rfl ?_
  refine s_callS K X309 0 at_380 (hw _ (List.mem_of_getElem? (i := 56) rfl)) (hw _ (List.mem_of_getElem? (i := 57) rfl)) (hw _ (List.mem_of_getElem? (i := 27) rfl)) (hw _ (List.mem_of_getElem? (i := 58) rfl)) (by decide) pd___Lcom_example_matchwright_matchwright_engine_Memory_Link_II_Z rfl e309 (argsL := [(.ref B), (.int (2 : Int32)), (.int (4 : Int32))]) (st := []) (c_alone_in l Z a0 hw _ B 2 4 (by decide)) rfl rfl (by decide) (Nat.le_of_eq rfl) (by decide) (by decide) (by decide) (q := 383) rfl (fun v310 T310 h310 L310 X310 e310 hQ310 => ?_)
  obtain ⟨rfl, rfl, rfl⟩ := hQ310
  refine s_if_eq K X310 at_383 (by decide) (q := 390) rfl (q' := 386) rfl (fun h_ => absurd h_ (by decide)) (fun _ => ?_)
  refine s_iconst K X310 at_386 (z := 1) rfl (q := 387) rfl ?_
  refine s_goto K X310 at_387 (by decide) (q := 391) rfl ?_
  refine s_istore K X310 at_391 (l' := #[.val (.int p1), .val (.int p2), .val (.int v0), .val (.int (4 : Int32)), .val (.int (1 : Int32)), .val (.ref B), .val (.ref xx), .val (.int ((4 : Int32) + (1 : Int32))), .val (.ref b290), .val (.int (1 : Int32))]) rfl (q := 393) rfl ?_
  refine s_iload K X310 at_393 rfl (q := 395) rfl ?_
  refine s_if_eq K X310 at_395 (by decide) (q := 412) rfl (q' := 398) rfl (fun h_ => absurd h_ (by decide)) (fun _ => ?_)
  refine s_aload K X310 at_398 rfl rfl (q := 400) rfl ?_
  refine s_iconst K X310 at_400 (z := 3) rfl (q := 401) rfl ?_
  refine s_iloadN K X310 at_401 rfl (q := 402) rfl ?_
  refine s_callS K X310 0 at_402 (hw _ (List.mem_of_getElem? (i := 56) rfl)) (hw _ (List.mem_of_getElem? (i := 57) rfl)) (hw _ (List.mem_of_getElem? (i := 27) rfl)) (hw _ (List.mem_of_getElem? (i := 58) rfl)) (by decide) pd___Lcom_example_matchwright_matchwright_engine_Memory_Link_II_Z rfl e310 (argsL := [(.ref B), (.int (3 : Int32)), (.int (4 : Int32))]) (st := []) (c_alone_in l Z a0 hw _ B 3 4 (by decide)) rfl rfl (by decide) (Nat.le_of_eq rfl) (by decide) (by decide) (by decide) (q := 405) rfl (fun v311 T311 h311 L311 X311 e311 hQ311 => ?_)
  obtain ⟨rfl, rfl, rfl⟩ := hQ311
  refine s_if_eq K X311 at_405 (by decide) (q := 412) rfl (q' := 408) rfl (fun h_ => absurd h_ (by decide)) (fun _ => ?_)
  refine s_iconst K X311 at_408 (z := 1) rfl (q := 409) rfl ?_
  refine s_goto K X311 at_409 (by decide) (q := 413) rfl ?_
  refine s_istore K X311 at_413 (l' := #[.val (.int p1), .val (.int p2), .val (.int v0), .val (.int (4 : Int32)), .val (.int (1 : Int32)), .val (.ref B), .val (.ref xx), .val (.int ((4 : Int32) + (1 : Int32))), .val (.ref b290), .val (.int (1 : Int32))]) rfl (q := 415) rfl ?_
  refine s_iload K X311 at_415 rfl (q := 417) rfl ?_
  exact s_retZ K X311 at_417 rfl (by decide) e311 (by decide) (by decide) ⟨rfl, (Fr.app (Fr.app (Fr.app (Fr.app (Fr.app (Fr.app (Fr.app (Fr.app (Fr.app (Fr.app (Fr.app (Fr.app (Fr.app (Fr.app (Fr.app (Fr.app (Fr.app (Fr.app (Fr.app (Fr.app (Fr.app (Fr.app (Fr.app (Fr.app (Fr.app NN M285) M286) M287) M288) M289) (Fr.nil _)) (fr_one gE)) (Fr.nil _)) (fr_one gE)) (Fr.nil _)) (fr_one gE)) (Fr.nil _)) (fr_one gE)) (Fr.nil _)) (fr_one gE)) (Fr.nil _)) (Fr.nil _)) (Fr.nil _)) (Fr.nil _)) (Fr.nil _)) (Fr.nil _)) (Fr.nil _)) (Fr.nil _)) (Fr.nil _)) (Fr.nil _))⟩
set_option maxRecDepth 65536 in
set_option maxHeartbeats 40000000 in
theorem c_tail_4_2 (l : Launch) (Z : State) (a0 : Array Value) (hw : ∀ d ∈ tables_1, d.before a0 Z = true) (S : Slots Z) {p : Program} {e : Env} {s : State} {m : MethodId} {args : Array Value} {below : List Frame} {meth : Method} {cod : Code} {T : State} {locs : List Loc} {h : Heap} (K : Cx Z p s m meth cod x.cls code maxLocals ret x.name) (X : Stand p l e room_1 s m args below meth cod T locs 11 24) (B : Addr) (kB : ClassId) (l0 l1 l2 l3 xx I : Addr) (v0 p1 p2 : Int32) (eT : T.heap = h) (P : Sep Z B [l0, l1, l2, l3, xx]) (F : Inv Z h B kB [l0, l1, l2, l3, xx] [0, 1, 2, 3, 4] [0, 1, 2, 3, 4] I v0) (NN : Fr Z.heap.size locs) :
    Goes p e below (Fini s room_1 (fun v h L => v = some (.int 1) ∧ Fr Z.heap.size L)) T (mkF m 93 #[.val (.int p1), .val (.int p2), .val (.int v0), .val (.int (4 : Int32)), .val (.int (2 : Int32)), .val (.ref B), .val (.ref xx), .unset, .unset, .unset] []) := by
  refine s_aload K X at_93 rfl rfl (q := 95) rfl ?_
  refine s_iconst K X at_95 (z := 0) rfl (q := 96) rfl ?_
  refine s_iloadN K X at_96 rfl (q := 97) rfl ?_
  refine s_callS K X 0 at_97 (hw _ (List.mem_of_getElem? (i := 25) rfl)) (hw _ (List.mem_of_getElem? (i := 26) rfl)) (hw _ (List.mem_of_getElem? (i := 27) rfl)) (hw _ (List.mem_of_getElem? (i := 28) rfl)) (by decide) pd___Lcom_example_matchwright_matchwright_engine_Memory_Link_II_V rfl eT (argsL := [(.ref B), (.int (0 : Int32)), (.int (4 : Int32))]) (st := []) (c_ring_0_4 l Z a0 hw S _ B kB [l0, l1, l2, l3, xx] [0, 1, 2, 3, 4] [0, 1, 2, 3, 4] I v0 P F rfl rfl) rfl rfl (by decide) (Nat.le_of_eq rfl) (by decide) (by decide) (by decide) (q := 100) rfl (fun v312 T312 h312 L312 X312 e312 hQ312 => ?_)
  obtain ⟨rfl, F312, M312⟩ := hQ312
  refine s_aload K X312 at_100 rfl rfl (q := 102) rfl ?_
  refine s_iconst K X312 at_102 (z := 1) rfl (q := 103) rfl ?_
  refine s_iloadN K X312 at_103 rfl (q := 104) rfl ?_
  refine s_callS K X312 0 at_104 (hw _ (List.mem_of_getElem? (i := 25) rfl)) (hw _ (List.mem_of_getElem? (i := 26) rfl)) (hw _ (List.mem_of_getElem? (i := 27) rfl)) (hw _ (List.mem_of_getElem? (i := 28) rfl)) (by decide) pd___Lcom_example_matchwright_matchwright_engine_Memory_Link_II_V rfl e312 (argsL := [(.ref B), (.int (1 : Int32)), (.int (4 : Int32))]) (st := []) (c_ring_1_4 l Z a0 hw S _ B kB [l0, l1, l2, l3, xx] [1, 1, 2, 3, 4] [3, 1, 2, 3, 4] I v0 P F312 rfl rfl) rfl rfl (by decide) (Nat.le_of_eq rfl) (by decide) (by decide) (by decide) (q := 107) rfl (fun v313 T313 h313 L313 X313 e313 hQ313 => ?_)
  obtain ⟨rfl, F313, M313⟩ := hQ313
  refine s_aload K X313 at_107 rfl rfl (q := 109) rfl ?_
  refine s_iconst K X313 at_109 (z := 2) rfl (q := 110) rfl ?_
  refine s_iloadN K X313 at_110 rfl (q := 111) rfl ?_
  refine s_callS K X313 0 at_111 (hw _ (List.mem_of_getElem? (i := 25) rfl)) (hw _ (List.mem_of_getElem? (i := 26) rfl)) (hw _ (List.mem_of_getElem? (i := 27) rfl)) (hw _ (List.mem_of_getElem? (i := 28) rfl)) (by decide) pd___Lcom_example_matchwright_matchwright_engine_Memory_Link_II_V rfl e313 (argsL := [(.ref B), (.int (2 : Int32)), (.int (4 : Int32))]) (st := []) (c_ring_2_4 l Z a0 hw S _ B kB [l0, l1, l2, l3, xx] [1, 2, 2, 3, 4] [3, 0, 2, 3, 4] I v0 P F313 rfl rfl) rfl rfl (by decide) (Nat.le_of_eq rfl) (by decide) (by decide) (by decide) (q := 114) rfl (fun v314 T314 h314 L314 X314 e314 hQ314 => ?_)
  obtain ⟨rfl, F314, M314⟩ := hQ314
  refine s_aload K X314 at_114 rfl rfl (q := 116) rfl ?_
  refine s_iconst K X314 at_116 (z := 3) rfl (q := 117) rfl ?_
  refine s_iloadN K X314 at_117 rfl (q := 118) rfl ?_
  refine s_callS K X314 0 at_118 (hw _ (List.mem_of_getElem? (i := 25) rfl)) (hw _ (List.mem_of_getElem? (i := 26) rfl)) (hw _ (List.mem_of_getElem? (i := 27) rfl)) (hw _ (List.mem_of_getElem? (i := 28) rfl)) (by decide) pd___Lcom_example_matchwright_matchwright_engine_Memory_Link_II_V rfl e314 (argsL := [(.ref B), (.int (3 : Int32)), (.int (4 : Int32))]) (st := []) (c_ring_3_4 l Z a0 hw S _ B kB [l0, l1, l2, l3, xx] [1, 2, 3, 3, 4] [3, 0, 1, 3, 4] I v0 P F314 rfl rfl) rfl rfl (by decide) (Nat.le_of_eq rfl) (by decide) (by decide) (by decide) (q := 121) rfl (fun v315 T315 h315 L315 X315 e315 hQ315 => ?_)
  obtain ⟨rfl, F315, M315⟩ := hQ315
  refine s_aload K X315 at_121 rfl rfl (q := 123) rfl ?_
  refine s_aload K X315 at_123 rfl rfl (q := 125) rfl ?_
  refine s_iload K X315 at_125 rfl (q := 127) rfl ?_
  refine s_ldV K X315 at_127 e315 F315.2.1 rfl (by decide) rfl (q := 128) rfl ?_
  refine s_callV K X315 0 (y := (⟨"com/example/matchwright/matchwright/engine/Memory$Link", "linkBefore", "(Lcom/example/matchwright/matchwright/engine/Memory$Link;)V"⟩ : MethodName)) (z := (⟨"com/example/matchwright/matchwright/engine/Memory$Link", "linkBefore", "(Lcom/example/matchwright/matchwright/engine/Memory$Link;)V"⟩ : MethodName)) at_128 (hw _ (List.mem_of_getElem? (i := 31) rfl)) (hw _ (List.mem_of_getElem? (i := 32) rfl)) (notFace_of_selects (args := #[]) (mvT K.hZ (hw _ (List.mem_of_getElem? (i := 34) rfl)))) (hw _ (List.mem_of_getElem? (i := 34) rfl)) (hw _ (List.mem_of_getElem? (i := 33) rfl)) (hw _ (List.mem_of_getElem? (i := 4) rfl)) (hw _ (List.mem_of_getElem? (i := 35) rfl)) (by decide) pd__Lcom_example_matchwright_matchwright_engine_Memory_Link__V rfl e315 (F315.1 4 (by decide)).1 (argsL := [(.ref l2)]) (st := []) (c_before l Z a0 hw S _ B kB [l0, l1, l2, l3, xx] [1, 2, 3, 0, 4] [3, 0, 1, 2, 4] I v0 P F315 rfl rfl 2 1 (by decide) (by decide) rfl rfl) rfl rfl (by decide) (Nat.le_of_eq rfl) (by decide) (by decide) (by decide) (q := 131) rfl (fun v316 T316 h316 L316 X316 e316 hQ316 => ?_)
  obtain ⟨rfl, F316, M316⟩ := hQ316
  refine s_iloadN K X316 at_131 rfl (q := 132) rfl ?_
  refine s_iconst K X316 at_132 (z := 1) rfl (q := 133) rfl ?_
  refine s_iadd K X316 at_133 (q := 134) rfl ?_
  refine s_istore K X316 at_134 (l' := #[.val (.int p1), .val (.int p2), .val (.int v0), .val (.int (4 : Int32)), .val (.int (2 : Int32)), .val (.ref B), .val (.ref xx), .val (.int ((4 : Int32) + (1 : Int32))), .unset, .unset]) rfl (q := 136) rfl ?_
  refine s_iconst K X316 at_136 (z := 5) rfl (q := 137) rfl ?_
  refine s_newV K X316 at_137 (hw _ (List.mem_of_getElem? (i := 1) rfl)) (hw _ (List.mem_of_getElem? (i := 2) rfl)) e316 (by decide) 5 (by decide) (by decide) (by decide) (by decide) (vs := [.null, .null, .null, .null, .null]) rfl (q := 140) rfl (fun T317 h317 b317 k317 g317 X317 e317 E317 V317 O317 => ?_)
  have gE : Z.heap.size ≤ b317 := by rw [g317]; exact old_le F316.2.2.2.2
  have nE : ∀ i, i < 5 → ([l0, l1, l2, l3, xx] : List Addr).getD i 0 ≠ b317 := fun i hi => Nat.ne_of_lt (by rw [g317]; exact (F316.1 i hi).1.lt)
  have nB : B ≠ b317 := Nat.ne_of_lt (by rw [g317]; exact F316.2.1.lt)
  have nI : I ≠ b317 := Nat.ne_of_lt (by rw [g317]; exact F316.2.2.2.1.1.lt)
  have F317 := F316.ext E317
  change Inv Z _ B kB [l0, l1, l2, l3, xx] [1, 4, 3, 0, 2] [3, 0, 4, 2, 1] I v0 at F317
  refine s_astore K X317 at_140 rfl (l' := #[.val (.int p1), .val (.int p2), .val (.int v0), .val (.int (4 : Int32)), .val (.int (2 : Int32)), .val (.ref B), .val (.ref xx), .val (.int ((4 : Int32) + (1 : Int32))), .val (.ref b317), .unset]) rfl (q := 142) rfl ?_
  refine s_aload K X317 at_142 rfl rfl (q := 144) rfl ?_
  refine s_iconst K X317 at_144 (z := 0) rfl (q := 145) rfl ?_
  refine s_aload K X317 at_145 rfl rfl (q := 147) rfl ?_
  refine s_aload K X317 at_147 rfl rfl (q := 149) rfl ?_
  refine s_iload K X317 at_149 rfl (q := 151) rfl ?_
  refine s_iconst K X317 at_151 (z := 0) rfl (q := 152) rfl ?_
  refine s_callS K X317 2 at_152 (hw _ (List.mem_of_getElem? (i := 36) rfl)) (hw _ (List.mem_of_getElem? (i := 37) rfl)) (hw _ (List.mem_of_getElem? (i := 27) rfl)) (hw _ (List.mem_of_getElem? (i := 38) rfl)) (by decide) pd___Lcom_example_matchwright_matchwright_engine_Memory_Link_Lcom_example_matchwright_matchwright_engine_Memory_Link_II_Lcom_example_matchwright_matchwright_engine_Memory_Link_ rfl e317 (argsL := [(.ref B), (.ref xx), (.int (2 : Int32)), (.int (0 : Int32))]) (st := [(.int (0 : Int32)), (.ref b317)]) (c_at_2_0 l Z a0 hw _ B kB [l0, l1, l2, l3, xx] [1, 4, 3, 0, 2] [3, 0, 4, 2, 1] I v0 F317) rfl rfl (by decide) (Nat.le_of_eq rfl) (by decide) (by decide) (by decide) (q := 155) rfl (fun v318 T318 h318 L318 X318 e318 hQ318 => ?_)
  obtain ⟨rfl, rfl, rfl⟩ := hQ318
  refine s_stV K X318 at_155 e318 V317 O317 (by decide) rfl (fun y hy => by cases hy; exact Ins.self (F317.1 0 (by decide)).1) 0 rfl (Nat.le_of_ble_eq_true rfl) (vs' := [(.ref l0), .null, .null, .null, .null]) rfl (q := 156) rfl (fun T319 h319 X319 e319 W319 V319 => ?_)
  have F319 := F317.other W319 nE nB nI gE
  refine s_aload K X319 at_156 rfl rfl (q := 158) rfl ?_
  refine s_iconst K X319 at_158 (z := 1) rfl (q := 159) rfl ?_
  refine s_aload K X319 at_159 rfl rfl (q := 161) rfl ?_
  refine s_aload K X319 at_161 rfl rfl (q := 163) rfl ?_
  refine s_iload K X319 at_163 rfl (q := 165) rfl ?_
  refine s_iconst K X319 at_165 (z := 1) rfl (q := 166) rfl ?_
  refine s_callS K X319 2 at_166 (hw _ (List.mem_of_getElem? (i := 36) rfl)) (hw _ (List.mem_of_getElem? (i := 37) rfl)) (hw _ (List.mem_of_getElem? (i := 27) rfl)) (hw _ (List.mem_of_getElem? (i := 38) rfl)) (by decide) pd___Lcom_example_matchwright_matchwright_engine_Memory_Link_Lcom_example_matchwright_matchwright_engine_Memory_Link_II_Lcom_example_matchwright_matchwright_engine_Memory_Link_ rfl e319 (argsL := [(.ref B), (.ref xx), (.int (2 : Int32)), (.int (1 : Int32))]) (st := [(.int (1 : Int32)), (.ref b317)]) (c_at_2_1 l Z a0 hw _ B kB [l0, l1, l2, l3, xx] [1, 4, 3, 0, 2] [3, 0, 4, 2, 1] I v0 F319) rfl rfl (by decide) (Nat.le_of_eq rfl) (by decide) (by decide) (by decide) (q := 169) rfl (fun v320 T320 h320 L320 X320 e320 hQ320 => ?_)
  obtain ⟨rfl, rfl, rfl⟩ := hQ320
  refine s_stV K X320 at_169 e320 V319 O317 (by decide) rfl (fun y hy => by cases hy; exact Ins.self (F319.1 1 (by decide)).1) 1 rfl (Nat.le_of_ble_eq_true rfl) (vs' := [(.ref l0), (.ref l1), .null, .null, .null]) rfl (q := 170) rfl (fun T321 h321 X321 e321 W321 V321 => ?_)
  have F321 := F319.other W321 nE nB nI gE
  refine s_aload K X321 at_170 rfl rfl (q := 172) rfl ?_
  refine s_iconst K X321 at_172 (z := 2) rfl (q := 173) rfl ?_
  refine s_aload K X321 at_173 rfl rfl (q := 175) rfl ?_
  refine s_aload K X321 at_175 rfl rfl (q := 177) rfl ?_
  refine s_iload K X321 at_177 rfl (q := 179) rfl ?_
  refine s_iconst K X321 at_179 (z := 2) rfl (q := 180) rfl ?_
  refine s_callS K X321 2 at_180 (hw _ (List.mem_of_getElem? (i := 36) rfl)) (hw _ (List.mem_of_getElem? (i := 37) rfl)) (hw _ (List.mem_of_getElem? (i := 27) rfl)) (hw _ (List.mem_of_getElem? (i := 38) rfl)) (by decide) pd___Lcom_example_matchwright_matchwright_engine_Memory_Link_Lcom_example_matchwright_matchwright_engine_Memory_Link_II_Lcom_example_matchwright_matchwright_engine_Memory_Link_ rfl e321 (argsL := [(.ref B), (.ref xx), (.int (2 : Int32)), (.int (2 : Int32))]) (st := [(.int (2 : Int32)), (.ref b317)]) (c_at_2_2 l Z a0 hw _ B kB [l0, l1, l2, l3, xx] [1, 4, 3, 0, 2] [3, 0, 4, 2, 1] I v0 F321) rfl rfl (by decide) (Nat.le_of_eq rfl) (by decide) (by decide) (by decide) (q := 183) rfl (fun v322 T322 h322 L322 X322 e322 hQ322 => ?_)
  obtain ⟨rfl, rfl, rfl⟩ := hQ322
  refine s_stV K X322 at_183 e322 V321 O317 (by decide) rfl (fun y hy => by cases hy; exact Ins.self (F321.1 4 (by decide)).1) 2 rfl (Nat.le_of_ble_eq_true rfl) (vs' := [(.ref l0), (.ref l1), (.ref xx), .null, .null]) rfl (q := 184) rfl (fun T323 h323 X323 e323 W323 V323 => ?_)
  have F323 := F321.other W323 nE nB nI gE
  refine s_aload K X323 at_184 rfl rfl (q := 186) rfl ?_
  refine s_iconst K X323 at_186 (z := 3) rfl (q := 187) rfl ?_
  refine s_aload K X323 at_187 rfl rfl (q := 189) rfl ?_
  refine s_aload K X323 at_189 rfl rfl (q := 191) rfl ?_
  refine s_iload K X323 at_191 rfl (q := 193) rfl ?_
  refine s_iconst K X323 at_193 (z := 3) rfl (q := 194) rfl ?_
  refine s_callS K X323 2 at_194 (hw _ (List.mem_of_getElem? (i := 36) rfl)) (hw _ (List.mem_of_getElem? (i := 37) rfl)) (hw _ (List.mem_of_getElem? (i := 27) rfl)) (hw _ (List.mem_of_getElem? (i := 38) rfl)) (by decide) pd___Lcom_example_matchwright_matchwright_engine_Memory_Link_Lcom_example_matchwright_matchwright_engine_Memory_Link_II_Lcom_example_matchwright_matchwright_engine_Memory_Link_ rfl e323 (argsL := [(.ref B), (.ref xx), (.int (2 : Int32)), (.int (3 : Int32))]) (st := [(.int (3 : Int32)), (.ref b317)]) (c_at_2_3 l Z a0 hw _ B kB [l0, l1, l2, l3, xx] [1, 4, 3, 0, 2] [3, 0, 4, 2, 1] I v0 F323) rfl rfl (by decide) (Nat.le_of_eq rfl) (by decide) (by decide) (by decide) (q := 197) rfl (fun v324 T324 h324 L324 X324 e324 hQ324 => ?_)
  obtain ⟨rfl, rfl, rfl⟩ := hQ324
  refine s_stV K X324 at_197 e324 V323 O317 (by decide) rfl (fun y hy => by cases hy; exact Ins.self (F323.1 2 (by decide)).1) 3 rfl (Nat.le_of_ble_eq_true rfl) (vs' := [(.ref l0), (.ref l1), (.ref xx), (.ref l2), .null]) rfl (q := 198) rfl (fun T325 h325 X325 e325 W325 V325 => ?_)
  have F325 := F323.other W325 nE nB nI gE
  refine s_aload K X325 at_198 rfl rfl (q := 200) rfl ?_
  refine s_iconst K X325 at_200 (z := 4) rfl (q := 201) rfl ?_
  refine s_aload K X325 at_201 rfl rfl (q := 203) rfl ?_
  refine s_aload K X325 at_203 rfl rfl (q := 205) rfl ?_
  refine s_iload K X325 at_205 rfl (q := 207) rfl ?_
  refine s_iconst K X325 at_207 (z := 4) rfl (q := 208) rfl ?_
  refine s_callS K X325 2 at_208 (hw _ (List.mem_of_getElem? (i := 36) rfl)) (hw _ (List.mem_of_getElem? (i := 37) rfl)) (hw _ (List.mem_of_getElem? (i := 27) rfl)) (hw _ (List.mem_of_getElem? (i := 38) rfl)) (by decide) pd___Lcom_example_matchwright_matchwright_engine_Memory_Link_Lcom_example_matchwright_matchwright_engine_Memory_Link_II_Lcom_example_matchwright_matchwright_engine_Memory_Link_ rfl e325 (argsL := [(.ref B), (.ref xx), (.int (2 : Int32)), (.int (4 : Int32))]) (st := [(.int (4 : Int32)), (.ref b317)]) (c_at_2_4 l Z a0 hw _ B kB [l0, l1, l2, l3, xx] [1, 4, 3, 0, 2] [3, 0, 4, 2, 1] I v0 F325) rfl rfl (by decide) (Nat.le_of_eq rfl) (by decide) (by decide) (by decide) (q := 211) rfl (fun v326 T326 h326 L326 X326 e326 hQ326 => ?_)
  obtain ⟨rfl, rfl, rfl⟩ := hQ326
  refine s_stV K X326 at_211 e326 V325 O317 (by decide) rfl (fun y hy => by cases hy; exact Ins.self (F325.1 3 (by decide)).1) 4 rfl (Nat.le_of_ble_eq_true rfl) (vs' := [(.ref l0), (.ref l1), (.ref xx), (.ref l2), (.ref l3)]) rfl (q := 212) rfl (fun T327 h327 X327 e327 W327 V327 => ?_)
  have F327 := F325.other W327 nE nB nI gE
  refine s_aload K X327 at_212 rfl rfl (q := 214) rfl ?_
  refine s_callV K X327 0 (y := (⟨"com/example/matchwright/matchwright/engine/Memory$Link", "item", "()Ljava/lang/Object;"⟩ : MethodName)) (z := (⟨"com/example/matchwright/matchwright/engine/Memory$Link", "item", "()Ljava/lang/Object;"⟩ : MethodName)) at_214 (hw _ (List.mem_of_getElem? (i := 39) rfl)) (hw _ (List.mem_of_getElem? (i := 40) rfl)) (notFace_of_selects (args := #[]) (mvT K.hZ (hw _ (List.mem_of_getElem? (i := 42) rfl)))) (hw _ (List.mem_of_getElem? (i := 42) rfl)) (hw _ (List.mem_of_getElem? (i := 41) rfl)) (hw _ (List.mem_of_getElem? (i := 4) rfl)) (hw _ (List.mem_of_getElem? (i := 43) rfl)) (by decide) pd___Ljava_lang_Object_ rfl e327 (F327.1 4 (by decide)).1 (argsL := []) (st := []) (c_item l Z a0 hw _ xx I F327.2.2.1) rfl rfl (by decide) (Nat.le_of_eq rfl) (by decide) (by decide) (by decide) (q := 217) rfl (fun v328 T328 h328 L328 X328 e328 hQ328 => ?_)
  obtain ⟨rfl, rfl, rfl⟩ := hQ328
  refine s_castY K X328 at_217 (hw _ (List.mem_of_getElem? (i := 44) rfl)) e328 (Ins.self F327.2.2.2.1.1) (q := 220) rfl (fun T329 X329 e329 => ?_)
  refine s_callV K X329 0 (y := (⟨"java/lang/Integer", "intValue", "()I"⟩ : MethodName)) (z := (⟨"java/lang/Integer", "intValue", "()I"⟩ : MethodName)) at_220 (hw _ (List.mem_of_getElem? (i := 46) rfl)) (hw _ (List.mem_of_getElem? (i := 47) rfl)) (notFace_of_selects (args := #[]) (mvT K.hZ (hw _ (List.mem_of_getElem? (i := 49) rfl)))) (hw _ (List.mem_of_getElem? (i := 49) rfl)) (hw _ (List.mem_of_getElem? (i := 48) rfl)) (hw _ (List.mem_of_getElem? (i := 7) rfl)) (hw _ (List.mem_of_getElem? (i := 50) rfl)) (by decide) pd___I rfl e329 F327.2.2.2.1.1 (argsL := []) (st := []) (c_intValue l Z a0 hw _ I v0 F327.2.2.2.1) rfl rfl (by decide) (Nat.le_of_eq rfl) (by decide) (by decide) (by decide) (q := 223) rfl (fun v330 T330 h330 L330 X330 e330 hQ330 => ?_)
  obtain ⟨rfl, rfl, rfl⟩ := hQ330
  refine s_iloadN K X330 at_223 rfl (q := 224) rfl ?_
  refine s_icmp_ne K X330 at_224 (by decide) (q := 231) rfl (q' := 227) rfl (fun h_ => absurd rfl h_) (fun _ => ?_)
  refine s_iconst K X330 at_227 (z := 1) rfl (q := 228) rfl ?_
  refine s_goto K X330 at_228 (by decide) (q := 232) rfl ?_
  refine s_istore K X330 at_232 (l' := #[.val (.int p1), .val (.int p2), .val (.int v0), .val (.int (4 : Int32)), .val (.int (2 : Int32)), .val (.ref B), .val (.ref xx), .val (.int ((4 : Int32) + (1 : Int32))), .val (.ref b317), .val (.int (1 : Int32))]) rfl (q := 234) rfl ?_
  refine s_iload K X330 at_234 rfl (q := 236) rfl ?_
  refine s_if_eq K X330 at_236 (by decide) (q := 254) rfl (q' := 239) rfl (fun h_ => absurd h_ (by decide)) (fun _ => ?_)
  refine s_aload K X330 at_239 rfl rfl (q := 241) rfl ?_
  refine s_iconst K X330 at_241 (z := 0) rfl (q := 242) rfl ?_
  refine s_iload K X330 at_242 rfl (q := 244) rfl ?_
  refine s_callS K X330 0 at_244 (hw _ (List.mem_of_getElem? (i := 53) rfl)) (hw _ (List.mem_of_getElem? (i := 54) rfl)) (hw _ (List.mem_of_getElem? (i := 27) rfl)) (hw _ (List.mem_of_getElem? (i := 55) rfl)) (by decide) pd___Lcom_example_matchwright_matchwright_engine_Memory_Link_II_Z rfl e330 (argsL := [(.ref b317), (.int (0 : Int32)), (.int ((4 : Int32) + (1 : Int32)))]) (st := []) (c_check_0_5 l Z a0 hw _ b317 _ _ l0 l1 l3 V327 rfl rfl rfl (F327.1 0 (by decide))) rfl rfl (by decide) (Nat.le_of_eq rfl) (by decide) (by decide) (by decide) (q := 247) rfl (fun v331 T331 h331 L331 X331 e331 hQ331 => ?_)
  obtain ⟨rfl, rfl, rfl⟩ := hQ331
  refine s_if_eq K X331 at_247 (by decide) (q := 254) rfl (q' := 250) rfl (fun h_ => absurd h_ (by decide)) (fun _ => ?_)
  refine s_iconst K X331 at_250 (z := 1) rfl (q := 251) rfl ?_
  refine s_goto K X331 at_251 (by decide) (q := 255) rfl ?_
  refine s_istore K X331 at_255 (l' := #[.val (.int p1), .val (.int p2), .val (.int v0), .val (.int (4 : Int32)), .val (.int (2 : Int32)), .val (.ref B), .val (.ref xx), .val (.int ((4 : Int32) + (1 : Int32))), .val (.ref b317), .val (.int (1 : Int32))]) rfl (q := 257) rfl ?_
  refine s_iload K X331 at_257 rfl (q := 259) rfl ?_
  refine s_if_eq K X331 at_259 (by decide) (q := 277) rfl (q' := 262) rfl (fun h_ => absurd h_ (by decide)) (fun _ => ?_)
  refine s_aload K X331 at_262 rfl rfl (q := 264) rfl ?_
  refine s_iconst K X331 at_264 (z := 1) rfl (q := 265) rfl ?_
  refine s_iload K X331 at_265 rfl (q := 267) rfl ?_
  refine s_callS K X331 0 at_267 (hw _ (List.mem_of_getElem? (i := 53) rfl)) (hw _ (List.mem_of_getElem? (i := 54) rfl)) (hw _ (List.mem_of_getElem? (i := 27) rfl)) (hw _ (List.mem_of_getElem? (i := 55) rfl)) (by decide) pd___Lcom_example_matchwright_matchwright_engine_Memory_Link_II_Z rfl e331 (argsL := [(.ref b317), (.int (1 : Int32)), (.int ((4 : Int32) + (1 : Int32)))]) (st := []) (c_check_1_5 l Z a0 hw _ b317 _ _ l1 xx l0 V327 rfl rfl rfl (F327.1 1 (by decide))) rfl rfl (by decide) (Nat.le_of_eq rfl) (by decide) (by decide) (by decide) (q := 270) rfl (fun v332 T332 h332 L332 X332 e332 hQ332 => ?_)
  obtain ⟨rfl, rfl, rfl⟩ := hQ332
  refine s_if_eq K X332 at_270 (by decide) (q := 277) rfl (q' := 273) rfl (fun h_ => absurd h_ (by decide)) (fun _ => ?_)
  refine s_iconst K X332 at_273 (z := 1) rfl (q := 274) rfl ?_
  refine s_goto K X332 at_274 (by decide) (q := 278) rfl ?_
  refine s_istore K X332 at_278 (l' := #[.val (.int p1), .val (.int p2), .val (.int v0), .val (.int (4 : Int32)), .val (.int (2 : Int32)), .val (.ref B), .val (.ref xx), .val (.int ((4 : Int32) + (1 : Int32))), .val (.ref b317), .val (.int (1 : Int32))]) rfl (q := 280) rfl ?_
  refine s_iload K X332 at_280 rfl (q := 282) rfl ?_
  refine s_if_eq K X332 at_282 (by decide) (q := 300) rfl (q' := 285) rfl (fun h_ => absurd h_ (by decide)) (fun _ => ?_)
  refine s_aload K X332 at_285 rfl rfl (q := 287) rfl ?_
  refine s_iconst K X332 at_287 (z := 2) rfl (q := 288) rfl ?_
  refine s_iload K X332 at_288 rfl (q := 290) rfl ?_
  refine s_callS K X332 0 at_290 (hw _ (List.mem_of_getElem? (i := 53) rfl)) (hw _ (List.mem_of_getElem? (i := 54) rfl)) (hw _ (List.mem_of_getElem? (i := 27) rfl)) (hw _ (List.mem_of_getElem? (i := 55) rfl)) (by decide) pd___Lcom_example_matchwright_matchwright_engine_Memory_Link_II_Z rfl e332 (argsL := [(.ref b317), (.int (2 : Int32)), (.int ((4 : Int32) + (1 : Int32)))]) (st := []) (c_check_2_5 l Z a0 hw _ b317 _ _ xx l2 l1 V327 rfl rfl rfl (F327.1 4 (by decide))) rfl rfl (by decide) (Nat.le_of_eq rfl) (by decide) (by decide) (by decide) (q := 293) rfl (fun v333 T333 h333 L333 X333 e333 hQ333 => ?_)
  obtain ⟨rfl, rfl, rfl⟩ := hQ333
  refine s_if_eq K X333 at_293 (by decide) (q := 300) rfl (q' := 296) rfl (fun h_ => absurd h_ (by decide)) (fun _ => ?_)
  refine s_iconst K X333 at_296 (z := 1) rfl (q := 297) rfl ?_
  refine s_goto K X333 at_297 (by decide) (q := 301) rfl ?_
  refine s_istore K X333 at_301 (l' := #[.val (.int p1), .val (.int p2), .val (.int v0), .val (.int (4 : Int32)), .val (.int (2 : Int32)), .val (.ref B), .val (.ref xx), .val (.int ((4 : Int32) + (1 : Int32))), .val (.ref b317), .val (.int (1 : Int32))]) rfl (q := 303) rfl ?_
  refine s_iload K X333 at_303 rfl (q := 305) rfl ?_
  refine s_if_eq K X333 at_305 (by decide) (q := 323) rfl (q' := 308) rfl (fun h_ => absurd h_ (by decide)) (fun _ => ?_)
  refine s_aload K X333 at_308 rfl rfl (q := 310) rfl ?_
  refine s_iconst K X333 at_310 (z := 3) rfl (q := 311) rfl ?_
  refine s_iload K X333 at_311 rfl (q := 313) rfl ?_
  refine s_callS K X333 0 at_313 (hw _ (List.mem_of_getElem? (i := 53) rfl)) (hw _ (List.mem_of_getElem? (i := 54) rfl)) (hw _ (List.mem_of_getElem? (i := 27) rfl)) (hw _ (List.mem_of_getElem? (i := 55) rfl)) (by decide) pd___Lcom_example_matchwright_matchwright_engine_Memory_Link_II_Z rfl e333 (argsL := [(.ref b317), (.int (3 : Int32)), (.int ((4 : Int32) + (1 : Int32)))]) (st := []) (c_check_3_5 l Z a0 hw _ b317 _ _ l2 l3 xx V327 rfl rfl rfl (F327.1 2 (by decide))) rfl rfl (by decide) (Nat.le_of_eq rfl) (by decide) (by decide) (by decide) (q := 316) rfl (fun v334 T334 h334 L334 X334 e334 hQ334 => ?_)
  obtain ⟨rfl, rfl, rfl⟩ := hQ334
  refine s_if_eq K X334 at_316 (by decide) (q := 323) rfl (q' := 319) rfl (fun h_ => absurd h_ (by decide)) (fun _ => ?_)
  refine s_iconst K X334 at_319 (z := 1) rfl (q := 320) rfl ?_
  refine s_goto K X334 at_320 (by decide) (q := 324) rfl ?_
  refine s_istore K X334 at_324 (l' := #[.val (.int p1), .val (.int p2), .val (.int v0), .val (.int (4 : Int32)), .val (.int (2 : Int32)), .val (.ref B), .val (.ref xx), .val (.int ((4 : Int32) + (1 : Int32))), .val (.ref b317), .val (.int (1 : Int32))]) rfl (q := 326) rfl ?_
  refine s_iload K X334 at_326 rfl (q := 328) rfl ?_
  refine s_if_eq K X334 at_328 (by decide) (q := 346) rfl (q' := 331) rfl (fun h_ => absurd h_ (by decide)) (fun _ => ?_)
  refine s_aload K X334 at_331 rfl rfl (q := 333) rfl ?_
  refine s_iconst K X334 at_333 (z := 4) rfl (q := 334) rfl ?_
  refine s_iload K X334 at_334 rfl (q := 336) rfl ?_
  refine s_callS K X334 0 at_336 (hw _ (List.mem_of_getElem? (i := 53) rfl)) (hw _ (List.mem_of_getElem? (i := 54) rfl)) (hw _ (List.mem_of_getElem? (i := 27) rfl)) (hw _ (List.mem_of_getElem? (i := 55) rfl)) (by decide) pd___Lcom_example_matchwright_matchwright_engine_Memory_Link_II_Z rfl e334 (argsL := [(.ref b317), (.int (4 : Int32)), (.int ((4 : Int32) + (1 : Int32)))]) (st := []) (c_check_4_5 l Z a0 hw _ b317 _ _ l3 l0 l2 V327 rfl rfl rfl (F327.1 3 (by decide))) rfl rfl (by decide) (Nat.le_of_eq rfl) (by decide) (by decide) (by decide) (q := 339) rfl (fun v335 T335 h335 L335 X335 e335 hQ335 => ?_)
  obtain ⟨rfl, rfl, rfl⟩ := hQ335
  refine s_if_eq K X335 at_339 (by decide) (q := 346) rfl (q' := 342) rfl (fun h_ => absurd h_ (by decide)) (fun _ => ?_)
  refine s_iconst K X335 at_342 (z := 1) rfl (q := 343) rfl ?_
  refine s_goto K X335 at_343 (by decide) (q := 347) rfl ?_
  refine s_istore K X335 at_347 (l' := #[.val (.int p1), .val (.int p2), .val (.int v0), .val (.int (4 : Int32)), .val (.int (2 : Int32)), .val (.ref B), .val (.ref xx), .val (.int ((4 : Int32) + (1 : Int32))), .val (.ref b317), .val (.int (1 : Int32))]) rfl (q := 349) rfl ?_
  refine s_iload K X335 at_349 rfl (q := 351) rfl ?_
  refine s_if_eq K X335 at_351 (by decide) (q := 368) rfl (q' := 354) rfl (fun h_ => absurd h_ (by decide)) (fun _ => ?_)
  refine s_aload K X335 at_354 rfl rfl (q := 356) rfl ?_
  refine s_iconst K X335 at_356 (z := 1) rfl (q := 357) rfl ?_
  refine s_iloadN K X335 at_357 rfl (q := 358) rfl ?_
  refine s_callS K X335 0 at_358 (hw _ (List.mem_of_getElem? (i := 56) rfl)) (hw _ (List.mem_of_getElem? (i := 57) rfl)) (hw _ (List.mem_of_getElem? (i := 27) rfl)) (hw _ (List.mem_of_getElem? (i := 58) rfl)) (by decide) pd___Lcom_example_matchwright_matchwright_engine_Memory_Link_II_Z rfl e335 (argsL := [(.ref B), (.int (1 : Int32)), (.int (4 : Int32))]) (st := []) (c_alone_in l Z a0 hw _ B 1 4 (by decide)) rfl rfl (by decide) (Nat.le_of_eq rfl) (by decide) (by decide) (by decide) (q := 361) rfl (fun v336 T336 h336 L336 X336 e336 hQ336 => ?_)
  obtain ⟨rfl, rfl, rfl⟩ := hQ336
  refine s_if_eq K X336 at_361 (by decide) (q := 368) rfl (q' := 364) rfl (fun h_ => absurd h_ (by decide)) (fun _ => ?_)
  refine s_iconst K X336 at_364 (z := 1) rfl (q := 365) rfl ?_
  refine s_goto K X336 at_365 (by decide) (q := 369) rfl ?_
  refine s_istore K X336 at_369 (l' := #[.val (.int p1), .val (.int p2), .val (.int v0), .val (.int (4 : Int32)), .val (.int (2 : Int32)), .val (.ref B), .val (.ref xx), .val (.int ((4 : Int32) + (1 : Int32))), .val (.ref b317), .val (.int (1 : Int32))]) rfl (q := 371) rfl ?_
  refine s_iload K X336 at_371 rfl (q := 373) rfl ?_
  refine s_if_eq K X336 at_373 (by decide) (q := 390) rfl (q' := 376) rfl (fun h_ => absurd h_ (by decide)) (fun _ => ?_)
  refine s_aload K X336 at_376 rfl rfl (q := 378) rfl ?_
  refine s_iconst K X336 at_378 (z := 2) rfl (q := 379) rfl ?_
  refine s_iloadN K X336 at_379 rfl (q := 380) rfl ?_
  refine s_callS K X336 0 at_380 (hw _ (List.mem_of_getElem? (i := 56) rfl)) (hw _ (List.mem_of_getElem? (i := 57) rfl)) (hw _ (List.mem_of_getElem? (i := 27) rfl)) (hw _ (List.mem_of_getElem? (i := 58) rfl)) (by decide) pd___Lcom_example_matchwright_matchwright_engine_Memory_Link_II_Z rfl e336 (argsL := [(.ref B), (.int (2 : Int32)), (.int (4 : Int32))]) (st := []) (c_alone_in l Z a0 hw _ B 2 4 (by decide)) rfl rfl (by decide) (Nat.le_of_eq rfl) (by decide) (by decide) (by decide) (q := 383) rfl (fun v337 T337 h337 L337 X337 e337 hQ337 => ?_)
  obtain ⟨rfl, rfl, rfl⟩ := hQ337
  refine s_if_eq K X337 at_383 (by decide) (q := 390) rfl (q' := 386) rfl (fun h_ => absurd h_ (by decide)) (fun _ => ?_)
  refine s_iconst K X337 at_386 (z := 1) rfl (q := 387) rfl ?_
  refine s_goto K X337 at_387 (by decide) (q := 391) rfl ?_
  refine s_istore K X337 at_391 (l' := #[.val (.int p1), .val (.int p2), .val (.int v0), .val (.int (4 : Int32)), .val (.int (2 : Int32)), .val (.ref B), .val (.ref xx), .val (.int ((4 : Int32) + (1 : Int32))), .val (.ref b317), .val (.int (1 : Int32))]) rfl (q := 393) rfl ?_
  refine s_iload K X337 at_393 rfl (q := 395) rfl ?_
  refine s_if_eq K X337 at_395 (by decide) (q := 412) rfl (q' := 398) rfl (fun h_ => absurd h_ (by decide)) (fun _ => ?_)
  refine s_aload K X337 at_398 rfl rfl (q := 400) rfl ?_
  refine s_iconst K X337 at_400 (z := 3) rfl (q := 401) rfl ?_
  refine s_iloadN K X337 at_401 rfl (q := 402) rfl ?_
  refine s_callS K X337 0 at_402 (hw _ (List.mem_of_getElem? (i := 56) rfl)) (hw _ (List.mem_of_getElem? (i := 57) rfl)) (hw _ (List.mem_of_getElem? (i := 27) rfl)) (hw _ (List.mem_of_getElem? (i := 58) rfl)) (by decide) pd___Lcom_example_matchwright_matchwright_engine_Memory_Link_II_Z rfl e337 (argsL := [(.ref B), (.int (3 : Int32)), (.int (4 : Int32))]) (st := []) (c_alone_in l Z a0 hw _ B 3 4 (by decide)) rfl rfl (by decide) (Nat.le_of_eq rfl) (by decide) (by decide) (by decide) (q := 405) rfl (fun v338 T338 h338 L338 X338 e338 hQ338 => ?_)
  obtain ⟨rfl, rfl, rfl⟩ := hQ338
  refine s_if_eq K X338 at_405 (by decide) (q := 412) rfl (q' := 408) rfl (fun h_ => absurd h_ (by decide)) (fun _ => ?_)
  refine s_iconst K X338 at_408 (z := 1) rfl (q := 409) rfl ?_
  refine s_goto K X338 at_409 (by decide) (q := 413) rfl ?_
  refine s_istore K X338 at_413 (l' := #[.val (.int p1), .val (.int p2), .val (.int v0), .val (.int (4 : Int32)), .val (.int (2 : Int32)), .val (.ref B), .val (.ref xx), .val (.int ((4 : Int32) + (1 : Int32))), .val (.ref b317), .val (.int (1 : Int32))]) rfl (q := 415) rfl ?_
  refine s_iload K X338 at_415 rfl (q := 417) rfl ?_
  exact s_retZ K X338 at_417 rfl (by decide) e338 (by decide) (by decide) ⟨rfl, (Fr.app (Fr.app (Fr.app (Fr.app (Fr.app (Fr.app (Fr.app (Fr.app (Fr.app (Fr.app (Fr.app (Fr.app (Fr.app (Fr.app (Fr.app (Fr.app (Fr.app (Fr.app (Fr.app (Fr.app (Fr.app (Fr.app (Fr.app (Fr.app (Fr.app NN M312) M313) M314) M315) M316) (Fr.nil _)) (fr_one gE)) (Fr.nil _)) (fr_one gE)) (Fr.nil _)) (fr_one gE)) (Fr.nil _)) (fr_one gE)) (Fr.nil _)) (fr_one gE)) (Fr.nil _)) (Fr.nil _)) (Fr.nil _)) (Fr.nil _)) (Fr.nil _)) (Fr.nil _)) (Fr.nil _)) (Fr.nil _)) (Fr.nil _)) (Fr.nil _))⟩
set_option maxRecDepth 65536 in
set_option maxHeartbeats 40000000 in
theorem c_tail_4_3 (l : Launch) (Z : State) (a0 : Array Value) (hw : ∀ d ∈ tables_1, d.before a0 Z = true) (S : Slots Z) {p : Program} {e : Env} {s : State} {m : MethodId} {args : Array Value} {below : List Frame} {meth : Method} {cod : Code} {T : State} {locs : List Loc} {h : Heap} (K : Cx Z p s m meth cod x.cls code maxLocals ret x.name) (X : Stand p l e room_1 s m args below meth cod T locs 11 24) (B : Addr) (kB : ClassId) (l0 l1 l2 l3 xx I : Addr) (v0 p1 p2 : Int32) (eT : T.heap = h) (P : Sep Z B [l0, l1, l2, l3, xx]) (F : Inv Z h B kB [l0, l1, l2, l3, xx] [0, 1, 2, 3, 4] [0, 1, 2, 3, 4] I v0) (NN : Fr Z.heap.size locs) :
    Goes p e below (Fini s room_1 (fun v h L => v = some (.int 1) ∧ Fr Z.heap.size L)) T (mkF m 93 #[.val (.int p1), .val (.int p2), .val (.int v0), .val (.int (4 : Int32)), .val (.int (3 : Int32)), .val (.ref B), .val (.ref xx), .unset, .unset, .unset] []) := by
  refine s_aload K X at_93 rfl rfl (q := 95) rfl ?_
  refine s_iconst K X at_95 (z := 0) rfl (q := 96) rfl ?_
  refine s_iloadN K X at_96 rfl (q := 97) rfl ?_
  refine s_callS K X 0 at_97 (hw _ (List.mem_of_getElem? (i := 25) rfl)) (hw _ (List.mem_of_getElem? (i := 26) rfl)) (hw _ (List.mem_of_getElem? (i := 27) rfl)) (hw _ (List.mem_of_getElem? (i := 28) rfl)) (by decide) pd___Lcom_example_matchwright_matchwright_engine_Memory_Link_II_V rfl eT (argsL := [(.ref B), (.int (0 : Int32)), (.int (4 : Int32))]) (st := []) (c_ring_0_4 l Z a0 hw S _ B kB [l0, l1, l2, l3, xx] [0, 1, 2, 3, 4] [0, 1, 2, 3, 4] I v0 P F rfl rfl) rfl rfl (by decide) (Nat.le_of_eq rfl) (by decide) (by decide) (by decide) (q := 100) rfl (fun v339 T339 h339 L339 X339 e339 hQ339 => ?_)
  obtain ⟨rfl, F339, M339⟩ := hQ339
  refine s_aload K X339 at_100 rfl rfl (q := 102) rfl ?_
  refine s_iconst K X339 at_102 (z := 1) rfl (q := 103) rfl ?_
  refine s_iloadN K X339 at_103 rfl (q := 104) rfl ?_
  refine s_callS K X339 0 at_104 (hw _ (List.mem_of_getElem? (i := 25) rfl)) (hw _ (List.mem_of_getElem? (i := 26) rfl)) (hw _ (List.mem_of_getElem? (i := 27) rfl)) (hw _ (List.mem_of_getElem? (i := 28) rfl)) (by decide) pd___Lcom_example_matchwright_matchwright_engine_Memory_Link_II_V rfl e339 (argsL := [(.ref B), (.int (1 : Int32)), (.int (4 : Int32))]) (st := []) (c_ring_1_4 l Z a0 hw S _ B kB [l0, l1, l2, l3, xx] [1, 1, 2, 3, 4] [3, 1, 2, 3, 4] I v0 P F339 rfl rfl) rfl rfl (by decide) (Nat.le_of_eq rfl) (by decide) (by decide) (by decide) (q := 107) rfl (fun v340 T340 h340 L340 X340 e340 hQ340 => ?_)
  obtain ⟨rfl, F340, M340⟩ := hQ340
  refine s_aload K X340 at_107 rfl rfl (q := 109) rfl ?_
  refine s_iconst K X340 at_109 (z := 2) rfl (q := 110) rfl ?_
  refine s_iloadN K X340 at_110 rfl (q := 111) rfl ?_
  refine s_callS K X340 0 at_111 (hw _ (List.mem_of_getElem? (i := 25) rfl)) (hw _ (List.mem_of_getElem? (i := 26) rfl)) (hw _ (List.mem_of_getElem? (i := 27) rfl)) (hw _ (List.mem_of_getElem? (i := 28) rfl)) (by decide) pd___Lcom_example_matchwright_matchwright_engine_Memory_Link_II_V rfl e340 (argsL := [(.ref B), (.int (2 : Int32)), (.int (4 : Int32))]) (st := []) (c_ring_2_4 l Z a0 hw S _ B kB [l0, l1, l2, l3, xx] [1, 2, 2, 3, 4] [3, 0, 2, 3, 4] I v0 P F340 rfl rfl) rfl rfl (by decide) (Nat.le_of_eq rfl) (by decide) (by decide) (by decide) (q := 114) rfl (fun v341 T341 h341 L341 X341 e341 hQ341 => ?_)
  obtain ⟨rfl, F341, M341⟩ := hQ341
  refine s_aload K X341 at_114 rfl rfl (q := 116) rfl ?_
  refine s_iconst K X341 at_116 (z := 3) rfl (q := 117) rfl ?_
  refine s_iloadN K X341 at_117 rfl (q := 118) rfl ?_
  refine s_callS K X341 0 at_118 (hw _ (List.mem_of_getElem? (i := 25) rfl)) (hw _ (List.mem_of_getElem? (i := 26) rfl)) (hw _ (List.mem_of_getElem? (i := 27) rfl)) (hw _ (List.mem_of_getElem? (i := 28) rfl)) (by decide) pd___Lcom_example_matchwright_matchwright_engine_Memory_Link_II_V rfl e341 (argsL := [(.ref B), (.int (3 : Int32)), (.int (4 : Int32))]) (st := []) (c_ring_3_4 l Z a0 hw S _ B kB [l0, l1, l2, l3, xx] [1, 2, 3, 3, 4] [3, 0, 1, 3, 4] I v0 P F341 rfl rfl) rfl rfl (by decide) (Nat.le_of_eq rfl) (by decide) (by decide) (by decide) (q := 121) rfl (fun v342 T342 h342 L342 X342 e342 hQ342 => ?_)
  obtain ⟨rfl, F342, M342⟩ := hQ342
  refine s_aload K X342 at_121 rfl rfl (q := 123) rfl ?_
  refine s_aload K X342 at_123 rfl rfl (q := 125) rfl ?_
  refine s_iload K X342 at_125 rfl (q := 127) rfl ?_
  refine s_ldV K X342 at_127 e342 F342.2.1 rfl (by decide) rfl (q := 128) rfl ?_
  refine s_callV K X342 0 (y := (⟨"com/example/matchwright/matchwright/engine/Memory$Link", "linkBefore", "(Lcom/example/matchwright/matchwright/engine/Memory$Link;)V"⟩ : MethodName)) (z := (⟨"com/example/matchwright/matchwright/engine/Memory$Link", "linkBefore", "(Lcom/example/matchwright/matchwright/engine/Memory$Link;)V"⟩ : MethodName)) at_128 (hw _ (List.mem_of_getElem? (i := 31) rfl)) (hw _ (List.mem_of_getElem? (i := 32) rfl)) (notFace_of_selects (args := #[]) (mvT K.hZ (hw _ (List.mem_of_getElem? (i := 34) rfl)))) (hw _ (List.mem_of_getElem? (i := 34) rfl)) (hw _ (List.mem_of_getElem? (i := 33) rfl)) (hw _ (List.mem_of_getElem? (i := 4) rfl)) (hw _ (List.mem_of_getElem? (i := 35) rfl)) (by decide) pd__Lcom_example_matchwright_matchwright_engine_Memory_Link__V rfl e342 (F342.1 4 (by decide)).1 (argsL := [(.ref l3)]) (st := []) (c_before l Z a0 hw S _ B kB [l0, l1, l2, l3, xx] [1, 2, 3, 0, 4] [3, 0, 1, 2, 4] I v0 P F342 rfl rfl 3 2 (by decide) (by decide) rfl rfl) rfl rfl (by decide) (Nat.le_of_eq rfl) (by decide) (by decide) (by decide) (q := 131) rfl (fun v343 T343 h343 L343 X343 e343 hQ343 => ?_)
  obtain ⟨rfl, F343, M343⟩ := hQ343
  refine s_iloadN K X343 at_131 rfl (q := 132) rfl ?_
  refine s_iconst K X343 at_132 (z := 1) rfl (q := 133) rfl ?_
  refine s_iadd K X343 at_133 (q := 134) rfl ?_
  refine s_istore K X343 at_134 (l' := #[.val (.int p1), .val (.int p2), .val (.int v0), .val (.int (4 : Int32)), .val (.int (3 : Int32)), .val (.ref B), .val (.ref xx), .val (.int ((4 : Int32) + (1 : Int32))), .unset, .unset]) rfl (q := 136) rfl ?_
  refine s_iconst K X343 at_136 (z := 5) rfl (q := 137) rfl ?_
  refine s_newV K X343 at_137 (hw _ (List.mem_of_getElem? (i := 1) rfl)) (hw _ (List.mem_of_getElem? (i := 2) rfl)) e343 (by decide) 5 (by decide) (by decide) (by decide) (by decide) (vs := [.null, .null, .null, .null, .null]) rfl (q := 140) rfl (fun T344 h344 b344 k344 g344 X344 e344 E344 V344 O344 => ?_)
  have gE : Z.heap.size ≤ b344 := by rw [g344]; exact old_le F343.2.2.2.2
  have nE : ∀ i, i < 5 → ([l0, l1, l2, l3, xx] : List Addr).getD i 0 ≠ b344 := fun i hi => Nat.ne_of_lt (by rw [g344]; exact (F343.1 i hi).1.lt)
  have nB : B ≠ b344 := Nat.ne_of_lt (by rw [g344]; exact F343.2.1.lt)
  have nI : I ≠ b344 := Nat.ne_of_lt (by rw [g344]; exact F343.2.2.2.1.1.lt)
  have F344 := F343.ext E344
  change Inv Z _ B kB [l0, l1, l2, l3, xx] [1, 2, 4, 0, 3] [3, 0, 1, 4, 2] I v0 at F344
  refine s_astore K X344 at_140 rfl (l' := #[.val (.int p1), .val (.int p2), .val (.int v0), .val (.int (4 : Int32)), .val (.int (3 : Int32)), .val (.ref B), .val (.ref xx), .val (.int ((4 : Int32) + (1 : Int32))), .val (.ref b344), .unset]) rfl (q := 142) rfl ?_
  refine s_aload K X344 at_142 rfl rfl (q := 144) rfl ?_
  refine s_iconst K X344 at_144 (z := 0) rfl (q := 145) rfl ?_
  refine s_aload K X344 at_145 rfl rfl (q := 147) rfl ?_
  refine s_aload K X344 at_147 rfl rfl (q := 149) rfl ?_
  refine s_iload K X344 at_149 rfl (q := 151) rfl ?_
  refine s_iconst K X344 at_151 (z := 0) rfl (q := 152) rfl ?_
  refine s_callS K X344 2 at_152 (hw _ (List.mem_of_getElem? (i := 36) rfl)) (hw _ (List.mem_of_getElem? (i := 37) rfl)) (hw _ (List.mem_of_getElem? (i := 27) rfl)) (hw _ (List.mem_of_getElem? (i := 38) rfl)) (by decide) pd___Lcom_example_matchwright_matchwright_engine_Memory_Link_Lcom_example_matchwright_matchwright_engine_Memory_Link_II_Lcom_example_matchwright_matchwright_engine_Memory_Link_ rfl e344 (argsL := [(.ref B), (.ref xx), (.int (3 : Int32)), (.int (0 : Int32))]) (st := [(.int (0 : Int32)), (.ref b344)]) (c_at_3_0 l Z a0 hw _ B kB [l0, l1, l2, l3, xx] [1, 2, 4, 0, 3] [3, 0, 1, 4, 2] I v0 F344) rfl rfl (by decide) (Nat.le_of_eq rfl) (by decide) (by decide) (by decide) (q := 155) rfl (fun v345 T345 h345 L345 X345 e345 hQ345 => ?_)
  obtain ⟨rfl, rfl, rfl⟩ := hQ345
  refine s_stV K X345 at_155 e345 V344 O344 (by decide) rfl (fun y hy => by cases hy; exact Ins.self (F344.1 0 (by decide)).1) 0 rfl (Nat.le_of_ble_eq_true rfl) (vs' := [(.ref l0), .null, .null, .null, .null]) rfl (q := 156) rfl (fun T346 h346 X346 e346 W346 V346 => ?_)
  have F346 := F344.other W346 nE nB nI gE
  refine s_aload K X346 at_156 rfl rfl (q := 158) rfl ?_
  refine s_iconst K X346 at_158 (z := 1) rfl (q := 159) rfl ?_
  refine s_aload K X346 at_159 rfl rfl (q := 161) rfl ?_
  refine s_aload K X346 at_161 rfl rfl (q := 163) rfl ?_
  refine s_iload K X346 at_163 rfl (q := 165) rfl ?_
  refine s_iconst K X346 at_165 (z := 1) rfl (q := 166) rfl ?_
  refine s_callS K X346 2 at_166 (hw _ (List.mem_of_getElem? (i := 36) rfl)) (hw _ (List.mem_of_getElem? (i := 37) rfl)) (hw _ (List.mem_of_getElem? (i := 27) rfl)) (hw _ (List.mem_of_getElem? (i := 38) rfl)) (by decide) pd___Lcom_example_matchwright_matchwright_engine_Memory_Link_Lcom_example_matchwright_matchwright_engine_Memory_Link_II_Lcom_example_matchwright_matchwright_engine_Memory_Link_ rfl e346 (argsL := [(.ref B), (.ref xx), (.int (3 : Int32)), (.int (1 : Int32))]) (st := [(.int (1 : Int32)), (.ref b344)]) (c_at_3_1 l Z a0 hw _ B kB [l0, l1, l2, l3, xx] [1, 2, 4, 0, 3] [3, 0, 1, 4, 2] I v0 F346) rfl rfl (by decide) (Nat.le_of_eq rfl) (by decide) (by decide) (by decide) (q := 169) rfl (fun v347 T347 h347 L347 X347 e347 hQ347 => ?_)
  obtain ⟨rfl, rfl, rfl⟩ := hQ347
  refine s_stV K X347 at_169 e347 V346 O344 (by decide) rfl (fun y hy => by cases hy; exact Ins.self (F346.1 1 (by decide)).1) 1 rfl (Nat.le_of_ble_eq_true rfl) (vs' := [(.ref l0), (.ref l1), .null, .null, .null]) rfl (q := 170) rfl (fun T348 h348 X348 e348 W348 V348 => ?_)
  have F348 := F346.other W348 nE nB nI gE
  refine s_aload K X348 at_170 rfl rfl (q := 172) rfl ?_
  refine s_iconst K X348 at_172 (z := 2) rfl (q := 173) rfl ?_
  refine s_aload K X348 at_173 rfl rfl (q := 175) rfl ?_
  refine s_aload K X348 at_175 rfl rfl (q := 177) rfl ?_
  refine s_iload K X348 at_177 rfl (q := 179) rfl ?_
  refine s_iconst K X348 at_179 (z := 2) rfl (q := 180) rfl ?_
  refine s_callS K X348 2 at_180 (hw _ (List.mem_of_getElem? (i := 36) rfl)) (hw _ (List.mem_of_getElem? (i := 37) rfl)) (hw _ (List.mem_of_getElem? (i := 27) rfl)) (hw _ (List.mem_of_getElem? (i := 38) rfl)) (by decide) pd___Lcom_example_matchwright_matchwright_engine_Memory_Link_Lcom_example_matchwright_matchwright_engine_Memory_Link_II_Lcom_example_matchwright_matchwright_engine_Memory_Link_ rfl e348 (argsL := [(.ref B), (.ref xx), (.int (3 : Int32)), (.int (2 : Int32))]) (st := [(.int (2 : Int32)), (.ref b344)]) (c_at_3_2 l Z a0 hw _ B kB [l0, l1, l2, l3, xx] [1, 2, 4, 0, 3] [3, 0, 1, 4, 2] I v0 F348) rfl rfl (by decide) (Nat.le_of_eq rfl) (by decide) (by decide) (by decide) (q := 183) rfl (fun v349 T349 h349 L349 X349 e349 hQ349 => ?_)
  obtain ⟨rfl, rfl, rfl⟩ := hQ349
  refine s_stV K X349 at_183 e349 V348 O344 (by decide) rfl (fun y hy => by cases hy; exact Ins.self (F348.1 2 (by decide)).1) 2 rfl (Nat.le_of_ble_eq_true rfl) (vs' := [(.ref l0), (.ref l1), (.ref l2), .null, .null]) rfl (q := 184) rfl (fun T350 h350 X350 e350 W350 V350 => ?_)
  have F350 := F348.other W350 nE nB nI gE
  refine s_aload K X350 at_184 rfl rfl (q := 186) rfl ?_
  refine s_iconst K X350 at_186 (z := 3) rfl (q := 187) rfl ?_
  refine s_aload K X350 at_187 rfl rfl (q := 189) rfl ?_
  refine s_aload K X350 at_189 rfl rfl (q := 191) rfl ?_
  refine s_iload K X350 at_191 rfl (q := 193) rfl ?_
  refine s_iconst K X350 at_193 (z := 3) rfl (q := 194) rfl ?_
  refine s_callS K X350 2 at_194 (hw _ (List.mem_of_getElem? (i := 36) rfl)) (hw _ (List.mem_of_getElem? (i := 37) rfl)) (hw _ (List.mem_of_getElem? (i := 27) rfl)) (hw _ (List.mem_of_getElem? (i := 38) rfl)) (by decide) pd___Lcom_example_matchwright_matchwright_engine_Memory_Link_Lcom_example_matchwright_matchwright_engine_Memory_Link_II_Lcom_example_matchwright_matchwright_engine_Memory_Link_ rfl e350 (argsL := [(.ref B), (.ref xx), (.int (3 : Int32)), (.int (3 : Int32))]) (st := [(.int (3 : Int32)), (.ref b344)]) (c_at_3_3 l Z a0 hw _ B kB [l0, l1, l2, l3, xx] [1, 2, 4, 0, 3] [3, 0, 1, 4, 2] I v0 F350) rfl rfl (by decide) (Nat.le_of_eq rfl) (by decide) (by decide) (by decide) (q := 197) rfl (fun v351 T351 h351 L351 X351 e351 hQ351 => ?_)
  obtain ⟨rfl, rfl, rfl⟩ := hQ351
  refine s_stV K X351 at_197 e351 V350 O344 (by decide) rfl (fun y hy => by cases hy; exact Ins.self (F350.1 4 (by decide)).1) 3 rfl (Nat.le_of_ble_eq_true rfl) (vs' := [(.ref l0), (.ref l1), (.ref l2), (.ref xx), .null]) rfl (q := 198) rfl (fun T352 h352 X352 e352 W352 V352 => ?_)
  have F352 := F350.other W352 nE nB nI gE
  refine s_aload K X352 at_198 rfl rfl (q := 200) rfl ?_
  refine s_iconst K X352 at_200 (z := 4) rfl (q := 201) rfl ?_
  refine s_aload K X352 at_201 rfl rfl (q := 203) rfl ?_
  refine s_aload K X352 at_203 rfl rfl (q := 205) rfl ?_
  refine s_iload K X352 at_205 rfl (q := 207) rfl ?_
  refine s_iconst K X352 at_207 (z := 4) rfl (q := 208) rfl ?_
  refine s_callS K X352 2 at_208 (hw _ (List.mem_of_getElem? (i := 36) rfl)) (hw _ (List.mem_of_getElem? (i := 37) rfl)) (hw _ (List.mem_of_getElem? (i := 27) rfl)) (hw _ (List.mem_of_getElem? (i := 38) rfl)) (by decide) pd___Lcom_example_matchwright_matchwright_engine_Memory_Link_Lcom_example_matchwright_matchwright_engine_Memory_Link_II_Lcom_example_matchwright_matchwright_engine_Memory_Link_ rfl e352 (argsL := [(.ref B), (.ref xx), (.int (3 : Int32)), (.int (4 : Int32))]) (st := [(.int (4 : Int32)), (.ref b344)]) (c_at_3_4 l Z a0 hw _ B kB [l0, l1, l2, l3, xx] [1, 2, 4, 0, 3] [3, 0, 1, 4, 2] I v0 F352) rfl rfl (by decide) (Nat.le_of_eq rfl) (by decide) (by decide) (by decide) (q := 211) rfl (fun v353 T353 h353 L353 X353 e353 hQ353 => ?_)
  obtain ⟨rfl, rfl, rfl⟩ := hQ353
  refine s_stV K X353 at_211 e353 V352 O344 (by decide) rfl (fun y hy => by cases hy; exact Ins.self (F352.1 3 (by decide)).1) 4 rfl (Nat.le_of_ble_eq_true rfl) (vs' := [(.ref l0), (.ref l1), (.ref l2), (.ref xx), (.ref l3)]) rfl (q := 212) rfl (fun T354 h354 X354 e354 W354 V354 => ?_)
  have F354 := F352.other W354 nE nB nI gE
  refine s_aload K X354 at_212 rfl rfl (q := 214) rfl ?_
  refine s_callV K X354 0 (y := (⟨"com/example/matchwright/matchwright/engine/Memory$Link", "item", "()Ljava/lang/Object;"⟩ : MethodName)) (z := (⟨"com/example/matchwright/matchwright/engine/Memory$Link", "item", "()Ljava/lang/Object;"⟩ : MethodName)) at_214 (hw _ (List.mem_of_getElem? (i := 39) rfl)) (hw _ (List.mem_of_getElem? (i := 40) rfl)) (notFace_of_selects (args := #[]) (mvT K.hZ (hw _ (List.mem_of_getElem? (i := 42) rfl)))) (hw _ (List.mem_of_getElem? (i := 42) rfl)) (hw _ (List.mem_of_getElem? (i := 41) rfl)) (hw _ (List.mem_of_getElem? (i := 4) rfl)) (hw _ (List.mem_of_getElem? (i := 43) rfl)) (by decide) pd___Ljava_lang_Object_ rfl e354 (F354.1 4 (by decide)).1 (argsL := []) (st := []) (c_item l Z a0 hw _ xx I F354.2.2.1) rfl rfl (by decide) (Nat.le_of_eq rfl) (by decide) (by decide) (by decide) (q := 217) rfl (fun v355 T355 h355 L355 X355 e355 hQ355 => ?_)
  obtain ⟨rfl, rfl, rfl⟩ := hQ355
  refine s_castY K X355 at_217 (hw _ (List.mem_of_getElem? (i := 44) rfl)) e355 (Ins.self F354.2.2.2.1.1) (q := 220) rfl (fun T356 X356 e356 => ?_)
  refine s_callV K X356 0 (y := (⟨"java/lang/Integer", "intValue", "()I"⟩ : MethodName)) (z := (⟨"java/lang/Integer", "intValue", "()I"⟩ : MethodName)) at_220 (hw _ (List.mem_of_getElem? (i := 46) rfl)) (hw _ (List.mem_of_getElem? (i := 47) rfl)) (notFace_of_selects (args := #[]) (mvT K.hZ (hw _ (List.mem_of_getElem? (i := 49) rfl)))) (hw _ (List.mem_of_getElem? (i := 49) rfl)) (hw _ (List.mem_of_getElem? (i := 48) rfl)) (hw _ (List.mem_of_getElem? (i := 7) rfl)) (hw _ (List.mem_of_getElem? (i := 50) rfl)) (by decide) pd___I rfl e356 F354.2.2.2.1.1 (argsL := []) (st := []) (c_intValue l Z a0 hw _ I v0 F354.2.2.2.1) rfl rfl (by decide) (Nat.le_of_eq rfl) (by decide) (by decide) (by decide) (q := 223) rfl (fun v357 T357 h357 L357 X357 e357 hQ357 => ?_)
  obtain ⟨rfl, rfl, rfl⟩ := hQ357
  refine s_iloadN K X357 at_223 rfl (q := 224) rfl ?_
  refine s_icmp_ne K X357 at_224 (by decide) (q := 231) rfl (q' := 227) rfl (fun h_ => absurd rfl h_) (fun _ => ?_)
  refine s_iconst K X357 at_227 (z := 1) rfl (q := 228) rfl ?_
  refine s_goto K X357 at_228 (by decide) (q := 232) rfl ?_
  refine s_istore K X357 at_232 (l' := #[.val (.int p1), .val (.int p2), .val (.int v0), .val (.int (4 : Int32)), .val (.int (3 : Int32)), .val (.ref B), .val (.ref xx), .val (.int ((4 : Int32) + (1 : Int32))), .val (.ref b344), .val (.int (1 : Int32))]) rfl (q := 234) rfl ?_
  refine s_iload K X357 at_234 rfl (q := 236) rfl ?_
  refine s_if_eq K X357 at_236 (by decide) (q := 254) rfl (q' := 239) rfl (fun h_ => absurd h_ (by decide)) (fun _ => ?_)
  refine s_aload K X357 at_239 rfl rfl (q := 241) rfl ?_
  refine s_iconst K X357 at_241 (z := 0) rfl (q := 242) rfl ?_
  refine s_iload K X357 at_242 rfl (q := 244) rfl ?_
  refine s_callS K X357 0 at_244 (hw _ (List.mem_of_getElem? (i := 53) rfl)) (hw _ (List.mem_of_getElem? (i := 54) rfl)) (hw _ (List.mem_of_getElem? (i := 27) rfl)) (hw _ (List.mem_of_getElem? (i := 55) rfl)) (by decide) pd___Lcom_example_matchwright_matchwright_engine_Memory_Link_II_Z rfl e357 (argsL := [(.ref b344), (.int (0 : Int32)), (.int ((4 : Int32) + (1 : Int32)))]) (st := []) (c_check_0_5 l Z a0 hw _ b344 _ _ l0 l1 l3 V354 rfl rfl rfl (F354.1 0 (by decide))) rfl rfl (by decide) (Nat.le_of_eq rfl) (by decide) (by decide) (by decide) (q := 247) rfl (fun v358 T358 h358 L358 X358 e358 hQ358 => ?_)
  obtain ⟨rfl, rfl, rfl⟩ := hQ358
  refine s_if_eq K X358 at_247 (by decide) (q := 254) rfl (q' := 250) rfl (fun h_ => absurd h_ (by decide)) (fun _ => ?_)
  refine s_iconst K X358 at_250 (z := 1) rfl (q := 251) rfl ?_
  refine s_goto K X358 at_251 (by decide) (q := 255) rfl ?_
  refine s_istore K X358 at_255 (l' := #[.val (.int p1), .val (.int p2), .val (.int v0), .val (.int (4 : Int32)), .val (.int (3 : Int32)), .val (.ref B), .val (.ref xx), .val (.int ((4 : Int32) + (1 : Int32))), .val (.ref b344), .val (.int (1 : Int32))]) rfl (q := 257) rfl ?_
  refine s_iload K X358 at_257 rfl (q := 259) rfl ?_
  refine s_if_eq K X358 at_259 (by decide) (q := 277) rfl (q' := 262) rfl (fun h_ => absurd h_ (by decide)) (fun _ => ?_)
  refine s_aload K X358 at_262 rfl rfl (q := 264) rfl ?_
  refine s_iconst K X358 at_264 (z := 1) rfl (q := 265) rfl ?_
  refine s_iload K X358 at_265 rfl (q := 267) rfl ?_
  refine s_callS K X358 0 at_267 (hw _ (List.mem_of_getElem? (i := 53) rfl)) (hw _ (List.mem_of_getElem? (i := 54) rfl)) (hw _ (List.mem_of_getElem? (i := 27) rfl)) (hw _ (List.mem_of_getElem? (i := 55) rfl)) (by decide) pd___Lcom_example_matchwright_matchwright_engine_Memory_Link_II_Z rfl e358 (argsL := [(.ref b344), (.int (1 : Int32)), (.int ((4 : Int32) + (1 : Int32)))]) (st := []) (c_check_1_5 l Z a0 hw _ b344 _ _ l1 l2 l0 V354 rfl rfl rfl (F354.1 1 (by decide))) rfl rfl (by decide) (Nat.le_of_eq rfl) (by decide) (by decide) (by decide) (q := 270) rfl (fun v359 T359 h359 L359 X359 e359 hQ359 => ?_)
  obtain ⟨rfl, rfl, rfl⟩ := hQ359
  refine s_if_eq K X359 at_270 (by decide) (q := 277) rfl (q' := 273) rfl (fun h_ => absurd h_ (by decide)) (fun _ => ?_)
  refine s_iconst K X359 at_273 (z := 1) rfl (q := 274) rfl ?_
  refine s_goto K X359 at_274 (by decide) (q := 278) rfl ?_
  refine s_istore K X359 at_278 (l' := #[.val (.int p1), .val (.int p2), .val (.int v0), .val (.int (4 : Int32)), .val (.int (3 : Int32)), .val (.ref B), .val (.ref xx), .val (.int ((4 : Int32) + (1 : Int32))), .val (.ref b344), .val (.int (1 : Int32))]) rfl (q := 280) rfl ?_
  refine s_iload K X359 at_280 rfl (q := 282) rfl ?_
  refine s_if_eq K X359 at_282 (by decide) (q := 300) rfl (q' := 285) rfl (fun h_ => absurd h_ (by decide)) (fun _ => ?_)
  refine s_aload K X359 at_285 rfl rfl (q := 287) rfl ?_
  refine s_iconst K X359 at_287 (z := 2) rfl (q := 288) rfl ?_
  refine s_iload K X359 at_288 rfl (q := 290) rfl ?_
  refine s_callS K X359 0 at_290 (hw _ (List.mem_of_getElem? (i := 53) rfl)) (hw _ (List.mem_of_getElem? (i := 54) rfl)) (hw _ (List.mem_of_getElem? (i := 27) rfl)) (hw _ (List.mem_of_getElem? (i := 55) rfl)) (by decide) pd___Lcom_example_matchwright_matchwright_engine_Memory_Link_II_Z rfl e359 (argsL := [(.ref b344), (.int (2 : Int32)), (.int ((4 : Int32) + (1 : Int32)))]) (st := []) (c_check_2_5 l Z a0 hw _ b344 _ _ l2 xx l1 V354 rfl rfl rfl (F354.1 2 (by decide))) rfl rfl (by decide) (Nat.le_of_eq rfl) (by decide) (by decide) (by decide) (q := 293) rfl (fun v360 T360 h360 L360 X360 e360 hQ360 => ?_)
  obtain ⟨rfl, rfl, rfl⟩ := hQ360
  refine s_if_eq K X360 at_293 (by decide) (q := 300) rfl (q' := 296) rfl (fun h_ => absurd h_ (by decide)) (fun _ => ?_)
  refine s_iconst K X360 at_296 (z := 1) rfl (q := 297) rfl ?_
  refine s_goto K X360 at_297 (by decide) (q := 301) rfl ?_
  refine s_istore K X360 at_301 (l' := #[.val (.int p1), .val (.int p2), .val (.int v0), .val (.int (4 : Int32)), .val (.int (3 : Int32)), .val (.ref B), .val (.ref xx), .val (.int ((4 : Int32) + (1 : Int32))), .val (.ref b344), .val (.int (1 : Int32))]) rfl (q := 303) rfl ?_
  refine s_iload K X360 at_303 rfl (q := 305) rfl ?_
  refine s_if_eq K X360 at_305 (by decide) (q := 323) rfl (q' := 308) rfl (fun h_ => absurd h_ (by decide)) (fun _ => ?_)
  refine s_aload K X360 at_308 rfl rfl (q := 310) rfl ?_
  refine s_iconst K X360 at_310 (z := 3) rfl (q := 311) rfl ?_
  refine s_iload K X360 at_311 rfl (q := 313) rfl ?_
  refine s_callS K X360 0 at_313 (hw _ (List.mem_of_getElem? (i := 53) rfl)) (hw _ (List.mem_of_getElem? (i := 54) rfl)) (hw _ (List.mem_of_getElem? (i := 27) rfl)) (hw _ (List.mem_of_getElem? (i := 55) rfl)) (by decide) pd___Lcom_example_matchwright_matchwright_engine_Memory_Link_II_Z rfl e360 (argsL := [(.ref b344), (.int (3 : Int32)), (.int ((4 : Int32) + (1 : Int32)))]) (st := []) (c_check_3_5 l Z a0 hw _ b344 _ _ xx l3 l2 V354 rfl rfl rfl (F354.1 4 (by decide))) rfl rfl (by decide) (Nat.le_of_eq rfl) (by decide) (by decide) (by decide) (q := 316) rfl (fun v361 T361 h361 L361 X361 e361 hQ361 => ?_)
  obtain ⟨rfl, rfl, rfl⟩ := hQ361
  refine s_if_eq K X361 at_316 (by decide) (q := 323) rfl (q' := 319) rfl (fun h_ => absurd h_ (by decide)) (fun _ => ?_)
  refine s_iconst K X361 at_319 (z := 1) rfl (q := 320) rfl ?_
  refine s_goto K X361 at_320 (by decide) (q := 324) rfl ?_
  refine s_istore K X361 at_324 (l' := #[.val (.int p1), .val (.int p2), .val (.int v0), .val (.int (4 : Int32)), .val (.int (3 : Int32)), .val (.ref B), .val (.ref xx), .val (.int ((4 : Int32) + (1 : Int32))), .val (.ref b344), .val (.int (1 : Int32))]) rfl (q := 326) rfl ?_
  refine s_iload K X361 at_326 rfl (q := 328) rfl ?_
  refine s_if_eq K X361 at_328 (by decide) (q := 346) rfl (q' := 331) rfl (fun h_ => absurd h_ (by decide)) (fun _ => ?_)
  refine s_aload K X361 at_331 rfl rfl (q := 333) rfl ?_
  refine s_iconst K X361 at_333 (z := 4) rfl (q := 334) rfl ?_
  refine s_iload K X361 at_334 rfl (q := 336) rfl ?_
  refine s_callS K X361 0 at_336 (hw _ (List.mem_of_getElem? (i := 53) rfl)) (hw _ (List.mem_of_getElem? (i := 54) rfl)) (hw _ (List.mem_of_getElem? (i := 27) rfl)) (hw _ (List.mem_of_getElem? (i := 55) rfl)) (by decide) pd___Lcom_example_matchwright_matchwright_engine_Memory_Link_II_Z rfl e361 (argsL := [(.ref b344), (.int (4 : Int32)), (.int ((4 : Int32) + (1 : Int32)))]) (st := []) (c_check_4_5 l Z a0 hw _ b344 _ _ l3 l0 xx V354 rfl rfl rfl (F354.1 3 (by decide))) rfl rfl (by decide) (Nat.le_of_eq rfl) (by decide) (by decide) (by decide) (q := 339) rfl (fun v362 T362 h362 L362 X362 e362 hQ362 => ?_)
  obtain ⟨rfl, rfl, rfl⟩ := hQ362
  refine s_if_eq K X362 at_339 (by decide) (q := 346) rfl (q' := 342) rfl (fun h_ => absurd h_ (by decide)) (fun _ => ?_)
  refine s_iconst K X362 at_342 (z := 1) rfl (q := 343) rfl ?_
  refine s_goto K X362 at_343 (by decide) (q := 347) rfl ?_
  refine s_istore K X362 at_347 (l' := #[.val (.int p1), .val (.int p2), .val (.int v0), .val (.int (4 : Int32)), .val (.int (3 : Int32)), .val (.ref B), .val (.ref xx), .val (.int ((4 : Int32) + (1 : Int32))), .val (.ref b344), .val (.int (1 : Int32))]) rfl (q := 349) rfl ?_
  refine s_iload K X362 at_349 rfl (q := 351) rfl ?_
  refine s_if_eq K X362 at_351 (by decide) (q := 368) rfl (q' := 354) rfl (fun h_ => absurd h_ (by decide)) (fun _ => ?_)
  refine s_aload K X362 at_354 rfl rfl (q := 356) rfl ?_
  refine s_iconst K X362 at_356 (z := 1) rfl (q := 357) rfl ?_
  refine s_iloadN K X362 at_357 rfl (q := 358) rfl ?_
  refine s_callS K X362 0 at_358 (hw _ (List.mem_of_getElem? (i := 56) rfl)) (hw _ (List.mem_of_getElem? (i := 57) rfl)) (hw _ (List.mem_of_getElem? (i := 27) rfl)) (hw _ (List.mem_of_getElem? (i := 58) rfl)) (by decide) pd___Lcom_example_matchwright_matchwright_engine_Memory_Link_II_Z rfl e362 (argsL := [(.ref B), (.int (1 : Int32)), (.int (4 : Int32))]) (st := []) (c_alone_in l Z a0 hw _ B 1 4 (by decide)) rfl rfl (by decide) (Nat.le_of_eq rfl) (by decide) (by decide) (by decide) (q := 361) rfl (fun v363 T363 h363 L363 X363 e363 hQ363 => ?_)
  obtain ⟨rfl, rfl, rfl⟩ := hQ363
  refine s_if_eq K X363 at_361 (by decide) (q := 368) rfl (q' := 364) rfl (fun h_ => absurd h_ (by decide)) (fun _ => ?_)
  refine s_iconst K X363 at_364 (z := 1) rfl (q := 365) rfl ?_
  refine s_goto K X363 at_365 (by decide) (q := 369) rfl ?_
  refine s_istore K X363 at_369 (l' := #[.val (.int p1), .val (.int p2), .val (.int v0), .val (.int (4 : Int32)), .val (.int (3 : Int32)), .val (.ref B), .val (.ref xx), .val (.int ((4 : Int32) + (1 : Int32))), .val (.ref b344), .val (.int (1 : Int32))]) rfl (q := 371) rfl ?_
  refine s_iload K X363 at_371 rfl (q := 373) rfl ?_
  refine s_if_eq K X363 at_373 (by decide) (q := 390) rfl (q' := 376) rfl (fun h_ => absurd h_ (by decide)) (fun _ => ?_)
  refine s_aload K X363 at_376 rfl rfl (q := 378) rfl ?_
  refine s_iconst K X363 at_378 (z := 2) rfl (q := 379) rfl ?_
  refine s_iloadN K X363 at_379 rfl (q := 380) rfl ?_
  refine s_callS K X363 0 at_380 (hw _ (List.mem_of_getElem? (i := 56) rfl)) (hw _ (List.mem_of_getElem? (i := 57) rfl)) (hw _ (List.mem_of_getElem? (i := 27) rfl)) (hw _ (List.mem_of_getElem? (i := 58) rfl)) (by decide) pd___Lcom_example_matchwright_matchwright_engine_Memory_Link_II_Z rfl e363 (argsL := [(.ref B), (.int (2 : Int32)), (.int (4 : Int32))]) (st := []) (c_alone_in l Z a0 hw _ B 2 4 (by decide)) rfl rfl (by decide) (Nat.le_of_eq rfl) (by decide) (by decide) (by decide) (q := 383) rfl (fun v364 T364 h364 L364 X364 e364 hQ364 => ?_)
  obtain ⟨rfl, rfl, rfl⟩ := hQ364
  refine s_if_eq K X364 at_383 (by decide) (q := 390) rfl (q' := 386) rfl (fun h_ => absurd h_ (by decide)) (fun _ => ?_)
  refine s_iconst K X364 at_386 (z := 1) rfl (q := 387) rfl ?_
  refine s_goto K X364 at_387 (by decide) (q := 391) rfl ?_
  refine s_istore K X364 at_391 (l' := #[.val (.int p1), .val (.int p2), .val (.int v0), .val (.int (4 : Int32)), .val (.int (3 : Int32)), .val (.ref B), .val (.ref xx), .val (.int ((4 : Int32) + (1 : Int32))), .val (.ref b344), .val (.int (1 : Int32))]) rfl (q := 393) rfl ?_
  refine s_iload K X364 at_393 rfl (q := 395) rfl ?_
  refine s_if_eq K X364 at_395 (by decide) (q := 412) rfl (q' := 398) rfl (fun h_ => absurd h_ (by decide)) (fun _ => ?_)
  refine s_aload K X364 at_398 rfl rfl (q := 400) rfl ?_
  refine s_iconst K X364 at_400 (z := 3) rfl (q := 401) rfl ?_
  refine s_iloadN K X364 at_401 rfl (q := 402) rfl ?_
  refine s_callS K X364 0 at_402 (hw _ (List.mem_of_getElem? (i := 56) rfl)) (hw _ (List.mem_of_getElem? (i := 57) rfl)) (hw _ (List.mem_of_getElem? (i := 27) rfl)) (hw _ (List.mem_of_getElem? (i := 58) rfl)) (by decide) pd___Lcom_example_matchwright_matchwright_engine_Memory_Link_II_Z rfl e364 (argsL := [(.ref B), (.int (3 : Int32)), (.int (4 : Int32))]) (st := []) (c_alone_in l Z a0 hw _ B 3 4 (by decide)) rfl rfl (by decide) (Nat.le_of_eq rfl) (by decide) (by decide) (by decide) (q := 405) rfl (fun v365 T365 h365 L365 X365 e365 hQ365 => ?_)
  obtain ⟨rfl, rfl, rfl⟩ := hQ365
  refine s_if_eq K X365 at_405 (by decide) (q := 412) rfl (q' := 408) rfl (fun h_ => absurd h_ (by decide)) (fun _ => ?_)
  refine s_iconst K X365 at_408 (z := 1) rfl (q := 409) rfl ?_
  refine s_goto K X365 at_409 (by decide) (q := 413) rfl ?_
  refine s_istore K X365 at_413 (l' := #[.val (.int p1), .val (.int p2), .val (.int v0), .val (.int (4 : Int32)), .val (.int (3 : Int32)), .val (.ref B), .val (.ref xx), .val (.int ((4 : Int32) + (1 : Int32))), .val (.ref b344), .val (.int (1 : Int32))]) rfl (q := 415) rfl ?_
  refine s_iload K X365 at_415 rfl (q := 417) rfl ?_
  exact s_retZ K X365 at_417 rfl (by decide) e365 (by decide) (by decide) ⟨rfl, (Fr.app (Fr.app (Fr.app (Fr.app (Fr.app (Fr.app (Fr.app (Fr.app (Fr.app (Fr.app (Fr.app (Fr.app (Fr.app (Fr.app (Fr.app (Fr.app (Fr.app (Fr.app (Fr.app (Fr.app (Fr.app (Fr.app (Fr.app (Fr.app (Fr.app NN M339) M340) M341) M342) M343) (Fr.nil _)) (fr_one gE)) (Fr.nil _)) (fr_one gE)) (Fr.nil _)) (fr_one gE)) (Fr.nil _)) (fr_one gE)) (Fr.nil _)) (fr_one gE)) (Fr.nil _)) (Fr.nil _)) (Fr.nil _)) (Fr.nil _)) (Fr.nil _)) (Fr.nil _)) (Fr.nil _)) (Fr.nil _)) (Fr.nil _)) (Fr.nil _))⟩
set_option maxRecDepth 65536 in
set_option maxHeartbeats 40000000 in
theorem c_law (l : Launch) (Z : State) (a0 : Array Value) (hw : ∀ d ∈ tables_1, d.before a0 Z = true) (p1 p2 v0 n k : Int32) (ca : Addr) (cc : Cell) (S : Slots Z) (C : Cache Z ca cc) (hn : (p1 &&& (3 : Int32)) + (1 : Int32) = n) (n0 : n ≠ 0) (hk : (p2 &&& (2147483647 : Int32)) % n = k) (hc : (n = 1 ∧ k = 0) ∨ (n = 2 ∧ k = 0) ∨ (n = 2 ∧ k = 1) ∨ (n = 3 ∧ k = 0) ∨ (n = 3 ∧ k = 1) ∨ (n = 3 ∧ k = 2) ∨ (n = 4 ∧ k = 0) ∨ (n = 4 ∧ k = 1) ∨ (n = 4 ∧ k = 2) ∨ (n = 4 ∧ k = 3)) : Con l Z x code maxLocals ret room_1 #[(.int p1), (.int p2), (.int v0)] Z.heap (fun v h L => v = some (.int 1) ∧ Fr Z.heap.size L) := by
  refine Con.of (plainFor_of_name pn_com_example_matchwright_matchwright_engine_LinkLinkBeforePinLaw) (Ls := #[.val (.int p1), .val (.int p2), .val (.int v0), .unset, .unset, .unset, .unset, .unset, .unset, .unset]) (fun m => by first | (simp [entryFrame, mkF, argsToLocals, Value.category, maxLocals]; done) | rfl) (fun p e s m below meth cod T K X eT => ?_)
  refine s_iloadN K X at_0 rfl (q := 1) rfl ?_
  refine s_iconst K X at_1 (z := 3) rfl (q := 2) rfl ?_
  refine s_iand K X at_2 (q := 3) rfl ?_
  refine s_iconst K X at_3 (z := 1) rfl (q := 4) rfl ?_
  refine s_iadd K X at_4 (q := 5) rfl ?_
  rw [hn]
  refine s_istoreN K X at_5 (l' := #[.val (.int p1), .val (.int p2), .val (.int v0), .val (.int n), .unset, .unset, .unset, .unset, .unset, .unset]) rfl (q := 6) rfl ?_
  refine s_iloadN K X at_6 rfl (q := 7) rfl ?_
  refine s_ldcI K X at_7 (hw _ (List.mem_of_getElem? (i := 0) rfl)) (q := 9) rfl ?_
  refine s_iand K X at_9 (q := 10) rfl ?_
  refine s_iloadN K X at_10 rfl (q := 11) rfl ?_
  refine s_irem K X at_11 n0 (q := 12) rfl ?_
  rw [hk]
  refine s_istore K X at_12 (l' := #[.val (.int p1), .val (.int p2), .val (.int v0), .val (.int n), .val (.int k), .unset, .unset, .unset, .unset, .unset]) rfl (q := 14) rfl ?_
  refine s_iconst K X at_14 (z := 4) rfl (q := 15) rfl ?_
  refine s_newV K X at_15 (hw _ (List.mem_of_getElem? (i := 1) rfl)) (hw _ (List.mem_of_getElem? (i := 2) rfl)) eT (by decide) 4 (by decide) (by decide) (by decide) (by decide) (vs := [.null, .null, .null, .null]) rfl (q := 18) rfl (fun T76 h76 b76 k76 g76 X76 e76 E76 V76 O76 => ?_)
  have D76 := (Old.start Z).ext E76
  have gB : Z.heap.size ≤ b76 := by rw [g76]; exact Nat.le_refl _
  refine s_astore K X76 at_18 rfl (l' := #[.val (.int p1), .val (.int p2), .val (.int v0), .val (.int n), .val (.int k), .val (.ref b76), .unset, .unset, .unset, .unset]) rfl (q := 20) rfl ?_
  refine s_aload K X76 at_20 rfl rfl (q := 22) rfl ?_
  refine s_iconst K X76 at_22 (z := 0) rfl (q := 23) rfl ?_
  refine s_new K X76 at_23 (hw _ (List.mem_of_getElem? (i := 1) rfl)) (hw _ (List.mem_of_getElem? (i := 3) rfl)) (hw _ (List.mem_of_getElem? (i := 4) rfl)) e76 (by decide) (by decide) (q := 26) rfl (fun T77 h77 b77 g77 X77 e77 E77 A77 D77' => ?_)
  have ga0 : Z.heap.size ≤ b77 := by rw [g77]; exact old_le D76
  have nb0 : b77 ≠ b76 := Nat.ne_of_gt (by rw [g77]; exact V76.lt)
  have D77 := D76.ext E77
  have f_next77 := D77' (Or.inl (hw _ (List.mem_of_getElem? (i := 21) rfl))) (ty := (.object "com/example/matchwright/matchwright/engine/Memory$Link")) (by decide)
  have f_previous77 := D77' (Or.inl (hw _ (List.mem_of_getElem? (i := 19) rfl))) (ty := (.object "com/example/matchwright/matchwright/engine/Memory$Link")) (by decide)
  have f_item77 := D77' (Or.inr (hw _ (List.mem_of_getElem? (i := 23) rfl))) (ty := (.object "java/lang/Object")) (by decide)
  refine s_dup K X77 at_26 rfl (q := 27) rfl ?_
  refine s_iconst K X77 at_27 (z := 0) rfl (q := 28) rfl ?_
  refine s_callS K X77 4 at_28 (hw _ (List.mem_of_getElem? (i := 5) rfl)) (hw _ (List.mem_of_getElem? (i := 6) rfl)) (hw _ (List.mem_of_getElem? (i := 7) rfl)) (hw _ (List.mem_of_getElem? (i := 8) rfl)) (by decide) pd__I_Ljava_lang_Integer_ rfl e77 (argsL := [(.int (0 : Int32))]) (st := [(.ref b77), (.ref b77), (.int (0 : Int32)), (.ref b76)]) (c_valueOf l Z a0 hw _ D77 ca cc 0 C) rfl rfl (by decide) (Nat.le_of_eq rfl) (by decide) (by decide) (by decide) (q := 31) rfl (fun v78 T78 h78 L78 X78 e78 hQ78 => ?_)
  obtain ⟨i0, rfl, B78, E78, M78⟩ := hQ78
  have D78 := D77.ext E78
  refine s_init K X78 3 at_31 rfl (hw _ (List.mem_of_getElem? (i := 12) rfl)) (hw _ (List.mem_of_getElem? (i := 13) rfl)) (hw _ (List.mem_of_getElem? (i := 4) rfl)) (hw _ (List.mem_of_getElem? (i := 14) rfl)) (by decide) pd__Ljava_lang_Object__V rfl e78 (a := b77) (argsL := [(.ref i0)]) (st := [(.ref b77), (.int (0 : Int32)), (.ref b76)]) (c_linkInit l Z a0 hw S _ b77 i0 ga0 (A77.ext E78) (f_next77.ext E78) (f_previous77.ext E78) (f_item77.ext E78)) rfl rfl (by decide) (Nat.le_of_eq rfl) (by decide) (by decide) (by decide) (q := 34) rfl (fun v79 T79 h79 L79 X79 e79 hQ79 => ?_)
  obtain ⟨rfl, k79, j79, K79, M79⟩ := hQ79
  have D79 := D78.keep K79 (fun x hx => by cases List.mem_singleton.mp hx; exact ga0)
  have V79 := ((V76.ext E77).ext E78).keep K79 (ninS (Ne.symm nb0) nin0)
  refine s_stV K X79 at_34 e79 V79 O76 (by decide) rfl (fun y hy => by cases hy; exact Ins.self k79.1) 0 rfl (Nat.le_of_ble_eq_true rfl) (vs' := [(.ref b77), .null, .null, .null]) rfl (q := 35) rfl (fun T80 h80 X80 e80 W80 V80 => ?_)
  have D80 := D79.wr W80 gB
  have k80_0 := k79.other W80 nb0
  refine s_aload K X80 at_35 rfl rfl (q := 37) rfl ?_
  refine s_iconst K X80 at_37 (z := 1) rfl (q := 38) rfl ?_
  refine s_new K X80 at_38 (hw _ (List.mem_of_getElem? (i := 1) rfl)) (hw _ (List.mem_of_getElem? (i := 3) rfl)) (hw _ (List.mem_of_getElem? (i := 4) rfl)) e80 (by decide) (by decide) (q := 41) rfl (fun T81 h81 b81 g81 X81 e81 E81 A81 D81' => ?_)
  have ga1 : Z.heap.size ≤ b81 := by rw [g81]; exact old_le D80
  have nb1 : b81 ≠ b76 := Nat.ne_of_gt (by rw [g81]; exact V80.lt)
  have ne0_1 : b77 ≠ b81 := Nat.ne_of_lt (by rw [g81]; exact k80_0.1.lt)
  have D81 := D80.ext E81
  have f_next81 := D81' (Or.inl (hw _ (List.mem_of_getElem? (i := 21) rfl))) (ty := (.object "com/example/matchwright/matchwright/engine/Memory$Link")) (by decide)
  have f_previous81 := D81' (Or.inl (hw _ (List.mem_of_getElem? (i := 19) rfl))) (ty := (.object "com/example/matchwright/matchwright/engine/Memory$Link")) (by decide)
  have f_item81 := D81' (Or.inr (hw _ (List.mem_of_getElem? (i := 23) rfl))) (ty := (.object "java/lang/Object")) (by decide)
  refine s_dup K X81 at_41 rfl (q := 42) rfl ?_
  refine s_iconst K X81 at_42 (z := 1) rfl (q := 43) rfl ?_
  refine s_callS K X81 4 at_43 (hw _ (List.mem_of_getElem? (i := 5) rfl)) (hw _ (List.mem_of_getElem? (i := 6) rfl)) (hw _ (List.mem_of_getElem? (i := 7) rfl)) (hw _ (List.mem_of_getElem? (i := 8) rfl)) (by decide) pd__I_Ljava_lang_Integer_ rfl e81 (argsL := [(.int (1 : Int32))]) (st := [(.ref b81), (.ref b81), (.int (1 : Int32)), (.ref b76)]) (c_valueOf l Z a0 hw _ D81 ca cc 1 C) rfl rfl (by decide) (Nat.le_of_eq rfl) (by decide) (by decide) (by decide) (q := 46) rfl (fun v82 T82 h82 L82 X82 e82 hQ82 => ?_)
  obtain ⟨i1, rfl, B82, E82, M82⟩ := hQ82
  have D82 := D81.ext E82
  refine s_init K X82 3 at_46 rfl (hw _ (List.mem_of_getElem? (i := 12) rfl)) (hw _ (List.mem_of_getElem? (i := 13) rfl)) (hw _ (List.mem_of_getElem? (i := 4) rfl)) (hw _ (List.mem_of_getElem? (i := 14) rfl)) (by decide) pd__Ljava_lang_Object__V rfl e82 (a := b81) (argsL := [(.ref i1)]) (st := [(.ref b81), (.int (1 : Int32)), (.ref b76)]) (c_linkInit l Z a0 hw S _ b81 i1 ga1 (A81.ext E82) (f_next81.ext E82) (f_previous81.ext E82) (f_item81.ext E82)) rfl rfl (by decide) (Nat.le_of_eq rfl) (by decide) (by decide) (by decide) (q := 49) rfl (fun v83 T83 h83 L83 X83 e83 hQ83 => ?_)
  obtain ⟨rfl, k83, j83, K83, M83⟩ := hQ83
  have D83 := D82.keep K83 (fun x hx => by cases List.mem_singleton.mp hx; exact ga1)
  have V83 := ((V80.ext E81).ext E82).keep K83 (ninS (Ne.symm nb1) nin0)
  have k83_0 := ((k80_0.ext E81).ext E82).keep K83 (ninS ne0_1 nin0)
  refine s_stV K X83 at_49 e83 V83 O76 (by decide) rfl (fun y hy => by cases hy; exact Ins.self k83.1) 1 rfl (Nat.le_of_ble_eq_true rfl) (vs' := [(.ref b77), (.ref b81), .null, .null]) rfl (q := 50) rfl (fun T84 h84 X84 e84 W84 V84 => ?_)
  have D84 := D83.wr W84 gB
  have k84_0 := k83_0.other W84 nb0
  have k84_1 := k83.other W84 nb1
  refine s_aload K X84 at_50 rfl rfl (q := 52) rfl ?_
  refine s_iconst K X84 at_52 (z := 2) rfl (q := 53) rfl ?_
  refine s_new K X84 at_53 (hw _ (List.mem_of_getElem? (i := 1) rfl)) (hw _ (List.mem_of_getElem? (i := 3) rfl)) (hw _ (List.mem_of_getElem? (i := 4) rfl)) e84 (by decide) (by decide) (q := 56) rfl (fun T85 h85 b85 g85 X85 e85 E85 A85 D85' => ?_)
  have ga2 : Z.heap.size ≤ b85 := by rw [g85]; exact old_le D84
  have nb2 : b85 ≠ b76 := Nat.ne_of_gt (by rw [g85]; exact V84.lt)
  have ne0_2 : b77 ≠ b85 := Nat.ne_of_lt (by rw [g85]; exact k84_0.1.lt)
  have ne1_2 : b81 ≠ b85 := Nat.ne_of_lt (by rw [g85]; exact k84_1.1.lt)
  have D85 := D84.ext E85
  have f_next85 := D85' (Or.inl (hw _ (List.mem_of_getElem? (i := 21) rfl))) (ty := (.object "com/example/matchwright/matchwright/engine/Memory$Link")) (by decide)
  have f_previous85 := D85' (Or.inl (hw _ (List.mem_of_getElem? (i := 19) rfl))) (ty := (.object "com/example/matchwright/matchwright/engine/Memory$Link")) (by decide)
  have f_item85 := D85' (Or.inr (hw _ (List.mem_of_getElem? (i := 23) rfl))) (ty := (.object "java/lang/Object")) (by decide)
  refine s_dup K X85 at_56 rfl (q := 57) rfl ?_
  refine s_iconst K X85 at_57 (z := 2) rfl (q := 58) rfl ?_
  refine s_callS K X85 4 at_58 (hw _ (List.mem_of_getElem? (i := 5) rfl)) (hw _ (List.mem_of_getElem? (i := 6) rfl)) (hw _ (List.mem_of_getElem? (i := 7) rfl)) (hw _ (List.mem_of_getElem? (i := 8) rfl)) (by decide) pd__I_Ljava_lang_Integer_ rfl e85 (argsL := [(.int (2 : Int32))]) (st := [(.ref b85), (.ref b85), (.int (2 : Int32)), (.ref b76)]) (c_valueOf l Z a0 hw _ D85 ca cc 2 C) rfl rfl (by decide) (Nat.le_of_eq rfl) (by decide) (by decide) (by decide) (q := 61) rfl (fun v86 T86 h86 L86 X86 e86 hQ86 => ?_)
  obtain ⟨i2, rfl, B86, E86, M86⟩ := hQ86
  have D86 := D85.ext E86
  refine s_init K X86 3 at_61 rfl (hw _ (List.mem_of_getElem? (i := 12) rfl)) (hw _ (List.mem_of_getElem? (i := 13) rfl)) (hw _ (List.mem_of_getElem? (i := 4) rfl)) (hw _ (List.mem_of_getElem? (i := 14) rfl)) (by decide) pd__Ljava_lang_Object__V rfl e86 (a := b85) (argsL := [(.ref i2)]) (st := [(.ref b85), (.int (2 : Int32)), (.ref b76)]) (c_linkInit l Z a0 hw S _ b85 i2 ga2 (A85.ext E86) (f_next85.ext E86) (f_previous85.ext E86) (f_item85.ext E86)) rfl rfl (by decide) (Nat.le_of_eq rfl) (by decide) (by decide) (by decide) (q := 64) rfl (fun v87 T87 h87 L87 X87 e87 hQ87 => ?_)
  obtain ⟨rfl, k87, j87, K87, M87⟩ := hQ87
  have D87 := D86.keep K87 (fun x hx => by cases List.mem_singleton.mp hx; exact ga2)
  have V87 := ((V84.ext E85).ext E86).keep K87 (ninS (Ne.symm nb2) nin0)
  have k87_0 := ((k84_0.ext E85).ext E86).keep K87 (ninS ne0_2 nin0)
  have k87_1 := ((k84_1.ext E85).ext E86).keep K87 (ninS ne1_2 nin0)
  refine s_stV K X87 at_64 e87 V87 O76 (by decide) rfl (fun y hy => by cases hy; exact Ins.self k87.1) 2 rfl (Nat.le_of_ble_eq_true rfl) (vs' := [(.ref b77), (.ref b81), (.ref b85), .null]) rfl (q := 65) rfl (fun T88 h88 X88 e88 W88 V88 => ?_)
  have D88 := D87.wr W88 gB
  have k88_0 := k87_0.other W88 nb0
  have k88_1 := k87_1.other W88 nb1
  have k88_2 := k87.other W88 nb2
  refine s_aload K X88 at_65 rfl rfl (q := 67) rfl ?_
  refine s_iconst K X88 at_67 (z := 3) rfl (q := 68) rfl ?_
  refine s_new K X88 at_68 (hw _ (List.mem_of_getElem? (i := 1) rfl)) (hw _ (List.mem_of_getElem? (i := 3) rfl)) (hw _ (List.mem_of_getElem? (i := 4) rfl)) e88 (by decide) (by decide) (q := 71) rfl (fun T89 h89 b89 g89 X89 e89 E89 A89 D89' => ?_)
  have ga3 : Z.heap.size ≤ b89 := by rw [g89]; exact old_le D88
  have nb3 : b89 ≠ b76 := Nat.ne_of_gt (by rw [g89]; exact V88.lt)
  have ne0_3 : b77 ≠ b89 := Nat.ne_of_lt (by rw [g89]; exact k88_0.1.lt)
  have ne1_3 : b81 ≠ b89 := Nat.ne_of_lt (by rw [g89]; exact k88_1.1.lt)
  have ne2_3 : b85 ≠ b89 := Nat.ne_of_lt (by rw [g89]; exact k88_2.1.lt)
  have D89 := D88.ext E89
  have f_next89 := D89' (Or.inl (hw _ (List.mem_of_getElem? (i := 21) rfl))) (ty := (.object "com/example/matchwright/matchwright/engine/Memory$Link")) (by decide)
  have f_previous89 := D89' (Or.inl (hw _ (List.mem_of_getElem? (i := 19) rfl))) (ty := (.object "com/example/matchwright/matchwright/engine/Memory$Link")) (by decide)
  have f_item89 := D89' (Or.inr (hw _ (List.mem_of_getElem? (i := 23) rfl))) (ty := (.object "java/lang/Object")) (by decide)
  refine s_dup K X89 at_71 rfl (q := 72) rfl ?_
  refine s_iconst K X89 at_72 (z := 3) rfl (q := 73) rfl ?_
  refine s_callS K X89 4 at_73 (hw _ (List.mem_of_getElem? (i := 5) rfl)) (hw _ (List.mem_of_getElem? (i := 6) rfl)) (hw _ (List.mem_of_getElem? (i := 7) rfl)) (hw _ (List.mem_of_getElem? (i := 8) rfl)) (by decide) pd__I_Ljava_lang_Integer_ rfl e89 (argsL := [(.int (3 : Int32))]) (st := [(.ref b89), (.ref b89), (.int (3 : Int32)), (.ref b76)]) (c_valueOf l Z a0 hw _ D89 ca cc 3 C) rfl rfl (by decide) (Nat.le_of_eq rfl) (by decide) (by decide) (by decide) (q := 76) rfl (fun v90 T90 h90 L90 X90 e90 hQ90 => ?_)
  obtain ⟨i3, rfl, B90, E90, M90⟩ := hQ90
  have D90 := D89.ext E90
  refine s_init K X90 3 at_76 rfl (hw _ (List.mem_of_getElem? (i := 12) rfl)) (hw _ (List.mem_of_getElem? (i := 13) rfl)) (hw _ (List.mem_of_getElem? (i := 4) rfl)) (hw _ (List.mem_of_getElem? (i := 14) rfl)) (by decide) pd__Ljava_lang_Object__V rfl e90 (a := b89) (argsL := [(.ref i3)]) (st := [(.ref b89), (.int (3 : Int32)), (.ref b76)]) (c_linkInit l Z a0 hw S _ b89 i3 ga3 (A89.ext E90) (f_next89.ext E90) (f_previous89.ext E90) (f_item89.ext E90)) rfl rfl (by decide) (Nat.le_of_eq rfl) (by decide) (by decide) (by decide) (q := 79) rfl (fun v91 T91 h91 L91 X91 e91 hQ91 => ?_)
  obtain ⟨rfl, k91, j91, K91, M91⟩ := hQ91
  have D91 := D90.keep K91 (fun x hx => by cases List.mem_singleton.mp hx; exact ga3)
  have V91 := ((V88.ext E89).ext E90).keep K91 (ninS (Ne.symm nb3) nin0)
  have k91_0 := ((k88_0.ext E89).ext E90).keep K91 (ninS ne0_3 nin0)
  have k91_1 := ((k88_1.ext E89).ext E90).keep K91 (ninS ne1_3 nin0)
  have k91_2 := ((k88_2.ext E89).ext E90).keep K91 (ninS ne2_3 nin0)
  refine s_stV K X91 at_79 e91 V91 O76 (by decide) rfl (fun y hy => by cases hy; exact Ins.self k91.1) 3 rfl (Nat.le_of_ble_eq_true rfl) (vs' := [(.ref b77), (.ref b81), (.ref b85), (.ref b89)]) rfl (q := 80) rfl (fun T92 h92 X92 e92 W92 V92 => ?_)
  have D92 := D91.wr W92 gB
  have k92_0 := k91_0.other W92 nb0
  have k92_1 := k91_1.other W92 nb1
  have k92_2 := k91_2.other W92 nb2
  have k92_3 := k91.other W92 nb3
  refine s_new K X92 at_80 (hw _ (List.mem_of_getElem? (i := 1) rfl)) (hw _ (List.mem_of_getElem? (i := 3) rfl)) (hw _ (List.mem_of_getElem? (i := 4) rfl)) e92 (by decide) (by decide) (q := 83) rfl (fun T93 h93 b93 g93 X93 e93 E93 A93 D93' => ?_)
  have ga4 : Z.heap.size ≤ b93 := by rw [g93]; exact old_le D92
  have nb4 : b93 ≠ b76 := Nat.ne_of_gt (by rw [g93]; exact V92.lt)
  have ne0_4 : b77 ≠ b93 := Nat.ne_of_lt (by rw [g93]; exact k92_0.1.lt)
  have ne1_4 : b81 ≠ b93 := Nat.ne_of_lt (by rw [g93]; exact k92_1.1.lt)
  have ne2_4 : b85 ≠ b93 := Nat.ne_of_lt (by rw [g93]; exact k92_2.1.lt)
  have ne3_4 : b89 ≠ b93 := Nat.ne_of_lt (by rw [g93]; exact k92_3.1.lt)
  have D93 := D92.ext E93
  have f_next93 := D93' (Or.inl (hw _ (List.mem_of_getElem? (i := 21) rfl))) (ty := (.object "com/example/matchwright/matchwright/engine/Memory$Link")) (by decide)
  have f_previous93 := D93' (Or.inl (hw _ (List.mem_of_getElem? (i := 19) rfl))) (ty := (.object "com/example/matchwright/matchwright/engine/Memory$Link")) (by decide)
  have f_item93 := D93' (Or.inr (hw _ (List.mem_of_getElem? (i := 23) rfl))) (ty := (.object "java/lang/Object")) (by decide)
  refine s_dup K X93 at_83 rfl (q := 84) rfl ?_
  refine s_iloadN K X93 at_84 rfl (q := 85) rfl ?_
  refine s_callS K X93 2 at_85 (hw _ (List.mem_of_getElem? (i := 5) rfl)) (hw _ (List.mem_of_getElem? (i := 6) rfl)) (hw _ (List.mem_of_getElem? (i := 7) rfl)) (hw _ (List.mem_of_getElem? (i := 8) rfl)) (by decide) pd__I_Ljava_lang_Integer_ rfl e93 (argsL := [(.int v0)]) (st := [(.ref b93), (.ref b93)]) (c_valueOf l Z a0 hw _ D93 ca cc v0 C) rfl rfl (by decide) (Nat.le_of_eq rfl) (by decide) (by decide) (by decide) (q := 88) rfl (fun v94 T94 h94 L94 X94 e94 hQ94 => ?_)
  obtain ⟨i4, rfl, B94, E94, M94⟩ := hQ94
  have D94 := D93.ext E94
  refine s_init K X94 1 at_88 rfl (hw _ (List.mem_of_getElem? (i := 12) rfl)) (hw _ (List.mem_of_getElem? (i := 13) rfl)) (hw _ (List.mem_of_getElem? (i := 4) rfl)) (hw _ (List.mem_of_getElem? (i := 14) rfl)) (by decide) pd__Ljava_lang_Object__V rfl e94 (a := b93) (argsL := [(.ref i4)]) (st := [(.ref b93)]) (c_linkInit l Z a0 hw S _ b93 i4 ga4 (A93.ext E94) (f_next93.ext E94) (f_previous93.ext E94) (f_item93.ext E94)) rfl rfl (by decide) (Nat.le_of_eq rfl) (by decide) (by decide) (by decide) (q := 91) rfl (fun v95 T95 h95 L95 X95 e95 hQ95 => ?_)
  obtain ⟨rfl, k95, j95, K95, M95⟩ := hQ95
  have D95 := D94.keep K95 (fun x hx => by cases List.mem_singleton.mp hx; exact ga4)
  have V95 := ((V92.ext E93).ext E94).keep K95 (ninS (Ne.symm nb4) nin0)
  have k95_0 := ((k92_0.ext E93).ext E94).keep K95 (ninS ne0_4 nin0)
  have k95_1 := ((k92_1.ext E93).ext E94).keep K95 (ninS ne1_4 nin0)
  have k95_2 := ((k92_2.ext E93).ext E94).keep K95 (ninS ne2_4 nin0)
  have k95_3 := ((k92_3.ext E93).ext E94).keep K95 (ninS ne3_4 nin0)
  refine s_astore K X95 at_91 rfl (l' := #[.val (.int p1), .val (.int p2), .val (.int v0), .val (.int n), .val (.int k), .val (.ref b76), .val (.ref b93), .unset, .unset, .unset]) rfl (q := 93) rfl ?_
  obtain ⟨F, P⟩ : Inv Z _ b76 k76 [b77, b81, b85, b89, b93] [0, 1, 2, 3, 4] [0, 1, 2, 3, 4] i4 v0 ∧ Sep Z b76 [b77, b81, b85, b89, b93] := by
    refine ⟨⟨fun i hi => ?_, V95, j95, (B94.keep K95 (ninS (own_ne B94 (A93.ext E94)) nin0)), D95⟩, fun i j hi hj e => ?_, fun i hi => ?_⟩
    · match i, hi with
      | 0, _ => exact k95_0
      | 1, _ => exact k95_1
      | 2, _ => exact k95_2
      | 3, _ => exact k95_3
      | 4, _ => exact k95
    · match i, j, hi, hj, e with
      | 0, 0, _, _, _ => rfl
      | 0, 1, _, _, e => exact absurd e ne0_1
      | 0, 2, _, _, e => exact absurd e ne0_2
      | 0, 3, _, _, e => exact absurd e ne0_3
      | 0, 4, _, _, e => exact absurd e ne0_4
      | 1, 0, _, _, e => exact absurd e.symm ne0_1
      | 1, 1, _, _, _ => rfl
      | 1, 2, _, _, e => exact absurd e ne1_2
      | 1, 3, _, _, e => exact absurd e ne1_3
      | 1, 4, _, _, e => exact absurd e ne1_4
      | 2, 0, _, _, e => exact absurd e.symm ne0_2
      | 2, 1, _, _, e => exact absurd e.symm ne1_2
      | 2, 2, _, _, _ => rfl
      | 2, 3, _, _, e => exact absurd e ne2_3
      | 2, 4, _, _, e => exact absurd e ne2_4
      | 3, 0, _, _, e => exact absurd e.symm ne0_3
      | 3, 1, _, _, e => exact absurd e.symm ne1_3
      | 3, 2, _, _, e => exact absurd e.symm ne2_3
      | 3, 3, _, _, _ => rfl
      | 3, 4, _, _, e => exact absurd e ne3_4
      | 4, 0, _, _, e => exact absurd e.symm ne0_4
      | 4, 1, _, _, e => exact absurd e.symm ne1_4
      | 4, 2, _, _, e => exact absurd e.symm ne2_4
      | 4, 3, _, _, e => exact absurd e.symm ne3_4
      | 4, 4, _, _, _ => rfl
    · match i, hi with
      | 0, _ => exact ⟨ga0, nb0⟩
      | 1, _ => exact ⟨ga1, nb1⟩
      | 2, _ => exact ⟨ga2, nb2⟩
      | 3, _ => exact ⟨ga3, nb3⟩
      | 4, _ => exact ⟨ga4, nb4⟩
  rcases hc with ⟨rfl, rfl⟩ | ⟨rfl, rfl⟩ | ⟨rfl, rfl⟩ | ⟨rfl, rfl⟩ | ⟨rfl, rfl⟩ | ⟨rfl, rfl⟩ | ⟨rfl, rfl⟩ | ⟨rfl, rfl⟩ | ⟨rfl, rfl⟩ | ⟨rfl, rfl⟩
  ·
    refine c_tail_1_0 l Z a0 hw S K X95 b76 k76 b77 b81 b85 b89 b93 i4 v0 p1 p2 e95 P F (Fr.app (Fr.app (Fr.app (Fr.app (Fr.app (Fr.app (Fr.app (Fr.app (Fr.app (Fr.app (Fr.app (Fr.app (Fr.app (Fr.app (Fr.nil _) M78) M79) (fr_one gB)) M82) M83) (fr_one gB)) M86) M87) (fr_one gB)) M90) M91) (fr_one gB)) M94) M95)
  ·
    refine c_tail_2_0 l Z a0 hw S K X95 b76 k76 b77 b81 b85 b89 b93 i4 v0 p1 p2 e95 P F (Fr.app (Fr.app (Fr.app (Fr.app (Fr.app (Fr.app (Fr.app (Fr.app (Fr.app (Fr.app (Fr.app (Fr.app (Fr.app (Fr.app (Fr.nil _) M78) M79) (fr_one gB)) M82) M83) (fr_one gB)) M86) M87) (fr_one gB)) M90) M91) (fr_one gB)) M94) M95)
  ·
    refine c_tail_2_1 l Z a0 hw S K X95 b76 k76 b77 b81 b85 b89 b93 i4 v0 p1 p2 e95 P F (Fr.app (Fr.app (Fr.app (Fr.app (Fr.app (Fr.app (Fr.app (Fr.app (Fr.app (Fr.app (Fr.app (Fr.app (Fr.app (Fr.app (Fr.nil _) M78) M79) (fr_one gB)) M82) M83) (fr_one gB)) M86) M87) (fr_one gB)) M90) M91) (fr_one gB)) M94) M95)
  ·
    refine c_tail_3_0 l Z a0 hw S K X95 b76 k76 b77 b81 b85 b89 b93 i4 v0 p1 p2 e95 P F (Fr.app (Fr.app (Fr.app (Fr.app (Fr.app (Fr.app (Fr.app (Fr.app (Fr.app (Fr.app (Fr.app (Fr.app (Fr.app (Fr.app (Fr.nil _) M78) M79) (fr_one gB)) M82) M83) (fr_one gB)) M86) M87) (fr_one gB)) M90) M91) (fr_one gB)) M94) M95)
  ·
    refine c_tail_3_1 l Z a0 hw S K X95 b76 k76 b77 b81 b85 b89 b93 i4 v0 p1 p2 e95 P F (Fr.app (Fr.app (Fr.app (Fr.app (Fr.app (Fr.app (Fr.app (Fr.app (Fr.app (Fr.app (Fr.app (Fr.app (Fr.app (Fr.app (Fr.nil _) M78) M79) (fr_one gB)) M82) M83) (fr_one gB)) M86) M87) (fr_one gB)) M90) M91) (fr_one gB)) M94) M95)
  ·
    refine c_tail_3_2 l Z a0 hw S K X95 b76 k76 b77 b81 b85 b89 b93 i4 v0 p1 p2 e95 P F (Fr.app (Fr.app (Fr.app (Fr.app (Fr.app (Fr.app (Fr.app (Fr.app (Fr.app (Fr.app (Fr.app (Fr.app (Fr.app (Fr.app (Fr.nil _) M78) M79) (fr_one gB)) M82) M83) (fr_one gB)) M86) M87) (fr_one gB)) M90) M91) (fr_one gB)) M94) M95)
  ·
    refine c_tail_4_0 l Z a0 hw S K X95 b76 k76 b77 b81 b85 b89 b93 i4 v0 p1 p2 e95 P F (Fr.app (Fr.app (Fr.app (Fr.app (Fr.app (Fr.app (Fr.app (Fr.app (Fr.app (Fr.app (Fr.app (Fr.app (Fr.app (Fr.app (Fr.nil _) M78) M79) (fr_one gB)) M82) M83) (fr_one gB)) M86) M87) (fr_one gB)) M90) M91) (fr_one gB)) M94) M95)
  ·
    refine c_tail_4_1 l Z a0 hw S K X95 b76 k76 b77 b81 b85 b89 b93 i4 v0 p1 p2 e95 P F (Fr.app (Fr.app (Fr.app (Fr.app (Fr.app (Fr.app (Fr.app (Fr.app (Fr.app (Fr.app (Fr.app (Fr.app (Fr.app (Fr.app (Fr.nil _) M78) M79) (fr_one gB)) M82) M83) (fr_one gB)) M86) M87) (fr_one gB)) M90) M91) (fr_one gB)) M94) M95)
  ·
    refine c_tail_4_2 l Z a0 hw S K X95 b76 k76 b77 b81 b85 b89 b93 i4 v0 p1 p2 e95 P F (Fr.app (Fr.app (Fr.app (Fr.app (Fr.app (Fr.app (Fr.app (Fr.app (Fr.app (Fr.app (Fr.app (Fr.app (Fr.app (Fr.app (Fr.nil _) M78) M79) (fr_one gB)) M82) M83) (fr_one gB)) M86) M87) (fr_one gB)) M90) M91) (fr_one gB)) M94) M95)
  ·
    refine c_tail_4_3 l Z a0 hw S K X95 b76 k76 b77 b81 b85 b89 b93 i4 v0 p1 p2 e95 P F (Fr.app (Fr.app (Fr.app (Fr.app (Fr.app (Fr.app (Fr.app (Fr.app (Fr.app (Fr.app (Fr.app (Fr.app (Fr.app (Fr.app (Fr.nil _) M78) M79) (fr_one gB)) M82) M83) (fr_one gB)) M86) M87) (fr_one gB)) M90) M91) (fr_one gB)) M94) M95)
theorem own_nk (p1 p2 : Int32) : ∃ n k : Int32, (p1 &&& (3 : Int32)) + (1 : Int32) = n ∧ n ≠ 0 ∧ (p2 &&& (2147483647 : Int32)) % n = k ∧ ((n = 1 ∧ k = 0) ∨ (n = 2 ∧ k = 0) ∨ (n = 2 ∧ k = 1) ∨ (n = 3 ∧ k = 0) ∨ (n = 3 ∧ k = 1) ∨ (n = 3 ∧ k = 2) ∨ (n = 4 ∧ k = 0) ∨ (n = 4 ∧ k = 1) ∨ (n = 4 ∧ k = 2) ∨ (n = 4 ∧ k = 3)) := by
  have h1 := c_mask p1 3 2 (by decide) (by decide)
  have h2 := c_iadd (p1 &&& 3) 1
  have h3 := rng32 ((p1 &&& 3) + 1)
  have e1 : (1 : Int32).toInt = 1 := rfl
  have h4 := (c_and p2 (2147483647 : Int32) (by decide)).1
  refine ⟨_, _, rfl, ?_, rfl, ?_⟩
  · intro z
    rw [z] at h2
    have e0 : (0 : Int32).toInt = 0 := rfl
    omega
  · generalize (p1 &&& 3) + 1 = n at *
    have hn : n.toInt = 1 ∨ n.toInt = 2 ∨ n.toInt = 3 ∨ n.toInt = 4 := by omega
    have h5 := (c_iremV (p2 &&& (2147483647 : Int32)) n).1 h4 (by omega)
    generalize (p2 &&& (2147483647 : Int32)) % n = k at *
    have big : (n.toInt = 1 ∧ k.toInt = 0) ∨ (n.toInt = 2 ∧ k.toInt = 0) ∨ (n.toInt = 2 ∧ k.toInt = 1) ∨ (n.toInt = 3 ∧ k.toInt = 0) ∨ (n.toInt = 3 ∧ k.toInt = 1) ∨ (n.toInt = 3 ∧ k.toInt = 2) ∨ (n.toInt = 4 ∧ k.toInt = 0) ∨ (n.toInt = 4 ∧ k.toInt = 1) ∨ (n.toInt = 4 ∧ k.toInt = 2) ∨ (n.toInt = 4 ∧ k.toInt = 3) := by omega
    rcases big with ⟨q1, q2⟩ | ⟨q1, q2⟩ | ⟨q1, q2⟩ | ⟨q1, q2⟩ | ⟨q1, q2⟩ | ⟨q1, q2⟩ | ⟨q1, q2⟩ | ⟨q1, q2⟩ | ⟨q1, q2⟩ | ⟨q1, q2⟩
    · obtain rfl : n = 1 := Int32.toInt_inj.mp q1
      obtain rfl : k = 0 := Int32.toInt_inj.mp q2
      decide
    · obtain rfl : n = 2 := Int32.toInt_inj.mp q1
      obtain rfl : k = 0 := Int32.toInt_inj.mp q2
      decide
    · obtain rfl : n = 2 := Int32.toInt_inj.mp q1
      obtain rfl : k = 1 := Int32.toInt_inj.mp q2
      decide
    · obtain rfl : n = 3 := Int32.toInt_inj.mp q1
      obtain rfl : k = 0 := Int32.toInt_inj.mp q2
      decide
    · obtain rfl : n = 3 := Int32.toInt_inj.mp q1
      obtain rfl : k = 1 := Int32.toInt_inj.mp q2
      decide
    · obtain rfl : n = 3 := Int32.toInt_inj.mp q1
      obtain rfl : k = 2 := Int32.toInt_inj.mp q2
      decide
    · obtain rfl : n = 4 := Int32.toInt_inj.mp q1
      obtain rfl : k = 0 := Int32.toInt_inj.mp q2
      decide
    · obtain rfl : n = 4 := Int32.toInt_inj.mp q1
      obtain rfl : k = 1 := Int32.toInt_inj.mp q2
      decide
    · obtain rfl : n = 4 := Int32.toInt_inj.mp q1
      obtain rfl : k = 2 := Int32.toInt_inj.mp q2
      decide
    · obtain rfl : n = 4 := Int32.toInt_inj.mp q1
      obtain rfl : k = 3 := Int32.toInt_inj.mp q2
      decide
set_option maxRecDepth 65536 in
set_option maxHeartbeats 40000000 in
theorem comes_1 {Post : Tables → Env → Array Value → State → Outcome → State → Prop} (hpost : ∀ tb e args s v u, (limb_1_1.after args s (.returned v) u = true ∧ limb_1_2.after args s (.returned v) u = true ∧ True) → FrameEnd s (.returned v) u (Jvm.fieldLocs frame_1_writes args s ++ Jvm.arrayLocs frame_1_arrays args s ++ Jvm.staticLocs frame_1_statics s) 24 128 → Post tb e args s (.returned v) u) :
    ArmFor flags0 classFile x code maxLocals ret World_1 tables_1 room_1 Calls_1 rest_1 Pre_1 Post := by
  intro l hfl _ _ p e ha hc hk s m args below hf hA hF happ hP
  obtain ⟨hcalls, hrest, hpre⟩ := hP
  obtain ⟨-, -, -, hnamed, -, -, -, hat⟩ := (Spec.applies_iff hf).mp happ
  obtain ⟨hg, hn⟩ := and_e (Cond.before_iff.mp (show (Jvm.Cond.and given_1 narrow_1).before args s = true from hpre))
  obtain ⟨h1, h2⟩ := and_e hg
  obtain ⟨h3, h4⟩ := and_e h2
  obtain ⟨h4, h5⟩ := and_e h4
  obtain ⟨w0, w1, w2, rfl⟩ : ∃ w0 w1 w2 : Value, args = #[w0, w1, w2] := by
    have hs : args.size = 3 := by simpa [Cond.value, given_1] using h1
    obtain ⟨L⟩ := args
    match L, hs with
    | [w0, w1, w2], _ => exact ⟨w0, w1, w2, rfl⟩
  have hw := fun d (hd : d ∈ tables_1) => atoms_spec (ws := Jvm.Cond.code x code maxLocals ret :: tables_1) hat d (List.mem_cons_of_mem _ hd)
  have hsets := (atoms_of (args := #[w0, w1, w2]) (s := s) jdkStatics_1 (by rw [← rest_1_c_eq]; exact hrest)).1
  obtain ⟨i3, e3⟩ := is_v h3
  obtain rfl : w0 = (.int i3) := Option.some.inj e3
  obtain ⟨i4, e4⟩ := is_v h4
  obtain rfl : w1 = (.int i4) := Option.some.inj e4
  obtain ⟨i5, e5⟩ := is_v h5
  obtain rfl : w2 = (.int i5) := Option.some.inj e5
  obtain ⟨ca, cc, C⟩ := cache_start (hsets _ (List.mem_of_getElem? (i := 0) rfl)) (hsets _ (List.mem_of_getElem? (i := 2) rfl)) (hw _ (List.mem_of_getElem? (i := 10) rfl)) (hsets _ (List.mem_of_getElem? (i := 3) rfl)) (hsets _ (List.mem_of_getElem? (i := 4) rfl)) (hsets _ (List.mem_of_getElem? (i := 6) rfl)) (hsets _ (List.mem_of_getElem? (i := 7) rfl))
  obtain ⟨n, k, q1, q2, q3, q4⟩ := own_nk i3 i4
  have C := c_law l s _ hw i3 i4 i5 n k ca cc (own_slots s _ hw) C q1 q2 q3 q4
  obtain ⟨n, o, h1, h2, h3, _, L, rfl, ⟨rfl, N⟩, hq⟩ := C tables_1 p e ha hc hk s m _ below hf ((Spec.applies_iff_loose hf).mp happ).1 ⟨rfl, State.Warmed39.refl s, rfl⟩ trivial
  refine ⟨n, _, h1, h2, h3, hpost _ _ _ _ _ _ ⟨Cond.after_iff.mpr rfl, Cond.after_iff.mpr (eq_i res_at (Term.int_eval (1)) rfl), trivial⟩ ⟨hq.1, hq.2.1, (hq.2.2.sift fun y hy => Or.inr (N y hy)).mono (by decide) (by decide)⟩⟩
theorem main_1_1 : Claimed_1_1 := comes_1 fun _ _ _ _ _ _ h hF => ⟨h.1, hF⟩
theorem main_1_2 : Claimed_1_2 := comes_1 fun _ _ _ _ _ _ h hF => ⟨h.2.1, hF⟩
end Jvm.Pilot.@@N@@
namespace Jvm.Pilot.@@N@@
open Jvm Jvm.ClassFile Sem Op Lib Jvm.Free Jvm.Stand Jvm.Pilot.@@N@@.Jvm.D
/-! MADE BY PROGRAM (witnessworld.py) out of the Statement's table words and the real class files: 15 classes; the members and pool entries that the words name. The judged class is class 1, her method 1. -/
namespace start1
open Jvm.ClassFile
def u (s : String) : CpInfo := .utf8 (stringToUtf16 s)
/-- a pool by its gaps: so many unusable entries, then the entry; so many at the end -/
def gap : Nat → List CpInfo → List CpInfo
  | 0, r => r
  | n + 1, r => .unusable :: gap n r
def poolList (es : List (Nat × CpInfo)) (last : Nat) : List CpInfo := es.foldr (fun e r => gap e.1 (e.2 :: r)) (gap last [])
def pool (es : List (Nat × CpInfo)) (last : Nat) : Array CpInfo := ⟨poolList es last⟩
def fileOf (pool : Array CpInfo) (this : Nat) (attrs : Array Attribute := #[]) (ms : Array MethodInfo := #[]) (fl : Nat := 33) (sup : Nat := 0) (ifs : Array Nat := #[]) (fds : Array FieldInfo := #[]) : ClassFile where
  minorVersion := 0
  majorVersion := 65
  constantPool := pool
  accessFlags := fl
  thisClass := this
  superClass := sup
  interfaces := ifs
  fields := fds
  methods := ms
  attributes := attrs
def plain (name : String) (sup : Option ClassId) : Class where
  name := name
  kind := .ordinary
  loader := none
  accessFlags := 33
  super := sup
  interfaces := #[]
  cf := none
  fields := #[]
  methods := #[]
  instanceTypes := #[]
  staticTypes := #[]
  resolved := #[]
  callSites := []
  init := .initialized
  statics := none
  mirror := none

def pool0 : Array CpInfo := pool [(5, u "<init>"), (0, u "()V"), (1, .class_ 10), (1, u "java/lang/Object")] 113

def k0c0 : Code := { maxStack := 0, maxLocals := 1, code := object_method_1_code, exceptionTable := #[], attributes := #[] }
def k0m0 : Method := { name := "<init>", desc := "()V", sig := { parameters := [], returnType := none }, accessFlags := 1, code := some k0c0 }
/-- java/lang/Object -/
def k0 : Class := { plain "java/lang/Object" none with
  accessFlags := 33
  interfaces := #[]
  cf := some (fileOf pool0 8 #[] #[{ accessFlags := 1, nameIndex := 5, descriptorIndex := 6, attributes := #[] }] 33 0 #[] #[])
  fields := #[]
  methods := #[k0m0]
  instanceTypes := #[]
  staticTypes := #[]
  resolved := Array.replicate 124 none
  statics := none }

def pool1 : Array CpInfo := pool [(2, .class_ 4), (1, u "java/lang/Object"), (0, u "<init>"), (0, u "()V"), (0, .integer 2147483647), (0, .class_ 9), (0, u "com/example/matchwright/matchwright/engine/Memory$Link"), (0, .methodref 11 12), (0, .class_ 13), (0, .nameAndType 14 15), (0, u "java/lang/Integer"), (0, u "valueOf"), (0, u "(I)Ljava/lang/Integer;"), (0, .methodref 8 17), (0, .nameAndType 5 18), (0, u "(Ljava/lang/Object;)V"), (0, .methodref 20 21), (0, .class_ 22), (0, .nameAndType 23 24), (0, u "com/example/matchwright/matchwright/engine/LinkLinkBeforePinLaw"), (0, u "ring"), (0, u "([Lcom/example/matchwright/matchwright/engine/Memory$Link;II)V"), (0, .methodref 8 26), (0, .nameAndType 27 28), (0, u "linkBefore"), (0, u "(Lcom/example/matchwright/matchwright/engine/Memory$Link;)V"), (0, .methodref 20 30), (0, .nameAndType 31 32), (0, u "at"), (0, u "([Lcom/example/matchwright/matchwright/engine/Memory$Link;Lcom/example/matchwright/matchwright/engine/Memory$Link;II)Lcom/example/matchwright/matchwright/engine/Memory$Link;"), (0, .methodref 8 34), (0, .nameAndType 35 36), (0, u "item"), (0, u "()Ljava/lang/Object;"), (0, .methodref 11 38), (0, .nameAndType 39 40), (0, u "intValue"), (0, u "()I"), (0, .methodref 20 42), (0, .nameAndType 43 44), (0, u "check"), (0, u "([Lcom/example/matchwright/matchwright/engine/Memory$Link;II)Z"), (0, .methodref 20 46), (0, .nameAndType 47 44), (0, u "alone"), (0, .fieldref 8 49), (0, .nameAndType 50 51), (0, u "next"), (0, u "Lcom/example/matchwright/matchwright/engine/Memory$Link;"), (0, .fieldref 8 53), (0, .nameAndType 54 51), (0, u "previous"), (2, u "law"), (0, u "(III)Z")] 13

def k1m0 : Method := { name := "<init>", desc := "()V", sig := { parameters := [], returnType := none }, accessFlags := 2, code := none }
def k1c1 : Code := { maxStack := 6, maxLocals := 10, code := code, exceptionTable := #[], attributes := #[] }
def k1m1 : Method := { name := "law", desc := "(III)Z", sig := { parameters := [.int, .int, .int], returnType := some .boolean }, accessFlags := 9, code := some k1c1 }
def k1c2 : Code := { maxStack := 4, maxLocals := 3, code := method_3_code, exceptionTable := #[], attributes := #[] }
def k1m2 : Method := { name := "ring", desc := "([Lcom/example/matchwright/matchwright/engine/Memory$Link;II)V", sig := { parameters := [(.array (.object "com/example/matchwright/matchwright/engine/Memory$Link")), .int, .int], returnType := none }, accessFlags := 10, code := some k1c2 }
def k1c3 : Code := { maxStack := 3, maxLocals := 4, code := method_4_code, exceptionTable := #[], attributes := #[] }
def k1m3 : Method := { name := "at", desc := "([Lcom/example/matchwright/matchwright/engine/Memory$Link;Lcom/example/matchwright/matchwright/engine/Memory$Link;II)Lcom/example/matchwright/matchwright/engine/Memory$Link;", sig := { parameters := [(.array (.object "com/example/matchwright/matchwright/engine/Memory$Link")), (.object "com/example/matchwright/matchwright/engine/Memory$Link"), .int, .int], returnType := some (.object "com/example/matchwright/matchwright/engine/Memory$Link") }, accessFlags := 10, code := some k1c3 }
def k1c4 : Code := { maxStack := 4, maxLocals := 3, code := method_5_code, exceptionTable := #[], attributes := #[] }
def k1m4 : Method := { name := "check", desc := "([Lcom/example/matchwright/matchwright/engine/Memory$Link;II)Z", sig := { parameters := [(.array (.object "com/example/matchwright/matchwright/engine/Memory$Link")), .int, .int], returnType := some .boolean }, accessFlags := 10, code := some k1c4 }
def k1c5 : Code := { maxStack := 3, maxLocals := 3, code := method_6_code, exceptionTable := #[], attributes := #[] }
def k1m5 : Method := { name := "alone", desc := "([Lcom/example/matchwright/matchwright/engine/Memory$Link;II)Z", sig := { parameters := [(.array (.object "com/example/matchwright/matchwright/engine/Memory$Link")), .int, .int], returnType := some .boolean }, accessFlags := 10, code := some k1c5 }
/-- com/example/matchwright/matchwright/engine/LinkLinkBeforePinLaw -/
def k1 : Class := { plain "com/example/matchwright/matchwright/engine/LinkLinkBeforePinLaw" (some 0) with
  accessFlags := 49
  interfaces := #[]
  cf := some (fileOf pool1 20 #[] #[{ accessFlags := 2, nameIndex := 5, descriptorIndex := 6, attributes := #[] }, { accessFlags := 9, nameIndex := 57, descriptorIndex := 58, attributes := #[] }, { accessFlags := 10, nameIndex := 23, descriptorIndex := 24, attributes := #[] }, { accessFlags := 10, nameIndex := 31, descriptorIndex := 32, attributes := #[] }, { accessFlags := 10, nameIndex := 43, descriptorIndex := 44, attributes := #[] }, { accessFlags := 10, nameIndex := 47, descriptorIndex := 44, attributes := #[] }] 49 2 #[] #[])
  fields := #[]
  methods := #[k1m0, k1m1, k1m2, k1m3, k1m4, k1m5]
  instanceTypes := #[]
  staticTypes := #[]
  resolved := Array.replicate 72 none
  statics := none }

def pool2 : Array CpInfo := pool [(1, .methodref 2 3), (0, .class_ 4), (0, .nameAndType 5 6), (0, u "java/lang/Object"), (0, u "<init>"), (0, u "()V"), (0, .fieldref 8 9), (0, .class_ 10), (0, .nameAndType 11 12), (0, u "com/example/matchwright/matchwright/engine/Memory$Link"), (0, u "previous"), (0, u "Lcom/example/matchwright/matchwright/engine/Memory$Link;"), (0, .fieldref 8 14), (0, .nameAndType 15 12), (0, u "next"), (0, .fieldref 8 17), (0, .nameAndType 18 19), (0, u "item"), (0, u "Ljava/lang/Object;"), (2, u "linkBefore"), (0, u "(Lcom/example/matchwright/matchwright/engine/Memory$Link;)V"), (3, u "(Ljava/lang/Object;)V"), (3, u "()Ljava/lang/Object;"), (12, .class_ 45), (0, u "com/example/matchwright/matchwright/engine/Memory")] 5

def k2c0 : Code := { maxStack := 2, maxLocals := 2, code := prog_51_method_1_code, exceptionTable := #[], attributes := #[] }
def k2m0 : Method := { name := "<init>", desc := "(Ljava/lang/Object;)V", sig := { parameters := [(.object "java/lang/Object")], returnType := none }, accessFlags := 0, code := some k2c0 }
def k2c1 : Code := { maxStack := 1, maxLocals := 1, code := prog_51_method_2_code, exceptionTable := #[], attributes := #[] }
def k2m1 : Method := { name := "item", desc := "()Ljava/lang/Object;", sig := { parameters := [], returnType := some (.object "java/lang/Object") }, accessFlags := 0, code := some k2c1 }
def k2c2 : Code := { maxStack := 2, maxLocals := 2, code := prog_51_method_5_code, exceptionTable := #[], attributes := #[] }
def k2m2 : Method := { name := "linkBefore", desc := "(Lcom/example/matchwright/matchwright/engine/Memory$Link;)V", sig := { parameters := [(.object "com/example/matchwright/matchwright/engine/Memory$Link")], returnType := none }, accessFlags := 0, code := some k2c2 }
/-- com/example/matchwright/matchwright/engine/Memory$Link -/
def k2 : Class := { plain "com/example/matchwright/matchwright/engine/Memory$Link" (some 0) with
  accessFlags := 32
  interfaces := #[]
  cf := some (fileOf pool2 8 #[.nestHost 44] #[{ accessFlags := 0, nameIndex := 5, descriptorIndex := 27, attributes := #[] }, { accessFlags := 0, nameIndex := 18, descriptorIndex := 31, attributes := #[] }, { accessFlags := 0, nameIndex := 22, descriptorIndex := 23, attributes := #[] }] 32 2 #[] #[{ accessFlags := 18, nameIndex := 18, descriptorIndex := 19, attributes := #[] }, { accessFlags := 0, nameIndex := 11, descriptorIndex := 12, attributes := #[] }, { accessFlags := 0, nameIndex := 15, descriptorIndex := 12, attributes := #[] }])
  fields := #[{ name := "item", type := (.object "java/lang/Object"), accessFlags := 18, slot := 0, constantValue := 0 }, { name := "previous", type := (.object "com/example/matchwright/matchwright/engine/Memory$Link"), accessFlags := 0, slot := 1, constantValue := 0 }, { name := "next", type := (.object "com/example/matchwright/matchwright/engine/Memory$Link"), accessFlags := 0, slot := 2, constantValue := 0 }]
  methods := #[k2m0, k2m1, k2m2]
  instanceTypes := #[(.object "java/lang/Object"), (.object "com/example/matchwright/matchwright/engine/Memory$Link"), (.object "com/example/matchwright/matchwright/engine/Memory$Link")]
  staticTypes := #[]
  resolved := Array.replicate 51 none
  statics := none }

def pool3 : Array CpInfo := pool [(1, .class_ 2), (0, u "java/io/Serializable"), (0, .class_ 4), (0, u "java/lang/Object")] 2

/-- java/io/Serializable -/
def k3 : Class := { plain "java/io/Serializable" (some 0) with
  accessFlags := 1537
  interfaces := #[]
  cf := some (fileOf pool3 1 #[] #[] 1537 3 #[] #[])
  fields := #[]
  methods := #[]
  instanceTypes := #[]
  staticTypes := #[]
  resolved := Array.replicate 7 none
  statics := none }

def pool4 : Array CpInfo := pool [(1, .methodref 2 3), (0, .class_ 4), (0, .nameAndType 5 6), (0, u "java/lang/Object"), (0, u "<init>"), (0, u "()V"), (1, .class_ 10), (1, u "java/lang/Number"), (2, .class_ 14), (0, u "java/io/Serializable"), (0, u "serialVersionUID"), (0, u "J")] 20

def k4c0 : Code := { maxStack := 1, maxLocals := 1, code := jdk_18_method_1_code, exceptionTable := #[], attributes := #[] }
def k4m0 : Method := { name := "<init>", desc := "()V", sig := { parameters := [], returnType := none }, accessFlags := 1, code := some k4c0 }
/-- java/lang/Number -/
def k4 : Class := { plain "java/lang/Number" (some 0) with
  accessFlags := 1057
  interfaces := #[3]
  cf := some (fileOf pool4 8 #[] #[{ accessFlags := 1, nameIndex := 5, descriptorIndex := 6, attributes := #[] }] 1057 2 #[13] #[{ accessFlags := 26, nameIndex := 15, descriptorIndex := 16, attributes := #[] }])
  fields := #[{ name := "serialVersionUID", type := .long, accessFlags := 26, slot := 0, constantValue := 0 }]
  methods := #[k4m0]
  instanceTypes := #[]
  staticTypes := #[.long]
  resolved := Array.replicate 37 none
  statics := none }

def pool5 : Array CpInfo := pool [(1, .class_ 2), (0, u "java/lang/Comparable"), (0, .class_ 4), (0, u "java/lang/Object")] 7

/-- java/lang/Comparable -/
def k5 : Class := { plain "java/lang/Comparable" (some 0) with
  accessFlags := 1537
  interfaces := #[]
  cf := some (fileOf pool5 1 #[] #[] 1537 3 #[] #[])
  fields := #[]
  methods := #[]
  instanceTypes := #[]
  staticTypes := #[]
  resolved := Array.replicate 12 none
  statics := none }

def pool6 : Array CpInfo := pool [(1, .class_ 2), (0, u "java/lang/constant/Constable"), (0, .class_ 4), (0, u "java/lang/Object")] 6

/-- java/lang/constant/Constable -/
def k6 : Class := { plain "java/lang/constant/Constable" (some 0) with
  accessFlags := 1537
  interfaces := #[]
  cf := some (fileOf pool6 1 #[] #[] 1537 3 #[] #[])
  fields := #[]
  methods := #[]
  instanceTypes := #[]
  staticTypes := #[]
  resolved := Array.replicate 11 none
  statics := none }

def pool7 : Array CpInfo := pool [(1, .class_ 2), (0, u "java/lang/constant/ConstantDesc"), (0, .class_ 4), (0, u "java/lang/Object")] 32

/-- java/lang/constant/ConstantDesc -/
def k7 : Class := { plain "java/lang/constant/ConstantDesc" (some 0) with
  accessFlags := 1537
  interfaces := #[]
  cf := some (fileOf pool7 1 #[] #[] 1537 3 #[] #[])
  fields := #[]
  methods := #[]
  instanceTypes := #[]
  staticTypes := #[]
  resolved := Array.replicate 37 none
  statics := none }

def pool8 : Array CpInfo := pool [(1, .class_ 2), (0, u "java/lang/Integer"), (16, u "digits"), (0, u "[C"), (46, u "<init>"), (17, u "DigitOnes"), (0, u "[B"), (2, u "DigitTens"), (10, .nameAndType 67 101), (0, u "()V"), (19, u "()I"), (65, u "valueOf"), (0, u "(I)Ljava/lang/Integer;"), (0, .class_ 190), (0, u "java/lang/Integer$IntegerCache"), (0, .fieldref 189 192), (0, .nameAndType 193 194), (0, u "high"), (0, u "I"), (0, .fieldref 189 196), (0, .nameAndType 197 198), (0, u "cache"), (0, u "[Ljava/lang/Integer;"), (0, .methodref 1 200), (0, .nameAndType 67 201), (0, u "(I)V"), (0, .methodref 203 100), (0, .class_ 204), (0, u "java/lang/Number"), (0, .fieldref 1 206), (0, .nameAndType 207 194), (0, u "value"), (5, u "intValue"), (88, u "TYPE"), (0, u "Ljava/lang/Class;"), (0, .class_ 305), (0, u "java/lang/Comparable"), (0, .class_ 307), (0, u "java/lang/constant/Constable"), (0, .class_ 309), (0, u "java/lang/constant/ConstantDesc"), (0, u "MIN_VALUE"), (1, u "MAX_VALUE"), (3, u "SIZE"), (1, u "BYTES"), (1, u "serialVersionUID"), (0, u "J")] 131

def k8c0 : Code := { maxStack := 3, maxLocals := 1, code := jdk_33_method_22_code, exceptionTable := #[], attributes := #[] }
def k8m0 : Method := { name := "valueOf", desc := "(I)Ljava/lang/Integer;", sig := { parameters := [.int], returnType := some (.object "java/lang/Integer") }, accessFlags := 9, code := some k8c0 }
def k8c1 : Code := { maxStack := 2, maxLocals := 2, code := jdk_33_method_23_code, exceptionTable := #[], attributes := #[] }
def k8m1 : Method := { name := "<init>", desc := "(I)V", sig := { parameters := [.int], returnType := none }, accessFlags := 1, code := some k8c1 }
def k8c2 : Code := { maxStack := 1, maxLocals := 1, code := jdk_33_method_27_code, exceptionTable := #[], attributes := #[] }
def k8m2 : Method := { name := "intValue", desc := "()I", sig := { parameters := [], returnType := some .int }, accessFlags := 1, code := some k8c2 }
/-- java/lang/Integer -/
def k8 : Class := { plain "java/lang/Integer" (some 4) with
  accessFlags := 49
  interfaces := #[5, 6, 7]
  cf := some (fileOf pool8 1 #[.nestMembers #[189]] #[{ accessFlags := 9, nameIndex := 187, descriptorIndex := 188, attributes := #[] }, { accessFlags := 1, nameIndex := 67, descriptorIndex := 201, attributes := #[] }, { accessFlags := 1, nameIndex := 213, descriptorIndex := 121, attributes := #[] }] 49 203 #[304, 306, 308] #[{ accessFlags := 25, nameIndex := 310, descriptorIndex := 194, attributes := #[] }, { accessFlags := 25, nameIndex := 312, descriptorIndex := 194, attributes := #[] }, { accessFlags := 25, nameIndex := 302, descriptorIndex := 303, attributes := #[] }, { accessFlags := 24, nameIndex := 19, descriptorIndex := 20, attributes := #[] }, { accessFlags := 24, nameIndex := 89, descriptorIndex := 86, attributes := #[] }, { accessFlags := 24, nameIndex := 85, descriptorIndex := 86, attributes := #[] }, { accessFlags := 18, nameIndex := 207, descriptorIndex := 194, attributes := #[] }, { accessFlags := 25, nameIndex := 316, descriptorIndex := 194, attributes := #[] }, { accessFlags := 25, nameIndex := 318, descriptorIndex := 194, attributes := #[] }, { accessFlags := 26, nameIndex := 320, descriptorIndex := 321, attributes := #[] }])
  fields := #[{ name := "MIN_VALUE", type := .int, accessFlags := 25, slot := 0, constantValue := 0 }, { name := "MAX_VALUE", type := .int, accessFlags := 25, slot := 1, constantValue := 0 }, { name := "TYPE", type := (.object "java/lang/Class"), accessFlags := 25, slot := 2, constantValue := 0 }, { name := "digits", type := (.array .char), accessFlags := 24, slot := 3, constantValue := 0 }, { name := "DigitTens", type := (.array .byte), accessFlags := 24, slot := 4, constantValue := 0 }, { name := "DigitOnes", type := (.array .byte), accessFlags := 24, slot := 5, constantValue := 0 }, { name := "value", type := .int, accessFlags := 18, slot := 0, constantValue := 0 }, { name := "SIZE", type := .int, accessFlags := 25, slot := 6, constantValue := 0 }, { name := "BYTES", type := .int, accessFlags := 25, slot := 7, constantValue := 0 }, { name := "serialVersionUID", type := .long, accessFlags := 26, slot := 8, constantValue := 0 }]
  methods := #[k8m0, k8m1, k8m2]
  instanceTypes := #[.int]
  staticTypes := #[.int, .int, (.object "java/lang/Class"), (.array .char), (.array .byte), (.array .byte), .int, .int, .long]
  resolved := Array.replicate 453 none
  statics := none }

def pool9 : Array CpInfo := pool [(2, .class_ 4), (1, u "java/lang/Object"), (0, u "<init>"), (0, u "()V"), (0, .class_ 8), (0, u "java/lang/Integer"), (7, .class_ 18), (1, u "java/lang/Integer$IntegerCache"), (0, u "$assertionsDisabled"), (0, u "Z"), (26, u "high"), (0, u "I"), (8, u "archivedCache"), (0, u "[Ljava/lang/Integer;"), (12, u "cache"), (0, u "low")] 27

def k9m0 : Method := { name := "<init>", desc := "()V", sig := { parameters := [], returnType := none }, accessFlags := 2, code := none }
/-- java/lang/Integer$IntegerCache -/
def k9 : Class := { plain "java/lang/Integer$IntegerCache" (some 0) with
  accessFlags := 48
  interfaces := #[]
  cf := some (fileOf pool9 16 #[.nestHost 7] #[{ accessFlags := 2, nameIndex := 5, descriptorIndex := 6, attributes := #[] }] 48 2 #[] #[{ accessFlags := 24, nameIndex := 72, descriptorIndex := 48, attributes := #[] }, { accessFlags := 24, nameIndex := 47, descriptorIndex := 48, attributes := #[] }, { accessFlags := 24, nameIndex := 71, descriptorIndex := 58, attributes := #[] }, { accessFlags := 8, nameIndex := 57, descriptorIndex := 58, attributes := #[] }, { accessFlags := 4120, nameIndex := 19, descriptorIndex := 20, attributes := #[] }])
  fields := #[{ name := "low", type := .int, accessFlags := 24, slot := 0, constantValue := 0 }, { name := "high", type := .int, accessFlags := 24, slot := 1, constantValue := 0 }, { name := "cache", type := (.array (.object "java/lang/Integer")), accessFlags := 24, slot := 2, constantValue := 0 }, { name := "archivedCache", type := (.array (.object "java/lang/Integer")), accessFlags := 8, slot := 3, constantValue := 0 }, { name := "$assertionsDisabled", type := .boolean, accessFlags := 4120, slot := 4, constantValue := 0 }]
  methods := #[k9m0]
  instanceTypes := #[]
  staticTypes := #[.int, .int, (.array (.object "java/lang/Integer")), (.array (.object "java/lang/Integer")), .boolean]
  resolved := Array.replicate 100 none
  statics := some 0 }

def pool10 : Array CpInfo := pool [(1, u "java/lang/Cloneable"), (0, .class_ 1), (0, u "java/lang/Object"), (0, .class_ 3)] 3

/-- java/lang/Cloneable -/
def k10 : Class := { plain "java/lang/Cloneable" (some 0) with
  accessFlags := 1537
  interfaces := #[]
  cf := some (fileOf pool10 2 #[] #[] 1537 4 #[] #[])
  fields := #[]
  methods := #[]
  instanceTypes := #[]
  staticTypes := #[]
  resolved := Array.replicate 8 none
  statics := none }

/-- the primitive byte -/
def k11 : Class := { plain "byte" none with kind := .primitive 'B', accessFlags := 0x411 }
/-- [B -/
def k12 : Class := { plain "[B" (some 0) with kind := .array 11 .byte, interfaces := #[10, 3], accessFlags := 1041 }

/-- [Lcom/example/matchwright/matchwright/engine/Memory$Link; -/
def k13 : Class := { plain "[Lcom/example/matchwright/matchwright/engine/Memory$Link;" (some 0) with kind := .array 2 (.object "com/example/matchwright/matchwright/engine/Memory$Link"), interfaces := #[10, 3], accessFlags := 1041 }

/-- [Ljava/lang/Integer; -/
def k14 : Class := { plain "[Ljava/lang/Integer;" (some 0) with kind := .array 8 (.object "java/lang/Integer"), interfaces := #[10, 3], accessFlags := 1041 }

def heap : Heap := #[{ cls := 9, slots := #[.int 0, .int 127, .ref 1, .null, .int 0], vm := .statics 9 },
  { cls := 14, slots := #[.ref 2, .ref 3, .ref 4, .ref 5, .ref 6, .ref 7, .ref 8, .ref 9, .ref 10, .ref 11, .ref 12, .ref 13, .ref 14, .ref 15, .ref 16, .ref 17, .ref 18, .ref 19, .ref 20, .ref 21, .ref 22, .ref 23, .ref 24, .ref 25, .ref 26, .ref 27, .ref 28, .ref 29, .ref 30, .ref 31, .ref 32, .ref 33, .ref 34, .ref 35, .ref 36, .ref 37, .ref 38, .ref 39, .ref 40, .ref 41, .ref 42, .ref 43, .ref 44, .ref 45, .ref 46, .ref 47, .ref 48, .ref 49, .ref 50, .ref 51, .ref 52, .ref 53, .ref 54, .ref 55, .ref 56, .ref 57, .ref 58, .ref 59, .ref 60, .ref 61, .ref 62, .ref 63, .ref 64, .ref 65, .ref 66, .ref 67, .ref 68, .ref 69, .ref 70, .ref 71, .ref 72, .ref 73, .ref 74, .ref 75, .ref 76, .ref 77, .ref 78, .ref 79, .ref 80, .ref 81, .ref 82, .ref 83, .ref 84, .ref 85, .ref 86, .ref 87, .ref 88, .ref 89, .ref 90, .ref 91, .ref 92, .ref 93, .ref 94, .ref 95, .ref 96, .ref 97, .ref 98, .ref 99, .ref 100, .ref 101, .ref 102, .ref 103, .ref 104, .ref 105, .ref 106, .ref 107, .ref 108, .ref 109, .ref 110, .ref 111, .ref 112, .ref 113, .ref 114, .ref 115, .ref 116, .ref 117, .ref 118, .ref 119, .ref 120, .ref 121, .ref 122, .ref 123, .ref 124, .ref 125, .ref 126, .ref 127, .ref 128, .ref 129, .ref 130, .ref 131, .ref 132, .ref 133, .ref 134, .ref 135, .ref 136, .ref 137, .ref 138, .ref 139, .ref 140, .ref 141, .ref 142, .ref 143, .ref 144, .ref 145, .ref 146, .ref 147, .ref 148, .ref 149, .ref 150, .ref 151, .ref 152, .ref 153, .ref 154, .ref 155, .ref 156, .ref 157, .ref 158, .ref 159, .ref 160, .ref 161, .ref 162, .ref 163, .ref 164, .ref 165, .ref 166, .ref 167, .ref 168, .ref 169, .ref 170, .ref 171, .ref 172, .ref 173, .ref 174, .ref 175, .ref 176, .ref 177, .ref 178, .ref 179, .ref 180, .ref 181, .ref 182, .ref 183, .ref 184, .ref 185, .ref 186, .ref 187, .ref 188, .ref 189, .ref 190, .ref 191, .ref 192, .ref 193, .ref 194, .ref 195, .ref 196, .ref 197, .ref 198, .ref 199, .ref 200, .ref 201, .ref 202, .ref 203, .ref 204, .ref 205, .ref 206, .ref 207, .ref 208, .ref 209, .ref 210, .ref 211, .ref 212, .ref 213, .ref 214, .ref 215, .ref 216, .ref 217, .ref 218, .ref 219, .ref 220, .ref 221, .ref 222, .ref 223, .ref 224, .ref 225, .ref 226, .ref 227, .ref 228, .ref 229, .ref 230, .ref 231, .ref 232, .ref 233, .ref 234, .ref 235, .ref 236, .ref 237, .ref 238, .ref 239, .ref 240, .ref 241, .ref 242, .ref 243, .ref 244, .ref 245, .ref 246, .ref 247, .ref 248, .ref 249, .ref 250, .ref 251, .ref 252, .ref 253, .ref 254, .ref 255, .ref 256, .ref 257], vm := .none },
  { cls := 8, slots := #[.int (-128)], vm := .none },
  { cls := 8, slots := #[.int (-127)], vm := .none },
  { cls := 8, slots := #[.int (-126)], vm := .none },
  { cls := 8, slots := #[.int (-125)], vm := .none },
  { cls := 8, slots := #[.int (-124)], vm := .none },
  { cls := 8, slots := #[.int (-123)], vm := .none },
  { cls := 8, slots := #[.int (-122)], vm := .none },
  { cls := 8, slots := #[.int (-121)], vm := .none },
  { cls := 8, slots := #[.int (-120)], vm := .none },
  { cls := 8, slots := #[.int (-119)], vm := .none },
  { cls := 8, slots := #[.int (-118)], vm := .none },
  { cls := 8, slots := #[.int (-117)], vm := .none },
  { cls := 8, slots := #[.int (-116)], vm := .none },
  { cls := 8, slots := #[.int (-115)], vm := .none },
  { cls := 8, slots := #[.int (-114)], vm := .none },
  { cls := 8, slots := #[.int (-113)], vm := .none },
  { cls := 8, slots := #[.int (-112)], vm := .none },
  { cls := 8, slots := #[.int (-111)], vm := .none },
  { cls := 8, slots := #[.int (-110)], vm := .none },
  { cls := 8, slots := #[.int (-109)], vm := .none },
  { cls := 8, slots := #[.int (-108)], vm := .none },
  { cls := 8, slots := #[.int (-107)], vm := .none },
  { cls := 8, slots := #[.int (-106)], vm := .none },
  { cls := 8, slots := #[.int (-105)], vm := .none },
  { cls := 8, slots := #[.int (-104)], vm := .none },
  { cls := 8, slots := #[.int (-103)], vm := .none },
  { cls := 8, slots := #[.int (-102)], vm := .none },
  { cls := 8, slots := #[.int (-101)], vm := .none },
  { cls := 8, slots := #[.int (-100)], vm := .none },
  { cls := 8, slots := #[.int (-99)], vm := .none },
  { cls := 8, slots := #[.int (-98)], vm := .none },
  { cls := 8, slots := #[.int (-97)], vm := .none },
  { cls := 8, slots := #[.int (-96)], vm := .none },
  { cls := 8, slots := #[.int (-95)], vm := .none },
  { cls := 8, slots := #[.int (-94)], vm := .none },
  { cls := 8, slots := #[.int (-93)], vm := .none },
  { cls := 8, slots := #[.int (-92)], vm := .none },
  { cls := 8, slots := #[.int (-91)], vm := .none },
  { cls := 8, slots := #[.int (-90)], vm := .none },
  { cls := 8, slots := #[.int (-89)], vm := .none },
  { cls := 8, slots := #[.int (-88)], vm := .none },
  { cls := 8, slots := #[.int (-87)], vm := .none },
  { cls := 8, slots := #[.int (-86)], vm := .none },
  { cls := 8, slots := #[.int (-85)], vm := .none },
  { cls := 8, slots := #[.int (-84)], vm := .none },
  { cls := 8, slots := #[.int (-83)], vm := .none },
  { cls := 8, slots := #[.int (-82)], vm := .none },
  { cls := 8, slots := #[.int (-81)], vm := .none },
  { cls := 8, slots := #[.int (-80)], vm := .none },
  { cls := 8, slots := #[.int (-79)], vm := .none },
  { cls := 8, slots := #[.int (-78)], vm := .none },
  { cls := 8, slots := #[.int (-77)], vm := .none },
  { cls := 8, slots := #[.int (-76)], vm := .none },
  { cls := 8, slots := #[.int (-75)], vm := .none },
  { cls := 8, slots := #[.int (-74)], vm := .none },
  { cls := 8, slots := #[.int (-73)], vm := .none },
  { cls := 8, slots := #[.int (-72)], vm := .none },
  { cls := 8, slots := #[.int (-71)], vm := .none },
  { cls := 8, slots := #[.int (-70)], vm := .none },
  { cls := 8, slots := #[.int (-69)], vm := .none },
  { cls := 8, slots := #[.int (-68)], vm := .none },
  { cls := 8, slots := #[.int (-67)], vm := .none },
  { cls := 8, slots := #[.int (-66)], vm := .none },
  { cls := 8, slots := #[.int (-65)], vm := .none },
  { cls := 8, slots := #[.int (-64)], vm := .none },
  { cls := 8, slots := #[.int (-63)], vm := .none },
  { cls := 8, slots := #[.int (-62)], vm := .none },
  { cls := 8, slots := #[.int (-61)], vm := .none },
  { cls := 8, slots := #[.int (-60)], vm := .none },
  { cls := 8, slots := #[.int (-59)], vm := .none },
  { cls := 8, slots := #[.int (-58)], vm := .none },
  { cls := 8, slots := #[.int (-57)], vm := .none },
  { cls := 8, slots := #[.int (-56)], vm := .none },
  { cls := 8, slots := #[.int (-55)], vm := .none },
  { cls := 8, slots := #[.int (-54)], vm := .none },
  { cls := 8, slots := #[.int (-53)], vm := .none },
  { cls := 8, slots := #[.int (-52)], vm := .none },
  { cls := 8, slots := #[.int (-51)], vm := .none },
  { cls := 8, slots := #[.int (-50)], vm := .none },
  { cls := 8, slots := #[.int (-49)], vm := .none },
  { cls := 8, slots := #[.int (-48)], vm := .none },
  { cls := 8, slots := #[.int (-47)], vm := .none },
  { cls := 8, slots := #[.int (-46)], vm := .none },
  { cls := 8, slots := #[.int (-45)], vm := .none },
  { cls := 8, slots := #[.int (-44)], vm := .none },
  { cls := 8, slots := #[.int (-43)], vm := .none },
  { cls := 8, slots := #[.int (-42)], vm := .none },
  { cls := 8, slots := #[.int (-41)], vm := .none },
  { cls := 8, slots := #[.int (-40)], vm := .none },
  { cls := 8, slots := #[.int (-39)], vm := .none },
  { cls := 8, slots := #[.int (-38)], vm := .none },
  { cls := 8, slots := #[.int (-37)], vm := .none },
  { cls := 8, slots := #[.int (-36)], vm := .none },
  { cls := 8, slots := #[.int (-35)], vm := .none },
  { cls := 8, slots := #[.int (-34)], vm := .none },
  { cls := 8, slots := #[.int (-33)], vm := .none },
  { cls := 8, slots := #[.int (-32)], vm := .none },
  { cls := 8, slots := #[.int (-31)], vm := .none },
  { cls := 8, slots := #[.int (-30)], vm := .none },
  { cls := 8, slots := #[.int (-29)], vm := .none },
  { cls := 8, slots := #[.int (-28)], vm := .none },
  { cls := 8, slots := #[.int (-27)], vm := .none },
  { cls := 8, slots := #[.int (-26)], vm := .none },
  { cls := 8, slots := #[.int (-25)], vm := .none },
  { cls := 8, slots := #[.int (-24)], vm := .none },
  { cls := 8, slots := #[.int (-23)], vm := .none },
  { cls := 8, slots := #[.int (-22)], vm := .none },
  { cls := 8, slots := #[.int (-21)], vm := .none },
  { cls := 8, slots := #[.int (-20)], vm := .none },
  { cls := 8, slots := #[.int (-19)], vm := .none },
  { cls := 8, slots := #[.int (-18)], vm := .none },
  { cls := 8, slots := #[.int (-17)], vm := .none },
  { cls := 8, slots := #[.int (-16)], vm := .none },
  { cls := 8, slots := #[.int (-15)], vm := .none },
  { cls := 8, slots := #[.int (-14)], vm := .none },
  { cls := 8, slots := #[.int (-13)], vm := .none },
  { cls := 8, slots := #[.int (-12)], vm := .none },
  { cls := 8, slots := #[.int (-11)], vm := .none },
  { cls := 8, slots := #[.int (-10)], vm := .none },
  { cls := 8, slots := #[.int (-9)], vm := .none },
  { cls := 8, slots := #[.int (-8)], vm := .none },
  { cls := 8, slots := #[.int (-7)], vm := .none },
  { cls := 8, slots := #[.int (-6)], vm := .none },
  { cls := 8, slots := #[.int (-5)], vm := .none },
  { cls := 8, slots := #[.int (-4)], vm := .none },
  { cls := 8, slots := #[.int (-3)], vm := .none },
  { cls := 8, slots := #[.int (-2)], vm := .none },
  { cls := 8, slots := #[.int (-1)], vm := .none },
  { cls := 8, slots := #[.int (0)], vm := .none },
  { cls := 8, slots := #[.int (1)], vm := .none },
  { cls := 8, slots := #[.int (2)], vm := .none },
  { cls := 8, slots := #[.int (3)], vm := .none },
  { cls := 8, slots := #[.int (4)], vm := .none },
  { cls := 8, slots := #[.int (5)], vm := .none },
  { cls := 8, slots := #[.int (6)], vm := .none },
  { cls := 8, slots := #[.int (7)], vm := .none },
  { cls := 8, slots := #[.int (8)], vm := .none },
  { cls := 8, slots := #[.int (9)], vm := .none },
  { cls := 8, slots := #[.int (10)], vm := .none },
  { cls := 8, slots := #[.int (11)], vm := .none },
  { cls := 8, slots := #[.int (12)], vm := .none },
  { cls := 8, slots := #[.int (13)], vm := .none },
  { cls := 8, slots := #[.int (14)], vm := .none },
  { cls := 8, slots := #[.int (15)], vm := .none },
  { cls := 8, slots := #[.int (16)], vm := .none },
  { cls := 8, slots := #[.int (17)], vm := .none },
  { cls := 8, slots := #[.int (18)], vm := .none },
  { cls := 8, slots := #[.int (19)], vm := .none },
  { cls := 8, slots := #[.int (20)], vm := .none },
  { cls := 8, slots := #[.int (21)], vm := .none },
  { cls := 8, slots := #[.int (22)], vm := .none },
  { cls := 8, slots := #[.int (23)], vm := .none },
  { cls := 8, slots := #[.int (24)], vm := .none },
  { cls := 8, slots := #[.int (25)], vm := .none },
  { cls := 8, slots := #[.int (26)], vm := .none },
  { cls := 8, slots := #[.int (27)], vm := .none },
  { cls := 8, slots := #[.int (28)], vm := .none },
  { cls := 8, slots := #[.int (29)], vm := .none },
  { cls := 8, slots := #[.int (30)], vm := .none },
  { cls := 8, slots := #[.int (31)], vm := .none },
  { cls := 8, slots := #[.int (32)], vm := .none },
  { cls := 8, slots := #[.int (33)], vm := .none },
  { cls := 8, slots := #[.int (34)], vm := .none },
  { cls := 8, slots := #[.int (35)], vm := .none },
  { cls := 8, slots := #[.int (36)], vm := .none },
  { cls := 8, slots := #[.int (37)], vm := .none },
  { cls := 8, slots := #[.int (38)], vm := .none },
  { cls := 8, slots := #[.int (39)], vm := .none },
  { cls := 8, slots := #[.int (40)], vm := .none },
  { cls := 8, slots := #[.int (41)], vm := .none },
  { cls := 8, slots := #[.int (42)], vm := .none },
  { cls := 8, slots := #[.int (43)], vm := .none },
  { cls := 8, slots := #[.int (44)], vm := .none },
  { cls := 8, slots := #[.int (45)], vm := .none },
  { cls := 8, slots := #[.int (46)], vm := .none },
  { cls := 8, slots := #[.int (47)], vm := .none },
  { cls := 8, slots := #[.int (48)], vm := .none },
  { cls := 8, slots := #[.int (49)], vm := .none },
  { cls := 8, slots := #[.int (50)], vm := .none },
  { cls := 8, slots := #[.int (51)], vm := .none },
  { cls := 8, slots := #[.int (52)], vm := .none },
  { cls := 8, slots := #[.int (53)], vm := .none },
  { cls := 8, slots := #[.int (54)], vm := .none },
  { cls := 8, slots := #[.int (55)], vm := .none },
  { cls := 8, slots := #[.int (56)], vm := .none },
  { cls := 8, slots := #[.int (57)], vm := .none },
  { cls := 8, slots := #[.int (58)], vm := .none },
  { cls := 8, slots := #[.int (59)], vm := .none },
  { cls := 8, slots := #[.int (60)], vm := .none },
  { cls := 8, slots := #[.int (61)], vm := .none },
  { cls := 8, slots := #[.int (62)], vm := .none },
  { cls := 8, slots := #[.int (63)], vm := .none },
  { cls := 8, slots := #[.int (64)], vm := .none },
  { cls := 8, slots := #[.int (65)], vm := .none },
  { cls := 8, slots := #[.int (66)], vm := .none },
  { cls := 8, slots := #[.int (67)], vm := .none },
  { cls := 8, slots := #[.int (68)], vm := .none },
  { cls := 8, slots := #[.int (69)], vm := .none },
  { cls := 8, slots := #[.int (70)], vm := .none },
  { cls := 8, slots := #[.int (71)], vm := .none },
  { cls := 8, slots := #[.int (72)], vm := .none },
  { cls := 8, slots := #[.int (73)], vm := .none },
  { cls := 8, slots := #[.int (74)], vm := .none },
  { cls := 8, slots := #[.int (75)], vm := .none },
  { cls := 8, slots := #[.int (76)], vm := .none },
  { cls := 8, slots := #[.int (77)], vm := .none },
  { cls := 8, slots := #[.int (78)], vm := .none },
  { cls := 8, slots := #[.int (79)], vm := .none },
  { cls := 8, slots := #[.int (80)], vm := .none },
  { cls := 8, slots := #[.int (81)], vm := .none },
  { cls := 8, slots := #[.int (82)], vm := .none },
  { cls := 8, slots := #[.int (83)], vm := .none },
  { cls := 8, slots := #[.int (84)], vm := .none },
  { cls := 8, slots := #[.int (85)], vm := .none },
  { cls := 8, slots := #[.int (86)], vm := .none },
  { cls := 8, slots := #[.int (87)], vm := .none },
  { cls := 8, slots := #[.int (88)], vm := .none },
  { cls := 8, slots := #[.int (89)], vm := .none },
  { cls := 8, slots := #[.int (90)], vm := .none },
  { cls := 8, slots := #[.int (91)], vm := .none },
  { cls := 8, slots := #[.int (92)], vm := .none },
  { cls := 8, slots := #[.int (93)], vm := .none },
  { cls := 8, slots := #[.int (94)], vm := .none },
  { cls := 8, slots := #[.int (95)], vm := .none },
  { cls := 8, slots := #[.int (96)], vm := .none },
  { cls := 8, slots := #[.int (97)], vm := .none },
  { cls := 8, slots := #[.int (98)], vm := .none },
  { cls := 8, slots := #[.int (99)], vm := .none },
  { cls := 8, slots := #[.int (100)], vm := .none },
  { cls := 8, slots := #[.int (101)], vm := .none },
  { cls := 8, slots := #[.int (102)], vm := .none },
  { cls := 8, slots := #[.int (103)], vm := .none },
  { cls := 8, slots := #[.int (104)], vm := .none },
  { cls := 8, slots := #[.int (105)], vm := .none },
  { cls := 8, slots := #[.int (106)], vm := .none },
  { cls := 8, slots := #[.int (107)], vm := .none },
  { cls := 8, slots := #[.int (108)], vm := .none },
  { cls := 8, slots := #[.int (109)], vm := .none },
  { cls := 8, slots := #[.int (110)], vm := .none },
  { cls := 8, slots := #[.int (111)], vm := .none },
  { cls := 8, slots := #[.int (112)], vm := .none },
  { cls := 8, slots := #[.int (113)], vm := .none },
  { cls := 8, slots := #[.int (114)], vm := .none },
  { cls := 8, slots := #[.int (115)], vm := .none },
  { cls := 8, slots := #[.int (116)], vm := .none },
  { cls := 8, slots := #[.int (117)], vm := .none },
  { cls := 8, slots := #[.int (118)], vm := .none },
  { cls := 8, slots := #[.int (119)], vm := .none },
  { cls := 8, slots := #[.int (120)], vm := .none },
  { cls := 8, slots := #[.int (121)], vm := .none },
  { cls := 8, slots := #[.int (122)], vm := .none },
  { cls := 8, slots := #[.int (123)], vm := .none },
  { cls := 8, slots := #[.int (124)], vm := .none },
  { cls := 8, slots := #[.int (125)], vm := .none },
  { cls := 8, slots := #[.int (126)], vm := .none },
  { cls := 8, slots := #[.int (127)], vm := .none }]
def classes : Array Class := #[k0, k1, k2, k3, k4, k5, k6, k7, k8, k9, k10, k11, k12, k13, k14]
def interned : List (Array UInt16 × Addr) := []
def slotsUsed : Nat := 517
def theMethod : MethodId := ⟨1, 1⟩
def args0 : Array Value := #[.int 2, .int 5, .int 1000]
def aboutOver (below : List Frame) : State where
  vm := { classes := classes, interned := interned.toArray }
  heap := heap
  slotsUsed := slotsUsed
  threads := #[{ frames := .invoking theMethod args0 :: below }]
def below0 : List Frame := [.native { method := ⟨0, 0⟩, args := #[] }]
def about1 : State := aboutOver below0
def p0 : Program := .bare "" "" ""
def e0 : Env := launch0.env 0 0 0
theorem w_frames : about1.frames = Frame.invoking theMethod args0 :: below0 := rfl
set_option maxRecDepth 65536 in
theorem w_args : argsFit about1.vm theMethod args0 = true := by decide +kernel
set_option maxRecDepth 65536 in
theorem w_heap : heapFits about1 = true := by decide +kernel
set_option maxRecDepth 65536 in
theorem w_runnable : about1.curStatus? = some .runnable := by decide +kernel
set_option maxRecDepth 65536 in
theorem w_alone : about1.alone = true := by decide +kernel
set_option maxRecDepth 65536 in
theorem w_named : about1.methodNamed? x = some theMethod := by decide +kernel
set_option maxRecDepth 65536 in
theorem w_hears : about1.hears theMethod below0 = true := by decide +kernel
set_option maxRecDepth 65536 in
theorem w_ripe : about1.ripe theMethod args0 below0 = true := by decide +kernel
theorem w_running : about1.status = .running := rfl
set_option maxRecDepth 65536 in
theorem w_room : about1.hasRoom e0.platform room_1 = true :=
  launch0.hasRoom_least _ room_1 (by decide +kernel) (by decide +kernel) (by decide +kernel) (by decide +kernel) (by decide +kernel) (by decide +kernel)
theorem allAtoms_all (ts : List Jvm.Cond) (a : Array Jvm.Value) (st : Jvm.State) : (allAtoms ts).before a st = ts.all (fun c => c.before a st) := by
  induction ts with
  | nil => rfl
  | cons c t ih =>
    show (Jvm.Cond.and c (allAtoms t)).before a st = _
    rw [Jvm.Cond.before_and, ih, List.all_cons]
def words1 : List Jvm.Cond := Jvm.Cond.code x code maxLocals ret :: tables_1
/-- a 'code' word, met by the world's own term for the bytes: nothing is compared byte by byte -/
theorem code_word {y : MethodName} {bytes : ByteArray} {mx : Nat} {rt : Option FieldType} {a : Array Value} {s : State} {m : MethodId} {meth : Method} {c : Code} (h1 : s.methodNamed? y = some m) (h2 : s.vm.method? m = some meth) (h3 : meth.code = some c) (h4 : c.code = bytes)
    (h5 : (c.maxLocals == mx && c.exceptionTable.isEmpty && decide (c.maxStack ≤ mostOperands) && decide (meth.sig.returnType = rt) && !meth.locks && decide (parseMethodDescriptor y.desc = some meth.sig)) = true) : (Jvm.Cond.code y bytes mx rt).before a s = true := by
  simp only [Bool.and_eq_true, beq_iff_eq, Bool.not_eq_true', decide_eq_true_eq] at h5
  obtain ⟨⟨⟨⟨⟨g1, g2⟩, g3⟩, g4⟩, g5⟩, g6⟩ := h5
  simp [Cond.before, Cond.holds, Cond.value, h1, h2, h3, h4, g1, g2, g3, g4, g5, g6]
def isCode : Jvm.Cond → Bool
  | .code _ _ _ _ => true
  | _ => false
theorem all_split {L : List Jvm.Cond} {P : Jvm.Cond → Bool} (h1 : L.all (fun c => isCode c || P c) = true) (h2 : ∀ c ∈ L.filter isCode, P c = true) : L.all P = true := by
  refine List.all_eq_true.mpr fun c hc => ?_
  have h := List.all_eq_true.mp h1 c hc
  rcases Bool.eq_false_or_eq_true (isCode c) with hi | hi
  · exact h2 c (List.mem_filter.mpr ⟨hc, hi⟩)
  · simpa [hi] using h
set_option maxRecDepth 65536 in
theorem w_c0 : (Jvm.Cond.code x code maxLocals ret).before args0 about1 = true := code_word (m := ⟨1, 1⟩) (meth := k1m1) (c := k1c1) (by decide +kernel) rfl rfl rfl (by decide +kernel)
set_option maxRecDepth 65536 in
theorem w_c1 : (Jvm.Cond.code ({ cls := "java/lang/Integer", name := "valueOf", desc := "(I)Ljava/lang/Integer;" } : Jvm.MethodName) jdk_33_method_22_code (1 : Nat) (Option.some (Jvm.ClassFile.FieldType.object "java/lang/Integer"))).before args0 about1 = true := code_word (m := ⟨8, 0⟩) (meth := k8m0) (c := k8c0) (by decide +kernel) rfl rfl rfl (by decide +kernel)
set_option maxRecDepth 65536 in
theorem w_c2 : (Jvm.Cond.code ({ cls := "com/example/matchwright/matchwright/engine/Memory$Link", name := "<init>", desc := "(Ljava/lang/Object;)V" } : Jvm.MethodName) prog_51_method_1_code (2 : Nat) (Option.none : Option Jvm.ClassFile.FieldType)).before args0 about1 = true := code_word (m := ⟨2, 0⟩) (meth := k2m0) (c := k2c0) (by decide +kernel) rfl rfl rfl (by decide +kernel)
set_option maxRecDepth 65536 in
theorem w_c3 : (Jvm.Cond.code ({ cls := "java/lang/Object", name := "<init>", desc := "()V" } : Jvm.MethodName) object_method_1_code (1 : Nat) (Option.none : Option Jvm.ClassFile.FieldType)).before args0 about1 = true := code_word (m := ⟨0, 0⟩) (meth := k0m0) (c := k0c0) (by decide +kernel) rfl rfl rfl (by decide +kernel)
set_option maxRecDepth 65536 in
theorem w_c4 : (Jvm.Cond.code ({ cls := "com/example/matchwright/matchwright/engine/LinkLinkBeforePinLaw", name := "ring", desc := "([Lcom/example/matchwright/matchwright/engine/Memory$Link;II)V" } : Jvm.MethodName) method_3_code (3 : Nat) (Option.none : Option Jvm.ClassFile.FieldType)).before args0 about1 = true := code_word (m := ⟨1, 2⟩) (meth := k1m2) (c := k1c2) (by decide +kernel) rfl rfl rfl (by decide +kernel)
set_option maxRecDepth 65536 in
theorem w_c5 : (Jvm.Cond.code ({ cls := "com/example/matchwright/matchwright/engine/Memory$Link", name := "linkBefore", desc := "(Lcom/example/matchwright/matchwright/engine/Memory$Link;)V" } : Jvm.MethodName) prog_51_method_5_code (2 : Nat) (Option.none : Option Jvm.ClassFile.FieldType)).before args0 about1 = true := code_word (m := ⟨2, 2⟩) (meth := k2m2) (c := k2c2) (by decide +kernel) rfl rfl rfl (by decide +kernel)
set_option maxRecDepth 65536 in
theorem w_c6 : (Jvm.Cond.code ({ cls := "com/example/matchwright/matchwright/engine/LinkLinkBeforePinLaw", name := "at", desc := "([Lcom/example/matchwright/matchwright/engine/Memory$Link;Lcom/example/matchwright/matchwright/engine/Memory$Link;II)Lcom/example/matchwright/matchwright/engine/Memory$Link;" } : Jvm.MethodName) method_4_code (4 : Nat) (Option.some (Jvm.ClassFile.FieldType.object "com/example/matchwright/matchwright/engine/Memory$Link"))).before args0 about1 = true := code_word (m := ⟨1, 3⟩) (meth := k1m3) (c := k1c3) (by decide +kernel) rfl rfl rfl (by decide +kernel)
set_option maxRecDepth 65536 in
theorem w_c7 : (Jvm.Cond.code ({ cls := "com/example/matchwright/matchwright/engine/Memory$Link", name := "item", desc := "()Ljava/lang/Object;" } : Jvm.MethodName) prog_51_method_2_code (1 : Nat) (Option.some (Jvm.ClassFile.FieldType.object "java/lang/Object"))).before args0 about1 = true := code_word (m := ⟨2, 1⟩) (meth := k2m1) (c := k2c1) (by decide +kernel) rfl rfl rfl (by decide +kernel)
set_option maxRecDepth 65536 in
theorem w_c8 : (Jvm.Cond.code ({ cls := "java/lang/Integer", name := "intValue", desc := "()I" } : Jvm.MethodName) jdk_33_method_27_code (1 : Nat) (Option.some Jvm.ClassFile.FieldType.int)).before args0 about1 = true := code_word (m := ⟨8, 2⟩) (meth := k8m2) (c := k8c2) (by decide +kernel) rfl rfl rfl (by decide +kernel)
set_option maxRecDepth 65536 in
theorem w_c9 : (Jvm.Cond.code ({ cls := "com/example/matchwright/matchwright/engine/LinkLinkBeforePinLaw", name := "check", desc := "([Lcom/example/matchwright/matchwright/engine/Memory$Link;II)Z" } : Jvm.MethodName) method_5_code (3 : Nat) (Option.some Jvm.ClassFile.FieldType.boolean)).before args0 about1 = true := code_word (m := ⟨1, 4⟩) (meth := k1m4) (c := k1c4) (by decide +kernel) rfl rfl rfl (by decide +kernel)
set_option maxRecDepth 65536 in
theorem w_c10 : (Jvm.Cond.code ({ cls := "com/example/matchwright/matchwright/engine/LinkLinkBeforePinLaw", name := "alone", desc := "([Lcom/example/matchwright/matchwright/engine/Memory$Link;II)Z" } : Jvm.MethodName) method_6_code (3 : Nat) (Option.some Jvm.ClassFile.FieldType.boolean)).before args0 about1 = true := code_word (m := ⟨1, 5⟩) (meth := k1m5) (c := k1c5) (by decide +kernel) rfl rfl rfl (by decide +kernel)
set_option maxRecDepth 65536 in
theorem w_c11 : (Jvm.Cond.code ({ cls := "java/lang/Integer", name := "<init>", desc := "(I)V" } : Jvm.MethodName) jdk_33_method_23_code (2 : Nat) (Option.none : Option Jvm.ClassFile.FieldType)).before args0 about1 = true := code_word (m := ⟨8, 1⟩) (meth := k8m1) (c := k8c1) (by decide +kernel) rfl rfl rfl (by decide +kernel)
set_option maxRecDepth 65536 in
theorem w_c12 : (Jvm.Cond.code ({ cls := "java/lang/Number", name := "<init>", desc := "()V" } : Jvm.MethodName) jdk_18_method_1_code (1 : Nat) (Option.none : Option Jvm.ClassFile.FieldType)).before args0 about1 = true := code_word (m := ⟨4, 0⟩) (meth := k4m0) (c := k4c0) (by decide +kernel) rfl rfl rfl (by decide +kernel)
def codes1 : List Jvm.Cond := [Jvm.Cond.code x code maxLocals ret, Jvm.Cond.code ({ cls := "java/lang/Integer", name := "valueOf", desc := "(I)Ljava/lang/Integer;" } : Jvm.MethodName) jdk_33_method_22_code (1 : Nat) (Option.some (Jvm.ClassFile.FieldType.object "java/lang/Integer")), Jvm.Cond.code ({ cls := "com/example/matchwright/matchwright/engine/Memory$Link", name := "<init>", desc := "(Ljava/lang/Object;)V" } : Jvm.MethodName) prog_51_method_1_code (2 : Nat) (Option.none : Option Jvm.ClassFile.FieldType), Jvm.Cond.code ({ cls := "java/lang/Object", name := "<init>", desc := "()V" } : Jvm.MethodName) object_method_1_code (1 : Nat) (Option.none : Option Jvm.ClassFile.FieldType), Jvm.Cond.code ({ cls := "com/example/matchwright/matchwright/engine/LinkLinkBeforePinLaw", name := "ring", desc := "([Lcom/example/matchwright/matchwright/engine/Memory$Link;II)V" } : Jvm.MethodName) method_3_code (3 : Nat) (Option.none : Option Jvm.ClassFile.FieldType), Jvm.Cond.code ({ cls := "com/example/matchwright/matchwright/engine/Memory$Link", name := "linkBefore", desc := "(Lcom/example/matchwright/matchwright/engine/Memory$Link;)V" } : Jvm.MethodName) prog_51_method_5_code (2 : Nat) (Option.none : Option Jvm.ClassFile.FieldType), Jvm.Cond.code ({ cls := "com/example/matchwright/matchwright/engine/LinkLinkBeforePinLaw", name := "at", desc := "([Lcom/example/matchwright/matchwright/engine/Memory$Link;Lcom/example/matchwright/matchwright/engine/Memory$Link;II)Lcom/example/matchwright/matchwright/engine/Memory$Link;" } : Jvm.MethodName) method_4_code (4 : Nat) (Option.some (Jvm.ClassFile.FieldType.object "com/example/matchwright/matchwright/engine/Memory$Link")), Jvm.Cond.code ({ cls := "com/example/matchwright/matchwright/engine/Memory$Link", name := "item", desc := "()Ljava/lang/Object;" } : Jvm.MethodName) prog_51_method_2_code (1 : Nat) (Option.some (Jvm.ClassFile.FieldType.object "java/lang/Object")), Jvm.Cond.code ({ cls := "java/lang/Integer", name := "intValue", desc := "()I" } : Jvm.MethodName) jdk_33_method_27_code (1 : Nat) (Option.some Jvm.ClassFile.FieldType.int), Jvm.Cond.code ({ cls := "com/example/matchwright/matchwright/engine/LinkLinkBeforePinLaw", name := "check", desc := "([Lcom/example/matchwright/matchwright/engine/Memory$Link;II)Z" } : Jvm.MethodName) method_5_code (3 : Nat) (Option.some Jvm.ClassFile.FieldType.boolean), Jvm.Cond.code ({ cls := "com/example/matchwright/matchwright/engine/LinkLinkBeforePinLaw", name := "alone", desc := "([Lcom/example/matchwright/matchwright/engine/Memory$Link;II)Z" } : Jvm.MethodName) method_6_code (3 : Nat) (Option.some Jvm.ClassFile.FieldType.boolean), Jvm.Cond.code ({ cls := "java/lang/Integer", name := "<init>", desc := "(I)V" } : Jvm.MethodName) jdk_33_method_23_code (2 : Nat) (Option.none : Option Jvm.ClassFile.FieldType), Jvm.Cond.code ({ cls := "java/lang/Number", name := "<init>", desc := "()V" } : Jvm.MethodName) jdk_18_method_1_code (1 : Nat) (Option.none : Option Jvm.ClassFile.FieldType)]
set_option maxRecDepth 65536 in
theorem codes_eq : words1.filter isCode = codes1 := rfl
theorem w_codes : ∀ c ∈ words1.filter isCode, c.before args0 about1 = true := by
  rw [codes_eq]
  intro c hc
  simp only [codes1, List.mem_cons, List.not_mem_nil, or_false] at hc
  rcases hc with rfl | rfl | rfl | rfl | rfl | rfl | rfl | rfl | rfl | rfl | rfl | rfl | rfl
  · exact w_c0
  · exact w_c1
  · exact w_c2
  · exact w_c3
  · exact w_c4
  · exact w_c5
  · exact w_c6
  · exact w_c7
  · exact w_c8
  · exact w_c9
  · exact w_c10
  · exact w_c11
  · exact w_c12
set_option maxRecDepth 65536 in
theorem w_t1 : (words1.take 24).all (fun c => isCode c || c.before args0 about1) = true := by decide +kernel
set_option maxRecDepth 65536 in
theorem w_t2 : ((words1.drop 24).take 24).all (fun c => isCode c || c.before args0 about1) = true := by decide +kernel
set_option maxRecDepth 65536 in
theorem w_t3 : ((words1.drop 24).drop 24).all (fun c => isCode c || c.before args0 about1) = true := by decide +kernel
theorem w_tables : (allAtoms (Jvm.Cond.code x code maxLocals ret :: tables_1)).before args0 about1 = true := by
  rw [allAtoms_all]
  show words1.all (fun c => c.before args0 about1) = true
  refine all_split ?_ w_codes
  rw [← List.take_append_drop 24 words1, List.all_append, w_t1, ← List.take_append_drop 24 (words1.drop 24), List.all_append, w_t2, w_t3]
  rfl
set_option maxRecDepth 65536 in
theorem w_rest : rest_1_c.before args0 about1 = true := by decide +kernel
set_option maxRecDepth 65536 in
theorem w_case : (Jvm.Cond.and given_1 narrow_1).before args0 about1 = true := by decide +kernel
theorem w_applies : (headSpec (Jvm.Cond.code x code maxLocals ret :: tables_1) room_1).applies x e0.platform about1 = true :=
  (Spec.applies_iff w_frames).mpr ⟨w_running, w_runnable, w_alone, w_named, w_hears, w_ripe, w_room, w_tables⟩
theorem atStart : AtStart classFile x code maxLocals ret World_1 tables_1 room_1 Calls_1 rest_1 Pre_1 launch0 p0 e0 about1 theMethod args0 below0 :=
  ⟨lists_1, trivial, launch0.admits_env _ _ _, launch0.least_env, fairChoices_fair.cas, fairChoices_fair.clock, w_frames, w_args, w_heap, w_applies, trivial, w_rest, w_case⟩
end start1
theorem witness_1 : WitnessClaimed_1 := ⟨start1.p0, start1.e0, start1.about1, start1.theMethod, start1.args0, start1.below0, start1.atStart⟩
end Jvm.Pilot.@@N@@
