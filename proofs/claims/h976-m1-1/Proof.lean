import JvmDerived
import JvmDerived.Pilot.@@N@@Statement
import JvmDerived.Pilot.@@N@@Code
set_option linter.unusedVariables false
set_option linter.unusedSimpArgs false
namespace Jvm.Own
open Sem ClassFile Op Lib Jvm.Stand Jvm.Free Jvm.LawKit Jvm.RoadKit
/-- the walk from the frame g over T comes to its end, and P holds there -/
def Goes (p : Program) (e : Env) (below : List Frame) (P : State → Outcome → Prop) (T : State) (g : JFrame) : Prop :=
  ∃ U o, Steps p.tables e below (T.setTop g) U ∧ U.status = .running ∧ Ended U below o ∧ P U o
theorem Goes.st {p : Program} {e : Env} {below : List Frame} {P : State → Outcome → Prop} {T T' : State} {g g' : JFrame} (st : ∀ t, Steps p.tables e below (T'.setTop g') t → Steps p.tables e below (T.setTop g) t) (k : Goes p e below P T' g') : Goes p e below P T g := by
  obtain ⟨U, o, h1, h⟩ := k; exact ⟨U, o, st _ h1, h⟩
/-- what is known of the body that is walked -/
def Cx (Z : State) (p : Program) (s : State) (m : MethodId) (meth : Method) (c : Code) (own : String) (bytes : ByteArray) (maxL : Nat) (ret : Option FieldType) (nm : String) : Prop :=
  p.tables.exec = Jvm.exec ∧ c.code = bytes ∧ c.maxLocals = maxL ∧ meth.sig.returnType = ret ∧ meth.name = nm ∧ meth.locks = false ∧ Z.Warmed39 s.vm ∧ s.vm.findClass own = some m.cls
section Acc
variable {Z : State} {p : Program} {s : State} {m : MethodId} {meth : Method} {c : Code} {own : String} {bytes : ByteArray} {maxL : Nat} {ret : Option FieldType} {nm : String}
theorem Cx.hx (K : Cx Z p s m meth c own bytes maxL ret nm) : p.tables.exec = Jvm.exec := K.1
theorem Cx.by' (K : Cx Z p s m meth c own bytes maxL ret nm) : c.code = bytes := K.2.1
theorem Cx.ml (K : Cx Z p s m meth c own bytes maxL ret nm) : c.maxLocals = maxL := K.2.2.1
theorem Cx.rt (K : Cx Z p s m meth c own bytes maxL ret nm) : meth.sig.returnType = ret := K.2.2.2.1
theorem Cx.hnm (K : Cx Z p s m meth c own bytes maxL ret nm) : meth.name = nm := K.2.2.2.2.1
theorem Cx.lk (K : Cx Z p s m meth c own bytes maxL ret nm) : meth.locks = false := K.2.2.2.2.2.1
theorem Cx.hZ (K : Cx Z p s m meth c own bytes maxL ret nm) : Z.Warmed39 s.vm := K.2.2.2.2.2.2.1
theorem Cx.hown (K : Cx Z p s m meth c own bytes maxL ret nm) : s.vm.findClass own = some m.cls := K.2.2.2.2.2.2.2
end Acc
/-- the end of a walk -/
def Fini (s : State) (R : Room) (Q : Option Value → Heap → List Loc → Prop) (U : State) (o : Outcome) : Prop := ∃ v L, o = .returned v ∧ Q v U.heap L ∧ FrameEnd s o U L R.cells R.slots
/-- a body's contract, at the heap h0, for the arguments as' -/
def Con (l : Launch) (Z : State) (y : MethodName) (bytes : ByteArray) (maxL : Nat) (ret : Option FieldType) (rm : Room) (as' : Array Value) (h0 : Heap) (Q : Option Value → Heap → List Loc → Prop) : Prop :=
  ∀ ws : List Cond, MetFree l y (head1 (Cond.code y bytes maxL ret :: ws) rm) (fun a U => a = as' ∧ Z.Warmed39 U.vm ∧ U.heap = h0) (fun _ _ _ _ _ => True) (fun _ U o U' => ∃ v L, o = .returned v ∧ Q v U'.heap L ∧ FrameEnd U o U' L rm.cells rm.slots)
theorem Con.of {l : Launch} {Z : State} {y : MethodName} {bytes : ByteArray} {maxL : Nat} {ret : Option FieldType} {rm : Room} {as' : Array Value} {h0 : Heap} {Q : Option Value → Heap → List Loc → Prop} (hp : plainFor y = true) {Ls : Array Slot} (hE : ∀ m, entryFrame m as' maxL = mkF m 0 Ls [])
    (body : ∀ (p : Program) (e : Env) (s : State) (m : MethodId) (below : List Frame) (meth : Method) (c : Code) (T : State), Cx Z p s m meth c y.cls bytes maxL ret y.name → Stand p l e rm s m as' below meth c T [] 0 0 → T.heap = h0 → Goes p e below (Fini s rm Q) T (mkF m 0 Ls [])) : Con l Z y bytes maxL ret rm as' h0 Q := by
  intro ws
  refine MetFree.of_bodySF hp hisR ?_
  intro p e s m args below meth c s₁ Bd hml0 hP hK
  obtain ⟨rfl, hZ, hh⟩ := hP
  obtain ⟨U, o, h1, h2, h3, h4⟩ := body p e s m below meth c s₁ ⟨Bd.exec, Bd.bytes, hml0, Bd.returns, (name_of_methodNamed Bd.named Bd.method).1, Bd.notSynchronized, hZ, findClass_of_methodNamed Bd.named⟩ (Stand.of_body Bd) (by rw [← hh, Bd.state]; rfl)
  rw [← hE m] at h1
  exact ⟨U, o, h1, h2, h3, h4⟩
theorem Con.mono {l : Launch} {Z : State} {y : MethodName} {bytes : ByteArray} {maxL : Nat} {ret : Option FieldType} {rm : Room} {as' : Array Value} {h0 : Heap} {Q Q' : Option Value → Heap → List Loc → Prop} (K : Con l Z y bytes maxL ret rm as' h0 Q) (q : ∀ v h L, Q v h L → Q' v h L) : Con l Z y bytes maxL ret rm as' h0 Q' := by
  intro ws p e ha hc hk s m args below hf happ hP hK
  obtain ⟨n, o, h1, h2, h3, v, L, h4, h5, h6⟩ := K ws p e ha hc hk s m args below hf happ hP hK
  exact ⟨n, o, h1, h2, h3, v, L, h4, q _ _ _ h5, h6⟩
theorem and_l {a b : Prop} (h : a ∧ b) : a := h.1
section Steps

variable {Z : State} {p : Program} {l : Launch} {e : Env} {R : Room} {s : State} {m : MethodId} {args : Array Value} {below : List Frame} {meth : Method} {c : Code} {T : State} {locs : List Loc} {cells slots : Nat} {own : String} {bytes : ByteArray} {maxL : Nat} {ret : Option FieldType} {nm : String} {P : State → Outcome → Prop} {pc q : Nat} {Ls : Array Slot} {st : List Value} {h : Heap} {a0 : Array Value}
theorem s_iloadN (K : Cx Z p s m meth c own bytes maxL ret nm) (X : Stand p l e R s m args below meth c T locs cells slots) {k : Fin 4} {v : Int32} (hd : decode bytes pc = .ok (.iload_n k, 1)) (hl : Ls[k.val]? = some (.val (.int v))) (hq : pc + 1 = q) (h : Goes p e below P T (mkF m q Ls (.int v :: st))) : Goes p e below P T (mkF m pc Ls (st)) := by
  subst hq; exact Goes.st (fun _ k => XS.iloadN X.here K.hx rfl (hb K.by' hd) hl k) h
theorem s_iload (K : Cx Z p s m meth c own bytes maxL ret nm) (X : Stand p l e R s m args below meth c T locs cells slots) {k : Nat} {v : Int32} (hd : decode bytes pc = .ok (.iload k, 2)) (hl : Ls[k]? = some (.val (.int v))) (hq : pc + 2 = q) (h : Goes p e below P T (mkF m q Ls (.int v :: st))) : Goes p e below P T (mkF m pc Ls (st)) := by
  subst hq; exact Goes.st (fun _ k => XS.iload X.here K.hx rfl (hb K.by' hd) hl k) h
theorem s_aloadN (K : Cx Z p s m meth c own bytes maxL ret nm) (X : Stand p l e R s m args below meth c T locs cells slots) {k : Fin 4} {v : Value} (hd : decode bytes pc = .ok (.aload_n k, 1)) (hl : Ls[k.val]? = some (.val v)) (hv : v.isRef = true) (hq : pc + 1 = q) (h : Goes p e below P T (mkF m q Ls (v :: st))) : Goes p e below P T (mkF m pc Ls (st)) := by
  subst hq; exact Goes.st (fun _ k => XS.aloadN X.here K.hx rfl (hb K.by' hd) hl hv k) h
theorem s_aload (K : Cx Z p s m meth c own bytes maxL ret nm) (X : Stand p l e R s m args below meth c T locs cells slots) {k : Nat} {v : Value} (hd : decode bytes pc = .ok (.aload k, 2)) (hl : Ls[k]? = some (.val v)) (hv : v.isRef = true) (hq : pc + 2 = q) (h : Goes p e below P T (mkF m q Ls (v :: st))) : Goes p e below P T (mkF m pc Ls (st)) := by
  subst hq; exact Goes.st (fun _ k => XS.aload X.here K.hx rfl (hb K.by' hd) hl hv k) h
theorem s_istoreN (K : Cx Z p s m meth c own bytes maxL ret nm) (X : Stand p l e R s m args below meth c T locs cells slots) {k : Fin 4} {x : Int32} {l' : Array Slot} (hd : decode bytes pc = .ok (.istore_n k, 1)) (hl : storeLocals Ls k.val (.int x) = some l') (hq : pc + 1 = q) (h : Goes p e below P T (mkF m q l' (st))) : Goes p e below P T (mkF m pc Ls (.int x :: st)) := by
  subst hq; exact Goes.st (fun _ k => XS.istoreN X.here K.hx rfl (hb K.by' hd) rfl hl k) h
theorem s_istore (K : Cx Z p s m meth c own bytes maxL ret nm) (X : Stand p l e R s m args below meth c T locs cells slots) {k : Nat} {x : Int32} {l' : Array Slot} (hd : decode bytes pc = .ok (.istore k, 2)) (hl : storeLocals Ls k (.int x) = some l') (hq : pc + 2 = q) (h : Goes p e below P T (mkF m q l' (st))) : Goes p e below P T (mkF m pc Ls (.int x :: st)) := by
  subst hq; exact Goes.st (fun _ k => XS.istore X.here K.hx rfl (hb K.by' hd) rfl hl k) h
theorem s_astoreN (K : Cx Z p s m meth c own bytes maxL ret nm) (X : Stand p l e R s m args below meth c T locs cells slots) {k : Fin 4} {x : Value} {l' : Array Slot} (hd : decode bytes pc = .ok (.astore_n k, 1)) (hv : x.isRef = true) (hl : storeLocals Ls k.val x = some l') (hq : pc + 1 = q) (h : Goes p e below P T (mkF m q l' (st))) : Goes p e below P T (mkF m pc Ls (x :: st)) := by
  subst hq; exact Goes.st (fun _ k => XS.astoreN X.here K.hx rfl (hb K.by' hd) rfl hv hl k) h
theorem s_astore (K : Cx Z p s m meth c own bytes maxL ret nm) (X : Stand p l e R s m args below meth c T locs cells slots) {k : Nat} {x : Value} {l' : Array Slot} (hd : decode bytes pc = .ok (.astore k, 2)) (hv : x.isRef = true) (hl : storeLocals Ls k x = some l') (hq : pc + 2 = q) (h : Goes p e below P T (mkF m q l' (st))) : Goes p e below P T (mkF m pc Ls (x :: st)) := by
  subst hq; exact Goes.st (fun _ k => XS.astore X.here K.hx rfl (hb K.by' hd) rfl hv hl k) h
theorem s_iconst (K : Cx Z p s m meth c own bytes maxL ret nm) (X : Stand p l e R s m args below meth c T locs cells slots) {i : Int} {z : Int32} (hd : decode bytes pc = .ok (.iconst i, 1)) (hz : Int32.ofInt i = z) (hq : pc + 1 = q) (h : Goes p e below P T (mkF m q Ls (.int z :: st))) : Goes p e below P T (mkF m pc Ls (st)) := by
  subst hq; exact Goes.st (fun _ k => XS.iconst X.here K.hx rfl (hb K.by' hd) (by rw [hz]; exact k)) h
theorem s_bipush (K : Cx Z p s m meth c own bytes maxL ret nm) (X : Stand p l e R s m args below meth c T locs cells slots) {i : Int} {z : Int32} (hd : decode bytes pc = .ok (.bipush i, 2)) (hz : (Int8.ofInt i).toInt32 = z) (hq : pc + 2 = q) (h : Goes p e below P T (mkF m q Ls (.int z :: st))) : Goes p e below P T (mkF m pc Ls (st)) := by
  subst hq; exact Goes.st (fun _ k => XS.bipush X.here K.hx rfl (hb K.by' hd) (by rw [hz]; exact k)) h
theorem s_sipush (K : Cx Z p s m meth c own bytes maxL ret nm) (X : Stand p l e R s m args below meth c T locs cells slots) {i : Int} {z : Int32} (hd : decode bytes pc = .ok (.sipush i, 3)) (hz : (Int16.ofInt i).toInt32 = z) (hq : pc + 3 = q) (h : Goes p e below P T (mkF m q Ls (.int z :: st))) : Goes p e below P T (mkF m pc Ls (st)) := by
  subst hq; exact Goes.st (fun _ k => XS.sipush X.here K.hx rfl (hb K.by' hd) (by rw [hz]; exact k)) h
theorem s_ldcI (K : Cx Z p s m meth c own bytes maxL ret nm) (X : Stand p l e R s m args below meth c T locs cells slots) {i : Nat} {v : Int32} (hd : decode bytes pc = .ok (.ldc i, 2)) (w : (Cond.constant own i v).before a0 Z = true) (hq : pc + 2 = q) (h : Goes p e below P T (mkF m q Ls (.int v :: st))) : Goes p e below P T (mkF m pc Ls (st)) := by
  subst hq; exact Goes.st (fun _ k => X.ldcI K.hx K.hown (mvT K.hZ w) rfl (hb K.by' hd) k) h
theorem s_anull (K : Cx Z p s m meth c own bytes maxL ret nm) (X : Stand p l e R s m args below meth c T locs cells slots)  (hd : decode bytes pc = .ok (.aconst_null, 1))  (hq : pc + 1 = q) (h : Goes p e below P T (mkF m q Ls (.null :: st))) : Goes p e below P T (mkF m pc Ls (st)) := by
  subst hq; exact Goes.st (fun _ k => XS.aconstNull X.here K.hx rfl (hb K.by' hd) k) h
theorem s_iadd (K : Cx Z p s m meth c own bytes maxL ret nm) (X : Stand p l e R s m args below meth c T locs cells slots) {x y : Int32} (hd : decode bytes pc = .ok (.iadd, 1))  (hq : pc + 1 = q) (h : Goes p e below P T (mkF m q Ls (.int (x + y) :: st))) : Goes p e below P T (mkF m pc Ls (.int y :: .int x :: st)) := by
  subst hq; exact Goes.st (fun _ k => XS.iadd X.here K.hx rfl (hb K.by' hd) rfl k) h
theorem s_isub (K : Cx Z p s m meth c own bytes maxL ret nm) (X : Stand p l e R s m args below meth c T locs cells slots) {x y : Int32} (hd : decode bytes pc = .ok (.isub, 1))  (hq : pc + 1 = q) (h : Goes p e below P T (mkF m q Ls (.int (x - y) :: st))) : Goes p e below P T (mkF m pc Ls (.int y :: .int x :: st)) := by
  subst hq; exact Goes.st (fun _ k => XS.isub X.here K.hx rfl (hb K.by' hd) rfl k) h
theorem s_iand (K : Cx Z p s m meth c own bytes maxL ret nm) (X : Stand p l e R s m args below meth c T locs cells slots) {x y : Int32} (hd : decode bytes pc = .ok (.iand, 1))  (hq : pc + 1 = q) (h : Goes p e below P T (mkF m q Ls (.int (x &&& y) :: st))) : Goes p e below P T (mkF m pc Ls (.int y :: .int x :: st)) := by
  subst hq; exact Goes.st (fun _ k => XS.iand X.here K.hx rfl (hb K.by' hd) rfl k) h
theorem s_ishr (K : Cx Z p s m meth c own bytes maxL ret nm) (X : Stand p l e R s m args below meth c T locs cells slots) {x y : Int32} (hd : decode bytes pc = .ok (.ishr, 1))  (hq : pc + 1 = q) (h : Goes p e below P T (mkF m q Ls (.int (x >>> (y &&& 31)) :: st))) : Goes p e below P T (mkF m pc Ls (.int y :: .int x :: st)) := by
  subst hq; exact Goes.st (fun _ k => XT.ishr X.here K.hx rfl (hb K.by' hd) rfl k) h
theorem s_iushr (K : Cx Z p s m meth c own bytes maxL ret nm) (X : Stand p l e R s m args below meth c T locs cells slots) {x y : Int32} (hd : decode bytes pc = .ok (.iushr, 1))  (hq : pc + 1 = q) (h : Goes p e below P T (mkF m q Ls (.int (XT.ushr x y) :: st))) : Goes p e below P T (mkF m pc Ls (.int y :: .int x :: st)) := by
  subst hq; exact Goes.st (fun _ k => XT.iushr X.here K.hx rfl (hb K.by' hd) rfl k) h
theorem s_irem (K : Cx Z p s m meth c own bytes maxL ret nm) (X : Stand p l e R s m args below meth c T locs cells slots) {x y : Int32} (hd : decode bytes pc = .ok (.irem, 1)) (hy : y ≠ 0) (hq : pc + 1 = q) (h : Goes p e below P T (mkF m q Ls (.int (x % y) :: st))) : Goes p e below P T (mkF m pc Ls (.int y :: .int x :: st)) := by
  subst hq; exact Goes.st (fun _ k => iremM X K.hx rfl (hb K.by' hd) rfl hy k) h
theorem s_i2b (K : Cx Z p s m meth c own bytes maxL ret nm) (X : Stand p l e R s m args below meth c T locs cells slots) {x : Int32} (hd : decode bytes pc = .ok (.i2b, 1))  (hq : pc + 1 = q) (h : Goes p e below P T (mkF m q Ls (.int (x.toInt8.toInt32) :: st))) : Goes p e below P T (mkF m pc Ls (.int x :: st)) := by
  subst hq; exact Goes.st (fun _ k => XT.i2b X.here K.hx rfl (hb K.by' hd) rfl k) h
theorem s_dup (K : Cx Z p s m meth c own bytes maxL ret nm) (X : Stand p l e R s m args below meth c T locs cells slots) {x : Value} (hd : decode bytes pc = .ok (.dup, 1)) (hc : x.category = 1) (hq : pc + 1 = q) (h : Goes p e below P T (mkF m q Ls (x :: x :: st))) : Goes p e below P T (mkF m pc Ls (x :: st)) := by
  subst hq; exact Goes.st (fun _ k => XS.dup X.here K.hx rfl (hb K.by' hd) rfl hc k) h
theorem s_pop (K : Cx Z p s m meth c own bytes maxL ret nm) (X : Stand p l e R s m args below meth c T locs cells slots) {x : Value} (hd : decode bytes pc = .ok (.pop, 1)) (hc : x.category = 1) (hq : pc + 1 = q) (h : Goes p e below P T (mkF m q Ls (st))) : Goes p e below P T (mkF m pc Ls (x :: st)) := by
  subst hq; exact Goes.st (fun _ k => XT.pop X.here K.hx rfl (hb K.by' hd) rfl hc k) h
theorem s_dupX1 (K : Cx Z p s m meth c own bytes maxL ret nm) (X : Stand p l e R s m args below meth c T locs cells slots) {x y : Value} (hd : decode bytes pc = .ok (.dup_x1, 1)) (hc : x.category = 1) (hc' : y.category = 1) (hq : pc + 1 = q) (h : Goes p e below P T (mkF m q Ls (x :: y :: x :: st))) : Goes p e below P T (mkF m pc Ls (x :: y :: st)) := by
  subst hq; exact Goes.st (fun _ k => XT.dupX1 X.here K.hx rfl (hb K.by' hd) rfl hc hc' k) h
theorem s_iinc (K : Cx Z p s m meth c own bytes maxL ret nm) (X : Stand p l e R s m args below meth c T locs cells slots) {k : Nat} {cst : Int} {x : Int32} {l' : Array Slot} (hd : decode bytes pc = .ok (.iinc k cst, 3)) (hl : Ls[k]? = some (.val (.int x))) (hl' : storeLocals Ls k (.int (x + Int32.ofInt cst)) = some l') (hq : pc + 3 = q) (h : Goes p e below P T (mkF m q l' (st))) : Goes p e below P T (mkF m pc Ls (st)) := by
  subst hq; exact Goes.st (fun _ k => XS.iinc X.here K.hx rfl (hb K.by' hd) hl hl' k) h
theorem s_goto (K : Cx Z p s m meth c own bytes maxL ret nm) (X : Stand p l e R s m args below meth c T locs cells slots) {o : Int} (hd : decode bytes pc = .ok (.goto o, 3)) (ho : 0 ≤ (pc : Int) + o) (hp : ((pc : Int) + o).toNat = q) (h : Goes p e below P T (mkF m q Ls st)) : Goes p e below P T (mkF m pc Ls st) :=
  Goes.st (fun _ k => XS.goto X.here K.hx rfl rfl (hb K.by' hd) ho hp k) h
theorem s_icmp_eq (K : Cx Z p s m meth c own bytes maxL ret nm) (X : Stand p l e R s m args below meth c T locs cells slots) {x y : Int32} {o : Int} {q' : Nat} (hd : decode bytes pc = .ok (.if_icmp .eq o, 3)) (ho : 0 ≤ (pc : Int) + o) (hp : ((pc : Int) + o).toNat = q) (hq : pc + 3 = q') (hy : x = y → Goes p e below P T (mkF m q Ls st)) (hn : ¬ x = y → Goes p e below P T (mkF m q' Ls st)) : Goes p e below P T (mkF m pc Ls (.int y :: .int x :: st)) := by
  subst hq
  by_cases z : x = y
  · exact Goes.st (fun _ k => XS.icmpYes X.here K.hx rfl rfl (hb K.by' hd) rfl (XT.ii_eq_t z) ho hp k) (hy z)
  · exact Goes.st (fun _ k => XS.icmpNo X.here K.hx rfl (hb K.by' hd) rfl (XT.ii_eq_f (by simpa using z)) k) (hn (by simpa using z))
theorem s_if_eq (K : Cx Z p s m meth c own bytes maxL ret nm) (X : Stand p l e R s m args below meth c T locs cells slots) {x : Int32} {o : Int} {q' : Nat} (hd : decode bytes pc = .ok (.ifCond .eq o, 3)) (ho : 0 ≤ (pc : Int) + o) (hp : ((pc : Int) + o).toNat = q) (hq : pc + 3 = q') (hy : x = 0 → Goes p e below P T (mkF m q Ls st)) (hn : ¬ x = 0 → Goes p e below P T (mkF m q' Ls st)) : Goes p e below P T (mkF m pc Ls (.int x :: st)) := by
  subst hq
  by_cases z : x = 0
  · exact Goes.st (fun _ k => XS.ifYes X.here K.hx rfl rfl (hb K.by' hd) rfl (XT.i0_eq_t z) ho hp k) (hy z)
  · exact Goes.st (fun _ k => XS.ifNo X.here K.hx rfl (hb K.by' hd) rfl (XT.i0_eq_f (by simpa using z)) k) (hn (by simpa using z))
theorem s_icmp_ne (K : Cx Z p s m meth c own bytes maxL ret nm) (X : Stand p l e R s m args below meth c T locs cells slots) {x y : Int32} {o : Int} {q' : Nat} (hd : decode bytes pc = .ok (.if_icmp .ne o, 3)) (ho : 0 ≤ (pc : Int) + o) (hp : ((pc : Int) + o).toNat = q) (hq : pc + 3 = q') (hy : ¬ x = y → Goes p e below P T (mkF m q Ls st)) (hn : x = y → Goes p e below P T (mkF m q' Ls st)) : Goes p e below P T (mkF m pc Ls (.int y :: .int x :: st)) := by
  subst hq
  by_cases z : ¬ x = y
  · exact Goes.st (fun _ k => XS.icmpYes X.here K.hx rfl rfl (hb K.by' hd) rfl (XT.ii_ne_t z) ho hp k) (hy z)
  · exact Goes.st (fun _ k => XS.icmpNo X.here K.hx rfl (hb K.by' hd) rfl (XT.ii_ne_f (by simpa using z)) k) (hn (by simpa using z))
theorem s_if_ne (K : Cx Z p s m meth c own bytes maxL ret nm) (X : Stand p l e R s m args below meth c T locs cells slots) {x : Int32} {o : Int} {q' : Nat} (hd : decode bytes pc = .ok (.ifCond .ne o, 3)) (ho : 0 ≤ (pc : Int) + o) (hp : ((pc : Int) + o).toNat = q) (hq : pc + 3 = q') (hy : ¬ x = 0 → Goes p e below P T (mkF m q Ls st)) (hn : x = 0 → Goes p e below P T (mkF m q' Ls st)) : Goes p e below P T (mkF m pc Ls (.int x :: st)) := by
  subst hq
  by_cases z : ¬ x = 0
  · exact Goes.st (fun _ k => XS.ifYes X.here K.hx rfl rfl (hb K.by' hd) rfl (XT.i0_ne_t z) ho hp k) (hy z)
  · exact Goes.st (fun _ k => XS.ifNo X.here K.hx rfl (hb K.by' hd) rfl (XT.i0_ne_f (by simpa using z)) k) (hn (by simpa using z))
theorem s_icmp_lt (K : Cx Z p s m meth c own bytes maxL ret nm) (X : Stand p l e R s m args below meth c T locs cells slots) {x y : Int32} {o : Int} {q' : Nat} (hd : decode bytes pc = .ok (.if_icmp .lt o, 3)) (ho : 0 ≤ (pc : Int) + o) (hp : ((pc : Int) + o).toNat = q) (hq : pc + 3 = q') (hy : x < y → Goes p e below P T (mkF m q Ls st)) (hn : ¬ x < y → Goes p e below P T (mkF m q' Ls st)) : Goes p e below P T (mkF m pc Ls (.int y :: .int x :: st)) := by
  subst hq
  by_cases z : x < y
  · exact Goes.st (fun _ k => XS.icmpYes X.here K.hx rfl rfl (hb K.by' hd) rfl (XT.ii_lt_t z) ho hp k) (hy z)
  · exact Goes.st (fun _ k => XS.icmpNo X.here K.hx rfl (hb K.by' hd) rfl (XT.ii_lt_f (by simpa using z)) k) (hn (by simpa using z))
theorem s_if_lt (K : Cx Z p s m meth c own bytes maxL ret nm) (X : Stand p l e R s m args below meth c T locs cells slots) {x : Int32} {o : Int} {q' : Nat} (hd : decode bytes pc = .ok (.ifCond .lt o, 3)) (ho : 0 ≤ (pc : Int) + o) (hp : ((pc : Int) + o).toNat = q) (hq : pc + 3 = q') (hy : x < 0 → Goes p e below P T (mkF m q Ls st)) (hn : ¬ x < 0 → Goes p e below P T (mkF m q' Ls st)) : Goes p e below P T (mkF m pc Ls (.int x :: st)) := by
  subst hq
  by_cases z : x < 0
  · exact Goes.st (fun _ k => XS.ifYes X.here K.hx rfl rfl (hb K.by' hd) rfl (XT.i0_lt_t z) ho hp k) (hy z)
  · exact Goes.st (fun _ k => XS.ifNo X.here K.hx rfl (hb K.by' hd) rfl (XT.i0_lt_f (by simpa using z)) k) (hn (by simpa using z))
theorem s_icmp_ge (K : Cx Z p s m meth c own bytes maxL ret nm) (X : Stand p l e R s m args below meth c T locs cells slots) {x y : Int32} {o : Int} {q' : Nat} (hd : decode bytes pc = .ok (.if_icmp .ge o, 3)) (ho : 0 ≤ (pc : Int) + o) (hp : ((pc : Int) + o).toNat = q) (hq : pc + 3 = q') (hy : ¬ x < y → Goes p e below P T (mkF m q Ls st)) (hn : x < y → Goes p e below P T (mkF m q' Ls st)) : Goes p e below P T (mkF m pc Ls (.int y :: .int x :: st)) := by
  subst hq
  by_cases z : ¬ x < y
  · exact Goes.st (fun _ k => XS.icmpYes X.here K.hx rfl rfl (hb K.by' hd) rfl (XT.ii_ge_t z) ho hp k) (hy z)
  · exact Goes.st (fun _ k => XS.icmpNo X.here K.hx rfl (hb K.by' hd) rfl (XT.ii_ge_f (by simpa using z)) k) (hn (by simpa using z))
theorem s_if_ge (K : Cx Z p s m meth c own bytes maxL ret nm) (X : Stand p l e R s m args below meth c T locs cells slots) {x : Int32} {o : Int} {q' : Nat} (hd : decode bytes pc = .ok (.ifCond .ge o, 3)) (ho : 0 ≤ (pc : Int) + o) (hp : ((pc : Int) + o).toNat = q) (hq : pc + 3 = q') (hy : ¬ x < 0 → Goes p e below P T (mkF m q Ls st)) (hn : x < 0 → Goes p e below P T (mkF m q' Ls st)) : Goes p e below P T (mkF m pc Ls (.int x :: st)) := by
  subst hq
  by_cases z : ¬ x < 0
  · exact Goes.st (fun _ k => XS.ifYes X.here K.hx rfl rfl (hb K.by' hd) rfl (XT.i0_ge_t z) ho hp k) (hy z)
  · exact Goes.st (fun _ k => XS.ifNo X.here K.hx rfl (hb K.by' hd) rfl (XT.i0_ge_f (by simpa using z)) k) (hn (by simpa using z))
theorem s_icmp_gt (K : Cx Z p s m meth c own bytes maxL ret nm) (X : Stand p l e R s m args below meth c T locs cells slots) {x y : Int32} {o : Int} {q' : Nat} (hd : decode bytes pc = .ok (.if_icmp .gt o, 3)) (ho : 0 ≤ (pc : Int) + o) (hp : ((pc : Int) + o).toNat = q) (hq : pc + 3 = q') (hy : y < x → Goes p e below P T (mkF m q Ls st)) (hn : ¬ y < x → Goes p e below P T (mkF m q' Ls st)) : Goes p e below P T (mkF m pc Ls (.int y :: .int x :: st)) := by
  subst hq
  by_cases z : y < x
  · exact Goes.st (fun _ k => XS.icmpYes X.here K.hx rfl rfl (hb K.by' hd) rfl (XT.ii_gt_t z) ho hp k) (hy z)
  · exact Goes.st (fun _ k => XS.icmpNo X.here K.hx rfl (hb K.by' hd) rfl (XT.ii_gt_f (by simpa using z)) k) (hn (by simpa using z))
theorem s_if_gt (K : Cx Z p s m meth c own bytes maxL ret nm) (X : Stand p l e R s m args below meth c T locs cells slots) {x : Int32} {o : Int} {q' : Nat} (hd : decode bytes pc = .ok (.ifCond .gt o, 3)) (ho : 0 ≤ (pc : Int) + o) (hp : ((pc : Int) + o).toNat = q) (hq : pc + 3 = q') (hy : 0 < x → Goes p e below P T (mkF m q Ls st)) (hn : ¬ 0 < x → Goes p e below P T (mkF m q' Ls st)) : Goes p e below P T (mkF m pc Ls (.int x :: st)) := by
  subst hq
  by_cases z : 0 < x
  · exact Goes.st (fun _ k => XS.ifYes X.here K.hx rfl rfl (hb K.by' hd) rfl (XT.i0_gt_t z) ho hp k) (hy z)
  · exact Goes.st (fun _ k => XS.ifNo X.here K.hx rfl (hb K.by' hd) rfl (XT.i0_gt_f (by simpa using z)) k) (hn (by simpa using z))
theorem s_icmp_le (K : Cx Z p s m meth c own bytes maxL ret nm) (X : Stand p l e R s m args below meth c T locs cells slots) {x y : Int32} {o : Int} {q' : Nat} (hd : decode bytes pc = .ok (.if_icmp .le o, 3)) (ho : 0 ≤ (pc : Int) + o) (hp : ((pc : Int) + o).toNat = q) (hq : pc + 3 = q') (hy : ¬ y < x → Goes p e below P T (mkF m q Ls st)) (hn : y < x → Goes p e below P T (mkF m q' Ls st)) : Goes p e below P T (mkF m pc Ls (.int y :: .int x :: st)) := by
  subst hq
  by_cases z : ¬ y < x
  · exact Goes.st (fun _ k => XS.icmpYes X.here K.hx rfl rfl (hb K.by' hd) rfl (XT.ii_le_t z) ho hp k) (hy z)
  · exact Goes.st (fun _ k => XS.icmpNo X.here K.hx rfl (hb K.by' hd) rfl (XT.ii_le_f (by simpa using z)) k) (hn (by simpa using z))
theorem s_if_le (K : Cx Z p s m meth c own bytes maxL ret nm) (X : Stand p l e R s m args below meth c T locs cells slots) {x : Int32} {o : Int} {q' : Nat} (hd : decode bytes pc = .ok (.ifCond .le o, 3)) (ho : 0 ≤ (pc : Int) + o) (hp : ((pc : Int) + o).toNat = q) (hq : pc + 3 = q') (hy : ¬ 0 < x → Goes p e below P T (mkF m q Ls st)) (hn : 0 < x → Goes p e below P T (mkF m q' Ls st)) : Goes p e below P T (mkF m pc Ls (.int x :: st)) := by
  subst hq
  by_cases z : ¬ 0 < x
  · exact Goes.st (fun _ k => XS.ifYes X.here K.hx rfl rfl (hb K.by' hd) rfl (XT.i0_le_t z) ho hp k) (hy z)
  · exact Goes.st (fun _ k => XS.ifNo X.here K.hx rfl (hb K.by' hd) rfl (XT.i0_le_f (by simpa using z)) k) (hn (by simpa using z))
theorem s_acmp_eq (K : Cx Z p s m meth c own bytes maxL ret nm) (X : Stand p l e R s m args below meth c T locs cells slots) {x y : Value} {o : Int} {q' : Nat} (hd : decode bytes pc = .ok (.if_acmp .eq o, 3)) (h1 : x.isRef = true) (h2 : y.isRef = true) (ho : 0 ≤ (pc : Int) + o) (hp : ((pc : Int) + o).toNat = q) (hq : pc + 3 = q') (hy : x = y → Goes p e below P T (mkF m q Ls st)) (hn : ¬ x = y → Goes p e below P T (mkF m q' Ls st)) : Goes p e below P T (mkF m pc Ls (y :: x :: st)) := by
  subst hq
  by_cases z : x = y
  · exact Goes.st (fun _ k => XT.acmpYes X.here K.hx rfl rfl (hb K.by' hd) rfl h1 h2 (XT.aa_eq_t z) ho hp k) (hy z)
  · exact Goes.st (fun _ k => XT.acmpNo X.here K.hx rfl (hb K.by' hd) rfl h1 h2 (XT.aa_eq_f (by simpa using z)) k) (hn (by simpa using z))
theorem s_acmp_ne (K : Cx Z p s m meth c own bytes maxL ret nm) (X : Stand p l e R s m args below meth c T locs cells slots) {x y : Value} {o : Int} {q' : Nat} (hd : decode bytes pc = .ok (.if_acmp .ne o, 3)) (h1 : x.isRef = true) (h2 : y.isRef = true) (ho : 0 ≤ (pc : Int) + o) (hp : ((pc : Int) + o).toNat = q) (hq : pc + 3 = q') (hy : ¬ x = y → Goes p e below P T (mkF m q Ls st)) (hn : x = y → Goes p e below P T (mkF m q' Ls st)) : Goes p e below P T (mkF m pc Ls (y :: x :: st)) := by
  subst hq
  by_cases z : ¬ x = y
  · exact Goes.st (fun _ k => XT.acmpYes X.here K.hx rfl rfl (hb K.by' hd) rfl h1 h2 (XT.aa_ne_t z) ho hp k) (hy z)
  · exact Goes.st (fun _ k => XT.acmpNo X.here K.hx rfl (hb K.by' hd) rfl h1 h2 (XT.aa_ne_f (by simpa using z)) k) (hn (by simpa using z))
theorem s_ifnull (K : Cx Z p s m meth c own bytes maxL ret nm) (X : Stand p l e R s m args below meth c T locs cells slots) {x : Value} {o : Int} {q' : Nat} (hd : decode bytes pc = .ok (.ifnull o, 3)) (h1 : x.isRef = true) (ho : 0 ≤ (pc : Int) + o) (hp : ((pc : Int) + o).toNat = q) (hq : pc + 3 = q') (hy : x = .null → Goes p e below P T (mkF m q Ls st)) (hn : ¬ x = .null → Goes p e below P T (mkF m q' Ls st)) : Goes p e below P T (mkF m pc Ls (x :: st)) := by
  subst hq
  by_cases z : x = .null
  · exact Goes.st (fun _ k => XT.nullYes X.here K.hx rfl rfl (hb K.by' hd) rfl z ho hp k) (hy z)
  · exact Goes.st (fun _ k => XT.nullNo X.here K.hx rfl (hb K.by' hd) rfl h1 z k) (hn (by simpa using z))
theorem s_ifnonnull (K : Cx Z p s m meth c own bytes maxL ret nm) (X : Stand p l e R s m args below meth c T locs cells slots) {x : Value} {o : Int} {q' : Nat} (hd : decode bytes pc = .ok (.ifnonnull o, 3)) (h1 : x.isRef = true) (ho : 0 ≤ (pc : Int) + o) (hp : ((pc : Int) + o).toNat = q) (hq : pc + 3 = q') (hy : ¬ x = .null → Goes p e below P T (mkF m q Ls st)) (hn : x = .null → Goes p e below P T (mkF m q' Ls st)) : Goes p e below P T (mkF m pc Ls (x :: st)) := by
  subst hq
  by_cases z : ¬ x = .null
  · exact Goes.st (fun _ k => XT.nonnullYes X.here K.hx rfl rfl (hb K.by' hd) rfl h1 z ho hp k) (hy z)
  · exact Goes.st (fun _ k => XT.nonnullNo X.here K.hx rfl (hb K.by' hd) rfl (by simpa using z) k) (hn (by simpa using z))
theorem s_tsw (K : Cx Z p s m meth c own bytes maxL ret nm) (X : Stand p l e R s m args below meth c T locs cells slots) {dflt low high : Int} {offs : Array Int} {len : Nat} {o : Int} {i : Int32} (hd : decode bytes pc = .ok (.tableswitch dflt low high offs, len)) (hin : ¬ (i.toInt < low ∨ i.toInt > high)) (hoff : offs[(i.toInt - low).toNat]? = some o) (ho : 0 ≤ (pc : Int) + o) (hp : ((pc : Int) + o).toNat = q) (h : Goes p e below P T (mkF m q Ls st)) : Goes p e below P T (mkF m pc Ls (.int i :: st)) :=
  Goes.st (fun _ k => XS.tswIn X.here K.hx rfl rfl (hb K.by' hd) rfl hin hoff ho hp k) h
theorem s_getS (K : Cx Z p s m meth c own bytes maxL ret nm) (X : Stand p l e R s m args below meth c T locs cells slots) {C n d : String} {i : Nat} {v : Value} (hd : decode bytes pc = .ok (.getstatic i, 3)) (w : (Cond.fieldLink own i C n d).before a0 Z = true) (eT : T.heap = h) (F : Sta Z h C n d v) (hq : pc + 3 = q)
    (k : ∀ T', Stand p l e R s m args below meth c T' locs cells slots → T'.heap = h → Goes p e below P T' (mkF m q Ls (v :: st))) : Goes p e below P T (mkF m pc Ls st) := by
  subst hq
  obtain ⟨T', X', e', st'⟩ := getS (host := "") X K.hx K.hZ K.hown w Via.refl eT F (g := mkF m pc Ls st) rfl (hb K.by' hd)
  exact Goes.st st' (k T' X' e')
theorem s_getSN (K : Cx Z p s m meth c own bytes maxL ret nm) (X : Stand p l e R s m args below meth c T locs cells slots) {C n d host : String} {i : Nat} {v : Value} (hd : decode bytes pc = .ok (.getstatic i, 3)) (w : (Cond.fieldLinkNest own i C n d host).before a0 Z = true) (eT : T.heap = h) (F : Sta Z h C n d v) (hq : pc + 3 = q)
    (k : ∀ T', Stand p l e R s m args below meth c T' locs cells slots → T'.heap = h → Goes p e below P T' (mkF m q Ls (v :: st))) : Goes p e below P T (mkF m pc Ls st) := by
  subst hq
  obtain ⟨T', X', e', st'⟩ := getS2 X K.hx K.hZ K.hown (Or.inr w) Via.refl eT F (g := mkF m pc Ls st) rfl (hb K.by' hd)
  exact Goes.st st' (k T' X' e')
theorem s_getF (K : Cx Z p s m meth c own bytes maxL ret nm) (X : Stand p l e R s m args below meth c T locs cells slots) {C n d : String} {i : Nat} {a : Addr} {v : Value} (hd : decode bytes pc = .ok (.getfield i, 3)) (w : (Cond.fieldLink own i C n d).before a0 Z = true) (eT : T.heap = h) (F : Fld Z h a C n d v) (hq : pc + 3 = q)
    (k : ∀ T', Stand p l e R s m args below meth c T' locs cells slots → T'.heap = h → Goes p e below P T' (mkF m q Ls (v :: st))) : Goes p e below P T (mkF m pc Ls (.ref a :: st)) := by
  subst hq
  obtain ⟨T', X', e', st'⟩ := getF X K.hx K.hZ K.hown (host := "") (Or.inl w) Via.refl eT F (g := mkF m pc Ls (.ref a :: st)) rfl rfl (hb K.by' hd)
  exact Goes.st st' (k T' X' e')
theorem s_getFV (K : Cx Z p s m meth c own bytes maxL ret nm) (X : Stand p l e R s m args below meth c T locs cells slots) {R0 C n d : String} {i : Nat} {a : Addr} {v : Value} (hd : decode bytes pc = .ok (.getfield i, 3)) (w : (Cond.fieldLink own i R0 n d).before a0 Z = true) (wv : (Cond.sameField R0 C n d).before a0 Z = true) (eT : T.heap = h) (F : Fld Z h a C n d v) (hq : pc + 3 = q)
    (k : ∀ T', Stand p l e R s m args below meth c T' locs cells slots → T'.heap = h → Goes p e below P T' (mkF m q Ls (v :: st))) : Goes p e below P T (mkF m pc Ls (.ref a :: st)) := by
  subst hq
  obtain ⟨T', X', e', st'⟩ := getF X K.hx K.hZ K.hown (host := "") (Or.inl w) (Via.of wv) eT F (g := mkF m pc Ls (.ref a :: st)) rfl rfl (hb K.by' hd)
  exact Goes.st st' (k T' X' e')
theorem s_getFN (K : Cx Z p s m meth c own bytes maxL ret nm) (X : Stand p l e R s m args below meth c T locs cells slots) {C n d host : String} {i : Nat} {a : Addr} {v : Value} (hd : decode bytes pc = .ok (.getfield i, 3)) (w : (Cond.fieldLinkNest own i C n d host).before a0 Z = true) (eT : T.heap = h) (F : Fld Z h a C n d v) (hq : pc + 3 = q)
    (k : ∀ T', Stand p l e R s m args below meth c T' locs cells slots → T'.heap = h → Goes p e below P T' (mkF m q Ls (v :: st))) : Goes p e below P T (mkF m pc Ls (.ref a :: st)) := by
  subst hq
  obtain ⟨T', X', e', st'⟩ := getF X K.hx K.hZ K.hown (Or.inr w) Via.refl eT F (g := mkF m pc Ls (.ref a :: st)) rfl rfl (hb K.by' hd)
  exact Goes.st st' (k T' X' e')
/-- putfield: a field that is no final one -/
theorem s_putF (K : Cx Z p s m meth c own bytes maxL ret nm) (X : Stand p l e R s m args below meth c T locs cells slots) {C D n d : String} {i kk : Nat} {ty : FieldType} {a : Addr} {v old : Value} (hd : decode bytes pc = .ok (.putfield i, 3)) (w : (Cond.fieldLink own i D n d).before a0 Z = true) (eT : T.heap = h) (F : Fld Z h a D n d old) (E : Exa Z h a C) (L : (Cond.lays C D n d).before a0 Z = true ∨ ((Cond.laysFinal C D n d).before a0 Z = true ∧ own = D ∧ nm = "<init>")) (wi : (Cond.instantiable C kk).before a0 Z = true) (hty : parseFieldDescriptor d = some ty) (hn : narrow ty v = v) (hf : fits ty v = true) (hq : pc + 3 = q)
    (k : ∀ T' h', Stand p l e R s m args below meth c T' (locs ++ [⟨a, RoadKit.slotOf Z D n d⟩]) cells slots → T'.heap = h' → Wr h h' a (RoadKit.slotOf Z D n d) v → Goes p e below P T' (mkF m q Ls st)) : Goes p e below P T (mkF m pc Ls (v :: .ref a :: st)) := by
  subst hq
  obtain ⟨T', h', X', e', W, st'⟩ := putF X K.hx K.hZ K.hown (host := "") (Or.inl w) Via.refl eT F E (L.imp id fun z => ⟨z.1, z.2.1, K.hnm.trans z.2.2⟩) wi hty hn hf (g := mkF m pc Ls (v :: .ref a :: st)) rfl rfl (hb K.by' hd)
  exact Goes.st st' (k T' h' X' e' W)
theorem s_putFNest (K : Cx Z p s m meth c own bytes maxL ret nm) (X : Stand p l e R s m args below meth c T locs cells slots) {C D n d host : String} {i kk : Nat} {ty : FieldType} {a : Addr} {v old : Value} (hd : decode bytes pc = .ok (.putfield i, 3)) (w : (Cond.fieldLinkNest own i D n d host).before a0 Z = true) (eT : T.heap = h) (F : Fld Z h a D n d old) (E : Exa Z h a C) (L : (Cond.lays C D n d).before a0 Z = true) (wi : (Cond.instantiable C kk).before a0 Z = true) (hty : parseFieldDescriptor d = some ty) (hn : narrow ty v = v) (hf : fits ty v = true) (hq : pc + 3 = q)
    (k : ∀ T' h', Stand p l e R s m args below meth c T' (locs ++ [⟨a, RoadKit.slotOf Z D n d⟩]) cells slots → T'.heap = h' → Wr h h' a (RoadKit.slotOf Z D n d) v → Goes p e below P T' (mkF m q Ls st)) : Goes p e below P T (mkF m pc Ls (v :: .ref a :: st)) := by
  subst hq
  obtain ⟨T', h', X', e', W, st'⟩ := putF X K.hx K.hZ K.hown (Or.inr w) Via.refl eT F E (Or.inl L) wi hty hn hf (g := mkF m pc Ls (v :: .ref a :: st)) rfl rfl (hb K.by' hd)
  exact Goes.st st' (k T' h' X' e' W)
theorem s_new (K : Cx Z p s m meth c own bytes maxL ret nm) (X : Stand p l e R s m args below meth c T locs cells slots) {C : String} {i n : Nat} (hd : decode bytes pc = .ok (.new i, 3)) (w : (Cond.classLink own i C).before a0 Z = true) (wi : (Cond.instantiable C n).before a0 Z = true) (wz : (Cond.initialized C).before a0 Z = true) (eT : T.heap = h) (hc : cells + 1 ≤ R.cells) (hl : slots + n ≤ R.slots) (hq : pc + 3 = q)
    (k : ∀ T' h' a, a = h.size → Stand p l e R s m args below meth c T' locs (cells + 1) (slots + n) → T'.heap = h' → Ext h h' → Exa Z h' a C → (∀ {O nm d : String} {ty : FieldType}, Laid Z a0 C O nm d → parseFieldDescriptor d = some ty → Fld Z h' a O nm d (defaultValue ty)) → Goes p e below P T' (mkF m q Ls (.ref a :: st))) : Goes p e below P T (mkF m pc Ls st) := by
  subst hq
  obtain ⟨T', h', X', e', E, A, D, -, st'⟩ := newO X K.hx K.hZ K.hown w wi wz eT (g := mkF m pc Ls st) rfl (hb K.by' hd) hc hl
  exact Goes.st st' (k T' h' h.size rfl X' e' E A D)
theorem s_newR (K : Cx Z p s m meth c own bytes maxL ret nm) (X : Stand p l e R s m args below meth c T locs cells slots) {C : String} {i : Nat} {n : Int32} (hd : decode bytes pc = .ok (.anewarray i, 3)) (w1 : (Cond.classLink own i C).before a0 Z = true) (w2 : (Cond.arrayOver (.object C)).before a0 Z = true) (eT : T.heap = h) (hn : ¬ n < 0) (cap : Nat) (hcap : n.toNatClampNeg ≤ cap) (hb' : cap * 8 ≤ 536870912) (hc : cells + 1 ≤ R.cells) (hl : slots + cap ≤ R.slots) (hq : pc + 3 = q)
    (k : ∀ T' h' a cA, a = h.size → Stand p l e R s m args below meth c T' locs (cells + 1) (slots + cap) → T'.heap = h' → Ext h h' → Arr Z h' a (newA cA (.object C) n) (.object C) → Ovr Z cA C → Goes p e below P T' (mkF m q Ls (.ref a :: st))) : Goes p e below P T (mkF m pc Ls (.int n :: st)) := by
  subst hq
  obtain ⟨T', h', cA, X', e', E, A, O, st'⟩ := newR X K.hx K.hZ K.hown w1 w2 eT (g := mkF m pc Ls (.int n :: st)) rfl (hb K.by' hd) rfl hn hcap hb' hc hl
  exact Goes.st st' (k T' h' h.size cA rfl X' e' E A O)
theorem s_newP (K : Cx Z p s m meth c own bytes maxL ret nm) (X : Stand p l e R s m args below meth c T locs cells slots) {aty : ArrayType} {n : Int32} (hd : decode bytes pc = .ok (.newarray aty, 2)) (w : (Cond.arrayClass (newarray.typeOf aty)).before a0 Z = true) (eT : T.heap = h) (hn : ¬ n < 0) (cap : Nat) (hcap : n.toNatClampNeg ≤ cap) (hb' : cap * 8 ≤ 536870912) (hc : cells + 1 ≤ R.cells) (hl : slots + cap ≤ R.slots) (hq : pc + 2 = q)
    (k : ∀ T' h' a cA, a = h.size → Stand p l e R s m args below meth c T' locs (cells + 1) (slots + cap) → T'.heap = h' → Ext h h' → Arr Z h' a (newA cA (newarray.typeOf aty) n) (newarray.typeOf aty) → Goes p e below P T' (mkF m q Ls (.ref a :: st))) : Goes p e below P T (mkF m pc Ls (.int n :: st)) := by
  subst hq
  obtain ⟨T', h', cA, X', e', E, A, st'⟩ := newP X K.hx K.hZ w eT (g := mkF m pc Ls (.int n :: st)) rfl (hb K.by' hd) rfl hn hcap hb' hc hl
  exact Goes.st st' (k T' h' h.size cA rfl X' e' E A)
theorem s_stR (K : Cx Z p s m meth c own bytes maxL ret nm) (X : Stand p l e R s m args below meth c T locs cells slots) {a : Addr} {cl : Cell} {ty : FieldType} {j : Int32} {v : Value} (hd : decode bytes pc = .ok (.aastore, 1)) (eT : T.heap = h) (A : Arr Z h a cl ty) (hj : ¬ (j < 0 ∨ cl.slots.size ≤ j.toNatClampNeg)) (hty : ty.isReference = true) (F : Sto Z h a v) (hq : pc + 1 = q)
    (k : ∀ T' h', Stand p l e R s m args below meth c T' (locs ++ [⟨a, j.toNatClampNeg⟩]) cells slots → T'.heap = h' → Wr h h' a j.toNatClampNeg v → Goes p e below P T' (mkF m q Ls st)) : Goes p e below P T (mkF m pc Ls (v :: .int j :: .ref a :: st)) := by
  subst hq
  obtain ⟨T', h', X', e', W, st'⟩ := stR X K.hx K.hZ eT A hj hty F (g := mkF m pc Ls (v :: .int j :: .ref a :: st)) rfl rfl (hb K.by' hd)
  exact Goes.st st' (k T' h' X' e' W)
theorem s_stC (K : Cx Z p s m meth c own bytes maxL ret nm) (X : Stand p l e R s m args below meth c T locs cells slots) {a : Addr} {cl : Cell} {j x : Int32} (hd : decode bytes pc = .ok (.castore, 1)) (eT : T.heap = h) (A : Arr Z h a cl .char) (hj : ¬ (j < 0 ∨ cl.slots.size ≤ j.toNatClampNeg)) (hq : pc + 1 = q)
    (k : ∀ T' h', Stand p l e R s m args below meth c T' (locs ++ [⟨a, j.toNatClampNeg⟩]) cells slots → T'.heap = h' → Wr h h' a j.toNatClampNeg (.int (nar .char x)) → Goes p e below P T' (mkF m q Ls st)) : Goes p e below P T (mkF m pc Ls (.int x :: .int j :: .ref a :: st)) := by
  subst hq
  obtain ⟨T', h', X', e', W, st'⟩ := stC X K.hx K.hZ eT A hj (g := mkF m pc Ls (.int x :: .int j :: .ref a :: st)) rfl rfl (hb K.by' hd)
  exact Goes.st st' (k T' h' X' e' W)
theorem s_aaload (K : Cx Z p s m meth c own bytes maxL ret nm) (X : Stand p l e R s m args below meth c T locs cells slots) {a : Addr} {cl : Cell} {ty : FieldType} {j : Int32} {v : Value} (hd : decode bytes pc = .ok (.aaload, 1)) (eT : T.heap = h) (A : Arr Z h a cl ty) (hty : ty.isReference = true) (hj : ¬ (j < 0 ∨ cl.slots.size ≤ j.toNatClampNeg)) (hv : cl.slots[j.toNatClampNeg]? = some v) (hq : pc + 1 = q) (k : Goes p e below P T (mkF m q Ls (v :: st))) : Goes p e below P T (mkF m pc Ls (.int j :: .ref a :: st)) := by
  subst hq
  exact Goes.st (fun t kk => X.aaload K.hx (j := j) (v := v) (by rw [eT]; exact A.1) (State.isArrayOf_alike K.hZ.alike A.2.1) hty A.2.2 hj hv (g := mkF m pc Ls (.int j :: .ref a :: st)) rfl rfl (hb K.by' hd) t kk) k
theorem s_alen (K : Cx Z p s m meth c own bytes maxL ret nm) (X : Stand p l e R s m args below meth c T locs cells slots) {a : Addr} {cl : Cell} {ty : FieldType} {z : Int32} (hd : decode bytes pc = .ok (.arraylength, 1)) (eT : T.heap = h) (A : Arr Z h a cl ty) (hz : cl.slots.size.toInt32 = z) (hq : pc + 1 = q) (k : Goes p e below P T (mkF m q Ls (.int z :: st))) : Goes p e below P T (mkF m pc Ls (.ref a :: st)) := by
  subst hq hz
  exact Goes.st (fun t kk => X.arraylength K.hx (by rw [eT]; exact A.1) (State.isArrayOf_alike K.hZ.alike A.2.1) (g := mkF m pc Ls (.ref a :: st)) rfl rfl (hb K.by' hd) t kk) k
theorem s_castY (K : Cx Z p s m meth c own bytes maxL ret nm) (X : Stand p l e R s m args below meth c T locs cells slots) {C : String} {i : Nat} {a : Addr} (hd : decode bytes pc = .ok (.checkcast i, 3)) (w : (Cond.classLink own i C).before a0 Z = true) (eT : T.heap = h) (F : Ins Z h a C true) (hq : pc + 3 = q)
    (k : ∀ T', Stand p l e R s m args below meth c T' locs cells slots → T'.heap = h → Goes p e below P T' (mkF m q Ls (.ref a :: st))) : Goes p e below P T (mkF m pc Ls (.ref a :: st)) := by
  subst hq
  obtain ⟨T', X', e', st'⟩ := castY X K.hx K.hZ K.hown w eT F (g := mkF m pc Ls (.ref a :: st)) rfl rfl (hb K.by' hd)
  exact Goes.st st' (k T' X' e')
theorem s_castN (K : Cx Z p s m meth c own bytes maxL ret nm) (X : Stand p l e R s m args below meth c T locs cells slots) {i : Nat} (hd : decode bytes pc = .ok (.checkcast i, 3)) (hq : pc + 3 = q) (k : Goes p e below P T (mkF m q Ls (.null :: st))) : Goes p e below P T (mkF m pc Ls (.null :: st)) := by
  subst hq
  exact Goes.st (fun t kk => X.checkcastNull K.hx (g := mkF m pc Ls (.null :: st)) rfl rfl (hb K.by' hd) t kk) k
theorem s_instY (K : Cx Z p s m meth c own bytes maxL ret nm) (X : Stand p l e R s m args below meth c T locs cells slots) {C : String} {i : Nat} {a : Addr} (hd : decode bytes pc = .ok (.instanceof i, 3)) (w : (Cond.classLink own i C).before a0 Z = true) (eT : T.heap = h) (F : Ins Z h a C true) (hq : pc + 3 = q)
    (k : ∀ T', Stand p l e R s m args below meth c T' locs cells slots → T'.heap = h → Goes p e below P T' (mkF m q Ls (.int 1 :: st))) : Goes p e below P T (mkF m pc Ls (.ref a :: st)) := by
  subst hq
  obtain ⟨T', X', e', st'⟩ := instY X K.hx K.hZ K.hown w eT F (g := mkF m pc Ls (.ref a :: st)) rfl rfl (hb K.by' hd)
  exact Goes.st st' (k T' X' e')
theorem s_instNo (K : Cx Z p s m meth c own bytes maxL ret nm) (X : Stand p l e R s m args below meth c T locs cells slots) {C D : String} {i : Nat} {a : Addr} (hd : decode bytes pc = .ok (.instanceof i, 3)) (w : (Cond.classLink own i D).before a0 Z = true) (eT : T.heap = h) (E : Exa Z h a C) (F : ∃ c t, Z.vm.findClass C = some c ∧ Z.vm.findClass D = some t ∧ Z.vm.assignable c t = false) (hq : pc + 3 = q)
    (k : ∀ T', Stand p l e R s m args below meth c T' locs cells slots → T'.heap = h → Goes p e below P T' (mkF m q Ls (.int 0 :: st))) : Goes p e below P T (mkF m pc Ls (.ref a :: st)) := by
  subst hq
  obtain ⟨T', X', e', st'⟩ := instNo X K.hx K.hZ K.hown w eT E F (g := mkF m pc Ls (.ref a :: st)) rfl rfl (hb K.by' hd)
  exact Goes.st st' (k T' X' e')
theorem s_init0 (K : Cx Z p s m meth c own bytes maxL ret nm) (X : Stand p l e R s m args below meth c T locs cells slots) {i : Nat} {a : Addr} (W : Nat) (hd : decode bytes pc = .ok (.invokespecial i, 3)) (w1 : (Cond.methodLink own i Lib.objectInit).before a0 Z = true) (w2 : (Cond.instanceMethod Lib.objectInit).before a0 Z = true) (w3 : (Cond.code Lib.objectInit ⟨#[0xb1]⟩ 1 none).before a0 Z = true) (eT : T.heap = h) (hsz : Ls.size = maxL) (hf : 1 ≤ R.frames) (hW : (st.map fun v => v.category).sum ≤ W) (hl : W + 12 ≤ R.locals) (hq : pc + 3 = q)
    (k : ∀ T', Stand p l e R s m args below meth c T' locs cells slots → T'.heap = h → Goes p e below P T' (mkF m q Ls st)) : Goes p e below P T (mkF m pc Ls (.ref a :: st)) := by
  subst hq
  obtain ⟨T', X', e', st'⟩ := initO X K.hx K.hZ K.hown w1 w2 w3 eT (g := mkF m pc Ls (.ref a :: st)) rfl (by rw [K.ml]; exact hsz) rfl (hb K.by' hd) hf (W := W) (by simpa using hW) hl
  exact Goes.st st' (k T' X' e')
theorem fits_obj {v : Value} {C : String} (hv : v.isRef = true) : fits (.object C) v = true := by rcases ref_cases hv with rfl | ⟨a, rfl⟩ <;> rfl
theorem s_newV (K : Cx Z p s m meth c own bytes maxL ret nm) (X : Stand p l e R s m args below meth c T locs cells slots) {C : String} {i : Nat} {n : Int32} (hd : decode bytes pc = .ok (.anewarray i, 3)) (w1 : (Cond.classLink own i C).before a0 Z = true) (w2 : (Cond.arrayOver (.object C)).before a0 Z = true) (eT : T.heap = h) (hn : ¬ n < 0) (cap : Nat) (hcap : n.toNatClampNeg ≤ cap) (hb' : cap * 8 ≤ 536870912) (hc : cells + 1 ≤ R.cells) (hl : slots + cap ≤ R.slots) {vs : List Value} (hvs : vs = List.replicate n.toNatClampNeg .null) (hq : pc + 3 = q)
    (k : ∀ T' h' a cA, a = h.size → Stand p l e R s m args below meth c T' locs (cells + 1) (slots + cap) → T'.heap = h' → Ext h h' → Arv Z h' a cA (.object C) n vs .null → Ovr Z cA C → Goes p e below P T' (mkF m q Ls (.ref a :: st))) : Goes p e below P T (mkF m pc Ls (.int n :: st)) := by
  refine s_newR K X hd w1 w2 eT hn cap hcap hb' hc hl hq (fun T' h' a cA g X' e' E A O => k T' h' a cA g X' e' E ?_ O)
  subst hvs
  exact (Arv.new A hn).pad (pad_rep [] (defaultValue (.object C)) n.toNatClampNeg)
theorem s_stV (K : Cx Z p s m meth c own bytes maxL ret nm) (X : Stand p l e R s m args below meth c T locs cells slots) {a : Addr} {cA : ClassId} {C : String} {z j : Int32} {vs vs' : List Value} {v : Value} (hd : decode bytes pc = .ok (.aastore, 1)) (eT : T.heap = h) (V : Arv Z h a cA (.object C) z vs .null) (O : Ovr Z cA C) (hj : ¬ j < 0 ∧ j < z) (hv : v.isRef = true) (I : ∀ y, v = .ref y → Ins Z h y C true) (i : Nat) (hi : j.toNatClampNeg = i) (hl : i < vs.length) (hvs : vs.set i v = vs') (hq : pc + 1 = q)
    (k : ∀ T' h', Stand p l e R s m args below meth c T' (locs ++ [⟨a, i⟩]) cells slots → T'.heap = h' → Wr h h' a i v → Arv Z h' a cA (.object C) z vs' .null → Goes p e below P T' (mkF m q Ls st)) : Goes p e below P T (mkF m pc Ls (v :: .int j :: .ref a :: st)) := by
  obtain ⟨cl, Ar, q1, S, N, H, G⟩ := V
  refine s_stR K X hd eT Ar (inb_of S hj) rfl ?_ hq (fun T' h' X' e' W => ?_)
  · rcases ref_cases hv with rfl | ⟨y, rfl⟩
    · exact Or.inl rfl
    · exact Sto.ofV Ar q1 O (I y rfl)
  · have V' := Arv.set Ar q1 S N H G (fits_obj hv) W i hi hl
    rw [hvs] at V'
    subst hi
    exact k T' h' X' e' W V'
theorem s_ldV (K : Cx Z p s m meth c own bytes maxL ret nm) (X : Stand p l e R s m args below meth c T locs cells slots) {a : Addr} {cA : ClassId} {ty : FieldType} {z j : Int32} {vs : List Value} {v dv : Value} (hd : decode bytes pc = .ok (.aaload, 1)) (eT : T.heap = h) (V : Arv Z h a cA ty z vs dv) (hty : ty.isReference = true) (hj : ¬ j < 0 ∧ j < z) (hv : vs.getD j.toNatClampNeg dv = v) (hq : pc + 1 = q) (k : Goes p e below P T (mkF m q Ls (v :: st))) : Goes p e below P T (mkF m pc Ls (.int j :: .ref a :: st)) := by
  obtain ⟨cl, Ar, q1, S, N, H, G⟩ := V
  exact s_aaload K X hd eT Ar hty (inb_of S hj) (H.at (inb_of S hj) hv) hq k
theorem s_lenV (K : Cx Z p s m meth c own bytes maxL ret nm) (X : Stand p l e R s m args below meth c T locs cells slots) {a : Addr} {cA : ClassId} {ty : FieldType} {z : Int32} {vs : List Value} {dv : Value} (hd : decode bytes pc = .ok (.arraylength, 1)) (eT : T.heap = h) (V : Arv Z h a cA ty z vs dv) (hq : pc + 1 = q) (k : Goes p e below P T (mkF m q Ls (.int z :: st))) : Goes p e below P T (mkF m pc Ls (.ref a :: st)) := by
  obtain ⟨cl, Ar, q1, S, N, H, G⟩ := V
  exact s_alen K X hd eT Ar (len_of S N) hq k
theorem arv_of_arh {a : Addr} {k : ClassId} {ty : FieldType} {z : Int32} {vs : List Value} {dv : Value} (F : Arh Z h a k ty z [] vs dv) : Arv Z h a k ty z vs dv := by
  obtain ⟨c, A, q1, S, N, H, G⟩ := F; exact ⟨c, A, q1, S, N, H, G⟩
theorem s_clone (K : Cx Z p s m meth c own bytes maxL ret nm) (X : Stand p l e R s m args below meth c T locs cells slots) {ad : String} {i : Nat} {a : Addr} {k : ClassId} {ty : FieldType} {z : Int32} {vs : List Value} {dv : Value} (W cap : Nat) (hd : decode bytes pc = .ok (.invokevirtual i, 3)) (w1 : (Cond.methodLink own i ⟨ad, "clone", "()Ljava/lang/Object;"⟩).before a0 Z = true) (w2 : (Cond.sameMethod ad "java/lang/Object" "clone" "()Ljava/lang/Object;").before a0 Z = true) (w3 : (Cond.native ⟨"java/lang/Object", "clone", "()Ljava/lang/Object;"⟩).before a0 Z = true) (w4 : (Cond.instanceMethod ⟨"java/lang/Object", "clone", "()Ljava/lang/Object;"⟩).before a0 Z = true) (w5 : (Cond.selects ad ⟨ad, "clone", "()Ljava/lang/Object;"⟩ ⟨"java/lang/Object", "clone", "()Ljava/lang/Object;"⟩).before a0 Z = true) (w6 : (Cond.castable ad "java/lang/Cloneable").before a0 Z = true)
    (eT : T.heap = h) (V : Arv Z h a k ty z vs dv) (E : Exa Z h a ad) (hsz : Ls.size = maxL) (hf : 1 ≤ R.frames) (hW : (st.map fun v => v.category).sum ≤ W) (hl : W + 14 ≤ R.locals) (hcap : z.toNatClampNeg ≤ cap) (hc : cells + 1 ≤ R.cells) (hsl : slots + cap ≤ R.slots) (hq : pc + 3 = q)
    (kk : ∀ T' h' b, b = h.size → Stand p l e R s m args below meth c T' locs (cells + 1) (slots + cap) → T'.heap = h' → Ext h h' → Arv Z h' b k ty z vs dv → Exa Z h' b ad → Goes p e below P T' (mkF m q Ls (.ref b :: st))) : Goes p e below P T (mkF m pc Ls (.ref a :: st)) := by
  subst hq
  obtain ⟨T', h', X', e', E', V', A', st'⟩ := cloneH X K.hx K.hZ K.hown w1 w2 w3 w4 w5 w6 eT V.arh E (g := mkF m pc Ls (.ref a :: st)) rfl (by rw [K.ml]; exact hsz) rfl (hb K.by' hd) hf (W := W) (by simpa using hW) hl hcap hc hsl
  exact Goes.st st' (kk T' h' h.size rfl X' e' E' (arv_of_arh V') A')
theorem s_callS (K : Cx Z p s m meth c own bytes maxL ret nm) (X : Stand p l e R s m args below meth c T locs cells slots) (W : Nat) {Q : Option Value → Heap → List Loc → Prop} {yb : ByteArray} {ym : Nat} {rm : Room} {y : MethodName} {yr : Option FieldType} {i : Nat} {ps : List FieldType} {argsL : List Value} (hd : decode bytes pc = .ok (.invokestatic i, 3)) (w1 : (Cond.methodLink own i y).before a0 Z = true) (w2 : (Cond.static y).before a0 Z = true) (w3 : (Cond.initialized y.cls).before a0 Z = true) (w4 : (Cond.code y yb ym yr).before a0 Z = true) (hy : y.cls ≠ "java/lang/invoke/MethodHandle" ∧ y.cls ≠ "java/lang/invoke/VarHandle")
    (hpd : parseMethodDescriptor y.desc = some ⟨ps, yr⟩) (hlen : argsL.length = ps.length) (eT : T.heap = h) (C : Con l Z y yb ym yr rm argsL.toArray h Q) {stk : List Value} (hstk : stk = argsL.reverse ++ st) (hsz : Ls.size = maxL) (hf : rm.frames + 1 ≤ R.frames) (hW : (st.map fun v => v.category).sum ≤ W) (hlo : W + (ym + 11) + rm.locals ≤ R.locals) (hc : cells + rm.cells ≤ R.cells) (hs : slots + rm.slots ≤ R.slots) (hq : pc + 3 = q)
    (k : ∀ v T' h' L', Stand p l e R s m args below meth c T' (locs ++ L') (cells + rm.cells) (slots + rm.slots) → T'.heap = h' → Q v h' L' → Goes p e below P T' (mkF m q Ls (v.toList ++ st))) : Goes p e below P T (mkF m pc Ls stk) := by
  subst hq hstk
  obtain ⟨v, _, ⟨T', L', k', n'⟩, -, X', ⟨Lc, hQ, l1, l2, l3⟩, st'⟩ := Jvm.LawKit.callS X K.hx K.hown (mvT K.hZ w1) (mvT K.hZ w2) (mvT K.hZ w3) (mvT K.hZ w4) hy (backOf (W := W) (C []) K.hZ w4 w3 hf hlo) (g := mkF m pc Ls (argsL.reverse ++ st)) rfl (by rw [K.ml]; exact hsz) (argsL := argsL) (rest := st) (lenOf hpd hlen) rfl (by simpa using hW) (hb K.by' hd) (fun _ _ => ⟨rfl, eT, hc, hs⟩)
  dsimp only [Pt.U, Pt.locs, Pt.cells, Pt.slots] at X' l1 l2 l3 st' hQ
  subst l1 l2 l3
  exact Goes.st st' (k v T' _ _ X' rfl hQ)
theorem s_init (K : Cx Z p s m meth c own bytes maxL ret nm) (X : Stand p l e R s m args below meth c T locs cells slots) (W : Nat) {Q : Option Value → Heap → List Loc → Prop} {yb : ByteArray} {ym : Nat} {rm : Room} {y : MethodName} {i : Nat} {ps : List FieldType} {argsL : List Value} {a : Addr} (hd : decode bytes pc = .ok (.invokespecial i, 3)) (hy1 : y.name = "<init>") (w1 : (Cond.methodLink own i y).before a0 Z = true) (w2 : (Cond.instanceMethod y).before a0 Z = true) (w3 : (Cond.initialized y.cls).before a0 Z = true) (w4 : (Cond.code y yb ym none).before a0 Z = true) (hy : y.cls ≠ "java/lang/invoke/MethodHandle" ∧ y.cls ≠ "java/lang/invoke/VarHandle")
    (hpd : parseMethodDescriptor y.desc = some ⟨ps, none⟩) (hlen : argsL.length = ps.length) (eT : T.heap = h) (C : Con l Z y yb ym none rm (.ref a :: argsL).toArray h Q) {stk : List Value} (hstk : stk = argsL.reverse ++ .ref a :: st) (hsz : Ls.size = maxL) (hf : rm.frames + 1 ≤ R.frames) (hW : (st.map fun v => v.category).sum ≤ W) (hlo : W + (ym + 11) + rm.locals ≤ R.locals) (hc : cells + rm.cells ≤ R.cells) (hs : slots + rm.slots ≤ R.slots) (hq : pc + 3 = q)
    (k : ∀ v T' h' L', Stand p l e R s m args below meth c T' (locs ++ L') (cells + rm.cells) (slots + rm.slots) → T'.heap = h' → Q v h' L' → Goes p e below P T' (mkF m q Ls (v.toList ++ st))) : Goes p e below P T (mkF m pc Ls stk) := by
  subst hq hstk
  obtain ⟨v, _, ⟨T', L', k', n'⟩, -, X', ⟨Lc, hQ, l1, l2, l3⟩, st'⟩ := X.specialBack K.hx hy1 K.hown (mvT K.hZ w1) (mvT K.hZ w2) (mvT K.hZ w4) hy (backOf (W := W) (C []) K.hZ w4 w3 hf hlo) (g := mkF m pc Ls (argsL.reverse ++ .ref a :: st)) rfl (by rw [K.ml]; exact hsz) (Steps.refl _) (a := a) (argsL := argsL) (rest := st) (lenOf hpd hlen) rfl (by simpa using hW) (hb K.by' hd) (fun _ _ => ⟨rfl, eT, hc, hs⟩)
  dsimp only [Pt.U, Pt.locs, Pt.cells, Pt.slots] at X' l1 l2 l3 st' hQ
  subst l1 l2 l3
  exact Goes.st (fun _ kk => st'.trans kk) (k v T' _ _ X' rfl hQ)
theorem s_callV (K : Cx Z p s m meth c own bytes maxL ret nm) (X : Stand p l e R s m args below meth c T locs cells slots) (W : Nat) {Q : Option Value → Heap → List Loc → Prop} {yb : ByteArray} {ym : Nat} {rm : Room} {y z : MethodName} {yr : Option FieldType} {C : String} {i : Nat} {ps : List FieldType} {argsL : List Value} {a : Addr} (hd : decode bytes pc = .ok (.invokevirtual i, 3)) (w1 : (Cond.methodLink own i y).before a0 Z = true) (w2 : (Cond.declares y).before a0 Z = true) (hnf : NotFace s y) (w5 : (Cond.selects C y z).before a0 Z = true) (w6 : (Cond.instanceMethod z).before a0 Z = true) (w3 : (Cond.initialized z.cls).before a0 Z = true) (w4 : (Cond.code z yb ym yr).before a0 Z = true) (hy : y.cls ≠ "java/lang/invoke/MethodHandle" ∧ y.cls ≠ "java/lang/invoke/VarHandle")
    (hpd : parseMethodDescriptor y.desc = some ⟨ps, yr⟩) (hlen : argsL.length = ps.length) (eT : T.heap = h) (E : Exa Z h a C) (Cn : Con l Z z yb ym yr rm (.ref a :: argsL).toArray h Q) {stk : List Value} (hstk : stk = argsL.reverse ++ .ref a :: st) (hsz : Ls.size = maxL) (hf : rm.frames + 1 ≤ R.frames) (hW : (st.map fun v => v.category).sum ≤ W) (hlo : W + (ym + 11) + rm.locals ≤ R.locals) (hc : cells + rm.cells ≤ R.cells) (hs : slots + rm.slots ≤ R.slots) (hq : pc + 3 = q)
    (k : ∀ v T' h' L', Stand p l e R s m args below meth c T' (locs ++ L') (cells + rm.cells) (slots + rm.slots) → T'.heap = h' → Q v h' L' → Goes p e below P T' (mkF m q Ls (v.toList ++ st))) : Goes p e below P T (mkF m pc Ls stk) := by
  subst hq hstk
  obtain ⟨cq, kq, qa, qb, qc⟩ := isOf (T := T) K.hZ eT E
  obtain ⟨v, _, ⟨T', L', k', n'⟩, -, X', ⟨Lc, hQ, l1, l2, l3⟩, st'⟩ := X.virtualBack K.hx K.hown (mvT K.hZ w1) (mvT K.hZ w2) hnf (mvT K.hZ w5) (mvT K.hZ w6) hy (backOf (W := W) (Cn []) K.hZ w4 w3 hf hlo) qa qc (g := mkF m pc Ls (argsL.reverse ++ .ref a :: st)) rfl (by rw [K.ml]; exact hsz) (Steps.refl _) (argsL := argsL) (rest := st) (lenOf hpd hlen) rfl (by simpa using hW) (hb K.by' hd) (fun _ _ => ⟨rfl, eT, hc, hs⟩)
  dsimp only [Pt.U, Pt.locs, Pt.cells, Pt.slots] at X' l1 l2 l3 st' hQ
  subst l1 l2 l3
  exact Goes.st (fun _ kk => st'.trans kk) (k v T' _ _ X' rfl hQ)
theorem s_callU (K : Cx Z p s m meth c own bytes maxL ret nm) (X : Stand p l e R s m args below meth c T locs cells slots) (W : Nat) {Q : Option Value → Heap → List Loc → Prop} {yb : ByteArray} {ym : Nat} {rm : Room} {y z : MethodName} {yr : Option FieldType} {C owner : String} {i : Nat} {ps : List FieldType} {argsL : List Value} {a : Addr} (hd : decode bytes pc = .ok (.invokevirtual i, 3)) (w1 : (Cond.methodLink own i y).before a0 Z = true) (w2 : (Cond.sameMethod y.cls owner y.name y.desc).before a0 Z = true) (w2' : (Cond.declares ⟨owner, y.name, y.desc⟩).before a0 Z = true) (w5 : (Cond.selects C y z).before a0 Z = true) (w6 : (Cond.instanceMethod z).before a0 Z = true) (w3 : (Cond.initialized z.cls).before a0 Z = true) (w4 : (Cond.code z yb ym yr).before a0 Z = true) (hy : owner ≠ "java/lang/invoke/MethodHandle" ∧ owner ≠ "java/lang/invoke/VarHandle")
    (hpd : parseMethodDescriptor y.desc = some ⟨ps, yr⟩) (hlen : argsL.length = ps.length) (eT : T.heap = h) (E : Exa Z h a C) (Cn : Con l Z z yb ym yr rm (.ref a :: argsL).toArray h Q) {stk : List Value} (hstk : stk = argsL.reverse ++ .ref a :: st) (hsz : Ls.size = maxL) (hf : rm.frames + 1 ≤ R.frames) (hW : (st.map fun v => v.category).sum ≤ W) (hlo : W + (ym + 11) + rm.locals ≤ R.locals) (hc : cells + rm.cells ≤ R.cells) (hs : slots + rm.slots ≤ R.slots) (hq : pc + 3 = q)
    (k : ∀ v T' h' L', Stand p l e R s m args below meth c T' (locs ++ L') (cells + rm.cells) (slots + rm.slots) → T'.heap = h' → Q v h' L' → Goes p e below P T' (mkF m q Ls (v.toList ++ st))) : Goes p e below P T (mkF m pc Ls stk) := by
  subst hq hstk
  obtain ⟨cq, kq, qa, qb, qc⟩ := isOf (T := T) K.hZ eT E
  obtain ⟨v, _, ⟨T', L', k', n'⟩, -, X', ⟨Lc, hQ, l1, l2, l3⟩, st'⟩ := X.virtualBackUp K.hx K.hown (mvT K.hZ w1) (mvT K.hZ w2) (mvT K.hZ w2') hy (mvT K.hZ w5) (mvT K.hZ w6) (backOf (W := W) (Cn []) K.hZ w4 w3 hf hlo) qa qc (g := mkF m pc Ls (argsL.reverse ++ .ref a :: st)) rfl (by rw [K.ml]; exact hsz) (Steps.refl _) (argsL := argsL) (rest := st) (lenOf hpd hlen) rfl (by simpa using hW) (hb K.by' hd) (fun _ _ => ⟨rfl, eT, hc, hs⟩)
  dsimp only [Pt.U, Pt.locs, Pt.cells, Pt.slots] at X' l1 l2 l3 st' hQ
  subst l1 l2 l3
  exact Goes.st (fun _ kk => st'.trans kk) (k v T' _ _ X' rfl hQ)
theorem s_callI (K : Cx Z p s m meth c own bytes maxL ret nm) (X : Stand p l e R s m args below meth c T locs cells slots) (W : Nat) {Q : Option Value → Heap → List Loc → Prop} {yb : ByteArray} {ym : Nat} {rm : Room} {y z : MethodName} {yr : Option FieldType} {C : String} {i cnt : Nat} {ps : List FieldType} {argsL : List Value} {a : Addr} (hd : decode bytes pc = .ok (.invokeinterface i cnt, 5)) (w1 : (Cond.methodLink own i y).before a0 Z = true) (w2 : (Cond.declares y).before a0 Z = true) (w2' : (Cond.interfaceMethod y.cls y.cls y.name y.desc).before a0 Z = true) (hk9 : ((Cond.interfaceMethod y.cls y.cls y.name y.desc).onTables && (Cond.interfaceMethod y.cls y.cls y.name y.desc).keepsFace) = true) (w5 : (Cond.selects C y z).before a0 Z = true) (w6 : (Cond.instanceMethod z).before a0 Z = true) (w7 : (Cond.publicMethod z).before a0 Z = true) (w8 : (Cond.unhidden C y.name y.desc).before a0 Z = true) (w9 : (Cond.castable C y.cls).before a0 Z = true) (w3 : (Cond.initialized z.cls).before a0 Z = true) (w4 : (Cond.code z yb ym yr).before a0 Z = true) (hy : y.cls ≠ "java/lang/invoke/MethodHandle" ∧ y.cls ≠ "java/lang/invoke/VarHandle")
    (hpd : parseMethodDescriptor y.desc = some ⟨ps, yr⟩) (hlen : argsL.length = ps.length) (eT : T.heap = h) (E : Exa Z h a C) (Cn : Con l Z z yb ym yr rm (.ref a :: argsL).toArray h Q) {stk : List Value} (hstk : stk = argsL.reverse ++ .ref a :: st) (hsz : Ls.size = maxL) (hf : rm.frames + 1 ≤ R.frames) (hW : (st.map fun v => v.category).sum ≤ W) (hlo : W + (ym + 11) + rm.locals ≤ R.locals) (hc : cells + rm.cells ≤ R.cells) (hs : slots + rm.slots ≤ R.slots) (hq : pc + 5 = q)
    (k : ∀ v T' h' L', Stand p l e R s m args below meth c T' (locs ++ L') (cells + rm.cells) (slots + rm.slots) → T'.heap = h' → Q v h' L' → Goes p e below P T' (mkF m q Ls (v.toList ++ st))) : Goes p e below P T (mkF m pc Ls stk) := by
  subst hq hstk
  obtain ⟨cq, kq, qa, qb, qc⟩ := isOf (T := T) K.hZ eT E
  obtain ⟨v, _, ⟨T', L', k', n'⟩, -, X', ⟨Lc, hQ, l1, l2, l3⟩, st'⟩ := X.interfaceBack K.hx K.hown (mvT K.hZ w1) (mvT K.hZ w2) (mvT K.hZ w2' hk9) (mvT K.hZ w5) (mvT K.hZ w6) (mvT K.hZ w7) (mvT K.hZ w8) (mvT K.hZ w9) hy (backOf (W := W) (Cn []) K.hZ w4 w3 hf hlo) qa qb qc (g := mkF m pc Ls (argsL.reverse ++ .ref a :: st)) rfl (by rw [K.ml]; exact hsz) (Steps.refl _) (argsL := argsL) (rest := st) (lenOf hpd hlen) rfl (by simpa using hW) (hb K.by' hd) (fun _ _ => ⟨rfl, eT, hc, hs⟩)
  dsimp only [Pt.U, Pt.locs, Pt.cells, Pt.slots] at X' l1 l2 l3 st' hQ
  subst l1 l2 l3
  exact Goes.st (fun _ kk => st'.trans kk) (k v T' _ _ X' rfl hQ)
theorem s_retI (K : Cx Z p s m meth c own bytes maxL ret nm) (X : Stand p l e R s m args below meth c T locs cells slots) {z : Int32} {Q : Option Value → Heap → List Loc → Prop} (hd : decode bytes pc = .ok (.ireturn, 1)) (hr : ret = some .int) (eT : T.heap = h) (hc : cells ≤ R.cells) (hs : slots ≤ R.slots) (hQ : Q (some (.int z)) h locs) : Goes p e below (Fini s R Q) T (mkF m pc Ls (.int z :: st)) := by
  obtain ⟨fs, hl, hrun, hended, hW, hsame⟩ := X.leave (v := some (.int z)) (fun h => by rw [K.rt, hr] at h; cases h) K.lk
  exact ⟨_, _, retOut X K.hx (t := .int) (K.rt.trans hr) rfl (Or.inl ⟨rfl, Or.inl rfl, _, rfl⟩) (hb K.by' hd) hl, hrun, hended, _, _, rfl, (by rw [show (T.setFrames fs).heap = T.heap from rfl, eT]; exact hQ), ⟨_, rfl⟩, hW, hsame.mono hc hs⟩
theorem s_retZ (K : Cx Z p s m meth c own bytes maxL ret nm) (X : Stand p l e R s m args below meth c T locs cells slots) {z : Int32} {Q : Option Value → Heap → List Loc → Prop} (hd : decode bytes pc = .ok (.ireturn, 1)) (hr : ret = some .boolean) (hz : z &&& 1 = z) (eT : T.heap = h) (hc : cells ≤ R.cells) (hs : slots ≤ R.slots) (hQ : Q (some (.int z)) h locs) : Goes p e below (Fini s R Q) T (mkF m pc Ls (.int z :: st)) := by
  obtain ⟨fs, hl, hrun, hended, hW, hsame⟩ := X.leave (v := some (.int z)) (fun h => by rw [K.rt, hr] at h; cases h) K.lk
  exact ⟨_, _, retOut X K.hx (t := .boolean) (K.rt.trans hr) (by show Value.int (z &&& 1) = _; rw [hz]) (Or.inl ⟨rfl, Or.inr (Or.inl rfl), _, rfl⟩) (hb K.by' hd) hl, hrun, hended, _, _, rfl, (by rw [show (T.setFrames fs).heap = T.heap from rfl, eT]; exact hQ), ⟨_, rfl⟩, hW, hsame.mono hc hs⟩
theorem s_retA (K : Cx Z p s m meth c own bytes maxL ret nm) (X : Stand p l e R s m args below meth c T locs cells slots) {v : Value} {t : FieldType} {Q : Option Value → Heap → List Loc → Prop} (hd : decode bytes pc = .ok (.areturn, 1)) (hr : ret = some t) (ht : t.isReference = true) (hv : v.isRef = true) (eT : T.heap = h) (hc : cells ≤ R.cells) (hs : slots ≤ R.slots) (hQ : Q (some v) h locs) : Goes p e below (Fini s R Q) T (mkF m pc Ls (v :: st)) := by
  obtain ⟨fs, hl, hrun, hended, hW, hsame⟩ := X.leave (v := some v) (fun h => by rw [K.rt, hr] at h; cases h) K.lk
  have hn : narrow t v = v := by rcases ref_cases hv with rfl | ⟨a, rfl⟩ <;> cases t <;> rfl
  exact ⟨_, _, retOut X K.hx (K.rt.trans hr) hn (Or.inr (Or.inr (Or.inr (Or.inr ⟨rfl, ht, hv⟩)))) (hb K.by' hd) hl, hrun, hended, _, _, rfl, (by rw [show (T.setFrames fs).heap = T.heap from rfl, eT]; exact hQ), ⟨_, rfl⟩, hW, hsame.mono hc hs⟩
theorem s_ret (K : Cx Z p s m meth c own bytes maxL ret nm) (X : Stand p l e R s m args below meth c T locs cells slots) {Q : Option Value → Heap → List Loc → Prop} (hd : decode bytes pc = .ok (.return_, 1)) (hr : ret = none) (eT : T.heap = h) (hc : cells ≤ R.cells) (hs : slots ≤ R.slots) (hQ : Q none h locs) : Goes p e below (Fini s R Q) T (mkF m pc Ls []) := by
  obtain ⟨fs, hl, hrun, hended, hW, hsame⟩ := X.leave (v := none) (fun _ => rfl) K.lk
  exact ⟨_, _, X.returnOut K.hx (K.rt.trans hr) (hb K.by' hd) hl, hrun, hended, _, _, rfl, (by rw [show (T.setFrames fs).heap = T.heap from rfl, eT]; exact hQ), ⟨_, rfl⟩, hW, hsame.mono hc hs⟩
end Steps
section Facts
variable {Z : State} {args : Array Value} {t : Term} {a : Addr} {C n d : String} {v : Value} {h h' : Heap}
theorem fld_start_i {i : Int32} (ht : t.eval args Z none [] Z = some (.ref a)) (hv : (Cond.eq (.field t C n d) (.int i)).value args Z none Z [] = some true) : Fld Z Z.heap a C n d (.int i) := by
  obtain ⟨x, y, h1, h2, h3, -⟩ := cmp_v (Or.inl hv)
  have e : Z.fieldOf? a C n d = some x := by rw [← fld_at (t := t) (args := args) (first := Z) (o := none) (idx := []) ht]; exact h1
  cases (Term.int_eval i).symm.trans h2
  cases x <;> simp only [Kin] at h3
  case int x =>
    have : x = i := by simpa [Cond.value, h1, Term.int_eval] using hv
    subst this; exact Fld.start e
  all_goals first | (obtain ⟨z, hz⟩ := h3; cases hz) | (exact absurd h3.2 (by simp [Value.isRef]))
theorem eq_ref_start {u : Term} (ht : t.eval args Z none [] Z = some (.ref a)) (hv : (Cond.eq u t).value args Z none Z [] = some true) : u.eval args Z none [] Z = some (.ref a) := by
  obtain ⟨x, y, h1, h2, h3, h4⟩ := cmp_v (Or.inl hv)
  cases h2.symm.trans ht
  have hx : x.isRef = true := by cases x <;> simp [Kin, Value.isRef] at h3 h4 ⊢
  have := gotT (eq_R h1 ht hx rfl) hv
  rw [h1, this]
theorem eq_int_start {u : Term} {i : Int32} (hv : (Cond.eq u (.int i)).value args Z none Z [] = some true) : u.eval args Z none [] Z = some (.int i) := by
  obtain ⟨x, y, h1, h2, h3, -⟩ := cmp_v (Or.inl hv)
  cases (Term.int_eval i).symm.trans h2
  cases x <;> simp only [Kin] at h3
  case int x =>
    have : x = i := by simpa [Cond.value, h1, Term.int_eval] using hv
    subst this; exact h1
  all_goals first | (obtain ⟨z, hz⟩ := h3; cases hz) | (exact absurd h3.2 (by simp [Value.isRef]))
theorem arr_len {cl : Cell} {ty : FieldType} {z : Int32} (ht : t.eval args Z none [] Z = some (.ref a)) (A : Arr Z Z.heap a cl ty) (hv : (Cond.eq (.length t) (.int z)).value args Z none Z [] = some true) : cl.slots.size.toInt32 = z ∧ cl.slots.size < 2 ^ 31 := by
  have e := eq_int_start hv
  have ha := A.fin (Vm.Alike.refl _)
  by_cases q : cl.slots.size < 2 ^ 31
  · rw [len_f ht ha q] at e
    exact ⟨Value.int.inj (Option.some.inj e), q⟩
  · simp [Term.eval, ht, ha, q] at e
theorem arr_elem {cl : Cell} {ty : FieldType} {j : Int32} (ht : t.eval args Z none [] Z = some (.ref a)) (A : Arr Z Z.heap a cl ty) (hv : (Term.elem t (.int j)).eval args Z none [] Z = some v) : ¬ (j < 0 ∨ cl.slots.size ≤ j.toNatClampNeg) ∧ cl.slots[j.toNatClampNeg]? = some v :=
  elem_in hv ht (Term.int_eval j) A.1
end Facts
section Facts2
variable {Z : State} {h h' h'' : Heap} {a b : Addr} {sl : Nat} {v : Value}
theorem ext_trans (E : Ext h h') (E' : Ext h' h'') : Ext h h'' := ⟨Nat.le_trans E.1 E'.1, fun a c q => E'.2 a c (E.2 a c q)⟩
theorem ext_refl (h : Heap) : Ext h h := ⟨Nat.le_refl _, fun _ _ q => q⟩
theorem ext_wr (E : Ext h h') (W : Wr h' h'' a sl v) (q : h.size ≤ a) : Ext h h'' := by
  obtain ⟨cell, h1, -, -, rfl⟩ := W
  refine ⟨by simpa using E.1, fun x c hx => ?_⟩
  have : a ≠ x := fun z => absurd (Array.getElem?_eq_some_iff.mp hx).1 (Nat.not_lt.mpr (z ▸ q))
  rw [Array.getElem?_setIfInBounds_ne this]; exact E.2 x c hx
theorem old_le (O : Old Z Z.heap.size h) : Z.heap.size ≤ h.size := O.2.1
theorem fr_one {k : Nat} (q : k ≤ a) : Fr k [⟨a, sl⟩] := fun y hy => by cases List.mem_singleton.mp hy; exact q
/-- an Integer at a, worth c -/
def Bx (Z : State) (h : Heap) (a : Addr) (c : Int32) : Prop := Exa Z h a "java/lang/Integer" ∧ Fld Z h a "java/lang/Integer" "value" "I" (.int c)
theorem Bx.ext {c : Int32} (E : Ext h h') (F : Bx Z h a c) : Bx Z h' a c := ⟨F.1.ext E, F.2.ext E⟩
theorem Bx.keep {c : Int32} {ws : List Addr} (F : Bx Z h a c) (K : Keep h h' ws) (q : a ∉ ws) : Bx Z h' a c := ⟨F.1.keep K, F.2.keep K q⟩
theorem Bx.other {c : Int32} (F : Bx Z h a c) (W : Wr h h' b sl v) (q : a ≠ b) : Bx Z h' a c := ⟨F.1.wr W, F.2.other W (Or.inl q)⟩
/-- the Integer cache, as the set of statics says -/
def Cache (Z : State) (ca : Addr) (cc : Cell) : Prop := Sta Z Z.heap "java/lang/Integer$IntegerCache" "high" "I" (.int 127) ∧ Sta Z Z.heap "java/lang/Integer$IntegerCache" "cache" "[Ljava/lang/Integer;" (.ref ca) ∧ Bxs Z ca cc "java/lang/Integer" "I" 256 (fun j => .int (j - 128))
theorem cache_in {c : Int32} {cc : Cell} (hs : cc.slots.size = (256 : Int32).toNatClampNeg) (h1 : ¬ c < -128) (h2 : ¬ 127 < c) : ¬ (c + 128 < 0 ∨ cc.slots.size ≤ (c + 128).toNatClampNeg) := by
  rw [hs]
  rw [Int32.lt_iff_toInt_lt] at h1 h2
  have e1 : (-128 : Int32).toInt = -128 := rfl
  have e2 : (127 : Int32).toInt = 127 := rfl
  have e3 : (128 : Int32).toInt = 128 := rfl
  have q := c_iadd c 128
  have r := rng32 (c + 128)
  have e : (c + 128).toInt = c.toInt + 128 := by omega
  have e4 : (256 : Int32).toNatClampNeg = 256 := rfl
  have e5 : (0 : Int32).toInt = 0 := rfl
  rw [Int32.lt_iff_toInt_lt, e4]
  simp only [Int32.toNatClampNeg, e]
  omega
theorem cache_back (c : Int32) : c + 128 - 128 = c := by
  apply Int32.toBitVec_inj.mp
  simp
theorem sub_f {args : Array Value} {first s : State} {o : Option Outcome} {idx : List Nat} {a b : Term} {x y : Int32} (ha : a.eval args first o idx s = some (.int x)) (hb : b.eval args first o idx s = some (.int y)) : (Term.sub a b).eval args first o idx s = some (.int (x - y)) := by simp [Term.eval, ha, hb]
theorem cache_start {args : Array Value} (w1 : (Cond.laysStatic "java/lang/Integer$IntegerCache" "high" "I").before args Z = true) (w2 : (Cond.laysStatic "java/lang/Integer$IntegerCache" "cache" "[Ljava/lang/Integer;").before args Z = true) (wi : (Cond.initialized "java/lang/Integer$IntegerCache").before args Z = true)
    (h3 : (Cond.eq (.static "java/lang/Integer$IntegerCache" "high" "I") (.int 127)).before args Z = true) (h4 : (Cond.arrayOf (.static "java/lang/Integer$IntegerCache" "cache" "[Ljava/lang/Integer;") (.object "java/lang/Integer")).before args Z = true) (h6 : (Cond.eq (.length (.static "java/lang/Integer$IntegerCache" "cache" "[Ljava/lang/Integer;")) (.int 256)).before args Z = true)
    (h7 : (Cond.all (.static "java/lang/Integer$IntegerCache" "cache" "[Ljava/lang/Integer;") (.and (.exactly (.elem (.static "java/lang/Integer$IntegerCache" "cache" "[Ljava/lang/Integer;") (.index 0)) "java/lang/Integer") (.eq (.field (.elem (.static "java/lang/Integer$IntegerCache" "cache" "[Ljava/lang/Integer;") (.index 0)) "java/lang/Integer" "value" "I") (.sub (.index 0) (.int 128))))).before args Z = true) : ∃ ca cc, Cache Z ca cc := by
  have h3 := Cond.before_iff.mp h3
  have h4 := Cond.before_iff.mp h4
  have h6 := Cond.before_iff.mp h6
  have h7 := Cond.before_iff.mp h7
  obtain ⟨ca, ek⟩ := arr_v h4
  obtain ⟨cc, A⟩ := Arr.start ek h4
  obtain ⟨l1, l2⟩ := arr_len ek A h6
  refine ⟨ca, cc, Sta.start (eq_int_start h3) (Or.inr ⟨wi, w1⟩), Sta.start ek (Or.inr ⟨wi, w2⟩), Bxs.start (fun idx => ek) A l2 l1 (by decide) h7 (fun X j hj hv => ?_)⟩
  exact eqv_i (sub_f (idx_at hj) (Term.int_eval 128)) hv
end Facts2

end Jvm.Own

namespace Jvm.Pilot.@@N@@
open Jvm Jvm.ClassFile Sem Op Lib Jvm.Free Jvm.Stand Jvm.LawKit Jvm.RoadKit Bundle Jvm.Own Jvm.Pilot.@@N@@.Jvm.D
theorem d_jdk_37_method_2_code_0 : decode jdk_37_method_2_code 0 = .ok (.aload_n 0, 1) := by decide +kernel
theorem d_jdk_37_method_2_code_1 : decode jdk_37_method_2_code 1 = .ok (.getfield 7, 3) := by decide +kernel
theorem d_jdk_37_method_2_code_4 : decode jdk_37_method_2_code 4 = .ok (.ireturn, 1) := by decide +kernel
theorem pn_java_lang_Enum : plainName "java/lang/Enum" = true := by first | (simp [plainName, overriddenIn]; done) | decide +kernel
theorem d_method_2_code_0 : decode method_2_code 0 = .ok (.iload_n 0, 1) := by decide +kernel
theorem d_method_2_code_1 : decode method_2_code 1 = .ok (.ifCond .ne 7, 3) := by decide +kernel
theorem d_method_2_code_4 : decode method_2_code 4 = .ok (.getstatic 7, 3) := by decide +kernel
theorem d_method_2_code_7 : decode method_2_code 7 = .ok (.areturn, 1) := by decide +kernel
theorem pn_com_example_sealed_satchel_sealedsatchel_core_OperatorHoldsPinLaw : plainName "com/example/sealed_satchel/sealedsatchel/core/OperatorHoldsPinLaw" = true := by first | (simp [plainName, overriddenIn]; done) | decide +kernel
theorem d_method_3_code_0 : decode method_3_code 0 = .ok (.iload_n 0, 1) := by decide +kernel
theorem d_method_3_code_1 : decode method_3_code 1 = .ok (.ifCond .ne 5, 3) := by decide +kernel
theorem d_method_3_code_4 : decode method_3_code 4 = .ok (.iconst 2, 1) := by decide +kernel
theorem d_method_3_code_5 : decode method_3_code 5 = .ok (.ireturn, 1) := by decide +kernel
theorem d_method_2_code_8 : decode method_2_code 8 = .ok (.iload_n 0, 1) := by decide +kernel
theorem d_method_2_code_9 : decode method_2_code 9 = .ok (.iconst 1, 1) := by decide +kernel
theorem d_method_2_code_10 : decode method_2_code 10 = .ok (.if_icmp .ne 7, 3) := by decide +kernel
theorem d_method_2_code_13 : decode method_2_code 13 = .ok (.getstatic 13, 3) := by decide +kernel
theorem d_method_2_code_16 : decode method_2_code 16 = .ok (.areturn, 1) := by decide +kernel
theorem d_method_3_code_6 : decode method_3_code 6 = .ok (.iload_n 0, 1) := by decide +kernel
theorem d_method_3_code_7 : decode method_3_code 7 = .ok (.iconst 1, 1) := by decide +kernel
theorem d_method_3_code_8 : decode method_3_code 8 = .ok (.if_icmp .ne 5, 3) := by decide +kernel
theorem d_method_3_code_11 : decode method_3_code 11 = .ok (.iconst 1, 1) := by decide +kernel
theorem d_method_3_code_12 : decode method_3_code 12 = .ok (.ireturn, 1) := by decide +kernel
theorem d_method_2_code_17 : decode method_2_code 17 = .ok (.iload_n 0, 1) := by decide +kernel
theorem d_method_2_code_18 : decode method_2_code 18 = .ok (.iconst 2, 1) := by decide +kernel
theorem d_method_2_code_19 : decode method_2_code 19 = .ok (.if_icmp .ne 7, 3) := by decide +kernel
theorem d_method_2_code_22 : decode method_2_code 22 = .ok (.getstatic 16, 3) := by decide +kernel
theorem d_method_2_code_25 : decode method_2_code 25 = .ok (.areturn, 1) := by decide +kernel
theorem d_method_3_code_13 : decode method_3_code 13 = .ok (.iload_n 0, 1) := by decide +kernel
theorem d_method_3_code_14 : decode method_3_code 14 = .ok (.iconst 2, 1) := by decide +kernel
theorem d_method_3_code_15 : decode method_3_code 15 = .ok (.if_icmp .ne 5, 3) := by decide +kernel
theorem d_method_3_code_18 : decode method_3_code 18 = .ok (.iconst 4, 1) := by decide +kernel
theorem d_method_3_code_19 : decode method_3_code 19 = .ok (.ireturn, 1) := by decide +kernel
theorem d_method_2_code_26 : decode method_2_code 26 = .ok (.iload_n 0, 1) := by decide +kernel
theorem d_method_2_code_27 : decode method_2_code 27 = .ok (.iconst 3, 1) := by decide +kernel
theorem d_method_2_code_28 : decode method_2_code 28 = .ok (.if_icmp .ne 7, 3) := by decide +kernel
theorem d_method_2_code_31 : decode method_2_code 31 = .ok (.getstatic 19, 3) := by decide +kernel
theorem d_method_2_code_34 : decode method_2_code 34 = .ok (.areturn, 1) := by decide +kernel
theorem d_method_3_code_20 : decode method_3_code 20 = .ok (.iload_n 0, 1) := by decide +kernel
theorem d_method_3_code_21 : decode method_3_code 21 = .ok (.iconst 3, 1) := by decide +kernel
theorem d_method_3_code_22 : decode method_3_code 22 = .ok (.if_icmp .ne 5, 3) := by decide +kernel
theorem d_method_3_code_25 : decode method_3_code 25 = .ok (.iconst 3, 1) := by decide +kernel
theorem d_method_3_code_26 : decode method_3_code 26 = .ok (.ireturn, 1) := by decide +kernel
theorem d_method_2_code_35 : decode method_2_code 35 = .ok (.getstatic 22, 3) := by decide +kernel
theorem d_method_2_code_38 : decode method_2_code 38 = .ok (.areturn, 1) := by decide +kernel
theorem d_method_3_code_27 : decode method_3_code 27 = .ok (.bipush 6, 2) := by decide +kernel
theorem d_method_3_code_29 : decode method_3_code 29 = .ok (.ireturn, 1) := by decide +kernel
theorem d_prog_32_method_6_code_0 : decode prog_32_method_6_code 0 = .ok (.aload_n 0, 1) := by decide +kernel
theorem d_prog_32_method_6_code_1 : decode prog_32_method_6_code 1 = .ok (.invokevirtual 52, 3) := by decide +kernel
theorem pd___I : parseMethodDescriptor "()I" = some ⟨[], (some .int)⟩ := by decide +kernel
theorem d_prog_32_method_6_code_4 : decode prog_32_method_6_code 4 = .ok (.tableswitch 36 0 4 #[46, 58, 70, 82, 94], 36) := by decide +kernel
theorem d_prog_32_method_6_code_50 : decode prog_32_method_6_code 50 = .ok (.iload_n 1, 1) := by decide +kernel
theorem d_prog_32_method_6_code_51 : decode prog_32_method_6_code 51 = .ok (.ifCond .ne 7, 3) := by decide +kernel
theorem d_prog_32_method_6_code_54 : decode prog_32_method_6_code 54 = .ok (.iconst 1, 1) := by decide +kernel
theorem d_prog_32_method_6_code_55 : decode prog_32_method_6_code 55 = .ok (.goto 52, 3) := by decide +kernel
theorem d_prog_32_method_6_code_107 : decode prog_32_method_6_code 107 = .ok (.ireturn, 1) := by decide +kernel
theorem d_prog_32_method_6_code_58 : decode prog_32_method_6_code 58 = .ok (.iconst 0, 1) := by decide +kernel
theorem d_prog_32_method_6_code_59 : decode prog_32_method_6_code 59 = .ok (.goto 48, 3) := by decide +kernel
theorem pn_com_example_sealed_satchel_sealedsatchel_core_Operator : plainName "com/example/sealed_satchel/sealedsatchel/core/Operator" = true := by first | (simp [plainName, overriddenIn]; done) | decide +kernel
theorem d_prog_32_method_6_code_62 : decode prog_32_method_6_code 62 = .ok (.iload_n 1, 1) := by decide +kernel
theorem d_prog_32_method_6_code_63 : decode prog_32_method_6_code 63 = .ok (.ifCond .ge 7, 3) := by decide +kernel
theorem d_prog_32_method_6_code_66 : decode prog_32_method_6_code 66 = .ok (.iconst 1, 1) := by decide +kernel
theorem d_prog_32_method_6_code_67 : decode prog_32_method_6_code 67 = .ok (.goto 40, 3) := by decide +kernel
theorem d_prog_32_method_6_code_70 : decode prog_32_method_6_code 70 = .ok (.iconst 0, 1) := by decide +kernel
theorem d_prog_32_method_6_code_71 : decode prog_32_method_6_code 71 = .ok (.goto 36, 3) := by decide +kernel
theorem d_prog_32_method_6_code_74 : decode prog_32_method_6_code 74 = .ok (.iload_n 1, 1) := by decide +kernel
theorem d_prog_32_method_6_code_75 : decode prog_32_method_6_code 75 = .ok (.ifCond .le 7, 3) := by decide +kernel
theorem d_prog_32_method_6_code_78 : decode prog_32_method_6_code 78 = .ok (.iconst 1, 1) := by decide +kernel
theorem d_prog_32_method_6_code_79 : decode prog_32_method_6_code 79 = .ok (.goto 28, 3) := by decide +kernel
theorem d_prog_32_method_6_code_82 : decode prog_32_method_6_code 82 = .ok (.iconst 0, 1) := by decide +kernel
theorem d_prog_32_method_6_code_83 : decode prog_32_method_6_code 83 = .ok (.goto 24, 3) := by decide +kernel
theorem d_prog_32_method_6_code_86 : decode prog_32_method_6_code 86 = .ok (.iload_n 1, 1) := by decide +kernel
theorem d_prog_32_method_6_code_87 : decode prog_32_method_6_code 87 = .ok (.ifCond .gt 7, 3) := by decide +kernel
theorem d_prog_32_method_6_code_90 : decode prog_32_method_6_code 90 = .ok (.iconst 1, 1) := by decide +kernel
theorem d_prog_32_method_6_code_91 : decode prog_32_method_6_code 91 = .ok (.goto 16, 3) := by decide +kernel
theorem d_prog_32_method_6_code_94 : decode prog_32_method_6_code 94 = .ok (.iconst 0, 1) := by decide +kernel
theorem d_prog_32_method_6_code_95 : decode prog_32_method_6_code 95 = .ok (.goto 12, 3) := by decide +kernel
theorem d_prog_32_method_6_code_98 : decode prog_32_method_6_code 98 = .ok (.iload_n 1, 1) := by decide +kernel
theorem d_prog_32_method_6_code_99 : decode prog_32_method_6_code 99 = .ok (.ifCond .lt 7, 3) := by decide +kernel
theorem d_prog_32_method_6_code_102 : decode prog_32_method_6_code 102 = .ok (.iconst 1, 1) := by decide +kernel
theorem d_prog_32_method_6_code_103 : decode prog_32_method_6_code 103 = .ok (.goto 4, 3) := by decide +kernel
theorem d_prog_32_method_6_code_106 : decode prog_32_method_6_code 106 = .ok (.iconst 0, 1) := by decide +kernel
theorem pd__I_Lcom_example_sealed_satchel_sealedsatchel_core_Operator_ : parseMethodDescriptor "(I)Lcom/example/sealed_satchel/sealedsatchel/core/Operator;" = some ⟨[.int], (some (.object "com/example/sealed_satchel/sealedsatchel/core/Operator"))⟩ := by decide +kernel
theorem pd__I_I : parseMethodDescriptor "(I)I" = some ⟨[.int], (some .int)⟩ := by decide +kernel
theorem pd__I_Z : parseMethodDescriptor "(I)Z" = some ⟨[.int], (some .boolean)⟩ := by decide +kernel
def Opn (Z : State) (n : String) (a : Addr) (i : Int32) : Prop := Sta Z Z.heap "com/example/sealed_satchel/sealedsatchel/core/Operator" n "Lcom/example/sealed_satchel/sealedsatchel/core/Operator;" (.ref a) ∧ Exa Z Z.heap a "com/example/sealed_satchel/sealedsatchel/core/Operator" ∧ Fld Z Z.heap a "java/lang/Enum" "ordinal" "I" (.int i)
set_option maxRecDepth 65536 in
set_option maxHeartbeats 40000000 in
theorem c_ordinal (l : Launch) (Z : State) (a0 : Array Value) (hw : ∀ d ∈ tables_1, d.before a0 Z = true) (n : String) (a : Addr) (i : Int32) (F : Opn Z n a i) : Con l Z (⟨"java/lang/Enum", "ordinal", "()I"⟩ : MethodName) jdk_37_method_2_code 1 (some .int) ({ frames := 0, cells := 0, slots := 0, locals := 0 } : Room) #[(.ref a)] Z.heap (fun v h L => v = some (.int i) ∧ h = Z.heap ∧ L = []) := by
  refine Con.of (plainFor_of_name pn_java_lang_Enum) (Ls := #[.val (.ref a)]) (fun m => by first | (simp [entryFrame, mkF, argsToLocals, Value.category]; done) | rfl) (fun p e s m below meth cod T K X eT => ?_)
  refine s_aloadN K X d_jdk_37_method_2_code_0 rfl rfl (q := 1) rfl ?_
  refine s_getF K X d_jdk_37_method_2_code_1 (hw _ (List.mem_of_getElem? (i := 23) rfl)) eT F.2.2 (q := 4) rfl (fun T1 X1 e1 => ?_)
  exact s_retI K X1 d_jdk_37_method_2_code_4 rfl e1 (by decide) (by decide) ⟨rfl, rfl, rfl⟩
set_option maxRecDepth 65536 in
set_option maxHeartbeats 40000000 in
theorem c_pick0 (l : Launch) (Z : State) (a0 : Array Value) (hw : ∀ d ∈ tables_1, d.before a0 Z = true) (a : Addr) (i : Int32) (F : Opn Z "EQ" a i) : Con l Z (⟨"com/example/sealed_satchel/sealedsatchel/core/OperatorHoldsPinLaw", "pick", "(I)Lcom/example/sealed_satchel/sealedsatchel/core/Operator;"⟩ : MethodName) method_2_code 1 (some (.object "com/example/sealed_satchel/sealedsatchel/core/Operator")) ({ frames := 0, cells := 0, slots := 0, locals := 0 } : Room) #[(.int (0 : Int32))] Z.heap (fun v h L => v = some (.ref a) ∧ h = Z.heap ∧ L = []) := by
  refine Con.of (plainFor_of_name pn_com_example_sealed_satchel_sealedsatchel_core_OperatorHoldsPinLaw) (Ls := #[.val (.int (0 : Int32))]) (fun m => by first | (simp [entryFrame, mkF, argsToLocals, Value.category]; done) | rfl) (fun p e s m below meth cod T K X eT => ?_)
  refine s_iloadN K X d_method_2_code_0 rfl (q := 1) rfl ?_
  refine s_if_ne K X d_method_2_code_1 (by decide) (q := 8) rfl (q' := 4) rfl (fun h_ => absurd h_ (by decide)) (fun _ => ?_)
  refine s_getS K X d_method_2_code_4 (hw _ (List.mem_of_getElem? (i := 5) rfl)) eT F.1 (q := 7) rfl (fun T2 X2 e2 => ?_)
  exact s_retA K X2 d_method_2_code_7 rfl rfl rfl e2 (by decide) (by decide) ⟨rfl, rfl, rfl⟩
set_option maxRecDepth 65536 in
set_option maxHeartbeats 40000000 in
theorem c_mask0 (l : Launch) (Z : State) (a0 : Array Value) (hw : ∀ d ∈ tables_1, d.before a0 Z = true)   : Con l Z (⟨"com/example/sealed_satchel/sealedsatchel/core/OperatorHoldsPinLaw", "acceptMask", "(I)I"⟩ : MethodName) method_3_code 1 (some .int) ({ frames := 0, cells := 0, slots := 0, locals := 0 } : Room) #[(.int (0 : Int32))] Z.heap (fun v h L => v = some (.int (2 : Int32)) ∧ h = Z.heap ∧ L = []) := by
  refine Con.of (plainFor_of_name pn_com_example_sealed_satchel_sealedsatchel_core_OperatorHoldsPinLaw) (Ls := #[.val (.int (0 : Int32))]) (fun m => by first | (simp [entryFrame, mkF, argsToLocals, Value.category]; done) | rfl) (fun p e s m below meth cod T K X eT => ?_)
  refine s_iloadN K X d_method_3_code_0 rfl (q := 1) rfl ?_
  refine s_if_ne K X d_method_3_code_1 (by decide) (q := 6) rfl (q' := 4) rfl (fun h_ => absurd h_ (by decide)) (fun _ => ?_)
  refine s_iconst K X d_method_3_code_4 (z := 2) rfl (q := 5) rfl ?_
  exact s_retI K X d_method_3_code_5 rfl eT (by decide) (by decide) ⟨rfl, rfl, rfl⟩
set_option maxRecDepth 65536 in
set_option maxHeartbeats 40000000 in
theorem c_pick1 (l : Launch) (Z : State) (a0 : Array Value) (hw : ∀ d ∈ tables_1, d.before a0 Z = true) (a : Addr) (i : Int32) (F : Opn Z "LT" a i) : Con l Z (⟨"com/example/sealed_satchel/sealedsatchel/core/OperatorHoldsPinLaw", "pick", "(I)Lcom/example/sealed_satchel/sealedsatchel/core/Operator;"⟩ : MethodName) method_2_code 1 (some (.object "com/example/sealed_satchel/sealedsatchel/core/Operator")) ({ frames := 0, cells := 0, slots := 0, locals := 0 } : Room) #[(.int (1 : Int32))] Z.heap (fun v h L => v = some (.ref a) ∧ h = Z.heap ∧ L = []) := by
  refine Con.of (plainFor_of_name pn_com_example_sealed_satchel_sealedsatchel_core_OperatorHoldsPinLaw) (Ls := #[.val (.int (1 : Int32))]) (fun m => by first | (simp [entryFrame, mkF, argsToLocals, Value.category]; done) | rfl) (fun p e s m below meth cod T K X eT => ?_)
  refine s_iloadN K X d_method_2_code_0 rfl (q := 1) rfl ?_
  refine s_if_ne K X d_method_2_code_1 (by decide) (q := 8) rfl (q' := 4) rfl (fun _ => ?_) (fun h_ => absurd h_ (by decide))
  refine s_iloadN K X d_method_2_code_8 rfl (q := 9) rfl ?_
  refine s_iconst K X d_method_2_code_9 (z := 1) rfl (q := 10) rfl ?_
  refine s_icmp_ne K X d_method_2_code_10 (by decide) (q := 17) rfl (q' := 13) rfl (fun h_ => absurd h_ (by decide)) (fun _ => ?_)
  refine s_getS K X d_method_2_code_13 (hw _ (List.mem_of_getElem? (i := 29) rfl)) eT F.1 (q := 16) rfl (fun T3 X3 e3 => ?_)
  exact s_retA K X3 d_method_2_code_16 rfl rfl rfl e3 (by decide) (by decide) ⟨rfl, rfl, rfl⟩
set_option maxRecDepth 65536 in
set_option maxHeartbeats 40000000 in
theorem c_mask1 (l : Launch) (Z : State) (a0 : Array Value) (hw : ∀ d ∈ tables_1, d.before a0 Z = true)   : Con l Z (⟨"com/example/sealed_satchel/sealedsatchel/core/OperatorHoldsPinLaw", "acceptMask", "(I)I"⟩ : MethodName) method_3_code 1 (some .int) ({ frames := 0, cells := 0, slots := 0, locals := 0 } : Room) #[(.int (1 : Int32))] Z.heap (fun v h L => v = some (.int (1 : Int32)) ∧ h = Z.heap ∧ L = []) := by
  refine Con.of (plainFor_of_name pn_com_example_sealed_satchel_sealedsatchel_core_OperatorHoldsPinLaw) (Ls := #[.val (.int (1 : Int32))]) (fun m => by first | (simp [entryFrame, mkF, argsToLocals, Value.category]; done) | rfl) (fun p e s m below meth cod T K X eT => ?_)
  refine s_iloadN K X d_method_3_code_0 rfl (q := 1) rfl ?_
  refine s_if_ne K X d_method_3_code_1 (by decide) (q := 6) rfl (q' := 4) rfl (fun _ => ?_) (fun h_ => absurd h_ (by decide))
  refine s_iloadN K X d_method_3_code_6 rfl (q := 7) rfl ?_
  refine s_iconst K X d_method_3_code_7 (z := 1) rfl (q := 8) rfl ?_
  refine s_icmp_ne K X d_method_3_code_8 (by decide) (q := 13) rfl (q' := 11) rfl (fun h_ => absurd h_ (by decide)) (fun _ => ?_)
  refine s_iconst K X d_method_3_code_11 (z := 1) rfl (q := 12) rfl ?_
  exact s_retI K X d_method_3_code_12 rfl eT (by decide) (by decide) ⟨rfl, rfl, rfl⟩
set_option maxRecDepth 65536 in
set_option maxHeartbeats 40000000 in
theorem c_pick2 (l : Launch) (Z : State) (a0 : Array Value) (hw : ∀ d ∈ tables_1, d.before a0 Z = true) (a : Addr) (i : Int32) (F : Opn Z "GT" a i) : Con l Z (⟨"com/example/sealed_satchel/sealedsatchel/core/OperatorHoldsPinLaw", "pick", "(I)Lcom/example/sealed_satchel/sealedsatchel/core/Operator;"⟩ : MethodName) method_2_code 1 (some (.object "com/example/sealed_satchel/sealedsatchel/core/Operator")) ({ frames := 0, cells := 0, slots := 0, locals := 0 } : Room) #[(.int (2 : Int32))] Z.heap (fun v h L => v = some (.ref a) ∧ h = Z.heap ∧ L = []) := by
  refine Con.of (plainFor_of_name pn_com_example_sealed_satchel_sealedsatchel_core_OperatorHoldsPinLaw) (Ls := #[.val (.int (2 : Int32))]) (fun m => by first | (simp [entryFrame, mkF, argsToLocals, Value.category]; done) | rfl) (fun p e s m below meth cod T K X eT => ?_)
  refine s_iloadN K X d_method_2_code_0 rfl (q := 1) rfl ?_
  refine s_if_ne K X d_method_2_code_1 (by decide) (q := 8) rfl (q' := 4) rfl (fun _ => ?_) (fun h_ => absurd h_ (by decide))
  refine s_iloadN K X d_method_2_code_8 rfl (q := 9) rfl ?_
  refine s_iconst K X d_method_2_code_9 (z := 1) rfl (q := 10) rfl ?_
  refine s_icmp_ne K X d_method_2_code_10 (by decide) (q := 17) rfl (q' := 13) rfl (fun _ => ?_) (fun h_ => absurd h_ (by decide))
  refine s_iloadN K X d_method_2_code_17 rfl (q := 18) rfl ?_
  refine s_iconst K X d_method_2_code_18 (z := 2) rfl (q := 19) rfl ?_
  refine s_icmp_ne K X d_method_2_code_19 (by decide) (q := 26) rfl (q' := 22) rfl (fun h_ => absurd h_ (by decide)) (fun _ => ?_)
  refine s_getS K X d_method_2_code_22 (hw _ (List.mem_of_getElem? (i := 31) rfl)) eT F.1 (q := 25) rfl (fun T4 X4 e4 => ?_)
  exact s_retA K X4 d_method_2_code_25 rfl rfl rfl e4 (by decide) (by decide) ⟨rfl, rfl, rfl⟩
set_option maxRecDepth 65536 in
set_option maxHeartbeats 40000000 in
theorem c_mask2 (l : Launch) (Z : State) (a0 : Array Value) (hw : ∀ d ∈ tables_1, d.before a0 Z = true)   : Con l Z (⟨"com/example/sealed_satchel/sealedsatchel/core/OperatorHoldsPinLaw", "acceptMask", "(I)I"⟩ : MethodName) method_3_code 1 (some .int) ({ frames := 0, cells := 0, slots := 0, locals := 0 } : Room) #[(.int (2 : Int32))] Z.heap (fun v h L => v = some (.int (4 : Int32)) ∧ h = Z.heap ∧ L = []) := by
  refine Con.of (plainFor_of_name pn_com_example_sealed_satchel_sealedsatchel_core_OperatorHoldsPinLaw) (Ls := #[.val (.int (2 : Int32))]) (fun m => by first | (simp [entryFrame, mkF, argsToLocals, Value.category]; done) | rfl) (fun p e s m below meth cod T K X eT => ?_)
  refine s_iloadN K X d_method_3_code_0 rfl (q := 1) rfl ?_
  refine s_if_ne K X d_method_3_code_1 (by decide) (q := 6) rfl (q' := 4) rfl (fun _ => ?_) (fun h_ => absurd h_ (by decide))
  refine s_iloadN K X d_method_3_code_6 rfl (q := 7) rfl ?_
  refine s_iconst K X d_method_3_code_7 (z := 1) rfl (q := 8) rfl ?_
  refine s_icmp_ne K X d_method_3_code_8 (by decide) (q := 13) rfl (q' := 11) rfl (fun _ => ?_) (fun h_ => absurd h_ (by decide))
  refine s_iloadN K X d_method_3_code_13 rfl (q := 14) rfl ?_
  refine s_iconst K X d_method_3_code_14 (z := 2) rfl (q := 15) rfl ?_
  refine s_icmp_ne K X d_method_3_code_15 (by decide) (q := 20) rfl (q' := 18) rfl (fun h_ => absurd h_ (by decide)) (fun _ => ?_)
  refine s_iconst K X d_method_3_code_18 (z := 4) rfl (q := 19) rfl ?_
  exact s_retI K X d_method_3_code_19 rfl eT (by decide) (by decide) ⟨rfl, rfl, rfl⟩
set_option maxRecDepth 65536 in
set_option maxHeartbeats 40000000 in
theorem c_pick3 (l : Launch) (Z : State) (a0 : Array Value) (hw : ∀ d ∈ tables_1, d.before a0 Z = true) (a : Addr) (i : Int32) (F : Opn Z "LTE" a i) : Con l Z (⟨"com/example/sealed_satchel/sealedsatchel/core/OperatorHoldsPinLaw", "pick", "(I)Lcom/example/sealed_satchel/sealedsatchel/core/Operator;"⟩ : MethodName) method_2_code 1 (some (.object "com/example/sealed_satchel/sealedsatchel/core/Operator")) ({ frames := 0, cells := 0, slots := 0, locals := 0 } : Room) #[(.int (3 : Int32))] Z.heap (fun v h L => v = some (.ref a) ∧ h = Z.heap ∧ L = []) := by
  refine Con.of (plainFor_of_name pn_com_example_sealed_satchel_sealedsatchel_core_OperatorHoldsPinLaw) (Ls := #[.val (.int (3 : Int32))]) (fun m => by first | (simp [entryFrame, mkF, argsToLocals, Value.category]; done) | rfl) (fun p e s m below meth cod T K X eT => ?_)
  refine s_iloadN K X d_method_2_code_0 rfl (q := 1) rfl ?_
  refine s_if_ne K X d_method_2_code_1 (by decide) (q := 8) rfl (q' := 4) rfl (fun _ => ?_) (fun h_ => absurd h_ (by decide))
  refine s_iloadN K X d_method_2_code_8 rfl (q := 9) rfl ?_
  refine s_iconst K X d_method_2_code_9 (z := 1) rfl (q := 10) rfl ?_
  refine s_icmp_ne K X d_method_2_code_10 (by decide) (q := 17) rfl (q' := 13) rfl (fun _ => ?_) (fun h_ => absurd h_ (by decide))
  refine s_iloadN K X d_method_2_code_17 rfl (q := 18) rfl ?_
  refine s_iconst K X d_method_2_code_18 (z := 2) rfl (q := 19) rfl ?_
  refine s_icmp_ne K X d_method_2_code_19 (by decide) (q := 26) rfl (q' := 22) rfl (fun _ => ?_) (fun h_ => absurd h_ (by decide))
  refine s_iloadN K X d_method_2_code_26 rfl (q := 27) rfl ?_
  refine s_iconst K X d_method_2_code_27 (z := 3) rfl (q := 28) rfl ?_
  refine s_icmp_ne K X d_method_2_code_28 (by decide) (q := 35) rfl (q' := 31) rfl (fun h_ => absurd h_ (by decide)) (fun _ => ?_)
  refine s_getS K X d_method_2_code_31 (hw _ (List.mem_of_getElem? (i := 27) rfl)) eT F.1 (q := 34) rfl (fun T5 X5 e5 => ?_)
  exact s_retA K X5 d_method_2_code_34 rfl rfl rfl e5 (by decide) (by decide) ⟨rfl, rfl, rfl⟩
set_option maxRecDepth 65536 in
set_option maxHeartbeats 40000000 in
theorem c_mask3 (l : Launch) (Z : State) (a0 : Array Value) (hw : ∀ d ∈ tables_1, d.before a0 Z = true)   : Con l Z (⟨"com/example/sealed_satchel/sealedsatchel/core/OperatorHoldsPinLaw", "acceptMask", "(I)I"⟩ : MethodName) method_3_code 1 (some .int) ({ frames := 0, cells := 0, slots := 0, locals := 0 } : Room) #[(.int (3 : Int32))] Z.heap (fun v h L => v = some (.int (3 : Int32)) ∧ h = Z.heap ∧ L = []) := by
  refine Con.of (plainFor_of_name pn_com_example_sealed_satchel_sealedsatchel_core_OperatorHoldsPinLaw) (Ls := #[.val (.int (3 : Int32))]) (fun m => by first | (simp [entryFrame, mkF, argsToLocals, Value.category]; done) | rfl) (fun p e s m below meth cod T K X eT => ?_)
  refine s_iloadN K X d_method_3_code_0 rfl (q := 1) rfl ?_
  refine s_if_ne K X d_method_3_code_1 (by decide) (q := 6) rfl (q' := 4) rfl (fun _ => ?_) (fun h_ => absurd h_ (by decide))
  refine s_iloadN K X d_method_3_code_6 rfl (q := 7) rfl ?_
  refine s_iconst K X d_method_3_code_7 (z := 1) rfl (q := 8) rfl ?_
  refine s_icmp_ne K X d_method_3_code_8 (by decide) (q := 13) rfl (q' := 11) rfl (fun _ => ?_) (fun h_ => absurd h_ (by decide))
  refine s_iloadN K X d_method_3_code_13 rfl (q := 14) rfl ?_
  refine s_iconst K X d_method_3_code_14 (z := 2) rfl (q := 15) rfl ?_
  refine s_icmp_ne K X d_method_3_code_15 (by decide) (q := 20) rfl (q' := 18) rfl (fun _ => ?_) (fun h_ => absurd h_ (by decide))
  refine s_iloadN K X d_method_3_code_20 rfl (q := 21) rfl ?_
  refine s_iconst K X d_method_3_code_21 (z := 3) rfl (q := 22) rfl ?_
  refine s_icmp_ne K X d_method_3_code_22 (by decide) (q := 27) rfl (q' := 25) rfl (fun h_ => absurd h_ (by decide)) (fun _ => ?_)
  refine s_iconst K X d_method_3_code_25 (z := 3) rfl (q := 26) rfl ?_
  exact s_retI K X d_method_3_code_26 rfl eT (by decide) (by decide) ⟨rfl, rfl, rfl⟩
set_option maxRecDepth 65536 in
set_option maxHeartbeats 40000000 in
theorem c_pick4 (l : Launch) (Z : State) (a0 : Array Value) (hw : ∀ d ∈ tables_1, d.before a0 Z = true) (a : Addr) (i : Int32) (F : Opn Z "GTE" a i) : Con l Z (⟨"com/example/sealed_satchel/sealedsatchel/core/OperatorHoldsPinLaw", "pick", "(I)Lcom/example/sealed_satchel/sealedsatchel/core/Operator;"⟩ : MethodName) method_2_code 1 (some (.object "com/example/sealed_satchel/sealedsatchel/core/Operator")) ({ frames := 0, cells := 0, slots := 0, locals := 0 } : Room) #[(.int (4 : Int32))] Z.heap (fun v h L => v = some (.ref a) ∧ h = Z.heap ∧ L = []) := by
  refine Con.of (plainFor_of_name pn_com_example_sealed_satchel_sealedsatchel_core_OperatorHoldsPinLaw) (Ls := #[.val (.int (4 : Int32))]) (fun m => by first | (simp [entryFrame, mkF, argsToLocals, Value.category]; done) | rfl) (fun p e s m below meth cod T K X eT => ?_)
  refine s_iloadN K X d_method_2_code_0 rfl (q := 1) rfl ?_
  refine s_if_ne K X d_method_2_code_1 (by decide) (q := 8) rfl (q' := 4) rfl (fun _ => ?_) (fun h_ => absurd h_ (by decide))
  refine s_iloadN K X d_method_2_code_8 rfl (q := 9) rfl ?_
  refine s_iconst K X d_method_2_code_9 (z := 1) rfl (q := 10) rfl ?_
  refine s_icmp_ne K X d_method_2_code_10 (by decide) (q := 17) rfl (q' := 13) rfl (fun _ => ?_) (fun h_ => absurd h_ (by decide))
  refine s_iloadN K X d_method_2_code_17 rfl (q := 18) rfl ?_
  refine s_iconst K X d_method_2_code_18 (z := 2) rfl (q := 19) rfl ?_
  refine s_icmp_ne K X d_method_2_code_19 (by decide) (q := 26) rfl (q' := 22) rfl (fun _ => ?_) (fun h_ => absurd h_ (by decide))
  refine s_iloadN K X d_method_2_code_26 rfl (q := 27) rfl ?_
  refine s_iconst K X d_method_2_code_27 (z := 3) rfl (q := 28) rfl ?_
  refine s_icmp_ne K X d_method_2_code_28 (by decide) (q := 35) rfl (q' := 31) rfl (fun _ => ?_) (fun h_ => absurd h_ (by decide))
  refine s_getS K X d_method_2_code_35 (hw _ (List.mem_of_getElem? (i := 25) rfl)) eT F.1 (q := 38) rfl (fun T6 X6 e6 => ?_)
  exact s_retA K X6 d_method_2_code_38 rfl rfl rfl e6 (by decide) (by decide) ⟨rfl, rfl, rfl⟩
set_option maxRecDepth 65536 in
set_option maxHeartbeats 40000000 in
theorem c_mask4 (l : Launch) (Z : State) (a0 : Array Value) (hw : ∀ d ∈ tables_1, d.before a0 Z = true)   : Con l Z (⟨"com/example/sealed_satchel/sealedsatchel/core/OperatorHoldsPinLaw", "acceptMask", "(I)I"⟩ : MethodName) method_3_code 1 (some .int) ({ frames := 0, cells := 0, slots := 0, locals := 0 } : Room) #[(.int (4 : Int32))] Z.heap (fun v h L => v = some (.int (6 : Int32)) ∧ h = Z.heap ∧ L = []) := by
  refine Con.of (plainFor_of_name pn_com_example_sealed_satchel_sealedsatchel_core_OperatorHoldsPinLaw) (Ls := #[.val (.int (4 : Int32))]) (fun m => by first | (simp [entryFrame, mkF, argsToLocals, Value.category]; done) | rfl) (fun p e s m below meth cod T K X eT => ?_)
  refine s_iloadN K X d_method_3_code_0 rfl (q := 1) rfl ?_
  refine s_if_ne K X d_method_3_code_1 (by decide) (q := 6) rfl (q' := 4) rfl (fun _ => ?_) (fun h_ => absurd h_ (by decide))
  refine s_iloadN K X d_method_3_code_6 rfl (q := 7) rfl ?_
  refine s_iconst K X d_method_3_code_7 (z := 1) rfl (q := 8) rfl ?_
  refine s_icmp_ne K X d_method_3_code_8 (by decide) (q := 13) rfl (q' := 11) rfl (fun _ => ?_) (fun h_ => absurd h_ (by decide))
  refine s_iloadN K X d_method_3_code_13 rfl (q := 14) rfl ?_
  refine s_iconst K X d_method_3_code_14 (z := 2) rfl (q := 15) rfl ?_
  refine s_icmp_ne K X d_method_3_code_15 (by decide) (q := 20) rfl (q' := 18) rfl (fun _ => ?_) (fun h_ => absurd h_ (by decide))
  refine s_iloadN K X d_method_3_code_20 rfl (q := 21) rfl ?_
  refine s_iconst K X d_method_3_code_21 (z := 3) rfl (q := 22) rfl ?_
  refine s_icmp_ne K X d_method_3_code_22 (by decide) (q := 27) rfl (q' := 25) rfl (fun _ => ?_) (fun h_ => absurd h_ (by decide))
  refine s_bipush K X d_method_3_code_27 (z := 6) rfl (q := 29) rfl ?_
  exact s_retI K X d_method_3_code_29 rfl eT (by decide) (by decide) ⟨rfl, rfl, rfl⟩
set_option maxRecDepth 65536 in
set_option maxHeartbeats 40000000 in
theorem c_holds0 (l : Launch) (Z : State) (a0 : Array Value) (hw : ∀ d ∈ tables_1, d.before a0 Z = true) (n : String) (a : Addr) (c : Int32) (F : Opn Z n a 0) : Con l Z (⟨"com/example/sealed_satchel/sealedsatchel/core/Operator", "holds", "(I)Z"⟩ : MethodName) prog_32_method_6_code 2 (some .boolean) ({ frames := 1, cells := 0, slots := 0, locals := 12 } : Room) #[(.ref a), (.int c)] Z.heap (fun v h L => v = some (.int (if c = 0 then 1 else 0)) ∧ h = Z.heap ∧ L = []) := by
  refine Con.of (plainFor_of_name pn_com_example_sealed_satchel_sealedsatchel_core_Operator) (Ls := #[.val (.ref a), .val (.int c)]) (fun m => by first | (simp [entryFrame, mkF, argsToLocals, Value.category]; done) | rfl) (fun p e s m below meth cod T K X eT => ?_)
  refine s_aloadN K X d_prog_32_method_6_code_0 rfl rfl (q := 1) rfl ?_
  refine s_callU K X 0 (y := (⟨"com/example/sealed_satchel/sealedsatchel/core/Operator", "ordinal", "()I"⟩ : MethodName)) (z := (⟨"java/lang/Enum", "ordinal", "()I"⟩ : MethodName)) d_prog_32_method_6_code_1 (hw _ (List.mem_of_getElem? (i := 16) rfl)) (hw _ (List.mem_of_getElem? (i := 17) rfl)) (hw _ (List.mem_of_getElem? (i := 18) rfl)) (hw _ (List.mem_of_getElem? (i := 20) rfl)) (hw _ (List.mem_of_getElem? (i := 19) rfl)) (hw _ (List.mem_of_getElem? (i := 21) rfl)) (hw _ (List.mem_of_getElem? (i := 22) rfl)) (by decide) pd___I rfl eT F.2.1 (argsL := []) (st := []) (c_ordinal l Z a0 hw n a 0 F) rfl rfl (by decide) (Nat.le_of_eq rfl) (by decide) (by decide) (by decide) (q := 4) rfl (fun v7 T7 h7 L7 X7 e7 hQ7 => ?_)
  obtain ⟨rfl, rfl, rfl⟩ := hQ7
  refine s_tsw K X7 d_prog_32_method_6_code_4 (i := 0) (by decide) (o := 46) rfl (by decide) (q := 50) rfl ?_
  refine s_iloadN K X7 d_prog_32_method_6_code_50 rfl (q := 51) rfl ?_
  refine s_if_ne K X7 d_prog_32_method_6_code_51 (by decide) (q := 58) rfl (q' := 54) rfl (fun hy => ?_) (fun hn => ?_)
  ·
    refine s_iconst K X7 d_prog_32_method_6_code_58 (z := 0) rfl (q := 59) rfl ?_
    refine s_goto K X7 d_prog_32_method_6_code_59 (by decide) (q := 107) rfl ?_
    exact s_retZ K X7 d_prog_32_method_6_code_107 rfl (by decide) e7 (by decide) (by decide) ⟨by first | rw [if_pos (by assumption)] | rw [if_neg (by assumption)] | rw [if_neg (not_not_intro (by assumption))], rfl, rfl⟩
  ·
    refine s_iconst K X7 d_prog_32_method_6_code_54 (z := 1) rfl (q := 55) rfl ?_
    refine s_goto K X7 d_prog_32_method_6_code_55 (by decide) (q := 107) rfl ?_
    exact s_retZ K X7 d_prog_32_method_6_code_107 rfl (by decide) e7 (by decide) (by decide) ⟨by first | rw [if_pos (by assumption)] | rw [if_neg (by assumption)] | rw [if_neg (not_not_intro (by assumption))], rfl, rfl⟩
set_option maxRecDepth 65536 in
set_option maxHeartbeats 40000000 in
theorem c_holds1 (l : Launch) (Z : State) (a0 : Array Value) (hw : ∀ d ∈ tables_1, d.before a0 Z = true) (n : String) (a : Addr) (c : Int32) (F : Opn Z n a 1) : Con l Z (⟨"com/example/sealed_satchel/sealedsatchel/core/Operator", "holds", "(I)Z"⟩ : MethodName) prog_32_method_6_code 2 (some .boolean) ({ frames := 1, cells := 0, slots := 0, locals := 12 } : Room) #[(.ref a), (.int c)] Z.heap (fun v h L => v = some (.int (if c < 0 then 1 else 0)) ∧ h = Z.heap ∧ L = []) := by
  refine Con.of (plainFor_of_name pn_com_example_sealed_satchel_sealedsatchel_core_Operator) (Ls := #[.val (.ref a), .val (.int c)]) (fun m => by first | (simp [entryFrame, mkF, argsToLocals, Value.category]; done) | rfl) (fun p e s m below meth cod T K X eT => ?_)
  refine s_aloadN K X d_prog_32_method_6_code_0 rfl rfl (q := 1) rfl ?_
  refine s_callU K X 0 (y := (⟨"com/example/sealed_satchel/sealedsatchel/core/Operator", "ordinal", "()I"⟩ : MethodName)) (z := (⟨"java/lang/Enum", "ordinal", "()I"⟩ : MethodName)) d_prog_32_method_6_code_1 (hw _ (List.mem_of_getElem? (i := 16) rfl)) (hw _ (List.mem_of_getElem? (i := 17) rfl)) (hw _ (List.mem_of_getElem? (i := 18) rfl)) (hw _ (List.mem_of_getElem? (i := 20) rfl)) (hw _ (List.mem_of_getElem? (i := 19) rfl)) (hw _ (List.mem_of_getElem? (i := 21) rfl)) (hw _ (List.mem_of_getElem? (i := 22) rfl)) (by decide) pd___I rfl eT F.2.1 (argsL := []) (st := []) (c_ordinal l Z a0 hw n a 1 F) rfl rfl (by decide) (Nat.le_of_eq rfl) (by decide) (by decide) (by decide) (q := 4) rfl (fun v8 T8 h8 L8 X8 e8 hQ8 => ?_)
  obtain ⟨rfl, rfl, rfl⟩ := hQ8
  refine s_tsw K X8 d_prog_32_method_6_code_4 (i := 1) (by decide) (o := 58) rfl (by decide) (q := 62) rfl ?_
  refine s_iloadN K X8 d_prog_32_method_6_code_62 rfl (q := 63) rfl ?_
  refine s_if_ge K X8 d_prog_32_method_6_code_63 (by decide) (q := 70) rfl (q' := 66) rfl (fun hy => ?_) (fun hn => ?_)
  ·
    refine s_iconst K X8 d_prog_32_method_6_code_70 (z := 0) rfl (q := 71) rfl ?_
    refine s_goto K X8 d_prog_32_method_6_code_71 (by decide) (q := 107) rfl ?_
    exact s_retZ K X8 d_prog_32_method_6_code_107 rfl (by decide) e8 (by decide) (by decide) ⟨by first | rw [if_pos (by assumption)] | rw [if_neg (by assumption)] | rw [if_neg (not_not_intro (by assumption))], rfl, rfl⟩
  ·
    refine s_iconst K X8 d_prog_32_method_6_code_66 (z := 1) rfl (q := 67) rfl ?_
    refine s_goto K X8 d_prog_32_method_6_code_67 (by decide) (q := 107) rfl ?_
    exact s_retZ K X8 d_prog_32_method_6_code_107 rfl (by decide) e8 (by decide) (by decide) ⟨by first | rw [if_pos (by assumption)] | rw [if_neg (by assumption)] | rw [if_neg (not_not_intro (by assumption))], rfl, rfl⟩
set_option maxRecDepth 65536 in
set_option maxHeartbeats 40000000 in
theorem c_holds2 (l : Launch) (Z : State) (a0 : Array Value) (hw : ∀ d ∈ tables_1, d.before a0 Z = true) (n : String) (a : Addr) (c : Int32) (F : Opn Z n a 2) : Con l Z (⟨"com/example/sealed_satchel/sealedsatchel/core/Operator", "holds", "(I)Z"⟩ : MethodName) prog_32_method_6_code 2 (some .boolean) ({ frames := 1, cells := 0, slots := 0, locals := 12 } : Room) #[(.ref a), (.int c)] Z.heap (fun v h L => v = some (.int (if 0 < c then 1 else 0)) ∧ h = Z.heap ∧ L = []) := by
  refine Con.of (plainFor_of_name pn_com_example_sealed_satchel_sealedsatchel_core_Operator) (Ls := #[.val (.ref a), .val (.int c)]) (fun m => by first | (simp [entryFrame, mkF, argsToLocals, Value.category]; done) | rfl) (fun p e s m below meth cod T K X eT => ?_)
  refine s_aloadN K X d_prog_32_method_6_code_0 rfl rfl (q := 1) rfl ?_
  refine s_callU K X 0 (y := (⟨"com/example/sealed_satchel/sealedsatchel/core/Operator", "ordinal", "()I"⟩ : MethodName)) (z := (⟨"java/lang/Enum", "ordinal", "()I"⟩ : MethodName)) d_prog_32_method_6_code_1 (hw _ (List.mem_of_getElem? (i := 16) rfl)) (hw _ (List.mem_of_getElem? (i := 17) rfl)) (hw _ (List.mem_of_getElem? (i := 18) rfl)) (hw _ (List.mem_of_getElem? (i := 20) rfl)) (hw _ (List.mem_of_getElem? (i := 19) rfl)) (hw _ (List.mem_of_getElem? (i := 21) rfl)) (hw _ (List.mem_of_getElem? (i := 22) rfl)) (by decide) pd___I rfl eT F.2.1 (argsL := []) (st := []) (c_ordinal l Z a0 hw n a 2 F) rfl rfl (by decide) (Nat.le_of_eq rfl) (by decide) (by decide) (by decide) (q := 4) rfl (fun v9 T9 h9 L9 X9 e9 hQ9 => ?_)
  obtain ⟨rfl, rfl, rfl⟩ := hQ9
  refine s_tsw K X9 d_prog_32_method_6_code_4 (i := 2) (by decide) (o := 70) rfl (by decide) (q := 74) rfl ?_
  refine s_iloadN K X9 d_prog_32_method_6_code_74 rfl (q := 75) rfl ?_
  refine s_if_le K X9 d_prog_32_method_6_code_75 (by decide) (q := 82) rfl (q' := 78) rfl (fun hy => ?_) (fun hn => ?_)
  ·
    refine s_iconst K X9 d_prog_32_method_6_code_82 (z := 0) rfl (q := 83) rfl ?_
    refine s_goto K X9 d_prog_32_method_6_code_83 (by decide) (q := 107) rfl ?_
    exact s_retZ K X9 d_prog_32_method_6_code_107 rfl (by decide) e9 (by decide) (by decide) ⟨by first | rw [if_pos (by assumption)] | rw [if_neg (by assumption)] | rw [if_neg (not_not_intro (by assumption))], rfl, rfl⟩
  ·
    refine s_iconst K X9 d_prog_32_method_6_code_78 (z := 1) rfl (q := 79) rfl ?_
    refine s_goto K X9 d_prog_32_method_6_code_79 (by decide) (q := 107) rfl ?_
    exact s_retZ K X9 d_prog_32_method_6_code_107 rfl (by decide) e9 (by decide) (by decide) ⟨by first | rw [if_pos (by assumption)] | rw [if_neg (by assumption)] | rw [if_neg (not_not_intro (by assumption))], rfl, rfl⟩
set_option maxRecDepth 65536 in
set_option maxHeartbeats 40000000 in
theorem c_holds3 (l : Launch) (Z : State) (a0 : Array Value) (hw : ∀ d ∈ tables_1, d.before a0 Z = true) (n : String) (a : Addr) (c : Int32) (F : Opn Z n a 3) : Con l Z (⟨"com/example/sealed_satchel/sealedsatchel/core/Operator", "holds", "(I)Z"⟩ : MethodName) prog_32_method_6_code 2 (some .boolean) ({ frames := 1, cells := 0, slots := 0, locals := 12 } : Room) #[(.ref a), (.int c)] Z.heap (fun v h L => v = some (.int (if ¬ 0 < c then 1 else 0)) ∧ h = Z.heap ∧ L = []) := by
  refine Con.of (plainFor_of_name pn_com_example_sealed_satchel_sealedsatchel_core_Operator) (Ls := #[.val (.ref a), .val (.int c)]) (fun m => by first | (simp [entryFrame, mkF, argsToLocals, Value.category]; done) | rfl) (fun p e s m below meth cod T K X eT => ?_)
  refine s_aloadN K X d_prog_32_method_6_code_0 rfl rfl (q := 1) rfl ?_
  refine s_callU K X 0 (y := (⟨"com/example/sealed_satchel/sealedsatchel/core/Operator", "ordinal", "()I"⟩ : MethodName)) (z := (⟨"java/lang/Enum", "ordinal", "()I"⟩ : MethodName)) d_prog_32_method_6_code_1 (hw _ (List.mem_of_getElem? (i := 16) rfl)) (hw _ (List.mem_of_getElem? (i := 17) rfl)) (hw _ (List.mem_of_getElem? (i := 18) rfl)) (hw _ (List.mem_of_getElem? (i := 20) rfl)) (hw _ (List.mem_of_getElem? (i := 19) rfl)) (hw _ (List.mem_of_getElem? (i := 21) rfl)) (hw _ (List.mem_of_getElem? (i := 22) rfl)) (by decide) pd___I rfl eT F.2.1 (argsL := []) (st := []) (c_ordinal l Z a0 hw n a 3 F) rfl rfl (by decide) (Nat.le_of_eq rfl) (by decide) (by decide) (by decide) (q := 4) rfl (fun v10 T10 h10 L10 X10 e10 hQ10 => ?_)
  obtain ⟨rfl, rfl, rfl⟩ := hQ10
  refine s_tsw K X10 d_prog_32_method_6_code_4 (i := 3) (by decide) (o := 82) rfl (by decide) (q := 86) rfl ?_
  refine s_iloadN K X10 d_prog_32_method_6_code_86 rfl (q := 87) rfl ?_
  refine s_if_gt K X10 d_prog_32_method_6_code_87 (by decide) (q := 94) rfl (q' := 90) rfl (fun hy => ?_) (fun hn => ?_)
  ·
    refine s_iconst K X10 d_prog_32_method_6_code_94 (z := 0) rfl (q := 95) rfl ?_
    refine s_goto K X10 d_prog_32_method_6_code_95 (by decide) (q := 107) rfl ?_
    exact s_retZ K X10 d_prog_32_method_6_code_107 rfl (by decide) e10 (by decide) (by decide) ⟨by first | rw [if_pos (by assumption)] | rw [if_neg (by assumption)] | rw [if_neg (not_not_intro (by assumption))], rfl, rfl⟩
  ·
    refine s_iconst K X10 d_prog_32_method_6_code_90 (z := 1) rfl (q := 91) rfl ?_
    refine s_goto K X10 d_prog_32_method_6_code_91 (by decide) (q := 107) rfl ?_
    exact s_retZ K X10 d_prog_32_method_6_code_107 rfl (by decide) e10 (by decide) (by decide) ⟨by first | rw [if_pos (by assumption)] | rw [if_neg (by assumption)] | rw [if_neg (not_not_intro (by assumption))], rfl, rfl⟩
set_option maxRecDepth 65536 in
set_option maxHeartbeats 40000000 in
theorem c_holds4 (l : Launch) (Z : State) (a0 : Array Value) (hw : ∀ d ∈ tables_1, d.before a0 Z = true) (n : String) (a : Addr) (c : Int32) (F : Opn Z n a 4) : Con l Z (⟨"com/example/sealed_satchel/sealedsatchel/core/Operator", "holds", "(I)Z"⟩ : MethodName) prog_32_method_6_code 2 (some .boolean) ({ frames := 1, cells := 0, slots := 0, locals := 12 } : Room) #[(.ref a), (.int c)] Z.heap (fun v h L => v = some (.int (if ¬ c < 0 then 1 else 0)) ∧ h = Z.heap ∧ L = []) := by
  refine Con.of (plainFor_of_name pn_com_example_sealed_satchel_sealedsatchel_core_Operator) (Ls := #[.val (.ref a), .val (.int c)]) (fun m => by first | (simp [entryFrame, mkF, argsToLocals, Value.category]; done) | rfl) (fun p e s m below meth cod T K X eT => ?_)
  refine s_aloadN K X d_prog_32_method_6_code_0 rfl rfl (q := 1) rfl ?_
  refine s_callU K X 0 (y := (⟨"com/example/sealed_satchel/sealedsatchel/core/Operator", "ordinal", "()I"⟩ : MethodName)) (z := (⟨"java/lang/Enum", "ordinal", "()I"⟩ : MethodName)) d_prog_32_method_6_code_1 (hw _ (List.mem_of_getElem? (i := 16) rfl)) (hw _ (List.mem_of_getElem? (i := 17) rfl)) (hw _ (List.mem_of_getElem? (i := 18) rfl)) (hw _ (List.mem_of_getElem? (i := 20) rfl)) (hw _ (List.mem_of_getElem? (i := 19) rfl)) (hw _ (List.mem_of_getElem? (i := 21) rfl)) (hw _ (List.mem_of_getElem? (i := 22) rfl)) (by decide) pd___I rfl eT F.2.1 (argsL := []) (st := []) (c_ordinal l Z a0 hw n a 4 F) rfl rfl (by decide) (Nat.le_of_eq rfl) (by decide) (by decide) (by decide) (q := 4) rfl (fun v11 T11 h11 L11 X11 e11 hQ11 => ?_)
  obtain ⟨rfl, rfl, rfl⟩ := hQ11
  refine s_tsw K X11 d_prog_32_method_6_code_4 (i := 4) (by decide) (o := 94) rfl (by decide) (q := 98) rfl ?_
  refine s_iloadN K X11 d_prog_32_method_6_code_98 rfl (q := 99) rfl ?_
  refine s_if_lt K X11 d_prog_32_method_6_code_99 (by decide) (q := 106) rfl (q' := 102) rfl (fun hy => ?_) (fun hn => ?_)
  ·
    refine s_iconst K X11 d_prog_32_method_6_code_106 (z := 0) rfl (q := 107) rfl ?_
    exact s_retZ K X11 d_prog_32_method_6_code_107 rfl (by decide) e11 (by decide) (by decide) ⟨by first | rw [if_pos (by assumption)] | rw [if_neg (by assumption)] | rw [if_neg (not_not_intro (by assumption))], rfl, rfl⟩
  ·
    refine s_iconst K X11 d_prog_32_method_6_code_102 (z := 1) rfl (q := 103) rfl ?_
    refine s_goto K X11 d_prog_32_method_6_code_103 (by decide) (q := 107) rfl ?_
    exact s_retZ K X11 d_prog_32_method_6_code_107 rfl (by decide) e11 (by decide) (by decide) ⟨by first | rw [if_pos (by assumption)] | rw [if_neg (by assumption)] | rw [if_neg (not_not_intro (by assumption))], rfl, rfl⟩
theorem own_lt_0 {c : Int32} (h : c < 0) : (if c = 0 then (1 : Int32) else 0) = 0 := by rw [if_neg]; intro z; subst z; exact absurd h (by decide)
theorem own_eq_0 {c : Int32} (h : c = 0) : (if c = 0 then (1 : Int32) else 0) = 1 := by subst h; decide
theorem own_gt_0 {c : Int32} (h : 0 < c) : (if c = 0 then (1 : Int32) else 0) = 0 := by rw [if_neg]; intro z; subst z; exact absurd h (by decide)
theorem own_pos {c : Int32} (h1 : ¬ c < 0) (h2 : ¬ c = 0) : 0 < c := by
  rw [Int32.lt_iff_toInt_lt] at h1 ⊢; have : c.toInt ≠ 0 := fun z => h2 (Int32.toInt_inj.mp z)
  have : (0 : Int32).toInt = 0 := rfl
  omega
set_option maxRecDepth 65536 in
set_option maxHeartbeats 40000000 in
theorem c_law0 (l : Launch) (Z : State) (a0 : Array Value) (hw : ∀ d ∈ tables_1, d.before a0 Z = true) (p1 p2 : Int32) (a : Addr) (F : Opn Z "EQ" a 0) (hk : (p1 &&& (2147483647 : Int32)) % (5 : Int32) = 0) : Con l Z x code maxLocals ret room_1 #[(.int p1), (.int p2)] Z.heap (fun v h L => v = some (.int 1) ∧ h = Z.heap ∧ L = []) := by
  refine Con.of (plainFor_of_name pn_com_example_sealed_satchel_sealedsatchel_core_OperatorHoldsPinLaw) (Ls := #[.val (.int p1), .val (.int p2), .unset, .unset, .unset, .unset]) (fun m => by first | (simp [entryFrame, mkF, argsToLocals, Value.category, maxLocals]; done) | rfl) (fun p e s m below meth cod T K X eT => ?_)
  refine s_iloadN K X at_0 rfl (q := 1) rfl ?_
  refine s_ldcI K X at_1 (hw _ (List.mem_of_getElem? (i := 0) rfl)) (q := 3) rfl ?_
  refine s_iand K X at_3 (q := 4) rfl ?_
  refine s_iconst K X at_4 (z := 5) rfl (q := 5) rfl ?_
  refine s_irem K X at_5 (by decide) (q := 6) rfl ?_
  refine s_istoreN K X at_6 (l' := #[.val (.int p1), .val (.int p2), .val (.int ((p1 &&& (2147483647 : Int32)) % (5 : Int32))), .unset, .unset, .unset]) rfl (q := 7) rfl ?_
  refine s_iloadN K X at_7 rfl (q := 8) rfl ?_
  rw [hk]
  refine s_callS K X 0 at_8 (hw _ (List.mem_of_getElem? (i := 1) rfl)) (hw _ (List.mem_of_getElem? (i := 2) rfl)) (hw _ (List.mem_of_getElem? (i := 3) rfl)) (hw _ (List.mem_of_getElem? (i := 4) rfl)) (by decide) pd__I_Lcom_example_sealed_satchel_sealedsatchel_core_Operator_ rfl eT (argsL := [(.int (0 : Int32))]) (st := []) (c_pick0 l Z a0 hw a 0 F) rfl rfl (by decide) (Nat.le_of_eq rfl) (by decide) (by decide) (by decide) (q := 11) rfl (fun v12 T12 h12 L12 X12 e12 hQ12 => ?_)
  obtain ⟨rfl, rfl, rfl⟩ := hQ12
  refine s_astoreN K X12 at_11 rfl (l' := #[.val (.int p1), .val (.int p2), .val (.int (0 : Int32)), .val (.ref a), .unset, .unset]) rfl (q := 12) rfl ?_
  refine s_iloadN K X12 at_12 rfl (q := 13) rfl ?_
  refine s_if_ge K X12 at_13 (by decide) (q := 20) rfl (q' := 16) rfl (fun h1 => ?_) (fun h1 => ?_)
  ·
    refine s_iloadN K X12 at_20 rfl (q := 21) rfl ?_
    refine s_if_ne K X12 at_21 (by decide) (q := 28) rfl (q' := 24) rfl (fun h2 => ?_) (fun h2 => ?_)
    ·
      refine s_iconst K X12 at_28 (z := 2) rfl (q := 29) rfl ?_
      refine s_istore K X12 at_29 (l' := #[.val (.int p1), .val (.int p2), .val (.int (0 : Int32)), .val (.ref a), .val (.int (2 : Int32)), .unset]) rfl (q := 31) rfl ?_
      refine s_iloadN K X12 at_31 rfl (q := 32) rfl ?_
      refine s_callS K X12 0 at_32 (hw _ (List.mem_of_getElem? (i := 8) rfl)) (hw _ (List.mem_of_getElem? (i := 9) rfl)) (hw _ (List.mem_of_getElem? (i := 3) rfl)) (hw _ (List.mem_of_getElem? (i := 10) rfl)) (by decide) pd__I_I rfl e12 (argsL := [(.int (0 : Int32))]) (st := []) (c_mask0 l Z a0 hw) rfl rfl (by decide) (Nat.le_of_eq rfl) (by decide) (by decide) (by decide) (q := 35) rfl (fun v17 T17 h17 L17 X17 e17 hQ17 => ?_)
      obtain ⟨rfl, rfl, rfl⟩ := hQ17
      refine s_iload K X17 at_35 rfl (q := 37) rfl ?_
      refine s_ishr K X17 at_37 (q := 38) rfl ?_
      refine s_iconst K X17 at_38 (z := 1) rfl (q := 39) rfl ?_
      refine s_iand K X17 at_39 (q := 40) rfl ?_
      refine s_if_eq K X17 at_40 (by decide) (q := 47) rfl (q' := 43) rfl (fun _ => ?_) (fun h_ => absurd h_ (by decide))
      refine s_iconst K X17 at_47 (z := 0) rfl (q := 48) rfl ?_
      refine s_istore K X17 at_48 (l' := #[.val (.int p1), .val (.int p2), .val (.int (0 : Int32)), .val (.ref a), .val (.int (2 : Int32)), .val (.int (0 : Int32))]) rfl (q := 50) rfl ?_
      refine s_aloadN K X17 at_50 rfl rfl (q := 51) rfl ?_
      refine s_iloadN K X17 at_51 rfl (q := 52) rfl ?_
      refine s_callV K X17 0 (y := (⟨"com/example/sealed_satchel/sealedsatchel/core/Operator", "holds", "(I)Z"⟩ : MethodName)) (z := (⟨"com/example/sealed_satchel/sealedsatchel/core/Operator", "holds", "(I)Z"⟩ : MethodName)) at_52 (hw _ (List.mem_of_getElem? (i := 11) rfl)) (hw _ (List.mem_of_getElem? (i := 12) rfl)) (notFace_of_selects (args := #[]) (mvT K.hZ (hw _ (List.mem_of_getElem? (i := 14) rfl)))) (hw _ (List.mem_of_getElem? (i := 14) rfl)) (hw _ (List.mem_of_getElem? (i := 13) rfl)) (hw _ (List.mem_of_getElem? (i := 6) rfl)) (hw _ (List.mem_of_getElem? (i := 15) rfl)) (by decide) pd__I_Z rfl e17 F.2.1 (argsL := [(.int p2)]) (st := []) (c_holds0 l Z a0 hw "EQ" a p2 F) rfl rfl (by decide) (Nat.le_of_eq rfl) (by decide) (by decide) (by decide) (q := 55) rfl (fun v18 T18 h18 L18 X18 e18 hQ18 => ?_)
      obtain ⟨rfl, rfl, rfl⟩ := hQ18
      rw [show (if p2 = 0 then (1 : Int32) else 0) = 0 from own_gt_0 (own_pos h1 h2)]
      refine s_iload K X18 at_55 rfl (q := 57) rfl ?_
      refine s_icmp_ne K X18 at_57 (by decide) (q := 64) rfl (q' := 60) rfl (fun h_ => absurd h_ (by decide)) (fun _ => ?_)
      refine s_iconst K X18 at_60 (z := 1) rfl (q := 61) rfl ?_
      refine s_goto K X18 at_61 (by decide) (q := 65) rfl ?_
      exact s_retZ K X18 at_65 rfl (by decide) e18 (by decide) (by decide) ⟨rfl, rfl, rfl⟩
    ·
      refine s_iconst K X12 at_24 (z := 1) rfl (q := 25) rfl ?_
      refine s_goto K X12 at_25 (by decide) (q := 29) rfl ?_
      refine s_istore K X12 at_29 (l' := #[.val (.int p1), .val (.int p2), .val (.int (0 : Int32)), .val (.ref a), .val (.int (1 : Int32)), .unset]) rfl (q := 31) rfl ?_
      refine s_iloadN K X12 at_31 rfl (q := 32) rfl ?_
      refine s_callS K X12 0 at_32 (hw _ (List.mem_of_getElem? (i := 8) rfl)) (hw _ (List.mem_of_getElem? (i := 9) rfl)) (hw _ (List.mem_of_getElem? (i := 3) rfl)) (hw _ (List.mem_of_getElem? (i := 10) rfl)) (by decide) pd__I_I rfl e12 (argsL := [(.int (0 : Int32))]) (st := []) (c_mask0 l Z a0 hw) rfl rfl (by decide) (Nat.le_of_eq rfl) (by decide) (by decide) (by decide) (q := 35) rfl (fun v15 T15 h15 L15 X15 e15 hQ15 => ?_)
      obtain ⟨rfl, rfl, rfl⟩ := hQ15
      refine s_iload K X15 at_35 rfl (q := 37) rfl ?_
      refine s_ishr K X15 at_37 (q := 38) rfl ?_
      refine s_iconst K X15 at_38 (z := 1) rfl (q := 39) rfl ?_
      refine s_iand K X15 at_39 (q := 40) rfl ?_
      refine s_if_eq K X15 at_40 (by decide) (q := 47) rfl (q' := 43) rfl (fun h_ => absurd h_ (by decide)) (fun _ => ?_)
      refine s_iconst K X15 at_43 (z := 1) rfl (q := 44) rfl ?_
      refine s_goto K X15 at_44 (by decide) (q := 48) rfl ?_
      refine s_istore K X15 at_48 (l' := #[.val (.int p1), .val (.int p2), .val (.int (0 : Int32)), .val (.ref a), .val (.int (1 : Int32)), .val (.int (1 : Int32))]) rfl (q := 50) rfl ?_
      refine s_aloadN K X15 at_50 rfl rfl (q := 51) rfl ?_
      refine s_iloadN K X15 at_51 rfl (q := 52) rfl ?_
      refine s_callV K X15 0 (y := (⟨"com/example/sealed_satchel/sealedsatchel/core/Operator", "holds", "(I)Z"⟩ : MethodName)) (z := (⟨"com/example/sealed_satchel/sealedsatchel/core/Operator", "holds", "(I)Z"⟩ : MethodName)) at_52 (hw _ (List.mem_of_getElem? (i := 11) rfl)) (hw _ (List.mem_of_getElem? (i := 12) rfl)) (notFace_of_selects (args := #[]) (mvT K.hZ (hw _ (List.mem_of_getElem? (i := 14) rfl)))) (hw _ (List.mem_of_getElem? (i := 14) rfl)) (hw _ (List.mem_of_getElem? (i := 13) rfl)) (hw _ (List.mem_of_getElem? (i := 6) rfl)) (hw _ (List.mem_of_getElem? (i := 15) rfl)) (by decide) pd__I_Z rfl e15 F.2.1 (argsL := [(.int p2)]) (st := []) (c_holds0 l Z a0 hw "EQ" a p2 F) rfl rfl (by decide) (Nat.le_of_eq rfl) (by decide) (by decide) (by decide) (q := 55) rfl (fun v16 T16 h16 L16 X16 e16 hQ16 => ?_)
      obtain ⟨rfl, rfl, rfl⟩ := hQ16
      rw [show (if p2 = 0 then (1 : Int32) else 0) = 1 from own_eq_0 h2]
      refine s_iload K X16 at_55 rfl (q := 57) rfl ?_
      refine s_icmp_ne K X16 at_57 (by decide) (q := 64) rfl (q' := 60) rfl (fun h_ => absurd h_ (by decide)) (fun _ => ?_)
      refine s_iconst K X16 at_60 (z := 1) rfl (q := 61) rfl ?_
      refine s_goto K X16 at_61 (by decide) (q := 65) rfl ?_
      exact s_retZ K X16 at_65 rfl (by decide) e16 (by decide) (by decide) ⟨rfl, rfl, rfl⟩
  ·
    refine s_iconst K X12 at_16 (z := 0) rfl (q := 17) rfl ?_
    refine s_goto K X12 at_17 (by decide) (q := 29) rfl ?_
    refine s_istore K X12 at_29 (l' := #[.val (.int p1), .val (.int p2), .val (.int (0 : Int32)), .val (.ref a), .val (.int (0 : Int32)), .unset]) rfl (q := 31) rfl ?_
    refine s_iloadN K X12 at_31 rfl (q := 32) rfl ?_
    refine s_callS K X12 0 at_32 (hw _ (List.mem_of_getElem? (i := 8) rfl)) (hw _ (List.mem_of_getElem? (i := 9) rfl)) (hw _ (List.mem_of_getElem? (i := 3) rfl)) (hw _ (List.mem_of_getElem? (i := 10) rfl)) (by decide) pd__I_I rfl e12 (argsL := [(.int (0 : Int32))]) (st := []) (c_mask0 l Z a0 hw) rfl rfl (by decide) (Nat.le_of_eq rfl) (by decide) (by decide) (by decide) (q := 35) rfl (fun v13 T13 h13 L13 X13 e13 hQ13 => ?_)
    obtain ⟨rfl, rfl, rfl⟩ := hQ13
    refine s_iload K X13 at_35 rfl (q := 37) rfl ?_
    refine s_ishr K X13 at_37 (q := 38) rfl ?_
    refine s_iconst K X13 at_38 (z := 1) rfl (q := 39) rfl ?_
    refine s_iand K X13 at_39 (q := 40) rfl ?_
    refine s_if_eq K X13 at_40 (by decide) (q := 47) rfl (q' := 43) rfl (fun _ => ?_) (fun h_ => absurd h_ (by decide))
    refine s_iconst K X13 at_47 (z := 0) rfl (q := 48) rfl ?_
    refine s_istore K X13 at_48 (l' := #[.val (.int p1), .val (.int p2), .val (.int (0 : Int32)), .val (.ref a), .val (.int (0 : Int32)), .val (.int (0 : Int32))]) rfl (q := 50) rfl ?_
    refine s_aloadN K X13 at_50 rfl rfl (q := 51) rfl ?_
    refine s_iloadN K X13 at_51 rfl (q := 52) rfl ?_
    refine s_callV K X13 0 (y := (⟨"com/example/sealed_satchel/sealedsatchel/core/Operator", "holds", "(I)Z"⟩ : MethodName)) (z := (⟨"com/example/sealed_satchel/sealedsatchel/core/Operator", "holds", "(I)Z"⟩ : MethodName)) at_52 (hw _ (List.mem_of_getElem? (i := 11) rfl)) (hw _ (List.mem_of_getElem? (i := 12) rfl)) (notFace_of_selects (args := #[]) (mvT K.hZ (hw _ (List.mem_of_getElem? (i := 14) rfl)))) (hw _ (List.mem_of_getElem? (i := 14) rfl)) (hw _ (List.mem_of_getElem? (i := 13) rfl)) (hw _ (List.mem_of_getElem? (i := 6) rfl)) (hw _ (List.mem_of_getElem? (i := 15) rfl)) (by decide) pd__I_Z rfl e13 F.2.1 (argsL := [(.int p2)]) (st := []) (c_holds0 l Z a0 hw "EQ" a p2 F) rfl rfl (by decide) (Nat.le_of_eq rfl) (by decide) (by decide) (by decide) (q := 55) rfl (fun v14 T14 h14 L14 X14 e14 hQ14 => ?_)
    obtain ⟨rfl, rfl, rfl⟩ := hQ14
    rw [show (if p2 = 0 then (1 : Int32) else 0) = 0 from own_lt_0 h1]
    refine s_iload K X14 at_55 rfl (q := 57) rfl ?_
    refine s_icmp_ne K X14 at_57 (by decide) (q := 64) rfl (q' := 60) rfl (fun h_ => absurd h_ (by decide)) (fun _ => ?_)
    refine s_iconst K X14 at_60 (z := 1) rfl (q := 61) rfl ?_
    refine s_goto K X14 at_61 (by decide) (q := 65) rfl ?_
    exact s_retZ K X14 at_65 rfl (by decide) e14 (by decide) (by decide) ⟨rfl, rfl, rfl⟩
theorem own_lt_1 {c : Int32} (h : c < 0) : (if c < 0 then (1 : Int32) else 0) = 1 := by rw [if_pos h]
theorem own_eq_1 {c : Int32} (h : c = 0) : (if c < 0 then (1 : Int32) else 0) = 0 := by subst h; decide
theorem own_gt_1 {c : Int32} (h : 0 < c) : (if c < 0 then (1 : Int32) else 0) = 0 := by rw [if_neg]; intro z; rw [Int32.lt_iff_toInt_lt] at z h; omega
set_option maxRecDepth 65536 in
set_option maxHeartbeats 40000000 in
theorem c_law1 (l : Launch) (Z : State) (a0 : Array Value) (hw : ∀ d ∈ tables_1, d.before a0 Z = true) (p1 p2 : Int32) (a : Addr) (F : Opn Z "LT" a 1) (hk : (p1 &&& (2147483647 : Int32)) % (5 : Int32) = 1) : Con l Z x code maxLocals ret room_1 #[(.int p1), (.int p2)] Z.heap (fun v h L => v = some (.int 1) ∧ h = Z.heap ∧ L = []) := by
  refine Con.of (plainFor_of_name pn_com_example_sealed_satchel_sealedsatchel_core_OperatorHoldsPinLaw) (Ls := #[.val (.int p1), .val (.int p2), .unset, .unset, .unset, .unset]) (fun m => by first | (simp [entryFrame, mkF, argsToLocals, Value.category, maxLocals]; done) | rfl) (fun p e s m below meth cod T K X eT => ?_)
  refine s_iloadN K X at_0 rfl (q := 1) rfl ?_
  refine s_ldcI K X at_1 (hw _ (List.mem_of_getElem? (i := 0) rfl)) (q := 3) rfl ?_
  refine s_iand K X at_3 (q := 4) rfl ?_
  refine s_iconst K X at_4 (z := 5) rfl (q := 5) rfl ?_
  refine s_irem K X at_5 (by decide) (q := 6) rfl ?_
  refine s_istoreN K X at_6 (l' := #[.val (.int p1), .val (.int p2), .val (.int ((p1 &&& (2147483647 : Int32)) % (5 : Int32))), .unset, .unset, .unset]) rfl (q := 7) rfl ?_
  refine s_iloadN K X at_7 rfl (q := 8) rfl ?_
  rw [hk]
  refine s_callS K X 0 at_8 (hw _ (List.mem_of_getElem? (i := 1) rfl)) (hw _ (List.mem_of_getElem? (i := 2) rfl)) (hw _ (List.mem_of_getElem? (i := 3) rfl)) (hw _ (List.mem_of_getElem? (i := 4) rfl)) (by decide) pd__I_Lcom_example_sealed_satchel_sealedsatchel_core_Operator_ rfl eT (argsL := [(.int (1 : Int32))]) (st := []) (c_pick1 l Z a0 hw a 1 F) rfl rfl (by decide) (Nat.le_of_eq rfl) (by decide) (by decide) (by decide) (q := 11) rfl (fun v19 T19 h19 L19 X19 e19 hQ19 => ?_)
  obtain ⟨rfl, rfl, rfl⟩ := hQ19
  refine s_astoreN K X19 at_11 rfl (l' := #[.val (.int p1), .val (.int p2), .val (.int (1 : Int32)), .val (.ref a), .unset, .unset]) rfl (q := 12) rfl ?_
  refine s_iloadN K X19 at_12 rfl (q := 13) rfl ?_
  refine s_if_ge K X19 at_13 (by decide) (q := 20) rfl (q' := 16) rfl (fun h1 => ?_) (fun h1 => ?_)
  ·
    refine s_iloadN K X19 at_20 rfl (q := 21) rfl ?_
    refine s_if_ne K X19 at_21 (by decide) (q := 28) rfl (q' := 24) rfl (fun h2 => ?_) (fun h2 => ?_)
    ·
      refine s_iconst K X19 at_28 (z := 2) rfl (q := 29) rfl ?_
      refine s_istore K X19 at_29 (l' := #[.val (.int p1), .val (.int p2), .val (.int (1 : Int32)), .val (.ref a), .val (.int (2 : Int32)), .unset]) rfl (q := 31) rfl ?_
      refine s_iloadN K X19 at_31 rfl (q := 32) rfl ?_
      refine s_callS K X19 0 at_32 (hw _ (List.mem_of_getElem? (i := 8) rfl)) (hw _ (List.mem_of_getElem? (i := 9) rfl)) (hw _ (List.mem_of_getElem? (i := 3) rfl)) (hw _ (List.mem_of_getElem? (i := 10) rfl)) (by decide) pd__I_I rfl e19 (argsL := [(.int (1 : Int32))]) (st := []) (c_mask1 l Z a0 hw) rfl rfl (by decide) (Nat.le_of_eq rfl) (by decide) (by decide) (by decide) (q := 35) rfl (fun v24 T24 h24 L24 X24 e24 hQ24 => ?_)
      obtain ⟨rfl, rfl, rfl⟩ := hQ24
      refine s_iload K X24 at_35 rfl (q := 37) rfl ?_
      refine s_ishr K X24 at_37 (q := 38) rfl ?_
      refine s_iconst K X24 at_38 (z := 1) rfl (q := 39) rfl ?_
      refine s_iand K X24 at_39 (q := 40) rfl ?_
      refine s_if_eq K X24 at_40 (by decide) (q := 47) rfl (q' := 43) rfl (fun _ => ?_) (fun h_ => absurd h_ (by decide))
      refine s_iconst K X24 at_47 (z := 0) rfl (q := 48) rfl ?_
      refine s_istore K X24 at_48 (l' := #[.val (.int p1), .val (.int p2), .val (.int (1 : Int32)), .val (.ref a), .val (.int (2 : Int32)), .val (.int (0 : Int32))]) rfl (q := 50) rfl ?_
      refine s_aloadN K X24 at_50 rfl rfl (q := 51) rfl ?_
      refine s_iloadN K X24 at_51 rfl (q := 52) rfl ?_
      refine s_callV K X24 0 (y := (⟨"com/example/sealed_satchel/sealedsatchel/core/Operator", "holds", "(I)Z"⟩ : MethodName)) (z := (⟨"com/example/sealed_satchel/sealedsatchel/core/Operator", "holds", "(I)Z"⟩ : MethodName)) at_52 (hw _ (List.mem_of_getElem? (i := 11) rfl)) (hw _ (List.mem_of_getElem? (i := 12) rfl)) (notFace_of_selects (args := #[]) (mvT K.hZ (hw _ (List.mem_of_getElem? (i := 14) rfl)))) (hw _ (List.mem_of_getElem? (i := 14) rfl)) (hw _ (List.mem_of_getElem? (i := 13) rfl)) (hw _ (List.mem_of_getElem? (i := 6) rfl)) (hw _ (List.mem_of_getElem? (i := 15) rfl)) (by decide) pd__I_Z rfl e24 F.2.1 (argsL := [(.int p2)]) (st := []) (c_holds1 l Z a0 hw "LT" a p2 F) rfl rfl (by decide) (Nat.le_of_eq rfl) (by decide) (by decide) (by decide) (q := 55) rfl (fun v25 T25 h25 L25 X25 e25 hQ25 => ?_)
      obtain ⟨rfl, rfl, rfl⟩ := hQ25
      rw [show (if p2 < 0 then (1 : Int32) else 0) = 0 from own_gt_1 (own_pos h1 h2)]
      refine s_iload K X25 at_55 rfl (q := 57) rfl ?_
      refine s_icmp_ne K X25 at_57 (by decide) (q := 64) rfl (q' := 60) rfl (fun h_ => absurd h_ (by decide)) (fun _ => ?_)
      refine s_iconst K X25 at_60 (z := 1) rfl (q := 61) rfl ?_
      refine s_goto K X25 at_61 (by decide) (q := 65) rfl ?_
      exact s_retZ K X25 at_65 rfl (by decide) e25 (by decide) (by decide) ⟨rfl, rfl, rfl⟩
    ·
      refine s_iconst K X19 at_24 (z := 1) rfl (q := 25) rfl ?_
      refine s_goto K X19 at_25 (by decide) (q := 29) rfl ?_
      refine s_istore K X19 at_29 (l' := #[.val (.int p1), .val (.int p2), .val (.int (1 : Int32)), .val (.ref a), .val (.int (1 : Int32)), .unset]) rfl (q := 31) rfl ?_
      refine s_iloadN K X19 at_31 rfl (q := 32) rfl ?_
      refine s_callS K X19 0 at_32 (hw _ (List.mem_of_getElem? (i := 8) rfl)) (hw _ (List.mem_of_getElem? (i := 9) rfl)) (hw _ (List.mem_of_getElem? (i := 3) rfl)) (hw _ (List.mem_of_getElem? (i := 10) rfl)) (by decide) pd__I_I rfl e19 (argsL := [(.int (1 : Int32))]) (st := []) (c_mask1 l Z a0 hw) rfl rfl (by decide) (Nat.le_of_eq rfl) (by decide) (by decide) (by decide) (q := 35) rfl (fun v22 T22 h22 L22 X22 e22 hQ22 => ?_)
      obtain ⟨rfl, rfl, rfl⟩ := hQ22
      refine s_iload K X22 at_35 rfl (q := 37) rfl ?_
      refine s_ishr K X22 at_37 (q := 38) rfl ?_
      refine s_iconst K X22 at_38 (z := 1) rfl (q := 39) rfl ?_
      refine s_iand K X22 at_39 (q := 40) rfl ?_
      refine s_if_eq K X22 at_40 (by decide) (q := 47) rfl (q' := 43) rfl (fun _ => ?_) (fun h_ => absurd h_ (by decide))
      refine s_iconst K X22 at_47 (z := 0) rfl (q := 48) rfl ?_
      refine s_istore K X22 at_48 (l' := #[.val (.int p1), .val (.int p2), .val (.int (1 : Int32)), .val (.ref a), .val (.int (1 : Int32)), .val (.int (0 : Int32))]) rfl (q := 50) rfl ?_
      refine s_aloadN K X22 at_50 rfl rfl (q := 51) rfl ?_
      refine s_iloadN K X22 at_51 rfl (q := 52) rfl ?_
      refine s_callV K X22 0 (y := (⟨"com/example/sealed_satchel/sealedsatchel/core/Operator", "holds", "(I)Z"⟩ : MethodName)) (z := (⟨"com/example/sealed_satchel/sealedsatchel/core/Operator", "holds", "(I)Z"⟩ : MethodName)) at_52 (hw _ (List.mem_of_getElem? (i := 11) rfl)) (hw _ (List.mem_of_getElem? (i := 12) rfl)) (notFace_of_selects (args := #[]) (mvT K.hZ (hw _ (List.mem_of_getElem? (i := 14) rfl)))) (hw _ (List.mem_of_getElem? (i := 14) rfl)) (hw _ (List.mem_of_getElem? (i := 13) rfl)) (hw _ (List.mem_of_getElem? (i := 6) rfl)) (hw _ (List.mem_of_getElem? (i := 15) rfl)) (by decide) pd__I_Z rfl e22 F.2.1 (argsL := [(.int p2)]) (st := []) (c_holds1 l Z a0 hw "LT" a p2 F) rfl rfl (by decide) (Nat.le_of_eq rfl) (by decide) (by decide) (by decide) (q := 55) rfl (fun v23 T23 h23 L23 X23 e23 hQ23 => ?_)
      obtain ⟨rfl, rfl, rfl⟩ := hQ23
      rw [show (if p2 < 0 then (1 : Int32) else 0) = 0 from own_eq_1 h2]
      refine s_iload K X23 at_55 rfl (q := 57) rfl ?_
      refine s_icmp_ne K X23 at_57 (by decide) (q := 64) rfl (q' := 60) rfl (fun h_ => absurd h_ (by decide)) (fun _ => ?_)
      refine s_iconst K X23 at_60 (z := 1) rfl (q := 61) rfl ?_
      refine s_goto K X23 at_61 (by decide) (q := 65) rfl ?_
      exact s_retZ K X23 at_65 rfl (by decide) e23 (by decide) (by decide) ⟨rfl, rfl, rfl⟩
  ·
    refine s_iconst K X19 at_16 (z := 0) rfl (q := 17) rfl ?_
    refine s_goto K X19 at_17 (by decide) (q := 29) rfl ?_
    refine s_istore K X19 at_29 (l' := #[.val (.int p1), .val (.int p2), .val (.int (1 : Int32)), .val (.ref a), .val (.int (0 : Int32)), .unset]) rfl (q := 31) rfl ?_
    refine s_iloadN K X19 at_31 rfl (q := 32) rfl ?_
    refine s_callS K X19 0 at_32 (hw _ (List.mem_of_getElem? (i := 8) rfl)) (hw _ (List.mem_of_getElem? (i := 9) rfl)) (hw _ (List.mem_of_getElem? (i := 3) rfl)) (hw _ (List.mem_of_getElem? (i := 10) rfl)) (by decide) pd__I_I rfl e19 (argsL := [(.int (1 : Int32))]) (st := []) (c_mask1 l Z a0 hw) rfl rfl (by decide) (Nat.le_of_eq rfl) (by decide) (by decide) (by decide) (q := 35) rfl (fun v20 T20 h20 L20 X20 e20 hQ20 => ?_)
    obtain ⟨rfl, rfl, rfl⟩ := hQ20
    refine s_iload K X20 at_35 rfl (q := 37) rfl ?_
    refine s_ishr K X20 at_37 (q := 38) rfl ?_
    refine s_iconst K X20 at_38 (z := 1) rfl (q := 39) rfl ?_
    refine s_iand K X20 at_39 (q := 40) rfl ?_
    refine s_if_eq K X20 at_40 (by decide) (q := 47) rfl (q' := 43) rfl (fun h_ => absurd h_ (by decide)) (fun _ => ?_)
    refine s_iconst K X20 at_43 (z := 1) rfl (q := 44) rfl ?_
    refine s_goto K X20 at_44 (by decide) (q := 48) rfl ?_
    refine s_istore K X20 at_48 (l' := #[.val (.int p1), .val (.int p2), .val (.int (1 : Int32)), .val (.ref a), .val (.int (0 : Int32)), .val (.int (1 : Int32))]) rfl (q := 50) rfl ?_
    refine s_aloadN K X20 at_50 rfl rfl (q := 51) rfl ?_
    refine s_iloadN K X20 at_51 rfl (q := 52) rfl ?_
    refine s_callV K X20 0 (y := (⟨"com/example/sealed_satchel/sealedsatchel/core/Operator", "holds", "(I)Z"⟩ : MethodName)) (z := (⟨"com/example/sealed_satchel/sealedsatchel/core/Operator", "holds", "(I)Z"⟩ : MethodName)) at_52 (hw _ (List.mem_of_getElem? (i := 11) rfl)) (hw _ (List.mem_of_getElem? (i := 12) rfl)) (notFace_of_selects (args := #[]) (mvT K.hZ (hw _ (List.mem_of_getElem? (i := 14) rfl)))) (hw _ (List.mem_of_getElem? (i := 14) rfl)) (hw _ (List.mem_of_getElem? (i := 13) rfl)) (hw _ (List.mem_of_getElem? (i := 6) rfl)) (hw _ (List.mem_of_getElem? (i := 15) rfl)) (by decide) pd__I_Z rfl e20 F.2.1 (argsL := [(.int p2)]) (st := []) (c_holds1 l Z a0 hw "LT" a p2 F) rfl rfl (by decide) (Nat.le_of_eq rfl) (by decide) (by decide) (by decide) (q := 55) rfl (fun v21 T21 h21 L21 X21 e21 hQ21 => ?_)
    obtain ⟨rfl, rfl, rfl⟩ := hQ21
    rw [show (if p2 < 0 then (1 : Int32) else 0) = 1 from own_lt_1 h1]
    refine s_iload K X21 at_55 rfl (q := 57) rfl ?_
    refine s_icmp_ne K X21 at_57 (by decide) (q := 64) rfl (q' := 60) rfl (fun h_ => absurd h_ (by decide)) (fun _ => ?_)
    refine s_iconst K X21 at_60 (z := 1) rfl (q := 61) rfl ?_
    refine s_goto K X21 at_61 (by decide) (q := 65) rfl ?_
    exact s_retZ K X21 at_65 rfl (by decide) e21 (by decide) (by decide) ⟨rfl, rfl, rfl⟩
theorem own_lt_2 {c : Int32} (h : c < 0) : (if 0 < c then (1 : Int32) else 0) = 0 := by rw [if_neg]; intro z; rw [Int32.lt_iff_toInt_lt] at z h; omega
theorem own_eq_2 {c : Int32} (h : c = 0) : (if 0 < c then (1 : Int32) else 0) = 0 := by subst h; decide
theorem own_gt_2 {c : Int32} (h : 0 < c) : (if 0 < c then (1 : Int32) else 0) = 1 := by rw [if_pos h]
set_option maxRecDepth 65536 in
set_option maxHeartbeats 40000000 in
theorem c_law2 (l : Launch) (Z : State) (a0 : Array Value) (hw : ∀ d ∈ tables_1, d.before a0 Z = true) (p1 p2 : Int32) (a : Addr) (F : Opn Z "GT" a 2) (hk : (p1 &&& (2147483647 : Int32)) % (5 : Int32) = 2) : Con l Z x code maxLocals ret room_1 #[(.int p1), (.int p2)] Z.heap (fun v h L => v = some (.int 1) ∧ h = Z.heap ∧ L = []) := by
  refine Con.of (plainFor_of_name pn_com_example_sealed_satchel_sealedsatchel_core_OperatorHoldsPinLaw) (Ls := #[.val (.int p1), .val (.int p2), .unset, .unset, .unset, .unset]) (fun m => by first | (simp [entryFrame, mkF, argsToLocals, Value.category, maxLocals]; done) | rfl) (fun p e s m below meth cod T K X eT => ?_)
  refine s_iloadN K X at_0 rfl (q := 1) rfl ?_
  refine s_ldcI K X at_1 (hw _ (List.mem_of_getElem? (i := 0) rfl)) (q := 3) rfl ?_
  refine s_iand K X at_3 (q := 4) rfl ?_
  refine s_iconst K X at_4 (z := 5) rfl (q := 5) rfl ?_
  refine s_irem K X at_5 (by decide) (q := 6) rfl ?_
  refine s_istoreN K X at_6 (l' := #[.val (.int p1), .val (.int p2), .val (.int ((p1 &&& (2147483647 : Int32)) % (5 : Int32))), .unset, .unset, .unset]) rfl (q := 7) rfl ?_
  refine s_iloadN K X at_7 rfl (q := 8) rfl ?_
  rw [hk]
  refine s_callS K X 0 at_8 (hw _ (List.mem_of_getElem? (i := 1) rfl)) (hw _ (List.mem_of_getElem? (i := 2) rfl)) (hw _ (List.mem_of_getElem? (i := 3) rfl)) (hw _ (List.mem_of_getElem? (i := 4) rfl)) (by decide) pd__I_Lcom_example_sealed_satchel_sealedsatchel_core_Operator_ rfl eT (argsL := [(.int (2 : Int32))]) (st := []) (c_pick2 l Z a0 hw a 2 F) rfl rfl (by decide) (Nat.le_of_eq rfl) (by decide) (by decide) (by decide) (q := 11) rfl (fun v26 T26 h26 L26 X26 e26 hQ26 => ?_)
  obtain ⟨rfl, rfl, rfl⟩ := hQ26
  refine s_astoreN K X26 at_11 rfl (l' := #[.val (.int p1), .val (.int p2), .val (.int (2 : Int32)), .val (.ref a), .unset, .unset]) rfl (q := 12) rfl ?_
  refine s_iloadN K X26 at_12 rfl (q := 13) rfl ?_
  refine s_if_ge K X26 at_13 (by decide) (q := 20) rfl (q' := 16) rfl (fun h1 => ?_) (fun h1 => ?_)
  ·
    refine s_iloadN K X26 at_20 rfl (q := 21) rfl ?_
    refine s_if_ne K X26 at_21 (by decide) (q := 28) rfl (q' := 24) rfl (fun h2 => ?_) (fun h2 => ?_)
    ·
      refine s_iconst K X26 at_28 (z := 2) rfl (q := 29) rfl ?_
      refine s_istore K X26 at_29 (l' := #[.val (.int p1), .val (.int p2), .val (.int (2 : Int32)), .val (.ref a), .val (.int (2 : Int32)), .unset]) rfl (q := 31) rfl ?_
      refine s_iloadN K X26 at_31 rfl (q := 32) rfl ?_
      refine s_callS K X26 0 at_32 (hw _ (List.mem_of_getElem? (i := 8) rfl)) (hw _ (List.mem_of_getElem? (i := 9) rfl)) (hw _ (List.mem_of_getElem? (i := 3) rfl)) (hw _ (List.mem_of_getElem? (i := 10) rfl)) (by decide) pd__I_I rfl e26 (argsL := [(.int (2 : Int32))]) (st := []) (c_mask2 l Z a0 hw) rfl rfl (by decide) (Nat.le_of_eq rfl) (by decide) (by decide) (by decide) (q := 35) rfl (fun v31 T31 h31 L31 X31 e31 hQ31 => ?_)
      obtain ⟨rfl, rfl, rfl⟩ := hQ31
      refine s_iload K X31 at_35 rfl (q := 37) rfl ?_
      refine s_ishr K X31 at_37 (q := 38) rfl ?_
      refine s_iconst K X31 at_38 (z := 1) rfl (q := 39) rfl ?_
      refine s_iand K X31 at_39 (q := 40) rfl ?_
      refine s_if_eq K X31 at_40 (by decide) (q := 47) rfl (q' := 43) rfl (fun h_ => absurd h_ (by decide)) (fun _ => ?_)
      refine s_iconst K X31 at_43 (z := 1) rfl (q := 44) rfl ?_
      refine s_goto K X31 at_44 (by decide) (q := 48) rfl ?_
      refine s_istore K X31 at_48 (l' := #[.val (.int p1), .val (.int p2), .val (.int (2 : Int32)), .val (.ref a), .val (.int (2 : Int32)), .val (.int (1 : Int32))]) rfl (q := 50) rfl ?_
      refine s_aloadN K X31 at_50 rfl rfl (q := 51) rfl ?_
      refine s_iloadN K X31 at_51 rfl (q := 52) rfl ?_
      refine s_callV K X31 0 (y := (⟨"com/example/sealed_satchel/sealedsatchel/core/Operator", "holds", "(I)Z"⟩ : MethodName)) (z := (⟨"com/example/sealed_satchel/sealedsatchel/core/Operator", "holds", "(I)Z"⟩ : MethodName)) at_52 (hw _ (List.mem_of_getElem? (i := 11) rfl)) (hw _ (List.mem_of_getElem? (i := 12) rfl)) (notFace_of_selects (args := #[]) (mvT K.hZ (hw _ (List.mem_of_getElem? (i := 14) rfl)))) (hw _ (List.mem_of_getElem? (i := 14) rfl)) (hw _ (List.mem_of_getElem? (i := 13) rfl)) (hw _ (List.mem_of_getElem? (i := 6) rfl)) (hw _ (List.mem_of_getElem? (i := 15) rfl)) (by decide) pd__I_Z rfl e31 F.2.1 (argsL := [(.int p2)]) (st := []) (c_holds2 l Z a0 hw "GT" a p2 F) rfl rfl (by decide) (Nat.le_of_eq rfl) (by decide) (by decide) (by decide) (q := 55) rfl (fun v32 T32 h32 L32 X32 e32 hQ32 => ?_)
      obtain ⟨rfl, rfl, rfl⟩ := hQ32
      rw [show (if 0 < p2 then (1 : Int32) else 0) = 1 from own_gt_2 (own_pos h1 h2)]
      refine s_iload K X32 at_55 rfl (q := 57) rfl ?_
      refine s_icmp_ne K X32 at_57 (by decide) (q := 64) rfl (q' := 60) rfl (fun h_ => absurd h_ (by decide)) (fun _ => ?_)
      refine s_iconst K X32 at_60 (z := 1) rfl (q := 61) rfl ?_
      refine s_goto K X32 at_61 (by decide) (q := 65) rfl ?_
      exact s_retZ K X32 at_65 rfl (by decide) e32 (by decide) (by decide) ⟨rfl, rfl, rfl⟩
    ·
      refine s_iconst K X26 at_24 (z := 1) rfl (q := 25) rfl ?_
      refine s_goto K X26 at_25 (by decide) (q := 29) rfl ?_
      refine s_istore K X26 at_29 (l' := #[.val (.int p1), .val (.int p2), .val (.int (2 : Int32)), .val (.ref a), .val (.int (1 : Int32)), .unset]) rfl (q := 31) rfl ?_
      refine s_iloadN K X26 at_31 rfl (q := 32) rfl ?_
      refine s_callS K X26 0 at_32 (hw _ (List.mem_of_getElem? (i := 8) rfl)) (hw _ (List.mem_of_getElem? (i := 9) rfl)) (hw _ (List.mem_of_getElem? (i := 3) rfl)) (hw _ (List.mem_of_getElem? (i := 10) rfl)) (by decide) pd__I_I rfl e26 (argsL := [(.int (2 : Int32))]) (st := []) (c_mask2 l Z a0 hw) rfl rfl (by decide) (Nat.le_of_eq rfl) (by decide) (by decide) (by decide) (q := 35) rfl (fun v29 T29 h29 L29 X29 e29 hQ29 => ?_)
      obtain ⟨rfl, rfl, rfl⟩ := hQ29
      refine s_iload K X29 at_35 rfl (q := 37) rfl ?_
      refine s_ishr K X29 at_37 (q := 38) rfl ?_
      refine s_iconst K X29 at_38 (z := 1) rfl (q := 39) rfl ?_
      refine s_iand K X29 at_39 (q := 40) rfl ?_
      refine s_if_eq K X29 at_40 (by decide) (q := 47) rfl (q' := 43) rfl (fun _ => ?_) (fun h_ => absurd h_ (by decide))
      refine s_iconst K X29 at_47 (z := 0) rfl (q := 48) rfl ?_
      refine s_istore K X29 at_48 (l' := #[.val (.int p1), .val (.int p2), .val (.int (2 : Int32)), .val (.ref a), .val (.int (1 : Int32)), .val (.int (0 : Int32))]) rfl (q := 50) rfl ?_
      refine s_aloadN K X29 at_50 rfl rfl (q := 51) rfl ?_
      refine s_iloadN K X29 at_51 rfl (q := 52) rfl ?_
      refine s_callV K X29 0 (y := (⟨"com/example/sealed_satchel/sealedsatchel/core/Operator", "holds", "(I)Z"⟩ : MethodName)) (z := (⟨"com/example/sealed_satchel/sealedsatchel/core/Operator", "holds", "(I)Z"⟩ : MethodName)) at_52 (hw _ (List.mem_of_getElem? (i := 11) rfl)) (hw _ (List.mem_of_getElem? (i := 12) rfl)) (notFace_of_selects (args := #[]) (mvT K.hZ (hw _ (List.mem_of_getElem? (i := 14) rfl)))) (hw _ (List.mem_of_getElem? (i := 14) rfl)) (hw _ (List.mem_of_getElem? (i := 13) rfl)) (hw _ (List.mem_of_getElem? (i := 6) rfl)) (hw _ (List.mem_of_getElem? (i := 15) rfl)) (by decide) pd__I_Z rfl e29 F.2.1 (argsL := [(.int p2)]) (st := []) (c_holds2 l Z a0 hw "GT" a p2 F) rfl rfl (by decide) (Nat.le_of_eq rfl) (by decide) (by decide) (by decide) (q := 55) rfl (fun v30 T30 h30 L30 X30 e30 hQ30 => ?_)
      obtain ⟨rfl, rfl, rfl⟩ := hQ30
      rw [show (if 0 < p2 then (1 : Int32) else 0) = 0 from own_eq_2 h2]
      refine s_iload K X30 at_55 rfl (q := 57) rfl ?_
      refine s_icmp_ne K X30 at_57 (by decide) (q := 64) rfl (q' := 60) rfl (fun h_ => absurd h_ (by decide)) (fun _ => ?_)
      refine s_iconst K X30 at_60 (z := 1) rfl (q := 61) rfl ?_
      refine s_goto K X30 at_61 (by decide) (q := 65) rfl ?_
      exact s_retZ K X30 at_65 rfl (by decide) e30 (by decide) (by decide) ⟨rfl, rfl, rfl⟩
  ·
    refine s_iconst K X26 at_16 (z := 0) rfl (q := 17) rfl ?_
    refine s_goto K X26 at_17 (by decide) (q := 29) rfl ?_
    refine s_istore K X26 at_29 (l' := #[.val (.int p1), .val (.int p2), .val (.int (2 : Int32)), .val (.ref a), .val (.int (0 : Int32)), .unset]) rfl (q := 31) rfl ?_
    refine s_iloadN K X26 at_31 rfl (q := 32) rfl ?_
    refine s_callS K X26 0 at_32 (hw _ (List.mem_of_getElem? (i := 8) rfl)) (hw _ (List.mem_of_getElem? (i := 9) rfl)) (hw _ (List.mem_of_getElem? (i := 3) rfl)) (hw _ (List.mem_of_getElem? (i := 10) rfl)) (by decide) pd__I_I rfl e26 (argsL := [(.int (2 : Int32))]) (st := []) (c_mask2 l Z a0 hw) rfl rfl (by decide) (Nat.le_of_eq rfl) (by decide) (by decide) (by decide) (q := 35) rfl (fun v27 T27 h27 L27 X27 e27 hQ27 => ?_)
    obtain ⟨rfl, rfl, rfl⟩ := hQ27
    refine s_iload K X27 at_35 rfl (q := 37) rfl ?_
    refine s_ishr K X27 at_37 (q := 38) rfl ?_
    refine s_iconst K X27 at_38 (z := 1) rfl (q := 39) rfl ?_
    refine s_iand K X27 at_39 (q := 40) rfl ?_
    refine s_if_eq K X27 at_40 (by decide) (q := 47) rfl (q' := 43) rfl (fun _ => ?_) (fun h_ => absurd h_ (by decide))
    refine s_iconst K X27 at_47 (z := 0) rfl (q := 48) rfl ?_
    refine s_istore K X27 at_48 (l' := #[.val (.int p1), .val (.int p2), .val (.int (2 : Int32)), .val (.ref a), .val (.int (0 : Int32)), .val (.int (0 : Int32))]) rfl (q := 50) rfl ?_
    refine s_aloadN K X27 at_50 rfl rfl (q := 51) rfl ?_
    refine s_iloadN K X27 at_51 rfl (q := 52) rfl ?_
    refine s_callV K X27 0 (y := (⟨"com/example/sealed_satchel/sealedsatchel/core/Operator", "holds", "(I)Z"⟩ : MethodName)) (z := (⟨"com/example/sealed_satchel/sealedsatchel/core/Operator", "holds", "(I)Z"⟩ : MethodName)) at_52 (hw _ (List.mem_of_getElem? (i := 11) rfl)) (hw _ (List.mem_of_getElem? (i := 12) rfl)) (notFace_of_selects (args := #[]) (mvT K.hZ (hw _ (List.mem_of_getElem? (i := 14) rfl)))) (hw _ (List.mem_of_getElem? (i := 14) rfl)) (hw _ (List.mem_of_getElem? (i := 13) rfl)) (hw _ (List.mem_of_getElem? (i := 6) rfl)) (hw _ (List.mem_of_getElem? (i := 15) rfl)) (by decide) pd__I_Z rfl e27 F.2.1 (argsL := [(.int p2)]) (st := []) (c_holds2 l Z a0 hw "GT" a p2 F) rfl rfl (by decide) (Nat.le_of_eq rfl) (by decide) (by decide) (by decide) (q := 55) rfl (fun v28 T28 h28 L28 X28 e28 hQ28 => ?_)
    obtain ⟨rfl, rfl, rfl⟩ := hQ28
    rw [show (if 0 < p2 then (1 : Int32) else 0) = 0 from own_lt_2 h1]
    refine s_iload K X28 at_55 rfl (q := 57) rfl ?_
    refine s_icmp_ne K X28 at_57 (by decide) (q := 64) rfl (q' := 60) rfl (fun h_ => absurd h_ (by decide)) (fun _ => ?_)
    refine s_iconst K X28 at_60 (z := 1) rfl (q := 61) rfl ?_
    refine s_goto K X28 at_61 (by decide) (q := 65) rfl ?_
    exact s_retZ K X28 at_65 rfl (by decide) e28 (by decide) (by decide) ⟨rfl, rfl, rfl⟩
theorem own_lt_3 {c : Int32} (h : c < 0) : (if ¬ 0 < c then (1 : Int32) else 0) = 1 := by rw [if_pos]; intro z; rw [Int32.lt_iff_toInt_lt] at z h; omega
theorem own_eq_3 {c : Int32} (h : c = 0) : (if ¬ 0 < c then (1 : Int32) else 0) = 1 := by subst h; decide
theorem own_gt_3 {c : Int32} (h : 0 < c) : (if ¬ 0 < c then (1 : Int32) else 0) = 0 := by rw [if_neg]; intro z; exact z h
set_option maxRecDepth 65536 in
set_option maxHeartbeats 40000000 in
theorem c_law3 (l : Launch) (Z : State) (a0 : Array Value) (hw : ∀ d ∈ tables_1, d.before a0 Z = true) (p1 p2 : Int32) (a : Addr) (F : Opn Z "LTE" a 3) (hk : (p1 &&& (2147483647 : Int32)) % (5 : Int32) = 3) : Con l Z x code maxLocals ret room_1 #[(.int p1), (.int p2)] Z.heap (fun v h L => v = some (.int 1) ∧ h = Z.heap ∧ L = []) := by
  refine Con.of (plainFor_of_name pn_com_example_sealed_satchel_sealedsatchel_core_OperatorHoldsPinLaw) (Ls := #[.val (.int p1), .val (.int p2), .unset, .unset, .unset, .unset]) (fun m => by first | (simp [entryFrame, mkF, argsToLocals, Value.category, maxLocals]; done) | rfl) (fun p e s m below meth cod T K X eT => ?_)
  refine s_iloadN K X at_0 rfl (q := 1) rfl ?_
  refine s_ldcI K X at_1 (hw _ (List.mem_of_getElem? (i := 0) rfl)) (q := 3) rfl ?_
  refine s_iand K X at_3 (q := 4) rfl ?_
  refine s_iconst K X at_4 (z := 5) rfl (q := 5) rfl ?_
  refine s_irem K X at_5 (by decide) (q := 6) rfl ?_
  refine s_istoreN K X at_6 (l' := #[.val (.int p1), .val (.int p2), .val (.int ((p1 &&& (2147483647 : Int32)) % (5 : Int32))), .unset, .unset, .unset]) rfl (q := 7) rfl ?_
  refine s_iloadN K X at_7 rfl (q := 8) rfl ?_
  rw [hk]
  refine s_callS K X 0 at_8 (hw _ (List.mem_of_getElem? (i := 1) rfl)) (hw _ (List.mem_of_getElem? (i := 2) rfl)) (hw _ (List.mem_of_getElem? (i := 3) rfl)) (hw _ (List.mem_of_getElem? (i := 4) rfl)) (by decide) pd__I_Lcom_example_sealed_satchel_sealedsatchel_core_Operator_ rfl eT (argsL := [(.int (3 : Int32))]) (st := []) (c_pick3 l Z a0 hw a 3 F) rfl rfl (by decide) (Nat.le_of_eq rfl) (by decide) (by decide) (by decide) (q := 11) rfl (fun v33 T33 h33 L33 X33 e33 hQ33 => ?_)
  obtain ⟨rfl, rfl, rfl⟩ := hQ33
  refine s_astoreN K X33 at_11 rfl (l' := #[.val (.int p1), .val (.int p2), .val (.int (3 : Int32)), .val (.ref a), .unset, .unset]) rfl (q := 12) rfl ?_
  refine s_iloadN K X33 at_12 rfl (q := 13) rfl ?_
  refine s_if_ge K X33 at_13 (by decide) (q := 20) rfl (q' := 16) rfl (fun h1 => ?_) (fun h1 => ?_)
  ·
    refine s_iloadN K X33 at_20 rfl (q := 21) rfl ?_
    refine s_if_ne K X33 at_21 (by decide) (q := 28) rfl (q' := 24) rfl (fun h2 => ?_) (fun h2 => ?_)
    ·
      refine s_iconst K X33 at_28 (z := 2) rfl (q := 29) rfl ?_
      refine s_istore K X33 at_29 (l' := #[.val (.int p1), .val (.int p2), .val (.int (3 : Int32)), .val (.ref a), .val (.int (2 : Int32)), .unset]) rfl (q := 31) rfl ?_
      refine s_iloadN K X33 at_31 rfl (q := 32) rfl ?_
      refine s_callS K X33 0 at_32 (hw _ (List.mem_of_getElem? (i := 8) rfl)) (hw _ (List.mem_of_getElem? (i := 9) rfl)) (hw _ (List.mem_of_getElem? (i := 3) rfl)) (hw _ (List.mem_of_getElem? (i := 10) rfl)) (by decide) pd__I_I rfl e33 (argsL := [(.int (3 : Int32))]) (st := []) (c_mask3 l Z a0 hw) rfl rfl (by decide) (Nat.le_of_eq rfl) (by decide) (by decide) (by decide) (q := 35) rfl (fun v38 T38 h38 L38 X38 e38 hQ38 => ?_)
      obtain ⟨rfl, rfl, rfl⟩ := hQ38
      refine s_iload K X38 at_35 rfl (q := 37) rfl ?_
      refine s_ishr K X38 at_37 (q := 38) rfl ?_
      refine s_iconst K X38 at_38 (z := 1) rfl (q := 39) rfl ?_
      refine s_iand K X38 at_39 (q := 40) rfl ?_
      refine s_if_eq K X38 at_40 (by decide) (q := 47) rfl (q' := 43) rfl (fun _ => ?_) (fun h_ => absurd h_ (by decide))
      refine s_iconst K X38 at_47 (z := 0) rfl (q := 48) rfl ?_
      refine s_istore K X38 at_48 (l' := #[.val (.int p1), .val (.int p2), .val (.int (3 : Int32)), .val (.ref a), .val (.int (2 : Int32)), .val (.int (0 : Int32))]) rfl (q := 50) rfl ?_
      refine s_aloadN K X38 at_50 rfl rfl (q := 51) rfl ?_
      refine s_iloadN K X38 at_51 rfl (q := 52) rfl ?_
      refine s_callV K X38 0 (y := (⟨"com/example/sealed_satchel/sealedsatchel/core/Operator", "holds", "(I)Z"⟩ : MethodName)) (z := (⟨"com/example/sealed_satchel/sealedsatchel/core/Operator", "holds", "(I)Z"⟩ : MethodName)) at_52 (hw _ (List.mem_of_getElem? (i := 11) rfl)) (hw _ (List.mem_of_getElem? (i := 12) rfl)) (notFace_of_selects (args := #[]) (mvT K.hZ (hw _ (List.mem_of_getElem? (i := 14) rfl)))) (hw _ (List.mem_of_getElem? (i := 14) rfl)) (hw _ (List.mem_of_getElem? (i := 13) rfl)) (hw _ (List.mem_of_getElem? (i := 6) rfl)) (hw _ (List.mem_of_getElem? (i := 15) rfl)) (by decide) pd__I_Z rfl e38 F.2.1 (argsL := [(.int p2)]) (st := []) (c_holds3 l Z a0 hw "LTE" a p2 F) rfl rfl (by decide) (Nat.le_of_eq rfl) (by decide) (by decide) (by decide) (q := 55) rfl (fun v39 T39 h39 L39 X39 e39 hQ39 => ?_)
      obtain ⟨rfl, rfl, rfl⟩ := hQ39
      rw [show (if ¬ 0 < p2 then (1 : Int32) else 0) = 0 from own_gt_3 (own_pos h1 h2)]
      refine s_iload K X39 at_55 rfl (q := 57) rfl ?_
      refine s_icmp_ne K X39 at_57 (by decide) (q := 64) rfl (q' := 60) rfl (fun h_ => absurd h_ (by decide)) (fun _ => ?_)
      refine s_iconst K X39 at_60 (z := 1) rfl (q := 61) rfl ?_
      refine s_goto K X39 at_61 (by decide) (q := 65) rfl ?_
      exact s_retZ K X39 at_65 rfl (by decide) e39 (by decide) (by decide) ⟨rfl, rfl, rfl⟩
    ·
      refine s_iconst K X33 at_24 (z := 1) rfl (q := 25) rfl ?_
      refine s_goto K X33 at_25 (by decide) (q := 29) rfl ?_
      refine s_istore K X33 at_29 (l' := #[.val (.int p1), .val (.int p2), .val (.int (3 : Int32)), .val (.ref a), .val (.int (1 : Int32)), .unset]) rfl (q := 31) rfl ?_
      refine s_iloadN K X33 at_31 rfl (q := 32) rfl ?_
      refine s_callS K X33 0 at_32 (hw _ (List.mem_of_getElem? (i := 8) rfl)) (hw _ (List.mem_of_getElem? (i := 9) rfl)) (hw _ (List.mem_of_getElem? (i := 3) rfl)) (hw _ (List.mem_of_getElem? (i := 10) rfl)) (by decide) pd__I_I rfl e33 (argsL := [(.int (3 : Int32))]) (st := []) (c_mask3 l Z a0 hw) rfl rfl (by decide) (Nat.le_of_eq rfl) (by decide) (by decide) (by decide) (q := 35) rfl (fun v36 T36 h36 L36 X36 e36 hQ36 => ?_)
      obtain ⟨rfl, rfl, rfl⟩ := hQ36
      refine s_iload K X36 at_35 rfl (q := 37) rfl ?_
      refine s_ishr K X36 at_37 (q := 38) rfl ?_
      refine s_iconst K X36 at_38 (z := 1) rfl (q := 39) rfl ?_
      refine s_iand K X36 at_39 (q := 40) rfl ?_
      refine s_if_eq K X36 at_40 (by decide) (q := 47) rfl (q' := 43) rfl (fun h_ => absurd h_ (by decide)) (fun _ => ?_)
      refine s_iconst K X36 at_43 (z := 1) rfl (q := 44) rfl ?_
      refine s_goto K X36 at_44 (by decide) (q := 48) rfl ?_
      refine s_istore K X36 at_48 (l' := #[.val (.int p1), .val (.int p2), .val (.int (3 : Int32)), .val (.ref a), .val (.int (1 : Int32)), .val (.int (1 : Int32))]) rfl (q := 50) rfl ?_
      refine s_aloadN K X36 at_50 rfl rfl (q := 51) rfl ?_
      refine s_iloadN K X36 at_51 rfl (q := 52) rfl ?_
      refine s_callV K X36 0 (y := (⟨"com/example/sealed_satchel/sealedsatchel/core/Operator", "holds", "(I)Z"⟩ : MethodName)) (z := (⟨"com/example/sealed_satchel/sealedsatchel/core/Operator", "holds", "(I)Z"⟩ : MethodName)) at_52 (hw _ (List.mem_of_getElem? (i := 11) rfl)) (hw _ (List.mem_of_getElem? (i := 12) rfl)) (notFace_of_selects (args := #[]) (mvT K.hZ (hw _ (List.mem_of_getElem? (i := 14) rfl)))) (hw _ (List.mem_of_getElem? (i := 14) rfl)) (hw _ (List.mem_of_getElem? (i := 13) rfl)) (hw _ (List.mem_of_getElem? (i := 6) rfl)) (hw _ (List.mem_of_getElem? (i := 15) rfl)) (by decide) pd__I_Z rfl e36 F.2.1 (argsL := [(.int p2)]) (st := []) (c_holds3 l Z a0 hw "LTE" a p2 F) rfl rfl (by decide) (Nat.le_of_eq rfl) (by decide) (by decide) (by decide) (q := 55) rfl (fun v37 T37 h37 L37 X37 e37 hQ37 => ?_)
      obtain ⟨rfl, rfl, rfl⟩ := hQ37
      rw [show (if ¬ 0 < p2 then (1 : Int32) else 0) = 1 from own_eq_3 h2]
      refine s_iload K X37 at_55 rfl (q := 57) rfl ?_
      refine s_icmp_ne K X37 at_57 (by decide) (q := 64) rfl (q' := 60) rfl (fun h_ => absurd h_ (by decide)) (fun _ => ?_)
      refine s_iconst K X37 at_60 (z := 1) rfl (q := 61) rfl ?_
      refine s_goto K X37 at_61 (by decide) (q := 65) rfl ?_
      exact s_retZ K X37 at_65 rfl (by decide) e37 (by decide) (by decide) ⟨rfl, rfl, rfl⟩
  ·
    refine s_iconst K X33 at_16 (z := 0) rfl (q := 17) rfl ?_
    refine s_goto K X33 at_17 (by decide) (q := 29) rfl ?_
    refine s_istore K X33 at_29 (l' := #[.val (.int p1), .val (.int p2), .val (.int (3 : Int32)), .val (.ref a), .val (.int (0 : Int32)), .unset]) rfl (q := 31) rfl ?_
    refine s_iloadN K X33 at_31 rfl (q := 32) rfl ?_
    refine s_callS K X33 0 at_32 (hw _ (List.mem_of_getElem? (i := 8) rfl)) (hw _ (List.mem_of_getElem? (i := 9) rfl)) (hw _ (List.mem_of_getElem? (i := 3) rfl)) (hw _ (List.mem_of_getElem? (i := 10) rfl)) (by decide) pd__I_I rfl e33 (argsL := [(.int (3 : Int32))]) (st := []) (c_mask3 l Z a0 hw) rfl rfl (by decide) (Nat.le_of_eq rfl) (by decide) (by decide) (by decide) (q := 35) rfl (fun v34 T34 h34 L34 X34 e34 hQ34 => ?_)
    obtain ⟨rfl, rfl, rfl⟩ := hQ34
    refine s_iload K X34 at_35 rfl (q := 37) rfl ?_
    refine s_ishr K X34 at_37 (q := 38) rfl ?_
    refine s_iconst K X34 at_38 (z := 1) rfl (q := 39) rfl ?_
    refine s_iand K X34 at_39 (q := 40) rfl ?_
    refine s_if_eq K X34 at_40 (by decide) (q := 47) rfl (q' := 43) rfl (fun h_ => absurd h_ (by decide)) (fun _ => ?_)
    refine s_iconst K X34 at_43 (z := 1) rfl (q := 44) rfl ?_
    refine s_goto K X34 at_44 (by decide) (q := 48) rfl ?_
    refine s_istore K X34 at_48 (l' := #[.val (.int p1), .val (.int p2), .val (.int (3 : Int32)), .val (.ref a), .val (.int (0 : Int32)), .val (.int (1 : Int32))]) rfl (q := 50) rfl ?_
    refine s_aloadN K X34 at_50 rfl rfl (q := 51) rfl ?_
    refine s_iloadN K X34 at_51 rfl (q := 52) rfl ?_
    refine s_callV K X34 0 (y := (⟨"com/example/sealed_satchel/sealedsatchel/core/Operator", "holds", "(I)Z"⟩ : MethodName)) (z := (⟨"com/example/sealed_satchel/sealedsatchel/core/Operator", "holds", "(I)Z"⟩ : MethodName)) at_52 (hw _ (List.mem_of_getElem? (i := 11) rfl)) (hw _ (List.mem_of_getElem? (i := 12) rfl)) (notFace_of_selects (args := #[]) (mvT K.hZ (hw _ (List.mem_of_getElem? (i := 14) rfl)))) (hw _ (List.mem_of_getElem? (i := 14) rfl)) (hw _ (List.mem_of_getElem? (i := 13) rfl)) (hw _ (List.mem_of_getElem? (i := 6) rfl)) (hw _ (List.mem_of_getElem? (i := 15) rfl)) (by decide) pd__I_Z rfl e34 F.2.1 (argsL := [(.int p2)]) (st := []) (c_holds3 l Z a0 hw "LTE" a p2 F) rfl rfl (by decide) (Nat.le_of_eq rfl) (by decide) (by decide) (by decide) (q := 55) rfl (fun v35 T35 h35 L35 X35 e35 hQ35 => ?_)
    obtain ⟨rfl, rfl, rfl⟩ := hQ35
    rw [show (if ¬ 0 < p2 then (1 : Int32) else 0) = 1 from own_lt_3 h1]
    refine s_iload K X35 at_55 rfl (q := 57) rfl ?_
    refine s_icmp_ne K X35 at_57 (by decide) (q := 64) rfl (q' := 60) rfl (fun h_ => absurd h_ (by decide)) (fun _ => ?_)
    refine s_iconst K X35 at_60 (z := 1) rfl (q := 61) rfl ?_
    refine s_goto K X35 at_61 (by decide) (q := 65) rfl ?_
    exact s_retZ K X35 at_65 rfl (by decide) e35 (by decide) (by decide) ⟨rfl, rfl, rfl⟩
theorem own_lt_4 {c : Int32} (h : c < 0) : (if ¬ c < 0 then (1 : Int32) else 0) = 0 := by rw [if_neg]; intro z; exact z h
theorem own_eq_4 {c : Int32} (h : c = 0) : (if ¬ c < 0 then (1 : Int32) else 0) = 1 := by subst h; decide
theorem own_gt_4 {c : Int32} (h : 0 < c) : (if ¬ c < 0 then (1 : Int32) else 0) = 1 := by rw [if_pos]; intro z; rw [Int32.lt_iff_toInt_lt] at z h; omega
set_option maxRecDepth 65536 in
set_option maxHeartbeats 40000000 in
theorem c_law4 (l : Launch) (Z : State) (a0 : Array Value) (hw : ∀ d ∈ tables_1, d.before a0 Z = true) (p1 p2 : Int32) (a : Addr) (F : Opn Z "GTE" a 4) (hk : (p1 &&& (2147483647 : Int32)) % (5 : Int32) = 4) : Con l Z x code maxLocals ret room_1 #[(.int p1), (.int p2)] Z.heap (fun v h L => v = some (.int 1) ∧ h = Z.heap ∧ L = []) := by
  refine Con.of (plainFor_of_name pn_com_example_sealed_satchel_sealedsatchel_core_OperatorHoldsPinLaw) (Ls := #[.val (.int p1), .val (.int p2), .unset, .unset, .unset, .unset]) (fun m => by first | (simp [entryFrame, mkF, argsToLocals, Value.category, maxLocals]; done) | rfl) (fun p e s m below meth cod T K X eT => ?_)
  refine s_iloadN K X at_0 rfl (q := 1) rfl ?_
  refine s_ldcI K X at_1 (hw _ (List.mem_of_getElem? (i := 0) rfl)) (q := 3) rfl ?_
  refine s_iand K X at_3 (q := 4) rfl ?_
  refine s_iconst K X at_4 (z := 5) rfl (q := 5) rfl ?_
  refine s_irem K X at_5 (by decide) (q := 6) rfl ?_
  refine s_istoreN K X at_6 (l' := #[.val (.int p1), .val (.int p2), .val (.int ((p1 &&& (2147483647 : Int32)) % (5 : Int32))), .unset, .unset, .unset]) rfl (q := 7) rfl ?_
  refine s_iloadN K X at_7 rfl (q := 8) rfl ?_
  rw [hk]
  refine s_callS K X 0 at_8 (hw _ (List.mem_of_getElem? (i := 1) rfl)) (hw _ (List.mem_of_getElem? (i := 2) rfl)) (hw _ (List.mem_of_getElem? (i := 3) rfl)) (hw _ (List.mem_of_getElem? (i := 4) rfl)) (by decide) pd__I_Lcom_example_sealed_satchel_sealedsatchel_core_Operator_ rfl eT (argsL := [(.int (4 : Int32))]) (st := []) (c_pick4 l Z a0 hw a 4 F) rfl rfl (by decide) (Nat.le_of_eq rfl) (by decide) (by decide) (by decide) (q := 11) rfl (fun v40 T40 h40 L40 X40 e40 hQ40 => ?_)
  obtain ⟨rfl, rfl, rfl⟩ := hQ40
  refine s_astoreN K X40 at_11 rfl (l' := #[.val (.int p1), .val (.int p2), .val (.int (4 : Int32)), .val (.ref a), .unset, .unset]) rfl (q := 12) rfl ?_
  refine s_iloadN K X40 at_12 rfl (q := 13) rfl ?_
  refine s_if_ge K X40 at_13 (by decide) (q := 20) rfl (q' := 16) rfl (fun h1 => ?_) (fun h1 => ?_)
  ·
    refine s_iloadN K X40 at_20 rfl (q := 21) rfl ?_
    refine s_if_ne K X40 at_21 (by decide) (q := 28) rfl (q' := 24) rfl (fun h2 => ?_) (fun h2 => ?_)
    ·
      refine s_iconst K X40 at_28 (z := 2) rfl (q := 29) rfl ?_
      refine s_istore K X40 at_29 (l' := #[.val (.int p1), .val (.int p2), .val (.int (4 : Int32)), .val (.ref a), .val (.int (2 : Int32)), .unset]) rfl (q := 31) rfl ?_
      refine s_iloadN K X40 at_31 rfl (q := 32) rfl ?_
      refine s_callS K X40 0 at_32 (hw _ (List.mem_of_getElem? (i := 8) rfl)) (hw _ (List.mem_of_getElem? (i := 9) rfl)) (hw _ (List.mem_of_getElem? (i := 3) rfl)) (hw _ (List.mem_of_getElem? (i := 10) rfl)) (by decide) pd__I_I rfl e40 (argsL := [(.int (4 : Int32))]) (st := []) (c_mask4 l Z a0 hw) rfl rfl (by decide) (Nat.le_of_eq rfl) (by decide) (by decide) (by decide) (q := 35) rfl (fun v45 T45 h45 L45 X45 e45 hQ45 => ?_)
      obtain ⟨rfl, rfl, rfl⟩ := hQ45
      refine s_iload K X45 at_35 rfl (q := 37) rfl ?_
      refine s_ishr K X45 at_37 (q := 38) rfl ?_
      refine s_iconst K X45 at_38 (z := 1) rfl (q := 39) rfl ?_
      refine s_iand K X45 at_39 (q := 40) rfl ?_
      refine s_if_eq K X45 at_40 (by decide) (q := 47) rfl (q' := 43) rfl (fun h_ => absurd h_ (by decide)) (fun _ => ?_)
      refine s_iconst K X45 at_43 (z := 1) rfl (q := 44) rfl ?_
      refine s_goto K X45 at_44 (by decide) (q := 48) rfl ?_
      refine s_istore K X45 at_48 (l' := #[.val (.int p1), .val (.int p2), .val (.int (4 : Int32)), .val (.ref a), .val (.int (2 : Int32)), .val (.int (1 : Int32))]) rfl (q := 50) rfl ?_
      refine s_aloadN K X45 at_50 rfl rfl (q := 51) rfl ?_
      refine s_iloadN K X45 at_51 rfl (q := 52) rfl ?_
      refine s_callV K X45 0 (y := (⟨"com/example/sealed_satchel/sealedsatchel/core/Operator", "holds", "(I)Z"⟩ : MethodName)) (z := (⟨"com/example/sealed_satchel/sealedsatchel/core/Operator", "holds", "(I)Z"⟩ : MethodName)) at_52 (hw _ (List.mem_of_getElem? (i := 11) rfl)) (hw _ (List.mem_of_getElem? (i := 12) rfl)) (notFace_of_selects (args := #[]) (mvT K.hZ (hw _ (List.mem_of_getElem? (i := 14) rfl)))) (hw _ (List.mem_of_getElem? (i := 14) rfl)) (hw _ (List.mem_of_getElem? (i := 13) rfl)) (hw _ (List.mem_of_getElem? (i := 6) rfl)) (hw _ (List.mem_of_getElem? (i := 15) rfl)) (by decide) pd__I_Z rfl e45 F.2.1 (argsL := [(.int p2)]) (st := []) (c_holds4 l Z a0 hw "GTE" a p2 F) rfl rfl (by decide) (Nat.le_of_eq rfl) (by decide) (by decide) (by decide) (q := 55) rfl (fun v46 T46 h46 L46 X46 e46 hQ46 => ?_)
      obtain ⟨rfl, rfl, rfl⟩ := hQ46
      rw [show (if ¬ p2 < 0 then (1 : Int32) else 0) = 1 from own_gt_4 (own_pos h1 h2)]
      refine s_iload K X46 at_55 rfl (q := 57) rfl ?_
      refine s_icmp_ne K X46 at_57 (by decide) (q := 64) rfl (q' := 60) rfl (fun h_ => absurd h_ (by decide)) (fun _ => ?_)
      refine s_iconst K X46 at_60 (z := 1) rfl (q := 61) rfl ?_
      refine s_goto K X46 at_61 (by decide) (q := 65) rfl ?_
      exact s_retZ K X46 at_65 rfl (by decide) e46 (by decide) (by decide) ⟨rfl, rfl, rfl⟩
    ·
      refine s_iconst K X40 at_24 (z := 1) rfl (q := 25) rfl ?_
      refine s_goto K X40 at_25 (by decide) (q := 29) rfl ?_
      refine s_istore K X40 at_29 (l' := #[.val (.int p1), .val (.int p2), .val (.int (4 : Int32)), .val (.ref a), .val (.int (1 : Int32)), .unset]) rfl (q := 31) rfl ?_
      refine s_iloadN K X40 at_31 rfl (q := 32) rfl ?_
      refine s_callS K X40 0 at_32 (hw _ (List.mem_of_getElem? (i := 8) rfl)) (hw _ (List.mem_of_getElem? (i := 9) rfl)) (hw _ (List.mem_of_getElem? (i := 3) rfl)) (hw _ (List.mem_of_getElem? (i := 10) rfl)) (by decide) pd__I_I rfl e40 (argsL := [(.int (4 : Int32))]) (st := []) (c_mask4 l Z a0 hw) rfl rfl (by decide) (Nat.le_of_eq rfl) (by decide) (by decide) (by decide) (q := 35) rfl (fun v43 T43 h43 L43 X43 e43 hQ43 => ?_)
      obtain ⟨rfl, rfl, rfl⟩ := hQ43
      refine s_iload K X43 at_35 rfl (q := 37) rfl ?_
      refine s_ishr K X43 at_37 (q := 38) rfl ?_
      refine s_iconst K X43 at_38 (z := 1) rfl (q := 39) rfl ?_
      refine s_iand K X43 at_39 (q := 40) rfl ?_
      refine s_if_eq K X43 at_40 (by decide) (q := 47) rfl (q' := 43) rfl (fun h_ => absurd h_ (by decide)) (fun _ => ?_)
      refine s_iconst K X43 at_43 (z := 1) rfl (q := 44) rfl ?_
      refine s_goto K X43 at_44 (by decide) (q := 48) rfl ?_
      refine s_istore K X43 at_48 (l' := #[.val (.int p1), .val (.int p2), .val (.int (4 : Int32)), .val (.ref a), .val (.int (1 : Int32)), .val (.int (1 : Int32))]) rfl (q := 50) rfl ?_
      refine s_aloadN K X43 at_50 rfl rfl (q := 51) rfl ?_
      refine s_iloadN K X43 at_51 rfl (q := 52) rfl ?_
      refine s_callV K X43 0 (y := (⟨"com/example/sealed_satchel/sealedsatchel/core/Operator", "holds", "(I)Z"⟩ : MethodName)) (z := (⟨"com/example/sealed_satchel/sealedsatchel/core/Operator", "holds", "(I)Z"⟩ : MethodName)) at_52 (hw _ (List.mem_of_getElem? (i := 11) rfl)) (hw _ (List.mem_of_getElem? (i := 12) rfl)) (notFace_of_selects (args := #[]) (mvT K.hZ (hw _ (List.mem_of_getElem? (i := 14) rfl)))) (hw _ (List.mem_of_getElem? (i := 14) rfl)) (hw _ (List.mem_of_getElem? (i := 13) rfl)) (hw _ (List.mem_of_getElem? (i := 6) rfl)) (hw _ (List.mem_of_getElem? (i := 15) rfl)) (by decide) pd__I_Z rfl e43 F.2.1 (argsL := [(.int p2)]) (st := []) (c_holds4 l Z a0 hw "GTE" a p2 F) rfl rfl (by decide) (Nat.le_of_eq rfl) (by decide) (by decide) (by decide) (q := 55) rfl (fun v44 T44 h44 L44 X44 e44 hQ44 => ?_)
      obtain ⟨rfl, rfl, rfl⟩ := hQ44
      rw [show (if ¬ p2 < 0 then (1 : Int32) else 0) = 1 from own_eq_4 h2]
      refine s_iload K X44 at_55 rfl (q := 57) rfl ?_
      refine s_icmp_ne K X44 at_57 (by decide) (q := 64) rfl (q' := 60) rfl (fun h_ => absurd h_ (by decide)) (fun _ => ?_)
      refine s_iconst K X44 at_60 (z := 1) rfl (q := 61) rfl ?_
      refine s_goto K X44 at_61 (by decide) (q := 65) rfl ?_
      exact s_retZ K X44 at_65 rfl (by decide) e44 (by decide) (by decide) ⟨rfl, rfl, rfl⟩
  ·
    refine s_iconst K X40 at_16 (z := 0) rfl (q := 17) rfl ?_
    refine s_goto K X40 at_17 (by decide) (q := 29) rfl ?_
    refine s_istore K X40 at_29 (l' := #[.val (.int p1), .val (.int p2), .val (.int (4 : Int32)), .val (.ref a), .val (.int (0 : Int32)), .unset]) rfl (q := 31) rfl ?_
    refine s_iloadN K X40 at_31 rfl (q := 32) rfl ?_
    refine s_callS K X40 0 at_32 (hw _ (List.mem_of_getElem? (i := 8) rfl)) (hw _ (List.mem_of_getElem? (i := 9) rfl)) (hw _ (List.mem_of_getElem? (i := 3) rfl)) (hw _ (List.mem_of_getElem? (i := 10) rfl)) (by decide) pd__I_I rfl e40 (argsL := [(.int (4 : Int32))]) (st := []) (c_mask4 l Z a0 hw) rfl rfl (by decide) (Nat.le_of_eq rfl) (by decide) (by decide) (by decide) (q := 35) rfl (fun v41 T41 h41 L41 X41 e41 hQ41 => ?_)
    obtain ⟨rfl, rfl, rfl⟩ := hQ41
    refine s_iload K X41 at_35 rfl (q := 37) rfl ?_
    refine s_ishr K X41 at_37 (q := 38) rfl ?_
    refine s_iconst K X41 at_38 (z := 1) rfl (q := 39) rfl ?_
    refine s_iand K X41 at_39 (q := 40) rfl ?_
    refine s_if_eq K X41 at_40 (by decide) (q := 47) rfl (q' := 43) rfl (fun _ => ?_) (fun h_ => absurd h_ (by decide))
    refine s_iconst K X41 at_47 (z := 0) rfl (q := 48) rfl ?_
    refine s_istore K X41 at_48 (l' := #[.val (.int p1), .val (.int p2), .val (.int (4 : Int32)), .val (.ref a), .val (.int (0 : Int32)), .val (.int (0 : Int32))]) rfl (q := 50) rfl ?_
    refine s_aloadN K X41 at_50 rfl rfl (q := 51) rfl ?_
    refine s_iloadN K X41 at_51 rfl (q := 52) rfl ?_
    refine s_callV K X41 0 (y := (⟨"com/example/sealed_satchel/sealedsatchel/core/Operator", "holds", "(I)Z"⟩ : MethodName)) (z := (⟨"com/example/sealed_satchel/sealedsatchel/core/Operator", "holds", "(I)Z"⟩ : MethodName)) at_52 (hw _ (List.mem_of_getElem? (i := 11) rfl)) (hw _ (List.mem_of_getElem? (i := 12) rfl)) (notFace_of_selects (args := #[]) (mvT K.hZ (hw _ (List.mem_of_getElem? (i := 14) rfl)))) (hw _ (List.mem_of_getElem? (i := 14) rfl)) (hw _ (List.mem_of_getElem? (i := 13) rfl)) (hw _ (List.mem_of_getElem? (i := 6) rfl)) (hw _ (List.mem_of_getElem? (i := 15) rfl)) (by decide) pd__I_Z rfl e41 F.2.1 (argsL := [(.int p2)]) (st := []) (c_holds4 l Z a0 hw "GTE" a p2 F) rfl rfl (by decide) (Nat.le_of_eq rfl) (by decide) (by decide) (by decide) (q := 55) rfl (fun v42 T42 h42 L42 X42 e42 hQ42 => ?_)
    obtain ⟨rfl, rfl, rfl⟩ := hQ42
    rw [show (if ¬ p2 < 0 then (1 : Int32) else 0) = 0 from own_lt_4 h1]
    refine s_iload K X42 at_55 rfl (q := 57) rfl ?_
    refine s_icmp_ne K X42 at_57 (by decide) (q := 64) rfl (q' := 60) rfl (fun h_ => absurd h_ (by decide)) (fun _ => ?_)
    refine s_iconst K X42 at_60 (z := 1) rfl (q := 61) rfl ?_
    refine s_goto K X42 at_61 (by decide) (q := 65) rfl ?_
    exact s_retZ K X42 at_65 rfl (by decide) e42 (by decide) (by decide) ⟨rfl, rfl, rfl⟩
theorem own_k (p : Int32) : (p &&& (2147483647 : Int32)) % (5 : Int32) = 0 ∨ (p &&& (2147483647 : Int32)) % (5 : Int32) = 1 ∨ (p &&& (2147483647 : Int32)) % (5 : Int32) = 2 ∨ (p &&& (2147483647 : Int32)) % (5 : Int32) = 3 ∨ (p &&& (2147483647 : Int32)) % (5 : Int32) = 4 := by
  have h1 := (c_and p (2147483647 : Int32) (by decide)).1
  have h2 := (c_irem (p &&& (2147483647 : Int32)) 5 5 rfl).1 h1
  generalize (p &&& (2147483647 : Int32)) % 5 = r at *
  have h3 : r.toInt = 0 ∨ r.toInt = 1 ∨ r.toInt = 2 ∨ r.toInt = 3 ∨ r.toInt = 4 := by omega
  rcases h3 with h | h | h | h | h
  · exact Or.inl (Int32.toInt_inj.mp h)
  · exact Or.inr (Or.inl (Int32.toInt_inj.mp h))
  · exact Or.inr (Or.inr (Or.inl (Int32.toInt_inj.mp h)))
  · exact Or.inr (Or.inr (Or.inr (Or.inl (Int32.toInt_inj.mp h))))
  · exact Or.inr (Or.inr (Or.inr (Or.inr (Int32.toInt_inj.mp h))))
theorem own_opn {s : State} {args : Array Value} {n : String} {i : Int32} (w1 : (Cond.initialized "com/example/sealed_satchel/sealedsatchel/core/Operator").before args s = true) (w2 : (Cond.laysStatic "com/example/sealed_satchel/sealedsatchel/core/Operator" n "Lcom/example/sealed_satchel/sealedsatchel/core/Operator;").before args s = true)
    (h1 : (Cond.exactly (Term.static "com/example/sealed_satchel/sealedsatchel/core/Operator" n "Lcom/example/sealed_satchel/sealedsatchel/core/Operator;") "com/example/sealed_satchel/sealedsatchel/core/Operator").value args s none s [] = some true) (h2 : (Cond.eq (Term.field (Term.static "com/example/sealed_satchel/sealedsatchel/core/Operator" n "Lcom/example/sealed_satchel/sealedsatchel/core/Operator;") "java/lang/Enum" "ordinal" "I") (Term.int i)).value args s none s [] = some true) : ∃ a, Opn s n a i := by
  obtain ⟨a, ha⟩ := exa_v h1
  exact ⟨a, Sta.start ha (Or.inr ⟨w1, w2⟩), Exa.start ha h1, fld_start_i ha h2⟩
set_option maxRecDepth 65536 in
set_option maxHeartbeats 40000000 in
theorem comes_1 {Post : Tables → Env → Array Value → State → Outcome → State → Prop} (hpost : ∀ tb e args s v u, (limb_1_1.after args s (.returned v) u = true ∧ limb_1_2.after args s (.returned v) u = true ∧ True) → FrameEnd s (.returned v) u (Jvm.fieldLocs frame_1_writes args s ++ Jvm.arrayLocs frame_1_arrays args s ++ Jvm.staticLocs frame_1_statics s) 0 0 → Post tb e args s (.returned v) u) :
    ArmFor flags0 classFile x code maxLocals ret World_1 tables_1 room_1 Calls_1 rest_1 Pre_1 Post := by
  intro l hfl _ _ p e ha hc hk s m args below hf hA hF happ hP
  obtain ⟨hcalls, hrest, hpre⟩ := hP
  obtain ⟨-, -, -, hnamed, -, -, -, hat⟩ := (Spec.applies_iff hf).mp happ
  obtain ⟨hg, hn⟩ := and_e (Cond.before_iff.mp (show (Jvm.Cond.and given_1 narrow_1).before args s = true from hpre))
  obtain ⟨h1, h2⟩ := and_e hg
  obtain ⟨h3, h4⟩ := and_e h2
  obtain ⟨w0, w1, rfl⟩ : ∃ w0 w1 : Value, args = #[w0, w1] := by
    have hs : args.size = 2 := by simpa [Cond.value, given_1] using h1
    obtain ⟨L⟩ := args
    match L, hs with
    | [w0, w1], _ => exact ⟨w0, w1, rfl⟩
  have hw := fun d (hd : d ∈ tables_1) => atoms_spec (ws := Jvm.Cond.code x code maxLocals ret :: tables_1) hat d (List.mem_cons_of_mem _ hd)
  obtain ⟨i3, e3⟩ := is_v h3
  obtain rfl : w0 = (.int i3) := Option.some.inj e3
  obtain ⟨i4, e4⟩ := is_v h4
  obtain rfl : w1 = (.int i4) := Option.some.inj e4
  obtain ⟨n0, hn⟩ := and_e hn
  obtain ⟨n1, hn⟩ := and_e hn
  obtain ⟨n2, hn⟩ := and_e hn
  obtain ⟨n3, hn⟩ := and_e hn
  obtain ⟨n4, hn⟩ := and_e hn
  obtain ⟨n5, hn⟩ := and_e hn
  obtain ⟨n6, hn⟩ := and_e hn
  obtain ⟨n7, hn⟩ := and_e hn
  obtain ⟨n8, n9⟩ := and_e hn
  obtain ⟨aEQ, O0⟩ := own_opn (hw _ (List.mem_of_getElem? (i := 6) rfl)) (hw _ (List.mem_of_getElem? (i := 7) rfl)) n0 n1
  obtain ⟨aGTE, O4⟩ := own_opn (hw _ (List.mem_of_getElem? (i := 6) rfl)) (hw _ (List.mem_of_getElem? (i := 26) rfl)) n2 n3
  obtain ⟨aLTE, O3⟩ := own_opn (hw _ (List.mem_of_getElem? (i := 6) rfl)) (hw _ (List.mem_of_getElem? (i := 28) rfl)) n4 n5
  obtain ⟨aLT, O1⟩ := own_opn (hw _ (List.mem_of_getElem? (i := 6) rfl)) (hw _ (List.mem_of_getElem? (i := 30) rfl)) n6 n7
  obtain ⟨aGT, O2⟩ := own_opn (hw _ (List.mem_of_getElem? (i := 6) rfl)) (hw _ (List.mem_of_getElem? (i := 32) rfl)) n8 n9
  have C : Con l s x code maxLocals ret room_1 #[.int i3, .int i4] s.heap (fun v h L => v = some (.int 1) ∧ h = s.heap ∧ L = []) := by
    rcases own_k i3 with hk | hk | hk | hk | hk
    · exact c_law0 l s _ hw i3 i4 aEQ O0 hk
    · exact c_law1 l s _ hw i3 i4 aLT O1 hk
    · exact c_law2 l s _ hw i3 i4 aGT O2 hk
    · exact c_law3 l s _ hw i3 i4 aLTE O3 hk
    · exact c_law4 l s _ hw i3 i4 aGTE O4 hk
  obtain ⟨n, o, h1, h2, h3, _, L, rfl, ⟨rfl, -, rfl⟩, hq⟩ := C tables_1 p e ha hc hk s m _ below hf ((Spec.applies_iff_loose hf).mp happ).1 ⟨rfl, State.Warmed39.refl s, rfl⟩ trivial
  refine ⟨n, _, h1, h2, h3, hpost _ _ _ _ _ _ ⟨Cond.after_iff.mpr rfl, Cond.after_iff.mpr (eq_i res_at (Term.int_eval (1)) rfl), trivial⟩ ⟨hq.1, hq.2.1, (hq.2.2.sift fun y hy => nomatch hy).mono (by decide) (by decide)⟩⟩
theorem main_1_1 : Claimed_1_1 := comes_1 fun _ _ _ _ _ _ h hF => ⟨h.1, hF⟩
theorem main_1_2 : Claimed_1_2 := comes_1 fun _ _ _ _ _ _ h hF => ⟨h.2.1, hF⟩
end Jvm.Pilot.@@N@@
namespace Jvm.Pilot.@@N@@
open Jvm Jvm.ClassFile Sem Op Lib Jvm.Free Jvm.Stand Jvm.Pilot.@@N@@.Jvm.D
/-! MADE BY PROGRAM (witnessworld.py) out of the Statement's table words and the real class files: 11 classes; the members and pool entries that the words name. The judged class is class 1, her method 3. -/
namespace start1
open Jvm.ClassFile
def u (s : String) : CpInfo := .utf8 (stringToUtf16 s)
/-- a pool by its gaps: so many unusable entries, then the entry; so many at the end -/
def gap : Nat → List CpInfo → List CpInfo
  | 0, r => r
  | n + 1, r => .unusable :: gap n r
def poolList (es : List (Nat × CpInfo)) (last : Nat) : List CpInfo := es.foldr (fun e r => gap e.1 (e.2 :: r)) (gap last [])
def pool (es : List (Nat × CpInfo)) (last : Nat) : Array CpInfo := ⟨poolList es last⟩
def fileOf (pool : Array CpInfo) (this : Nat) (attrs : Array Attribute := #[]) (ms : Array MethodInfo := #[]) (fl : Nat := 33) (sup : Nat := 0) (ifs : Array Nat := #[]) (fds : Array FieldInfo := #[]) : ClassFile where
  minorVersion := 0
  majorVersion := 65
  constantPool := pool
  accessFlags := fl
  thisClass := this
  superClass := sup
  interfaces := ifs
  fields := fds
  methods := ms
  attributes := attrs
def plain (name : String) (sup : Option ClassId) : Class where
  name := name
  kind := .ordinary
  loader := none
  accessFlags := 33
  super := sup
  interfaces := #[]
  cf := none
  fields := #[]
  methods := #[]
  instanceTypes := #[]
  staticTypes := #[]
  resolved := #[]
  callSites := []
  init := .initialized
  statics := none
  mirror := none

def pool0 : Array CpInfo := pool [(5, u "<init>"), (0, u "()V"), (1, .class_ 10), (1, u "java/lang/Object")] 113

def k0m0 : Method := { name := "<init>", desc := "()V", sig := { parameters := [], returnType := none }, accessFlags := 1, code := none }
/-- java/lang/Object -/
def k0 : Class := { plain "java/lang/Object" none with
  accessFlags := 33
  interfaces := #[]
  cf := some (fileOf pool0 8 #[] #[{ accessFlags := 1, nameIndex := 5, descriptorIndex := 6, attributes := #[] }] 33 0 #[] #[])
  fields := #[]
  methods := #[k0m0]
  instanceTypes := #[]
  staticTypes := #[]
  resolved := Array.replicate 124 none
  statics := none }

def pool1 : Array CpInfo := pool [(2, .class_ 4), (1, u "java/lang/Object"), (0, u "<init>"), (0, u "()V"), (0, .fieldref 8 9), (0, .class_ 10), (0, .nameAndType 11 12), (0, u "com/example/sealed_satchel/sealedsatchel/core/Operator"), (0, u "EQ"), (0, u "Lcom/example/sealed_satchel/sealedsatchel/core/Operator;"), (0, .fieldref 8 14), (0, .nameAndType 15 12), (0, u "LT"), (0, .fieldref 8 17), (0, .nameAndType 18 12), (0, u "GT"), (0, .fieldref 8 20), (0, .nameAndType 21 12), (0, u "LTE"), (0, .fieldref 8 23), (0, .nameAndType 24 12), (0, u "GTE"), (0, .integer 2147483647), (0, .methodref 27 28), (0, .class_ 29), (0, .nameAndType 30 31), (0, u "com/example/sealed_satchel/sealedsatchel/core/OperatorHoldsPinLaw"), (0, u "pick"), (0, u "(I)Lcom/example/sealed_satchel/sealedsatchel/core/Operator;"), (0, .methodref 27 33), (0, .nameAndType 34 35), (0, u "acceptMask"), (0, u "(I)I"), (0, .methodref 8 37), (0, .nameAndType 38 39), (0, u "holds"), (0, u "(I)Z"), (3, u "law"), (0, u "(II)Z")] 2

def k1m0 : Method := { name := "<init>", desc := "()V", sig := { parameters := [], returnType := none }, accessFlags := 1, code := none }
def k1c1 : Code := { maxStack := 2, maxLocals := 1, code := method_2_code, exceptionTable := #[], attributes := #[] }
def k1m1 : Method := { name := "pick", desc := "(I)Lcom/example/sealed_satchel/sealedsatchel/core/Operator;", sig := { parameters := [.int], returnType := some (.object "com/example/sealed_satchel/sealedsatchel/core/Operator") }, accessFlags := 10, code := some k1c1 }
def k1c2 : Code := { maxStack := 2, maxLocals := 1, code := method_3_code, exceptionTable := #[], attributes := #[] }
def k1m2 : Method := { name := "acceptMask", desc := "(I)I", sig := { parameters := [.int], returnType := some .int }, accessFlags := 10, code := some k1c2 }
def k1c3 : Code := { maxStack := 2, maxLocals := 6, code := code, exceptionTable := #[], attributes := #[] }
def k1m3 : Method := { name := "law", desc := "(II)Z", sig := { parameters := [.int, .int], returnType := some .boolean }, accessFlags := 9, code := some k1c3 }
/-- com/example/sealed_satchel/sealedsatchel/core/OperatorHoldsPinLaw -/
def k1 : Class := { plain "com/example/sealed_satchel/sealedsatchel/core/OperatorHoldsPinLaw" (some 0) with
  accessFlags := 49
  interfaces := #[]
  cf := some (fileOf pool1 27 #[] #[{ accessFlags := 1, nameIndex := 5, descriptorIndex := 6, attributes := #[] }, { accessFlags := 10, nameIndex := 30, descriptorIndex := 31, attributes := #[] }, { accessFlags := 10, nameIndex := 34, descriptorIndex := 35, attributes := #[] }, { accessFlags := 9, nameIndex := 43, descriptorIndex := 44, attributes := #[] }] 49 2 #[] #[])
  fields := #[]
  methods := #[k1m0, k1m1, k1m2, k1m3]
  instanceTypes := #[]
  staticTypes := #[]
  resolved := Array.replicate 47 none
  statics := none }

def pool2 : Array CpInfo := pool [(1, .class_ 2), (0, u "java/lang/constant/Constable"), (0, .class_ 4), (0, u "java/lang/Object")] 6

/-- java/lang/constant/Constable -/
def k2 : Class := { plain "java/lang/constant/Constable" (some 0) with
  accessFlags := 1537
  interfaces := #[]
  cf := some (fileOf pool2 1 #[] #[] 1537 3 #[] #[])
  fields := #[]
  methods := #[]
  instanceTypes := #[]
  staticTypes := #[]
  resolved := Array.replicate 11 none
  statics := none }

def pool3 : Array CpInfo := pool [(1, .class_ 2), (0, u "java/lang/Comparable"), (0, .class_ 4), (0, u "java/lang/Object")] 7

/-- java/lang/Comparable -/
def k3 : Class := { plain "java/lang/Comparable" (some 0) with
  accessFlags := 1537
  interfaces := #[]
  cf := some (fileOf pool3 1 #[] #[] 1537 3 #[] #[])
  fields := #[]
  methods := #[]
  instanceTypes := #[]
  staticTypes := #[]
  resolved := Array.replicate 12 none
  statics := none }

def pool4 : Array CpInfo := pool [(1, .class_ 2), (0, u "java/io/Serializable"), (0, .class_ 4), (0, u "java/lang/Object")] 2

/-- java/io/Serializable -/
def k4 : Class := { plain "java/io/Serializable" (some 0) with
  accessFlags := 1537
  interfaces := #[]
  cf := some (fileOf pool4 1 #[] #[] 1537 3 #[] #[])
  fields := #[]
  methods := #[]
  instanceTypes := #[]
  staticTypes := #[]
  resolved := Array.replicate 7 none
  statics := none }

def pool5 : Array CpInfo := pool [(2, .class_ 4), (1, u "java/lang/Enum"), (0, u "name"), (0, u "Ljava/lang/String;"), (0, .fieldref 2 8), (0, .nameAndType 9 10), (0, u "ordinal"), (0, u "I"), (1, .class_ 14), (1, u "java/lang/Object"), (4, u "hash"), (86, .class_ 108), (1, u "java/lang/Enum$EnumDesc"), (2, .class_ 112), (0, u "java/lang/constant/Constable"), (0, .class_ 114), (0, u "java/lang/Comparable"), (0, .class_ 116), (0, u "java/io/Serializable"), (9, u "()I")] 77

def k5c0 : Code := { maxStack := 1, maxLocals := 1, code := jdk_37_method_2_code, exceptionTable := #[], attributes := #[] }
def k5m0 : Method := { name := "ordinal", desc := "()I", sig := { parameters := [], returnType := some .int }, accessFlags := 17, code := some k5c0 }
/-- java/lang/Enum -/
def k5 : Class := { plain "java/lang/Enum" (some 0) with
  accessFlags := 1057
  interfaces := #[2, 3, 4]
  cf := some (fileOf pool5 2 #[.nestMembers #[106]] #[{ accessFlags := 17, nameIndex := 9, descriptorIndex := 126, attributes := #[] }] 1057 12 #[111, 113, 115] #[{ accessFlags := 18, nameIndex := 5, descriptorIndex := 6, attributes := #[] }, { accessFlags := 18, nameIndex := 9, descriptorIndex := 10, attributes := #[] }, { accessFlags := 2, nameIndex := 19, descriptorIndex := 10, attributes := #[] }])
  fields := #[{ name := "name", type := (.object "java/lang/String"), accessFlags := 18, slot := 0, constantValue := 0 }, { name := "ordinal", type := .int, accessFlags := 18, slot := 1, constantValue := 0 }, { name := "hash", type := .int, accessFlags := 2, slot := 2, constantValue := 0 }]
  methods := #[k5m0]
  instanceTypes := #[(.object "java/lang/String"), .int, .int]
  staticTypes := #[]
  resolved := Array.replicate 204 none
  statics := none }

def pool6 : Array CpInfo := pool [(2, .class_ 4), (1, u "com/example/sealed_satchel/sealedsatchel/core/TextNamed"), (18, .class_ 24), (0, u "java/lang/Object")] 11

/-- com/example/sealed_satchel/sealedsatchel/core/TextNamed -/
def k6 : Class := { plain "com/example/sealed_satchel/sealedsatchel/core/TextNamed" (some 0) with
  accessFlags := 1536
  interfaces := #[]
  cf := some (fileOf pool6 2 #[] #[] 1536 23 #[] #[])
  fields := #[]
  methods := #[]
  instanceTypes := #[]
  staticTypes := #[]
  resolved := Array.replicate 36 none
  statics := none }

def pool7 : Array CpInfo := pool [(1, .class_ 2), (0, u "com/example/sealed_satchel/sealedsatchel/core/Operator"), (2, u "EQ"), (0, u "Lcom/example/sealed_satchel/sealedsatchel/core/Operator;"), (2, u "LT"), (2, u "GT"), (2, u "LTE"), (2, u "GTE"), (2, u "$VALUES"), (0, u "[Lcom/example/sealed_satchel/sealedsatchel/core/Operator;"), (6, .class_ 31), (1, u "java/lang/Enum"), (8, u "text"), (0, u "Ljava/lang/String;"), (5, .class_ 49), (1, u "com/example/sealed_satchel/sealedsatchel/core/TextNamed"), (2, .methodref 1 53), (0, .nameAndType 54 55), (0, u "ordinal"), (0, u "()I"), (35, u "holds"), (0, u "(I)Z")] 6

def k7c0 : Code := { maxStack := 4, maxLocals := 2, code := prog_32_method_6_code, exceptionTable := #[], attributes := #[] }
def k7m0 : Method := { name := "holds", desc := "(I)Z", sig := { parameters := [.int], returnType := some .boolean }, accessFlags := 0, code := some k7c0 }
/-- com/example/sealed_satchel/sealedsatchel/core/Operator -/
def k7 : Class := { plain "com/example/sealed_satchel/sealedsatchel/core/Operator" (some 5) with
  accessFlags := 16433
  interfaces := #[6]
  cf := some (fileOf pool7 1 #[] #[{ accessFlags := 0, nameIndex := 91, descriptorIndex := 92, attributes := #[] }] 16433 29 #[47] #[{ accessFlags := 16409, nameIndex := 5, descriptorIndex := 6, attributes := #[] }, { accessFlags := 16409, nameIndex := 9, descriptorIndex := 6, attributes := #[] }, { accessFlags := 16409, nameIndex := 12, descriptorIndex := 6, attributes := #[] }, { accessFlags := 16409, nameIndex := 15, descriptorIndex := 6, attributes := #[] }, { accessFlags := 16409, nameIndex := 18, descriptorIndex := 6, attributes := #[] }, { accessFlags := 18, nameIndex := 40, descriptorIndex := 41, attributes := #[] }, { accessFlags := 4122, nameIndex := 21, descriptorIndex := 22, attributes := #[] }])
  fields := #[{ name := "EQ", type := (.object "com/example/sealed_satchel/sealedsatchel/core/Operator"), accessFlags := 16409, slot := 0, constantValue := 0 }, { name := "LT", type := (.object "com/example/sealed_satchel/sealedsatchel/core/Operator"), accessFlags := 16409, slot := 1, constantValue := 0 }, { name := "GT", type := (.object "com/example/sealed_satchel/sealedsatchel/core/Operator"), accessFlags := 16409, slot := 2, constantValue := 0 }, { name := "LTE", type := (.object "com/example/sealed_satchel/sealedsatchel/core/Operator"), accessFlags := 16409, slot := 3, constantValue := 0 }, { name := "GTE", type := (.object "com/example/sealed_satchel/sealedsatchel/core/Operator"), accessFlags := 16409, slot := 4, constantValue := 0 }, { name := "text", type := (.object "java/lang/String"), accessFlags := 18, slot := 3, constantValue := 0 }, { name := "$VALUES", type := (.array (.object "com/example/sealed_satchel/sealedsatchel/core/Operator")), accessFlags := 4122, slot := 5, constantValue := 0 }]
  methods := #[k7m0]
  instanceTypes := #[(.object "java/lang/String"), .int, .int, (.object "java/lang/String")]
  staticTypes := #[(.object "com/example/sealed_satchel/sealedsatchel/core/Operator"), (.object "com/example/sealed_satchel/sealedsatchel/core/Operator"), (.object "com/example/sealed_satchel/sealedsatchel/core/Operator"), (.object "com/example/sealed_satchel/sealedsatchel/core/Operator"), (.object "com/example/sealed_satchel/sealedsatchel/core/Operator"), (.array (.object "com/example/sealed_satchel/sealedsatchel/core/Operator"))]
  resolved := Array.replicate 99 none
  statics := some 0 }

def pool8 : Array CpInfo := pool [(1, u "java/lang/Cloneable"), (0, .class_ 1), (0, u "java/lang/Object"), (0, .class_ 3)] 3

/-- java/lang/Cloneable -/
def k8 : Class := { plain "java/lang/Cloneable" (some 0) with
  accessFlags := 1537
  interfaces := #[]
  cf := some (fileOf pool8 2 #[] #[] 1537 4 #[] #[])
  fields := #[]
  methods := #[]
  instanceTypes := #[]
  staticTypes := #[]
  resolved := Array.replicate 8 none
  statics := none }

/-- the primitive byte -/
def k9 : Class := { plain "byte" none with kind := .primitive 'B', accessFlags := 0x411 }
/-- [B -/
def k10 : Class := { plain "[B" (some 0) with kind := .array 9 .byte, interfaces := #[8, 4], accessFlags := 1041 }

def heap : Heap := #[{ cls := 7, slots := #[.ref 1, .ref 2, .ref 3, .ref 4, .ref 5, .null], vm := .statics 7 },
  { cls := 7, slots := #[.null, .int 0, .int 0, .null], vm := .none },
  { cls := 7, slots := #[.null, .int 1, .int 0, .null], vm := .none },
  { cls := 7, slots := #[.null, .int 2, .int 0, .null], vm := .none },
  { cls := 7, slots := #[.null, .int 3, .int 0, .null], vm := .none },
  { cls := 7, slots := #[.null, .int 4, .int 0, .null], vm := .none }]
def classes : Array Class := #[k0, k1, k2, k3, k4, k5, k6, k7, k8, k9, k10]
def interned : List (Array UInt16 × Addr) := []
def slotsUsed : Nat := 26
def theMethod : MethodId := ⟨1, 3⟩
def args0 : Array Value := #[.int 5, .int 7]
def aboutOver (below : List Frame) : State where
  vm := { classes := classes, interned := interned.toArray }
  heap := heap
  slotsUsed := slotsUsed
  threads := #[{ frames := .invoking theMethod args0 :: below }]
def below0 : List Frame := [.native { method := ⟨0, 0⟩, args := #[] }]
def about1 : State := aboutOver below0
def p0 : Program := .bare "" "" ""
def e0 : Env := launch0.env 0 0 0
theorem w_frames : about1.frames = Frame.invoking theMethod args0 :: below0 := rfl
set_option maxRecDepth 65536 in
theorem w_args : argsFit about1.vm theMethod args0 = true := by decide +kernel
set_option maxRecDepth 65536 in
theorem w_heap : heapFits about1 = true := by decide +kernel
set_option maxRecDepth 65536 in
theorem w_runnable : about1.curStatus? = some .runnable := by decide +kernel
set_option maxRecDepth 65536 in
theorem w_alone : about1.alone = true := by decide +kernel
set_option maxRecDepth 65536 in
theorem w_named : about1.methodNamed? x = some theMethod := by decide +kernel
set_option maxRecDepth 65536 in
theorem w_hears : about1.hears theMethod below0 = true := by decide +kernel
set_option maxRecDepth 65536 in
theorem w_ripe : about1.ripe theMethod args0 below0 = true := by decide +kernel
theorem w_running : about1.status = .running := rfl
set_option maxRecDepth 65536 in
theorem w_room : about1.hasRoom e0.platform room_1 = true :=
  launch0.hasRoom_least _ room_1 (by decide +kernel) (by decide +kernel) (by decide +kernel) (by decide +kernel) (by decide +kernel) (by decide +kernel)
theorem allAtoms_all (ts : List Jvm.Cond) (a : Array Jvm.Value) (st : Jvm.State) : (allAtoms ts).before a st = ts.all (fun c => c.before a st) := by
  induction ts with
  | nil => rfl
  | cons c t ih =>
    show (Jvm.Cond.and c (allAtoms t)).before a st = _
    rw [Jvm.Cond.before_and, ih, List.all_cons]
def words1 : List Jvm.Cond := Jvm.Cond.code x code maxLocals ret :: tables_1
/-- a 'code' word, met by the world's own term for the bytes: nothing is compared byte by byte -/
theorem code_word {y : MethodName} {bytes : ByteArray} {mx : Nat} {rt : Option FieldType} {a : Array Value} {s : State} {m : MethodId} {meth : Method} {c : Code} (h1 : s.methodNamed? y = some m) (h2 : s.vm.method? m = some meth) (h3 : meth.code = some c) (h4 : c.code = bytes)
    (h5 : (c.maxLocals == mx && c.exceptionTable.isEmpty && decide (c.maxStack ≤ mostOperands) && decide (meth.sig.returnType = rt) && !meth.locks && decide (parseMethodDescriptor y.desc = some meth.sig)) = true) : (Jvm.Cond.code y bytes mx rt).before a s = true := by
  simp only [Bool.and_eq_true, beq_iff_eq, Bool.not_eq_true', decide_eq_true_eq] at h5
  obtain ⟨⟨⟨⟨⟨g1, g2⟩, g3⟩, g4⟩, g5⟩, g6⟩ := h5
  simp [Cond.before, Cond.holds, Cond.value, h1, h2, h3, h4, g1, g2, g3, g4, g5, g6]
def isCode : Jvm.Cond → Bool
  | .code _ _ _ _ => true
  | _ => false
theorem all_split {L : List Jvm.Cond} {P : Jvm.Cond → Bool} (h1 : L.all (fun c => isCode c || P c) = true) (h2 : ∀ c ∈ L.filter isCode, P c = true) : L.all P = true := by
  refine List.all_eq_true.mpr fun c hc => ?_
  have h := List.all_eq_true.mp h1 c hc
  rcases Bool.eq_false_or_eq_true (isCode c) with hi | hi
  · exact h2 c (List.mem_filter.mpr ⟨hc, hi⟩)
  · simpa [hi] using h
set_option maxRecDepth 65536 in
theorem w_c0 : (Jvm.Cond.code x code maxLocals ret).before args0 about1 = true := code_word (m := ⟨1, 3⟩) (meth := k1m3) (c := k1c3) (by decide +kernel) rfl rfl rfl (by decide +kernel)
set_option maxRecDepth 65536 in
theorem w_c1 : (Jvm.Cond.code ({ cls := "com/example/sealed_satchel/sealedsatchel/core/OperatorHoldsPinLaw", name := "pick", desc := "(I)Lcom/example/sealed_satchel/sealedsatchel/core/Operator;" } : Jvm.MethodName) method_2_code (1 : Nat) (Option.some (Jvm.ClassFile.FieldType.object "com/example/sealed_satchel/sealedsatchel/core/Operator"))).before args0 about1 = true := code_word (m := ⟨1, 1⟩) (meth := k1m1) (c := k1c1) (by decide +kernel) rfl rfl rfl (by decide +kernel)
set_option maxRecDepth 65536 in
theorem w_c2 : (Jvm.Cond.code ({ cls := "com/example/sealed_satchel/sealedsatchel/core/OperatorHoldsPinLaw", name := "acceptMask", desc := "(I)I" } : Jvm.MethodName) method_3_code (1 : Nat) (Option.some Jvm.ClassFile.FieldType.int)).before args0 about1 = true := code_word (m := ⟨1, 2⟩) (meth := k1m2) (c := k1c2) (by decide +kernel) rfl rfl rfl (by decide +kernel)
set_option maxRecDepth 65536 in
theorem w_c3 : (Jvm.Cond.code ({ cls := "com/example/sealed_satchel/sealedsatchel/core/Operator", name := "holds", desc := "(I)Z" } : Jvm.MethodName) prog_32_method_6_code (2 : Nat) (Option.some Jvm.ClassFile.FieldType.boolean)).before args0 about1 = true := code_word (m := ⟨7, 0⟩) (meth := k7m0) (c := k7c0) (by decide +kernel) rfl rfl rfl (by decide +kernel)
set_option maxRecDepth 65536 in
theorem w_c4 : (Jvm.Cond.code ({ cls := "java/lang/Enum", name := "ordinal", desc := "()I" } : Jvm.MethodName) jdk_37_method_2_code (1 : Nat) (Option.some Jvm.ClassFile.FieldType.int)).before args0 about1 = true := code_word (m := ⟨5, 0⟩) (meth := k5m0) (c := k5c0) (by decide +kernel) rfl rfl rfl (by decide +kernel)
def codes1 : List Jvm.Cond := [Jvm.Cond.code x code maxLocals ret, Jvm.Cond.code ({ cls := "com/example/sealed_satchel/sealedsatchel/core/OperatorHoldsPinLaw", name := "pick", desc := "(I)Lcom/example/sealed_satchel/sealedsatchel/core/Operator;" } : Jvm.MethodName) method_2_code (1 : Nat) (Option.some (Jvm.ClassFile.FieldType.object "com/example/sealed_satchel/sealedsatchel/core/Operator")), Jvm.Cond.code ({ cls := "com/example/sealed_satchel/sealedsatchel/core/OperatorHoldsPinLaw", name := "acceptMask", desc := "(I)I" } : Jvm.MethodName) method_3_code (1 : Nat) (Option.some Jvm.ClassFile.FieldType.int), Jvm.Cond.code ({ cls := "com/example/sealed_satchel/sealedsatchel/core/Operator", name := "holds", desc := "(I)Z" } : Jvm.MethodName) prog_32_method_6_code (2 : Nat) (Option.some Jvm.ClassFile.FieldType.boolean), Jvm.Cond.code ({ cls := "java/lang/Enum", name := "ordinal", desc := "()I" } : Jvm.MethodName) jdk_37_method_2_code (1 : Nat) (Option.some Jvm.ClassFile.FieldType.int)]
set_option maxRecDepth 65536 in
theorem codes_eq : words1.filter isCode = codes1 := rfl
theorem w_codes : ∀ c ∈ words1.filter isCode, c.before args0 about1 = true := by
  rw [codes_eq]
  intro c hc
  simp only [codes1, List.mem_cons, List.not_mem_nil, or_false] at hc
  rcases hc with rfl | rfl | rfl | rfl | rfl
  · exact w_c0
  · exact w_c1
  · exact w_c2
  · exact w_c3
  · exact w_c4
set_option maxRecDepth 65536 in
theorem w_t1 : (words1.take 24).all (fun c => isCode c || c.before args0 about1) = true := by decide +kernel
set_option maxRecDepth 65536 in
theorem w_t2 : (words1.drop 24).all (fun c => isCode c || c.before args0 about1) = true := by decide +kernel
theorem w_tables : (allAtoms (Jvm.Cond.code x code maxLocals ret :: tables_1)).before args0 about1 = true := by
  rw [allAtoms_all]
  show words1.all (fun c => c.before args0 about1) = true
  refine all_split ?_ w_codes
  rw [← List.take_append_drop 24 words1, List.all_append, w_t1, w_t2]
  rfl
set_option maxRecDepth 65536 in
theorem w_case : (Jvm.Cond.and given_1 narrow_1).before args0 about1 = true := by decide +kernel
theorem w_applies : (headSpec (Jvm.Cond.code x code maxLocals ret :: tables_1) room_1).applies x e0.platform about1 = true :=
  (Spec.applies_iff w_frames).mpr ⟨w_running, w_runnable, w_alone, w_named, w_hears, w_ripe, w_room, w_tables⟩
theorem atStart : AtStart classFile x code maxLocals ret World_1 tables_1 room_1 Calls_1 rest_1 Pre_1 launch0 p0 e0 about1 theMethod args0 below0 :=
  ⟨lists_1, trivial, launch0.admits_env _ _ _, launch0.least_env, fairChoices_fair.cas, fairChoices_fair.clock, w_frames, w_args, w_heap, w_applies, trivial, trivial, w_case⟩
end start1
theorem witness_1 : WitnessClaimed_1 := ⟨start1.p0, start1.e0, start1.about1, start1.theMethod, start1.args0, start1.below0, start1.atStart⟩
end Jvm.Pilot.@@N@@
