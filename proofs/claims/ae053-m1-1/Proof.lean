import JvmDerived
import JvmDerived.Pilot.@@N@@Statement
import JvmDerived.Pilot.@@N@@Code
set_option linter.unusedVariables false
set_option linter.unusedSimpArgs false
namespace Jvm.Pilot.@@N@@
open Jvm Jvm.ClassFile Sem Op Lib Jvm.Free Jvm.Stand Jvm.LawKit Jvm.RoadKit Bundle Jvm.Pilot.@@N@@.Jvm.D
section OwnPre
/-- where the run stands, with all that stays true of the body -/
def St (p : Program) (l : Launch) (e : Env) (R : Room) (s : State) (m : MethodId) (args : Array Value) (below : List Frame) (meth : Method) (c : Code) (Z : State) (own : String) (bytes : ByteArray) (ml n0 : Nat) (ret : Option FieldType) (nm : String) (T : State) (h : Heap) (cells slots : Nat) : Prop :=
  ∃ locs, Stand p l e R s m args below meth c T locs cells slots ∧ Fr n0 locs ∧ T.heap = h ∧ p.tables.exec = Jvm.exec ∧ Z.Warmed39 s.vm ∧ s.vm.findClass own = some m.cls ∧ c.code = bytes ∧ c.maxLocals = ml ∧ meth.locks = false ∧ n0 ≤ s.heap.size ∧ meth.sig.returnType = ret ∧ meth.name = nm
def Wp (p : Program) (e : Env) (below : List Frame) (PO : Outcome → State → Prop) (T : State) (g : JFrame) : Prop := ∃ t o, Steps p.tables e below (T.setTop g) t ∧ t.status = .running ∧ Ended t below o ∧ PO o t
def Po (s : State) (n0 : Nat) (R : Room) (Q : Option Value → Heap → Prop) (o : Outcome) (t : State) : Prop := ∃ v L, o = .returned v ∧ (Q v t.heap ∧ Fr n0 L) ∧ FrameEnd s o t L R.cells R.slots
def Ct (l : Launch) (y : MethodName) (bytes : ByteArray) (ml : Nat) (ret : Option FieldType) (ws : List Jvm.Cond) (R : Room) (Z : State) (h0 : Heap) (n0 : Nat) (as : Array Value) (Q : Option Value → Heap → Prop) : Prop :=
  MetFree l y (head1 (Jvm.Cond.code y bytes ml ret :: ws) R) (fun a U => a = as ∧ Z.Warmed39 U.vm ∧ U.heap = h0) (fun _ _ _ _ _ => True) (fun _ U o U' => Po U n0 R Q o U')
variable {p : Program} {l : Launch} {e : Env} {R : Room} {s : State} {m : MethodId} {args : Array Value} {below : List Frame} {meth : Method} {c : Code} {Z : State} {own : String} {bytes : ByteArray} {ml n0 : Nat} {ret : Option FieldType} {nm : String} {T : State} {h : Heap} {cells slots : Nat} {PO : Outcome → State → Prop} {a0 : Array Value} {pc q : Nat} {L : Array Slot} {st : List Value}
theorem o_body {y : MethodName} {ws : List Jvm.Cond} {h0 : Heap} {as : Array Value} {Q : Option Value → Heap → Prop} {L0 : Array Slot} (hpl : plainFor y = true) (hn : n0 ≤ h0.size) (hef : ∀ m, entryFrame m as ml = mkF m 0 L0 [])
    (k : ∀ (p : Program) (e : Env) (s : State) (m : MethodId) (below : List Frame) (meth : Method) (c : Code) (T : State), St p l e R s m as below meth c Z y.cls bytes ml n0 ret y.name T h0 0 0 → Wp p e below (Po s n0 R Q) T (mkF m 0 L0 [])) :
    Ct l y bytes ml ret ws R Z h0 n0 as Q := by
  refine MetFree.of_bodySF hpl hisR ?_
  intro p e s m args below meth c s₁ Bd hml0 hP hK
  obtain ⟨rfl, hZ, hh⟩ := hP
  have X0 : Stand p l e R s m args below meth c s₁ [] 0 0 := Stand.of_body Bd
  have e0 : s₁.heap = h0 := by rw [← hh, Bd.state]; rfl
  obtain ⟨t, o, h1, h2, h3, h4⟩ := k p e s m below meth c s₁ ⟨[], X0, Fr.nil n0, e0, Bd.exec, hZ, findClass_of_methodNamed Bd.named, Bd.bytes, hml0, BodyLoose.notSynchronized Bd, (by rw [hh]; exact hn), Bd.returns, (name_of_methodNamed Bd.named Bd.method).1⟩
  exact ⟨t, o, castTop (hef m) h1, h2, h3, h4⟩
theorem o_st (S : St p l e R s m args below meth c Z own bytes ml n0 ret nm T h cells slots) {g g' : JFrame} (hs : ∀ t, At T m c below → p.tables.exec = Jvm.exec → c.code = bytes → Steps p.tables e below (T.setTop g') t → Steps p.tables e below (T.setTop g) t) (k : Wp p e below PO T g') : Wp p e below PO T g := by
  obtain ⟨locs, X, N, eT, hx, hZ, hown, hby, hml, hlk, hn, hrt, hnm⟩ := S
  obtain ⟨t, o, h1, h2⟩ := k
  exact ⟨t, o, hs t X.here hx hby h1, h2⟩
theorem o_to {T' : State} {g g' : JFrame} (hs : ∀ t, Steps p.tables e below (T'.setTop g') t → Steps p.tables e below (T.setTop g) t) (k : Wp p e below PO T' g') : Wp p e below PO T g := by
  obtain ⟨t, o, h1, h2⟩ := k
  exact ⟨t, o, hs t h1, h2⟩
theorem o_heap (S : St p l e R s m args below meth c Z own bytes ml n0 ret nm T h cells slots) : T.heap = h := by obtain ⟨locs, X, N, eT, -⟩ := S; exact eT
theorem o_n0 (S : St p l e R s m args below meth c Z own bytes ml n0 ret nm T h cells slots) : n0 ≤ h.size := by
  obtain ⟨locs, X, N, eT, hx, hZ, hown, hby, hml, hlk, hn, -⟩ := S
  have := X.same.2.1
  rw [← eT]; exact Nat.le_trans hn this
theorem o_wd {i : Nat} {d : Jvm.Cond} (hw : ∀ d ∈ tables_1, d.before a0 Z = true) (hi : tables_1[i]? = some d) : d.before a0 Z = true := hw _ (List.mem_of_getElem? hi)

theorem o_iloadN (S : St p l e R s m args below meth c Z own bytes ml n0 ret nm T h cells slots) {k : Fin 4} {v : Int32} (hl : L[k.val]? = some (.val (.int v))) (hd : decode bytes pc = .ok (.iload_n k, 1)) (hq : pc + 1 = q) (k : Wp p e below PO T (mkF m q L (.int v :: st))) : Wp p e below PO T (mkF m pc L (st)) := by
  subst hq
  exact o_st S (fun t X hx hy r => XS.iloadN X hx rfl (hb hy hd) hl r) k
theorem o_lloadN (S : St p l e R s m args below meth c Z own bytes ml n0 ret nm T h cells slots) {k : Fin 4} {v : Int64} (hl : L[k.val]? = some (.val (.long v))) (hd : decode bytes pc = .ok (.lload_n k, 1)) (hq : pc + 1 = q) (k : Wp p e below PO T (mkF m q L (.long v :: st))) : Wp p e below PO T (mkF m pc L (st)) := by
  subst hq
  exact o_st S (fun t X hx hy r => XS.lloadN X hx rfl (hb hy hd) hl r) k
theorem o_aloadN (S : St p l e R s m args below meth c Z own bytes ml n0 ret nm T h cells slots) {k : Fin 4} {v : Value} (hl : L[k.val]? = some (.val v)) (hv : v.isRef = true) (hd : decode bytes pc = .ok (.aload_n k, 1)) (hq : pc + 1 = q) (k : Wp p e below PO T (mkF m q L (v :: st))) : Wp p e below PO T (mkF m pc L (st)) := by
  subst hq
  exact o_st S (fun t X hx hy r => XS.aloadN X hx rfl (hb hy hd) hl hv r) k
theorem o_istoreN (S : St p l e R s m args below meth c Z own bytes ml n0 ret nm T h cells slots) {k : Fin 4} {x : Int32} {L' : Array Slot} (hl : storeLocals L k.val (.int x) = some L') (hd : decode bytes pc = .ok (.istore_n k, 1)) (hq : pc + 1 = q) (k : Wp p e below PO T (mkF m q L' (st))) : Wp p e below PO T (mkF m pc L (.int x :: st)) := by
  subst hq
  exact o_st S (fun t X hx hy r => XS.istoreN X hx rfl (hb hy hd) rfl hl r) k
theorem o_istoreVN (S : St p l e R s m args below meth c Z own bytes ml n0 ret nm T h cells slots) {k : Fin 4} {x : Int32} {L' : Int32 → Array Slot} (hl : ∀ v, storeLocals L k.val (.int v) = some (L' v)) (hd : decode bytes pc = .ok (.istore_n k, 1)) (hq : pc + 1 = q) (k : ∀ v, v = x → Wp p e below PO T (mkF m q (L' v) st)) : Wp p e below PO T (mkF m pc L (.int x :: st)) :=
  o_istoreN S (hl x) hd hq (k x rfl)
theorem o_lstoreN (S : St p l e R s m args below meth c Z own bytes ml n0 ret nm T h cells slots) {k : Fin 4} {x : Int64} {L' : Array Slot} (hl : storeLocals L k.val (.long x) = some L') (hd : decode bytes pc = .ok (.lstore_n k, 1)) (hq : pc + 1 = q) (k : Wp p e below PO T (mkF m q L' (st))) : Wp p e below PO T (mkF m pc L (.long x :: st)) := by
  subst hq
  exact o_st S (fun t X hx hy r => XS.lstoreN X hx rfl (hb hy hd) rfl hl r) k
theorem o_lstoreVN (S : St p l e R s m args below meth c Z own bytes ml n0 ret nm T h cells slots) {k : Fin 4} {x : Int64} {L' : Int64 → Array Slot} (hl : ∀ v, storeLocals L k.val (.long v) = some (L' v)) (hd : decode bytes pc = .ok (.lstore_n k, 1)) (hq : pc + 1 = q) (k : ∀ v, v = x → Wp p e below PO T (mkF m q (L' v) st)) : Wp p e below PO T (mkF m pc L (.long x :: st)) :=
  o_lstoreN S (hl x) hd hq (k x rfl)
theorem o_astoreN (S : St p l e R s m args below meth c Z own bytes ml n0 ret nm T h cells slots) {k : Fin 4} {x : Value} {L' : Array Slot} (hv : x.isRef = true) (hl : storeLocals L k.val x = some L') (hd : decode bytes pc = .ok (.astore_n k, 1)) (hq : pc + 1 = q) (k : Wp p e below PO T (mkF m q L' (st))) : Wp p e below PO T (mkF m pc L (x :: st)) := by
  subst hq
  exact o_st S (fun t X hx hy r => XS.astoreN X hx rfl (hb hy hd) rfl hv hl r) k
theorem o_iload (S : St p l e R s m args below meth c Z own bytes ml n0 ret nm T h cells slots) {k : Nat} {v : Int32} (hl : L[k]? = some (.val (.int v))) (hd : decode bytes pc = .ok (.iload k, 2)) (hq : pc + 2 = q) (k : Wp p e below PO T (mkF m q L (.int v :: st))) : Wp p e below PO T (mkF m pc L (st)) := by
  subst hq
  exact o_st S (fun t X hx hy r => XS.iload X hx rfl (hb hy hd) hl r) k
theorem o_lload (S : St p l e R s m args below meth c Z own bytes ml n0 ret nm T h cells slots) {k : Nat} {v : Int64} (hl : L[k]? = some (.val (.long v))) (hd : decode bytes pc = .ok (.lload k, 2)) (hq : pc + 2 = q) (k : Wp p e below PO T (mkF m q L (.long v :: st))) : Wp p e below PO T (mkF m pc L (st)) := by
  subst hq
  exact o_st S (fun t X hx hy r => XS.lload X hx rfl (hb hy hd) hl r) k
theorem o_aload (S : St p l e R s m args below meth c Z own bytes ml n0 ret nm T h cells slots) {k : Nat} {v : Value} (hl : L[k]? = some (.val v)) (hv : v.isRef = true) (hd : decode bytes pc = .ok (.aload k, 2)) (hq : pc + 2 = q) (k : Wp p e below PO T (mkF m q L (v :: st))) : Wp p e below PO T (mkF m pc L (st)) := by
  subst hq
  exact o_st S (fun t X hx hy r => XS.aload X hx rfl (hb hy hd) hl hv r) k
theorem o_istore (S : St p l e R s m args below meth c Z own bytes ml n0 ret nm T h cells slots) {k : Nat} {x : Int32} {L' : Array Slot} (hl : storeLocals L k (.int x) = some L') (hd : decode bytes pc = .ok (.istore k, 2)) (hq : pc + 2 = q) (k : Wp p e below PO T (mkF m q L' (st))) : Wp p e below PO T (mkF m pc L (.int x :: st)) := by
  subst hq
  exact o_st S (fun t X hx hy r => XS.istore X hx rfl (hb hy hd) rfl hl r) k
theorem o_istoreV (S : St p l e R s m args below meth c Z own bytes ml n0 ret nm T h cells slots) {k : Nat} {x : Int32} {L' : Int32 → Array Slot} (hl : ∀ v, storeLocals L k (.int v) = some (L' v)) (hd : decode bytes pc = .ok (.istore k, 2)) (hq : pc + 2 = q) (k : ∀ v, v = x → Wp p e below PO T (mkF m q (L' v) st)) : Wp p e below PO T (mkF m pc L (.int x :: st)) :=
  o_istore S (hl x) hd hq (k x rfl)
theorem o_lstore (S : St p l e R s m args below meth c Z own bytes ml n0 ret nm T h cells slots) {k : Nat} {x : Int64} {L' : Array Slot} (hl : storeLocals L k (.long x) = some L') (hd : decode bytes pc = .ok (.lstore k, 2)) (hq : pc + 2 = q) (k : Wp p e below PO T (mkF m q L' (st))) : Wp p e below PO T (mkF m pc L (.long x :: st)) := by
  subst hq
  exact o_st S (fun t X hx hy r => XS.lstore X hx rfl (hb hy hd) rfl hl r) k
theorem o_lstoreV (S : St p l e R s m args below meth c Z own bytes ml n0 ret nm T h cells slots) {k : Nat} {x : Int64} {L' : Int64 → Array Slot} (hl : ∀ v, storeLocals L k (.long v) = some (L' v)) (hd : decode bytes pc = .ok (.lstore k, 2)) (hq : pc + 2 = q) (k : ∀ v, v = x → Wp p e below PO T (mkF m q (L' v) st)) : Wp p e below PO T (mkF m pc L (.long x :: st)) :=
  o_lstore S (hl x) hd hq (k x rfl)
theorem o_astore (S : St p l e R s m args below meth c Z own bytes ml n0 ret nm T h cells slots) {k : Nat} {x : Value} {L' : Array Slot} (hv : x.isRef = true) (hl : storeLocals L k x = some L') (hd : decode bytes pc = .ok (.astore k, 2)) (hq : pc + 2 = q) (k : Wp p e below PO T (mkF m q L' (st))) : Wp p e below PO T (mkF m pc L (x :: st)) := by
  subst hq
  exact o_st S (fun t X hx hy r => XS.astore X hx rfl (hb hy hd) rfl hv hl r) k
theorem o_iconst (S : St p l e R s m args below meth c Z own bytes ml n0 ret nm T h cells slots) {i : Int} {z : Int32} (hz : Int32.ofInt i = z) (hd : decode bytes pc = .ok (.iconst i, 1)) (hq : pc + 1 = q) (k : Wp p e below PO T (mkF m q L (.int z :: st))) : Wp p e below PO T (mkF m pc L (st)) := by
  subst hq
  exact o_st S (fun t X hx hy r => XS.iconst X hx rfl (hb hy hd) (hz ▸ r)) k
theorem o_bipush (S : St p l e R s m args below meth c Z own bytes ml n0 ret nm T h cells slots) {i : Int} {z : Int32} (hz : (Int8.ofInt i).toInt32 = z) (hd : decode bytes pc = .ok (.bipush i, 2)) (hq : pc + 2 = q) (k : Wp p e below PO T (mkF m q L (.int z :: st))) : Wp p e below PO T (mkF m pc L (st)) := by
  subst hq
  exact o_st S (fun t X hx hy r => XS.bipush X hx rfl (hb hy hd) (hz ▸ r)) k
theorem o_sipush (S : St p l e R s m args below meth c Z own bytes ml n0 ret nm T h cells slots) {i : Int} {z : Int32} (hz : (Int16.ofInt i).toInt32 = z) (hd : decode bytes pc = .ok (.sipush i, 3)) (hq : pc + 3 = q) (k : Wp p e below PO T (mkF m q L (.int z :: st))) : Wp p e below PO T (mkF m pc L (st)) := by
  subst hq
  exact o_st S (fun t X hx hy r => XS.sipush X hx rfl (hb hy hd) (hz ▸ r)) k
theorem o_lconst (S : St p l e R s m args below meth c Z own bytes ml n0 ret nm T h cells slots) {i : Fin 2} {z : Int64} (hz : Int64.ofNat i = z) (hd : decode bytes pc = .ok (.lconst i, 1)) (hq : pc + 1 = q) (k : Wp p e below PO T (mkF m q L (.long z :: st))) : Wp p e below PO T (mkF m pc L (st)) := by
  subst hq
  exact o_st S (fun t X hx hy r => XS.lconst X hx rfl (hb hy hd) (hz ▸ r)) k
theorem o_aconstNull (S : St p l e R s m args below meth c Z own bytes ml n0 ret nm T h cells slots)  (hd : decode bytes pc = .ok (.aconst_null, 1)) (hq : pc + 1 = q) (k : Wp p e below PO T (mkF m q L (.null :: st))) : Wp p e below PO T (mkF m pc L (st)) := by
  subst hq
  exact o_st S (fun t X hx hy r => XS.aconstNull X hx rfl (hb hy hd) r) k
theorem o_iadd (S : St p l e R s m args below meth c Z own bytes ml n0 ret nm T h cells slots) {x y : Int32} (hd : decode bytes pc = .ok (.iadd, 1)) (hq : pc + 1 = q) (k : Wp p e below PO T (mkF m q L (.int (x + y) :: st))) : Wp p e below PO T (mkF m pc L (.int y :: .int x :: st)) := by
  subst hq
  exact o_st S (fun t X hx hy r => XS.iadd X hx rfl (hb hy hd) rfl r) k
theorem o_ladd (S : St p l e R s m args below meth c Z own bytes ml n0 ret nm T h cells slots) {x y : Int64} (hd : decode bytes pc = .ok (.ladd, 1)) (hq : pc + 1 = q) (k : Wp p e below PO T (mkF m q L (.long (x + y) :: st))) : Wp p e below PO T (mkF m pc L (.long y :: .long x :: st)) := by
  subst hq
  exact o_st S (fun t X hx hy r => XS.ladd X hx rfl (hb hy hd) rfl r) k
theorem o_isub (S : St p l e R s m args below meth c Z own bytes ml n0 ret nm T h cells slots) {x y : Int32} (hd : decode bytes pc = .ok (.isub, 1)) (hq : pc + 1 = q) (k : Wp p e below PO T (mkF m q L (.int (x - y) :: st))) : Wp p e below PO T (mkF m pc L (.int y :: .int x :: st)) := by
  subst hq
  exact o_st S (fun t X hx hy r => XS.isub X hx rfl (hb hy hd) rfl r) k
theorem o_lsub (S : St p l e R s m args below meth c Z own bytes ml n0 ret nm T h cells slots) {x y : Int64} (hd : decode bytes pc = .ok (.lsub, 1)) (hq : pc + 1 = q) (k : Wp p e below PO T (mkF m q L (.long (x - y) :: st))) : Wp p e below PO T (mkF m pc L (.long y :: .long x :: st)) := by
  subst hq
  exact o_st S (fun t X hx hy r => XS.lsub X hx rfl (hb hy hd) rfl r) k
theorem o_imul (S : St p l e R s m args below meth c Z own bytes ml n0 ret nm T h cells slots) {x y : Int32} (hd : decode bytes pc = .ok (.imul, 1)) (hq : pc + 1 = q) (k : Wp p e below PO T (mkF m q L (.int (x * y) :: st))) : Wp p e below PO T (mkF m pc L (.int y :: .int x :: st)) := by
  subst hq
  exact o_st S (fun t X hx hy r => XS.imul X hx rfl (hb hy hd) rfl r) k
theorem o_lmul (S : St p l e R s m args below meth c Z own bytes ml n0 ret nm T h cells slots) {x y : Int64} (hd : decode bytes pc = .ok (.lmul, 1)) (hq : pc + 1 = q) (k : Wp p e below PO T (mkF m q L (.long (x * y) :: st))) : Wp p e below PO T (mkF m pc L (.long y :: .long x :: st)) := by
  subst hq
  exact o_st S (fun t X hx hy r => XS.lmul X hx rfl (hb hy hd) rfl r) k
theorem o_iand (S : St p l e R s m args below meth c Z own bytes ml n0 ret nm T h cells slots) {x y : Int32} (hd : decode bytes pc = .ok (.iand, 1)) (hq : pc + 1 = q) (k : Wp p e below PO T (mkF m q L (.int (x &&& y) :: st))) : Wp p e below PO T (mkF m pc L (.int y :: .int x :: st)) := by
  subst hq
  exact o_st S (fun t X hx hy r => XS.iand X hx rfl (hb hy hd) rfl r) k
theorem o_land (S : St p l e R s m args below meth c Z own bytes ml n0 ret nm T h cells slots) {x y : Int64} (hd : decode bytes pc = .ok (.land, 1)) (hq : pc + 1 = q) (k : Wp p e below PO T (mkF m q L (.long (x &&& y) :: st))) : Wp p e below PO T (mkF m pc L (.long y :: .long x :: st)) := by
  subst hq
  exact o_st S (fun t X hx hy r => XS.land X hx rfl (hb hy hd) rfl r) k
theorem o_ior (S : St p l e R s m args below meth c Z own bytes ml n0 ret nm T h cells slots) {x y : Int32} (hd : decode bytes pc = .ok (.ior, 1)) (hq : pc + 1 = q) (k : Wp p e below PO T (mkF m q L (.int (x ||| y) :: st))) : Wp p e below PO T (mkF m pc L (.int y :: .int x :: st)) := by
  subst hq
  exact o_st S (fun t X hx hy r => XS.ior X hx rfl (hb hy hd) rfl r) k
theorem o_lor (S : St p l e R s m args below meth c Z own bytes ml n0 ret nm T h cells slots) {x y : Int64} (hd : decode bytes pc = .ok (.lor, 1)) (hq : pc + 1 = q) (k : Wp p e below PO T (mkF m q L (.long (x ||| y) :: st))) : Wp p e below PO T (mkF m pc L (.long y :: .long x :: st)) := by
  subst hq
  exact o_st S (fun t X hx hy r => XS.lor X hx rfl (hb hy hd) rfl r) k
theorem o_ixor (S : St p l e R s m args below meth c Z own bytes ml n0 ret nm T h cells slots) {x y : Int32} (hd : decode bytes pc = .ok (.ixor, 1)) (hq : pc + 1 = q) (k : Wp p e below PO T (mkF m q L (.int (x ^^^ y) :: st))) : Wp p e below PO T (mkF m pc L (.int y :: .int x :: st)) := by
  subst hq
  exact o_st S (fun t X hx hy r => XS.ixor X hx rfl (hb hy hd) rfl r) k
theorem o_lxor (S : St p l e R s m args below meth c Z own bytes ml n0 ret nm T h cells slots) {x y : Int64} (hd : decode bytes pc = .ok (.lxor, 1)) (hq : pc + 1 = q) (k : Wp p e below PO T (mkF m q L (.long (x ^^^ y) :: st))) : Wp p e below PO T (mkF m pc L (.long y :: .long x :: st)) := by
  subst hq
  exact o_st S (fun t X hx hy r => XS.lxor X hx rfl (hb hy hd) rfl r) k
theorem o_irem (S : St p l e R s m args below meth c Z own bytes ml n0 ret nm T h cells slots) {x y : Int32} (hy0 : y ≠ 0) (hd : decode bytes pc = .ok (.irem, 1)) (hq : pc + 1 = q) (k : Wp p e below PO T (mkF m q L (.int (x % y) :: st))) : Wp p e below PO T (mkF m pc L (.int y :: .int x :: st)) := by
  subst hq
  exact o_st S (fun t X hx hy r => XS.irem X hx rfl (hb hy hd) rfl hy0 (by have q : x - x / y * y = x % y := irem_eq_mod x y; rw [q]; exact r)) k
theorem o_idiv (S : St p l e R s m args below meth c Z own bytes ml n0 ret nm T h cells slots) {x y : Int32} (hy0 : y ≠ 0) (hd : decode bytes pc = .ok (.idiv, 1)) (hq : pc + 1 = q) (k : Wp p e below PO T (mkF m q L (.int (x / y) :: st))) : Wp p e below PO T (mkF m pc L (.int y :: .int x :: st)) := by
  subst hq
  exact o_st S (fun t X hx hy r => XS.idiv X hx rfl (hb hy hd) rfl hy0 r) k
theorem o_ineg (S : St p l e R s m args below meth c Z own bytes ml n0 ret nm T h cells slots) {x : Int32} (hd : decode bytes pc = .ok (.ineg, 1)) (hq : pc + 1 = q) (k : Wp p e below PO T (mkF m q L (.int (-x) :: st))) : Wp p e below PO T (mkF m pc L (.int x :: st)) := by
  subst hq
  exact o_st S (fun t X hx hy r => XS.ineg X hx rfl (hb hy hd) rfl r) k
theorem o_lneg (S : St p l e R s m args below meth c Z own bytes ml n0 ret nm T h cells slots) {x : Int64} (hd : decode bytes pc = .ok (.lneg, 1)) (hq : pc + 1 = q) (k : Wp p e below PO T (mkF m q L (.long (-x) :: st))) : Wp p e below PO T (mkF m pc L (.long x :: st)) := by
  subst hq
  exact o_st S (fun t X hx hy r => XS.lneg X hx rfl (hb hy hd) rfl r) k
theorem o_i2l (S : St p l e R s m args below meth c Z own bytes ml n0 ret nm T h cells slots) {x : Int32} (hd : decode bytes pc = .ok (.i2l, 1)) (hq : pc + 1 = q) (k : Wp p e below PO T (mkF m q L (.long x.toInt64 :: st))) : Wp p e below PO T (mkF m pc L (.int x :: st)) := by
  subst hq
  exact o_st S (fun t X hx hy r => XS.i2l X hx rfl (hb hy hd) rfl r) k
theorem o_l2i (S : St p l e R s m args below meth c Z own bytes ml n0 ret nm T h cells slots) {x : Int64} (hd : decode bytes pc = .ok (.l2i, 1)) (hq : pc + 1 = q) (k : Wp p e below PO T (mkF m q L (.int x.toInt32 :: st))) : Wp p e below PO T (mkF m pc L (.long x :: st)) := by
  subst hq
  exact o_st S (fun t X hx hy r => XS.l2i X hx rfl (hb hy hd) rfl r) k
theorem o_i2b (S : St p l e R s m args below meth c Z own bytes ml n0 ret nm T h cells slots) {x : Int32} (hd : decode bytes pc = .ok (.i2b, 1)) (hq : pc + 1 = q) (k : Wp p e below PO T (mkF m q L (.int x.toInt8.toInt32 :: st))) : Wp p e below PO T (mkF m pc L (.int x :: st)) := by
  subst hq
  exact o_st S (fun t X hx hy r => XS.i2b X hx rfl (hb hy hd) rfl r) k
theorem o_i2s (S : St p l e R s m args below meth c Z own bytes ml n0 ret nm T h cells slots) {x : Int32} (hd : decode bytes pc = .ok (.i2s, 1)) (hq : pc + 1 = q) (k : Wp p e below PO T (mkF m q L (.int x.toInt16.toInt32 :: st))) : Wp p e below PO T (mkF m pc L (.int x :: st)) := by
  subst hq
  exact o_st S (fun t X hx hy r => XS.i2s X hx rfl (hb hy hd) rfl r) k
theorem o_i2c (S : St p l e R s m args below meth c Z own bytes ml n0 ret nm T h cells slots) {x : Int32} (hd : decode bytes pc = .ok (.i2c, 1)) (hq : pc + 1 = q) (k : Wp p e below PO T (mkF m q L (.int x.toUInt32.toUInt16.toUInt32.toInt32 :: st))) : Wp p e below PO T (mkF m pc L (.int x :: st)) := by
  subst hq
  exact o_st S (fun t X hx hy r => XS.i2c X hx rfl (hb hy hd) rfl r) k
theorem o_ishl (S : St p l e R s m args below meth c Z own bytes ml n0 ret nm T h cells slots) {x y : Int32} (hd : decode bytes pc = .ok (.ishl, 1)) (hq : pc + 1 = q) (k : Wp p e below PO T (mkF m q L (.int (x <<< (y &&& 31)) :: st))) : Wp p e below PO T (mkF m pc L (.int y :: .int x :: st)) := by
  subst hq
  exact o_st S (fun t X hx hy r => XS.ishl X hx rfl (hb hy hd) rfl r) k
theorem o_ishr (S : St p l e R s m args below meth c Z own bytes ml n0 ret nm T h cells slots) {x y : Int32} (hd : decode bytes pc = .ok (.ishr, 1)) (hq : pc + 1 = q) (k : Wp p e below PO T (mkF m q L (.int (x >>> (y &&& 31)) :: st))) : Wp p e below PO T (mkF m pc L (.int y :: .int x :: st)) := by
  subst hq
  exact o_st S (fun t X hx hy r => XS.ishr X hx rfl (hb hy hd) rfl r) k
theorem o_iushr (S : St p l e R s m args below meth c Z own bytes ml n0 ret nm T h cells slots) {x y : Int32} (hd : decode bytes pc = .ok (.iushr, 1)) (hq : pc + 1 = q) (k : Wp p e below PO T (mkF m q L (.int ((x.toUInt32 >>> (y &&& 31).toUInt32).toInt32) :: st))) : Wp p e below PO T (mkF m pc L (.int y :: .int x :: st)) := by
  subst hq
  exact o_st S (fun t X hx hy r => XS.iushr X hx rfl (hb hy hd) rfl r) k
theorem o_lshl (S : St p l e R s m args below meth c Z own bytes ml n0 ret nm T h cells slots) {x : Int64} {y : Int32} (hd : decode bytes pc = .ok (.lshl, 1)) (hq : pc + 1 = q) (k : Wp p e below PO T (mkF m q L (.long (x <<< (y &&& 0x3f).toInt64) :: st))) : Wp p e below PO T (mkF m pc L (.int y :: .long x :: st)) := by
  subst hq
  exact o_st S (fun t X hx hy r => XS.lshl X hx rfl (hb hy hd) rfl r) k
theorem o_lshr (S : St p l e R s m args below meth c Z own bytes ml n0 ret nm T h cells slots) {x : Int64} {y : Int32} (hd : decode bytes pc = .ok (.lshr, 1)) (hq : pc + 1 = q) (k : Wp p e below PO T (mkF m q L (.long (x >>> (y &&& 0x3f).toInt64) :: st))) : Wp p e below PO T (mkF m pc L (.int y :: .long x :: st)) := by
  subst hq
  exact o_st S (fun t X hx hy r => XS.lshr X hx rfl (hb hy hd) rfl r) k
theorem o_lushr (S : St p l e R s m args below meth c Z own bytes ml n0 ret nm T h cells slots) {x : Int64} {y : Int32} (hd : decode bytes pc = .ok (.lushr, 1)) (hq : pc + 1 = q) (k : Wp p e below PO T (mkF m q L (.long ((x.toUInt64 >>> (y &&& 0x3f).toInt64.toUInt64).toInt64) :: st))) : Wp p e below PO T (mkF m pc L (.int y :: .long x :: st)) := by
  subst hq
  exact o_st S (fun t X hx hy r => XS.lushr X hx rfl (hb hy hd) rfl r) k
theorem o_lcmp (S : St p l e R s m args below meth c Z own bytes ml n0 ret nm T h cells slots) {x y : Int64} (hd : decode bytes pc = .ok (.lcmp, 1)) (hq : pc + 1 = q) (k : Wp p e below PO T (mkF m q L (.int (lcmpW x y) :: st))) : Wp p e below PO T (mkF m pc L (.long y :: .long x :: st)) := by
  subst hq
  exact o_st S (fun t X hx hy r => XS.lcmp X hx rfl (hb hy hd) rfl r) k
theorem o_dup (S : St p l e R s m args below meth c Z own bytes ml n0 ret nm T h cells slots) {x : Value} (hc : x.category = 1) (hd : decode bytes pc = .ok (.dup, 1)) (hq : pc + 1 = q) (k : Wp p e below PO T (mkF m q L (x :: x :: st))) : Wp p e below PO T (mkF m pc L (x :: st)) := by
  subst hq
  exact o_st S (fun t X hx hy r => XS.dup X hx rfl (hb hy hd) rfl hc r) k
theorem o_pop (S : St p l e R s m args below meth c Z own bytes ml n0 ret nm T h cells slots) {x : Value} (hc : x.category = 1) (hd : decode bytes pc = .ok (.pop, 1)) (hq : pc + 1 = q) (k : Wp p e below PO T (mkF m q L (st))) : Wp p e below PO T (mkF m pc L (x :: st)) := by
  subst hq
  exact o_st S (fun t X hx hy r => XS.pop X hx rfl (hb hy hd) rfl hc r) k
theorem o_dupX1 (S : St p l e R s m args below meth c Z own bytes ml n0 ret nm T h cells slots) {x y : Value} (hc : x.category = 1) (hc' : y.category = 1) (hd : decode bytes pc = .ok (.dup_x1, 1)) (hq : pc + 1 = q) (k : Wp p e below PO T (mkF m q L (x :: y :: x :: st))) : Wp p e below PO T (mkF m pc L (x :: y :: st)) := by
  subst hq
  exact o_st S (fun t X hx hy r => XS.dupX1 X hx rfl (hb hy hd) rfl hc hc' r) k
theorem o_dup2 (S : St p l e R s m args below meth c Z own bytes ml n0 ret nm T h cells slots) {x y : Value} (hc : x.category = 1) (hc' : y.category = 1) (hd : decode bytes pc = .ok (.dup2, 1)) (hq : pc + 1 = q) (k : Wp p e below PO T (mkF m q L (x :: y :: x :: y :: st))) : Wp p e below PO T (mkF m pc L (x :: y :: st)) := by
  subst hq
  exact o_st S (fun t X hx hy r => XT.dup2 X hx rfl (hb hy hd) rfl hc hc' r) k
theorem o_iinc (S : St p l e R s m args below meth c Z own bytes ml n0 ret nm T h cells slots) {k : Nat} {i : Int} {x : Int32} {L' : Array Slot} (hl : L[k]? = some (.val (.int x))) (hl' : storeLocals L k (.int (x + Int32.ofInt i)) = some L') (hd : decode bytes pc = .ok (.iinc k i, 3)) (hq : pc + 3 = q) (kk : Wp p e below PO T (mkF m q L' st)) : Wp p e below PO T (mkF m pc L st) := by
  subst hq
  exact o_st S (fun t X hx hy r => XS.iinc X hx rfl (hb hy hd) hl hl' r) kk
theorem o_goto (S : St p l e R s m args below meth c Z own bytes ml n0 ret nm T h cells slots) {o : Int} (hd : decode bytes pc = .ok (.goto o, 3)) (ho : 0 ≤ (pc : Int) + o) (hq : ((pc : Int) + o).toNat = q) (k : Wp p e below PO T (mkF m q L st)) : Wp p e below PO T (mkF m pc L st) :=
  o_st S (fun t X hx hy r => XS.goto X hx rfl rfl (hb hy hd) ho hq r) k
theorem o_ldc (S : St p l e R s m args below meth c Z own bytes ml n0 ret nm T h cells slots) {i : Nat} {z : Int32} (w : (Jvm.Cond.constant own i z).before a0 Z = true) (hd : decode bytes pc = .ok (.ldc i, 2)) (hq : pc + 2 = q) (k : Wp p e below PO T (mkF m q L (.int z :: st))) : Wp p e below PO T (mkF m pc L st) := by
  subst hq
  obtain ⟨locs, X, N, eT, hx, hZ, hown, hby, hml, hlk, hn, hrt, hnm⟩ := S
  exact o_to (X.ldcInt hx hown (mvT hZ w) (g := mkF m pc L st) rfl (hb hby hd)) k
theorem o_ldc2 (S : St p l e R s m args below meth c Z own bytes ml n0 ret nm T h cells slots) {i : Nat} {z : Int64} (w : (Jvm.Cond.constantLong own i z).before a0 Z = true) (hd : decode bytes pc = .ok (.ldc2_w i, 3)) (hq : pc + 3 = q) (k : Wp p e below PO T (mkF m q L (.long z :: st))) : Wp p e below PO T (mkF m pc L st) := by
  subst hq
  obtain ⟨locs, X, N, eT, hx, hZ, hown, hby, hml, hlk, hn, hrt, hnm⟩ := S
  exact o_to (X.ldc2Long hx hown (mvT hZ w) (g := mkF m pc L st) rfl (hb hby hd)) k
/-! branches: base conditions x < y (as integers) and x = y -/
theorem o_icmp (S : St p l e R s m args below meth c Z own bytes ml n0 ret nm T h cells slots) {cd : ClassFile.Cond} {x y : Int32} {o : Int} {q' : Nat} {P : Prop} (hd : decode bytes pc = .ok (.if_icmp cd o, 3)) (ho : 0 ≤ (pc : Int) + o) (hq' : ((pc : Int) + o).toNat = q') (hq : pc + 3 = q) (h1 : P → if_icmp.holds cd x y = true) (h2 : ¬ P → if_icmp.holds cd x y = false) [Decidable P]
    (k1 : P → Wp p e below PO T (mkF m q' L st)) (k2 : ¬ P → Wp p e below PO T (mkF m q L st)) : Wp p e below PO T (mkF m pc L (.int y :: .int x :: st)) := by
  subst hq
  by_cases hP : P
  · exact o_st S (fun t X hx hy r => XS.icmpYes X hx rfl rfl (hb hy hd) rfl (h1 hP) ho hq' r) (k1 hP)
  · exact o_st S (fun t X hx hy r => XS.icmpNo X hx rfl (hb hy hd) rfl (h2 hP) r) (k2 hP)
theorem o_if (S : St p l e R s m args below meth c Z own bytes ml n0 ret nm T h cells slots) {cd : ClassFile.Cond} {x : Int32} {o : Int} {q' : Nat} {P : Prop} (hd : decode bytes pc = .ok (.ifCond cd o, 3)) (ho : 0 ≤ (pc : Int) + o) (hq' : ((pc : Int) + o).toNat = q') (hq : pc + 3 = q) (h1 : P → if_icmp.holds cd x 0 = true) (h2 : ¬ P → if_icmp.holds cd x 0 = false) [Decidable P]
    (k1 : P → Wp p e below PO T (mkF m q' L st)) (k2 : ¬ P → Wp p e below PO T (mkF m q L st)) : Wp p e below PO T (mkF m pc L (.int x :: st)) := by
  subst hq
  by_cases hP : P
  · exact o_st S (fun t X hx hy r => XS.ifYes X hx rfl rfl (hb hy hd) rfl ((if0 _ _).trans (h1 hP)) ho hq' r) (k1 hP)
  · exact o_st S (fun t X hx hy r => XS.ifNo X hx rfl (hb hy hd) rfl ((if0 _ _).trans (h2 hP)) r) (k2 hP)
theorem hs_lt {x y : Int32} {a b : Int} (ha : x.toInt = a) (hb : y.toInt = b) : (a < b → if_icmp.holds .lt x y = true) ∧ (¬ a < b → if_icmp.holds .lt x y = false) := by subst ha hb; exact ⟨fun h => (tlt (Int32.lt_iff_toInt_lt.mpr h)).1, fun h => (flt (fun g => h (Int32.lt_iff_toInt_lt.mp g))).1⟩
theorem hs_ge {x y : Int32} {a b : Int} (ha : x.toInt = a) (hb : y.toInt = b) : (b ≤ a → if_icmp.holds .ge x y = true) ∧ (¬ b ≤ a → if_icmp.holds .ge x y = false) := by subst ha hb; exact ⟨fun h => (flt (fun g => by have := Int32.lt_iff_toInt_lt.mp g; omega)).2.1, fun h => (tlt (Int32.lt_iff_toInt_lt.mpr (by omega))).2.1⟩
theorem hs_gt {x y : Int32} {a b : Int} (ha : x.toInt = a) (hb : y.toInt = b) : (b < a → if_icmp.holds .gt x y = true) ∧ (¬ b < a → if_icmp.holds .gt x y = false) := by subst ha hb; exact ⟨fun h => (tlt (Int32.lt_iff_toInt_lt.mpr h)).2.2.1, fun h => (flt (fun g => h (Int32.lt_iff_toInt_lt.mp g))).2.2.1⟩
theorem hs_le {x y : Int32} {a b : Int} (ha : x.toInt = a) (hb : y.toInt = b) : (a ≤ b → if_icmp.holds .le x y = true) ∧ (¬ a ≤ b → if_icmp.holds .le x y = false) := by subst ha hb; exact ⟨fun h => (flt (fun g => by have := Int32.lt_iff_toInt_lt.mp g; omega)).2.2.2, fun h => (tlt (Int32.lt_iff_toInt_lt.mpr (by omega))).2.2.2⟩
theorem hs_eq {x y : Int32} : (x = y → if_icmp.holds .eq x y = true) ∧ (¬ x = y → if_icmp.holds .eq x y = false) := ⟨fun h => (teq h).1, fun h => (feq h).1⟩
theorem hs_ne {x y : Int32} : (¬ x = y → if_icmp.holds .ne x y = true) ∧ (¬ ¬ x = y → if_icmp.holds .ne x y = false) := ⟨fun h => (feq h).2, fun h => (teq (Decidable.not_not.mp h)).2⟩
theorem hl_eq {x y : Int64} : (x = y → if_icmp.holds .eq (lcmpW x y) 0 = true) ∧ (¬ x = y → if_icmp.holds .eq (lcmpW x y) 0 = false) := ⟨fun h => (teq ((lw_eq x y).mpr h)).1, fun h => (feq (fun g => h ((lw_eq x y).mp g))).1⟩
theorem hl_ne {x y : Int64} : (¬ x = y → if_icmp.holds .ne (lcmpW x y) 0 = true) ∧ (¬ ¬ x = y → if_icmp.holds .ne (lcmpW x y) 0 = false) := ⟨fun h => (feq (fun g => h ((lw_eq x y).mp g))).2, fun h => (teq ((lw_eq x y).mpr (Decidable.not_not.mp h))).2⟩
theorem hl_lt {x y : Int64} {a b : Int} (ha : x.toInt = a) (hb : y.toInt = b) : (a < b → if_icmp.holds .lt (lcmpW x y) 0 = true) ∧ (¬ a < b → if_icmp.holds .lt (lcmpW x y) 0 = false) := by subst ha hb; exact ⟨fun h => (tlt ((lw_lt x y).mpr (Int64.lt_iff_toInt_lt.mpr h))).1, fun h => (flt (fun g => h (Int64.lt_iff_toInt_lt.mp ((lw_lt x y).mp g)))).1⟩
theorem hl_ge {x y : Int64} {a b : Int} (ha : x.toInt = a) (hb : y.toInt = b) : (b ≤ a → if_icmp.holds .ge (lcmpW x y) 0 = true) ∧ (¬ b ≤ a → if_icmp.holds .ge (lcmpW x y) 0 = false) := by subst ha hb; exact ⟨fun h => (flt (fun g => by have := Int64.lt_iff_toInt_lt.mp ((lw_lt x y).mp g); omega)).2.1, fun h => (tlt ((lw_lt x y).mpr (Int64.lt_iff_toInt_lt.mpr (by omega)))).2.1⟩
theorem hl_gt {x y : Int64} {a b : Int} (ha : x.toInt = a) (hb : y.toInt = b) : (b < a → if_icmp.holds .gt (lcmpW x y) 0 = true) ∧ (¬ b < a → if_icmp.holds .gt (lcmpW x y) 0 = false) := by subst ha hb; exact ⟨fun h => (tlt ((lw_gt x y).mpr (Int64.lt_iff_toInt_lt.mpr h))).2.2.1, fun h => (flt (fun g => h (Int64.lt_iff_toInt_lt.mp ((lw_gt x y).mp g)))).2.2.1⟩
theorem hl_le {x y : Int64} {a b : Int} (ha : x.toInt = a) (hb : y.toInt = b) : (a ≤ b → if_icmp.holds .le (lcmpW x y) 0 = true) ∧ (¬ a ≤ b → if_icmp.holds .le (lcmpW x y) 0 = false) := by subst ha hb; exact ⟨fun h => (flt (fun g => by have := Int64.lt_iff_toInt_lt.mp ((lw_gt x y).mp g); omega)).2.2.2, fun h => (tlt ((lw_gt x y).mpr (Int64.lt_iff_toInt_lt.mpr (by omega)))).2.2.2⟩
theorem o_ifnullY (S : St p l e R s m args below meth c Z own bytes ml n0 ret nm T h cells slots) {o : Int} (hd : decode bytes pc = .ok (.ifnull o, 3)) (ho : 0 ≤ (pc : Int) + o) (hq : ((pc : Int) + o).toNat = q) (k : Wp p e below PO T (mkF m q L st)) : Wp p e below PO T (mkF m pc L (.null :: st)) :=
  o_st S (fun t X hx hy r => XS.ifnullYes X hx rfl rfl (hb hy hd) rfl ho hq r) k
theorem o_ifnullN (S : St p l e R s m args below meth c Z own bytes ml n0 ret nm T h cells slots) {o : Int} {b : Addr} (hd : decode bytes pc = .ok (.ifnull o, 3)) (hq : pc + 3 = q) (k : Wp p e below PO T (mkF m q L st)) : Wp p e below PO T (mkF m pc L (.ref b :: st)) := by
  subst hq
  exact o_st S (fun t X hx hy r => XS.ifnullNo X hx rfl (hb hy hd) rfl r) k
theorem o_ifnonnullY (S : St p l e R s m args below meth c Z own bytes ml n0 ret nm T h cells slots) {o : Int} {b : Addr} (hd : decode bytes pc = .ok (.ifnonnull o, 3)) (ho : 0 ≤ (pc : Int) + o) (hq : ((pc : Int) + o).toNat = q) (k : Wp p e below PO T (mkF m q L st)) : Wp p e below PO T (mkF m pc L (.ref b :: st)) :=
  o_st S (fun t X hx hy r => XS.ifnonnullYes X hx rfl rfl (hb hy hd) rfl ho hq r) k
theorem o_ifnonnullN (S : St p l e R s m args below meth c Z own bytes ml n0 ret nm T h cells slots) {o : Int} (hd : decode bytes pc = .ok (.ifnonnull o, 3)) (hq : pc + 3 = q) (k : Wp p e below PO T (mkF m q L st)) : Wp p e below PO T (mkF m pc L (.null :: st)) := by
  subst hq
  exact o_st S (fun t X hx hy r => XS.ifnonnullNo X hx rfl (hb hy hd) rfl r) k
/-! returns -/
theorem o_ret {Q : Option Value → Heap → Prop} {w : Option Value} (S : St p l e R s m args below meth c Z own bytes ml n0 ret nm T h cells slots) {g : JFrame} (hv : meth.sig.returnType = none → w = none) (hc : cells ≤ R.cells) (hs : slots ≤ R.slots) (qq : Q w h)
    (hst : ∀ fs : List Frame, At T m c below → T.vm.method? m = some meth → p.tables.exec = Jvm.exec → c.code = bytes → (∀ locs, Stand p l e R s m args below meth c T locs cells slots → (∀ (f : JFrame) (acts : List Action), f.method = m → f.locked = none → f.entered = [] → (doReturn e (T.setTop f) acts w).1 = T.setFrames fs) → Steps p.tables e below (T.setTop g) (T.setFrames fs))) : Wp p e below (Po s n0 R Q) T g := by
  obtain ⟨locs, X, N, eT, hx, hZ, hown, hby, hml, hlk, hn, hrt, hnm⟩ := S
  obtain ⟨fs, hr, hrun, hended, hW, hsame⟩ := X.leave (v := w) hv hlk
  refine ⟨_, _, hst fs X.here X.method' hx hby locs X hr, hrun, hended, _, _, rfl, ⟨?_, N⟩, ⟨_, rfl⟩, hW, hsame.mono hc hs⟩
  show Q w T.heap
  rw [eT]; exact qq
theorem o_retI {Q : Option Value → Heap → Prop} {z : Int32} (S : St p l e R s m args below meth c Z own bytes ml n0 ret nm T h cells slots) (hret : ret = some .int) (hd : decode bytes pc = .ok (.ireturn, 1)) (hc : cells ≤ R.cells) (hs : slots ≤ R.slots) (qq : Q (some (.int z)) h) : Wp p e below (Po s n0 R Q) T (mkF m pc L (.int z :: st)) := by
  have hrt : meth.sig.returnType = some .int := by obtain ⟨locs, X, N, eT, hx, hZ, hown, hby, hml, hlk, hn, hrt, hnm⟩ := S; rw [hrt, hret]
  refine o_ret S (w := some (.int z)) (fun h => by rw [hrt] at h; cases h) hc hs qq fun fs hA hm hx hby locs X hr => ?_
  exact retOut X hx hrt rfl (Or.inl ⟨rfl, Or.inl rfl, z, rfl⟩) (hb hby hd) hr
theorem o_retN {Q : Option Value → Heap → Prop} {z : Int32} {t : FieldType} (S : St p l e R s m args below meth c Z own bytes ml n0 ret nm T h cells slots) (hret : ret = some t) (ht : t = .boolean ∨ t = .byte ∨ t = .char ∨ t = .short) (hd : decode bytes pc = .ok (.ireturn, 1)) (hc : cells ≤ R.cells) (hs : slots ≤ R.slots) (hn : narrow t (.int z) = .int z) (qq : Q (some (.int z)) h) : Wp p e below (Po s n0 R Q) T (mkF m pc L (.int z :: st)) := by
  have hrt : meth.sig.returnType = some t := by obtain ⟨locs, X, N, eT, hx, hZ, hown, hby, hml, hlk, hn, hrt, hnm⟩ := S; rw [hrt, hret]
  refine o_ret S (w := some (.int z)) (fun h => by rw [hrt] at h; cases h) hc hs qq fun fs hA hm hx hby locs X hr => ?_
  exact retOut X hx hrt hn (Or.inl ⟨rfl, Or.inr ht, z, rfl⟩) (hb hby hd) hr
theorem o_retJ {Q : Option Value → Heap → Prop} {z : Int64} (S : St p l e R s m args below meth c Z own bytes ml n0 ret nm T h cells slots) (hret : ret = some .long) (hd : decode bytes pc = .ok (.lreturn, 1)) (hc : cells ≤ R.cells) (hs : slots ≤ R.slots) (qq : Q (some (.long z)) h) : Wp p e below (Po s n0 R Q) T (mkF m pc L (.long z :: st)) := by
  have hrt : meth.sig.returnType = some .long := by obtain ⟨locs, X, N, eT, hx, hZ, hown, hby, hml, hlk, hn, hrt, hnm⟩ := S; rw [hrt, hret]
  refine o_ret S (w := some (.long z)) (fun h => by rw [hrt] at h; cases h) hc hs qq fun fs hA hm hx hby locs X hr => ?_
  exact retOut X hx hrt rfl (Or.inr (Or.inl ⟨rfl, rfl, z, rfl⟩)) (hb hby hd) hr
theorem o_retR {Q : Option Value → Heap → Prop} {z : Value} {t : FieldType} (S : St p l e R s m args below meth c Z own bytes ml n0 ret nm T h cells slots) (hret : ret = some t) (ht : t.isReference = true) (hz : z.isRef = true) (hn : narrow t z = z) (hd : decode bytes pc = .ok (.areturn, 1)) (hc : cells ≤ R.cells) (hs : slots ≤ R.slots) (qq : Q (some z) h) : Wp p e below (Po s n0 R Q) T (mkF m pc L (z :: st)) := by
  have hrt : meth.sig.returnType = some t := by obtain ⟨locs, X, N, eT, hx, hZ, hown, hby, hml, hlk, hn, hrt, hnm⟩ := S; rw [hrt, hret]
  refine o_ret S (w := some z) (fun h => by rw [hrt] at h; cases h) hc hs qq fun fs hA hm hx hby locs X hr => ?_
  exact retOut X hx hrt hn (Or.inr (Or.inr (Or.inr (Or.inr ⟨rfl, ht, hz⟩)))) (hb hby hd) hr
theorem o_retV {Q : Option Value → Heap → Prop} (S : St p l e R s m args below meth c Z own bytes ml n0 ret nm T h cells slots) (hret : ret = none) (hd : decode bytes pc = .ok (.return_, 1)) (hc : cells ≤ R.cells) (hs : slots ≤ R.slots) (qq : Q none h) : Wp p e below (Po s n0 R Q) T (mkF m pc L []) := by
  have hrt : meth.sig.returnType = none := by obtain ⟨locs, X, N, eT, hx, hZ, hown, hby, hml, hlk, hn, hrt, hnm⟩ := S; rw [hrt, hret]
  exact o_ret S (w := none) (fun _ => rfl) hc hs qq fun fs hA hm hx hby locs X hr => X.returnOut hx hrt (hb hby hd) hr

/-! calls -/
theorem o_cut {A B : Prop} (k2 : A → B) (k1 : A) : B := k2 k1
theorem o_cutS {B : Prop} (S : St p l e R s m args below meth c Z own bytes ml n0 ret nm T h cells slots) {G : State → Prop} (k2 : (∀ T', St p l e R s m args below meth c Z own bytes ml n0 ret nm T' h cells slots → G T') → B) (k1 : ∀ T', St p l e R s m args below meth c Z own bytes ml n0 ret nm T' h cells slots → G T') : B := k2 k1
def Qp (r : Option Value) (h0 : Heap) : Option Value → Heap → Prop := fun v h => v = r ∧ h = h0
theorem o_si {a b : Int32} (h : a = b) : some (Value.int a) = some (Value.int b) := by rw [h]
theorem o_sj {a b : Int64} (h : a = b) : some (Value.long a) = some (Value.long b) := by rw [h]
theorem o_callS (S : St p l e R s m args below meth c Z own bytes ml n0 ret nm T h cells slots) {i : Nat} {y : MethodName} {bytes' : ByteArray} {maxL : Nat} {ret' : Option FieldType} {rm : Room} {W : Nat} {argsL rest : List Value} {Q : Option Value → Heap → Prop} {ps : List FieldType} {r' : Option FieldType}
    (w1 : (Jvm.Cond.methodLink own i y).before a0 Z = true) (w2 : (Jvm.Cond.static y).before a0 Z = true) (w3 : (Jvm.Cond.initialized y.cls).before a0 Z = true) (w4 : (Jvm.Cond.code y bytes' maxL ret').before a0 Z = true) (hy : y.cls ≠ "java/lang/invoke/MethodHandle" ∧ y.cls ≠ "java/lang/invoke/VarHandle")
    (K : Ct l y bytes' maxL ret' [] rm Z h n0 argsL.toArray Q) (hf : rm.frames + 1 ≤ R.frames) (hl : W + (maxL + 11) + rm.locals ≤ R.locals) (hL : L.size = ml) (hst : st = argsL.reverse ++ rest) (hsig : parseMethodDescriptor y.desc = some ⟨ps, r'⟩) (hlen : argsL.length = ps.length) (hW : (rest.map fun v => v.category).sum ≤ W)
    (hd : decode bytes pc = .ok (.invokestatic i, 3)) (hq : pc + 3 = q) (hc : cells + rm.cells ≤ R.cells) (hs : slots + rm.slots ≤ R.slots) (k : ∀ T' h' v, St p l e R s m args below meth c Z own bytes ml n0 ret nm T' h' (cells + rm.cells) (slots + rm.slots) → Q v h' → Wp p e below PO T' (mkF m q L (v.toList ++ rest))) : Wp p e below PO T (mkF m pc L st) := by
  subst hq
  obtain ⟨locs, X, N, eT, hx, hZ, hown, hby, hml, hlk, hn, hrt, hnm⟩ := S
  have hb0 := backOf (R := R) (s := s) (p := p) (e := e) (below := below) (args := args) (len := 3) (W := W) (Q := fun v h L => Q v h ∧ Fr n0 L) K hZ w4 w3 hf hl
  obtain ⟨v, vm, ⟨T', L', k', n'⟩, hwm, X', ⟨Lc, hQ, l1, y1, z1⟩, st1⟩ := Jvm.LawKit.callS X hx (y := y) hown (mvT hZ w1) (mvT hZ w2) (mvT hZ w3) (mvT hZ w4) hy hb0 (g := mkF m pc L st) rfl (by rw [hml]; exact hL) (argsL := argsL) (rest := rest) (lenOf hsig hlen) hst (by show 2 * 0 + _ ≤ _; omega) (hb hby hd) (fun _ _ => ⟨rfl, eT, hc, hs⟩)
  dsimp only [Pt.U, Pt.locs, Pt.cells, Pt.slots] at X' l1 y1 z1 st1 hQ
  subst l1 y1 z1
  exact o_to st1 (k T' T'.heap v ⟨_, X', N.app hQ.2, rfl, hx, hZ, hown, hby, hml, hlk, hn, hrt, hnm⟩ hQ.1)
theorem o_callI (S : St p l e R s m args below meth c Z own bytes ml n0 ret nm T h cells slots) {i : Nat} {y : MethodName} {bytes' : ByteArray} {maxL : Nat} {rm : Room} {W : Nat} {argsL rest : List Value} {Q : Option Value → Heap → Prop} {ps : List FieldType} {r' : Option FieldType} {a : Addr} (hy1 : y.name = "<init>")
    (w1 : (Jvm.Cond.methodLink own i y).before a0 Z = true) (w2 : (Jvm.Cond.instanceMethod y).before a0 Z = true) (w3 : (Jvm.Cond.initialized y.cls).before a0 Z = true) (w4 : (Jvm.Cond.code y bytes' maxL none).before a0 Z = true) (hy : y.cls ≠ "java/lang/invoke/MethodHandle" ∧ y.cls ≠ "java/lang/invoke/VarHandle")
    (K : Ct l y bytes' maxL none [] rm Z h n0 (.ref a :: argsL).toArray Q) (hf : rm.frames + 1 ≤ R.frames) (hl : W + (maxL + 11) + rm.locals ≤ R.locals) (hL : L.size = ml) (hst : st = argsL.reverse ++ .ref a :: rest) (hsig : parseMethodDescriptor y.desc = some ⟨ps, r'⟩) (hlen : argsL.length = ps.length) (hW : (rest.map fun v => v.category).sum ≤ W)
    (hd : decode bytes pc = .ok (.invokespecial i, 3)) (hq : pc + 3 = q) (hc : cells + rm.cells ≤ R.cells) (hs : slots + rm.slots ≤ R.slots) (k : ∀ T' h' v, St p l e R s m args below meth c Z own bytes ml n0 ret nm T' h' (cells + rm.cells) (slots + rm.slots) → Q v h' → Wp p e below PO T' (mkF m q L (v.toList ++ rest))) : Wp p e below PO T (mkF m pc L st) := by
  subst hq
  obtain ⟨locs, X, N, eT, hx, hZ, hown, hby, hml, hlk, hn, hrt, hnm⟩ := S
  have hb0 := backOf (R := R) (s := s) (p := p) (e := e) (below := below) (args := args) (len := 3) (W := W) (Q := fun v h L => Q v h ∧ Fr n0 L) K hZ w4 w3 hf hl
  obtain ⟨v, vm, ⟨T', L', k', n'⟩, hwm, X', ⟨Lc, hQ, l1, y1, z1⟩, st1⟩ := X.specialBack hx (y := y) hy1 hown (mvT hZ w1) (mvT hZ w2) (mvT hZ w4) hy hb0 (g := mkF m pc L st) rfl (by rw [hml]; exact hL) (Steps.refl _) (a := a) (argsL := argsL) (rest := rest) (lenOf hsig hlen) hst (by show 2 * 0 + _ ≤ _; omega) (hb hby hd) (fun _ _ => ⟨rfl, eT, hc, hs⟩)
  dsimp only [Pt.U, Pt.locs, Pt.cells, Pt.slots] at X' l1 y1 z1 st1 hQ
  subst l1 y1 z1
  exact o_to (fun t r => st1.trans r) (k T' T'.heap v ⟨_, X', N.app hQ.2, rfl, hx, hZ, hown, hby, hml, hlk, hn, hrt, hnm⟩ hQ.1)
theorem o_callV (S : St p l e R s m args below meth c Z own bytes ml n0 ret nm T h cells slots) {i : Nat} {y : MethodName} {bytes' : ByteArray} {maxL : Nat} {ret' : Option FieldType} {rm : Room} {W : Nat} {argsL rest : List Value} {Q : Option Value → Heap → Prop} {ps : List FieldType} {r' : Option FieldType} {a : Addr} {z : MethodName} {C : String}
    (w1 : (Jvm.Cond.methodLink own i y).before a0 Z = true) (w2 : (Jvm.Cond.declares y).before a0 Z = true) (w5 : (Jvm.Cond.selects C y z).before a0 Z = true) (w6 : (Jvm.Cond.instanceMethod z).before a0 Z = true) (w3 : (Jvm.Cond.initialized z.cls).before a0 Z = true) (w4 : (Jvm.Cond.code z bytes' maxL ret').before a0 Z = true) (nf : ∀ s' : State, Z.Warmed39 s'.vm → NotFace s' y) (hy : y.cls ≠ "java/lang/invoke/MethodHandle" ∧ y.cls ≠ "java/lang/invoke/VarHandle")
    (E : Exa Z h a C) (K : Ct l z bytes' maxL ret' [] rm Z h n0 (.ref a :: argsL).toArray Q) (hf : rm.frames + 1 ≤ R.frames) (hl : W + (maxL + 11) + rm.locals ≤ R.locals) (hL : L.size = ml) (hst : st = argsL.reverse ++ .ref a :: rest) (hsig : parseMethodDescriptor y.desc = some ⟨ps, r'⟩) (hlen : argsL.length = ps.length) (hW : (rest.map fun v => v.category).sum ≤ W)
    (hd : decode bytes pc = .ok (.invokevirtual i, 3)) (hq : pc + 3 = q) (hc : cells + rm.cells ≤ R.cells) (hs : slots + rm.slots ≤ R.slots) (k : ∀ T' h' v, St p l e R s m args below meth c Z own bytes ml n0 ret nm T' h' (cells + rm.cells) (slots + rm.slots) → Q v h' → Wp p e below PO T' (mkF m q L (v.toList ++ rest))) : Wp p e below PO T (mkF m pc L st) := by
  subst hq
  obtain ⟨locs, X, N, eT, hx, hZ, hown, hby, hml, hlk, hn, hrt, hnm⟩ := S
  have hb0 := backOf (R := R) (s := s) (p := p) (e := e) (below := below) (args := args) (len := 3) (W := W) (Q := fun v h L => Q v h ∧ Fr n0 L) K hZ w4 w3 hf hl
  obtain ⟨cq, kq, qa, qb, qc⟩ := isOf hZ eT E
  obtain ⟨v, vm, ⟨T', L', k', n'⟩, hwm, X', ⟨Lc, hQ, l1, y1, z1⟩, st1⟩ := X.virtualBack hx (y := y) (z := z) hown (mvT hZ w1) (mvT hZ w2) (nf s hZ) (mvT hZ w5) (mvT hZ w6) hy hb0 qa qc (g := mkF m pc L st) rfl (by rw [hml]; exact hL) (Steps.refl _) (argsL := argsL) (rest := rest) (lenOf hsig hlen) hst (by show 2 * 0 + _ ≤ _; omega) (hb hby hd) (fun _ _ => ⟨rfl, eT, hc, hs⟩)
  dsimp only [Pt.U, Pt.locs, Pt.cells, Pt.slots] at X' l1 y1 z1 st1 hQ
  subst l1 y1 z1
  exact o_to (fun t r => st1.trans r) (k T' T'.heap v ⟨_, X', N.app hQ.2, rfl, hx, hZ, hown, hby, hml, hlk, hn, hrt, hnm⟩ hQ.1)
theorem o_nf {y : MethodName} {C : String} (w : (Jvm.Cond.selects C y y).before a0 Z = true) : ∀ s' : State, Z.Warmed39 s'.vm → NotFace s' y := fun s' hZ => notFace_of_selects (args := #[]) (mvT hZ w)
theorem o_callP (S : St p l e R s m args below meth c Z own bytes ml n0 ret nm T h cells slots) {i : Nat} {y : MethodName} {bytes' : ByteArray} {maxL : Nat} {ret' : Option FieldType} {rm : Room} {W : Nat} {argsL rest : List Value} {Q : Option Value → Heap → Prop} {ps : List FieldType} {r' : Option FieldType} {a : Addr}
    (w1 : (Jvm.Cond.methodLink own i y).before a0 Z = true) (w2 : (Jvm.Cond.instanceMethod y).before a0 Z = true) (w5 : (Jvm.Cond.selects y.cls y y).before a0 Z = true) (w6 : (Jvm.Cond.privateMethod y).before a0 Z = true) (w3 : (Jvm.Cond.initialized y.cls).before a0 Z = true) (w4 : (Jvm.Cond.code y bytes' maxL ret').before a0 Z = true) (hy : y.cls ≠ "java/lang/invoke/MethodHandle" ∧ y.cls ≠ "java/lang/invoke/VarHandle")
    (E : Exa Z h a y.cls) (K : Ct l y bytes' maxL ret' [] rm Z h n0 (.ref a :: argsL).toArray Q) (hf : rm.frames + 1 ≤ R.frames) (hl : W + (maxL + 11) + rm.locals ≤ R.locals) (hL : L.size = ml) (hst : st = argsL.reverse ++ .ref a :: rest) (hsig : parseMethodDescriptor y.desc = some ⟨ps, r'⟩) (hlen : argsL.length = ps.length) (hW : (rest.map fun v => v.category).sum ≤ W)
    (hd : decode bytes pc = .ok (.invokevirtual i, 3)) (hq : pc + 3 = q) (hc : cells + rm.cells ≤ R.cells) (hs : slots + rm.slots ≤ R.slots) (k : ∀ T' h' v, St p l e R s m args below meth c Z own bytes ml n0 ret nm T' h' (cells + rm.cells) (slots + rm.slots) → Q v h' → Wp p e below PO T' (mkF m q L (v.toList ++ rest))) : Wp p e below PO T (mkF m pc L st) := by
  subst hq
  obtain ⟨locs, X, N, eT, hx, hZ, hown, hby, hml, hlk, hn, hrt, hnm⟩ := S
  have hb0 := backOf (R := R) (s := s) (p := p) (e := e) (below := below) (args := args) (len := 3) (W := W) (Q := fun v h L => Q v h ∧ Fr n0 L) K hZ w4 w3 hf hl
  obtain ⟨cq, qa, qb⟩ := E.cell
  obtain ⟨v, vm, ⟨T', L', k', n'⟩, hwm, X', ⟨Lc, hQ, l1, y1, z1⟩, st1⟩ := X.privateBack hx (y := y) hown (mvT hZ w1) (mvT hZ w2) (mvT hZ w5) (Cond.privateMethod_at (mvP hZ w6 (args := #[]))) (mvT hZ w4) hy hb0 (g := mkF m pc L st) rfl (by rw [hml]; exact hL) (Steps.refl _) (a := a) (by rw [eT]; exact qa) qb (argsL := argsL) (rest := rest) (lenOf hsig hlen) hst (by show 2 * 0 + _ ≤ _; omega) (hb hby hd) (fun _ _ => ⟨rfl, eT, hc, hs⟩)
  dsimp only [Pt.U, Pt.locs, Pt.cells, Pt.slots] at X' l1 y1 z1 st1 hQ
  subst l1 y1 z1
  exact o_to (fun t r => st1.trans r) (k T' T'.heap v ⟨_, X', N.app hQ.2, rfl, hx, hZ, hown, hby, hml, hlk, hn, hrt, hnm⟩ hQ.1)
theorem o_callS0 (S : St p l e R s m args below meth c Z own bytes ml n0 ret nm T h cells slots) {i : Nat} {y : MethodName} {bytes' : ByteArray} {maxL : Nat} {ret' : Option FieldType} {rm : Room} {W : Nat} {argsL rest : List Value} {ps : List FieldType} {r' : Option FieldType} {st' : List Value} {r : Option Value} 
    (w1 : (Jvm.Cond.methodLink own i y).before a0 Z = true) (w2 : (Jvm.Cond.static y).before a0 Z = true) (w3 : (Jvm.Cond.initialized y.cls).before a0 Z = true) (w4 : (Jvm.Cond.code y bytes' maxL ret').before a0 Z = true) (hy : y.cls ≠ "java/lang/invoke/MethodHandle" ∧ y.cls ≠ "java/lang/invoke/VarHandle")
    (K : Ct l y bytes' maxL ret' [] rm Z h n0 argsL.toArray (Qp r h)) (hf : rm.frames + 1 ≤ R.frames) (hl : W + (maxL + 11) + rm.locals ≤ R.locals) (hL : L.size = ml) (hst : st = argsL.reverse ++ rest) (hsig : parseMethodDescriptor y.desc = some ⟨ps, r'⟩) (hlen : argsL.length = ps.length) (hW : (rest.map fun v => v.category).sum ≤ W)
    (hd : decode bytes pc = .ok (.invokestatic i, 3)) (hq : pc + 3 = q) (hc : cells + rm.cells ≤ R.cells) (hs : slots + rm.slots ≤ R.slots) (hst' : r.toList ++ rest = st') (k : ∀ T', St p l e R s m args below meth c Z own bytes ml n0 ret nm T' h (cells + rm.cells) (slots + rm.slots) → Wp p e below PO T' (mkF m q L st')) : Wp p e below PO T (mkF m pc L st) := by
  subst hst'
  exact o_callS S w1 w2 w3 w4 hy K hf hl hL hst hsig hlen hW hd hq hc hs (fun T' h' v S' hQ => by obtain ⟨hv, hh⟩ := hQ; subst hv; rw [hh] at S'; exact k T' S')
theorem o_callI0 (S : St p l e R s m args below meth c Z own bytes ml n0 ret nm T h cells slots) {i : Nat} {y : MethodName} {bytes' : ByteArray} {maxL : Nat} {rm : Room} {W : Nat} {argsL rest : List Value} {ps : List FieldType} {r' : Option FieldType} {st' : List Value} {r : Option Value} {a : Addr} (hy1 : y.name = "<init>")
    (w1 : (Jvm.Cond.methodLink own i y).before a0 Z = true) (w2 : (Jvm.Cond.instanceMethod y).before a0 Z = true) (w3 : (Jvm.Cond.initialized y.cls).before a0 Z = true) (w4 : (Jvm.Cond.code y bytes' maxL none).before a0 Z = true) (hy : y.cls ≠ "java/lang/invoke/MethodHandle" ∧ y.cls ≠ "java/lang/invoke/VarHandle")
    (K : Ct l y bytes' maxL none [] rm Z h n0 (.ref a :: argsL).toArray (Qp r h)) (hf : rm.frames + 1 ≤ R.frames) (hl : W + (maxL + 11) + rm.locals ≤ R.locals) (hL : L.size = ml) (hst : st = argsL.reverse ++ .ref a :: rest) (hsig : parseMethodDescriptor y.desc = some ⟨ps, r'⟩) (hlen : argsL.length = ps.length) (hW : (rest.map fun v => v.category).sum ≤ W)
    (hd : decode bytes pc = .ok (.invokespecial i, 3)) (hq : pc + 3 = q) (hc : cells + rm.cells ≤ R.cells) (hs : slots + rm.slots ≤ R.slots) (hst' : r.toList ++ rest = st') (k : ∀ T', St p l e R s m args below meth c Z own bytes ml n0 ret nm T' h (cells + rm.cells) (slots + rm.slots) → Wp p e below PO T' (mkF m q L st')) : Wp p e below PO T (mkF m pc L st) := by
  subst hst'
  exact o_callI S hy1 w1 w2 w3 w4 hy K hf hl hL hst hsig hlen hW hd hq hc hs (fun T' h' v S' hQ => by obtain ⟨hv, hh⟩ := hQ; subst hv; rw [hh] at S'; exact k T' S')
theorem o_callV0 (S : St p l e R s m args below meth c Z own bytes ml n0 ret nm T h cells slots) {i : Nat} {y : MethodName} {bytes' : ByteArray} {maxL : Nat} {ret' : Option FieldType} {rm : Room} {W : Nat} {argsL rest : List Value} {ps : List FieldType} {r' : Option FieldType} {st' : List Value} {r : Option Value} {a : Addr} {z : MethodName} {C : String}
    (w1 : (Jvm.Cond.methodLink own i y).before a0 Z = true) (w2 : (Jvm.Cond.declares y).before a0 Z = true) (w5 : (Jvm.Cond.selects C y z).before a0 Z = true) (w6 : (Jvm.Cond.instanceMethod z).before a0 Z = true) (w3 : (Jvm.Cond.initialized z.cls).before a0 Z = true) (w4 : (Jvm.Cond.code z bytes' maxL ret').before a0 Z = true) (nf : ∀ s' : State, Z.Warmed39 s'.vm → NotFace s' y) (hy : y.cls ≠ "java/lang/invoke/MethodHandle" ∧ y.cls ≠ "java/lang/invoke/VarHandle")
    (E : Exa Z h a C) (K : Ct l z bytes' maxL ret' [] rm Z h n0 (.ref a :: argsL).toArray (Qp r h)) (hf : rm.frames + 1 ≤ R.frames) (hl : W + (maxL + 11) + rm.locals ≤ R.locals) (hL : L.size = ml) (hst : st = argsL.reverse ++ .ref a :: rest) (hsig : parseMethodDescriptor y.desc = some ⟨ps, r'⟩) (hlen : argsL.length = ps.length) (hW : (rest.map fun v => v.category).sum ≤ W)
    (hd : decode bytes pc = .ok (.invokevirtual i, 3)) (hq : pc + 3 = q) (hc : cells + rm.cells ≤ R.cells) (hs : slots + rm.slots ≤ R.slots) (hst' : r.toList ++ rest = st') (k : ∀ T', St p l e R s m args below meth c Z own bytes ml n0 ret nm T' h (cells + rm.cells) (slots + rm.slots) → Wp p e below PO T' (mkF m q L st')) : Wp p e below PO T (mkF m pc L st) := by
  subst hst'
  exact o_callV S w1 w2 w5 w6 w3 w4 nf hy E K hf hl hL hst hsig hlen hW hd hq hc hs (fun T' h' v S' hQ => by obtain ⟨hv, hh⟩ := hQ; subst hv; rw [hh] at S'; exact k T' S')
theorem o_callP0 (S : St p l e R s m args below meth c Z own bytes ml n0 ret nm T h cells slots) {i : Nat} {y : MethodName} {bytes' : ByteArray} {maxL : Nat} {ret' : Option FieldType} {rm : Room} {W : Nat} {argsL rest : List Value} {ps : List FieldType} {r' : Option FieldType} {st' : List Value} {r : Option Value} {a : Addr}
    (w1 : (Jvm.Cond.methodLink own i y).before a0 Z = true) (w2 : (Jvm.Cond.instanceMethod y).before a0 Z = true) (w5 : (Jvm.Cond.selects y.cls y y).before a0 Z = true) (w6 : (Jvm.Cond.privateMethod y).before a0 Z = true) (w3 : (Jvm.Cond.initialized y.cls).before a0 Z = true) (w4 : (Jvm.Cond.code y bytes' maxL ret').before a0 Z = true) (hy : y.cls ≠ "java/lang/invoke/MethodHandle" ∧ y.cls ≠ "java/lang/invoke/VarHandle")
    (E : Exa Z h a y.cls) (K : Ct l y bytes' maxL ret' [] rm Z h n0 (.ref a :: argsL).toArray (Qp r h)) (hf : rm.frames + 1 ≤ R.frames) (hl : W + (maxL + 11) + rm.locals ≤ R.locals) (hL : L.size = ml) (hst : st = argsL.reverse ++ .ref a :: rest) (hsig : parseMethodDescriptor y.desc = some ⟨ps, r'⟩) (hlen : argsL.length = ps.length) (hW : (rest.map fun v => v.category).sum ≤ W)
    (hd : decode bytes pc = .ok (.invokevirtual i, 3)) (hq : pc + 3 = q) (hc : cells + rm.cells ≤ R.cells) (hs : slots + rm.slots ≤ R.slots) (hst' : r.toList ++ rest = st') (k : ∀ T', St p l e R s m args below meth c Z own bytes ml n0 ret nm T' h (cells + rm.cells) (slots + rm.slots) → Wp p e below PO T' (mkF m q L st')) : Wp p e below PO T (mkF m pc L st) := by
  subst hst'
  exact o_callP S w1 w2 w5 w6 w3 w4 hy E K hf hl hL hst hsig hlen hW hd hq hc hs (fun T' h' v S' hQ => by obtain ⟨hv, hh⟩ := hQ; subst hv; rw [hh] at S'; exact k T' S')
/-! the heap -/
theorem o_initO (S : St p l e R s m args below meth c Z own bytes ml n0 ret nm T h cells slots) {i W : Nat} {a : Addr} (w1 : (Jvm.Cond.methodLink own i Lib.objectInit).before a0 Z = true) (w2 : (Jvm.Cond.instanceMethod Lib.objectInit).before a0 Z = true) (w3 : (Jvm.Cond.code Lib.objectInit ⟨#[0xb1]⟩ 1 none).before a0 Z = true) (hL : L.size = ml) (hd : decode bytes pc = .ok (.invokespecial i, 3)) (hq : pc + 3 = q) (hf : 1 ≤ R.frames) (hW : (st.map fun v => v.category).sum ≤ W) (hl : W + 12 ≤ R.locals)
    (k : ∀ T', St p l e R s m args below meth c Z own bytes ml n0 ret nm T' h cells slots → Wp p e below PO T' (mkF m q L st)) : Wp p e below PO T (mkF m pc L (.ref a :: st)) := by
  subst hq
  obtain ⟨locs, X, N, eT, hx, hZ, hown, hby, hml, hlk, hn, hrt, hnm⟩ := S
  obtain ⟨T', X', e', st'⟩ := initO X hx hZ hown w1 w2 w3 eT (g := mkF m pc L (.ref a :: st)) rfl (by rw [hml]; exact hL) rfl (hb hby hd) hf (W := W) (by show 2 * 0 + _ ≤ _; omega) hl
  exact o_to st' (k T' ⟨_, X', N, e', hx, hZ, hown, hby, hml, hlk, hn, hrt, hnm⟩)
theorem o_getF (S : St p l e R s m args below meth c Z own bytes ml n0 ret nm T h cells slots) {i : Nat} {R0 O n d : String} {a : Addr} {v : Value} (w : (Jvm.Cond.fieldLink own i R0 n d).before a0 Z = true) (via : Via Z R0 O n d) (F : Fld Z h a O n d v) (hd : decode bytes pc = .ok (.getfield i, 3)) (hq : pc + 3 = q)
    (k : ∀ T', St p l e R s m args below meth c Z own bytes ml n0 ret nm T' h cells slots → Wp p e below PO T' (mkF m q L (v :: st))) : Wp p e below PO T (mkF m pc L (.ref a :: st)) := by
  subst hq
  obtain ⟨locs, X, N, eT, hx, hZ, hown, hby, hml, hlk, hn, hrt, hnm⟩ := S
  obtain ⟨T', X', e', st'⟩ := getF X hx hZ hown (host := "") (Or.inl w) via eT F (g := mkF m pc L (.ref a :: st)) rfl rfl (hb hby hd)
  exact o_to st' (k T' ⟨_, X', N, e', hx, hZ, hown, hby, hml, hlk, hn, hrt, hnm⟩)
theorem o_putF (S : St p l e R s m args below meth c Z own bytes ml n0 ret nm T h cells slots) {i kk : Nat} {R0 O n d C : String} {ty : FieldType} {a : Addr} {v old : Value} (w : (Jvm.Cond.fieldLink own i R0 n d).before a0 Z = true) (via : Via Z R0 O n d) (F : Fld Z h a O n d old) (E : Exa Z h a C) (Lw : (Jvm.Cond.lays C O n d).before a0 Z = true ∨ ((Jvm.Cond.laysFinal C O n d).before a0 Z = true ∧ own = O ∧ nm = "<init>")) (wi : (Jvm.Cond.instantiable C kk).before a0 Z = true) (hty : parseFieldDescriptor d = some ty) (hn' : narrow ty v = v) (hf : fits ty v = true) (ga : n0 ≤ a) (hd : decode bytes pc = .ok (.putfield i, 3)) (hq : pc + 3 = q)
    (k : ∀ T' h', St p l e R s m args below meth c Z own bytes ml n0 ret nm T' h' cells slots → Wr h h' a (Jvm.RoadKit.slotOf Z O n d) v → Fld Z h' a O n d v → Wp p e below PO T' (mkF m q L st)) : Wp p e below PO T (mkF m pc L (v :: .ref a :: st)) := by
  subst hq
  obtain ⟨locs, X, N, eT, hx, hZ, hown, hby, hml, hlk, hn, hrt, hnm⟩ := S
  obtain ⟨T', h', X', e', W', st'⟩ := putF X hx hZ hown (host := "") (Or.inl w) via eT F E (Lw.imp id fun q => ⟨q.1, q.2.1, by rw [hnm]; exact q.2.2⟩) wi hty hn' hf (g := mkF m pc L (v :: .ref a :: st)) rfl rfl (hb hby hd)
  exact o_to st' (k T' h' ⟨_, X', Fr.snoc X' N ga, e', hx, hZ, hown, hby, hml, hlk, hn, hrt, hnm⟩ W' (F.same W'))
theorem o_new (S : St p l e R s m args below meth c Z own bytes ml n0 ret nm T h cells slots) {i n : Nat} {C : String} (w : (Jvm.Cond.classLink own i C).before a0 Z = true) (wi : (Jvm.Cond.instantiable C n).before a0 Z = true) (wz : (Jvm.Cond.initialized C).before a0 Z = true) (hd : decode bytes pc = .ok (.new i, 3)) (hq : pc + 3 = q) (hc : cells + 1 ≤ R.cells) (hl : slots + n ≤ R.slots)
    (k : ∀ T' h' a, St p l e R s m args below meth c Z own bytes ml n0 ret nm T' h' (cells + 1) (slots + n) → a = h.size → n0 ≤ a → Ext h h' → Exa Z h' a C → (∀ {O nm d : String} {ty : FieldType}, Laid Z a0 C O nm d → parseFieldDescriptor d = some ty → Fld Z h' a O nm d (defaultValue ty)) → Wp p e below PO T' (mkF m q L (.ref a :: st))) : Wp p e below PO T (mkF m pc L st) := by
  have g0 := o_n0 S
  subst hq
  obtain ⟨locs, X, N, eT, hx, hZ, hown, hby, hml, hlk, hn, hrt, hnm⟩ := S
  obtain ⟨T', h', X', e', E', A', D', -, st'⟩ := newO X hx hZ hown w wi wz eT (g := mkF m pc L st) rfl (hb hby hd) hc hl
  exact o_to st' (k T' h' h.size ⟨_, X', N, e', hx, hZ, hown, hby, hml, hlk, hn, hrt, hnm⟩ rfl g0 E' A' D')
/-! arrays of ints (bytes, booleans ..): the list of what they hold -/
def IA (Z : State) (h : Heap) (a : Addr) (ty : FieldType) (xs : List Int32) : Prop := ∃ c : Cell, Arr Z h a c ty ∧ c.slots.size = xs.length ∧ xs.length < 2147483648 ∧ (∀ i, i < xs.length → c.slots[i]? = some (.int (xs.getD i 0))) ∧ ∀ i, i < xs.length → fits ty (.int (xs.getD i 0)) = true
theorem IA.lt {a : Addr} {ty : FieldType} {xs : List Int32} (F : IA Z h a ty xs) : a < h.size := by obtain ⟨c, A, -⟩ := F; exact A.lt
theorem IA.ext {h' : Heap} {a : Addr} {ty : FieldType} {xs : List Int32} (F : IA Z h a ty xs) (E : Ext h h') : IA Z h' a ty xs := by obtain ⟨c, A, r⟩ := F; exact ⟨c, A.ext E, r⟩
theorem IA.other {h' : Heap} {a b : Addr} {sl : Nat} {v : Value} {ty : FieldType} {xs : List Int32} (F : IA Z h b ty xs) (W : Wr h h' a sl v) (q : b ≠ a) : IA Z h' b ty xs := by obtain ⟨c, A, r⟩ := F; exact ⟨c, A.other W q, r⟩
theorem IA.keep {h' : Heap} {a : Addr} {ws : List Addr} {ty : FieldType} {xs : List Int32} (F : IA Z h a ty xs) (K : Keep h h' ws) (q : a ∉ ws) : IA Z h' a ty xs := by obtain ⟨c, A, r⟩ := F; exact ⟨c, ⟨K.2.1 a c A.1 q, A.2⟩, r⟩
theorem IA.len {a : Addr} {ty : FieldType} {xs : List Int32} (F : IA Z h a ty xs) : xs.length < 2147483648 := by obtain ⟨c, A, h1, h2, -⟩ := F; exact h2
theorem o_nat {j : Int32} (h0 : 0 ≤ j.toInt) : ¬ j < 0 ∧ (j.toNatClampNeg : Int) = j.toInt := by
  have h1 : ¬ j < 0 := fun q => by have := Int32.lt_iff_toInt_lt.mp q; have : (0 : Int32).toInt = 0 := rfl; omega
  exact ⟨h1, (nat_of h1).symm⟩
theorem o_inb {j : Int32} {n N : Nat} (h0 : 0 ≤ j.toInt) (h1 : j.toInt < n) (hN : N = n) : ¬ (j < 0 ∨ N ≤ j.toNatClampNeg) := by
  obtain ⟨g1, g2⟩ := o_nat h0
  rintro (q | q)
  · exact g1 q
  · omega
theorem IA.set {h' : Heap} {a : Addr} {ty : FieldType} {xs : List Int32} {j x : Int32} (F : IA Z h a ty xs) (W : Wr h h' a j.toNatClampNeg (.int x)) (hf : fits ty (.int x) = true) : IA Z h' a ty (xs.set j.toNatClampNeg x) := by
  obtain ⟨c, A, h1, h2, h3, h4⟩ := F
  refine ⟨c.setSlot j.toNatClampNeg (.int x), A.same W, by rw [sz_set, h1]; simp, by simpa using h2, fun i hi => ?_, fun i hi => ?_⟩
  · rw [List.length_set] at hi
    by_cases q : j.toNatClampNeg = i
    · subst q
      have : j.toNatClampNeg < c.slots.size := by rw [h1]; exact hi
      simp [Cell.setSlot, this, hi, List.getD_eq_getElem?_getD]
    · have := h3 i hi
      simp only [Cell.setSlot, Array.getElem?_setIfInBounds_ne q, this, List.getD_eq_getElem?_getD, List.getElem?_set_ne q]
  · rw [List.length_set] at hi
    by_cases q : j.toNatClampNeg = i
    · subst q; simpa [hi, List.getD_eq_getElem?_getD] using hf
    · have := h4 i hi
      simpa only [List.getD_eq_getElem?_getD, List.getElem?_set_ne q] using this
theorem IA.new {a : Addr} {ty : FieldType} {k : ClassId} {n : Int32} (A : Arr Z h a (newA k ty n) ty) (hn : ¬ n < 0) (hd : defaultValue ty = .int 0) (hf : fits ty (.int 0) = true) : IA Z h a ty (List.replicate n.toNatClampNeg 0) := by
  have := (back32 hn).2
  refine ⟨_, A, by simp [newA], by simpa using this, fun i hi => ?_, fun i hi => ?_⟩
  · have hi' : i < n.toNatClampNeg := by simpa using hi
    simp [newA, hd, hi', List.getD_eq_getElem?_getD]
  · have hi' : i < n.toNatClampNeg := by simpa using hi
    simpa [List.getD_eq_getElem?_getD, hi'] using hf
theorem o_newarr (S : St p l e R s m args below meth c Z own bytes ml n0 ret nm T h cells slots) {aty : ArrayType} {n : Int32} {cap : Nat} (w : (Jvm.Cond.arrayClass (newarray.typeOf aty)).before a0 Z = true) (hd : decode bytes pc = .ok (.newarray aty, 2)) (hq : pc + 2 = q) (hn0 : 0 ≤ n.toInt) (hcap : n.toInt ≤ cap) (hb8 : cap * 8 ≤ 536870912) (hc : cells + 1 ≤ R.cells) (hl : slots + cap ≤ R.slots)
    (k : ∀ T' h' a cA, St p l e R s m args below meth c Z own bytes ml n0 ret nm T' h' (cells + 1) (slots + cap) → a = h.size → n0 ≤ a → Ext h h' → Arr Z h' a (newA cA (newarray.typeOf aty) n) (newarray.typeOf aty) → Wp p e below PO T' (mkF m q L (.ref a :: st))) : Wp p e below PO T (mkF m pc L (.int n :: st)) := by
  have g0 := o_n0 S
  obtain ⟨g1, g2⟩ := o_nat hn0
  subst hq
  obtain ⟨locs, X, N, eT, hx, hZ, hown, hby, hml, hlk, hn, hrt, hnm⟩ := S
  obtain ⟨T', h', cA, X', e', E', A', st'⟩ := newP X hx hZ w eT (g := mkF m pc L (.int n :: st)) rfl (hb hby hd) rfl g1 (cap := cap) (by omega) hb8 hc hl
  exact o_to st' (k T' h' h.size cA ⟨_, X', N, e', hx, hZ, hown, hby, hml, hlk, hn, hrt, hnm⟩ rfl g0 E' A')
theorem o_iaload (S : St p l e R s m args below meth c Z own bytes ml n0 ret nm T h cells slots) {a : Addr} {j v : Int32} {xs : List Int32} (F : IA Z h a .int xs) (h0 : 0 ≤ j.toInt) (h1 : j.toInt < xs.length) (hv : xs.getD j.toNatClampNeg 0 = v) (hd : decode bytes pc = .ok (.iaload, 1)) (hq : pc + 1 = q) (k : Wp p e below PO T (mkF m q L (.int v :: st))) : Wp p e below PO T (mkF m pc L (.int j :: .ref a :: st)) := by
  subst hq hv
  obtain ⟨locs, X, N, eT, hx, hZ, hown, hby, hml, hlk, hn, hrt, hnm⟩ := S
  obtain ⟨cl, A, g1, g2, g3, g4⟩ := F
  have g5 := (o_nat h0).2
  exact o_to (X.iaload hx (j := j) (by rw [eT]; exact A.1) (State.isArrayOf_alike hZ.alike A.2.1) A.2.2 (o_inb h0 h1 g1) (g3 _ (by omega)) (g := mkF m pc L (.int j :: .ref a :: st)) rfl rfl (hb hby hd)) k
theorem o_baload (S : St p l e R s m args below meth c Z own bytes ml n0 ret nm T h cells slots) {a : Addr} {j v : Int32} {xs : List Int32} (F : IA Z h a .byte xs) (h0 : 0 ≤ j.toInt) (h1 : j.toInt < xs.length) (hv : xs.getD j.toNatClampNeg 0 = v) (hd : decode bytes pc = .ok (.baload, 1)) (hq : pc + 1 = q) (k : Wp p e below PO T (mkF m q L (.int v :: st))) : Wp p e below PO T (mkF m pc L (.int j :: .ref a :: st)) := by
  subst hq hv
  obtain ⟨locs, X, N, eT, hx, hZ, hown, hby, hml, hlk, hn, hrt, hnm⟩ := S
  obtain ⟨cl, A, g1, g2, g3, g4⟩ := F
  have g5 := (o_nat h0).2
  exact o_to (X.baloadBytes hx (j := j) (by rw [eT]; exact A.1) (State.isArrayOf_alike hZ.alike A.2.1) A.2.2 (o_inb h0 h1 g1) (g3 _ (by omega)) (g := mkF m pc L (.int j :: .ref a :: st)) rfl rfl (hb hby hd)) k
theorem o_iastore (S : St p l e R s m args below meth c Z own bytes ml n0 ret nm T h cells slots) {a : Addr} {j x y : Int32} {xs ys : List Int32} (F : IA Z h a .int xs) (h0 : 0 ≤ j.toInt) (h1 : j.toInt < xs.length) (ga : n0 ≤ a) (hx' : x = y) (hys : xs.set j.toNatClampNeg y = ys) (hd : decode bytes pc = .ok (.iastore, 1)) (hq : pc + 1 = q) (k : ∀ T' h', St p l e R s m args below meth c Z own bytes ml n0 ret nm T' h' cells slots → Wr h h' a j.toNatClampNeg (.int y) → IA Z h' a .int ys → Wp p e below PO T' (mkF m q L st)) : Wp p e below PO T (mkF m pc L (.int x :: .int j :: .ref a :: st)) := by
  subst hq hys hx'
  obtain ⟨locs, X, N, eT, hx, hZ, hown, hby, hml, hlk, hn, hrt, hnm⟩ := S
  have F' := F
  obtain ⟨cl, A, g1, g2, g3, g4⟩ := F
  obtain ⟨T', h', X', e', W', st'⟩ := stI X hx hZ eT A (j := j) (x := x) (o_inb h0 h1 g1) (g := mkF m pc L (.int x :: .int j :: .ref a :: st)) rfl rfl (hb hby hd)
  exact o_to st' (k T' h' ⟨_, X', Fr.snoc X' N ga, e', hx, hZ, hown, hby, hml, hlk, hn, hrt, hnm⟩ W' (F'.set W' rfl))
theorem o_bastore (S : St p l e R s m args below meth c Z own bytes ml n0 ret nm T h cells slots) {a : Addr} {j x y : Int32} {xs ys : List Int32} (F : IA Z h a .byte xs) (h0 : 0 ≤ j.toInt) (h1 : j.toInt < xs.length) (ga : n0 ≤ a) (hx' : x.toInt8.toInt32 = y) (hys : xs.set j.toNatClampNeg y = ys) (hd : decode bytes pc = .ok (.bastore, 1)) (hq : pc + 1 = q) (k : ∀ T' h', St p l e R s m args below meth c Z own bytes ml n0 ret nm T' h' cells slots → Wr h h' a j.toNatClampNeg (.int y) → IA Z h' a .byte ys → Wp p e below PO T' (mkF m q L st)) : Wp p e below PO T (mkF m pc L (.int x :: .int j :: .ref a :: st)) := by
  subst hq hys hx'
  obtain ⟨locs, X, N, eT, hx, hZ, hown, hby, hml, hlk, hn, hrt, hnm⟩ := S
  have F' := F
  obtain ⟨cl, A, g1, g2, g3, g4⟩ := F
  obtain ⟨T', h', X', e', W', st'⟩ := stB X hx hZ eT A (j := j) (x := x) (o_inb h0 h1 g1) (g := mkF m pc L (.int x :: .int j :: .ref a :: st)) rfl rfl (hb hby hd)
  exact o_to st' (k T' h' ⟨_, X', Fr.snoc X' N ga, e', hx, hZ, hown, hby, hml, hlk, hn, hrt, hnm⟩ W' (F'.set W' (fits_nar_byte x)))
theorem o_arraylength (S : St p l e R s m args below meth c Z own bytes ml n0 ret nm T h cells slots) {a : Addr} {ty : FieldType} {xs : List Int32} {z : Int32} (F : IA Z h a ty xs) (hz : Int32.ofNat xs.length = z) (hd : decode bytes pc = .ok (.arraylength, 1)) (hq : pc + 1 = q) (k : Wp p e below PO T (mkF m q L (.int z :: st))) : Wp p e below PO T (mkF m pc L (.ref a :: st)) := by
  subst hq hz
  obtain ⟨locs, X, N, eT, hx, hZ, hown, hby, hml, hlk, hn, hrt, hnm⟩ := S
  obtain ⟨cl, A, g1, g2, g3, g4⟩ := F
  exact o_to (X.arraylength hx (by rw [eT]; exact A.1) (State.isArrayOf_alike hZ.alike A.2.1) (g := mkF m pc L (.ref a :: st)) rfl rfl (hb hby hd)) (by rw [g1]; exact k)
theorem o_bid {x : Int32} (h1 : -128 ≤ x.toInt) (h2 : x.toInt < 128) : x.toInt8.toInt32 = x := by
  rw [← Int32.toInt_inj]; have := c_i2b x; omega
theorem o_cid {x : Int32} (h1 : 0 ≤ x.toInt) (h2 : x.toInt < 65536) : x.toUInt32.toUInt16.toUInt32.toInt32 = x := by
  rw [← Int32.toInt_inj]; have := c_i2c x; omega
theorem o_i2bb (x : Int32) : x.toInt8.toInt32.toInt8.toInt32 = x.toInt8.toInt32 := o_bid (c_i2b x).2.1 (c_i2b x).2.2
theorem o_narB {x : Int32} (h1 : -128 ≤ x.toInt) (h2 : x.toInt < 128) : narrow .byte (.int x) = .int x := by show Value.int _ = _; rw [o_bid h1 h2]
theorem o_narC {x : Int32} (h1 : 0 ≤ x.toInt) (h2 : x.toInt < 65536) : narrow .char (.int x) = .int x := by show Value.int _ = _; rw [o_cid h1 h2]
theorem o_narZ {x : Int32} (h : x = 0 ∨ x = 1) : narrow .boolean (.int x) = .int x := by rcases h with rfl | rfl <;> rfl
theorem o_split64 (x M m : Int64) (h1 : M ||| m = -1) (h0 : M &&& m = 0) : (x &&& M) ||| (x &&& m) = x ∧ (x &&& M) &&& m = 0 := by
  refine ⟨?_, by rw [Int64.and_assoc, h0, Int64.and_zero]⟩
  have q : x &&& (M ||| m) = (x &&& M) ||| (x &&& m) := Int64.toBitVec_inj.1 BitVec.and_or_distrib_left
  rw [← q, h1, Int64.and_neg_one]
theorem o_ne32 {x y : Int32} (h : x.toInt ≠ y.toInt) : x ≠ y := fun q => h (by rw [q])
theorem o_eq32 {x y : Int32} (h : x.toInt = y.toInt) : x = y := Int32.toInt_inj.mp h
theorem o_newarrE (S : St p l e R s m args below meth c Z own bytes ml n0 ret nm T h cells slots) {aty : ArrayType} {n : Int32} {cap : Nat} {ad : String} (w : (Jvm.Cond.arrayClass (newarray.typeOf aty)).before a0 Z = true) (had : "[" ++ (newarray.typeOf aty).toString = ad) (hd : decode bytes pc = .ok (.newarray aty, 2)) (hq : pc + 2 = q) (hn0 : 0 ≤ n.toInt) (hcap : n.toInt ≤ cap) (hb8 : cap * 8 ≤ 536870912) (hc : cells + 1 ≤ R.cells) (hl : slots + cap ≤ R.slots)
    (k : ∀ T' h' a cA, St p l e R s m args below meth c Z own bytes ml n0 ret nm T' h' (cells + 1) (slots + cap) → a = h.size → n0 ≤ a → Ext h h' → Arr Z h' a (newA cA (newarray.typeOf aty) n) (newarray.typeOf aty) → Exa Z h' a ad → Wp p e below PO T' (mkF m q L (.ref a :: st))) : Wp p e below PO T (mkF m pc L (.int n :: st)) := by
  have g0 := o_n0 S
  obtain ⟨g1, g2⟩ := o_nat hn0
  subst hq
  obtain ⟨locs, X, N, eT, hx, hZ, hown, hby, hml, hlk, hn, hrt, hnm⟩ := S
  obtain ⟨T', h', cA, X', e', E', A', EE, st'⟩ := newPE X hx hZ w eT (g := mkF m pc L (.int n :: st)) rfl (hb hby hd) rfl g1 (cap := cap) (by omega) hb8 hc hl had
  exact o_to st' (k T' h' h.size cA ⟨_, X', N, e', hx, hZ, hown, hby, hml, hlk, hn, hrt, hnm⟩ rfl g0 E' A' EE)
theorem IA.fitC {a : Addr} {ty : FieldType} {xs : List Int32} {c : Cell} (A : Arr Z h a c ty) (h1 : c.slots.size = xs.length) (h3 : ∀ i, i < xs.length → c.slots[i]? = some (.int (xs.getD i 0))) (h4 : ∀ i, i < xs.length → fits ty (.int (xs.getD i 0)) = true) : FitC Z c := fitC_of A fun i hi v hv => by
  rw [h3 i (by omega)] at hv; cases hv; exact h4 i (by omega)
theorem o_clone (S : St p l e R s m args below meth c Z own bytes ml n0 ret nm T h cells slots) {i W cap : Nat} {ad : String} {a : Addr} {ty : FieldType} {xs : List Int32} (w1 : (Jvm.Cond.methodLink own i ⟨ad, "clone", "()Ljava/lang/Object;"⟩).before a0 Z = true) (w2 : (Jvm.Cond.sameMethod ad "java/lang/Object" "clone" "()Ljava/lang/Object;").before a0 Z = true) (w3 : (Jvm.Cond.native ⟨"java/lang/Object", "clone", "()Ljava/lang/Object;"⟩).before a0 Z = true) (w4 : (Jvm.Cond.instanceMethod ⟨"java/lang/Object", "clone", "()Ljava/lang/Object;"⟩).before a0 Z = true) (w5 : (Jvm.Cond.selects ad ⟨ad, "clone", "()Ljava/lang/Object;"⟩ ⟨"java/lang/Object", "clone", "()Ljava/lang/Object;"⟩).before a0 Z = true) (w6 : (Jvm.Cond.castable ad "java/lang/Cloneable").before a0 Z = true)
    (F : IA Z h a ty xs) (E : Exa Z h a ad) (hL : L.size = ml) (hd : decode bytes pc = .ok (.invokevirtual i, 3)) (hq : pc + 3 = q) (hf : 1 ≤ R.frames) (hW : (st.map fun v => v.category).sum ≤ W) (hl : W + 14 ≤ R.locals) (hcap : xs.length ≤ cap) (hc : cells + 1 ≤ R.cells) (hs : slots + cap ≤ R.slots)
    (k : ∀ T' h' b, St p l e R s m args below meth c Z own bytes ml n0 ret nm T' h' (cells + 1) (slots + cap) → b = h.size → n0 ≤ b → Ext h h' → IA Z h' b ty xs → Exa Z h' b ad → Wp p e below PO T' (mkF m q L (.ref b :: st))) : Wp p e below PO T (mkF m pc L (.ref a :: st)) := by
  have g0 := o_n0 S
  subst hq
  obtain ⟨locs, X, N, eT, hx, hZ, hown, hby, hml, hlk, hn, hrt, hnm⟩ := S
  obtain ⟨cl, A, h1, h2, h3, h4⟩ := F
  obtain ⟨T', h', X', e', Ex, A', E', st'⟩ := cloneA X hx hZ hown w1 w2 w3 w4 w5 w6 eT A E (IA.fitC A h1 h3 h4) (g := mkF m pc L (.ref a :: st)) rfl (by rw [hml]; exact hL) rfl (hb hby hd) hf (W := W) (cap := cap) (by show 2 * 0 + _ ≤ _; omega) hl (by omega) hc hs
  exact o_to st' (k T' h' h.size ⟨_, X', N, e', hx, hZ, hown, hby, hml, hlk, hn, hrt, hnm⟩ rfl g0 Ex ⟨_, A', h1, h2, h3, h4⟩ E')
theorem o_castY (S : St p l e R s m args below meth c Z own bytes ml n0 ret nm T h cells slots) {i : Nat} {K : String} {a : Addr} (w : (Jvm.Cond.classLink own i K).before a0 Z = true) (F : Ins Z h a K true) (hd : decode bytes pc = .ok (.checkcast i, 3)) (hq : pc + 3 = q) (k : ∀ T', St p l e R s m args below meth c Z own bytes ml n0 ret nm T' h cells slots → Wp p e below PO T' (mkF m q L (.ref a :: st))) : Wp p e below PO T (mkF m pc L (.ref a :: st)) := by
  subst hq
  obtain ⟨locs, X, N, eT, hx, hZ, hown, hby, hml, hlk, hn, hrt, hnm⟩ := S
  obtain ⟨T', X', e', st'⟩ := castY X hx hZ hown w eT F (g := mkF m pc L (.ref a :: st)) rfl rfl (hb hby hd)
  exact o_to st' (k T' ⟨_, X', N, e', hx, hZ, hown, hby, hml, hlk, hn, hrt, hnm⟩)
theorem o_instY (S : St p l e R s m args below meth c Z own bytes ml n0 ret nm T h cells slots) {i : Nat} {K : String} {a : Addr} (w : (Jvm.Cond.classLink own i K).before a0 Z = true) (F : Ins Z h a K true) (hd : decode bytes pc = .ok (.instanceof i, 3)) (hq : pc + 3 = q) (k : ∀ T', St p l e R s m args below meth c Z own bytes ml n0 ret nm T' h cells slots → Wp p e below PO T' (mkF m q L (.int 1 :: st))) : Wp p e below PO T (mkF m pc L (.ref a :: st)) := by
  subst hq
  obtain ⟨locs, X, N, eT, hx, hZ, hown, hby, hml, hlk, hn, hrt, hnm⟩ := S
  obtain ⟨T', X', e', st'⟩ := instY X hx hZ hown w eT F (g := mkF m pc L (.ref a :: st)) rfl rfl (hb hby hd)
  exact o_to st' (k T' ⟨_, X', N, e', hx, hZ, hown, hby, hml, hlk, hn, hrt, hnm⟩)
theorem o_instN (S : St p l e R s m args below meth c Z own bytes ml n0 ret nm T h cells slots) {i : Nat} {K C : String} {a : Addr} (w : (Jvm.Cond.classLink own i K).before a0 Z = true) (E : Exa Z h a C) (F : ∃ c t, Z.vm.findClass C = some c ∧ Z.vm.findClass K = some t ∧ Z.vm.assignable c t = false) (hd : decode bytes pc = .ok (.instanceof i, 3)) (hq : pc + 3 = q) (k : ∀ T', St p l e R s m args below meth c Z own bytes ml n0 ret nm T' h cells slots → Wp p e below PO T' (mkF m q L (.int 0 :: st))) : Wp p e below PO T (mkF m pc L (.ref a :: st)) := by
  subst hq
  obtain ⟨locs, X, N, eT, hx, hZ, hown, hby, hml, hlk, hn, hrt, hnm⟩ := S
  obtain ⟨T', X', e', st'⟩ := instNo X hx hZ hown w eT E F (g := mkF m pc L (.ref a :: st)) rfl rfl (hb hby hd)
  exact o_to st' (k T' ⟨_, X', N, e', hx, hZ, hown, hby, hml, hlk, hn, hrt, hnm⟩)
theorem o_instNull (S : St p l e R s m args below meth c Z own bytes ml n0 ret nm T h cells slots) {i : Nat} (hd : decode bytes pc = .ok (.instanceof i, 3)) (hq : pc + 3 = q) (k : Wp p e below PO T (mkF m q L (.int 0 :: st))) : Wp p e below PO T (mkF m pc L (.null :: st)) := by
  subst hq
  obtain ⟨locs, X, N, eT, hx, hZ, hown, hby, hml, hlk, hn, hrt, hnm⟩ := S
  exact o_to (X.instanceofNull hx (g := mkF m pc L (.null :: st)) rfl rfl (hb hby hd)) k
theorem o_getS (S : St p l e R s m args below meth c Z own bytes ml n0 ret nm T h cells slots) {i : Nat} {O n d : String} {v : Value} (w : (Jvm.Cond.fieldLink own i O n d).before a0 Z = true) (F : Sta Z h O n d v) (hd : decode bytes pc = .ok (.getstatic i, 3)) (hq : pc + 3 = q) (k : ∀ T', St p l e R s m args below meth c Z own bytes ml n0 ret nm T' h cells slots → Wp p e below PO T' (mkF m q L (v :: st))) : Wp p e below PO T (mkF m pc L st) := by
  subst hq
  obtain ⟨locs, X, N, eT, hx, hZ, hown, hby, hml, hlk, hn, hrt, hnm⟩ := S
  obtain ⟨T', X', e', st'⟩ := getS X hx hZ (host := "") hown w Via.refl eT F (g := mkF m pc L st) rfl (hb hby hd)
  exact o_to st' (k T' ⟨_, X', N, e', hx, hZ, hown, hby, hml, hlk, hn, hrt, hnm⟩)
theorem o_aaloadA (S : St p l e R s m args below meth c Z own bytes ml n0 ret nm T h cells slots) {a : Addr} {cl : Cell} {ty : FieldType} {j : Int32} {v : Value} (A : Arr Z h a cl ty) (hty : ty.isReference = true) (hin : ¬ (j < 0 ∨ cl.slots.size ≤ j.toNatClampNeg)) (hv : cl.slots[j.toNatClampNeg]? = some v) (hd : decode bytes pc = .ok (.aaload, 1)) (hq : pc + 1 = q) (k : Wp p e below PO T (mkF m q L (v :: st))) : Wp p e below PO T (mkF m pc L (.int j :: .ref a :: st)) := by
  subst hq
  obtain ⟨locs, X, N, eT, hx, hZ, hown, hby, hml, hlk, hn, hrt, hnm⟩ := S
  exact o_to (X.aaload hx (j := j) (by rw [eT]; exact A.1) (State.isArrayOf_alike hZ.alike A.2.1) hty A.2.2 hin hv (g := mkF m pc L (.int j :: .ref a :: st)) rfl rfl (hb hby hd)) k
end OwnPre
theorem own_root {Z : State} {a0 : Array Value} {O K : String} {n : Nat} (w : (Jvm.Cond.noSuperclass O).before a0 Z = true) (wi : (Jvm.Cond.instantiable K n).before a0 Z = true) (hn : O ≠ K) : NS Z O K := by
  obtain ⟨c, k, h1, h2, h3, -, -⟩ := Cond.noSuperclass_spec w
  obtain ⟨t, kt, g1, -⟩ := Cond.instantiable_spec wi
  refine ⟨c, t, h1, g1, fun fuel => ?_⟩
  cases fuel with
  | zero => rfl
  | succ f => simp [Vm.isSubclassAux, ids_ne h1 g1 hn, h2, h3]
theorem own_no {Z : State} {a0 : Array Value} {C S K : String} {n : Nat} (w : (Jvm.Cond.superclass C S).before a0 Z = true) (wi : (Jvm.Cond.instantiable K n).before a0 Z = true) (ns : NS Z C K) (hn : C ≠ K) : ∃ c t, Z.vm.findClass C = some c ∧ Z.vm.findClass K = some t ∧ Z.vm.assignable c t = false := by
  obtain ⟨c, t, h0, g0, n3⟩ := ns
  obtain ⟨p, k, kp, h1, h2, h3, h4, h5, -, h7⟩ := Cond.superclass_spec h0 w
  obtain ⟨t', kt, g1, g2, g3, g4, -⟩ := Cond.instantiable_spec wi
  cases g0.symm.trans g1
  simp only [Bool.or_eq_false_iff] at g4
  refine ⟨c, t, h0, g0, ?_⟩
  show Z.vm.assignableAux (255 + 1) c t = false
  simp [Vm.assignableAux, ids_ne h0 g0 hn, h2, g2, h5, g3, g4.1, Vm.isSubclass, n3]
theorem own_inb (q0 : Int64) (h1 : ¬ q0.toInt < -128) (h2 : ¬ 127 < q0.toInt) : 0 ≤ (q0.toInt32 + (128 : Int32)).toInt ∧ (q0.toInt32 + (128 : Int32)).toInt < 256 := by
  have a := c_l2i q0; have b := c_iadd q0.toInt32 (128 : Int32); have w : (128 : Int32).toInt = 128 := rfl
  have r1 := rng32 q0.toInt32; have r2 := rng32 (q0.toInt32 + (128 : Int32)); have r3 := rng64 q0
  omega
theorem d2_0 : decode jdk_30_method_1_code 0 = .ok (.aload_n 0, 1) := by decide +kernel
theorem d2_1 : decode jdk_30_method_1_code 1 = .ok (.invokespecial 1, 3) := by decide +kernel
theorem d2_4 : decode jdk_30_method_1_code 4 = .ok (.return_, 1) := by decide +kernel
def rm_2 : Room := ({ frames := 1, cells := 0, slots := 0, locals := 12 } : Room)
theorem pn_2 : plainFor (⟨"java/lang/Record", "<init>", "()V"⟩ : MethodName) = true := plainFor_of_name (by first | (simp [plainName, overriddenIn]; done) | (simp [plainName, overriddenIn, x]; done) | decide +kernel)
theorem ef_2 (r0 : Addr) (m : MethodId) : entryFrame m #[(.ref r0)] 1 = mkF m 0 #[.val (.ref r0)] [] := by first | (simp [entryFrame, mkF, argsToLocals, Value.category]; done) | rfl
set_option maxRecDepth 65536 in
set_option maxHeartbeats 40000000 in
theorem ct_2 (l : Launch) (Z : State) (a0 : Array Value) (hw : ∀ d ∈ tables_1, d.before a0 Z = true) (r0 : Addr) (h0 : Heap) (n0 : Nat) (hn : n0 ≤ h0.size) : Ct l (⟨"java/lang/Record", "<init>", "()V"⟩ : MethodName) jdk_30_method_1_code 1 none [] rm_2 Z h0 n0 #[(.ref r0)] (Qp none h0) := by
  refine o_body pn_2 hn (ef_2 r0) ?_
  intro p e s m below meth c T S
  refine o_aloadN S rfl rfl d2_0 rfl (q := 1) ?_
  refine o_initO S (W := 0) (o_wd (i := 11) hw rfl) (o_wd (i := 12) hw rfl) (o_wd (i := 13) hw rfl) rfl d2_1 rfl (q := 4) (by decide) (Nat.le_of_eq rfl) (by decide) (fun T S => ?_)
  refine o_retV S rfl d2_4 (by decide) (by decide) ?_
  exact ⟨rfl, rfl⟩
theorem d7_0 : decode jdk_18_method_1_code 0 = .ok (.aload_n 0, 1) := by decide +kernel
theorem d7_1 : decode jdk_18_method_1_code 1 = .ok (.invokespecial 1, 3) := by decide +kernel
theorem d7_4 : decode jdk_18_method_1_code 4 = .ok (.return_, 1) := by decide +kernel
def rm_7 : Room := ({ frames := 1, cells := 0, slots := 0, locals := 12 } : Room)
theorem pn_7 : plainFor (⟨"java/lang/Number", "<init>", "()V"⟩ : MethodName) = true := plainFor_of_name (by first | (simp [plainName, overriddenIn]; done) | (simp [plainName, overriddenIn, x]; done) | decide +kernel)
theorem ef_7 (r0 : Addr) (m : MethodId) : entryFrame m #[(.ref r0)] 1 = mkF m 0 #[.val (.ref r0)] [] := by first | (simp [entryFrame, mkF, argsToLocals, Value.category]; done) | rfl
set_option maxRecDepth 65536 in
set_option maxHeartbeats 40000000 in
theorem ct_7 (l : Launch) (Z : State) (a0 : Array Value) (hw : ∀ d ∈ tables_1, d.before a0 Z = true) (r0 : Addr) (h0 : Heap) (n0 : Nat) (hn : n0 ≤ h0.size) : Ct l (⟨"java/lang/Number", "<init>", "()V"⟩ : MethodName) jdk_18_method_1_code 1 none [] rm_7 Z h0 n0 #[(.ref r0)] (Qp none h0) := by
  refine o_body pn_7 hn (ef_7 r0) ?_
  intro p e s m below meth c T S
  refine o_aloadN S rfl rfl d7_0 rfl (q := 1) ?_
  refine o_initO S (W := 0) (o_wd (i := 42) hw rfl) (o_wd (i := 12) hw rfl) (o_wd (i := 13) hw rfl) rfl d7_1 rfl (q := 4) (by decide) (Nat.le_of_eq rfl) (by decide) (fun T S => ?_)
  refine o_retV S rfl d7_4 (by decide) (by decide) ?_
  exact ⟨rfl, rfl⟩
def Q_1 (Z : State) (r0 : Addr) (q1 : Int64) (q2 : Int64) (u1 : Int64) (u2 : Int64) (h0 : Heap) (n0 : Nat) : Option Value → Heap → Prop := fun v h => v = none ∧ Keep h0 h [r0] ∧ Exa Z h r0 "com/example/sediment/sediment/segment/SegmentId" ∧ Fld Z h r0 "com/example/sediment/sediment/segment/SegmentId" "mostSignificantBits" "J" (.long q1) ∧ Fld Z h r0 "com/example/sediment/sediment/segment/SegmentId" "leastSignificantBits" "J" (.long q2)
theorem pd_0 : parseMethodDescriptor "()V" = some ⟨[], none⟩ := by decide +kernel
theorem d1_0 : decode prog_43_method_1_code 0 = .ok (.aload_n 0, 1) := by decide +kernel
theorem d1_1 : decode prog_43_method_1_code 1 = .ok (.invokespecial 1, 3) := by decide +kernel
theorem d1_4 : decode prog_43_method_1_code 4 = .ok (.aload_n 0, 1) := by decide +kernel
theorem d1_5 : decode prog_43_method_1_code 5 = .ok (.lload_n 1, 1) := by decide +kernel
theorem d1_6 : decode prog_43_method_1_code 6 = .ok (.putfield 7, 3) := by decide +kernel
theorem d1_9 : decode prog_43_method_1_code 9 = .ok (.aload_n 0, 1) := by decide +kernel
theorem d1_10 : decode prog_43_method_1_code 10 = .ok (.lload_n 3, 1) := by decide +kernel
theorem d1_11 : decode prog_43_method_1_code 11 = .ok (.putfield 13, 3) := by decide +kernel
theorem d1_14 : decode prog_43_method_1_code 14 = .ok (.return_, 1) := by decide +kernel
def rm_1 : Room := ({ frames := 2, cells := 0, slots := 0, locals := 24 } : Room)
theorem pn_1 : plainFor (⟨"com/example/sediment/sediment/segment/SegmentId", "<init>", "(JJ)V"⟩ : MethodName) = true := plainFor_of_name (by first | (simp [plainName, overriddenIn]; done) | (simp [plainName, overriddenIn, x]; done) | decide +kernel)
theorem ef_1 (r0 : Addr) (q1 : Int64) (q2 : Int64) (m : MethodId) : entryFrame m #[(.ref r0), (.long q1), (.long q2)] 5 = mkF m 0 #[.val (.ref r0), .val (.long q1), .second, .val (.long q2), .second] [] := by first | (simp [entryFrame, mkF, argsToLocals, Value.category]; done) | rfl
set_option maxRecDepth 65536 in
set_option maxHeartbeats 40000000 in
theorem ct_1 (l : Launch) (Z : State) (a0 : Array Value) (hw : ∀ d ∈ tables_1, d.before a0 Z = true) (r0 : Addr) (q1 : Int64) (q2 : Int64) (u1 : Int64) (u2 : Int64) (h0 : Heap) (n0 : Nat) (hn : n0 ≤ h0.size) (E_r0 : Exa Z h0 r0 "com/example/sediment/sediment/segment/SegmentId") (F_mostSignificantBits_r0 : Fld Z h0 r0 "com/example/sediment/sediment/segment/SegmentId" "mostSignificantBits" "J" (.long u1)) (F_leastSignificantBits_r0 : Fld Z h0 r0 "com/example/sediment/sediment/segment/SegmentId" "leastSignificantBits" "J" (.long u2)) (g_r0 : n0 ≤ r0) : Ct l (⟨"com/example/sediment/sediment/segment/SegmentId", "<init>", "(JJ)V"⟩ : MethodName) prog_43_method_1_code 5 none [] rm_1 Z h0 n0 #[(.ref r0), (.long q1), (.long q2)] (Q_1 Z r0 q1 q2 u1 u2 h0 n0) := by
  refine o_body pn_1 hn (ef_1 r0 q1 q2) ?_
  intro p e s m below meth c T S
  have K : Keep h0 h0 [r0] := Keep.refl _ _
  refine o_aloadN S rfl rfl d1_0 rfl (q := 1) ?_
  refine o_callI0 S (W := 0) (argsL := []) (rest := []) (a := r0) rfl (o_wd (i := 6) hw rfl) (o_wd (i := 7) hw rfl) (o_wd (i := 9) hw rfl) (o_wd (i := 10) hw rfl) (by decide) (ct_2 l Z a0 hw r0 h0 n0 (o_n0 S) ) (by decide) (by decide) rfl rfl pd_0 rfl (Nat.le_of_eq rfl) d1_1 rfl (q := 4) (by decide) (by decide) rfl (st' := []) (fun T S => ?_)
  refine o_aloadN S rfl rfl d1_4 rfl (q := 5) ?_
  refine o_lloadN S rfl d1_5 rfl (q := 6) ?_
  refine o_putF S (o_wd (i := 14) hw rfl) Via.refl F_mostSignificantBits_r0 E_r0 (Or.inr ⟨(o_wd (i := 15) hw rfl), rfl, rfl⟩) (o_wd (i := 1) hw rfl) (ty := .long) (by decide) rfl rfl g_r0 d1_6 rfl (q := 9) (fun T h1 S W F_mostSignificantBits_r0 => ?_)
  have E_r0 := E_r0.wr W
  have F_leastSignificantBits_r0 := Fld.other W F_leastSignificantBits_r0 (Or.inr (slot_ne (Or.inr (o_wd (i := 17) hw rfl)) (Or.inr (o_wd (i := 15) hw rfl)) (by decide) (t := .long) (t' := .long) (by decide) (by decide)))
  have K := K.wr W (Or.inl (List.mem_of_getElem? (i := 0) rfl))
  refine o_aloadN S rfl rfl d1_9 rfl (q := 10) ?_
  refine o_lloadN S rfl d1_10 rfl (q := 11) ?_
  refine o_putF S (o_wd (i := 16) hw rfl) Via.refl F_leastSignificantBits_r0 E_r0 (Or.inr ⟨(o_wd (i := 17) hw rfl), rfl, rfl⟩) (o_wd (i := 1) hw rfl) (ty := .long) (by decide) rfl rfl g_r0 d1_11 rfl (q := 14) (fun T h2 S W F_leastSignificantBits_r0 => ?_)
  have E_r0 := E_r0.wr W
  have F_mostSignificantBits_r0 := Fld.other W F_mostSignificantBits_r0 (Or.inr (slot_ne (Or.inr (o_wd (i := 15) hw rfl)) (Or.inr (o_wd (i := 17) hw rfl)) (by decide) (t := .long) (t' := .long) (by decide) (by decide)))
  have K := K.wr W (Or.inl (List.mem_of_getElem? (i := 0) rfl))
  refine o_retV S rfl d1_14 (by decide) (by decide) ?_
  exact ⟨rfl, K, E_r0, F_mostSignificantBits_r0, F_leastSignificantBits_r0⟩
def Q_6 (Z : State) (r0 : Addr) (q1 : Int64) (u1 : Int64) (h0 : Heap) (n0 : Nat) : Option Value → Heap → Prop := fun v h => v = none ∧ Keep h0 h [r0] ∧ Exa Z h r0 "java/lang/Long" ∧ Fld Z h r0 "java/lang/Long" "value" "J" (.long q1)
theorem d6_0 : decode jdk_35_method_26_code 0 = .ok (.aload_n 0, 1) := by decide +kernel
theorem d6_1 : decode jdk_35_method_26_code 1 = .ok (.invokespecial 270, 3) := by decide +kernel
theorem d6_4 : decode jdk_35_method_26_code 4 = .ok (.aload_n 0, 1) := by decide +kernel
theorem d6_5 : decode jdk_35_method_26_code 5 = .ok (.lload_n 1, 1) := by decide +kernel
theorem d6_6 : decode jdk_35_method_26_code 6 = .ok (.putfield 273, 3) := by decide +kernel
theorem d6_9 : decode jdk_35_method_26_code 9 = .ok (.return_, 1) := by decide +kernel
def rm_6 : Room := ({ frames := 2, cells := 0, slots := 0, locals := 24 } : Room)
theorem pn_6 : plainFor (⟨"java/lang/Long", "<init>", "(J)V"⟩ : MethodName) = true := plainFor_of_name (by first | (simp [plainName, overriddenIn]; done) | (simp [plainName, overriddenIn, x]; done) | decide +kernel)
theorem ef_6 (r0 : Addr) (q1 : Int64) (m : MethodId) : entryFrame m #[(.ref r0), (.long q1)] 3 = mkF m 0 #[.val (.ref r0), .val (.long q1), .second] [] := by first | (simp [entryFrame, mkF, argsToLocals, Value.category]; done) | rfl
set_option maxRecDepth 65536 in
set_option maxHeartbeats 40000000 in
theorem ct_6 (l : Launch) (Z : State) (a0 : Array Value) (hw : ∀ d ∈ tables_1, d.before a0 Z = true) (r0 : Addr) (q1 : Int64) (u1 : Int64) (h0 : Heap) (n0 : Nat) (hn : n0 ≤ h0.size) (E_r0 : Exa Z h0 r0 "java/lang/Long") (F_value_r0 : Fld Z h0 r0 "java/lang/Long" "value" "J" (.long u1)) (g_r0 : n0 ≤ r0) : Ct l (⟨"java/lang/Long", "<init>", "(J)V"⟩ : MethodName) jdk_35_method_26_code 3 none [] rm_6 Z h0 n0 #[(.ref r0), (.long q1)] (Q_6 Z r0 q1 u1 h0 n0) := by
  refine o_body pn_6 hn (ef_6 r0 q1) ?_
  intro p e s m below meth c T S
  have K : Keep h0 h0 [r0] := Keep.refl _ _
  refine o_aloadN S rfl rfl d6_0 rfl (q := 1) ?_
  refine o_callI0 S (W := 0) (argsL := []) (rest := []) (a := r0) rfl (o_wd (i := 36) hw rfl) (o_wd (i := 37) hw rfl) (o_wd (i := 40) hw rfl) (o_wd (i := 41) hw rfl) (by decide) (ct_7 l Z a0 hw r0 h0 n0 (o_n0 S) ) (by decide) (by decide) rfl rfl pd_0 rfl (Nat.le_of_eq rfl) d6_1 rfl (q := 4) (by decide) (by decide) rfl (st' := []) (fun T S => ?_)
  refine o_aloadN S rfl rfl d6_4 rfl (q := 5) ?_
  refine o_lloadN S rfl d6_5 rfl (q := 6) ?_
  refine o_putF S (o_wd (i := 43) hw rfl) Via.refl F_value_r0 E_r0 (Or.inr ⟨(o_wd (i := 44) hw rfl), rfl, rfl⟩) (o_wd (i := 31) hw rfl) (ty := .long) (by decide) rfl rfl g_r0 d6_6 rfl (q := 9) (fun T h1 S W F_value_r0 => ?_)
  have E_r0 := E_r0.wr W
  have K := K.wr W (Or.inl (List.mem_of_getElem? (i := 0) rfl))
  refine o_retV S rfl d6_9 (by decide) (by decide) ?_
  exact ⟨rfl, K, E_r0, F_value_r0⟩
def Q_5 (Z : State) (q0 : Int64) (ca : Addr) (cc : Cell) (h0 : Heap) (n0 : Nat) : Option Value → Heap → Prop := fun v h => ∃ b : Addr, v = some (.ref b) ∧ Keep h0 h [] ∧ Exa Z h b "java/lang/Long"
theorem pd_1 : parseMethodDescriptor "(J)V" = some ⟨[.long], none⟩ := by decide +kernel
theorem d5_0 : decode jdk_35_method_24_code 0 = .ok (.sipush 128, 3) := by decide +kernel
theorem d5_3 : decode jdk_35_method_24_code 3 = .ok (.istore_n 2, 1) := by decide +kernel
theorem d5_4 : decode jdk_35_method_24_code 4 = .ok (.lload_n 0, 1) := by decide +kernel
theorem d5_5 : decode jdk_35_method_24_code 5 = .ok (.ldc2_w 230, 3) := by decide +kernel
theorem d5_8 : decode jdk_35_method_24_code 8 = .ok (.lcmp, 1) := by decide +kernel
theorem d5_9 : decode jdk_35_method_24_code 9 = .ok (.ifCond .lt 22, 3) := by decide +kernel
theorem d5_12 : decode jdk_35_method_24_code 12 = .ok (.lload_n 0, 1) := by decide +kernel
theorem d5_13 : decode jdk_35_method_24_code 13 = .ok (.ldc2_w 232, 3) := by decide +kernel
theorem d5_16 : decode jdk_35_method_24_code 16 = .ok (.lcmp, 1) := by decide +kernel
theorem d5_17 : decode jdk_35_method_24_code 17 = .ok (.ifCond .gt 14, 3) := by decide +kernel
theorem d5_20 : decode jdk_35_method_24_code 20 = .ok (.getstatic 234, 3) := by decide +kernel
theorem d5_23 : decode jdk_35_method_24_code 23 = .ok (.lload_n 0, 1) := by decide +kernel
theorem d5_24 : decode jdk_35_method_24_code 24 = .ok (.l2i, 1) := by decide +kernel
theorem d5_25 : decode jdk_35_method_24_code 25 = .ok (.sipush 128, 3) := by decide +kernel
theorem d5_28 : decode jdk_35_method_24_code 28 = .ok (.iadd, 1) := by decide +kernel
theorem d5_29 : decode jdk_35_method_24_code 29 = .ok (.aaload, 1) := by decide +kernel
theorem d5_30 : decode jdk_35_method_24_code 30 = .ok (.areturn, 1) := by decide +kernel
theorem d5_31 : decode jdk_35_method_24_code 31 = .ok (.new 1, 3) := by decide +kernel
theorem d5_34 : decode jdk_35_method_24_code 34 = .ok (.dup, 1) := by decide +kernel
theorem d5_35 : decode jdk_35_method_24_code 35 = .ok (.lload_n 0, 1) := by decide +kernel
theorem d5_36 : decode jdk_35_method_24_code 36 = .ok (.invokespecial 240, 3) := by decide +kernel
theorem d5_39 : decode jdk_35_method_24_code 39 = .ok (.areturn, 1) := by decide +kernel
def rm_5 : Room := ({ frames := 3, cells := 2, slots := 2, locals := 39 } : Room)
theorem pn_5 : plainFor (⟨"java/lang/Long", "valueOf", "(J)Ljava/lang/Long;"⟩ : MethodName) = true := plainFor_of_name (by first | (simp [plainName, overriddenIn]; done) | (simp [plainName, overriddenIn, x]; done) | decide +kernel)
theorem ef_5 (q0 : Int64) (m : MethodId) : entryFrame m #[(.long q0)] 3 = mkF m 0 #[.val (.long q0), .second, .unset] [] := by first | (simp [entryFrame, mkF, argsToLocals, Value.category]; done) | rfl
set_option maxRecDepth 65536 in
set_option maxHeartbeats 40000000 in
theorem ct_5 (l : Launch) (Z : State) (a0 : Array Value) (hw : ∀ d ∈ tables_1, d.before a0 Z = true) (q0 : Int64) (ca : Addr) (cc : Cell) (h0 : Heap) (n0 : Nat) (hn : n0 ≤ h0.size) (O : Old Z n0 h0) (SC : Sta Z Z.heap "java/lang/Long$LongCache" "cache" "[Ljava/lang/Long;" (.ref ca)) (BX : Bxs Z ca cc "java/lang/Long" "J" 256 (fun j => .long (j - 128).toInt64)) : Ct l (⟨"java/lang/Long", "valueOf", "(J)Ljava/lang/Long;"⟩ : MethodName) jdk_35_method_24_code 3 (some (.object "java/lang/Long")) [] rm_5 Z h0 n0 #[(.long q0)] (Q_5 Z q0 ca cc h0 n0) := by
  refine o_body pn_5 hn (ef_5 q0) ?_
  intro p e s m below meth c T S
  have K : Keep h0 h0 [] := Keep.refl _ _
  refine o_sipush S (z := 128) rfl d5_0 rfl (q := 3) ?_
  refine o_istoreN S (L' := #[.val (.long q0), .second, .val (.int (128 : Int32))]) rfl d5_3 rfl (q := 4) ?_
  refine o_lloadN S rfl d5_4 rfl (q := 5) ?_
  refine o_ldc2 S (o_wd (i := 29) hw rfl) d5_5 rfl (q := 8) ?_
  refine o_lcmp S d5_8 rfl (q := 9) ?_
  refine o_if S d5_9 (by decide) (q' := 31) (by decide) (q := 12) rfl (hl_lt (a := q0.toInt) (b := (-128)) rfl rfl).1 (hl_lt (a := q0.toInt) (b := (-128)) rfl rfl).2 (fun hc9 => ?_) (fun hc9 => ?_)
  · skip
    refine o_new S (o_wd (i := 30) hw rfl) (o_wd (i := 31) hw rfl) (o_wd (i := 27) hw rfl) d5_31 rfl (q := 34) (by decide) (by decide) (fun T h2 b1 S ha_b1 g_b1 X E_b1 D => ?_)
    have sz_b1 : h0.size ≤ b1 := by rw [ha_b1]; exact K.1
    have K := K.ext X
    have F_value_b1 : Fld Z h2 b1 "java/lang/Long" "value" "J" (.long (0 : Int64)) := D (Or.inr (o_wd (i := 44) hw rfl)) (ty := .long) (by decide)
    refine o_dup S rfl d5_34 rfl (q := 35) ?_
    refine o_lloadN S rfl d5_35 rfl (q := 36) ?_
    refine o_callI S (W := 1) (argsL := [(.long q0)]) (rest := [(.ref b1)]) (a := b1) rfl (o_wd (i := 32) hw rfl) (o_wd (i := 33) hw rfl) (o_wd (i := 27) hw rfl) (o_wd (i := 35) hw rfl) (by decide) (ct_6 l Z a0 hw b1 q0 (0 : Int64) h2 n0 (o_n0 S) E_b1 F_value_b1 g_b1) (by decide) (by decide) rfl rfl pd_1 rfl (Nat.le_of_eq rfl) d5_36 rfl (q := 39) (by decide) (by decide) (fun T h3 rr4 S hQ => ?_)
    obtain ⟨hv, K1, E_b1', F_value_b1'⟩ := hQ
    subst hv
    have K := K.trans K1 (allS (Or.inr sz_b1) all0)
    have E_b1 := E_b1'
    have F_value_b1 := F_value_b1'
    show Wp p e below (Po s n0 rm_5 (Q_5 Z q0 ca cc h0 n0)) T (mkF m 39 #[.val (.long q0), .second, .val (.int (128 : Int32))] [(.ref b1)])
    refine o_retR S (t := (.object "java/lang/Long")) rfl rfl rfl rfl d5_39 (by decide) (by decide) ?_
    exact ⟨b1, rfl, K, E_b1⟩
  · skip
    refine o_lloadN S rfl d5_12 rfl (q := 13) ?_
    refine o_ldc2 S (o_wd (i := 48) hw rfl) d5_13 rfl (q := 16) ?_
    refine o_lcmp S d5_16 rfl (q := 17) ?_
    refine o_if S d5_17 (by decide) (q' := 31) (by decide) (q := 20) rfl (hl_gt (a := q0.toInt) (b := 127) rfl rfl).1 (hl_gt (a := q0.toInt) (b := 127) rfl rfl).2 (fun hc17 => ?_) (fun hc17 => ?_)
    · skip
      refine o_new S (o_wd (i := 30) hw rfl) (o_wd (i := 31) hw rfl) (o_wd (i := 27) hw rfl) d5_31 rfl (q := 34) (by decide) (by decide) (fun T h6 b5 S ha_b5 g_b5 X E_b5 D => ?_)
      have sz_b5 : h0.size ≤ b5 := by rw [ha_b5]; exact K.1
      have K := K.ext X
      have F_value_b5 : Fld Z h6 b5 "java/lang/Long" "value" "J" (.long (0 : Int64)) := D (Or.inr (o_wd (i := 44) hw rfl)) (ty := .long) (by decide)
      refine o_dup S rfl d5_34 rfl (q := 35) ?_
      refine o_lloadN S rfl d5_35 rfl (q := 36) ?_
      refine o_callI S (W := 1) (argsL := [(.long q0)]) (rest := [(.ref b5)]) (a := b5) rfl (o_wd (i := 32) hw rfl) (o_wd (i := 33) hw rfl) (o_wd (i := 27) hw rfl) (o_wd (i := 35) hw rfl) (by decide) (ct_6 l Z a0 hw b5 q0 (0 : Int64) h6 n0 (o_n0 S) E_b5 F_value_b5 g_b5) (by decide) (by decide) rfl rfl pd_1 rfl (Nat.le_of_eq rfl) d5_36 rfl (q := 39) (by decide) (by decide) (fun T h7 rr8 S hQ => ?_)
      obtain ⟨hv, K1, E_b5', F_value_b5'⟩ := hQ
      subst hv
      have K := K.trans K1 (allS (Or.inr sz_b5) all0)
      have E_b5 := E_b5'
      have F_value_b5 := F_value_b5'
      show Wp p e below (Po s n0 rm_5 (Q_5 Z q0 ca cc h0 n0)) T (mkF m 39 #[.val (.long q0), .second, .val (.int (128 : Int32))] [(.ref b5)])
      refine o_retR S (t := (.object "java/lang/Long")) rfl rfl rfl rfl d5_39 (by decide) (by decide) ?_
      exact ⟨b5, rfl, K, E_b5⟩
    · skip
      refine o_getS S (o_wd (i := 49) hw rfl) (SC.ext O.2) d5_20 rfl (q := 23) (fun T S => ?_)
      refine o_lloadN S rfl d5_23 rfl (q := 24) ?_
      refine o_l2i S d5_24 rfl (q := 25) ?_
      refine o_sipush S (z := 128) rfl d5_25 rfl (q := 28) ?_
      refine o_iadd S d5_28 rfl (q := 29) ?_
      have hin := own_inb q0 hc9 hc17
      obtain ⟨bx, bx1, bx2, bx3⟩ := BX.2.2.2 (q0.toInt32 + (128 : Int32)) (o_inb hin.1 hin.2 (by rw [BX.2.1]; rfl))
      refine o_aaloadA S (BX.1.ext O.2) rfl (o_inb hin.1 hin.2 (by rw [BX.2.1]; rfl)) bx1 d5_29 rfl (q := 30) ?_
      refine o_retR S (t := (.object "java/lang/Long")) rfl rfl rfl rfl d5_30 (by decide) (by decide) ?_
      exact ⟨bx, rfl, K, Exa.ext O.2 bx2⟩
theorem d4_0 : decode prog_43_method_7_code 0 = .ok (.aload_n 1, 1) := by decide +kernel
theorem d4_1 : decode prog_43_method_7_code 1 = .ok (.instanceof 8, 3) := by decide +kernel
theorem d4_4 : decode prog_43_method_7_code 4 = .ok (.ifCond .eq 36, 3) := by decide +kernel
theorem d4_7 : decode prog_43_method_7_code 7 = .ok (.aload_n 1, 1) := by decide +kernel
theorem d4_8 : decode prog_43_method_7_code 8 = .ok (.checkcast 8, 3) := by decide +kernel
theorem d4_11 : decode prog_43_method_7_code 11 = .ok (.astore_n 2, 1) := by decide +kernel
theorem d4_12 : decode prog_43_method_7_code 12 = .ok (.aload_n 0, 1) := by decide +kernel
theorem d4_13 : decode prog_43_method_7_code 13 = .ok (.getfield 7, 3) := by decide +kernel
theorem d4_16 : decode prog_43_method_7_code 16 = .ok (.aload_n 2, 1) := by decide +kernel
theorem d4_17 : decode prog_43_method_7_code 17 = .ok (.getfield 7, 3) := by decide +kernel
theorem d4_20 : decode prog_43_method_7_code 20 = .ok (.lcmp, 1) := by decide +kernel
theorem d4_21 : decode prog_43_method_7_code 21 = .ok (.ifCond .ne 19, 3) := by decide +kernel
theorem d4_24 : decode prog_43_method_7_code 24 = .ok (.aload_n 0, 1) := by decide +kernel
theorem d4_25 : decode prog_43_method_7_code 25 = .ok (.getfield 13, 3) := by decide +kernel
theorem d4_28 : decode prog_43_method_7_code 28 = .ok (.aload_n 2, 1) := by decide +kernel
theorem d4_29 : decode prog_43_method_7_code 29 = .ok (.getfield 13, 3) := by decide +kernel
theorem d4_32 : decode prog_43_method_7_code 32 = .ok (.lcmp, 1) := by decide +kernel
theorem d4_33 : decode prog_43_method_7_code 33 = .ok (.ifCond .ne 7, 3) := by decide +kernel
theorem d4_36 : decode prog_43_method_7_code 36 = .ok (.iconst 1, 1) := by decide +kernel
theorem d4_37 : decode prog_43_method_7_code 37 = .ok (.goto 4, 3) := by decide +kernel
theorem d4_40 : decode prog_43_method_7_code 40 = .ok (.iconst 0, 1) := by decide +kernel
theorem d4_41 : decode prog_43_method_7_code 41 = .ok (.ireturn, 1) := by decide +kernel
def rm_4n : Room := ({ frames := 0, cells := 0, slots := 0, locals := 0 } : Room)
theorem pn_4 : plainFor (⟨"com/example/sediment/sediment/segment/SegmentId", "equals", "(Ljava/lang/Object;)Z"⟩ : MethodName) = true := plainFor_of_name (by first | (simp [plainName, overriddenIn]; done) | (simp [plainName, overriddenIn, x]; done) | decide +kernel)
theorem ef_4n (r0 : Addr) (m : MethodId) : entryFrame m #[(.ref r0), .null] 3 = mkF m 0 #[.val (.ref r0), .val .null, .unset] [] := by first | (simp [entryFrame, mkF, argsToLocals, Value.category]; done) | rfl
set_option maxRecDepth 65536 in
set_option maxHeartbeats 40000000 in
theorem ct_4n (l : Launch) (Z : State) (a0 : Array Value) (hw : ∀ d ∈ tables_1, d.before a0 Z = true) (r0 : Addr) (h0 : Heap) (n0 : Nat) (hn : n0 ≤ h0.size) (E_r0 : Exa Z h0 r0 "com/example/sediment/sediment/segment/SegmentId") : Ct l (⟨"com/example/sediment/sediment/segment/SegmentId", "equals", "(Ljava/lang/Object;)Z"⟩ : MethodName) prog_43_method_7_code 3 (some .boolean) [] rm_4n Z h0 n0 #[(.ref r0), .null] (Qp (some (.int (0 : Int32))) h0) := by
  refine o_body pn_4 hn (ef_4n r0) ?_
  intro p e s m below meth c T S
  refine o_aloadN S rfl rfl d4_0 rfl (q := 1) ?_
  refine o_instNull S d4_1 rfl (q := 4) ?_
  refine o_if S d4_4 (by decide) (q' := 40) (by decide) (q := 7) rfl hs_eq.1 hs_eq.2 (fun hc4 => ?_) (fun hc4 => ?_)
  · skip
    refine o_iconst S (z := 0) rfl d4_40 rfl (q := 41) ?_
    refine o_retN S (t := .boolean) rfl (by simp) d4_41 (by decide) (by decide) rfl ?_
    exact ⟨rfl, rfl⟩
  · exact absurd hc4 (by decide)
def rm_4l : Room := ({ frames := 0, cells := 0, slots := 0, locals := 0 } : Room)
theorem ef_4l (r0 : Addr) (r1 : Addr) (m : MethodId) : entryFrame m #[(.ref r0), (.ref r1)] 3 = mkF m 0 #[.val (.ref r0), .val (.ref r1), .unset] [] := by first | (simp [entryFrame, mkF, argsToLocals, Value.category]; done) | rfl
set_option maxRecDepth 65536 in
set_option maxHeartbeats 40000000 in
theorem ct_4l (l : Launch) (Z : State) (a0 : Array Value) (hw : ∀ d ∈ tables_1, d.before a0 Z = true) (r0 : Addr) (r1 : Addr) (h0 : Heap) (n0 : Nat) (hn : n0 ≤ h0.size) (E_r0 : Exa Z h0 r0 "com/example/sediment/sediment/segment/SegmentId") (E_r1 : Exa Z h0 r1 "java/lang/Long") : Ct l (⟨"com/example/sediment/sediment/segment/SegmentId", "equals", "(Ljava/lang/Object;)Z"⟩ : MethodName) prog_43_method_7_code 3 (some .boolean) [] rm_4l Z h0 n0 #[(.ref r0), (.ref r1)] (Qp (some (.int (0 : Int32))) h0) := by
  refine o_body pn_4 hn (ef_4l r0 r1) ?_
  intro p e s m below meth c T S
  refine o_aloadN S rfl rfl d4_0 rfl (q := 1) ?_
  refine o_instN S (o_wd (i := 23) hw rfl) E_r1 (own_no (o_wd (i := 45) hw rfl) (o_wd (i := 1) hw rfl) (NS.step (o_wd (i := 45) hw rfl) (NS.step (o_wd (i := 46) hw rfl) (own_root (o_wd (i := 47) hw rfl) (o_wd (i := 1) hw rfl) (by decide)) (by decide)) (by decide)) (by decide)) d4_1 rfl (q := 4) (fun T S => ?_)
  refine o_if S d4_4 (by decide) (q' := 40) (by decide) (q := 7) rfl hs_eq.1 hs_eq.2 (fun hc4 => ?_) (fun hc4 => ?_)
  · skip
    refine o_iconst S (z := 0) rfl d4_40 rfl (q := 41) ?_
    refine o_retN S (t := .boolean) rfl (by simp) d4_41 (by decide) (by decide) rfl ?_
    exact ⟨rfl, rfl⟩
  · exact absurd hc4 (by decide)
def f_eq (u1 : Int64) (u2 : Int64) (u3 : Int64) (u4 : Int64) : Int32 := if ¬ u1 = u3 then (0 : Int32) else (if ¬ u2 = u4 then (0 : Int32) else (1 : Int32))
def rm_4s : Room := ({ frames := 0, cells := 0, slots := 0, locals := 0 } : Room)
theorem ef_4s (r0 : Addr) (r1 : Addr) (m : MethodId) : entryFrame m #[(.ref r0), (.ref r1)] 3 = mkF m 0 #[.val (.ref r0), .val (.ref r1), .unset] [] := by first | (simp [entryFrame, mkF, argsToLocals, Value.category]; done) | rfl
set_option maxRecDepth 65536 in
set_option maxHeartbeats 40000000 in
theorem ct_4s (l : Launch) (Z : State) (a0 : Array Value) (hw : ∀ d ∈ tables_1, d.before a0 Z = true) (r0 : Addr) (r1 : Addr) (u1 : Int64) (u2 : Int64) (u3 : Int64) (u4 : Int64) (h0 : Heap) (n0 : Nat) (hn : n0 ≤ h0.size) (E_r0 : Exa Z h0 r0 "com/example/sediment/sediment/segment/SegmentId") (E_r1 : Exa Z h0 r1 "com/example/sediment/sediment/segment/SegmentId") (F_mostSignificantBits_r0 : Fld Z h0 r0 "com/example/sediment/sediment/segment/SegmentId" "mostSignificantBits" "J" (.long u1)) (F_leastSignificantBits_r0 : Fld Z h0 r0 "com/example/sediment/sediment/segment/SegmentId" "leastSignificantBits" "J" (.long u2)) (F_mostSignificantBits_r1 : Fld Z h0 r1 "com/example/sediment/sediment/segment/SegmentId" "mostSignificantBits" "J" (.long u3)) (F_leastSignificantBits_r1 : Fld Z h0 r1 "com/example/sediment/sediment/segment/SegmentId" "leastSignificantBits" "J" (.long u4)) : Ct l (⟨"com/example/sediment/sediment/segment/SegmentId", "equals", "(Ljava/lang/Object;)Z"⟩ : MethodName) prog_43_method_7_code 3 (some .boolean) [] rm_4s Z h0 n0 #[(.ref r0), (.ref r1)] (Qp (some (.int (f_eq u1 u2 u3 u4))) h0) := by
  refine o_body pn_4 hn (ef_4s r0 r1) ?_
  intro p e s m below meth c T S
  refine o_aloadN S rfl rfl d4_0 rfl (q := 1) ?_
  refine o_instY S (o_wd (i := 23) hw rfl) (Ins.self E_r1) d4_1 rfl (q := 4) (fun T S => ?_)
  refine o_if S d4_4 (by decide) (q' := 40) (by decide) (q := 7) rfl hs_eq.1 hs_eq.2 (fun hc4 => ?_) (fun hc4 => ?_)
  · exact absurd hc4 (by decide)
  · skip
    refine o_aloadN S rfl rfl d4_7 rfl (q := 8) ?_
    refine o_castY S (o_wd (i := 23) hw rfl) (Ins.self E_r1) d4_8 rfl (q := 11) (fun T S => ?_)
    refine o_astoreN S (L' := #[.val (.ref r0), .val (.ref r1), .val (.ref r1)]) rfl rfl d4_11 rfl (q := 12) ?_
    refine o_aloadN S rfl rfl d4_12 rfl (q := 13) ?_
    refine o_getF S (o_wd (i := 14) hw rfl) Via.refl F_mostSignificantBits_r0 d4_13 rfl (q := 16) (fun T S => ?_)
    refine o_aloadN S rfl rfl d4_16 rfl (q := 17) ?_
    refine o_getF S (o_wd (i := 14) hw rfl) Via.refl F_mostSignificantBits_r1 d4_17 rfl (q := 20) (fun T S => ?_)
    refine o_lcmp S d4_20 rfl (q := 21) ?_
    refine o_if S d4_21 (by decide) (q' := 40) (by decide) (q := 24) rfl hl_ne.1 hl_ne.2 (fun hc21 => ?_) (fun hc21 => ?_)
    · skip
      refine o_iconst S (z := 0) rfl d4_40 rfl (q := 41) ?_
      refine o_retN S (t := .boolean) rfl (by simp) d4_41 (by decide) (by decide) rfl ?_
      exact ⟨o_si (by rw [f_eq, if_pos hc21]), rfl⟩
    · skip
      refine o_aloadN S rfl rfl d4_24 rfl (q := 25) ?_
      refine o_getF S (o_wd (i := 16) hw rfl) Via.refl F_leastSignificantBits_r0 d4_25 rfl (q := 28) (fun T S => ?_)
      refine o_aloadN S rfl rfl d4_28 rfl (q := 29) ?_
      refine o_getF S (o_wd (i := 16) hw rfl) Via.refl F_leastSignificantBits_r1 d4_29 rfl (q := 32) (fun T S => ?_)
      refine o_lcmp S d4_32 rfl (q := 33) ?_
      refine o_if S d4_33 (by decide) (q' := 40) (by decide) (q := 36) rfl hl_ne.1 hl_ne.2 (fun hc33 => ?_) (fun hc33 => ?_)
      · skip
        refine o_iconst S (z := 0) rfl d4_40 rfl (q := 41) ?_
        refine o_retN S (t := .boolean) rfl (by simp) d4_41 (by decide) (by decide) rfl ?_
        exact ⟨o_si (by rw [f_eq, if_neg hc21, if_pos hc33]), rfl⟩
      · skip
        refine o_iconst S (z := 1) rfl d4_36 rfl (q := 37) ?_
        refine o_goto S d4_37 (by decide) (q := 41) (by decide) ?_
        refine o_retN S (t := .boolean) rfl (by simp) d4_41 (by decide) (by decide) rfl ?_
        exact ⟨o_si (by rw [f_eq, if_neg hc21, if_neg hc33]), rfl⟩
theorem plain_eq (m l m2 l2 : Int64) : f_eq m l m2 l2 = (if ¬ m = m2 then (0 : Int32) else (if ¬ l = l2 then (0 : Int32) else (1 : Int32))) := by unfold f_eq; rfl
theorem plain_sym (m l m2 l2 : Int64) : f_eq m2 l2 m l = f_eq m l m2 l2 := by
  unfold f_eq
  by_cases a : m = m2
  · by_cases b : l = l2
    · subst a b; rfl
    · subst a; rw [if_neg (fun q => q rfl), if_pos (fun q => b q.symm), if_neg (fun q => q rfl), if_pos b]
  · rw [if_pos (fun q => a q.symm), if_pos a]
theorem plain_self (m l : Int64) : f_eq m l m l = 1 := by unfold f_eq; rw [if_neg (fun q => q rfl), if_neg (fun q => q rfl)]
theorem own_len {args : Array Value} {Z : State} {t : Term} {a : Addr} {c : Cell} {z : Int32} (et : t.eval args Z none [] Z = some (.ref a)) (ha : Z.arrayAt? a = some c) (h : (Term.length t).eval args Z none [] Z = some (.int z)) : c.slots.size < 2 ^ 31 ∧ c.slots.size.toInt32 = z := by
  simp only [Term.eval, et, ha, Option.bind_eq_bind, Option.bind_some] at h
  split at h
  · rename_i q; exact ⟨q, by cases h; rfl⟩
  · cases h
theorem pd_2 : parseMethodDescriptor "(JJ)V" = some ⟨[.long, .long], none⟩ := by decide +kernel
theorem pd_3 : parseMethodDescriptor "(Ljava/lang/Object;)Z" = some ⟨[(.object "java/lang/Object")], some .boolean⟩ := by decide +kernel
theorem pd_4 : parseMethodDescriptor "(J)Ljava/lang/Long;" = some ⟨[.long], some (.object "java/lang/Long")⟩ := by decide +kernel
def Q0 : Option Value → Heap → Prop := fun v _ => v = some (.int 1)
theorem pn_0 : plainFor x = true := plainFor_of_name (by first | (simp [plainName, overriddenIn]; done) | (simp [plainName, overriddenIn, x]; done) | decide +kernel)
theorem ef_0 (q0 : Int64) (q1 : Int64) (q2 : Int64) (q3 : Int64) (p4 : Int32) (m : MethodId) : entryFrame m #[(.long q0), (.long q1), (.long q2), (.long q3), (.int p4)] maxLocals = mkF m 0 #[.val (.long q0), .second, .val (.long q1), .second, .val (.long q2), .second, .val (.long q3), .second, .val (.int p4), .unset, .unset, .unset, .unset, .unset, .unset, .unset, .unset, .unset, .unset] [] := by first | (simp [entryFrame, mkF, argsToLocals, Value.category, maxLocals]; done) | rfl
set_option maxRecDepth 65536 in
set_option maxHeartbeats 40000000 in
theorem ct_0 (l : Launch) (Z : State) (a0 : Array Value) (hw : ∀ d ∈ tables_1, d.before a0 Z = true) (ws : List Jvm.Cond) (q0 : Int64) (q1 : Int64) (q2 : Int64) (q3 : Int64) (p4 : Int32) (ca : Addr) (cc : Cell) (h0 : Heap) (n0 : Nat) (hn : n0 ≤ h0.size) (O : Old Z n0 h0) (SC : Sta Z Z.heap "java/lang/Long$LongCache" "cache" "[Ljava/lang/Long;" (.ref ca)) (BX : Bxs Z ca cc "java/lang/Long" "J" 256 (fun j => .long (j - 128).toInt64)) : Ct l x code maxLocals ret ws room_1 Z h0 n0 #[(.long q0), (.long q1), (.long q2), (.long q3), (.int p4)] (Q0) := by
  refine o_body pn_0 hn (ef_0 q0 q1 q2 q3 p4) ?_
  intro p e s m below meth c T S
  refine o_iload S rfl at_0 rfl (q := 2) ?_
  refine o_iconst S (z := 1) rfl at_2 rfl (q := 3) ?_
  refine o_iand S at_3 rfl (q := 4) ?_
  refine o_cutS S (G := fun T => ∀ (v1 : Int64), v1 = (if (p4 &&& (1 : Int32)) = (0 : Int32) then q2 else q0) → Wp p e below (Po s n0 room_1 Q0) T (mkF m 13 #[.val (.long q0), .second, .val (.long q1), .second, .val (.long q2), .second, .val (.long q3), .second, .val (.int p4), .unset, .unset, .unset, .unset, .unset, .unset, .unset, .unset, .unset, .unset] [(.long v1)])) (fun k4 => ?_) (fun T S v1 hv1 => ?_)
  · skip
    refine o_if S at_4 (by decide) (q' := 11) (by decide) (q := 7) rfl hs_eq.1 hs_eq.2 (fun hc4 => ?_) (fun hc4 => ?_)
    · skip
      refine o_lload S rfl at_11 rfl (q := 13) ?_
      exact k4 _ S _ (by rw [if_pos hc4])
    · skip
      refine o_lloadN S rfl at_7 rfl (q := 8) ?_
      refine o_goto S at_8 (by decide) (q := 13) (by decide) ?_
      exact k4 _ S _ (by rw [if_neg hc4])
  refine o_lstore S (L' := #[.val (.long q0), .second, .val (.long q1), .second, .val (.long q2), .second, .val (.long q3), .second, .val (.int p4), .val (.long v1), .second, .unset, .unset, .unset, .unset, .unset, .unset, .unset, .unset]) rfl at_13 rfl (q := 15) ?_
  refine o_iload S rfl at_15 rfl (q := 17) ?_
  refine o_iconst S (z := 2) rfl at_17 rfl (q := 18) ?_
  refine o_iand S at_18 rfl (q := 19) ?_
  refine o_cutS S (G := fun T => ∀ (v2 : Int64), v2 = (if (p4 &&& (2 : Int32)) = (0 : Int32) then q3 else q1) → Wp p e below (Po s n0 room_1 Q0) T (mkF m 28 #[.val (.long q0), .second, .val (.long q1), .second, .val (.long q2), .second, .val (.long q3), .second, .val (.int p4), .val (.long v1), .second, .unset, .unset, .unset, .unset, .unset, .unset, .unset, .unset] [(.long v2)])) (fun k19 => ?_) (fun T S v2 hv2 => ?_)
  · skip
    refine o_if S at_19 (by decide) (q' := 26) (by decide) (q := 22) rfl hs_eq.1 hs_eq.2 (fun hc19 => ?_) (fun hc19 => ?_)
    · skip
      refine o_lload S rfl at_26 rfl (q := 28) ?_
      exact k19 _ S _ (by rw [if_pos hc19])
    · skip
      refine o_lloadN S rfl at_22 rfl (q := 23) ?_
      refine o_goto S at_23 (by decide) (q := 28) (by decide) ?_
      exact k19 _ S _ (by rw [if_neg hc19])
  refine o_lstore S (L' := #[.val (.long q0), .second, .val (.long q1), .second, .val (.long q2), .second, .val (.long q3), .second, .val (.int p4), .val (.long v1), .second, .val (.long v2), .second, .unset, .unset, .unset, .unset, .unset, .unset]) rfl at_28 rfl (q := 30) ?_
  refine o_new S (o_wd (i := 0) hw rfl) (o_wd (i := 1) hw rfl) (o_wd (i := 2) hw rfl) at_30 rfl (q := 33) (by decide) (by decide) (fun T h4 b3 S ha_b3 g_b3 X E_b3 D => ?_)
  have O := O.ext X
  have F_mostSignificantBits_b3 : Fld Z h4 b3 "com/example/sediment/sediment/segment/SegmentId" "mostSignificantBits" "J" (.long (0 : Int64)) := D (Or.inr (o_wd (i := 15) hw rfl)) (ty := .long) (by decide)
  have F_leastSignificantBits_b3 : Fld Z h4 b3 "com/example/sediment/sediment/segment/SegmentId" "leastSignificantBits" "J" (.long (0 : Int64)) := D (Or.inr (o_wd (i := 17) hw rfl)) (ty := .long) (by decide)
  refine o_dup S rfl at_33 rfl (q := 34) ?_
  refine o_lloadN S rfl at_34 rfl (q := 35) ?_
  refine o_lloadN S rfl at_35 rfl (q := 36) ?_
  refine o_callI S (W := 1) (argsL := [(.long q0), (.long q1)]) (rest := [(.ref b3)]) (a := b3) rfl (o_wd (i := 3) hw rfl) (o_wd (i := 4) hw rfl) (o_wd (i := 2) hw rfl) (o_wd (i := 5) hw rfl) (by decide) (ct_1 l Z a0 hw b3 q0 q1 (0 : Int64) (0 : Int64) h4 n0 (o_n0 S) E_b3 F_mostSignificantBits_b3 F_leastSignificantBits_b3 g_b3) (by decide) (by decide) rfl rfl pd_2 rfl (Nat.le_of_eq rfl) at_36 rfl (q := 39) (by decide) (by decide) (fun T h5 rr6 S hQ => ?_)
  obtain ⟨hv, K1, E_b3', F_mostSignificantBits_b3', F_leastSignificantBits_b3'⟩ := hQ
  subst hv
  have O := O.keep K1 (allS g_b3 all0)
  have E_b3 := E_b3'
  have F_mostSignificantBits_b3 := F_mostSignificantBits_b3'
  have F_leastSignificantBits_b3 := F_leastSignificantBits_b3'
  show Wp p e below (Po s n0 room_1 Q0) T (mkF m 39 #[.val (.long q0), .second, .val (.long q1), .second, .val (.long q2), .second, .val (.long q3), .second, .val (.int p4), .val (.long v1), .second, .val (.long v2), .second, .unset, .unset, .unset, .unset, .unset, .unset] [(.ref b3)])
  refine o_astore S (L' := #[.val (.long q0), .second, .val (.long q1), .second, .val (.long q2), .second, .val (.long q3), .second, .val (.int p4), .val (.long v1), .second, .val (.long v2), .second, .val (.ref b3), .unset, .unset, .unset, .unset, .unset]) rfl rfl at_39 rfl (q := 41) ?_
  refine o_new S (o_wd (i := 0) hw rfl) (o_wd (i := 1) hw rfl) (o_wd (i := 2) hw rfl) at_41 rfl (q := 44) (by decide) (by decide) (fun T h8 b7 S ha_b7 g_b7 X E_b7 D => ?_)
  have ne_b3_b7 : b3 ≠ b7 := by rw [ha_b7]; exact Nat.ne_of_lt E_b3.lt
  have O := O.ext X
  have E_b3 := Exa.ext X E_b3
  have F_mostSignificantBits_b3 := Fld.ext X F_mostSignificantBits_b3
  have F_leastSignificantBits_b3 := Fld.ext X F_leastSignificantBits_b3
  have F_mostSignificantBits_b7 : Fld Z h8 b7 "com/example/sediment/sediment/segment/SegmentId" "mostSignificantBits" "J" (.long (0 : Int64)) := D (Or.inr (o_wd (i := 15) hw rfl)) (ty := .long) (by decide)
  have F_leastSignificantBits_b7 : Fld Z h8 b7 "com/example/sediment/sediment/segment/SegmentId" "leastSignificantBits" "J" (.long (0 : Int64)) := D (Or.inr (o_wd (i := 17) hw rfl)) (ty := .long) (by decide)
  refine o_dup S rfl at_44 rfl (q := 45) ?_
  refine o_lload S rfl at_45 rfl (q := 47) ?_
  refine o_lload S rfl at_47 rfl (q := 49) ?_
  refine o_callI S (W := 1) (argsL := [(.long v1), (.long v2)]) (rest := [(.ref b7)]) (a := b7) rfl (o_wd (i := 3) hw rfl) (o_wd (i := 4) hw rfl) (o_wd (i := 2) hw rfl) (o_wd (i := 5) hw rfl) (by decide) (ct_1 l Z a0 hw b7 v1 v2 (0 : Int64) (0 : Int64) h8 n0 (o_n0 S) E_b7 F_mostSignificantBits_b7 F_leastSignificantBits_b7 g_b7) (by decide) (by decide) rfl rfl pd_2 rfl (Nat.le_of_eq rfl) at_49 rfl (q := 52) (by decide) (by decide) (fun T h9 rr10 S hQ => ?_)
  obtain ⟨hv, K1, E_b7', F_mostSignificantBits_b7', F_leastSignificantBits_b7'⟩ := hQ
  subst hv
  have O := O.keep K1 (allS g_b7 all0)
  have E_b3 := E_b3.keep K1
  have F_mostSignificantBits_b3 := F_mostSignificantBits_b3.keep K1 (ninS ne_b3_b7 nin0)
  have F_leastSignificantBits_b3 := F_leastSignificantBits_b3.keep K1 (ninS ne_b3_b7 nin0)
  have E_b7 := E_b7'
  have F_mostSignificantBits_b7 := F_mostSignificantBits_b7'
  have F_leastSignificantBits_b7 := F_leastSignificantBits_b7'
  show Wp p e below (Po s n0 room_1 Q0) T (mkF m 52 #[.val (.long q0), .second, .val (.long q1), .second, .val (.long q2), .second, .val (.long q3), .second, .val (.int p4), .val (.long v1), .second, .val (.long v2), .second, .val (.ref b3), .unset, .unset, .unset, .unset, .unset] [(.ref b7)])
  refine o_astore S (L' := #[.val (.long q0), .second, .val (.long q1), .second, .val (.long q2), .second, .val (.long q3), .second, .val (.int p4), .val (.long v1), .second, .val (.long v2), .second, .val (.ref b3), .val (.ref b7), .unset, .unset, .unset, .unset]) rfl rfl at_52 rfl (q := 54) ?_
  refine o_iload S rfl at_54 rfl (q := 56) ?_
  refine o_iconst S (z := 2) rfl at_56 rfl (q := 57) ?_
  refine o_iushr S at_57 rfl (q := 58) ?_
  refine o_iconst S (z := 3) rfl at_58 rfl (q := 59) ?_
  refine o_iand S at_59 rfl (q := 60) ?_
  refine o_istoreV S (L' := fun v11 => #[.val (.long q0), .second, .val (.long q1), .second, .val (.long q2), .second, .val (.long q3), .second, .val (.int p4), .val (.long v1), .second, .val (.long v2), .second, .val (.ref b3), .val (.ref b7), .val (.int v11), .unset, .unset, .unset]) (fun _ => rfl) at_60 rfl (q := 62) (fun v11 hv11 => ?_)
  refine o_iload S rfl at_62 rfl (q := 64) ?_
  refine o_if S at_64 (by decide) (q' := 95) (by decide) (q := 67) rfl hs_ne.1 hs_ne.2 (fun hc64 => ?_) (fun hc64 => ?_)
  · skip
    refine o_iload S rfl at_95 rfl (q := 97) ?_
    refine o_iconst S (z := 1) rfl at_97 rfl (q := 98) ?_
    refine o_icmp S at_98 (by decide) (q' := 110) (by decide) (q := 101) rfl hs_ne.1 hs_ne.2 (fun hc98 => ?_) (fun hc98 => ?_)
    · skip
      refine o_iload S rfl at_110 rfl (q := 112) ?_
      refine o_iconst S (z := 2) rfl at_112 rfl (q := 113) ?_
      refine o_icmp S at_113 (by decide) (q' := 128) (by decide) (q := 116) rfl hs_ne.1 hs_ne.2 (fun hc113 => ?_) (fun hc113 => ?_)
      · skip
        refine o_aload S rfl rfl at_128 rfl (q := 130) ?_
        refine o_astore S (L' := #[.val (.long q0), .second, .val (.long q1), .second, .val (.long q2), .second, .val (.long q3), .second, .val (.int p4), .val (.long v1), .second, .val (.long v2), .second, .val (.ref b3), .val (.ref b7), .val (.int v11), .val (.ref b3), .unset, .unset]) rfl rfl at_130 rfl (q := 132) ?_
        refine o_iconst S (z := 1) rfl at_132 rfl (q := 133) ?_
        refine o_istore S (L' := #[.val (.long q0), .second, .val (.long q1), .second, .val (.long q2), .second, .val (.long q3), .second, .val (.int p4), .val (.long v1), .second, .val (.long v2), .second, .val (.ref b3), .val (.ref b7), .val (.int v11), .val (.ref b3), .val (.int (1 : Int32)), .unset]) rfl at_133 rfl (q := 135) ?_
        refine o_aload S rfl rfl at_135 rfl (q := 137) ?_
        refine o_aload S rfl rfl at_137 rfl (q := 139) ?_
        refine o_callV0 S (W := 0) (argsL := [(.ref b3)]) (rest := []) (a := b3) (o_wd (i := 18) hw rfl) (o_wd (i := 19) hw rfl) (o_wd (i := 21) hw rfl) (o_wd (i := 20) hw rfl) (o_wd (i := 2) hw rfl) (o_wd (i := 22) hw rfl) (o_nf (o_wd (i := 21) hw rfl)) (by decide) E_b3 (ct_4s l Z a0 hw b3 b3 q0 q1 q0 q1 h9 n0 (o_n0 S) E_b3 E_b3 F_mostSignificantBits_b3 F_leastSignificantBits_b3 F_mostSignificantBits_b3 F_leastSignificantBits_b3) (by decide) (by decide) rfl rfl pd_3 rfl (Nat.le_of_eq rfl) at_139 rfl (q := 142) (by decide) (by decide) rfl (st' := [(.int (f_eq q0 q1 q0 q1))]) (fun T S => ?_)
        refine o_istoreV S (L' := fun v12 => #[.val (.long q0), .second, .val (.long q1), .second, .val (.long q2), .second, .val (.long q3), .second, .val (.int p4), .val (.long v1), .second, .val (.long v2), .second, .val (.ref b3), .val (.ref b7), .val (.int v11), .val (.ref b3), .val (.int (1 : Int32)), .val (.int v12)]) (fun _ => rfl) at_142 rfl (q := 144) (fun v12 hv12 => ?_)
        refine o_iload S rfl at_144 rfl (q := 146) ?_
        refine o_iload S rfl at_146 rfl (q := 148) ?_
        refine o_icmp S at_148 (by decide) (q' := 153) (by decide) (q := 151) rfl hs_eq.1 hs_eq.2 (fun hc148 => ?_) (fun hc148 => ?_)
        · skip
          refine o_iload S rfl at_153 rfl (q := 155) ?_
          refine o_if S at_155 (by decide) (q' := 176) (by decide) (q := 158) rfl hs_ne.1 hs_ne.2 (fun hc155 => ?_) (fun hc155 => ?_)
          · skip
            refine o_iconst S (z := 1) rfl at_176 rfl (q := 177) ?_
            refine o_retN S (t := .boolean) rfl (by simp) at_177 (by decide) (by decide) rfl ?_
            rfl
          · exact absurd hc64 hc155
        · exact absurd (by rw [hv12]; exact plain_self _ _) hc148
      · skip
        refine o_lloadN S rfl at_116 rfl (q := 117) ?_
        refine o_callS S (W := 0) (argsL := [(.long q0)]) (rest := []) (o_wd (i := 25) hw rfl) (o_wd (i := 26) hw rfl) (o_wd (i := 27) hw rfl) (o_wd (i := 28) hw rfl) (by decide) (ct_5 l Z a0 hw q0 ca cc h9 n0 (o_n0 S) O SC BX) (by decide) (by decide) rfl rfl pd_4 rfl (Nat.le_of_eq rfl) at_117 rfl (q := 120) (by decide) (by decide) (fun T h13 rr14 S hQ => ?_)
        obtain ⟨b15, hv, K1, E_b15'⟩ := hQ
        subst hv
        have O := O.keep K1 all0
        have E_b3 := E_b3.keep K1
        have F_mostSignificantBits_b3 := F_mostSignificantBits_b3.keep K1 nin0
        have F_leastSignificantBits_b3 := F_leastSignificantBits_b3.keep K1 nin0
        have E_b7 := E_b7.keep K1
        have F_mostSignificantBits_b7 := F_mostSignificantBits_b7.keep K1 nin0
        have F_leastSignificantBits_b7 := F_leastSignificantBits_b7.keep K1 nin0
        have E_b15 := E_b15'
        show Wp p e below (Po s n0 room_1 Q0) T (mkF m 120 #[.val (.long q0), .second, .val (.long q1), .second, .val (.long q2), .second, .val (.long q3), .second, .val (.int p4), .val (.long v1), .second, .val (.long v2), .second, .val (.ref b3), .val (.ref b7), .val (.int v11), .unset, .unset, .unset] [(.ref b15)])
        refine o_astore S (L' := #[.val (.long q0), .second, .val (.long q1), .second, .val (.long q2), .second, .val (.long q3), .second, .val (.int p4), .val (.long v1), .second, .val (.long v2), .second, .val (.ref b3), .val (.ref b7), .val (.int v11), .val (.ref b15), .unset, .unset]) rfl rfl at_120 rfl (q := 122) ?_
        refine o_iconst S (z := 0) rfl at_122 rfl (q := 123) ?_
        refine o_istore S (L' := #[.val (.long q0), .second, .val (.long q1), .second, .val (.long q2), .second, .val (.long q3), .second, .val (.int p4), .val (.long v1), .second, .val (.long v2), .second, .val (.ref b3), .val (.ref b7), .val (.int v11), .val (.ref b15), .val (.int (0 : Int32)), .unset]) rfl at_123 rfl (q := 125) ?_
        refine o_goto S at_125 (by decide) (q := 135) (by decide) ?_
        refine o_aload S rfl rfl at_135 rfl (q := 137) ?_
        refine o_aload S rfl rfl at_137 rfl (q := 139) ?_
        refine o_callV0 S (W := 0) (argsL := [(.ref b15)]) (rest := []) (a := b3) (o_wd (i := 18) hw rfl) (o_wd (i := 19) hw rfl) (o_wd (i := 21) hw rfl) (o_wd (i := 20) hw rfl) (o_wd (i := 2) hw rfl) (o_wd (i := 22) hw rfl) (o_nf (o_wd (i := 21) hw rfl)) (by decide) E_b3 (ct_4l l Z a0 hw b3 b15 h13 n0 (o_n0 S) E_b3 E_b15) (by decide) (by decide) rfl rfl pd_3 rfl (Nat.le_of_eq rfl) at_139 rfl (q := 142) (by decide) (by decide) rfl (st' := [(.int (0 : Int32))]) (fun T S => ?_)
        refine o_istore S (L' := #[.val (.long q0), .second, .val (.long q1), .second, .val (.long q2), .second, .val (.long q3), .second, .val (.int p4), .val (.long v1), .second, .val (.long v2), .second, .val (.ref b3), .val (.ref b7), .val (.int v11), .val (.ref b15), .val (.int (0 : Int32)), .val (.int (0 : Int32))]) rfl at_142 rfl (q := 144) ?_
        refine o_iload S rfl at_144 rfl (q := 146) ?_
        refine o_iload S rfl at_146 rfl (q := 148) ?_
        refine o_icmp S at_148 (by decide) (q' := 153) (by decide) (q := 151) rfl hs_eq.1 hs_eq.2 (fun hc148 => ?_) (fun hc148 => ?_)
        · skip
          refine o_iload S rfl at_153 rfl (q := 155) ?_
          refine o_if S at_155 (by decide) (q' := 176) (by decide) (q := 158) rfl hs_ne.1 hs_ne.2 (fun hc155 => ?_) (fun hc155 => ?_)
          · skip
            refine o_iconst S (z := 1) rfl at_176 rfl (q := 177) ?_
            refine o_retN S (t := .boolean) rfl (by simp) at_177 (by decide) (by decide) rfl ?_
            rfl
          · exact absurd hc64 hc155
        · exact absurd rfl hc148
    · skip
      refine o_aconstNull S at_101 rfl (q := 102) ?_
      refine o_astore S (L' := #[.val (.long q0), .second, .val (.long q1), .second, .val (.long q2), .second, .val (.long q3), .second, .val (.int p4), .val (.long v1), .second, .val (.long v2), .second, .val (.ref b3), .val (.ref b7), .val (.int v11), .val .null, .unset, .unset]) rfl rfl at_102 rfl (q := 104) ?_
      refine o_iconst S (z := 0) rfl at_104 rfl (q := 105) ?_
      refine o_istore S (L' := #[.val (.long q0), .second, .val (.long q1), .second, .val (.long q2), .second, .val (.long q3), .second, .val (.int p4), .val (.long v1), .second, .val (.long v2), .second, .val (.ref b3), .val (.ref b7), .val (.int v11), .val .null, .val (.int (0 : Int32)), .unset]) rfl at_105 rfl (q := 107) ?_
      refine o_goto S at_107 (by decide) (q := 135) (by decide) ?_
      refine o_aload S rfl rfl at_135 rfl (q := 137) ?_
      refine o_aload S rfl rfl at_137 rfl (q := 139) ?_
      refine o_callV0 S (W := 0) (argsL := [.null]) (rest := []) (a := b3) (o_wd (i := 18) hw rfl) (o_wd (i := 19) hw rfl) (o_wd (i := 21) hw rfl) (o_wd (i := 20) hw rfl) (o_wd (i := 2) hw rfl) (o_wd (i := 22) hw rfl) (o_nf (o_wd (i := 21) hw rfl)) (by decide) E_b3 (ct_4n l Z a0 hw b3 h9 n0 (o_n0 S) E_b3) (by decide) (by decide) rfl rfl pd_3 rfl (Nat.le_of_eq rfl) at_139 rfl (q := 142) (by decide) (by decide) rfl (st' := [(.int (0 : Int32))]) (fun T S => ?_)
      refine o_istore S (L' := #[.val (.long q0), .second, .val (.long q1), .second, .val (.long q2), .second, .val (.long q3), .second, .val (.int p4), .val (.long v1), .second, .val (.long v2), .second, .val (.ref b3), .val (.ref b7), .val (.int v11), .val .null, .val (.int (0 : Int32)), .val (.int (0 : Int32))]) rfl at_142 rfl (q := 144) ?_
      refine o_iload S rfl at_144 rfl (q := 146) ?_
      refine o_iload S rfl at_146 rfl (q := 148) ?_
      refine o_icmp S at_148 (by decide) (q' := 153) (by decide) (q := 151) rfl hs_eq.1 hs_eq.2 (fun hc148 => ?_) (fun hc148 => ?_)
      · skip
        refine o_iload S rfl at_153 rfl (q := 155) ?_
        refine o_if S at_155 (by decide) (q' := 176) (by decide) (q := 158) rfl hs_ne.1 hs_ne.2 (fun hc155 => ?_) (fun hc155 => ?_)
        · skip
          refine o_iconst S (z := 1) rfl at_176 rfl (q := 177) ?_
          refine o_retN S (t := .boolean) rfl (by simp) at_177 (by decide) (by decide) rfl ?_
          rfl
        · exact absurd hc64 hc155
      · exact absurd rfl hc148
  · skip
    refine o_aload S rfl rfl at_67 rfl (q := 69) ?_
    refine o_astore S (L' := #[.val (.long q0), .second, .val (.long q1), .second, .val (.long q2), .second, .val (.long q3), .second, .val (.int p4), .val (.long v1), .second, .val (.long v2), .second, .val (.ref b3), .val (.ref b7), .val (.int v11), .val (.ref b7), .unset, .unset]) rfl rfl at_69 rfl (q := 71) ?_
    refine o_lloadN S rfl at_71 rfl (q := 72) ?_
    refine o_lload S rfl at_72 rfl (q := 74) ?_
    refine o_lcmp S at_74 rfl (q := 75) ?_
    refine o_cutS S (G := fun T => ∀ (v16 : Int32), v16 = (if ¬ q0 = v1 then (0 : Int32) else (if ¬ q1 = v2 then (0 : Int32) else (1 : Int32))) → Wp p e below (Po s n0 room_1 Q0) T (mkF m 90 #[.val (.long q0), .second, .val (.long q1), .second, .val (.long q2), .second, .val (.long q3), .second, .val (.int p4), .val (.long v1), .second, .val (.long v2), .second, .val (.ref b3), .val (.ref b7), .val (.int v11), .val (.ref b7), .unset, .unset] [(.int v16)])) (fun k75 => ?_) (fun T S v16 hv16 => ?_)
    · skip
      refine o_if S at_75 (by decide) (q' := 89) (by decide) (q := 78) rfl hl_ne.1 hl_ne.2 (fun hc75 => ?_) (fun hc75 => ?_)
      · skip
        refine o_iconst S (z := 0) rfl at_89 rfl (q := 90) ?_
        exact k75 _ S _ (by rw [if_pos hc75])
      · skip
        refine o_lloadN S rfl at_78 rfl (q := 79) ?_
        refine o_lload S rfl at_79 rfl (q := 81) ?_
        refine o_lcmp S at_81 rfl (q := 82) ?_
        refine o_if S at_82 (by decide) (q' := 89) (by decide) (q := 85) rfl hl_ne.1 hl_ne.2 (fun hc82 => ?_) (fun hc82 => ?_)
        · skip
          refine o_iconst S (z := 0) rfl at_89 rfl (q := 90) ?_
          exact k75 _ S _ (by rw [if_neg hc75, if_pos hc82])
        · skip
          refine o_iconst S (z := 1) rfl at_85 rfl (q := 86) ?_
          refine o_goto S at_86 (by decide) (q := 90) (by decide) ?_
          exact k75 _ S _ (by rw [if_neg hc75, if_neg hc82])
    refine o_istore S (L' := #[.val (.long q0), .second, .val (.long q1), .second, .val (.long q2), .second, .val (.long q3), .second, .val (.int p4), .val (.long v1), .second, .val (.long v2), .second, .val (.ref b3), .val (.ref b7), .val (.int v11), .val (.ref b7), .val (.int v16), .unset]) rfl at_90 rfl (q := 92) ?_
    refine o_goto S at_92 (by decide) (q := 135) (by decide) ?_
    refine o_aload S rfl rfl at_135 rfl (q := 137) ?_
    refine o_aload S rfl rfl at_137 rfl (q := 139) ?_
    refine o_callV0 S (W := 0) (argsL := [(.ref b7)]) (rest := []) (a := b3) (o_wd (i := 18) hw rfl) (o_wd (i := 19) hw rfl) (o_wd (i := 21) hw rfl) (o_wd (i := 20) hw rfl) (o_wd (i := 2) hw rfl) (o_wd (i := 22) hw rfl) (o_nf (o_wd (i := 21) hw rfl)) (by decide) E_b3 (ct_4s l Z a0 hw b3 b7 q0 q1 v1 v2 h9 n0 (o_n0 S) E_b3 E_b7 F_mostSignificantBits_b3 F_leastSignificantBits_b3 F_mostSignificantBits_b7 F_leastSignificantBits_b7) (by decide) (by decide) rfl rfl pd_3 rfl (Nat.le_of_eq rfl) at_139 rfl (q := 142) (by decide) (by decide) rfl (st' := [(.int (f_eq q0 q1 v1 v2))]) (fun T S => ?_)
    refine o_istoreV S (L' := fun v17 => #[.val (.long q0), .second, .val (.long q1), .second, .val (.long q2), .second, .val (.long q3), .second, .val (.int p4), .val (.long v1), .second, .val (.long v2), .second, .val (.ref b3), .val (.ref b7), .val (.int v11), .val (.ref b7), .val (.int v16), .val (.int v17)]) (fun _ => rfl) at_142 rfl (q := 144) (fun v17 hv17 => ?_)
    refine o_iload S rfl at_144 rfl (q := 146) ?_
    refine o_iload S rfl at_146 rfl (q := 148) ?_
    refine o_icmp S at_148 (by decide) (q' := 153) (by decide) (q := 151) rfl hs_eq.1 hs_eq.2 (fun hc148 => ?_) (fun hc148 => ?_)
    · skip
      refine o_iload S rfl at_153 rfl (q := 155) ?_
      refine o_if S at_155 (by decide) (q' := 176) (by decide) (q := 158) rfl hs_ne.1 hs_ne.2 (fun hc155 => ?_) (fun hc155 => ?_)
      · exact absurd hc155 hc64
      · skip
        refine o_aload S rfl rfl at_158 rfl (q := 160) ?_
        refine o_aload S rfl rfl at_160 rfl (q := 162) ?_
        refine o_callV0 S (W := 0) (argsL := [(.ref b3)]) (rest := []) (a := b7) (o_wd (i := 18) hw rfl) (o_wd (i := 19) hw rfl) (o_wd (i := 21) hw rfl) (o_wd (i := 20) hw rfl) (o_wd (i := 2) hw rfl) (o_wd (i := 22) hw rfl) (o_nf (o_wd (i := 21) hw rfl)) (by decide) E_b7 (ct_4s l Z a0 hw b7 b3 v1 v2 q0 q1 h9 n0 (o_n0 S) E_b7 E_b3 F_mostSignificantBits_b7 F_leastSignificantBits_b7 F_mostSignificantBits_b3 F_leastSignificantBits_b3) (by decide) (by decide) rfl rfl pd_3 rfl (Nat.le_of_eq rfl) at_162 rfl (q := 165) (by decide) (by decide) rfl (st' := [(.int (f_eq v1 v2 q0 q1))]) (fun T S => ?_)
        refine o_iload S rfl at_165 rfl (q := 167) ?_
        refine o_icmp S at_167 (by decide) (q' := 174) (by decide) (q := 170) rfl hs_ne.1 hs_ne.2 (fun hc167 => ?_) (fun hc167 => ?_)
        · exact absurd ((plain_sym _ _ _ _).trans (by rw [hv16]; exact plain_eq _ _ _ _)) hc167
        · skip
          refine o_iconst S (z := 1) rfl at_170 rfl (q := 171) ?_
          refine o_goto S at_171 (by decide) (q := 175) (by decide) ?_
          refine o_retN S (t := .boolean) rfl (by simp) at_175 (by decide) (by decide) rfl ?_
          rfl
    · exact absurd (by rw [hv17, hv16]; exact plain_eq _ _ _ _) hc148
set_option maxRecDepth 65536 in
set_option maxHeartbeats 40000000 in
theorem comes_1 {Post : Tables → Env → Array Value → State → Outcome → State → Prop} (hpost : ∀ tb e args s v u, (limb_1_1.after args s (.returned v) u = true ∧ limb_1_2.after args s (.returned v) u = true ∧ True) → FrameEnd s (.returned v) u (Jvm.fieldLocs frame_1_writes args s ++ Jvm.arrayLocs frame_1_arrays args s ++ Jvm.staticLocs frame_1_statics s) 16 128 → Post tb e args s (.returned v) u) :
    ArmFor flags0 classFile x code maxLocals ret World_1 tables_1 room_1 Calls_1 rest_1 Pre_1 Post := by
  intro l hfl _ _ p e ha hc hk s m args below hf hA hF happ hP
  obtain ⟨hcalls, hrest, hpre⟩ := hP
  obtain ⟨-, -, -, hnamed, -, -, -, hat⟩ := (Spec.applies_iff hf).mp happ
  obtain ⟨hg, hn⟩ := and_e (Cond.before_iff.mp (show (Jvm.Cond.and given_1 narrow_1).before args s = true from hpre))
  obtain ⟨g0, g⟩ := and_e hg
  obtain ⟨w0, w1, w2, w3, w4, rfl⟩ : ∃ w0 w1 w2 w3 w4 : Value, args = #[w0, w1, w2, w3, w4] := by
    have hs : args.size = 5 := by simpa [Cond.value, given_1] using g0
    obtain ⟨L⟩ := args
    match L, hs with
    | [w0, w1, w2, w3, w4], _ => exact ⟨w0, w1, w2, w3, w4, rfl⟩
  have hw := fun d (hd : d ∈ tables_1) => atoms_spec (ws := Jvm.Cond.code x code maxLocals ret :: tables_1) hat d (List.mem_cons_of_mem _ hd)
  obtain ⟨g1, gr1⟩ := and_e g
  obtain ⟨i0, ei0⟩ := isL_v g1
  obtain rfl : w0 = (.long i0) := Option.some.inj ei0
  obtain ⟨g2, gr2⟩ := and_e gr1
  obtain ⟨i1, ei1⟩ := isL_v g2
  obtain rfl : w1 = (.long i1) := Option.some.inj ei1
  obtain ⟨g3, gr3⟩ := and_e gr2
  obtain ⟨i2, ei2⟩ := isL_v g3
  obtain rfl : w2 = (.long i2) := Option.some.inj ei2
  obtain ⟨g4, gr4⟩ := and_e gr3
  obtain ⟨i3, ei3⟩ := isL_v g4
  obtain rfl : w3 = (.long i3) := Option.some.inj ei3
  obtain ⟨i4, ei4⟩ := is_v gr4
  obtain rfl : w4 = (.int i4) := Option.some.inj ei4
  obtain ⟨hsets, hown0⟩ := atoms_of _ (rest_1_c_eq ▸ (show rest_1_c.before _ s = true from hrest))
  obtain ⟨ca, eca⟩ := arr_v (Cond.before_iff.mp (hsets _ (List.mem_of_getElem? (i := 2) rfl)))
  have SC := Sta.start eca (Or.inl (hsets _ (List.mem_of_getElem? (i := 1) rfl)))
  obtain ⟨cc, AC⟩ := Arr.start eca (Cond.before_iff.mp (hsets _ (List.mem_of_getElem? (i := 2) rfl)))
  have hlen := eqv_i (y := 256) (Term.int_eval 256) (Cond.before_iff.mp (hsets _ (List.mem_of_getElem? (i := 4) rfl)))
  have hsz : cc.slots.size < 2 ^ 31 ∧ cc.slots.size.toInt32 = 256 := own_len eca (AC.fin (Vm.Alike.refl _)) hlen
  have BX := Bxs.start (val := fun j => .long (j - 128).toInt64) (d := "J") (fun idx => (show (Term.static "java/lang/Long$LongCache" "cache" "[Ljava/lang/Long;").eval _ s none idx s = _ from eca)) AC hsz.1 hsz.2 (by decide) (Cond.before_iff.mp (hsets _ (List.mem_of_getElem? (i := 5) rfl))) (fun X j nn hj => eqv_l (i2l_at (by simp [Term.eval, Term.index_eval, (back32 nn).1])) hj)
  obtain ⟨n, o, h1, h2, h3, _, L, rfl, ⟨rfl, N⟩, hq⟩ := ct_0 l s _ hw tables_1 i0 i1 i2 i3 i4 ca cc s.heap s.heap.size (Nat.le_refl _) (Old.start s) SC BX p e ha hc hk s m _ below hf ((Spec.applies_iff_loose hf).mp happ).1 ⟨rfl, State.Warmed39.refl s, rfl⟩ trivial
  refine ⟨n, _, h1, h2, h3, hpost _ _ _ _ _ _ ⟨Cond.after_iff.mpr rfl, Cond.after_iff.mpr (eq_i res_at (Term.int_eval (1)) rfl), trivial⟩ ⟨hq.1, hq.2.1, (hq.2.2.sift fun y hy => Or.inr (N y hy)).mono (by decide) (by decide)⟩⟩
theorem main_1_1 : Claimed_1_1 := comes_1 fun _ _ _ _ _ _ h hF => ⟨h.1, hF⟩
theorem main_1_2 : Claimed_1_2 := comes_1 fun _ _ _ _ _ _ h hF => ⟨h.2.1, hF⟩
end Jvm.Pilot.@@N@@
namespace Jvm.Pilot.@@N@@
open Jvm Jvm.ClassFile Sem Op Lib Jvm.Free Jvm.Stand Jvm.Pilot.@@N@@.Jvm.D
/-! MADE BY PROGRAM (witnessworld.py) out of the Statement's table words and the real class files: 17 classes; the members and pool entries that the words name. The judged class is class 1, her method 1. -/
namespace start1
open Jvm.ClassFile
def u (s : String) : CpInfo := .utf8 (stringToUtf16 s)
/-- a pool by its gaps: so many unusable entries, then the entry; so many at the end -/
def gap : Nat → List CpInfo → List CpInfo
  | 0, r => r
  | n + 1, r => .unusable :: gap n r
def poolList (es : List (Nat × CpInfo)) (last : Nat) : List CpInfo := es.foldr (fun e r => gap e.1 (e.2 :: r)) (gap last [])
def pool (es : List (Nat × CpInfo)) (last : Nat) : Array CpInfo := ⟨poolList es last⟩
def fileOf (pool : Array CpInfo) (this : Nat) (attrs : Array Attribute := #[]) (ms : Array MethodInfo := #[]) (fl : Nat := 33) (sup : Nat := 0) (ifs : Array Nat := #[]) (fds : Array FieldInfo := #[]) : ClassFile where
  minorVersion := 0
  majorVersion := 65
  constantPool := pool
  accessFlags := fl
  thisClass := this
  superClass := sup
  interfaces := ifs
  fields := fds
  methods := ms
  attributes := attrs
def plain (name : String) (sup : Option ClassId) : Class where
  name := name
  kind := .ordinary
  loader := none
  accessFlags := 33
  super := sup
  interfaces := #[]
  cf := none
  fields := #[]
  methods := #[]
  instanceTypes := #[]
  staticTypes := #[]
  resolved := #[]
  callSites := []
  init := .initialized
  statics := none
  mirror := none

def pool0 : Array CpInfo := pool [(5, u "<init>"), (0, u "()V"), (1, .class_ 10), (1, u "java/lang/Object")] 113

def k0c0 : Code := { maxStack := 0, maxLocals := 1, code := object_method_1_code, exceptionTable := #[], attributes := #[] }
def k0m0 : Method := { name := "<init>", desc := "()V", sig := { parameters := [], returnType := none }, accessFlags := 1, code := some k0c0 }
/-- java/lang/Object -/
def k0 : Class := { plain "java/lang/Object" none with
  accessFlags := 33
  interfaces := #[]
  cf := some (fileOf pool0 8 #[] #[{ accessFlags := 1, nameIndex := 5, descriptorIndex := 6, attributes := #[] }] 33 0 #[] #[])
  fields := #[]
  methods := #[k0m0]
  instanceTypes := #[]
  staticTypes := #[]
  resolved := Array.replicate 124 none
  statics := none }

def pool1 : Array CpInfo := pool [(2, .class_ 4), (1, u "java/lang/Object"), (0, u "<init>"), (0, u "()V"), (0, .class_ 8), (0, u "com/example/sediment/sediment/segment/SegmentId"), (0, .methodref 7 10), (0, .nameAndType 5 11), (0, u "(JJ)V"), (0, .methodref 13 14), (0, .class_ 15), (0, .nameAndType 16 17), (0, u "java/lang/Long"), (0, u "valueOf"), (0, u "(J)Ljava/lang/Long;"), (0, .methodref 7 19), (0, .nameAndType 20 21), (0, u "equals"), (0, u "(Ljava/lang/Object;)Z"), (0, .class_ 23), (0, u "com/example/sediment/sediment/segment/SegmentIdEqualsPinLaw"), (2, u "law"), (0, u "(JJJJI)Z")] 3

def k1m0 : Method := { name := "<init>", desc := "()V", sig := { parameters := [], returnType := none }, accessFlags := 1, code := none }
def k1c1 : Code := { maxStack := 6, maxLocals := 19, code := code, exceptionTable := #[], attributes := #[] }
def k1m1 : Method := { name := "law", desc := "(JJJJI)Z", sig := { parameters := [.long, .long, .long, .long, .int], returnType := some .boolean }, accessFlags := 9, code := some k1c1 }
/-- com/example/sediment/sediment/segment/SegmentIdEqualsPinLaw -/
def k1 : Class := { plain "com/example/sediment/sediment/segment/SegmentIdEqualsPinLaw" (some 0) with
  accessFlags := 49
  interfaces := #[]
  cf := some (fileOf pool1 22 #[] #[{ accessFlags := 1, nameIndex := 5, descriptorIndex := 6, attributes := #[] }, { accessFlags := 9, nameIndex := 26, descriptorIndex := 27, attributes := #[] }] 49 2 #[] #[])
  fields := #[]
  methods := #[k1m0, k1m1]
  instanceTypes := #[]
  staticTypes := #[]
  resolved := Array.replicate 31 none
  statics := none }

def pool2 : Array CpInfo := pool [(1, .methodref 2 3), (0, .class_ 4), (0, .nameAndType 5 6), (0, u "java/lang/Object"), (0, u "<init>"), (0, u "()V"), (0, .class_ 8), (0, u "java/lang/Record")] 13

def k2c0 : Code := { maxStack := 1, maxLocals := 1, code := jdk_30_method_1_code, exceptionTable := #[], attributes := #[] }
def k2m0 : Method := { name := "<init>", desc := "()V", sig := { parameters := [], returnType := none }, accessFlags := 4, code := some k2c0 }
/-- java/lang/Record -/
def k2 : Class := { plain "java/lang/Record" (some 0) with
  accessFlags := 1057
  interfaces := #[]
  cf := some (fileOf pool2 7 #[] #[{ accessFlags := 4, nameIndex := 5, descriptorIndex := 6, attributes := #[] }] 1057 2 #[] #[])
  fields := #[]
  methods := #[k2m0]
  instanceTypes := #[]
  staticTypes := #[]
  resolved := Array.replicate 22 none
  statics := none }

def pool3 : Array CpInfo := pool [(1, .methodref 2 3), (0, .class_ 4), (0, .nameAndType 5 6), (0, u "java/lang/Record"), (0, u "<init>"), (0, u "()V"), (0, .fieldref 8 9), (0, .class_ 10), (0, .nameAndType 11 12), (0, u "com/example/sediment/sediment/segment/SegmentId"), (0, u "mostSignificantBits"), (0, u "J"), (0, .fieldref 8 14), (0, .nameAndType 15 12), (0, u "leastSignificantBits"), (9, .class_ 27), (1, u "com/example/sediment/sediment/segment/SegmentId$RandomBits"), (10, u "(JJ)V"), (46, u "TEXT_LENGTH"), (0, u "I"), (2, u "VERSION_MASK"), (2, u "VERSION_4"), (0, u "KIND_MASK"), (0, u "DATA_KIND"), (0, u "BULK_KIND"), (13, u "equals"), (0, u "(Ljava/lang/Object;)Z")] 6

def k3c0 : Code := { maxStack := 3, maxLocals := 5, code := prog_43_method_1_code, exceptionTable := #[], attributes := #[] }
def k3m0 : Method := { name := "<init>", desc := "(JJ)V", sig := { parameters := [.long, .long], returnType := none }, accessFlags := 1, code := some k3c0 }
def k3c1 : Code := { maxStack := 4, maxLocals := 3, code := prog_43_method_7_code, exceptionTable := #[], attributes := #[] }
def k3m1 : Method := { name := "equals", desc := "(Ljava/lang/Object;)Z", sig := { parameters := [(.object "java/lang/Object")], returnType := some .boolean }, accessFlags := 1, code := some k3c1 }
/-- com/example/sediment/sediment/segment/SegmentId -/
def k3 : Class := { plain "com/example/sediment/sediment/segment/SegmentId" (some 2) with
  accessFlags := 49
  interfaces := #[]
  cf := some (fileOf pool3 8 #[.nestMembers #[25]] #[{ accessFlags := 1, nameIndex := 5, descriptorIndex := 38, attributes := #[] }, { accessFlags := 1, nameIndex := 109, descriptorIndex := 110, attributes := #[] }] 49 2 #[] #[{ accessFlags := 18, nameIndex := 11, descriptorIndex := 12, attributes := #[] }, { accessFlags := 18, nameIndex := 15, descriptorIndex := 12, attributes := #[] }, { accessFlags := 26, nameIndex := 85, descriptorIndex := 86, attributes := #[] }, { accessFlags := 26, nameIndex := 89, descriptorIndex := 12, attributes := #[] }, { accessFlags := 26, nameIndex := 92, descriptorIndex := 12, attributes := #[] }, { accessFlags := 26, nameIndex := 93, descriptorIndex := 12, attributes := #[] }, { accessFlags := 26, nameIndex := 94, descriptorIndex := 12, attributes := #[] }, { accessFlags := 26, nameIndex := 95, descriptorIndex := 12, attributes := #[] }])
  fields := #[{ name := "mostSignificantBits", type := .long, accessFlags := 18, slot := 0, constantValue := 0 }, { name := "leastSignificantBits", type := .long, accessFlags := 18, slot := 1, constantValue := 0 }, { name := "TEXT_LENGTH", type := .int, accessFlags := 26, slot := 0, constantValue := 0 }, { name := "VERSION_MASK", type := .long, accessFlags := 26, slot := 1, constantValue := 0 }, { name := "VERSION_4", type := .long, accessFlags := 26, slot := 2, constantValue := 0 }, { name := "KIND_MASK", type := .long, accessFlags := 26, slot := 3, constantValue := 0 }, { name := "DATA_KIND", type := .long, accessFlags := 26, slot := 4, constantValue := 0 }, { name := "BULK_KIND", type := .long, accessFlags := 26, slot := 5, constantValue := 0 }]
  methods := #[k3m0, k3m1]
  instanceTypes := #[.long, .long]
  staticTypes := #[.int, .long, .long, .long, .long, .long]
  resolved := Array.replicate 117 none
  statics := none }

def pool4 : Array CpInfo := pool [(1, .class_ 2), (0, u "java/io/Serializable"), (0, .class_ 4), (0, u "java/lang/Object")] 2

/-- java/io/Serializable -/
def k4 : Class := { plain "java/io/Serializable" (some 0) with
  accessFlags := 1537
  interfaces := #[]
  cf := some (fileOf pool4 1 #[] #[] 1537 3 #[] #[])
  fields := #[]
  methods := #[]
  instanceTypes := #[]
  staticTypes := #[]
  resolved := Array.replicate 7 none
  statics := none }

def pool5 : Array CpInfo := pool [(1, .methodref 2 3), (0, .class_ 4), (0, .nameAndType 5 6), (0, u "java/lang/Object"), (0, u "<init>"), (0, u "()V"), (1, .class_ 10), (1, u "java/lang/Number"), (2, .class_ 14), (0, u "java/io/Serializable"), (0, u "serialVersionUID"), (0, u "J")] 20

def k5c0 : Code := { maxStack := 1, maxLocals := 1, code := jdk_18_method_1_code, exceptionTable := #[], attributes := #[] }
def k5m0 : Method := { name := "<init>", desc := "()V", sig := { parameters := [], returnType := none }, accessFlags := 1, code := some k5c0 }
/-- java/lang/Number -/
def k5 : Class := { plain "java/lang/Number" (some 0) with
  accessFlags := 1057
  interfaces := #[4]
  cf := some (fileOf pool5 8 #[] #[{ accessFlags := 1, nameIndex := 5, descriptorIndex := 6, attributes := #[] }] 1057 2 #[13] #[{ accessFlags := 26, nameIndex := 15, descriptorIndex := 16, attributes := #[] }])
  fields := #[{ name := "serialVersionUID", type := .long, accessFlags := 26, slot := 0, constantValue := 0 }]
  methods := #[k5m0]
  instanceTypes := #[]
  staticTypes := #[.long]
  resolved := Array.replicate 37 none
  statics := none }

def pool6 : Array CpInfo := pool [(1, .class_ 2), (0, u "java/lang/Comparable"), (0, .class_ 4), (0, u "java/lang/Object")] 7

/-- java/lang/Comparable -/
def k6 : Class := { plain "java/lang/Comparable" (some 0) with
  accessFlags := 1537
  interfaces := #[]
  cf := some (fileOf pool6 1 #[] #[] 1537 3 #[] #[])
  fields := #[]
  methods := #[]
  instanceTypes := #[]
  staticTypes := #[]
  resolved := Array.replicate 12 none
  statics := none }

def pool7 : Array CpInfo := pool [(1, .class_ 2), (0, u "java/lang/constant/Constable"), (0, .class_ 4), (0, u "java/lang/Object")] 6

/-- java/lang/constant/Constable -/
def k7 : Class := { plain "java/lang/constant/Constable" (some 0) with
  accessFlags := 1537
  interfaces := #[]
  cf := some (fileOf pool7 1 #[] #[] 1537 3 #[] #[])
  fields := #[]
  methods := #[]
  instanceTypes := #[]
  staticTypes := #[]
  resolved := Array.replicate 11 none
  statics := none }

def pool8 : Array CpInfo := pool [(1, .class_ 2), (0, u "java/lang/constant/ConstantDesc"), (0, .class_ 4), (0, u "java/lang/Object")] 32

/-- java/lang/constant/ConstantDesc -/
def k8 : Class := { plain "java/lang/constant/ConstantDesc" (some 0) with
  accessFlags := 1537
  interfaces := #[]
  cf := some (fileOf pool8 1 #[] #[] 1537 3 #[] #[])
  fields := #[]
  methods := #[]
  instanceTypes := #[]
  staticTypes := #[]
  resolved := Array.replicate 37 none
  statics := none }

def pool9 : Array CpInfo := pool [(1, .class_ 2), (0, u "java/lang/Long"), (55, .nameAndType 59 60), (0, u "<init>"), (0, u "()V"), (24, u "valueOf"), (143, u "(J)Ljava/lang/Long;"), (0, .long 18446744073709551488), (1, .long 127), (1, .fieldref 235 236), (0, .class_ 237), (0, .nameAndType 238 239), (0, u "java/lang/Long$LongCache"), (0, u "cache"), (0, u "[Ljava/lang/Long;"), (0, .methodref 1 241), (0, .nameAndType 59 242), (0, u "(J)V"), (27, .methodref 271 58), (0, .class_ 272), (0, u "java/lang/Number"), (0, .fieldref 1 274), (0, .nameAndType 275 276), (0, u "value"), (0, u "J"), (84, u "TYPE"), (0, u "Ljava/lang/Class;"), (0, .class_ 364), (0, u "java/lang/Comparable"), (0, .class_ 366), (0, u "java/lang/constant/Constable"), (0, .class_ 368), (0, u "java/lang/constant/ConstantDesc"), (0, u "MIN_VALUE"), (1, u "MAX_VALUE"), (4, u "SIZE"), (0, u "I"), (1, u "BYTES"), (1, u "serialVersionUID")] 142

def k9c0 : Code := { maxStack := 4, maxLocals := 3, code := jdk_35_method_24_code, exceptionTable := #[], attributes := #[] }
def k9m0 : Method := { name := "valueOf", desc := "(J)Ljava/lang/Long;", sig := { parameters := [.long], returnType := some (.object "java/lang/Long") }, accessFlags := 9, code := some k9c0 }
def k9c1 : Code := { maxStack := 3, maxLocals := 3, code := jdk_35_method_26_code, exceptionTable := #[], attributes := #[] }
def k9m1 : Method := { name := "<init>", desc := "(J)V", sig := { parameters := [.long], returnType := none }, accessFlags := 1, code := some k9c1 }
/-- java/lang/Long -/
def k9 : Class := { plain "java/lang/Long" (some 5) with
  accessFlags := 49
  interfaces := #[6, 7, 8]
  cf := some (fileOf pool9 1 #[.nestMembers #[235]] #[{ accessFlags := 9, nameIndex := 85, descriptorIndex := 229, attributes := #[] }, { accessFlags := 1, nameIndex := 59, descriptorIndex := 242, attributes := #[] }] 49 271 #[363, 365, 367] #[{ accessFlags := 25, nameIndex := 369, descriptorIndex := 276, attributes := #[] }, { accessFlags := 25, nameIndex := 371, descriptorIndex := 276, attributes := #[] }, { accessFlags := 25, nameIndex := 361, descriptorIndex := 362, attributes := #[] }, { accessFlags := 18, nameIndex := 275, descriptorIndex := 276, attributes := #[] }, { accessFlags := 25, nameIndex := 376, descriptorIndex := 377, attributes := #[] }, { accessFlags := 25, nameIndex := 379, descriptorIndex := 377, attributes := #[] }, { accessFlags := 26, nameIndex := 381, descriptorIndex := 276, attributes := #[] }])
  fields := #[{ name := "MIN_VALUE", type := .long, accessFlags := 25, slot := 0, constantValue := 0 }, { name := "MAX_VALUE", type := .long, accessFlags := 25, slot := 1, constantValue := 0 }, { name := "TYPE", type := (.object "java/lang/Class"), accessFlags := 25, slot := 2, constantValue := 0 }, { name := "value", type := .long, accessFlags := 18, slot := 0, constantValue := 0 }, { name := "SIZE", type := .int, accessFlags := 25, slot := 3, constantValue := 0 }, { name := "BYTES", type := .int, accessFlags := 25, slot := 4, constantValue := 0 }, { name := "serialVersionUID", type := .long, accessFlags := 26, slot := 5, constantValue := 0 }]
  methods := #[k9m0, k9m1]
  instanceTypes := #[.long]
  staticTypes := #[.long, .long, (.object "java/lang/Class"), .int, .int, .long]
  resolved := Array.replicate 524 none
  statics := none }

def pool10 : Array CpInfo := pool [(2, .class_ 4), (1, u "java/lang/Object"), (0, u "<init>"), (0, u "()V"), (0, .class_ 8), (0, u "java/lang/Long"), (7, .class_ 18), (1, u "java/lang/Long$LongCache"), (0, u "$assertionsDisabled"), (0, u "Z"), (8, u "archivedCache"), (0, u "[Ljava/lang/Long;"), (7, u "cache")] 24

def k10m0 : Method := { name := "<init>", desc := "()V", sig := { parameters := [], returnType := none }, accessFlags := 2, code := none }
/-- java/lang/Long$LongCache -/
def k10 : Class := { plain "java/lang/Long$LongCache" (some 0) with
  accessFlags := 48
  interfaces := #[]
  cf := some (fileOf pool10 16 #[.nestHost 7] #[{ accessFlags := 2, nameIndex := 5, descriptorIndex := 6, attributes := #[] }] 48 2 #[] #[{ accessFlags := 24, nameIndex := 38, descriptorIndex := 30, attributes := #[] }, { accessFlags := 8, nameIndex := 29, descriptorIndex := 30, attributes := #[] }, { accessFlags := 4120, nameIndex := 19, descriptorIndex := 20, attributes := #[] }])
  fields := #[{ name := "cache", type := (.array (.object "java/lang/Long")), accessFlags := 24, slot := 0, constantValue := 0 }, { name := "archivedCache", type := (.array (.object "java/lang/Long")), accessFlags := 8, slot := 1, constantValue := 0 }, { name := "$assertionsDisabled", type := .boolean, accessFlags := 4120, slot := 2, constantValue := 0 }]
  methods := #[k10m0]
  instanceTypes := #[]
  staticTypes := #[(.array (.object "java/lang/Long")), (.array (.object "java/lang/Long")), .boolean]
  resolved := Array.replicate 63 none
  statics := some 0 }

def pool11 : Array CpInfo := pool [(1, u "java/lang/Cloneable"), (0, .class_ 1), (0, u "java/lang/Object"), (0, .class_ 3)] 3

/-- java/lang/Cloneable -/
def k11 : Class := { plain "java/lang/Cloneable" (some 0) with
  accessFlags := 1537
  interfaces := #[]
  cf := some (fileOf pool11 2 #[] #[] 1537 4 #[] #[])
  fields := #[]
  methods := #[]
  instanceTypes := #[]
  staticTypes := #[]
  resolved := Array.replicate 8 none
  statics := none }

/-- the primitive byte -/
def k12 : Class := { plain "byte" none with kind := .primitive 'B', accessFlags := 0x411 }
/-- [B -/
def k13 : Class := { plain "[B" (some 0) with kind := .array 12 .byte, interfaces := #[11, 4], accessFlags := 1041 }

/-- the primitive int -/
def k14 : Class := { plain "int" none with kind := .primitive 'I', accessFlags := 0x411 }
/-- [I -/
def k15 : Class := { plain "[I" (some 0) with kind := .array 14 .int, interfaces := #[11, 4], accessFlags := 1041 }

/-- [Ljava/lang/Long; -/
def k16 : Class := { plain "[Ljava/lang/Long;" (some 0) with kind := .array 9 (.object "java/lang/Long"), interfaces := #[11, 4], accessFlags := 1041 }

def heap : Heap := #[{ cls := 10, slots := #[.ref 1, .null, .int 0], vm := .statics 10 },
  { cls := 16, slots := #[.ref 2, .ref 3, .ref 4, .ref 5, .ref 6, .ref 7, .ref 8, .ref 9, .ref 10, .ref 11, .ref 12, .ref 13, .ref 14, .ref 15, .ref 16, .ref 17, .ref 18, .ref 19, .ref 20, .ref 21, .ref 22, .ref 23, .ref 24, .ref 25, .ref 26, .ref 27, .ref 28, .ref 29, .ref 30, .ref 31, .ref 32, .ref 33, .ref 34, .ref 35, .ref 36, .ref 37, .ref 38, .ref 39, .ref 40, .ref 41, .ref 42, .ref 43, .ref 44, .ref 45, .ref 46, .ref 47, .ref 48, .ref 49, .ref 50, .ref 51, .ref 52, .ref 53, .ref 54, .ref 55, .ref 56, .ref 57, .ref 58, .ref 59, .ref 60, .ref 61, .ref 62, .ref 63, .ref 64, .ref 65, .ref 66, .ref 67, .ref 68, .ref 69, .ref 70, .ref 71, .ref 72, .ref 73, .ref 74, .ref 75, .ref 76, .ref 77, .ref 78, .ref 79, .ref 80, .ref 81, .ref 82, .ref 83, .ref 84, .ref 85, .ref 86, .ref 87, .ref 88, .ref 89, .ref 90, .ref 91, .ref 92, .ref 93, .ref 94, .ref 95, .ref 96, .ref 97, .ref 98, .ref 99, .ref 100, .ref 101, .ref 102, .ref 103, .ref 104, .ref 105, .ref 106, .ref 107, .ref 108, .ref 109, .ref 110, .ref 111, .ref 112, .ref 113, .ref 114, .ref 115, .ref 116, .ref 117, .ref 118, .ref 119, .ref 120, .ref 121, .ref 122, .ref 123, .ref 124, .ref 125, .ref 126, .ref 127, .ref 128, .ref 129, .ref 130, .ref 131, .ref 132, .ref 133, .ref 134, .ref 135, .ref 136, .ref 137, .ref 138, .ref 139, .ref 140, .ref 141, .ref 142, .ref 143, .ref 144, .ref 145, .ref 146, .ref 147, .ref 148, .ref 149, .ref 150, .ref 151, .ref 152, .ref 153, .ref 154, .ref 155, .ref 156, .ref 157, .ref 158, .ref 159, .ref 160, .ref 161, .ref 162, .ref 163, .ref 164, .ref 165, .ref 166, .ref 167, .ref 168, .ref 169, .ref 170, .ref 171, .ref 172, .ref 173, .ref 174, .ref 175, .ref 176, .ref 177, .ref 178, .ref 179, .ref 180, .ref 181, .ref 182, .ref 183, .ref 184, .ref 185, .ref 186, .ref 187, .ref 188, .ref 189, .ref 190, .ref 191, .ref 192, .ref 193, .ref 194, .ref 195, .ref 196, .ref 197, .ref 198, .ref 199, .ref 200, .ref 201, .ref 202, .ref 203, .ref 204, .ref 205, .ref 206, .ref 207, .ref 208, .ref 209, .ref 210, .ref 211, .ref 212, .ref 213, .ref 214, .ref 215, .ref 216, .ref 217, .ref 218, .ref 219, .ref 220, .ref 221, .ref 222, .ref 223, .ref 224, .ref 225, .ref 226, .ref 227, .ref 228, .ref 229, .ref 230, .ref 231, .ref 232, .ref 233, .ref 234, .ref 235, .ref 236, .ref 237, .ref 238, .ref 239, .ref 240, .ref 241, .ref 242, .ref 243, .ref 244, .ref 245, .ref 246, .ref 247, .ref 248, .ref 249, .ref 250, .ref 251, .ref 252, .ref 253, .ref 254, .ref 255, .ref 256, .ref 257], vm := .none },
  { cls := 9, slots := #[.long (-128)], vm := .none },
  { cls := 9, slots := #[.long (-127)], vm := .none },
  { cls := 9, slots := #[.long (-126)], vm := .none },
  { cls := 9, slots := #[.long (-125)], vm := .none },
  { cls := 9, slots := #[.long (-124)], vm := .none },
  { cls := 9, slots := #[.long (-123)], vm := .none },
  { cls := 9, slots := #[.long (-122)], vm := .none },
  { cls := 9, slots := #[.long (-121)], vm := .none },
  { cls := 9, slots := #[.long (-120)], vm := .none },
  { cls := 9, slots := #[.long (-119)], vm := .none },
  { cls := 9, slots := #[.long (-118)], vm := .none },
  { cls := 9, slots := #[.long (-117)], vm := .none },
  { cls := 9, slots := #[.long (-116)], vm := .none },
  { cls := 9, slots := #[.long (-115)], vm := .none },
  { cls := 9, slots := #[.long (-114)], vm := .none },
  { cls := 9, slots := #[.long (-113)], vm := .none },
  { cls := 9, slots := #[.long (-112)], vm := .none },
  { cls := 9, slots := #[.long (-111)], vm := .none },
  { cls := 9, slots := #[.long (-110)], vm := .none },
  { cls := 9, slots := #[.long (-109)], vm := .none },
  { cls := 9, slots := #[.long (-108)], vm := .none },
  { cls := 9, slots := #[.long (-107)], vm := .none },
  { cls := 9, slots := #[.long (-106)], vm := .none },
  { cls := 9, slots := #[.long (-105)], vm := .none },
  { cls := 9, slots := #[.long (-104)], vm := .none },
  { cls := 9, slots := #[.long (-103)], vm := .none },
  { cls := 9, slots := #[.long (-102)], vm := .none },
  { cls := 9, slots := #[.long (-101)], vm := .none },
  { cls := 9, slots := #[.long (-100)], vm := .none },
  { cls := 9, slots := #[.long (-99)], vm := .none },
  { cls := 9, slots := #[.long (-98)], vm := .none },
  { cls := 9, slots := #[.long (-97)], vm := .none },
  { cls := 9, slots := #[.long (-96)], vm := .none },
  { cls := 9, slots := #[.long (-95)], vm := .none },
  { cls := 9, slots := #[.long (-94)], vm := .none },
  { cls := 9, slots := #[.long (-93)], vm := .none },
  { cls := 9, slots := #[.long (-92)], vm := .none },
  { cls := 9, slots := #[.long (-91)], vm := .none },
  { cls := 9, slots := #[.long (-90)], vm := .none },
  { cls := 9, slots := #[.long (-89)], vm := .none },
  { cls := 9, slots := #[.long (-88)], vm := .none },
  { cls := 9, slots := #[.long (-87)], vm := .none },
  { cls := 9, slots := #[.long (-86)], vm := .none },
  { cls := 9, slots := #[.long (-85)], vm := .none },
  { cls := 9, slots := #[.long (-84)], vm := .none },
  { cls := 9, slots := #[.long (-83)], vm := .none },
  { cls := 9, slots := #[.long (-82)], vm := .none },
  { cls := 9, slots := #[.long (-81)], vm := .none },
  { cls := 9, slots := #[.long (-80)], vm := .none },
  { cls := 9, slots := #[.long (-79)], vm := .none },
  { cls := 9, slots := #[.long (-78)], vm := .none },
  { cls := 9, slots := #[.long (-77)], vm := .none },
  { cls := 9, slots := #[.long (-76)], vm := .none },
  { cls := 9, slots := #[.long (-75)], vm := .none },
  { cls := 9, slots := #[.long (-74)], vm := .none },
  { cls := 9, slots := #[.long (-73)], vm := .none },
  { cls := 9, slots := #[.long (-72)], vm := .none },
  { cls := 9, slots := #[.long (-71)], vm := .none },
  { cls := 9, slots := #[.long (-70)], vm := .none },
  { cls := 9, slots := #[.long (-69)], vm := .none },
  { cls := 9, slots := #[.long (-68)], vm := .none },
  { cls := 9, slots := #[.long (-67)], vm := .none },
  { cls := 9, slots := #[.long (-66)], vm := .none },
  { cls := 9, slots := #[.long (-65)], vm := .none },
  { cls := 9, slots := #[.long (-64)], vm := .none },
  { cls := 9, slots := #[.long (-63)], vm := .none },
  { cls := 9, slots := #[.long (-62)], vm := .none },
  { cls := 9, slots := #[.long (-61)], vm := .none },
  { cls := 9, slots := #[.long (-60)], vm := .none },
  { cls := 9, slots := #[.long (-59)], vm := .none },
  { cls := 9, slots := #[.long (-58)], vm := .none },
  { cls := 9, slots := #[.long (-57)], vm := .none },
  { cls := 9, slots := #[.long (-56)], vm := .none },
  { cls := 9, slots := #[.long (-55)], vm := .none },
  { cls := 9, slots := #[.long (-54)], vm := .none },
  { cls := 9, slots := #[.long (-53)], vm := .none },
  { cls := 9, slots := #[.long (-52)], vm := .none },
  { cls := 9, slots := #[.long (-51)], vm := .none },
  { cls := 9, slots := #[.long (-50)], vm := .none },
  { cls := 9, slots := #[.long (-49)], vm := .none },
  { cls := 9, slots := #[.long (-48)], vm := .none },
  { cls := 9, slots := #[.long (-47)], vm := .none },
  { cls := 9, slots := #[.long (-46)], vm := .none },
  { cls := 9, slots := #[.long (-45)], vm := .none },
  { cls := 9, slots := #[.long (-44)], vm := .none },
  { cls := 9, slots := #[.long (-43)], vm := .none },
  { cls := 9, slots := #[.long (-42)], vm := .none },
  { cls := 9, slots := #[.long (-41)], vm := .none },
  { cls := 9, slots := #[.long (-40)], vm := .none },
  { cls := 9, slots := #[.long (-39)], vm := .none },
  { cls := 9, slots := #[.long (-38)], vm := .none },
  { cls := 9, slots := #[.long (-37)], vm := .none },
  { cls := 9, slots := #[.long (-36)], vm := .none },
  { cls := 9, slots := #[.long (-35)], vm := .none },
  { cls := 9, slots := #[.long (-34)], vm := .none },
  { cls := 9, slots := #[.long (-33)], vm := .none },
  { cls := 9, slots := #[.long (-32)], vm := .none },
  { cls := 9, slots := #[.long (-31)], vm := .none },
  { cls := 9, slots := #[.long (-30)], vm := .none },
  { cls := 9, slots := #[.long (-29)], vm := .none },
  { cls := 9, slots := #[.long (-28)], vm := .none },
  { cls := 9, slots := #[.long (-27)], vm := .none },
  { cls := 9, slots := #[.long (-26)], vm := .none },
  { cls := 9, slots := #[.long (-25)], vm := .none },
  { cls := 9, slots := #[.long (-24)], vm := .none },
  { cls := 9, slots := #[.long (-23)], vm := .none },
  { cls := 9, slots := #[.long (-22)], vm := .none },
  { cls := 9, slots := #[.long (-21)], vm := .none },
  { cls := 9, slots := #[.long (-20)], vm := .none },
  { cls := 9, slots := #[.long (-19)], vm := .none },
  { cls := 9, slots := #[.long (-18)], vm := .none },
  { cls := 9, slots := #[.long (-17)], vm := .none },
  { cls := 9, slots := #[.long (-16)], vm := .none },
  { cls := 9, slots := #[.long (-15)], vm := .none },
  { cls := 9, slots := #[.long (-14)], vm := .none },
  { cls := 9, slots := #[.long (-13)], vm := .none },
  { cls := 9, slots := #[.long (-12)], vm := .none },
  { cls := 9, slots := #[.long (-11)], vm := .none },
  { cls := 9, slots := #[.long (-10)], vm := .none },
  { cls := 9, slots := #[.long (-9)], vm := .none },
  { cls := 9, slots := #[.long (-8)], vm := .none },
  { cls := 9, slots := #[.long (-7)], vm := .none },
  { cls := 9, slots := #[.long (-6)], vm := .none },
  { cls := 9, slots := #[.long (-5)], vm := .none },
  { cls := 9, slots := #[.long (-4)], vm := .none },
  { cls := 9, slots := #[.long (-3)], vm := .none },
  { cls := 9, slots := #[.long (-2)], vm := .none },
  { cls := 9, slots := #[.long (-1)], vm := .none },
  { cls := 9, slots := #[.long (0)], vm := .none },
  { cls := 9, slots := #[.long (1)], vm := .none },
  { cls := 9, slots := #[.long (2)], vm := .none },
  { cls := 9, slots := #[.long (3)], vm := .none },
  { cls := 9, slots := #[.long (4)], vm := .none },
  { cls := 9, slots := #[.long (5)], vm := .none },
  { cls := 9, slots := #[.long (6)], vm := .none },
  { cls := 9, slots := #[.long (7)], vm := .none },
  { cls := 9, slots := #[.long (8)], vm := .none },
  { cls := 9, slots := #[.long (9)], vm := .none },
  { cls := 9, slots := #[.long (10)], vm := .none },
  { cls := 9, slots := #[.long (11)], vm := .none },
  { cls := 9, slots := #[.long (12)], vm := .none },
  { cls := 9, slots := #[.long (13)], vm := .none },
  { cls := 9, slots := #[.long (14)], vm := .none },
  { cls := 9, slots := #[.long (15)], vm := .none },
  { cls := 9, slots := #[.long (16)], vm := .none },
  { cls := 9, slots := #[.long (17)], vm := .none },
  { cls := 9, slots := #[.long (18)], vm := .none },
  { cls := 9, slots := #[.long (19)], vm := .none },
  { cls := 9, slots := #[.long (20)], vm := .none },
  { cls := 9, slots := #[.long (21)], vm := .none },
  { cls := 9, slots := #[.long (22)], vm := .none },
  { cls := 9, slots := #[.long (23)], vm := .none },
  { cls := 9, slots := #[.long (24)], vm := .none },
  { cls := 9, slots := #[.long (25)], vm := .none },
  { cls := 9, slots := #[.long (26)], vm := .none },
  { cls := 9, slots := #[.long (27)], vm := .none },
  { cls := 9, slots := #[.long (28)], vm := .none },
  { cls := 9, slots := #[.long (29)], vm := .none },
  { cls := 9, slots := #[.long (30)], vm := .none },
  { cls := 9, slots := #[.long (31)], vm := .none },
  { cls := 9, slots := #[.long (32)], vm := .none },
  { cls := 9, slots := #[.long (33)], vm := .none },
  { cls := 9, slots := #[.long (34)], vm := .none },
  { cls := 9, slots := #[.long (35)], vm := .none },
  { cls := 9, slots := #[.long (36)], vm := .none },
  { cls := 9, slots := #[.long (37)], vm := .none },
  { cls := 9, slots := #[.long (38)], vm := .none },
  { cls := 9, slots := #[.long (39)], vm := .none },
  { cls := 9, slots := #[.long (40)], vm := .none },
  { cls := 9, slots := #[.long (41)], vm := .none },
  { cls := 9, slots := #[.long (42)], vm := .none },
  { cls := 9, slots := #[.long (43)], vm := .none },
  { cls := 9, slots := #[.long (44)], vm := .none },
  { cls := 9, slots := #[.long (45)], vm := .none },
  { cls := 9, slots := #[.long (46)], vm := .none },
  { cls := 9, slots := #[.long (47)], vm := .none },
  { cls := 9, slots := #[.long (48)], vm := .none },
  { cls := 9, slots := #[.long (49)], vm := .none },
  { cls := 9, slots := #[.long (50)], vm := .none },
  { cls := 9, slots := #[.long (51)], vm := .none },
  { cls := 9, slots := #[.long (52)], vm := .none },
  { cls := 9, slots := #[.long (53)], vm := .none },
  { cls := 9, slots := #[.long (54)], vm := .none },
  { cls := 9, slots := #[.long (55)], vm := .none },
  { cls := 9, slots := #[.long (56)], vm := .none },
  { cls := 9, slots := #[.long (57)], vm := .none },
  { cls := 9, slots := #[.long (58)], vm := .none },
  { cls := 9, slots := #[.long (59)], vm := .none },
  { cls := 9, slots := #[.long (60)], vm := .none },
  { cls := 9, slots := #[.long (61)], vm := .none },
  { cls := 9, slots := #[.long (62)], vm := .none },
  { cls := 9, slots := #[.long (63)], vm := .none },
  { cls := 9, slots := #[.long (64)], vm := .none },
  { cls := 9, slots := #[.long (65)], vm := .none },
  { cls := 9, slots := #[.long (66)], vm := .none },
  { cls := 9, slots := #[.long (67)], vm := .none },
  { cls := 9, slots := #[.long (68)], vm := .none },
  { cls := 9, slots := #[.long (69)], vm := .none },
  { cls := 9, slots := #[.long (70)], vm := .none },
  { cls := 9, slots := #[.long (71)], vm := .none },
  { cls := 9, slots := #[.long (72)], vm := .none },
  { cls := 9, slots := #[.long (73)], vm := .none },
  { cls := 9, slots := #[.long (74)], vm := .none },
  { cls := 9, slots := #[.long (75)], vm := .none },
  { cls := 9, slots := #[.long (76)], vm := .none },
  { cls := 9, slots := #[.long (77)], vm := .none },
  { cls := 9, slots := #[.long (78)], vm := .none },
  { cls := 9, slots := #[.long (79)], vm := .none },
  { cls := 9, slots := #[.long (80)], vm := .none },
  { cls := 9, slots := #[.long (81)], vm := .none },
  { cls := 9, slots := #[.long (82)], vm := .none },
  { cls := 9, slots := #[.long (83)], vm := .none },
  { cls := 9, slots := #[.long (84)], vm := .none },
  { cls := 9, slots := #[.long (85)], vm := .none },
  { cls := 9, slots := #[.long (86)], vm := .none },
  { cls := 9, slots := #[.long (87)], vm := .none },
  { cls := 9, slots := #[.long (88)], vm := .none },
  { cls := 9, slots := #[.long (89)], vm := .none },
  { cls := 9, slots := #[.long (90)], vm := .none },
  { cls := 9, slots := #[.long (91)], vm := .none },
  { cls := 9, slots := #[.long (92)], vm := .none },
  { cls := 9, slots := #[.long (93)], vm := .none },
  { cls := 9, slots := #[.long (94)], vm := .none },
  { cls := 9, slots := #[.long (95)], vm := .none },
  { cls := 9, slots := #[.long (96)], vm := .none },
  { cls := 9, slots := #[.long (97)], vm := .none },
  { cls := 9, slots := #[.long (98)], vm := .none },
  { cls := 9, slots := #[.long (99)], vm := .none },
  { cls := 9, slots := #[.long (100)], vm := .none },
  { cls := 9, slots := #[.long (101)], vm := .none },
  { cls := 9, slots := #[.long (102)], vm := .none },
  { cls := 9, slots := #[.long (103)], vm := .none },
  { cls := 9, slots := #[.long (104)], vm := .none },
  { cls := 9, slots := #[.long (105)], vm := .none },
  { cls := 9, slots := #[.long (106)], vm := .none },
  { cls := 9, slots := #[.long (107)], vm := .none },
  { cls := 9, slots := #[.long (108)], vm := .none },
  { cls := 9, slots := #[.long (109)], vm := .none },
  { cls := 9, slots := #[.long (110)], vm := .none },
  { cls := 9, slots := #[.long (111)], vm := .none },
  { cls := 9, slots := #[.long (112)], vm := .none },
  { cls := 9, slots := #[.long (113)], vm := .none },
  { cls := 9, slots := #[.long (114)], vm := .none },
  { cls := 9, slots := #[.long (115)], vm := .none },
  { cls := 9, slots := #[.long (116)], vm := .none },
  { cls := 9, slots := #[.long (117)], vm := .none },
  { cls := 9, slots := #[.long (118)], vm := .none },
  { cls := 9, slots := #[.long (119)], vm := .none },
  { cls := 9, slots := #[.long (120)], vm := .none },
  { cls := 9, slots := #[.long (121)], vm := .none },
  { cls := 9, slots := #[.long (122)], vm := .none },
  { cls := 9, slots := #[.long (123)], vm := .none },
  { cls := 9, slots := #[.long (124)], vm := .none },
  { cls := 9, slots := #[.long (125)], vm := .none },
  { cls := 9, slots := #[.long (126)], vm := .none },
  { cls := 9, slots := #[.long (127)], vm := .none }]
def classes : Array Class := #[k0, k1, k2, k3, k4, k5, k6, k7, k8, k9, k10, k11, k12, k13, k14, k15, k16]
def interned : List (Array UInt16 × Addr) := []
def slotsUsed : Nat := 515
def theMethod : MethodId := ⟨1, 1⟩
def args0 : Array Value := #[.long 5, .long 6, .long 7, .long 8, .int 1]
def aboutOver (below : List Frame) : State where
  vm := { classes := classes, interned := interned.toArray }
  heap := heap
  slotsUsed := slotsUsed
  threads := #[{ frames := .invoking theMethod args0 :: below }]
def below0 : List Frame := [.native { method := ⟨0, 0⟩, args := #[] }]
def about1 : State := aboutOver below0
def p0 : Program := .bare "" "" ""
def e0 : Env := launch0.env 0 0 0
theorem w_frames : about1.frames = Frame.invoking theMethod args0 :: below0 := rfl
set_option maxRecDepth 65536 in
theorem w_args : argsFit about1.vm theMethod args0 = true := by decide +kernel
set_option maxRecDepth 65536 in
theorem w_heap : heapFits about1 = true := by decide +kernel
set_option maxRecDepth 65536 in
theorem w_runnable : about1.curStatus? = some .runnable := by decide +kernel
set_option maxRecDepth 65536 in
theorem w_alone : about1.alone = true := by decide +kernel
set_option maxRecDepth 65536 in
theorem w_named : about1.methodNamed? x = some theMethod := by decide +kernel
set_option maxRecDepth 65536 in
theorem w_hears : about1.hears theMethod below0 = true := by decide +kernel
set_option maxRecDepth 65536 in
theorem w_ripe : about1.ripe theMethod args0 below0 = true := by decide +kernel
theorem w_running : about1.status = .running := rfl
set_option maxRecDepth 65536 in
theorem w_room : about1.hasRoom e0.platform room_1 = true :=
  launch0.hasRoom_least _ room_1 (by decide +kernel) (by decide +kernel) (by decide +kernel) (by decide +kernel) (by decide +kernel) (by decide +kernel)
theorem allAtoms_all (ts : List Jvm.Cond) (a : Array Jvm.Value) (st : Jvm.State) : (allAtoms ts).before a st = ts.all (fun c => c.before a st) := by
  induction ts with
  | nil => rfl
  | cons c t ih =>
    show (Jvm.Cond.and c (allAtoms t)).before a st = _
    rw [Jvm.Cond.before_and, ih, List.all_cons]
def words1 : List Jvm.Cond := Jvm.Cond.code x code maxLocals ret :: tables_1
/-- a 'code' word, met by the world's own term for the bytes: nothing is compared byte by byte -/
theorem code_word {y : MethodName} {bytes : ByteArray} {mx : Nat} {rt : Option FieldType} {a : Array Value} {s : State} {m : MethodId} {meth : Method} {c : Code} (h1 : s.methodNamed? y = some m) (h2 : s.vm.method? m = some meth) (h3 : meth.code = some c) (h4 : c.code = bytes)
    (h5 : (c.maxLocals == mx && c.exceptionTable.isEmpty && decide (c.maxStack ≤ mostOperands) && decide (meth.sig.returnType = rt) && !meth.locks && decide (parseMethodDescriptor y.desc = some meth.sig)) = true) : (Jvm.Cond.code y bytes mx rt).before a s = true := by
  simp only [Bool.and_eq_true, beq_iff_eq, Bool.not_eq_true', decide_eq_true_eq] at h5
  obtain ⟨⟨⟨⟨⟨g1, g2⟩, g3⟩, g4⟩, g5⟩, g6⟩ := h5
  simp [Cond.before, Cond.holds, Cond.value, h1, h2, h3, h4, g1, g2, g3, g4, g5, g6]
def isCode : Jvm.Cond → Bool
  | .code _ _ _ _ => true
  | _ => false
theorem all_split {L : List Jvm.Cond} {P : Jvm.Cond → Bool} (h1 : L.all (fun c => isCode c || P c) = true) (h2 : ∀ c ∈ L.filter isCode, P c = true) : L.all P = true := by
  refine List.all_eq_true.mpr fun c hc => ?_
  have h := List.all_eq_true.mp h1 c hc
  rcases Bool.eq_false_or_eq_true (isCode c) with hi | hi
  · exact h2 c (List.mem_filter.mpr ⟨hc, hi⟩)
  · simpa [hi] using h
set_option maxRecDepth 65536 in
theorem w_c0 : (Jvm.Cond.code x code maxLocals ret).before args0 about1 = true := code_word (m := ⟨1, 1⟩) (meth := k1m1) (c := k1c1) (by decide +kernel) rfl rfl rfl (by decide +kernel)
set_option maxRecDepth 65536 in
theorem w_c1 : (Jvm.Cond.code ({ cls := "com/example/sediment/sediment/segment/SegmentId", name := "<init>", desc := "(JJ)V" } : Jvm.MethodName) prog_43_method_1_code (5 : Nat) (Option.none : Option Jvm.ClassFile.FieldType)).before args0 about1 = true := code_word (m := ⟨3, 0⟩) (meth := k3m0) (c := k3c0) (by decide +kernel) rfl rfl rfl (by decide +kernel)
set_option maxRecDepth 65536 in
theorem w_c2 : (Jvm.Cond.code ({ cls := "java/lang/Record", name := "<init>", desc := "()V" } : Jvm.MethodName) jdk_30_method_1_code (1 : Nat) (Option.none : Option Jvm.ClassFile.FieldType)).before args0 about1 = true := code_word (m := ⟨2, 0⟩) (meth := k2m0) (c := k2c0) (by decide +kernel) rfl rfl rfl (by decide +kernel)
set_option maxRecDepth 65536 in
theorem w_c3 : (Jvm.Cond.code ({ cls := "java/lang/Object", name := "<init>", desc := "()V" } : Jvm.MethodName) object_method_1_code (1 : Nat) (Option.none : Option Jvm.ClassFile.FieldType)).before args0 about1 = true := code_word (m := ⟨0, 0⟩) (meth := k0m0) (c := k0c0) (by decide +kernel) rfl rfl rfl (by decide +kernel)
set_option maxRecDepth 65536 in
theorem w_c4 : (Jvm.Cond.code ({ cls := "com/example/sediment/sediment/segment/SegmentId", name := "equals", desc := "(Ljava/lang/Object;)Z" } : Jvm.MethodName) prog_43_method_7_code (3 : Nat) (Option.some Jvm.ClassFile.FieldType.boolean)).before args0 about1 = true := code_word (m := ⟨3, 1⟩) (meth := k3m1) (c := k3c1) (by decide +kernel) rfl rfl rfl (by decide +kernel)
set_option maxRecDepth 65536 in
theorem w_c5 : (Jvm.Cond.code ({ cls := "java/lang/Long", name := "valueOf", desc := "(J)Ljava/lang/Long;" } : Jvm.MethodName) jdk_35_method_24_code (3 : Nat) (Option.some (Jvm.ClassFile.FieldType.object "java/lang/Long"))).before args0 about1 = true := code_word (m := ⟨9, 0⟩) (meth := k9m0) (c := k9c0) (by decide +kernel) rfl rfl rfl (by decide +kernel)
set_option maxRecDepth 65536 in
theorem w_c6 : (Jvm.Cond.code ({ cls := "java/lang/Long", name := "<init>", desc := "(J)V" } : Jvm.MethodName) jdk_35_method_26_code (3 : Nat) (Option.none : Option Jvm.ClassFile.FieldType)).before args0 about1 = true := code_word (m := ⟨9, 1⟩) (meth := k9m1) (c := k9c1) (by decide +kernel) rfl rfl rfl (by decide +kernel)
set_option maxRecDepth 65536 in
theorem w_c7 : (Jvm.Cond.code ({ cls := "java/lang/Number", name := "<init>", desc := "()V" } : Jvm.MethodName) jdk_18_method_1_code (1 : Nat) (Option.none : Option Jvm.ClassFile.FieldType)).before args0 about1 = true := code_word (m := ⟨5, 0⟩) (meth := k5m0) (c := k5c0) (by decide +kernel) rfl rfl rfl (by decide +kernel)
def codes1 : List Jvm.Cond := [Jvm.Cond.code x code maxLocals ret, Jvm.Cond.code ({ cls := "com/example/sediment/sediment/segment/SegmentId", name := "<init>", desc := "(JJ)V" } : Jvm.MethodName) prog_43_method_1_code (5 : Nat) (Option.none : Option Jvm.ClassFile.FieldType), Jvm.Cond.code ({ cls := "java/lang/Record", name := "<init>", desc := "()V" } : Jvm.MethodName) jdk_30_method_1_code (1 : Nat) (Option.none : Option Jvm.ClassFile.FieldType), Jvm.Cond.code ({ cls := "java/lang/Object", name := "<init>", desc := "()V" } : Jvm.MethodName) object_method_1_code (1 : Nat) (Option.none : Option Jvm.ClassFile.FieldType), Jvm.Cond.code ({ cls := "com/example/sediment/sediment/segment/SegmentId", name := "equals", desc := "(Ljava/lang/Object;)Z" } : Jvm.MethodName) prog_43_method_7_code (3 : Nat) (Option.some Jvm.ClassFile.FieldType.boolean), Jvm.Cond.code ({ cls := "java/lang/Long", name := "valueOf", desc := "(J)Ljava/lang/Long;" } : Jvm.MethodName) jdk_35_method_24_code (3 : Nat) (Option.some (Jvm.ClassFile.FieldType.object "java/lang/Long")), Jvm.Cond.code ({ cls := "java/lang/Long", name := "<init>", desc := "(J)V" } : Jvm.MethodName) jdk_35_method_26_code (3 : Nat) (Option.none : Option Jvm.ClassFile.FieldType), Jvm.Cond.code ({ cls := "java/lang/Number", name := "<init>", desc := "()V" } : Jvm.MethodName) jdk_18_method_1_code (1 : Nat) (Option.none : Option Jvm.ClassFile.FieldType)]
set_option maxRecDepth 65536 in
theorem codes_eq : words1.filter isCode = codes1 := rfl
theorem w_codes : ∀ c ∈ words1.filter isCode, c.before args0 about1 = true := by
  rw [codes_eq]
  intro c hc
  simp only [codes1, List.mem_cons, List.not_mem_nil, or_false] at hc
  rcases hc with rfl | rfl | rfl | rfl | rfl | rfl | rfl | rfl
  · exact w_c0
  · exact w_c1
  · exact w_c2
  · exact w_c3
  · exact w_c4
  · exact w_c5
  · exact w_c6
  · exact w_c7
set_option maxRecDepth 65536 in
theorem w_t1 : (words1.take 24).all (fun c => isCode c || c.before args0 about1) = true := by decide +kernel
set_option maxRecDepth 65536 in
theorem w_t2 : ((words1.drop 24).take 24).all (fun c => isCode c || c.before args0 about1) = true := by decide +kernel
set_option maxRecDepth 65536 in
theorem w_t3 : ((words1.drop 24).drop 24).all (fun c => isCode c || c.before args0 about1) = true := by decide +kernel
theorem w_tables : (allAtoms (Jvm.Cond.code x code maxLocals ret :: tables_1)).before args0 about1 = true := by
  rw [allAtoms_all]
  show words1.all (fun c => c.before args0 about1) = true
  refine all_split ?_ w_codes
  rw [← List.take_append_drop 24 words1, List.all_append, w_t1, ← List.take_append_drop 24 (words1.drop 24), List.all_append, w_t2, w_t3]
  rfl
set_option maxRecDepth 65536 in
theorem w_rest : rest_1_c.before args0 about1 = true := by decide +kernel
set_option maxRecDepth 65536 in
theorem w_case : (Jvm.Cond.and given_1 narrow_1).before args0 about1 = true := by decide +kernel
theorem w_applies : (headSpec (Jvm.Cond.code x code maxLocals ret :: tables_1) room_1).applies x e0.platform about1 = true :=
  (Spec.applies_iff w_frames).mpr ⟨w_running, w_runnable, w_alone, w_named, w_hears, w_ripe, w_room, w_tables⟩
theorem atStart : AtStart classFile x code maxLocals ret World_1 tables_1 room_1 Calls_1 rest_1 Pre_1 launch0 p0 e0 about1 theMethod args0 below0 :=
  ⟨lists_1, trivial, launch0.admits_env _ _ _, launch0.least_env, fairChoices_fair.cas, fairChoices_fair.clock, w_frames, w_args, w_heap, w_applies, trivial, w_rest, w_case⟩
end start1
theorem witness_1 : WitnessClaimed_1 := ⟨start1.p0, start1.e0, start1.about1, start1.theMethod, start1.args0, start1.below0, start1.atStart⟩
end Jvm.Pilot.@@N@@
