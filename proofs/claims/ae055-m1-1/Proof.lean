import JvmDerived
import JvmDerived.Pilot.@@N@@Statement
import JvmDerived.Pilot.@@N@@Code
set_option linter.unusedVariables false
set_option linter.unusedSimpArgs false
namespace Jvm.Pilot.@@N@@
open Jvm Jvm.ClassFile Sem Op Lib Jvm.Free Jvm.Stand Jvm.LawKit Jvm.RoadKit Bundle Jvm.Pilot.@@N@@.Jvm.D
section OwnPre
/-- where the run stands, with all that stays true of the body -/
def St (p : Program) (l : Launch) (e : Env) (R : Room) (s : State) (m : MethodId) (args : Array Value) (below : List Frame) (meth : Method) (c : Code) (Z : State) (own : String) (bytes : ByteArray) (ml n0 : Nat) (ret : Option FieldType) (nm : String) (T : State) (h : Heap) (cells slots : Nat) : Prop :=
  ∃ locs, Stand p l e R s m args below meth c T locs cells slots ∧ Fr n0 locs ∧ T.heap = h ∧ p.tables.exec = Jvm.exec ∧ Z.Warmed39 s.vm ∧ s.vm.findClass own = some m.cls ∧ c.code = bytes ∧ c.maxLocals = ml ∧ meth.locks = false ∧ n0 ≤ s.heap.size ∧ meth.sig.returnType = ret ∧ meth.name = nm
def Wp (p : Program) (e : Env) (below : List Frame) (PO : Outcome → State → Prop) (T : State) (g : JFrame) : Prop := ∃ t o, Steps p.tables e below (T.setTop g) t ∧ t.status = .running ∧ Ended t below o ∧ PO o t
def Po (s : State) (n0 : Nat) (R : Room) (Q : Option Value → Heap → Prop) (o : Outcome) (t : State) : Prop := ∃ v L, o = .returned v ∧ (Q v t.heap ∧ Fr n0 L) ∧ FrameEnd s o t L R.cells R.slots
def Ct (l : Launch) (y : MethodName) (bytes : ByteArray) (ml : Nat) (ret : Option FieldType) (ws : List Jvm.Cond) (R : Room) (Z : State) (h0 : Heap) (n0 : Nat) (as : Array Value) (Q : Option Value → Heap → Prop) : Prop :=
  MetFree l y (head1 (Jvm.Cond.code y bytes ml ret :: ws) R) (fun a U => a = as ∧ Z.Warmed39 U.vm ∧ U.heap = h0) (fun _ _ _ _ _ => True) (fun _ U o U' => Po U n0 R Q o U')
variable {p : Program} {l : Launch} {e : Env} {R : Room} {s : State} {m : MethodId} {args : Array Value} {below : List Frame} {meth : Method} {c : Code} {Z : State} {own : String} {bytes : ByteArray} {ml n0 : Nat} {ret : Option FieldType} {nm : String} {T : State} {h : Heap} {cells slots : Nat} {PO : Outcome → State → Prop} {a0 : Array Value} {pc q : Nat} {L : Array Slot} {st : List Value}
theorem o_body {y : MethodName} {ws : List Jvm.Cond} {h0 : Heap} {as : Array Value} {Q : Option Value → Heap → Prop} {L0 : Array Slot} (hpl : plainFor y = true) (hn : n0 ≤ h0.size) (hef : ∀ m, entryFrame m as ml = mkF m 0 L0 [])
    (k : ∀ (p : Program) (e : Env) (s : State) (m : MethodId) (below : List Frame) (meth : Method) (c : Code) (T : State), St p l e R s m as below meth c Z y.cls bytes ml n0 ret y.name T h0 0 0 → Wp p e below (Po s n0 R Q) T (mkF m 0 L0 [])) :
    Ct l y bytes ml ret ws R Z h0 n0 as Q := by
  refine MetFree.of_bodySF hpl hisR ?_
  intro p e s m args below meth c s₁ Bd hml0 hP hK
  obtain ⟨rfl, hZ, hh⟩ := hP
  have X0 : Stand p l e R s m args below meth c s₁ [] 0 0 := Stand.of_body Bd
  have e0 : s₁.heap = h0 := by rw [← hh, Bd.state]; rfl
  obtain ⟨t, o, h1, h2, h3, h4⟩ := k p e s m below meth c s₁ ⟨[], X0, Fr.nil n0, e0, Bd.exec, hZ, findClass_of_methodNamed Bd.named, Bd.bytes, hml0, BodyLoose.notSynchronized Bd, (by rw [hh]; exact hn), Bd.returns, (name_of_methodNamed Bd.named Bd.method).1⟩
  exact ⟨t, o, castTop (hef m) h1, h2, h3, h4⟩
theorem o_st (S : St p l e R s m args below meth c Z own bytes ml n0 ret nm T h cells slots) {g g' : JFrame} (hs : ∀ t, At T m c below → p.tables.exec = Jvm.exec → c.code = bytes → Steps p.tables e below (T.setTop g') t → Steps p.tables e below (T.setTop g) t) (k : Wp p e below PO T g') : Wp p e below PO T g := by
  obtain ⟨locs, X, N, eT, hx, hZ, hown, hby, hml, hlk, hn, hrt, hnm⟩ := S
  obtain ⟨t, o, h1, h2⟩ := k
  exact ⟨t, o, hs t X.here hx hby h1, h2⟩
theorem o_to {T' : State} {g g' : JFrame} (hs : ∀ t, Steps p.tables e below (T'.setTop g') t → Steps p.tables e below (T.setTop g) t) (k : Wp p e below PO T' g') : Wp p e below PO T g := by
  obtain ⟨t, o, h1, h2⟩ := k
  exact ⟨t, o, hs t h1, h2⟩
theorem o_heap (S : St p l e R s m args below meth c Z own bytes ml n0 ret nm T h cells slots) : T.heap = h := by obtain ⟨locs, X, N, eT, -⟩ := S; exact eT
theorem o_n0 (S : St p l e R s m args below meth c Z own bytes ml n0 ret nm T h cells slots) : n0 ≤ h.size := by
  obtain ⟨locs, X, N, eT, hx, hZ, hown, hby, hml, hlk, hn, -⟩ := S
  have := X.same.2.1
  rw [← eT]; exact Nat.le_trans hn this
theorem o_wd {i : Nat} {d : Jvm.Cond} (hw : ∀ d ∈ tables_1, d.before a0 Z = true) (hi : tables_1[i]? = some d) : d.before a0 Z = true := hw _ (List.mem_of_getElem? hi)

theorem o_iloadN (S : St p l e R s m args below meth c Z own bytes ml n0 ret nm T h cells slots) {k : Fin 4} {v : Int32} (hl : L[k.val]? = some (.val (.int v))) (hd : decode bytes pc = .ok (.iload_n k, 1)) (hq : pc + 1 = q) (k : Wp p e below PO T (mkF m q L (.int v :: st))) : Wp p e below PO T (mkF m pc L (st)) := by
  subst hq
  exact o_st S (fun t X hx hy r => XS.iloadN X hx rfl (hb hy hd) hl r) k
theorem o_lloadN (S : St p l e R s m args below meth c Z own bytes ml n0 ret nm T h cells slots) {k : Fin 4} {v : Int64} (hl : L[k.val]? = some (.val (.long v))) (hd : decode bytes pc = .ok (.lload_n k, 1)) (hq : pc + 1 = q) (k : Wp p e below PO T (mkF m q L (.long v :: st))) : Wp p e below PO T (mkF m pc L (st)) := by
  subst hq
  exact o_st S (fun t X hx hy r => XS.lloadN X hx rfl (hb hy hd) hl r) k
theorem o_aloadN (S : St p l e R s m args below meth c Z own bytes ml n0 ret nm T h cells slots) {k : Fin 4} {v : Value} (hl : L[k.val]? = some (.val v)) (hv : v.isRef = true) (hd : decode bytes pc = .ok (.aload_n k, 1)) (hq : pc + 1 = q) (k : Wp p e below PO T (mkF m q L (v :: st))) : Wp p e below PO T (mkF m pc L (st)) := by
  subst hq
  exact o_st S (fun t X hx hy r => XS.aloadN X hx rfl (hb hy hd) hl hv r) k
theorem o_istoreN (S : St p l e R s m args below meth c Z own bytes ml n0 ret nm T h cells slots) {k : Fin 4} {x : Int32} {L' : Array Slot} (hl : storeLocals L k.val (.int x) = some L') (hd : decode bytes pc = .ok (.istore_n k, 1)) (hq : pc + 1 = q) (k : Wp p e below PO T (mkF m q L' (st))) : Wp p e below PO T (mkF m pc L (.int x :: st)) := by
  subst hq
  exact o_st S (fun t X hx hy r => XS.istoreN X hx rfl (hb hy hd) rfl hl r) k
theorem o_istoreVN (S : St p l e R s m args below meth c Z own bytes ml n0 ret nm T h cells slots) {k : Fin 4} {x : Int32} {L' : Int32 → Array Slot} (hl : ∀ v, storeLocals L k.val (.int v) = some (L' v)) (hd : decode bytes pc = .ok (.istore_n k, 1)) (hq : pc + 1 = q) (k : ∀ v, v = x → Wp p e below PO T (mkF m q (L' v) st)) : Wp p e below PO T (mkF m pc L (.int x :: st)) :=
  o_istoreN S (hl x) hd hq (k x rfl)
theorem o_lstoreN (S : St p l e R s m args below meth c Z own bytes ml n0 ret nm T h cells slots) {k : Fin 4} {x : Int64} {L' : Array Slot} (hl : storeLocals L k.val (.long x) = some L') (hd : decode bytes pc = .ok (.lstore_n k, 1)) (hq : pc + 1 = q) (k : Wp p e below PO T (mkF m q L' (st))) : Wp p e below PO T (mkF m pc L (.long x :: st)) := by
  subst hq
  exact o_st S (fun t X hx hy r => XS.lstoreN X hx rfl (hb hy hd) rfl hl r) k
theorem o_lstoreVN (S : St p l e R s m args below meth c Z own bytes ml n0 ret nm T h cells slots) {k : Fin 4} {x : Int64} {L' : Int64 → Array Slot} (hl : ∀ v, storeLocals L k.val (.long v) = some (L' v)) (hd : decode bytes pc = .ok (.lstore_n k, 1)) (hq : pc + 1 = q) (k : ∀ v, v = x → Wp p e below PO T (mkF m q (L' v) st)) : Wp p e below PO T (mkF m pc L (.long x :: st)) :=
  o_lstoreN S (hl x) hd hq (k x rfl)
theorem o_astoreN (S : St p l e R s m args below meth c Z own bytes ml n0 ret nm T h cells slots) {k : Fin 4} {x : Value} {L' : Array Slot} (hv : x.isRef = true) (hl : storeLocals L k.val x = some L') (hd : decode bytes pc = .ok (.astore_n k, 1)) (hq : pc + 1 = q) (k : Wp p e below PO T (mkF m q L' (st))) : Wp p e below PO T (mkF m pc L (x :: st)) := by
  subst hq
  exact o_st S (fun t X hx hy r => XS.astoreN X hx rfl (hb hy hd) rfl hv hl r) k
theorem o_iload (S : St p l e R s m args below meth c Z own bytes ml n0 ret nm T h cells slots) {k : Nat} {v : Int32} (hl : L[k]? = some (.val (.int v))) (hd : decode bytes pc = .ok (.iload k, 2)) (hq : pc + 2 = q) (k : Wp p e below PO T (mkF m q L (.int v :: st))) : Wp p e below PO T (mkF m pc L (st)) := by
  subst hq
  exact o_st S (fun t X hx hy r => XS.iload X hx rfl (hb hy hd) hl r) k
theorem o_lload (S : St p l e R s m args below meth c Z own bytes ml n0 ret nm T h cells slots) {k : Nat} {v : Int64} (hl : L[k]? = some (.val (.long v))) (hd : decode bytes pc = .ok (.lload k, 2)) (hq : pc + 2 = q) (k : Wp p e below PO T (mkF m q L (.long v :: st))) : Wp p e below PO T (mkF m pc L (st)) := by
  subst hq
  exact o_st S (fun t X hx hy r => XS.lload X hx rfl (hb hy hd) hl r) k
theorem o_aload (S : St p l e R s m args below meth c Z own bytes ml n0 ret nm T h cells slots) {k : Nat} {v : Value} (hl : L[k]? = some (.val v)) (hv : v.isRef = true) (hd : decode bytes pc = .ok (.aload k, 2)) (hq : pc + 2 = q) (k : Wp p e below PO T (mkF m q L (v :: st))) : Wp p e below PO T (mkF m pc L (st)) := by
  subst hq
  exact o_st S (fun t X hx hy r => XS.aload X hx rfl (hb hy hd) hl hv r) k
theorem o_istore (S : St p l e R s m args below meth c Z own bytes ml n0 ret nm T h cells slots) {k : Nat} {x : Int32} {L' : Array Slot} (hl : storeLocals L k (.int x) = some L') (hd : decode bytes pc = .ok (.istore k, 2)) (hq : pc + 2 = q) (k : Wp p e below PO T (mkF m q L' (st))) : Wp p e below PO T (mkF m pc L (.int x :: st)) := by
  subst hq
  exact o_st S (fun t X hx hy r => XS.istore X hx rfl (hb hy hd) rfl hl r) k
theorem o_istoreV (S : St p l e R s m args below meth c Z own bytes ml n0 ret nm T h cells slots) {k : Nat} {x : Int32} {L' : Int32 → Array Slot} (hl : ∀ v, storeLocals L k (.int v) = some (L' v)) (hd : decode bytes pc = .ok (.istore k, 2)) (hq : pc + 2 = q) (k : ∀ v, v = x → Wp p e below PO T (mkF m q (L' v) st)) : Wp p e below PO T (mkF m pc L (.int x :: st)) :=
  o_istore S (hl x) hd hq (k x rfl)
theorem o_lstore (S : St p l e R s m args below meth c Z own bytes ml n0 ret nm T h cells slots) {k : Nat} {x : Int64} {L' : Array Slot} (hl : storeLocals L k (.long x) = some L') (hd : decode bytes pc = .ok (.lstore k, 2)) (hq : pc + 2 = q) (k : Wp p e below PO T (mkF m q L' (st))) : Wp p e below PO T (mkF m pc L (.long x :: st)) := by
  subst hq
  exact o_st S (fun t X hx hy r => XS.lstore X hx rfl (hb hy hd) rfl hl r) k
theorem o_lstoreV (S : St p l e R s m args below meth c Z own bytes ml n0 ret nm T h cells slots) {k : Nat} {x : Int64} {L' : Int64 → Array Slot} (hl : ∀ v, storeLocals L k (.long v) = some (L' v)) (hd : decode bytes pc = .ok (.lstore k, 2)) (hq : pc + 2 = q) (k : ∀ v, v = x → Wp p e below PO T (mkF m q (L' v) st)) : Wp p e below PO T (mkF m pc L (.long x :: st)) :=
  o_lstore S (hl x) hd hq (k x rfl)
theorem o_astore (S : St p l e R s m args below meth c Z own bytes ml n0 ret nm T h cells slots) {k : Nat} {x : Value} {L' : Array Slot} (hv : x.isRef = true) (hl : storeLocals L k x = some L') (hd : decode bytes pc = .ok (.astore k, 2)) (hq : pc + 2 = q) (k : Wp p e below PO T (mkF m q L' (st))) : Wp p e below PO T (mkF m pc L (x :: st)) := by
  subst hq
  exact o_st S (fun t X hx hy r => XS.astore X hx rfl (hb hy hd) rfl hv hl r) k
theorem o_iconst (S : St p l e R s m args below meth c Z own bytes ml n0 ret nm T h cells slots) {i : Int} {z : Int32} (hz : Int32.ofInt i = z) (hd : decode bytes pc = .ok (.iconst i, 1)) (hq : pc + 1 = q) (k : Wp p e below PO T (mkF m q L (.int z :: st))) : Wp p e below PO T (mkF m pc L (st)) := by
  subst hq
  exact o_st S (fun t X hx hy r => XS.iconst X hx rfl (hb hy hd) (hz ▸ r)) k
theorem o_bipush (S : St p l e R s m args below meth c Z own bytes ml n0 ret nm T h cells slots) {i : Int} {z : Int32} (hz : (Int8.ofInt i).toInt32 = z) (hd : decode bytes pc = .ok (.bipush i, 2)) (hq : pc + 2 = q) (k : Wp p e below PO T (mkF m q L (.int z :: st))) : Wp p e below PO T (mkF m pc L (st)) := by
  subst hq
  exact o_st S (fun t X hx hy r => XS.bipush X hx rfl (hb hy hd) (hz ▸ r)) k
theorem o_sipush (S : St p l e R s m args below meth c Z own bytes ml n0 ret nm T h cells slots) {i : Int} {z : Int32} (hz : (Int16.ofInt i).toInt32 = z) (hd : decode bytes pc = .ok (.sipush i, 3)) (hq : pc + 3 = q) (k : Wp p e below PO T (mkF m q L (.int z :: st))) : Wp p e below PO T (mkF m pc L (st)) := by
  subst hq
  exact o_st S (fun t X hx hy r => XS.sipush X hx rfl (hb hy hd) (hz ▸ r)) k
theorem o_lconst (S : St p l e R s m args below meth c Z own bytes ml n0 ret nm T h cells slots) {i : Fin 2} {z : Int64} (hz : Int64.ofNat i = z) (hd : decode bytes pc = .ok (.lconst i, 1)) (hq : pc + 1 = q) (k : Wp p e below PO T (mkF m q L (.long z :: st))) : Wp p e below PO T (mkF m pc L (st)) := by
  subst hq
  exact o_st S (fun t X hx hy r => XS.lconst X hx rfl (hb hy hd) (hz ▸ r)) k
theorem o_aconstNull (S : St p l e R s m args below meth c Z own bytes ml n0 ret nm T h cells slots)  (hd : decode bytes pc = .ok (.aconst_null, 1)) (hq : pc + 1 = q) (k : Wp p e below PO T (mkF m q L (.null :: st))) : Wp p e below PO T (mkF m pc L (st)) := by
  subst hq
  exact o_st S (fun t X hx hy r => XS.aconstNull X hx rfl (hb hy hd) r) k
theorem o_iadd (S : St p l e R s m args below meth c Z own bytes ml n0 ret nm T h cells slots) {x y : Int32} (hd : decode bytes pc = .ok (.iadd, 1)) (hq : pc + 1 = q) (k : Wp p e below PO T (mkF m q L (.int (x + y) :: st))) : Wp p e below PO T (mkF m pc L (.int y :: .int x :: st)) := by
  subst hq
  exact o_st S (fun t X hx hy r => XS.iadd X hx rfl (hb hy hd) rfl r) k
theorem o_ladd (S : St p l e R s m args below meth c Z own bytes ml n0 ret nm T h cells slots) {x y : Int64} (hd : decode bytes pc = .ok (.ladd, 1)) (hq : pc + 1 = q) (k : Wp p e below PO T (mkF m q L (.long (x + y) :: st))) : Wp p e below PO T (mkF m pc L (.long y :: .long x :: st)) := by
  subst hq
  exact o_st S (fun t X hx hy r => XS.ladd X hx rfl (hb hy hd) rfl r) k
theorem o_isub (S : St p l e R s m args below meth c Z own bytes ml n0 ret nm T h cells slots) {x y : Int32} (hd : decode bytes pc = .ok (.isub, 1)) (hq : pc + 1 = q) (k : Wp p e below PO T (mkF m q L (.int (x - y) :: st))) : Wp p e below PO T (mkF m pc L (.int y :: .int x :: st)) := by
  subst hq
  exact o_st S (fun t X hx hy r => XS.isub X hx rfl (hb hy hd) rfl r) k
theorem o_lsub (S : St p l e R s m args below meth c Z own bytes ml n0 ret nm T h cells slots) {x y : Int64} (hd : decode bytes pc = .ok (.lsub, 1)) (hq : pc + 1 = q) (k : Wp p e below PO T (mkF m q L (.long (x - y) :: st))) : Wp p e below PO T (mkF m pc L (.long y :: .long x :: st)) := by
  subst hq
  exact o_st S (fun t X hx hy r => XS.lsub X hx rfl (hb hy hd) rfl r) k
theorem o_imul (S : St p l e R s m args below meth c Z own bytes ml n0 ret nm T h cells slots) {x y : Int32} (hd : decode bytes pc = .ok (.imul, 1)) (hq : pc + 1 = q) (k : Wp p e below PO T (mkF m q L (.int (x * y) :: st))) : Wp p e below PO T (mkF m pc L (.int y :: .int x :: st)) := by
  subst hq
  exact o_st S (fun t X hx hy r => XS.imul X hx rfl (hb hy hd) rfl r) k
theorem o_lmul (S : St p l e R s m args below meth c Z own bytes ml n0 ret nm T h cells slots) {x y : Int64} (hd : decode bytes pc = .ok (.lmul, 1)) (hq : pc + 1 = q) (k : Wp p e below PO T (mkF m q L (.long (x * y) :: st))) : Wp p e below PO T (mkF m pc L (.long y :: .long x :: st)) := by
  subst hq
  exact o_st S (fun t X hx hy r => XS.lmul X hx rfl (hb hy hd) rfl r) k
theorem o_iand (S : St p l e R s m args below meth c Z own bytes ml n0 ret nm T h cells slots) {x y : Int32} (hd : decode bytes pc = .ok (.iand, 1)) (hq : pc + 1 = q) (k : Wp p e below PO T (mkF m q L (.int (x &&& y) :: st))) : Wp p e below PO T (mkF m pc L (.int y :: .int x :: st)) := by
  subst hq
  exact o_st S (fun t X hx hy r => XS.iand X hx rfl (hb hy hd) rfl r) k
theorem o_land (S : St p l e R s m args below meth c Z own bytes ml n0 ret nm T h cells slots) {x y : Int64} (hd : decode bytes pc = .ok (.land, 1)) (hq : pc + 1 = q) (k : Wp p e below PO T (mkF m q L (.long (x &&& y) :: st))) : Wp p e below PO T (mkF m pc L (.long y :: .long x :: st)) := by
  subst hq
  exact o_st S (fun t X hx hy r => XS.land X hx rfl (hb hy hd) rfl r) k
theorem o_ior (S : St p l e R s m args below meth c Z own bytes ml n0 ret nm T h cells slots) {x y : Int32} (hd : decode bytes pc = .ok (.ior, 1)) (hq : pc + 1 = q) (k : Wp p e below PO T (mkF m q L (.int (x ||| y) :: st))) : Wp p e below PO T (mkF m pc L (.int y :: .int x :: st)) := by
  subst hq
  exact o_st S (fun t X hx hy r => XS.ior X hx rfl (hb hy hd) rfl r) k
theorem o_lor (S : St p l e R s m args below meth c Z own bytes ml n0 ret nm T h cells slots) {x y : Int64} (hd : decode bytes pc = .ok (.lor, 1)) (hq : pc + 1 = q) (k : Wp p e below PO T (mkF m q L (.long (x ||| y) :: st))) : Wp p e below PO T (mkF m pc L (.long y :: .long x :: st)) := by
  subst hq
  exact o_st S (fun t X hx hy r => XS.lor X hx rfl (hb hy hd) rfl r) k
theorem o_ixor (S : St p l e R s m args below meth c Z own bytes ml n0 ret nm T h cells slots) {x y : Int32} (hd : decode bytes pc = .ok (.ixor, 1)) (hq : pc + 1 = q) (k : Wp p e below PO T (mkF m q L (.int (x ^^^ y) :: st))) : Wp p e below PO T (mkF m pc L (.int y :: .int x :: st)) := by
  subst hq
  exact o_st S (fun t X hx hy r => XS.ixor X hx rfl (hb hy hd) rfl r) k
theorem o_lxor (S : St p l e R s m args below meth c Z own bytes ml n0 ret nm T h cells slots) {x y : Int64} (hd : decode bytes pc = .ok (.lxor, 1)) (hq : pc + 1 = q) (k : Wp p e below PO T (mkF m q L (.long (x ^^^ y) :: st))) : Wp p e below PO T (mkF m pc L (.long y :: .long x :: st)) := by
  subst hq
  exact o_st S (fun t X hx hy r => XS.lxor X hx rfl (hb hy hd) rfl r) k
theorem o_irem (S : St p l e R s m args below meth c Z own bytes ml n0 ret nm T h cells slots) {x y : Int32} (hy0 : y ≠ 0) (hd : decode bytes pc = .ok (.irem, 1)) (hq : pc + 1 = q) (k : Wp p e below PO T (mkF m q L (.int (x % y) :: st))) : Wp p e below PO T (mkF m pc L (.int y :: .int x :: st)) := by
  subst hq
  exact o_st S (fun t X hx hy r => XS.irem X hx rfl (hb hy hd) rfl hy0 (by have q : x - x / y * y = x % y := irem_eq_mod x y; rw [q]; exact r)) k
theorem o_idiv (S : St p l e R s m args below meth c Z own bytes ml n0 ret nm T h cells slots) {x y : Int32} (hy0 : y ≠ 0) (hd : decode bytes pc = .ok (.idiv, 1)) (hq : pc + 1 = q) (k : Wp p e below PO T (mkF m q L (.int (x / y) :: st))) : Wp p e below PO T (mkF m pc L (.int y :: .int x :: st)) := by
  subst hq
  exact o_st S (fun t X hx hy r => XS.idiv X hx rfl (hb hy hd) rfl hy0 r) k
theorem o_ineg (S : St p l e R s m args below meth c Z own bytes ml n0 ret nm T h cells slots) {x : Int32} (hd : decode bytes pc = .ok (.ineg, 1)) (hq : pc + 1 = q) (k : Wp p e below PO T (mkF m q L (.int (-x) :: st))) : Wp p e below PO T (mkF m pc L (.int x :: st)) := by
  subst hq
  exact o_st S (fun t X hx hy r => XS.ineg X hx rfl (hb hy hd) rfl r) k
theorem o_lneg (S : St p l e R s m args below meth c Z own bytes ml n0 ret nm T h cells slots) {x : Int64} (hd : decode bytes pc = .ok (.lneg, 1)) (hq : pc + 1 = q) (k : Wp p e below PO T (mkF m q L (.long (-x) :: st))) : Wp p e below PO T (mkF m pc L (.long x :: st)) := by
  subst hq
  exact o_st S (fun t X hx hy r => XS.lneg X hx rfl (hb hy hd) rfl r) k
theorem o_i2l (S : St p l e R s m args below meth c Z own bytes ml n0 ret nm T h cells slots) {x : Int32} (hd : decode bytes pc = .ok (.i2l, 1)) (hq : pc + 1 = q) (k : Wp p e below PO T (mkF m q L (.long x.toInt64 :: st))) : Wp p e below PO T (mkF m pc L (.int x :: st)) := by
  subst hq
  exact o_st S (fun t X hx hy r => XS.i2l X hx rfl (hb hy hd) rfl r) k
theorem o_l2i (S : St p l e R s m args below meth c Z own bytes ml n0 ret nm T h cells slots) {x : Int64} (hd : decode bytes pc = .ok (.l2i, 1)) (hq : pc + 1 = q) (k : Wp p e below PO T (mkF m q L (.int x.toInt32 :: st))) : Wp p e below PO T (mkF m pc L (.long x :: st)) := by
  subst hq
  exact o_st S (fun t X hx hy r => XS.l2i X hx rfl (hb hy hd) rfl r) k
theorem o_i2b (S : St p l e R s m args below meth c Z own bytes ml n0 ret nm T h cells slots) {x : Int32} (hd : decode bytes pc = .ok (.i2b, 1)) (hq : pc + 1 = q) (k : Wp p e below PO T (mkF m q L (.int x.toInt8.toInt32 :: st))) : Wp p e below PO T (mkF m pc L (.int x :: st)) := by
  subst hq
  exact o_st S (fun t X hx hy r => XS.i2b X hx rfl (hb hy hd) rfl r) k
theorem o_i2s (S : St p l e R s m args below meth c Z own bytes ml n0 ret nm T h cells slots) {x : Int32} (hd : decode bytes pc = .ok (.i2s, 1)) (hq : pc + 1 = q) (k : Wp p e below PO T (mkF m q L (.int x.toInt16.toInt32 :: st))) : Wp p e below PO T (mkF m pc L (.int x :: st)) := by
  subst hq
  exact o_st S (fun t X hx hy r => XS.i2s X hx rfl (hb hy hd) rfl r) k
theorem o_i2c (S : St p l e R s m args below meth c Z own bytes ml n0 ret nm T h cells slots) {x : Int32} (hd : decode bytes pc = .ok (.i2c, 1)) (hq : pc + 1 = q) (k : Wp p e below PO T (mkF m q L (.int x.toUInt32.toUInt16.toUInt32.toInt32 :: st))) : Wp p e below PO T (mkF m pc L (.int x :: st)) := by
  subst hq
  exact o_st S (fun t X hx hy r => XS.i2c X hx rfl (hb hy hd) rfl r) k
theorem o_ishl (S : St p l e R s m args below meth c Z own bytes ml n0 ret nm T h cells slots) {x y : Int32} (hd : decode bytes pc = .ok (.ishl, 1)) (hq : pc + 1 = q) (k : Wp p e below PO T (mkF m q L (.int (x <<< (y &&& 31)) :: st))) : Wp p e below PO T (mkF m pc L (.int y :: .int x :: st)) := by
  subst hq
  exact o_st S (fun t X hx hy r => XS.ishl X hx rfl (hb hy hd) rfl r) k
theorem o_ishr (S : St p l e R s m args below meth c Z own bytes ml n0 ret nm T h cells slots) {x y : Int32} (hd : decode bytes pc = .ok (.ishr, 1)) (hq : pc + 1 = q) (k : Wp p e below PO T (mkF m q L (.int (x >>> (y &&& 31)) :: st))) : Wp p e below PO T (mkF m pc L (.int y :: .int x :: st)) := by
  subst hq
  exact o_st S (fun t X hx hy r => XS.ishr X hx rfl (hb hy hd) rfl r) k
theorem o_iushr (S : St p l e R s m args below meth c Z own bytes ml n0 ret nm T h cells slots) {x y : Int32} (hd : decode bytes pc = .ok (.iushr, 1)) (hq : pc + 1 = q) (k : Wp p e below PO T (mkF m q L (.int ((x.toUInt32 >>> (y &&& 31).toUInt32).toInt32) :: st))) : Wp p e below PO T (mkF m pc L (.int y :: .int x :: st)) := by
  subst hq
  exact o_st S (fun t X hx hy r => XS.iushr X hx rfl (hb hy hd) rfl r) k
theorem o_lshl (S : St p l e R s m args below meth c Z own bytes ml n0 ret nm T h cells slots) {x : Int64} {y : Int32} (hd : decode bytes pc = .ok (.lshl, 1)) (hq : pc + 1 = q) (k : Wp p e below PO T (mkF m q L (.long (x <<< (y &&& 0x3f).toInt64) :: st))) : Wp p e below PO T (mkF m pc L (.int y :: .long x :: st)) := by
  subst hq
  exact o_st S (fun t X hx hy r => XS.lshl X hx rfl (hb hy hd) rfl r) k
theorem o_lshr (S : St p l e R s m args below meth c Z own bytes ml n0 ret nm T h cells slots) {x : Int64} {y : Int32} (hd : decode bytes pc = .ok (.lshr, 1)) (hq : pc + 1 = q) (k : Wp p e below PO T (mkF m q L (.long (x >>> (y &&& 0x3f).toInt64) :: st))) : Wp p e below PO T (mkF m pc L (.int y :: .long x :: st)) := by
  subst hq
  exact o_st S (fun t X hx hy r => XS.lshr X hx rfl (hb hy hd) rfl r) k
theorem o_lushr (S : St p l e R s m args below meth c Z own bytes ml n0 ret nm T h cells slots) {x : Int64} {y : Int32} (hd : decode bytes pc = .ok (.lushr, 1)) (hq : pc + 1 = q) (k : Wp p e below PO T (mkF m q L (.long ((x.toUInt64 >>> (y &&& 0x3f).toInt64.toUInt64).toInt64) :: st))) : Wp p e below PO T (mkF m pc L (.int y :: .long x :: st)) := by
  subst hq
  exact o_st S (fun t X hx hy r => XS.lushr X hx rfl (hb hy hd) rfl r) k
theorem o_lcmp (S : St p l e R s m args below meth c Z own bytes ml n0 ret nm T h cells slots) {x y : Int64} (hd : decode bytes pc = .ok (.lcmp, 1)) (hq : pc + 1 = q) (k : Wp p e below PO T (mkF m q L (.int (lcmpW x y) :: st))) : Wp p e below PO T (mkF m pc L (.long y :: .long x :: st)) := by
  subst hq
  exact o_st S (fun t X hx hy r => XS.lcmp X hx rfl (hb hy hd) rfl r) k
theorem o_dup (S : St p l e R s m args below meth c Z own bytes ml n0 ret nm T h cells slots) {x : Value} (hc : x.category = 1) (hd : decode bytes pc = .ok (.dup, 1)) (hq : pc + 1 = q) (k : Wp p e below PO T (mkF m q L (x :: x :: st))) : Wp p e below PO T (mkF m pc L (x :: st)) := by
  subst hq
  exact o_st S (fun t X hx hy r => XS.dup X hx rfl (hb hy hd) rfl hc r) k
theorem o_pop (S : St p l e R s m args below meth c Z own bytes ml n0 ret nm T h cells slots) {x : Value} (hc : x.category = 1) (hd : decode bytes pc = .ok (.pop, 1)) (hq : pc + 1 = q) (k : Wp p e below PO T (mkF m q L (st))) : Wp p e below PO T (mkF m pc L (x :: st)) := by
  subst hq
  exact o_st S (fun t X hx hy r => XS.pop X hx rfl (hb hy hd) rfl hc r) k
theorem o_dupX1 (S : St p l e R s m args below meth c Z own bytes ml n0 ret nm T h cells slots) {x y : Value} (hc : x.category = 1) (hc' : y.category = 1) (hd : decode bytes pc = .ok (.dup_x1, 1)) (hq : pc + 1 = q) (k : Wp p e below PO T (mkF m q L (x :: y :: x :: st))) : Wp p e below PO T (mkF m pc L (x :: y :: st)) := by
  subst hq
  exact o_st S (fun t X hx hy r => XS.dupX1 X hx rfl (hb hy hd) rfl hc hc' r) k
theorem o_dup2 (S : St p l e R s m args below meth c Z own bytes ml n0 ret nm T h cells slots) {x y : Value} (hc : x.category = 1) (hc' : y.category = 1) (hd : decode bytes pc = .ok (.dup2, 1)) (hq : pc + 1 = q) (k : Wp p e below PO T (mkF m q L (x :: y :: x :: y :: st))) : Wp p e below PO T (mkF m pc L (x :: y :: st)) := by
  subst hq
  exact o_st S (fun t X hx hy r => XT.dup2 X hx rfl (hb hy hd) rfl hc hc' r) k
theorem o_iinc (S : St p l e R s m args below meth c Z own bytes ml n0 ret nm T h cells slots) {k : Nat} {i : Int} {x : Int32} {L' : Array Slot} (hl : L[k]? = some (.val (.int x))) (hl' : storeLocals L k (.int (x + Int32.ofInt i)) = some L') (hd : decode bytes pc = .ok (.iinc k i, 3)) (hq : pc + 3 = q) (kk : Wp p e below PO T (mkF m q L' st)) : Wp p e below PO T (mkF m pc L st) := by
  subst hq
  exact o_st S (fun t X hx hy r => XS.iinc X hx rfl (hb hy hd) hl hl' r) kk
theorem o_goto (S : St p l e R s m args below meth c Z own bytes ml n0 ret nm T h cells slots) {o : Int} (hd : decode bytes pc = .ok (.goto o, 3)) (ho : 0 ≤ (pc : Int) + o) (hq : ((pc : Int) + o).toNat = q) (k : Wp p e below PO T (mkF m q L st)) : Wp p e below PO T (mkF m pc L st) :=
  o_st S (fun t X hx hy r => XS.goto X hx rfl rfl (hb hy hd) ho hq r) k
theorem o_ldc (S : St p l e R s m args below meth c Z own bytes ml n0 ret nm T h cells slots) {i : Nat} {z : Int32} (w : (Jvm.Cond.constant own i z).before a0 Z = true) (hd : decode bytes pc = .ok (.ldc i, 2)) (hq : pc + 2 = q) (k : Wp p e below PO T (mkF m q L (.int z :: st))) : Wp p e below PO T (mkF m pc L st) := by
  subst hq
  obtain ⟨locs, X, N, eT, hx, hZ, hown, hby, hml, hlk, hn, hrt, hnm⟩ := S
  exact o_to (X.ldcInt hx hown (mvT hZ w) (g := mkF m pc L st) rfl (hb hby hd)) k
theorem o_ldc2 (S : St p l e R s m args below meth c Z own bytes ml n0 ret nm T h cells slots) {i : Nat} {z : Int64} (w : (Jvm.Cond.constantLong own i z).before a0 Z = true) (hd : decode bytes pc = .ok (.ldc2_w i, 3)) (hq : pc + 3 = q) (k : Wp p e below PO T (mkF m q L (.long z :: st))) : Wp p e below PO T (mkF m pc L st) := by
  subst hq
  obtain ⟨locs, X, N, eT, hx, hZ, hown, hby, hml, hlk, hn, hrt, hnm⟩ := S
  exact o_to (X.ldc2Long hx hown (mvT hZ w) (g := mkF m pc L st) rfl (hb hby hd)) k
/-! branches: base conditions x < y (as integers) and x = y -/
theorem o_icmp (S : St p l e R s m args below meth c Z own bytes ml n0 ret nm T h cells slots) {cd : ClassFile.Cond} {x y : Int32} {o : Int} {q' : Nat} {P : Prop} (hd : decode bytes pc = .ok (.if_icmp cd o, 3)) (ho : 0 ≤ (pc : Int) + o) (hq' : ((pc : Int) + o).toNat = q') (hq : pc + 3 = q) (h1 : P → if_icmp.holds cd x y = true) (h2 : ¬ P → if_icmp.holds cd x y = false) [Decidable P]
    (k1 : P → Wp p e below PO T (mkF m q' L st)) (k2 : ¬ P → Wp p e below PO T (mkF m q L st)) : Wp p e below PO T (mkF m pc L (.int y :: .int x :: st)) := by
  subst hq
  by_cases hP : P
  · exact o_st S (fun t X hx hy r => XS.icmpYes X hx rfl rfl (hb hy hd) rfl (h1 hP) ho hq' r) (k1 hP)
  · exact o_st S (fun t X hx hy r => XS.icmpNo X hx rfl (hb hy hd) rfl (h2 hP) r) (k2 hP)
theorem o_if (S : St p l e R s m args below meth c Z own bytes ml n0 ret nm T h cells slots) {cd : ClassFile.Cond} {x : Int32} {o : Int} {q' : Nat} {P : Prop} (hd : decode bytes pc = .ok (.ifCond cd o, 3)) (ho : 0 ≤ (pc : Int) + o) (hq' : ((pc : Int) + o).toNat = q') (hq : pc + 3 = q) (h1 : P → if_icmp.holds cd x 0 = true) (h2 : ¬ P → if_icmp.holds cd x 0 = false) [Decidable P]
    (k1 : P → Wp p e below PO T (mkF m q' L st)) (k2 : ¬ P → Wp p e below PO T (mkF m q L st)) : Wp p e below PO T (mkF m pc L (.int x :: st)) := by
  subst hq
  by_cases hP : P
  · exact o_st S (fun t X hx hy r => XS.ifYes X hx rfl rfl (hb hy hd) rfl ((if0 _ _).trans (h1 hP)) ho hq' r) (k1 hP)
  · exact o_st S (fun t X hx hy r => XS.ifNo X hx rfl (hb hy hd) rfl ((if0 _ _).trans (h2 hP)) r) (k2 hP)
theorem hs_lt {x y : Int32} {a b : Int} (ha : x.toInt = a) (hb : y.toInt = b) : (a < b → if_icmp.holds .lt x y = true) ∧ (¬ a < b → if_icmp.holds .lt x y = false) := by subst ha hb; exact ⟨fun h => (tlt (Int32.lt_iff_toInt_lt.mpr h)).1, fun h => (flt (fun g => h (Int32.lt_iff_toInt_lt.mp g))).1⟩
theorem hs_ge {x y : Int32} {a b : Int} (ha : x.toInt = a) (hb : y.toInt = b) : (b ≤ a → if_icmp.holds .ge x y = true) ∧ (¬ b ≤ a → if_icmp.holds .ge x y = false) := by subst ha hb; exact ⟨fun h => (flt (fun g => by have := Int32.lt_iff_toInt_lt.mp g; omega)).2.1, fun h => (tlt (Int32.lt_iff_toInt_lt.mpr (by omega))).2.1⟩
theorem hs_gt {x y : Int32} {a b : Int} (ha : x.toInt = a) (hb : y.toInt = b) : (b < a → if_icmp.holds .gt x y = true) ∧ (¬ b < a → if_icmp.holds .gt x y = false) := by subst ha hb; exact ⟨fun h => (tlt (Int32.lt_iff_toInt_lt.mpr h)).2.2.1, fun h => (flt (fun g => h (Int32.lt_iff_toInt_lt.mp g))).2.2.1⟩
theorem hs_le {x y : Int32} {a b : Int} (ha : x.toInt = a) (hb : y.toInt = b) : (a ≤ b → if_icmp.holds .le x y = true) ∧ (¬ a ≤ b → if_icmp.holds .le x y = false) := by subst ha hb; exact ⟨fun h => (flt (fun g => by have := Int32.lt_iff_toInt_lt.mp g; omega)).2.2.2, fun h => (tlt (Int32.lt_iff_toInt_lt.mpr (by omega))).2.2.2⟩
theorem hs_eq {x y : Int32} : (x = y → if_icmp.holds .eq x y = true) ∧ (¬ x = y → if_icmp.holds .eq x y = false) := ⟨fun h => (teq h).1, fun h => (feq h).1⟩
theorem hs_ne {x y : Int32} : (¬ x = y → if_icmp.holds .ne x y = true) ∧ (¬ ¬ x = y → if_icmp.holds .ne x y = false) := ⟨fun h => (feq h).2, fun h => (teq (Decidable.not_not.mp h)).2⟩
theorem hl_eq {x y : Int64} : (x = y → if_icmp.holds .eq (lcmpW x y) 0 = true) ∧ (¬ x = y → if_icmp.holds .eq (lcmpW x y) 0 = false) := ⟨fun h => (teq ((lw_eq x y).mpr h)).1, fun h => (feq (fun g => h ((lw_eq x y).mp g))).1⟩
theorem hl_ne {x y : Int64} : (¬ x = y → if_icmp.holds .ne (lcmpW x y) 0 = true) ∧ (¬ ¬ x = y → if_icmp.holds .ne (lcmpW x y) 0 = false) := ⟨fun h => (feq (fun g => h ((lw_eq x y).mp g))).2, fun h => (teq ((lw_eq x y).mpr (Decidable.not_not.mp h))).2⟩
theorem hl_lt {x y : Int64} {a b : Int} (ha : x.toInt = a) (hb : y.toInt = b) : (a < b → if_icmp.holds .lt (lcmpW x y) 0 = true) ∧ (¬ a < b → if_icmp.holds .lt (lcmpW x y) 0 = false) := by subst ha hb; exact ⟨fun h => (tlt ((lw_lt x y).mpr (Int64.lt_iff_toInt_lt.mpr h))).1, fun h => (flt (fun g => h (Int64.lt_iff_toInt_lt.mp ((lw_lt x y).mp g)))).1⟩
theorem hl_ge {x y : Int64} {a b : Int} (ha : x.toInt = a) (hb : y.toInt = b) : (b ≤ a → if_icmp.holds .ge (lcmpW x y) 0 = true) ∧ (¬ b ≤ a → if_icmp.holds .ge (lcmpW x y) 0 = false) := by subst ha hb; exact ⟨fun h => (flt (fun g => by have := Int64.lt_iff_toInt_lt.mp ((lw_lt x y).mp g); omega)).2.1, fun h => (tlt ((lw_lt x y).mpr (Int64.lt_iff_toInt_lt.mpr (by omega)))).2.1⟩
theorem hl_gt {x y : Int64} {a b : Int} (ha : x.toInt = a) (hb : y.toInt = b) : (b < a → if_icmp.holds .gt (lcmpW x y) 0 = true) ∧ (¬ b < a → if_icmp.holds .gt (lcmpW x y) 0 = false) := by subst ha hb; exact ⟨fun h => (tlt ((lw_gt x y).mpr (Int64.lt_iff_toInt_lt.mpr h))).2.2.1, fun h => (flt (fun g => h (Int64.lt_iff_toInt_lt.mp ((lw_gt x y).mp g)))).2.2.1⟩
theorem hl_le {x y : Int64} {a b : Int} (ha : x.toInt = a) (hb : y.toInt = b) : (a ≤ b → if_icmp.holds .le (lcmpW x y) 0 = true) ∧ (¬ a ≤ b → if_icmp.holds .le (lcmpW x y) 0 = false) := by subst ha hb; exact ⟨fun h => (flt (fun g => by have := Int64.lt_iff_toInt_lt.mp ((lw_gt x y).mp g); omega)).2.2.2, fun h => (tlt ((lw_gt x y).mpr (Int64.lt_iff_toInt_lt.mpr (by omega)))).2.2.2⟩
theorem o_ifnullY (S : St p l e R s m args below meth c Z own bytes ml n0 ret nm T h cells slots) {o : Int} (hd : decode bytes pc = .ok (.ifnull o, 3)) (ho : 0 ≤ (pc : Int) + o) (hq : ((pc : Int) + o).toNat = q) (k : Wp p e below PO T (mkF m q L st)) : Wp p e below PO T (mkF m pc L (.null :: st)) :=
  o_st S (fun t X hx hy r => XS.ifnullYes X hx rfl rfl (hb hy hd) rfl ho hq r) k
theorem o_ifnullN (S : St p l e R s m args below meth c Z own bytes ml n0 ret nm T h cells slots) {o : Int} {b : Addr} (hd : decode bytes pc = .ok (.ifnull o, 3)) (hq : pc + 3 = q) (k : Wp p e below PO T (mkF m q L st)) : Wp p e below PO T (mkF m pc L (.ref b :: st)) := by
  subst hq
  exact o_st S (fun t X hx hy r => XS.ifnullNo X hx rfl (hb hy hd) rfl r) k
theorem o_ifnonnullY (S : St p l e R s m args below meth c Z own bytes ml n0 ret nm T h cells slots) {o : Int} {b : Addr} (hd : decode bytes pc = .ok (.ifnonnull o, 3)) (ho : 0 ≤ (pc : Int) + o) (hq : ((pc : Int) + o).toNat = q) (k : Wp p e below PO T (mkF m q L st)) : Wp p e below PO T (mkF m pc L (.ref b :: st)) :=
  o_st S (fun t X hx hy r => XS.ifnonnullYes X hx rfl rfl (hb hy hd) rfl ho hq r) k
theorem o_ifnonnullN (S : St p l e R s m args below meth c Z own bytes ml n0 ret nm T h cells slots) {o : Int} (hd : decode bytes pc = .ok (.ifnonnull o, 3)) (hq : pc + 3 = q) (k : Wp p e below PO T (mkF m q L st)) : Wp p e below PO T (mkF m pc L (.null :: st)) := by
  subst hq
  exact o_st S (fun t X hx hy r => XS.ifnonnullNo X hx rfl (hb hy hd) rfl r) k
/-! returns -/
theorem o_ret {Q : Option Value → Heap → Prop} {w : Option Value} (S : St p l e R s m args below meth c Z own bytes ml n0 ret nm T h cells slots) {g : JFrame} (hv : meth.sig.returnType = none → w = none) (hc : cells ≤ R.cells) (hs : slots ≤ R.slots) (qq : Q w h)
    (hst : ∀ fs : List Frame, At T m c below → T.vm.method? m = some meth → p.tables.exec = Jvm.exec → c.code = bytes → (∀ locs, Stand p l e R s m args below meth c T locs cells slots → (∀ (f : JFrame) (acts : List Action), f.method = m → f.locked = none → f.entered = [] → (doReturn e (T.setTop f) acts w).1 = T.setFrames fs) → Steps p.tables e below (T.setTop g) (T.setFrames fs))) : Wp p e below (Po s n0 R Q) T g := by
  obtain ⟨locs, X, N, eT, hx, hZ, hown, hby, hml, hlk, hn, hrt, hnm⟩ := S
  obtain ⟨fs, hr, hrun, hended, hW, hsame⟩ := X.leave (v := w) hv hlk
  refine ⟨_, _, hst fs X.here X.method' hx hby locs X hr, hrun, hended, _, _, rfl, ⟨?_, N⟩, ⟨_, rfl⟩, hW, hsame.mono hc hs⟩
  show Q w T.heap
  rw [eT]; exact qq
theorem o_retI {Q : Option Value → Heap → Prop} {z : Int32} (S : St p l e R s m args below meth c Z own bytes ml n0 ret nm T h cells slots) (hret : ret = some .int) (hd : decode bytes pc = .ok (.ireturn, 1)) (hc : cells ≤ R.cells) (hs : slots ≤ R.slots) (qq : Q (some (.int z)) h) : Wp p e below (Po s n0 R Q) T (mkF m pc L (.int z :: st)) := by
  have hrt : meth.sig.returnType = some .int := by obtain ⟨locs, X, N, eT, hx, hZ, hown, hby, hml, hlk, hn, hrt, hnm⟩ := S; rw [hrt, hret]
  refine o_ret S (w := some (.int z)) (fun h => by rw [hrt] at h; cases h) hc hs qq fun fs hA hm hx hby locs X hr => ?_
  exact retOut X hx hrt rfl (Or.inl ⟨rfl, Or.inl rfl, z, rfl⟩) (hb hby hd) hr
theorem o_retN {Q : Option Value → Heap → Prop} {z : Int32} {t : FieldType} (S : St p l e R s m args below meth c Z own bytes ml n0 ret nm T h cells slots) (hret : ret = some t) (ht : t = .boolean ∨ t = .byte ∨ t = .char ∨ t = .short) (hd : decode bytes pc = .ok (.ireturn, 1)) (hc : cells ≤ R.cells) (hs : slots ≤ R.slots) (hn : narrow t (.int z) = .int z) (qq : Q (some (.int z)) h) : Wp p e below (Po s n0 R Q) T (mkF m pc L (.int z :: st)) := by
  have hrt : meth.sig.returnType = some t := by obtain ⟨locs, X, N, eT, hx, hZ, hown, hby, hml, hlk, hn, hrt, hnm⟩ := S; rw [hrt, hret]
  refine o_ret S (w := some (.int z)) (fun h => by rw [hrt] at h; cases h) hc hs qq fun fs hA hm hx hby locs X hr => ?_
  exact retOut X hx hrt hn (Or.inl ⟨rfl, Or.inr ht, z, rfl⟩) (hb hby hd) hr
theorem o_retJ {Q : Option Value → Heap → Prop} {z : Int64} (S : St p l e R s m args below meth c Z own bytes ml n0 ret nm T h cells slots) (hret : ret = some .long) (hd : decode bytes pc = .ok (.lreturn, 1)) (hc : cells ≤ R.cells) (hs : slots ≤ R.slots) (qq : Q (some (.long z)) h) : Wp p e below (Po s n0 R Q) T (mkF m pc L (.long z :: st)) := by
  have hrt : meth.sig.returnType = some .long := by obtain ⟨locs, X, N, eT, hx, hZ, hown, hby, hml, hlk, hn, hrt, hnm⟩ := S; rw [hrt, hret]
  refine o_ret S (w := some (.long z)) (fun h => by rw [hrt] at h; cases h) hc hs qq fun fs hA hm hx hby locs X hr => ?_
  exact retOut X hx hrt rfl (Or.inr (Or.inl ⟨rfl, rfl, z, rfl⟩)) (hb hby hd) hr
theorem o_retR {Q : Option Value → Heap → Prop} {z : Value} {t : FieldType} (S : St p l e R s m args below meth c Z own bytes ml n0 ret nm T h cells slots) (hret : ret = some t) (ht : t.isReference = true) (hz : z.isRef = true) (hn : narrow t z = z) (hd : decode bytes pc = .ok (.areturn, 1)) (hc : cells ≤ R.cells) (hs : slots ≤ R.slots) (qq : Q (some z) h) : Wp p e below (Po s n0 R Q) T (mkF m pc L (z :: st)) := by
  have hrt : meth.sig.returnType = some t := by obtain ⟨locs, X, N, eT, hx, hZ, hown, hby, hml, hlk, hn, hrt, hnm⟩ := S; rw [hrt, hret]
  refine o_ret S (w := some z) (fun h => by rw [hrt] at h; cases h) hc hs qq fun fs hA hm hx hby locs X hr => ?_
  exact retOut X hx hrt hn (Or.inr (Or.inr (Or.inr (Or.inr ⟨rfl, ht, hz⟩)))) (hb hby hd) hr
theorem o_retV {Q : Option Value → Heap → Prop} (S : St p l e R s m args below meth c Z own bytes ml n0 ret nm T h cells slots) (hret : ret = none) (hd : decode bytes pc = .ok (.return_, 1)) (hc : cells ≤ R.cells) (hs : slots ≤ R.slots) (qq : Q none h) : Wp p e below (Po s n0 R Q) T (mkF m pc L []) := by
  have hrt : meth.sig.returnType = none := by obtain ⟨locs, X, N, eT, hx, hZ, hown, hby, hml, hlk, hn, hrt, hnm⟩ := S; rw [hrt, hret]
  exact o_ret S (w := none) (fun _ => rfl) hc hs qq fun fs hA hm hx hby locs X hr => X.returnOut hx hrt (hb hby hd) hr

/-! calls -/
theorem o_cut {A B : Prop} (k2 : A → B) (k1 : A) : B := k2 k1
theorem o_cutS {B : Prop} (S : St p l e R s m args below meth c Z own bytes ml n0 ret nm T h cells slots) {G : State → Prop} (k2 : (∀ T', St p l e R s m args below meth c Z own bytes ml n0 ret nm T' h cells slots → G T') → B) (k1 : ∀ T', St p l e R s m args below meth c Z own bytes ml n0 ret nm T' h cells slots → G T') : B := k2 k1
def Qp (r : Option Value) (h0 : Heap) : Option Value → Heap → Prop := fun v h => v = r ∧ h = h0
theorem o_si {a b : Int32} (h : a = b) : some (Value.int a) = some (Value.int b) := by rw [h]
theorem o_sj {a b : Int64} (h : a = b) : some (Value.long a) = some (Value.long b) := by rw [h]
theorem o_callS (S : St p l e R s m args below meth c Z own bytes ml n0 ret nm T h cells slots) {i : Nat} {y : MethodName} {bytes' : ByteArray} {maxL : Nat} {ret' : Option FieldType} {rm : Room} {W : Nat} {argsL rest : List Value} {Q : Option Value → Heap → Prop} {ps : List FieldType} {r' : Option FieldType}
    (w1 : (Jvm.Cond.methodLink own i y).before a0 Z = true) (w2 : (Jvm.Cond.static y).before a0 Z = true) (w3 : (Jvm.Cond.initialized y.cls).before a0 Z = true) (w4 : (Jvm.Cond.code y bytes' maxL ret').before a0 Z = true) (hy : y.cls ≠ "java/lang/invoke/MethodHandle" ∧ y.cls ≠ "java/lang/invoke/VarHandle")
    (K : Ct l y bytes' maxL ret' [] rm Z h n0 argsL.toArray Q) (hf : rm.frames + 1 ≤ R.frames) (hl : W + (maxL + 11) + rm.locals ≤ R.locals) (hL : L.size = ml) (hst : st = argsL.reverse ++ rest) (hsig : parseMethodDescriptor y.desc = some ⟨ps, r'⟩) (hlen : argsL.length = ps.length) (hW : (rest.map fun v => v.category).sum ≤ W)
    (hd : decode bytes pc = .ok (.invokestatic i, 3)) (hq : pc + 3 = q) (hc : cells + rm.cells ≤ R.cells) (hs : slots + rm.slots ≤ R.slots) (k : ∀ T' h' v, St p l e R s m args below meth c Z own bytes ml n0 ret nm T' h' (cells + rm.cells) (slots + rm.slots) → Q v h' → Wp p e below PO T' (mkF m q L (v.toList ++ rest))) : Wp p e below PO T (mkF m pc L st) := by
  subst hq
  obtain ⟨locs, X, N, eT, hx, hZ, hown, hby, hml, hlk, hn, hrt, hnm⟩ := S
  have hb0 := backOf (R := R) (s := s) (p := p) (e := e) (below := below) (args := args) (len := 3) (W := W) (Q := fun v h L => Q v h ∧ Fr n0 L) K hZ w4 w3 hf hl
  obtain ⟨v, vm, ⟨T', L', k', n'⟩, hwm, X', ⟨Lc, hQ, l1, y1, z1⟩, st1⟩ := Jvm.LawKit.callS X hx (y := y) hown (mvT hZ w1) (mvT hZ w2) (mvT hZ w3) (mvT hZ w4) hy hb0 (g := mkF m pc L st) rfl (by rw [hml]; exact hL) (argsL := argsL) (rest := rest) (lenOf hsig hlen) hst (by show 2 * 0 + _ ≤ _; omega) (hb hby hd) (fun _ _ => ⟨rfl, eT, hc, hs⟩)
  dsimp only [Pt.U, Pt.locs, Pt.cells, Pt.slots] at X' l1 y1 z1 st1 hQ
  subst l1 y1 z1
  exact o_to st1 (k T' T'.heap v ⟨_, X', N.app hQ.2, rfl, hx, hZ, hown, hby, hml, hlk, hn, hrt, hnm⟩ hQ.1)
theorem o_callI (S : St p l e R s m args below meth c Z own bytes ml n0 ret nm T h cells slots) {i : Nat} {y : MethodName} {bytes' : ByteArray} {maxL : Nat} {rm : Room} {W : Nat} {argsL rest : List Value} {Q : Option Value → Heap → Prop} {ps : List FieldType} {r' : Option FieldType} {a : Addr} (hy1 : y.name = "<init>")
    (w1 : (Jvm.Cond.methodLink own i y).before a0 Z = true) (w2 : (Jvm.Cond.instanceMethod y).before a0 Z = true) (w3 : (Jvm.Cond.initialized y.cls).before a0 Z = true) (w4 : (Jvm.Cond.code y bytes' maxL none).before a0 Z = true) (hy : y.cls ≠ "java/lang/invoke/MethodHandle" ∧ y.cls ≠ "java/lang/invoke/VarHandle")
    (K : Ct l y bytes' maxL none [] rm Z h n0 (.ref a :: argsL).toArray Q) (hf : rm.frames + 1 ≤ R.frames) (hl : W + (maxL + 11) + rm.locals ≤ R.locals) (hL : L.size = ml) (hst : st = argsL.reverse ++ .ref a :: rest) (hsig : parseMethodDescriptor y.desc = some ⟨ps, r'⟩) (hlen : argsL.length = ps.length) (hW : (rest.map fun v => v.category).sum ≤ W)
    (hd : decode bytes pc = .ok (.invokespecial i, 3)) (hq : pc + 3 = q) (hc : cells + rm.cells ≤ R.cells) (hs : slots + rm.slots ≤ R.slots) (k : ∀ T' h' v, St p l e R s m args below meth c Z own bytes ml n0 ret nm T' h' (cells + rm.cells) (slots + rm.slots) → Q v h' → Wp p e below PO T' (mkF m q L (v.toList ++ rest))) : Wp p e below PO T (mkF m pc L st) := by
  subst hq
  obtain ⟨locs, X, N, eT, hx, hZ, hown, hby, hml, hlk, hn, hrt, hnm⟩ := S
  have hb0 := backOf (R := R) (s := s) (p := p) (e := e) (below := below) (args := args) (len := 3) (W := W) (Q := fun v h L => Q v h ∧ Fr n0 L) K hZ w4 w3 hf hl
  obtain ⟨v, vm, ⟨T', L', k', n'⟩, hwm, X', ⟨Lc, hQ, l1, y1, z1⟩, st1⟩ := X.specialBack hx (y := y) hy1 hown (mvT hZ w1) (mvT hZ w2) (mvT hZ w4) hy hb0 (g := mkF m pc L st) rfl (by rw [hml]; exact hL) (Steps.refl _) (a := a) (argsL := argsL) (rest := rest) (lenOf hsig hlen) hst (by show 2 * 0 + _ ≤ _; omega) (hb hby hd) (fun _ _ => ⟨rfl, eT, hc, hs⟩)
  dsimp only [Pt.U, Pt.locs, Pt.cells, Pt.slots] at X' l1 y1 z1 st1 hQ
  subst l1 y1 z1
  exact o_to (fun t r => st1.trans r) (k T' T'.heap v ⟨_, X', N.app hQ.2, rfl, hx, hZ, hown, hby, hml, hlk, hn, hrt, hnm⟩ hQ.1)
theorem o_callV (S : St p l e R s m args below meth c Z own bytes ml n0 ret nm T h cells slots) {i : Nat} {y : MethodName} {bytes' : ByteArray} {maxL : Nat} {ret' : Option FieldType} {rm : Room} {W : Nat} {argsL rest : List Value} {Q : Option Value → Heap → Prop} {ps : List FieldType} {r' : Option FieldType} {a : Addr} {z : MethodName} {C : String}
    (w1 : (Jvm.Cond.methodLink own i y).before a0 Z = true) (w2 : (Jvm.Cond.declares y).before a0 Z = true) (w5 : (Jvm.Cond.selects C y z).before a0 Z = true) (w6 : (Jvm.Cond.instanceMethod z).before a0 Z = true) (w3 : (Jvm.Cond.initialized z.cls).before a0 Z = true) (w4 : (Jvm.Cond.code z bytes' maxL ret').before a0 Z = true) (nf : ∀ s' : State, Z.Warmed39 s'.vm → NotFace s' y) (hy : y.cls ≠ "java/lang/invoke/MethodHandle" ∧ y.cls ≠ "java/lang/invoke/VarHandle")
    (E : Exa Z h a C) (K : Ct l z bytes' maxL ret' [] rm Z h n0 (.ref a :: argsL).toArray Q) (hf : rm.frames + 1 ≤ R.frames) (hl : W + (maxL + 11) + rm.locals ≤ R.locals) (hL : L.size = ml) (hst : st = argsL.reverse ++ .ref a :: rest) (hsig : parseMethodDescriptor y.desc = some ⟨ps, r'⟩) (hlen : argsL.length = ps.length) (hW : (rest.map fun v => v.category).sum ≤ W)
    (hd : decode bytes pc = .ok (.invokevirtual i, 3)) (hq : pc + 3 = q) (hc : cells + rm.cells ≤ R.cells) (hs : slots + rm.slots ≤ R.slots) (k : ∀ T' h' v, St p l e R s m args below meth c Z own bytes ml n0 ret nm T' h' (cells + rm.cells) (slots + rm.slots) → Q v h' → Wp p e below PO T' (mkF m q L (v.toList ++ rest))) : Wp p e below PO T (mkF m pc L st) := by
  subst hq
  obtain ⟨locs, X, N, eT, hx, hZ, hown, hby, hml, hlk, hn, hrt, hnm⟩ := S
  have hb0 := backOf (R := R) (s := s) (p := p) (e := e) (below := below) (args := args) (len := 3) (W := W) (Q := fun v h L => Q v h ∧ Fr n0 L) K hZ w4 w3 hf hl
  obtain ⟨cq, kq, qa, qb, qc⟩ := isOf hZ eT E
  obtain ⟨v, vm, ⟨T', L', k', n'⟩, hwm, X', ⟨Lc, hQ, l1, y1, z1⟩, st1⟩ := X.virtualBack hx (y := y) (z := z) hown (mvT hZ w1) (mvT hZ w2) (nf s hZ) (mvT hZ w5) (mvT hZ w6) hy hb0 qa qc (g := mkF m pc L st) rfl (by rw [hml]; exact hL) (Steps.refl _) (argsL := argsL) (rest := rest) (lenOf hsig hlen) hst (by show 2 * 0 + _ ≤ _; omega) (hb hby hd) (fun _ _ => ⟨rfl, eT, hc, hs⟩)
  dsimp only [Pt.U, Pt.locs, Pt.cells, Pt.slots] at X' l1 y1 z1 st1 hQ
  subst l1 y1 z1
  exact o_to (fun t r => st1.trans r) (k T' T'.heap v ⟨_, X', N.app hQ.2, rfl, hx, hZ, hown, hby, hml, hlk, hn, hrt, hnm⟩ hQ.1)
theorem o_nf {y : MethodName} {C : String} (w : (Jvm.Cond.selects C y y).before a0 Z = true) : ∀ s' : State, Z.Warmed39 s'.vm → NotFace s' y := fun s' hZ => notFace_of_selects (args := #[]) (mvT hZ w)
theorem o_callP (S : St p l e R s m args below meth c Z own bytes ml n0 ret nm T h cells slots) {i : Nat} {y : MethodName} {bytes' : ByteArray} {maxL : Nat} {ret' : Option FieldType} {rm : Room} {W : Nat} {argsL rest : List Value} {Q : Option Value → Heap → Prop} {ps : List FieldType} {r' : Option FieldType} {a : Addr}
    (w1 : (Jvm.Cond.methodLink own i y).before a0 Z = true) (w2 : (Jvm.Cond.instanceMethod y).before a0 Z = true) (w5 : (Jvm.Cond.selects y.cls y y).before a0 Z = true) (w6 : (Jvm.Cond.privateMethod y).before a0 Z = true) (w3 : (Jvm.Cond.initialized y.cls).before a0 Z = true) (w4 : (Jvm.Cond.code y bytes' maxL ret').before a0 Z = true) (hy : y.cls ≠ "java/lang/invoke/MethodHandle" ∧ y.cls ≠ "java/lang/invoke/VarHandle")
    (E : Exa Z h a y.cls) (K : Ct l y bytes' maxL ret' [] rm Z h n0 (.ref a :: argsL).toArray Q) (hf : rm.frames + 1 ≤ R.frames) (hl : W + (maxL + 11) + rm.locals ≤ R.locals) (hL : L.size = ml) (hst : st = argsL.reverse ++ .ref a :: rest) (hsig : parseMethodDescriptor y.desc = some ⟨ps, r'⟩) (hlen : argsL.length = ps.length) (hW : (rest.map fun v => v.category).sum ≤ W)
    (hd : decode bytes pc = .ok (.invokevirtual i, 3)) (hq : pc + 3 = q) (hc : cells + rm.cells ≤ R.cells) (hs : slots + rm.slots ≤ R.slots) (k : ∀ T' h' v, St p l e R s m args below meth c Z own bytes ml n0 ret nm T' h' (cells + rm.cells) (slots + rm.slots) → Q v h' → Wp p e below PO T' (mkF m q L (v.toList ++ rest))) : Wp p e below PO T (mkF m pc L st) := by
  subst hq
  obtain ⟨locs, X, N, eT, hx, hZ, hown, hby, hml, hlk, hn, hrt, hnm⟩ := S
  have hb0 := backOf (R := R) (s := s) (p := p) (e := e) (below := below) (args := args) (len := 3) (W := W) (Q := fun v h L => Q v h ∧ Fr n0 L) K hZ w4 w3 hf hl
  obtain ⟨cq, qa, qb⟩ := E.cell
  obtain ⟨v, vm, ⟨T', L', k', n'⟩, hwm, X', ⟨Lc, hQ, l1, y1, z1⟩, st1⟩ := X.privateBack hx (y := y) hown (mvT hZ w1) (mvT hZ w2) (mvT hZ w5) (Cond.privateMethod_at (mvP hZ w6 (args := #[]))) (mvT hZ w4) hy hb0 (g := mkF m pc L st) rfl (by rw [hml]; exact hL) (Steps.refl _) (a := a) (by rw [eT]; exact qa) qb (argsL := argsL) (rest := rest) (lenOf hsig hlen) hst (by show 2 * 0 + _ ≤ _; omega) (hb hby hd) (fun _ _ => ⟨rfl, eT, hc, hs⟩)
  dsimp only [Pt.U, Pt.locs, Pt.cells, Pt.slots] at X' l1 y1 z1 st1 hQ
  subst l1 y1 z1
  exact o_to (fun t r => st1.trans r) (k T' T'.heap v ⟨_, X', N.app hQ.2, rfl, hx, hZ, hown, hby, hml, hlk, hn, hrt, hnm⟩ hQ.1)
theorem o_callS0 (S : St p l e R s m args below meth c Z own bytes ml n0 ret nm T h cells slots) {i : Nat} {y : MethodName} {bytes' : ByteArray} {maxL : Nat} {ret' : Option FieldType} {rm : Room} {W : Nat} {argsL rest : List Value} {ps : List FieldType} {r' : Option FieldType} {st' : List Value} {r : Option Value} 
    (w1 : (Jvm.Cond.methodLink own i y).before a0 Z = true) (w2 : (Jvm.Cond.static y).before a0 Z = true) (w3 : (Jvm.Cond.initialized y.cls).before a0 Z = true) (w4 : (Jvm.Cond.code y bytes' maxL ret').before a0 Z = true) (hy : y.cls ≠ "java/lang/invoke/MethodHandle" ∧ y.cls ≠ "java/lang/invoke/VarHandle")
    (K : Ct l y bytes' maxL ret' [] rm Z h n0 argsL.toArray (Qp r h)) (hf : rm.frames + 1 ≤ R.frames) (hl : W + (maxL + 11) + rm.locals ≤ R.locals) (hL : L.size = ml) (hst : st = argsL.reverse ++ rest) (hsig : parseMethodDescriptor y.desc = some ⟨ps, r'⟩) (hlen : argsL.length = ps.length) (hW : (rest.map fun v => v.category).sum ≤ W)
    (hd : decode bytes pc = .ok (.invokestatic i, 3)) (hq : pc + 3 = q) (hc : cells + rm.cells ≤ R.cells) (hs : slots + rm.slots ≤ R.slots) (hst' : r.toList ++ rest = st') (k : ∀ T', St p l e R s m args below meth c Z own bytes ml n0 ret nm T' h (cells + rm.cells) (slots + rm.slots) → Wp p e below PO T' (mkF m q L st')) : Wp p e below PO T (mkF m pc L st) := by
  subst hst'
  exact o_callS S w1 w2 w3 w4 hy K hf hl hL hst hsig hlen hW hd hq hc hs (fun T' h' v S' hQ => by obtain ⟨hv, hh⟩ := hQ; subst hv; rw [hh] at S'; exact k T' S')
theorem o_callI0 (S : St p l e R s m args below meth c Z own bytes ml n0 ret nm T h cells slots) {i : Nat} {y : MethodName} {bytes' : ByteArray} {maxL : Nat} {rm : Room} {W : Nat} {argsL rest : List Value} {ps : List FieldType} {r' : Option FieldType} {st' : List Value} {r : Option Value} {a : Addr} (hy1 : y.name = "<init>")
    (w1 : (Jvm.Cond.methodLink own i y).before a0 Z = true) (w2 : (Jvm.Cond.instanceMethod y).before a0 Z = true) (w3 : (Jvm.Cond.initialized y.cls).before a0 Z = true) (w4 : (Jvm.Cond.code y bytes' maxL none).before a0 Z = true) (hy : y.cls ≠ "java/lang/invoke/MethodHandle" ∧ y.cls ≠ "java/lang/invoke/VarHandle")
    (K : Ct l y bytes' maxL none [] rm Z h n0 (.ref a :: argsL).toArray (Qp r h)) (hf : rm.frames + 1 ≤ R.frames) (hl : W + (maxL + 11) + rm.locals ≤ R.locals) (hL : L.size = ml) (hst : st = argsL.reverse ++ .ref a :: rest) (hsig : parseMethodDescriptor y.desc = some ⟨ps, r'⟩) (hlen : argsL.length = ps.length) (hW : (rest.map fun v => v.category).sum ≤ W)
    (hd : decode bytes pc = .ok (.invokespecial i, 3)) (hq : pc + 3 = q) (hc : cells + rm.cells ≤ R.cells) (hs : slots + rm.slots ≤ R.slots) (hst' : r.toList ++ rest = st') (k : ∀ T', St p l e R s m args below meth c Z own bytes ml n0 ret nm T' h (cells + rm.cells) (slots + rm.slots) → Wp p e below PO T' (mkF m q L st')) : Wp p e below PO T (mkF m pc L st) := by
  subst hst'
  exact o_callI S hy1 w1 w2 w3 w4 hy K hf hl hL hst hsig hlen hW hd hq hc hs (fun T' h' v S' hQ => by obtain ⟨hv, hh⟩ := hQ; subst hv; rw [hh] at S'; exact k T' S')
theorem o_callV0 (S : St p l e R s m args below meth c Z own bytes ml n0 ret nm T h cells slots) {i : Nat} {y : MethodName} {bytes' : ByteArray} {maxL : Nat} {ret' : Option FieldType} {rm : Room} {W : Nat} {argsL rest : List Value} {ps : List FieldType} {r' : Option FieldType} {st' : List Value} {r : Option Value} {a : Addr} {z : MethodName} {C : String}
    (w1 : (Jvm.Cond.methodLink own i y).before a0 Z = true) (w2 : (Jvm.Cond.declares y).before a0 Z = true) (w5 : (Jvm.Cond.selects C y z).before a0 Z = true) (w6 : (Jvm.Cond.instanceMethod z).before a0 Z = true) (w3 : (Jvm.Cond.initialized z.cls).before a0 Z = true) (w4 : (Jvm.Cond.code z bytes' maxL ret').before a0 Z = true) (nf : ∀ s' : State, Z.Warmed39 s'.vm → NotFace s' y) (hy : y.cls ≠ "java/lang/invoke/MethodHandle" ∧ y.cls ≠ "java/lang/invoke/VarHandle")
    (E : Exa Z h a C) (K : Ct l z bytes' maxL ret' [] rm Z h n0 (.ref a :: argsL).toArray (Qp r h)) (hf : rm.frames + 1 ≤ R.frames) (hl : W + (maxL + 11) + rm.locals ≤ R.locals) (hL : L.size = ml) (hst : st = argsL.reverse ++ .ref a :: rest) (hsig : parseMethodDescriptor y.desc = some ⟨ps, r'⟩) (hlen : argsL.length = ps.length) (hW : (rest.map fun v => v.category).sum ≤ W)
    (hd : decode bytes pc = .ok (.invokevirtual i, 3)) (hq : pc + 3 = q) (hc : cells + rm.cells ≤ R.cells) (hs : slots + rm.slots ≤ R.slots) (hst' : r.toList ++ rest = st') (k : ∀ T', St p l e R s m args below meth c Z own bytes ml n0 ret nm T' h (cells + rm.cells) (slots + rm.slots) → Wp p e below PO T' (mkF m q L st')) : Wp p e below PO T (mkF m pc L st) := by
  subst hst'
  exact o_callV S w1 w2 w5 w6 w3 w4 nf hy E K hf hl hL hst hsig hlen hW hd hq hc hs (fun T' h' v S' hQ => by obtain ⟨hv, hh⟩ := hQ; subst hv; rw [hh] at S'; exact k T' S')
theorem o_callP0 (S : St p l e R s m args below meth c Z own bytes ml n0 ret nm T h cells slots) {i : Nat} {y : MethodName} {bytes' : ByteArray} {maxL : Nat} {ret' : Option FieldType} {rm : Room} {W : Nat} {argsL rest : List Value} {ps : List FieldType} {r' : Option FieldType} {st' : List Value} {r : Option Value} {a : Addr}
    (w1 : (Jvm.Cond.methodLink own i y).before a0 Z = true) (w2 : (Jvm.Cond.instanceMethod y).before a0 Z = true) (w5 : (Jvm.Cond.selects y.cls y y).before a0 Z = true) (w6 : (Jvm.Cond.privateMethod y).before a0 Z = true) (w3 : (Jvm.Cond.initialized y.cls).before a0 Z = true) (w4 : (Jvm.Cond.code y bytes' maxL ret').before a0 Z = true) (hy : y.cls ≠ "java/lang/invoke/MethodHandle" ∧ y.cls ≠ "java/lang/invoke/VarHandle")
    (E : Exa Z h a y.cls) (K : Ct l y bytes' maxL ret' [] rm Z h n0 (.ref a :: argsL).toArray (Qp r h)) (hf : rm.frames + 1 ≤ R.frames) (hl : W + (maxL + 11) + rm.locals ≤ R.locals) (hL : L.size = ml) (hst : st = argsL.reverse ++ .ref a :: rest) (hsig : parseMethodDescriptor y.desc = some ⟨ps, r'⟩) (hlen : argsL.length = ps.length) (hW : (rest.map fun v => v.category).sum ≤ W)
    (hd : decode bytes pc = .ok (.invokevirtual i, 3)) (hq : pc + 3 = q) (hc : cells + rm.cells ≤ R.cells) (hs : slots + rm.slots ≤ R.slots) (hst' : r.toList ++ rest = st') (k : ∀ T', St p l e R s m args below meth c Z own bytes ml n0 ret nm T' h (cells + rm.cells) (slots + rm.slots) → Wp p e below PO T' (mkF m q L st')) : Wp p e below PO T (mkF m pc L st) := by
  subst hst'
  exact o_callP S w1 w2 w5 w6 w3 w4 hy E K hf hl hL hst hsig hlen hW hd hq hc hs (fun T' h' v S' hQ => by obtain ⟨hv, hh⟩ := hQ; subst hv; rw [hh] at S'; exact k T' S')
/-! the heap -/
theorem o_initO (S : St p l e R s m args below meth c Z own bytes ml n0 ret nm T h cells slots) {i W : Nat} {a : Addr} (w1 : (Jvm.Cond.methodLink own i Lib.objectInit).before a0 Z = true) (w2 : (Jvm.Cond.instanceMethod Lib.objectInit).before a0 Z = true) (w3 : (Jvm.Cond.code Lib.objectInit ⟨#[0xb1]⟩ 1 none).before a0 Z = true) (hL : L.size = ml) (hd : decode bytes pc = .ok (.invokespecial i, 3)) (hq : pc + 3 = q) (hf : 1 ≤ R.frames) (hW : (st.map fun v => v.category).sum ≤ W) (hl : W + 12 ≤ R.locals)
    (k : ∀ T', St p l e R s m args below meth c Z own bytes ml n0 ret nm T' h cells slots → Wp p e below PO T' (mkF m q L st)) : Wp p e below PO T (mkF m pc L (.ref a :: st)) := by
  subst hq
  obtain ⟨locs, X, N, eT, hx, hZ, hown, hby, hml, hlk, hn, hrt, hnm⟩ := S
  obtain ⟨T', X', e', st'⟩ := initO X hx hZ hown w1 w2 w3 eT (g := mkF m pc L (.ref a :: st)) rfl (by rw [hml]; exact hL) rfl (hb hby hd) hf (W := W) (by show 2 * 0 + _ ≤ _; omega) hl
  exact o_to st' (k T' ⟨_, X', N, e', hx, hZ, hown, hby, hml, hlk, hn, hrt, hnm⟩)
theorem o_getF (S : St p l e R s m args below meth c Z own bytes ml n0 ret nm T h cells slots) {i : Nat} {R0 O n d : String} {a : Addr} {v : Value} (w : (Jvm.Cond.fieldLink own i R0 n d).before a0 Z = true) (via : Via Z R0 O n d) (F : Fld Z h a O n d v) (hd : decode bytes pc = .ok (.getfield i, 3)) (hq : pc + 3 = q)
    (k : ∀ T', St p l e R s m args below meth c Z own bytes ml n0 ret nm T' h cells slots → Wp p e below PO T' (mkF m q L (v :: st))) : Wp p e below PO T (mkF m pc L (.ref a :: st)) := by
  subst hq
  obtain ⟨locs, X, N, eT, hx, hZ, hown, hby, hml, hlk, hn, hrt, hnm⟩ := S
  obtain ⟨T', X', e', st'⟩ := getF X hx hZ hown (host := "") (Or.inl w) via eT F (g := mkF m pc L (.ref a :: st)) rfl rfl (hb hby hd)
  exact o_to st' (k T' ⟨_, X', N, e', hx, hZ, hown, hby, hml, hlk, hn, hrt, hnm⟩)
theorem o_putF (S : St p l e R s m args below meth c Z own bytes ml n0 ret nm T h cells slots) {i kk : Nat} {R0 O n d C : String} {ty : FieldType} {a : Addr} {v old : Value} (w : (Jvm.Cond.fieldLink own i R0 n d).before a0 Z = true) (via : Via Z R0 O n d) (F : Fld Z h a O n d old) (E : Exa Z h a C) (Lw : (Jvm.Cond.lays C O n d).before a0 Z = true ∨ ((Jvm.Cond.laysFinal C O n d).before a0 Z = true ∧ own = O ∧ nm = "<init>")) (wi : (Jvm.Cond.instantiable C kk).before a0 Z = true) (hty : parseFieldDescriptor d = some ty) (hn' : narrow ty v = v) (hf : fits ty v = true) (ga : n0 ≤ a) (hd : decode bytes pc = .ok (.putfield i, 3)) (hq : pc + 3 = q)
    (k : ∀ T' h', St p l e R s m args below meth c Z own bytes ml n0 ret nm T' h' cells slots → Wr h h' a (Jvm.RoadKit.slotOf Z O n d) v → Fld Z h' a O n d v → Wp p e below PO T' (mkF m q L st)) : Wp p e below PO T (mkF m pc L (v :: .ref a :: st)) := by
  subst hq
  obtain ⟨locs, X, N, eT, hx, hZ, hown, hby, hml, hlk, hn, hrt, hnm⟩ := S
  obtain ⟨T', h', X', e', W', st'⟩ := putF X hx hZ hown (host := "") (Or.inl w) via eT F E (Lw.imp id fun q => ⟨q.1, q.2.1, by rw [hnm]; exact q.2.2⟩) wi hty hn' hf (g := mkF m pc L (v :: .ref a :: st)) rfl rfl (hb hby hd)
  exact o_to st' (k T' h' ⟨_, X', Fr.snoc X' N ga, e', hx, hZ, hown, hby, hml, hlk, hn, hrt, hnm⟩ W' (F.same W'))
theorem o_new (S : St p l e R s m args below meth c Z own bytes ml n0 ret nm T h cells slots) {i n : Nat} {C : String} (w : (Jvm.Cond.classLink own i C).before a0 Z = true) (wi : (Jvm.Cond.instantiable C n).before a0 Z = true) (wz : (Jvm.Cond.initialized C).before a0 Z = true) (hd : decode bytes pc = .ok (.new i, 3)) (hq : pc + 3 = q) (hc : cells + 1 ≤ R.cells) (hl : slots + n ≤ R.slots)
    (k : ∀ T' h' a, St p l e R s m args below meth c Z own bytes ml n0 ret nm T' h' (cells + 1) (slots + n) → a = h.size → n0 ≤ a → Ext h h' → Exa Z h' a C → (∀ {O nm d : String} {ty : FieldType}, Laid Z a0 C O nm d → parseFieldDescriptor d = some ty → Fld Z h' a O nm d (defaultValue ty)) → Wp p e below PO T' (mkF m q L (.ref a :: st))) : Wp p e below PO T (mkF m pc L st) := by
  have g0 := o_n0 S
  subst hq
  obtain ⟨locs, X, N, eT, hx, hZ, hown, hby, hml, hlk, hn, hrt, hnm⟩ := S
  obtain ⟨T', h', X', e', E', A', D', -, st'⟩ := newO X hx hZ hown w wi wz eT (g := mkF m pc L st) rfl (hb hby hd) hc hl
  exact o_to st' (k T' h' h.size ⟨_, X', N, e', hx, hZ, hown, hby, hml, hlk, hn, hrt, hnm⟩ rfl g0 E' A' D')
/-! arrays of ints (bytes, booleans ..): the list of what they hold -/
def IA (Z : State) (h : Heap) (a : Addr) (ty : FieldType) (xs : List Int32) : Prop := ∃ c : Cell, Arr Z h a c ty ∧ c.slots.size = xs.length ∧ xs.length < 2147483648 ∧ (∀ i, i < xs.length → c.slots[i]? = some (.int (xs.getD i 0))) ∧ ∀ i, i < xs.length → fits ty (.int (xs.getD i 0)) = true
theorem IA.lt {a : Addr} {ty : FieldType} {xs : List Int32} (F : IA Z h a ty xs) : a < h.size := by obtain ⟨c, A, -⟩ := F; exact A.lt
theorem IA.ext {h' : Heap} {a : Addr} {ty : FieldType} {xs : List Int32} (F : IA Z h a ty xs) (E : Ext h h') : IA Z h' a ty xs := by obtain ⟨c, A, r⟩ := F; exact ⟨c, A.ext E, r⟩
theorem IA.other {h' : Heap} {a b : Addr} {sl : Nat} {v : Value} {ty : FieldType} {xs : List Int32} (F : IA Z h b ty xs) (W : Wr h h' a sl v) (q : b ≠ a) : IA Z h' b ty xs := by obtain ⟨c, A, r⟩ := F; exact ⟨c, A.other W q, r⟩
theorem IA.keep {h' : Heap} {a : Addr} {ws : List Addr} {ty : FieldType} {xs : List Int32} (F : IA Z h a ty xs) (K : Keep h h' ws) (q : a ∉ ws) : IA Z h' a ty xs := by obtain ⟨c, A, r⟩ := F; exact ⟨c, ⟨K.2.1 a c A.1 q, A.2⟩, r⟩
theorem IA.len {a : Addr} {ty : FieldType} {xs : List Int32} (F : IA Z h a ty xs) : xs.length < 2147483648 := by obtain ⟨c, A, h1, h2, -⟩ := F; exact h2
theorem o_nat {j : Int32} (h0 : 0 ≤ j.toInt) : ¬ j < 0 ∧ (j.toNatClampNeg : Int) = j.toInt := by
  have h1 : ¬ j < 0 := fun q => by have := Int32.lt_iff_toInt_lt.mp q; have : (0 : Int32).toInt = 0 := rfl; omega
  exact ⟨h1, (nat_of h1).symm⟩
theorem o_inb {j : Int32} {n N : Nat} (h0 : 0 ≤ j.toInt) (h1 : j.toInt < n) (hN : N = n) : ¬ (j < 0 ∨ N ≤ j.toNatClampNeg) := by
  obtain ⟨g1, g2⟩ := o_nat h0
  rintro (q | q)
  · exact g1 q
  · omega
theorem IA.set {h' : Heap} {a : Addr} {ty : FieldType} {xs : List Int32} {j x : Int32} (F : IA Z h a ty xs) (W : Wr h h' a j.toNatClampNeg (.int x)) (hf : fits ty (.int x) = true) : IA Z h' a ty (xs.set j.toNatClampNeg x) := by
  obtain ⟨c, A, h1, h2, h3, h4⟩ := F
  refine ⟨c.setSlot j.toNatClampNeg (.int x), A.same W, by rw [sz_set, h1]; simp, by simpa using h2, fun i hi => ?_, fun i hi => ?_⟩
  · rw [List.length_set] at hi
    by_cases q : j.toNatClampNeg = i
    · subst q
      have : j.toNatClampNeg < c.slots.size := by rw [h1]; exact hi
      simp [Cell.setSlot, this, hi, List.getD_eq_getElem?_getD]
    · have := h3 i hi
      simp only [Cell.setSlot, Array.getElem?_setIfInBounds_ne q, this, List.getD_eq_getElem?_getD, List.getElem?_set_ne q]
  · rw [List.length_set] at hi
    by_cases q : j.toNatClampNeg = i
    · subst q; simpa [hi, List.getD_eq_getElem?_getD] using hf
    · have := h4 i hi
      simpa only [List.getD_eq_getElem?_getD, List.getElem?_set_ne q] using this
theorem IA.new {a : Addr} {ty : FieldType} {k : ClassId} {n : Int32} (A : Arr Z h a (newA k ty n) ty) (hn : ¬ n < 0) (hd : defaultValue ty = .int 0) (hf : fits ty (.int 0) = true) : IA Z h a ty (List.replicate n.toNatClampNeg 0) := by
  have := (back32 hn).2
  refine ⟨_, A, by simp [newA], by simpa using this, fun i hi => ?_, fun i hi => ?_⟩
  · have hi' : i < n.toNatClampNeg := by simpa using hi
    simp [newA, hd, hi', List.getD_eq_getElem?_getD]
  · have hi' : i < n.toNatClampNeg := by simpa using hi
    simpa [List.getD_eq_getElem?_getD, hi'] using hf
theorem o_newarr (S : St p l e R s m args below meth c Z own bytes ml n0 ret nm T h cells slots) {aty : ArrayType} {n : Int32} {cap : Nat} (w : (Jvm.Cond.arrayClass (newarray.typeOf aty)).before a0 Z = true) (hd : decode bytes pc = .ok (.newarray aty, 2)) (hq : pc + 2 = q) (hn0 : 0 ≤ n.toInt) (hcap : n.toInt ≤ cap) (hb8 : cap * 8 ≤ 536870912) (hc : cells + 1 ≤ R.cells) (hl : slots + cap ≤ R.slots)
    (k : ∀ T' h' a cA, St p l e R s m args below meth c Z own bytes ml n0 ret nm T' h' (cells + 1) (slots + cap) → a = h.size → n0 ≤ a → Ext h h' → Arr Z h' a (newA cA (newarray.typeOf aty) n) (newarray.typeOf aty) → Wp p e below PO T' (mkF m q L (.ref a :: st))) : Wp p e below PO T (mkF m pc L (.int n :: st)) := by
  have g0 := o_n0 S
  obtain ⟨g1, g2⟩ := o_nat hn0
  subst hq
  obtain ⟨locs, X, N, eT, hx, hZ, hown, hby, hml, hlk, hn, hrt, hnm⟩ := S
  obtain ⟨T', h', cA, X', e', E', A', st'⟩ := newP X hx hZ w eT (g := mkF m pc L (.int n :: st)) rfl (hb hby hd) rfl g1 (cap := cap) (by omega) hb8 hc hl
  exact o_to st' (k T' h' h.size cA ⟨_, X', N, e', hx, hZ, hown, hby, hml, hlk, hn, hrt, hnm⟩ rfl g0 E' A')
theorem o_iaload (S : St p l e R s m args below meth c Z own bytes ml n0 ret nm T h cells slots) {a : Addr} {j v : Int32} {xs : List Int32} (F : IA Z h a .int xs) (h0 : 0 ≤ j.toInt) (h1 : j.toInt < xs.length) (hv : xs.getD j.toNatClampNeg 0 = v) (hd : decode bytes pc = .ok (.iaload, 1)) (hq : pc + 1 = q) (k : Wp p e below PO T (mkF m q L (.int v :: st))) : Wp p e below PO T (mkF m pc L (.int j :: .ref a :: st)) := by
  subst hq hv
  obtain ⟨locs, X, N, eT, hx, hZ, hown, hby, hml, hlk, hn, hrt, hnm⟩ := S
  obtain ⟨cl, A, g1, g2, g3, g4⟩ := F
  have g5 := (o_nat h0).2
  exact o_to (X.iaload hx (j := j) (by rw [eT]; exact A.1) (State.isArrayOf_alike hZ.alike A.2.1) A.2.2 (o_inb h0 h1 g1) (g3 _ (by omega)) (g := mkF m pc L (.int j :: .ref a :: st)) rfl rfl (hb hby hd)) k
theorem o_baload (S : St p l e R s m args below meth c Z own bytes ml n0 ret nm T h cells slots) {a : Addr} {j v : Int32} {xs : List Int32} (F : IA Z h a .byte xs) (h0 : 0 ≤ j.toInt) (h1 : j.toInt < xs.length) (hv : xs.getD j.toNatClampNeg 0 = v) (hd : decode bytes pc = .ok (.baload, 1)) (hq : pc + 1 = q) (k : Wp p e below PO T (mkF m q L (.int v :: st))) : Wp p e below PO T (mkF m pc L (.int j :: .ref a :: st)) := by
  subst hq hv
  obtain ⟨locs, X, N, eT, hx, hZ, hown, hby, hml, hlk, hn, hrt, hnm⟩ := S
  obtain ⟨cl, A, g1, g2, g3, g4⟩ := F
  have g5 := (o_nat h0).2
  exact o_to (X.baloadBytes hx (j := j) (by rw [eT]; exact A.1) (State.isArrayOf_alike hZ.alike A.2.1) A.2.2 (o_inb h0 h1 g1) (g3 _ (by omega)) (g := mkF m pc L (.int j :: .ref a :: st)) rfl rfl (hb hby hd)) k
theorem o_iastore (S : St p l e R s m args below meth c Z own bytes ml n0 ret nm T h cells slots) {a : Addr} {j x y : Int32} {xs ys : List Int32} (F : IA Z h a .int xs) (h0 : 0 ≤ j.toInt) (h1 : j.toInt < xs.length) (ga : n0 ≤ a) (hx' : x = y) (hys : xs.set j.toNatClampNeg y = ys) (hd : decode bytes pc = .ok (.iastore, 1)) (hq : pc + 1 = q) (k : ∀ T' h', St p l e R s m args below meth c Z own bytes ml n0 ret nm T' h' cells slots → Wr h h' a j.toNatClampNeg (.int y) → IA Z h' a .int ys → Wp p e below PO T' (mkF m q L st)) : Wp p e below PO T (mkF m pc L (.int x :: .int j :: .ref a :: st)) := by
  subst hq hys hx'
  obtain ⟨locs, X, N, eT, hx, hZ, hown, hby, hml, hlk, hn, hrt, hnm⟩ := S
  have F' := F
  obtain ⟨cl, A, g1, g2, g3, g4⟩ := F
  obtain ⟨T', h', X', e', W', st'⟩ := stI X hx hZ eT A (j := j) (x := x) (o_inb h0 h1 g1) (g := mkF m pc L (.int x :: .int j :: .ref a :: st)) rfl rfl (hb hby hd)
  exact o_to st' (k T' h' ⟨_, X', Fr.snoc X' N ga, e', hx, hZ, hown, hby, hml, hlk, hn, hrt, hnm⟩ W' (F'.set W' rfl))
theorem o_bastore (S : St p l e R s m args below meth c Z own bytes ml n0 ret nm T h cells slots) {a : Addr} {j x y : Int32} {xs ys : List Int32} (F : IA Z h a .byte xs) (h0 : 0 ≤ j.toInt) (h1 : j.toInt < xs.length) (ga : n0 ≤ a) (hx' : x.toInt8.toInt32 = y) (hys : xs.set j.toNatClampNeg y = ys) (hd : decode bytes pc = .ok (.bastore, 1)) (hq : pc + 1 = q) (k : ∀ T' h', St p l e R s m args below meth c Z own bytes ml n0 ret nm T' h' cells slots → Wr h h' a j.toNatClampNeg (.int y) → IA Z h' a .byte ys → Wp p e below PO T' (mkF m q L st)) : Wp p e below PO T (mkF m pc L (.int x :: .int j :: .ref a :: st)) := by
  subst hq hys hx'
  obtain ⟨locs, X, N, eT, hx, hZ, hown, hby, hml, hlk, hn, hrt, hnm⟩ := S
  have F' := F
  obtain ⟨cl, A, g1, g2, g3, g4⟩ := F
  obtain ⟨T', h', X', e', W', st'⟩ := stB X hx hZ eT A (j := j) (x := x) (o_inb h0 h1 g1) (g := mkF m pc L (.int x :: .int j :: .ref a :: st)) rfl rfl (hb hby hd)
  exact o_to st' (k T' h' ⟨_, X', Fr.snoc X' N ga, e', hx, hZ, hown, hby, hml, hlk, hn, hrt, hnm⟩ W' (F'.set W' (fits_nar_byte x)))
theorem o_arraylength (S : St p l e R s m args below meth c Z own bytes ml n0 ret nm T h cells slots) {a : Addr} {ty : FieldType} {xs : List Int32} {z : Int32} (F : IA Z h a ty xs) (hz : Int32.ofNat xs.length = z) (hd : decode bytes pc = .ok (.arraylength, 1)) (hq : pc + 1 = q) (k : Wp p e below PO T (mkF m q L (.int z :: st))) : Wp p e below PO T (mkF m pc L (.ref a :: st)) := by
  subst hq hz
  obtain ⟨locs, X, N, eT, hx, hZ, hown, hby, hml, hlk, hn, hrt, hnm⟩ := S
  obtain ⟨cl, A, g1, g2, g3, g4⟩ := F
  exact o_to (X.arraylength hx (by rw [eT]; exact A.1) (State.isArrayOf_alike hZ.alike A.2.1) (g := mkF m pc L (.ref a :: st)) rfl rfl (hb hby hd)) (by rw [g1]; exact k)
theorem o_bid {x : Int32} (h1 : -128 ≤ x.toInt) (h2 : x.toInt < 128) : x.toInt8.toInt32 = x := by
  rw [← Int32.toInt_inj]; have := c_i2b x; omega
theorem o_cid {x : Int32} (h1 : 0 ≤ x.toInt) (h2 : x.toInt < 65536) : x.toUInt32.toUInt16.toUInt32.toInt32 = x := by
  rw [← Int32.toInt_inj]; have := c_i2c x; omega
theorem o_i2bb (x : Int32) : x.toInt8.toInt32.toInt8.toInt32 = x.toInt8.toInt32 := o_bid (c_i2b x).2.1 (c_i2b x).2.2
theorem o_narB {x : Int32} (h1 : -128 ≤ x.toInt) (h2 : x.toInt < 128) : narrow .byte (.int x) = .int x := by show Value.int _ = _; rw [o_bid h1 h2]
theorem o_narC {x : Int32} (h1 : 0 ≤ x.toInt) (h2 : x.toInt < 65536) : narrow .char (.int x) = .int x := by show Value.int _ = _; rw [o_cid h1 h2]
theorem o_narZ {x : Int32} (h : x = 0 ∨ x = 1) : narrow .boolean (.int x) = .int x := by rcases h with rfl | rfl <;> rfl
theorem o_split64 (x M m : Int64) (h1 : M ||| m = -1) (h0 : M &&& m = 0) : (x &&& M) ||| (x &&& m) = x ∧ (x &&& M) &&& m = 0 := by
  refine ⟨?_, by rw [Int64.and_assoc, h0, Int64.and_zero]⟩
  have q : x &&& (M ||| m) = (x &&& M) ||| (x &&& m) := Int64.toBitVec_inj.1 BitVec.and_or_distrib_left
  rw [← q, h1, Int64.and_neg_one]
theorem o_ne32 {x y : Int32} (h : x.toInt ≠ y.toInt) : x ≠ y := fun q => h (by rw [q])
theorem o_eq32 {x y : Int32} (h : x.toInt = y.toInt) : x = y := Int32.toInt_inj.mp h
theorem o_newarrE (S : St p l e R s m args below meth c Z own bytes ml n0 ret nm T h cells slots) {aty : ArrayType} {n : Int32} {cap : Nat} {ad : String} (w : (Jvm.Cond.arrayClass (newarray.typeOf aty)).before a0 Z = true) (had : "[" ++ (newarray.typeOf aty).toString = ad) (hd : decode bytes pc = .ok (.newarray aty, 2)) (hq : pc + 2 = q) (hn0 : 0 ≤ n.toInt) (hcap : n.toInt ≤ cap) (hb8 : cap * 8 ≤ 536870912) (hc : cells + 1 ≤ R.cells) (hl : slots + cap ≤ R.slots)
    (k : ∀ T' h' a cA, St p l e R s m args below meth c Z own bytes ml n0 ret nm T' h' (cells + 1) (slots + cap) → a = h.size → n0 ≤ a → Ext h h' → Arr Z h' a (newA cA (newarray.typeOf aty) n) (newarray.typeOf aty) → Exa Z h' a ad → Wp p e below PO T' (mkF m q L (.ref a :: st))) : Wp p e below PO T (mkF m pc L (.int n :: st)) := by
  have g0 := o_n0 S
  obtain ⟨g1, g2⟩ := o_nat hn0
  subst hq
  obtain ⟨locs, X, N, eT, hx, hZ, hown, hby, hml, hlk, hn, hrt, hnm⟩ := S
  obtain ⟨T', h', cA, X', e', E', A', EE, st'⟩ := newPE X hx hZ w eT (g := mkF m pc L (.int n :: st)) rfl (hb hby hd) rfl g1 (cap := cap) (by omega) hb8 hc hl had
  exact o_to st' (k T' h' h.size cA ⟨_, X', N, e', hx, hZ, hown, hby, hml, hlk, hn, hrt, hnm⟩ rfl g0 E' A' EE)
theorem IA.fitC {a : Addr} {ty : FieldType} {xs : List Int32} {c : Cell} (A : Arr Z h a c ty) (h1 : c.slots.size = xs.length) (h3 : ∀ i, i < xs.length → c.slots[i]? = some (.int (xs.getD i 0))) (h4 : ∀ i, i < xs.length → fits ty (.int (xs.getD i 0)) = true) : FitC Z c := fitC_of A fun i hi v hv => by
  rw [h3 i (by omega)] at hv; cases hv; exact h4 i (by omega)
theorem o_clone (S : St p l e R s m args below meth c Z own bytes ml n0 ret nm T h cells slots) {i W cap : Nat} {ad : String} {a : Addr} {ty : FieldType} {xs : List Int32} (w1 : (Jvm.Cond.methodLink own i ⟨ad, "clone", "()Ljava/lang/Object;"⟩).before a0 Z = true) (w2 : (Jvm.Cond.sameMethod ad "java/lang/Object" "clone" "()Ljava/lang/Object;").before a0 Z = true) (w3 : (Jvm.Cond.native ⟨"java/lang/Object", "clone", "()Ljava/lang/Object;"⟩).before a0 Z = true) (w4 : (Jvm.Cond.instanceMethod ⟨"java/lang/Object", "clone", "()Ljava/lang/Object;"⟩).before a0 Z = true) (w5 : (Jvm.Cond.selects ad ⟨ad, "clone", "()Ljava/lang/Object;"⟩ ⟨"java/lang/Object", "clone", "()Ljava/lang/Object;"⟩).before a0 Z = true) (w6 : (Jvm.Cond.castable ad "java/lang/Cloneable").before a0 Z = true)
    (F : IA Z h a ty xs) (E : Exa Z h a ad) (hL : L.size = ml) (hd : decode bytes pc = .ok (.invokevirtual i, 3)) (hq : pc + 3 = q) (hf : 1 ≤ R.frames) (hW : (st.map fun v => v.category).sum ≤ W) (hl : W + 14 ≤ R.locals) (hcap : xs.length ≤ cap) (hc : cells + 1 ≤ R.cells) (hs : slots + cap ≤ R.slots)
    (k : ∀ T' h' b, St p l e R s m args below meth c Z own bytes ml n0 ret nm T' h' (cells + 1) (slots + cap) → b = h.size → n0 ≤ b → Ext h h' → IA Z h' b ty xs → Exa Z h' b ad → Wp p e below PO T' (mkF m q L (.ref b :: st))) : Wp p e below PO T (mkF m pc L (.ref a :: st)) := by
  have g0 := o_n0 S
  subst hq
  obtain ⟨locs, X, N, eT, hx, hZ, hown, hby, hml, hlk, hn, hrt, hnm⟩ := S
  obtain ⟨cl, A, h1, h2, h3, h4⟩ := F
  obtain ⟨T', h', X', e', Ex, A', E', st'⟩ := cloneA X hx hZ hown w1 w2 w3 w4 w5 w6 eT A E (IA.fitC A h1 h3 h4) (g := mkF m pc L (.ref a :: st)) rfl (by rw [hml]; exact hL) rfl (hb hby hd) hf (W := W) (cap := cap) (by show 2 * 0 + _ ≤ _; omega) hl (by omega) hc hs
  exact o_to st' (k T' h' h.size ⟨_, X', N, e', hx, hZ, hown, hby, hml, hlk, hn, hrt, hnm⟩ rfl g0 Ex ⟨_, A', h1, h2, h3, h4⟩ E')
theorem o_castY (S : St p l e R s m args below meth c Z own bytes ml n0 ret nm T h cells slots) {i : Nat} {K : String} {a : Addr} (w : (Jvm.Cond.classLink own i K).before a0 Z = true) (F : Ins Z h a K true) (hd : decode bytes pc = .ok (.checkcast i, 3)) (hq : pc + 3 = q) (k : ∀ T', St p l e R s m args below meth c Z own bytes ml n0 ret nm T' h cells slots → Wp p e below PO T' (mkF m q L (.ref a :: st))) : Wp p e below PO T (mkF m pc L (.ref a :: st)) := by
  subst hq
  obtain ⟨locs, X, N, eT, hx, hZ, hown, hby, hml, hlk, hn, hrt, hnm⟩ := S
  obtain ⟨T', X', e', st'⟩ := castY X hx hZ hown w eT F (g := mkF m pc L (.ref a :: st)) rfl rfl (hb hby hd)
  exact o_to st' (k T' ⟨_, X', N, e', hx, hZ, hown, hby, hml, hlk, hn, hrt, hnm⟩)
theorem o_instY (S : St p l e R s m args below meth c Z own bytes ml n0 ret nm T h cells slots) {i : Nat} {K : String} {a : Addr} (w : (Jvm.Cond.classLink own i K).before a0 Z = true) (F : Ins Z h a K true) (hd : decode bytes pc = .ok (.instanceof i, 3)) (hq : pc + 3 = q) (k : ∀ T', St p l e R s m args below meth c Z own bytes ml n0 ret nm T' h cells slots → Wp p e below PO T' (mkF m q L (.int 1 :: st))) : Wp p e below PO T (mkF m pc L (.ref a :: st)) := by
  subst hq
  obtain ⟨locs, X, N, eT, hx, hZ, hown, hby, hml, hlk, hn, hrt, hnm⟩ := S
  obtain ⟨T', X', e', st'⟩ := instY X hx hZ hown w eT F (g := mkF m pc L (.ref a :: st)) rfl rfl (hb hby hd)
  exact o_to st' (k T' ⟨_, X', N, e', hx, hZ, hown, hby, hml, hlk, hn, hrt, hnm⟩)
theorem o_instN (S : St p l e R s m args below meth c Z own bytes ml n0 ret nm T h cells slots) {i : Nat} {K C : String} {a : Addr} (w : (Jvm.Cond.classLink own i K).before a0 Z = true) (E : Exa Z h a C) (F : ∃ c t, Z.vm.findClass C = some c ∧ Z.vm.findClass K = some t ∧ Z.vm.assignable c t = false) (hd : decode bytes pc = .ok (.instanceof i, 3)) (hq : pc + 3 = q) (k : ∀ T', St p l e R s m args below meth c Z own bytes ml n0 ret nm T' h cells slots → Wp p e below PO T' (mkF m q L (.int 0 :: st))) : Wp p e below PO T (mkF m pc L (.ref a :: st)) := by
  subst hq
  obtain ⟨locs, X, N, eT, hx, hZ, hown, hby, hml, hlk, hn, hrt, hnm⟩ := S
  obtain ⟨T', X', e', st'⟩ := instNo X hx hZ hown w eT E F (g := mkF m pc L (.ref a :: st)) rfl rfl (hb hby hd)
  exact o_to st' (k T' ⟨_, X', N, e', hx, hZ, hown, hby, hml, hlk, hn, hrt, hnm⟩)
theorem o_instNull (S : St p l e R s m args below meth c Z own bytes ml n0 ret nm T h cells slots) {i : Nat} (hd : decode bytes pc = .ok (.instanceof i, 3)) (hq : pc + 3 = q) (k : Wp p e below PO T (mkF m q L (.int 0 :: st))) : Wp p e below PO T (mkF m pc L (.null :: st)) := by
  subst hq
  obtain ⟨locs, X, N, eT, hx, hZ, hown, hby, hml, hlk, hn, hrt, hnm⟩ := S
  exact o_to (X.instanceofNull hx (g := mkF m pc L (.null :: st)) rfl rfl (hb hby hd)) k
theorem o_getS (S : St p l e R s m args below meth c Z own bytes ml n0 ret nm T h cells slots) {i : Nat} {O n d : String} {v : Value} (w : (Jvm.Cond.fieldLink own i O n d).before a0 Z = true) (F : Sta Z h O n d v) (hd : decode bytes pc = .ok (.getstatic i, 3)) (hq : pc + 3 = q) (k : ∀ T', St p l e R s m args below meth c Z own bytes ml n0 ret nm T' h cells slots → Wp p e below PO T' (mkF m q L (v :: st))) : Wp p e below PO T (mkF m pc L st) := by
  subst hq
  obtain ⟨locs, X, N, eT, hx, hZ, hown, hby, hml, hlk, hn, hrt, hnm⟩ := S
  obtain ⟨T', X', e', st'⟩ := getS X hx hZ (host := "") hown w Via.refl eT F (g := mkF m pc L st) rfl (hb hby hd)
  exact o_to st' (k T' ⟨_, X', N, e', hx, hZ, hown, hby, hml, hlk, hn, hrt, hnm⟩)
theorem o_aaloadA (S : St p l e R s m args below meth c Z own bytes ml n0 ret nm T h cells slots) {a : Addr} {cl : Cell} {ty : FieldType} {j : Int32} {v : Value} (A : Arr Z h a cl ty) (hty : ty.isReference = true) (hin : ¬ (j < 0 ∨ cl.slots.size ≤ j.toNatClampNeg)) (hv : cl.slots[j.toNatClampNeg]? = some v) (hd : decode bytes pc = .ok (.aaload, 1)) (hq : pc + 1 = q) (k : Wp p e below PO T (mkF m q L (v :: st))) : Wp p e below PO T (mkF m pc L (.int j :: .ref a :: st)) := by
  subst hq
  obtain ⟨locs, X, N, eT, hx, hZ, hown, hby, hml, hlk, hn, hrt, hnm⟩ := S
  exact o_to (X.aaload hx (j := j) (by rw [eT]; exact A.1) (State.isArrayOf_alike hZ.alike A.2.1) hty A.2.2 hin hv (g := mkF m pc L (.int j :: .ref a :: st)) rfl rfl (hb hby hd)) k
/-! arrays of references -/
def RA (Z : State) (h : Heap) (a : Addr) (C : String) (vs : List Value) : Prop := ∃ c : Cell, Arr Z h a c (.object C) ∧ Ovr Z c.cls C ∧ c.slots.size = vs.length ∧ vs.length < 2147483648 ∧ ∀ i, i < vs.length → c.slots[i]? = some (vs.getD i .null)
theorem RA.lt {a : Addr} {C : String} {vs : List Value} (F : RA Z h a C vs) : a < h.size := by obtain ⟨c, A, -⟩ := F; exact A.lt
theorem RA.ext {h' : Heap} {a : Addr} {C : String} {vs : List Value} (F : RA Z h a C vs) (E : Ext h h') : RA Z h' a C vs := by obtain ⟨c, A, r⟩ := F; exact ⟨c, A.ext E, r⟩
theorem RA.other {h' : Heap} {a b : Addr} {sl : Nat} {v : Value} {C : String} {vs : List Value} (F : RA Z h b C vs) (W : Wr h h' a sl v) (q : b ≠ a) : RA Z h' b C vs := by obtain ⟨c, A, r⟩ := F; exact ⟨c, A.other W q, r⟩
theorem RA.keep {h' : Heap} {a : Addr} {ws : List Addr} {C : String} {vs : List Value} (F : RA Z h a C vs) (K : Keep h h' ws) (q : a ∉ ws) : RA Z h' a C vs := by obtain ⟨c, A, r⟩ := F; exact ⟨c, ⟨K.2.1 a c A.1 q, A.2⟩, r⟩
theorem RA.set {h' : Heap} {a : Addr} {C : String} {vs : List Value} {j : Int32} {x : Value} (F : RA Z h a C vs) (W : Wr h h' a j.toNatClampNeg x) : RA Z h' a C (vs.set j.toNatClampNeg x) := by
  obtain ⟨c, A, O, h1, h2, h3⟩ := F
  refine ⟨c.setSlot j.toNatClampNeg x, A.same W, O, by rw [sz_set, h1]; simp, by simpa using h2, fun i hi => ?_⟩
  rw [List.length_set] at hi
  by_cases q : j.toNatClampNeg = i
  · subst q
    have : j.toNatClampNeg < c.slots.size := by rw [h1]; exact hi
    simp [Cell.setSlot, this, hi, List.getD_eq_getElem?_getD]
  · have := h3 i hi
    simp only [Cell.setSlot, Array.getElem?_setIfInBounds_ne q, this, List.getD_eq_getElem?_getD, List.getElem?_set_ne q]
theorem o_anewarr (S : St p l e R s m args below meth c Z own bytes ml n0 ret nm T h cells slots) {i : Nat} {C : String} {n : Int32} {cap : Nat} (w1 : (Jvm.Cond.classLink own i C).before a0 Z = true) (w2 : (Jvm.Cond.arrayOver (.object C)).before a0 Z = true) (hd : decode bytes pc = .ok (.anewarray i, 3)) (hq : pc + 3 = q) (hn0 : 0 ≤ n.toInt) (hcap : n.toInt ≤ cap) (hb8 : cap * 8 ≤ 536870912) (hc : cells + 1 ≤ R.cells) (hl : slots + cap ≤ R.slots)
    (k : ∀ T' h' a, St p l e R s m args below meth c Z own bytes ml n0 ret nm T' h' (cells + 1) (slots + cap) → a = h.size → n0 ≤ a → Ext h h' → RA Z h' a C (List.replicate n.toNatClampNeg .null) → Wp p e below PO T' (mkF m q L (.ref a :: st))) : Wp p e below PO T (mkF m pc L (.int n :: st)) := by
  have g0 := o_n0 S
  obtain ⟨g1, g2⟩ := o_nat hn0
  subst hq
  obtain ⟨locs, X, N, eT, hx, hZ, hown, hby, hml, hlk, hn, hrt, hnm⟩ := S
  obtain ⟨T', h', cA, X', e', E', A', O', st'⟩ := newR X hx hZ hown w1 w2 eT (g := mkF m pc L (.int n :: st)) rfl (hb hby hd) rfl g1 (cap := cap) (by omega) hb8 hc hl
  refine o_to st' (k T' h' h.size ⟨_, X', N, e', hx, hZ, hown, hby, hml, hlk, hn, hrt, hnm⟩ rfl g0 E' ⟨_, A', O', by simp [newA], by have := (back32 g1).2; simpa using this, fun i hi => ?_⟩)
  have hi' : i < n.toNatClampNeg := by simpa using hi
  simp [newA, defaultValue, hi', List.getD_eq_getElem?_getD]
theorem o_aaload (S : St p l e R s m args below meth c Z own bytes ml n0 ret nm T h cells slots) {a : Addr} {C : String} {j : Int32} {v : Value} {vs : List Value} (F : RA Z h a C vs) (h0 : 0 ≤ j.toInt) (h1 : j.toInt < vs.length) (hv : vs.getD j.toNatClampNeg .null = v) (hd : decode bytes pc = .ok (.aaload, 1)) (hq : pc + 1 = q) (k : Wp p e below PO T (mkF m q L (v :: st))) : Wp p e below PO T (mkF m pc L (.int j :: .ref a :: st)) := by
  obtain ⟨cl, A, O, g1, g2, g3⟩ := F
  subst hv
  have g5 := (o_nat h0).2
  exact o_aaloadA S A rfl (o_inb h0 h1 g1) (g3 _ (by omega)) hd hq k
theorem o_aastore (S : St p l e R s m args below meth c Z own bytes ml n0 ret nm T h cells slots) {a : Addr} {C : String} {j : Int32} {x : Value} {vs ys : List Value} (F : RA Z h a C vs) (h0 : 0 ≤ j.toInt) (h1 : j.toInt < vs.length) (ga : n0 ≤ a) (hst : x = .null ∨ ∃ y, x = .ref y ∧ Ins Z h y C true) (hys : vs.set j.toNatClampNeg x = ys) (hd : decode bytes pc = .ok (.aastore, 1)) (hq : pc + 1 = q) (k : ∀ T' h', St p l e R s m args below meth c Z own bytes ml n0 ret nm T' h' cells slots → Wr h h' a j.toNatClampNeg x → RA Z h' a C ys → Wp p e below PO T' (mkF m q L st)) : Wp p e below PO T (mkF m pc L (x :: .int j :: .ref a :: st)) := by
  subst hq hys
  obtain ⟨locs, X, N, eT, hx, hZ, hown, hby, hml, hlk, hn, hrt, hnm⟩ := S
  have F' := F
  obtain ⟨cl, A, O, g1, g2, g3⟩ := F
  have hS : Sto Z h a x := by
    rcases hst with rfl | ⟨y, rfl, I⟩
    · exact Or.inl rfl
    · exact Sto.of A O I
  obtain ⟨T', h', X', e', W', st'⟩ := stR X hx hZ eT A (j := j) (o_inb h0 h1 g1) rfl hS (g := mkF m pc L (x :: .int j :: .ref a :: st)) rfl rfl (hb hby hd)
  exact o_to st' (k T' h' ⟨_, X', Fr.snoc X' N ga, e', hx, hZ, hown, hby, hml, hlk, hn, hrt, hnm⟩ W' (F'.set W'))
theorem o_acmp (S : St p l e R s m args below meth c Z own bytes ml n0 ret nm T h cells slots) {cd : ACond} {x y : Value} {o : Int} {same : Bool} (h1 : x.isRef = true) (h2 : y.isRef = true) (hs : decide (x = y) = same) (hd : decode bytes pc = .ok (.if_acmp cd o, 3)) (ho : 0 ≤ (pc : Int) + o) (hp : q = if acV cd same = true then ((pc : Int) + o).toNat else pc + 3) (k : Wp p e below PO T (mkF m q L st)) : Wp p e below PO T (mkF m pc L (y :: x :: st)) := by
  obtain ⟨locs, X, N, eT, hx, hZ, hown, hby, hml, hlk, hn, hrt, hnm⟩ := S
  exact o_to (fun t r => Jvm.RoadKit.acmp (g := mkF m pc L (y :: x :: st)) X hx rfl h1 h2 rfl (hb hby hd) rfl hs ho hp r) k
/-! arrays of longs -/
def LA (Z : State) (h : Heap) (a : Addr) (xs : List Int64) : Prop := ∃ c : Cell, Arr Z h a c .long ∧ c.slots.size = xs.length ∧ xs.length < 2147483648 ∧ ∀ i, i < xs.length → c.slots[i]? = some (.long (xs.getD i 0))
theorem LA.lt {a : Addr} {xs : List Int64} (F : LA Z h a xs) : a < h.size := by obtain ⟨c, A, -⟩ := F; exact A.lt
theorem LA.ext {h' : Heap} {a : Addr} {xs : List Int64} (F : LA Z h a xs) (E : Ext h h') : LA Z h' a xs := by obtain ⟨c, A, r⟩ := F; exact ⟨c, A.ext E, r⟩
theorem LA.other {h' : Heap} {a b : Addr} {sl : Nat} {v : Value} {xs : List Int64} (F : LA Z h b xs) (W : Wr h h' a sl v) (q : b ≠ a) : LA Z h' b xs := by obtain ⟨c, A, r⟩ := F; exact ⟨c, A.other W q, r⟩
theorem LA.keep {h' : Heap} {a : Addr} {ws : List Addr} {xs : List Int64} (F : LA Z h a xs) (K : Keep h h' ws) (q : a ∉ ws) : LA Z h' a xs := by obtain ⟨c, A, r⟩ := F; exact ⟨c, ⟨K.2.1 a c A.1 q, A.2⟩, r⟩
theorem LA.new {a : Addr} {k : ClassId} {n : Int32} (A : Arr Z h a (newA k .long n) .long) (hn : ¬ n < 0) : LA Z h a (List.replicate n.toNatClampNeg 0) := by
  have := (back32 hn).2
  refine ⟨_, A, by simp [newA], by simpa using this, fun i hi => ?_⟩
  have hi' : i < n.toNatClampNeg := by simpa using hi
  simp [newA, defaultValue, hi', List.getD_eq_getElem?_getD]
theorem LA.set {h' : Heap} {a : Addr} {xs : List Int64} {j : Int32} {x : Int64} (F : LA Z h a xs) (W : Wr h h' a j.toNatClampNeg (.long x)) : LA Z h' a (xs.set j.toNatClampNeg x) := by
  obtain ⟨c, A, h1, h2, h3⟩ := F
  refine ⟨c.setSlot j.toNatClampNeg (.long x), A.same W, by rw [sz_set, h1]; simp, by simpa using h2, fun i hi => ?_⟩
  rw [List.length_set] at hi
  by_cases q : j.toNatClampNeg = i
  · subst q
    have : j.toNatClampNeg < c.slots.size := by rw [h1]; exact hi
    simp [Cell.setSlot, this, hi, List.getD_eq_getElem?_getD]
  · have := h3 i hi
    simp only [Cell.setSlot, Array.getElem?_setIfInBounds_ne q, this, List.getD_eq_getElem?_getD, List.getElem?_set_ne q]
theorem o_laload (S : St p l e R s m args below meth c Z own bytes ml n0 ret nm T h cells slots) {a : Addr} {j : Int32} {v : Int64} {xs : List Int64} (F : LA Z h a xs) (h0 : 0 ≤ j.toInt) (h1 : j.toInt < xs.length) (hv : xs.getD j.toNatClampNeg 0 = v) (hd : decode bytes pc = .ok (.laload, 1)) (hq : pc + 1 = q) (k : Wp p e below PO T (mkF m q L (.long v :: st))) : Wp p e below PO T (mkF m pc L (.int j :: .ref a :: st)) := by
  subst hq hv
  obtain ⟨locs, X, N, eT, hx, hZ, hown, hby, hml, hlk, hn, hrt, hnm⟩ := S
  obtain ⟨cl, A, g1, g2, g3⟩ := F
  have g5 := (o_nat h0).2
  exact o_to (X.laload hx (j := j) (by rw [eT]; exact A.1) (State.isArrayOf_alike hZ.alike A.2.1) A.2.2 (o_inb h0 h1 g1) (g3 _ (by omega)) (g := mkF m pc L (.int j :: .ref a :: st)) rfl rfl (hb hby hd)) k
theorem o_lastore (S : St p l e R s m args below meth c Z own bytes ml n0 ret nm T h cells slots) {a : Addr} {j : Int32} {x : Int64} {xs ys : List Int64} (F : LA Z h a xs) (h0 : 0 ≤ j.toInt) (h1 : j.toInt < xs.length) (ga : n0 ≤ a) (hys : xs.set j.toNatClampNeg x = ys) (hd : decode bytes pc = .ok (.lastore, 1)) (hq : pc + 1 = q) (k : ∀ T' h', St p l e R s m args below meth c Z own bytes ml n0 ret nm T' h' cells slots → Wr h h' a j.toNatClampNeg (.long x) → LA Z h' a ys → Wp p e below PO T' (mkF m q L st)) : Wp p e below PO T (mkF m pc L (.long x :: .int j :: .ref a :: st)) := by
  subst hq hys
  obtain ⟨locs, X, N, eT, hx, hZ, hown, hby, hml, hlk, hn, hrt, hnm⟩ := S
  have F' := F
  obtain ⟨cl, A, g1, g2, g3⟩ := F
  obtain ⟨T', h', X', e', W', st'⟩ := stJ X hx hZ eT A (j := j) (x := x) (o_inb h0 h1 g1) (g := mkF m pc L (.long x :: .int j :: .ref a :: st)) rfl rfl (hb hby hd)
  exact o_to st' (k T' h' ⟨_, X', Fr.snoc X' N ga, e', hx, hZ, hown, hby, hml, hlk, hn, hrt, hnm⟩ W' (F'.set W'))
/-! arrays of arrays of longs -/
def RJ (Z : State) (h : Heap) (a : Addr) (vs : List Value) : Prop := ∃ c : Cell, Arr Z h a c (.array .long) ∧ OvrA Z c.cls .long "[J" ∧ c.slots.size = vs.length ∧ vs.length < 2147483648 ∧ ∀ i, i < vs.length → c.slots[i]? = some (vs.getD i .null)
theorem RJ.lt {a : Addr} {vs : List Value} (F : RJ Z h a vs) : a < h.size := by obtain ⟨c, A, -⟩ := F; exact A.lt
theorem RJ.ext {h' : Heap} {a : Addr} {vs : List Value} (F : RJ Z h a vs) (E : Ext h h') : RJ Z h' a vs := by obtain ⟨c, A, r⟩ := F; exact ⟨c, A.ext E, r⟩
theorem RJ.other {h' : Heap} {a b : Addr} {sl : Nat} {v : Value} {vs : List Value} (F : RJ Z h b vs) (W : Wr h h' a sl v) (q : b ≠ a) : RJ Z h' b vs := by obtain ⟨c, A, r⟩ := F; exact ⟨c, A.other W q, r⟩
theorem RJ.keep {h' : Heap} {a : Addr} {ws : List Addr} {vs : List Value} (F : RJ Z h a vs) (K : Keep h h' ws) (q : a ∉ ws) : RJ Z h' a vs := by obtain ⟨c, A, r⟩ := F; exact ⟨c, ⟨K.2.1 a c A.1 q, A.2⟩, r⟩
theorem RJ.set {h' : Heap} {a : Addr} {vs : List Value} {j : Int32} {x : Value} (F : RJ Z h a vs) (W : Wr h h' a j.toNatClampNeg x) : RJ Z h' a (vs.set j.toNatClampNeg x) := by
  obtain ⟨c, A, O, h1, h2, h3⟩ := F
  refine ⟨c.setSlot j.toNatClampNeg x, A.same W, O, by rw [sz_set, h1]; simp, by simpa using h2, fun i hi => ?_⟩
  rw [List.length_set] at hi
  by_cases q : j.toNatClampNeg = i
  · subst q
    have : j.toNatClampNeg < c.slots.size := by rw [h1]; exact hi
    simp [Cell.setSlot, this, hi, List.getD_eq_getElem?_getD]
  · have := h3 i hi
    simp only [Cell.setSlot, Array.getElem?_setIfInBounds_ne q, this, List.getD_eq_getElem?_getD, List.getElem?_set_ne q]
theorem o_anewarrJ (S : St p l e R s m args below meth c Z own bytes ml n0 ret nm T h cells slots) {i : Nat} {n : Int32} {cap : Nat} (w1 : (Jvm.Cond.classLink own i "[J").before a0 Z = true) (w2 : (Jvm.Cond.arrayOver (.array .long)).before a0 Z = true) (hd : decode bytes pc = .ok (.anewarray i, 3)) (hq : pc + 3 = q) (hn0 : 0 ≤ n.toInt) (hcap : n.toInt ≤ cap) (hb8 : cap * 8 ≤ 536870912) (hc : cells + 1 ≤ R.cells) (hl : slots + cap ≤ R.slots)
    (k : ∀ T' h' a, St p l e R s m args below meth c Z own bytes ml n0 ret nm T' h' (cells + 1) (slots + cap) → a = h.size → n0 ≤ a → Ext h h' → RJ Z h' a (List.replicate n.toNatClampNeg .null) → Wp p e below PO T' (mkF m q L (.ref a :: st))) : Wp p e below PO T (mkF m pc L (.int n :: st)) := by
  have g0 := o_n0 S
  obtain ⟨g1, g2⟩ := o_nat hn0
  subst hq
  obtain ⟨locs, X, N, eT, hx, hZ, hown, hby, hml, hlk, hn, hrt, hnm⟩ := S
  obtain ⟨T', h', cA, X', e', E', A', EE, O', st'⟩ := newRA X hx hZ hown (ty := .long) (C := "[J") rfl w1 w2 eT (g := mkF m pc L (.int n :: st)) rfl (hb hby hd) rfl g1 (cap := cap) (by omega) hb8 hc hl (ad := "[[J") rfl
  refine o_to st' (k T' h' h.size ⟨_, X', N, e', hx, hZ, hown, hby, hml, hlk, hn, hrt, hnm⟩ rfl g0 E' ⟨_, A', O', by simp [newA], by have := (back32 g1).2; simpa using this, fun i hi => ?_⟩)
  have hi' : i < n.toNatClampNeg := by simpa using hi
  simp [newA, defaultValue, hi', List.getD_eq_getElem?_getD]
theorem o_aaloadJ (S : St p l e R s m args below meth c Z own bytes ml n0 ret nm T h cells slots) {a : Addr} {j : Int32} {v : Value} {vs : List Value} (F : RJ Z h a vs) (h0 : 0 ≤ j.toInt) (h1 : j.toInt < vs.length) (hv : vs.getD j.toNatClampNeg .null = v) (hd : decode bytes pc = .ok (.aaload, 1)) (hq : pc + 1 = q) (k : Wp p e below PO T (mkF m q L (v :: st))) : Wp p e below PO T (mkF m pc L (.int j :: .ref a :: st)) := by
  obtain ⟨cl, A, O, g1, g2, g3⟩ := F
  subst hv
  have g5 := (o_nat h0).2
  exact o_aaloadA S A rfl (o_inb h0 h1 g1) (g3 _ (by omega)) hd hq k
theorem o_aastoreJ (S : St p l e R s m args below meth c Z own bytes ml n0 ret nm T h cells slots) {a y : Addr} {j : Int32} {vs ys : List Value} (F : RJ Z h a vs) (h0 : 0 ≤ j.toInt) (h1 : j.toInt < vs.length) (ga : n0 ≤ a) (I : Exa Z h y "[J") (hys : vs.set j.toNatClampNeg (.ref y) = ys) (hd : decode bytes pc = .ok (.aastore, 1)) (hq : pc + 1 = q) (k : ∀ T' h', St p l e R s m args below meth c Z own bytes ml n0 ret nm T' h' cells slots → Wr h h' a j.toNatClampNeg (.ref y) → RJ Z h' a ys → Wp p e below PO T' (mkF m q L st)) : Wp p e below PO T (mkF m pc L (.ref y :: .int j :: .ref a :: st)) := by
  subst hq hys
  obtain ⟨locs, X, N, eT, hx, hZ, hown, hby, hml, hlk, hn, hrt, hnm⟩ := S
  have F' := F
  obtain ⟨cl, A, O, g1, g2, g3⟩ := F
  obtain ⟨T', h', X', e', W', st'⟩ := stR X hx hZ eT A (j := j) (o_inb h0 h1 g1) rfl (Sto.ofVA A rfl O (Ins.self I)) (g := mkF m pc L (.ref y :: .int j :: .ref a :: st)) rfl rfl (hb hby hd)
  exact o_to st' (k T' h' ⟨_, X', Fr.snoc X' N ga, e', hx, hZ, hown, hby, hml, hlk, hn, hrt, hnm⟩ W' (F'.set W'))
theorem o_selP {y : MethodName} {n : Nat} (wi : (Jvm.Cond.instantiable y.cls n).before a0 Z = true) (w6 : (Jvm.Cond.privateMethod y).before a0 Z = true) (w2 : (Jvm.Cond.instanceMethod y).before a0 Z = true) (hy : y.cls ≠ "java/lang/invoke/MethodHandle" ∧ y.cls ≠ "java/lang/invoke/VarHandle") : (Jvm.Cond.selects y.cls y y).before a0 Z = true := by
  obtain ⟨c, k, h1, h2, h3, h4, -⟩ := Cond.instantiable_spec wi
  simp only [Bool.or_eq_false_iff] at h4
  exact selects_self_of_private h1 h2 h4.1 (Cond.privateMethod_at w6) w2 hy
end OwnPre
theorem ofn32 {n : Nat} (h : n < 2147483648) : ¬ (Int32.ofNat n) < 0 ∧ (Int32.ofNat n).toNatClampNeg = n := by
  have e : (Int32.ofNat n).toInt = n := Int32.toInt_ofNat_of_lt (by omega)
  refine ⟨fun q => ?_, ?_⟩
  · rw [Int32.lt_iff_toInt_lt] at q; have : (0 : Int32).toInt = 0 := rfl; omega
  · simp only [Int32.toNatClampNeg]; omega
theorem ofnI {n : Nat} (h : n < 2147483648) : (Int32.ofNat n).toInt = n := Int32.toInt_ofNat_of_lt (by omega)
def trm (xs : List Int32) : Nat → Nat
  | 0 => 0
  | n + 1 => if xs.getD n 0 = 0 then trm xs n else n + 1
theorem trm_le (xs : List Int32) : ∀ n, trm xs n ≤ n
  | 0 => Nat.le_refl _
  | n + 1 => by unfold trm; split; exact Nat.le_succ_of_le (trm_le xs n); exact Nat.le_refl _
theorem trm_zero (xs : List Int32) : ∀ n, trm xs n = 0 ↔ ∀ i, i < n → xs.getD i 0 = 0
  | 0 => ⟨fun _ i hi => absurd hi (Nat.not_lt_zero i), fun _ => rfl⟩
  | n + 1 => by
    unfold trm
    by_cases q : xs.getD n 0 = 0
    · rw [if_pos q, trm_zero xs n]
      constructor
      · intro h i hi; by_cases e : i = n; exact e ▸ q; exact h i (by omega)
      · intro h i hi; exact h i (by omega)
    · rw [if_neg q]
      constructor
      · intro h; omega
      · intro h; exact absurd (h n (by omega)) q
theorem o_succ {k : Nat} {j : Int32} (hj : j = Int32.ofNat (k + 1)) (h : k + 1 < 2147483648) : j.toInt = k + 1 ∧ (j - (1 : Int32)).toInt = k ∧ (j - (1 : Int32)).toNatClampNeg = k ∧ j + (-1 : Int32) = Int32.ofNat k := by
  have e := ofnI h
  rw [← hj] at e
  have a := c_isub j (1 : Int32); have r := rng32 (j - (1 : Int32)); have w : (1 : Int32).toInt = 1 := rfl
  have b := c_iadd j (-1 : Int32); have r2 := rng32 (j + (-1 : Int32)); have w2 : (-1 : Int32).toInt = -1 := rfl
  have e2 := ofnI (n := k) (by omega)
  have f1 : (j - (1 : Int32)).toInt = k := by omega
  refine ⟨by omega, f1, ?_, o_eq32 (by omega)⟩
  have := (o_nat (j := j - (1 : Int32)) (by omega)).2; omega
theorem o_acopy {p : Program} {l : Launch} {e : Env} {R : Room} {s : State} {m : MethodId} {args : Array Value} {below : List Frame} {meth : Method} {c : Code} {Z : State} {own : String} {bytes : ByteArray} {ml n0 : Nat} {ret : Option FieldType} {nm : String} {T : State} {h : Heap} {cells slots : Nat} {PO : Outcome → State → Prop} {a0 : Array Value} {pc q : Nat} {L : Array Slot} {st : List Value} (S : St p l e R s m args below meth c Z own bytes ml n0 ret nm T h cells slots) {i W : Nat} {a b : Addr} {ty : FieldType} {xs ys zs : List Int32} {n : Int32} (w1 : (Jvm.Cond.methodLink own i Jvm.Stand.acN).before a0 Z = true) (w2 : (Jvm.Cond.native Jvm.Stand.acN).before a0 Z = true) (w3 : (Jvm.Cond.static Jvm.Stand.acN).before a0 Z = true) (w4 : (Jvm.Cond.initialized "java/lang/System").before a0 Z = true)
    (A : IA Z h a ty xs) (B : IA Z h b ty ys) (hty : refKind ty = false) (h0 : 0 ≤ n.toInt) (h1 : n.toInt ≤ xs.length) (h2 : n.toInt ≤ ys.length) (hzs : xs.take n.toNatClampNeg ++ ys.drop n.toNatClampNeg = zs) (ga : n0 ≤ b) (hL : L.size = ml) (hd : decode bytes pc = .ok (.invokestatic i, 3)) (hq : pc + 3 = q) (hf : 1 ≤ R.frames) (hW : (st.map fun v => v.category).sum ≤ W) (hl : W + 18 ≤ R.locals)
    (k : ∀ T' h', St p l e R s m args below meth c Z own bytes ml n0 ret nm T' h' cells slots → Keep h h' [b] → IA Z h' b ty zs → Wp p e below PO T' (mkF m q L st)) : Wp p e below PO T (mkF m pc L (.int n :: .int 0 :: .ref b :: .int 0 :: .ref a :: st)) := by
  subst hq hzs
  obtain ⟨locs, X, N, eT, hx, hZ, hown, hby, hml, hlk, hn, hrt, hnm⟩ := S
  obtain ⟨ca, A1, A2, A3, A4, A5⟩ := A
  obtain ⟨cb, B1, B2, B3, B4, B5⟩ := B
  have g := o_nat h0
  have za := ofn32 A3
  have zb := ofn32 B3
  have md : ∀ (us : List Int32) (i : Nat), (us.map Value.int).getD i (.int 0) = .int (us.getD i 0) := fun us i => by
    simp only [List.getD_eq_getElem?_getD, List.getElem?_map]; cases us[i]? <;> rfl
  have AA : Arv Z h a ca.cls ty (Int32.ofNat xs.length) (xs.map Value.int) (.int 0) := ⟨ca, A1, rfl, by rw [A2, za.2], za.1, fun i hi => by rw [A4 i (by omega), md], fun i hi => by rw [md]; exact A5 i (by omega)⟩
  have BB : Arv Z h b cb.cls ty (Int32.ofNat ys.length) (ys.map Value.int) (.int 0) := ⟨cb, B1, rfl, by rw [B2, zb.2], zb.1, fun i hi => by rw [B4 i (by omega), md], fun i hi => by rw [md]; exact B5 i (by omega)⟩
  have e0 : (0 : Int32).toNatClampNeg = 0 := rfl
  obtain ⟨T', h', L', X', e', N', K', C', st'⟩ := cpA X hx hZ hown w1 w2 w3 w4 eT AA BB (Or.inl ⟨rfl, hty⟩) (sp := 0) (dp := 0) (nn := n) (by decide) (by decide) g.1 (by rw [za.2, e0]; omega) (by rw [zb.2, e0]; omega) (us := (xs.take n.toNatClampNeg).map Value.int) (by
    refine List.ext_getElem (by simp; omega) (fun i h1 h2 => ?_)
    simp only [List.length_map, List.length_range] at h2
    simp [e0, md, List.getD_eq_getElem?_getD, List.getElem?_eq_getElem (show i < xs.length by omega)]) (by rw [List.length_map, e0]; omega) N ga (g := mkF m pc L (.int n :: .int 0 :: .ref b :: .int 0 :: .ref a :: st)) rfl (by rw [hml]; exact hL) rfl (hb hby hd) hf (W := W) (by show 2 * 0 + _ ≤ _; omega) hl
  refine o_to st' (k T' h' ⟨_, X', N', e', hx, hZ, hown, hby, hml, hlk, hn, hrt, hnm⟩ K' ?_)
  obtain ⟨cc, C1, C2, C3, C4, C5, C6⟩ := C'
  have el : (xs.take n.toNatClampNeg ++ ys.drop n.toNatClampNeg).length = ys.length := by rw [List.length_append, List.length_take, List.length_drop]; omega
  have em : (ys.map Value.int).take (0 : Int32).toNatClampNeg ++ (xs.take n.toNatClampNeg).map Value.int ++ (ys.map Value.int).drop ((0 : Int32).toNatClampNeg + n.toNatClampNeg) = (xs.take n.toNatClampNeg ++ ys.drop n.toNatClampNeg).map Value.int := by
    rw [e0]; simp [List.map_drop]
  rw [em] at C5 C6
  have cs : cc.slots.size = ys.length := by rw [C3, zb.2]
  refine ⟨cc, C1, by rw [cs, el], by rw [el]; exact B3, fun i hi => ?_, fun i hi => ?_⟩
  · rw [C5 i (by omega), md]
  · have q := C6 i (by omega); rw [md] at q; exact q
def Q_1 (Z : State) (r0 : Addr) (h0 : Heap) (n0 : Nat) : Option Value → Heap → Prop := fun v h => ∃ b : Addr, n0 ≤ b ∧ h0.size ≤ b ∧ v = none ∧ Keep h0 h [r0] ∧ Exa Z h r0 "com/example/krofusmidur/krofusmidur/amounts/MutableInteger" ∧ Fld Z h r0 "com/example/krofusmidur/krofusmidur/amounts/MutableInteger" "digits" "[I" (.ref b) ∧ Fld Z h r0 "com/example/krofusmidur/krofusmidur/amounts/MutableInteger" "length" "I" (.int (0 : Int32)) ∧ Fld Z h r0 "com/example/krofusmidur/krofusmidur/amounts/MutableInteger" "negative" "Z" (.int (0 : Int32)) ∧ IA Z h b .int ([0, 0, 0, 0])
theorem d1_0 : decode prog_35_method_1_code 0 = .ok (.aload_n 0, 1) := by decide +kernel
theorem d1_1 : decode prog_35_method_1_code 1 = .ok (.invokespecial 1, 3) := by decide +kernel
theorem d1_4 : decode prog_35_method_1_code 4 = .ok (.aload_n 0, 1) := by decide +kernel
theorem d1_5 : decode prog_35_method_1_code 5 = .ok (.iconst 4, 1) := by decide +kernel
theorem d1_6 : decode prog_35_method_1_code 6 = .ok (.newarray .int, 2) := by decide +kernel
theorem d1_8 : decode prog_35_method_1_code 8 = .ok (.putfield 7, 3) := by decide +kernel
theorem d1_11 : decode prog_35_method_1_code 11 = .ok (.return_, 1) := by decide +kernel
def rm_1 : Room := ({ frames := 1, cells := 1, slots := 4, locals := 12 } : Room)
theorem pn_1 : plainFor (⟨"com/example/krofusmidur/krofusmidur/amounts/MutableInteger", "<init>", "()V"⟩ : MethodName) = true := plainFor_of_name (by first | (simp [plainName, overriddenIn]; done) | (simp [plainName, overriddenIn, x]; done) | decide +kernel)
theorem ef_1 (r0 : Addr) (m : MethodId) : entryFrame m #[(.ref r0)] 1 = mkF m 0 #[.val (.ref r0)] [] := by first | (simp [entryFrame, mkF, argsToLocals, Value.category]; done) | rfl
set_option maxRecDepth 65536 in
set_option maxHeartbeats 40000000 in
theorem ct_1 (l : Launch) (Z : State) (a0 : Array Value) (hw : ∀ d ∈ tables_1, d.before a0 Z = true) (r0 : Addr) (h0 : Heap) (n0 : Nat) (hn : n0 ≤ h0.size) (E_r0 : Exa Z h0 r0 "com/example/krofusmidur/krofusmidur/amounts/MutableInteger") (F_digits_r0 : Fld Z h0 r0 "com/example/krofusmidur/krofusmidur/amounts/MutableInteger" "digits" "[I" .null) (F_length_r0 : Fld Z h0 r0 "com/example/krofusmidur/krofusmidur/amounts/MutableInteger" "length" "I" (.int (0 : Int32))) (F_negative_r0 : Fld Z h0 r0 "com/example/krofusmidur/krofusmidur/amounts/MutableInteger" "negative" "Z" (.int (0 : Int32))) (g_r0 : n0 ≤ r0) : Ct l (⟨"com/example/krofusmidur/krofusmidur/amounts/MutableInteger", "<init>", "()V"⟩ : MethodName) prog_35_method_1_code 1 none [] rm_1 Z h0 n0 #[(.ref r0)] (Q_1 Z r0 h0 n0) := by
  refine o_body pn_1 hn (ef_1 r0) ?_
  intro p e s m below meth c T S
  have K : Keep h0 h0 [r0] := Keep.refl _ _
  refine o_aloadN S rfl rfl d1_0 rfl (q := 1) ?_
  refine o_initO S (W := 0) (o_wd (i := 6) hw rfl) (o_wd (i := 7) hw rfl) (o_wd (i := 8) hw rfl) rfl d1_1 rfl (q := 4) (by decide) (Nat.le_of_eq rfl) (by decide) (fun T S => ?_)
  refine o_aloadN S rfl rfl d1_4 rfl (q := 5) ?_
  refine o_iconst S (z := 4) rfl d1_5 rfl (q := 6) ?_
  refine o_newarr S (cap := 4) (o_wd (i := 9) hw rfl) d1_6 rfl (q := 8) (by decide) (by decide) (by decide) (by decide) (by decide) (fun T h1 b1 kA_b1 S ha_b1 g_b1 X A0 => ?_)
  have ne_r0_b1 : r0 ≠ b1 := by rw [ha_b1]; exact Nat.ne_of_lt E_r0.lt
  have sz_b1 : h0.size ≤ b1 := by rw [ha_b1]; exact K.1
  have E_r0 := Exa.ext X E_r0
  have F_digits_r0 := Fld.ext X F_digits_r0
  have F_length_r0 := Fld.ext X F_length_r0
  have F_negative_r0 := Fld.ext X F_negative_r0
  have K := K.ext X
  have A_b1 : IA Z h1 b1 .int ([0, 0, 0, 0]) := IA.new A0 (by decide) rfl rfl
  refine o_putF S (o_wd (i := 10) hw rfl) Via.refl F_digits_r0 E_r0 (Or.inl (o_wd (i := 11) hw rfl)) (o_wd (i := 1) hw rfl) (ty := (.array .int)) (by decide) rfl rfl g_r0 d1_8 rfl (q := 11) (fun T h2 S W F_digits_r0 => ?_)
  have E_r0 := E_r0.wr W
  have F_length_r0 := Fld.other W F_length_r0 (Or.inr (slot_ne (Or.inl (o_wd (i := 26) hw rfl)) (Or.inl (o_wd (i := 11) hw rfl)) (by decide) (t := .int) (t' := (.array .int)) (by decide) (by decide)))
  have F_negative_r0 := Fld.other W F_negative_r0 (Or.inr (slot_ne (Or.inl (o_wd (i := 28) hw rfl)) (Or.inl (o_wd (i := 11) hw rfl)) (by decide) (t := .boolean) (t' := (.array .int)) (by decide) (by decide)))
  have K := K.wr W (Or.inl (List.mem_of_getElem? (i := 0) rfl))
  have A_b1 := A_b1.other W (Ne.symm ne_r0_b1)
  refine o_retV S rfl d1_11 (by decide) (by decide) ?_
  exact ⟨b1, g_b1, sz_b1, rfl, K, E_r0, F_digits_r0, F_length_r0, F_negative_r0, A_b1⟩
def f_abs (q0 : Int64) : Int64 := if 0 ≤ q0.toInt then q0 else (-q0)
theorem d4_0 : decode jdk_29_method_61_code 0 = .ok (.lload_n 0, 1) := by decide +kernel
theorem d4_1 : decode jdk_29_method_61_code 1 = .ok (.lconst 0, 1) := by decide +kernel
theorem d4_2 : decode jdk_29_method_61_code 2 = .ok (.lcmp, 1) := by decide +kernel
theorem d4_3 : decode jdk_29_method_61_code 3 = .ok (.ifCond .ge 8, 3) := by decide +kernel
theorem d4_6 : decode jdk_29_method_61_code 6 = .ok (.lload_n 0, 1) := by decide +kernel
theorem d4_7 : decode jdk_29_method_61_code 7 = .ok (.lneg, 1) := by decide +kernel
theorem d4_8 : decode jdk_29_method_61_code 8 = .ok (.goto 4, 3) := by decide +kernel
theorem d4_11 : decode jdk_29_method_61_code 11 = .ok (.lload_n 0, 1) := by decide +kernel
theorem d4_12 : decode jdk_29_method_61_code 12 = .ok (.lreturn, 1) := by decide +kernel
def rm_4 : Room := ({ frames := 0, cells := 0, slots := 0, locals := 0 } : Room)
theorem ef_4 (q0 : Int64) (m : MethodId) : entryFrame m #[(.long q0)] 2 = mkF m 0 #[.val (.long q0), .second] [] := by first | (simp [entryFrame, mkF, argsToLocals, Value.category]; done) | rfl
set_option maxRecDepth 65536 in
set_option maxHeartbeats 40000000 in
theorem ct_4 (l : Launch) (Z : State) (a0 : Array Value) (hw : ∀ d ∈ tables_1, d.before a0 Z = true) (q0 : Int64) (h0 : Heap) (n0 : Nat) (hn : n0 ≤ h0.size) : Ct l (⟨"java/lang/Math", "abs", "(J)J"⟩ : MethodName) jdk_29_method_61_code 2 (some .long) [] rm_4 Z h0 n0 #[(.long q0)] (Qp (some (.long (f_abs q0))) h0) := by
  refine o_body (Jvm.Free.JP.mathPlain rfl (by decide +kernel)) hn (ef_4 q0) ?_
  intro p e s m below meth c T S
  refine o_lloadN S rfl d4_0 rfl (q := 1) ?_
  refine o_lconst S (z := 0) rfl d4_1 rfl (q := 2) ?_
  refine o_lcmp S d4_2 rfl (q := 3) ?_
  refine o_if S d4_3 (by decide) (q' := 11) (by decide) (q := 6) rfl (hl_ge (a := q0.toInt) (b := 0) rfl rfl).1 (hl_ge (a := q0.toInt) (b := 0) rfl rfl).2 (fun hc3 => ?_) (fun hc3 => ?_)
  · skip
    refine o_lloadN S rfl d4_11 rfl (q := 12) ?_
    refine o_retJ S rfl d4_12 (by decide) (by decide) ?_
    exact ⟨o_sj (by rw [f_abs, if_pos hc3]), rfl⟩
  · skip
    refine o_lloadN S rfl d4_6 rfl (q := 7) ?_
    refine o_lneg S d4_7 rfl (q := 8) ?_
    refine o_goto S d4_8 (by decide) (q := 12) (by decide) ?_
    refine o_retJ S rfl d4_12 (by decide) (by decide) ?_
    exact ⟨o_sj (by rw [f_abs, if_neg hc3]), rfl⟩
theorem d5_0 : decode prog_35_method_19_code 0 = .ok (.iload_n 1, 1) := by decide +kernel
theorem d5_1 : decode prog_35_method_19_code 1 = .ok (.istore_n 2, 1) := by decide +kernel
theorem d5_2 : decode prog_35_method_19_code 2 = .ok (.iload_n 2, 1) := by decide +kernel
theorem d5_3 : decode prog_35_method_19_code 3 = .ok (.aload_n 0, 1) := by decide +kernel
theorem d5_4 : decode prog_35_method_19_code 4 = .ok (.getfield 23, 3) := by decide +kernel
theorem d5_7 : decode prog_35_method_19_code 7 = .ok (.if_icmp .ge 16, 3) := by decide +kernel
theorem d5_10 : decode prog_35_method_19_code 10 = .ok (.aload_n 0, 1) := by decide +kernel
theorem d5_11 : decode prog_35_method_19_code 11 = .ok (.getfield 7, 3) := by decide +kernel
theorem d5_14 : decode prog_35_method_19_code 14 = .ok (.iload_n 2, 1) := by decide +kernel
theorem d5_15 : decode prog_35_method_19_code 15 = .ok (.iconst 0, 1) := by decide +kernel
theorem d5_16 : decode prog_35_method_19_code 16 = .ok (.iastore, 1) := by decide +kernel
theorem d5_17 : decode prog_35_method_19_code 17 = .ok (.iinc 2 1, 3) := by decide +kernel
theorem d5_20 : decode prog_35_method_19_code 20 = .ok (.goto (-18), 3) := by decide +kernel
theorem d5_23 : decode prog_35_method_19_code 23 = .ok (.return_, 1) := by decide +kernel
def rm_5 : Room := ({ frames := 0, cells := 0, slots := 0, locals := 0 } : Room)
theorem pn_5 : plainFor (⟨"com/example/krofusmidur/krofusmidur/amounts/MutableInteger", "clearFrom", "(I)V"⟩ : MethodName) = true := plainFor_of_name (by first | (simp [plainName, overriddenIn]; done) | (simp [plainName, overriddenIn, x]; done) | decide +kernel)
theorem ef_5 (r0 : Addr) (p1 : Int32) (m : MethodId) : entryFrame m #[(.ref r0), (.int p1)] 3 = mkF m 0 #[.val (.ref r0), .val (.int p1), .unset] [] := by first | (simp [entryFrame, mkF, argsToLocals, Value.category]; done) | rfl
set_option maxRecDepth 65536 in
set_option maxHeartbeats 40000000 in
theorem ct_5 (l : Launch) (Z : State) (a0 : Array Value) (hw : ∀ d ∈ tables_1, d.before a0 Z = true) (r0 : Addr) (p1 : Int32) (ln : Int32) (h0 : Heap) (n0 : Nat) (hn : n0 ≤ h0.size) (E_r0 : Exa Z h0 r0 "com/example/krofusmidur/krofusmidur/amounts/MutableInteger") (F_length_r0 : Fld Z h0 r0 "com/example/krofusmidur/krofusmidur/amounts/MutableInteger" "length" "I" (.int ln)) (hle : ln.toInt ≤ p1.toInt) : Ct l (⟨"com/example/krofusmidur/krofusmidur/amounts/MutableInteger", "clearFrom", "(I)V"⟩ : MethodName) prog_35_method_19_code 3 none [] rm_5 Z h0 n0 #[(.ref r0), (.int p1)] (Qp none h0) := by
  refine o_body pn_5 hn (ef_5 r0 p1) ?_
  intro p e s m below meth c T S
  refine o_iloadN S rfl d5_0 rfl (q := 1) ?_
  refine o_istoreN S (L' := #[.val (.ref r0), .val (.int p1), .val (.int p1)]) rfl d5_1 rfl (q := 2) ?_
  refine o_iloadN S rfl d5_2 rfl (q := 3) ?_
  refine o_aloadN S rfl rfl d5_3 rfl (q := 4) ?_
  refine o_getF S (o_wd (i := 25) hw rfl) Via.refl F_length_r0 d5_4 rfl (q := 7) (fun T S => ?_)
  refine o_icmp S d5_7 (by decide) (q' := 23) (by decide) (q := 10) rfl (hs_ge (a := p1.toInt) (b := ln.toInt) rfl rfl).1 (hs_ge (a := p1.toInt) (b := ln.toInt) rfl rfl).2 (fun hc7 => ?_) (fun hc7 => ?_)
  · skip
    refine o_retV S rfl d5_23 (by decide) (by decide) ?_
    exact ⟨rfl, rfl⟩
  · exact absurd hle hc7
def Q_6 (Z : State) (r0 : Addr) (dg : Addr) (ln : Int32) (ng : Int32) (xs : List Int32) (k0 : Nat) (h0 : Heap) (n0 : Nat) : Option Value → Heap → Prop := fun v h => v = none ∧ Keep h0 h [r0] ∧ Exa Z h r0 "com/example/krofusmidur/krofusmidur/amounts/MutableInteger" ∧ Fld Z h r0 "com/example/krofusmidur/krofusmidur/amounts/MutableInteger" "digits" "[I" (.ref dg) ∧ Fld Z h r0 "com/example/krofusmidur/krofusmidur/amounts/MutableInteger" "length" "I" (.int (Int32.ofNat (trm xs k0))) ∧ Fld Z h r0 "com/example/krofusmidur/krofusmidur/amounts/MutableInteger" "negative" "Z" (.int (if trm xs k0 = 0 then (0 : Int32) else ng))
theorem d6_0 : decode prog_35_method_20_code 0 = .ok (.aload_n 0, 1) := by decide +kernel
theorem d6_1 : decode prog_35_method_20_code 1 = .ok (.getfield 7, 3) := by decide +kernel
theorem d6_4 : decode prog_35_method_20_code 4 = .ok (.astore_n 1, 1) := by decide +kernel
theorem d6_5 : decode prog_35_method_20_code 5 = .ok (.aload_n 0, 1) := by decide +kernel
theorem d6_6 : decode prog_35_method_20_code 6 = .ok (.getfield 23, 3) := by decide +kernel
theorem d6_9 : decode prog_35_method_20_code 9 = .ok (.istore_n 2, 1) := by decide +kernel
theorem d6_10 : decode prog_35_method_20_code 10 = .ok (.iload_n 2, 1) := by decide +kernel
theorem d6_11 : decode prog_35_method_20_code 11 = .ok (.ifCond .le 17, 3) := by decide +kernel
theorem d6_14 : decode prog_35_method_20_code 14 = .ok (.aload_n 1, 1) := by decide +kernel
theorem d6_15 : decode prog_35_method_20_code 15 = .ok (.iload_n 2, 1) := by decide +kernel
theorem d6_16 : decode prog_35_method_20_code 16 = .ok (.iconst 1, 1) := by decide +kernel
theorem d6_17 : decode prog_35_method_20_code 17 = .ok (.isub, 1) := by decide +kernel
theorem d6_18 : decode prog_35_method_20_code 18 = .ok (.iaload, 1) := by decide +kernel
theorem d6_19 : decode prog_35_method_20_code 19 = .ok (.ifCond .ne 9, 3) := by decide +kernel
theorem d6_22 : decode prog_35_method_20_code 22 = .ok (.iinc 2 (-1), 3) := by decide +kernel
theorem d6_25 : decode prog_35_method_20_code 25 = .ok (.goto (-15), 3) := by decide +kernel
theorem d6_28 : decode prog_35_method_20_code 28 = .ok (.aload_n 0, 1) := by decide +kernel
theorem d6_29 : decode prog_35_method_20_code 29 = .ok (.iload_n 2, 1) := by decide +kernel
theorem d6_30 : decode prog_35_method_20_code 30 = .ok (.putfield 23, 3) := by decide +kernel
theorem d6_33 : decode prog_35_method_20_code 33 = .ok (.iload_n 2, 1) := by decide +kernel
theorem d6_34 : decode prog_35_method_20_code 34 = .ok (.ifCond .ne 8, 3) := by decide +kernel
theorem d6_37 : decode prog_35_method_20_code 37 = .ok (.aload_n 0, 1) := by decide +kernel
theorem d6_38 : decode prog_35_method_20_code 38 = .ok (.iconst 0, 1) := by decide +kernel
theorem d6_39 : decode prog_35_method_20_code 39 = .ok (.putfield 27, 3) := by decide +kernel
theorem d6_42 : decode prog_35_method_20_code 42 = .ok (.return_, 1) := by decide +kernel
def rm_6 : Room := ({ frames := 0, cells := 0, slots := 0, locals := 0 } : Room)
theorem pn_6 : plainFor (⟨"com/example/krofusmidur/krofusmidur/amounts/MutableInteger", "trim", "()V"⟩ : MethodName) = true := plainFor_of_name (by first | (simp [plainName, overriddenIn]; done) | (simp [plainName, overriddenIn, x]; done) | decide +kernel)
theorem ef_6 (r0 : Addr) (m : MethodId) : entryFrame m #[(.ref r0)] 3 = mkF m 0 #[.val (.ref r0), .unset, .unset] [] := by first | (simp [entryFrame, mkF, argsToLocals, Value.category]; done) | rfl
set_option maxRecDepth 65536 in
set_option maxHeartbeats 40000000 in
theorem lp_trim (l : Launch) (Z : State) (a0 : Array Value) (hw : ∀ d ∈ tables_1, d.before a0 Z = true) (r0 : Addr) (dg : Addr) (ln : Int32) (ng : Int32) (xs : List Int32) (k0 : Nat) (h0 : Heap) (n0 : Nat) (hn : n0 ≤ h0.size) (E_r0 : Exa Z h0 r0 "com/example/krofusmidur/krofusmidur/amounts/MutableInteger") (F_digits_r0 : Fld Z h0 r0 "com/example/krofusmidur/krofusmidur/amounts/MutableInteger" "digits" "[I" (.ref dg)) (F_length_r0 : Fld Z h0 r0 "com/example/krofusmidur/krofusmidur/amounts/MutableInteger" "length" "I" (.int ln)) (F_negative_r0 : Fld Z h0 r0 "com/example/krofusmidur/krofusmidur/amounts/MutableInteger" "negative" "Z" (.int ng)) (A_dg : IA Z h0 dg .int (xs)) (g_r0 : n0 ≤ r0) (ne_r0_dg : r0 ≠ dg) (hn0 : ln = Int32.ofNat k0) (hk : k0 ≤ xs.length) {p : Program} {e : Env} {s : State} {m : MethodId} {below : List Frame} {meth : Method} {c : Code} :
    ∀ (k : Nat) (T : State) (hh : Heap) (j : Int32) (S : St p l e rm_6 s m #[(.ref r0)] below meth c Z "com/example/krofusmidur/krofusmidur/amounts/MutableInteger" prog_35_method_20_code 3 n0 none "trim" T hh 0 0) (hj : j = Int32.ofNat k) (hk1 : k ≤ xs.length) (hres : trm xs k0 = trm xs k) (E_r0 : Exa Z hh r0 "com/example/krofusmidur/krofusmidur/amounts/MutableInteger") (F_digits_r0 : Fld Z hh r0 "com/example/krofusmidur/krofusmidur/amounts/MutableInteger" "digits" "[I" (.ref dg)) (F_length_r0 : Fld Z hh r0 "com/example/krofusmidur/krofusmidur/amounts/MutableInteger" "length" "I" (.int ln)) (F_negative_r0 : Fld Z hh r0 "com/example/krofusmidur/krofusmidur/amounts/MutableInteger" "negative" "Z" (.int ng)) (A_dg : IA Z hh dg .int (xs)) (K : Keep h0 hh [r0]), Wp p e below (Po s n0 rm_6 (Q_6 Z r0 dg ln ng xs k0 h0 n0)) T (mkF m 10 #[.val (.ref r0), .val (.ref dg), .val (.int j)] []) := by
  intro k
  induction k with
  | zero =>
    intro T hh j S hj hk1 hres E_r0 F_digits_r0 F_length_r0 F_negative_r0 A_dg K
    have hl9 := A_dg.len
    refine o_iloadN S rfl d6_10 rfl (q := 11) ?_
    refine o_if S d6_11 (by decide) (q' := 28) (by decide) (q := 14) rfl (hs_le (a := j.toInt) (b := 0) rfl rfl).1 (hs_le (a := j.toInt) (b := 0) rfl rfl).2 (fun hc11 => ?_) (fun hc11 => ?_)
    · skip
      refine o_aloadN S rfl rfl d6_28 rfl (q := 29) ?_
      refine o_iloadN S rfl d6_29 rfl (q := 30) ?_
      refine o_putF S (o_wd (i := 25) hw rfl) Via.refl F_length_r0 E_r0 (Or.inl (o_wd (i := 26) hw rfl)) (o_wd (i := 1) hw rfl) (ty := .int) (by decide) rfl rfl g_r0 d6_30 rfl (q := 33) (fun T h1 S W F_length_r0 => ?_)
      have E_r0 := E_r0.wr W
      have F_digits_r0 := Fld.other W F_digits_r0 (Or.inr (slot_ne (Or.inl (o_wd (i := 11) hw rfl)) (Or.inl (o_wd (i := 26) hw rfl)) (by decide) (t := (.array .int)) (t' := .int) (by decide) (by decide)))
      have F_negative_r0 := Fld.other W F_negative_r0 (Or.inr (slot_ne (Or.inl (o_wd (i := 28) hw rfl)) (Or.inl (o_wd (i := 26) hw rfl)) (by decide) (t := .boolean) (t' := .int) (by decide) (by decide)))
      have A_dg := A_dg.other W (Ne.symm ne_r0_dg)
      have K := K.wr W (Or.inl (List.mem_of_getElem? (i := 0) rfl))
      refine o_iloadN S rfl d6_33 rfl (q := 34) ?_
      refine o_if S d6_34 (by decide) (q' := 42) (by decide) (q := 37) rfl hs_ne.1 hs_ne.2 (fun hc34 => ?_) (fun hc34 => ?_)
      · exact absurd hj hc34
      · skip
        refine o_aloadN S rfl rfl d6_37 rfl (q := 38) ?_
        refine o_iconst S (z := 0) rfl d6_38 rfl (q := 39) ?_
        refine o_putF S (o_wd (i := 27) hw rfl) Via.refl F_negative_r0 E_r0 (Or.inl (o_wd (i := 28) hw rfl)) (o_wd (i := 1) hw rfl) (ty := .boolean) (by decide) rfl rfl g_r0 d6_39 rfl (q := 42) (fun T h2 S W F_negative_r0 => ?_)
        have E_r0 := E_r0.wr W
        have F_digits_r0 := Fld.other W F_digits_r0 (Or.inr (slot_ne (Or.inl (o_wd (i := 11) hw rfl)) (Or.inl (o_wd (i := 28) hw rfl)) (by decide) (t := (.array .int)) (t' := .boolean) (by decide) (by decide)))
        have F_length_r0 := Fld.other W F_length_r0 (Or.inr (slot_ne (Or.inl (o_wd (i := 26) hw rfl)) (Or.inl (o_wd (i := 28) hw rfl)) (by decide) (t := .int) (t' := .boolean) (by decide) (by decide)))
        have A_dg := A_dg.other W (Ne.symm ne_r0_dg)
        have K := K.wr W (Or.inl (List.mem_of_getElem? (i := 0) rfl))
        refine o_retV S rfl d6_42 (by decide) (by decide) ?_
        have hz : trm xs k0 = 0 := hres
        exact ⟨rfl, K, E_r0, F_digits_r0, (by rw [hz]; exact hj ▸ F_length_r0), (by rw [if_pos hz]; exact F_negative_r0)⟩
    · exact absurd (by rw [hj]; decide) hc11
  | succ k ih =>
    intro T hh j S hj hk1 hres E_r0 F_digits_r0 F_length_r0 F_negative_r0 A_dg K
    have hl9 := A_dg.len
    refine o_iloadN S rfl d6_10 rfl (q := 11) ?_
    refine o_if S d6_11 (by decide) (q' := 28) (by decide) (q := 14) rfl (hs_le (a := j.toInt) (b := 0) rfl rfl).1 (hs_le (a := j.toInt) (b := 0) rfl rfl).2 (fun hc11 => ?_) (fun hc11 => ?_)
    · exact absurd hc11 (by rw [(o_succ hj (by omega)).1]; omega)
    · skip
      refine o_aloadN S rfl rfl d6_14 rfl (q := 15) ?_
      refine o_iloadN S rfl d6_15 rfl (q := 16) ?_
      refine o_iconst S (z := 1) rfl d6_16 rfl (q := 17) ?_
      refine o_isub S d6_17 rfl (q := 18) ?_
      refine o_iaload S A_dg (by rw [(o_succ hj (by omega)).2.1]; omega) (by rw [(o_succ hj (by omega)).2.1]; omega) (v := (xs.getD (j - (1 : Int32)).toNatClampNeg 0)) rfl d6_18 rfl (q := 19) ?_
      refine o_if S d6_19 (by decide) (q' := 28) (by decide) (q := 22) rfl hs_ne.1 hs_ne.2 (fun hc19 => ?_) (fun hc19 => ?_)
      · skip
        refine o_aloadN S rfl rfl d6_28 rfl (q := 29) ?_
        refine o_iloadN S rfl d6_29 rfl (q := 30) ?_
        refine o_putF S (o_wd (i := 25) hw rfl) Via.refl F_length_r0 E_r0 (Or.inl (o_wd (i := 26) hw rfl)) (o_wd (i := 1) hw rfl) (ty := .int) (by decide) rfl rfl g_r0 d6_30 rfl (q := 33) (fun T h1 S W F_length_r0 => ?_)
        have E_r0 := E_r0.wr W
        have F_digits_r0 := Fld.other W F_digits_r0 (Or.inr (slot_ne (Or.inl (o_wd (i := 11) hw rfl)) (Or.inl (o_wd (i := 26) hw rfl)) (by decide) (t := (.array .int)) (t' := .int) (by decide) (by decide)))
        have F_negative_r0 := Fld.other W F_negative_r0 (Or.inr (slot_ne (Or.inl (o_wd (i := 28) hw rfl)) (Or.inl (o_wd (i := 26) hw rfl)) (by decide) (t := .boolean) (t' := .int) (by decide) (by decide)))
        have A_dg := A_dg.other W (Ne.symm ne_r0_dg)
        have K := K.wr W (Or.inl (List.mem_of_getElem? (i := 0) rfl))
        refine o_iloadN S rfl d6_33 rfl (q := 34) ?_
        refine o_if S d6_34 (by decide) (q' := 42) (by decide) (q := 37) rfl hs_ne.1 hs_ne.2 (fun hc34 => ?_) (fun hc34 => ?_)
        · skip
          refine o_retV S rfl d6_42 (by decide) (by decide) ?_
          have hz : trm xs k0 = k + 1 := by rw [hres, trm, if_neg (by rw [← (o_succ hj (by omega)).2.2.1]; exact hc19)]
          exact ⟨rfl, K, E_r0, F_digits_r0, (by rw [hz]; exact hj ▸ F_length_r0), (by rw [if_neg (by omega)]; exact F_negative_r0)⟩
        · exact absurd (o_ne32 (by rw [(o_succ hj (by omega)).1]; show _ ≠ (0 : Int); omega)) hc34
      · skip
        refine o_iinc S rfl (L' := #[.val (.ref r0), .val (.ref dg), .val (.int (j + (-1 : Int32)))]) rfl d6_22 rfl (q := 25) ?_
        refine o_goto S d6_25 (by decide) (q := 10) (by decide) ?_
        exact ih T hh _ S (o_succ hj (by omega)).2.2.2 (by omega) (hres.trans (by rw [trm, if_pos (by rw [← (o_succ hj (by omega)).2.2.1]; exact Decidable.not_not.mp hc19)])) E_r0 F_digits_r0 F_length_r0 F_negative_r0 A_dg K
set_option maxRecDepth 65536 in
set_option maxHeartbeats 40000000 in
theorem ct_6 (l : Launch) (Z : State) (a0 : Array Value) (hw : ∀ d ∈ tables_1, d.before a0 Z = true) (r0 : Addr) (dg : Addr) (ln : Int32) (ng : Int32) (xs : List Int32) (k0 : Nat) (h0 : Heap) (n0 : Nat) (hn : n0 ≤ h0.size) (E_r0 : Exa Z h0 r0 "com/example/krofusmidur/krofusmidur/amounts/MutableInteger") (F_digits_r0 : Fld Z h0 r0 "com/example/krofusmidur/krofusmidur/amounts/MutableInteger" "digits" "[I" (.ref dg)) (F_length_r0 : Fld Z h0 r0 "com/example/krofusmidur/krofusmidur/amounts/MutableInteger" "length" "I" (.int ln)) (F_negative_r0 : Fld Z h0 r0 "com/example/krofusmidur/krofusmidur/amounts/MutableInteger" "negative" "Z" (.int ng)) (A_dg : IA Z h0 dg .int (xs)) (g_r0 : n0 ≤ r0) (ne_r0_dg : r0 ≠ dg) (hn0 : ln = Int32.ofNat k0) (hk : k0 ≤ xs.length) : Ct l (⟨"com/example/krofusmidur/krofusmidur/amounts/MutableInteger", "trim", "()V"⟩ : MethodName) prog_35_method_20_code 3 none [] rm_6 Z h0 n0 #[(.ref r0)] (Q_6 Z r0 dg ln ng xs k0 h0 n0) := by
  refine o_body pn_6 hn (ef_6 r0) ?_
  intro p e s m below meth c T S
  have K : Keep h0 h0 [r0] := Keep.refl _ _
  refine o_aloadN S rfl rfl d6_0 rfl (q := 1) ?_
  refine o_getF S (o_wd (i := 10) hw rfl) Via.refl F_digits_r0 d6_1 rfl (q := 4) (fun T S => ?_)
  refine o_astoreN S (L' := #[.val (.ref r0), .val (.ref dg), .unset]) rfl rfl d6_4 rfl (q := 5) ?_
  refine o_aloadN S rfl rfl d6_5 rfl (q := 6) ?_
  refine o_getF S (o_wd (i := 25) hw rfl) Via.refl F_length_r0 d6_6 rfl (q := 9) (fun T S => ?_)
  refine o_istoreN S (L' := #[.val (.ref r0), .val (.ref dg), .val (.int ln)]) rfl d6_9 rfl (q := 10) ?_
  exact lp_trim l Z a0 hw r0 dg ln ng xs k0 h0 n0 hn E_r0 F_digits_r0 F_length_r0 F_negative_r0 A_dg g_r0 ne_r0_dg hn0 hk k0 T h0 ln S hn0 hk rfl E_r0 F_digits_r0 F_length_r0 F_negative_r0 A_dg K
def sjL (q1 : Int64) : List Int32 := [(f_abs q1).toInt32, ((((f_abs q1).toUInt64 >>> ((32 : Int32) &&& 0x3f).toInt64.toUInt64).toInt64).toInt32), 0, 0]
def ngF (q1 : Int64) : Int32 := if 0 ≤ q1.toInt then (0 : Int32) else (1 : Int32)
def Q_3 (Z : State) (r0 : Addr) (q1 : Int64) (dg : Addr) (h0 : Heap) (n0 : Nat) : Option Value → Heap → Prop := fun v h => v = none ∧ Keep h0 h [r0, dg] ∧ Exa Z h r0 "com/example/krofusmidur/krofusmidur/amounts/MutableInteger" ∧ Fld Z h r0 "com/example/krofusmidur/krofusmidur/amounts/MutableInteger" "digits" "[I" (.ref dg) ∧ Fld Z h r0 "com/example/krofusmidur/krofusmidur/amounts/MutableInteger" "length" "I" (.int (Int32.ofNat (trm (sjL q1) 2))) ∧ Fld Z h r0 "com/example/krofusmidur/krofusmidur/amounts/MutableInteger" "negative" "Z" (.int (if trm (sjL q1) 2 = 0 then (0 : Int32) else ngF q1)) ∧ IA Z h dg .int (sjL q1)
theorem pd_0 : parseMethodDescriptor "(J)J" = some ⟨[.long], some .long⟩ := by decide +kernel
theorem pd_1 : parseMethodDescriptor "(I)V" = some ⟨[.int], none⟩ := by decide +kernel
theorem pd_2 : parseMethodDescriptor "()V" = some ⟨[], none⟩ := by decide +kernel
theorem d3_0 : decode prog_35_method_2_code 0 = .ok (.lload_n 1, 1) := by decide +kernel
theorem d3_1 : decode prog_35_method_2_code 1 = .ok (.invokestatic 13, 3) := by decide +kernel
theorem d3_4 : decode prog_35_method_2_code 4 = .ok (.lstore_n 3, 1) := by decide +kernel
theorem d3_5 : decode prog_35_method_2_code 5 = .ok (.aload_n 0, 1) := by decide +kernel
theorem d3_6 : decode prog_35_method_2_code 6 = .ok (.getfield 7, 3) := by decide +kernel
theorem d3_9 : decode prog_35_method_2_code 9 = .ok (.iconst 0, 1) := by decide +kernel
theorem d3_10 : decode prog_35_method_2_code 10 = .ok (.lload_n 3, 1) := by decide +kernel
theorem d3_11 : decode prog_35_method_2_code 11 = .ok (.l2i, 1) := by decide +kernel
theorem d3_12 : decode prog_35_method_2_code 12 = .ok (.iastore, 1) := by decide +kernel
theorem d3_13 : decode prog_35_method_2_code 13 = .ok (.aload_n 0, 1) := by decide +kernel
theorem d3_14 : decode prog_35_method_2_code 14 = .ok (.getfield 7, 3) := by decide +kernel
theorem d3_17 : decode prog_35_method_2_code 17 = .ok (.iconst 1, 1) := by decide +kernel
theorem d3_18 : decode prog_35_method_2_code 18 = .ok (.lload_n 3, 1) := by decide +kernel
theorem d3_19 : decode prog_35_method_2_code 19 = .ok (.bipush 32, 2) := by decide +kernel
theorem d3_21 : decode prog_35_method_2_code 21 = .ok (.lushr, 1) := by decide +kernel
theorem d3_22 : decode prog_35_method_2_code 22 = .ok (.l2i, 1) := by decide +kernel
theorem d3_23 : decode prog_35_method_2_code 23 = .ok (.iastore, 1) := by decide +kernel
theorem d3_24 : decode prog_35_method_2_code 24 = .ok (.aload_n 0, 1) := by decide +kernel
theorem d3_25 : decode prog_35_method_2_code 25 = .ok (.iconst 2, 1) := by decide +kernel
theorem d3_26 : decode prog_35_method_2_code 26 = .ok (.invokevirtual 19, 3) := by decide +kernel
theorem d3_29 : decode prog_35_method_2_code 29 = .ok (.aload_n 0, 1) := by decide +kernel
theorem d3_30 : decode prog_35_method_2_code 30 = .ok (.iconst 2, 1) := by decide +kernel
theorem d3_31 : decode prog_35_method_2_code 31 = .ok (.putfield 23, 3) := by decide +kernel
theorem d3_34 : decode prog_35_method_2_code 34 = .ok (.aload_n 0, 1) := by decide +kernel
theorem d3_35 : decode prog_35_method_2_code 35 = .ok (.lload_n 1, 1) := by decide +kernel
theorem d3_36 : decode prog_35_method_2_code 36 = .ok (.lconst 0, 1) := by decide +kernel
theorem d3_37 : decode prog_35_method_2_code 37 = .ok (.lcmp, 1) := by decide +kernel
theorem d3_38 : decode prog_35_method_2_code 38 = .ok (.ifCond .ge 7, 3) := by decide +kernel
theorem d3_41 : decode prog_35_method_2_code 41 = .ok (.iconst 1, 1) := by decide +kernel
theorem d3_42 : decode prog_35_method_2_code 42 = .ok (.goto 4, 3) := by decide +kernel
theorem d3_45 : decode prog_35_method_2_code 45 = .ok (.iconst 0, 1) := by decide +kernel
theorem d3_46 : decode prog_35_method_2_code 46 = .ok (.putfield 27, 3) := by decide +kernel
theorem d3_49 : decode prog_35_method_2_code 49 = .ok (.aload_n 0, 1) := by decide +kernel
theorem d3_50 : decode prog_35_method_2_code 50 = .ok (.invokevirtual 31, 3) := by decide +kernel
theorem d3_53 : decode prog_35_method_2_code 53 = .ok (.return_, 1) := by decide +kernel
def rm_3 : Room := ({ frames := 1, cells := 0, slots := 0, locals := 14 } : Room)
theorem pn_3 : plainFor (⟨"com/example/krofusmidur/krofusmidur/amounts/MutableInteger", "set", "(J)V"⟩ : MethodName) = true := plainFor_of_name (by first | (simp [plainName, overriddenIn]; done) | (simp [plainName, overriddenIn, x]; done) | decide +kernel)
theorem ef_3 (r0 : Addr) (q1 : Int64) (m : MethodId) : entryFrame m #[(.ref r0), (.long q1)] 5 = mkF m 0 #[.val (.ref r0), .val (.long q1), .second, .unset, .unset] [] := by first | (simp [entryFrame, mkF, argsToLocals, Value.category]; done) | rfl
set_option maxRecDepth 65536 in
set_option maxHeartbeats 40000000 in
theorem ct_3 (l : Launch) (Z : State) (a0 : Array Value) (hw : ∀ d ∈ tables_1, d.before a0 Z = true) (r0 : Addr) (q1 : Int64) (dg : Addr) (h0 : Heap) (n0 : Nat) (hn : n0 ≤ h0.size) (E_r0 : Exa Z h0 r0 "com/example/krofusmidur/krofusmidur/amounts/MutableInteger") (F_digits_r0 : Fld Z h0 r0 "com/example/krofusmidur/krofusmidur/amounts/MutableInteger" "digits" "[I" (.ref dg)) (F_length_r0 : Fld Z h0 r0 "com/example/krofusmidur/krofusmidur/amounts/MutableInteger" "length" "I" (.int (0 : Int32))) (F_negative_r0 : Fld Z h0 r0 "com/example/krofusmidur/krofusmidur/amounts/MutableInteger" "negative" "Z" (.int (0 : Int32))) (A_dg : IA Z h0 dg .int ([0, 0, 0, 0])) (g_r0 : n0 ≤ r0) (g_dg : n0 ≤ dg) (ne_r0_dg : r0 ≠ dg) : Ct l (⟨"com/example/krofusmidur/krofusmidur/amounts/MutableInteger", "set", "(J)V"⟩ : MethodName) prog_35_method_2_code 5 none [] rm_3 Z h0 n0 #[(.ref r0), (.long q1)] (Q_3 Z r0 q1 dg h0 n0) := by
  refine o_body pn_3 hn (ef_3 r0 q1) ?_
  intro p e s m below meth c T S
  have K : Keep h0 h0 [r0, dg] := Keep.refl _ _
  refine o_lloadN S rfl d3_0 rfl (q := 1) ?_
  refine o_callS0 S (W := 0) (argsL := [(.long q1)]) (rest := []) (o_wd (i := 17) hw rfl) (o_wd (i := 18) hw rfl) (o_wd (i := 19) hw rfl) (o_wd (i := 20) hw rfl) (by decide) (ct_4 l Z a0 hw q1 h0 n0 (o_n0 S)) (by decide) (by decide) rfl rfl pd_0 rfl (Nat.le_of_eq rfl) d3_1 rfl (q := 4) (by decide) (by decide) rfl (st' := [(.long (f_abs q1))]) (fun T S => ?_)
  refine o_lstoreN S (L' := #[.val (.ref r0), .val (.long q1), .second, .val (.long (f_abs q1)), .second]) rfl d3_4 rfl (q := 5) ?_
  refine o_aloadN S rfl rfl d3_5 rfl (q := 6) ?_
  refine o_getF S (o_wd (i := 10) hw rfl) Via.refl F_digits_r0 d3_6 rfl (q := 9) (fun T S => ?_)
  refine o_iconst S (z := 0) rfl d3_9 rfl (q := 10) ?_
  refine o_lloadN S rfl d3_10 rfl (q := 11) ?_
  refine o_l2i S d3_11 rfl (q := 12) ?_
  refine o_iastore S (y := ((f_abs q1).toInt32)) (ys := [((f_abs q1).toInt32), 0, 0, 0]) A_dg (by decide) (by show (0 : Int) < 4; decide) g_dg rfl rfl d3_12 rfl (q := 13) (fun T h1 S W A_dg => ?_)
  have E_r0 := Exa.wr W E_r0
  have F_digits_r0 := Fld.other W F_digits_r0 (Or.inl ne_r0_dg)
  have F_length_r0 := Fld.other W F_length_r0 (Or.inl ne_r0_dg)
  have F_negative_r0 := Fld.other W F_negative_r0 (Or.inl ne_r0_dg)
  have K := K.wr W (Or.inl (List.mem_of_getElem? (i := 1) rfl))
  refine o_aloadN S rfl rfl d3_13 rfl (q := 14) ?_
  refine o_getF S (o_wd (i := 10) hw rfl) Via.refl F_digits_r0 d3_14 rfl (q := 17) (fun T S => ?_)
  refine o_iconst S (z := 1) rfl d3_17 rfl (q := 18) ?_
  refine o_lloadN S rfl d3_18 rfl (q := 19) ?_
  refine o_bipush S (z := 32) rfl d3_19 rfl (q := 21) ?_
  refine o_lushr S d3_21 rfl (q := 22) ?_
  refine o_l2i S d3_22 rfl (q := 23) ?_
  refine o_iastore S (y := ((((f_abs q1).toUInt64 >>> ((32 : Int32) &&& 0x3f).toInt64.toUInt64).toInt64).toInt32)) (ys := [((f_abs q1).toInt32), ((((f_abs q1).toUInt64 >>> ((32 : Int32) &&& 0x3f).toInt64.toUInt64).toInt64).toInt32), 0, 0]) A_dg (by decide) (by show (1 : Int) < 4; decide) g_dg rfl rfl d3_23 rfl (q := 24) (fun T h2 S W A_dg => ?_)
  have E_r0 := Exa.wr W E_r0
  have F_digits_r0 := Fld.other W F_digits_r0 (Or.inl ne_r0_dg)
  have F_length_r0 := Fld.other W F_length_r0 (Or.inl ne_r0_dg)
  have F_negative_r0 := Fld.other W F_negative_r0 (Or.inl ne_r0_dg)
  have K := K.wr W (Or.inl (List.mem_of_getElem? (i := 1) rfl))
  refine o_aloadN S rfl rfl d3_24 rfl (q := 25) ?_
  refine o_iconst S (z := 2) rfl d3_25 rfl (q := 26) ?_
  refine o_callP0 S (W := 0) (argsL := [(.int (2 : Int32))]) (rest := []) (a := r0) (o_wd (i := 21) hw rfl) (o_wd (i := 22) hw rfl) (o_selP (o_wd (i := 1) hw rfl) (o_wd (i := 23) hw rfl) (o_wd (i := 22) hw rfl) (by decide)) (o_wd (i := 23) hw rfl) (o_wd (i := 2) hw rfl) (o_wd (i := 24) hw rfl) (by decide) E_r0 (ct_5 l Z a0 hw r0 (2 : Int32) (0 : Int32) h2 n0 (o_n0 S) E_r0 F_length_r0 (by decide)) (by decide) (by decide) rfl rfl pd_1 rfl (Nat.le_of_eq rfl) d3_26 rfl (q := 29) (by decide) (by decide) rfl (st' := []) (fun T S => ?_)
  refine o_aloadN S rfl rfl d3_29 rfl (q := 30) ?_
  refine o_iconst S (z := 2) rfl d3_30 rfl (q := 31) ?_
  refine o_putF S (o_wd (i := 25) hw rfl) Via.refl F_length_r0 E_r0 (Or.inl (o_wd (i := 26) hw rfl)) (o_wd (i := 1) hw rfl) (ty := .int) (by decide) rfl rfl g_r0 d3_31 rfl (q := 34) (fun T h3 S W F_length_r0 => ?_)
  have E_r0 := E_r0.wr W
  have F_digits_r0 := Fld.other W F_digits_r0 (Or.inr (slot_ne (Or.inl (o_wd (i := 11) hw rfl)) (Or.inl (o_wd (i := 26) hw rfl)) (by decide) (t := (.array .int)) (t' := .int) (by decide) (by decide)))
  have F_negative_r0 := Fld.other W F_negative_r0 (Or.inr (slot_ne (Or.inl (o_wd (i := 28) hw rfl)) (Or.inl (o_wd (i := 26) hw rfl)) (by decide) (t := .boolean) (t' := .int) (by decide) (by decide)))
  have A_dg := A_dg.other W (Ne.symm ne_r0_dg)
  have K := K.wr W (Or.inl (List.mem_of_getElem? (i := 0) rfl))
  refine o_aloadN S rfl rfl d3_34 rfl (q := 35) ?_
  refine o_lloadN S rfl d3_35 rfl (q := 36) ?_
  refine o_lconst S (z := 0) rfl d3_36 rfl (q := 37) ?_
  refine o_lcmp S d3_37 rfl (q := 38) ?_
  refine o_if S d3_38 (by decide) (q' := 45) (by decide) (q := 41) rfl (hl_ge (a := q1.toInt) (b := 0) rfl rfl).1 (hl_ge (a := q1.toInt) (b := 0) rfl rfl).2 (fun hc38 => ?_) (fun hc38 => ?_)
  · skip
    refine o_iconst S (z := 0) rfl d3_45 rfl (q := 46) ?_
    refine o_putF S (o_wd (i := 27) hw rfl) Via.refl F_negative_r0 E_r0 (Or.inl (o_wd (i := 28) hw rfl)) (o_wd (i := 1) hw rfl) (ty := .boolean) (by decide) rfl rfl g_r0 d3_46 rfl (q := 49) (fun T h4 S W F_negative_r0 => ?_)
    have E_r0 := E_r0.wr W
    have F_digits_r0 := Fld.other W F_digits_r0 (Or.inr (slot_ne (Or.inl (o_wd (i := 11) hw rfl)) (Or.inl (o_wd (i := 28) hw rfl)) (by decide) (t := (.array .int)) (t' := .boolean) (by decide) (by decide)))
    have F_length_r0 := Fld.other W F_length_r0 (Or.inr (slot_ne (Or.inl (o_wd (i := 26) hw rfl)) (Or.inl (o_wd (i := 28) hw rfl)) (by decide) (t := .int) (t' := .boolean) (by decide) (by decide)))
    have A_dg := A_dg.other W (Ne.symm ne_r0_dg)
    have K := K.wr W (Or.inl (List.mem_of_getElem? (i := 0) rfl))
    refine o_aloadN S rfl rfl d3_49 rfl (q := 50) ?_
    refine o_callP S (W := 0) (argsL := []) (rest := []) (a := r0) (o_wd (i := 29) hw rfl) (o_wd (i := 30) hw rfl) (o_selP (o_wd (i := 1) hw rfl) (o_wd (i := 31) hw rfl) (o_wd (i := 30) hw rfl) (by decide)) (o_wd (i := 31) hw rfl) (o_wd (i := 2) hw rfl) (o_wd (i := 32) hw rfl) (by decide) E_r0 (ct_6 l Z a0 hw r0 dg (2 : Int32) (0 : Int32) ([((f_abs q1).toInt32), ((((f_abs q1).toUInt64 >>> ((32 : Int32) &&& 0x3f).toInt64.toUInt64).toInt64).toInt32), 0, 0]) 2 h4 n0 (o_n0 S) E_r0 F_digits_r0 F_length_r0 F_negative_r0 A_dg g_r0 ne_r0_dg rfl (by show 2 ≤ 4; decide)) (by decide) (by decide) rfl rfl pd_2 rfl (Nat.le_of_eq rfl) d3_50 rfl (q := 53) (by decide) (by decide) (fun T h5 rr6 S hQ => ?_)
    obtain ⟨hv, K1, E_r0', F_digits_r0', F_length_r0', F_negative_r0'⟩ := hQ
    subst hv
    have A_dg := A_dg.keep K1 (ninS (Ne.symm ne_r0_dg) nin0)
    have K := K.trans K1 (allS (Or.inl (List.mem_of_getElem? (i := 0) rfl)) all0)
    have E_r0 := E_r0'
    have F_digits_r0 := F_digits_r0'
    have F_length_r0 := F_length_r0'
    have F_negative_r0 := F_negative_r0'
    show Wp p e below (Po s n0 rm_3 (Q_3 Z r0 q1 dg h0 n0)) T (mkF m 53 #[.val (.ref r0), .val (.long q1), .second, .val (.long (f_abs q1)), .second] [])
    refine o_retV S rfl d3_53 (by decide) (by decide) ?_
    exact ⟨rfl, K, E_r0, F_digits_r0, F_length_r0, (by rw [show ngF q1 = (0 : Int32) from if_pos hc38]; exact F_negative_r0), A_dg⟩
  · skip
    refine o_iconst S (z := 1) rfl d3_41 rfl (q := 42) ?_
    refine o_goto S d3_42 (by decide) (q := 46) (by decide) ?_
    refine o_putF S (o_wd (i := 27) hw rfl) Via.refl F_negative_r0 E_r0 (Or.inl (o_wd (i := 28) hw rfl)) (o_wd (i := 1) hw rfl) (ty := .boolean) (by decide) rfl rfl g_r0 d3_46 rfl (q := 49) (fun T h7 S W F_negative_r0 => ?_)
    have E_r0 := E_r0.wr W
    have F_digits_r0 := Fld.other W F_digits_r0 (Or.inr (slot_ne (Or.inl (o_wd (i := 11) hw rfl)) (Or.inl (o_wd (i := 28) hw rfl)) (by decide) (t := (.array .int)) (t' := .boolean) (by decide) (by decide)))
    have F_length_r0 := Fld.other W F_length_r0 (Or.inr (slot_ne (Or.inl (o_wd (i := 26) hw rfl)) (Or.inl (o_wd (i := 28) hw rfl)) (by decide) (t := .int) (t' := .boolean) (by decide) (by decide)))
    have A_dg := A_dg.other W (Ne.symm ne_r0_dg)
    have K := K.wr W (Or.inl (List.mem_of_getElem? (i := 0) rfl))
    refine o_aloadN S rfl rfl d3_49 rfl (q := 50) ?_
    refine o_callP S (W := 0) (argsL := []) (rest := []) (a := r0) (o_wd (i := 29) hw rfl) (o_wd (i := 30) hw rfl) (o_selP (o_wd (i := 1) hw rfl) (o_wd (i := 31) hw rfl) (o_wd (i := 30) hw rfl) (by decide)) (o_wd (i := 31) hw rfl) (o_wd (i := 2) hw rfl) (o_wd (i := 32) hw rfl) (by decide) E_r0 (ct_6 l Z a0 hw r0 dg (2 : Int32) (1 : Int32) ([((f_abs q1).toInt32), ((((f_abs q1).toUInt64 >>> ((32 : Int32) &&& 0x3f).toInt64.toUInt64).toInt64).toInt32), 0, 0]) 2 h7 n0 (o_n0 S) E_r0 F_digits_r0 F_length_r0 F_negative_r0 A_dg g_r0 ne_r0_dg rfl (by show 2 ≤ 4; decide)) (by decide) (by decide) rfl rfl pd_2 rfl (Nat.le_of_eq rfl) d3_50 rfl (q := 53) (by decide) (by decide) (fun T h8 rr9 S hQ => ?_)
    obtain ⟨hv, K1, E_r0', F_digits_r0', F_length_r0', F_negative_r0'⟩ := hQ
    subst hv
    have A_dg := A_dg.keep K1 (ninS (Ne.symm ne_r0_dg) nin0)
    have K := K.trans K1 (allS (Or.inl (List.mem_of_getElem? (i := 0) rfl)) all0)
    have E_r0 := E_r0'
    have F_digits_r0 := F_digits_r0'
    have F_length_r0 := F_length_r0'
    have F_negative_r0 := F_negative_r0'
    show Wp p e below (Po s n0 rm_3 (Q_3 Z r0 q1 dg h0 n0)) T (mkF m 53 #[.val (.ref r0), .val (.long q1), .second, .val (.long (f_abs q1)), .second] [])
    refine o_retV S rfl d3_53 (by decide) (by decide) ?_
    exact ⟨rfl, K, E_r0, F_digits_r0, F_length_r0, (by rw [show ngF q1 = (1 : Int32) from if_neg hc38]; exact F_negative_r0), A_dg⟩
def f_sig (ln : Int32) (ng : Int32) : Int32 := if ¬ ln = (0 : Int32) then (if ng = (0 : Int32) then (1 : Int32) else (-1 : Int32)) else (0 : Int32)
theorem d7_0 : decode prog_35_method_4_code 0 = .ok (.aload_n 0, 1) := by decide +kernel
theorem d7_1 : decode prog_35_method_4_code 1 = .ok (.getfield 23, 3) := by decide +kernel
theorem d7_4 : decode prog_35_method_4_code 4 = .ok (.ifCond .ne 7, 3) := by decide +kernel
theorem d7_7 : decode prog_35_method_4_code 7 = .ok (.iconst 0, 1) := by decide +kernel
theorem d7_8 : decode prog_35_method_4_code 8 = .ok (.goto 15, 3) := by decide +kernel
theorem d7_11 : decode prog_35_method_4_code 11 = .ok (.aload_n 0, 1) := by decide +kernel
theorem d7_12 : decode prog_35_method_4_code 12 = .ok (.getfield 27, 3) := by decide +kernel
theorem d7_15 : decode prog_35_method_4_code 15 = .ok (.ifCond .eq 7, 3) := by decide +kernel
theorem d7_18 : decode prog_35_method_4_code 18 = .ok (.iconst (-1), 1) := by decide +kernel
theorem d7_19 : decode prog_35_method_4_code 19 = .ok (.goto 4, 3) := by decide +kernel
theorem d7_22 : decode prog_35_method_4_code 22 = .ok (.iconst 1, 1) := by decide +kernel
theorem d7_23 : decode prog_35_method_4_code 23 = .ok (.ireturn, 1) := by decide +kernel
def rm_7 : Room := ({ frames := 0, cells := 0, slots := 0, locals := 0 } : Room)
theorem pn_7 : plainFor (⟨"com/example/krofusmidur/krofusmidur/amounts/MutableInteger", "signum", "()I"⟩ : MethodName) = true := plainFor_of_name (by first | (simp [plainName, overriddenIn]; done) | (simp [plainName, overriddenIn, x]; done) | decide +kernel)
theorem ef_7 (r0 : Addr) (m : MethodId) : entryFrame m #[(.ref r0)] 1 = mkF m 0 #[.val (.ref r0)] [] := by first | (simp [entryFrame, mkF, argsToLocals, Value.category]; done) | rfl
set_option maxRecDepth 65536 in
set_option maxHeartbeats 40000000 in
theorem ct_7 (l : Launch) (Z : State) (a0 : Array Value) (hw : ∀ d ∈ tables_1, d.before a0 Z = true) (r0 : Addr) (ln : Int32) (ng : Int32) (h0 : Heap) (n0 : Nat) (hn : n0 ≤ h0.size) (E_r0 : Exa Z h0 r0 "com/example/krofusmidur/krofusmidur/amounts/MutableInteger") (F_length_r0 : Fld Z h0 r0 "com/example/krofusmidur/krofusmidur/amounts/MutableInteger" "length" "I" (.int ln)) (F_negative_r0 : Fld Z h0 r0 "com/example/krofusmidur/krofusmidur/amounts/MutableInteger" "negative" "Z" (.int ng)) : Ct l (⟨"com/example/krofusmidur/krofusmidur/amounts/MutableInteger", "signum", "()I"⟩ : MethodName) prog_35_method_4_code 1 (some .int) [] rm_7 Z h0 n0 #[(.ref r0)] (Qp (some (.int (f_sig ln ng))) h0) := by
  refine o_body pn_7 hn (ef_7 r0) ?_
  intro p e s m below meth c T S
  refine o_aloadN S rfl rfl d7_0 rfl (q := 1) ?_
  refine o_getF S (o_wd (i := 25) hw rfl) Via.refl F_length_r0 d7_1 rfl (q := 4) (fun T S => ?_)
  refine o_if S d7_4 (by decide) (q' := 11) (by decide) (q := 7) rfl hs_ne.1 hs_ne.2 (fun hc4 => ?_) (fun hc4 => ?_)
  · skip
    refine o_aloadN S rfl rfl d7_11 rfl (q := 12) ?_
    refine o_getF S (o_wd (i := 27) hw rfl) Via.refl F_negative_r0 d7_12 rfl (q := 15) (fun T S => ?_)
    refine o_if S d7_15 (by decide) (q' := 22) (by decide) (q := 18) rfl hs_eq.1 hs_eq.2 (fun hc15 => ?_) (fun hc15 => ?_)
    · skip
      refine o_iconst S (z := 1) rfl d7_22 rfl (q := 23) ?_
      refine o_retI S rfl d7_23 (by decide) (by decide) ?_
      exact ⟨o_si (by rw [f_sig, if_pos hc4, if_pos hc15]), rfl⟩
    · skip
      refine o_iconst S (z := -1) rfl d7_18 rfl (q := 19) ?_
      refine o_goto S d7_19 (by decide) (q := 23) (by decide) ?_
      refine o_retI S rfl d7_23 (by decide) (by decide) ?_
      exact ⟨o_si (by rw [f_sig, if_pos hc4, if_neg hc15]), rfl⟩
  · skip
    refine o_iconst S (z := 0) rfl d7_7 rfl (q := 8) ?_
    refine o_goto S d7_8 (by decide) (q := 23) (by decide) ?_
    refine o_retI S rfl d7_23 (by decide) (by decide) ?_
    exact ⟨o_si (by rw [f_sig, if_neg hc4]), rfl⟩
def f_sgn (q0 : Int64) : Int32 := if 0 ≤ q0.toInt then (if ¬ q0 = (0 : Int64) then (1 : Int32) else (0 : Int32)) else (-1 : Int32)
theorem d8_0 : decode method_2_code 0 = .ok (.lload_n 0, 1) := by decide +kernel
theorem d8_1 : decode method_2_code 1 = .ok (.lconst 0, 1) := by decide +kernel
theorem d8_2 : decode method_2_code 2 = .ok (.lcmp, 1) := by decide +kernel
theorem d8_3 : decode method_2_code 3 = .ok (.ifCond .ge 5, 3) := by decide +kernel
theorem d8_6 : decode method_2_code 6 = .ok (.iconst (-1), 1) := by decide +kernel
theorem d8_7 : decode method_2_code 7 = .ok (.ireturn, 1) := by decide +kernel
theorem d8_8 : decode method_2_code 8 = .ok (.lload_n 0, 1) := by decide +kernel
theorem d8_9 : decode method_2_code 9 = .ok (.lconst 0, 1) := by decide +kernel
theorem d8_10 : decode method_2_code 10 = .ok (.lcmp, 1) := by decide +kernel
theorem d8_11 : decode method_2_code 11 = .ok (.ifCond .ne 5, 3) := by decide +kernel
theorem d8_14 : decode method_2_code 14 = .ok (.iconst 0, 1) := by decide +kernel
theorem d8_15 : decode method_2_code 15 = .ok (.ireturn, 1) := by decide +kernel
theorem d8_16 : decode method_2_code 16 = .ok (.iconst 1, 1) := by decide +kernel
theorem d8_17 : decode method_2_code 17 = .ok (.ireturn, 1) := by decide +kernel
def rm_8 : Room := ({ frames := 0, cells := 0, slots := 0, locals := 0 } : Room)
theorem pn_8 : plainFor (⟨"com/example/krofusmidur/krofusmidur/amounts/MutableIntegerSignumPinLaw", "sgn", "(J)I"⟩ : MethodName) = true := plainFor_of_name (by first | (simp [plainName, overriddenIn]; done) | (simp [plainName, overriddenIn, x]; done) | decide +kernel)
theorem ef_8 (q0 : Int64) (m : MethodId) : entryFrame m #[(.long q0)] 2 = mkF m 0 #[.val (.long q0), .second] [] := by first | (simp [entryFrame, mkF, argsToLocals, Value.category]; done) | rfl
set_option maxRecDepth 65536 in
set_option maxHeartbeats 40000000 in
theorem ct_8 (l : Launch) (Z : State) (a0 : Array Value) (hw : ∀ d ∈ tables_1, d.before a0 Z = true) (q0 : Int64) (h0 : Heap) (n0 : Nat) (hn : n0 ≤ h0.size) : Ct l (⟨"com/example/krofusmidur/krofusmidur/amounts/MutableIntegerSignumPinLaw", "sgn", "(J)I"⟩ : MethodName) method_2_code 2 (some .int) [] rm_8 Z h0 n0 #[(.long q0)] (Qp (some (.int (f_sgn q0))) h0) := by
  refine o_body pn_8 hn (ef_8 q0) ?_
  intro p e s m below meth c T S
  refine o_lloadN S rfl d8_0 rfl (q := 1) ?_
  refine o_lconst S (z := 0) rfl d8_1 rfl (q := 2) ?_
  refine o_lcmp S d8_2 rfl (q := 3) ?_
  refine o_if S d8_3 (by decide) (q' := 8) (by decide) (q := 6) rfl (hl_ge (a := q0.toInt) (b := 0) rfl rfl).1 (hl_ge (a := q0.toInt) (b := 0) rfl rfl).2 (fun hc3 => ?_) (fun hc3 => ?_)
  · skip
    refine o_lloadN S rfl d8_8 rfl (q := 9) ?_
    refine o_lconst S (z := 0) rfl d8_9 rfl (q := 10) ?_
    refine o_lcmp S d8_10 rfl (q := 11) ?_
    refine o_if S d8_11 (by decide) (q' := 16) (by decide) (q := 14) rfl hl_ne.1 hl_ne.2 (fun hc11 => ?_) (fun hc11 => ?_)
    · skip
      refine o_iconst S (z := 1) rfl d8_16 rfl (q := 17) ?_
      refine o_retI S rfl d8_17 (by decide) (by decide) ?_
      exact ⟨o_si (by rw [f_sgn, if_pos hc3, if_pos hc11]), rfl⟩
    · skip
      refine o_iconst S (z := 0) rfl d8_14 rfl (q := 15) ?_
      refine o_retI S rfl d8_15 (by decide) (by decide) ?_
      exact ⟨o_si (by rw [f_sgn, if_pos hc3, if_neg hc11]), rfl⟩
  · skip
    refine o_iconst S (z := -1) rfl d8_6 rfl (q := 7) ?_
    refine o_retI S rfl d8_7 (by decide) (by decide) ?_
    exact ⟨o_si (by rw [f_sgn, if_neg hc3]), rfl⟩
theorem d10_0 : decode prog_35_method_18_code 0 = .ok (.aload_n 0, 1) := by decide +kernel
theorem d10_1 : decode prog_35_method_18_code 1 = .ok (.getfield 7, 3) := by decide +kernel
theorem d10_4 : decode prog_35_method_18_code 4 = .ok (.arraylength, 1) := by decide +kernel
theorem d10_5 : decode prog_35_method_18_code 5 = .ok (.iload_n 1, 1) := by decide +kernel
theorem d10_6 : decode prog_35_method_18_code 6 = .ok (.if_icmp .ge 25, 3) := by decide +kernel
theorem d10_9 : decode prog_35_method_18_code 9 = .ok (.aload_n 0, 1) := by decide +kernel
theorem d10_10 : decode prog_35_method_18_code 10 = .ok (.aload_n 0, 1) := by decide +kernel
theorem d10_11 : decode prog_35_method_18_code 11 = .ok (.getfield 7, 3) := by decide +kernel
theorem d10_14 : decode prog_35_method_18_code 14 = .ok (.iload_n 1, 1) := by decide +kernel
theorem d10_15 : decode prog_35_method_18_code 15 = .ok (.iconst 2, 1) := by decide +kernel
theorem d10_16 : decode prog_35_method_18_code 16 = .ok (.aload_n 0, 1) := by decide +kernel
theorem d10_17 : decode prog_35_method_18_code 17 = .ok (.getfield 7, 3) := by decide +kernel
theorem d10_20 : decode prog_35_method_18_code 20 = .ok (.arraylength, 1) := by decide +kernel
theorem d10_21 : decode prog_35_method_18_code 21 = .ok (.imul, 1) := by decide +kernel
theorem d10_22 : decode prog_35_method_18_code 22 = .ok (.invokestatic 144, 3) := by decide +kernel
theorem d10_25 : decode prog_35_method_18_code 25 = .ok (.invokestatic 153, 3) := by decide +kernel
theorem d10_28 : decode prog_35_method_18_code 28 = .ok (.putfield 7, 3) := by decide +kernel
theorem d10_31 : decode prog_35_method_18_code 31 = .ok (.return_, 1) := by decide +kernel
def rm_10 : Room := ({ frames := 0, cells := 0, slots := 0, locals := 0 } : Room)
theorem pn_10 : plainFor (⟨"com/example/krofusmidur/krofusmidur/amounts/MutableInteger", "ensureCapacity", "(I)V"⟩ : MethodName) = true := plainFor_of_name (by first | (simp [plainName, overriddenIn]; done) | (simp [plainName, overriddenIn, x]; done) | decide +kernel)
theorem ef_10 (r0 : Addr) (p1 : Int32) (m : MethodId) : entryFrame m #[(.ref r0), (.int p1)] 2 = mkF m 0 #[.val (.ref r0), .val (.int p1)] [] := by first | (simp [entryFrame, mkF, argsToLocals, Value.category]; done) | rfl
set_option maxRecDepth 65536 in
set_option maxHeartbeats 40000000 in
theorem ct_10 (l : Launch) (Z : State) (a0 : Array Value) (hw : ∀ d ∈ tables_1, d.before a0 Z = true) (r0 : Addr) (p1 : Int32) (dg : Addr) (xs : List Int32) (h0 : Heap) (n0 : Nat) (hn : n0 ≤ h0.size) (E_r0 : Exa Z h0 r0 "com/example/krofusmidur/krofusmidur/amounts/MutableInteger") (F_digits_r0 : Fld Z h0 r0 "com/example/krofusmidur/krofusmidur/amounts/MutableInteger" "digits" "[I" (.ref dg)) (A_dg : IA Z h0 dg .int xs) (h4 : Int32.ofNat xs.length = (4 : Int32)) (hcap : p1.toInt ≤ 4) : Ct l (⟨"com/example/krofusmidur/krofusmidur/amounts/MutableInteger", "ensureCapacity", "(I)V"⟩ : MethodName) prog_35_method_18_code 2 none [] rm_10 Z h0 n0 #[(.ref r0), (.int p1)] (Qp none h0) := by
  refine o_body pn_10 hn (ef_10 r0 p1) ?_
  intro p e s m below meth c T S
  refine o_aloadN S rfl rfl d10_0 rfl (q := 1) ?_
  refine o_getF S (o_wd (i := 10) hw rfl) Via.refl F_digits_r0 d10_1 rfl (q := 4) (fun T S => ?_)
  refine o_arraylength S A_dg (z := (4 : Int32)) h4 d10_4 rfl (q := 5) ?_
  refine o_iloadN S rfl d10_5 rfl (q := 6) ?_
  refine o_icmp S d10_6 (by decide) (q' := 31) (by decide) (q := 9) rfl (hs_ge (a := 4) (b := p1.toInt) rfl rfl).1 (hs_ge (a := 4) (b := p1.toInt) rfl rfl).2 (fun hc6 => ?_) (fun hc6 => ?_)
  · skip
    refine o_retV S rfl d10_31 (by decide) (by decide) ?_
    exact ⟨rfl, rfl⟩
  · exact absurd hcap hc6
def f_mh (q0 : Int64) (q1 : Int64) : Int64 := ((((q0 >>> ((32 : Int32) &&& 0x3f).toInt64) * (q1 >>> ((32 : Int32) &&& 0x3f).toInt64)) + ((((q0 >>> ((32 : Int32) &&& 0x3f).toInt64) * (q1 &&& (4294967295 : Int64))) + ((((q0 &&& (4294967295 : Int64)) * (q1 &&& (4294967295 : Int64))).toUInt64 >>> ((32 : Int32) &&& 0x3f).toInt64.toUInt64).toInt64)) >>> ((32 : Int32) &&& 0x3f).toInt64)) + ((((((q0 >>> ((32 : Int32) &&& 0x3f).toInt64) * (q1 &&& (4294967295 : Int64))) + ((((q0 &&& (4294967295 : Int64)) * (q1 &&& (4294967295 : Int64))).toUInt64 >>> ((32 : Int32) &&& 0x3f).toInt64.toUInt64).toInt64)) &&& (4294967295 : Int64)) + ((q0 &&& (4294967295 : Int64)) * (q1 >>> ((32 : Int32) &&& 0x3f).toInt64))) >>> ((32 : Int32) &&& 0x3f).toInt64))
theorem d19_0 : decode jdk_29_method_45_code 0 = .ok (.lload_n 0, 1) := by decide +kernel
theorem d19_1 : decode jdk_29_method_45_code 1 = .ok (.bipush 32, 2) := by decide +kernel
theorem d19_3 : decode jdk_29_method_45_code 3 = .ok (.lshr, 1) := by decide +kernel
theorem d19_4 : decode jdk_29_method_45_code 4 = .ok (.lstore 4, 2) := by decide +kernel
theorem d19_6 : decode jdk_29_method_45_code 6 = .ok (.lload_n 0, 1) := by decide +kernel
theorem d19_7 : decode jdk_29_method_45_code 7 = .ok (.ldc2_w 138, 3) := by decide +kernel
theorem d19_10 : decode jdk_29_method_45_code 10 = .ok (.land, 1) := by decide +kernel
theorem d19_11 : decode jdk_29_method_45_code 11 = .ok (.lstore 6, 2) := by decide +kernel
theorem d19_13 : decode jdk_29_method_45_code 13 = .ok (.lload_n 2, 1) := by decide +kernel
theorem d19_14 : decode jdk_29_method_45_code 14 = .ok (.bipush 32, 2) := by decide +kernel
theorem d19_16 : decode jdk_29_method_45_code 16 = .ok (.lshr, 1) := by decide +kernel
theorem d19_17 : decode jdk_29_method_45_code 17 = .ok (.lstore 8, 2) := by decide +kernel
theorem d19_19 : decode jdk_29_method_45_code 19 = .ok (.lload_n 2, 1) := by decide +kernel
theorem d19_20 : decode jdk_29_method_45_code 20 = .ok (.ldc2_w 138, 3) := by decide +kernel
theorem d19_23 : decode jdk_29_method_45_code 23 = .ok (.land, 1) := by decide +kernel
theorem d19_24 : decode jdk_29_method_45_code 24 = .ok (.lstore 10, 2) := by decide +kernel
theorem d19_26 : decode jdk_29_method_45_code 26 = .ok (.lload 6, 2) := by decide +kernel
theorem d19_28 : decode jdk_29_method_45_code 28 = .ok (.lload 10, 2) := by decide +kernel
theorem d19_30 : decode jdk_29_method_45_code 30 = .ok (.lmul, 1) := by decide +kernel
theorem d19_31 : decode jdk_29_method_45_code 31 = .ok (.lstore 12, 2) := by decide +kernel
theorem d19_33 : decode jdk_29_method_45_code 33 = .ok (.lload 4, 2) := by decide +kernel
theorem d19_35 : decode jdk_29_method_45_code 35 = .ok (.lload 10, 2) := by decide +kernel
theorem d19_37 : decode jdk_29_method_45_code 37 = .ok (.lmul, 1) := by decide +kernel
theorem d19_38 : decode jdk_29_method_45_code 38 = .ok (.lload 12, 2) := by decide +kernel
theorem d19_40 : decode jdk_29_method_45_code 40 = .ok (.bipush 32, 2) := by decide +kernel
theorem d19_42 : decode jdk_29_method_45_code 42 = .ok (.lushr, 1) := by decide +kernel
theorem d19_43 : decode jdk_29_method_45_code 43 = .ok (.ladd, 1) := by decide +kernel
theorem d19_44 : decode jdk_29_method_45_code 44 = .ok (.lstore 14, 2) := by decide +kernel
theorem d19_46 : decode jdk_29_method_45_code 46 = .ok (.lload 14, 2) := by decide +kernel
theorem d19_48 : decode jdk_29_method_45_code 48 = .ok (.ldc2_w 138, 3) := by decide +kernel
theorem d19_51 : decode jdk_29_method_45_code 51 = .ok (.land, 1) := by decide +kernel
theorem d19_52 : decode jdk_29_method_45_code 52 = .ok (.lstore 16, 2) := by decide +kernel
theorem d19_54 : decode jdk_29_method_45_code 54 = .ok (.lload 14, 2) := by decide +kernel
theorem d19_56 : decode jdk_29_method_45_code 56 = .ok (.bipush 32, 2) := by decide +kernel
theorem d19_58 : decode jdk_29_method_45_code 58 = .ok (.lshr, 1) := by decide +kernel
theorem d19_59 : decode jdk_29_method_45_code 59 = .ok (.lstore 18, 2) := by decide +kernel
theorem d19_61 : decode jdk_29_method_45_code 61 = .ok (.lload 16, 2) := by decide +kernel
theorem d19_63 : decode jdk_29_method_45_code 63 = .ok (.lload 6, 2) := by decide +kernel
theorem d19_65 : decode jdk_29_method_45_code 65 = .ok (.lload 8, 2) := by decide +kernel
theorem d19_67 : decode jdk_29_method_45_code 67 = .ok (.lmul, 1) := by decide +kernel
theorem d19_68 : decode jdk_29_method_45_code 68 = .ok (.ladd, 1) := by decide +kernel
theorem d19_69 : decode jdk_29_method_45_code 69 = .ok (.lstore 16, 2) := by decide +kernel
theorem d19_71 : decode jdk_29_method_45_code 71 = .ok (.lload 4, 2) := by decide +kernel
theorem d19_73 : decode jdk_29_method_45_code 73 = .ok (.lload 8, 2) := by decide +kernel
theorem d19_75 : decode jdk_29_method_45_code 75 = .ok (.lmul, 1) := by decide +kernel
theorem d19_76 : decode jdk_29_method_45_code 76 = .ok (.lload 18, 2) := by decide +kernel
theorem d19_78 : decode jdk_29_method_45_code 78 = .ok (.ladd, 1) := by decide +kernel
theorem d19_79 : decode jdk_29_method_45_code 79 = .ok (.lload 16, 2) := by decide +kernel
theorem d19_81 : decode jdk_29_method_45_code 81 = .ok (.bipush 32, 2) := by decide +kernel
theorem d19_83 : decode jdk_29_method_45_code 83 = .ok (.lshr, 1) := by decide +kernel
theorem d19_84 : decode jdk_29_method_45_code 84 = .ok (.ladd, 1) := by decide +kernel
theorem d19_85 : decode jdk_29_method_45_code 85 = .ok (.lreturn, 1) := by decide +kernel
def rm_19 : Room := ({ frames := 0, cells := 0, slots := 0, locals := 0 } : Room)
theorem ef_19 (q0 : Int64) (q1 : Int64) (m : MethodId) : entryFrame m #[(.long q0), (.long q1)] 20 = mkF m 0 #[.val (.long q0), .second, .val (.long q1), .second, .unset, .unset, .unset, .unset, .unset, .unset, .unset, .unset, .unset, .unset, .unset, .unset, .unset, .unset, .unset, .unset] [] := by first | (simp [entryFrame, mkF, argsToLocals, Value.category]; done) | rfl
set_option maxRecDepth 65536 in
set_option maxHeartbeats 40000000 in
theorem ct_19 (l : Launch) (Z : State) (a0 : Array Value) (hw : ∀ d ∈ tables_1, d.before a0 Z = true) (q0 : Int64) (q1 : Int64) (h0 : Heap) (n0 : Nat) (hn : n0 ≤ h0.size) : Ct l (⟨"java/lang/Math", "multiplyHigh", "(JJ)J"⟩ : MethodName) jdk_29_method_45_code 20 (some .long) [] rm_19 Z h0 n0 #[(.long q0), (.long q1)] (Qp (some (.long (f_mh q0 q1))) h0) := by
  refine o_body (Jvm.Free.JP.mathPlain rfl (by decide +kernel)) hn (ef_19 q0 q1) ?_
  intro p e s m below meth c T S
  refine o_lloadN S rfl d19_0 rfl (q := 1) ?_
  refine o_bipush S (z := 32) rfl d19_1 rfl (q := 3) ?_
  refine o_lshr S d19_3 rfl (q := 4) ?_
  refine o_lstore S (L' := #[.val (.long q0), .second, .val (.long q1), .second, .val (.long (q0 >>> ((32 : Int32) &&& 0x3f).toInt64)), .second, .unset, .unset, .unset, .unset, .unset, .unset, .unset, .unset, .unset, .unset, .unset, .unset, .unset, .unset]) rfl d19_4 rfl (q := 6) ?_
  refine o_lloadN S rfl d19_6 rfl (q := 7) ?_
  refine o_ldc2 S (o_wd (i := 94) hw rfl) d19_7 rfl (q := 10) ?_
  refine o_land S d19_10 rfl (q := 11) ?_
  refine o_lstore S (L' := #[.val (.long q0), .second, .val (.long q1), .second, .val (.long (q0 >>> ((32 : Int32) &&& 0x3f).toInt64)), .second, .val (.long (q0 &&& (4294967295 : Int64))), .second, .unset, .unset, .unset, .unset, .unset, .unset, .unset, .unset, .unset, .unset, .unset, .unset]) rfl d19_11 rfl (q := 13) ?_
  refine o_lloadN S rfl d19_13 rfl (q := 14) ?_
  refine o_bipush S (z := 32) rfl d19_14 rfl (q := 16) ?_
  refine o_lshr S d19_16 rfl (q := 17) ?_
  refine o_lstore S (L' := #[.val (.long q0), .second, .val (.long q1), .second, .val (.long (q0 >>> ((32 : Int32) &&& 0x3f).toInt64)), .second, .val (.long (q0 &&& (4294967295 : Int64))), .second, .val (.long (q1 >>> ((32 : Int32) &&& 0x3f).toInt64)), .second, .unset, .unset, .unset, .unset, .unset, .unset, .unset, .unset, .unset, .unset]) rfl d19_17 rfl (q := 19) ?_
  refine o_lloadN S rfl d19_19 rfl (q := 20) ?_
  refine o_ldc2 S (o_wd (i := 94) hw rfl) d19_20 rfl (q := 23) ?_
  refine o_land S d19_23 rfl (q := 24) ?_
  refine o_lstore S (L' := #[.val (.long q0), .second, .val (.long q1), .second, .val (.long (q0 >>> ((32 : Int32) &&& 0x3f).toInt64)), .second, .val (.long (q0 &&& (4294967295 : Int64))), .second, .val (.long (q1 >>> ((32 : Int32) &&& 0x3f).toInt64)), .second, .val (.long (q1 &&& (4294967295 : Int64))), .second, .unset, .unset, .unset, .unset, .unset, .unset, .unset, .unset]) rfl d19_24 rfl (q := 26) ?_
  refine o_lload S rfl d19_26 rfl (q := 28) ?_
  refine o_lload S rfl d19_28 rfl (q := 30) ?_
  refine o_lmul S d19_30 rfl (q := 31) ?_
  refine o_lstore S (L' := #[.val (.long q0), .second, .val (.long q1), .second, .val (.long (q0 >>> ((32 : Int32) &&& 0x3f).toInt64)), .second, .val (.long (q0 &&& (4294967295 : Int64))), .second, .val (.long (q1 >>> ((32 : Int32) &&& 0x3f).toInt64)), .second, .val (.long (q1 &&& (4294967295 : Int64))), .second, .val (.long ((q0 &&& (4294967295 : Int64)) * (q1 &&& (4294967295 : Int64)))), .second, .unset, .unset, .unset, .unset, .unset, .unset]) rfl d19_31 rfl (q := 33) ?_
  refine o_lload S rfl d19_33 rfl (q := 35) ?_
  refine o_lload S rfl d19_35 rfl (q := 37) ?_
  refine o_lmul S d19_37 rfl (q := 38) ?_
  refine o_lload S rfl d19_38 rfl (q := 40) ?_
  refine o_bipush S (z := 32) rfl d19_40 rfl (q := 42) ?_
  refine o_lushr S d19_42 rfl (q := 43) ?_
  refine o_ladd S d19_43 rfl (q := 44) ?_
  refine o_lstore S (L' := #[.val (.long q0), .second, .val (.long q1), .second, .val (.long (q0 >>> ((32 : Int32) &&& 0x3f).toInt64)), .second, .val (.long (q0 &&& (4294967295 : Int64))), .second, .val (.long (q1 >>> ((32 : Int32) &&& 0x3f).toInt64)), .second, .val (.long (q1 &&& (4294967295 : Int64))), .second, .val (.long ((q0 &&& (4294967295 : Int64)) * (q1 &&& (4294967295 : Int64)))), .second, .val (.long (((q0 >>> ((32 : Int32) &&& 0x3f).toInt64) * (q1 &&& (4294967295 : Int64))) + ((((q0 &&& (4294967295 : Int64)) * (q1 &&& (4294967295 : Int64))).toUInt64 >>> ((32 : Int32) &&& 0x3f).toInt64.toUInt64).toInt64))), .second, .unset, .unset, .unset, .unset]) rfl d19_44 rfl (q := 46) ?_
  refine o_lload S rfl d19_46 rfl (q := 48) ?_
  refine o_ldc2 S (o_wd (i := 94) hw rfl) d19_48 rfl (q := 51) ?_
  refine o_land S d19_51 rfl (q := 52) ?_
  refine o_lstore S (L' := #[.val (.long q0), .second, .val (.long q1), .second, .val (.long (q0 >>> ((32 : Int32) &&& 0x3f).toInt64)), .second, .val (.long (q0 &&& (4294967295 : Int64))), .second, .val (.long (q1 >>> ((32 : Int32) &&& 0x3f).toInt64)), .second, .val (.long (q1 &&& (4294967295 : Int64))), .second, .val (.long ((q0 &&& (4294967295 : Int64)) * (q1 &&& (4294967295 : Int64)))), .second, .val (.long (((q0 >>> ((32 : Int32) &&& 0x3f).toInt64) * (q1 &&& (4294967295 : Int64))) + ((((q0 &&& (4294967295 : Int64)) * (q1 &&& (4294967295 : Int64))).toUInt64 >>> ((32 : Int32) &&& 0x3f).toInt64.toUInt64).toInt64))), .second, .val (.long ((((q0 >>> ((32 : Int32) &&& 0x3f).toInt64) * (q1 &&& (4294967295 : Int64))) + ((((q0 &&& (4294967295 : Int64)) * (q1 &&& (4294967295 : Int64))).toUInt64 >>> ((32 : Int32) &&& 0x3f).toInt64.toUInt64).toInt64)) &&& (4294967295 : Int64))), .second, .unset, .unset]) rfl d19_52 rfl (q := 54) ?_
  refine o_lload S rfl d19_54 rfl (q := 56) ?_
  refine o_bipush S (z := 32) rfl d19_56 rfl (q := 58) ?_
  refine o_lshr S d19_58 rfl (q := 59) ?_
  refine o_lstore S (L' := #[.val (.long q0), .second, .val (.long q1), .second, .val (.long (q0 >>> ((32 : Int32) &&& 0x3f).toInt64)), .second, .val (.long (q0 &&& (4294967295 : Int64))), .second, .val (.long (q1 >>> ((32 : Int32) &&& 0x3f).toInt64)), .second, .val (.long (q1 &&& (4294967295 : Int64))), .second, .val (.long ((q0 &&& (4294967295 : Int64)) * (q1 &&& (4294967295 : Int64)))), .second, .val (.long (((q0 >>> ((32 : Int32) &&& 0x3f).toInt64) * (q1 &&& (4294967295 : Int64))) + ((((q0 &&& (4294967295 : Int64)) * (q1 &&& (4294967295 : Int64))).toUInt64 >>> ((32 : Int32) &&& 0x3f).toInt64.toUInt64).toInt64))), .second, .val (.long ((((q0 >>> ((32 : Int32) &&& 0x3f).toInt64) * (q1 &&& (4294967295 : Int64))) + ((((q0 &&& (4294967295 : Int64)) * (q1 &&& (4294967295 : Int64))).toUInt64 >>> ((32 : Int32) &&& 0x3f).toInt64.toUInt64).toInt64)) &&& (4294967295 : Int64))), .second, .val (.long ((((q0 >>> ((32 : Int32) &&& 0x3f).toInt64) * (q1 &&& (4294967295 : Int64))) + ((((q0 &&& (4294967295 : Int64)) * (q1 &&& (4294967295 : Int64))).toUInt64 >>> ((32 : Int32) &&& 0x3f).toInt64.toUInt64).toInt64)) >>> ((32 : Int32) &&& 0x3f).toInt64)), .second]) rfl d19_59 rfl (q := 61) ?_
  refine o_lload S rfl d19_61 rfl (q := 63) ?_
  refine o_lload S rfl d19_63 rfl (q := 65) ?_
  refine o_lload S rfl d19_65 rfl (q := 67) ?_
  refine o_lmul S d19_67 rfl (q := 68) ?_
  refine o_ladd S d19_68 rfl (q := 69) ?_
  refine o_lstore S (L' := #[.val (.long q0), .second, .val (.long q1), .second, .val (.long (q0 >>> ((32 : Int32) &&& 0x3f).toInt64)), .second, .val (.long (q0 &&& (4294967295 : Int64))), .second, .val (.long (q1 >>> ((32 : Int32) &&& 0x3f).toInt64)), .second, .val (.long (q1 &&& (4294967295 : Int64))), .second, .val (.long ((q0 &&& (4294967295 : Int64)) * (q1 &&& (4294967295 : Int64)))), .second, .val (.long (((q0 >>> ((32 : Int32) &&& 0x3f).toInt64) * (q1 &&& (4294967295 : Int64))) + ((((q0 &&& (4294967295 : Int64)) * (q1 &&& (4294967295 : Int64))).toUInt64 >>> ((32 : Int32) &&& 0x3f).toInt64.toUInt64).toInt64))), .second, .val (.long (((((q0 >>> ((32 : Int32) &&& 0x3f).toInt64) * (q1 &&& (4294967295 : Int64))) + ((((q0 &&& (4294967295 : Int64)) * (q1 &&& (4294967295 : Int64))).toUInt64 >>> ((32 : Int32) &&& 0x3f).toInt64.toUInt64).toInt64)) &&& (4294967295 : Int64)) + ((q0 &&& (4294967295 : Int64)) * (q1 >>> ((32 : Int32) &&& 0x3f).toInt64)))), .second, .val (.long ((((q0 >>> ((32 : Int32) &&& 0x3f).toInt64) * (q1 &&& (4294967295 : Int64))) + ((((q0 &&& (4294967295 : Int64)) * (q1 &&& (4294967295 : Int64))).toUInt64 >>> ((32 : Int32) &&& 0x3f).toInt64.toUInt64).toInt64)) >>> ((32 : Int32) &&& 0x3f).toInt64)), .second]) rfl d19_69 rfl (q := 71) ?_
  refine o_lload S rfl d19_71 rfl (q := 73) ?_
  refine o_lload S rfl d19_73 rfl (q := 75) ?_
  refine o_lmul S d19_75 rfl (q := 76) ?_
  refine o_lload S rfl d19_76 rfl (q := 78) ?_
  refine o_ladd S d19_78 rfl (q := 79) ?_
  refine o_lload S rfl d19_79 rfl (q := 81) ?_
  refine o_bipush S (z := 32) rfl d19_81 rfl (q := 83) ?_
  refine o_lshr S d19_83 rfl (q := 84) ?_
  refine o_ladd S d19_84 rfl (q := 85) ?_
  refine o_retJ S rfl d19_85 (by decide) (by decide) ?_
  exact ⟨o_sj (by rw [f_mh]), rfl⟩
def f_lc (q0 : Int64) (q1 : Int64) : Int32 := if q1.toInt ≤ q0.toInt then (if ¬ q0 = q1 then (1 : Int32) else (0 : Int32)) else (-1 : Int32)
theorem d21_0 : decode jdk_35_method_42_code 0 = .ok (.lload_n 0, 1) := by decide +kernel
theorem d21_1 : decode jdk_35_method_42_code 1 = .ok (.lload_n 2, 1) := by decide +kernel
theorem d21_2 : decode jdk_35_method_42_code 2 = .ok (.lcmp, 1) := by decide +kernel
theorem d21_3 : decode jdk_35_method_42_code 3 = .ok (.ifCond .ge 7, 3) := by decide +kernel
theorem d21_6 : decode jdk_35_method_42_code 6 = .ok (.iconst (-1), 1) := by decide +kernel
theorem d21_7 : decode jdk_35_method_42_code 7 = .ok (.goto 14, 3) := by decide +kernel
theorem d21_10 : decode jdk_35_method_42_code 10 = .ok (.lload_n 0, 1) := by decide +kernel
theorem d21_11 : decode jdk_35_method_42_code 11 = .ok (.lload_n 2, 1) := by decide +kernel
theorem d21_12 : decode jdk_35_method_42_code 12 = .ok (.lcmp, 1) := by decide +kernel
theorem d21_13 : decode jdk_35_method_42_code 13 = .ok (.ifCond .ne 7, 3) := by decide +kernel
theorem d21_16 : decode jdk_35_method_42_code 16 = .ok (.iconst 0, 1) := by decide +kernel
theorem d21_17 : decode jdk_35_method_42_code 17 = .ok (.goto 4, 3) := by decide +kernel
theorem d21_20 : decode jdk_35_method_42_code 20 = .ok (.iconst 1, 1) := by decide +kernel
theorem d21_21 : decode jdk_35_method_42_code 21 = .ok (.ireturn, 1) := by decide +kernel
def rm_21 : Room := ({ frames := 0, cells := 0, slots := 0, locals := 0 } : Room)
theorem pn_21 : plainFor (⟨"java/lang/Long", "compare", "(JJ)I"⟩ : MethodName) = true := plainFor_of_name (by first | (simp [plainName, overriddenIn]; done) | (simp [plainName, overriddenIn, x]; done) | decide +kernel)
theorem ef_21 (q0 : Int64) (q1 : Int64) (m : MethodId) : entryFrame m #[(.long q0), (.long q1)] 4 = mkF m 0 #[.val (.long q0), .second, .val (.long q1), .second] [] := by first | (simp [entryFrame, mkF, argsToLocals, Value.category]; done) | rfl
set_option maxRecDepth 65536 in
set_option maxHeartbeats 40000000 in
theorem ct_21 (l : Launch) (Z : State) (a0 : Array Value) (hw : ∀ d ∈ tables_1, d.before a0 Z = true) (q0 : Int64) (q1 : Int64) (h0 : Heap) (n0 : Nat) (hn : n0 ≤ h0.size) : Ct l (⟨"java/lang/Long", "compare", "(JJ)I"⟩ : MethodName) jdk_35_method_42_code 4 (some .int) [] rm_21 Z h0 n0 #[(.long q0), (.long q1)] (Qp (some (.int (f_lc q0 q1))) h0) := by
  refine o_body pn_21 hn (ef_21 q0 q1) ?_
  intro p e s m below meth c T S
  refine o_lloadN S rfl d21_0 rfl (q := 1) ?_
  refine o_lloadN S rfl d21_1 rfl (q := 2) ?_
  refine o_lcmp S d21_2 rfl (q := 3) ?_
  refine o_if S d21_3 (by decide) (q' := 10) (by decide) (q := 6) rfl (hl_ge (a := q0.toInt) (b := q1.toInt) rfl rfl).1 (hl_ge (a := q0.toInt) (b := q1.toInt) rfl rfl).2 (fun hc3 => ?_) (fun hc3 => ?_)
  · skip
    refine o_lloadN S rfl d21_10 rfl (q := 11) ?_
    refine o_lloadN S rfl d21_11 rfl (q := 12) ?_
    refine o_lcmp S d21_12 rfl (q := 13) ?_
    refine o_if S d21_13 (by decide) (q' := 20) (by decide) (q := 16) rfl hl_ne.1 hl_ne.2 (fun hc13 => ?_) (fun hc13 => ?_)
    · skip
      refine o_iconst S (z := 1) rfl d21_20 rfl (q := 21) ?_
      refine o_retI S rfl d21_21 (by decide) (by decide) ?_
      exact ⟨o_si (by rw [f_lc, if_pos hc3, if_pos hc13]), rfl⟩
    · skip
      refine o_iconst S (z := 0) rfl d21_16 rfl (q := 17) ?_
      refine o_goto S d21_17 (by decide) (q := 21) (by decide) ?_
      refine o_retI S rfl d21_21 (by decide) (by decide) ?_
      exact ⟨o_si (by rw [f_lc, if_pos hc3, if_neg hc13]), rfl⟩
  · skip
    refine o_iconst S (z := -1) rfl d21_6 rfl (q := 7) ?_
    refine o_goto S d21_7 (by decide) (q := 21) (by decide) ?_
    refine o_retI S rfl d21_21 (by decide) (by decide) ?_
    exact ⟨o_si (by rw [f_lc, if_neg hc3]), rfl⟩
theorem pd_3 : parseMethodDescriptor "(JJ)I" = some ⟨[.long, .long], some .int⟩ := by decide +kernel
def f_lcu (q0 : Int64) (q1 : Int64) : Int32 := (f_lc (q0 + (-9223372036854775808 : Int64)) (q1 + (-9223372036854775808 : Int64)))
theorem d20_0 : decode jdk_35_method_43_code 0 = .ok (.lload_n 0, 1) := by decide +kernel
theorem d20_1 : decode jdk_35_method_43_code 1 = .ok (.ldc2_w 168, 3) := by decide +kernel
theorem d20_4 : decode jdk_35_method_43_code 4 = .ok (.ladd, 1) := by decide +kernel
theorem d20_5 : decode jdk_35_method_43_code 5 = .ok (.lload_n 2, 1) := by decide +kernel
theorem d20_6 : decode jdk_35_method_43_code 6 = .ok (.ldc2_w 168, 3) := by decide +kernel
theorem d20_9 : decode jdk_35_method_43_code 9 = .ok (.ladd, 1) := by decide +kernel
theorem d20_10 : decode jdk_35_method_43_code 10 = .ok (.invokestatic 302, 3) := by decide +kernel
theorem d20_13 : decode jdk_35_method_43_code 13 = .ok (.ireturn, 1) := by decide +kernel
def rm_20 : Room := ({ frames := 1, cells := 0, slots := 0, locals := 15 } : Room)
theorem pn_20 : plainFor (⟨"java/lang/Long", "compareUnsigned", "(JJ)I"⟩ : MethodName) = true := plainFor_of_name (by first | (simp [plainName, overriddenIn]; done) | (simp [plainName, overriddenIn, x]; done) | decide +kernel)
theorem ef_20 (q0 : Int64) (q1 : Int64) (m : MethodId) : entryFrame m #[(.long q0), (.long q1)] 4 = mkF m 0 #[.val (.long q0), .second, .val (.long q1), .second] [] := by first | (simp [entryFrame, mkF, argsToLocals, Value.category]; done) | rfl
set_option maxRecDepth 65536 in
set_option maxHeartbeats 40000000 in
theorem ct_20 (l : Launch) (Z : State) (a0 : Array Value) (hw : ∀ d ∈ tables_1, d.before a0 Z = true) (q0 : Int64) (q1 : Int64) (h0 : Heap) (n0 : Nat) (hn : n0 ≤ h0.size) : Ct l (⟨"java/lang/Long", "compareUnsigned", "(JJ)I"⟩ : MethodName) jdk_35_method_43_code 4 (some .int) [] rm_20 Z h0 n0 #[(.long q0), (.long q1)] (Qp (some (.int (f_lcu q0 q1))) h0) := by
  refine o_body pn_20 hn (ef_20 q0 q1) ?_
  intro p e s m below meth c T S
  refine o_lloadN S rfl d20_0 rfl (q := 1) ?_
  refine o_ldc2 S (o_wd (i := 99) hw rfl) d20_1 rfl (q := 4) ?_
  refine o_ladd S d20_4 rfl (q := 5) ?_
  refine o_lloadN S rfl d20_5 rfl (q := 6) ?_
  refine o_ldc2 S (o_wd (i := 99) hw rfl) d20_6 rfl (q := 9) ?_
  refine o_ladd S d20_9 rfl (q := 10) ?_
  refine o_callS0 S (W := 0) (argsL := [(.long (q0 + (-9223372036854775808 : Int64))), (.long (q1 + (-9223372036854775808 : Int64)))]) (rest := []) (o_wd (i := 100) hw rfl) (o_wd (i := 101) hw rfl) (o_wd (i := 97) hw rfl) (o_wd (i := 102) hw rfl) (by decide) (ct_21 l Z a0 hw (q0 + (-9223372036854775808 : Int64)) (q1 + (-9223372036854775808 : Int64)) h0 n0 (o_n0 S)) (by decide) (by decide) rfl rfl pd_3 rfl (Nat.le_of_eq rfl) d20_10 rfl (q := 13) (by decide) (by decide) rfl (st' := [(.int (f_lc (q0 + (-9223372036854775808 : Int64)) (q1 + (-9223372036854775808 : Int64))))]) (fun T S => ?_)
  refine o_retI S rfl d20_13 (by decide) (by decide) ?_
  exact ⟨o_si (by rw [f_lcu]), rfl⟩
def f_ic (p0 : Int32) (p1 : Int32) : Int32 := if p1.toInt ≤ p0.toInt then (if ¬ p0 = p1 then (1 : Int32) else (0 : Int32)) else (-1 : Int32)
theorem d15_0 : decode jdk_33_method_40_code 0 = .ok (.iload_n 0, 1) := by decide +kernel
theorem d15_1 : decode jdk_33_method_40_code 1 = .ok (.iload_n 1, 1) := by decide +kernel
theorem d15_2 : decode jdk_33_method_40_code 2 = .ok (.if_icmp .ge 7, 3) := by decide +kernel
theorem d15_5 : decode jdk_33_method_40_code 5 = .ok (.iconst (-1), 1) := by decide +kernel
theorem d15_6 : decode jdk_33_method_40_code 6 = .ok (.goto 13, 3) := by decide +kernel
theorem d15_9 : decode jdk_33_method_40_code 9 = .ok (.iload_n 0, 1) := by decide +kernel
theorem d15_10 : decode jdk_33_method_40_code 10 = .ok (.iload_n 1, 1) := by decide +kernel
theorem d15_11 : decode jdk_33_method_40_code 11 = .ok (.if_icmp .ne 7, 3) := by decide +kernel
theorem d15_14 : decode jdk_33_method_40_code 14 = .ok (.iconst 0, 1) := by decide +kernel
theorem d15_15 : decode jdk_33_method_40_code 15 = .ok (.goto 4, 3) := by decide +kernel
theorem d15_18 : decode jdk_33_method_40_code 18 = .ok (.iconst 1, 1) := by decide +kernel
theorem d15_19 : decode jdk_33_method_40_code 19 = .ok (.ireturn, 1) := by decide +kernel
def rm_15 : Room := ({ frames := 0, cells := 0, slots := 0, locals := 0 } : Room)
theorem pn_15 : plainFor (⟨"java/lang/Integer", "compare", "(II)I"⟩ : MethodName) = true := plainFor_of_name (by first | (simp [plainName, overriddenIn]; done) | (simp [plainName, overriddenIn, x]; done) | decide +kernel)
theorem ef_15 (p0 : Int32) (p1 : Int32) (m : MethodId) : entryFrame m #[(.int p0), (.int p1)] 2 = mkF m 0 #[.val (.int p0), .val (.int p1)] [] := by first | (simp [entryFrame, mkF, argsToLocals, Value.category]; done) | rfl
set_option maxRecDepth 65536 in
set_option maxHeartbeats 40000000 in
theorem ct_15 (l : Launch) (Z : State) (a0 : Array Value) (hw : ∀ d ∈ tables_1, d.before a0 Z = true) (p0 : Int32) (p1 : Int32) (h0 : Heap) (n0 : Nat) (hn : n0 ≤ h0.size) : Ct l (⟨"java/lang/Integer", "compare", "(II)I"⟩ : MethodName) jdk_33_method_40_code 2 (some .int) [] rm_15 Z h0 n0 #[(.int p0), (.int p1)] (Qp (some (.int (f_ic p0 p1))) h0) := by
  refine o_body pn_15 hn (ef_15 p0 p1) ?_
  intro p e s m below meth c T S
  refine o_iloadN S rfl d15_0 rfl (q := 1) ?_
  refine o_iloadN S rfl d15_1 rfl (q := 2) ?_
  refine o_icmp S d15_2 (by decide) (q' := 9) (by decide) (q := 5) rfl (hs_ge (a := p0.toInt) (b := p1.toInt) rfl rfl).1 (hs_ge (a := p0.toInt) (b := p1.toInt) rfl rfl).2 (fun hc2 => ?_) (fun hc2 => ?_)
  · skip
    refine o_iloadN S rfl d15_9 rfl (q := 10) ?_
    refine o_iloadN S rfl d15_10 rfl (q := 11) ?_
    refine o_icmp S d15_11 (by decide) (q' := 18) (by decide) (q := 14) rfl hs_ne.1 hs_ne.2 (fun hc11 => ?_) (fun hc11 => ?_)
    · skip
      refine o_iconst S (z := 1) rfl d15_18 rfl (q := 19) ?_
      refine o_retI S rfl d15_19 (by decide) (by decide) ?_
      exact ⟨o_si (by rw [f_ic, if_pos hc2, if_pos hc11]), rfl⟩
    · skip
      refine o_iconst S (z := 0) rfl d15_14 rfl (q := 15) ?_
      refine o_goto S d15_15 (by decide) (q := 19) (by decide) ?_
      refine o_retI S rfl d15_19 (by decide) (by decide) ?_
      exact ⟨o_si (by rw [f_ic, if_pos hc2, if_neg hc11]), rfl⟩
  · skip
    refine o_iconst S (z := -1) rfl d15_5 rfl (q := 6) ?_
    refine o_goto S d15_6 (by decide) (q := 19) (by decide) ?_
    refine o_retI S rfl d15_19 (by decide) (by decide) ?_
    exact ⟨o_si (by rw [f_ic, if_neg hc2]), rfl⟩
theorem pd_4 : parseMethodDescriptor "(II)I" = some ⟨[.int, .int], some .int⟩ := by decide +kernel
def f_icu (p0 : Int32) (p1 : Int32) : Int32 := (f_ic (p0 + (-2147483648 : Int32)) (p1 + (-2147483648 : Int32)))
theorem d16_0 : decode jdk_33_method_41_code 0 = .ok (.iload_n 0, 1) := by decide +kernel
theorem d16_1 : decode jdk_33_method_41_code 1 = .ok (.ldc 127, 2) := by decide +kernel
theorem d16_3 : decode jdk_33_method_41_code 3 = .ok (.iadd, 1) := by decide +kernel
theorem d16_4 : decode jdk_33_method_41_code 4 = .ok (.iload_n 1, 1) := by decide +kernel
theorem d16_5 : decode jdk_33_method_41_code 5 = .ok (.ldc 127, 2) := by decide +kernel
theorem d16_7 : decode jdk_33_method_41_code 7 = .ok (.iadd, 1) := by decide +kernel
theorem d16_8 : decode jdk_33_method_41_code 8 = .ok (.invokestatic 259, 3) := by decide +kernel
theorem d16_11 : decode jdk_33_method_41_code 11 = .ok (.ireturn, 1) := by decide +kernel
def rm_16 : Room := ({ frames := 1, cells := 0, slots := 0, locals := 13 } : Room)
theorem pn_16 : plainFor (⟨"java/lang/Integer", "compareUnsigned", "(II)I"⟩ : MethodName) = true := plainFor_of_name (by first | (simp [plainName, overriddenIn]; done) | (simp [plainName, overriddenIn, x]; done) | decide +kernel)
theorem ef_16 (p0 : Int32) (p1 : Int32) (m : MethodId) : entryFrame m #[(.int p0), (.int p1)] 2 = mkF m 0 #[.val (.int p0), .val (.int p1)] [] := by first | (simp [entryFrame, mkF, argsToLocals, Value.category]; done) | rfl
set_option maxRecDepth 65536 in
set_option maxHeartbeats 40000000 in
theorem ct_16 (l : Launch) (Z : State) (a0 : Array Value) (hw : ∀ d ∈ tables_1, d.before a0 Z = true) (p0 : Int32) (p1 : Int32) (h0 : Heap) (n0 : Nat) (hn : n0 ≤ h0.size) : Ct l (⟨"java/lang/Integer", "compareUnsigned", "(II)I"⟩ : MethodName) jdk_33_method_41_code 2 (some .int) [] rm_16 Z h0 n0 #[(.int p0), (.int p1)] (Qp (some (.int (f_icu p0 p1))) h0) := by
  refine o_body pn_16 hn (ef_16 p0 p1) ?_
  intro p e s m below meth c T S
  refine o_iloadN S rfl d16_0 rfl (q := 1) ?_
  refine o_ldc S (o_wd (i := 82) hw rfl) d16_1 rfl (q := 3) ?_
  refine o_iadd S d16_3 rfl (q := 4) ?_
  refine o_iloadN S rfl d16_4 rfl (q := 5) ?_
  refine o_ldc S (o_wd (i := 82) hw rfl) d16_5 rfl (q := 7) ?_
  refine o_iadd S d16_7 rfl (q := 8) ?_
  refine o_callS0 S (W := 0) (argsL := [(.int (p0 + (-2147483648 : Int32))), (.int (p1 + (-2147483648 : Int32)))]) (rest := []) (o_wd (i := 83) hw rfl) (o_wd (i := 76) hw rfl) (o_wd (i := 77) hw rfl) (o_wd (i := 78) hw rfl) (by decide) (ct_15 l Z a0 hw (p0 + (-2147483648 : Int32)) (p1 + (-2147483648 : Int32)) h0 n0 (o_n0 S)) (by decide) (by decide) rfl rfl pd_4 rfl (Nat.le_of_eq rfl) d16_8 rfl (q := 11) (by decide) (by decide) rfl (st' := [(.int (f_ic (p0 + (-2147483648 : Int32)) (p1 + (-2147483648 : Int32))))]) (fun T S => ?_)
  refine o_retI S rfl d16_11 (by decide) (by decide) ?_
  exact ⟨o_si (by rw [f_icu]), rfl⟩
theorem e64 {x y : Int64} (h : x.toInt = y.toInt) : x = y := Int64.toInt_inj.1 h
theorem us32 (x : Int64) : (((x.toUInt64 >>> ((32 : Int32) &&& 0x3f).toInt64.toUInt64).toInt64)).toInt = x.toInt % 18446744073709551616 / 4294967296 := c_lushr x 32 32 (by decide) (by decide)
theorem z64 {x y : Int64} (hy : y = ((x.toUInt64 >>> ((32 : Int32) &&& 0x3f).toInt64.toUInt64).toInt64)) (h1 : x.toInt32 = 0) (h2 : y.toInt32 = 0) : x = 0 := by
  have a := c_l2i x; have b := us32 x; have c := c_l2i y; rw [← hy] at b
  rw [h1] at a; rw [h2] at c; have r := rng64 x; have z : (0 : Int32).toInt = 0 := rfl
  exact e64 (by show x.toInt = 0; omega)
theorem tz3 (a b c d : Int32) : trm [a, b, c, d] 3 = 0 ↔ (a = 0 ∧ b = 0 ∧ c = 0) := by
  rw [trm_zero]
  constructor
  · intro h; exact ⟨h 0 (by decide), h 1 (by decide), h 2 (by decide)⟩
  · rintro ⟨h0, h1, h2⟩ i hi
    match i, hi with
    | 0, _ => exact h0
    | 1, _ => exact h1
    | 2, _ => exact h2
theorem tz4 (a b c d : Int32) : trm [a, b, c, d] 4 = 0 ↔ (a = 0 ∧ b = 0 ∧ c = 0 ∧ d = 0) := by
  rw [trm_zero]
  constructor
  · intro h; exact ⟨h 0 (by decide), h 1 (by decide), h 2 (by decide), h 3 (by decide)⟩
  · rintro ⟨h0, h1, h2, h3⟩ i hi
    match i, hi with
    | 0, _ => exact h0
    | 1, _ => exact h1
    | 2, _ => exact h2
    | 3, _ => exact h3
theorem dmk (x : Int32) : (x.toInt64 &&& (4294967295 : Int64)).toInt = x.toInt % 4294967296 := by
  have h : (x.toInt64 &&& (4294967295 : Int64)).toInt = x.toInt64.toInt % 4294967296 := c_maskL x.toInt64 4294967295 32 (by decide) (by decide)
  rw [h, c_i2l]
theorem dmk1 {x : Int32} {d : Int64} (hd : d = (x.toInt64 &&& (4294967295 : Int64))) : 0 ≤ d.toInt ∧ d.toInt < 4294967296 ∧ (¬ x = 0 → 1 ≤ d.toInt) := by
  have e := dmk x
  rw [← hd] at e
  refine ⟨by omega, by omega, fun h => ?_⟩
  have r := rng32 x
  have n : x.toInt ≠ 0 := fun q => h (o_eq32 (by rw [q]; rfl))
  omega
theorem prodA {d f c p : Int64} (hd0 : 0 ≤ d.toInt) (hd1 : d.toInt < 4294967296) (hf0 : 0 ≤ f.toInt) (hf1 : f.toInt ≤ 4294967295) (hc0 : 0 ≤ c.toInt) (hc1 : c.toInt < 4294967296) (hp : p = (d * f) + c) : p.toInt % 18446744073709551616 = d.toInt * f.toInt + c.toInt ∧ 0 ≤ d.toInt * f.toInt := by
  have a := c_lmul d f; have b := c_ladd (d * f) c
  have u : d.toInt * f.toInt ≤ 4294967295 * 4294967295 := Int.mul_le_mul (by omega) hf1 hf0 (by omega)
  have w : 0 ≤ d.toInt * f.toInt := Int.mul_nonneg hd0 hf0
  generalize d.toInt * f.toInt = P at *
  rw [hp]; omega
theorem mz_0 : trm [((0 : Int64).toInt32), ((((0 : Int64).toUInt64 >>> ((32 : Int32) &&& 0x3f).toInt64.toUInt64).toInt64).toInt32), 0, 0] 2 = 0 := by decide
theorem mz_a1 {x0 : Int32} {q1 v13 v15 : Int64} (hx : ¬ x0 = 0) (hf0 : 0 ≤ q1.toInt) (hc : ¬ 4294967295 < q1.toInt) (h13 : v13 = (((x0.toInt64 &&& (4294967295 : Int64)) * q1) + (0 : Int64))) (h15 : v15 = ((v13.toUInt64 >>> ((32 : Int32) &&& 0x3f).toInt64.toUInt64).toInt64)) : (trm [(v13.toInt32), (v15.toInt32), (((v15.toUInt64 >>> ((32 : Int32) &&& 0x3f).toInt64.toUInt64).toInt64).toInt32), 0] 3 = 0 ↔ q1 = 0) := by
  obtain ⟨d0, d1, d2⟩ := dmk1 (x := x0) rfl
  have z0 : (0 : Int64).toInt = 0 := rfl
  have p := prodA d0 d1 hf0 (by omega) (by omega) (by omega) h13
  rw [tz3]
  constructor
  · rintro ⟨a, b, -⟩
    have e := z64 h15 a b
    rw [e, z0] at p
    rcases Int.mul_eq_zero.mp (show (x0.toInt64 &&& (4294967295 : Int64)).toInt * q1.toInt = 0 by omega) with k | k
    · have := d2 hx; omega
    · exact e64 k
  · intro h
    have r := rng64 v13
    rw [h, z0, Int.mul_zero] at p
    have e : v13 = 0 := e64 (by show v13.toInt = 0; omega)
    subst e; subst h15; decide
theorem mz_a2 {x0 x1 : Int32} {q1 v20 v22 v23 v25 : Int64} (hx : ¬ x1 = 0) (hf0 : 0 ≤ q1.toInt) (hc : ¬ 4294967295 < q1.toInt) (h20 : v20 = (((x0.toInt64 &&& (4294967295 : Int64)) * q1) + (0 : Int64))) (h22 : v22 = ((v20.toUInt64 >>> ((32 : Int32) &&& 0x3f).toInt64.toUInt64).toInt64)) (h23 : v23 = (((x1.toInt64 &&& (4294967295 : Int64)) * q1) + v22)) (h25 : v25 = ((v23.toUInt64 >>> ((32 : Int32) &&& 0x3f).toInt64.toUInt64).toInt64)) : (trm [(v20.toInt32), (v23.toInt32), (v25.toInt32), (((v25.toUInt64 >>> ((32 : Int32) &&& 0x3f).toInt64.toUInt64).toInt64).toInt32)] 4 = 0 ↔ q1 = 0) := by
  obtain ⟨d0, d1, d2⟩ := dmk1 (x := x0) rfl
  obtain ⟨e0, e1, e2⟩ := dmk1 (x := x1) rfl
  have z0 : (0 : Int64).toInt = 0 := rfl
  have p := prodA d0 d1 hf0 (by omega) (by omega) (by omega) h20
  have b22 := us32 v20
  rw [← h22] at b22
  have p2 := prodA e0 e1 hf0 (by omega) (by omega) (by omega) h23
  rw [tz4]
  constructor
  · rintro ⟨-, a, b, -⟩
    have e := z64 h25 a b
    rw [e, z0] at p2
    rcases Int.mul_eq_zero.mp (show (x1.toInt64 &&& (4294967295 : Int64)).toInt * q1.toInt = 0 by omega) with k | k
    · have := e2 hx; omega
    · exact e64 k
  · intro h
    have r := rng64 v20
    have r2 := rng64 v23
    rw [h, z0, Int.mul_zero] at p p2
    have e : v20 = 0 := e64 (by show v20.toInt = 0; omega)
    have e' : v23 = 0 := e64 (by show v23.toInt = 0; omega)
    subst e e' h25; decide
theorem lcu_ge (a b : Int64) : 0 ≤ (f_lcu a b).toInt ↔ b.toInt % 18446744073709551616 ≤ a.toInt % 18446744073709551616 := by
  have m : (-9223372036854775808 : Int64).toInt = -9223372036854775808 := rfl
  have h1 := c_ladd a (-9223372036854775808 : Int64); have h2 := c_ladd b (-9223372036854775808 : Int64)
  have r1 := rng64 (a + (-9223372036854775808 : Int64)); have r2 := rng64 (b + (-9223372036854775808 : Int64)); have r3 := rng64 a; have r4 := rng64 b
  have k : 0 ≤ (f_lcu a b).toInt ↔ (b + (-9223372036854775808 : Int64)).toInt ≤ (a + (-9223372036854775808 : Int64)).toInt := by
    unfold f_lcu f_lc
    split
    · rename_i h; refine ⟨fun _ => h, fun _ => ?_⟩; split <;> decide
    · rename_i h; exact ⟨fun q => absurd q (by decide), fun q => absurd q h⟩
  rw [k]; omega
theorem mh_eq {d f : Int64} (hd0 : 0 ≤ d.toInt) (hd1 : d.toInt < 4294967296) (hf0 : 0 ≤ f.toInt) : (f_mh d f).toInt = d.toInt * f.toInt / 18446744073709551616 := by
  have a1 : (d >>> ((32 : Int32) &&& 0x3f).toInt64).toInt = d.toInt / 4294967296 := c_lshr d 32 32 (by decide)
  have e1 : d >>> ((32 : Int32) &&& 0x3f).toInt64 = 0 := e64 (by rw [a1]; show _ = (0 : Int); omega)
  have a2 : (d &&& (4294967295 : Int64)).toInt = d.toInt % 4294967296 := c_maskL d 4294967295 32 (by decide) (by decide)
  have e2 : d &&& (4294967295 : Int64) = d := e64 (by omega)
  have b1 : (f >>> ((32 : Int32) &&& 0x3f).toInt64).toInt = f.toInt / 4294967296 := c_lshr f 32 32 (by decide)
  have b2 : (f &&& (4294967295 : Int64)).toInt = f.toInt % 4294967296 := c_maskL f 4294967295 32 (by decide) (by decide)
  unfold f_mh
  rw [e1, e2]
  generalize f >>> ((32 : Int32) &&& 0x3f).toInt64 = f1 at *
  generalize f &&& (4294967295 : Int64) = f2 at *
  have k1 := c_lmul d f2
  have k2 := us32 (d * f2)
  generalize (((d * f2).toUInt64 >>> ((32 : Int32) &&& 0x3f).toInt64.toUInt64).toInt64) = z at *
  have rz : (0 : Int64) * f1 = 0 := by rw [Int64.zero_mul]
  have rz2 : (0 : Int64) * f2 = 0 := by rw [Int64.zero_mul]
  rw [rz, rz2, Int64.zero_add, Int64.zero_add]
  have k3 : (z >>> ((32 : Int32) &&& 0x3f).toInt64).toInt = z.toInt / 4294967296 := c_lshr z 32 32 (by decide)
  have k4 : (z &&& (4294967295 : Int64)).toInt = z.toInt % 4294967296 := c_maskL z 4294967295 32 (by decide) (by decide)
  have k5 := c_lmul d f1
  have k6 := c_ladd (z &&& (4294967295 : Int64)) (d * f1)
  have k7 : (((z &&& (4294967295 : Int64)) + (d * f1)) >>> ((32 : Int32) &&& 0x3f).toInt64).toInt = ((z &&& (4294967295 : Int64)) + (d * f1)).toInt / 4294967296 := c_lshr _ 32 32 (by decide)
  have k8 := c_ladd (z >>> ((32 : Int32) &&& 0x3f).toInt64) (((z &&& (4294967295 : Int64)) + (d * f1)) >>> ((32 : Int32) &&& 0x3f).toInt64)
  have rf := rng64 f
  have u1 : d.toInt * f1.toInt ≤ 4294967295 * 2147483647 := Int.mul_le_mul (by omega) (by omega) (by omega) (by omega)
  have u2 : d.toInt * f2.toInt ≤ 4294967295 * 4294967295 := Int.mul_le_mul (by omega) (by omega) (by omega) (by omega)
  have w1 : 0 ≤ d.toInt * f1.toInt := Int.mul_nonneg hd0 (by omega)
  have w2 : 0 ≤ d.toInt * f2.toInt := Int.mul_nonneg hd0 (by omega)
  have ff : f.toInt = f1.toInt * 4294967296 + f2.toInt := by omega
  have pp : d.toInt * f.toInt = (d.toInt * f1.toInt) * 4294967296 + d.toInt * f2.toInt := by rw [ff, Int.mul_add, ← Int.mul_assoc]
  rw [pp]
  have r1 := rng64 ((z &&& (4294967295 : Int64)) + (d * f1)); have r2 := rng64 (d * f1)
  have r3 := rng64 ((z >>> ((32 : Int32) &&& 0x3f).toInt64) + (((z &&& (4294967295 : Int64)) + (d * f1)) >>> ((32 : Int32) &&& 0x3f).toInt64))
  generalize d.toInt * f1.toInt = A at *
  generalize d.toInt * f2.toInt = B at *
  omega
theorem stepB {d f c low0 mh low h car : Int64} (hd0 : 1 ≤ d.toInt) (hd1 : d.toInt < 4294967296) (hf1 : 1 ≤ f.toInt) (h2 : low0 = d * f) (h3 : mh = f_mh d f) (h4 : low = low0 + c) (h5 : h = (if 0 ≤ (f_lcu low c).toInt then mh else (mh + (1 : Int64)))) (h7 : car = (((low.toUInt64 >>> ((32 : Int32) &&& 0x3f).toInt64.toUInt64).toInt64) ||| (h <<< ((32 : Int32) &&& 0x3f).toInt64))) (z1 : low.toInt32 = 0) (z2 : car.toInt32 = 0) (z3 : ((car.toUInt64 >>> ((32 : Int32) &&& 0x3f).toInt64.toUInt64).toInt64).toInt32 = 0) : False := by
  have ec := z64 rfl z2 z3
  rw [h7] at ec
  obtain ⟨q1, q2⟩ := Int64.or_eq_zero_iff.mp ec
  have el : low = 0 := z64 rfl z1 (by rw [q1]; decide)
  have m := mh_eq (d := d) (f := f) (by omega) hd1 (by omega)
  rw [← h3] at m
  have l0 := c_lmul d f
  rw [← h2] at l0
  have l1 := c_ladd low0 c
  rw [← h4, el] at l1
  have z0 : (0 : Int64).toInt = 0 := rfl
  have sh : ((h <<< ((32 : Int32) &&& 0x3f).toInt64).toInt - h.toInt * 4294967296) % 18446744073709551616 = 0 := c_lshl h 32 32 (by decide)
  rw [q2, z0] at sh
  have lc := lcu_ge low c
  rw [el, z0] at lc
  have rf := rng64 f; have rc := rng64 c; have r0 := rng64 low0
  have u : d.toInt * f.toInt ≤ 4294967295 * 9223372036854775807 := Int.mul_le_mul (by omega) (by omega) (by omega) (by omega)
  have w : 1 * 1 ≤ d.toInt * f.toInt := Int.mul_le_mul hd0 hf1 (by omega) (by omega)
  have ml := c_ladd mh (1 : Int64); have o1 : (1 : Int64).toInt = 1 := rfl; have rm := rng64 (mh + (1 : Int64))
  by_cases g : 0 ≤ (f_lcu low c).toInt
  · rw [if_pos g] at h5
    have g2 := lc.mp (by rw [← el]; exact g)
    subst h5
    generalize d.toInt * f.toInt = P at *
    omega
  · rw [if_neg g] at h5
    have g2 : ¬ c.toInt % 18446744073709551616 ≤ 0 % 18446744073709551616 := fun q => g (by rw [el]; exact lc.mpr q)
    subst h5
    generalize d.toInt * f.toInt = P at *
    omega
theorem mz_b1 {x0 : Int32} {q1 v1 v2 v3 v4 v5 v7 : Int64} (hx : ¬ x0 = 0) (hf0 : 0 ≤ q1.toInt) (hc : 4294967295 < q1.toInt) (h1 : v1 = (x0.toInt64 &&& (4294967295 : Int64))) (h2 : v2 = v1 * q1) (h3 : v3 = f_mh v1 q1) (h4 : v4 = v2 + (0 : Int64)) (h5 : v5 = (if 0 ≤ (f_lcu v4 (0 : Int64)).toInt then v3 else (v3 + (1 : Int64)))) (h7 : v7 = (((v4.toUInt64 >>> ((32 : Int32) &&& 0x3f).toInt64.toUInt64).toInt64) ||| (v5 <<< ((32 : Int32) &&& 0x3f).toInt64))) : (trm [(v4.toInt32), (v7.toInt32), (((v7.toUInt64 >>> ((32 : Int32) &&& 0x3f).toInt64.toUInt64).toInt64).toInt32), 0] 3 = 0 ↔ q1 = 0) := by
  obtain ⟨d0, d1, d2⟩ := dmk1 h1
  rw [tz3]
  exact ⟨fun ⟨a, b, c⟩ => (stepB (d2 hx) d1 (by omega) h2 h3 h4 h5 h7 a b c).elim, fun h => absurd hc (by rw [h]; decide)⟩
theorem mz_b2 {x0 x1 : Int32} {q1 v1 v2 v3 v4 v5 v7 v8 v9 v10 v11 v12 v14 : Int64} (hx : ¬ x1 = 0) (hf0 : 0 ≤ q1.toInt) (hc : 4294967295 < q1.toInt) (h1 : v1 = (x0.toInt64 &&& (4294967295 : Int64))) (h2 : v2 = v1 * q1) (h3 : v3 = f_mh v1 q1) (h4 : v4 = v2 + (0 : Int64)) (h5 : v5 = (if 0 ≤ (f_lcu v4 (0 : Int64)).toInt then v3 else (v3 + (1 : Int64)))) (h7 : v7 = (((v4.toUInt64 >>> ((32 : Int32) &&& 0x3f).toInt64.toUInt64).toInt64) ||| (v5 <<< ((32 : Int32) &&& 0x3f).toInt64)))
    (h8 : v8 = (x1.toInt64 &&& (4294967295 : Int64))) (h9 : v9 = v8 * q1) (h10 : v10 = f_mh v8 q1) (h11 : v11 = v9 + v7) (h12 : v12 = (if 0 ≤ (f_lcu v11 v7).toInt then v10 else (v10 + (1 : Int64)))) (h14 : v14 = (((v11.toUInt64 >>> ((32 : Int32) &&& 0x3f).toInt64.toUInt64).toInt64) ||| (v12 <<< ((32 : Int32) &&& 0x3f).toInt64))) : (trm [(v4.toInt32), (v11.toInt32), (v14.toInt32), (((v14.toUInt64 >>> ((32 : Int32) &&& 0x3f).toInt64.toUInt64).toInt64).toInt32)] 4 = 0 ↔ q1 = 0) := by
  obtain ⟨d0, d1, d2⟩ := dmk1 h8
  rw [tz4]
  exact ⟨fun ⟨_, a, b, c⟩ => (stepB (d2 hx) d1 (by omega) h9 h10 h11 h12 h14 a b c).elim, fun h => absurd hc (by rw [h]; decide)⟩
def Q_9n0 (Z : State) (r0 : Addr) (q1 : Int64) (dg : Addr) (ng : Int32) (x0 : Int32) (x1 : Int32) (h0 : Heap) (n0 : Nat) : Option Value → Heap → Prop := fun v h => ∃ ys : List Int32, v = none ∧ Keep h0 h [r0, dg] ∧ Exa Z h r0 "com/example/krofusmidur/krofusmidur/amounts/MutableInteger" ∧ Fld Z h r0 "com/example/krofusmidur/krofusmidur/amounts/MutableInteger" "digits" "[I" (.ref dg) ∧ Fld Z h r0 "com/example/krofusmidur/krofusmidur/amounts/MutableInteger" "length" "I" (.int (Int32.ofNat (trm ys 2))) ∧ Fld Z h r0 "com/example/krofusmidur/krofusmidur/amounts/MutableInteger" "negative" "Z" (.int (if trm ys 2 = 0 then (0 : Int32) else ng)) ∧ IA Z h dg .int (ys) ∧ ys.length = 4 ∧ trm ys 2 = 0
theorem d9_0 : decode prog_35_method_9_code 0 = .ok (.lload_n 1, 1) := by decide +kernel
theorem d9_1 : decode prog_35_method_9_code 1 = .ok (.lconst 0, 1) := by decide +kernel
theorem d9_2 : decode prog_35_method_9_code 2 = .ok (.lcmp, 1) := by decide +kernel
theorem d9_3 : decode prog_35_method_9_code 3 = .ok (.ifCond .ge 17, 3) := by decide +kernel
theorem d9_6 : decode prog_35_method_9_code 6 = .ok (.new 87, 3) := by decide +kernel
theorem d9_9 : decode prog_35_method_9_code 9 = .ok (.dup, 1) := by decide +kernel
theorem d9_10 : decode prog_35_method_9_code 10 = .ok (.lload_n 1, 1) := by decide +kernel
theorem d9_16 : decode prog_35_method_9_code 16 = .ok (.invokespecial 92, 3) := by decide +kernel
theorem d9_20 : decode prog_35_method_9_code 20 = .ok (.aload_n 0, 1) := by decide +kernel
theorem d9_21 : decode prog_35_method_9_code 21 = .ok (.aload_n 0, 1) := by decide +kernel
theorem d9_22 : decode prog_35_method_9_code 22 = .ok (.getfield 23, 3) := by decide +kernel
theorem d9_25 : decode prog_35_method_9_code 25 = .ok (.iconst 2, 1) := by decide +kernel
theorem d9_26 : decode prog_35_method_9_code 26 = .ok (.iadd, 1) := by decide +kernel
theorem d9_27 : decode prog_35_method_9_code 27 = .ok (.invokevirtual 34, 3) := by decide +kernel
theorem d9_30 : decode prog_35_method_9_code 30 = .ok (.lconst 0, 1) := by decide +kernel
theorem d9_31 : decode prog_35_method_9_code 31 = .ok (.lstore_n 3, 1) := by decide +kernel
theorem d9_32 : decode prog_35_method_9_code 32 = .ok (.lload_n 1, 1) := by decide +kernel
theorem d9_33 : decode prog_35_method_9_code 33 = .ok (.ldc2_w 93, 3) := by decide +kernel
theorem d9_36 : decode prog_35_method_9_code 36 = .ok (.lcmp, 1) := by decide +kernel
theorem d9_37 : decode prog_35_method_9_code 37 = .ok (.ifCond .gt 58, 3) := by decide +kernel
theorem d9_40 : decode prog_35_method_9_code 40 = .ok (.iconst 0, 1) := by decide +kernel
theorem d9_41 : decode prog_35_method_9_code 41 = .ok (.istore 5, 2) := by decide +kernel
theorem d9_43 : decode prog_35_method_9_code 43 = .ok (.iload 5, 2) := by decide +kernel
theorem d9_45 : decode prog_35_method_9_code 45 = .ok (.aload_n 0, 1) := by decide +kernel
theorem d9_46 : decode prog_35_method_9_code 46 = .ok (.getfield 23, 3) := by decide +kernel
theorem d9_49 : decode prog_35_method_9_code 49 = .ok (.if_icmp .ge 43, 3) := by decide +kernel
theorem d9_52 : decode prog_35_method_9_code 52 = .ok (.aload_n 0, 1) := by decide +kernel
theorem d9_53 : decode prog_35_method_9_code 53 = .ok (.getfield 7, 3) := by decide +kernel
theorem d9_56 : decode prog_35_method_9_code 56 = .ok (.iload 5, 2) := by decide +kernel
theorem d9_58 : decode prog_35_method_9_code 58 = .ok (.iaload, 1) := by decide +kernel
theorem d9_59 : decode prog_35_method_9_code 59 = .ok (.i2l, 1) := by decide +kernel
theorem d9_60 : decode prog_35_method_9_code 60 = .ok (.ldc2_w 93, 3) := by decide +kernel
theorem d9_63 : decode prog_35_method_9_code 63 = .ok (.land, 1) := by decide +kernel
theorem d9_64 : decode prog_35_method_9_code 64 = .ok (.lload_n 1, 1) := by decide +kernel
theorem d9_65 : decode prog_35_method_9_code 65 = .ok (.lmul, 1) := by decide +kernel
theorem d9_66 : decode prog_35_method_9_code 66 = .ok (.lload_n 3, 1) := by decide +kernel
theorem d9_67 : decode prog_35_method_9_code 67 = .ok (.ladd, 1) := by decide +kernel
theorem d9_68 : decode prog_35_method_9_code 68 = .ok (.lstore 6, 2) := by decide +kernel
theorem d9_70 : decode prog_35_method_9_code 70 = .ok (.aload_n 0, 1) := by decide +kernel
theorem d9_71 : decode prog_35_method_9_code 71 = .ok (.getfield 7, 3) := by decide +kernel
theorem d9_74 : decode prog_35_method_9_code 74 = .ok (.iload 5, 2) := by decide +kernel
theorem d9_76 : decode prog_35_method_9_code 76 = .ok (.lload 6, 2) := by decide +kernel
theorem d9_78 : decode prog_35_method_9_code 78 = .ok (.l2i, 1) := by decide +kernel
theorem d9_79 : decode prog_35_method_9_code 79 = .ok (.iastore, 1) := by decide +kernel
theorem d9_80 : decode prog_35_method_9_code 80 = .ok (.lload 6, 2) := by decide +kernel
theorem d9_82 : decode prog_35_method_9_code 82 = .ok (.bipush 32, 2) := by decide +kernel
theorem d9_84 : decode prog_35_method_9_code 84 = .ok (.lushr, 1) := by decide +kernel
theorem d9_85 : decode prog_35_method_9_code 85 = .ok (.lstore_n 3, 1) := by decide +kernel
theorem d9_86 : decode prog_35_method_9_code 86 = .ok (.iinc 5 1, 3) := by decide +kernel
theorem d9_89 : decode prog_35_method_9_code 89 = .ok (.goto (-46), 3) := by decide +kernel
theorem d9_92 : decode prog_35_method_9_code 92 = .ok (.goto 92, 3) := by decide +kernel
theorem d9_95 : decode prog_35_method_9_code 95 = .ok (.iconst 0, 1) := by decide +kernel
theorem d9_96 : decode prog_35_method_9_code 96 = .ok (.istore 5, 2) := by decide +kernel
theorem d9_98 : decode prog_35_method_9_code 98 = .ok (.iload 5, 2) := by decide +kernel
theorem d9_100 : decode prog_35_method_9_code 100 = .ok (.aload_n 0, 1) := by decide +kernel
theorem d9_101 : decode prog_35_method_9_code 101 = .ok (.getfield 23, 3) := by decide +kernel
theorem d9_104 : decode prog_35_method_9_code 104 = .ok (.if_icmp .ge 80, 3) := by decide +kernel
theorem d9_107 : decode prog_35_method_9_code 107 = .ok (.aload_n 0, 1) := by decide +kernel
theorem d9_108 : decode prog_35_method_9_code 108 = .ok (.getfield 7, 3) := by decide +kernel
theorem d9_111 : decode prog_35_method_9_code 111 = .ok (.iload 5, 2) := by decide +kernel
theorem d9_113 : decode prog_35_method_9_code 113 = .ok (.iaload, 1) := by decide +kernel
theorem d9_114 : decode prog_35_method_9_code 114 = .ok (.i2l, 1) := by decide +kernel
theorem d9_115 : decode prog_35_method_9_code 115 = .ok (.ldc2_w 93, 3) := by decide +kernel
theorem d9_118 : decode prog_35_method_9_code 118 = .ok (.land, 1) := by decide +kernel
theorem d9_119 : decode prog_35_method_9_code 119 = .ok (.lstore 6, 2) := by decide +kernel
theorem d9_121 : decode prog_35_method_9_code 121 = .ok (.lload 6, 2) := by decide +kernel
theorem d9_123 : decode prog_35_method_9_code 123 = .ok (.lload_n 1, 1) := by decide +kernel
theorem d9_124 : decode prog_35_method_9_code 124 = .ok (.lmul, 1) := by decide +kernel
theorem d9_125 : decode prog_35_method_9_code 125 = .ok (.lstore 8, 2) := by decide +kernel
theorem d9_127 : decode prog_35_method_9_code 127 = .ok (.lload 6, 2) := by decide +kernel
theorem d9_129 : decode prog_35_method_9_code 129 = .ok (.lload_n 1, 1) := by decide +kernel
theorem d9_130 : decode prog_35_method_9_code 130 = .ok (.invokestatic 95, 3) := by decide +kernel
theorem d9_133 : decode prog_35_method_9_code 133 = .ok (.lstore 10, 2) := by decide +kernel
theorem d9_135 : decode prog_35_method_9_code 135 = .ok (.lload 8, 2) := by decide +kernel
theorem d9_137 : decode prog_35_method_9_code 137 = .ok (.lload_n 3, 1) := by decide +kernel
theorem d9_138 : decode prog_35_method_9_code 138 = .ok (.ladd, 1) := by decide +kernel
theorem d9_139 : decode prog_35_method_9_code 139 = .ok (.lstore 8, 2) := by decide +kernel
theorem d9_141 : decode prog_35_method_9_code 141 = .ok (.lload 8, 2) := by decide +kernel
theorem d9_143 : decode prog_35_method_9_code 143 = .ok (.lload_n 3, 1) := by decide +kernel
theorem d9_144 : decode prog_35_method_9_code 144 = .ok (.invokestatic 62, 3) := by decide +kernel
theorem d9_147 : decode prog_35_method_9_code 147 = .ok (.ifCond .ge 9, 3) := by decide +kernel
theorem d9_150 : decode prog_35_method_9_code 150 = .ok (.lload 10, 2) := by decide +kernel
theorem d9_152 : decode prog_35_method_9_code 152 = .ok (.lconst 1, 1) := by decide +kernel
theorem d9_153 : decode prog_35_method_9_code 153 = .ok (.ladd, 1) := by decide +kernel
theorem d9_154 : decode prog_35_method_9_code 154 = .ok (.lstore 10, 2) := by decide +kernel
theorem d9_156 : decode prog_35_method_9_code 156 = .ok (.aload_n 0, 1) := by decide +kernel
theorem d9_157 : decode prog_35_method_9_code 157 = .ok (.getfield 7, 3) := by decide +kernel
theorem d9_160 : decode prog_35_method_9_code 160 = .ok (.iload 5, 2) := by decide +kernel
theorem d9_162 : decode prog_35_method_9_code 162 = .ok (.lload 8, 2) := by decide +kernel
theorem d9_164 : decode prog_35_method_9_code 164 = .ok (.l2i, 1) := by decide +kernel
theorem d9_165 : decode prog_35_method_9_code 165 = .ok (.iastore, 1) := by decide +kernel
theorem d9_166 : decode prog_35_method_9_code 166 = .ok (.lload 8, 2) := by decide +kernel
theorem d9_168 : decode prog_35_method_9_code 168 = .ok (.bipush 32, 2) := by decide +kernel
theorem d9_170 : decode prog_35_method_9_code 170 = .ok (.lushr, 1) := by decide +kernel
theorem d9_171 : decode prog_35_method_9_code 171 = .ok (.lload 10, 2) := by decide +kernel
theorem d9_173 : decode prog_35_method_9_code 173 = .ok (.bipush 32, 2) := by decide +kernel
theorem d9_175 : decode prog_35_method_9_code 175 = .ok (.lshl, 1) := by decide +kernel
theorem d9_176 : decode prog_35_method_9_code 176 = .ok (.lor, 1) := by decide +kernel
theorem d9_177 : decode prog_35_method_9_code 177 = .ok (.lstore_n 3, 1) := by decide +kernel
theorem d9_178 : decode prog_35_method_9_code 178 = .ok (.iinc 5 1, 3) := by decide +kernel
theorem d9_181 : decode prog_35_method_9_code 181 = .ok (.goto (-83), 3) := by decide +kernel
theorem d9_184 : decode prog_35_method_9_code 184 = .ok (.aload_n 0, 1) := by decide +kernel
theorem d9_185 : decode prog_35_method_9_code 185 = .ok (.getfield 7, 3) := by decide +kernel
theorem d9_188 : decode prog_35_method_9_code 188 = .ok (.aload_n 0, 1) := by decide +kernel
theorem d9_189 : decode prog_35_method_9_code 189 = .ok (.getfield 23, 3) := by decide +kernel
theorem d9_192 : decode prog_35_method_9_code 192 = .ok (.lload_n 3, 1) := by decide +kernel
theorem d9_193 : decode prog_35_method_9_code 193 = .ok (.l2i, 1) := by decide +kernel
theorem d9_194 : decode prog_35_method_9_code 194 = .ok (.iastore, 1) := by decide +kernel
theorem d9_195 : decode prog_35_method_9_code 195 = .ok (.aload_n 0, 1) := by decide +kernel
theorem d9_196 : decode prog_35_method_9_code 196 = .ok (.getfield 7, 3) := by decide +kernel
theorem d9_199 : decode prog_35_method_9_code 199 = .ok (.aload_n 0, 1) := by decide +kernel
theorem d9_200 : decode prog_35_method_9_code 200 = .ok (.getfield 23, 3) := by decide +kernel
theorem d9_203 : decode prog_35_method_9_code 203 = .ok (.iconst 1, 1) := by decide +kernel
theorem d9_204 : decode prog_35_method_9_code 204 = .ok (.iadd, 1) := by decide +kernel
theorem d9_205 : decode prog_35_method_9_code 205 = .ok (.lload_n 3, 1) := by decide +kernel
theorem d9_206 : decode prog_35_method_9_code 206 = .ok (.bipush 32, 2) := by decide +kernel
theorem d9_208 : decode prog_35_method_9_code 208 = .ok (.lushr, 1) := by decide +kernel
theorem d9_209 : decode prog_35_method_9_code 209 = .ok (.l2i, 1) := by decide +kernel
theorem d9_210 : decode prog_35_method_9_code 210 = .ok (.iastore, 1) := by decide +kernel
theorem d9_211 : decode prog_35_method_9_code 211 = .ok (.aload_n 0, 1) := by decide +kernel
theorem d9_212 : decode prog_35_method_9_code 212 = .ok (.dup, 1) := by decide +kernel
theorem d9_213 : decode prog_35_method_9_code 213 = .ok (.getfield 23, 3) := by decide +kernel
theorem d9_216 : decode prog_35_method_9_code 216 = .ok (.iconst 2, 1) := by decide +kernel
theorem d9_217 : decode prog_35_method_9_code 217 = .ok (.iadd, 1) := by decide +kernel
theorem d9_218 : decode prog_35_method_9_code 218 = .ok (.putfield 23, 3) := by decide +kernel
theorem d9_221 : decode prog_35_method_9_code 221 = .ok (.aload_n 0, 1) := by decide +kernel
theorem d9_222 : decode prog_35_method_9_code 222 = .ok (.invokevirtual 31, 3) := by decide +kernel
theorem d9_225 : decode prog_35_method_9_code 225 = .ok (.return_, 1) := by decide +kernel
def rm_9n0 : Room := ({ frames := 1, cells := 0, slots := 0, locals := 14 } : Room)
theorem pn_9 : plainFor (⟨"com/example/krofusmidur/krofusmidur/amounts/MutableInteger", "multiply", "(J)V"⟩ : MethodName) = true := plainFor_of_name (by first | (simp [plainName, overriddenIn]; done) | (simp [plainName, overriddenIn, x]; done) | decide +kernel)
theorem ef_9n0 (r0 : Addr) (q1 : Int64) (m : MethodId) : entryFrame m #[(.ref r0), (.long q1)] 12 = mkF m 0 #[.val (.ref r0), .val (.long q1), .second, .unset, .unset, .unset, .unset, .unset, .unset, .unset, .unset, .unset] [] := by first | (simp [entryFrame, mkF, argsToLocals, Value.category]; done) | rfl
set_option maxRecDepth 65536 in
set_option maxHeartbeats 40000000 in
theorem ct_9n0 (l : Launch) (Z : State) (a0 : Array Value) (hw : ∀ d ∈ tables_1, d.before a0 Z = true) (r0 : Addr) (q1 : Int64) (dg : Addr) (ng : Int32) (x0 : Int32) (x1 : Int32) (h0 : Heap) (n0 : Nat) (hn : n0 ≤ h0.size) (E_r0 : Exa Z h0 r0 "com/example/krofusmidur/krofusmidur/amounts/MutableInteger") (F_digits_r0 : Fld Z h0 r0 "com/example/krofusmidur/krofusmidur/amounts/MutableInteger" "digits" "[I" (.ref dg)) (F_length_r0 : Fld Z h0 r0 "com/example/krofusmidur/krofusmidur/amounts/MutableInteger" "length" "I" (.int (0 : Int32))) (F_negative_r0 : Fld Z h0 r0 "com/example/krofusmidur/krofusmidur/amounts/MutableInteger" "negative" "Z" (.int ng)) (A_dg : IA Z h0 dg .int ([x0, x1, 0, 0])) (g_r0 : n0 ≤ r0) (g_dg : n0 ≤ dg) (ne_r0_dg : r0 ≠ dg) (hf0 : 0 ≤ q1.toInt) : Ct l (⟨"com/example/krofusmidur/krofusmidur/amounts/MutableInteger", "multiply", "(J)V"⟩ : MethodName) prog_35_method_9_code 12 none [] rm_9n0 Z h0 n0 #[(.ref r0), (.long q1)] (Q_9n0 Z r0 q1 dg ng x0 x1 h0 n0) := by
  refine o_body pn_9 hn (ef_9n0 r0 q1) ?_
  intro p e s m below meth c T S
  have K : Keep h0 h0 [r0, dg] := Keep.refl _ _
  refine o_lloadN S rfl d9_0 rfl (q := 1) ?_
  refine o_lconst S (z := 0) rfl d9_1 rfl (q := 2) ?_
  refine o_lcmp S d9_2 rfl (q := 3) ?_
  refine o_if S d9_3 (by decide) (q' := 20) (by decide) (q := 6) rfl (hl_ge (a := q1.toInt) (b := 0) rfl rfl).1 (hl_ge (a := q1.toInt) (b := 0) rfl rfl).2 (fun hc3 => ?_) (fun hc3 => ?_)
  · skip
    refine o_aloadN S rfl rfl d9_20 rfl (q := 21) ?_
    refine o_aloadN S rfl rfl d9_21 rfl (q := 22) ?_
    refine o_getF S (o_wd (i := 25) hw rfl) Via.refl F_length_r0 d9_22 rfl (q := 25) (fun T S => ?_)
    refine o_iconst S (z := 2) rfl d9_25 rfl (q := 26) ?_
    refine o_iadd S d9_26 rfl (q := 27) ?_
    refine o_callP0 S (W := 0) (argsL := [(.int ((0 : Int32) + (2 : Int32)))]) (rest := []) (a := r0) (o_wd (i := 48) hw rfl) (o_wd (i := 49) hw rfl) (o_selP (o_wd (i := 1) hw rfl) (o_wd (i := 50) hw rfl) (o_wd (i := 49) hw rfl) (by decide)) (o_wd (i := 50) hw rfl) (o_wd (i := 2) hw rfl) (o_wd (i := 51) hw rfl) (by decide) E_r0 (ct_10 l Z a0 hw r0 ((0 : Int32) + (2 : Int32)) dg ([x0, x1, 0, 0]) h0 n0 (o_n0 S) E_r0 F_digits_r0 A_dg rfl (by decide)) (by decide) (by decide) rfl rfl pd_1 rfl (Nat.le_of_eq rfl) d9_27 rfl (q := 30) (by decide) (by decide) rfl (st' := []) (fun T S => ?_)
    refine o_lconst S (z := 0) rfl d9_30 rfl (q := 31) ?_
    refine o_lstoreN S (L' := #[.val (.ref r0), .val (.long q1), .second, .val (.long (0 : Int64)), .second, .unset, .unset, .unset, .unset, .unset, .unset, .unset]) rfl d9_31 rfl (q := 32) ?_
    refine o_lloadN S rfl d9_32 rfl (q := 33) ?_
    refine o_ldc2 S (o_wd (i := 52) hw rfl) d9_33 rfl (q := 36) ?_
    refine o_lcmp S d9_36 rfl (q := 37) ?_
    refine o_if S d9_37 (by decide) (q' := 95) (by decide) (q := 40) rfl (hl_gt (a := q1.toInt) (b := 4294967295) rfl rfl).1 (hl_gt (a := q1.toInt) (b := 4294967295) rfl rfl).2 (fun hc37 => ?_) (fun hc37 => ?_)
    · skip
      refine o_iconst S (z := 0) rfl d9_95 rfl (q := 96) ?_
      refine o_istore S (L' := #[.val (.ref r0), .val (.long q1), .second, .val (.long (0 : Int64)), .second, .val (.int (0 : Int32)), .unset, .unset, .unset, .unset, .unset, .unset]) rfl d9_96 rfl (q := 98) ?_
      refine o_iload S rfl d9_98 rfl (q := 100) ?_
      refine o_aloadN S rfl rfl d9_100 rfl (q := 101) ?_
      refine o_getF S (o_wd (i := 25) hw rfl) Via.refl F_length_r0 d9_101 rfl (q := 104) (fun T S => ?_)
      refine o_icmp S d9_104 (by decide) (q' := 184) (by decide) (q := 107) rfl (hs_ge (a := 0) (b := 0) rfl rfl).1 (hs_ge (a := 0) (b := 0) rfl rfl).2 (fun hc104 => ?_) (fun hc104 => ?_)
      · skip
        refine o_aloadN S rfl rfl d9_184 rfl (q := 185) ?_
        refine o_getF S (o_wd (i := 10) hw rfl) Via.refl F_digits_r0 d9_185 rfl (q := 188) (fun T S => ?_)
        refine o_aloadN S rfl rfl d9_188 rfl (q := 189) ?_
        refine o_getF S (o_wd (i := 25) hw rfl) Via.refl F_length_r0 d9_189 rfl (q := 192) (fun T S => ?_)
        refine o_lloadN S rfl d9_192 rfl (q := 193) ?_
        refine o_l2i S d9_193 rfl (q := 194) ?_
        refine o_iastore S (y := ((0 : Int64).toInt32)) (ys := [((0 : Int64).toInt32), x1, 0, 0]) A_dg (by decide) (by show (0 : Int) < 4; decide) g_dg rfl rfl d9_194 rfl (q := 195) (fun T h1 S W A_dg => ?_)
        have E_r0 := Exa.wr W E_r0
        have F_digits_r0 := Fld.other W F_digits_r0 (Or.inl ne_r0_dg)
        have F_length_r0 := Fld.other W F_length_r0 (Or.inl ne_r0_dg)
        have F_negative_r0 := Fld.other W F_negative_r0 (Or.inl ne_r0_dg)
        have K := K.wr W (Or.inl (List.mem_of_getElem? (i := 1) rfl))
        refine o_aloadN S rfl rfl d9_195 rfl (q := 196) ?_
        refine o_getF S (o_wd (i := 10) hw rfl) Via.refl F_digits_r0 d9_196 rfl (q := 199) (fun T S => ?_)
        refine o_aloadN S rfl rfl d9_199 rfl (q := 200) ?_
        refine o_getF S (o_wd (i := 25) hw rfl) Via.refl F_length_r0 d9_200 rfl (q := 203) (fun T S => ?_)
        refine o_iconst S (z := 1) rfl d9_203 rfl (q := 204) ?_
        refine o_iadd S d9_204 rfl (q := 205) ?_
        refine o_lloadN S rfl d9_205 rfl (q := 206) ?_
        refine o_bipush S (z := 32) rfl d9_206 rfl (q := 208) ?_
        refine o_lushr S d9_208 rfl (q := 209) ?_
        refine o_l2i S d9_209 rfl (q := 210) ?_
        refine o_iastore S (y := ((((0 : Int64).toUInt64 >>> ((32 : Int32) &&& 0x3f).toInt64.toUInt64).toInt64).toInt32)) (ys := [((0 : Int64).toInt32), ((((0 : Int64).toUInt64 >>> ((32 : Int32) &&& 0x3f).toInt64.toUInt64).toInt64).toInt32), 0, 0]) A_dg (by decide) (by show (1 : Int) < 4; decide) g_dg rfl rfl d9_210 rfl (q := 211) (fun T h2 S W A_dg => ?_)
        have E_r0 := Exa.wr W E_r0
        have F_digits_r0 := Fld.other W F_digits_r0 (Or.inl ne_r0_dg)
        have F_length_r0 := Fld.other W F_length_r0 (Or.inl ne_r0_dg)
        have F_negative_r0 := Fld.other W F_negative_r0 (Or.inl ne_r0_dg)
        have K := K.wr W (Or.inl (List.mem_of_getElem? (i := 1) rfl))
        refine o_aloadN S rfl rfl d9_211 rfl (q := 212) ?_
        refine o_dup S rfl d9_212 rfl (q := 213) ?_
        refine o_getF S (o_wd (i := 25) hw rfl) Via.refl F_length_r0 d9_213 rfl (q := 216) (fun T S => ?_)
        refine o_iconst S (z := 2) rfl d9_216 rfl (q := 217) ?_
        refine o_iadd S d9_217 rfl (q := 218) ?_
        refine o_putF S (o_wd (i := 25) hw rfl) Via.refl F_length_r0 E_r0 (Or.inl (o_wd (i := 26) hw rfl)) (o_wd (i := 1) hw rfl) (ty := .int) (by decide) rfl rfl g_r0 d9_218 rfl (q := 221) (fun T h3 S W F_length_r0 => ?_)
        have E_r0 := E_r0.wr W
        have F_digits_r0 := Fld.other W F_digits_r0 (Or.inr (slot_ne (Or.inl (o_wd (i := 11) hw rfl)) (Or.inl (o_wd (i := 26) hw rfl)) (by decide) (t := (.array .int)) (t' := .int) (by decide) (by decide)))
        have F_negative_r0 := Fld.other W F_negative_r0 (Or.inr (slot_ne (Or.inl (o_wd (i := 28) hw rfl)) (Or.inl (o_wd (i := 26) hw rfl)) (by decide) (t := .boolean) (t' := .int) (by decide) (by decide)))
        have A_dg := A_dg.other W (Ne.symm ne_r0_dg)
        have K := K.wr W (Or.inl (List.mem_of_getElem? (i := 0) rfl))
        refine o_aloadN S rfl rfl d9_221 rfl (q := 222) ?_
        refine o_callP S (W := 0) (argsL := []) (rest := []) (a := r0) (o_wd (i := 29) hw rfl) (o_wd (i := 30) hw rfl) (o_selP (o_wd (i := 1) hw rfl) (o_wd (i := 31) hw rfl) (o_wd (i := 30) hw rfl) (by decide)) (o_wd (i := 31) hw rfl) (o_wd (i := 2) hw rfl) (o_wd (i := 32) hw rfl) (by decide) E_r0 (ct_6 l Z a0 hw r0 dg ((0 : Int32) + (2 : Int32)) ng ([((0 : Int64).toInt32), ((((0 : Int64).toUInt64 >>> ((32 : Int32) &&& 0x3f).toInt64.toUInt64).toInt64).toInt32), 0, 0]) 2 h3 n0 (o_n0 S) E_r0 F_digits_r0 F_length_r0 F_negative_r0 A_dg g_r0 ne_r0_dg rfl (by show 2 ≤ 4; decide)) (by decide) (by decide) rfl rfl pd_2 rfl (Nat.le_of_eq rfl) d9_222 rfl (q := 225) (by decide) (by decide) (fun T h4 rr5 S hQ => ?_)
        obtain ⟨hv, K1, E_r0', F_digits_r0', F_length_r0', F_negative_r0'⟩ := hQ
        subst hv
        have A_dg := A_dg.keep K1 (ninS (Ne.symm ne_r0_dg) nin0)
        have K := K.trans K1 (allS (Or.inl (List.mem_of_getElem? (i := 0) rfl)) all0)
        have E_r0 := E_r0'
        have F_digits_r0 := F_digits_r0'
        have F_length_r0 := F_length_r0'
        have F_negative_r0 := F_negative_r0'
        show Wp p e below (Po s n0 rm_9n0 (Q_9n0 Z r0 q1 dg ng x0 x1 h0 n0)) T (mkF m 225 #[.val (.ref r0), .val (.long q1), .second, .val (.long (0 : Int64)), .second, .val (.int (0 : Int32)), .unset, .unset, .unset, .unset, .unset, .unset] [])
        refine o_retV S rfl d9_225 (by decide) (by decide) ?_
        exact ⟨[((0 : Int64).toInt32), ((((0 : Int64).toUInt64 >>> ((32 : Int32) &&& 0x3f).toInt64.toUInt64).toInt64).toInt32), 0, 0], rfl, K, E_r0, F_digits_r0, F_length_r0, F_negative_r0, A_dg, rfl, mz_0 ⟩
      · exact absurd hc104 (by decide)
    · skip
      refine o_iconst S (z := 0) rfl d9_40 rfl (q := 41) ?_
      refine o_istore S (L' := #[.val (.ref r0), .val (.long q1), .second, .val (.long (0 : Int64)), .second, .val (.int (0 : Int32)), .unset, .unset, .unset, .unset, .unset, .unset]) rfl d9_41 rfl (q := 43) ?_
      refine o_iload S rfl d9_43 rfl (q := 45) ?_
      refine o_aloadN S rfl rfl d9_45 rfl (q := 46) ?_
      refine o_getF S (o_wd (i := 25) hw rfl) Via.refl F_length_r0 d9_46 rfl (q := 49) (fun T S => ?_)
      refine o_icmp S d9_49 (by decide) (q' := 92) (by decide) (q := 52) rfl (hs_ge (a := 0) (b := 0) rfl rfl).1 (hs_ge (a := 0) (b := 0) rfl rfl).2 (fun hc49 => ?_) (fun hc49 => ?_)
      · skip
        refine o_goto S d9_92 (by decide) (q := 184) (by decide) ?_
        refine o_aloadN S rfl rfl d9_184 rfl (q := 185) ?_
        refine o_getF S (o_wd (i := 10) hw rfl) Via.refl F_digits_r0 d9_185 rfl (q := 188) (fun T S => ?_)
        refine o_aloadN S rfl rfl d9_188 rfl (q := 189) ?_
        refine o_getF S (o_wd (i := 25) hw rfl) Via.refl F_length_r0 d9_189 rfl (q := 192) (fun T S => ?_)
        refine o_lloadN S rfl d9_192 rfl (q := 193) ?_
        refine o_l2i S d9_193 rfl (q := 194) ?_
        refine o_iastore S (y := ((0 : Int64).toInt32)) (ys := [((0 : Int64).toInt32), x1, 0, 0]) A_dg (by decide) (by show (0 : Int) < 4; decide) g_dg rfl rfl d9_194 rfl (q := 195) (fun T h6 S W A_dg => ?_)
        have E_r0 := Exa.wr W E_r0
        have F_digits_r0 := Fld.other W F_digits_r0 (Or.inl ne_r0_dg)
        have F_length_r0 := Fld.other W F_length_r0 (Or.inl ne_r0_dg)
        have F_negative_r0 := Fld.other W F_negative_r0 (Or.inl ne_r0_dg)
        have K := K.wr W (Or.inl (List.mem_of_getElem? (i := 1) rfl))
        refine o_aloadN S rfl rfl d9_195 rfl (q := 196) ?_
        refine o_getF S (o_wd (i := 10) hw rfl) Via.refl F_digits_r0 d9_196 rfl (q := 199) (fun T S => ?_)
        refine o_aloadN S rfl rfl d9_199 rfl (q := 200) ?_
        refine o_getF S (o_wd (i := 25) hw rfl) Via.refl F_length_r0 d9_200 rfl (q := 203) (fun T S => ?_)
        refine o_iconst S (z := 1) rfl d9_203 rfl (q := 204) ?_
        refine o_iadd S d9_204 rfl (q := 205) ?_
        refine o_lloadN S rfl d9_205 rfl (q := 206) ?_
        refine o_bipush S (z := 32) rfl d9_206 rfl (q := 208) ?_
        refine o_lushr S d9_208 rfl (q := 209) ?_
        refine o_l2i S d9_209 rfl (q := 210) ?_
        refine o_iastore S (y := ((((0 : Int64).toUInt64 >>> ((32 : Int32) &&& 0x3f).toInt64.toUInt64).toInt64).toInt32)) (ys := [((0 : Int64).toInt32), ((((0 : Int64).toUInt64 >>> ((32 : Int32) &&& 0x3f).toInt64.toUInt64).toInt64).toInt32), 0, 0]) A_dg (by decide) (by show (1 : Int) < 4; decide) g_dg rfl rfl d9_210 rfl (q := 211) (fun T h7 S W A_dg => ?_)
        have E_r0 := Exa.wr W E_r0
        have F_digits_r0 := Fld.other W F_digits_r0 (Or.inl ne_r0_dg)
        have F_length_r0 := Fld.other W F_length_r0 (Or.inl ne_r0_dg)
        have F_negative_r0 := Fld.other W F_negative_r0 (Or.inl ne_r0_dg)
        have K := K.wr W (Or.inl (List.mem_of_getElem? (i := 1) rfl))
        refine o_aloadN S rfl rfl d9_211 rfl (q := 212) ?_
        refine o_dup S rfl d9_212 rfl (q := 213) ?_
        refine o_getF S (o_wd (i := 25) hw rfl) Via.refl F_length_r0 d9_213 rfl (q := 216) (fun T S => ?_)
        refine o_iconst S (z := 2) rfl d9_216 rfl (q := 217) ?_
        refine o_iadd S d9_217 rfl (q := 218) ?_
        refine o_putF S (o_wd (i := 25) hw rfl) Via.refl F_length_r0 E_r0 (Or.inl (o_wd (i := 26) hw rfl)) (o_wd (i := 1) hw rfl) (ty := .int) (by decide) rfl rfl g_r0 d9_218 rfl (q := 221) (fun T h8 S W F_length_r0 => ?_)
        have E_r0 := E_r0.wr W
        have F_digits_r0 := Fld.other W F_digits_r0 (Or.inr (slot_ne (Or.inl (o_wd (i := 11) hw rfl)) (Or.inl (o_wd (i := 26) hw rfl)) (by decide) (t := (.array .int)) (t' := .int) (by decide) (by decide)))
        have F_negative_r0 := Fld.other W F_negative_r0 (Or.inr (slot_ne (Or.inl (o_wd (i := 28) hw rfl)) (Or.inl (o_wd (i := 26) hw rfl)) (by decide) (t := .boolean) (t' := .int) (by decide) (by decide)))
        have A_dg := A_dg.other W (Ne.symm ne_r0_dg)
        have K := K.wr W (Or.inl (List.mem_of_getElem? (i := 0) rfl))
        refine o_aloadN S rfl rfl d9_221 rfl (q := 222) ?_
        refine o_callP S (W := 0) (argsL := []) (rest := []) (a := r0) (o_wd (i := 29) hw rfl) (o_wd (i := 30) hw rfl) (o_selP (o_wd (i := 1) hw rfl) (o_wd (i := 31) hw rfl) (o_wd (i := 30) hw rfl) (by decide)) (o_wd (i := 31) hw rfl) (o_wd (i := 2) hw rfl) (o_wd (i := 32) hw rfl) (by decide) E_r0 (ct_6 l Z a0 hw r0 dg ((0 : Int32) + (2 : Int32)) ng ([((0 : Int64).toInt32), ((((0 : Int64).toUInt64 >>> ((32 : Int32) &&& 0x3f).toInt64.toUInt64).toInt64).toInt32), 0, 0]) 2 h8 n0 (o_n0 S) E_r0 F_digits_r0 F_length_r0 F_negative_r0 A_dg g_r0 ne_r0_dg rfl (by show 2 ≤ 4; decide)) (by decide) (by decide) rfl rfl pd_2 rfl (Nat.le_of_eq rfl) d9_222 rfl (q := 225) (by decide) (by decide) (fun T h9 rr10 S hQ => ?_)
        obtain ⟨hv, K1, E_r0', F_digits_r0', F_length_r0', F_negative_r0'⟩ := hQ
        subst hv
        have A_dg := A_dg.keep K1 (ninS (Ne.symm ne_r0_dg) nin0)
        have K := K.trans K1 (allS (Or.inl (List.mem_of_getElem? (i := 0) rfl)) all0)
        have E_r0 := E_r0'
        have F_digits_r0 := F_digits_r0'
        have F_length_r0 := F_length_r0'
        have F_negative_r0 := F_negative_r0'
        show Wp p e below (Po s n0 rm_9n0 (Q_9n0 Z r0 q1 dg ng x0 x1 h0 n0)) T (mkF m 225 #[.val (.ref r0), .val (.long q1), .second, .val (.long (0 : Int64)), .second, .val (.int (0 : Int32)), .unset, .unset, .unset, .unset, .unset, .unset] [])
        refine o_retV S rfl d9_225 (by decide) (by decide) ?_
        exact ⟨[((0 : Int64).toInt32), ((((0 : Int64).toUInt64 >>> ((32 : Int32) &&& 0x3f).toInt64.toUInt64).toInt64).toInt32), 0, 0], rfl, K, E_r0, F_digits_r0, F_length_r0, F_negative_r0, A_dg, rfl, mz_0 ⟩
      · exact absurd hc49 (by decide)
  · exact absurd hf0 hc3
def Q_9n1 (Z : State) (r0 : Addr) (q1 : Int64) (dg : Addr) (ng : Int32) (x0 : Int32) (x1 : Int32) (h0 : Heap) (n0 : Nat) : Option Value → Heap → Prop := fun v h => ∃ ys : List Int32, v = none ∧ Keep h0 h [r0, dg] ∧ Exa Z h r0 "com/example/krofusmidur/krofusmidur/amounts/MutableInteger" ∧ Fld Z h r0 "com/example/krofusmidur/krofusmidur/amounts/MutableInteger" "digits" "[I" (.ref dg) ∧ Fld Z h r0 "com/example/krofusmidur/krofusmidur/amounts/MutableInteger" "length" "I" (.int (Int32.ofNat (trm ys 3))) ∧ Fld Z h r0 "com/example/krofusmidur/krofusmidur/amounts/MutableInteger" "negative" "Z" (.int (if trm ys 3 = 0 then (0 : Int32) else ng)) ∧ IA Z h dg .int (ys) ∧ ys.length = 4 ∧ (trm ys 3 = 0 ↔ q1 = 0)
theorem pd_5 : parseMethodDescriptor "(JJ)J" = some ⟨[.long, .long], some .long⟩ := by decide +kernel
def rm_9n1 : Room := ({ frames := 2, cells := 0, slots := 0, locals := 31 } : Room)
theorem ef_9n1 (r0 : Addr) (q1 : Int64) (m : MethodId) : entryFrame m #[(.ref r0), (.long q1)] 12 = mkF m 0 #[.val (.ref r0), .val (.long q1), .second, .unset, .unset, .unset, .unset, .unset, .unset, .unset, .unset, .unset] [] := by first | (simp [entryFrame, mkF, argsToLocals, Value.category]; done) | rfl
set_option maxRecDepth 65536 in
set_option maxHeartbeats 40000000 in
theorem ct_9n1 (l : Launch) (Z : State) (a0 : Array Value) (hw : ∀ d ∈ tables_1, d.before a0 Z = true) (r0 : Addr) (q1 : Int64) (dg : Addr) (ng : Int32) (x0 : Int32) (x1 : Int32) (h0 : Heap) (n0 : Nat) (hn : n0 ≤ h0.size) (E_r0 : Exa Z h0 r0 "com/example/krofusmidur/krofusmidur/amounts/MutableInteger") (F_digits_r0 : Fld Z h0 r0 "com/example/krofusmidur/krofusmidur/amounts/MutableInteger" "digits" "[I" (.ref dg)) (F_length_r0 : Fld Z h0 r0 "com/example/krofusmidur/krofusmidur/amounts/MutableInteger" "length" "I" (.int (1 : Int32))) (F_negative_r0 : Fld Z h0 r0 "com/example/krofusmidur/krofusmidur/amounts/MutableInteger" "negative" "Z" (.int ng)) (A_dg : IA Z h0 dg .int ([x0, x1, 0, 0])) (g_r0 : n0 ≤ r0) (g_dg : n0 ≤ dg) (ne_r0_dg : r0 ≠ dg) (hf0 : 0 ≤ q1.toInt) (hx0 : ¬ x0 = 0) : Ct l (⟨"com/example/krofusmidur/krofusmidur/amounts/MutableInteger", "multiply", "(J)V"⟩ : MethodName) prog_35_method_9_code 12 none [] rm_9n1 Z h0 n0 #[(.ref r0), (.long q1)] (Q_9n1 Z r0 q1 dg ng x0 x1 h0 n0) := by
  refine o_body pn_9 hn (ef_9n1 r0 q1) ?_
  intro p e s m below meth c T S
  have K : Keep h0 h0 [r0, dg] := Keep.refl _ _
  refine o_lloadN S rfl d9_0 rfl (q := 1) ?_
  refine o_lconst S (z := 0) rfl d9_1 rfl (q := 2) ?_
  refine o_lcmp S d9_2 rfl (q := 3) ?_
  refine o_if S d9_3 (by decide) (q' := 20) (by decide) (q := 6) rfl (hl_ge (a := q1.toInt) (b := 0) rfl rfl).1 (hl_ge (a := q1.toInt) (b := 0) rfl rfl).2 (fun hc3 => ?_) (fun hc3 => ?_)
  · skip
    refine o_aloadN S rfl rfl d9_20 rfl (q := 21) ?_
    refine o_aloadN S rfl rfl d9_21 rfl (q := 22) ?_
    refine o_getF S (o_wd (i := 25) hw rfl) Via.refl F_length_r0 d9_22 rfl (q := 25) (fun T S => ?_)
    refine o_iconst S (z := 2) rfl d9_25 rfl (q := 26) ?_
    refine o_iadd S d9_26 rfl (q := 27) ?_
    refine o_callP0 S (W := 0) (argsL := [(.int ((1 : Int32) + (2 : Int32)))]) (rest := []) (a := r0) (o_wd (i := 48) hw rfl) (o_wd (i := 49) hw rfl) (o_selP (o_wd (i := 1) hw rfl) (o_wd (i := 50) hw rfl) (o_wd (i := 49) hw rfl) (by decide)) (o_wd (i := 50) hw rfl) (o_wd (i := 2) hw rfl) (o_wd (i := 51) hw rfl) (by decide) E_r0 (ct_10 l Z a0 hw r0 ((1 : Int32) + (2 : Int32)) dg ([x0, x1, 0, 0]) h0 n0 (o_n0 S) E_r0 F_digits_r0 A_dg rfl (by decide)) (by decide) (by decide) rfl rfl pd_1 rfl (Nat.le_of_eq rfl) d9_27 rfl (q := 30) (by decide) (by decide) rfl (st' := []) (fun T S => ?_)
    refine o_lconst S (z := 0) rfl d9_30 rfl (q := 31) ?_
    refine o_lstoreN S (L' := #[.val (.ref r0), .val (.long q1), .second, .val (.long (0 : Int64)), .second, .unset, .unset, .unset, .unset, .unset, .unset, .unset]) rfl d9_31 rfl (q := 32) ?_
    refine o_lloadN S rfl d9_32 rfl (q := 33) ?_
    refine o_ldc2 S (o_wd (i := 52) hw rfl) d9_33 rfl (q := 36) ?_
    refine o_lcmp S d9_36 rfl (q := 37) ?_
    refine o_if S d9_37 (by decide) (q' := 95) (by decide) (q := 40) rfl (hl_gt (a := q1.toInt) (b := 4294967295) rfl rfl).1 (hl_gt (a := q1.toInt) (b := 4294967295) rfl rfl).2 (fun hc37 => ?_) (fun hc37 => ?_)
    · skip
      refine o_iconst S (z := 0) rfl d9_95 rfl (q := 96) ?_
      refine o_istore S (L' := #[.val (.ref r0), .val (.long q1), .second, .val (.long (0 : Int64)), .second, .val (.int (0 : Int32)), .unset, .unset, .unset, .unset, .unset, .unset]) rfl d9_96 rfl (q := 98) ?_
      refine o_iload S rfl d9_98 rfl (q := 100) ?_
      refine o_aloadN S rfl rfl d9_100 rfl (q := 101) ?_
      refine o_getF S (o_wd (i := 25) hw rfl) Via.refl F_length_r0 d9_101 rfl (q := 104) (fun T S => ?_)
      refine o_icmp S d9_104 (by decide) (q' := 184) (by decide) (q := 107) rfl (hs_ge (a := 0) (b := 1) rfl rfl).1 (hs_ge (a := 0) (b := 1) rfl rfl).2 (fun hc104 => ?_) (fun hc104 => ?_)
      · exact absurd hc104 (by decide)
      · skip
        refine o_aloadN S rfl rfl d9_107 rfl (q := 108) ?_
        refine o_getF S (o_wd (i := 10) hw rfl) Via.refl F_digits_r0 d9_108 rfl (q := 111) (fun T S => ?_)
        refine o_iload S rfl d9_111 rfl (q := 113) ?_
        refine o_iaload S A_dg (by decide) (by show (0 : Int) < 4; decide) (v := x0) rfl d9_113 rfl (q := 114) ?_
        refine o_i2l S d9_114 rfl (q := 115) ?_
        refine o_ldc2 S (o_wd (i := 52) hw rfl) d9_115 rfl (q := 118) ?_
        refine o_land S d9_118 rfl (q := 119) ?_
        refine o_lstoreV S (L' := fun v1 => #[.val (.ref r0), .val (.long q1), .second, .val (.long (0 : Int64)), .second, .val (.int (0 : Int32)), .val (.long v1), .second, .unset, .unset, .unset, .unset]) (fun _ => rfl) d9_119 rfl (q := 121) (fun v1 hv1 => ?_)
        refine o_lload S rfl d9_121 rfl (q := 123) ?_
        refine o_lloadN S rfl d9_123 rfl (q := 124) ?_
        refine o_lmul S d9_124 rfl (q := 125) ?_
        refine o_lstoreV S (L' := fun v2 => #[.val (.ref r0), .val (.long q1), .second, .val (.long (0 : Int64)), .second, .val (.int (0 : Int32)), .val (.long v1), .second, .val (.long v2), .second, .unset, .unset]) (fun _ => rfl) d9_125 rfl (q := 127) (fun v2 hv2 => ?_)
        refine o_lload S rfl d9_127 rfl (q := 129) ?_
        refine o_lloadN S rfl d9_129 rfl (q := 130) ?_
        refine o_callS0 S (W := 0) (argsL := [(.long v1), (.long q1)]) (rest := []) (o_wd (i := 91) hw rfl) (o_wd (i := 92) hw rfl) (o_wd (i := 19) hw rfl) (o_wd (i := 93) hw rfl) (by decide) (ct_19 l Z a0 hw v1 q1 h0 n0 (o_n0 S)) (by decide) (by decide) rfl rfl pd_5 rfl (Nat.le_of_eq rfl) d9_130 rfl (q := 133) (by decide) (by decide) rfl (st' := [(.long (f_mh v1 q1))]) (fun T S => ?_)
        refine o_lstoreV S (L' := fun v3 => #[.val (.ref r0), .val (.long q1), .second, .val (.long (0 : Int64)), .second, .val (.int (0 : Int32)), .val (.long v1), .second, .val (.long v2), .second, .val (.long v3), .second]) (fun _ => rfl) d9_133 rfl (q := 135) (fun v3 hv3 => ?_)
        refine o_lload S rfl d9_135 rfl (q := 137) ?_
        refine o_lloadN S rfl d9_137 rfl (q := 138) ?_
        refine o_ladd S d9_138 rfl (q := 139) ?_
        refine o_lstoreV S (L' := fun v4 => #[.val (.ref r0), .val (.long q1), .second, .val (.long (0 : Int64)), .second, .val (.int (0 : Int32)), .val (.long v1), .second, .val (.long v4), .second, .val (.long v3), .second]) (fun _ => rfl) d9_139 rfl (q := 141) (fun v4 hv4 => ?_)
        refine o_lload S rfl d9_141 rfl (q := 143) ?_
        refine o_lloadN S rfl d9_143 rfl (q := 144) ?_
        refine o_callS0 S (W := 0) (argsL := [(.long v4), (.long (0 : Int64))]) (rest := []) (o_wd (i := 95) hw rfl) (o_wd (i := 96) hw rfl) (o_wd (i := 97) hw rfl) (o_wd (i := 98) hw rfl) (by decide) (ct_20 l Z a0 hw v4 (0 : Int64) h0 n0 (o_n0 S)) (by decide) (by decide) rfl rfl pd_3 rfl (Nat.le_of_eq rfl) d9_144 rfl (q := 147) (by decide) (by decide) rfl (st' := [(.int (f_lcu v4 (0 : Int64)))]) (fun T S => ?_)
        refine o_cutS S (G := fun T => ∀ (v5 : Int64), v5 = (if 0 ≤ (f_lcu v4 (0 : Int64)).toInt then v3 else (v3 + (1 : Int64))) → Wp p e below (Po s n0 rm_9n1 (Q_9n1 Z r0 q1 dg ng x0 x1 h0 n0)) T (mkF m 156 #[.val (.ref r0), .val (.long q1), .second, .val (.long (0 : Int64)), .second, .val (.int (0 : Int32)), .val (.long v1), .second, .val (.long v4), .second, .val (.long v5), .second] [])) (fun k147 => ?_) (fun T S v5 hv5 => ?_)
        · skip
          refine o_if S d9_147 (by decide) (q' := 156) (by decide) (q := 150) rfl (hs_ge (a := (f_lcu v4 (0 : Int64)).toInt) (b := 0) rfl rfl).1 (hs_ge (a := (f_lcu v4 (0 : Int64)).toInt) (b := 0) rfl rfl).2 (fun hc147 => ?_) (fun hc147 => ?_)
          · skip
            exact k147 _ S _ (by rw [if_pos hc147])
          · skip
            refine o_lload S rfl d9_150 rfl (q := 152) ?_
            refine o_lconst S (z := 1) rfl d9_152 rfl (q := 153) ?_
            refine o_ladd S d9_153 rfl (q := 154) ?_
            refine o_lstore S (L' := #[.val (.ref r0), .val (.long q1), .second, .val (.long (0 : Int64)), .second, .val (.int (0 : Int32)), .val (.long v1), .second, .val (.long v4), .second, .val (.long (v3 + (1 : Int64))), .second]) rfl d9_154 rfl (q := 156) ?_
            exact k147 _ S _ (by rw [if_neg hc147])
        refine o_aloadN S rfl rfl d9_156 rfl (q := 157) ?_
        refine o_getF S (o_wd (i := 10) hw rfl) Via.refl F_digits_r0 d9_157 rfl (q := 160) (fun T S => ?_)
        refine o_iload S rfl d9_160 rfl (q := 162) ?_
        refine o_lload S rfl d9_162 rfl (q := 164) ?_
        refine o_l2i S d9_164 rfl (q := 165) ?_
        refine o_iastore S (y := (v4.toInt32)) (ys := [(v4.toInt32), x1, 0, 0]) A_dg (by decide) (by show (0 : Int) < 4; decide) g_dg rfl rfl d9_165 rfl (q := 166) (fun T h6 S W A_dg => ?_)
        have E_r0 := Exa.wr W E_r0
        have F_digits_r0 := Fld.other W F_digits_r0 (Or.inl ne_r0_dg)
        have F_length_r0 := Fld.other W F_length_r0 (Or.inl ne_r0_dg)
        have F_negative_r0 := Fld.other W F_negative_r0 (Or.inl ne_r0_dg)
        have K := K.wr W (Or.inl (List.mem_of_getElem? (i := 1) rfl))
        refine o_lload S rfl d9_166 rfl (q := 168) ?_
        refine o_bipush S (z := 32) rfl d9_168 rfl (q := 170) ?_
        refine o_lushr S d9_170 rfl (q := 171) ?_
        refine o_lload S rfl d9_171 rfl (q := 173) ?_
        refine o_bipush S (z := 32) rfl d9_173 rfl (q := 175) ?_
        refine o_lshl S d9_175 rfl (q := 176) ?_
        refine o_lor S d9_176 rfl (q := 177) ?_
        refine o_lstoreVN S (L' := fun v7 => #[.val (.ref r0), .val (.long q1), .second, .val (.long v7), .second, .val (.int (0 : Int32)), .val (.long v1), .second, .val (.long v4), .second, .val (.long v5), .second]) (fun _ => rfl) d9_177 rfl (q := 178) (fun v7 hv7 => ?_)
        refine o_iinc S rfl (L' := #[.val (.ref r0), .val (.long q1), .second, .val (.long v7), .second, .val (.int (1 : Int32)), .val (.long v1), .second, .val (.long v4), .second, .val (.long v5), .second]) rfl d9_178 rfl (q := 181) ?_
        refine o_goto S d9_181 (by decide) (q := 98) (by decide) ?_
        refine o_iload S rfl d9_98 rfl (q := 100) ?_
        refine o_aloadN S rfl rfl d9_100 rfl (q := 101) ?_
        refine o_getF S (o_wd (i := 25) hw rfl) Via.refl F_length_r0 d9_101 rfl (q := 104) (fun T S => ?_)
        refine o_icmp S d9_104 (by decide) (q' := 184) (by decide) (q := 107) rfl (hs_ge (a := 1) (b := 1) rfl rfl).1 (hs_ge (a := 1) (b := 1) rfl rfl).2 (fun hc104 => ?_) (fun hc104 => ?_)
        · skip
          refine o_aloadN S rfl rfl d9_184 rfl (q := 185) ?_
          refine o_getF S (o_wd (i := 10) hw rfl) Via.refl F_digits_r0 d9_185 rfl (q := 188) (fun T S => ?_)
          refine o_aloadN S rfl rfl d9_188 rfl (q := 189) ?_
          refine o_getF S (o_wd (i := 25) hw rfl) Via.refl F_length_r0 d9_189 rfl (q := 192) (fun T S => ?_)
          refine o_lloadN S rfl d9_192 rfl (q := 193) ?_
          refine o_l2i S d9_193 rfl (q := 194) ?_
          refine o_iastore S (y := (v7.toInt32)) (ys := [(v4.toInt32), (v7.toInt32), 0, 0]) A_dg (by decide) (by show (1 : Int) < 4; decide) g_dg rfl rfl d9_194 rfl (q := 195) (fun T h8 S W A_dg => ?_)
          have E_r0 := Exa.wr W E_r0
          have F_digits_r0 := Fld.other W F_digits_r0 (Or.inl ne_r0_dg)
          have F_length_r0 := Fld.other W F_length_r0 (Or.inl ne_r0_dg)
          have F_negative_r0 := Fld.other W F_negative_r0 (Or.inl ne_r0_dg)
          have K := K.wr W (Or.inl (List.mem_of_getElem? (i := 1) rfl))
          refine o_aloadN S rfl rfl d9_195 rfl (q := 196) ?_
          refine o_getF S (o_wd (i := 10) hw rfl) Via.refl F_digits_r0 d9_196 rfl (q := 199) (fun T S => ?_)
          refine o_aloadN S rfl rfl d9_199 rfl (q := 200) ?_
          refine o_getF S (o_wd (i := 25) hw rfl) Via.refl F_length_r0 d9_200 rfl (q := 203) (fun T S => ?_)
          refine o_iconst S (z := 1) rfl d9_203 rfl (q := 204) ?_
          refine o_iadd S d9_204 rfl (q := 205) ?_
          refine o_lloadN S rfl d9_205 rfl (q := 206) ?_
          refine o_bipush S (z := 32) rfl d9_206 rfl (q := 208) ?_
          refine o_lushr S d9_208 rfl (q := 209) ?_
          refine o_l2i S d9_209 rfl (q := 210) ?_
          refine o_iastore S (y := (((v7.toUInt64 >>> ((32 : Int32) &&& 0x3f).toInt64.toUInt64).toInt64).toInt32)) (ys := [(v4.toInt32), (v7.toInt32), (((v7.toUInt64 >>> ((32 : Int32) &&& 0x3f).toInt64.toUInt64).toInt64).toInt32), 0]) A_dg (by decide) (by show (2 : Int) < 4; decide) g_dg rfl rfl d9_210 rfl (q := 211) (fun T h9 S W A_dg => ?_)
          have E_r0 := Exa.wr W E_r0
          have F_digits_r0 := Fld.other W F_digits_r0 (Or.inl ne_r0_dg)
          have F_length_r0 := Fld.other W F_length_r0 (Or.inl ne_r0_dg)
          have F_negative_r0 := Fld.other W F_negative_r0 (Or.inl ne_r0_dg)
          have K := K.wr W (Or.inl (List.mem_of_getElem? (i := 1) rfl))
          refine o_aloadN S rfl rfl d9_211 rfl (q := 212) ?_
          refine o_dup S rfl d9_212 rfl (q := 213) ?_
          refine o_getF S (o_wd (i := 25) hw rfl) Via.refl F_length_r0 d9_213 rfl (q := 216) (fun T S => ?_)
          refine o_iconst S (z := 2) rfl d9_216 rfl (q := 217) ?_
          refine o_iadd S d9_217 rfl (q := 218) ?_
          refine o_putF S (o_wd (i := 25) hw rfl) Via.refl F_length_r0 E_r0 (Or.inl (o_wd (i := 26) hw rfl)) (o_wd (i := 1) hw rfl) (ty := .int) (by decide) rfl rfl g_r0 d9_218 rfl (q := 221) (fun T h10 S W F_length_r0 => ?_)
          have E_r0 := E_r0.wr W
          have F_digits_r0 := Fld.other W F_digits_r0 (Or.inr (slot_ne (Or.inl (o_wd (i := 11) hw rfl)) (Or.inl (o_wd (i := 26) hw rfl)) (by decide) (t := (.array .int)) (t' := .int) (by decide) (by decide)))
          have F_negative_r0 := Fld.other W F_negative_r0 (Or.inr (slot_ne (Or.inl (o_wd (i := 28) hw rfl)) (Or.inl (o_wd (i := 26) hw rfl)) (by decide) (t := .boolean) (t' := .int) (by decide) (by decide)))
          have A_dg := A_dg.other W (Ne.symm ne_r0_dg)
          have K := K.wr W (Or.inl (List.mem_of_getElem? (i := 0) rfl))
          refine o_aloadN S rfl rfl d9_221 rfl (q := 222) ?_
          refine o_callP S (W := 0) (argsL := []) (rest := []) (a := r0) (o_wd (i := 29) hw rfl) (o_wd (i := 30) hw rfl) (o_selP (o_wd (i := 1) hw rfl) (o_wd (i := 31) hw rfl) (o_wd (i := 30) hw rfl) (by decide)) (o_wd (i := 31) hw rfl) (o_wd (i := 2) hw rfl) (o_wd (i := 32) hw rfl) (by decide) E_r0 (ct_6 l Z a0 hw r0 dg ((1 : Int32) + (2 : Int32)) ng ([(v4.toInt32), (v7.toInt32), (((v7.toUInt64 >>> ((32 : Int32) &&& 0x3f).toInt64.toUInt64).toInt64).toInt32), 0]) 3 h10 n0 (o_n0 S) E_r0 F_digits_r0 F_length_r0 F_negative_r0 A_dg g_r0 ne_r0_dg rfl (by show 3 ≤ 4; decide)) (by decide) (by decide) rfl rfl pd_2 rfl (Nat.le_of_eq rfl) d9_222 rfl (q := 225) (by decide) (by decide) (fun T h11 rr12 S hQ => ?_)
          obtain ⟨hv, K1, E_r0', F_digits_r0', F_length_r0', F_negative_r0'⟩ := hQ
          subst hv
          have A_dg := A_dg.keep K1 (ninS (Ne.symm ne_r0_dg) nin0)
          have K := K.trans K1 (allS (Or.inl (List.mem_of_getElem? (i := 0) rfl)) all0)
          have E_r0 := E_r0'
          have F_digits_r0 := F_digits_r0'
          have F_length_r0 := F_length_r0'
          have F_negative_r0 := F_negative_r0'
          show Wp p e below (Po s n0 rm_9n1 (Q_9n1 Z r0 q1 dg ng x0 x1 h0 n0)) T (mkF m 225 #[.val (.ref r0), .val (.long q1), .second, .val (.long v7), .second, .val (.int (1 : Int32)), .val (.long v1), .second, .val (.long v4), .second, .val (.long v5), .second] [])
          refine o_retV S rfl d9_225 (by decide) (by decide) ?_
          exact ⟨[(v4.toInt32), (v7.toInt32), (((v7.toUInt64 >>> ((32 : Int32) &&& 0x3f).toInt64.toUInt64).toInt64).toInt32), 0], rfl, K, E_r0, F_digits_r0, F_length_r0, F_negative_r0, A_dg, rfl, mz_b1 hx0 hf0 hc37 hv1 hv2 hv3 hv4 hv5 hv7⟩
        · exact absurd hc104 (by decide)
    · skip
      refine o_iconst S (z := 0) rfl d9_40 rfl (q := 41) ?_
      refine o_istore S (L' := #[.val (.ref r0), .val (.long q1), .second, .val (.long (0 : Int64)), .second, .val (.int (0 : Int32)), .unset, .unset, .unset, .unset, .unset, .unset]) rfl d9_41 rfl (q := 43) ?_
      refine o_iload S rfl d9_43 rfl (q := 45) ?_
      refine o_aloadN S rfl rfl d9_45 rfl (q := 46) ?_
      refine o_getF S (o_wd (i := 25) hw rfl) Via.refl F_length_r0 d9_46 rfl (q := 49) (fun T S => ?_)
      refine o_icmp S d9_49 (by decide) (q' := 92) (by decide) (q := 52) rfl (hs_ge (a := 0) (b := 1) rfl rfl).1 (hs_ge (a := 0) (b := 1) rfl rfl).2 (fun hc49 => ?_) (fun hc49 => ?_)
      · exact absurd hc49 (by decide)
      · skip
        refine o_aloadN S rfl rfl d9_52 rfl (q := 53) ?_
        refine o_getF S (o_wd (i := 10) hw rfl) Via.refl F_digits_r0 d9_53 rfl (q := 56) (fun T S => ?_)
        refine o_iload S rfl d9_56 rfl (q := 58) ?_
        refine o_iaload S A_dg (by decide) (by show (0 : Int) < 4; decide) (v := x0) rfl d9_58 rfl (q := 59) ?_
        refine o_i2l S d9_59 rfl (q := 60) ?_
        refine o_ldc2 S (o_wd (i := 52) hw rfl) d9_60 rfl (q := 63) ?_
        refine o_land S d9_63 rfl (q := 64) ?_
        refine o_lloadN S rfl d9_64 rfl (q := 65) ?_
        refine o_lmul S d9_65 rfl (q := 66) ?_
        refine o_lloadN S rfl d9_66 rfl (q := 67) ?_
        refine o_ladd S d9_67 rfl (q := 68) ?_
        refine o_lstoreV S (L' := fun v13 => #[.val (.ref r0), .val (.long q1), .second, .val (.long (0 : Int64)), .second, .val (.int (0 : Int32)), .val (.long v13), .second, .unset, .unset, .unset, .unset]) (fun _ => rfl) d9_68 rfl (q := 70) (fun v13 hv13 => ?_)
        refine o_aloadN S rfl rfl d9_70 rfl (q := 71) ?_
        refine o_getF S (o_wd (i := 10) hw rfl) Via.refl F_digits_r0 d9_71 rfl (q := 74) (fun T S => ?_)
        refine o_iload S rfl d9_74 rfl (q := 76) ?_
        refine o_lload S rfl d9_76 rfl (q := 78) ?_
        refine o_l2i S d9_78 rfl (q := 79) ?_
        refine o_iastore S (y := (v13.toInt32)) (ys := [(v13.toInt32), x1, 0, 0]) A_dg (by decide) (by show (0 : Int) < 4; decide) g_dg rfl rfl d9_79 rfl (q := 80) (fun T h14 S W A_dg => ?_)
        have E_r0 := Exa.wr W E_r0
        have F_digits_r0 := Fld.other W F_digits_r0 (Or.inl ne_r0_dg)
        have F_length_r0 := Fld.other W F_length_r0 (Or.inl ne_r0_dg)
        have F_negative_r0 := Fld.other W F_negative_r0 (Or.inl ne_r0_dg)
        have K := K.wr W (Or.inl (List.mem_of_getElem? (i := 1) rfl))
        refine o_lload S rfl d9_80 rfl (q := 82) ?_
        refine o_bipush S (z := 32) rfl d9_82 rfl (q := 84) ?_
        refine o_lushr S d9_84 rfl (q := 85) ?_
        refine o_lstoreVN S (L' := fun v15 => #[.val (.ref r0), .val (.long q1), .second, .val (.long v15), .second, .val (.int (0 : Int32)), .val (.long v13), .second, .unset, .unset, .unset, .unset]) (fun _ => rfl) d9_85 rfl (q := 86) (fun v15 hv15 => ?_)
        refine o_iinc S rfl (L' := #[.val (.ref r0), .val (.long q1), .second, .val (.long v15), .second, .val (.int (1 : Int32)), .val (.long v13), .second, .unset, .unset, .unset, .unset]) rfl d9_86 rfl (q := 89) ?_
        refine o_goto S d9_89 (by decide) (q := 43) (by decide) ?_
        refine o_iload S rfl d9_43 rfl (q := 45) ?_
        refine o_aloadN S rfl rfl d9_45 rfl (q := 46) ?_
        refine o_getF S (o_wd (i := 25) hw rfl) Via.refl F_length_r0 d9_46 rfl (q := 49) (fun T S => ?_)
        refine o_icmp S d9_49 (by decide) (q' := 92) (by decide) (q := 52) rfl (hs_ge (a := 1) (b := 1) rfl rfl).1 (hs_ge (a := 1) (b := 1) rfl rfl).2 (fun hc49 => ?_) (fun hc49 => ?_)
        · skip
          refine o_goto S d9_92 (by decide) (q := 184) (by decide) ?_
          refine o_aloadN S rfl rfl d9_184 rfl (q := 185) ?_
          refine o_getF S (o_wd (i := 10) hw rfl) Via.refl F_digits_r0 d9_185 rfl (q := 188) (fun T S => ?_)
          refine o_aloadN S rfl rfl d9_188 rfl (q := 189) ?_
          refine o_getF S (o_wd (i := 25) hw rfl) Via.refl F_length_r0 d9_189 rfl (q := 192) (fun T S => ?_)
          refine o_lloadN S rfl d9_192 rfl (q := 193) ?_
          refine o_l2i S d9_193 rfl (q := 194) ?_
          refine o_iastore S (y := (v15.toInt32)) (ys := [(v13.toInt32), (v15.toInt32), 0, 0]) A_dg (by decide) (by show (1 : Int) < 4; decide) g_dg rfl rfl d9_194 rfl (q := 195) (fun T h16 S W A_dg => ?_)
          have E_r0 := Exa.wr W E_r0
          have F_digits_r0 := Fld.other W F_digits_r0 (Or.inl ne_r0_dg)
          have F_length_r0 := Fld.other W F_length_r0 (Or.inl ne_r0_dg)
          have F_negative_r0 := Fld.other W F_negative_r0 (Or.inl ne_r0_dg)
          have K := K.wr W (Or.inl (List.mem_of_getElem? (i := 1) rfl))
          refine o_aloadN S rfl rfl d9_195 rfl (q := 196) ?_
          refine o_getF S (o_wd (i := 10) hw rfl) Via.refl F_digits_r0 d9_196 rfl (q := 199) (fun T S => ?_)
          refine o_aloadN S rfl rfl d9_199 rfl (q := 200) ?_
          refine o_getF S (o_wd (i := 25) hw rfl) Via.refl F_length_r0 d9_200 rfl (q := 203) (fun T S => ?_)
          refine o_iconst S (z := 1) rfl d9_203 rfl (q := 204) ?_
          refine o_iadd S d9_204 rfl (q := 205) ?_
          refine o_lloadN S rfl d9_205 rfl (q := 206) ?_
          refine o_bipush S (z := 32) rfl d9_206 rfl (q := 208) ?_
          refine o_lushr S d9_208 rfl (q := 209) ?_
          refine o_l2i S d9_209 rfl (q := 210) ?_
          refine o_iastore S (y := (((v15.toUInt64 >>> ((32 : Int32) &&& 0x3f).toInt64.toUInt64).toInt64).toInt32)) (ys := [(v13.toInt32), (v15.toInt32), (((v15.toUInt64 >>> ((32 : Int32) &&& 0x3f).toInt64.toUInt64).toInt64).toInt32), 0]) A_dg (by decide) (by show (2 : Int) < 4; decide) g_dg rfl rfl d9_210 rfl (q := 211) (fun T h17 S W A_dg => ?_)
          have E_r0 := Exa.wr W E_r0
          have F_digits_r0 := Fld.other W F_digits_r0 (Or.inl ne_r0_dg)
          have F_length_r0 := Fld.other W F_length_r0 (Or.inl ne_r0_dg)
          have F_negative_r0 := Fld.other W F_negative_r0 (Or.inl ne_r0_dg)
          have K := K.wr W (Or.inl (List.mem_of_getElem? (i := 1) rfl))
          refine o_aloadN S rfl rfl d9_211 rfl (q := 212) ?_
          refine o_dup S rfl d9_212 rfl (q := 213) ?_
          refine o_getF S (o_wd (i := 25) hw rfl) Via.refl F_length_r0 d9_213 rfl (q := 216) (fun T S => ?_)
          refine o_iconst S (z := 2) rfl d9_216 rfl (q := 217) ?_
          refine o_iadd S d9_217 rfl (q := 218) ?_
          refine o_putF S (o_wd (i := 25) hw rfl) Via.refl F_length_r0 E_r0 (Or.inl (o_wd (i := 26) hw rfl)) (o_wd (i := 1) hw rfl) (ty := .int) (by decide) rfl rfl g_r0 d9_218 rfl (q := 221) (fun T h18 S W F_length_r0 => ?_)
          have E_r0 := E_r0.wr W
          have F_digits_r0 := Fld.other W F_digits_r0 (Or.inr (slot_ne (Or.inl (o_wd (i := 11) hw rfl)) (Or.inl (o_wd (i := 26) hw rfl)) (by decide) (t := (.array .int)) (t' := .int) (by decide) (by decide)))
          have F_negative_r0 := Fld.other W F_negative_r0 (Or.inr (slot_ne (Or.inl (o_wd (i := 28) hw rfl)) (Or.inl (o_wd (i := 26) hw rfl)) (by decide) (t := .boolean) (t' := .int) (by decide) (by decide)))
          have A_dg := A_dg.other W (Ne.symm ne_r0_dg)
          have K := K.wr W (Or.inl (List.mem_of_getElem? (i := 0) rfl))
          refine o_aloadN S rfl rfl d9_221 rfl (q := 222) ?_
          refine o_callP S (W := 0) (argsL := []) (rest := []) (a := r0) (o_wd (i := 29) hw rfl) (o_wd (i := 30) hw rfl) (o_selP (o_wd (i := 1) hw rfl) (o_wd (i := 31) hw rfl) (o_wd (i := 30) hw rfl) (by decide)) (o_wd (i := 31) hw rfl) (o_wd (i := 2) hw rfl) (o_wd (i := 32) hw rfl) (by decide) E_r0 (ct_6 l Z a0 hw r0 dg ((1 : Int32) + (2 : Int32)) ng ([(v13.toInt32), (v15.toInt32), (((v15.toUInt64 >>> ((32 : Int32) &&& 0x3f).toInt64.toUInt64).toInt64).toInt32), 0]) 3 h18 n0 (o_n0 S) E_r0 F_digits_r0 F_length_r0 F_negative_r0 A_dg g_r0 ne_r0_dg rfl (by show 3 ≤ 4; decide)) (by decide) (by decide) rfl rfl pd_2 rfl (Nat.le_of_eq rfl) d9_222 rfl (q := 225) (by decide) (by decide) (fun T h19 rr20 S hQ => ?_)
          obtain ⟨hv, K1, E_r0', F_digits_r0', F_length_r0', F_negative_r0'⟩ := hQ
          subst hv
          have A_dg := A_dg.keep K1 (ninS (Ne.symm ne_r0_dg) nin0)
          have K := K.trans K1 (allS (Or.inl (List.mem_of_getElem? (i := 0) rfl)) all0)
          have E_r0 := E_r0'
          have F_digits_r0 := F_digits_r0'
          have F_length_r0 := F_length_r0'
          have F_negative_r0 := F_negative_r0'
          show Wp p e below (Po s n0 rm_9n1 (Q_9n1 Z r0 q1 dg ng x0 x1 h0 n0)) T (mkF m 225 #[.val (.ref r0), .val (.long q1), .second, .val (.long v15), .second, .val (.int (1 : Int32)), .val (.long v13), .second, .unset, .unset, .unset, .unset] [])
          refine o_retV S rfl d9_225 (by decide) (by decide) ?_
          exact ⟨[(v13.toInt32), (v15.toInt32), (((v15.toUInt64 >>> ((32 : Int32) &&& 0x3f).toInt64.toUInt64).toInt64).toInt32), 0], rfl, K, E_r0, F_digits_r0, F_length_r0, F_negative_r0, A_dg, rfl, mz_a1 hx0 hf0 hc37 hv13 hv15⟩
        · exact absurd hc49 (by decide)
  · exact absurd hf0 hc3
def Q_9n2 (Z : State) (r0 : Addr) (q1 : Int64) (dg : Addr) (ng : Int32) (x0 : Int32) (x1 : Int32) (h0 : Heap) (n0 : Nat) : Option Value → Heap → Prop := fun v h => ∃ ys : List Int32, v = none ∧ Keep h0 h [r0, dg] ∧ Exa Z h r0 "com/example/krofusmidur/krofusmidur/amounts/MutableInteger" ∧ Fld Z h r0 "com/example/krofusmidur/krofusmidur/amounts/MutableInteger" "digits" "[I" (.ref dg) ∧ Fld Z h r0 "com/example/krofusmidur/krofusmidur/amounts/MutableInteger" "length" "I" (.int (Int32.ofNat (trm ys 4))) ∧ Fld Z h r0 "com/example/krofusmidur/krofusmidur/amounts/MutableInteger" "negative" "Z" (.int (if trm ys 4 = 0 then (0 : Int32) else ng)) ∧ IA Z h dg .int (ys) ∧ ys.length = 4 ∧ (trm ys 4 = 0 ↔ q1 = 0)
def rm_9n2 : Room := ({ frames := 2, cells := 0, slots := 0, locals := 31 } : Room)
theorem ef_9n2 (r0 : Addr) (q1 : Int64) (m : MethodId) : entryFrame m #[(.ref r0), (.long q1)] 12 = mkF m 0 #[.val (.ref r0), .val (.long q1), .second, .unset, .unset, .unset, .unset, .unset, .unset, .unset, .unset, .unset] [] := by first | (simp [entryFrame, mkF, argsToLocals, Value.category]; done) | rfl
set_option maxRecDepth 65536 in
set_option maxHeartbeats 40000000 in
theorem ct_9n2 (l : Launch) (Z : State) (a0 : Array Value) (hw : ∀ d ∈ tables_1, d.before a0 Z = true) (r0 : Addr) (q1 : Int64) (dg : Addr) (ng : Int32) (x0 : Int32) (x1 : Int32) (h0 : Heap) (n0 : Nat) (hn : n0 ≤ h0.size) (E_r0 : Exa Z h0 r0 "com/example/krofusmidur/krofusmidur/amounts/MutableInteger") (F_digits_r0 : Fld Z h0 r0 "com/example/krofusmidur/krofusmidur/amounts/MutableInteger" "digits" "[I" (.ref dg)) (F_length_r0 : Fld Z h0 r0 "com/example/krofusmidur/krofusmidur/amounts/MutableInteger" "length" "I" (.int (2 : Int32))) (F_negative_r0 : Fld Z h0 r0 "com/example/krofusmidur/krofusmidur/amounts/MutableInteger" "negative" "Z" (.int ng)) (A_dg : IA Z h0 dg .int ([x0, x1, 0, 0])) (g_r0 : n0 ≤ r0) (g_dg : n0 ≤ dg) (ne_r0_dg : r0 ≠ dg) (hf0 : 0 ≤ q1.toInt) (hx0 : ¬ x1 = 0) : Ct l (⟨"com/example/krofusmidur/krofusmidur/amounts/MutableInteger", "multiply", "(J)V"⟩ : MethodName) prog_35_method_9_code 12 none [] rm_9n2 Z h0 n0 #[(.ref r0), (.long q1)] (Q_9n2 Z r0 q1 dg ng x0 x1 h0 n0) := by
  refine o_body pn_9 hn (ef_9n2 r0 q1) ?_
  intro p e s m below meth c T S
  have K : Keep h0 h0 [r0, dg] := Keep.refl _ _
  refine o_lloadN S rfl d9_0 rfl (q := 1) ?_
  refine o_lconst S (z := 0) rfl d9_1 rfl (q := 2) ?_
  refine o_lcmp S d9_2 rfl (q := 3) ?_
  refine o_if S d9_3 (by decide) (q' := 20) (by decide) (q := 6) rfl (hl_ge (a := q1.toInt) (b := 0) rfl rfl).1 (hl_ge (a := q1.toInt) (b := 0) rfl rfl).2 (fun hc3 => ?_) (fun hc3 => ?_)
  · skip
    refine o_aloadN S rfl rfl d9_20 rfl (q := 21) ?_
    refine o_aloadN S rfl rfl d9_21 rfl (q := 22) ?_
    refine o_getF S (o_wd (i := 25) hw rfl) Via.refl F_length_r0 d9_22 rfl (q := 25) (fun T S => ?_)
    refine o_iconst S (z := 2) rfl d9_25 rfl (q := 26) ?_
    refine o_iadd S d9_26 rfl (q := 27) ?_
    refine o_callP0 S (W := 0) (argsL := [(.int ((2 : Int32) + (2 : Int32)))]) (rest := []) (a := r0) (o_wd (i := 48) hw rfl) (o_wd (i := 49) hw rfl) (o_selP (o_wd (i := 1) hw rfl) (o_wd (i := 50) hw rfl) (o_wd (i := 49) hw rfl) (by decide)) (o_wd (i := 50) hw rfl) (o_wd (i := 2) hw rfl) (o_wd (i := 51) hw rfl) (by decide) E_r0 (ct_10 l Z a0 hw r0 ((2 : Int32) + (2 : Int32)) dg ([x0, x1, 0, 0]) h0 n0 (o_n0 S) E_r0 F_digits_r0 A_dg rfl (by decide)) (by decide) (by decide) rfl rfl pd_1 rfl (Nat.le_of_eq rfl) d9_27 rfl (q := 30) (by decide) (by decide) rfl (st' := []) (fun T S => ?_)
    refine o_lconst S (z := 0) rfl d9_30 rfl (q := 31) ?_
    refine o_lstoreN S (L' := #[.val (.ref r0), .val (.long q1), .second, .val (.long (0 : Int64)), .second, .unset, .unset, .unset, .unset, .unset, .unset, .unset]) rfl d9_31 rfl (q := 32) ?_
    refine o_lloadN S rfl d9_32 rfl (q := 33) ?_
    refine o_ldc2 S (o_wd (i := 52) hw rfl) d9_33 rfl (q := 36) ?_
    refine o_lcmp S d9_36 rfl (q := 37) ?_
    refine o_if S d9_37 (by decide) (q' := 95) (by decide) (q := 40) rfl (hl_gt (a := q1.toInt) (b := 4294967295) rfl rfl).1 (hl_gt (a := q1.toInt) (b := 4294967295) rfl rfl).2 (fun hc37 => ?_) (fun hc37 => ?_)
    · skip
      refine o_iconst S (z := 0) rfl d9_95 rfl (q := 96) ?_
      refine o_istore S (L' := #[.val (.ref r0), .val (.long q1), .second, .val (.long (0 : Int64)), .second, .val (.int (0 : Int32)), .unset, .unset, .unset, .unset, .unset, .unset]) rfl d9_96 rfl (q := 98) ?_
      refine o_iload S rfl d9_98 rfl (q := 100) ?_
      refine o_aloadN S rfl rfl d9_100 rfl (q := 101) ?_
      refine o_getF S (o_wd (i := 25) hw rfl) Via.refl F_length_r0 d9_101 rfl (q := 104) (fun T S => ?_)
      refine o_icmp S d9_104 (by decide) (q' := 184) (by decide) (q := 107) rfl (hs_ge (a := 0) (b := 2) rfl rfl).1 (hs_ge (a := 0) (b := 2) rfl rfl).2 (fun hc104 => ?_) (fun hc104 => ?_)
      · exact absurd hc104 (by decide)
      · skip
        refine o_aloadN S rfl rfl d9_107 rfl (q := 108) ?_
        refine o_getF S (o_wd (i := 10) hw rfl) Via.refl F_digits_r0 d9_108 rfl (q := 111) (fun T S => ?_)
        refine o_iload S rfl d9_111 rfl (q := 113) ?_
        refine o_iaload S A_dg (by decide) (by show (0 : Int) < 4; decide) (v := x0) rfl d9_113 rfl (q := 114) ?_
        refine o_i2l S d9_114 rfl (q := 115) ?_
        refine o_ldc2 S (o_wd (i := 52) hw rfl) d9_115 rfl (q := 118) ?_
        refine o_land S d9_118 rfl (q := 119) ?_
        refine o_lstoreV S (L' := fun v1 => #[.val (.ref r0), .val (.long q1), .second, .val (.long (0 : Int64)), .second, .val (.int (0 : Int32)), .val (.long v1), .second, .unset, .unset, .unset, .unset]) (fun _ => rfl) d9_119 rfl (q := 121) (fun v1 hv1 => ?_)
        refine o_lload S rfl d9_121 rfl (q := 123) ?_
        refine o_lloadN S rfl d9_123 rfl (q := 124) ?_
        refine o_lmul S d9_124 rfl (q := 125) ?_
        refine o_lstoreV S (L' := fun v2 => #[.val (.ref r0), .val (.long q1), .second, .val (.long (0 : Int64)), .second, .val (.int (0 : Int32)), .val (.long v1), .second, .val (.long v2), .second, .unset, .unset]) (fun _ => rfl) d9_125 rfl (q := 127) (fun v2 hv2 => ?_)
        refine o_lload S rfl d9_127 rfl (q := 129) ?_
        refine o_lloadN S rfl d9_129 rfl (q := 130) ?_
        refine o_callS0 S (W := 0) (argsL := [(.long v1), (.long q1)]) (rest := []) (o_wd (i := 91) hw rfl) (o_wd (i := 92) hw rfl) (o_wd (i := 19) hw rfl) (o_wd (i := 93) hw rfl) (by decide) (ct_19 l Z a0 hw v1 q1 h0 n0 (o_n0 S)) (by decide) (by decide) rfl rfl pd_5 rfl (Nat.le_of_eq rfl) d9_130 rfl (q := 133) (by decide) (by decide) rfl (st' := [(.long (f_mh v1 q1))]) (fun T S => ?_)
        refine o_lstoreV S (L' := fun v3 => #[.val (.ref r0), .val (.long q1), .second, .val (.long (0 : Int64)), .second, .val (.int (0 : Int32)), .val (.long v1), .second, .val (.long v2), .second, .val (.long v3), .second]) (fun _ => rfl) d9_133 rfl (q := 135) (fun v3 hv3 => ?_)
        refine o_lload S rfl d9_135 rfl (q := 137) ?_
        refine o_lloadN S rfl d9_137 rfl (q := 138) ?_
        refine o_ladd S d9_138 rfl (q := 139) ?_
        refine o_lstoreV S (L' := fun v4 => #[.val (.ref r0), .val (.long q1), .second, .val (.long (0 : Int64)), .second, .val (.int (0 : Int32)), .val (.long v1), .second, .val (.long v4), .second, .val (.long v3), .second]) (fun _ => rfl) d9_139 rfl (q := 141) (fun v4 hv4 => ?_)
        refine o_lload S rfl d9_141 rfl (q := 143) ?_
        refine o_lloadN S rfl d9_143 rfl (q := 144) ?_
        refine o_callS0 S (W := 0) (argsL := [(.long v4), (.long (0 : Int64))]) (rest := []) (o_wd (i := 95) hw rfl) (o_wd (i := 96) hw rfl) (o_wd (i := 97) hw rfl) (o_wd (i := 98) hw rfl) (by decide) (ct_20 l Z a0 hw v4 (0 : Int64) h0 n0 (o_n0 S)) (by decide) (by decide) rfl rfl pd_3 rfl (Nat.le_of_eq rfl) d9_144 rfl (q := 147) (by decide) (by decide) rfl (st' := [(.int (f_lcu v4 (0 : Int64)))]) (fun T S => ?_)
        refine o_cutS S (G := fun T => ∀ (v5 : Int64), v5 = (if 0 ≤ (f_lcu v4 (0 : Int64)).toInt then v3 else (v3 + (1 : Int64))) → Wp p e below (Po s n0 rm_9n2 (Q_9n2 Z r0 q1 dg ng x0 x1 h0 n0)) T (mkF m 156 #[.val (.ref r0), .val (.long q1), .second, .val (.long (0 : Int64)), .second, .val (.int (0 : Int32)), .val (.long v1), .second, .val (.long v4), .second, .val (.long v5), .second] [])) (fun k147 => ?_) (fun T S v5 hv5 => ?_)
        · skip
          refine o_if S d9_147 (by decide) (q' := 156) (by decide) (q := 150) rfl (hs_ge (a := (f_lcu v4 (0 : Int64)).toInt) (b := 0) rfl rfl).1 (hs_ge (a := (f_lcu v4 (0 : Int64)).toInt) (b := 0) rfl rfl).2 (fun hc147 => ?_) (fun hc147 => ?_)
          · skip
            exact k147 _ S _ (by rw [if_pos hc147])
          · skip
            refine o_lload S rfl d9_150 rfl (q := 152) ?_
            refine o_lconst S (z := 1) rfl d9_152 rfl (q := 153) ?_
            refine o_ladd S d9_153 rfl (q := 154) ?_
            refine o_lstore S (L' := #[.val (.ref r0), .val (.long q1), .second, .val (.long (0 : Int64)), .second, .val (.int (0 : Int32)), .val (.long v1), .second, .val (.long v4), .second, .val (.long (v3 + (1 : Int64))), .second]) rfl d9_154 rfl (q := 156) ?_
            exact k147 _ S _ (by rw [if_neg hc147])
        refine o_aloadN S rfl rfl d9_156 rfl (q := 157) ?_
        refine o_getF S (o_wd (i := 10) hw rfl) Via.refl F_digits_r0 d9_157 rfl (q := 160) (fun T S => ?_)
        refine o_iload S rfl d9_160 rfl (q := 162) ?_
        refine o_lload S rfl d9_162 rfl (q := 164) ?_
        refine o_l2i S d9_164 rfl (q := 165) ?_
        refine o_iastore S (y := (v4.toInt32)) (ys := [(v4.toInt32), x1, 0, 0]) A_dg (by decide) (by show (0 : Int) < 4; decide) g_dg rfl rfl d9_165 rfl (q := 166) (fun T h6 S W A_dg => ?_)
        have E_r0 := Exa.wr W E_r0
        have F_digits_r0 := Fld.other W F_digits_r0 (Or.inl ne_r0_dg)
        have F_length_r0 := Fld.other W F_length_r0 (Or.inl ne_r0_dg)
        have F_negative_r0 := Fld.other W F_negative_r0 (Or.inl ne_r0_dg)
        have K := K.wr W (Or.inl (List.mem_of_getElem? (i := 1) rfl))
        refine o_lload S rfl d9_166 rfl (q := 168) ?_
        refine o_bipush S (z := 32) rfl d9_168 rfl (q := 170) ?_
        refine o_lushr S d9_170 rfl (q := 171) ?_
        refine o_lload S rfl d9_171 rfl (q := 173) ?_
        refine o_bipush S (z := 32) rfl d9_173 rfl (q := 175) ?_
        refine o_lshl S d9_175 rfl (q := 176) ?_
        refine o_lor S d9_176 rfl (q := 177) ?_
        refine o_lstoreVN S (L' := fun v7 => #[.val (.ref r0), .val (.long q1), .second, .val (.long v7), .second, .val (.int (0 : Int32)), .val (.long v1), .second, .val (.long v4), .second, .val (.long v5), .second]) (fun _ => rfl) d9_177 rfl (q := 178) (fun v7 hv7 => ?_)
        refine o_iinc S rfl (L' := #[.val (.ref r0), .val (.long q1), .second, .val (.long v7), .second, .val (.int (1 : Int32)), .val (.long v1), .second, .val (.long v4), .second, .val (.long v5), .second]) rfl d9_178 rfl (q := 181) ?_
        refine o_goto S d9_181 (by decide) (q := 98) (by decide) ?_
        refine o_iload S rfl d9_98 rfl (q := 100) ?_
        refine o_aloadN S rfl rfl d9_100 rfl (q := 101) ?_
        refine o_getF S (o_wd (i := 25) hw rfl) Via.refl F_length_r0 d9_101 rfl (q := 104) (fun T S => ?_)
        refine o_icmp S d9_104 (by decide) (q' := 184) (by decide) (q := 107) rfl (hs_ge (a := 1) (b := 2) rfl rfl).1 (hs_ge (a := 1) (b := 2) rfl rfl).2 (fun hc104 => ?_) (fun hc104 => ?_)
        · exact absurd hc104 (by decide)
        · skip
          refine o_aloadN S rfl rfl d9_107 rfl (q := 108) ?_
          refine o_getF S (o_wd (i := 10) hw rfl) Via.refl F_digits_r0 d9_108 rfl (q := 111) (fun T S => ?_)
          refine o_iload S rfl d9_111 rfl (q := 113) ?_
          refine o_iaload S A_dg (by decide) (by show (1 : Int) < 4; decide) (v := x1) rfl d9_113 rfl (q := 114) ?_
          refine o_i2l S d9_114 rfl (q := 115) ?_
          refine o_ldc2 S (o_wd (i := 52) hw rfl) d9_115 rfl (q := 118) ?_
          refine o_land S d9_118 rfl (q := 119) ?_
          refine o_lstoreV S (L' := fun v8 => #[.val (.ref r0), .val (.long q1), .second, .val (.long v7), .second, .val (.int (1 : Int32)), .val (.long v8), .second, .val (.long v4), .second, .val (.long v5), .second]) (fun _ => rfl) d9_119 rfl (q := 121) (fun v8 hv8 => ?_)
          refine o_lload S rfl d9_121 rfl (q := 123) ?_
          refine o_lloadN S rfl d9_123 rfl (q := 124) ?_
          refine o_lmul S d9_124 rfl (q := 125) ?_
          refine o_lstoreV S (L' := fun v9 => #[.val (.ref r0), .val (.long q1), .second, .val (.long v7), .second, .val (.int (1 : Int32)), .val (.long v8), .second, .val (.long v9), .second, .val (.long v5), .second]) (fun _ => rfl) d9_125 rfl (q := 127) (fun v9 hv9 => ?_)
          refine o_lload S rfl d9_127 rfl (q := 129) ?_
          refine o_lloadN S rfl d9_129 rfl (q := 130) ?_
          refine o_callS0 S (W := 0) (argsL := [(.long v8), (.long q1)]) (rest := []) (o_wd (i := 91) hw rfl) (o_wd (i := 92) hw rfl) (o_wd (i := 19) hw rfl) (o_wd (i := 93) hw rfl) (by decide) (ct_19 l Z a0 hw v8 q1 h6 n0 (o_n0 S)) (by decide) (by decide) rfl rfl pd_5 rfl (Nat.le_of_eq rfl) d9_130 rfl (q := 133) (by decide) (by decide) rfl (st' := [(.long (f_mh v8 q1))]) (fun T S => ?_)
          refine o_lstoreV S (L' := fun v10 => #[.val (.ref r0), .val (.long q1), .second, .val (.long v7), .second, .val (.int (1 : Int32)), .val (.long v8), .second, .val (.long v9), .second, .val (.long v10), .second]) (fun _ => rfl) d9_133 rfl (q := 135) (fun v10 hv10 => ?_)
          refine o_lload S rfl d9_135 rfl (q := 137) ?_
          refine o_lloadN S rfl d9_137 rfl (q := 138) ?_
          refine o_ladd S d9_138 rfl (q := 139) ?_
          refine o_lstoreV S (L' := fun v11 => #[.val (.ref r0), .val (.long q1), .second, .val (.long v7), .second, .val (.int (1 : Int32)), .val (.long v8), .second, .val (.long v11), .second, .val (.long v10), .second]) (fun _ => rfl) d9_139 rfl (q := 141) (fun v11 hv11 => ?_)
          refine o_lload S rfl d9_141 rfl (q := 143) ?_
          refine o_lloadN S rfl d9_143 rfl (q := 144) ?_
          refine o_callS0 S (W := 0) (argsL := [(.long v11), (.long v7)]) (rest := []) (o_wd (i := 95) hw rfl) (o_wd (i := 96) hw rfl) (o_wd (i := 97) hw rfl) (o_wd (i := 98) hw rfl) (by decide) (ct_20 l Z a0 hw v11 v7 h6 n0 (o_n0 S)) (by decide) (by decide) rfl rfl pd_3 rfl (Nat.le_of_eq rfl) d9_144 rfl (q := 147) (by decide) (by decide) rfl (st' := [(.int (f_lcu v11 v7))]) (fun T S => ?_)
          refine o_cutS S (G := fun T => ∀ (v12 : Int64), v12 = (if 0 ≤ (f_lcu v11 v7).toInt then v10 else (v10 + (1 : Int64))) → Wp p e below (Po s n0 rm_9n2 (Q_9n2 Z r0 q1 dg ng x0 x1 h0 n0)) T (mkF m 156 #[.val (.ref r0), .val (.long q1), .second, .val (.long v7), .second, .val (.int (1 : Int32)), .val (.long v8), .second, .val (.long v11), .second, .val (.long v12), .second] [])) (fun k147 => ?_) (fun T S v12 hv12 => ?_)
          · skip
            refine o_if S d9_147 (by decide) (q' := 156) (by decide) (q := 150) rfl (hs_ge (a := (f_lcu v11 v7).toInt) (b := 0) rfl rfl).1 (hs_ge (a := (f_lcu v11 v7).toInt) (b := 0) rfl rfl).2 (fun hc147 => ?_) (fun hc147 => ?_)
            · skip
              exact k147 _ S _ (by rw [if_pos hc147])
            · skip
              refine o_lload S rfl d9_150 rfl (q := 152) ?_
              refine o_lconst S (z := 1) rfl d9_152 rfl (q := 153) ?_
              refine o_ladd S d9_153 rfl (q := 154) ?_
              refine o_lstore S (L' := #[.val (.ref r0), .val (.long q1), .second, .val (.long v7), .second, .val (.int (1 : Int32)), .val (.long v8), .second, .val (.long v11), .second, .val (.long (v10 + (1 : Int64))), .second]) rfl d9_154 rfl (q := 156) ?_
              exact k147 _ S _ (by rw [if_neg hc147])
          refine o_aloadN S rfl rfl d9_156 rfl (q := 157) ?_
          refine o_getF S (o_wd (i := 10) hw rfl) Via.refl F_digits_r0 d9_157 rfl (q := 160) (fun T S => ?_)
          refine o_iload S rfl d9_160 rfl (q := 162) ?_
          refine o_lload S rfl d9_162 rfl (q := 164) ?_
          refine o_l2i S d9_164 rfl (q := 165) ?_
          refine o_iastore S (y := (v11.toInt32)) (ys := [(v4.toInt32), (v11.toInt32), 0, 0]) A_dg (by decide) (by show (1 : Int) < 4; decide) g_dg rfl rfl d9_165 rfl (q := 166) (fun T h13 S W A_dg => ?_)
          have E_r0 := Exa.wr W E_r0
          have F_digits_r0 := Fld.other W F_digits_r0 (Or.inl ne_r0_dg)
          have F_length_r0 := Fld.other W F_length_r0 (Or.inl ne_r0_dg)
          have F_negative_r0 := Fld.other W F_negative_r0 (Or.inl ne_r0_dg)
          have K := K.wr W (Or.inl (List.mem_of_getElem? (i := 1) rfl))
          refine o_lload S rfl d9_166 rfl (q := 168) ?_
          refine o_bipush S (z := 32) rfl d9_168 rfl (q := 170) ?_
          refine o_lushr S d9_170 rfl (q := 171) ?_
          refine o_lload S rfl d9_171 rfl (q := 173) ?_
          refine o_bipush S (z := 32) rfl d9_173 rfl (q := 175) ?_
          refine o_lshl S d9_175 rfl (q := 176) ?_
          refine o_lor S d9_176 rfl (q := 177) ?_
          refine o_lstoreVN S (L' := fun v14 => #[.val (.ref r0), .val (.long q1), .second, .val (.long v14), .second, .val (.int (1 : Int32)), .val (.long v8), .second, .val (.long v11), .second, .val (.long v12), .second]) (fun _ => rfl) d9_177 rfl (q := 178) (fun v14 hv14 => ?_)
          refine o_iinc S rfl (L' := #[.val (.ref r0), .val (.long q1), .second, .val (.long v14), .second, .val (.int (2 : Int32)), .val (.long v8), .second, .val (.long v11), .second, .val (.long v12), .second]) rfl d9_178 rfl (q := 181) ?_
          refine o_goto S d9_181 (by decide) (q := 98) (by decide) ?_
          refine o_iload S rfl d9_98 rfl (q := 100) ?_
          refine o_aloadN S rfl rfl d9_100 rfl (q := 101) ?_
          refine o_getF S (o_wd (i := 25) hw rfl) Via.refl F_length_r0 d9_101 rfl (q := 104) (fun T S => ?_)
          refine o_icmp S d9_104 (by decide) (q' := 184) (by decide) (q := 107) rfl (hs_ge (a := 2) (b := 2) rfl rfl).1 (hs_ge (a := 2) (b := 2) rfl rfl).2 (fun hc104 => ?_) (fun hc104 => ?_)
          · skip
            refine o_aloadN S rfl rfl d9_184 rfl (q := 185) ?_
            refine o_getF S (o_wd (i := 10) hw rfl) Via.refl F_digits_r0 d9_185 rfl (q := 188) (fun T S => ?_)
            refine o_aloadN S rfl rfl d9_188 rfl (q := 189) ?_
            refine o_getF S (o_wd (i := 25) hw rfl) Via.refl F_length_r0 d9_189 rfl (q := 192) (fun T S => ?_)
            refine o_lloadN S rfl d9_192 rfl (q := 193) ?_
            refine o_l2i S d9_193 rfl (q := 194) ?_
            refine o_iastore S (y := (v14.toInt32)) (ys := [(v4.toInt32), (v11.toInt32), (v14.toInt32), 0]) A_dg (by decide) (by show (2 : Int) < 4; decide) g_dg rfl rfl d9_194 rfl (q := 195) (fun T h15 S W A_dg => ?_)
            have E_r0 := Exa.wr W E_r0
            have F_digits_r0 := Fld.other W F_digits_r0 (Or.inl ne_r0_dg)
            have F_length_r0 := Fld.other W F_length_r0 (Or.inl ne_r0_dg)
            have F_negative_r0 := Fld.other W F_negative_r0 (Or.inl ne_r0_dg)
            have K := K.wr W (Or.inl (List.mem_of_getElem? (i := 1) rfl))
            refine o_aloadN S rfl rfl d9_195 rfl (q := 196) ?_
            refine o_getF S (o_wd (i := 10) hw rfl) Via.refl F_digits_r0 d9_196 rfl (q := 199) (fun T S => ?_)
            refine o_aloadN S rfl rfl d9_199 rfl (q := 200) ?_
            refine o_getF S (o_wd (i := 25) hw rfl) Via.refl F_length_r0 d9_200 rfl (q := 203) (fun T S => ?_)
            refine o_iconst S (z := 1) rfl d9_203 rfl (q := 204) ?_
            refine o_iadd S d9_204 rfl (q := 205) ?_
            refine o_lloadN S rfl d9_205 rfl (q := 206) ?_
            refine o_bipush S (z := 32) rfl d9_206 rfl (q := 208) ?_
            refine o_lushr S d9_208 rfl (q := 209) ?_
            refine o_l2i S d9_209 rfl (q := 210) ?_
            refine o_iastore S (y := (((v14.toUInt64 >>> ((32 : Int32) &&& 0x3f).toInt64.toUInt64).toInt64).toInt32)) (ys := [(v4.toInt32), (v11.toInt32), (v14.toInt32), (((v14.toUInt64 >>> ((32 : Int32) &&& 0x3f).toInt64.toUInt64).toInt64).toInt32)]) A_dg (by decide) (by show (3 : Int) < 4; decide) g_dg rfl rfl d9_210 rfl (q := 211) (fun T h16 S W A_dg => ?_)
            have E_r0 := Exa.wr W E_r0
            have F_digits_r0 := Fld.other W F_digits_r0 (Or.inl ne_r0_dg)
            have F_length_r0 := Fld.other W F_length_r0 (Or.inl ne_r0_dg)
            have F_negative_r0 := Fld.other W F_negative_r0 (Or.inl ne_r0_dg)
            have K := K.wr W (Or.inl (List.mem_of_getElem? (i := 1) rfl))
            refine o_aloadN S rfl rfl d9_211 rfl (q := 212) ?_
            refine o_dup S rfl d9_212 rfl (q := 213) ?_
            refine o_getF S (o_wd (i := 25) hw rfl) Via.refl F_length_r0 d9_213 rfl (q := 216) (fun T S => ?_)
            refine o_iconst S (z := 2) rfl d9_216 rfl (q := 217) ?_
            refine o_iadd S d9_217 rfl (q := 218) ?_
            refine o_putF S (o_wd (i := 25) hw rfl) Via.refl F_length_r0 E_r0 (Or.inl (o_wd (i := 26) hw rfl)) (o_wd (i := 1) hw rfl) (ty := .int) (by decide) rfl rfl g_r0 d9_218 rfl (q := 221) (fun T h17 S W F_length_r0 => ?_)
            have E_r0 := E_r0.wr W
            have F_digits_r0 := Fld.other W F_digits_r0 (Or.inr (slot_ne (Or.inl (o_wd (i := 11) hw rfl)) (Or.inl (o_wd (i := 26) hw rfl)) (by decide) (t := (.array .int)) (t' := .int) (by decide) (by decide)))
            have F_negative_r0 := Fld.other W F_negative_r0 (Or.inr (slot_ne (Or.inl (o_wd (i := 28) hw rfl)) (Or.inl (o_wd (i := 26) hw rfl)) (by decide) (t := .boolean) (t' := .int) (by decide) (by decide)))
            have A_dg := A_dg.other W (Ne.symm ne_r0_dg)
            have K := K.wr W (Or.inl (List.mem_of_getElem? (i := 0) rfl))
            refine o_aloadN S rfl rfl d9_221 rfl (q := 222) ?_
            refine o_callP S (W := 0) (argsL := []) (rest := []) (a := r0) (o_wd (i := 29) hw rfl) (o_wd (i := 30) hw rfl) (o_selP (o_wd (i := 1) hw rfl) (o_wd (i := 31) hw rfl) (o_wd (i := 30) hw rfl) (by decide)) (o_wd (i := 31) hw rfl) (o_wd (i := 2) hw rfl) (o_wd (i := 32) hw rfl) (by decide) E_r0 (ct_6 l Z a0 hw r0 dg ((2 : Int32) + (2 : Int32)) ng ([(v4.toInt32), (v11.toInt32), (v14.toInt32), (((v14.toUInt64 >>> ((32 : Int32) &&& 0x3f).toInt64.toUInt64).toInt64).toInt32)]) 4 h17 n0 (o_n0 S) E_r0 F_digits_r0 F_length_r0 F_negative_r0 A_dg g_r0 ne_r0_dg rfl (by show 4 ≤ 4; decide)) (by decide) (by decide) rfl rfl pd_2 rfl (Nat.le_of_eq rfl) d9_222 rfl (q := 225) (by decide) (by decide) (fun T h18 rr19 S hQ => ?_)
            obtain ⟨hv, K1, E_r0', F_digits_r0', F_length_r0', F_negative_r0'⟩ := hQ
            subst hv
            have A_dg := A_dg.keep K1 (ninS (Ne.symm ne_r0_dg) nin0)
            have K := K.trans K1 (allS (Or.inl (List.mem_of_getElem? (i := 0) rfl)) all0)
            have E_r0 := E_r0'
            have F_digits_r0 := F_digits_r0'
            have F_length_r0 := F_length_r0'
            have F_negative_r0 := F_negative_r0'
            show Wp p e below (Po s n0 rm_9n2 (Q_9n2 Z r0 q1 dg ng x0 x1 h0 n0)) T (mkF m 225 #[.val (.ref r0), .val (.long q1), .second, .val (.long v14), .second, .val (.int (2 : Int32)), .val (.long v8), .second, .val (.long v11), .second, .val (.long v12), .second] [])
            refine o_retV S rfl d9_225 (by decide) (by decide) ?_
            exact ⟨[(v4.toInt32), (v11.toInt32), (v14.toInt32), (((v14.toUInt64 >>> ((32 : Int32) &&& 0x3f).toInt64.toUInt64).toInt64).toInt32)], rfl, K, E_r0, F_digits_r0, F_length_r0, F_negative_r0, A_dg, rfl, mz_b2 hx0 hf0 hc37 hv1 hv2 hv3 hv4 hv5 hv7 hv8 hv9 hv10 hv11 hv12 hv14⟩
          · exact absurd hc104 (by decide)
    · skip
      refine o_iconst S (z := 0) rfl d9_40 rfl (q := 41) ?_
      refine o_istore S (L' := #[.val (.ref r0), .val (.long q1), .second, .val (.long (0 : Int64)), .second, .val (.int (0 : Int32)), .unset, .unset, .unset, .unset, .unset, .unset]) rfl d9_41 rfl (q := 43) ?_
      refine o_iload S rfl d9_43 rfl (q := 45) ?_
      refine o_aloadN S rfl rfl d9_45 rfl (q := 46) ?_
      refine o_getF S (o_wd (i := 25) hw rfl) Via.refl F_length_r0 d9_46 rfl (q := 49) (fun T S => ?_)
      refine o_icmp S d9_49 (by decide) (q' := 92) (by decide) (q := 52) rfl (hs_ge (a := 0) (b := 2) rfl rfl).1 (hs_ge (a := 0) (b := 2) rfl rfl).2 (fun hc49 => ?_) (fun hc49 => ?_)
      · exact absurd hc49 (by decide)
      · skip
        refine o_aloadN S rfl rfl d9_52 rfl (q := 53) ?_
        refine o_getF S (o_wd (i := 10) hw rfl) Via.refl F_digits_r0 d9_53 rfl (q := 56) (fun T S => ?_)
        refine o_iload S rfl d9_56 rfl (q := 58) ?_
        refine o_iaload S A_dg (by decide) (by show (0 : Int) < 4; decide) (v := x0) rfl d9_58 rfl (q := 59) ?_
        refine o_i2l S d9_59 rfl (q := 60) ?_
        refine o_ldc2 S (o_wd (i := 52) hw rfl) d9_60 rfl (q := 63) ?_
        refine o_land S d9_63 rfl (q := 64) ?_
        refine o_lloadN S rfl d9_64 rfl (q := 65) ?_
        refine o_lmul S d9_65 rfl (q := 66) ?_
        refine o_lloadN S rfl d9_66 rfl (q := 67) ?_
        refine o_ladd S d9_67 rfl (q := 68) ?_
        refine o_lstoreV S (L' := fun v20 => #[.val (.ref r0), .val (.long q1), .second, .val (.long (0 : Int64)), .second, .val (.int (0 : Int32)), .val (.long v20), .second, .unset, .unset, .unset, .unset]) (fun _ => rfl) d9_68 rfl (q := 70) (fun v20 hv20 => ?_)
        refine o_aloadN S rfl rfl d9_70 rfl (q := 71) ?_
        refine o_getF S (o_wd (i := 10) hw rfl) Via.refl F_digits_r0 d9_71 rfl (q := 74) (fun T S => ?_)
        refine o_iload S rfl d9_74 rfl (q := 76) ?_
        refine o_lload S rfl d9_76 rfl (q := 78) ?_
        refine o_l2i S d9_78 rfl (q := 79) ?_
        refine o_iastore S (y := (v20.toInt32)) (ys := [(v20.toInt32), x1, 0, 0]) A_dg (by decide) (by show (0 : Int) < 4; decide) g_dg rfl rfl d9_79 rfl (q := 80) (fun T h21 S W A_dg => ?_)
        have E_r0 := Exa.wr W E_r0
        have F_digits_r0 := Fld.other W F_digits_r0 (Or.inl ne_r0_dg)
        have F_length_r0 := Fld.other W F_length_r0 (Or.inl ne_r0_dg)
        have F_negative_r0 := Fld.other W F_negative_r0 (Or.inl ne_r0_dg)
        have K := K.wr W (Or.inl (List.mem_of_getElem? (i := 1) rfl))
        refine o_lload S rfl d9_80 rfl (q := 82) ?_
        refine o_bipush S (z := 32) rfl d9_82 rfl (q := 84) ?_
        refine o_lushr S d9_84 rfl (q := 85) ?_
        refine o_lstoreVN S (L' := fun v22 => #[.val (.ref r0), .val (.long q1), .second, .val (.long v22), .second, .val (.int (0 : Int32)), .val (.long v20), .second, .unset, .unset, .unset, .unset]) (fun _ => rfl) d9_85 rfl (q := 86) (fun v22 hv22 => ?_)
        refine o_iinc S rfl (L' := #[.val (.ref r0), .val (.long q1), .second, .val (.long v22), .second, .val (.int (1 : Int32)), .val (.long v20), .second, .unset, .unset, .unset, .unset]) rfl d9_86 rfl (q := 89) ?_
        refine o_goto S d9_89 (by decide) (q := 43) (by decide) ?_
        refine o_iload S rfl d9_43 rfl (q := 45) ?_
        refine o_aloadN S rfl rfl d9_45 rfl (q := 46) ?_
        refine o_getF S (o_wd (i := 25) hw rfl) Via.refl F_length_r0 d9_46 rfl (q := 49) (fun T S => ?_)
        refine o_icmp S d9_49 (by decide) (q' := 92) (by decide) (q := 52) rfl (hs_ge (a := 1) (b := 2) rfl rfl).1 (hs_ge (a := 1) (b := 2) rfl rfl).2 (fun hc49 => ?_) (fun hc49 => ?_)
        · exact absurd hc49 (by decide)
        · skip
          refine o_aloadN S rfl rfl d9_52 rfl (q := 53) ?_
          refine o_getF S (o_wd (i := 10) hw rfl) Via.refl F_digits_r0 d9_53 rfl (q := 56) (fun T S => ?_)
          refine o_iload S rfl d9_56 rfl (q := 58) ?_
          refine o_iaload S A_dg (by decide) (by show (1 : Int) < 4; decide) (v := x1) rfl d9_58 rfl (q := 59) ?_
          refine o_i2l S d9_59 rfl (q := 60) ?_
          refine o_ldc2 S (o_wd (i := 52) hw rfl) d9_60 rfl (q := 63) ?_
          refine o_land S d9_63 rfl (q := 64) ?_
          refine o_lloadN S rfl d9_64 rfl (q := 65) ?_
          refine o_lmul S d9_65 rfl (q := 66) ?_
          refine o_lloadN S rfl d9_66 rfl (q := 67) ?_
          refine o_ladd S d9_67 rfl (q := 68) ?_
          refine o_lstoreV S (L' := fun v23 => #[.val (.ref r0), .val (.long q1), .second, .val (.long v22), .second, .val (.int (1 : Int32)), .val (.long v23), .second, .unset, .unset, .unset, .unset]) (fun _ => rfl) d9_68 rfl (q := 70) (fun v23 hv23 => ?_)
          refine o_aloadN S rfl rfl d9_70 rfl (q := 71) ?_
          refine o_getF S (o_wd (i := 10) hw rfl) Via.refl F_digits_r0 d9_71 rfl (q := 74) (fun T S => ?_)
          refine o_iload S rfl d9_74 rfl (q := 76) ?_
          refine o_lload S rfl d9_76 rfl (q := 78) ?_
          refine o_l2i S d9_78 rfl (q := 79) ?_
          refine o_iastore S (y := (v23.toInt32)) (ys := [(v20.toInt32), (v23.toInt32), 0, 0]) A_dg (by decide) (by show (1 : Int) < 4; decide) g_dg rfl rfl d9_79 rfl (q := 80) (fun T h24 S W A_dg => ?_)
          have E_r0 := Exa.wr W E_r0
          have F_digits_r0 := Fld.other W F_digits_r0 (Or.inl ne_r0_dg)
          have F_length_r0 := Fld.other W F_length_r0 (Or.inl ne_r0_dg)
          have F_negative_r0 := Fld.other W F_negative_r0 (Or.inl ne_r0_dg)
          have K := K.wr W (Or.inl (List.mem_of_getElem? (i := 1) rfl))
          refine o_lload S rfl d9_80 rfl (q := 82) ?_
          refine o_bipush S (z := 32) rfl d9_82 rfl (q := 84) ?_
          refine o_lushr S d9_84 rfl (q := 85) ?_
          refine o_lstoreVN S (L' := fun v25 => #[.val (.ref r0), .val (.long q1), .second, .val (.long v25), .second, .val (.int (1 : Int32)), .val (.long v23), .second, .unset, .unset, .unset, .unset]) (fun _ => rfl) d9_85 rfl (q := 86) (fun v25 hv25 => ?_)
          refine o_iinc S rfl (L' := #[.val (.ref r0), .val (.long q1), .second, .val (.long v25), .second, .val (.int (2 : Int32)), .val (.long v23), .second, .unset, .unset, .unset, .unset]) rfl d9_86 rfl (q := 89) ?_
          refine o_goto S d9_89 (by decide) (q := 43) (by decide) ?_
          refine o_iload S rfl d9_43 rfl (q := 45) ?_
          refine o_aloadN S rfl rfl d9_45 rfl (q := 46) ?_
          refine o_getF S (o_wd (i := 25) hw rfl) Via.refl F_length_r0 d9_46 rfl (q := 49) (fun T S => ?_)
          refine o_icmp S d9_49 (by decide) (q' := 92) (by decide) (q := 52) rfl (hs_ge (a := 2) (b := 2) rfl rfl).1 (hs_ge (a := 2) (b := 2) rfl rfl).2 (fun hc49 => ?_) (fun hc49 => ?_)
          · skip
            refine o_goto S d9_92 (by decide) (q := 184) (by decide) ?_
            refine o_aloadN S rfl rfl d9_184 rfl (q := 185) ?_
            refine o_getF S (o_wd (i := 10) hw rfl) Via.refl F_digits_r0 d9_185 rfl (q := 188) (fun T S => ?_)
            refine o_aloadN S rfl rfl d9_188 rfl (q := 189) ?_
            refine o_getF S (o_wd (i := 25) hw rfl) Via.refl F_length_r0 d9_189 rfl (q := 192) (fun T S => ?_)
            refine o_lloadN S rfl d9_192 rfl (q := 193) ?_
            refine o_l2i S d9_193 rfl (q := 194) ?_
            refine o_iastore S (y := (v25.toInt32)) (ys := [(v20.toInt32), (v23.toInt32), (v25.toInt32), 0]) A_dg (by decide) (by show (2 : Int) < 4; decide) g_dg rfl rfl d9_194 rfl (q := 195) (fun T h26 S W A_dg => ?_)
            have E_r0 := Exa.wr W E_r0
            have F_digits_r0 := Fld.other W F_digits_r0 (Or.inl ne_r0_dg)
            have F_length_r0 := Fld.other W F_length_r0 (Or.inl ne_r0_dg)
            have F_negative_r0 := Fld.other W F_negative_r0 (Or.inl ne_r0_dg)
            have K := K.wr W (Or.inl (List.mem_of_getElem? (i := 1) rfl))
            refine o_aloadN S rfl rfl d9_195 rfl (q := 196) ?_
            refine o_getF S (o_wd (i := 10) hw rfl) Via.refl F_digits_r0 d9_196 rfl (q := 199) (fun T S => ?_)
            refine o_aloadN S rfl rfl d9_199 rfl (q := 200) ?_
            refine o_getF S (o_wd (i := 25) hw rfl) Via.refl F_length_r0 d9_200 rfl (q := 203) (fun T S => ?_)
            refine o_iconst S (z := 1) rfl d9_203 rfl (q := 204) ?_
            refine o_iadd S d9_204 rfl (q := 205) ?_
            refine o_lloadN S rfl d9_205 rfl (q := 206) ?_
            refine o_bipush S (z := 32) rfl d9_206 rfl (q := 208) ?_
            refine o_lushr S d9_208 rfl (q := 209) ?_
            refine o_l2i S d9_209 rfl (q := 210) ?_
            refine o_iastore S (y := (((v25.toUInt64 >>> ((32 : Int32) &&& 0x3f).toInt64.toUInt64).toInt64).toInt32)) (ys := [(v20.toInt32), (v23.toInt32), (v25.toInt32), (((v25.toUInt64 >>> ((32 : Int32) &&& 0x3f).toInt64.toUInt64).toInt64).toInt32)]) A_dg (by decide) (by show (3 : Int) < 4; decide) g_dg rfl rfl d9_210 rfl (q := 211) (fun T h27 S W A_dg => ?_)
            have E_r0 := Exa.wr W E_r0
            have F_digits_r0 := Fld.other W F_digits_r0 (Or.inl ne_r0_dg)
            have F_length_r0 := Fld.other W F_length_r0 (Or.inl ne_r0_dg)
            have F_negative_r0 := Fld.other W F_negative_r0 (Or.inl ne_r0_dg)
            have K := K.wr W (Or.inl (List.mem_of_getElem? (i := 1) rfl))
            refine o_aloadN S rfl rfl d9_211 rfl (q := 212) ?_
            refine o_dup S rfl d9_212 rfl (q := 213) ?_
            refine o_getF S (o_wd (i := 25) hw rfl) Via.refl F_length_r0 d9_213 rfl (q := 216) (fun T S => ?_)
            refine o_iconst S (z := 2) rfl d9_216 rfl (q := 217) ?_
            refine o_iadd S d9_217 rfl (q := 218) ?_
            refine o_putF S (o_wd (i := 25) hw rfl) Via.refl F_length_r0 E_r0 (Or.inl (o_wd (i := 26) hw rfl)) (o_wd (i := 1) hw rfl) (ty := .int) (by decide) rfl rfl g_r0 d9_218 rfl (q := 221) (fun T h28 S W F_length_r0 => ?_)
            have E_r0 := E_r0.wr W
            have F_digits_r0 := Fld.other W F_digits_r0 (Or.inr (slot_ne (Or.inl (o_wd (i := 11) hw rfl)) (Or.inl (o_wd (i := 26) hw rfl)) (by decide) (t := (.array .int)) (t' := .int) (by decide) (by decide)))
            have F_negative_r0 := Fld.other W F_negative_r0 (Or.inr (slot_ne (Or.inl (o_wd (i := 28) hw rfl)) (Or.inl (o_wd (i := 26) hw rfl)) (by decide) (t := .boolean) (t' := .int) (by decide) (by decide)))
            have A_dg := A_dg.other W (Ne.symm ne_r0_dg)
            have K := K.wr W (Or.inl (List.mem_of_getElem? (i := 0) rfl))
            refine o_aloadN S rfl rfl d9_221 rfl (q := 222) ?_
            refine o_callP S (W := 0) (argsL := []) (rest := []) (a := r0) (o_wd (i := 29) hw rfl) (o_wd (i := 30) hw rfl) (o_selP (o_wd (i := 1) hw rfl) (o_wd (i := 31) hw rfl) (o_wd (i := 30) hw rfl) (by decide)) (o_wd (i := 31) hw rfl) (o_wd (i := 2) hw rfl) (o_wd (i := 32) hw rfl) (by decide) E_r0 (ct_6 l Z a0 hw r0 dg ((2 : Int32) + (2 : Int32)) ng ([(v20.toInt32), (v23.toInt32), (v25.toInt32), (((v25.toUInt64 >>> ((32 : Int32) &&& 0x3f).toInt64.toUInt64).toInt64).toInt32)]) 4 h28 n0 (o_n0 S) E_r0 F_digits_r0 F_length_r0 F_negative_r0 A_dg g_r0 ne_r0_dg rfl (by show 4 ≤ 4; decide)) (by decide) (by decide) rfl rfl pd_2 rfl (Nat.le_of_eq rfl) d9_222 rfl (q := 225) (by decide) (by decide) (fun T h29 rr30 S hQ => ?_)
            obtain ⟨hv, K1, E_r0', F_digits_r0', F_length_r0', F_negative_r0'⟩ := hQ
            subst hv
            have A_dg := A_dg.keep K1 (ninS (Ne.symm ne_r0_dg) nin0)
            have K := K.trans K1 (allS (Or.inl (List.mem_of_getElem? (i := 0) rfl)) all0)
            have E_r0 := E_r0'
            have F_digits_r0 := F_digits_r0'
            have F_length_r0 := F_length_r0'
            have F_negative_r0 := F_negative_r0'
            show Wp p e below (Po s n0 rm_9n2 (Q_9n2 Z r0 q1 dg ng x0 x1 h0 n0)) T (mkF m 225 #[.val (.ref r0), .val (.long q1), .second, .val (.long v25), .second, .val (.int (2 : Int32)), .val (.long v23), .second, .unset, .unset, .unset, .unset] [])
            refine o_retV S rfl d9_225 (by decide) (by decide) ?_
            exact ⟨[(v20.toInt32), (v23.toInt32), (v25.toInt32), (((v25.toUInt64 >>> ((32 : Int32) &&& 0x3f).toInt64.toUInt64).toInt64).toInt32)], rfl, K, E_r0, F_digits_r0, F_length_r0, F_negative_r0, A_dg, rfl, mz_a2 hx0 hf0 hc37 hv20 hv22 hv23 hv25⟩
          · exact absurd hc49 (by decide)
  · exact absurd hf0 hc3
def cpL (ys : List Int32) (nn : Nat) : List Int32 := ys.take nn ++ ([0, 0, 0, 0] : List Int32).drop nn
theorem cpL_len {ys : List Int32} {nn : Nat} (h : nn ≤ 4) (hy : ys.length = 4) : (cpL ys nn).length = 4 := by
  rw [cpL, List.length_append, List.length_take, List.length_drop, hy]; show min nn 4 + (4 - nn) = 4; omega
theorem cpL_get {ys : List Int32} {nn : Nat} (h : nn ≤ 4) (hy : ys.length = 4) : ∀ i, i < nn → (cpL ys nn).getD i 0 = ys.getD i 0 := by
  intro i hi
  rw [cpL, List.getD_eq_getElem?_getD, List.getElem?_append_left (by rw [List.length_take]; omega), List.getElem?_take_of_lt hi, ← List.getD_eq_getElem?_getD]
theorem ic_self (x : Int32) : f_ic x x = 0 := by rw [f_ic, if_pos (Int.le_refl _), if_neg (fun q => q rfl)]
theorem icu_self (x : Int32) : f_icu x x = 0 := ic_self _
theorem lsub0 (a : Int64) : a - a - (0 : Int64) = 0 := by
  have h1 := c_lsub a a; have h2 := c_lsub (a - a) (0 : Int64); have z : (0 : Int64).toInt = 0 := rfl; have r := rng64 (a - a - (0 : Int64))
  exact e64 (by show _ = (0 : Int); omega)
theorem inc1 {j : Int32} (h0 : 0 ≤ j.toInt) (h : j.toInt < 4) : (j + (1 : Int32)).toInt = j.toInt + 1 := by
  have := c_iadd j 1; have := rng32 (j + (1 : Int32)); have : (1 : Int32).toInt = 1 := rfl; omega
theorem st_z {zs : List Int32} {j : Int32} (hl : zs.length = 4) (h0 : 0 ≤ j.toInt) (h4 : j.toInt < 4) (h1 : ∀ i : Nat, (i : Int) < j.toInt → zs.getD i 0 = 0) : ∀ i : Nat, (i : Int) < (j + (1 : Int32)).toInt → (zs.set j.toNatClampNeg ((0 : Int64).toInt32)).getD i 0 = 0 := by
  intro i hi
  have := (o_nat h0).2
  rw [inc1 h0 h4] at hi
  by_cases e : j.toNatClampNeg = i
  · subst e; rw [List.getD_eq_getElem?_getD, List.getElem?_set_self (by omega)]; rfl
  · rw [List.getD_eq_getElem?_getD, List.getElem?_set_ne e, ← List.getD_eq_getElem?_getD]; exact h1 i (by omega)
theorem st_o {zs ys : List Int32} {j : Int32} {nn : Nat} (h0 : 0 ≤ j.toInt) (h4 : j.toInt < 4) (h1 : ∀ i : Nat, j.toInt ≤ (i : Int) → i < nn → zs.getD i 0 = ys.getD i 0) : ∀ i : Nat, (j + (1 : Int32)).toInt ≤ (i : Int) → i < nn → (zs.set j.toNatClampNeg ((0 : Int64).toInt32)).getD i 0 = ys.getD i 0 := by
  intro i hi hn
  have := (o_nat h0).2
  rw [inc1 h0 h4] at hi
  rw [List.getD_eq_getElem?_getD, List.getElem?_set_ne (by omega), ← List.getD_eq_getElem?_getD]; exact h1 i (by omega) hn
theorem neg_ne {g v : Int32} (hv : v = (if ¬ g = (0 : Int32) then (0 : Int32) else (1 : Int32))) : ¬ g = v := by
  by_cases q : g = 0
  · rw [hv, if_neg (fun z => z q), q]; decide
  · rw [hv, if_pos q]; exact q
theorem ofn_pred {n : Nat} (h : n < 2147483648) : ((Int32.ofNat n) - (1 : Int32)).toInt + 1 = n := by
  have := c_isub (Int32.ofNat n) 1; have := ofnI h; have := rng32 ((Int32.ofNat n) - (1 : Int32)); have : (1 : Int32).toInt = 1 := rfl; omega
def Q_11 (Z : State) (r0 : Addr) (r1 : Addr) (dg : Addr) (d1 : Addr) (ng : Int32) (ys : List Int32) (nn : Nat) (h0 : Heap) (n0 : Nat) : Option Value → Heap → Prop := fun v h => v = none ∧ Keep h0 h [r0, dg] ∧ Exa Z h r0 "com/example/krofusmidur/krofusmidur/amounts/MutableInteger" ∧ Fld Z h r0 "com/example/krofusmidur/krofusmidur/amounts/MutableInteger" "digits" "[I" (.ref dg) ∧ Fld Z h r0 "com/example/krofusmidur/krofusmidur/amounts/MutableInteger" "length" "I" (.int (Int32.ofNat nn)) ∧ Fld Z h r0 "com/example/krofusmidur/krofusmidur/amounts/MutableInteger" "negative" "Z" (.int ng) ∧ IA Z h dg .int (cpL ys nn)
theorem d11_0 : decode prog_35_method_3_code 0 = .ok (.aload_n 0, 1) := by decide +kernel
theorem d11_1 : decode prog_35_method_3_code 1 = .ok (.aload_n 1, 1) := by decide +kernel
theorem d11_2 : decode prog_35_method_3_code 2 = .ok (.getfield 23, 3) := by decide +kernel
theorem d11_5 : decode prog_35_method_3_code 5 = .ok (.invokevirtual 34, 3) := by decide +kernel
theorem d11_8 : decode prog_35_method_3_code 8 = .ok (.aload_n 1, 1) := by decide +kernel
theorem d11_9 : decode prog_35_method_3_code 9 = .ok (.getfield 7, 3) := by decide +kernel
theorem d11_12 : decode prog_35_method_3_code 12 = .ok (.iconst 0, 1) := by decide +kernel
theorem d11_13 : decode prog_35_method_3_code 13 = .ok (.aload_n 0, 1) := by decide +kernel
theorem d11_14 : decode prog_35_method_3_code 14 = .ok (.getfield 7, 3) := by decide +kernel
theorem d11_17 : decode prog_35_method_3_code 17 = .ok (.iconst 0, 1) := by decide +kernel
theorem d11_18 : decode prog_35_method_3_code 18 = .ok (.aload_n 1, 1) := by decide +kernel
theorem d11_19 : decode prog_35_method_3_code 19 = .ok (.getfield 23, 3) := by decide +kernel
theorem d11_22 : decode prog_35_method_3_code 22 = .ok (.invokestatic 37, 3) := by decide +kernel
theorem d11_25 : decode prog_35_method_3_code 25 = .ok (.aload_n 0, 1) := by decide +kernel
theorem d11_26 : decode prog_35_method_3_code 26 = .ok (.aload_n 1, 1) := by decide +kernel
theorem d11_27 : decode prog_35_method_3_code 27 = .ok (.getfield 23, 3) := by decide +kernel
theorem d11_30 : decode prog_35_method_3_code 30 = .ok (.invokevirtual 19, 3) := by decide +kernel
theorem d11_33 : decode prog_35_method_3_code 33 = .ok (.aload_n 0, 1) := by decide +kernel
theorem d11_34 : decode prog_35_method_3_code 34 = .ok (.aload_n 1, 1) := by decide +kernel
theorem d11_35 : decode prog_35_method_3_code 35 = .ok (.getfield 23, 3) := by decide +kernel
theorem d11_38 : decode prog_35_method_3_code 38 = .ok (.putfield 23, 3) := by decide +kernel
theorem d11_41 : decode prog_35_method_3_code 41 = .ok (.aload_n 0, 1) := by decide +kernel
theorem d11_42 : decode prog_35_method_3_code 42 = .ok (.aload_n 1, 1) := by decide +kernel
theorem d11_43 : decode prog_35_method_3_code 43 = .ok (.getfield 27, 3) := by decide +kernel
theorem d11_46 : decode prog_35_method_3_code 46 = .ok (.putfield 27, 3) := by decide +kernel
theorem d11_49 : decode prog_35_method_3_code 49 = .ok (.return_, 1) := by decide +kernel
def rm_11 : Room := ({ frames := 1, cells := 0, slots := 0, locals := 18 } : Room)
theorem pn_11 : plainFor (⟨"com/example/krofusmidur/krofusmidur/amounts/MutableInteger", "set", "(Lcom/example/krofusmidur/krofusmidur/amounts/MutableInteger;)V"⟩ : MethodName) = true := plainFor_of_name (by first | (simp [plainName, overriddenIn]; done) | (simp [plainName, overriddenIn, x]; done) | decide +kernel)
theorem ef_11 (r0 : Addr) (r1 : Addr) (m : MethodId) : entryFrame m #[(.ref r0), (.ref r1)] 2 = mkF m 0 #[.val (.ref r0), .val (.ref r1)] [] := by first | (simp [entryFrame, mkF, argsToLocals, Value.category]; done) | rfl
set_option maxRecDepth 65536 in
set_option maxHeartbeats 40000000 in
theorem ct_11 (l : Launch) (Z : State) (a0 : Array Value) (hw : ∀ d ∈ tables_1, d.before a0 Z = true) (r0 : Addr) (r1 : Addr) (dg : Addr) (d1 : Addr) (ng : Int32) (ys : List Int32) (nn : Nat) (h0 : Heap) (n0 : Nat) (hn : n0 ≤ h0.size) (E_r0 : Exa Z h0 r0 "com/example/krofusmidur/krofusmidur/amounts/MutableInteger") (F_digits_r0 : Fld Z h0 r0 "com/example/krofusmidur/krofusmidur/amounts/MutableInteger" "digits" "[I" (.ref dg)) (F_length_r0 : Fld Z h0 r0 "com/example/krofusmidur/krofusmidur/amounts/MutableInteger" "length" "I" (.int (0 : Int32))) (F_negative_r0 : Fld Z h0 r0 "com/example/krofusmidur/krofusmidur/amounts/MutableInteger" "negative" "Z" (.int (0 : Int32))) (A_dg : IA Z h0 dg .int ([0, 0, 0, 0])) (E_r1 : Exa Z h0 r1 "com/example/krofusmidur/krofusmidur/amounts/MutableInteger") (F_digits_r1 : Fld Z h0 r1 "com/example/krofusmidur/krofusmidur/amounts/MutableInteger" "digits" "[I" (.ref d1)) (F_length_r1 : Fld Z h0 r1 "com/example/krofusmidur/krofusmidur/amounts/MutableInteger" "length" "I" (.int (Int32.ofNat nn))) (F_negative_r1 : Fld Z h0 r1 "com/example/krofusmidur/krofusmidur/amounts/MutableInteger" "negative" "Z" (.int ng)) (A_d1 : IA Z h0 d1 .int (ys)) (g_r0 : n0 ≤ r0) (g_dg : n0 ≤ dg) (ne_r0_dg : r0 ≠ dg) (ne_r0_r1 : r0 ≠ r1) (ne_r0_d1 : r0 ≠ d1) (ne_dg_r1 : dg ≠ r1) (ne_dg_d1 : dg ≠ d1) (hnn : nn ≤ 4) (hyl : ys.length = 4) (hng : ng = 0 ∨ ng = 1) : Ct l (⟨"com/example/krofusmidur/krofusmidur/amounts/MutableInteger", "set", "(Lcom/example/krofusmidur/krofusmidur/amounts/MutableInteger;)V"⟩ : MethodName) prog_35_method_3_code 2 none [] rm_11 Z h0 n0 #[(.ref r0), (.ref r1)] (Q_11 Z r0 r1 dg d1 ng ys nn h0 n0) := by
  refine o_body pn_11 hn (ef_11 r0 r1) ?_
  intro p e s m below meth c T S
  have K : Keep h0 h0 [r0, dg] := Keep.refl _ _
  refine o_aloadN S rfl rfl d11_0 rfl (q := 1) ?_
  refine o_aloadN S rfl rfl d11_1 rfl (q := 2) ?_
  refine o_getF S (o_wd (i := 25) hw rfl) Via.refl F_length_r1 d11_2 rfl (q := 5) (fun T S => ?_)
  refine o_callP0 S (W := 0) (argsL := [(.int (Int32.ofNat nn))]) (rest := []) (a := r0) (o_wd (i := 48) hw rfl) (o_wd (i := 49) hw rfl) (o_selP (o_wd (i := 1) hw rfl) (o_wd (i := 50) hw rfl) (o_wd (i := 49) hw rfl) (by decide)) (o_wd (i := 50) hw rfl) (o_wd (i := 2) hw rfl) (o_wd (i := 51) hw rfl) (by decide) E_r0 (ct_10 l Z a0 hw r0 (Int32.ofNat nn) dg ([0, 0, 0, 0]) h0 n0 (o_n0 S) E_r0 F_digits_r0 A_dg rfl (by rw [ofnI (by omega)]; omega)) (by decide) (by decide) rfl rfl pd_1 rfl (Nat.le_of_eq rfl) d11_5 rfl (q := 8) (by decide) (by decide) rfl (st' := []) (fun T S => ?_)
  refine o_aloadN S rfl rfl d11_8 rfl (q := 9) ?_
  refine o_getF S (o_wd (i := 10) hw rfl) Via.refl F_digits_r1 d11_9 rfl (q := 12) (fun T S => ?_)
  refine o_iconst S (z := 0) rfl d11_12 rfl (q := 13) ?_
  refine o_aloadN S rfl rfl d11_13 rfl (q := 14) ?_
  refine o_getF S (o_wd (i := 10) hw rfl) Via.refl F_digits_r0 d11_14 rfl (q := 17) (fun T S => ?_)
  refine o_iconst S (z := 0) rfl d11_17 rfl (q := 18) ?_
  refine o_aloadN S rfl rfl d11_18 rfl (q := 19) ?_
  refine o_getF S (o_wd (i := 25) hw rfl) Via.refl F_length_r1 d11_19 rfl (q := 22) (fun T S => ?_)
  refine o_acopy S (W := 0) (zs := (ys.take (Int32.ofNat nn).toNatClampNeg ++ ([0, 0, 0, 0] : List Int32).drop (Int32.ofNat nn).toNatClampNeg)) (o_wd (i := 58) hw rfl) (o_wd (i := 61) hw rfl) (o_wd (i := 59) hw rfl) (o_wd (i := 60) hw rfl) A_d1 A_dg rfl (by rw [ofnI (by omega)]; omega) (by rw [ofnI (by omega), hyl]; omega) (by rw [ofnI (by omega)]; show (nn : Int) ≤ 4; omega) rfl g_dg rfl d11_22 rfl (q := 25) (by decide) (Nat.le_of_eq rfl) (by decide) (fun T h1 S K1 A_dg' => ?_)
  have E_r0 := E_r0.keep K1
  have F_digits_r0 := F_digits_r0.keep K1 (ninS ne_r0_dg nin0)
  have F_length_r0 := F_length_r0.keep K1 (ninS ne_r0_dg nin0)
  have F_negative_r0 := F_negative_r0.keep K1 (ninS ne_r0_dg nin0)
  have E_r1 := E_r1.keep K1
  have F_digits_r1 := F_digits_r1.keep K1 (ninS (Ne.symm ne_dg_r1) nin0)
  have F_length_r1 := F_length_r1.keep K1 (ninS (Ne.symm ne_dg_r1) nin0)
  have F_negative_r1 := F_negative_r1.keep K1 (ninS (Ne.symm ne_dg_r1) nin0)
  have A_d1 := A_d1.keep K1 (ninS (Ne.symm ne_dg_d1) nin0)
  have K := K.trans K1 (allS (Or.inl (List.mem_of_getElem? (i := 1) rfl)) all0)
  have A_dg := A_dg'
  refine o_aloadN S rfl rfl d11_25 rfl (q := 26) ?_
  refine o_aloadN S rfl rfl d11_26 rfl (q := 27) ?_
  refine o_getF S (o_wd (i := 25) hw rfl) Via.refl F_length_r1 d11_27 rfl (q := 30) (fun T S => ?_)
  refine o_callP0 S (W := 0) (argsL := [(.int (Int32.ofNat nn))]) (rest := []) (a := r0) (o_wd (i := 21) hw rfl) (o_wd (i := 22) hw rfl) (o_selP (o_wd (i := 1) hw rfl) (o_wd (i := 23) hw rfl) (o_wd (i := 22) hw rfl) (by decide)) (o_wd (i := 23) hw rfl) (o_wd (i := 2) hw rfl) (o_wd (i := 24) hw rfl) (by decide) E_r0 (ct_5 l Z a0 hw r0 (Int32.ofNat nn) (0 : Int32) h1 n0 (o_n0 S) E_r0 F_length_r0 (by show (0 : Int) ≤ _; rw [ofnI (by omega)]; omega)) (by decide) (by decide) rfl rfl pd_1 rfl (Nat.le_of_eq rfl) d11_30 rfl (q := 33) (by decide) (by decide) rfl (st' := []) (fun T S => ?_)
  refine o_aloadN S rfl rfl d11_33 rfl (q := 34) ?_
  refine o_aloadN S rfl rfl d11_34 rfl (q := 35) ?_
  refine o_getF S (o_wd (i := 25) hw rfl) Via.refl F_length_r1 d11_35 rfl (q := 38) (fun T S => ?_)
  refine o_putF S (o_wd (i := 25) hw rfl) Via.refl F_length_r0 E_r0 (Or.inl (o_wd (i := 26) hw rfl)) (o_wd (i := 1) hw rfl) (ty := .int) (by decide) rfl rfl g_r0 d11_38 rfl (q := 41) (fun T h2 S W F_length_r0 => ?_)
  have E_r0 := E_r0.wr W
  have F_digits_r0 := Fld.other W F_digits_r0 (Or.inr (slot_ne (Or.inl (o_wd (i := 11) hw rfl)) (Or.inl (o_wd (i := 26) hw rfl)) (by decide) (t := (.array .int)) (t' := .int) (by decide) (by decide)))
  have F_negative_r0 := Fld.other W F_negative_r0 (Or.inr (slot_ne (Or.inl (o_wd (i := 28) hw rfl)) (Or.inl (o_wd (i := 26) hw rfl)) (by decide) (t := .boolean) (t' := .int) (by decide) (by decide)))
  have A_dg := A_dg.other W (Ne.symm ne_r0_dg)
  have E_r1 := E_r1.wr W
  have F_digits_r1 := Fld.other W F_digits_r1 (Or.inl (Ne.symm ne_r0_r1))
  have F_length_r1 := Fld.other W F_length_r1 (Or.inl (Ne.symm ne_r0_r1))
  have F_negative_r1 := Fld.other W F_negative_r1 (Or.inl (Ne.symm ne_r0_r1))
  have A_d1 := A_d1.other W (Ne.symm ne_r0_d1)
  have K := K.wr W (Or.inl (List.mem_of_getElem? (i := 0) rfl))
  refine o_aloadN S rfl rfl d11_41 rfl (q := 42) ?_
  refine o_aloadN S rfl rfl d11_42 rfl (q := 43) ?_
  refine o_getF S (o_wd (i := 27) hw rfl) Via.refl F_negative_r1 d11_43 rfl (q := 46) (fun T S => ?_)
  refine o_putF S (o_wd (i := 27) hw rfl) Via.refl F_negative_r0 E_r0 (Or.inl (o_wd (i := 28) hw rfl)) (o_wd (i := 1) hw rfl) (ty := .boolean) (by decide) (o_narZ hng) (by rcases hng with q | q <;> subst q <;> rfl) g_r0 d11_46 rfl (q := 49) (fun T h3 S W F_negative_r0 => ?_)
  have E_r0 := E_r0.wr W
  have F_digits_r0 := Fld.other W F_digits_r0 (Or.inr (slot_ne (Or.inl (o_wd (i := 11) hw rfl)) (Or.inl (o_wd (i := 28) hw rfl)) (by decide) (t := (.array .int)) (t' := .boolean) (by decide) (by decide)))
  have F_length_r0 := Fld.other W F_length_r0 (Or.inr (slot_ne (Or.inl (o_wd (i := 26) hw rfl)) (Or.inl (o_wd (i := 28) hw rfl)) (by decide) (t := .int) (t' := .boolean) (by decide) (by decide)))
  have A_dg := A_dg.other W (Ne.symm ne_r0_dg)
  have E_r1 := E_r1.wr W
  have F_digits_r1 := Fld.other W F_digits_r1 (Or.inl (Ne.symm ne_r0_r1))
  have F_length_r1 := Fld.other W F_length_r1 (Or.inl (Ne.symm ne_r0_r1))
  have F_negative_r1 := Fld.other W F_negative_r1 (Or.inl (Ne.symm ne_r0_r1))
  have A_d1 := A_d1.other W (Ne.symm ne_r0_d1)
  have K := K.wr W (Or.inl (List.mem_of_getElem? (i := 0) rfl))
  refine o_retV S rfl d11_49 (by decide) (by decide) ?_
  exact ⟨rfl, K, E_r0, F_digits_r0, F_length_r0, F_negative_r0, (by have q := A_dg; rw [(ofn32 (by omega)).2] at q; exact q)⟩
theorem d14_0 : decode prog_35_method_15_code 0 = .ok (.aload_n 0, 1) := by decide +kernel
theorem d14_1 : decode prog_35_method_15_code 1 = .ok (.getfield 23, 3) := by decide +kernel
theorem d14_4 : decode prog_35_method_15_code 4 = .ok (.aload_n 1, 1) := by decide +kernel
theorem d14_5 : decode prog_35_method_15_code 5 = .ok (.getfield 23, 3) := by decide +kernel
theorem d14_8 : decode prog_35_method_15_code 8 = .ok (.invokestatic 52, 3) := by decide +kernel
theorem d14_11 : decode prog_35_method_15_code 11 = .ok (.istore_n 2, 1) := by decide +kernel
theorem d14_12 : decode prog_35_method_15_code 12 = .ok (.aload_n 0, 1) := by decide +kernel
theorem d14_13 : decode prog_35_method_15_code 13 = .ok (.getfield 23, 3) := by decide +kernel
theorem d14_16 : decode prog_35_method_15_code 16 = .ok (.iconst 1, 1) := by decide +kernel
theorem d14_17 : decode prog_35_method_15_code 17 = .ok (.isub, 1) := by decide +kernel
theorem d14_18 : decode prog_35_method_15_code 18 = .ok (.istore_n 3, 1) := by decide +kernel
theorem d14_19 : decode prog_35_method_15_code 19 = .ok (.iload_n 2, 1) := by decide +kernel
theorem d14_20 : decode prog_35_method_15_code 20 = .ok (.ifCond .ne 29, 3) := by decide +kernel
theorem d14_23 : decode prog_35_method_15_code 23 = .ok (.iload_n 3, 1) := by decide +kernel
theorem d14_24 : decode prog_35_method_15_code 24 = .ok (.ifCond .lt 25, 3) := by decide +kernel
theorem d14_27 : decode prog_35_method_15_code 27 = .ok (.aload_n 0, 1) := by decide +kernel
theorem d14_28 : decode prog_35_method_15_code 28 = .ok (.getfield 7, 3) := by decide +kernel
theorem d14_31 : decode prog_35_method_15_code 31 = .ok (.iload_n 3, 1) := by decide +kernel
theorem d14_32 : decode prog_35_method_15_code 32 = .ok (.iaload, 1) := by decide +kernel
theorem d14_33 : decode prog_35_method_15_code 33 = .ok (.aload_n 1, 1) := by decide +kernel
theorem d14_34 : decode prog_35_method_15_code 34 = .ok (.getfield 7, 3) := by decide +kernel
theorem d14_37 : decode prog_35_method_15_code 37 = .ok (.iload_n 3, 1) := by decide +kernel
theorem d14_38 : decode prog_35_method_15_code 38 = .ok (.iaload, 1) := by decide +kernel
theorem d14_39 : decode prog_35_method_15_code 39 = .ok (.invokestatic 151, 3) := by decide +kernel
theorem d14_42 : decode prog_35_method_15_code 42 = .ok (.istore_n 2, 1) := by decide +kernel
theorem d14_43 : decode prog_35_method_15_code 43 = .ok (.iinc 3 (-1), 3) := by decide +kernel
theorem d14_46 : decode prog_35_method_15_code 46 = .ok (.goto (-27), 3) := by decide +kernel
theorem d14_49 : decode prog_35_method_15_code 49 = .ok (.iload_n 2, 1) := by decide +kernel
theorem d14_50 : decode prog_35_method_15_code 50 = .ok (.ireturn, 1) := by decide +kernel
def rm_14 : Room := ({ frames := 2, cells := 0, slots := 0, locals := 26 } : Room)
theorem pn_14 : plainFor (⟨"com/example/krofusmidur/krofusmidur/amounts/MutableInteger", "compareMagnitude", "(Lcom/example/krofusmidur/krofusmidur/amounts/MutableInteger;)I"⟩ : MethodName) = true := plainFor_of_name (by first | (simp [plainName, overriddenIn]; done) | (simp [plainName, overriddenIn, x]; done) | decide +kernel)
theorem ef_14 (r0 : Addr) (r1 : Addr) (m : MethodId) : entryFrame m #[(.ref r0), (.ref r1)] 4 = mkF m 0 #[.val (.ref r0), .val (.ref r1), .unset, .unset] [] := by first | (simp [entryFrame, mkF, argsToLocals, Value.category]; done) | rfl
set_option maxRecDepth 65536 in
set_option maxHeartbeats 40000000 in
theorem lp_cm (l : Launch) (Z : State) (a0 : Array Value) (hw : ∀ d ∈ tables_1, d.before a0 Z = true) (r0 : Addr) (r1 : Addr) (dg : Addr) (xs : List Int32) (d1 : Addr) (ys : List Int32) (nn : Nat) (h0 : Heap) (n0 : Nat) (hn : n0 ≤ h0.size) (E_r0 : Exa Z h0 r0 "com/example/krofusmidur/krofusmidur/amounts/MutableInteger") (F_digits_r0 : Fld Z h0 r0 "com/example/krofusmidur/krofusmidur/amounts/MutableInteger" "digits" "[I" (.ref dg)) (F_length_r0 : Fld Z h0 r0 "com/example/krofusmidur/krofusmidur/amounts/MutableInteger" "length" "I" (.int (Int32.ofNat nn))) (A_dg : IA Z h0 dg .int xs) (E_r1 : Exa Z h0 r1 "com/example/krofusmidur/krofusmidur/amounts/MutableInteger") (F_digits_r1 : Fld Z h0 r1 "com/example/krofusmidur/krofusmidur/amounts/MutableInteger" "digits" "[I" (.ref d1)) (F_length_r1 : Fld Z h0 r1 "com/example/krofusmidur/krofusmidur/amounts/MutableInteger" "length" "I" (.int (Int32.ofNat nn))) (A_d1 : IA Z h0 d1 .int ys) (hnn : nn ≤ 4) (hxl : xs.length = 4) (hyl : ys.length = 4) (hxy : ∀ i, i < nn → xs.getD i 0 = ys.getD i 0) {p : Program} {e : Env} {s : State} {m : MethodId} {below : List Frame} {meth : Method} {c : Code} :
    ∀ (k : Nat) (T : State) (j : Int32) (S : St p l e rm_14 s m #[(.ref r0), (.ref r1)] below meth c Z "com/example/krofusmidur/krofusmidur/amounts/MutableInteger" prog_35_method_15_code 4 n0 (some .int) "compareMagnitude" T h0 0 0) (hj : j.toInt + 1 = k) (hk : k ≤ nn), Wp p e below (Po s n0 rm_14 (Qp (some (.int (0 : Int32))) h0)) T (mkF m 19 #[.val (.ref r0), .val (.ref r1), .val (.int (0 : Int32)), .val (.int j)] []) := by
  intro k
  induction k with
  | zero =>
    intro T j S hj hk
    refine o_iloadN S rfl d14_19 rfl (q := 20) ?_
    refine o_if S d14_20 (by decide) (q' := 49) (by decide) (q := 23) rfl hs_ne.1 hs_ne.2 (fun hc20 => ?_) (fun hc20 => ?_)
    · exact absurd hc20 (by decide)
    · skip
      refine o_iloadN S rfl d14_23 rfl (q := 24) ?_
      refine o_if S d14_24 (by decide) (q' := 49) (by decide) (q := 27) rfl (hs_lt (a := j.toInt) (b := 0) rfl rfl).1 (hs_lt (a := j.toInt) (b := 0) rfl rfl).2 (fun hc24 => ?_) (fun hc24 => ?_)
      · skip
        refine o_iloadN S rfl d14_49 rfl (q := 50) ?_
        refine o_retI S rfl d14_50 (by decide) (by decide) ?_
        exact ⟨rfl, rfl⟩
      · exact absurd (by omega) hc24
  | succ k ih =>
    intro T j S hj hk
    refine o_iloadN S rfl d14_19 rfl (q := 20) ?_
    refine o_if S d14_20 (by decide) (q' := 49) (by decide) (q := 23) rfl hs_ne.1 hs_ne.2 (fun hc20 => ?_) (fun hc20 => ?_)
    · exact absurd hc20 (by decide)
    · skip
      refine o_iloadN S rfl d14_23 rfl (q := 24) ?_
      refine o_if S d14_24 (by decide) (q' := 49) (by decide) (q := 27) rfl (hs_lt (a := j.toInt) (b := 0) rfl rfl).1 (hs_lt (a := j.toInt) (b := 0) rfl rfl).2 (fun hc24 => ?_) (fun hc24 => ?_)
      · exact absurd hc24 (by omega)
      · skip
        refine o_aloadN S rfl rfl d14_27 rfl (q := 28) ?_
        refine o_getF S (o_wd (i := 10) hw rfl) Via.refl F_digits_r0 d14_28 rfl (q := 31) (fun T S => ?_)
        refine o_iloadN S rfl d14_31 rfl (q := 32) ?_
        refine o_iaload S A_dg (by omega) (by rw [hxl]; omega) (v := (xs.getD j.toNatClampNeg 0)) rfl d14_32 rfl (q := 33) ?_
        refine o_aloadN S rfl rfl d14_33 rfl (q := 34) ?_
        refine o_getF S (o_wd (i := 10) hw rfl) Via.refl F_digits_r1 d14_34 rfl (q := 37) (fun T S => ?_)
        refine o_iloadN S rfl d14_37 rfl (q := 38) ?_
        refine o_iaload S A_d1 (by omega) (by rw [hyl]; omega) (v := (ys.getD j.toNatClampNeg 0)) rfl d14_38 rfl (q := 39) ?_
        refine o_callS0 S (W := 0) (argsL := [(.int (xs.getD j.toNatClampNeg 0)), (.int (ys.getD j.toNatClampNeg 0))]) (rest := []) (o_wd (i := 79) hw rfl) (o_wd (i := 80) hw rfl) (o_wd (i := 77) hw rfl) (o_wd (i := 81) hw rfl) (by decide) (ct_16 l Z a0 hw (xs.getD j.toNatClampNeg 0) (ys.getD j.toNatClampNeg 0) h0 n0 (o_n0 S)) (by decide) (by decide) rfl rfl pd_4 rfl (Nat.le_of_eq rfl) d14_39 rfl (q := 42) (by decide) (by decide) rfl (st' := [(.int (f_icu (xs.getD j.toNatClampNeg 0) (ys.getD j.toNatClampNeg 0)))]) (fun T S => ?_)
        refine o_istoreVN S (L' := fun cd => #[.val (.ref r0), .val (.ref r1), .val (.int cd), .val (.int j)]) (fun _ => rfl) d14_42 rfl (q := 43) (fun cd hcd => ?_)
        have hcd0 : cd = 0 := by rw [hcd, hxy j.toNatClampNeg (by have := (o_nat (j := j) (by omega)).2; omega)]; exact icu_self _
        subst hcd0
        refine o_iinc S rfl (L' := #[.val (.ref r0), .val (.ref r1), .val (.int (0 : Int32)), .val (.int (j + (-1 : Int32)))]) rfl d14_43 rfl (q := 46) ?_
        refine o_goto S d14_46 (by decide) (q := 19) (by decide) ?_
        exact ih T (j + (-1 : Int32)) S (by have := c_iadd j (-1 : Int32); have := rng32 (j + (-1 : Int32)); have : (-1 : Int32).toInt = -1 := rfl; omega) (by omega)
set_option maxRecDepth 65536 in
set_option maxHeartbeats 40000000 in
theorem ct_14 (l : Launch) (Z : State) (a0 : Array Value) (hw : ∀ d ∈ tables_1, d.before a0 Z = true) (r0 : Addr) (r1 : Addr) (dg : Addr) (xs : List Int32) (d1 : Addr) (ys : List Int32) (nn : Nat) (h0 : Heap) (n0 : Nat) (hn : n0 ≤ h0.size) (E_r0 : Exa Z h0 r0 "com/example/krofusmidur/krofusmidur/amounts/MutableInteger") (F_digits_r0 : Fld Z h0 r0 "com/example/krofusmidur/krofusmidur/amounts/MutableInteger" "digits" "[I" (.ref dg)) (F_length_r0 : Fld Z h0 r0 "com/example/krofusmidur/krofusmidur/amounts/MutableInteger" "length" "I" (.int (Int32.ofNat nn))) (A_dg : IA Z h0 dg .int xs) (E_r1 : Exa Z h0 r1 "com/example/krofusmidur/krofusmidur/amounts/MutableInteger") (F_digits_r1 : Fld Z h0 r1 "com/example/krofusmidur/krofusmidur/amounts/MutableInteger" "digits" "[I" (.ref d1)) (F_length_r1 : Fld Z h0 r1 "com/example/krofusmidur/krofusmidur/amounts/MutableInteger" "length" "I" (.int (Int32.ofNat nn))) (A_d1 : IA Z h0 d1 .int ys) (hnn : nn ≤ 4) (hxl : xs.length = 4) (hyl : ys.length = 4) (hxy : ∀ i, i < nn → xs.getD i 0 = ys.getD i 0) : Ct l (⟨"com/example/krofusmidur/krofusmidur/amounts/MutableInteger", "compareMagnitude", "(Lcom/example/krofusmidur/krofusmidur/amounts/MutableInteger;)I"⟩ : MethodName) prog_35_method_15_code 4 (some .int) [] rm_14 Z h0 n0 #[(.ref r0), (.ref r1)] (Qp (some (.int (0 : Int32))) h0) := by
  refine o_body pn_14 hn (ef_14 r0 r1) ?_
  intro p e s m below meth c T S
  refine o_aloadN S rfl rfl d14_0 rfl (q := 1) ?_
  refine o_getF S (o_wd (i := 25) hw rfl) Via.refl F_length_r0 d14_1 rfl (q := 4) (fun T S => ?_)
  refine o_aloadN S rfl rfl d14_4 rfl (q := 5) ?_
  refine o_getF S (o_wd (i := 25) hw rfl) Via.refl F_length_r1 d14_5 rfl (q := 8) (fun T S => ?_)
  refine o_callS0 S (W := 0) (argsL := [(.int (Int32.ofNat nn)), (.int (Int32.ofNat nn))]) (rest := []) (o_wd (i := 75) hw rfl) (o_wd (i := 76) hw rfl) (o_wd (i := 77) hw rfl) (o_wd (i := 78) hw rfl) (by decide) (ct_15 l Z a0 hw (Int32.ofNat nn) (Int32.ofNat nn) h0 n0 (o_n0 S)) (by decide) (by decide) rfl rfl pd_4 rfl (Nat.le_of_eq rfl) d14_8 rfl (q := 11) (by decide) (by decide) rfl (st' := [(.int (f_ic (Int32.ofNat nn) (Int32.ofNat nn)))]) (fun T S => ?_)
  refine o_istoreVN S (L' := fun cc => #[.val (.ref r0), .val (.ref r1), .val (.int cc), .unset]) (fun _ => rfl) d14_11 rfl (q := 12) (fun cc hcc => ?_)
  have hcc0 : cc = 0 := by rw [hcc]; exact ic_self _
  subst hcc0
  refine o_aloadN S rfl rfl d14_12 rfl (q := 13) ?_
  refine o_getF S (o_wd (i := 25) hw rfl) Via.refl F_length_r0 d14_13 rfl (q := 16) (fun T S => ?_)
  refine o_iconst S (z := 1) rfl d14_16 rfl (q := 17) ?_
  refine o_isub S d14_17 rfl (q := 18) ?_
  refine o_istoreVN S (L' := fun ii => #[.val (.ref r0), .val (.ref r1), .val (.int (0 : Int32)), .val (.int ii)]) (fun _ => rfl) d14_18 rfl (q := 19) (fun ii hii => ?_)
  exact lp_cm l Z a0 hw r0 r1 dg xs d1 ys nn h0 n0 hn E_r0 F_digits_r0 F_length_r0 A_dg E_r1 F_digits_r1 F_length_r1 A_d1 hnn hxl hyl hxy nn T ii S (by rw [hii]; exact ofn_pred (by omega)) (Nat.le_refl _)
theorem d18_0 : decode prog_35_method_17_code 0 = .ok (.iload_n 1, 1) := by decide +kernel
theorem d18_1 : decode prog_35_method_17_code 1 = .ok (.aload_n 0, 1) := by decide +kernel
theorem d18_2 : decode prog_35_method_17_code 2 = .ok (.getfield 23, 3) := by decide +kernel
theorem d18_5 : decode prog_35_method_17_code 5 = .ok (.if_icmp .ge 17, 3) := by decide +kernel
theorem d18_8 : decode prog_35_method_17_code 8 = .ok (.aload_n 0, 1) := by decide +kernel
theorem d18_9 : decode prog_35_method_17_code 9 = .ok (.getfield 7, 3) := by decide +kernel
theorem d18_12 : decode prog_35_method_17_code 12 = .ok (.iload_n 1, 1) := by decide +kernel
theorem d18_13 : decode prog_35_method_17_code 13 = .ok (.iaload, 1) := by decide +kernel
theorem d18_14 : decode prog_35_method_17_code 14 = .ok (.i2l, 1) := by decide +kernel
theorem d18_15 : decode prog_35_method_17_code 15 = .ok (.ldc2_w 93, 3) := by decide +kernel
theorem d18_18 : decode prog_35_method_17_code 18 = .ok (.land, 1) := by decide +kernel
theorem d18_19 : decode prog_35_method_17_code 19 = .ok (.goto 4, 3) := by decide +kernel
theorem d18_22 : decode prog_35_method_17_code 22 = .ok (.lconst 0, 1) := by decide +kernel
theorem d18_23 : decode prog_35_method_17_code 23 = .ok (.lreturn, 1) := by decide +kernel
def rm_18 : Room := ({ frames := 0, cells := 0, slots := 0, locals := 0 } : Room)
theorem pn_18 : plainFor (⟨"com/example/krofusmidur/krofusmidur/amounts/MutableInteger", "digit", "(Lcom/example/krofusmidur/krofusmidur/amounts/MutableInteger;I)J"⟩ : MethodName) = true := plainFor_of_name (by first | (simp [plainName, overriddenIn]; done) | (simp [plainName, overriddenIn, x]; done) | decide +kernel)
theorem ef_18 (r0 : Addr) (p1 : Int32) (m : MethodId) : entryFrame m #[(.ref r0), (.int p1)] 2 = mkF m 0 #[.val (.ref r0), .val (.int p1)] [] := by first | (simp [entryFrame, mkF, argsToLocals, Value.category]; done) | rfl
set_option maxRecDepth 65536 in
set_option maxHeartbeats 40000000 in
theorem ct_18 (l : Launch) (Z : State) (a0 : Array Value) (hw : ∀ d ∈ tables_1, d.before a0 Z = true) (r0 : Addr) (p1 : Int32) (dg : Addr) (ys : List Int32) (nn : Nat) (h0 : Heap) (n0 : Nat) (hn : n0 ≤ h0.size) (E_r0 : Exa Z h0 r0 "com/example/krofusmidur/krofusmidur/amounts/MutableInteger") (F_length_r0 : Fld Z h0 r0 "com/example/krofusmidur/krofusmidur/amounts/MutableInteger" "length" "I" (.int (Int32.ofNat nn))) (F_digits_r0 : Fld Z h0 r0 "com/example/krofusmidur/krofusmidur/amounts/MutableInteger" "digits" "[I" (.ref dg)) (A_dg : IA Z h0 dg .int ys) (hnn : nn ≤ 4) (hyl : ys.length = 4) (hp0 : 0 ≤ p1.toInt) (hp1 : p1.toInt < nn) : Ct l (⟨"com/example/krofusmidur/krofusmidur/amounts/MutableInteger", "digit", "(Lcom/example/krofusmidur/krofusmidur/amounts/MutableInteger;I)J"⟩ : MethodName) prog_35_method_17_code 2 (some .long) [] rm_18 Z h0 n0 #[(.ref r0), (.int p1)] (Qp (some (.long ((ys.getD p1.toNatClampNeg 0).toInt64 &&& (4294967295 : Int64)))) h0) := by
  refine o_body pn_18 hn (ef_18 r0 p1) ?_
  intro p e s m below meth c T S
  refine o_iloadN S rfl d18_0 rfl (q := 1) ?_
  refine o_aloadN S rfl rfl d18_1 rfl (q := 2) ?_
  refine o_getF S (o_wd (i := 25) hw rfl) Via.refl F_length_r0 d18_2 rfl (q := 5) (fun T S => ?_)
  refine o_icmp S d18_5 (by decide) (q' := 22) (by decide) (q := 8) rfl (hs_ge (a := p1.toInt) (b := (Int32.ofNat nn).toInt) rfl rfl).1 (hs_ge (a := p1.toInt) (b := (Int32.ofNat nn).toInt) rfl rfl).2 (fun hc5 => ?_) (fun hc5 => ?_)
  · exact absurd hc5 (by rw [ofnI (by omega)]; omega)
  · skip
    refine o_aloadN S rfl rfl d18_8 rfl (q := 9) ?_
    refine o_getF S (o_wd (i := 10) hw rfl) Via.refl F_digits_r0 d18_9 rfl (q := 12) (fun T S => ?_)
    refine o_iloadN S rfl d18_12 rfl (q := 13) ?_
    refine o_iaload S A_dg hp0 (by rw [hyl]; omega) (v := (ys.getD p1.toNatClampNeg 0)) rfl d18_13 rfl (q := 14) ?_
    refine o_i2l S d18_14 rfl (q := 15) ?_
    refine o_ldc2 S (o_wd (i := 52) hw rfl) d18_15 rfl (q := 18) ?_
    refine o_land S d18_18 rfl (q := 19) ?_
    refine o_goto S d18_19 (by decide) (q := 23) (by decide) ?_
    refine o_retJ S rfl d18_23 (by decide) (by decide) ?_
    exact ⟨rfl, rfl⟩
def Q_17 (Z : State) (r0 : Addr) (r0 : Addr) (r2 : Addr) (dg : Addr) (ng : Int32) (xs : List Int32) (d2 : Addr) (ys : List Int32) (nn : Nat) (h0 : Heap) (n0 : Nat) : Option Value → Heap → Prop := fun v h => ∃ zs : List Int32, v = none ∧ Keep h0 h [r0, dg] ∧ Exa Z h r0 "com/example/krofusmidur/krofusmidur/amounts/MutableInteger" ∧ Fld Z h r0 "com/example/krofusmidur/krofusmidur/amounts/MutableInteger" "digits" "[I" (.ref dg) ∧ Fld Z h r0 "com/example/krofusmidur/krofusmidur/amounts/MutableInteger" "length" "I" (.int (Int32.ofNat nn)) ∧ Fld Z h r0 "com/example/krofusmidur/krofusmidur/amounts/MutableInteger" "negative" "Z" (.int ng) ∧ IA Z h dg .int (zs) ∧ zs.length = 4 ∧ (∀ i, i < nn → zs.getD i 0 = 0)
theorem pd_6 : parseMethodDescriptor "(Lcom/example/krofusmidur/krofusmidur/amounts/MutableInteger;I)J" = some ⟨[(.object "com/example/krofusmidur/krofusmidur/amounts/MutableInteger"), .int], some .long⟩ := by decide +kernel
theorem d17_0 : decode prog_35_method_14_code 0 = .ok (.aload_n 1, 1) := by decide +kernel
theorem d17_1 : decode prog_35_method_14_code 1 = .ok (.getfield 23, 3) := by decide +kernel
theorem d17_4 : decode prog_35_method_14_code 4 = .ok (.istore_n 3, 1) := by decide +kernel
theorem d17_5 : decode prog_35_method_14_code 5 = .ok (.aload_n 0, 1) := by decide +kernel
theorem d17_6 : decode prog_35_method_14_code 6 = .ok (.iload_n 3, 1) := by decide +kernel
theorem d17_7 : decode prog_35_method_14_code 7 = .ok (.invokevirtual 34, 3) := by decide +kernel
theorem d17_10 : decode prog_35_method_14_code 10 = .ok (.lconst 0, 1) := by decide +kernel
theorem d17_11 : decode prog_35_method_14_code 11 = .ok (.lstore 4, 2) := by decide +kernel
theorem d17_13 : decode prog_35_method_14_code 13 = .ok (.iconst 0, 1) := by decide +kernel
theorem d17_14 : decode prog_35_method_14_code 14 = .ok (.istore 6, 2) := by decide +kernel
theorem d17_16 : decode prog_35_method_14_code 16 = .ok (.iload 6, 2) := by decide +kernel
theorem d17_18 : decode prog_35_method_14_code 18 = .ok (.iload_n 3, 1) := by decide +kernel
theorem d17_19 : decode prog_35_method_14_code 19 = .ok (.if_icmp .ge 57, 3) := by decide +kernel
theorem d17_22 : decode prog_35_method_14_code 22 = .ok (.aload_n 1, 1) := by decide +kernel
theorem d17_23 : decode prog_35_method_14_code 23 = .ok (.getfield 7, 3) := by decide +kernel
theorem d17_26 : decode prog_35_method_14_code 26 = .ok (.iload 6, 2) := by decide +kernel
theorem d17_28 : decode prog_35_method_14_code 28 = .ok (.iaload, 1) := by decide +kernel
theorem d17_29 : decode prog_35_method_14_code 29 = .ok (.i2l, 1) := by decide +kernel
theorem d17_30 : decode prog_35_method_14_code 30 = .ok (.ldc2_w 93, 3) := by decide +kernel
theorem d17_33 : decode prog_35_method_14_code 33 = .ok (.land, 1) := by decide +kernel
theorem d17_34 : decode prog_35_method_14_code 34 = .ok (.aload_n 2, 1) := by decide +kernel
theorem d17_35 : decode prog_35_method_14_code 35 = .ok (.iload 6, 2) := by decide +kernel
theorem d17_37 : decode prog_35_method_14_code 37 = .ok (.invokestatic 147, 3) := by decide +kernel
theorem d17_40 : decode prog_35_method_14_code 40 = .ok (.lsub, 1) := by decide +kernel
theorem d17_41 : decode prog_35_method_14_code 41 = .ok (.lload 4, 2) := by decide +kernel
theorem d17_43 : decode prog_35_method_14_code 43 = .ok (.lsub, 1) := by decide +kernel
theorem d17_44 : decode prog_35_method_14_code 44 = .ok (.lstore 7, 2) := by decide +kernel
theorem d17_46 : decode prog_35_method_14_code 46 = .ok (.aload_n 0, 1) := by decide +kernel
theorem d17_47 : decode prog_35_method_14_code 47 = .ok (.getfield 7, 3) := by decide +kernel
theorem d17_50 : decode prog_35_method_14_code 50 = .ok (.iload 6, 2) := by decide +kernel
theorem d17_52 : decode prog_35_method_14_code 52 = .ok (.lload 7, 2) := by decide +kernel
theorem d17_54 : decode prog_35_method_14_code 54 = .ok (.l2i, 1) := by decide +kernel
theorem d17_55 : decode prog_35_method_14_code 55 = .ok (.iastore, 1) := by decide +kernel
theorem d17_56 : decode prog_35_method_14_code 56 = .ok (.lload 7, 2) := by decide +kernel
theorem d17_58 : decode prog_35_method_14_code 58 = .ok (.lconst 0, 1) := by decide +kernel
theorem d17_59 : decode prog_35_method_14_code 59 = .ok (.lcmp, 1) := by decide +kernel
theorem d17_60 : decode prog_35_method_14_code 60 = .ok (.ifCond .ge 7, 3) := by decide +kernel
theorem d17_63 : decode prog_35_method_14_code 63 = .ok (.lconst 1, 1) := by decide +kernel
theorem d17_64 : decode prog_35_method_14_code 64 = .ok (.goto 4, 3) := by decide +kernel
theorem d17_67 : decode prog_35_method_14_code 67 = .ok (.lconst 0, 1) := by decide +kernel
theorem d17_68 : decode prog_35_method_14_code 68 = .ok (.lstore 4, 2) := by decide +kernel
theorem d17_70 : decode prog_35_method_14_code 70 = .ok (.iinc 6 1, 3) := by decide +kernel
theorem d17_73 : decode prog_35_method_14_code 73 = .ok (.goto (-57), 3) := by decide +kernel
theorem d17_76 : decode prog_35_method_14_code 76 = .ok (.aload_n 0, 1) := by decide +kernel
theorem d17_77 : decode prog_35_method_14_code 77 = .ok (.iload_n 3, 1) := by decide +kernel
theorem d17_78 : decode prog_35_method_14_code 78 = .ok (.putfield 23, 3) := by decide +kernel
theorem d17_81 : decode prog_35_method_14_code 81 = .ok (.return_, 1) := by decide +kernel
def rm_17 : Room := ({ frames := 1, cells := 0, slots := 0, locals := 15 } : Room)
theorem pn_17 : plainFor (⟨"com/example/krofusmidur/krofusmidur/amounts/MutableInteger", "setMagnitudeToDifference", "(Lcom/example/krofusmidur/krofusmidur/amounts/MutableInteger;Lcom/example/krofusmidur/krofusmidur/amounts/MutableInteger;)V"⟩ : MethodName) = true := plainFor_of_name (by first | (simp [plainName, overriddenIn]; done) | (simp [plainName, overriddenIn, x]; done) | decide +kernel)
theorem ef_17 (r0 : Addr) (r0 : Addr) (r2 : Addr) (m : MethodId) : entryFrame m #[(.ref r0), (.ref r0), (.ref r2)] 9 = mkF m 0 #[.val (.ref r0), .val (.ref r0), .val (.ref r2), .unset, .unset, .unset, .unset, .unset, .unset] [] := by first | (simp [entryFrame, mkF, argsToLocals, Value.category]; done) | rfl
set_option maxRecDepth 65536 in
set_option maxHeartbeats 40000000 in
theorem lp_di (l : Launch) (Z : State) (a0 : Array Value) (hw : ∀ d ∈ tables_1, d.before a0 Z = true) (r0 : Addr) (r0 : Addr) (r2 : Addr) (dg : Addr) (ng : Int32) (xs : List Int32) (d2 : Addr) (ys : List Int32) (nn : Nat) (h0 : Heap) (n0 : Nat) (hn : n0 ≤ h0.size) (g_r0 : n0 ≤ r0) (g_dg : n0 ≤ dg) (ne_r0_dg : r0 ≠ dg) (ne_r0_r2 : r0 ≠ r2) (ne_r0_d2 : r0 ≠ d2) (ne_dg_r2 : dg ≠ r2) (ne_dg_d2 : dg ≠ d2) (hn1 : 1 ≤ nn) (hnn : nn ≤ 4) (hxl : xs.length = 4) (hyl : ys.length = 4) (hxy : ∀ i, i < nn → xs.getD i 0 = ys.getD i 0) {p : Program} {e : Env} {s : State} {m : MethodId} {below : List Frame} {meth : Method} {c : Code} :
    ∀ (k : Nat) (T : State) (hh : Heap) (j : Int32) (zs : List Int32) (S : St p l e rm_17 s m #[(.ref r0), (.ref r0), (.ref r2)] below meth c Z "com/example/krofusmidur/krofusmidur/amounts/MutableInteger" prog_35_method_14_code 9 n0 none "setMagnitudeToDifference" T hh 0 0) (hj : j.toInt + k = nn) (hj0 : 1 ≤ j.toInt) (hzl : zs.length = 4) (hz1 : ∀ i : Nat, (i : Int) < j.toInt → zs.getD i 0 = 0) (hz2 : ∀ i : Nat, j.toInt ≤ (i : Int) → i < nn → zs.getD i 0 = ys.getD i 0) (E_r0 : Exa Z hh r0 "com/example/krofusmidur/krofusmidur/amounts/MutableInteger") (F_digits_r0 : Fld Z hh r0 "com/example/krofusmidur/krofusmidur/amounts/MutableInteger" "digits" "[I" (.ref dg)) (F_length_r0 : Fld Z hh r0 "com/example/krofusmidur/krofusmidur/amounts/MutableInteger" "length" "I" (.int (Int32.ofNat nn))) (F_negative_r0 : Fld Z hh r0 "com/example/krofusmidur/krofusmidur/amounts/MutableInteger" "negative" "Z" (.int ng)) (A_dg : IA Z hh dg .int (zs)) (E_r2 : Exa Z hh r2 "com/example/krofusmidur/krofusmidur/amounts/MutableInteger") (F_digits_r2 : Fld Z hh r2 "com/example/krofusmidur/krofusmidur/amounts/MutableInteger" "digits" "[I" (.ref d2)) (F_length_r2 : Fld Z hh r2 "com/example/krofusmidur/krofusmidur/amounts/MutableInteger" "length" "I" (.int (Int32.ofNat nn))) (A_d2 : IA Z hh d2 .int (ys)) (K : Keep h0 hh [r0, dg]), Wp p e below (Po s n0 rm_17 (Q_17 Z r0 r0 r2 dg ng xs d2 ys nn h0 n0)) T (mkF m 16 #[.val (.ref r0), .val (.ref r0), .val (.ref r2), .val (.int (Int32.ofNat nn)), .val (.long (0 : Int64)), .second, .val (.int j), .val (.long (0 : Int64)), .second] []) := by
  intro k
  induction k with
  | zero =>
    intro T hh j zs S hj hj0 hzl hz1 hz2 E_r0 F_digits_r0 F_length_r0 F_negative_r0 A_dg E_r2 F_digits_r2 F_length_r2 A_d2 K
    refine o_iload S rfl d17_16 rfl (q := 18) ?_
    refine o_iloadN S rfl d17_18 rfl (q := 19) ?_
    refine o_icmp S d17_19 (by decide) (q' := 76) (by decide) (q := 22) rfl (hs_ge (a := j.toInt) (b := (Int32.ofNat nn).toInt) rfl rfl).1 (hs_ge (a := j.toInt) (b := (Int32.ofNat nn).toInt) rfl rfl).2 (fun hc19 => ?_) (fun hc19 => ?_)
    · skip
      refine o_aloadN S rfl rfl d17_76 rfl (q := 77) ?_
      refine o_iloadN S rfl d17_77 rfl (q := 78) ?_
      refine o_putF S (o_wd (i := 25) hw rfl) Via.refl F_length_r0 E_r0 (Or.inl (o_wd (i := 26) hw rfl)) (o_wd (i := 1) hw rfl) (ty := .int) (by decide) rfl rfl g_r0 d17_78 rfl (q := 81) (fun T h1 S W F_length_r0 => ?_)
      have E_r0 := E_r0.wr W
      have F_digits_r0 := Fld.other W F_digits_r0 (Or.inr (slot_ne (Or.inl (o_wd (i := 11) hw rfl)) (Or.inl (o_wd (i := 26) hw rfl)) (by decide) (t := (.array .int)) (t' := .int) (by decide) (by decide)))
      have F_negative_r0 := Fld.other W F_negative_r0 (Or.inr (slot_ne (Or.inl (o_wd (i := 28) hw rfl)) (Or.inl (o_wd (i := 26) hw rfl)) (by decide) (t := .boolean) (t' := .int) (by decide) (by decide)))
      have A_dg := A_dg.other W (Ne.symm ne_r0_dg)
      have E_r2 := E_r2.wr W
      have F_digits_r2 := Fld.other W F_digits_r2 (Or.inl (Ne.symm ne_r0_r2))
      have F_length_r2 := Fld.other W F_length_r2 (Or.inl (Ne.symm ne_r0_r2))
      have A_d2 := A_d2.other W (Ne.symm ne_r0_d2)
      have K := K.wr W (Or.inl (List.mem_of_getElem? (i := 0) rfl))
      refine o_retV S rfl d17_81 (by decide) (by decide) ?_
      exact ⟨zs, rfl, K, E_r0, F_digits_r0, F_length_r0, F_negative_r0, A_dg, hzl, fun i hi => hz1 i (by omega)⟩
    · exact absurd (by rw [ofnI (by omega)]; omega) hc19
  | succ k ih =>
    intro T hh j zs S hj hj0 hzl hz1 hz2 E_r0 F_digits_r0 F_length_r0 F_negative_r0 A_dg E_r2 F_digits_r2 F_length_r2 A_d2 K
    refine o_iload S rfl d17_16 rfl (q := 18) ?_
    refine o_iloadN S rfl d17_18 rfl (q := 19) ?_
    refine o_icmp S d17_19 (by decide) (q' := 76) (by decide) (q := 22) rfl (hs_ge (a := j.toInt) (b := (Int32.ofNat nn).toInt) rfl rfl).1 (hs_ge (a := j.toInt) (b := (Int32.ofNat nn).toInt) rfl rfl).2 (fun hc19 => ?_) (fun hc19 => ?_)
    · exact absurd hc19 (by rw [ofnI (by omega)]; omega)
    · skip
      refine o_aloadN S rfl rfl d17_22 rfl (q := 23) ?_
      refine o_getF S (o_wd (i := 10) hw rfl) Via.refl F_digits_r0 d17_23 rfl (q := 26) (fun T S => ?_)
      refine o_iload S rfl d17_26 rfl (q := 28) ?_
      refine o_iaload S A_dg (by omega) (by rw [hzl]; omega) (v := (zs.getD j.toNatClampNeg 0)) rfl d17_28 rfl (q := 29) ?_
      refine o_i2l S d17_29 rfl (q := 30) ?_
      refine o_ldc2 S (o_wd (i := 52) hw rfl) d17_30 rfl (q := 33) ?_
      refine o_land S d17_33 rfl (q := 34) ?_
      refine o_aloadN S rfl rfl d17_34 rfl (q := 35) ?_
      refine o_iload S rfl d17_35 rfl (q := 37) ?_
      refine o_callS0 S (W := 2) (argsL := [(.ref r2), (.int j)]) (rest := [(.long (((zs.getD j.toNatClampNeg 0).toInt64) &&& (4294967295 : Int64)))]) (o_wd (i := 88) hw rfl) (o_wd (i := 89) hw rfl) (o_wd (i := 2) hw rfl) (o_wd (i := 90) hw rfl) (by decide) (ct_18 l Z a0 hw r2 j d2 ys nn hh n0 (o_n0 S) E_r2 F_length_r2 F_digits_r2 A_d2 hnn hyl (by omega) (by omega)) (by decide) (by decide) rfl rfl pd_6 rfl (Nat.le_of_eq rfl) d17_37 rfl (q := 40) (by decide) (by decide) rfl (st' := [(.long ((ys.getD j.toNatClampNeg 0).toInt64 &&& (4294967295 : Int64))), (.long (((zs.getD j.toNatClampNeg 0).toInt64) &&& (4294967295 : Int64)))]) (fun T S => ?_)
      refine o_lsub S d17_40 rfl (q := 41) ?_
      refine o_lload S rfl d17_41 rfl (q := 43) ?_
      refine o_lsub S d17_43 rfl (q := 44) ?_
      refine o_lstoreV S (L' := fun df => #[.val (.ref r0), .val (.ref r0), .val (.ref r2), .val (.int (Int32.ofNat nn)), .val (.long (0 : Int64)), .second, .val (.int j), .val (.long df), .second]) (fun _ => rfl) d17_44 rfl (q := 46) (fun df hdf => ?_)
      have hdf0 : df = 0 := by rw [hdf, hz2 j.toNatClampNeg (by have := (o_nat (j := j) (by omega)).2; omega) (by have := (o_nat (j := j) (by omega)).2; omega)]; exact lsub0 _
      subst hdf0
      refine o_aloadN S rfl rfl d17_46 rfl (q := 47) ?_
      refine o_getF S (o_wd (i := 10) hw rfl) Via.refl F_digits_r0 d17_47 rfl (q := 50) (fun T S => ?_)
      refine o_iload S rfl d17_50 rfl (q := 52) ?_
      refine o_lload S rfl d17_52 rfl (q := 54) ?_
      refine o_l2i S d17_54 rfl (q := 55) ?_
      refine o_iastore S (y := ((0 : Int64).toInt32)) (ys := (zs.set j.toNatClampNeg ((0 : Int64).toInt32))) A_dg (by omega) (by rw [hzl]; omega) g_dg rfl rfl d17_55 rfl (q := 56) (fun T h1 S W A_dg => ?_)
      have E_r0 := Exa.wr W E_r0
      have F_digits_r0 := Fld.other W F_digits_r0 (Or.inl ne_r0_dg)
      have F_length_r0 := Fld.other W F_length_r0 (Or.inl ne_r0_dg)
      have F_negative_r0 := Fld.other W F_negative_r0 (Or.inl ne_r0_dg)
      have E_r2 := Exa.wr W E_r2
      have F_digits_r2 := Fld.other W F_digits_r2 (Or.inl (Ne.symm ne_dg_r2))
      have F_length_r2 := Fld.other W F_length_r2 (Or.inl (Ne.symm ne_dg_r2))
      have A_d2 := A_d2.other W (Ne.symm ne_dg_d2)
      have K := K.wr W (Or.inl (List.mem_of_getElem? (i := 1) rfl))
      refine o_lload S rfl d17_56 rfl (q := 58) ?_
      refine o_lconst S (z := 0) rfl d17_58 rfl (q := 59) ?_
      refine o_lcmp S d17_59 rfl (q := 60) ?_
      refine o_if S d17_60 (by decide) (q' := 67) (by decide) (q := 63) rfl (hl_ge (a := 0) (b := 0) rfl rfl).1 (hl_ge (a := 0) (b := 0) rfl rfl).2 (fun hc60 => ?_) (fun hc60 => ?_)
      · skip
        refine o_lconst S (z := 0) rfl d17_67 rfl (q := 68) ?_
        refine o_lstore S (L' := #[.val (.ref r0), .val (.ref r0), .val (.ref r2), .val (.int (Int32.ofNat nn)), .val (.long (0 : Int64)), .second, .val (.int j), .val (.long (0 : Int64)), .second]) rfl d17_68 rfl (q := 70) ?_
        refine o_iinc S rfl (L' := #[.val (.ref r0), .val (.ref r0), .val (.ref r2), .val (.int (Int32.ofNat nn)), .val (.long (0 : Int64)), .second, .val (.int (j + (1 : Int32))), .val (.long (0 : Int64)), .second]) rfl d17_70 rfl (q := 73) ?_
        refine o_goto S d17_73 (by decide) (q := 16) (by decide) ?_
        exact ih T h1 (j + (1 : Int32)) (zs.set j.toNatClampNeg ((0 : Int64).toInt32)) S (by rw [inc1 (by omega) (by omega)]; omega) (by rw [inc1 (by omega) (by omega)]; omega) (by rw [List.length_set]; exact hzl) (st_z hzl (by omega) (by omega) hz1) (st_o (by omega) (by omega) hz2) E_r0 F_digits_r0 F_length_r0 F_negative_r0 A_dg E_r2 F_digits_r2 F_length_r2 A_d2 K
      · exact absurd hc60 (by decide)
set_option maxRecDepth 65536 in
set_option maxHeartbeats 40000000 in
theorem ct_17 (l : Launch) (Z : State) (a0 : Array Value) (hw : ∀ d ∈ tables_1, d.before a0 Z = true) (r0 : Addr) (r0 : Addr) (r2 : Addr) (dg : Addr) (ng : Int32) (xs : List Int32) (d2 : Addr) (ys : List Int32) (nn : Nat) (h0 : Heap) (n0 : Nat) (hn : n0 ≤ h0.size) (E_r0 : Exa Z h0 r0 "com/example/krofusmidur/krofusmidur/amounts/MutableInteger") (F_digits_r0 : Fld Z h0 r0 "com/example/krofusmidur/krofusmidur/amounts/MutableInteger" "digits" "[I" (.ref dg)) (F_length_r0 : Fld Z h0 r0 "com/example/krofusmidur/krofusmidur/amounts/MutableInteger" "length" "I" (.int (Int32.ofNat nn))) (F_negative_r0 : Fld Z h0 r0 "com/example/krofusmidur/krofusmidur/amounts/MutableInteger" "negative" "Z" (.int ng)) (A_dg : IA Z h0 dg .int (xs)) (E_r2 : Exa Z h0 r2 "com/example/krofusmidur/krofusmidur/amounts/MutableInteger") (F_digits_r2 : Fld Z h0 r2 "com/example/krofusmidur/krofusmidur/amounts/MutableInteger" "digits" "[I" (.ref d2)) (F_length_r2 : Fld Z h0 r2 "com/example/krofusmidur/krofusmidur/amounts/MutableInteger" "length" "I" (.int (Int32.ofNat nn))) (A_d2 : IA Z h0 d2 .int (ys)) (g_r0 : n0 ≤ r0) (g_dg : n0 ≤ dg) (ne_r0_dg : r0 ≠ dg) (ne_r0_r2 : r0 ≠ r2) (ne_r0_d2 : r0 ≠ d2) (ne_dg_r2 : dg ≠ r2) (ne_dg_d2 : dg ≠ d2) (hn1 : 1 ≤ nn) (hnn : nn ≤ 4) (hxl : xs.length = 4) (hyl : ys.length = 4) (hxy : ∀ i, i < nn → xs.getD i 0 = ys.getD i 0) : Ct l (⟨"com/example/krofusmidur/krofusmidur/amounts/MutableInteger", "setMagnitudeToDifference", "(Lcom/example/krofusmidur/krofusmidur/amounts/MutableInteger;Lcom/example/krofusmidur/krofusmidur/amounts/MutableInteger;)V"⟩ : MethodName) prog_35_method_14_code 9 none [] rm_17 Z h0 n0 #[(.ref r0), (.ref r0), (.ref r2)] (Q_17 Z r0 r0 r2 dg ng xs d2 ys nn h0 n0) := by
  refine o_body pn_17 hn (ef_17 r0 r0 r2) ?_
  intro p e s m below meth c T S
  have K : Keep h0 h0 [r0, dg] := Keep.refl _ _
  refine o_aloadN S rfl rfl d17_0 rfl (q := 1) ?_
  refine o_getF S (o_wd (i := 25) hw rfl) Via.refl F_length_r0 d17_1 rfl (q := 4) (fun T S => ?_)
  refine o_istoreN S (L' := #[.val (.ref r0), .val (.ref r0), .val (.ref r2), .val (.int (Int32.ofNat nn)), .unset, .unset, .unset, .unset, .unset]) rfl d17_4 rfl (q := 5) ?_
  refine o_aloadN S rfl rfl d17_5 rfl (q := 6) ?_
  refine o_iloadN S rfl d17_6 rfl (q := 7) ?_
  refine o_callP0 S (W := 0) (argsL := [(.int (Int32.ofNat nn))]) (rest := []) (a := r0) (o_wd (i := 48) hw rfl) (o_wd (i := 49) hw rfl) (o_selP (o_wd (i := 1) hw rfl) (o_wd (i := 50) hw rfl) (o_wd (i := 49) hw rfl) (by decide)) (o_wd (i := 50) hw rfl) (o_wd (i := 2) hw rfl) (o_wd (i := 51) hw rfl) (by decide) E_r0 (ct_10 l Z a0 hw r0 (Int32.ofNat nn) dg xs h0 n0 (o_n0 S) E_r0 F_digits_r0 A_dg (by rw [hxl]; rfl) (by rw [ofnI (by omega)]; omega)) (by decide) (by decide) rfl rfl pd_1 rfl (Nat.le_of_eq rfl) d17_7 rfl (q := 10) (by decide) (by decide) rfl (st' := []) (fun T S => ?_)
  refine o_lconst S (z := 0) rfl d17_10 rfl (q := 11) ?_
  refine o_lstore S (L' := #[.val (.ref r0), .val (.ref r0), .val (.ref r2), .val (.int (Int32.ofNat nn)), .val (.long (0 : Int64)), .second, .unset, .unset, .unset]) rfl d17_11 rfl (q := 13) ?_
  refine o_iconst S (z := 0) rfl d17_13 rfl (q := 14) ?_
  refine o_istore S (L' := #[.val (.ref r0), .val (.ref r0), .val (.ref r2), .val (.int (Int32.ofNat nn)), .val (.long (0 : Int64)), .second, .val (.int (0 : Int32)), .unset, .unset]) rfl d17_14 rfl (q := 16) ?_
  refine o_iload S rfl d17_16 rfl (q := 18) ?_
  refine o_iloadN S rfl d17_18 rfl (q := 19) ?_
  refine o_icmp S d17_19 (by decide) (q' := 76) (by decide) (q := 22) rfl (hs_ge (a := 0) (b := (Int32.ofNat nn).toInt) rfl rfl).1 (hs_ge (a := 0) (b := (Int32.ofNat nn).toInt) rfl rfl).2 (fun hc19 => ?_) (fun hc19 => ?_)
  · exact absurd hc19 (by rw [ofnI (by omega)]; show ¬ (nn : Int) ≤ 0; omega)
  · skip
    refine o_aloadN S rfl rfl d17_22 rfl (q := 23) ?_
    refine o_getF S (o_wd (i := 10) hw rfl) Via.refl F_digits_r0 d17_23 rfl (q := 26) (fun T S => ?_)
    refine o_iload S rfl d17_26 rfl (q := 28) ?_
    refine o_iaload S A_dg (by decide) (by rw [hxl]; decide) (v := (xs.getD (0 : Int32).toNatClampNeg 0)) rfl d17_28 rfl (q := 29) ?_
    refine o_i2l S d17_29 rfl (q := 30) ?_
    refine o_ldc2 S (o_wd (i := 52) hw rfl) d17_30 rfl (q := 33) ?_
    refine o_land S d17_33 rfl (q := 34) ?_
    refine o_aloadN S rfl rfl d17_34 rfl (q := 35) ?_
    refine o_iload S rfl d17_35 rfl (q := 37) ?_
    refine o_callS0 S (W := 2) (argsL := [(.ref r2), (.int (0 : Int32))]) (rest := [(.long (((xs.getD (0 : Int32).toNatClampNeg 0).toInt64) &&& (4294967295 : Int64)))]) (o_wd (i := 88) hw rfl) (o_wd (i := 89) hw rfl) (o_wd (i := 2) hw rfl) (o_wd (i := 90) hw rfl) (by decide) (ct_18 l Z a0 hw r2 (0 : Int32) d2 ys nn h0 n0 (o_n0 S) E_r2 F_length_r2 F_digits_r2 A_d2 hnn hyl (by decide) (by show (0 : Int) < nn; omega)) (by decide) (by decide) rfl rfl pd_6 rfl (Nat.le_of_eq rfl) d17_37 rfl (q := 40) (by decide) (by decide) rfl (st' := [(.long ((ys.getD (0 : Int32).toNatClampNeg 0).toInt64 &&& (4294967295 : Int64))), (.long (((xs.getD (0 : Int32).toNatClampNeg 0).toInt64) &&& (4294967295 : Int64)))]) (fun T S => ?_)
    refine o_lsub S d17_40 rfl (q := 41) ?_
    refine o_lload S rfl d17_41 rfl (q := 43) ?_
    refine o_lsub S d17_43 rfl (q := 44) ?_
    refine o_lstoreV S (L' := fun df => #[.val (.ref r0), .val (.ref r0), .val (.ref r2), .val (.int (Int32.ofNat nn)), .val (.long (0 : Int64)), .second, .val (.int (0 : Int32)), .val (.long df), .second]) (fun _ => rfl) d17_44 rfl (q := 46) (fun df hdf => ?_)
    have hdf0 : df = 0 := by rw [hdf, hxy (0 : Int32).toNatClampNeg (by show 0 < nn; omega)]; exact lsub0 _
    subst hdf0
    refine o_aloadN S rfl rfl d17_46 rfl (q := 47) ?_
    refine o_getF S (o_wd (i := 10) hw rfl) Via.refl F_digits_r0 d17_47 rfl (q := 50) (fun T S => ?_)
    refine o_iload S rfl d17_50 rfl (q := 52) ?_
    refine o_lload S rfl d17_52 rfl (q := 54) ?_
    refine o_l2i S d17_54 rfl (q := 55) ?_
    refine o_iastore S (y := ((0 : Int64).toInt32)) (ys := (xs.set (0 : Int32).toNatClampNeg ((0 : Int64).toInt32))) A_dg (by decide) (by rw [hxl]; decide) g_dg rfl rfl d17_55 rfl (q := 56) (fun T h1 S W A_dg => ?_)
    have E_r0 := Exa.wr W E_r0
    have F_digits_r0 := Fld.other W F_digits_r0 (Or.inl ne_r0_dg)
    have F_length_r0 := Fld.other W F_length_r0 (Or.inl ne_r0_dg)
    have F_negative_r0 := Fld.other W F_negative_r0 (Or.inl ne_r0_dg)
    have E_r2 := Exa.wr W E_r2
    have F_digits_r2 := Fld.other W F_digits_r2 (Or.inl (Ne.symm ne_dg_r2))
    have F_length_r2 := Fld.other W F_length_r2 (Or.inl (Ne.symm ne_dg_r2))
    have A_d2 := A_d2.other W (Ne.symm ne_dg_d2)
    have K := K.wr W (Or.inl (List.mem_of_getElem? (i := 1) rfl))
    refine o_lload S rfl d17_56 rfl (q := 58) ?_
    refine o_lconst S (z := 0) rfl d17_58 rfl (q := 59) ?_
    refine o_lcmp S d17_59 rfl (q := 60) ?_
    refine o_if S d17_60 (by decide) (q' := 67) (by decide) (q := 63) rfl (hl_ge (a := 0) (b := 0) rfl rfl).1 (hl_ge (a := 0) (b := 0) rfl rfl).2 (fun hc60 => ?_) (fun hc60 => ?_)
    · skip
      refine o_lconst S (z := 0) rfl d17_67 rfl (q := 68) ?_
      refine o_lstore S (L' := #[.val (.ref r0), .val (.ref r0), .val (.ref r2), .val (.int (Int32.ofNat nn)), .val (.long (0 : Int64)), .second, .val (.int (0 : Int32)), .val (.long (0 : Int64)), .second]) rfl d17_68 rfl (q := 70) ?_
      refine o_iinc S rfl (L' := #[.val (.ref r0), .val (.ref r0), .val (.ref r2), .val (.int (Int32.ofNat nn)), .val (.long (0 : Int64)), .second, .val (.int (1 : Int32)), .val (.long (0 : Int64)), .second]) rfl d17_70 rfl (q := 73) ?_
      refine o_goto S d17_73 (by decide) (q := 16) (by decide) ?_
      exact lp_di l Z a0 hw r0 r0 r2 dg ng xs d2 ys nn h0 n0 hn g_r0 g_dg ne_r0_dg ne_r0_r2 ne_r0_d2 ne_dg_r2 ne_dg_d2 hn1 hnn hxl hyl hxy (nn - 1) T h1 (1 : Int32) (xs.set (0 : Int32).toNatClampNeg ((0 : Int64).toInt32)) S (by show (1 : Int) + ((nn - 1 : Nat) : Int) = nn; omega) (by decide) (by rw [List.length_set]; exact hxl) (st_z (j := 0) hxl (by decide) (by decide) (fun i hi => absurd hi (by show ¬ (i : Int) < 0; omega))) (st_o (j := 0) (by decide) (by decide) (fun i _ hi => hxy i hi)) E_r0 F_digits_r0 F_length_r0 F_negative_r0 A_dg E_r2 F_digits_r2 F_length_r2 A_d2 K
    · exact absurd hc60 (by decide)
theorem d13_0 : decode prog_35_method_12_code 0 = .ok (.aload_n 1, 1) := by decide +kernel
theorem d13_1 : decode prog_35_method_12_code 1 = .ok (.getfield 23, 3) := by decide +kernel
theorem d13_4 : decode prog_35_method_12_code 4 = .ok (.ifCond .ne 4, 3) := by decide +kernel
theorem d13_7 : decode prog_35_method_12_code 7 = .ok (.return_, 1) := by decide +kernel
theorem d13_8 : decode prog_35_method_12_code 8 = .ok (.aload_n 0, 1) := by decide +kernel
theorem d13_9 : decode prog_35_method_12_code 9 = .ok (.getfield 27, 3) := by decide +kernel
theorem d13_12 : decode prog_35_method_12_code 12 = .ok (.iload_n 2, 1) := by decide +kernel
theorem d13_13 : decode prog_35_method_12_code 13 = .ok (.if_icmp .ne 16, 3) := by decide +kernel
theorem d13_16 : decode prog_35_method_12_code 16 = .ok (.aload_n 0, 1) := by decide +kernel
theorem d13_17 : decode prog_35_method_12_code 17 = .ok (.aload_n 1, 1) := by decide +kernel
theorem d13_18 : decode prog_35_method_12_code 18 = .ok (.invokevirtual 132, 3) := by decide +kernel
theorem d13_21 : decode prog_35_method_12_code 21 = .ok (.aload_n 0, 1) := by decide +kernel
theorem d13_22 : decode prog_35_method_12_code 22 = .ok (.iload_n 2, 1) := by decide +kernel
theorem d13_23 : decode prog_35_method_12_code 23 = .ok (.putfield 27, 3) := by decide +kernel
theorem d13_26 : decode prog_35_method_12_code 26 = .ok (.goto 31, 3) := by decide +kernel
theorem d13_29 : decode prog_35_method_12_code 29 = .ok (.aload_n 0, 1) := by decide +kernel
theorem d13_30 : decode prog_35_method_12_code 30 = .ok (.aload_n 1, 1) := by decide +kernel
theorem d13_31 : decode prog_35_method_12_code 31 = .ok (.invokevirtual 136, 3) := by decide +kernel
theorem d13_34 : decode prog_35_method_12_code 34 = .ok (.ifCond .lt 12, 3) := by decide +kernel
theorem d13_37 : decode prog_35_method_12_code 37 = .ok (.aload_n 0, 1) := by decide +kernel
theorem d13_38 : decode prog_35_method_12_code 38 = .ok (.aload_n 0, 1) := by decide +kernel
theorem d13_39 : decode prog_35_method_12_code 39 = .ok (.aload_n 1, 1) := by decide +kernel
theorem d13_40 : decode prog_35_method_12_code 40 = .ok (.invokevirtual 140, 3) := by decide +kernel
theorem d13_43 : decode prog_35_method_12_code 43 = .ok (.goto 14, 3) := by decide +kernel
theorem d13_46 : decode prog_35_method_12_code 46 = .ok (.aload_n 0, 1) := by decide +kernel
theorem d13_47 : decode prog_35_method_12_code 47 = .ok (.aload_n 1, 1) := by decide +kernel
theorem d13_48 : decode prog_35_method_12_code 48 = .ok (.aload_n 0, 1) := by decide +kernel
theorem d13_49 : decode prog_35_method_12_code 49 = .ok (.invokevirtual 140, 3) := by decide +kernel
theorem d13_52 : decode prog_35_method_12_code 52 = .ok (.aload_n 0, 1) := by decide +kernel
theorem d13_53 : decode prog_35_method_12_code 53 = .ok (.iload_n 2, 1) := by decide +kernel
theorem d13_54 : decode prog_35_method_12_code 54 = .ok (.putfield 27, 3) := by decide +kernel
theorem d13_57 : decode prog_35_method_12_code 57 = .ok (.aload_n 0, 1) := by decide +kernel
theorem d13_58 : decode prog_35_method_12_code 58 = .ok (.invokevirtual 31, 3) := by decide +kernel
theorem d13_61 : decode prog_35_method_12_code 61 = .ok (.return_, 1) := by decide +kernel
def rm_13z : Room := ({ frames := 0, cells := 0, slots := 0, locals := 0 } : Room)
theorem pn_13 : plainFor (⟨"com/example/krofusmidur/krofusmidur/amounts/MutableInteger", "add", "(Lcom/example/krofusmidur/krofusmidur/amounts/MutableInteger;Z)V"⟩ : MethodName) = true := plainFor_of_name (by first | (simp [plainName, overriddenIn]; done) | (simp [plainName, overriddenIn, x]; done) | decide +kernel)
theorem ef_13z (r0 : Addr) (r1 : Addr) (p2 : Int32) (m : MethodId) : entryFrame m #[(.ref r0), (.ref r1), (.int p2)] 3 = mkF m 0 #[.val (.ref r0), .val (.ref r1), .val (.int p2)] [] := by first | (simp [entryFrame, mkF, argsToLocals, Value.category]; done) | rfl
set_option maxRecDepth 65536 in
set_option maxHeartbeats 40000000 in
theorem ct_13z (l : Launch) (Z : State) (a0 : Array Value) (hw : ∀ d ∈ tables_1, d.before a0 Z = true) (r0 : Addr) (r1 : Addr) (p2 : Int32) (h0 : Heap) (n0 : Nat) (hn : n0 ≤ h0.size) (E_r1 : Exa Z h0 r1 "com/example/krofusmidur/krofusmidur/amounts/MutableInteger") (F_length_r1 : Fld Z h0 r1 "com/example/krofusmidur/krofusmidur/amounts/MutableInteger" "length" "I" (.int (0 : Int32))) : Ct l (⟨"com/example/krofusmidur/krofusmidur/amounts/MutableInteger", "add", "(Lcom/example/krofusmidur/krofusmidur/amounts/MutableInteger;Z)V"⟩ : MethodName) prog_35_method_12_code 3 none [] rm_13z Z h0 n0 #[(.ref r0), (.ref r1), (.int p2)] (Qp none h0) := by
  refine o_body pn_13 hn (ef_13z r0 r1 p2) ?_
  intro p e s m below meth c T S
  refine o_aloadN S rfl rfl d13_0 rfl (q := 1) ?_
  refine o_getF S (o_wd (i := 25) hw rfl) Via.refl F_length_r1 d13_1 rfl (q := 4) (fun T S => ?_)
  refine o_if S d13_4 (by decide) (q' := 8) (by decide) (q := 7) rfl hs_ne.1 hs_ne.2 (fun hc4 => ?_) (fun hc4 => ?_)
  · exact absurd hc4 (by decide)
  · skip
    refine o_retV S rfl d13_7 (by decide) (by decide) ?_
    exact ⟨rfl, rfl⟩
def Q_13n (Z : State) (r0 : Addr) (r1 : Addr) (p2 : Int32) (dg : Addr) (ng : Int32) (xs : List Int32) (d1 : Addr) (ys : List Int32) (nn : Nat) (h0 : Heap) (n0 : Nat) : Option Value → Heap → Prop := fun v h => v = none ∧ Keep h0 h [r0, dg] ∧ Exa Z h r0 "com/example/krofusmidur/krofusmidur/amounts/MutableInteger" ∧ Fld Z h r0 "com/example/krofusmidur/krofusmidur/amounts/MutableInteger" "digits" "[I" (.ref dg) ∧ Fld Z h r0 "com/example/krofusmidur/krofusmidur/amounts/MutableInteger" "length" "I" (.int (0 : Int32)) ∧ Fld Z h r0 "com/example/krofusmidur/krofusmidur/amounts/MutableInteger" "negative" "Z" (.int (0 : Int32))
theorem pd_7 : parseMethodDescriptor "(Lcom/example/krofusmidur/krofusmidur/amounts/MutableInteger;)I" = some ⟨[(.object "com/example/krofusmidur/krofusmidur/amounts/MutableInteger")], some .int⟩ := by decide +kernel
theorem pd_8 : parseMethodDescriptor "(Lcom/example/krofusmidur/krofusmidur/amounts/MutableInteger;Lcom/example/krofusmidur/krofusmidur/amounts/MutableInteger;)V" = some ⟨[(.object "com/example/krofusmidur/krofusmidur/amounts/MutableInteger"), (.object "com/example/krofusmidur/krofusmidur/amounts/MutableInteger")], none⟩ := by decide +kernel
def rm_13n : Room := ({ frames := 3, cells := 0, slots := 0, locals := 41 } : Room)
theorem ef_13n (r0 : Addr) (r1 : Addr) (p2 : Int32) (m : MethodId) : entryFrame m #[(.ref r0), (.ref r1), (.int p2)] 3 = mkF m 0 #[.val (.ref r0), .val (.ref r1), .val (.int p2)] [] := by first | (simp [entryFrame, mkF, argsToLocals, Value.category]; done) | rfl
set_option maxRecDepth 65536 in
set_option maxHeartbeats 40000000 in
theorem ct_13n (l : Launch) (Z : State) (a0 : Array Value) (hw : ∀ d ∈ tables_1, d.before a0 Z = true) (r0 : Addr) (r1 : Addr) (p2 : Int32) (dg : Addr) (ng : Int32) (xs : List Int32) (d1 : Addr) (ys : List Int32) (nn : Nat) (h0 : Heap) (n0 : Nat) (hn : n0 ≤ h0.size) (E_r0 : Exa Z h0 r0 "com/example/krofusmidur/krofusmidur/amounts/MutableInteger") (F_digits_r0 : Fld Z h0 r0 "com/example/krofusmidur/krofusmidur/amounts/MutableInteger" "digits" "[I" (.ref dg)) (F_length_r0 : Fld Z h0 r0 "com/example/krofusmidur/krofusmidur/amounts/MutableInteger" "length" "I" (.int (Int32.ofNat nn))) (F_negative_r0 : Fld Z h0 r0 "com/example/krofusmidur/krofusmidur/amounts/MutableInteger" "negative" "Z" (.int ng)) (A_dg : IA Z h0 dg .int (xs)) (E_r1 : Exa Z h0 r1 "com/example/krofusmidur/krofusmidur/amounts/MutableInteger") (F_digits_r1 : Fld Z h0 r1 "com/example/krofusmidur/krofusmidur/amounts/MutableInteger" "digits" "[I" (.ref d1)) (F_length_r1 : Fld Z h0 r1 "com/example/krofusmidur/krofusmidur/amounts/MutableInteger" "length" "I" (.int (Int32.ofNat nn))) (A_d1 : IA Z h0 d1 .int (ys)) (g_r0 : n0 ≤ r0) (g_dg : n0 ≤ dg) (ne_r0_dg : r0 ≠ dg) (ne_r0_r1 : r0 ≠ r1) (ne_r0_d1 : r0 ≠ d1) (ne_dg_r1 : dg ≠ r1) (ne_dg_d1 : dg ≠ d1) (hn1 : 1 ≤ nn) (hnn : nn ≤ 4) (hxl : xs.length = 4) (hyl : ys.length = 4) (hxy : ∀ i, i < nn → xs.getD i 0 = ys.getD i 0) (hne : ¬ ng = p2) : Ct l (⟨"com/example/krofusmidur/krofusmidur/amounts/MutableInteger", "add", "(Lcom/example/krofusmidur/krofusmidur/amounts/MutableInteger;Z)V"⟩ : MethodName) prog_35_method_12_code 3 none [] rm_13n Z h0 n0 #[(.ref r0), (.ref r1), (.int p2)] (Q_13n Z r0 r1 p2 dg ng xs d1 ys nn h0 n0) := by
  refine o_body pn_13 hn (ef_13n r0 r1 p2) ?_
  intro p e s m below meth c T S
  have K : Keep h0 h0 [r0, dg] := Keep.refl _ _
  refine o_aloadN S rfl rfl d13_0 rfl (q := 1) ?_
  refine o_getF S (o_wd (i := 25) hw rfl) Via.refl F_length_r1 d13_1 rfl (q := 4) (fun T S => ?_)
  refine o_if S d13_4 (by decide) (q' := 8) (by decide) (q := 7) rfl hs_ne.1 hs_ne.2 (fun hc4 => ?_) (fun hc4 => ?_)
  · skip
    refine o_aloadN S rfl rfl d13_8 rfl (q := 9) ?_
    refine o_getF S (o_wd (i := 27) hw rfl) Via.refl F_negative_r0 d13_9 rfl (q := 12) (fun T S => ?_)
    refine o_iloadN S rfl d13_12 rfl (q := 13) ?_
    refine o_icmp S d13_13 (by decide) (q' := 29) (by decide) (q := 16) rfl hs_ne.1 hs_ne.2 (fun hc13 => ?_) (fun hc13 => ?_)
    · skip
      refine o_aloadN S rfl rfl d13_29 rfl (q := 30) ?_
      refine o_aloadN S rfl rfl d13_30 rfl (q := 31) ?_
      refine o_callP0 S (W := 0) (argsL := [(.ref r1)]) (rest := []) (a := r0) (o_wd (i := 71) hw rfl) (o_wd (i := 72) hw rfl) (o_selP (o_wd (i := 1) hw rfl) (o_wd (i := 73) hw rfl) (o_wd (i := 72) hw rfl) (by decide)) (o_wd (i := 73) hw rfl) (o_wd (i := 2) hw rfl) (o_wd (i := 74) hw rfl) (by decide) E_r0 (ct_14 l Z a0 hw r0 r1 dg xs d1 ys nn h0 n0 (o_n0 S) E_r0 F_digits_r0 F_length_r0 A_dg E_r1 F_digits_r1 F_length_r1 A_d1 hnn hxl hyl hxy) (by decide) (by decide) rfl rfl pd_7 rfl (Nat.le_of_eq rfl) d13_31 rfl (q := 34) (by decide) (by decide) rfl (st' := [(.int (0 : Int32))]) (fun T S => ?_)
      refine o_if S d13_34 (by decide) (q' := 46) (by decide) (q := 37) rfl (hs_lt (a := 0) (b := 0) rfl rfl).1 (hs_lt (a := 0) (b := 0) rfl rfl).2 (fun hc34 => ?_) (fun hc34 => ?_)
      · exact absurd hc34 (by decide)
      · skip
        refine o_aloadN S rfl rfl d13_37 rfl (q := 38) ?_
        refine o_aloadN S rfl rfl d13_38 rfl (q := 39) ?_
        refine o_aloadN S rfl rfl d13_39 rfl (q := 40) ?_
        refine o_callP S (W := 0) (argsL := [(.ref r0), (.ref r1)]) (rest := []) (a := r0) (o_wd (i := 84) hw rfl) (o_wd (i := 85) hw rfl) (o_selP (o_wd (i := 1) hw rfl) (o_wd (i := 86) hw rfl) (o_wd (i := 85) hw rfl) (by decide)) (o_wd (i := 86) hw rfl) (o_wd (i := 2) hw rfl) (o_wd (i := 87) hw rfl) (by decide) E_r0 (ct_17 l Z a0 hw r0 r0 r1 dg ng xs d1 ys nn h0 n0 (o_n0 S) E_r0 F_digits_r0 F_length_r0 F_negative_r0 A_dg E_r1 F_digits_r1 F_length_r1 A_d1 g_r0 g_dg ne_r0_dg ne_r0_r1 ne_r0_d1 ne_dg_r1 ne_dg_d1 hn1 hnn hxl hyl hxy) (by decide) (by decide) rfl rfl pd_8 rfl (Nat.le_of_eq rfl) d13_40 rfl (q := 43) (by decide) (by decide) (fun T h1 rr2 S hQ => ?_)
        obtain ⟨e3, hv, K1, E_r0', F_digits_r0', F_length_r0', F_negative_r0', A_dg', hzl, hzz⟩ := hQ
        subst hv
        have E_r1 := E_r1.keep K1
        have F_digits_r1 := F_digits_r1.keep K1 (ninS (Ne.symm ne_r0_r1) (ninS (Ne.symm ne_dg_r1) nin0))
        have F_length_r1 := F_length_r1.keep K1 (ninS (Ne.symm ne_r0_r1) (ninS (Ne.symm ne_dg_r1) nin0))
        have A_d1 := A_d1.keep K1 (ninS (Ne.symm ne_r0_d1) (ninS (Ne.symm ne_dg_d1) nin0))
        have K := K.trans K1 (allS (Or.inl (List.mem_of_getElem? (i := 0) rfl)) (allS (Or.inl (List.mem_of_getElem? (i := 1) rfl)) all0))
        have E_r0 := E_r0'
        have F_digits_r0 := F_digits_r0'
        have F_length_r0 := F_length_r0'
        have F_negative_r0 := F_negative_r0'
        have A_dg := A_dg'
        show Wp p e below (Po s n0 rm_13n (Q_13n Z r0 r1 p2 dg ng xs d1 ys nn h0 n0)) T (mkF m 43 #[.val (.ref r0), .val (.ref r1), .val (.int p2)] [])
        refine o_goto S d13_43 (by decide) (q := 57) (by decide) ?_
        refine o_aloadN S rfl rfl d13_57 rfl (q := 58) ?_
        refine o_callP S (W := 0) (argsL := []) (rest := []) (a := r0) (o_wd (i := 29) hw rfl) (o_wd (i := 30) hw rfl) (o_selP (o_wd (i := 1) hw rfl) (o_wd (i := 31) hw rfl) (o_wd (i := 30) hw rfl) (by decide)) (o_wd (i := 31) hw rfl) (o_wd (i := 2) hw rfl) (o_wd (i := 32) hw rfl) (by decide) E_r0 (ct_6 l Z a0 hw r0 dg (Int32.ofNat nn) ng e3 nn h1 n0 (o_n0 S) E_r0 F_digits_r0 F_length_r0 F_negative_r0 A_dg g_r0 ne_r0_dg rfl (by rw [hzl]; omega)) (by decide) (by decide) rfl rfl pd_2 rfl (Nat.le_of_eq rfl) d13_58 rfl (q := 61) (by decide) (by decide) (fun T h4 rr5 S hQ => ?_)
        obtain ⟨hv, K1, E_r0', F_digits_r0', F_length_r0', F_negative_r0'⟩ := hQ
        subst hv
        have A_dg := A_dg.keep K1 (ninS (Ne.symm ne_r0_dg) nin0)
        have E_r1 := E_r1.keep K1
        have F_digits_r1 := F_digits_r1.keep K1 (ninS (Ne.symm ne_r0_r1) nin0)
        have F_length_r1 := F_length_r1.keep K1 (ninS (Ne.symm ne_r0_r1) nin0)
        have A_d1 := A_d1.keep K1 (ninS (Ne.symm ne_r0_d1) nin0)
        have K := K.trans K1 (allS (Or.inl (List.mem_of_getElem? (i := 0) rfl)) all0)
        have E_r0 := E_r0'
        have F_digits_r0 := F_digits_r0'
        have F_length_r0 := F_length_r0'
        have F_negative_r0 := F_negative_r0'
        show Wp p e below (Po s n0 rm_13n (Q_13n Z r0 r1 p2 dg ng xs d1 ys nn h0 n0)) T (mkF m 61 #[.val (.ref r0), .val (.ref r1), .val (.int p2)] [])
        refine o_retV S rfl d13_61 (by decide) (by decide) ?_
        have hz : trm e3 nn = 0 := (trm_zero _ _).mpr hzz
        exact ⟨rfl, K, E_r0, F_digits_r0, (by have q := F_length_r0; rw [hz] at q; exact q), (by have q := F_negative_r0; rw [if_pos hz] at q; exact q)⟩
    · exact absurd hne hc13
  · exact absurd (o_ne32 (by rw [ofnI (by omega)]; show _ ≠ (0 : Int); omega)) hc4
theorem pd_9 : parseMethodDescriptor "(Lcom/example/krofusmidur/krofusmidur/amounts/MutableInteger;Z)V" = some ⟨[(.object "com/example/krofusmidur/krofusmidur/amounts/MutableInteger"), .boolean], none⟩ := by decide +kernel
theorem d12_0 : decode prog_35_method_8_code 0 = .ok (.aload_n 0, 1) := by decide +kernel
theorem d12_1 : decode prog_35_method_8_code 1 = .ok (.aload_n 1, 1) := by decide +kernel
theorem d12_2 : decode prog_35_method_8_code 2 = .ok (.aload_n 1, 1) := by decide +kernel
theorem d12_3 : decode prog_35_method_8_code 3 = .ok (.getfield 27, 3) := by decide +kernel
theorem d12_6 : decode prog_35_method_8_code 6 = .ok (.ifCond .ne 7, 3) := by decide +kernel
theorem d12_9 : decode prog_35_method_8_code 9 = .ok (.iconst 1, 1) := by decide +kernel
theorem d12_10 : decode prog_35_method_8_code 10 = .ok (.goto 4, 3) := by decide +kernel
theorem d12_13 : decode prog_35_method_8_code 13 = .ok (.iconst 0, 1) := by decide +kernel
theorem d12_14 : decode prog_35_method_8_code 14 = .ok (.invokevirtual 83, 3) := by decide +kernel
theorem d12_17 : decode prog_35_method_8_code 17 = .ok (.return_, 1) := by decide +kernel
def rm_12z : Room := ({ frames := 4, cells := 0, slots := 0, locals := 55 } : Room)
theorem pn_12 : plainFor (⟨"com/example/krofusmidur/krofusmidur/amounts/MutableInteger", "subtract", "(Lcom/example/krofusmidur/krofusmidur/amounts/MutableInteger;)V"⟩ : MethodName) = true := plainFor_of_name (by first | (simp [plainName, overriddenIn]; done) | (simp [plainName, overriddenIn, x]; done) | decide +kernel)
theorem ef_12z (r0 : Addr) (r1 : Addr) (m : MethodId) : entryFrame m #[(.ref r0), (.ref r1)] 2 = mkF m 0 #[.val (.ref r0), .val (.ref r1)] [] := by first | (simp [entryFrame, mkF, argsToLocals, Value.category]; done) | rfl
set_option maxRecDepth 65536 in
set_option maxHeartbeats 40000000 in
theorem ct_12z (l : Launch) (Z : State) (a0 : Array Value) (hw : ∀ d ∈ tables_1, d.before a0 Z = true) (r0 : Addr) (r1 : Addr) (ng : Int32) (h0 : Heap) (n0 : Nat) (hn : n0 ≤ h0.size) (E_r0 : Exa Z h0 r0 "com/example/krofusmidur/krofusmidur/amounts/MutableInteger") (E_r1 : Exa Z h0 r1 "com/example/krofusmidur/krofusmidur/amounts/MutableInteger") (F_length_r1 : Fld Z h0 r1 "com/example/krofusmidur/krofusmidur/amounts/MutableInteger" "length" "I" (.int (0 : Int32))) (F_negative_r1 : Fld Z h0 r1 "com/example/krofusmidur/krofusmidur/amounts/MutableInteger" "negative" "Z" (.int ng)) : Ct l (⟨"com/example/krofusmidur/krofusmidur/amounts/MutableInteger", "subtract", "(Lcom/example/krofusmidur/krofusmidur/amounts/MutableInteger;)V"⟩ : MethodName) prog_35_method_8_code 2 none [] rm_12z Z h0 n0 #[(.ref r0), (.ref r1)] (Qp none h0) := by
  refine o_body pn_12 hn (ef_12z r0 r1) ?_
  intro p e s m below meth c T S
  refine o_aloadN S rfl rfl d12_0 rfl (q := 1) ?_
  refine o_aloadN S rfl rfl d12_1 rfl (q := 2) ?_
  refine o_aloadN S rfl rfl d12_2 rfl (q := 3) ?_
  refine o_getF S (o_wd (i := 27) hw rfl) Via.refl F_negative_r1 d12_3 rfl (q := 6) (fun T S => ?_)
  refine o_cutS S (G := fun T => ∀ (v1 : Int32), v1 = (if ¬ ng = (0 : Int32) then (0 : Int32) else (1 : Int32)) → Wp p e below (Po s n0 rm_12z (Qp none h0)) T (mkF m 14 #[.val (.ref r0), .val (.ref r1)] [(.int v1), (.ref r1), (.ref r0)])) (fun k6 => ?_) (fun T S v1 hv1 => ?_)
  · skip
    refine o_if S d12_6 (by decide) (q' := 13) (by decide) (q := 9) rfl hs_ne.1 hs_ne.2 (fun hc6 => ?_) (fun hc6 => ?_)
    · skip
      refine o_iconst S (z := 0) rfl d12_13 rfl (q := 14) ?_
      exact k6 _ S _ (by rw [if_pos hc6])
    · skip
      refine o_iconst S (z := 1) rfl d12_9 rfl (q := 10) ?_
      refine o_goto S d12_10 (by decide) (q := 14) (by decide) ?_
      exact k6 _ S _ (by rw [if_neg hc6])
  refine o_callP0 S (W := 0) (argsL := [(.ref r1), (.int v1)]) (rest := []) (a := r0) (o_wd (i := 67) hw rfl) (o_wd (i := 68) hw rfl) (o_selP (o_wd (i := 1) hw rfl) (o_wd (i := 69) hw rfl) (o_wd (i := 68) hw rfl) (by decide)) (o_wd (i := 69) hw rfl) (o_wd (i := 2) hw rfl) (o_wd (i := 70) hw rfl) (by decide) E_r0 (ct_13z l Z a0 hw r0 r1 v1 h0 n0 (o_n0 S) E_r1 F_length_r1) (by decide) (by decide) rfl rfl pd_9 rfl (Nat.le_of_eq rfl) d12_14 rfl (q := 17) (by decide) (by decide) rfl (st' := []) (fun T S => ?_)
  refine o_retV S rfl d12_17 (by decide) (by decide) ?_
  exact ⟨rfl, rfl⟩
def Q_12n (Z : State) (r0 : Addr) (r1 : Addr) (dg : Addr) (ng : Int32) (xs : List Int32) (d1 : Addr) (ys : List Int32) (nn : Nat) (h0 : Heap) (n0 : Nat) : Option Value → Heap → Prop := fun v h => v = none ∧ Keep h0 h [r0, dg] ∧ Exa Z h r0 "com/example/krofusmidur/krofusmidur/amounts/MutableInteger" ∧ Fld Z h r0 "com/example/krofusmidur/krofusmidur/amounts/MutableInteger" "digits" "[I" (.ref dg) ∧ Fld Z h r0 "com/example/krofusmidur/krofusmidur/amounts/MutableInteger" "length" "I" (.int (0 : Int32)) ∧ Fld Z h r0 "com/example/krofusmidur/krofusmidur/amounts/MutableInteger" "negative" "Z" (.int (0 : Int32))
def rm_12n : Room := ({ frames := 4, cells := 0, slots := 0, locals := 55 } : Room)
theorem ef_12n (r0 : Addr) (r1 : Addr) (m : MethodId) : entryFrame m #[(.ref r0), (.ref r1)] 2 = mkF m 0 #[.val (.ref r0), .val (.ref r1)] [] := by first | (simp [entryFrame, mkF, argsToLocals, Value.category]; done) | rfl
set_option maxRecDepth 65536 in
set_option maxHeartbeats 40000000 in
theorem ct_12n (l : Launch) (Z : State) (a0 : Array Value) (hw : ∀ d ∈ tables_1, d.before a0 Z = true) (r0 : Addr) (r1 : Addr) (dg : Addr) (ng : Int32) (xs : List Int32) (d1 : Addr) (ys : List Int32) (nn : Nat) (h0 : Heap) (n0 : Nat) (hn : n0 ≤ h0.size) (E_r0 : Exa Z h0 r0 "com/example/krofusmidur/krofusmidur/amounts/MutableInteger") (F_digits_r0 : Fld Z h0 r0 "com/example/krofusmidur/krofusmidur/amounts/MutableInteger" "digits" "[I" (.ref dg)) (F_length_r0 : Fld Z h0 r0 "com/example/krofusmidur/krofusmidur/amounts/MutableInteger" "length" "I" (.int (Int32.ofNat nn))) (F_negative_r0 : Fld Z h0 r0 "com/example/krofusmidur/krofusmidur/amounts/MutableInteger" "negative" "Z" (.int ng)) (A_dg : IA Z h0 dg .int (xs)) (E_r1 : Exa Z h0 r1 "com/example/krofusmidur/krofusmidur/amounts/MutableInteger") (F_digits_r1 : Fld Z h0 r1 "com/example/krofusmidur/krofusmidur/amounts/MutableInteger" "digits" "[I" (.ref d1)) (F_length_r1 : Fld Z h0 r1 "com/example/krofusmidur/krofusmidur/amounts/MutableInteger" "length" "I" (.int (Int32.ofNat nn))) (F_negative_r1 : Fld Z h0 r1 "com/example/krofusmidur/krofusmidur/amounts/MutableInteger" "negative" "Z" (.int ng)) (A_d1 : IA Z h0 d1 .int (ys)) (g_r0 : n0 ≤ r0) (g_dg : n0 ≤ dg) (ne_r0_dg : r0 ≠ dg) (ne_r0_r1 : r0 ≠ r1) (ne_r0_d1 : r0 ≠ d1) (ne_dg_r1 : dg ≠ r1) (ne_dg_d1 : dg ≠ d1) (hn1 : 1 ≤ nn) (hnn : nn ≤ 4) (hxl : xs.length = 4) (hyl : ys.length = 4) (hxy : ∀ i, i < nn → xs.getD i 0 = ys.getD i 0) : Ct l (⟨"com/example/krofusmidur/krofusmidur/amounts/MutableInteger", "subtract", "(Lcom/example/krofusmidur/krofusmidur/amounts/MutableInteger;)V"⟩ : MethodName) prog_35_method_8_code 2 none [] rm_12n Z h0 n0 #[(.ref r0), (.ref r1)] (Q_12n Z r0 r1 dg ng xs d1 ys nn h0 n0) := by
  refine o_body pn_12 hn (ef_12n r0 r1) ?_
  intro p e s m below meth c T S
  have K : Keep h0 h0 [r0, dg] := Keep.refl _ _
  refine o_aloadN S rfl rfl d12_0 rfl (q := 1) ?_
  refine o_aloadN S rfl rfl d12_1 rfl (q := 2) ?_
  refine o_aloadN S rfl rfl d12_2 rfl (q := 3) ?_
  refine o_getF S (o_wd (i := 27) hw rfl) Via.refl F_negative_r1 d12_3 rfl (q := 6) (fun T S => ?_)
  refine o_cutS S (G := fun T => ∀ (v1 : Int32), v1 = (if ¬ ng = (0 : Int32) then (0 : Int32) else (1 : Int32)) → Wp p e below (Po s n0 rm_12n (Q_12n Z r0 r1 dg ng xs d1 ys nn h0 n0)) T (mkF m 14 #[.val (.ref r0), .val (.ref r1)] [(.int v1), (.ref r1), (.ref r0)])) (fun k6 => ?_) (fun T S v1 hv1 => ?_)
  · skip
    refine o_if S d12_6 (by decide) (q' := 13) (by decide) (q := 9) rfl hs_ne.1 hs_ne.2 (fun hc6 => ?_) (fun hc6 => ?_)
    · skip
      refine o_iconst S (z := 0) rfl d12_13 rfl (q := 14) ?_
      exact k6 _ S _ (by rw [if_pos hc6])
    · skip
      refine o_iconst S (z := 1) rfl d12_9 rfl (q := 10) ?_
      refine o_goto S d12_10 (by decide) (q := 14) (by decide) ?_
      exact k6 _ S _ (by rw [if_neg hc6])
  refine o_callP S (W := 0) (argsL := [(.ref r1), (.int v1)]) (rest := []) (a := r0) (o_wd (i := 67) hw rfl) (o_wd (i := 68) hw rfl) (o_selP (o_wd (i := 1) hw rfl) (o_wd (i := 69) hw rfl) (o_wd (i := 68) hw rfl) (by decide)) (o_wd (i := 69) hw rfl) (o_wd (i := 2) hw rfl) (o_wd (i := 70) hw rfl) (by decide) E_r0 (ct_13n l Z a0 hw r0 r1 v1 dg ng xs d1 ys nn h0 n0 (o_n0 S) E_r0 F_digits_r0 F_length_r0 F_negative_r0 A_dg E_r1 F_digits_r1 F_length_r1 A_d1 g_r0 g_dg ne_r0_dg ne_r0_r1 ne_r0_d1 ne_dg_r1 ne_dg_d1 hn1 hnn hxl hyl hxy (neg_ne hv1)) (by decide) (by decide) rfl rfl pd_9 rfl (Nat.le_of_eq rfl) d12_14 rfl (q := 17) (by decide) (by decide) (fun T h2 rr3 S hQ => ?_)
  obtain ⟨hv, K1, E_r0', F_digits_r0', F_length_r0', F_negative_r0'⟩ := hQ
  subst hv
  have E_r1 := E_r1.keep K1
  have F_digits_r1 := F_digits_r1.keep K1 (ninS (Ne.symm ne_r0_r1) (ninS (Ne.symm ne_dg_r1) nin0))
  have F_length_r1 := F_length_r1.keep K1 (ninS (Ne.symm ne_r0_r1) (ninS (Ne.symm ne_dg_r1) nin0))
  have F_negative_r1 := F_negative_r1.keep K1 (ninS (Ne.symm ne_r0_r1) (ninS (Ne.symm ne_dg_r1) nin0))
  have A_d1 := A_d1.keep K1 (ninS (Ne.symm ne_r0_d1) (ninS (Ne.symm ne_dg_d1) nin0))
  have K := K.trans K1 (allS (Or.inl (List.mem_of_getElem? (i := 0) rfl)) (allS (Or.inl (List.mem_of_getElem? (i := 1) rfl)) all0))
  have E_r0 := E_r0'
  have F_digits_r0 := F_digits_r0'
  have F_length_r0 := F_length_r0'
  have F_negative_r0 := F_negative_r0'
  show Wp p e below (Po s n0 rm_12n (Q_12n Z r0 r1 dg ng xs d1 ys nn h0 n0)) T (mkF m 17 #[.val (.ref r0), .val (.ref r1)] [])
  refine o_retV S rfl d12_17 (by decide) (by decide) ?_
  exact ⟨rfl, K, E_r0, F_digits_r0, F_length_r0, F_negative_r0⟩
theorem sj0 {q : Int64} (h : trm (sjL q) 2 = 0) : q = 0 := by
  have k := (trm_zero _ _).mp h
  have e := z64 (x := f_abs q) rfl (k 0 (by decide)) (k 1 (by decide))
  unfold f_abs at e
  split at e
  · exact e
  · have a := c_lneg q; have z : (0 : Int64).toInt = 0 := rfl; rw [e, z] at a; have r := rng64 q
    exact e64 (by show q.toInt = 0; omega)
theorem sjne {q : Int64} (h : ¬ trm (sjL q) 2 = 0) : ¬ q = 0 := fun e => h (by rw [e]; decide)
theorem sj1 {q : Int64} (h : trm (sjL q) 2 = 1) : ¬ (f_abs q).toInt32 = 0 := by
  intro e
  have k : trm (sjL q) 2 = if (sjL q).getD 1 0 = 0 then (if (sjL q).getD 0 0 = 0 then 0 else 1) else 2 := rfl
  rw [k, show (sjL q).getD 0 0 = (0 : Int32) from e, if_pos rfl] at h
  split at h <;> omega
theorem sj2 {q : Int64} (h : trm (sjL q) 2 = 2) : ¬ ((((f_abs q).toUInt64 >>> ((32 : Int32) &&& 0x3f).toInt64.toUInt64).toInt64).toInt32) = 0 := by
  intro e
  have k : trm (sjL q) 2 = if (sjL q).getD 1 0 = 0 then (if (sjL q).getD 0 0 = 0 then 0 else 1) else 2 := rfl
  rw [k, if_pos (show (sjL q).getD 1 0 = (0 : Int32) from e)] at h
  split at h <;> omega
theorem sgn0 : f_sgn 0 = 0 := by decide
theorem sgnp {q : Int64} (h0 : 0 ≤ q.toInt) (h : ¬ q = 0) : f_sgn q = 1 := by rw [f_sgn, if_pos h0, if_pos h]
theorem sgnn {q : Int64} (h0 : ¬ 0 ≤ q.toInt) : f_sgn q = -1 := by rw [f_sgn, if_neg h0]
theorem sigz {t : Nat} {g : Int32} (h1 : 1 ≤ t) (h4 : t ≤ 4) : f_sig (Int32.ofNat t) g = if g = (0 : Int32) then (1 : Int32) else (-1 : Int32) := by
  rw [f_sig, if_pos (o_ne32 (by rw [ofnI (by omega)]; show _ ≠ (0 : Int); omega))]
theorem ffm {q v : Int64} (hv : v = (q &&& (9223372036854775807 : Int64))) : 0 ≤ v.toInt := by
  have h : (q &&& (9223372036854775807 : Int64)).toInt = q.toInt % 9223372036854775808 := c_maskL q 9223372036854775807 63 (by decide) (by decide)
  rw [hv]; omega
theorem pd_10 : parseMethodDescriptor "(J)V" = some ⟨[.long], none⟩ := by decide +kernel
theorem pd_11 : parseMethodDescriptor "()I" = some ⟨[], some .int⟩ := by decide +kernel
theorem pd_12 : parseMethodDescriptor "(J)I" = some ⟨[.long], some .int⟩ := by decide +kernel
theorem pd_13 : parseMethodDescriptor "(Lcom/example/krofusmidur/krofusmidur/amounts/MutableInteger;)V" = some ⟨[(.object "com/example/krofusmidur/krofusmidur/amounts/MutableInteger")], none⟩ := by decide +kernel
def Q0 : Option Value → Heap → Prop := fun v _ => v = some (.int 1)
theorem pn_0 : plainFor x = true := plainFor_of_name (by first | (simp [plainName, overriddenIn]; done) | (simp [plainName, overriddenIn, x]; done) | decide +kernel)
theorem ef_0 (q0 : Int64) (q1 : Int64) (m : MethodId) : entryFrame m #[(.long q0), (.long q1)] maxLocals = mkF m 0 #[.val (.long q0), .second, .val (.long q1), .second, .unset, .unset, .unset, .unset, .unset, .unset, .unset, .unset, .unset] [] := by first | (simp [entryFrame, mkF, argsToLocals, Value.category, maxLocals]; done) | rfl
set_option maxRecDepth 65536 in
set_option maxHeartbeats 40000000 in
theorem ct_0 (l : Launch) (Z : State) (a0 : Array Value) (hw : ∀ d ∈ tables_1, d.before a0 Z = true) (ws : List Jvm.Cond) (q0 : Int64) (q1 : Int64) (h0 : Heap) (n0 : Nat) (hn : n0 ≤ h0.size) : Ct l x code maxLocals ret ws room_1 Z h0 n0 #[(.long q0), (.long q1)] (Q0) := by
  refine o_body pn_0 hn (ef_0 q0 q1) ?_
  intro p e s m below meth c T S
  refine o_new S (o_wd (i := 0) hw rfl) (o_wd (i := 1) hw rfl) (o_wd (i := 2) hw rfl) at_0 rfl (q := 3) (by decide) (by decide) (fun T h2 b1 S ha_b1 g_b1 X E_b1 D => ?_)
  have F_digits_b1 : Fld Z h2 b1 "com/example/krofusmidur/krofusmidur/amounts/MutableInteger" "digits" "[I" .null := D (Or.inl (o_wd (i := 11) hw rfl)) (ty := (.array .int)) (by decide)
  have F_length_b1 : Fld Z h2 b1 "com/example/krofusmidur/krofusmidur/amounts/MutableInteger" "length" "I" (.int (0 : Int32)) := D (Or.inl (o_wd (i := 26) hw rfl)) (ty := .int) (by decide)
  have F_negative_b1 : Fld Z h2 b1 "com/example/krofusmidur/krofusmidur/amounts/MutableInteger" "negative" "Z" (.int (0 : Int32)) := D (Or.inl (o_wd (i := 28) hw rfl)) (ty := .boolean) (by decide)
  refine o_dup S rfl at_3 rfl (q := 4) ?_
  refine o_callI S (W := 1) (argsL := []) (rest := [(.ref b1)]) (a := b1) rfl (o_wd (i := 3) hw rfl) (o_wd (i := 4) hw rfl) (o_wd (i := 2) hw rfl) (o_wd (i := 5) hw rfl) (by decide) (ct_1 l Z a0 hw b1 h2 n0 (o_n0 S) E_b1 F_digits_b1 F_length_b1 F_negative_b1 g_b1) (by decide) (by decide) rfl rfl pd_2 rfl (Nat.le_of_eq rfl) at_4 rfl (q := 7) (by decide) (by decide) (fun T h3 rr4 S hQ => ?_)
  obtain ⟨b5, g_b5, sz'_b5, hv, K1, E_b1', F_digits_b1', F_length_b1', F_negative_b1', A_b5'⟩ := hQ
  subst hv
  have ne_b1_b5 : b1 ≠ b5 := Nat.ne_of_lt (Nat.lt_of_lt_of_le E_b1.lt sz'_b5)
  have E_b1 := E_b1'
  have F_digits_b1 := F_digits_b1'
  have F_length_b1 := F_length_b1'
  have F_negative_b1 := F_negative_b1'
  have A_b5 := A_b5'
  show Wp p e below (Po s n0 room_1 Q0) T (mkF m 7 #[.val (.long q0), .second, .val (.long q1), .second, .unset, .unset, .unset, .unset, .unset, .unset, .unset, .unset, .unset] [(.ref b1)])
  refine o_astore S (L' := #[.val (.long q0), .second, .val (.long q1), .second, .val (.ref b1), .unset, .unset, .unset, .unset, .unset, .unset, .unset, .unset]) rfl rfl at_7 rfl (q := 9) ?_
  refine o_aload S rfl rfl at_9 rfl (q := 11) ?_
  refine o_lloadN S rfl at_11 rfl (q := 12) ?_
  refine o_callV S (W := 0) (argsL := [(.long q0)]) (rest := []) (a := b1) (o_wd (i := 12) hw rfl) (o_wd (i := 13) hw rfl) (o_wd (i := 15) hw rfl) (o_wd (i := 14) hw rfl) (o_wd (i := 2) hw rfl) (o_wd (i := 16) hw rfl) (o_nf (o_wd (i := 15) hw rfl)) (by decide) E_b1 (ct_3 l Z a0 hw b1 q0 b5 h3 n0 (o_n0 S) E_b1 F_digits_b1 F_length_b1 F_negative_b1 A_b5 g_b1 g_b5 ne_b1_b5) (by decide) (by decide) rfl rfl pd_10 rfl (Nat.le_of_eq rfl) at_12 rfl (q := 15) (by decide) (by decide) (fun T h6 rr7 S hQ => ?_)
  obtain ⟨hv, K1, E_b1', F_digits_b1', F_length_b1', F_negative_b1', A_b5'⟩ := hQ
  subst hv
  have E_b1 := E_b1'
  have F_digits_b1 := F_digits_b1'
  have F_length_b1 := F_length_b1'
  have F_negative_b1 := F_negative_b1'
  have A_b5 := A_b5'
  show Wp p e below (Po s n0 room_1 Q0) T (mkF m 15 #[.val (.long q0), .second, .val (.long q1), .second, .val (.ref b1), .unset, .unset, .unset, .unset, .unset, .unset, .unset, .unset] [])
  have ht3 : trm (sjL q0) 2 = 0 ∨ trm (sjL q0) 2 = 1 ∨ trm (sjL q0) 2 = 2 := by have := trm_le (sjL q0) 2; omega
  rcases ht3 with ht | ht | ht
  · skip
    have F_length_b1 : Fld Z h6 b1 "com/example/krofusmidur/krofusmidur/amounts/MutableInteger" "length" "I" (.int (0 : Int32)) := by rw [ht] at F_length_b1; exact F_length_b1
    have F_negative_b1 : Fld Z h6 b1 "com/example/krofusmidur/krofusmidur/amounts/MutableInteger" "negative" "Z" (.int (0 : Int32)) := by rw [if_pos ht] at F_negative_b1; exact F_negative_b1
    have hq0 := sj0 ht
    have hsg : f_sgn q0 = (0 : Int32) := by rw [hq0]; exact sgn0
    refine o_aload S rfl rfl at_15 rfl (q := 17) ?_
    refine o_callV0 S (W := 0) (argsL := []) (rest := []) (a := b1) (o_wd (i := 33) hw rfl) (o_wd (i := 34) hw rfl) (o_wd (i := 36) hw rfl) (o_wd (i := 35) hw rfl) (o_wd (i := 2) hw rfl) (o_wd (i := 37) hw rfl) (o_nf (o_wd (i := 36) hw rfl)) (by decide) E_b1 (ct_7 l Z a0 hw b1 (0 : Int32) (0 : Int32) h6 n0 (o_n0 S) E_b1 F_length_b1 F_negative_b1) (by decide) (by decide) rfl rfl pd_11 rfl (Nat.le_of_eq rfl) at_17 rfl (q := 20) (by decide) (by decide) rfl (st' := [(.int (f_sig (0 : Int32) (0 : Int32)))]) (fun T S => ?_)
    refine o_lloadN S rfl at_20 rfl (q := 21) ?_
    refine o_callS0 S (W := 1) (argsL := [(.long q0)]) (rest := [(.int (f_sig (0 : Int32) (0 : Int32)))]) (o_wd (i := 38) hw rfl) (o_wd (i := 39) hw rfl) (o_wd (i := 40) hw rfl) (o_wd (i := 41) hw rfl) (by decide) (ct_8 l Z a0 hw q0 h6 n0 (o_n0 S)) (by decide) (by decide) rfl rfl pd_12 rfl (Nat.le_of_eq rfl) at_21 rfl (q := 24) (by decide) (by decide) rfl (st' := [(.int (f_sgn q0)), (.int (f_sig (0 : Int32) (0 : Int32)))]) (fun T S => ?_)
    refine o_icmp S at_24 (by decide) (q' := 31) (by decide) (q := 27) rfl hs_ne.1 hs_ne.2 (fun hc24 => ?_) (fun hc24 => ?_)
    · exact absurd (by rw [hsg]; decide) hc24
    · skip
      refine o_iconst S (z := 1) rfl at_27 rfl (q := 28) ?_
      refine o_goto S at_28 (by decide) (q := 32) (by decide) ?_
      refine o_istore S (L' := #[.val (.long q0), .second, .val (.long q1), .second, .val (.ref b1), .val (.int (1 : Int32)), .unset, .unset, .unset, .unset, .unset, .unset, .unset]) rfl at_32 rfl (q := 34) ?_
      refine o_lloadN S rfl at_34 rfl (q := 35) ?_
      refine o_ldc2 S (o_wd (i := 42) hw rfl) at_35 rfl (q := 38) ?_
      refine o_land S at_38 rfl (q := 39) ?_
      refine o_lstoreV S (L' := fun ff => #[.val (.long q0), .second, .val (.long q1), .second, .val (.ref b1), .val (.int (1 : Int32)), .val (.long ff), .second, .unset, .unset, .unset, .unset, .unset]) (fun _ => rfl) at_39 rfl (q := 41) (fun ff hff => ?_)
      have hff := ffm hff
      refine o_aload S rfl rfl at_41 rfl (q := 43) ?_
      refine o_lload S rfl at_43 rfl (q := 45) ?_
      refine o_callV S (W := 0) (argsL := [(.long ff)]) (rest := []) (a := b1) (o_wd (i := 43) hw rfl) (o_wd (i := 44) hw rfl) (o_wd (i := 46) hw rfl) (o_wd (i := 45) hw rfl) (o_wd (i := 2) hw rfl) (o_wd (i := 47) hw rfl) (o_nf (o_wd (i := 46) hw rfl)) (by decide) E_b1 (ct_9n0 l Z a0 hw b1 ff b5 (0 : Int32) ((f_abs q0).toInt32) ((((f_abs q0).toUInt64 >>> ((32 : Int32) &&& 0x3f).toInt64.toUInt64).toInt64).toInt32) h6 n0 (o_n0 S) E_b1 F_digits_b1 F_length_b1 F_negative_b1 A_b5 g_b1 g_b5 ne_b1_b5 hff) (by decide) (by decide) rfl rfl pd_10 rfl (Nat.le_of_eq rfl) at_45 rfl (q := 48) (by decide) (by decide) (fun T h8 rr9 S hQ => ?_)
      obtain ⟨e10, hv, K1, E_b1', F_digits_b1', F_length_b1', F_negative_b1', A_b5', hyl, hyz⟩ := hQ
      subst hv
      have E_b1 := E_b1'
      have F_digits_b1 := F_digits_b1'
      have F_length_b1 := F_length_b1'
      have F_negative_b1 := F_negative_b1'
      have A_b5 := A_b5'
      show Wp p e below (Po s n0 room_1 Q0) T (mkF m 48 #[.val (.long q0), .second, .val (.long q1), .second, .val (.ref b1), .val (.int (1 : Int32)), .val (.long ff), .second, .unset, .unset, .unset, .unset, .unset] [])
      have hz := hyz
      have F_length_b1 : Fld Z h8 b1 "com/example/krofusmidur/krofusmidur/amounts/MutableInteger" "length" "I" (.int (0 : Int32)) := by rw [hz] at F_length_b1; exact F_length_b1
      have F_negative_b1 : Fld Z h8 b1 "com/example/krofusmidur/krofusmidur/amounts/MutableInteger" "negative" "Z" (.int (0 : Int32)) := by rw [if_pos hz] at F_negative_b1; exact F_negative_b1
      have hnn : 0 ≤ 4 := by decide
      refine o_aload S rfl rfl at_48 rfl (q := 50) ?_
      refine o_callV0 S (W := 0) (argsL := []) (rest := []) (a := b1) (o_wd (i := 33) hw rfl) (o_wd (i := 34) hw rfl) (o_wd (i := 36) hw rfl) (o_wd (i := 35) hw rfl) (o_wd (i := 2) hw rfl) (o_wd (i := 37) hw rfl) (o_nf (o_wd (i := 36) hw rfl)) (by decide) E_b1 (ct_7 l Z a0 hw b1 (0 : Int32) (0 : Int32) h8 n0 (o_n0 S) E_b1 F_length_b1 F_negative_b1) (by decide) (by decide) rfl rfl pd_11 rfl (Nat.le_of_eq rfl) at_50 rfl (q := 53) (by decide) (by decide) rfl (st' := [(.int (f_sig (0 : Int32) (0 : Int32)))]) (fun T S => ?_)
      refine o_istoreV S (L' := fun s2 => #[.val (.long q0), .second, .val (.long q1), .second, .val (.ref b1), .val (.int (1 : Int32)), .val (.long ff), .second, .val (.int s2), .unset, .unset, .unset, .unset]) (fun _ => rfl) at_53 rfl (q := 55) (fun s2 hs2 => ?_)
      have hs20 : s2 = (0 : Int32) := by rw [hs2]; decide
      subst hs20
      refine o_iload S rfl at_55 rfl (q := 57) ?_
      refine o_lloadN S rfl at_57 rfl (q := 58) ?_
      refine o_callS0 S (W := 1) (argsL := [(.long q0)]) (rest := [(.int (0 : Int32))]) (o_wd (i := 38) hw rfl) (o_wd (i := 39) hw rfl) (o_wd (i := 40) hw rfl) (o_wd (i := 41) hw rfl) (by decide) (ct_8 l Z a0 hw q0 h8 n0 (o_n0 S)) (by decide) (by decide) rfl rfl pd_12 rfl (Nat.le_of_eq rfl) at_58 rfl (q := 61) (by decide) (by decide) rfl (st' := [(.int (f_sgn q0)), (.int (0 : Int32))]) (fun T S => ?_)
      refine o_lload S rfl at_61 rfl (q := 63) ?_
      refine o_callS0 S (W := 2) (argsL := [(.long ff)]) (rest := [(.int (f_sgn q0)), (.int (0 : Int32))]) (o_wd (i := 38) hw rfl) (o_wd (i := 39) hw rfl) (o_wd (i := 40) hw rfl) (o_wd (i := 41) hw rfl) (by decide) (ct_8 l Z a0 hw ff h8 n0 (o_n0 S)) (by decide) (by decide) rfl rfl pd_12 rfl (Nat.le_of_eq rfl) at_63 rfl (q := 66) (by decide) (by decide) rfl (st' := [(.int (f_sgn ff)), (.int (f_sgn q0)), (.int (0 : Int32))]) (fun T S => ?_)
      refine o_imul S at_66 rfl (q := 67) ?_
      refine o_icmp S at_67 (by decide) (q' := 74) (by decide) (q := 70) rfl hs_ne.1 hs_ne.2 (fun hc67 => ?_) (fun hc67 => ?_)
      · exact absurd (by rw [hsg]; exact (Int32.zero_mul).symm) hc67
      · skip
        refine o_iconst S (z := 1) rfl at_70 rfl (q := 71) ?_
        refine o_goto S at_71 (by decide) (q := 75) (by decide) ?_
        refine o_istore S (L' := #[.val (.long q0), .second, .val (.long q1), .second, .val (.ref b1), .val (.int (1 : Int32)), .val (.long ff), .second, .val (.int (0 : Int32)), .val (.int (1 : Int32)), .unset, .unset, .unset]) rfl at_75 rfl (q := 77) ?_
        refine o_new S (o_wd (i := 0) hw rfl) (o_wd (i := 1) hw rfl) (o_wd (i := 2) hw rfl) at_77 rfl (q := 80) (by decide) (by decide) (fun T h12 b11 S ha_b11 g_b11 X E_b11 D => ?_)
        have ne_b1_b11 : b1 ≠ b11 := by rw [ha_b11]; exact Nat.ne_of_lt E_b1.lt
        have ne_b5_b11 : b5 ≠ b11 := by rw [ha_b11]; exact Nat.ne_of_lt A_b5.lt
        have E_b1 := Exa.ext X E_b1
        have F_digits_b1 := Fld.ext X F_digits_b1
        have F_length_b1 := Fld.ext X F_length_b1
        have F_negative_b1 := Fld.ext X F_negative_b1
        have A_b5 := A_b5.ext X
        have F_digits_b11 : Fld Z h12 b11 "com/example/krofusmidur/krofusmidur/amounts/MutableInteger" "digits" "[I" .null := D (Or.inl (o_wd (i := 11) hw rfl)) (ty := (.array .int)) (by decide)
        have F_length_b11 : Fld Z h12 b11 "com/example/krofusmidur/krofusmidur/amounts/MutableInteger" "length" "I" (.int (0 : Int32)) := D (Or.inl (o_wd (i := 26) hw rfl)) (ty := .int) (by decide)
        have F_negative_b11 : Fld Z h12 b11 "com/example/krofusmidur/krofusmidur/amounts/MutableInteger" "negative" "Z" (.int (0 : Int32)) := D (Or.inl (o_wd (i := 28) hw rfl)) (ty := .boolean) (by decide)
        refine o_dup S rfl at_80 rfl (q := 81) ?_
        refine o_callI S (W := 1) (argsL := []) (rest := [(.ref b11)]) (a := b11) rfl (o_wd (i := 3) hw rfl) (o_wd (i := 4) hw rfl) (o_wd (i := 2) hw rfl) (o_wd (i := 5) hw rfl) (by decide) (ct_1 l Z a0 hw b11 h12 n0 (o_n0 S) E_b11 F_digits_b11 F_length_b11 F_negative_b11 g_b11) (by decide) (by decide) rfl rfl pd_2 rfl (Nat.le_of_eq rfl) at_81 rfl (q := 84) (by decide) (by decide) (fun T h13 rr14 S hQ => ?_)
        obtain ⟨b15, g_b15, sz'_b15, hv, K1, E_b11', F_digits_b11', F_length_b11', F_negative_b11', A_b15'⟩ := hQ
        subst hv
        have ne_b1_b15 : b1 ≠ b15 := Nat.ne_of_lt (Nat.lt_of_lt_of_le E_b1.lt sz'_b15)
        have ne_b5_b15 : b5 ≠ b15 := Nat.ne_of_lt (Nat.lt_of_lt_of_le A_b5.lt sz'_b15)
        have ne_b11_b15 : b11 ≠ b15 := Nat.ne_of_lt (Nat.lt_of_lt_of_le E_b11.lt sz'_b15)
        have E_b1 := E_b1.keep K1
        have F_digits_b1 := F_digits_b1.keep K1 (ninS ne_b1_b11 nin0)
        have F_length_b1 := F_length_b1.keep K1 (ninS ne_b1_b11 nin0)
        have F_negative_b1 := F_negative_b1.keep K1 (ninS ne_b1_b11 nin0)
        have A_b5 := A_b5.keep K1 (ninS ne_b5_b11 nin0)
        have E_b11 := E_b11'
        have F_digits_b11 := F_digits_b11'
        have F_length_b11 := F_length_b11'
        have F_negative_b11 := F_negative_b11'
        have A_b15 := A_b15'
        show Wp p e below (Po s n0 room_1 Q0) T (mkF m 84 #[.val (.long q0), .second, .val (.long q1), .second, .val (.ref b1), .val (.int (1 : Int32)), .val (.long ff), .second, .val (.int (0 : Int32)), .val (.int (1 : Int32)), .unset, .unset, .unset] [(.ref b11)])
        refine o_astore S (L' := #[.val (.long q0), .second, .val (.long q1), .second, .val (.ref b1), .val (.int (1 : Int32)), .val (.long ff), .second, .val (.int (0 : Int32)), .val (.int (1 : Int32)), .val (.ref b11), .unset, .unset]) rfl rfl at_84 rfl (q := 86) ?_
        refine o_aload S rfl rfl at_86 rfl (q := 88) ?_
        refine o_aload S rfl rfl at_88 rfl (q := 90) ?_
        refine o_callV S (W := 0) (argsL := [(.ref b1)]) (rest := []) (a := b11) (o_wd (i := 53) hw rfl) (o_wd (i := 54) hw rfl) (o_wd (i := 56) hw rfl) (o_wd (i := 55) hw rfl) (o_wd (i := 2) hw rfl) (o_wd (i := 57) hw rfl) (o_nf (o_wd (i := 56) hw rfl)) (by decide) E_b11 (ct_11 l Z a0 hw b11 b1 b15 b5 (0 : Int32) e10 0 h13 n0 (o_n0 S) E_b11 F_digits_b11 F_length_b11 F_negative_b11 A_b15 E_b1 F_digits_b1 F_length_b1 F_negative_b1 A_b5 g_b11 g_b15 ne_b11_b15 (Ne.symm ne_b1_b11) (Ne.symm ne_b5_b11) (Ne.symm ne_b1_b15) (Ne.symm ne_b5_b15) hnn hyl (by decide)) (by decide) (by decide) rfl rfl pd_13 rfl (Nat.le_of_eq rfl) at_90 rfl (q := 93) (by decide) (by decide) (fun T h16 rr17 S hQ => ?_)
        obtain ⟨hv, K1, E_b11', F_digits_b11', F_length_b11', F_negative_b11', A_b15'⟩ := hQ
        subst hv
        have E_b1 := E_b1.keep K1
        have F_digits_b1 := F_digits_b1.keep K1 (ninS ne_b1_b11 (ninS ne_b1_b15 nin0))
        have F_length_b1 := F_length_b1.keep K1 (ninS ne_b1_b11 (ninS ne_b1_b15 nin0))
        have F_negative_b1 := F_negative_b1.keep K1 (ninS ne_b1_b11 (ninS ne_b1_b15 nin0))
        have A_b5 := A_b5.keep K1 (ninS ne_b5_b11 (ninS ne_b5_b15 nin0))
        have E_b11 := E_b11'
        have F_digits_b11 := F_digits_b11'
        have F_length_b11 := F_length_b11'
        have F_negative_b11 := F_negative_b11'
        have A_b15 := A_b15'
        show Wp p e below (Po s n0 room_1 Q0) T (mkF m 93 #[.val (.long q0), .second, .val (.long q1), .second, .val (.ref b1), .val (.int (1 : Int32)), .val (.long ff), .second, .val (.int (0 : Int32)), .val (.int (1 : Int32)), .val (.ref b11), .unset, .unset] [])
        refine o_aload S rfl rfl at_93 rfl (q := 95) ?_
        refine o_callV0 S (W := 0) (argsL := []) (rest := []) (a := b11) (o_wd (i := 33) hw rfl) (o_wd (i := 34) hw rfl) (o_wd (i := 36) hw rfl) (o_wd (i := 35) hw rfl) (o_wd (i := 2) hw rfl) (o_wd (i := 37) hw rfl) (o_nf (o_wd (i := 36) hw rfl)) (by decide) E_b11 (ct_7 l Z a0 hw b11 (Int32.ofNat 0) (0 : Int32) h16 n0 (o_n0 S) E_b11 F_length_b11 F_negative_b11) (by decide) (by decide) rfl rfl pd_11 rfl (Nat.le_of_eq rfl) at_95 rfl (q := 98) (by decide) (by decide) rfl (st' := [(.int (f_sig (Int32.ofNat 0) (0 : Int32)))]) (fun T S => ?_)
        refine o_iload S rfl at_98 rfl (q := 100) ?_
        refine o_icmp S at_100 (by decide) (q' := 107) (by decide) (q := 103) rfl hs_ne.1 hs_ne.2 (fun hc100 => ?_) (fun hc100 => ?_)
        · exact absurd (by decide) hc100
        · skip
          refine o_iconst S (z := 1) rfl at_103 rfl (q := 104) ?_
          refine o_goto S at_104 (by decide) (q := 108) (by decide) ?_
          refine o_istore S (L' := #[.val (.long q0), .second, .val (.long q1), .second, .val (.ref b1), .val (.int (1 : Int32)), .val (.long ff), .second, .val (.int (0 : Int32)), .val (.int (1 : Int32)), .val (.ref b11), .val (.int (1 : Int32)), .unset]) rfl at_108 rfl (q := 110) ?_
          refine o_aload S rfl rfl at_110 rfl (q := 112) ?_
          refine o_aload S rfl rfl at_112 rfl (q := 114) ?_
          refine o_callV0 S (W := 0) (argsL := [(.ref b1)]) (rest := []) (a := b11) (o_wd (i := 62) hw rfl) (o_wd (i := 63) hw rfl) (o_wd (i := 65) hw rfl) (o_wd (i := 64) hw rfl) (o_wd (i := 2) hw rfl) (o_wd (i := 66) hw rfl) (o_nf (o_wd (i := 65) hw rfl)) (by decide) E_b11 (ct_12z l Z a0 hw b11 b1 (0 : Int32) h16 n0 (o_n0 S) E_b11 E_b1 F_length_b1 F_negative_b1) (by decide) (by decide) rfl rfl pd_13 rfl (Nat.le_of_eq rfl) at_114 rfl (q := 117) (by decide) (by decide) rfl (st' := []) (fun T S => ?_)
          refine o_aload S rfl rfl at_117 rfl (q := 119) ?_
          refine o_callV0 S (W := 0) (argsL := []) (rest := []) (a := b11) (o_wd (i := 33) hw rfl) (o_wd (i := 34) hw rfl) (o_wd (i := 36) hw rfl) (o_wd (i := 35) hw rfl) (o_wd (i := 2) hw rfl) (o_wd (i := 37) hw rfl) (o_nf (o_wd (i := 36) hw rfl)) (by decide) E_b11 (ct_7 l Z a0 hw b11 (Int32.ofNat 0) (0 : Int32) h16 n0 (o_n0 S) E_b11 F_length_b11 F_negative_b11) (by decide) (by decide) rfl rfl pd_11 rfl (Nat.le_of_eq rfl) at_119 rfl (q := 122) (by decide) (by decide) rfl (st' := [(.int (f_sig (Int32.ofNat 0) (0 : Int32)))]) (fun T S => ?_)
          refine o_if S at_122 (by decide) (q' := 129) (by decide) (q := 125) rfl hs_ne.1 hs_ne.2 (fun hc122 => ?_) (fun hc122 => ?_)
          · exact absurd (by decide) hc122
          · skip
            refine o_iconst S (z := 1) rfl at_125 rfl (q := 126) ?_
            refine o_goto S at_126 (by decide) (q := 130) (by decide) ?_
            refine o_istore S (L' := #[.val (.long q0), .second, .val (.long q1), .second, .val (.ref b1), .val (.int (1 : Int32)), .val (.long ff), .second, .val (.int (0 : Int32)), .val (.int (1 : Int32)), .val (.ref b11), .val (.int (1 : Int32)), .val (.int (1 : Int32))]) rfl at_130 rfl (q := 132) ?_
            refine o_iload S rfl at_132 rfl (q := 134) ?_
            refine o_if S at_134 (by decide) (q' := 156) (by decide) (q := 137) rfl hs_eq.1 hs_eq.2 (fun hc134 => ?_) (fun hc134 => ?_)
            · exact absurd hc134 (by decide)
            · skip
              refine o_iload S rfl at_137 rfl (q := 139) ?_
              refine o_if S at_139 (by decide) (q' := 156) (by decide) (q := 142) rfl hs_eq.1 hs_eq.2 (fun hc139 => ?_) (fun hc139 => ?_)
              · exact absurd hc139 (by decide)
              · skip
                refine o_iload S rfl at_142 rfl (q := 144) ?_
                refine o_if S at_144 (by decide) (q' := 156) (by decide) (q := 147) rfl hs_eq.1 hs_eq.2 (fun hc144 => ?_) (fun hc144 => ?_)
                · exact absurd hc144 (by decide)
                · skip
                  refine o_iload S rfl at_147 rfl (q := 149) ?_
                  refine o_if S at_149 (by decide) (q' := 156) (by decide) (q := 152) rfl hs_eq.1 hs_eq.2 (fun hc149 => ?_) (fun hc149 => ?_)
                  · exact absurd hc149 (by decide)
                  · skip
                    refine o_iconst S (z := 1) rfl at_152 rfl (q := 153) ?_
                    refine o_goto S at_153 (by decide) (q := 157) (by decide) ?_
                    refine o_retN S (t := .boolean) rfl (by simp) at_157 (by decide) (by decide) rfl ?_
                    rfl
  · skip
    have F_length_b1 : Fld Z h6 b1 "com/example/krofusmidur/krofusmidur/amounts/MutableInteger" "length" "I" (.int (1 : Int32)) := by rw [ht] at F_length_b1; exact F_length_b1
    have hqn : ¬ q0 = 0 := sjne (by omega)
    have hxx := sj1 ht
    by_cases hs : 0 ≤ q0.toInt
    · skip
      have F_negative_b1 : Fld Z h6 b1 "com/example/krofusmidur/krofusmidur/amounts/MutableInteger" "negative" "Z" (.int (0 : Int32)) := by rw [if_neg (by omega), show ngF q0 = (0 : Int32) from if_pos hs] at F_negative_b1; exact F_negative_b1
      have hsg : f_sgn q0 = (1 : Int32) := sgnp hs hqn
      refine o_aload S rfl rfl at_15 rfl (q := 17) ?_
      refine o_callV0 S (W := 0) (argsL := []) (rest := []) (a := b1) (o_wd (i := 33) hw rfl) (o_wd (i := 34) hw rfl) (o_wd (i := 36) hw rfl) (o_wd (i := 35) hw rfl) (o_wd (i := 2) hw rfl) (o_wd (i := 37) hw rfl) (o_nf (o_wd (i := 36) hw rfl)) (by decide) E_b1 (ct_7 l Z a0 hw b1 (1 : Int32) (0 : Int32) h6 n0 (o_n0 S) E_b1 F_length_b1 F_negative_b1) (by decide) (by decide) rfl rfl pd_11 rfl (Nat.le_of_eq rfl) at_17 rfl (q := 20) (by decide) (by decide) rfl (st' := [(.int (f_sig (1 : Int32) (0 : Int32)))]) (fun T S => ?_)
      refine o_lloadN S rfl at_20 rfl (q := 21) ?_
      refine o_callS0 S (W := 1) (argsL := [(.long q0)]) (rest := [(.int (f_sig (1 : Int32) (0 : Int32)))]) (o_wd (i := 38) hw rfl) (o_wd (i := 39) hw rfl) (o_wd (i := 40) hw rfl) (o_wd (i := 41) hw rfl) (by decide) (ct_8 l Z a0 hw q0 h6 n0 (o_n0 S)) (by decide) (by decide) rfl rfl pd_12 rfl (Nat.le_of_eq rfl) at_21 rfl (q := 24) (by decide) (by decide) rfl (st' := [(.int (f_sgn q0)), (.int (f_sig (1 : Int32) (0 : Int32)))]) (fun T S => ?_)
      refine o_icmp S at_24 (by decide) (q' := 31) (by decide) (q := 27) rfl hs_ne.1 hs_ne.2 (fun hc24 => ?_) (fun hc24 => ?_)
      · exact absurd (by rw [hsg]; decide) hc24
      · skip
        refine o_iconst S (z := 1) rfl at_27 rfl (q := 28) ?_
        refine o_goto S at_28 (by decide) (q := 32) (by decide) ?_
        refine o_istore S (L' := #[.val (.long q0), .second, .val (.long q1), .second, .val (.ref b1), .val (.int (1 : Int32)), .unset, .unset, .unset, .unset, .unset, .unset, .unset]) rfl at_32 rfl (q := 34) ?_
        refine o_lloadN S rfl at_34 rfl (q := 35) ?_
        refine o_ldc2 S (o_wd (i := 42) hw rfl) at_35 rfl (q := 38) ?_
        refine o_land S at_38 rfl (q := 39) ?_
        refine o_lstoreV S (L' := fun ff => #[.val (.long q0), .second, .val (.long q1), .second, .val (.ref b1), .val (.int (1 : Int32)), .val (.long ff), .second, .unset, .unset, .unset, .unset, .unset]) (fun _ => rfl) at_39 rfl (q := 41) (fun ff hff => ?_)
        have hff := ffm hff
        refine o_aload S rfl rfl at_41 rfl (q := 43) ?_
        refine o_lload S rfl at_43 rfl (q := 45) ?_
        refine o_callV S (W := 0) (argsL := [(.long ff)]) (rest := []) (a := b1) (o_wd (i := 43) hw rfl) (o_wd (i := 44) hw rfl) (o_wd (i := 46) hw rfl) (o_wd (i := 45) hw rfl) (o_wd (i := 2) hw rfl) (o_wd (i := 47) hw rfl) (o_nf (o_wd (i := 46) hw rfl)) (by decide) E_b1 (ct_9n1 l Z a0 hw b1 ff b5 (0 : Int32) ((f_abs q0).toInt32) ((((f_abs q0).toUInt64 >>> ((32 : Int32) &&& 0x3f).toInt64.toUInt64).toInt64).toInt32) h6 n0 (o_n0 S) E_b1 F_digits_b1 F_length_b1 F_negative_b1 A_b5 g_b1 g_b5 ne_b1_b5 hff hxx) (by decide) (by decide) rfl rfl pd_10 rfl (Nat.le_of_eq rfl) at_45 rfl (q := 48) (by decide) (by decide) (fun T h18 rr19 S hQ => ?_)
        obtain ⟨e20, hv, K1, E_b1', F_digits_b1', F_length_b1', F_negative_b1', A_b5', hyl, hyz⟩ := hQ
        subst hv
        have E_b1 := E_b1'
        have F_digits_b1 := F_digits_b1'
        have F_length_b1 := F_length_b1'
        have F_negative_b1 := F_negative_b1'
        have A_b5 := A_b5'
        show Wp p e below (Po s n0 room_1 Q0) T (mkF m 48 #[.val (.long q0), .second, .val (.long q1), .second, .val (.ref b1), .val (.int (1 : Int32)), .val (.long ff), .second, .unset, .unset, .unset, .unset, .unset] [])
        by_cases hfz : ff = 0
        · skip
          have hz := hyz.mpr hfz
          have F_length_b1 : Fld Z h18 b1 "com/example/krofusmidur/krofusmidur/amounts/MutableInteger" "length" "I" (.int (0 : Int32)) := by rw [hz] at F_length_b1; exact F_length_b1
          have F_negative_b1 : Fld Z h18 b1 "com/example/krofusmidur/krofusmidur/amounts/MutableInteger" "negative" "Z" (.int (0 : Int32)) := by rw [if_pos hz] at F_negative_b1; exact F_negative_b1
          have hnn : 0 ≤ 4 := by decide
          refine o_aload S rfl rfl at_48 rfl (q := 50) ?_
          refine o_callV0 S (W := 0) (argsL := []) (rest := []) (a := b1) (o_wd (i := 33) hw rfl) (o_wd (i := 34) hw rfl) (o_wd (i := 36) hw rfl) (o_wd (i := 35) hw rfl) (o_wd (i := 2) hw rfl) (o_wd (i := 37) hw rfl) (o_nf (o_wd (i := 36) hw rfl)) (by decide) E_b1 (ct_7 l Z a0 hw b1 (0 : Int32) (0 : Int32) h18 n0 (o_n0 S) E_b1 F_length_b1 F_negative_b1) (by decide) (by decide) rfl rfl pd_11 rfl (Nat.le_of_eq rfl) at_50 rfl (q := 53) (by decide) (by decide) rfl (st' := [(.int (f_sig (0 : Int32) (0 : Int32)))]) (fun T S => ?_)
          refine o_istoreV S (L' := fun s2 => #[.val (.long q0), .second, .val (.long q1), .second, .val (.ref b1), .val (.int (1 : Int32)), .val (.long ff), .second, .val (.int s2), .unset, .unset, .unset, .unset]) (fun _ => rfl) at_53 rfl (q := 55) (fun s2 hs2 => ?_)
          have hs20 : s2 = (0 : Int32) := by rw [hs2]; decide
          subst hs20
          refine o_iload S rfl at_55 rfl (q := 57) ?_
          refine o_lloadN S rfl at_57 rfl (q := 58) ?_
          refine o_callS0 S (W := 1) (argsL := [(.long q0)]) (rest := [(.int (0 : Int32))]) (o_wd (i := 38) hw rfl) (o_wd (i := 39) hw rfl) (o_wd (i := 40) hw rfl) (o_wd (i := 41) hw rfl) (by decide) (ct_8 l Z a0 hw q0 h18 n0 (o_n0 S)) (by decide) (by decide) rfl rfl pd_12 rfl (Nat.le_of_eq rfl) at_58 rfl (q := 61) (by decide) (by decide) rfl (st' := [(.int (f_sgn q0)), (.int (0 : Int32))]) (fun T S => ?_)
          refine o_lload S rfl at_61 rfl (q := 63) ?_
          refine o_callS0 S (W := 2) (argsL := [(.long ff)]) (rest := [(.int (f_sgn q0)), (.int (0 : Int32))]) (o_wd (i := 38) hw rfl) (o_wd (i := 39) hw rfl) (o_wd (i := 40) hw rfl) (o_wd (i := 41) hw rfl) (by decide) (ct_8 l Z a0 hw ff h18 n0 (o_n0 S)) (by decide) (by decide) rfl rfl pd_12 rfl (Nat.le_of_eq rfl) at_63 rfl (q := 66) (by decide) (by decide) rfl (st' := [(.int (f_sgn ff)), (.int (f_sgn q0)), (.int (0 : Int32))]) (fun T S => ?_)
          refine o_imul S at_66 rfl (q := 67) ?_
          refine o_icmp S at_67 (by decide) (q' := 74) (by decide) (q := 70) rfl hs_ne.1 hs_ne.2 (fun hc67 => ?_) (fun hc67 => ?_)
          · exact absurd (by rw [hfz, hsg]; decide) hc67
          · skip
            refine o_iconst S (z := 1) rfl at_70 rfl (q := 71) ?_
            refine o_goto S at_71 (by decide) (q := 75) (by decide) ?_
            refine o_istore S (L' := #[.val (.long q0), .second, .val (.long q1), .second, .val (.ref b1), .val (.int (1 : Int32)), .val (.long ff), .second, .val (.int (0 : Int32)), .val (.int (1 : Int32)), .unset, .unset, .unset]) rfl at_75 rfl (q := 77) ?_
            refine o_new S (o_wd (i := 0) hw rfl) (o_wd (i := 1) hw rfl) (o_wd (i := 2) hw rfl) at_77 rfl (q := 80) (by decide) (by decide) (fun T h22 b21 S ha_b21 g_b21 X E_b21 D => ?_)
            have ne_b1_b21 : b1 ≠ b21 := by rw [ha_b21]; exact Nat.ne_of_lt E_b1.lt
            have ne_b5_b21 : b5 ≠ b21 := by rw [ha_b21]; exact Nat.ne_of_lt A_b5.lt
            have E_b1 := Exa.ext X E_b1
            have F_digits_b1 := Fld.ext X F_digits_b1
            have F_length_b1 := Fld.ext X F_length_b1
            have F_negative_b1 := Fld.ext X F_negative_b1
            have A_b5 := A_b5.ext X
            have F_digits_b21 : Fld Z h22 b21 "com/example/krofusmidur/krofusmidur/amounts/MutableInteger" "digits" "[I" .null := D (Or.inl (o_wd (i := 11) hw rfl)) (ty := (.array .int)) (by decide)
            have F_length_b21 : Fld Z h22 b21 "com/example/krofusmidur/krofusmidur/amounts/MutableInteger" "length" "I" (.int (0 : Int32)) := D (Or.inl (o_wd (i := 26) hw rfl)) (ty := .int) (by decide)
            have F_negative_b21 : Fld Z h22 b21 "com/example/krofusmidur/krofusmidur/amounts/MutableInteger" "negative" "Z" (.int (0 : Int32)) := D (Or.inl (o_wd (i := 28) hw rfl)) (ty := .boolean) (by decide)
            refine o_dup S rfl at_80 rfl (q := 81) ?_
            refine o_callI S (W := 1) (argsL := []) (rest := [(.ref b21)]) (a := b21) rfl (o_wd (i := 3) hw rfl) (o_wd (i := 4) hw rfl) (o_wd (i := 2) hw rfl) (o_wd (i := 5) hw rfl) (by decide) (ct_1 l Z a0 hw b21 h22 n0 (o_n0 S) E_b21 F_digits_b21 F_length_b21 F_negative_b21 g_b21) (by decide) (by decide) rfl rfl pd_2 rfl (Nat.le_of_eq rfl) at_81 rfl (q := 84) (by decide) (by decide) (fun T h23 rr24 S hQ => ?_)
            obtain ⟨b25, g_b25, sz'_b25, hv, K1, E_b21', F_digits_b21', F_length_b21', F_negative_b21', A_b25'⟩ := hQ
            subst hv
            have ne_b1_b25 : b1 ≠ b25 := Nat.ne_of_lt (Nat.lt_of_lt_of_le E_b1.lt sz'_b25)
            have ne_b5_b25 : b5 ≠ b25 := Nat.ne_of_lt (Nat.lt_of_lt_of_le A_b5.lt sz'_b25)
            have ne_b21_b25 : b21 ≠ b25 := Nat.ne_of_lt (Nat.lt_of_lt_of_le E_b21.lt sz'_b25)
            have E_b1 := E_b1.keep K1
            have F_digits_b1 := F_digits_b1.keep K1 (ninS ne_b1_b21 nin0)
            have F_length_b1 := F_length_b1.keep K1 (ninS ne_b1_b21 nin0)
            have F_negative_b1 := F_negative_b1.keep K1 (ninS ne_b1_b21 nin0)
            have A_b5 := A_b5.keep K1 (ninS ne_b5_b21 nin0)
            have E_b21 := E_b21'
            have F_digits_b21 := F_digits_b21'
            have F_length_b21 := F_length_b21'
            have F_negative_b21 := F_negative_b21'
            have A_b25 := A_b25'
            show Wp p e below (Po s n0 room_1 Q0) T (mkF m 84 #[.val (.long q0), .second, .val (.long q1), .second, .val (.ref b1), .val (.int (1 : Int32)), .val (.long ff), .second, .val (.int (0 : Int32)), .val (.int (1 : Int32)), .unset, .unset, .unset] [(.ref b21)])
            refine o_astore S (L' := #[.val (.long q0), .second, .val (.long q1), .second, .val (.ref b1), .val (.int (1 : Int32)), .val (.long ff), .second, .val (.int (0 : Int32)), .val (.int (1 : Int32)), .val (.ref b21), .unset, .unset]) rfl rfl at_84 rfl (q := 86) ?_
            refine o_aload S rfl rfl at_86 rfl (q := 88) ?_
            refine o_aload S rfl rfl at_88 rfl (q := 90) ?_
            refine o_callV S (W := 0) (argsL := [(.ref b1)]) (rest := []) (a := b21) (o_wd (i := 53) hw rfl) (o_wd (i := 54) hw rfl) (o_wd (i := 56) hw rfl) (o_wd (i := 55) hw rfl) (o_wd (i := 2) hw rfl) (o_wd (i := 57) hw rfl) (o_nf (o_wd (i := 56) hw rfl)) (by decide) E_b21 (ct_11 l Z a0 hw b21 b1 b25 b5 (0 : Int32) e20 0 h23 n0 (o_n0 S) E_b21 F_digits_b21 F_length_b21 F_negative_b21 A_b25 E_b1 F_digits_b1 F_length_b1 F_negative_b1 A_b5 g_b21 g_b25 ne_b21_b25 (Ne.symm ne_b1_b21) (Ne.symm ne_b5_b21) (Ne.symm ne_b1_b25) (Ne.symm ne_b5_b25) hnn hyl (by decide)) (by decide) (by decide) rfl rfl pd_13 rfl (Nat.le_of_eq rfl) at_90 rfl (q := 93) (by decide) (by decide) (fun T h26 rr27 S hQ => ?_)
            obtain ⟨hv, K1, E_b21', F_digits_b21', F_length_b21', F_negative_b21', A_b25'⟩ := hQ
            subst hv
            have E_b1 := E_b1.keep K1
            have F_digits_b1 := F_digits_b1.keep K1 (ninS ne_b1_b21 (ninS ne_b1_b25 nin0))
            have F_length_b1 := F_length_b1.keep K1 (ninS ne_b1_b21 (ninS ne_b1_b25 nin0))
            have F_negative_b1 := F_negative_b1.keep K1 (ninS ne_b1_b21 (ninS ne_b1_b25 nin0))
            have A_b5 := A_b5.keep K1 (ninS ne_b5_b21 (ninS ne_b5_b25 nin0))
            have E_b21 := E_b21'
            have F_digits_b21 := F_digits_b21'
            have F_length_b21 := F_length_b21'
            have F_negative_b21 := F_negative_b21'
            have A_b25 := A_b25'
            show Wp p e below (Po s n0 room_1 Q0) T (mkF m 93 #[.val (.long q0), .second, .val (.long q1), .second, .val (.ref b1), .val (.int (1 : Int32)), .val (.long ff), .second, .val (.int (0 : Int32)), .val (.int (1 : Int32)), .val (.ref b21), .unset, .unset] [])
            refine o_aload S rfl rfl at_93 rfl (q := 95) ?_
            refine o_callV0 S (W := 0) (argsL := []) (rest := []) (a := b21) (o_wd (i := 33) hw rfl) (o_wd (i := 34) hw rfl) (o_wd (i := 36) hw rfl) (o_wd (i := 35) hw rfl) (o_wd (i := 2) hw rfl) (o_wd (i := 37) hw rfl) (o_nf (o_wd (i := 36) hw rfl)) (by decide) E_b21 (ct_7 l Z a0 hw b21 (Int32.ofNat 0) (0 : Int32) h26 n0 (o_n0 S) E_b21 F_length_b21 F_negative_b21) (by decide) (by decide) rfl rfl pd_11 rfl (Nat.le_of_eq rfl) at_95 rfl (q := 98) (by decide) (by decide) rfl (st' := [(.int (f_sig (Int32.ofNat 0) (0 : Int32)))]) (fun T S => ?_)
            refine o_iload S rfl at_98 rfl (q := 100) ?_
            refine o_icmp S at_100 (by decide) (q' := 107) (by decide) (q := 103) rfl hs_ne.1 hs_ne.2 (fun hc100 => ?_) (fun hc100 => ?_)
            · exact absurd (by decide) hc100
            · skip
              refine o_iconst S (z := 1) rfl at_103 rfl (q := 104) ?_
              refine o_goto S at_104 (by decide) (q := 108) (by decide) ?_
              refine o_istore S (L' := #[.val (.long q0), .second, .val (.long q1), .second, .val (.ref b1), .val (.int (1 : Int32)), .val (.long ff), .second, .val (.int (0 : Int32)), .val (.int (1 : Int32)), .val (.ref b21), .val (.int (1 : Int32)), .unset]) rfl at_108 rfl (q := 110) ?_
              refine o_aload S rfl rfl at_110 rfl (q := 112) ?_
              refine o_aload S rfl rfl at_112 rfl (q := 114) ?_
              refine o_callV0 S (W := 0) (argsL := [(.ref b1)]) (rest := []) (a := b21) (o_wd (i := 62) hw rfl) (o_wd (i := 63) hw rfl) (o_wd (i := 65) hw rfl) (o_wd (i := 64) hw rfl) (o_wd (i := 2) hw rfl) (o_wd (i := 66) hw rfl) (o_nf (o_wd (i := 65) hw rfl)) (by decide) E_b21 (ct_12z l Z a0 hw b21 b1 (0 : Int32) h26 n0 (o_n0 S) E_b21 E_b1 F_length_b1 F_negative_b1) (by decide) (by decide) rfl rfl pd_13 rfl (Nat.le_of_eq rfl) at_114 rfl (q := 117) (by decide) (by decide) rfl (st' := []) (fun T S => ?_)
              refine o_aload S rfl rfl at_117 rfl (q := 119) ?_
              refine o_callV0 S (W := 0) (argsL := []) (rest := []) (a := b21) (o_wd (i := 33) hw rfl) (o_wd (i := 34) hw rfl) (o_wd (i := 36) hw rfl) (o_wd (i := 35) hw rfl) (o_wd (i := 2) hw rfl) (o_wd (i := 37) hw rfl) (o_nf (o_wd (i := 36) hw rfl)) (by decide) E_b21 (ct_7 l Z a0 hw b21 (Int32.ofNat 0) (0 : Int32) h26 n0 (o_n0 S) E_b21 F_length_b21 F_negative_b21) (by decide) (by decide) rfl rfl pd_11 rfl (Nat.le_of_eq rfl) at_119 rfl (q := 122) (by decide) (by decide) rfl (st' := [(.int (f_sig (Int32.ofNat 0) (0 : Int32)))]) (fun T S => ?_)
              refine o_if S at_122 (by decide) (q' := 129) (by decide) (q := 125) rfl hs_ne.1 hs_ne.2 (fun hc122 => ?_) (fun hc122 => ?_)
              · exact absurd (by decide) hc122
              · skip
                refine o_iconst S (z := 1) rfl at_125 rfl (q := 126) ?_
                refine o_goto S at_126 (by decide) (q := 130) (by decide) ?_
                refine o_istore S (L' := #[.val (.long q0), .second, .val (.long q1), .second, .val (.ref b1), .val (.int (1 : Int32)), .val (.long ff), .second, .val (.int (0 : Int32)), .val (.int (1 : Int32)), .val (.ref b21), .val (.int (1 : Int32)), .val (.int (1 : Int32))]) rfl at_130 rfl (q := 132) ?_
                refine o_iload S rfl at_132 rfl (q := 134) ?_
                refine o_if S at_134 (by decide) (q' := 156) (by decide) (q := 137) rfl hs_eq.1 hs_eq.2 (fun hc134 => ?_) (fun hc134 => ?_)
                · exact absurd hc134 (by decide)
                · skip
                  refine o_iload S rfl at_137 rfl (q := 139) ?_
                  refine o_if S at_139 (by decide) (q' := 156) (by decide) (q := 142) rfl hs_eq.1 hs_eq.2 (fun hc139 => ?_) (fun hc139 => ?_)
                  · exact absurd hc139 (by decide)
                  · skip
                    refine o_iload S rfl at_142 rfl (q := 144) ?_
                    refine o_if S at_144 (by decide) (q' := 156) (by decide) (q := 147) rfl hs_eq.1 hs_eq.2 (fun hc144 => ?_) (fun hc144 => ?_)
                    · exact absurd hc144 (by decide)
                    · skip
                      refine o_iload S rfl at_147 rfl (q := 149) ?_
                      refine o_if S at_149 (by decide) (q' := 156) (by decide) (q := 152) rfl hs_eq.1 hs_eq.2 (fun hc149 => ?_) (fun hc149 => ?_)
                      · exact absurd hc149 (by decide)
                      · skip
                        refine o_iconst S (z := 1) rfl at_152 rfl (q := 153) ?_
                        refine o_goto S at_153 (by decide) (q := 157) (by decide) ?_
                        refine o_retN S (t := .boolean) rfl (by simp) at_157 (by decide) (by decide) rfl ?_
                        rfl
        · skip
          have hz : ¬ trm e20 3 = 0 := fun q => hfz (hyz.mp q)
          have hle := trm_le e20 3
          have F_negative_b1 : Fld Z h18 b1 "com/example/krofusmidur/krofusmidur/amounts/MutableInteger" "negative" "Z" (.int (0 : Int32)) := by rw [if_neg hz] at F_negative_b1; exact F_negative_b1
          obtain ⟨t, et⟩ : ∃ t, t = trm e20 3 := ⟨_, rfl⟩
          rw [← et] at hz hle
          have F_length_b1 : Fld Z h18 b1 "com/example/krofusmidur/krofusmidur/amounts/MutableInteger" "length" "I" (.int (Int32.ofNat t)) := by rw [← et] at F_length_b1; exact F_length_b1
          have hn1 : 1 ≤ t := by omega
          have hnn : t ≤ 4 := by omega
          have hxl := cpL_len hnn hyl
          have hxy := cpL_get hnn hyl
          refine o_aload S rfl rfl at_48 rfl (q := 50) ?_
          refine o_callV0 S (W := 0) (argsL := []) (rest := []) (a := b1) (o_wd (i := 33) hw rfl) (o_wd (i := 34) hw rfl) (o_wd (i := 36) hw rfl) (o_wd (i := 35) hw rfl) (o_wd (i := 2) hw rfl) (o_wd (i := 37) hw rfl) (o_nf (o_wd (i := 36) hw rfl)) (by decide) E_b1 (ct_7 l Z a0 hw b1 (Int32.ofNat t) (0 : Int32) h18 n0 (o_n0 S) E_b1 F_length_b1 F_negative_b1) (by decide) (by decide) rfl rfl pd_11 rfl (Nat.le_of_eq rfl) at_50 rfl (q := 53) (by decide) (by decide) rfl (st' := [(.int (f_sig (Int32.ofNat t) (0 : Int32)))]) (fun T S => ?_)
          refine o_istoreV S (L' := fun s2 => #[.val (.long q0), .second, .val (.long q1), .second, .val (.ref b1), .val (.int (1 : Int32)), .val (.long ff), .second, .val (.int s2), .unset, .unset, .unset, .unset]) (fun _ => rfl) at_53 rfl (q := 55) (fun s2 hs2 => ?_)
          have hs20 : s2 = (1 : Int32) := by rw [hs2]; exact (sigz hn1 hnn).trans (by decide)
          subst hs20
          refine o_iload S rfl at_55 rfl (q := 57) ?_
          refine o_lloadN S rfl at_57 rfl (q := 58) ?_
          refine o_callS0 S (W := 1) (argsL := [(.long q0)]) (rest := [(.int (1 : Int32))]) (o_wd (i := 38) hw rfl) (o_wd (i := 39) hw rfl) (o_wd (i := 40) hw rfl) (o_wd (i := 41) hw rfl) (by decide) (ct_8 l Z a0 hw q0 h18 n0 (o_n0 S)) (by decide) (by decide) rfl rfl pd_12 rfl (Nat.le_of_eq rfl) at_58 rfl (q := 61) (by decide) (by decide) rfl (st' := [(.int (f_sgn q0)), (.int (1 : Int32))]) (fun T S => ?_)
          refine o_lload S rfl at_61 rfl (q := 63) ?_
          refine o_callS0 S (W := 2) (argsL := [(.long ff)]) (rest := [(.int (f_sgn q0)), (.int (1 : Int32))]) (o_wd (i := 38) hw rfl) (o_wd (i := 39) hw rfl) (o_wd (i := 40) hw rfl) (o_wd (i := 41) hw rfl) (by decide) (ct_8 l Z a0 hw ff h18 n0 (o_n0 S)) (by decide) (by decide) rfl rfl pd_12 rfl (Nat.le_of_eq rfl) at_63 rfl (q := 66) (by decide) (by decide) rfl (st' := [(.int (f_sgn ff)), (.int (f_sgn q0)), (.int (1 : Int32))]) (fun T S => ?_)
          refine o_imul S at_66 rfl (q := 67) ?_
          refine o_icmp S at_67 (by decide) (q' := 74) (by decide) (q := 70) rfl hs_ne.1 hs_ne.2 (fun hc67 => ?_) (fun hc67 => ?_)
          · exact absurd (by rw [hsg, sgnp hff hfz]; decide) hc67
          · skip
            refine o_iconst S (z := 1) rfl at_70 rfl (q := 71) ?_
            refine o_goto S at_71 (by decide) (q := 75) (by decide) ?_
            refine o_istore S (L' := #[.val (.long q0), .second, .val (.long q1), .second, .val (.ref b1), .val (.int (1 : Int32)), .val (.long ff), .second, .val (.int (1 : Int32)), .val (.int (1 : Int32)), .unset, .unset, .unset]) rfl at_75 rfl (q := 77) ?_
            refine o_new S (o_wd (i := 0) hw rfl) (o_wd (i := 1) hw rfl) (o_wd (i := 2) hw rfl) at_77 rfl (q := 80) (by decide) (by decide) (fun T h29 b28 S ha_b28 g_b28 X E_b28 D => ?_)
            have ne_b1_b28 : b1 ≠ b28 := by rw [ha_b28]; exact Nat.ne_of_lt E_b1.lt
            have ne_b5_b28 : b5 ≠ b28 := by rw [ha_b28]; exact Nat.ne_of_lt A_b5.lt
            have E_b1 := Exa.ext X E_b1
            have F_digits_b1 := Fld.ext X F_digits_b1
            have F_length_b1 := Fld.ext X F_length_b1
            have F_negative_b1 := Fld.ext X F_negative_b1
            have A_b5 := A_b5.ext X
            have F_digits_b28 : Fld Z h29 b28 "com/example/krofusmidur/krofusmidur/amounts/MutableInteger" "digits" "[I" .null := D (Or.inl (o_wd (i := 11) hw rfl)) (ty := (.array .int)) (by decide)
            have F_length_b28 : Fld Z h29 b28 "com/example/krofusmidur/krofusmidur/amounts/MutableInteger" "length" "I" (.int (0 : Int32)) := D (Or.inl (o_wd (i := 26) hw rfl)) (ty := .int) (by decide)
            have F_negative_b28 : Fld Z h29 b28 "com/example/krofusmidur/krofusmidur/amounts/MutableInteger" "negative" "Z" (.int (0 : Int32)) := D (Or.inl (o_wd (i := 28) hw rfl)) (ty := .boolean) (by decide)
            refine o_dup S rfl at_80 rfl (q := 81) ?_
            refine o_callI S (W := 1) (argsL := []) (rest := [(.ref b28)]) (a := b28) rfl (o_wd (i := 3) hw rfl) (o_wd (i := 4) hw rfl) (o_wd (i := 2) hw rfl) (o_wd (i := 5) hw rfl) (by decide) (ct_1 l Z a0 hw b28 h29 n0 (o_n0 S) E_b28 F_digits_b28 F_length_b28 F_negative_b28 g_b28) (by decide) (by decide) rfl rfl pd_2 rfl (Nat.le_of_eq rfl) at_81 rfl (q := 84) (by decide) (by decide) (fun T h30 rr31 S hQ => ?_)
            obtain ⟨b32, g_b32, sz'_b32, hv, K1, E_b28', F_digits_b28', F_length_b28', F_negative_b28', A_b32'⟩ := hQ
            subst hv
            have ne_b1_b32 : b1 ≠ b32 := Nat.ne_of_lt (Nat.lt_of_lt_of_le E_b1.lt sz'_b32)
            have ne_b5_b32 : b5 ≠ b32 := Nat.ne_of_lt (Nat.lt_of_lt_of_le A_b5.lt sz'_b32)
            have ne_b28_b32 : b28 ≠ b32 := Nat.ne_of_lt (Nat.lt_of_lt_of_le E_b28.lt sz'_b32)
            have E_b1 := E_b1.keep K1
            have F_digits_b1 := F_digits_b1.keep K1 (ninS ne_b1_b28 nin0)
            have F_length_b1 := F_length_b1.keep K1 (ninS ne_b1_b28 nin0)
            have F_negative_b1 := F_negative_b1.keep K1 (ninS ne_b1_b28 nin0)
            have A_b5 := A_b5.keep K1 (ninS ne_b5_b28 nin0)
            have E_b28 := E_b28'
            have F_digits_b28 := F_digits_b28'
            have F_length_b28 := F_length_b28'
            have F_negative_b28 := F_negative_b28'
            have A_b32 := A_b32'
            show Wp p e below (Po s n0 room_1 Q0) T (mkF m 84 #[.val (.long q0), .second, .val (.long q1), .second, .val (.ref b1), .val (.int (1 : Int32)), .val (.long ff), .second, .val (.int (1 : Int32)), .val (.int (1 : Int32)), .unset, .unset, .unset] [(.ref b28)])
            refine o_astore S (L' := #[.val (.long q0), .second, .val (.long q1), .second, .val (.ref b1), .val (.int (1 : Int32)), .val (.long ff), .second, .val (.int (1 : Int32)), .val (.int (1 : Int32)), .val (.ref b28), .unset, .unset]) rfl rfl at_84 rfl (q := 86) ?_
            refine o_aload S rfl rfl at_86 rfl (q := 88) ?_
            refine o_aload S rfl rfl at_88 rfl (q := 90) ?_
            refine o_callV S (W := 0) (argsL := [(.ref b1)]) (rest := []) (a := b28) (o_wd (i := 53) hw rfl) (o_wd (i := 54) hw rfl) (o_wd (i := 56) hw rfl) (o_wd (i := 55) hw rfl) (o_wd (i := 2) hw rfl) (o_wd (i := 57) hw rfl) (o_nf (o_wd (i := 56) hw rfl)) (by decide) E_b28 (ct_11 l Z a0 hw b28 b1 b32 b5 (0 : Int32) e20 t h30 n0 (o_n0 S) E_b28 F_digits_b28 F_length_b28 F_negative_b28 A_b32 E_b1 F_digits_b1 F_length_b1 F_negative_b1 A_b5 g_b28 g_b32 ne_b28_b32 (Ne.symm ne_b1_b28) (Ne.symm ne_b5_b28) (Ne.symm ne_b1_b32) (Ne.symm ne_b5_b32) hnn hyl (by decide)) (by decide) (by decide) rfl rfl pd_13 rfl (Nat.le_of_eq rfl) at_90 rfl (q := 93) (by decide) (by decide) (fun T h33 rr34 S hQ => ?_)
            obtain ⟨hv, K1, E_b28', F_digits_b28', F_length_b28', F_negative_b28', A_b32'⟩ := hQ
            subst hv
            have E_b1 := E_b1.keep K1
            have F_digits_b1 := F_digits_b1.keep K1 (ninS ne_b1_b28 (ninS ne_b1_b32 nin0))
            have F_length_b1 := F_length_b1.keep K1 (ninS ne_b1_b28 (ninS ne_b1_b32 nin0))
            have F_negative_b1 := F_negative_b1.keep K1 (ninS ne_b1_b28 (ninS ne_b1_b32 nin0))
            have A_b5 := A_b5.keep K1 (ninS ne_b5_b28 (ninS ne_b5_b32 nin0))
            have E_b28 := E_b28'
            have F_digits_b28 := F_digits_b28'
            have F_length_b28 := F_length_b28'
            have F_negative_b28 := F_negative_b28'
            have A_b32 := A_b32'
            show Wp p e below (Po s n0 room_1 Q0) T (mkF m 93 #[.val (.long q0), .second, .val (.long q1), .second, .val (.ref b1), .val (.int (1 : Int32)), .val (.long ff), .second, .val (.int (1 : Int32)), .val (.int (1 : Int32)), .val (.ref b28), .unset, .unset] [])
            refine o_aload S rfl rfl at_93 rfl (q := 95) ?_
            refine o_callV0 S (W := 0) (argsL := []) (rest := []) (a := b28) (o_wd (i := 33) hw rfl) (o_wd (i := 34) hw rfl) (o_wd (i := 36) hw rfl) (o_wd (i := 35) hw rfl) (o_wd (i := 2) hw rfl) (o_wd (i := 37) hw rfl) (o_nf (o_wd (i := 36) hw rfl)) (by decide) E_b28 (ct_7 l Z a0 hw b28 (Int32.ofNat t) (0 : Int32) h33 n0 (o_n0 S) E_b28 F_length_b28 F_negative_b28) (by decide) (by decide) rfl rfl pd_11 rfl (Nat.le_of_eq rfl) at_95 rfl (q := 98) (by decide) (by decide) rfl (st' := [(.int (f_sig (Int32.ofNat t) (0 : Int32)))]) (fun T S => ?_)
            refine o_iload S rfl at_98 rfl (q := 100) ?_
            refine o_icmp S at_100 (by decide) (q' := 107) (by decide) (q := 103) rfl hs_ne.1 hs_ne.2 (fun hc100 => ?_) (fun hc100 => ?_)
            · exact absurd ((sigz hn1 hnn).trans (by decide)) hc100
            · skip
              refine o_iconst S (z := 1) rfl at_103 rfl (q := 104) ?_
              refine o_goto S at_104 (by decide) (q := 108) (by decide) ?_
              refine o_istore S (L' := #[.val (.long q0), .second, .val (.long q1), .second, .val (.ref b1), .val (.int (1 : Int32)), .val (.long ff), .second, .val (.int (1 : Int32)), .val (.int (1 : Int32)), .val (.ref b28), .val (.int (1 : Int32)), .unset]) rfl at_108 rfl (q := 110) ?_
              refine o_aload S rfl rfl at_110 rfl (q := 112) ?_
              refine o_aload S rfl rfl at_112 rfl (q := 114) ?_
              refine o_callV S (W := 0) (argsL := [(.ref b1)]) (rest := []) (a := b28) (o_wd (i := 62) hw rfl) (o_wd (i := 63) hw rfl) (o_wd (i := 65) hw rfl) (o_wd (i := 64) hw rfl) (o_wd (i := 2) hw rfl) (o_wd (i := 66) hw rfl) (o_nf (o_wd (i := 65) hw rfl)) (by decide) E_b28 (ct_12n l Z a0 hw b28 b1 b32 (0 : Int32) (cpL e20 t) b5 e20 t h33 n0 (o_n0 S) E_b28 F_digits_b28 F_length_b28 F_negative_b28 A_b32 E_b1 F_digits_b1 F_length_b1 F_negative_b1 A_b5 g_b28 g_b32 ne_b28_b32 (Ne.symm ne_b1_b28) (Ne.symm ne_b5_b28) (Ne.symm ne_b1_b32) (Ne.symm ne_b5_b32) hn1 hnn hxl hyl hxy) (by decide) (by decide) rfl rfl pd_13 rfl (Nat.le_of_eq rfl) at_114 rfl (q := 117) (by decide) (by decide) (fun T h35 rr36 S hQ => ?_)
              obtain ⟨hv, K1, E_b28', F_digits_b28', F_length_b28', F_negative_b28'⟩ := hQ
              subst hv
              have E_b1 := E_b1.keep K1
              have F_digits_b1 := F_digits_b1.keep K1 (ninS ne_b1_b28 (ninS ne_b1_b32 nin0))
              have F_length_b1 := F_length_b1.keep K1 (ninS ne_b1_b28 (ninS ne_b1_b32 nin0))
              have F_negative_b1 := F_negative_b1.keep K1 (ninS ne_b1_b28 (ninS ne_b1_b32 nin0))
              have A_b5 := A_b5.keep K1 (ninS ne_b5_b28 (ninS ne_b5_b32 nin0))
              have E_b28 := E_b28'
              have F_digits_b28 := F_digits_b28'
              have F_length_b28 := F_length_b28'
              have F_negative_b28 := F_negative_b28'
              show Wp p e below (Po s n0 room_1 Q0) T (mkF m 117 #[.val (.long q0), .second, .val (.long q1), .second, .val (.ref b1), .val (.int (1 : Int32)), .val (.long ff), .second, .val (.int (1 : Int32)), .val (.int (1 : Int32)), .val (.ref b28), .val (.int (1 : Int32)), .unset] [])
              refine o_aload S rfl rfl at_117 rfl (q := 119) ?_
              refine o_callV0 S (W := 0) (argsL := []) (rest := []) (a := b28) (o_wd (i := 33) hw rfl) (o_wd (i := 34) hw rfl) (o_wd (i := 36) hw rfl) (o_wd (i := 35) hw rfl) (o_wd (i := 2) hw rfl) (o_wd (i := 37) hw rfl) (o_nf (o_wd (i := 36) hw rfl)) (by decide) E_b28 (ct_7 l Z a0 hw b28 (0 : Int32) (0 : Int32) h35 n0 (o_n0 S) E_b28 F_length_b28 F_negative_b28) (by decide) (by decide) rfl rfl pd_11 rfl (Nat.le_of_eq rfl) at_119 rfl (q := 122) (by decide) (by decide) rfl (st' := [(.int (f_sig (0 : Int32) (0 : Int32)))]) (fun T S => ?_)
              refine o_if S at_122 (by decide) (q' := 129) (by decide) (q := 125) rfl hs_ne.1 hs_ne.2 (fun hc122 => ?_) (fun hc122 => ?_)
              · exact absurd (by decide) hc122
              · skip
                refine o_iconst S (z := 1) rfl at_125 rfl (q := 126) ?_
                refine o_goto S at_126 (by decide) (q := 130) (by decide) ?_
                refine o_istore S (L' := #[.val (.long q0), .second, .val (.long q1), .second, .val (.ref b1), .val (.int (1 : Int32)), .val (.long ff), .second, .val (.int (1 : Int32)), .val (.int (1 : Int32)), .val (.ref b28), .val (.int (1 : Int32)), .val (.int (1 : Int32))]) rfl at_130 rfl (q := 132) ?_
                refine o_iload S rfl at_132 rfl (q := 134) ?_
                refine o_if S at_134 (by decide) (q' := 156) (by decide) (q := 137) rfl hs_eq.1 hs_eq.2 (fun hc134 => ?_) (fun hc134 => ?_)
                · exact absurd hc134 (by decide)
                · skip
                  refine o_iload S rfl at_137 rfl (q := 139) ?_
                  refine o_if S at_139 (by decide) (q' := 156) (by decide) (q := 142) rfl hs_eq.1 hs_eq.2 (fun hc139 => ?_) (fun hc139 => ?_)
                  · exact absurd hc139 (by decide)
                  · skip
                    refine o_iload S rfl at_142 rfl (q := 144) ?_
                    refine o_if S at_144 (by decide) (q' := 156) (by decide) (q := 147) rfl hs_eq.1 hs_eq.2 (fun hc144 => ?_) (fun hc144 => ?_)
                    · exact absurd hc144 (by decide)
                    · skip
                      refine o_iload S rfl at_147 rfl (q := 149) ?_
                      refine o_if S at_149 (by decide) (q' := 156) (by decide) (q := 152) rfl hs_eq.1 hs_eq.2 (fun hc149 => ?_) (fun hc149 => ?_)
                      · exact absurd hc149 (by decide)
                      · skip
                        refine o_iconst S (z := 1) rfl at_152 rfl (q := 153) ?_
                        refine o_goto S at_153 (by decide) (q := 157) (by decide) ?_
                        refine o_retN S (t := .boolean) rfl (by simp) at_157 (by decide) (by decide) rfl ?_
                        rfl
    · skip
      have F_negative_b1 : Fld Z h6 b1 "com/example/krofusmidur/krofusmidur/amounts/MutableInteger" "negative" "Z" (.int (1 : Int32)) := by rw [if_neg (by omega), show ngF q0 = (1 : Int32) from if_neg hs] at F_negative_b1; exact F_negative_b1
      have hsg : f_sgn q0 = (-1 : Int32) := sgnn hs
      refine o_aload S rfl rfl at_15 rfl (q := 17) ?_
      refine o_callV0 S (W := 0) (argsL := []) (rest := []) (a := b1) (o_wd (i := 33) hw rfl) (o_wd (i := 34) hw rfl) (o_wd (i := 36) hw rfl) (o_wd (i := 35) hw rfl) (o_wd (i := 2) hw rfl) (o_wd (i := 37) hw rfl) (o_nf (o_wd (i := 36) hw rfl)) (by decide) E_b1 (ct_7 l Z a0 hw b1 (1 : Int32) (1 : Int32) h6 n0 (o_n0 S) E_b1 F_length_b1 F_negative_b1) (by decide) (by decide) rfl rfl pd_11 rfl (Nat.le_of_eq rfl) at_17 rfl (q := 20) (by decide) (by decide) rfl (st' := [(.int (f_sig (1 : Int32) (1 : Int32)))]) (fun T S => ?_)
      refine o_lloadN S rfl at_20 rfl (q := 21) ?_
      refine o_callS0 S (W := 1) (argsL := [(.long q0)]) (rest := [(.int (f_sig (1 : Int32) (1 : Int32)))]) (o_wd (i := 38) hw rfl) (o_wd (i := 39) hw rfl) (o_wd (i := 40) hw rfl) (o_wd (i := 41) hw rfl) (by decide) (ct_8 l Z a0 hw q0 h6 n0 (o_n0 S)) (by decide) (by decide) rfl rfl pd_12 rfl (Nat.le_of_eq rfl) at_21 rfl (q := 24) (by decide) (by decide) rfl (st' := [(.int (f_sgn q0)), (.int (f_sig (1 : Int32) (1 : Int32)))]) (fun T S => ?_)
      refine o_icmp S at_24 (by decide) (q' := 31) (by decide) (q := 27) rfl hs_ne.1 hs_ne.2 (fun hc24 => ?_) (fun hc24 => ?_)
      · exact absurd (by rw [hsg]; decide) hc24
      · skip
        refine o_iconst S (z := 1) rfl at_27 rfl (q := 28) ?_
        refine o_goto S at_28 (by decide) (q := 32) (by decide) ?_
        refine o_istore S (L' := #[.val (.long q0), .second, .val (.long q1), .second, .val (.ref b1), .val (.int (1 : Int32)), .unset, .unset, .unset, .unset, .unset, .unset, .unset]) rfl at_32 rfl (q := 34) ?_
        refine o_lloadN S rfl at_34 rfl (q := 35) ?_
        refine o_ldc2 S (o_wd (i := 42) hw rfl) at_35 rfl (q := 38) ?_
        refine o_land S at_38 rfl (q := 39) ?_
        refine o_lstoreV S (L' := fun ff => #[.val (.long q0), .second, .val (.long q1), .second, .val (.ref b1), .val (.int (1 : Int32)), .val (.long ff), .second, .unset, .unset, .unset, .unset, .unset]) (fun _ => rfl) at_39 rfl (q := 41) (fun ff hff => ?_)
        have hff := ffm hff
        refine o_aload S rfl rfl at_41 rfl (q := 43) ?_
        refine o_lload S rfl at_43 rfl (q := 45) ?_
        refine o_callV S (W := 0) (argsL := [(.long ff)]) (rest := []) (a := b1) (o_wd (i := 43) hw rfl) (o_wd (i := 44) hw rfl) (o_wd (i := 46) hw rfl) (o_wd (i := 45) hw rfl) (o_wd (i := 2) hw rfl) (o_wd (i := 47) hw rfl) (o_nf (o_wd (i := 46) hw rfl)) (by decide) E_b1 (ct_9n1 l Z a0 hw b1 ff b5 (1 : Int32) ((f_abs q0).toInt32) ((((f_abs q0).toUInt64 >>> ((32 : Int32) &&& 0x3f).toInt64.toUInt64).toInt64).toInt32) h6 n0 (o_n0 S) E_b1 F_digits_b1 F_length_b1 F_negative_b1 A_b5 g_b1 g_b5 ne_b1_b5 hff hxx) (by decide) (by decide) rfl rfl pd_10 rfl (Nat.le_of_eq rfl) at_45 rfl (q := 48) (by decide) (by decide) (fun T h37 rr38 S hQ => ?_)
        obtain ⟨e39, hv, K1, E_b1', F_digits_b1', F_length_b1', F_negative_b1', A_b5', hyl, hyz⟩ := hQ
        subst hv
        have E_b1 := E_b1'
        have F_digits_b1 := F_digits_b1'
        have F_length_b1 := F_length_b1'
        have F_negative_b1 := F_negative_b1'
        have A_b5 := A_b5'
        show Wp p e below (Po s n0 room_1 Q0) T (mkF m 48 #[.val (.long q0), .second, .val (.long q1), .second, .val (.ref b1), .val (.int (1 : Int32)), .val (.long ff), .second, .unset, .unset, .unset, .unset, .unset] [])
        by_cases hfz : ff = 0
        · skip
          have hz := hyz.mpr hfz
          have F_length_b1 : Fld Z h37 b1 "com/example/krofusmidur/krofusmidur/amounts/MutableInteger" "length" "I" (.int (0 : Int32)) := by rw [hz] at F_length_b1; exact F_length_b1
          have F_negative_b1 : Fld Z h37 b1 "com/example/krofusmidur/krofusmidur/amounts/MutableInteger" "negative" "Z" (.int (0 : Int32)) := by rw [if_pos hz] at F_negative_b1; exact F_negative_b1
          have hnn : 0 ≤ 4 := by decide
          refine o_aload S rfl rfl at_48 rfl (q := 50) ?_
          refine o_callV0 S (W := 0) (argsL := []) (rest := []) (a := b1) (o_wd (i := 33) hw rfl) (o_wd (i := 34) hw rfl) (o_wd (i := 36) hw rfl) (o_wd (i := 35) hw rfl) (o_wd (i := 2) hw rfl) (o_wd (i := 37) hw rfl) (o_nf (o_wd (i := 36) hw rfl)) (by decide) E_b1 (ct_7 l Z a0 hw b1 (0 : Int32) (0 : Int32) h37 n0 (o_n0 S) E_b1 F_length_b1 F_negative_b1) (by decide) (by decide) rfl rfl pd_11 rfl (Nat.le_of_eq rfl) at_50 rfl (q := 53) (by decide) (by decide) rfl (st' := [(.int (f_sig (0 : Int32) (0 : Int32)))]) (fun T S => ?_)
          refine o_istoreV S (L' := fun s2 => #[.val (.long q0), .second, .val (.long q1), .second, .val (.ref b1), .val (.int (1 : Int32)), .val (.long ff), .second, .val (.int s2), .unset, .unset, .unset, .unset]) (fun _ => rfl) at_53 rfl (q := 55) (fun s2 hs2 => ?_)
          have hs20 : s2 = (0 : Int32) := by rw [hs2]; decide
          subst hs20
          refine o_iload S rfl at_55 rfl (q := 57) ?_
          refine o_lloadN S rfl at_57 rfl (q := 58) ?_
          refine o_callS0 S (W := 1) (argsL := [(.long q0)]) (rest := [(.int (0 : Int32))]) (o_wd (i := 38) hw rfl) (o_wd (i := 39) hw rfl) (o_wd (i := 40) hw rfl) (o_wd (i := 41) hw rfl) (by decide) (ct_8 l Z a0 hw q0 h37 n0 (o_n0 S)) (by decide) (by decide) rfl rfl pd_12 rfl (Nat.le_of_eq rfl) at_58 rfl (q := 61) (by decide) (by decide) rfl (st' := [(.int (f_sgn q0)), (.int (0 : Int32))]) (fun T S => ?_)
          refine o_lload S rfl at_61 rfl (q := 63) ?_
          refine o_callS0 S (W := 2) (argsL := [(.long ff)]) (rest := [(.int (f_sgn q0)), (.int (0 : Int32))]) (o_wd (i := 38) hw rfl) (o_wd (i := 39) hw rfl) (o_wd (i := 40) hw rfl) (o_wd (i := 41) hw rfl) (by decide) (ct_8 l Z a0 hw ff h37 n0 (o_n0 S)) (by decide) (by decide) rfl rfl pd_12 rfl (Nat.le_of_eq rfl) at_63 rfl (q := 66) (by decide) (by decide) rfl (st' := [(.int (f_sgn ff)), (.int (f_sgn q0)), (.int (0 : Int32))]) (fun T S => ?_)
          refine o_imul S at_66 rfl (q := 67) ?_
          refine o_icmp S at_67 (by decide) (q' := 74) (by decide) (q := 70) rfl hs_ne.1 hs_ne.2 (fun hc67 => ?_) (fun hc67 => ?_)
          · exact absurd (by rw [hfz, hsg]; decide) hc67
          · skip
            refine o_iconst S (z := 1) rfl at_70 rfl (q := 71) ?_
            refine o_goto S at_71 (by decide) (q := 75) (by decide) ?_
            refine o_istore S (L' := #[.val (.long q0), .second, .val (.long q1), .second, .val (.ref b1), .val (.int (1 : Int32)), .val (.long ff), .second, .val (.int (0 : Int32)), .val (.int (1 : Int32)), .unset, .unset, .unset]) rfl at_75 rfl (q := 77) ?_
            refine o_new S (o_wd (i := 0) hw rfl) (o_wd (i := 1) hw rfl) (o_wd (i := 2) hw rfl) at_77 rfl (q := 80) (by decide) (by decide) (fun T h41 b40 S ha_b40 g_b40 X E_b40 D => ?_)
            have ne_b1_b40 : b1 ≠ b40 := by rw [ha_b40]; exact Nat.ne_of_lt E_b1.lt
            have ne_b5_b40 : b5 ≠ b40 := by rw [ha_b40]; exact Nat.ne_of_lt A_b5.lt
            have E_b1 := Exa.ext X E_b1
            have F_digits_b1 := Fld.ext X F_digits_b1
            have F_length_b1 := Fld.ext X F_length_b1
            have F_negative_b1 := Fld.ext X F_negative_b1
            have A_b5 := A_b5.ext X
            have F_digits_b40 : Fld Z h41 b40 "com/example/krofusmidur/krofusmidur/amounts/MutableInteger" "digits" "[I" .null := D (Or.inl (o_wd (i := 11) hw rfl)) (ty := (.array .int)) (by decide)
            have F_length_b40 : Fld Z h41 b40 "com/example/krofusmidur/krofusmidur/amounts/MutableInteger" "length" "I" (.int (0 : Int32)) := D (Or.inl (o_wd (i := 26) hw rfl)) (ty := .int) (by decide)
            have F_negative_b40 : Fld Z h41 b40 "com/example/krofusmidur/krofusmidur/amounts/MutableInteger" "negative" "Z" (.int (0 : Int32)) := D (Or.inl (o_wd (i := 28) hw rfl)) (ty := .boolean) (by decide)
            refine o_dup S rfl at_80 rfl (q := 81) ?_
            refine o_callI S (W := 1) (argsL := []) (rest := [(.ref b40)]) (a := b40) rfl (o_wd (i := 3) hw rfl) (o_wd (i := 4) hw rfl) (o_wd (i := 2) hw rfl) (o_wd (i := 5) hw rfl) (by decide) (ct_1 l Z a0 hw b40 h41 n0 (o_n0 S) E_b40 F_digits_b40 F_length_b40 F_negative_b40 g_b40) (by decide) (by decide) rfl rfl pd_2 rfl (Nat.le_of_eq rfl) at_81 rfl (q := 84) (by decide) (by decide) (fun T h42 rr43 S hQ => ?_)
            obtain ⟨b44, g_b44, sz'_b44, hv, K1, E_b40', F_digits_b40', F_length_b40', F_negative_b40', A_b44'⟩ := hQ
            subst hv
            have ne_b1_b44 : b1 ≠ b44 := Nat.ne_of_lt (Nat.lt_of_lt_of_le E_b1.lt sz'_b44)
            have ne_b5_b44 : b5 ≠ b44 := Nat.ne_of_lt (Nat.lt_of_lt_of_le A_b5.lt sz'_b44)
            have ne_b40_b44 : b40 ≠ b44 := Nat.ne_of_lt (Nat.lt_of_lt_of_le E_b40.lt sz'_b44)
            have E_b1 := E_b1.keep K1
            have F_digits_b1 := F_digits_b1.keep K1 (ninS ne_b1_b40 nin0)
            have F_length_b1 := F_length_b1.keep K1 (ninS ne_b1_b40 nin0)
            have F_negative_b1 := F_negative_b1.keep K1 (ninS ne_b1_b40 nin0)
            have A_b5 := A_b5.keep K1 (ninS ne_b5_b40 nin0)
            have E_b40 := E_b40'
            have F_digits_b40 := F_digits_b40'
            have F_length_b40 := F_length_b40'
            have F_negative_b40 := F_negative_b40'
            have A_b44 := A_b44'
            show Wp p e below (Po s n0 room_1 Q0) T (mkF m 84 #[.val (.long q0), .second, .val (.long q1), .second, .val (.ref b1), .val (.int (1 : Int32)), .val (.long ff), .second, .val (.int (0 : Int32)), .val (.int (1 : Int32)), .unset, .unset, .unset] [(.ref b40)])
            refine o_astore S (L' := #[.val (.long q0), .second, .val (.long q1), .second, .val (.ref b1), .val (.int (1 : Int32)), .val (.long ff), .second, .val (.int (0 : Int32)), .val (.int (1 : Int32)), .val (.ref b40), .unset, .unset]) rfl rfl at_84 rfl (q := 86) ?_
            refine o_aload S rfl rfl at_86 rfl (q := 88) ?_
            refine o_aload S rfl rfl at_88 rfl (q := 90) ?_
            refine o_callV S (W := 0) (argsL := [(.ref b1)]) (rest := []) (a := b40) (o_wd (i := 53) hw rfl) (o_wd (i := 54) hw rfl) (o_wd (i := 56) hw rfl) (o_wd (i := 55) hw rfl) (o_wd (i := 2) hw rfl) (o_wd (i := 57) hw rfl) (o_nf (o_wd (i := 56) hw rfl)) (by decide) E_b40 (ct_11 l Z a0 hw b40 b1 b44 b5 (0 : Int32) e39 0 h42 n0 (o_n0 S) E_b40 F_digits_b40 F_length_b40 F_negative_b40 A_b44 E_b1 F_digits_b1 F_length_b1 F_negative_b1 A_b5 g_b40 g_b44 ne_b40_b44 (Ne.symm ne_b1_b40) (Ne.symm ne_b5_b40) (Ne.symm ne_b1_b44) (Ne.symm ne_b5_b44) hnn hyl (by decide)) (by decide) (by decide) rfl rfl pd_13 rfl (Nat.le_of_eq rfl) at_90 rfl (q := 93) (by decide) (by decide) (fun T h45 rr46 S hQ => ?_)
            obtain ⟨hv, K1, E_b40', F_digits_b40', F_length_b40', F_negative_b40', A_b44'⟩ := hQ
            subst hv
            have E_b1 := E_b1.keep K1
            have F_digits_b1 := F_digits_b1.keep K1 (ninS ne_b1_b40 (ninS ne_b1_b44 nin0))
            have F_length_b1 := F_length_b1.keep K1 (ninS ne_b1_b40 (ninS ne_b1_b44 nin0))
            have F_negative_b1 := F_negative_b1.keep K1 (ninS ne_b1_b40 (ninS ne_b1_b44 nin0))
            have A_b5 := A_b5.keep K1 (ninS ne_b5_b40 (ninS ne_b5_b44 nin0))
            have E_b40 := E_b40'
            have F_digits_b40 := F_digits_b40'
            have F_length_b40 := F_length_b40'
            have F_negative_b40 := F_negative_b40'
            have A_b44 := A_b44'
            show Wp p e below (Po s n0 room_1 Q0) T (mkF m 93 #[.val (.long q0), .second, .val (.long q1), .second, .val (.ref b1), .val (.int (1 : Int32)), .val (.long ff), .second, .val (.int (0 : Int32)), .val (.int (1 : Int32)), .val (.ref b40), .unset, .unset] [])
            refine o_aload S rfl rfl at_93 rfl (q := 95) ?_
            refine o_callV0 S (W := 0) (argsL := []) (rest := []) (a := b40) (o_wd (i := 33) hw rfl) (o_wd (i := 34) hw rfl) (o_wd (i := 36) hw rfl) (o_wd (i := 35) hw rfl) (o_wd (i := 2) hw rfl) (o_wd (i := 37) hw rfl) (o_nf (o_wd (i := 36) hw rfl)) (by decide) E_b40 (ct_7 l Z a0 hw b40 (Int32.ofNat 0) (0 : Int32) h45 n0 (o_n0 S) E_b40 F_length_b40 F_negative_b40) (by decide) (by decide) rfl rfl pd_11 rfl (Nat.le_of_eq rfl) at_95 rfl (q := 98) (by decide) (by decide) rfl (st' := [(.int (f_sig (Int32.ofNat 0) (0 : Int32)))]) (fun T S => ?_)
            refine o_iload S rfl at_98 rfl (q := 100) ?_
            refine o_icmp S at_100 (by decide) (q' := 107) (by decide) (q := 103) rfl hs_ne.1 hs_ne.2 (fun hc100 => ?_) (fun hc100 => ?_)
            · exact absurd (by decide) hc100
            · skip
              refine o_iconst S (z := 1) rfl at_103 rfl (q := 104) ?_
              refine o_goto S at_104 (by decide) (q := 108) (by decide) ?_
              refine o_istore S (L' := #[.val (.long q0), .second, .val (.long q1), .second, .val (.ref b1), .val (.int (1 : Int32)), .val (.long ff), .second, .val (.int (0 : Int32)), .val (.int (1 : Int32)), .val (.ref b40), .val (.int (1 : Int32)), .unset]) rfl at_108 rfl (q := 110) ?_
              refine o_aload S rfl rfl at_110 rfl (q := 112) ?_
              refine o_aload S rfl rfl at_112 rfl (q := 114) ?_
              refine o_callV0 S (W := 0) (argsL := [(.ref b1)]) (rest := []) (a := b40) (o_wd (i := 62) hw rfl) (o_wd (i := 63) hw rfl) (o_wd (i := 65) hw rfl) (o_wd (i := 64) hw rfl) (o_wd (i := 2) hw rfl) (o_wd (i := 66) hw rfl) (o_nf (o_wd (i := 65) hw rfl)) (by decide) E_b40 (ct_12z l Z a0 hw b40 b1 (0 : Int32) h45 n0 (o_n0 S) E_b40 E_b1 F_length_b1 F_negative_b1) (by decide) (by decide) rfl rfl pd_13 rfl (Nat.le_of_eq rfl) at_114 rfl (q := 117) (by decide) (by decide) rfl (st' := []) (fun T S => ?_)
              refine o_aload S rfl rfl at_117 rfl (q := 119) ?_
              refine o_callV0 S (W := 0) (argsL := []) (rest := []) (a := b40) (o_wd (i := 33) hw rfl) (o_wd (i := 34) hw rfl) (o_wd (i := 36) hw rfl) (o_wd (i := 35) hw rfl) (o_wd (i := 2) hw rfl) (o_wd (i := 37) hw rfl) (o_nf (o_wd (i := 36) hw rfl)) (by decide) E_b40 (ct_7 l Z a0 hw b40 (Int32.ofNat 0) (0 : Int32) h45 n0 (o_n0 S) E_b40 F_length_b40 F_negative_b40) (by decide) (by decide) rfl rfl pd_11 rfl (Nat.le_of_eq rfl) at_119 rfl (q := 122) (by decide) (by decide) rfl (st' := [(.int (f_sig (Int32.ofNat 0) (0 : Int32)))]) (fun T S => ?_)
              refine o_if S at_122 (by decide) (q' := 129) (by decide) (q := 125) rfl hs_ne.1 hs_ne.2 (fun hc122 => ?_) (fun hc122 => ?_)
              · exact absurd (by decide) hc122
              · skip
                refine o_iconst S (z := 1) rfl at_125 rfl (q := 126) ?_
                refine o_goto S at_126 (by decide) (q := 130) (by decide) ?_
                refine o_istore S (L' := #[.val (.long q0), .second, .val (.long q1), .second, .val (.ref b1), .val (.int (1 : Int32)), .val (.long ff), .second, .val (.int (0 : Int32)), .val (.int (1 : Int32)), .val (.ref b40), .val (.int (1 : Int32)), .val (.int (1 : Int32))]) rfl at_130 rfl (q := 132) ?_
                refine o_iload S rfl at_132 rfl (q := 134) ?_
                refine o_if S at_134 (by decide) (q' := 156) (by decide) (q := 137) rfl hs_eq.1 hs_eq.2 (fun hc134 => ?_) (fun hc134 => ?_)
                · exact absurd hc134 (by decide)
                · skip
                  refine o_iload S rfl at_137 rfl (q := 139) ?_
                  refine o_if S at_139 (by decide) (q' := 156) (by decide) (q := 142) rfl hs_eq.1 hs_eq.2 (fun hc139 => ?_) (fun hc139 => ?_)
                  · exact absurd hc139 (by decide)
                  · skip
                    refine o_iload S rfl at_142 rfl (q := 144) ?_
                    refine o_if S at_144 (by decide) (q' := 156) (by decide) (q := 147) rfl hs_eq.1 hs_eq.2 (fun hc144 => ?_) (fun hc144 => ?_)
                    · exact absurd hc144 (by decide)
                    · skip
                      refine o_iload S rfl at_147 rfl (q := 149) ?_
                      refine o_if S at_149 (by decide) (q' := 156) (by decide) (q := 152) rfl hs_eq.1 hs_eq.2 (fun hc149 => ?_) (fun hc149 => ?_)
                      · exact absurd hc149 (by decide)
                      · skip
                        refine o_iconst S (z := 1) rfl at_152 rfl (q := 153) ?_
                        refine o_goto S at_153 (by decide) (q := 157) (by decide) ?_
                        refine o_retN S (t := .boolean) rfl (by simp) at_157 (by decide) (by decide) rfl ?_
                        rfl
        · skip
          have hz : ¬ trm e39 3 = 0 := fun q => hfz (hyz.mp q)
          have hle := trm_le e39 3
          have F_negative_b1 : Fld Z h37 b1 "com/example/krofusmidur/krofusmidur/amounts/MutableInteger" "negative" "Z" (.int (1 : Int32)) := by rw [if_neg hz] at F_negative_b1; exact F_negative_b1
          obtain ⟨t, et⟩ : ∃ t, t = trm e39 3 := ⟨_, rfl⟩
          rw [← et] at hz hle
          have F_length_b1 : Fld Z h37 b1 "com/example/krofusmidur/krofusmidur/amounts/MutableInteger" "length" "I" (.int (Int32.ofNat t)) := by rw [← et] at F_length_b1; exact F_length_b1
          have hn1 : 1 ≤ t := by omega
          have hnn : t ≤ 4 := by omega
          have hxl := cpL_len hnn hyl
          have hxy := cpL_get hnn hyl
          refine o_aload S rfl rfl at_48 rfl (q := 50) ?_
          refine o_callV0 S (W := 0) (argsL := []) (rest := []) (a := b1) (o_wd (i := 33) hw rfl) (o_wd (i := 34) hw rfl) (o_wd (i := 36) hw rfl) (o_wd (i := 35) hw rfl) (o_wd (i := 2) hw rfl) (o_wd (i := 37) hw rfl) (o_nf (o_wd (i := 36) hw rfl)) (by decide) E_b1 (ct_7 l Z a0 hw b1 (Int32.ofNat t) (1 : Int32) h37 n0 (o_n0 S) E_b1 F_length_b1 F_negative_b1) (by decide) (by decide) rfl rfl pd_11 rfl (Nat.le_of_eq rfl) at_50 rfl (q := 53) (by decide) (by decide) rfl (st' := [(.int (f_sig (Int32.ofNat t) (1 : Int32)))]) (fun T S => ?_)
          refine o_istoreV S (L' := fun s2 => #[.val (.long q0), .second, .val (.long q1), .second, .val (.ref b1), .val (.int (1 : Int32)), .val (.long ff), .second, .val (.int s2), .unset, .unset, .unset, .unset]) (fun _ => rfl) at_53 rfl (q := 55) (fun s2 hs2 => ?_)
          have hs20 : s2 = (-1 : Int32) := by rw [hs2]; exact (sigz hn1 hnn).trans (by decide)
          subst hs20
          refine o_iload S rfl at_55 rfl (q := 57) ?_
          refine o_lloadN S rfl at_57 rfl (q := 58) ?_
          refine o_callS0 S (W := 1) (argsL := [(.long q0)]) (rest := [(.int (-1 : Int32))]) (o_wd (i := 38) hw rfl) (o_wd (i := 39) hw rfl) (o_wd (i := 40) hw rfl) (o_wd (i := 41) hw rfl) (by decide) (ct_8 l Z a0 hw q0 h37 n0 (o_n0 S)) (by decide) (by decide) rfl rfl pd_12 rfl (Nat.le_of_eq rfl) at_58 rfl (q := 61) (by decide) (by decide) rfl (st' := [(.int (f_sgn q0)), (.int (-1 : Int32))]) (fun T S => ?_)
          refine o_lload S rfl at_61 rfl (q := 63) ?_
          refine o_callS0 S (W := 2) (argsL := [(.long ff)]) (rest := [(.int (f_sgn q0)), (.int (-1 : Int32))]) (o_wd (i := 38) hw rfl) (o_wd (i := 39) hw rfl) (o_wd (i := 40) hw rfl) (o_wd (i := 41) hw rfl) (by decide) (ct_8 l Z a0 hw ff h37 n0 (o_n0 S)) (by decide) (by decide) rfl rfl pd_12 rfl (Nat.le_of_eq rfl) at_63 rfl (q := 66) (by decide) (by decide) rfl (st' := [(.int (f_sgn ff)), (.int (f_sgn q0)), (.int (-1 : Int32))]) (fun T S => ?_)
          refine o_imul S at_66 rfl (q := 67) ?_
          refine o_icmp S at_67 (by decide) (q' := 74) (by decide) (q := 70) rfl hs_ne.1 hs_ne.2 (fun hc67 => ?_) (fun hc67 => ?_)
          · exact absurd (by rw [hsg, sgnp hff hfz]; decide) hc67
          · skip
            refine o_iconst S (z := 1) rfl at_70 rfl (q := 71) ?_
            refine o_goto S at_71 (by decide) (q := 75) (by decide) ?_
            refine o_istore S (L' := #[.val (.long q0), .second, .val (.long q1), .second, .val (.ref b1), .val (.int (1 : Int32)), .val (.long ff), .second, .val (.int (-1 : Int32)), .val (.int (1 : Int32)), .unset, .unset, .unset]) rfl at_75 rfl (q := 77) ?_
            refine o_new S (o_wd (i := 0) hw rfl) (o_wd (i := 1) hw rfl) (o_wd (i := 2) hw rfl) at_77 rfl (q := 80) (by decide) (by decide) (fun T h48 b47 S ha_b47 g_b47 X E_b47 D => ?_)
            have ne_b1_b47 : b1 ≠ b47 := by rw [ha_b47]; exact Nat.ne_of_lt E_b1.lt
            have ne_b5_b47 : b5 ≠ b47 := by rw [ha_b47]; exact Nat.ne_of_lt A_b5.lt
            have E_b1 := Exa.ext X E_b1
            have F_digits_b1 := Fld.ext X F_digits_b1
            have F_length_b1 := Fld.ext X F_length_b1
            have F_negative_b1 := Fld.ext X F_negative_b1
            have A_b5 := A_b5.ext X
            have F_digits_b47 : Fld Z h48 b47 "com/example/krofusmidur/krofusmidur/amounts/MutableInteger" "digits" "[I" .null := D (Or.inl (o_wd (i := 11) hw rfl)) (ty := (.array .int)) (by decide)
            have F_length_b47 : Fld Z h48 b47 "com/example/krofusmidur/krofusmidur/amounts/MutableInteger" "length" "I" (.int (0 : Int32)) := D (Or.inl (o_wd (i := 26) hw rfl)) (ty := .int) (by decide)
            have F_negative_b47 : Fld Z h48 b47 "com/example/krofusmidur/krofusmidur/amounts/MutableInteger" "negative" "Z" (.int (0 : Int32)) := D (Or.inl (o_wd (i := 28) hw rfl)) (ty := .boolean) (by decide)
            refine o_dup S rfl at_80 rfl (q := 81) ?_
            refine o_callI S (W := 1) (argsL := []) (rest := [(.ref b47)]) (a := b47) rfl (o_wd (i := 3) hw rfl) (o_wd (i := 4) hw rfl) (o_wd (i := 2) hw rfl) (o_wd (i := 5) hw rfl) (by decide) (ct_1 l Z a0 hw b47 h48 n0 (o_n0 S) E_b47 F_digits_b47 F_length_b47 F_negative_b47 g_b47) (by decide) (by decide) rfl rfl pd_2 rfl (Nat.le_of_eq rfl) at_81 rfl (q := 84) (by decide) (by decide) (fun T h49 rr50 S hQ => ?_)
            obtain ⟨b51, g_b51, sz'_b51, hv, K1, E_b47', F_digits_b47', F_length_b47', F_negative_b47', A_b51'⟩ := hQ
            subst hv
            have ne_b1_b51 : b1 ≠ b51 := Nat.ne_of_lt (Nat.lt_of_lt_of_le E_b1.lt sz'_b51)
            have ne_b5_b51 : b5 ≠ b51 := Nat.ne_of_lt (Nat.lt_of_lt_of_le A_b5.lt sz'_b51)
            have ne_b47_b51 : b47 ≠ b51 := Nat.ne_of_lt (Nat.lt_of_lt_of_le E_b47.lt sz'_b51)
            have E_b1 := E_b1.keep K1
            have F_digits_b1 := F_digits_b1.keep K1 (ninS ne_b1_b47 nin0)
            have F_length_b1 := F_length_b1.keep K1 (ninS ne_b1_b47 nin0)
            have F_negative_b1 := F_negative_b1.keep K1 (ninS ne_b1_b47 nin0)
            have A_b5 := A_b5.keep K1 (ninS ne_b5_b47 nin0)
            have E_b47 := E_b47'
            have F_digits_b47 := F_digits_b47'
            have F_length_b47 := F_length_b47'
            have F_negative_b47 := F_negative_b47'
            have A_b51 := A_b51'
            show Wp p e below (Po s n0 room_1 Q0) T (mkF m 84 #[.val (.long q0), .second, .val (.long q1), .second, .val (.ref b1), .val (.int (1 : Int32)), .val (.long ff), .second, .val (.int (-1 : Int32)), .val (.int (1 : Int32)), .unset, .unset, .unset] [(.ref b47)])
            refine o_astore S (L' := #[.val (.long q0), .second, .val (.long q1), .second, .val (.ref b1), .val (.int (1 : Int32)), .val (.long ff), .second, .val (.int (-1 : Int32)), .val (.int (1 : Int32)), .val (.ref b47), .unset, .unset]) rfl rfl at_84 rfl (q := 86) ?_
            refine o_aload S rfl rfl at_86 rfl (q := 88) ?_
            refine o_aload S rfl rfl at_88 rfl (q := 90) ?_
            refine o_callV S (W := 0) (argsL := [(.ref b1)]) (rest := []) (a := b47) (o_wd (i := 53) hw rfl) (o_wd (i := 54) hw rfl) (o_wd (i := 56) hw rfl) (o_wd (i := 55) hw rfl) (o_wd (i := 2) hw rfl) (o_wd (i := 57) hw rfl) (o_nf (o_wd (i := 56) hw rfl)) (by decide) E_b47 (ct_11 l Z a0 hw b47 b1 b51 b5 (1 : Int32) e39 t h49 n0 (o_n0 S) E_b47 F_digits_b47 F_length_b47 F_negative_b47 A_b51 E_b1 F_digits_b1 F_length_b1 F_negative_b1 A_b5 g_b47 g_b51 ne_b47_b51 (Ne.symm ne_b1_b47) (Ne.symm ne_b5_b47) (Ne.symm ne_b1_b51) (Ne.symm ne_b5_b51) hnn hyl (by decide)) (by decide) (by decide) rfl rfl pd_13 rfl (Nat.le_of_eq rfl) at_90 rfl (q := 93) (by decide) (by decide) (fun T h52 rr53 S hQ => ?_)
            obtain ⟨hv, K1, E_b47', F_digits_b47', F_length_b47', F_negative_b47', A_b51'⟩ := hQ
            subst hv
            have E_b1 := E_b1.keep K1
            have F_digits_b1 := F_digits_b1.keep K1 (ninS ne_b1_b47 (ninS ne_b1_b51 nin0))
            have F_length_b1 := F_length_b1.keep K1 (ninS ne_b1_b47 (ninS ne_b1_b51 nin0))
            have F_negative_b1 := F_negative_b1.keep K1 (ninS ne_b1_b47 (ninS ne_b1_b51 nin0))
            have A_b5 := A_b5.keep K1 (ninS ne_b5_b47 (ninS ne_b5_b51 nin0))
            have E_b47 := E_b47'
            have F_digits_b47 := F_digits_b47'
            have F_length_b47 := F_length_b47'
            have F_negative_b47 := F_negative_b47'
            have A_b51 := A_b51'
            show Wp p e below (Po s n0 room_1 Q0) T (mkF m 93 #[.val (.long q0), .second, .val (.long q1), .second, .val (.ref b1), .val (.int (1 : Int32)), .val (.long ff), .second, .val (.int (-1 : Int32)), .val (.int (1 : Int32)), .val (.ref b47), .unset, .unset] [])
            refine o_aload S rfl rfl at_93 rfl (q := 95) ?_
            refine o_callV0 S (W := 0) (argsL := []) (rest := []) (a := b47) (o_wd (i := 33) hw rfl) (o_wd (i := 34) hw rfl) (o_wd (i := 36) hw rfl) (o_wd (i := 35) hw rfl) (o_wd (i := 2) hw rfl) (o_wd (i := 37) hw rfl) (o_nf (o_wd (i := 36) hw rfl)) (by decide) E_b47 (ct_7 l Z a0 hw b47 (Int32.ofNat t) (1 : Int32) h52 n0 (o_n0 S) E_b47 F_length_b47 F_negative_b47) (by decide) (by decide) rfl rfl pd_11 rfl (Nat.le_of_eq rfl) at_95 rfl (q := 98) (by decide) (by decide) rfl (st' := [(.int (f_sig (Int32.ofNat t) (1 : Int32)))]) (fun T S => ?_)
            refine o_iload S rfl at_98 rfl (q := 100) ?_
            refine o_icmp S at_100 (by decide) (q' := 107) (by decide) (q := 103) rfl hs_ne.1 hs_ne.2 (fun hc100 => ?_) (fun hc100 => ?_)
            · exact absurd ((sigz hn1 hnn).trans (by decide)) hc100
            · skip
              refine o_iconst S (z := 1) rfl at_103 rfl (q := 104) ?_
              refine o_goto S at_104 (by decide) (q := 108) (by decide) ?_
              refine o_istore S (L' := #[.val (.long q0), .second, .val (.long q1), .second, .val (.ref b1), .val (.int (1 : Int32)), .val (.long ff), .second, .val (.int (-1 : Int32)), .val (.int (1 : Int32)), .val (.ref b47), .val (.int (1 : Int32)), .unset]) rfl at_108 rfl (q := 110) ?_
              refine o_aload S rfl rfl at_110 rfl (q := 112) ?_
              refine o_aload S rfl rfl at_112 rfl (q := 114) ?_
              refine o_callV S (W := 0) (argsL := [(.ref b1)]) (rest := []) (a := b47) (o_wd (i := 62) hw rfl) (o_wd (i := 63) hw rfl) (o_wd (i := 65) hw rfl) (o_wd (i := 64) hw rfl) (o_wd (i := 2) hw rfl) (o_wd (i := 66) hw rfl) (o_nf (o_wd (i := 65) hw rfl)) (by decide) E_b47 (ct_12n l Z a0 hw b47 b1 b51 (1 : Int32) (cpL e39 t) b5 e39 t h52 n0 (o_n0 S) E_b47 F_digits_b47 F_length_b47 F_negative_b47 A_b51 E_b1 F_digits_b1 F_length_b1 F_negative_b1 A_b5 g_b47 g_b51 ne_b47_b51 (Ne.symm ne_b1_b47) (Ne.symm ne_b5_b47) (Ne.symm ne_b1_b51) (Ne.symm ne_b5_b51) hn1 hnn hxl hyl hxy) (by decide) (by decide) rfl rfl pd_13 rfl (Nat.le_of_eq rfl) at_114 rfl (q := 117) (by decide) (by decide) (fun T h54 rr55 S hQ => ?_)
              obtain ⟨hv, K1, E_b47', F_digits_b47', F_length_b47', F_negative_b47'⟩ := hQ
              subst hv
              have E_b1 := E_b1.keep K1
              have F_digits_b1 := F_digits_b1.keep K1 (ninS ne_b1_b47 (ninS ne_b1_b51 nin0))
              have F_length_b1 := F_length_b1.keep K1 (ninS ne_b1_b47 (ninS ne_b1_b51 nin0))
              have F_negative_b1 := F_negative_b1.keep K1 (ninS ne_b1_b47 (ninS ne_b1_b51 nin0))
              have A_b5 := A_b5.keep K1 (ninS ne_b5_b47 (ninS ne_b5_b51 nin0))
              have E_b47 := E_b47'
              have F_digits_b47 := F_digits_b47'
              have F_length_b47 := F_length_b47'
              have F_negative_b47 := F_negative_b47'
              show Wp p e below (Po s n0 room_1 Q0) T (mkF m 117 #[.val (.long q0), .second, .val (.long q1), .second, .val (.ref b1), .val (.int (1 : Int32)), .val (.long ff), .second, .val (.int (-1 : Int32)), .val (.int (1 : Int32)), .val (.ref b47), .val (.int (1 : Int32)), .unset] [])
              refine o_aload S rfl rfl at_117 rfl (q := 119) ?_
              refine o_callV0 S (W := 0) (argsL := []) (rest := []) (a := b47) (o_wd (i := 33) hw rfl) (o_wd (i := 34) hw rfl) (o_wd (i := 36) hw rfl) (o_wd (i := 35) hw rfl) (o_wd (i := 2) hw rfl) (o_wd (i := 37) hw rfl) (o_nf (o_wd (i := 36) hw rfl)) (by decide) E_b47 (ct_7 l Z a0 hw b47 (0 : Int32) (0 : Int32) h54 n0 (o_n0 S) E_b47 F_length_b47 F_negative_b47) (by decide) (by decide) rfl rfl pd_11 rfl (Nat.le_of_eq rfl) at_119 rfl (q := 122) (by decide) (by decide) rfl (st' := [(.int (f_sig (0 : Int32) (0 : Int32)))]) (fun T S => ?_)
              refine o_if S at_122 (by decide) (q' := 129) (by decide) (q := 125) rfl hs_ne.1 hs_ne.2 (fun hc122 => ?_) (fun hc122 => ?_)
              · exact absurd (by decide) hc122
              · skip
                refine o_iconst S (z := 1) rfl at_125 rfl (q := 126) ?_
                refine o_goto S at_126 (by decide) (q := 130) (by decide) ?_
                refine o_istore S (L' := #[.val (.long q0), .second, .val (.long q1), .second, .val (.ref b1), .val (.int (1 : Int32)), .val (.long ff), .second, .val (.int (-1 : Int32)), .val (.int (1 : Int32)), .val (.ref b47), .val (.int (1 : Int32)), .val (.int (1 : Int32))]) rfl at_130 rfl (q := 132) ?_
                refine o_iload S rfl at_132 rfl (q := 134) ?_
                refine o_if S at_134 (by decide) (q' := 156) (by decide) (q := 137) rfl hs_eq.1 hs_eq.2 (fun hc134 => ?_) (fun hc134 => ?_)
                · exact absurd hc134 (by decide)
                · skip
                  refine o_iload S rfl at_137 rfl (q := 139) ?_
                  refine o_if S at_139 (by decide) (q' := 156) (by decide) (q := 142) rfl hs_eq.1 hs_eq.2 (fun hc139 => ?_) (fun hc139 => ?_)
                  · exact absurd hc139 (by decide)
                  · skip
                    refine o_iload S rfl at_142 rfl (q := 144) ?_
                    refine o_if S at_144 (by decide) (q' := 156) (by decide) (q := 147) rfl hs_eq.1 hs_eq.2 (fun hc144 => ?_) (fun hc144 => ?_)
                    · exact absurd hc144 (by decide)
                    · skip
                      refine o_iload S rfl at_147 rfl (q := 149) ?_
                      refine o_if S at_149 (by decide) (q' := 156) (by decide) (q := 152) rfl hs_eq.1 hs_eq.2 (fun hc149 => ?_) (fun hc149 => ?_)
                      · exact absurd hc149 (by decide)
                      · skip
                        refine o_iconst S (z := 1) rfl at_152 rfl (q := 153) ?_
                        refine o_goto S at_153 (by decide) (q := 157) (by decide) ?_
                        refine o_retN S (t := .boolean) rfl (by simp) at_157 (by decide) (by decide) rfl ?_
                        rfl
  · skip
    have F_length_b1 : Fld Z h6 b1 "com/example/krofusmidur/krofusmidur/amounts/MutableInteger" "length" "I" (.int (2 : Int32)) := by rw [ht] at F_length_b1; exact F_length_b1
    have hqn : ¬ q0 = 0 := sjne (by omega)
    have hxx := sj2 ht
    by_cases hs : 0 ≤ q0.toInt
    · skip
      have F_negative_b1 : Fld Z h6 b1 "com/example/krofusmidur/krofusmidur/amounts/MutableInteger" "negative" "Z" (.int (0 : Int32)) := by rw [if_neg (by omega), show ngF q0 = (0 : Int32) from if_pos hs] at F_negative_b1; exact F_negative_b1
      have hsg : f_sgn q0 = (1 : Int32) := sgnp hs hqn
      refine o_aload S rfl rfl at_15 rfl (q := 17) ?_
      refine o_callV0 S (W := 0) (argsL := []) (rest := []) (a := b1) (o_wd (i := 33) hw rfl) (o_wd (i := 34) hw rfl) (o_wd (i := 36) hw rfl) (o_wd (i := 35) hw rfl) (o_wd (i := 2) hw rfl) (o_wd (i := 37) hw rfl) (o_nf (o_wd (i := 36) hw rfl)) (by decide) E_b1 (ct_7 l Z a0 hw b1 (2 : Int32) (0 : Int32) h6 n0 (o_n0 S) E_b1 F_length_b1 F_negative_b1) (by decide) (by decide) rfl rfl pd_11 rfl (Nat.le_of_eq rfl) at_17 rfl (q := 20) (by decide) (by decide) rfl (st' := [(.int (f_sig (2 : Int32) (0 : Int32)))]) (fun T S => ?_)
      refine o_lloadN S rfl at_20 rfl (q := 21) ?_
      refine o_callS0 S (W := 1) (argsL := [(.long q0)]) (rest := [(.int (f_sig (2 : Int32) (0 : Int32)))]) (o_wd (i := 38) hw rfl) (o_wd (i := 39) hw rfl) (o_wd (i := 40) hw rfl) (o_wd (i := 41) hw rfl) (by decide) (ct_8 l Z a0 hw q0 h6 n0 (o_n0 S)) (by decide) (by decide) rfl rfl pd_12 rfl (Nat.le_of_eq rfl) at_21 rfl (q := 24) (by decide) (by decide) rfl (st' := [(.int (f_sgn q0)), (.int (f_sig (2 : Int32) (0 : Int32)))]) (fun T S => ?_)
      refine o_icmp S at_24 (by decide) (q' := 31) (by decide) (q := 27) rfl hs_ne.1 hs_ne.2 (fun hc24 => ?_) (fun hc24 => ?_)
      · exact absurd (by rw [hsg]; decide) hc24
      · skip
        refine o_iconst S (z := 1) rfl at_27 rfl (q := 28) ?_
        refine o_goto S at_28 (by decide) (q := 32) (by decide) ?_
        refine o_istore S (L' := #[.val (.long q0), .second, .val (.long q1), .second, .val (.ref b1), .val (.int (1 : Int32)), .unset, .unset, .unset, .unset, .unset, .unset, .unset]) rfl at_32 rfl (q := 34) ?_
        refine o_lloadN S rfl at_34 rfl (q := 35) ?_
        refine o_ldc2 S (o_wd (i := 42) hw rfl) at_35 rfl (q := 38) ?_
        refine o_land S at_38 rfl (q := 39) ?_
        refine o_lstoreV S (L' := fun ff => #[.val (.long q0), .second, .val (.long q1), .second, .val (.ref b1), .val (.int (1 : Int32)), .val (.long ff), .second, .unset, .unset, .unset, .unset, .unset]) (fun _ => rfl) at_39 rfl (q := 41) (fun ff hff => ?_)
        have hff := ffm hff
        refine o_aload S rfl rfl at_41 rfl (q := 43) ?_
        refine o_lload S rfl at_43 rfl (q := 45) ?_
        refine o_callV S (W := 0) (argsL := [(.long ff)]) (rest := []) (a := b1) (o_wd (i := 43) hw rfl) (o_wd (i := 44) hw rfl) (o_wd (i := 46) hw rfl) (o_wd (i := 45) hw rfl) (o_wd (i := 2) hw rfl) (o_wd (i := 47) hw rfl) (o_nf (o_wd (i := 46) hw rfl)) (by decide) E_b1 (ct_9n2 l Z a0 hw b1 ff b5 (0 : Int32) ((f_abs q0).toInt32) ((((f_abs q0).toUInt64 >>> ((32 : Int32) &&& 0x3f).toInt64.toUInt64).toInt64).toInt32) h6 n0 (o_n0 S) E_b1 F_digits_b1 F_length_b1 F_negative_b1 A_b5 g_b1 g_b5 ne_b1_b5 hff hxx) (by decide) (by decide) rfl rfl pd_10 rfl (Nat.le_of_eq rfl) at_45 rfl (q := 48) (by decide) (by decide) (fun T h56 rr57 S hQ => ?_)
        obtain ⟨e58, hv, K1, E_b1', F_digits_b1', F_length_b1', F_negative_b1', A_b5', hyl, hyz⟩ := hQ
        subst hv
        have E_b1 := E_b1'
        have F_digits_b1 := F_digits_b1'
        have F_length_b1 := F_length_b1'
        have F_negative_b1 := F_negative_b1'
        have A_b5 := A_b5'
        show Wp p e below (Po s n0 room_1 Q0) T (mkF m 48 #[.val (.long q0), .second, .val (.long q1), .second, .val (.ref b1), .val (.int (1 : Int32)), .val (.long ff), .second, .unset, .unset, .unset, .unset, .unset] [])
        by_cases hfz : ff = 0
        · skip
          have hz := hyz.mpr hfz
          have F_length_b1 : Fld Z h56 b1 "com/example/krofusmidur/krofusmidur/amounts/MutableInteger" "length" "I" (.int (0 : Int32)) := by rw [hz] at F_length_b1; exact F_length_b1
          have F_negative_b1 : Fld Z h56 b1 "com/example/krofusmidur/krofusmidur/amounts/MutableInteger" "negative" "Z" (.int (0 : Int32)) := by rw [if_pos hz] at F_negative_b1; exact F_negative_b1
          have hnn : 0 ≤ 4 := by decide
          refine o_aload S rfl rfl at_48 rfl (q := 50) ?_
          refine o_callV0 S (W := 0) (argsL := []) (rest := []) (a := b1) (o_wd (i := 33) hw rfl) (o_wd (i := 34) hw rfl) (o_wd (i := 36) hw rfl) (o_wd (i := 35) hw rfl) (o_wd (i := 2) hw rfl) (o_wd (i := 37) hw rfl) (o_nf (o_wd (i := 36) hw rfl)) (by decide) E_b1 (ct_7 l Z a0 hw b1 (0 : Int32) (0 : Int32) h56 n0 (o_n0 S) E_b1 F_length_b1 F_negative_b1) (by decide) (by decide) rfl rfl pd_11 rfl (Nat.le_of_eq rfl) at_50 rfl (q := 53) (by decide) (by decide) rfl (st' := [(.int (f_sig (0 : Int32) (0 : Int32)))]) (fun T S => ?_)
          refine o_istoreV S (L' := fun s2 => #[.val (.long q0), .second, .val (.long q1), .second, .val (.ref b1), .val (.int (1 : Int32)), .val (.long ff), .second, .val (.int s2), .unset, .unset, .unset, .unset]) (fun _ => rfl) at_53 rfl (q := 55) (fun s2 hs2 => ?_)
          have hs20 : s2 = (0 : Int32) := by rw [hs2]; decide
          subst hs20
          refine o_iload S rfl at_55 rfl (q := 57) ?_
          refine o_lloadN S rfl at_57 rfl (q := 58) ?_
          refine o_callS0 S (W := 1) (argsL := [(.long q0)]) (rest := [(.int (0 : Int32))]) (o_wd (i := 38) hw rfl) (o_wd (i := 39) hw rfl) (o_wd (i := 40) hw rfl) (o_wd (i := 41) hw rfl) (by decide) (ct_8 l Z a0 hw q0 h56 n0 (o_n0 S)) (by decide) (by decide) rfl rfl pd_12 rfl (Nat.le_of_eq rfl) at_58 rfl (q := 61) (by decide) (by decide) rfl (st' := [(.int (f_sgn q0)), (.int (0 : Int32))]) (fun T S => ?_)
          refine o_lload S rfl at_61 rfl (q := 63) ?_
          refine o_callS0 S (W := 2) (argsL := [(.long ff)]) (rest := [(.int (f_sgn q0)), (.int (0 : Int32))]) (o_wd (i := 38) hw rfl) (o_wd (i := 39) hw rfl) (o_wd (i := 40) hw rfl) (o_wd (i := 41) hw rfl) (by decide) (ct_8 l Z a0 hw ff h56 n0 (o_n0 S)) (by decide) (by decide) rfl rfl pd_12 rfl (Nat.le_of_eq rfl) at_63 rfl (q := 66) (by decide) (by decide) rfl (st' := [(.int (f_sgn ff)), (.int (f_sgn q0)), (.int (0 : Int32))]) (fun T S => ?_)
          refine o_imul S at_66 rfl (q := 67) ?_
          refine o_icmp S at_67 (by decide) (q' := 74) (by decide) (q := 70) rfl hs_ne.1 hs_ne.2 (fun hc67 => ?_) (fun hc67 => ?_)
          · exact absurd (by rw [hfz, hsg]; decide) hc67
          · skip
            refine o_iconst S (z := 1) rfl at_70 rfl (q := 71) ?_
            refine o_goto S at_71 (by decide) (q := 75) (by decide) ?_
            refine o_istore S (L' := #[.val (.long q0), .second, .val (.long q1), .second, .val (.ref b1), .val (.int (1 : Int32)), .val (.long ff), .second, .val (.int (0 : Int32)), .val (.int (1 : Int32)), .unset, .unset, .unset]) rfl at_75 rfl (q := 77) ?_
            refine o_new S (o_wd (i := 0) hw rfl) (o_wd (i := 1) hw rfl) (o_wd (i := 2) hw rfl) at_77 rfl (q := 80) (by decide) (by decide) (fun T h60 b59 S ha_b59 g_b59 X E_b59 D => ?_)
            have ne_b1_b59 : b1 ≠ b59 := by rw [ha_b59]; exact Nat.ne_of_lt E_b1.lt
            have ne_b5_b59 : b5 ≠ b59 := by rw [ha_b59]; exact Nat.ne_of_lt A_b5.lt
            have E_b1 := Exa.ext X E_b1
            have F_digits_b1 := Fld.ext X F_digits_b1
            have F_length_b1 := Fld.ext X F_length_b1
            have F_negative_b1 := Fld.ext X F_negative_b1
            have A_b5 := A_b5.ext X
            have F_digits_b59 : Fld Z h60 b59 "com/example/krofusmidur/krofusmidur/amounts/MutableInteger" "digits" "[I" .null := D (Or.inl (o_wd (i := 11) hw rfl)) (ty := (.array .int)) (by decide)
            have F_length_b59 : Fld Z h60 b59 "com/example/krofusmidur/krofusmidur/amounts/MutableInteger" "length" "I" (.int (0 : Int32)) := D (Or.inl (o_wd (i := 26) hw rfl)) (ty := .int) (by decide)
            have F_negative_b59 : Fld Z h60 b59 "com/example/krofusmidur/krofusmidur/amounts/MutableInteger" "negative" "Z" (.int (0 : Int32)) := D (Or.inl (o_wd (i := 28) hw rfl)) (ty := .boolean) (by decide)
            refine o_dup S rfl at_80 rfl (q := 81) ?_
            refine o_callI S (W := 1) (argsL := []) (rest := [(.ref b59)]) (a := b59) rfl (o_wd (i := 3) hw rfl) (o_wd (i := 4) hw rfl) (o_wd (i := 2) hw rfl) (o_wd (i := 5) hw rfl) (by decide) (ct_1 l Z a0 hw b59 h60 n0 (o_n0 S) E_b59 F_digits_b59 F_length_b59 F_negative_b59 g_b59) (by decide) (by decide) rfl rfl pd_2 rfl (Nat.le_of_eq rfl) at_81 rfl (q := 84) (by decide) (by decide) (fun T h61 rr62 S hQ => ?_)
            obtain ⟨b63, g_b63, sz'_b63, hv, K1, E_b59', F_digits_b59', F_length_b59', F_negative_b59', A_b63'⟩ := hQ
            subst hv
            have ne_b1_b63 : b1 ≠ b63 := Nat.ne_of_lt (Nat.lt_of_lt_of_le E_b1.lt sz'_b63)
            have ne_b5_b63 : b5 ≠ b63 := Nat.ne_of_lt (Nat.lt_of_lt_of_le A_b5.lt sz'_b63)
            have ne_b59_b63 : b59 ≠ b63 := Nat.ne_of_lt (Nat.lt_of_lt_of_le E_b59.lt sz'_b63)
            have E_b1 := E_b1.keep K1
            have F_digits_b1 := F_digits_b1.keep K1 (ninS ne_b1_b59 nin0)
            have F_length_b1 := F_length_b1.keep K1 (ninS ne_b1_b59 nin0)
            have F_negative_b1 := F_negative_b1.keep K1 (ninS ne_b1_b59 nin0)
            have A_b5 := A_b5.keep K1 (ninS ne_b5_b59 nin0)
            have E_b59 := E_b59'
            have F_digits_b59 := F_digits_b59'
            have F_length_b59 := F_length_b59'
            have F_negative_b59 := F_negative_b59'
            have A_b63 := A_b63'
            show Wp p e below (Po s n0 room_1 Q0) T (mkF m 84 #[.val (.long q0), .second, .val (.long q1), .second, .val (.ref b1), .val (.int (1 : Int32)), .val (.long ff), .second, .val (.int (0 : Int32)), .val (.int (1 : Int32)), .unset, .unset, .unset] [(.ref b59)])
            refine o_astore S (L' := #[.val (.long q0), .second, .val (.long q1), .second, .val (.ref b1), .val (.int (1 : Int32)), .val (.long ff), .second, .val (.int (0 : Int32)), .val (.int (1 : Int32)), .val (.ref b59), .unset, .unset]) rfl rfl at_84 rfl (q := 86) ?_
            refine o_aload S rfl rfl at_86 rfl (q := 88) ?_
            refine o_aload S rfl rfl at_88 rfl (q := 90) ?_
            refine o_callV S (W := 0) (argsL := [(.ref b1)]) (rest := []) (a := b59) (o_wd (i := 53) hw rfl) (o_wd (i := 54) hw rfl) (o_wd (i := 56) hw rfl) (o_wd (i := 55) hw rfl) (o_wd (i := 2) hw rfl) (o_wd (i := 57) hw rfl) (o_nf (o_wd (i := 56) hw rfl)) (by decide) E_b59 (ct_11 l Z a0 hw b59 b1 b63 b5 (0 : Int32) e58 0 h61 n0 (o_n0 S) E_b59 F_digits_b59 F_length_b59 F_negative_b59 A_b63 E_b1 F_digits_b1 F_length_b1 F_negative_b1 A_b5 g_b59 g_b63 ne_b59_b63 (Ne.symm ne_b1_b59) (Ne.symm ne_b5_b59) (Ne.symm ne_b1_b63) (Ne.symm ne_b5_b63) hnn hyl (by decide)) (by decide) (by decide) rfl rfl pd_13 rfl (Nat.le_of_eq rfl) at_90 rfl (q := 93) (by decide) (by decide) (fun T h64 rr65 S hQ => ?_)
            obtain ⟨hv, K1, E_b59', F_digits_b59', F_length_b59', F_negative_b59', A_b63'⟩ := hQ
            subst hv
            have E_b1 := E_b1.keep K1
            have F_digits_b1 := F_digits_b1.keep K1 (ninS ne_b1_b59 (ninS ne_b1_b63 nin0))
            have F_length_b1 := F_length_b1.keep K1 (ninS ne_b1_b59 (ninS ne_b1_b63 nin0))
            have F_negative_b1 := F_negative_b1.keep K1 (ninS ne_b1_b59 (ninS ne_b1_b63 nin0))
            have A_b5 := A_b5.keep K1 (ninS ne_b5_b59 (ninS ne_b5_b63 nin0))
            have E_b59 := E_b59'
            have F_digits_b59 := F_digits_b59'
            have F_length_b59 := F_length_b59'
            have F_negative_b59 := F_negative_b59'
            have A_b63 := A_b63'
            show Wp p e below (Po s n0 room_1 Q0) T (mkF m 93 #[.val (.long q0), .second, .val (.long q1), .second, .val (.ref b1), .val (.int (1 : Int32)), .val (.long ff), .second, .val (.int (0 : Int32)), .val (.int (1 : Int32)), .val (.ref b59), .unset, .unset] [])
            refine o_aload S rfl rfl at_93 rfl (q := 95) ?_
            refine o_callV0 S (W := 0) (argsL := []) (rest := []) (a := b59) (o_wd (i := 33) hw rfl) (o_wd (i := 34) hw rfl) (o_wd (i := 36) hw rfl) (o_wd (i := 35) hw rfl) (o_wd (i := 2) hw rfl) (o_wd (i := 37) hw rfl) (o_nf (o_wd (i := 36) hw rfl)) (by decide) E_b59 (ct_7 l Z a0 hw b59 (Int32.ofNat 0) (0 : Int32) h64 n0 (o_n0 S) E_b59 F_length_b59 F_negative_b59) (by decide) (by decide) rfl rfl pd_11 rfl (Nat.le_of_eq rfl) at_95 rfl (q := 98) (by decide) (by decide) rfl (st' := [(.int (f_sig (Int32.ofNat 0) (0 : Int32)))]) (fun T S => ?_)
            refine o_iload S rfl at_98 rfl (q := 100) ?_
            refine o_icmp S at_100 (by decide) (q' := 107) (by decide) (q := 103) rfl hs_ne.1 hs_ne.2 (fun hc100 => ?_) (fun hc100 => ?_)
            · exact absurd (by decide) hc100
            · skip
              refine o_iconst S (z := 1) rfl at_103 rfl (q := 104) ?_
              refine o_goto S at_104 (by decide) (q := 108) (by decide) ?_
              refine o_istore S (L' := #[.val (.long q0), .second, .val (.long q1), .second, .val (.ref b1), .val (.int (1 : Int32)), .val (.long ff), .second, .val (.int (0 : Int32)), .val (.int (1 : Int32)), .val (.ref b59), .val (.int (1 : Int32)), .unset]) rfl at_108 rfl (q := 110) ?_
              refine o_aload S rfl rfl at_110 rfl (q := 112) ?_
              refine o_aload S rfl rfl at_112 rfl (q := 114) ?_
              refine o_callV0 S (W := 0) (argsL := [(.ref b1)]) (rest := []) (a := b59) (o_wd (i := 62) hw rfl) (o_wd (i := 63) hw rfl) (o_wd (i := 65) hw rfl) (o_wd (i := 64) hw rfl) (o_wd (i := 2) hw rfl) (o_wd (i := 66) hw rfl) (o_nf (o_wd (i := 65) hw rfl)) (by decide) E_b59 (ct_12z l Z a0 hw b59 b1 (0 : Int32) h64 n0 (o_n0 S) E_b59 E_b1 F_length_b1 F_negative_b1) (by decide) (by decide) rfl rfl pd_13 rfl (Nat.le_of_eq rfl) at_114 rfl (q := 117) (by decide) (by decide) rfl (st' := []) (fun T S => ?_)
              refine o_aload S rfl rfl at_117 rfl (q := 119) ?_
              refine o_callV0 S (W := 0) (argsL := []) (rest := []) (a := b59) (o_wd (i := 33) hw rfl) (o_wd (i := 34) hw rfl) (o_wd (i := 36) hw rfl) (o_wd (i := 35) hw rfl) (o_wd (i := 2) hw rfl) (o_wd (i := 37) hw rfl) (o_nf (o_wd (i := 36) hw rfl)) (by decide) E_b59 (ct_7 l Z a0 hw b59 (Int32.ofNat 0) (0 : Int32) h64 n0 (o_n0 S) E_b59 F_length_b59 F_negative_b59) (by decide) (by decide) rfl rfl pd_11 rfl (Nat.le_of_eq rfl) at_119 rfl (q := 122) (by decide) (by decide) rfl (st' := [(.int (f_sig (Int32.ofNat 0) (0 : Int32)))]) (fun T S => ?_)
              refine o_if S at_122 (by decide) (q' := 129) (by decide) (q := 125) rfl hs_ne.1 hs_ne.2 (fun hc122 => ?_) (fun hc122 => ?_)
              · exact absurd (by decide) hc122
              · skip
                refine o_iconst S (z := 1) rfl at_125 rfl (q := 126) ?_
                refine o_goto S at_126 (by decide) (q := 130) (by decide) ?_
                refine o_istore S (L' := #[.val (.long q0), .second, .val (.long q1), .second, .val (.ref b1), .val (.int (1 : Int32)), .val (.long ff), .second, .val (.int (0 : Int32)), .val (.int (1 : Int32)), .val (.ref b59), .val (.int (1 : Int32)), .val (.int (1 : Int32))]) rfl at_130 rfl (q := 132) ?_
                refine o_iload S rfl at_132 rfl (q := 134) ?_
                refine o_if S at_134 (by decide) (q' := 156) (by decide) (q := 137) rfl hs_eq.1 hs_eq.2 (fun hc134 => ?_) (fun hc134 => ?_)
                · exact absurd hc134 (by decide)
                · skip
                  refine o_iload S rfl at_137 rfl (q := 139) ?_
                  refine o_if S at_139 (by decide) (q' := 156) (by decide) (q := 142) rfl hs_eq.1 hs_eq.2 (fun hc139 => ?_) (fun hc139 => ?_)
                  · exact absurd hc139 (by decide)
                  · skip
                    refine o_iload S rfl at_142 rfl (q := 144) ?_
                    refine o_if S at_144 (by decide) (q' := 156) (by decide) (q := 147) rfl hs_eq.1 hs_eq.2 (fun hc144 => ?_) (fun hc144 => ?_)
                    · exact absurd hc144 (by decide)
                    · skip
                      refine o_iload S rfl at_147 rfl (q := 149) ?_
                      refine o_if S at_149 (by decide) (q' := 156) (by decide) (q := 152) rfl hs_eq.1 hs_eq.2 (fun hc149 => ?_) (fun hc149 => ?_)
                      · exact absurd hc149 (by decide)
                      · skip
                        refine o_iconst S (z := 1) rfl at_152 rfl (q := 153) ?_
                        refine o_goto S at_153 (by decide) (q := 157) (by decide) ?_
                        refine o_retN S (t := .boolean) rfl (by simp) at_157 (by decide) (by decide) rfl ?_
                        rfl
        · skip
          have hz : ¬ trm e58 4 = 0 := fun q => hfz (hyz.mp q)
          have hle := trm_le e58 4
          have F_negative_b1 : Fld Z h56 b1 "com/example/krofusmidur/krofusmidur/amounts/MutableInteger" "negative" "Z" (.int (0 : Int32)) := by rw [if_neg hz] at F_negative_b1; exact F_negative_b1
          obtain ⟨t, et⟩ : ∃ t, t = trm e58 4 := ⟨_, rfl⟩
          rw [← et] at hz hle
          have F_length_b1 : Fld Z h56 b1 "com/example/krofusmidur/krofusmidur/amounts/MutableInteger" "length" "I" (.int (Int32.ofNat t)) := by rw [← et] at F_length_b1; exact F_length_b1
          have hn1 : 1 ≤ t := by omega
          have hnn : t ≤ 4 := by omega
          have hxl := cpL_len hnn hyl
          have hxy := cpL_get hnn hyl
          refine o_aload S rfl rfl at_48 rfl (q := 50) ?_
          refine o_callV0 S (W := 0) (argsL := []) (rest := []) (a := b1) (o_wd (i := 33) hw rfl) (o_wd (i := 34) hw rfl) (o_wd (i := 36) hw rfl) (o_wd (i := 35) hw rfl) (o_wd (i := 2) hw rfl) (o_wd (i := 37) hw rfl) (o_nf (o_wd (i := 36) hw rfl)) (by decide) E_b1 (ct_7 l Z a0 hw b1 (Int32.ofNat t) (0 : Int32) h56 n0 (o_n0 S) E_b1 F_length_b1 F_negative_b1) (by decide) (by decide) rfl rfl pd_11 rfl (Nat.le_of_eq rfl) at_50 rfl (q := 53) (by decide) (by decide) rfl (st' := [(.int (f_sig (Int32.ofNat t) (0 : Int32)))]) (fun T S => ?_)
          refine o_istoreV S (L' := fun s2 => #[.val (.long q0), .second, .val (.long q1), .second, .val (.ref b1), .val (.int (1 : Int32)), .val (.long ff), .second, .val (.int s2), .unset, .unset, .unset, .unset]) (fun _ => rfl) at_53 rfl (q := 55) (fun s2 hs2 => ?_)
          have hs20 : s2 = (1 : Int32) := by rw [hs2]; exact (sigz hn1 hnn).trans (by decide)
          subst hs20
          refine o_iload S rfl at_55 rfl (q := 57) ?_
          refine o_lloadN S rfl at_57 rfl (q := 58) ?_
          refine o_callS0 S (W := 1) (argsL := [(.long q0)]) (rest := [(.int (1 : Int32))]) (o_wd (i := 38) hw rfl) (o_wd (i := 39) hw rfl) (o_wd (i := 40) hw rfl) (o_wd (i := 41) hw rfl) (by decide) (ct_8 l Z a0 hw q0 h56 n0 (o_n0 S)) (by decide) (by decide) rfl rfl pd_12 rfl (Nat.le_of_eq rfl) at_58 rfl (q := 61) (by decide) (by decide) rfl (st' := [(.int (f_sgn q0)), (.int (1 : Int32))]) (fun T S => ?_)
          refine o_lload S rfl at_61 rfl (q := 63) ?_
          refine o_callS0 S (W := 2) (argsL := [(.long ff)]) (rest := [(.int (f_sgn q0)), (.int (1 : Int32))]) (o_wd (i := 38) hw rfl) (o_wd (i := 39) hw rfl) (o_wd (i := 40) hw rfl) (o_wd (i := 41) hw rfl) (by decide) (ct_8 l Z a0 hw ff h56 n0 (o_n0 S)) (by decide) (by decide) rfl rfl pd_12 rfl (Nat.le_of_eq rfl) at_63 rfl (q := 66) (by decide) (by decide) rfl (st' := [(.int (f_sgn ff)), (.int (f_sgn q0)), (.int (1 : Int32))]) (fun T S => ?_)
          refine o_imul S at_66 rfl (q := 67) ?_
          refine o_icmp S at_67 (by decide) (q' := 74) (by decide) (q := 70) rfl hs_ne.1 hs_ne.2 (fun hc67 => ?_) (fun hc67 => ?_)
          · exact absurd (by rw [hsg, sgnp hff hfz]; decide) hc67
          · skip
            refine o_iconst S (z := 1) rfl at_70 rfl (q := 71) ?_
            refine o_goto S at_71 (by decide) (q := 75) (by decide) ?_
            refine o_istore S (L' := #[.val (.long q0), .second, .val (.long q1), .second, .val (.ref b1), .val (.int (1 : Int32)), .val (.long ff), .second, .val (.int (1 : Int32)), .val (.int (1 : Int32)), .unset, .unset, .unset]) rfl at_75 rfl (q := 77) ?_
            refine o_new S (o_wd (i := 0) hw rfl) (o_wd (i := 1) hw rfl) (o_wd (i := 2) hw rfl) at_77 rfl (q := 80) (by decide) (by decide) (fun T h67 b66 S ha_b66 g_b66 X E_b66 D => ?_)
            have ne_b1_b66 : b1 ≠ b66 := by rw [ha_b66]; exact Nat.ne_of_lt E_b1.lt
            have ne_b5_b66 : b5 ≠ b66 := by rw [ha_b66]; exact Nat.ne_of_lt A_b5.lt
            have E_b1 := Exa.ext X E_b1
            have F_digits_b1 := Fld.ext X F_digits_b1
            have F_length_b1 := Fld.ext X F_length_b1
            have F_negative_b1 := Fld.ext X F_negative_b1
            have A_b5 := A_b5.ext X
            have F_digits_b66 : Fld Z h67 b66 "com/example/krofusmidur/krofusmidur/amounts/MutableInteger" "digits" "[I" .null := D (Or.inl (o_wd (i := 11) hw rfl)) (ty := (.array .int)) (by decide)
            have F_length_b66 : Fld Z h67 b66 "com/example/krofusmidur/krofusmidur/amounts/MutableInteger" "length" "I" (.int (0 : Int32)) := D (Or.inl (o_wd (i := 26) hw rfl)) (ty := .int) (by decide)
            have F_negative_b66 : Fld Z h67 b66 "com/example/krofusmidur/krofusmidur/amounts/MutableInteger" "negative" "Z" (.int (0 : Int32)) := D (Or.inl (o_wd (i := 28) hw rfl)) (ty := .boolean) (by decide)
            refine o_dup S rfl at_80 rfl (q := 81) ?_
            refine o_callI S (W := 1) (argsL := []) (rest := [(.ref b66)]) (a := b66) rfl (o_wd (i := 3) hw rfl) (o_wd (i := 4) hw rfl) (o_wd (i := 2) hw rfl) (o_wd (i := 5) hw rfl) (by decide) (ct_1 l Z a0 hw b66 h67 n0 (o_n0 S) E_b66 F_digits_b66 F_length_b66 F_negative_b66 g_b66) (by decide) (by decide) rfl rfl pd_2 rfl (Nat.le_of_eq rfl) at_81 rfl (q := 84) (by decide) (by decide) (fun T h68 rr69 S hQ => ?_)
            obtain ⟨b70, g_b70, sz'_b70, hv, K1, E_b66', F_digits_b66', F_length_b66', F_negative_b66', A_b70'⟩ := hQ
            subst hv
            have ne_b1_b70 : b1 ≠ b70 := Nat.ne_of_lt (Nat.lt_of_lt_of_le E_b1.lt sz'_b70)
            have ne_b5_b70 : b5 ≠ b70 := Nat.ne_of_lt (Nat.lt_of_lt_of_le A_b5.lt sz'_b70)
            have ne_b66_b70 : b66 ≠ b70 := Nat.ne_of_lt (Nat.lt_of_lt_of_le E_b66.lt sz'_b70)
            have E_b1 := E_b1.keep K1
            have F_digits_b1 := F_digits_b1.keep K1 (ninS ne_b1_b66 nin0)
            have F_length_b1 := F_length_b1.keep K1 (ninS ne_b1_b66 nin0)
            have F_negative_b1 := F_negative_b1.keep K1 (ninS ne_b1_b66 nin0)
            have A_b5 := A_b5.keep K1 (ninS ne_b5_b66 nin0)
            have E_b66 := E_b66'
            have F_digits_b66 := F_digits_b66'
            have F_length_b66 := F_length_b66'
            have F_negative_b66 := F_negative_b66'
            have A_b70 := A_b70'
            show Wp p e below (Po s n0 room_1 Q0) T (mkF m 84 #[.val (.long q0), .second, .val (.long q1), .second, .val (.ref b1), .val (.int (1 : Int32)), .val (.long ff), .second, .val (.int (1 : Int32)), .val (.int (1 : Int32)), .unset, .unset, .unset] [(.ref b66)])
            refine o_astore S (L' := #[.val (.long q0), .second, .val (.long q1), .second, .val (.ref b1), .val (.int (1 : Int32)), .val (.long ff), .second, .val (.int (1 : Int32)), .val (.int (1 : Int32)), .val (.ref b66), .unset, .unset]) rfl rfl at_84 rfl (q := 86) ?_
            refine o_aload S rfl rfl at_86 rfl (q := 88) ?_
            refine o_aload S rfl rfl at_88 rfl (q := 90) ?_
            refine o_callV S (W := 0) (argsL := [(.ref b1)]) (rest := []) (a := b66) (o_wd (i := 53) hw rfl) (o_wd (i := 54) hw rfl) (o_wd (i := 56) hw rfl) (o_wd (i := 55) hw rfl) (o_wd (i := 2) hw rfl) (o_wd (i := 57) hw rfl) (o_nf (o_wd (i := 56) hw rfl)) (by decide) E_b66 (ct_11 l Z a0 hw b66 b1 b70 b5 (0 : Int32) e58 t h68 n0 (o_n0 S) E_b66 F_digits_b66 F_length_b66 F_negative_b66 A_b70 E_b1 F_digits_b1 F_length_b1 F_negative_b1 A_b5 g_b66 g_b70 ne_b66_b70 (Ne.symm ne_b1_b66) (Ne.symm ne_b5_b66) (Ne.symm ne_b1_b70) (Ne.symm ne_b5_b70) hnn hyl (by decide)) (by decide) (by decide) rfl rfl pd_13 rfl (Nat.le_of_eq rfl) at_90 rfl (q := 93) (by decide) (by decide) (fun T h71 rr72 S hQ => ?_)
            obtain ⟨hv, K1, E_b66', F_digits_b66', F_length_b66', F_negative_b66', A_b70'⟩ := hQ
            subst hv
            have E_b1 := E_b1.keep K1
            have F_digits_b1 := F_digits_b1.keep K1 (ninS ne_b1_b66 (ninS ne_b1_b70 nin0))
            have F_length_b1 := F_length_b1.keep K1 (ninS ne_b1_b66 (ninS ne_b1_b70 nin0))
            have F_negative_b1 := F_negative_b1.keep K1 (ninS ne_b1_b66 (ninS ne_b1_b70 nin0))
            have A_b5 := A_b5.keep K1 (ninS ne_b5_b66 (ninS ne_b5_b70 nin0))
            have E_b66 := E_b66'
            have F_digits_b66 := F_digits_b66'
            have F_length_b66 := F_length_b66'
            have F_negative_b66 := F_negative_b66'
            have A_b70 := A_b70'
            show Wp p e below (Po s n0 room_1 Q0) T (mkF m 93 #[.val (.long q0), .second, .val (.long q1), .second, .val (.ref b1), .val (.int (1 : Int32)), .val (.long ff), .second, .val (.int (1 : Int32)), .val (.int (1 : Int32)), .val (.ref b66), .unset, .unset] [])
            refine o_aload S rfl rfl at_93 rfl (q := 95) ?_
            refine o_callV0 S (W := 0) (argsL := []) (rest := []) (a := b66) (o_wd (i := 33) hw rfl) (o_wd (i := 34) hw rfl) (o_wd (i := 36) hw rfl) (o_wd (i := 35) hw rfl) (o_wd (i := 2) hw rfl) (o_wd (i := 37) hw rfl) (o_nf (o_wd (i := 36) hw rfl)) (by decide) E_b66 (ct_7 l Z a0 hw b66 (Int32.ofNat t) (0 : Int32) h71 n0 (o_n0 S) E_b66 F_length_b66 F_negative_b66) (by decide) (by decide) rfl rfl pd_11 rfl (Nat.le_of_eq rfl) at_95 rfl (q := 98) (by decide) (by decide) rfl (st' := [(.int (f_sig (Int32.ofNat t) (0 : Int32)))]) (fun T S => ?_)
            refine o_iload S rfl at_98 rfl (q := 100) ?_
            refine o_icmp S at_100 (by decide) (q' := 107) (by decide) (q := 103) rfl hs_ne.1 hs_ne.2 (fun hc100 => ?_) (fun hc100 => ?_)
            · exact absurd ((sigz hn1 hnn).trans (by decide)) hc100
            · skip
              refine o_iconst S (z := 1) rfl at_103 rfl (q := 104) ?_
              refine o_goto S at_104 (by decide) (q := 108) (by decide) ?_
              refine o_istore S (L' := #[.val (.long q0), .second, .val (.long q1), .second, .val (.ref b1), .val (.int (1 : Int32)), .val (.long ff), .second, .val (.int (1 : Int32)), .val (.int (1 : Int32)), .val (.ref b66), .val (.int (1 : Int32)), .unset]) rfl at_108 rfl (q := 110) ?_
              refine o_aload S rfl rfl at_110 rfl (q := 112) ?_
              refine o_aload S rfl rfl at_112 rfl (q := 114) ?_
              refine o_callV S (W := 0) (argsL := [(.ref b1)]) (rest := []) (a := b66) (o_wd (i := 62) hw rfl) (o_wd (i := 63) hw rfl) (o_wd (i := 65) hw rfl) (o_wd (i := 64) hw rfl) (o_wd (i := 2) hw rfl) (o_wd (i := 66) hw rfl) (o_nf (o_wd (i := 65) hw rfl)) (by decide) E_b66 (ct_12n l Z a0 hw b66 b1 b70 (0 : Int32) (cpL e58 t) b5 e58 t h71 n0 (o_n0 S) E_b66 F_digits_b66 F_length_b66 F_negative_b66 A_b70 E_b1 F_digits_b1 F_length_b1 F_negative_b1 A_b5 g_b66 g_b70 ne_b66_b70 (Ne.symm ne_b1_b66) (Ne.symm ne_b5_b66) (Ne.symm ne_b1_b70) (Ne.symm ne_b5_b70) hn1 hnn hxl hyl hxy) (by decide) (by decide) rfl rfl pd_13 rfl (Nat.le_of_eq rfl) at_114 rfl (q := 117) (by decide) (by decide) (fun T h73 rr74 S hQ => ?_)
              obtain ⟨hv, K1, E_b66', F_digits_b66', F_length_b66', F_negative_b66'⟩ := hQ
              subst hv
              have E_b1 := E_b1.keep K1
              have F_digits_b1 := F_digits_b1.keep K1 (ninS ne_b1_b66 (ninS ne_b1_b70 nin0))
              have F_length_b1 := F_length_b1.keep K1 (ninS ne_b1_b66 (ninS ne_b1_b70 nin0))
              have F_negative_b1 := F_negative_b1.keep K1 (ninS ne_b1_b66 (ninS ne_b1_b70 nin0))
              have A_b5 := A_b5.keep K1 (ninS ne_b5_b66 (ninS ne_b5_b70 nin0))
              have E_b66 := E_b66'
              have F_digits_b66 := F_digits_b66'
              have F_length_b66 := F_length_b66'
              have F_negative_b66 := F_negative_b66'
              show Wp p e below (Po s n0 room_1 Q0) T (mkF m 117 #[.val (.long q0), .second, .val (.long q1), .second, .val (.ref b1), .val (.int (1 : Int32)), .val (.long ff), .second, .val (.int (1 : Int32)), .val (.int (1 : Int32)), .val (.ref b66), .val (.int (1 : Int32)), .unset] [])
              refine o_aload S rfl rfl at_117 rfl (q := 119) ?_
              refine o_callV0 S (W := 0) (argsL := []) (rest := []) (a := b66) (o_wd (i := 33) hw rfl) (o_wd (i := 34) hw rfl) (o_wd (i := 36) hw rfl) (o_wd (i := 35) hw rfl) (o_wd (i := 2) hw rfl) (o_wd (i := 37) hw rfl) (o_nf (o_wd (i := 36) hw rfl)) (by decide) E_b66 (ct_7 l Z a0 hw b66 (0 : Int32) (0 : Int32) h73 n0 (o_n0 S) E_b66 F_length_b66 F_negative_b66) (by decide) (by decide) rfl rfl pd_11 rfl (Nat.le_of_eq rfl) at_119 rfl (q := 122) (by decide) (by decide) rfl (st' := [(.int (f_sig (0 : Int32) (0 : Int32)))]) (fun T S => ?_)
              refine o_if S at_122 (by decide) (q' := 129) (by decide) (q := 125) rfl hs_ne.1 hs_ne.2 (fun hc122 => ?_) (fun hc122 => ?_)
              · exact absurd (by decide) hc122
              · skip
                refine o_iconst S (z := 1) rfl at_125 rfl (q := 126) ?_
                refine o_goto S at_126 (by decide) (q := 130) (by decide) ?_
                refine o_istore S (L' := #[.val (.long q0), .second, .val (.long q1), .second, .val (.ref b1), .val (.int (1 : Int32)), .val (.long ff), .second, .val (.int (1 : Int32)), .val (.int (1 : Int32)), .val (.ref b66), .val (.int (1 : Int32)), .val (.int (1 : Int32))]) rfl at_130 rfl (q := 132) ?_
                refine o_iload S rfl at_132 rfl (q := 134) ?_
                refine o_if S at_134 (by decide) (q' := 156) (by decide) (q := 137) rfl hs_eq.1 hs_eq.2 (fun hc134 => ?_) (fun hc134 => ?_)
                · exact absurd hc134 (by decide)
                · skip
                  refine o_iload S rfl at_137 rfl (q := 139) ?_
                  refine o_if S at_139 (by decide) (q' := 156) (by decide) (q := 142) rfl hs_eq.1 hs_eq.2 (fun hc139 => ?_) (fun hc139 => ?_)
                  · exact absurd hc139 (by decide)
                  · skip
                    refine o_iload S rfl at_142 rfl (q := 144) ?_
                    refine o_if S at_144 (by decide) (q' := 156) (by decide) (q := 147) rfl hs_eq.1 hs_eq.2 (fun hc144 => ?_) (fun hc144 => ?_)
                    · exact absurd hc144 (by decide)
                    · skip
                      refine o_iload S rfl at_147 rfl (q := 149) ?_
                      refine o_if S at_149 (by decide) (q' := 156) (by decide) (q := 152) rfl hs_eq.1 hs_eq.2 (fun hc149 => ?_) (fun hc149 => ?_)
                      · exact absurd hc149 (by decide)
                      · skip
                        refine o_iconst S (z := 1) rfl at_152 rfl (q := 153) ?_
                        refine o_goto S at_153 (by decide) (q := 157) (by decide) ?_
                        refine o_retN S (t := .boolean) rfl (by simp) at_157 (by decide) (by decide) rfl ?_
                        rfl
    · skip
      have F_negative_b1 : Fld Z h6 b1 "com/example/krofusmidur/krofusmidur/amounts/MutableInteger" "negative" "Z" (.int (1 : Int32)) := by rw [if_neg (by omega), show ngF q0 = (1 : Int32) from if_neg hs] at F_negative_b1; exact F_negative_b1
      have hsg : f_sgn q0 = (-1 : Int32) := sgnn hs
      refine o_aload S rfl rfl at_15 rfl (q := 17) ?_
      refine o_callV0 S (W := 0) (argsL := []) (rest := []) (a := b1) (o_wd (i := 33) hw rfl) (o_wd (i := 34) hw rfl) (o_wd (i := 36) hw rfl) (o_wd (i := 35) hw rfl) (o_wd (i := 2) hw rfl) (o_wd (i := 37) hw rfl) (o_nf (o_wd (i := 36) hw rfl)) (by decide) E_b1 (ct_7 l Z a0 hw b1 (2 : Int32) (1 : Int32) h6 n0 (o_n0 S) E_b1 F_length_b1 F_negative_b1) (by decide) (by decide) rfl rfl pd_11 rfl (Nat.le_of_eq rfl) at_17 rfl (q := 20) (by decide) (by decide) rfl (st' := [(.int (f_sig (2 : Int32) (1 : Int32)))]) (fun T S => ?_)
      refine o_lloadN S rfl at_20 rfl (q := 21) ?_
      refine o_callS0 S (W := 1) (argsL := [(.long q0)]) (rest := [(.int (f_sig (2 : Int32) (1 : Int32)))]) (o_wd (i := 38) hw rfl) (o_wd (i := 39) hw rfl) (o_wd (i := 40) hw rfl) (o_wd (i := 41) hw rfl) (by decide) (ct_8 l Z a0 hw q0 h6 n0 (o_n0 S)) (by decide) (by decide) rfl rfl pd_12 rfl (Nat.le_of_eq rfl) at_21 rfl (q := 24) (by decide) (by decide) rfl (st' := [(.int (f_sgn q0)), (.int (f_sig (2 : Int32) (1 : Int32)))]) (fun T S => ?_)
      refine o_icmp S at_24 (by decide) (q' := 31) (by decide) (q := 27) rfl hs_ne.1 hs_ne.2 (fun hc24 => ?_) (fun hc24 => ?_)
      · exact absurd (by rw [hsg]; decide) hc24
      · skip
        refine o_iconst S (z := 1) rfl at_27 rfl (q := 28) ?_
        refine o_goto S at_28 (by decide) (q := 32) (by decide) ?_
        refine o_istore S (L' := #[.val (.long q0), .second, .val (.long q1), .second, .val (.ref b1), .val (.int (1 : Int32)), .unset, .unset, .unset, .unset, .unset, .unset, .unset]) rfl at_32 rfl (q := 34) ?_
        refine o_lloadN S rfl at_34 rfl (q := 35) ?_
        refine o_ldc2 S (o_wd (i := 42) hw rfl) at_35 rfl (q := 38) ?_
        refine o_land S at_38 rfl (q := 39) ?_
        refine o_lstoreV S (L' := fun ff => #[.val (.long q0), .second, .val (.long q1), .second, .val (.ref b1), .val (.int (1 : Int32)), .val (.long ff), .second, .unset, .unset, .unset, .unset, .unset]) (fun _ => rfl) at_39 rfl (q := 41) (fun ff hff => ?_)
        have hff := ffm hff
        refine o_aload S rfl rfl at_41 rfl (q := 43) ?_
        refine o_lload S rfl at_43 rfl (q := 45) ?_
        refine o_callV S (W := 0) (argsL := [(.long ff)]) (rest := []) (a := b1) (o_wd (i := 43) hw rfl) (o_wd (i := 44) hw rfl) (o_wd (i := 46) hw rfl) (o_wd (i := 45) hw rfl) (o_wd (i := 2) hw rfl) (o_wd (i := 47) hw rfl) (o_nf (o_wd (i := 46) hw rfl)) (by decide) E_b1 (ct_9n2 l Z a0 hw b1 ff b5 (1 : Int32) ((f_abs q0).toInt32) ((((f_abs q0).toUInt64 >>> ((32 : Int32) &&& 0x3f).toInt64.toUInt64).toInt64).toInt32) h6 n0 (o_n0 S) E_b1 F_digits_b1 F_length_b1 F_negative_b1 A_b5 g_b1 g_b5 ne_b1_b5 hff hxx) (by decide) (by decide) rfl rfl pd_10 rfl (Nat.le_of_eq rfl) at_45 rfl (q := 48) (by decide) (by decide) (fun T h75 rr76 S hQ => ?_)
        obtain ⟨e77, hv, K1, E_b1', F_digits_b1', F_length_b1', F_negative_b1', A_b5', hyl, hyz⟩ := hQ
        subst hv
        have E_b1 := E_b1'
        have F_digits_b1 := F_digits_b1'
        have F_length_b1 := F_length_b1'
        have F_negative_b1 := F_negative_b1'
        have A_b5 := A_b5'
        show Wp p e below (Po s n0 room_1 Q0) T (mkF m 48 #[.val (.long q0), .second, .val (.long q1), .second, .val (.ref b1), .val (.int (1 : Int32)), .val (.long ff), .second, .unset, .unset, .unset, .unset, .unset] [])
        by_cases hfz : ff = 0
        · skip
          have hz := hyz.mpr hfz
          have F_length_b1 : Fld Z h75 b1 "com/example/krofusmidur/krofusmidur/amounts/MutableInteger" "length" "I" (.int (0 : Int32)) := by rw [hz] at F_length_b1; exact F_length_b1
          have F_negative_b1 : Fld Z h75 b1 "com/example/krofusmidur/krofusmidur/amounts/MutableInteger" "negative" "Z" (.int (0 : Int32)) := by rw [if_pos hz] at F_negative_b1; exact F_negative_b1
          have hnn : 0 ≤ 4 := by decide
          refine o_aload S rfl rfl at_48 rfl (q := 50) ?_
          refine o_callV0 S (W := 0) (argsL := []) (rest := []) (a := b1) (o_wd (i := 33) hw rfl) (o_wd (i := 34) hw rfl) (o_wd (i := 36) hw rfl) (o_wd (i := 35) hw rfl) (o_wd (i := 2) hw rfl) (o_wd (i := 37) hw rfl) (o_nf (o_wd (i := 36) hw rfl)) (by decide) E_b1 (ct_7 l Z a0 hw b1 (0 : Int32) (0 : Int32) h75 n0 (o_n0 S) E_b1 F_length_b1 F_negative_b1) (by decide) (by decide) rfl rfl pd_11 rfl (Nat.le_of_eq rfl) at_50 rfl (q := 53) (by decide) (by decide) rfl (st' := [(.int (f_sig (0 : Int32) (0 : Int32)))]) (fun T S => ?_)
          refine o_istoreV S (L' := fun s2 => #[.val (.long q0), .second, .val (.long q1), .second, .val (.ref b1), .val (.int (1 : Int32)), .val (.long ff), .second, .val (.int s2), .unset, .unset, .unset, .unset]) (fun _ => rfl) at_53 rfl (q := 55) (fun s2 hs2 => ?_)
          have hs20 : s2 = (0 : Int32) := by rw [hs2]; decide
          subst hs20
          refine o_iload S rfl at_55 rfl (q := 57) ?_
          refine o_lloadN S rfl at_57 rfl (q := 58) ?_
          refine o_callS0 S (W := 1) (argsL := [(.long q0)]) (rest := [(.int (0 : Int32))]) (o_wd (i := 38) hw rfl) (o_wd (i := 39) hw rfl) (o_wd (i := 40) hw rfl) (o_wd (i := 41) hw rfl) (by decide) (ct_8 l Z a0 hw q0 h75 n0 (o_n0 S)) (by decide) (by decide) rfl rfl pd_12 rfl (Nat.le_of_eq rfl) at_58 rfl (q := 61) (by decide) (by decide) rfl (st' := [(.int (f_sgn q0)), (.int (0 : Int32))]) (fun T S => ?_)
          refine o_lload S rfl at_61 rfl (q := 63) ?_
          refine o_callS0 S (W := 2) (argsL := [(.long ff)]) (rest := [(.int (f_sgn q0)), (.int (0 : Int32))]) (o_wd (i := 38) hw rfl) (o_wd (i := 39) hw rfl) (o_wd (i := 40) hw rfl) (o_wd (i := 41) hw rfl) (by decide) (ct_8 l Z a0 hw ff h75 n0 (o_n0 S)) (by decide) (by decide) rfl rfl pd_12 rfl (Nat.le_of_eq rfl) at_63 rfl (q := 66) (by decide) (by decide) rfl (st' := [(.int (f_sgn ff)), (.int (f_sgn q0)), (.int (0 : Int32))]) (fun T S => ?_)
          refine o_imul S at_66 rfl (q := 67) ?_
          refine o_icmp S at_67 (by decide) (q' := 74) (by decide) (q := 70) rfl hs_ne.1 hs_ne.2 (fun hc67 => ?_) (fun hc67 => ?_)
          · exact absurd (by rw [hfz, hsg]; decide) hc67
          · skip
            refine o_iconst S (z := 1) rfl at_70 rfl (q := 71) ?_
            refine o_goto S at_71 (by decide) (q := 75) (by decide) ?_
            refine o_istore S (L' := #[.val (.long q0), .second, .val (.long q1), .second, .val (.ref b1), .val (.int (1 : Int32)), .val (.long ff), .second, .val (.int (0 : Int32)), .val (.int (1 : Int32)), .unset, .unset, .unset]) rfl at_75 rfl (q := 77) ?_
            refine o_new S (o_wd (i := 0) hw rfl) (o_wd (i := 1) hw rfl) (o_wd (i := 2) hw rfl) at_77 rfl (q := 80) (by decide) (by decide) (fun T h79 b78 S ha_b78 g_b78 X E_b78 D => ?_)
            have ne_b1_b78 : b1 ≠ b78 := by rw [ha_b78]; exact Nat.ne_of_lt E_b1.lt
            have ne_b5_b78 : b5 ≠ b78 := by rw [ha_b78]; exact Nat.ne_of_lt A_b5.lt
            have E_b1 := Exa.ext X E_b1
            have F_digits_b1 := Fld.ext X F_digits_b1
            have F_length_b1 := Fld.ext X F_length_b1
            have F_negative_b1 := Fld.ext X F_negative_b1
            have A_b5 := A_b5.ext X
            have F_digits_b78 : Fld Z h79 b78 "com/example/krofusmidur/krofusmidur/amounts/MutableInteger" "digits" "[I" .null := D (Or.inl (o_wd (i := 11) hw rfl)) (ty := (.array .int)) (by decide)
            have F_length_b78 : Fld Z h79 b78 "com/example/krofusmidur/krofusmidur/amounts/MutableInteger" "length" "I" (.int (0 : Int32)) := D (Or.inl (o_wd (i := 26) hw rfl)) (ty := .int) (by decide)
            have F_negative_b78 : Fld Z h79 b78 "com/example/krofusmidur/krofusmidur/amounts/MutableInteger" "negative" "Z" (.int (0 : Int32)) := D (Or.inl (o_wd (i := 28) hw rfl)) (ty := .boolean) (by decide)
            refine o_dup S rfl at_80 rfl (q := 81) ?_
            refine o_callI S (W := 1) (argsL := []) (rest := [(.ref b78)]) (a := b78) rfl (o_wd (i := 3) hw rfl) (o_wd (i := 4) hw rfl) (o_wd (i := 2) hw rfl) (o_wd (i := 5) hw rfl) (by decide) (ct_1 l Z a0 hw b78 h79 n0 (o_n0 S) E_b78 F_digits_b78 F_length_b78 F_negative_b78 g_b78) (by decide) (by decide) rfl rfl pd_2 rfl (Nat.le_of_eq rfl) at_81 rfl (q := 84) (by decide) (by decide) (fun T h80 rr81 S hQ => ?_)
            obtain ⟨b82, g_b82, sz'_b82, hv, K1, E_b78', F_digits_b78', F_length_b78', F_negative_b78', A_b82'⟩ := hQ
            subst hv
            have ne_b1_b82 : b1 ≠ b82 := Nat.ne_of_lt (Nat.lt_of_lt_of_le E_b1.lt sz'_b82)
            have ne_b5_b82 : b5 ≠ b82 := Nat.ne_of_lt (Nat.lt_of_lt_of_le A_b5.lt sz'_b82)
            have ne_b78_b82 : b78 ≠ b82 := Nat.ne_of_lt (Nat.lt_of_lt_of_le E_b78.lt sz'_b82)
            have E_b1 := E_b1.keep K1
            have F_digits_b1 := F_digits_b1.keep K1 (ninS ne_b1_b78 nin0)
            have F_length_b1 := F_length_b1.keep K1 (ninS ne_b1_b78 nin0)
            have F_negative_b1 := F_negative_b1.keep K1 (ninS ne_b1_b78 nin0)
            have A_b5 := A_b5.keep K1 (ninS ne_b5_b78 nin0)
            have E_b78 := E_b78'
            have F_digits_b78 := F_digits_b78'
            have F_length_b78 := F_length_b78'
            have F_negative_b78 := F_negative_b78'
            have A_b82 := A_b82'
            show Wp p e below (Po s n0 room_1 Q0) T (mkF m 84 #[.val (.long q0), .second, .val (.long q1), .second, .val (.ref b1), .val (.int (1 : Int32)), .val (.long ff), .second, .val (.int (0 : Int32)), .val (.int (1 : Int32)), .unset, .unset, .unset] [(.ref b78)])
            refine o_astore S (L' := #[.val (.long q0), .second, .val (.long q1), .second, .val (.ref b1), .val (.int (1 : Int32)), .val (.long ff), .second, .val (.int (0 : Int32)), .val (.int (1 : Int32)), .val (.ref b78), .unset, .unset]) rfl rfl at_84 rfl (q := 86) ?_
            refine o_aload S rfl rfl at_86 rfl (q := 88) ?_
            refine o_aload S rfl rfl at_88 rfl (q := 90) ?_
            refine o_callV S (W := 0) (argsL := [(.ref b1)]) (rest := []) (a := b78) (o_wd (i := 53) hw rfl) (o_wd (i := 54) hw rfl) (o_wd (i := 56) hw rfl) (o_wd (i := 55) hw rfl) (o_wd (i := 2) hw rfl) (o_wd (i := 57) hw rfl) (o_nf (o_wd (i := 56) hw rfl)) (by decide) E_b78 (ct_11 l Z a0 hw b78 b1 b82 b5 (0 : Int32) e77 0 h80 n0 (o_n0 S) E_b78 F_digits_b78 F_length_b78 F_negative_b78 A_b82 E_b1 F_digits_b1 F_length_b1 F_negative_b1 A_b5 g_b78 g_b82 ne_b78_b82 (Ne.symm ne_b1_b78) (Ne.symm ne_b5_b78) (Ne.symm ne_b1_b82) (Ne.symm ne_b5_b82) hnn hyl (by decide)) (by decide) (by decide) rfl rfl pd_13 rfl (Nat.le_of_eq rfl) at_90 rfl (q := 93) (by decide) (by decide) (fun T h83 rr84 S hQ => ?_)
            obtain ⟨hv, K1, E_b78', F_digits_b78', F_length_b78', F_negative_b78', A_b82'⟩ := hQ
            subst hv
            have E_b1 := E_b1.keep K1
            have F_digits_b1 := F_digits_b1.keep K1 (ninS ne_b1_b78 (ninS ne_b1_b82 nin0))
            have F_length_b1 := F_length_b1.keep K1 (ninS ne_b1_b78 (ninS ne_b1_b82 nin0))
            have F_negative_b1 := F_negative_b1.keep K1 (ninS ne_b1_b78 (ninS ne_b1_b82 nin0))
            have A_b5 := A_b5.keep K1 (ninS ne_b5_b78 (ninS ne_b5_b82 nin0))
            have E_b78 := E_b78'
            have F_digits_b78 := F_digits_b78'
            have F_length_b78 := F_length_b78'
            have F_negative_b78 := F_negative_b78'
            have A_b82 := A_b82'
            show Wp p e below (Po s n0 room_1 Q0) T (mkF m 93 #[.val (.long q0), .second, .val (.long q1), .second, .val (.ref b1), .val (.int (1 : Int32)), .val (.long ff), .second, .val (.int (0 : Int32)), .val (.int (1 : Int32)), .val (.ref b78), .unset, .unset] [])
            refine o_aload S rfl rfl at_93 rfl (q := 95) ?_
            refine o_callV0 S (W := 0) (argsL := []) (rest := []) (a := b78) (o_wd (i := 33) hw rfl) (o_wd (i := 34) hw rfl) (o_wd (i := 36) hw rfl) (o_wd (i := 35) hw rfl) (o_wd (i := 2) hw rfl) (o_wd (i := 37) hw rfl) (o_nf (o_wd (i := 36) hw rfl)) (by decide) E_b78 (ct_7 l Z a0 hw b78 (Int32.ofNat 0) (0 : Int32) h83 n0 (o_n0 S) E_b78 F_length_b78 F_negative_b78) (by decide) (by decide) rfl rfl pd_11 rfl (Nat.le_of_eq rfl) at_95 rfl (q := 98) (by decide) (by decide) rfl (st' := [(.int (f_sig (Int32.ofNat 0) (0 : Int32)))]) (fun T S => ?_)
            refine o_iload S rfl at_98 rfl (q := 100) ?_
            refine o_icmp S at_100 (by decide) (q' := 107) (by decide) (q := 103) rfl hs_ne.1 hs_ne.2 (fun hc100 => ?_) (fun hc100 => ?_)
            · exact absurd (by decide) hc100
            · skip
              refine o_iconst S (z := 1) rfl at_103 rfl (q := 104) ?_
              refine o_goto S at_104 (by decide) (q := 108) (by decide) ?_
              refine o_istore S (L' := #[.val (.long q0), .second, .val (.long q1), .second, .val (.ref b1), .val (.int (1 : Int32)), .val (.long ff), .second, .val (.int (0 : Int32)), .val (.int (1 : Int32)), .val (.ref b78), .val (.int (1 : Int32)), .unset]) rfl at_108 rfl (q := 110) ?_
              refine o_aload S rfl rfl at_110 rfl (q := 112) ?_
              refine o_aload S rfl rfl at_112 rfl (q := 114) ?_
              refine o_callV0 S (W := 0) (argsL := [(.ref b1)]) (rest := []) (a := b78) (o_wd (i := 62) hw rfl) (o_wd (i := 63) hw rfl) (o_wd (i := 65) hw rfl) (o_wd (i := 64) hw rfl) (o_wd (i := 2) hw rfl) (o_wd (i := 66) hw rfl) (o_nf (o_wd (i := 65) hw rfl)) (by decide) E_b78 (ct_12z l Z a0 hw b78 b1 (0 : Int32) h83 n0 (o_n0 S) E_b78 E_b1 F_length_b1 F_negative_b1) (by decide) (by decide) rfl rfl pd_13 rfl (Nat.le_of_eq rfl) at_114 rfl (q := 117) (by decide) (by decide) rfl (st' := []) (fun T S => ?_)
              refine o_aload S rfl rfl at_117 rfl (q := 119) ?_
              refine o_callV0 S (W := 0) (argsL := []) (rest := []) (a := b78) (o_wd (i := 33) hw rfl) (o_wd (i := 34) hw rfl) (o_wd (i := 36) hw rfl) (o_wd (i := 35) hw rfl) (o_wd (i := 2) hw rfl) (o_wd (i := 37) hw rfl) (o_nf (o_wd (i := 36) hw rfl)) (by decide) E_b78 (ct_7 l Z a0 hw b78 (Int32.ofNat 0) (0 : Int32) h83 n0 (o_n0 S) E_b78 F_length_b78 F_negative_b78) (by decide) (by decide) rfl rfl pd_11 rfl (Nat.le_of_eq rfl) at_119 rfl (q := 122) (by decide) (by decide) rfl (st' := [(.int (f_sig (Int32.ofNat 0) (0 : Int32)))]) (fun T S => ?_)
              refine o_if S at_122 (by decide) (q' := 129) (by decide) (q := 125) rfl hs_ne.1 hs_ne.2 (fun hc122 => ?_) (fun hc122 => ?_)
              · exact absurd (by decide) hc122
              · skip
                refine o_iconst S (z := 1) rfl at_125 rfl (q := 126) ?_
                refine o_goto S at_126 (by decide) (q := 130) (by decide) ?_
                refine o_istore S (L' := #[.val (.long q0), .second, .val (.long q1), .second, .val (.ref b1), .val (.int (1 : Int32)), .val (.long ff), .second, .val (.int (0 : Int32)), .val (.int (1 : Int32)), .val (.ref b78), .val (.int (1 : Int32)), .val (.int (1 : Int32))]) rfl at_130 rfl (q := 132) ?_
                refine o_iload S rfl at_132 rfl (q := 134) ?_
                refine o_if S at_134 (by decide) (q' := 156) (by decide) (q := 137) rfl hs_eq.1 hs_eq.2 (fun hc134 => ?_) (fun hc134 => ?_)
                · exact absurd hc134 (by decide)
                · skip
                  refine o_iload S rfl at_137 rfl (q := 139) ?_
                  refine o_if S at_139 (by decide) (q' := 156) (by decide) (q := 142) rfl hs_eq.1 hs_eq.2 (fun hc139 => ?_) (fun hc139 => ?_)
                  · exact absurd hc139 (by decide)
                  · skip
                    refine o_iload S rfl at_142 rfl (q := 144) ?_
                    refine o_if S at_144 (by decide) (q' := 156) (by decide) (q := 147) rfl hs_eq.1 hs_eq.2 (fun hc144 => ?_) (fun hc144 => ?_)
                    · exact absurd hc144 (by decide)
                    · skip
                      refine o_iload S rfl at_147 rfl (q := 149) ?_
                      refine o_if S at_149 (by decide) (q' := 156) (by decide) (q := 152) rfl hs_eq.1 hs_eq.2 (fun hc149 => ?_) (fun hc149 => ?_)
                      · exact absurd hc149 (by decide)
                      · skip
                        refine o_iconst S (z := 1) rfl at_152 rfl (q := 153) ?_
                        refine o_goto S at_153 (by decide) (q := 157) (by decide) ?_
                        refine o_retN S (t := .boolean) rfl (by simp) at_157 (by decide) (by decide) rfl ?_
                        rfl
        · skip
          have hz : ¬ trm e77 4 = 0 := fun q => hfz (hyz.mp q)
          have hle := trm_le e77 4
          have F_negative_b1 : Fld Z h75 b1 "com/example/krofusmidur/krofusmidur/amounts/MutableInteger" "negative" "Z" (.int (1 : Int32)) := by rw [if_neg hz] at F_negative_b1; exact F_negative_b1
          obtain ⟨t, et⟩ : ∃ t, t = trm e77 4 := ⟨_, rfl⟩
          rw [← et] at hz hle
          have F_length_b1 : Fld Z h75 b1 "com/example/krofusmidur/krofusmidur/amounts/MutableInteger" "length" "I" (.int (Int32.ofNat t)) := by rw [← et] at F_length_b1; exact F_length_b1
          have hn1 : 1 ≤ t := by omega
          have hnn : t ≤ 4 := by omega
          have hxl := cpL_len hnn hyl
          have hxy := cpL_get hnn hyl
          refine o_aload S rfl rfl at_48 rfl (q := 50) ?_
          refine o_callV0 S (W := 0) (argsL := []) (rest := []) (a := b1) (o_wd (i := 33) hw rfl) (o_wd (i := 34) hw rfl) (o_wd (i := 36) hw rfl) (o_wd (i := 35) hw rfl) (o_wd (i := 2) hw rfl) (o_wd (i := 37) hw rfl) (o_nf (o_wd (i := 36) hw rfl)) (by decide) E_b1 (ct_7 l Z a0 hw b1 (Int32.ofNat t) (1 : Int32) h75 n0 (o_n0 S) E_b1 F_length_b1 F_negative_b1) (by decide) (by decide) rfl rfl pd_11 rfl (Nat.le_of_eq rfl) at_50 rfl (q := 53) (by decide) (by decide) rfl (st' := [(.int (f_sig (Int32.ofNat t) (1 : Int32)))]) (fun T S => ?_)
          refine o_istoreV S (L' := fun s2 => #[.val (.long q0), .second, .val (.long q1), .second, .val (.ref b1), .val (.int (1 : Int32)), .val (.long ff), .second, .val (.int s2), .unset, .unset, .unset, .unset]) (fun _ => rfl) at_53 rfl (q := 55) (fun s2 hs2 => ?_)
          have hs20 : s2 = (-1 : Int32) := by rw [hs2]; exact (sigz hn1 hnn).trans (by decide)
          subst hs20
          refine o_iload S rfl at_55 rfl (q := 57) ?_
          refine o_lloadN S rfl at_57 rfl (q := 58) ?_
          refine o_callS0 S (W := 1) (argsL := [(.long q0)]) (rest := [(.int (-1 : Int32))]) (o_wd (i := 38) hw rfl) (o_wd (i := 39) hw rfl) (o_wd (i := 40) hw rfl) (o_wd (i := 41) hw rfl) (by decide) (ct_8 l Z a0 hw q0 h75 n0 (o_n0 S)) (by decide) (by decide) rfl rfl pd_12 rfl (Nat.le_of_eq rfl) at_58 rfl (q := 61) (by decide) (by decide) rfl (st' := [(.int (f_sgn q0)), (.int (-1 : Int32))]) (fun T S => ?_)
          refine o_lload S rfl at_61 rfl (q := 63) ?_
          refine o_callS0 S (W := 2) (argsL := [(.long ff)]) (rest := [(.int (f_sgn q0)), (.int (-1 : Int32))]) (o_wd (i := 38) hw rfl) (o_wd (i := 39) hw rfl) (o_wd (i := 40) hw rfl) (o_wd (i := 41) hw rfl) (by decide) (ct_8 l Z a0 hw ff h75 n0 (o_n0 S)) (by decide) (by decide) rfl rfl pd_12 rfl (Nat.le_of_eq rfl) at_63 rfl (q := 66) (by decide) (by decide) rfl (st' := [(.int (f_sgn ff)), (.int (f_sgn q0)), (.int (-1 : Int32))]) (fun T S => ?_)
          refine o_imul S at_66 rfl (q := 67) ?_
          refine o_icmp S at_67 (by decide) (q' := 74) (by decide) (q := 70) rfl hs_ne.1 hs_ne.2 (fun hc67 => ?_) (fun hc67 => ?_)
          · exact absurd (by rw [hsg, sgnp hff hfz]; decide) hc67
          · skip
            refine o_iconst S (z := 1) rfl at_70 rfl (q := 71) ?_
            refine o_goto S at_71 (by decide) (q := 75) (by decide) ?_
            refine o_istore S (L' := #[.val (.long q0), .second, .val (.long q1), .second, .val (.ref b1), .val (.int (1 : Int32)), .val (.long ff), .second, .val (.int (-1 : Int32)), .val (.int (1 : Int32)), .unset, .unset, .unset]) rfl at_75 rfl (q := 77) ?_
            refine o_new S (o_wd (i := 0) hw rfl) (o_wd (i := 1) hw rfl) (o_wd (i := 2) hw rfl) at_77 rfl (q := 80) (by decide) (by decide) (fun T h86 b85 S ha_b85 g_b85 X E_b85 D => ?_)
            have ne_b1_b85 : b1 ≠ b85 := by rw [ha_b85]; exact Nat.ne_of_lt E_b1.lt
            have ne_b5_b85 : b5 ≠ b85 := by rw [ha_b85]; exact Nat.ne_of_lt A_b5.lt
            have E_b1 := Exa.ext X E_b1
            have F_digits_b1 := Fld.ext X F_digits_b1
            have F_length_b1 := Fld.ext X F_length_b1
            have F_negative_b1 := Fld.ext X F_negative_b1
            have A_b5 := A_b5.ext X
            have F_digits_b85 : Fld Z h86 b85 "com/example/krofusmidur/krofusmidur/amounts/MutableInteger" "digits" "[I" .null := D (Or.inl (o_wd (i := 11) hw rfl)) (ty := (.array .int)) (by decide)
            have F_length_b85 : Fld Z h86 b85 "com/example/krofusmidur/krofusmidur/amounts/MutableInteger" "length" "I" (.int (0 : Int32)) := D (Or.inl (o_wd (i := 26) hw rfl)) (ty := .int) (by decide)
            have F_negative_b85 : Fld Z h86 b85 "com/example/krofusmidur/krofusmidur/amounts/MutableInteger" "negative" "Z" (.int (0 : Int32)) := D (Or.inl (o_wd (i := 28) hw rfl)) (ty := .boolean) (by decide)
            refine o_dup S rfl at_80 rfl (q := 81) ?_
            refine o_callI S (W := 1) (argsL := []) (rest := [(.ref b85)]) (a := b85) rfl (o_wd (i := 3) hw rfl) (o_wd (i := 4) hw rfl) (o_wd (i := 2) hw rfl) (o_wd (i := 5) hw rfl) (by decide) (ct_1 l Z a0 hw b85 h86 n0 (o_n0 S) E_b85 F_digits_b85 F_length_b85 F_negative_b85 g_b85) (by decide) (by decide) rfl rfl pd_2 rfl (Nat.le_of_eq rfl) at_81 rfl (q := 84) (by decide) (by decide) (fun T h87 rr88 S hQ => ?_)
            obtain ⟨b89, g_b89, sz'_b89, hv, K1, E_b85', F_digits_b85', F_length_b85', F_negative_b85', A_b89'⟩ := hQ
            subst hv
            have ne_b1_b89 : b1 ≠ b89 := Nat.ne_of_lt (Nat.lt_of_lt_of_le E_b1.lt sz'_b89)
            have ne_b5_b89 : b5 ≠ b89 := Nat.ne_of_lt (Nat.lt_of_lt_of_le A_b5.lt sz'_b89)
            have ne_b85_b89 : b85 ≠ b89 := Nat.ne_of_lt (Nat.lt_of_lt_of_le E_b85.lt sz'_b89)
            have E_b1 := E_b1.keep K1
            have F_digits_b1 := F_digits_b1.keep K1 (ninS ne_b1_b85 nin0)
            have F_length_b1 := F_length_b1.keep K1 (ninS ne_b1_b85 nin0)
            have F_negative_b1 := F_negative_b1.keep K1 (ninS ne_b1_b85 nin0)
            have A_b5 := A_b5.keep K1 (ninS ne_b5_b85 nin0)
            have E_b85 := E_b85'
            have F_digits_b85 := F_digits_b85'
            have F_length_b85 := F_length_b85'
            have F_negative_b85 := F_negative_b85'
            have A_b89 := A_b89'
            show Wp p e below (Po s n0 room_1 Q0) T (mkF m 84 #[.val (.long q0), .second, .val (.long q1), .second, .val (.ref b1), .val (.int (1 : Int32)), .val (.long ff), .second, .val (.int (-1 : Int32)), .val (.int (1 : Int32)), .unset, .unset, .unset] [(.ref b85)])
            refine o_astore S (L' := #[.val (.long q0), .second, .val (.long q1), .second, .val (.ref b1), .val (.int (1 : Int32)), .val (.long ff), .second, .val (.int (-1 : Int32)), .val (.int (1 : Int32)), .val (.ref b85), .unset, .unset]) rfl rfl at_84 rfl (q := 86) ?_
            refine o_aload S rfl rfl at_86 rfl (q := 88) ?_
            refine o_aload S rfl rfl at_88 rfl (q := 90) ?_
            refine o_callV S (W := 0) (argsL := [(.ref b1)]) (rest := []) (a := b85) (o_wd (i := 53) hw rfl) (o_wd (i := 54) hw rfl) (o_wd (i := 56) hw rfl) (o_wd (i := 55) hw rfl) (o_wd (i := 2) hw rfl) (o_wd (i := 57) hw rfl) (o_nf (o_wd (i := 56) hw rfl)) (by decide) E_b85 (ct_11 l Z a0 hw b85 b1 b89 b5 (1 : Int32) e77 t h87 n0 (o_n0 S) E_b85 F_digits_b85 F_length_b85 F_negative_b85 A_b89 E_b1 F_digits_b1 F_length_b1 F_negative_b1 A_b5 g_b85 g_b89 ne_b85_b89 (Ne.symm ne_b1_b85) (Ne.symm ne_b5_b85) (Ne.symm ne_b1_b89) (Ne.symm ne_b5_b89) hnn hyl (by decide)) (by decide) (by decide) rfl rfl pd_13 rfl (Nat.le_of_eq rfl) at_90 rfl (q := 93) (by decide) (by decide) (fun T h90 rr91 S hQ => ?_)
            obtain ⟨hv, K1, E_b85', F_digits_b85', F_length_b85', F_negative_b85', A_b89'⟩ := hQ
            subst hv
            have E_b1 := E_b1.keep K1
            have F_digits_b1 := F_digits_b1.keep K1 (ninS ne_b1_b85 (ninS ne_b1_b89 nin0))
            have F_length_b1 := F_length_b1.keep K1 (ninS ne_b1_b85 (ninS ne_b1_b89 nin0))
            have F_negative_b1 := F_negative_b1.keep K1 (ninS ne_b1_b85 (ninS ne_b1_b89 nin0))
            have A_b5 := A_b5.keep K1 (ninS ne_b5_b85 (ninS ne_b5_b89 nin0))
            have E_b85 := E_b85'
            have F_digits_b85 := F_digits_b85'
            have F_length_b85 := F_length_b85'
            have F_negative_b85 := F_negative_b85'
            have A_b89 := A_b89'
            show Wp p e below (Po s n0 room_1 Q0) T (mkF m 93 #[.val (.long q0), .second, .val (.long q1), .second, .val (.ref b1), .val (.int (1 : Int32)), .val (.long ff), .second, .val (.int (-1 : Int32)), .val (.int (1 : Int32)), .val (.ref b85), .unset, .unset] [])
            refine o_aload S rfl rfl at_93 rfl (q := 95) ?_
            refine o_callV0 S (W := 0) (argsL := []) (rest := []) (a := b85) (o_wd (i := 33) hw rfl) (o_wd (i := 34) hw rfl) (o_wd (i := 36) hw rfl) (o_wd (i := 35) hw rfl) (o_wd (i := 2) hw rfl) (o_wd (i := 37) hw rfl) (o_nf (o_wd (i := 36) hw rfl)) (by decide) E_b85 (ct_7 l Z a0 hw b85 (Int32.ofNat t) (1 : Int32) h90 n0 (o_n0 S) E_b85 F_length_b85 F_negative_b85) (by decide) (by decide) rfl rfl pd_11 rfl (Nat.le_of_eq rfl) at_95 rfl (q := 98) (by decide) (by decide) rfl (st' := [(.int (f_sig (Int32.ofNat t) (1 : Int32)))]) (fun T S => ?_)
            refine o_iload S rfl at_98 rfl (q := 100) ?_
            refine o_icmp S at_100 (by decide) (q' := 107) (by decide) (q := 103) rfl hs_ne.1 hs_ne.2 (fun hc100 => ?_) (fun hc100 => ?_)
            · exact absurd ((sigz hn1 hnn).trans (by decide)) hc100
            · skip
              refine o_iconst S (z := 1) rfl at_103 rfl (q := 104) ?_
              refine o_goto S at_104 (by decide) (q := 108) (by decide) ?_
              refine o_istore S (L' := #[.val (.long q0), .second, .val (.long q1), .second, .val (.ref b1), .val (.int (1 : Int32)), .val (.long ff), .second, .val (.int (-1 : Int32)), .val (.int (1 : Int32)), .val (.ref b85), .val (.int (1 : Int32)), .unset]) rfl at_108 rfl (q := 110) ?_
              refine o_aload S rfl rfl at_110 rfl (q := 112) ?_
              refine o_aload S rfl rfl at_112 rfl (q := 114) ?_
              refine o_callV S (W := 0) (argsL := [(.ref b1)]) (rest := []) (a := b85) (o_wd (i := 62) hw rfl) (o_wd (i := 63) hw rfl) (o_wd (i := 65) hw rfl) (o_wd (i := 64) hw rfl) (o_wd (i := 2) hw rfl) (o_wd (i := 66) hw rfl) (o_nf (o_wd (i := 65) hw rfl)) (by decide) E_b85 (ct_12n l Z a0 hw b85 b1 b89 (1 : Int32) (cpL e77 t) b5 e77 t h90 n0 (o_n0 S) E_b85 F_digits_b85 F_length_b85 F_negative_b85 A_b89 E_b1 F_digits_b1 F_length_b1 F_negative_b1 A_b5 g_b85 g_b89 ne_b85_b89 (Ne.symm ne_b1_b85) (Ne.symm ne_b5_b85) (Ne.symm ne_b1_b89) (Ne.symm ne_b5_b89) hn1 hnn hxl hyl hxy) (by decide) (by decide) rfl rfl pd_13 rfl (Nat.le_of_eq rfl) at_114 rfl (q := 117) (by decide) (by decide) (fun T h92 rr93 S hQ => ?_)
              obtain ⟨hv, K1, E_b85', F_digits_b85', F_length_b85', F_negative_b85'⟩ := hQ
              subst hv
              have E_b1 := E_b1.keep K1
              have F_digits_b1 := F_digits_b1.keep K1 (ninS ne_b1_b85 (ninS ne_b1_b89 nin0))
              have F_length_b1 := F_length_b1.keep K1 (ninS ne_b1_b85 (ninS ne_b1_b89 nin0))
              have F_negative_b1 := F_negative_b1.keep K1 (ninS ne_b1_b85 (ninS ne_b1_b89 nin0))
              have A_b5 := A_b5.keep K1 (ninS ne_b5_b85 (ninS ne_b5_b89 nin0))
              have E_b85 := E_b85'
              have F_digits_b85 := F_digits_b85'
              have F_length_b85 := F_length_b85'
              have F_negative_b85 := F_negative_b85'
              show Wp p e below (Po s n0 room_1 Q0) T (mkF m 117 #[.val (.long q0), .second, .val (.long q1), .second, .val (.ref b1), .val (.int (1 : Int32)), .val (.long ff), .second, .val (.int (-1 : Int32)), .val (.int (1 : Int32)), .val (.ref b85), .val (.int (1 : Int32)), .unset] [])
              refine o_aload S rfl rfl at_117 rfl (q := 119) ?_
              refine o_callV0 S (W := 0) (argsL := []) (rest := []) (a := b85) (o_wd (i := 33) hw rfl) (o_wd (i := 34) hw rfl) (o_wd (i := 36) hw rfl) (o_wd (i := 35) hw rfl) (o_wd (i := 2) hw rfl) (o_wd (i := 37) hw rfl) (o_nf (o_wd (i := 36) hw rfl)) (by decide) E_b85 (ct_7 l Z a0 hw b85 (0 : Int32) (0 : Int32) h92 n0 (o_n0 S) E_b85 F_length_b85 F_negative_b85) (by decide) (by decide) rfl rfl pd_11 rfl (Nat.le_of_eq rfl) at_119 rfl (q := 122) (by decide) (by decide) rfl (st' := [(.int (f_sig (0 : Int32) (0 : Int32)))]) (fun T S => ?_)
              refine o_if S at_122 (by decide) (q' := 129) (by decide) (q := 125) rfl hs_ne.1 hs_ne.2 (fun hc122 => ?_) (fun hc122 => ?_)
              · exact absurd (by decide) hc122
              · skip
                refine o_iconst S (z := 1) rfl at_125 rfl (q := 126) ?_
                refine o_goto S at_126 (by decide) (q := 130) (by decide) ?_
                refine o_istore S (L' := #[.val (.long q0), .second, .val (.long q1), .second, .val (.ref b1), .val (.int (1 : Int32)), .val (.long ff), .second, .val (.int (-1 : Int32)), .val (.int (1 : Int32)), .val (.ref b85), .val (.int (1 : Int32)), .val (.int (1 : Int32))]) rfl at_130 rfl (q := 132) ?_
                refine o_iload S rfl at_132 rfl (q := 134) ?_
                refine o_if S at_134 (by decide) (q' := 156) (by decide) (q := 137) rfl hs_eq.1 hs_eq.2 (fun hc134 => ?_) (fun hc134 => ?_)
                · exact absurd hc134 (by decide)
                · skip
                  refine o_iload S rfl at_137 rfl (q := 139) ?_
                  refine o_if S at_139 (by decide) (q' := 156) (by decide) (q := 142) rfl hs_eq.1 hs_eq.2 (fun hc139 => ?_) (fun hc139 => ?_)
                  · exact absurd hc139 (by decide)
                  · skip
                    refine o_iload S rfl at_142 rfl (q := 144) ?_
                    refine o_if S at_144 (by decide) (q' := 156) (by decide) (q := 147) rfl hs_eq.1 hs_eq.2 (fun hc144 => ?_) (fun hc144 => ?_)
                    · exact absurd hc144 (by decide)
                    · skip
                      refine o_iload S rfl at_147 rfl (q := 149) ?_
                      refine o_if S at_149 (by decide) (q' := 156) (by decide) (q := 152) rfl hs_eq.1 hs_eq.2 (fun hc149 => ?_) (fun hc149 => ?_)
                      · exact absurd hc149 (by decide)
                      · skip
                        refine o_iconst S (z := 1) rfl at_152 rfl (q := 153) ?_
                        refine o_goto S at_153 (by decide) (q := 157) (by decide) ?_
                        refine o_retN S (t := .boolean) rfl (by simp) at_157 (by decide) (by decide) rfl ?_
                        rfl
set_option maxRecDepth 65536 in
set_option maxHeartbeats 40000000 in
theorem comes_1 {Post : Tables → Env → Array Value → State → Outcome → State → Prop} (hpost : ∀ tb e args s v u, (limb_1_1.after args s (.returned v) u = true ∧ limb_1_2.after args s (.returned v) u = true ∧ True) → FrameEnd s (.returned v) u (Jvm.fieldLocs frame_1_writes args s ++ Jvm.arrayLocs frame_1_arrays args s ++ Jvm.staticLocs frame_1_statics s) 16 128 → Post tb e args s (.returned v) u) :
    ArmFor flags0 classFile x code maxLocals ret World_1 tables_1 room_1 Calls_1 rest_1 Pre_1 Post := by
  intro l hfl _ _ p e ha hc hk s m args below hf hA hF happ hP
  obtain ⟨hcalls, hrest, hpre⟩ := hP
  obtain ⟨-, -, -, hnamed, -, -, -, hat⟩ := (Spec.applies_iff hf).mp happ
  obtain ⟨hg, hn⟩ := and_e (Cond.before_iff.mp (show (Jvm.Cond.and given_1 narrow_1).before args s = true from hpre))
  obtain ⟨g0, g⟩ := and_e hg
  obtain ⟨w0, w1, rfl⟩ : ∃ w0 w1 : Value, args = #[w0, w1] := by
    have hs : args.size = 2 := by simpa [Cond.value, given_1] using g0
    obtain ⟨L⟩ := args
    match L, hs with
    | [w0, w1], _ => exact ⟨w0, w1, rfl⟩
  have hw := fun d (hd : d ∈ tables_1) => atoms_spec (ws := Jvm.Cond.code x code maxLocals ret :: tables_1) hat d (List.mem_cons_of_mem _ hd)
  obtain ⟨g1, gr1⟩ := and_e g
  obtain ⟨i0, ei0⟩ := isL_v g1
  obtain rfl : w0 = (.long i0) := Option.some.inj ei0
  obtain ⟨i1, ei1⟩ := isL_v gr1
  obtain rfl : w1 = (.long i1) := Option.some.inj ei1
  obtain ⟨n, o, h1, h2, h3, _, L, rfl, ⟨rfl, N⟩, hq⟩ := ct_0 l s _ hw tables_1 i0 i1 s.heap s.heap.size (Nat.le_refl _) p e ha hc hk s m _ below hf ((Spec.applies_iff_loose hf).mp happ).1 ⟨rfl, State.Warmed39.refl s, rfl⟩ trivial
  refine ⟨n, _, h1, h2, h3, hpost _ _ _ _ _ _ ⟨Cond.after_iff.mpr rfl, Cond.after_iff.mpr (eq_i res_at (Term.int_eval (1)) rfl), trivial⟩ ⟨hq.1, hq.2.1, (hq.2.2.sift fun y hy => Or.inr (N y hy)).mono (by decide) (by decide)⟩⟩
theorem main_1_1 : Claimed_1_1 := comes_1 fun _ _ _ _ _ _ h hF => ⟨h.1, hF⟩
theorem main_1_2 : Claimed_1_2 := comes_1 fun _ _ _ _ _ _ h hF => ⟨h.2.1, hF⟩
end Jvm.Pilot.@@N@@
namespace Jvm.Pilot.@@N@@
open Jvm Jvm.ClassFile Sem Op Lib Jvm.Free Jvm.Stand Jvm.Pilot.@@N@@.Jvm.D
/-! MADE BY PROGRAM (witnessworld.py) out of the Statement's table words and the real class files: 17 classes; the members and pool entries that the words name. The judged class is class 1, her method 2. -/
namespace start1
open Jvm.ClassFile
def u (s : String) : CpInfo := .utf8 (stringToUtf16 s)
/-- a pool by its gaps: so many unusable entries, then the entry; so many at the end -/
def gap : Nat → List CpInfo → List CpInfo
  | 0, r => r
  | n + 1, r => .unusable :: gap n r
def poolList (es : List (Nat × CpInfo)) (last : Nat) : List CpInfo := es.foldr (fun e r => gap e.1 (e.2 :: r)) (gap last [])
def pool (es : List (Nat × CpInfo)) (last : Nat) : Array CpInfo := ⟨poolList es last⟩
def fileOf (pool : Array CpInfo) (this : Nat) (attrs : Array Attribute := #[]) (ms : Array MethodInfo := #[]) (fl : Nat := 33) (sup : Nat := 0) (ifs : Array Nat := #[]) (fds : Array FieldInfo := #[]) : ClassFile where
  minorVersion := 0
  majorVersion := 65
  constantPool := pool
  accessFlags := fl
  thisClass := this
  superClass := sup
  interfaces := ifs
  fields := fds
  methods := ms
  attributes := attrs
def plain (name : String) (sup : Option ClassId) : Class where
  name := name
  kind := .ordinary
  loader := none
  accessFlags := 33
  super := sup
  interfaces := #[]
  cf := none
  fields := #[]
  methods := #[]
  instanceTypes := #[]
  staticTypes := #[]
  resolved := #[]
  callSites := []
  init := .initialized
  statics := none
  mirror := none

def pool0 : Array CpInfo := pool [(5, u "<init>"), (0, u "()V"), (1, .class_ 10), (1, u "java/lang/Object")] 113

def k0c0 : Code := { maxStack := 0, maxLocals := 1, code := object_method_1_code, exceptionTable := #[], attributes := #[] }
def k0m0 : Method := { name := "<init>", desc := "()V", sig := { parameters := [], returnType := none }, accessFlags := 1, code := some k0c0 }
/-- java/lang/Object -/
def k0 : Class := { plain "java/lang/Object" none with
  accessFlags := 33
  interfaces := #[]
  cf := some (fileOf pool0 8 #[] #[{ accessFlags := 1, nameIndex := 5, descriptorIndex := 6, attributes := #[] }] 33 0 #[] #[])
  fields := #[]
  methods := #[k0m0]
  instanceTypes := #[]
  staticTypes := #[]
  resolved := Array.replicate 124 none
  statics := none }

def pool1 : Array CpInfo := pool [(2, .class_ 4), (0, .nameAndType 5 6), (0, u "java/lang/Object"), (0, u "<init>"), (0, u "()V"), (0, .class_ 8), (0, u "com/example/krofusmidur/krofusmidur/amounts/MutableInteger"), (0, .methodref 7 3), (0, .methodref 7 11), (0, .nameAndType 12 13), (0, u "set"), (0, u "(J)V"), (0, .methodref 7 15), (0, .nameAndType 16 17), (0, u "signum"), (0, u "()I"), (0, .methodref 19 20), (0, .class_ 21), (0, .nameAndType 22 23), (0, u "com/example/krofusmidur/krofusmidur/amounts/MutableIntegerSignumPinLaw"), (0, u "sgn"), (0, u "(J)I"), (2, .long 9223372036854775807), (1, .methodref 7 29), (0, .nameAndType 30 13), (0, u "multiply"), (0, .methodref 7 32), (0, .nameAndType 12 33), (0, u "(Lcom/example/krofusmidur/krofusmidur/amounts/MutableInteger;)V"), (0, .methodref 7 35), (0, .nameAndType 36 33), (0, u "subtract"), (3, u "law"), (0, u "(JJ)Z")] 2

def k1m0 : Method := { name := "<init>", desc := "()V", sig := { parameters := [], returnType := none }, accessFlags := 1, code := none }
def k1c1 : Code := { maxStack := 4, maxLocals := 2, code := method_2_code, exceptionTable := #[], attributes := #[] }
def k1m1 : Method := { name := "sgn", desc := "(J)I", sig := { parameters := [.long], returnType := some .int }, accessFlags := 10, code := some k1c1 }
def k1c2 : Code := { maxStack := 4, maxLocals := 13, code := code, exceptionTable := #[], attributes := #[] }
def k1m2 : Method := { name := "law", desc := "(JJ)Z", sig := { parameters := [.long, .long], returnType := some .boolean }, accessFlags := 9, code := some k1c2 }
/-- com/example/krofusmidur/krofusmidur/amounts/MutableIntegerSignumPinLaw -/
def k1 : Class := { plain "com/example/krofusmidur/krofusmidur/amounts/MutableIntegerSignumPinLaw" (some 0) with
  accessFlags := 49
  interfaces := #[]
  cf := some (fileOf pool1 19 #[] #[{ accessFlags := 1, nameIndex := 5, descriptorIndex := 6, attributes := #[] }, { accessFlags := 10, nameIndex := 22, descriptorIndex := 23, attributes := #[] }, { accessFlags := 9, nameIndex := 40, descriptorIndex := 41, attributes := #[] }] 49 2 #[] #[])
  fields := #[]
  methods := #[k1m0, k1m1, k1m2]
  instanceTypes := #[]
  staticTypes := #[]
  resolved := Array.replicate 44 none
  statics := none }

def pool2 : Array CpInfo := pool [(1, .methodref 2 3), (0, .class_ 4), (0, .nameAndType 5 6), (0, u "java/lang/Object"), (0, u "<init>"), (0, u "()V"), (0, .fieldref 8 9), (0, .class_ 10), (0, .nameAndType 11 12), (0, u "com/example/krofusmidur/krofusmidur/amounts/MutableInteger"), (0, u "digits"), (0, u "[I"), (0, .methodref 14 15), (0, .class_ 16), (0, .nameAndType 17 18), (0, u "java/lang/Math"), (0, u "abs"), (0, u "(J)J"), (0, .methodref 8 20), (0, .nameAndType 21 22), (0, u "clearFrom"), (0, u "(I)V"), (0, .fieldref 8 24), (0, .nameAndType 25 26), (0, u "length"), (0, u "I"), (0, .fieldref 8 28), (0, .nameAndType 29 30), (0, u "negative"), (0, u "Z"), (0, .methodref 8 32), (0, .nameAndType 33 6), (0, u "trim"), (0, .methodref 8 35), (0, .nameAndType 36 22), (0, u "ensureCapacity"), (0, .methodref 38 39), (0, .class_ 40), (0, .nameAndType 41 42), (0, u "java/lang/System"), (0, u "arraycopy"), (0, u "(Ljava/lang/Object;ILjava/lang/Object;II)V"), (2, u "signum"), (0, u "()I"), (1, .class_ 50), (1, u "java/lang/Long"), (1, .methodref 53 54), (0, .class_ 55), (0, .nameAndType 56 57), (0, u "java/lang/Integer"), (0, u "compare"), (0, u "(II)I"), (4, .methodref 48 63), (0, .nameAndType 64 65), (0, u "compareUnsigned"), (0, u "(JJ)I"), (17, .methodref 8 84), (0, .nameAndType 85 86), (0, u "add"), (0, u "(Lcom/example/krofusmidur/krofusmidur/amounts/MutableInteger;Z)V"), (6, .long 4294967295), (1, .methodref 14 96), (0, .nameAndType 97 98), (0, u "multiplyHigh"), (0, u "(JJ)J"), (36, u "(Lcom/example/krofusmidur/krofusmidur/amounts/MutableInteger;)V"), (0, .methodref 8 137), (0, .nameAndType 138 139), (0, u "compareMagnitude"), (0, u "(Lcom/example/krofusmidur/krofusmidur/amounts/MutableInteger;)I"), (0, .methodref 8 141), (0, .nameAndType 142 143), (0, u "setMagnitudeToDifference"), (0, u "(Lcom/example/krofusmidur/krofusmidur/amounts/MutableInteger;Lcom/example/krofusmidur/krofusmidur/amounts/MutableInteger;)V"), (3, .methodref 8 148), (0, .nameAndType 149 150), (0, u "digit"), (0, u "(Lcom/example/krofusmidur/krofusmidur/amounts/MutableInteger;I)J"), (0, .methodref 53 152), (0, .nameAndType 64 57), (6, u "DIGIT_MASK"), (0, u "J"), (3, u "set"), (0, u "(J)V"), (3, u "subtract"), (0, u "multiply")] 25

def k2c0 : Code := { maxStack := 2, maxLocals := 1, code := prog_35_method_1_code, exceptionTable := #[], attributes := #[] }
def k2m0 : Method := { name := "<init>", desc := "()V", sig := { parameters := [], returnType := none }, accessFlags := 0, code := some k2c0 }
def k2c1 : Code := { maxStack := 5, maxLocals := 5, code := prog_35_method_2_code, exceptionTable := #[], attributes := #[] }
def k2m1 : Method := { name := "set", desc := "(J)V", sig := { parameters := [.long], returnType := none }, accessFlags := 0, code := some k2c1 }
def k2c2 : Code := { maxStack := 5, maxLocals := 2, code := prog_35_method_3_code, exceptionTable := #[], attributes := #[] }
def k2m2 : Method := { name := "set", desc := "(Lcom/example/krofusmidur/krofusmidur/amounts/MutableInteger;)V", sig := { parameters := [(.object "com/example/krofusmidur/krofusmidur/amounts/MutableInteger")], returnType := none }, accessFlags := 0, code := some k2c2 }
def k2c3 : Code := { maxStack := 1, maxLocals := 1, code := prog_35_method_4_code, exceptionTable := #[], attributes := #[] }
def k2m3 : Method := { name := "signum", desc := "()I", sig := { parameters := [], returnType := some .int }, accessFlags := 0, code := some k2c3 }
def k2c4 : Code := { maxStack := 3, maxLocals := 2, code := prog_35_method_8_code, exceptionTable := #[], attributes := #[] }
def k2m4 : Method := { name := "subtract", desc := "(Lcom/example/krofusmidur/krofusmidur/amounts/MutableInteger;)V", sig := { parameters := [(.object "com/example/krofusmidur/krofusmidur/amounts/MutableInteger")], returnType := none }, accessFlags := 0, code := some k2c4 }
def k2c5 : Code := { maxStack := 5, maxLocals := 12, code := prog_35_method_9_code, exceptionTable := #[], attributes := #[] }
def k2m5 : Method := { name := "multiply", desc := "(J)V", sig := { parameters := [.long], returnType := none }, accessFlags := 0, code := some k2c5 }
def k2c6 : Code := { maxStack := 3, maxLocals := 3, code := prog_35_method_12_code, exceptionTable := #[], attributes := #[] }
def k2m6 : Method := { name := "add", desc := "(Lcom/example/krofusmidur/krofusmidur/amounts/MutableInteger;Z)V", sig := { parameters := [(.object "com/example/krofusmidur/krofusmidur/amounts/MutableInteger"), .boolean], returnType := none }, accessFlags := 2, code := some k2c6 }
def k2c7 : Code := { maxStack := 4, maxLocals := 9, code := prog_35_method_14_code, exceptionTable := #[], attributes := #[] }
def k2m7 : Method := { name := "setMagnitudeToDifference", desc := "(Lcom/example/krofusmidur/krofusmidur/amounts/MutableInteger;Lcom/example/krofusmidur/krofusmidur/amounts/MutableInteger;)V", sig := { parameters := [(.object "com/example/krofusmidur/krofusmidur/amounts/MutableInteger"), (.object "com/example/krofusmidur/krofusmidur/amounts/MutableInteger")], returnType := none }, accessFlags := 2, code := some k2c7 }
def k2c8 : Code := { maxStack := 3, maxLocals := 4, code := prog_35_method_15_code, exceptionTable := #[], attributes := #[] }
def k2m8 : Method := { name := "compareMagnitude", desc := "(Lcom/example/krofusmidur/krofusmidur/amounts/MutableInteger;)I", sig := { parameters := [(.object "com/example/krofusmidur/krofusmidur/amounts/MutableInteger")], returnType := some .int }, accessFlags := 2, code := some k2c8 }
def k2c9 : Code := { maxStack := 4, maxLocals := 2, code := prog_35_method_17_code, exceptionTable := #[], attributes := #[] }
def k2m9 : Method := { name := "digit", desc := "(Lcom/example/krofusmidur/krofusmidur/amounts/MutableInteger;I)J", sig := { parameters := [(.object "com/example/krofusmidur/krofusmidur/amounts/MutableInteger"), .int], returnType := some .long }, accessFlags := 10, code := some k2c9 }
def k2c10 : Code := { maxStack := 5, maxLocals := 2, code := prog_35_method_18_code, exceptionTable := #[], attributes := #[] }
def k2m10 : Method := { name := "ensureCapacity", desc := "(I)V", sig := { parameters := [.int], returnType := none }, accessFlags := 2, code := some k2c10 }
def k2c11 : Code := { maxStack := 3, maxLocals := 3, code := prog_35_method_19_code, exceptionTable := #[], attributes := #[] }
def k2m11 : Method := { name := "clearFrom", desc := "(I)V", sig := { parameters := [.int], returnType := none }, accessFlags := 2, code := some k2c11 }
def k2c12 : Code := { maxStack := 3, maxLocals := 3, code := prog_35_method_20_code, exceptionTable := #[], attributes := #[] }
def k2m12 : Method := { name := "trim", desc := "()V", sig := { parameters := [], returnType := none }, accessFlags := 2, code := some k2c12 }
/-- com/example/krofusmidur/krofusmidur/amounts/MutableInteger -/
def k2 : Class := { plain "com/example/krofusmidur/krofusmidur/amounts/MutableInteger" (some 0) with
  accessFlags := 48
  interfaces := #[]
  cf := some (fileOf pool2 8 #[] #[{ accessFlags := 0, nameIndex := 5, descriptorIndex := 6, attributes := #[] }, { accessFlags := 0, nameIndex := 164, descriptorIndex := 165, attributes := #[] }, { accessFlags := 0, nameIndex := 164, descriptorIndex := 135, attributes := #[] }, { accessFlags := 0, nameIndex := 45, descriptorIndex := 46, attributes := #[] }, { accessFlags := 0, nameIndex := 169, descriptorIndex := 135, attributes := #[] }, { accessFlags := 0, nameIndex := 170, descriptorIndex := 165, attributes := #[] }, { accessFlags := 2, nameIndex := 85, descriptorIndex := 86, attributes := #[] }, { accessFlags := 2, nameIndex := 142, descriptorIndex := 143, attributes := #[] }, { accessFlags := 2, nameIndex := 138, descriptorIndex := 139, attributes := #[] }, { accessFlags := 10, nameIndex := 149, descriptorIndex := 150, attributes := #[] }, { accessFlags := 2, nameIndex := 36, descriptorIndex := 22, attributes := #[] }, { accessFlags := 2, nameIndex := 21, descriptorIndex := 22, attributes := #[] }, { accessFlags := 2, nameIndex := 33, descriptorIndex := 6, attributes := #[] }] 48 2 #[] #[{ accessFlags := 26, nameIndex := 159, descriptorIndex := 160, attributes := #[] }, { accessFlags := 2, nameIndex := 11, descriptorIndex := 12, attributes := #[] }, { accessFlags := 2, nameIndex := 25, descriptorIndex := 26, attributes := #[] }, { accessFlags := 2, nameIndex := 29, descriptorIndex := 30, attributes := #[] }])
  fields := #[{ name := "DIGIT_MASK", type := .long, accessFlags := 26, slot := 0, constantValue := 0 }, { name := "digits", type := (.array .int), accessFlags := 2, slot := 0, constantValue := 0 }, { name := "length", type := .int, accessFlags := 2, slot := 1, constantValue := 0 }, { name := "negative", type := .boolean, accessFlags := 2, slot := 2, constantValue := 0 }]
  methods := #[k2m0, k2m1, k2m2, k2m3, k2m4, k2m5, k2m6, k2m7, k2m8, k2m9, k2m10, k2m11, k2m12]
  instanceTypes := #[(.array .int), .int, .boolean]
  staticTypes := #[.long]
  resolved := Array.replicate 196 none
  statics := none }

def pool3 : Array CpInfo := pool [(1, .class_ 2), (0, u "java/lang/Math"), (1, .class_ 6), (1, u "java/lang/Object"), (0, u "<init>"), (0, u "()V"), (89, .class_ 100), (1, u "java/lang/Math$RandomNumberGeneratorHolder"), (20, u "(JJ)J"), (2, u "abs"), (0, u "(J)J"), (12, .long 4294967295), (3, u "multiplyHigh"), (29, u "negativeZeroFloatBits"), (0, u "J"), (2, u "negativeZeroDoubleBits"), (68, u "$assertionsDisabled"), (0, u "Z"), (91, u "twoToTheDoubleScaleDown"), (0, u "D"), (4, u "twoToTheDoubleScaleUp"), (9, u "E"), (3, u "PI"), (2, u "TAU"), (2, u "DEGREES_TO_RADIANS"), (0, u "RADIANS_TO_DEGREES")] 94

def k3m0 : Method := { name := "<init>", desc := "()V", sig := { parameters := [], returnType := none }, accessFlags := 2, code := none }
def k3c1 : Code := { maxStack := 6, maxLocals := 20, code := jdk_29_method_45_code, exceptionTable := #[], attributes := #[] }
def k3m1 : Method := { name := "multiplyHigh", desc := "(JJ)J", sig := { parameters := [.long, .long], returnType := some .long }, accessFlags := 9, code := some k3c1 }
def k3c2 : Code := { maxStack := 4, maxLocals := 2, code := jdk_29_method_61_code, exceptionTable := #[], attributes := #[] }
def k3m2 : Method := { name := "abs", desc := "(J)J", sig := { parameters := [.long], returnType := some .long }, accessFlags := 9, code := some k3c2 }
/-- java/lang/Math -/
def k3 : Class := { plain "java/lang/Math" (some 0) with
  accessFlags := 49
  interfaces := #[]
  cf := some (fileOf pool3 1 #[.nestMembers #[98]] #[{ accessFlags := 2, nameIndex := 7, descriptorIndex := 8, attributes := #[] }, { accessFlags := 9, nameIndex := 142, descriptorIndex := 121, attributes := #[] }, { accessFlags := 9, nameIndex := 124, descriptorIndex := 125, attributes := #[] }] 49 4 #[] #[{ accessFlags := 25, nameIndex := 354, descriptorIndex := 339, attributes := #[] }, { accessFlags := 25, nameIndex := 358, descriptorIndex := 339, attributes := #[] }, { accessFlags := 25, nameIndex := 361, descriptorIndex := 339, attributes := #[] }, { accessFlags := 26, nameIndex := 364, descriptorIndex := 339, attributes := #[] }, { accessFlags := 26, nameIndex := 365, descriptorIndex := 339, attributes := #[] }, { accessFlags := 26, nameIndex := 172, descriptorIndex := 173, attributes := #[] }, { accessFlags := 26, nameIndex := 176, descriptorIndex := 173, attributes := #[] }, { accessFlags := 8, nameIndex := 344, descriptorIndex := 339, attributes := #[] }, { accessFlags := 8, nameIndex := 338, descriptorIndex := 339, attributes := #[] }, { accessFlags := 4120, nameIndex := 245, descriptorIndex := 246, attributes := #[] }])
  fields := #[{ name := "E", type := .double, accessFlags := 25, slot := 0, constantValue := 0 }, { name := "PI", type := .double, accessFlags := 25, slot := 1, constantValue := 0 }, { name := "TAU", type := .double, accessFlags := 25, slot := 2, constantValue := 0 }, { name := "DEGREES_TO_RADIANS", type := .double, accessFlags := 26, slot := 3, constantValue := 0 }, { name := "RADIANS_TO_DEGREES", type := .double, accessFlags := 26, slot := 4, constantValue := 0 }, { name := "negativeZeroFloatBits", type := .long, accessFlags := 26, slot := 5, constantValue := 0 }, { name := "negativeZeroDoubleBits", type := .long, accessFlags := 26, slot := 6, constantValue := 0 }, { name := "twoToTheDoubleScaleUp", type := .double, accessFlags := 8, slot := 7, constantValue := 0 }, { name := "twoToTheDoubleScaleDown", type := .double, accessFlags := 8, slot := 8, constantValue := 0 }, { name := "$assertionsDisabled", type := .boolean, accessFlags := 4120, slot := 9, constantValue := 0 }]
  methods := #[k3m0, k3m1, k3m2]
  instanceTypes := #[]
  staticTypes := #[.double, .double, .double, .double, .double, .long, .long, .double, .double, .boolean]
  resolved := Array.replicate 460 none
  statics := none }

def pool4 : Array CpInfo := pool [(2, .class_ 4), (1, u "java/lang/Object"), (0, u "<init>"), (0, u "()V"), (1, .class_ 10), (1, u "java/lang/System"), (0, u "allowSecurityManager"), (0, u "I"), (16, u "cons"), (0, u "Ljava/io/Console;"), (77, .class_ 110), (1, u "java/lang/System$CallersHolder"), (43, u "initialErrStream"), (0, u "Ljava/io/PrintStream;"), (19, u "security"), (0, u "Ljava/lang/SecurityManager;"), (31, .class_ 209), (0, u "java/lang/System$1"), (7, u "props"), (0, u "Ljava/util/Properties;"), (2, u "lineSeparator"), (0, u "Ljava/lang/String;"), (96, .class_ 321), (1, u "java/lang/System$LoggerFinder"), (5, .class_ 328), (0, u "java/lang/System$Logger"), (67, u "err"), (2, u "out"), (91, u "notSupportedJnuEncoding"), (15, u "in"), (17, u "initialIn"), (0, u "Ljava/io/InputStream;"), (35, u "bootLayer"), (0, u "Ljava/lang/ModuleLayer;"), (99, .class_ 664), (0, u "java/lang/System$2"), (9, u "NEVER"), (2, u "MAYBE"), (49, u "arraycopy"), (0, u "(Ljava/lang/Object;ILjava/lang/Object;II)V"), (72, .class_ 802), (0, u "java/lang/System$Logger$Level")] 31

def k4m0 : Method := { name := "<init>", desc := "()V", sig := { parameters := [], returnType := none }, accessFlags := 2, code := none }
def k4m1 : Method := { name := "arraycopy", desc := "(Ljava/lang/Object;ILjava/lang/Object;II)V", sig := { parameters := [(.object "java/lang/Object"), .int, (.object "java/lang/Object"), .int, .int], returnType := none }, accessFlags := 265, code := none }
/-- java/lang/System -/
def k4 : Class := { plain "java/lang/System" (some 0) with
  accessFlags := 49
  interfaces := #[]
  cf := some (fileOf pool4 8 #[.nestMembers #[319, 327, 801, 108, 663, 208]] #[{ accessFlags := 2, nameIndex := 5, descriptorIndex := 6, attributes := #[] }, { accessFlags := 265, nameIndex := 727, descriptorIndex := 728, attributes := #[] }] 49 2 #[] #[{ accessFlags := 25, nameIndex := 507, descriptorIndex := 526, attributes := #[] }, { accessFlags := 25, nameIndex := 399, descriptorIndex := 155, attributes := #[] }, { accessFlags := 25, nameIndex := 396, descriptorIndex := 155, attributes := #[] }, { accessFlags := 10, nameIndex := 525, descriptorIndex := 526, attributes := #[] }, { accessFlags := 26, nameIndex := 674, descriptorIndex := 12, attributes := #[] }, { accessFlags := 26, nameIndex := 677, descriptorIndex := 12, attributes := #[] }, { accessFlags := 10, nameIndex := 11, descriptorIndex := 12, attributes := #[] }, { accessFlags := 74, nameIndex := 175, descriptorIndex := 176, attributes := #[] }, { accessFlags := 10, nameIndex := 491, descriptorIndex := 222, attributes := #[] }, { accessFlags := 74, nameIndex := 29, descriptorIndex := 30, attributes := #[] }, { accessFlags := 74, nameIndex := 154, descriptorIndex := 155, attributes := #[] }, { accessFlags := 10, nameIndex := 217, descriptorIndex := 218, attributes := #[] }, { accessFlags := 10, nameIndex := 221, descriptorIndex := 222, attributes := #[] }, { accessFlags := 8, nameIndex := 562, descriptorIndex := 563, attributes := #[] }])
  fields := #[{ name := "in", type := (.object "java/io/InputStream"), accessFlags := 25, slot := 0, constantValue := 0 }, { name := "out", type := (.object "java/io/PrintStream"), accessFlags := 25, slot := 1, constantValue := 0 }, { name := "err", type := (.object "java/io/PrintStream"), accessFlags := 25, slot := 2, constantValue := 0 }, { name := "initialIn", type := (.object "java/io/InputStream"), accessFlags := 10, slot := 3, constantValue := 0 }, { name := "NEVER", type := .int, accessFlags := 26, slot := 4, constantValue := 0 }, { name := "MAYBE", type := .int, accessFlags := 26, slot := 5, constantValue := 0 }, { name := "allowSecurityManager", type := .int, accessFlags := 10, slot := 6, constantValue := 0 }, { name := "security", type := (.object "java/lang/SecurityManager"), accessFlags := 74, slot := 7, constantValue := 0 }, { name := "notSupportedJnuEncoding", type := (.object "java/lang/String"), accessFlags := 10, slot := 8, constantValue := 0 }, { name := "cons", type := (.object "java/io/Console"), accessFlags := 74, slot := 9, constantValue := 0 }, { name := "initialErrStream", type := (.object "java/io/PrintStream"), accessFlags := 74, slot := 10, constantValue := 0 }, { name := "props", type := (.object "java/util/Properties"), accessFlags := 10, slot := 11, constantValue := 0 }, { name := "lineSeparator", type := (.object "java/lang/String"), accessFlags := 10, slot := 12, constantValue := 0 }, { name := "bootLayer", type := (.object "java/lang/ModuleLayer"), accessFlags := 8, slot := 13, constantValue := 0 }]
  methods := #[k4m0, k4m1]
  instanceTypes := #[]
  staticTypes := #[(.object "java/io/InputStream"), (.object "java/io/PrintStream"), (.object "java/io/PrintStream"), (.object "java/io/InputStream"), .int, .int, .int, (.object "java/lang/SecurityManager"), (.object "java/lang/String"), (.object "java/io/Console"), (.object "java/io/PrintStream"), (.object "java/util/Properties"), (.object "java/lang/String"), (.object "java/lang/ModuleLayer")]
  resolved := Array.replicate 834 none
  statics := none }

def pool5 : Array CpInfo := pool [(1, .class_ 2), (0, u "java/io/Serializable"), (0, .class_ 4), (0, u "java/lang/Object")] 2

/-- java/io/Serializable -/
def k5 : Class := { plain "java/io/Serializable" (some 0) with
  accessFlags := 1537
  interfaces := #[]
  cf := some (fileOf pool5 1 #[] #[] 1537 3 #[] #[])
  fields := #[]
  methods := #[]
  instanceTypes := #[]
  staticTypes := #[]
  resolved := Array.replicate 7 none
  statics := none }

def pool6 : Array CpInfo := pool [(2, .class_ 4), (1, u "java/lang/Object"), (0, u "<init>"), (0, u "()V"), (1, .class_ 10), (1, u "java/lang/Number"), (2, .class_ 14), (0, u "java/io/Serializable"), (0, u "serialVersionUID"), (0, u "J")] 20

def k6m0 : Method := { name := "<init>", desc := "()V", sig := { parameters := [], returnType := none }, accessFlags := 1, code := none }
/-- java/lang/Number -/
def k6 : Class := { plain "java/lang/Number" (some 0) with
  accessFlags := 1057
  interfaces := #[5]
  cf := some (fileOf pool6 8 #[] #[{ accessFlags := 1, nameIndex := 5, descriptorIndex := 6, attributes := #[] }] 1057 2 #[13] #[{ accessFlags := 26, nameIndex := 15, descriptorIndex := 16, attributes := #[] }])
  fields := #[{ name := "serialVersionUID", type := .long, accessFlags := 26, slot := 0, constantValue := 0 }]
  methods := #[k6m0]
  instanceTypes := #[]
  staticTypes := #[.long]
  resolved := Array.replicate 37 none
  statics := none }

def pool7 : Array CpInfo := pool [(1, .class_ 2), (0, u "java/lang/Comparable"), (0, .class_ 4), (0, u "java/lang/Object")] 7

/-- java/lang/Comparable -/
def k7 : Class := { plain "java/lang/Comparable" (some 0) with
  accessFlags := 1537
  interfaces := #[]
  cf := some (fileOf pool7 1 #[] #[] 1537 3 #[] #[])
  fields := #[]
  methods := #[]
  instanceTypes := #[]
  staticTypes := #[]
  resolved := Array.replicate 12 none
  statics := none }

def pool8 : Array CpInfo := pool [(1, .class_ 2), (0, u "java/lang/constant/Constable"), (0, .class_ 4), (0, u "java/lang/Object")] 6

/-- java/lang/constant/Constable -/
def k8 : Class := { plain "java/lang/constant/Constable" (some 0) with
  accessFlags := 1537
  interfaces := #[]
  cf := some (fileOf pool8 1 #[] #[] 1537 3 #[] #[])
  fields := #[]
  methods := #[]
  instanceTypes := #[]
  staticTypes := #[]
  resolved := Array.replicate 11 none
  statics := none }

def pool9 : Array CpInfo := pool [(1, .class_ 2), (0, u "java/lang/constant/ConstantDesc"), (0, .class_ 4), (0, u "java/lang/Object")] 32

/-- java/lang/constant/ConstantDesc -/
def k9 : Class := { plain "java/lang/constant/ConstantDesc" (some 0) with
  accessFlags := 1537
  interfaces := #[]
  cf := some (fileOf pool9 1 #[] #[] 1537 3 #[] #[])
  fields := #[]
  methods := #[]
  instanceTypes := #[]
  staticTypes := #[]
  resolved := Array.replicate 37 none
  statics := none }

def pool10 : Array CpInfo := pool [(1, .class_ 2), (0, u "java/lang/Integer"), (16, u "digits"), (0, u "[C"), (39, u "(II)I"), (24, u "DigitOnes"), (0, u "[B"), (2, u "DigitTens"), (37, .integer 2147483648), (61, .class_ 190), (0, u "java/lang/Integer$IntegerCache"), (3, u "I"), (8, .class_ 204), (0, u "java/lang/Number"), (2, u "value"), (51, .methodref 1 260), (0, .nameAndType 261 60), (0, u "compare"), (40, u "TYPE"), (0, u "Ljava/lang/Class;"), (0, .class_ 305), (0, u "java/lang/Comparable"), (0, .class_ 307), (0, u "java/lang/constant/Constable"), (0, .class_ 309), (0, u "java/lang/constant/ConstantDesc"), (0, u "MIN_VALUE"), (1, u "MAX_VALUE"), (3, u "SIZE"), (1, u "BYTES"), (1, u "serialVersionUID"), (0, u "J"), (76, u "compareUnsigned")] 54

def k10c0 : Code := { maxStack := 2, maxLocals := 2, code := jdk_33_method_40_code, exceptionTable := #[], attributes := #[] }
def k10m0 : Method := { name := "compare", desc := "(II)I", sig := { parameters := [.int, .int], returnType := some .int }, accessFlags := 9, code := some k10c0 }
def k10c1 : Code := { maxStack := 3, maxLocals := 2, code := jdk_33_method_41_code, exceptionTable := #[], attributes := #[] }
def k10m1 : Method := { name := "compareUnsigned", desc := "(II)I", sig := { parameters := [.int, .int], returnType := some .int }, accessFlags := 9, code := some k10c1 }
/-- java/lang/Integer -/
def k10 : Class := { plain "java/lang/Integer" (some 6) with
  accessFlags := 49
  interfaces := #[7, 8, 9]
  cf := some (fileOf pool10 1 #[.nestMembers #[189]] #[{ accessFlags := 9, nameIndex := 261, descriptorIndex := 60, attributes := #[] }, { accessFlags := 9, nameIndex := 398, descriptorIndex := 60, attributes := #[] }] 49 203 #[304, 306, 308] #[{ accessFlags := 25, nameIndex := 310, descriptorIndex := 194, attributes := #[] }, { accessFlags := 25, nameIndex := 312, descriptorIndex := 194, attributes := #[] }, { accessFlags := 25, nameIndex := 302, descriptorIndex := 303, attributes := #[] }, { accessFlags := 24, nameIndex := 19, descriptorIndex := 20, attributes := #[] }, { accessFlags := 24, nameIndex := 89, descriptorIndex := 86, attributes := #[] }, { accessFlags := 24, nameIndex := 85, descriptorIndex := 86, attributes := #[] }, { accessFlags := 18, nameIndex := 207, descriptorIndex := 194, attributes := #[] }, { accessFlags := 25, nameIndex := 316, descriptorIndex := 194, attributes := #[] }, { accessFlags := 25, nameIndex := 318, descriptorIndex := 194, attributes := #[] }, { accessFlags := 26, nameIndex := 320, descriptorIndex := 321, attributes := #[] }])
  fields := #[{ name := "MIN_VALUE", type := .int, accessFlags := 25, slot := 0, constantValue := 0 }, { name := "MAX_VALUE", type := .int, accessFlags := 25, slot := 1, constantValue := 0 }, { name := "TYPE", type := (.object "java/lang/Class"), accessFlags := 25, slot := 2, constantValue := 0 }, { name := "digits", type := (.array .char), accessFlags := 24, slot := 3, constantValue := 0 }, { name := "DigitTens", type := (.array .byte), accessFlags := 24, slot := 4, constantValue := 0 }, { name := "DigitOnes", type := (.array .byte), accessFlags := 24, slot := 5, constantValue := 0 }, { name := "value", type := .int, accessFlags := 18, slot := 0, constantValue := 0 }, { name := "SIZE", type := .int, accessFlags := 25, slot := 6, constantValue := 0 }, { name := "BYTES", type := .int, accessFlags := 25, slot := 7, constantValue := 0 }, { name := "serialVersionUID", type := .long, accessFlags := 26, slot := 8, constantValue := 0 }]
  methods := #[k10m0, k10m1]
  instanceTypes := #[.int]
  staticTypes := #[.int, .int, (.object "java/lang/Class"), (.array .char), (.array .byte), (.array .byte), .int, .int, .long]
  resolved := Array.replicate 453 none
  statics := none }

def pool11 : Array CpInfo := pool [(1, .class_ 2), (0, u "java/lang/Long"), (165, .long 9223372036854775808), (66, .class_ 237), (1, u "java/lang/Long$LongCache"), (33, .class_ 272), (0, u "java/lang/Number"), (2, u "value"), (0, u "J"), (25, .methodref 1 303), (0, .nameAndType 304 305), (0, u "compare"), (0, u "(JJ)I"), (55, u "TYPE"), (0, u "Ljava/lang/Class;"), (0, .class_ 364), (0, u "java/lang/Comparable"), (0, .class_ 366), (0, u "java/lang/constant/Constable"), (0, .class_ 368), (0, u "java/lang/constant/ConstantDesc"), (0, u "MIN_VALUE"), (1, u "MAX_VALUE"), (4, u "SIZE"), (0, u "I"), (1, u "BYTES"), (1, u "serialVersionUID"), (87, u "compareUnsigned")] 54

def k11c0 : Code := { maxStack := 4, maxLocals := 4, code := jdk_35_method_42_code, exceptionTable := #[], attributes := #[] }
def k11m0 : Method := { name := "compare", desc := "(JJ)I", sig := { parameters := [.long, .long], returnType := some .int }, accessFlags := 9, code := some k11c0 }
def k11c1 : Code := { maxStack := 6, maxLocals := 4, code := jdk_35_method_43_code, exceptionTable := #[], attributes := #[] }
def k11m1 : Method := { name := "compareUnsigned", desc := "(JJ)I", sig := { parameters := [.long, .long], returnType := some .int }, accessFlags := 9, code := some k11c1 }
/-- java/lang/Long -/
def k11 : Class := { plain "java/lang/Long" (some 6) with
  accessFlags := 49
  interfaces := #[7, 8, 9]
  cf := some (fileOf pool11 1 #[.nestMembers #[235]] #[{ accessFlags := 9, nameIndex := 304, descriptorIndex := 305, attributes := #[] }, { accessFlags := 9, nameIndex := 469, descriptorIndex := 305, attributes := #[] }] 49 271 #[363, 365, 367] #[{ accessFlags := 25, nameIndex := 369, descriptorIndex := 276, attributes := #[] }, { accessFlags := 25, nameIndex := 371, descriptorIndex := 276, attributes := #[] }, { accessFlags := 25, nameIndex := 361, descriptorIndex := 362, attributes := #[] }, { accessFlags := 18, nameIndex := 275, descriptorIndex := 276, attributes := #[] }, { accessFlags := 25, nameIndex := 376, descriptorIndex := 377, attributes := #[] }, { accessFlags := 25, nameIndex := 379, descriptorIndex := 377, attributes := #[] }, { accessFlags := 26, nameIndex := 381, descriptorIndex := 276, attributes := #[] }])
  fields := #[{ name := "MIN_VALUE", type := .long, accessFlags := 25, slot := 0, constantValue := 0 }, { name := "MAX_VALUE", type := .long, accessFlags := 25, slot := 1, constantValue := 0 }, { name := "TYPE", type := (.object "java/lang/Class"), accessFlags := 25, slot := 2, constantValue := 0 }, { name := "value", type := .long, accessFlags := 18, slot := 0, constantValue := 0 }, { name := "SIZE", type := .int, accessFlags := 25, slot := 3, constantValue := 0 }, { name := "BYTES", type := .int, accessFlags := 25, slot := 4, constantValue := 0 }, { name := "serialVersionUID", type := .long, accessFlags := 26, slot := 5, constantValue := 0 }]
  methods := #[k11m0, k11m1]
  instanceTypes := #[.long]
  staticTypes := #[.long, .long, (.object "java/lang/Class"), .int, .int, .long]
  resolved := Array.replicate 524 none
  statics := none }

def pool12 : Array CpInfo := pool [(1, u "java/lang/Cloneable"), (0, .class_ 1), (0, u "java/lang/Object"), (0, .class_ 3)] 3

/-- java/lang/Cloneable -/
def k12 : Class := { plain "java/lang/Cloneable" (some 0) with
  accessFlags := 1537
  interfaces := #[]
  cf := some (fileOf pool12 2 #[] #[] 1537 4 #[] #[])
  fields := #[]
  methods := #[]
  instanceTypes := #[]
  staticTypes := #[]
  resolved := Array.replicate 8 none
  statics := none }

/-- the primitive byte -/
def k13 : Class := { plain "byte" none with kind := .primitive 'B', accessFlags := 0x411 }
/-- [B -/
def k14 : Class := { plain "[B" (some 0) with kind := .array 13 .byte, interfaces := #[12, 5], accessFlags := 1041 }

/-- the primitive int -/
def k15 : Class := { plain "int" none with kind := .primitive 'I', accessFlags := 0x411 }
/-- [I -/
def k16 : Class := { plain "[I" (some 0) with kind := .array 15 .int, interfaces := #[12, 5], accessFlags := 1041 }

def heap : Heap := #[]
def classes : Array Class := #[k0, k1, k2, k3, k4, k5, k6, k7, k8, k9, k10, k11, k12, k13, k14, k15, k16]
def interned : List (Array UInt16 × Addr) := []
def slotsUsed : Nat := 0
def theMethod : MethodId := ⟨1, 2⟩
def args0 : Array Value := #[.long 5, .long 6]
def aboutOver (below : List Frame) : State where
  vm := { classes := classes, interned := interned.toArray }
  heap := heap
  slotsUsed := slotsUsed
  threads := #[{ frames := .invoking theMethod args0 :: below }]
def below0 : List Frame := [.native { method := ⟨0, 0⟩, args := #[] }]
def about1 : State := aboutOver below0
def p0 : Program := .bare "" "" ""
def e0 : Env := launch0.env 0 0 0
theorem w_frames : about1.frames = Frame.invoking theMethod args0 :: below0 := rfl
set_option maxRecDepth 65536 in
theorem w_args : argsFit about1.vm theMethod args0 = true := by decide +kernel
set_option maxRecDepth 65536 in
theorem w_heap : heapFits about1 = true := by decide +kernel
set_option maxRecDepth 65536 in
theorem w_runnable : about1.curStatus? = some .runnable := by decide +kernel
set_option maxRecDepth 65536 in
theorem w_alone : about1.alone = true := by decide +kernel
set_option maxRecDepth 65536 in
theorem w_named : about1.methodNamed? x = some theMethod := by decide +kernel
set_option maxRecDepth 65536 in
theorem w_hears : about1.hears theMethod below0 = true := by decide +kernel
set_option maxRecDepth 65536 in
theorem w_ripe : about1.ripe theMethod args0 below0 = true := by decide +kernel
theorem w_running : about1.status = .running := rfl
set_option maxRecDepth 65536 in
theorem w_room : about1.hasRoom e0.platform room_1 = true :=
  launch0.hasRoom_least _ room_1 (by decide +kernel) (by decide +kernel) (by decide +kernel) (by decide +kernel) (by decide +kernel) (by decide +kernel)
theorem allAtoms_all (ts : List Jvm.Cond) (a : Array Jvm.Value) (st : Jvm.State) : (allAtoms ts).before a st = ts.all (fun c => c.before a st) := by
  induction ts with
  | nil => rfl
  | cons c t ih =>
    show (Jvm.Cond.and c (allAtoms t)).before a st = _
    rw [Jvm.Cond.before_and, ih, List.all_cons]
def words1 : List Jvm.Cond := Jvm.Cond.code x code maxLocals ret :: tables_1
/-- a 'code' word, met by the world's own term for the bytes: nothing is compared byte by byte -/
theorem code_word {y : MethodName} {bytes : ByteArray} {mx : Nat} {rt : Option FieldType} {a : Array Value} {s : State} {m : MethodId} {meth : Method} {c : Code} (h1 : s.methodNamed? y = some m) (h2 : s.vm.method? m = some meth) (h3 : meth.code = some c) (h4 : c.code = bytes)
    (h5 : (c.maxLocals == mx && c.exceptionTable.isEmpty && decide (c.maxStack ≤ mostOperands) && decide (meth.sig.returnType = rt) && !meth.locks && decide (parseMethodDescriptor y.desc = some meth.sig)) = true) : (Jvm.Cond.code y bytes mx rt).before a s = true := by
  simp only [Bool.and_eq_true, beq_iff_eq, Bool.not_eq_true', decide_eq_true_eq] at h5
  obtain ⟨⟨⟨⟨⟨g1, g2⟩, g3⟩, g4⟩, g5⟩, g6⟩ := h5
  simp [Cond.before, Cond.holds, Cond.value, h1, h2, h3, h4, g1, g2, g3, g4, g5, g6]
def isCode : Jvm.Cond → Bool
  | .code _ _ _ _ => true
  | _ => false
theorem all_split {L : List Jvm.Cond} {P : Jvm.Cond → Bool} (h1 : L.all (fun c => isCode c || P c) = true) (h2 : ∀ c ∈ L.filter isCode, P c = true) : L.all P = true := by
  refine List.all_eq_true.mpr fun c hc => ?_
  have h := List.all_eq_true.mp h1 c hc
  rcases Bool.eq_false_or_eq_true (isCode c) with hi | hi
  · exact h2 c (List.mem_filter.mpr ⟨hc, hi⟩)
  · simpa [hi] using h
set_option maxRecDepth 65536 in
theorem w_c0 : (Jvm.Cond.code x code maxLocals ret).before args0 about1 = true := code_word (m := ⟨1, 2⟩) (meth := k1m2) (c := k1c2) (by decide +kernel) rfl rfl rfl (by decide +kernel)
set_option maxRecDepth 65536 in
theorem w_c1 : (Jvm.Cond.code ({ cls := "com/example/krofusmidur/krofusmidur/amounts/MutableInteger", name := "<init>", desc := "()V" } : Jvm.MethodName) prog_35_method_1_code (1 : Nat) (Option.none : Option Jvm.ClassFile.FieldType)).before args0 about1 = true := code_word (m := ⟨2, 0⟩) (meth := k2m0) (c := k2c0) (by decide +kernel) rfl rfl rfl (by decide +kernel)
set_option maxRecDepth 65536 in
theorem w_c2 : (Jvm.Cond.code ({ cls := "java/lang/Object", name := "<init>", desc := "()V" } : Jvm.MethodName) object_method_1_code (1 : Nat) (Option.none : Option Jvm.ClassFile.FieldType)).before args0 about1 = true := code_word (m := ⟨0, 0⟩) (meth := k0m0) (c := k0c0) (by decide +kernel) rfl rfl rfl (by decide +kernel)
set_option maxRecDepth 65536 in
theorem w_c3 : (Jvm.Cond.code ({ cls := "com/example/krofusmidur/krofusmidur/amounts/MutableInteger", name := "set", desc := "(J)V" } : Jvm.MethodName) prog_35_method_2_code (5 : Nat) (Option.none : Option Jvm.ClassFile.FieldType)).before args0 about1 = true := code_word (m := ⟨2, 1⟩) (meth := k2m1) (c := k2c1) (by decide +kernel) rfl rfl rfl (by decide +kernel)
set_option maxRecDepth 65536 in
theorem w_c4 : (Jvm.Cond.code ({ cls := "java/lang/Math", name := "abs", desc := "(J)J" } : Jvm.MethodName) jdk_29_method_61_code (2 : Nat) (Option.some Jvm.ClassFile.FieldType.long)).before args0 about1 = true := code_word (m := ⟨3, 2⟩) (meth := k3m2) (c := k3c2) (by decide +kernel) rfl rfl rfl (by decide +kernel)
set_option maxRecDepth 65536 in
theorem w_c5 : (Jvm.Cond.code ({ cls := "com/example/krofusmidur/krofusmidur/amounts/MutableInteger", name := "clearFrom", desc := "(I)V" } : Jvm.MethodName) prog_35_method_19_code (3 : Nat) (Option.none : Option Jvm.ClassFile.FieldType)).before args0 about1 = true := code_word (m := ⟨2, 11⟩) (meth := k2m11) (c := k2c11) (by decide +kernel) rfl rfl rfl (by decide +kernel)
set_option maxRecDepth 65536 in
theorem w_c6 : (Jvm.Cond.code ({ cls := "com/example/krofusmidur/krofusmidur/amounts/MutableInteger", name := "trim", desc := "()V" } : Jvm.MethodName) prog_35_method_20_code (3 : Nat) (Option.none : Option Jvm.ClassFile.FieldType)).before args0 about1 = true := code_word (m := ⟨2, 12⟩) (meth := k2m12) (c := k2c12) (by decide +kernel) rfl rfl rfl (by decide +kernel)
set_option maxRecDepth 65536 in
theorem w_c7 : (Jvm.Cond.code ({ cls := "com/example/krofusmidur/krofusmidur/amounts/MutableInteger", name := "signum", desc := "()I" } : Jvm.MethodName) prog_35_method_4_code (1 : Nat) (Option.some Jvm.ClassFile.FieldType.int)).before args0 about1 = true := code_word (m := ⟨2, 3⟩) (meth := k2m3) (c := k2c3) (by decide +kernel) rfl rfl rfl (by decide +kernel)
set_option maxRecDepth 65536 in
theorem w_c8 : (Jvm.Cond.code ({ cls := "com/example/krofusmidur/krofusmidur/amounts/MutableIntegerSignumPinLaw", name := "sgn", desc := "(J)I" } : Jvm.MethodName) method_2_code (2 : Nat) (Option.some Jvm.ClassFile.FieldType.int)).before args0 about1 = true := code_word (m := ⟨1, 1⟩) (meth := k1m1) (c := k1c1) (by decide +kernel) rfl rfl rfl (by decide +kernel)
set_option maxRecDepth 65536 in
theorem w_c9 : (Jvm.Cond.code ({ cls := "com/example/krofusmidur/krofusmidur/amounts/MutableInteger", name := "multiply", desc := "(J)V" } : Jvm.MethodName) prog_35_method_9_code (12 : Nat) (Option.none : Option Jvm.ClassFile.FieldType)).before args0 about1 = true := code_word (m := ⟨2, 5⟩) (meth := k2m5) (c := k2c5) (by decide +kernel) rfl rfl rfl (by decide +kernel)
set_option maxRecDepth 65536 in
theorem w_c10 : (Jvm.Cond.code ({ cls := "com/example/krofusmidur/krofusmidur/amounts/MutableInteger", name := "ensureCapacity", desc := "(I)V" } : Jvm.MethodName) prog_35_method_18_code (2 : Nat) (Option.none : Option Jvm.ClassFile.FieldType)).before args0 about1 = true := code_word (m := ⟨2, 10⟩) (meth := k2m10) (c := k2c10) (by decide +kernel) rfl rfl rfl (by decide +kernel)
set_option maxRecDepth 65536 in
theorem w_c11 : (Jvm.Cond.code ({ cls := "com/example/krofusmidur/krofusmidur/amounts/MutableInteger", name := "set", desc := "(Lcom/example/krofusmidur/krofusmidur/amounts/MutableInteger;)V" } : Jvm.MethodName) prog_35_method_3_code (2 : Nat) (Option.none : Option Jvm.ClassFile.FieldType)).before args0 about1 = true := code_word (m := ⟨2, 2⟩) (meth := k2m2) (c := k2c2) (by decide +kernel) rfl rfl rfl (by decide +kernel)
set_option maxRecDepth 65536 in
theorem w_c12 : (Jvm.Cond.code ({ cls := "com/example/krofusmidur/krofusmidur/amounts/MutableInteger", name := "subtract", desc := "(Lcom/example/krofusmidur/krofusmidur/amounts/MutableInteger;)V" } : Jvm.MethodName) prog_35_method_8_code (2 : Nat) (Option.none : Option Jvm.ClassFile.FieldType)).before args0 about1 = true := code_word (m := ⟨2, 4⟩) (meth := k2m4) (c := k2c4) (by decide +kernel) rfl rfl rfl (by decide +kernel)
set_option maxRecDepth 65536 in
theorem w_c13 : (Jvm.Cond.code ({ cls := "com/example/krofusmidur/krofusmidur/amounts/MutableInteger", name := "add", desc := "(Lcom/example/krofusmidur/krofusmidur/amounts/MutableInteger;Z)V" } : Jvm.MethodName) prog_35_method_12_code (3 : Nat) (Option.none : Option Jvm.ClassFile.FieldType)).before args0 about1 = true := code_word (m := ⟨2, 6⟩) (meth := k2m6) (c := k2c6) (by decide +kernel) rfl rfl rfl (by decide +kernel)
set_option maxRecDepth 65536 in
theorem w_c14 : (Jvm.Cond.code ({ cls := "com/example/krofusmidur/krofusmidur/amounts/MutableInteger", name := "compareMagnitude", desc := "(Lcom/example/krofusmidur/krofusmidur/amounts/MutableInteger;)I" } : Jvm.MethodName) prog_35_method_15_code (4 : Nat) (Option.some Jvm.ClassFile.FieldType.int)).before args0 about1 = true := code_word (m := ⟨2, 8⟩) (meth := k2m8) (c := k2c8) (by decide +kernel) rfl rfl rfl (by decide +kernel)
set_option maxRecDepth 65536 in
theorem w_c15 : (Jvm.Cond.code ({ cls := "java/lang/Integer", name := "compare", desc := "(II)I" } : Jvm.MethodName) jdk_33_method_40_code (2 : Nat) (Option.some Jvm.ClassFile.FieldType.int)).before args0 about1 = true := code_word (m := ⟨10, 0⟩) (meth := k10m0) (c := k10c0) (by decide +kernel) rfl rfl rfl (by decide +kernel)
set_option maxRecDepth 65536 in
theorem w_c16 : (Jvm.Cond.code ({ cls := "java/lang/Integer", name := "compareUnsigned", desc := "(II)I" } : Jvm.MethodName) jdk_33_method_41_code (2 : Nat) (Option.some Jvm.ClassFile.FieldType.int)).before args0 about1 = true := code_word (m := ⟨10, 1⟩) (meth := k10m1) (c := k10c1) (by decide +kernel) rfl rfl rfl (by decide +kernel)
set_option maxRecDepth 65536 in
theorem w_c17 : (Jvm.Cond.code ({ cls := "com/example/krofusmidur/krofusmidur/amounts/MutableInteger", name := "setMagnitudeToDifference", desc := "(Lcom/example/krofusmidur/krofusmidur/amounts/MutableInteger;Lcom/example/krofusmidur/krofusmidur/amounts/MutableInteger;)V" } : Jvm.MethodName) prog_35_method_14_code (9 : Nat) (Option.none : Option Jvm.ClassFile.FieldType)).before args0 about1 = true := code_word (m := ⟨2, 7⟩) (meth := k2m7) (c := k2c7) (by decide +kernel) rfl rfl rfl (by decide +kernel)
set_option maxRecDepth 65536 in
theorem w_c18 : (Jvm.Cond.code ({ cls := "com/example/krofusmidur/krofusmidur/amounts/MutableInteger", name := "digit", desc := "(Lcom/example/krofusmidur/krofusmidur/amounts/MutableInteger;I)J" } : Jvm.MethodName) prog_35_method_17_code (2 : Nat) (Option.some Jvm.ClassFile.FieldType.long)).before args0 about1 = true := code_word (m := ⟨2, 9⟩) (meth := k2m9) (c := k2c9) (by decide +kernel) rfl rfl rfl (by decide +kernel)
set_option maxRecDepth 65536 in
theorem w_c19 : (Jvm.Cond.code ({ cls := "java/lang/Math", name := "multiplyHigh", desc := "(JJ)J" } : Jvm.MethodName) jdk_29_method_45_code (20 : Nat) (Option.some Jvm.ClassFile.FieldType.long)).before args0 about1 = true := code_word (m := ⟨3, 1⟩) (meth := k3m1) (c := k3c1) (by decide +kernel) rfl rfl rfl (by decide +kernel)
set_option maxRecDepth 65536 in
theorem w_c20 : (Jvm.Cond.code ({ cls := "java/lang/Long", name := "compareUnsigned", desc := "(JJ)I" } : Jvm.MethodName) jdk_35_method_43_code (4 : Nat) (Option.some Jvm.ClassFile.FieldType.int)).before args0 about1 = true := code_word (m := ⟨11, 1⟩) (meth := k11m1) (c := k11c1) (by decide +kernel) rfl rfl rfl (by decide +kernel)
set_option maxRecDepth 65536 in
theorem w_c21 : (Jvm.Cond.code ({ cls := "java/lang/Long", name := "compare", desc := "(JJ)I" } : Jvm.MethodName) jdk_35_method_42_code (4 : Nat) (Option.some Jvm.ClassFile.FieldType.int)).before args0 about1 = true := code_word (m := ⟨11, 0⟩) (meth := k11m0) (c := k11c0) (by decide +kernel) rfl rfl rfl (by decide +kernel)
def codes1 : List Jvm.Cond := [Jvm.Cond.code x code maxLocals ret, Jvm.Cond.code ({ cls := "com/example/krofusmidur/krofusmidur/amounts/MutableInteger", name := "<init>", desc := "()V" } : Jvm.MethodName) prog_35_method_1_code (1 : Nat) (Option.none : Option Jvm.ClassFile.FieldType), Jvm.Cond.code ({ cls := "java/lang/Object", name := "<init>", desc := "()V" } : Jvm.MethodName) object_method_1_code (1 : Nat) (Option.none : Option Jvm.ClassFile.FieldType), Jvm.Cond.code ({ cls := "com/example/krofusmidur/krofusmidur/amounts/MutableInteger", name := "set", desc := "(J)V" } : Jvm.MethodName) prog_35_method_2_code (5 : Nat) (Option.none : Option Jvm.ClassFile.FieldType), Jvm.Cond.code ({ cls := "java/lang/Math", name := "abs", desc := "(J)J" } : Jvm.MethodName) jdk_29_method_61_code (2 : Nat) (Option.some Jvm.ClassFile.FieldType.long), Jvm.Cond.code ({ cls := "com/example/krofusmidur/krofusmidur/amounts/MutableInteger", name := "clearFrom", desc := "(I)V" } : Jvm.MethodName) prog_35_method_19_code (3 : Nat) (Option.none : Option Jvm.ClassFile.FieldType), Jvm.Cond.code ({ cls := "com/example/krofusmidur/krofusmidur/amounts/MutableInteger", name := "trim", desc := "()V" } : Jvm.MethodName) prog_35_method_20_code (3 : Nat) (Option.none : Option Jvm.ClassFile.FieldType), Jvm.Cond.code ({ cls := "com/example/krofusmidur/krofusmidur/amounts/MutableInteger", name := "signum", desc := "()I" } : Jvm.MethodName) prog_35_method_4_code (1 : Nat) (Option.some Jvm.ClassFile.FieldType.int), Jvm.Cond.code ({ cls := "com/example/krofusmidur/krofusmidur/amounts/MutableIntegerSignumPinLaw", name := "sgn", desc := "(J)I" } : Jvm.MethodName) method_2_code (2 : Nat) (Option.some Jvm.ClassFile.FieldType.int), Jvm.Cond.code ({ cls := "com/example/krofusmidur/krofusmidur/amounts/MutableInteger", name := "multiply", desc := "(J)V" } : Jvm.MethodName) prog_35_method_9_code (12 : Nat) (Option.none : Option Jvm.ClassFile.FieldType), Jvm.Cond.code ({ cls := "com/example/krofusmidur/krofusmidur/amounts/MutableInteger", name := "ensureCapacity", desc := "(I)V" } : Jvm.MethodName) prog_35_method_18_code (2 : Nat) (Option.none : Option Jvm.ClassFile.FieldType), Jvm.Cond.code ({ cls := "com/example/krofusmidur/krofusmidur/amounts/MutableInteger", name := "set", desc := "(Lcom/example/krofusmidur/krofusmidur/amounts/MutableInteger;)V" } : Jvm.MethodName) prog_35_method_3_code (2 : Nat) (Option.none : Option Jvm.ClassFile.FieldType), Jvm.Cond.code ({ cls := "com/example/krofusmidur/krofusmidur/amounts/MutableInteger", name := "subtract", desc := "(Lcom/example/krofusmidur/krofusmidur/amounts/MutableInteger;)V" } : Jvm.MethodName) prog_35_method_8_code (2 : Nat) (Option.none : Option Jvm.ClassFile.FieldType), Jvm.Cond.code ({ cls := "com/example/krofusmidur/krofusmidur/amounts/MutableInteger", name := "add", desc := "(Lcom/example/krofusmidur/krofusmidur/amounts/MutableInteger;Z)V" } : Jvm.MethodName) prog_35_method_12_code (3 : Nat) (Option.none : Option Jvm.ClassFile.FieldType), Jvm.Cond.code ({ cls := "com/example/krofusmidur/krofusmidur/amounts/MutableInteger", name := "compareMagnitude", desc := "(Lcom/example/krofusmidur/krofusmidur/amounts/MutableInteger;)I" } : Jvm.MethodName) prog_35_method_15_code (4 : Nat) (Option.some Jvm.ClassFile.FieldType.int), Jvm.Cond.code ({ cls := "java/lang/Integer", name := "compare", desc := "(II)I" } : Jvm.MethodName) jdk_33_method_40_code (2 : Nat) (Option.some Jvm.ClassFile.FieldType.int), Jvm.Cond.code ({ cls := "java/lang/Integer", name := "compareUnsigned", desc := "(II)I" } : Jvm.MethodName) jdk_33_method_41_code (2 : Nat) (Option.some Jvm.ClassFile.FieldType.int), Jvm.Cond.code ({ cls := "com/example/krofusmidur/krofusmidur/amounts/MutableInteger", name := "setMagnitudeToDifference", desc := "(Lcom/example/krofusmidur/krofusmidur/amounts/MutableInteger;Lcom/example/krofusmidur/krofusmidur/amounts/MutableInteger;)V" } : Jvm.MethodName) prog_35_method_14_code (9 : Nat) (Option.none : Option Jvm.ClassFile.FieldType), Jvm.Cond.code ({ cls := "com/example/krofusmidur/krofusmidur/amounts/MutableInteger", name := "digit", desc := "(Lcom/example/krofusmidur/krofusmidur/amounts/MutableInteger;I)J" } : Jvm.MethodName) prog_35_method_17_code (2 : Nat) (Option.some Jvm.ClassFile.FieldType.long), Jvm.Cond.code ({ cls := "java/lang/Math", name := "multiplyHigh", desc := "(JJ)J" } : Jvm.MethodName) jdk_29_method_45_code (20 : Nat) (Option.some Jvm.ClassFile.FieldType.long), Jvm.Cond.code ({ cls := "java/lang/Long", name := "compareUnsigned", desc := "(JJ)I" } : Jvm.MethodName) jdk_35_method_43_code (4 : Nat) (Option.some Jvm.ClassFile.FieldType.int), Jvm.Cond.code ({ cls := "java/lang/Long", name := "compare", desc := "(JJ)I" } : Jvm.MethodName) jdk_35_method_42_code (4 : Nat) (Option.some Jvm.ClassFile.FieldType.int)]
set_option maxRecDepth 65536 in
theorem codes_eq : words1.filter isCode = codes1 := rfl
theorem w_codes : ∀ c ∈ words1.filter isCode, c.before args0 about1 = true := by
  rw [codes_eq]
  intro c hc
  simp only [codes1, List.mem_cons, List.not_mem_nil, or_false] at hc
  rcases hc with rfl | rfl | rfl | rfl | rfl | rfl | rfl | rfl | rfl | rfl | rfl | rfl | rfl | rfl | rfl | rfl | rfl | rfl | rfl | rfl | rfl | rfl
  · exact w_c0
  · exact w_c1
  · exact w_c2
  · exact w_c3
  · exact w_c4
  · exact w_c5
  · exact w_c6
  · exact w_c7
  · exact w_c8
  · exact w_c9
  · exact w_c10
  · exact w_c11
  · exact w_c12
  · exact w_c13
  · exact w_c14
  · exact w_c15
  · exact w_c16
  · exact w_c17
  · exact w_c18
  · exact w_c19
  · exact w_c20
  · exact w_c21
set_option maxRecDepth 65536 in
theorem w_t1 : (words1.take 24).all (fun c => isCode c || c.before args0 about1) = true := by decide +kernel
set_option maxRecDepth 65536 in
theorem w_t2 : ((words1.drop 24).take 24).all (fun c => isCode c || c.before args0 about1) = true := by decide +kernel
set_option maxRecDepth 65536 in
theorem w_t3 : (((words1.drop 24).drop 24).take 24).all (fun c => isCode c || c.before args0 about1) = true := by decide +kernel
set_option maxRecDepth 65536 in
theorem w_t4 : ((((words1.drop 24).drop 24).drop 24).take 24).all (fun c => isCode c || c.before args0 about1) = true := by decide +kernel
set_option maxRecDepth 65536 in
theorem w_t5 : ((((words1.drop 24).drop 24).drop 24).drop 24).all (fun c => isCode c || c.before args0 about1) = true := by decide +kernel
theorem w_tables : (allAtoms (Jvm.Cond.code x code maxLocals ret :: tables_1)).before args0 about1 = true := by
  rw [allAtoms_all]
  show words1.all (fun c => c.before args0 about1) = true
  refine all_split ?_ w_codes
  rw [← List.take_append_drop 24 words1, List.all_append, w_t1, ← List.take_append_drop 24 (words1.drop 24), List.all_append, w_t2, ← List.take_append_drop 24 ((words1.drop 24).drop 24), List.all_append, w_t3, ← List.take_append_drop 24 (((words1.drop 24).drop 24).drop 24), List.all_append, w_t4, w_t5]
  rfl
set_option maxRecDepth 65536 in
theorem w_case : (Jvm.Cond.and given_1 narrow_1).before args0 about1 = true := by decide +kernel
theorem w_applies : (headSpec (Jvm.Cond.code x code maxLocals ret :: tables_1) room_1).applies x e0.platform about1 = true :=
  (Spec.applies_iff w_frames).mpr ⟨w_running, w_runnable, w_alone, w_named, w_hears, w_ripe, w_room, w_tables⟩
theorem atStart : AtStart classFile x code maxLocals ret World_1 tables_1 room_1 Calls_1 rest_1 Pre_1 launch0 p0 e0 about1 theMethod args0 below0 :=
  ⟨lists_1, trivial, launch0.admits_env _ _ _, launch0.least_env, fairChoices_fair.cas, fairChoices_fair.clock, w_frames, w_args, w_heap, w_applies, trivial, trivial, w_case⟩
end start1
theorem witness_1 : WitnessClaimed_1 := ⟨start1.p0, start1.e0, start1.about1, start1.theMethod, start1.args0, start1.below0, start1.atStart⟩
end Jvm.Pilot.@@N@@
