import JvmDerived
import JvmDerived.Pilot.@@N@@Statement
import JvmDerived.Pilot.@@N@@Code
set_option linter.unusedVariables false
set_option linter.unusedSimpArgs false
namespace Jvm.Pilot.@@N@@
open Jvm Jvm.ClassFile Sem Op Lib Jvm.Free Jvm.Stand Jvm.LawKit Jvm.RoadKit Bundle Jvm.Pilot.@@N@@.Jvm.D
section OwnPre
/-- where the run stands, with all that stays true of the body -/
def St (p : Program) (l : Launch) (e : Env) (R : Room) (s : State) (m : MethodId) (args : Array Value) (below : List Frame) (meth : Method) (c : Code) (Z : State) (own : String) (bytes : ByteArray) (ml n0 : Nat) (ret : Option FieldType) (nm : String) (T : State) (h : Heap) (cells slots : Nat) : Prop :=
  ∃ locs, Stand p l e R s m args below meth c T locs cells slots ∧ Fr n0 locs ∧ T.heap = h ∧ p.tables.exec = Jvm.exec ∧ Z.Warmed39 s.vm ∧ s.vm.findClass own = some m.cls ∧ c.code = bytes ∧ c.maxLocals = ml ∧ meth.locks = false ∧ n0 ≤ s.heap.size ∧ meth.sig.returnType = ret ∧ meth.name = nm
def Wp (p : Program) (e : Env) (below : List Frame) (PO : Outcome → State → Prop) (T : State) (g : JFrame) : Prop := ∃ t o, Steps p.tables e below (T.setTop g) t ∧ t.status = .running ∧ Ended t below o ∧ PO o t
def Po (s : State) (n0 : Nat) (R : Room) (Q : Option Value → Heap → Prop) (o : Outcome) (t : State) : Prop := ∃ v L, o = .returned v ∧ (Q v t.heap ∧ Fr n0 L) ∧ FrameEnd s o t L R.cells R.slots
def Ct (l : Launch) (y : MethodName) (bytes : ByteArray) (ml : Nat) (ret : Option FieldType) (ws : List Jvm.Cond) (R : Room) (Z : State) (h0 : Heap) (n0 : Nat) (as : Array Value) (Q : Option Value → Heap → Prop) : Prop :=
  MetFree l y (head1 (Jvm.Cond.code y bytes ml ret :: ws) R) (fun a U => a = as ∧ Z.Warmed39 U.vm ∧ U.heap = h0) (fun _ _ _ _ _ => True) (fun _ U o U' => Po U n0 R Q o U')
variable {p : Program} {l : Launch} {e : Env} {R : Room} {s : State} {m : MethodId} {args : Array Value} {below : List Frame} {meth : Method} {c : Code} {Z : State} {own : String} {bytes : ByteArray} {ml n0 : Nat} {ret : Option FieldType} {nm : String} {T : State} {h : Heap} {cells slots : Nat} {PO : Outcome → State → Prop} {a0 : Array Value} {pc q : Nat} {L : Array Slot} {st : List Value}
theorem o_body {y : MethodName} {ws : List Jvm.Cond} {h0 : Heap} {as : Array Value} {Q : Option Value → Heap → Prop} {L0 : Array Slot} (hpl : plainFor y = true) (hn : n0 ≤ h0.size) (hef : ∀ m, entryFrame m as ml = mkF m 0 L0 [])
    (k : ∀ (p : Program) (e : Env) (s : State) (m : MethodId) (below : List Frame) (meth : Method) (c : Code) (T : State), St p l e R s m as below meth c Z y.cls bytes ml n0 ret y.name T h0 0 0 → Wp p e below (Po s n0 R Q) T (mkF m 0 L0 [])) :
    Ct l y bytes ml ret ws R Z h0 n0 as Q := by
  refine MetFree.of_bodySF hpl hisR ?_
  intro p e s m args below meth c s₁ Bd hml0 hP hK
  obtain ⟨rfl, hZ, hh⟩ := hP
  have X0 : Stand p l e R s m args below meth c s₁ [] 0 0 := Stand.of_body Bd
  have e0 : s₁.heap = h0 := by rw [← hh, Bd.state]; rfl
  obtain ⟨t, o, h1, h2, h3, h4⟩ := k p e s m below meth c s₁ ⟨[], X0, Fr.nil n0, e0, Bd.exec, hZ, findClass_of_methodNamed Bd.named, Bd.bytes, hml0, BodyLoose.notSynchronized Bd, (by rw [hh]; exact hn), Bd.returns, (name_of_methodNamed Bd.named Bd.method).1⟩
  exact ⟨t, o, castTop (hef m) h1, h2, h3, h4⟩
theorem o_st (S : St p l e R s m args below meth c Z own bytes ml n0 ret nm T h cells slots) {g g' : JFrame} (hs : ∀ t, At T m c below → p.tables.exec = Jvm.exec → c.code = bytes → Steps p.tables e below (T.setTop g') t → Steps p.tables e below (T.setTop g) t) (k : Wp p e below PO T g') : Wp p e below PO T g := by
  obtain ⟨locs, X, N, eT, hx, hZ, hown, hby, hml, hlk, hn, hrt, hnm⟩ := S
  obtain ⟨t, o, h1, h2⟩ := k
  exact ⟨t, o, hs t X.here hx hby h1, h2⟩
theorem o_to {T' : State} {g g' : JFrame} (hs : ∀ t, Steps p.tables e below (T'.setTop g') t → Steps p.tables e below (T.setTop g) t) (k : Wp p e below PO T' g') : Wp p e below PO T g := by
  obtain ⟨t, o, h1, h2⟩ := k
  exact ⟨t, o, hs t h1, h2⟩
theorem o_heap (S : St p l e R s m args below meth c Z own bytes ml n0 ret nm T h cells slots) : T.heap = h := by obtain ⟨locs, X, N, eT, -⟩ := S; exact eT
theorem o_n0 (S : St p l e R s m args below meth c Z own bytes ml n0 ret nm T h cells slots) : n0 ≤ h.size := by
  obtain ⟨locs, X, N, eT, hx, hZ, hown, hby, hml, hlk, hn, -⟩ := S
  have := X.same.2.1
  rw [← eT]; exact Nat.le_trans hn this
theorem o_wd {i : Nat} {d : Jvm.Cond} (hw : ∀ d ∈ tables_1, d.before a0 Z = true) (hi : tables_1[i]? = some d) : d.before a0 Z = true := hw _ (List.mem_of_getElem? hi)

theorem o_iloadN (S : St p l e R s m args below meth c Z own bytes ml n0 ret nm T h cells slots) {k : Fin 4} {v : Int32} (hl : L[k.val]? = some (.val (.int v))) (hd : decode bytes pc = .ok (.iload_n k, 1)) (hq : pc + 1 = q) (k : Wp p e below PO T (mkF m q L (.int v :: st))) : Wp p e below PO T (mkF m pc L (st)) := by
  subst hq
  exact o_st S (fun t X hx hy r => XS.iloadN X hx rfl (hb hy hd) hl r) k
theorem o_lloadN (S : St p l e R s m args below meth c Z own bytes ml n0 ret nm T h cells slots) {k : Fin 4} {v : Int64} (hl : L[k.val]? = some (.val (.long v))) (hd : decode bytes pc = .ok (.lload_n k, 1)) (hq : pc + 1 = q) (k : Wp p e below PO T (mkF m q L (.long v :: st))) : Wp p e below PO T (mkF m pc L (st)) := by
  subst hq
  exact o_st S (fun t X hx hy r => XS.lloadN X hx rfl (hb hy hd) hl r) k
theorem o_aloadN (S : St p l e R s m args below meth c Z own bytes ml n0 ret nm T h cells slots) {k : Fin 4} {v : Value} (hl : L[k.val]? = some (.val v)) (hv : v.isRef = true) (hd : decode bytes pc = .ok (.aload_n k, 1)) (hq : pc + 1 = q) (k : Wp p e below PO T (mkF m q L (v :: st))) : Wp p e below PO T (mkF m pc L (st)) := by
  subst hq
  exact o_st S (fun t X hx hy r => XS.aloadN X hx rfl (hb hy hd) hl hv r) k
theorem o_istoreN (S : St p l e R s m args below meth c Z own bytes ml n0 ret nm T h cells slots) {k : Fin 4} {x : Int32} {L' : Array Slot} (hl : storeLocals L k.val (.int x) = some L') (hd : decode bytes pc = .ok (.istore_n k, 1)) (hq : pc + 1 = q) (k : Wp p e below PO T (mkF m q L' (st))) : Wp p e below PO T (mkF m pc L (.int x :: st)) := by
  subst hq
  exact o_st S (fun t X hx hy r => XS.istoreN X hx rfl (hb hy hd) rfl hl r) k
theorem o_istoreVN (S : St p l e R s m args below meth c Z own bytes ml n0 ret nm T h cells slots) {k : Fin 4} {x : Int32} {L' : Int32 → Array Slot} (hl : ∀ v, storeLocals L k.val (.int v) = some (L' v)) (hd : decode bytes pc = .ok (.istore_n k, 1)) (hq : pc + 1 = q) (k : ∀ v, v = x → Wp p e below PO T (mkF m q (L' v) st)) : Wp p e below PO T (mkF m pc L (.int x :: st)) :=
  o_istoreN S (hl x) hd hq (k x rfl)
theorem o_lstoreN (S : St p l e R s m args below meth c Z own bytes ml n0 ret nm T h cells slots) {k : Fin 4} {x : Int64} {L' : Array Slot} (hl : storeLocals L k.val (.long x) = some L') (hd : decode bytes pc = .ok (.lstore_n k, 1)) (hq : pc + 1 = q) (k : Wp p e below PO T (mkF m q L' (st))) : Wp p e below PO T (mkF m pc L (.long x :: st)) := by
  subst hq
  exact o_st S (fun t X hx hy r => XS.lstoreN X hx rfl (hb hy hd) rfl hl r) k
theorem o_lstoreVN (S : St p l e R s m args below meth c Z own bytes ml n0 ret nm T h cells slots) {k : Fin 4} {x : Int64} {L' : Int64 → Array Slot} (hl : ∀ v, storeLocals L k.val (.long v) = some (L' v)) (hd : decode bytes pc = .ok (.lstore_n k, 1)) (hq : pc + 1 = q) (k : ∀ v, v = x → Wp p e below PO T (mkF m q (L' v) st)) : Wp p e below PO T (mkF m pc L (.long x :: st)) :=
  o_lstoreN S (hl x) hd hq (k x rfl)
theorem o_astoreN (S : St p l e R s m args below meth c Z own bytes ml n0 ret nm T h cells slots) {k : Fin 4} {x : Value} {L' : Array Slot} (hv : x.isRef = true) (hl : storeLocals L k.val x = some L') (hd : decode bytes pc = .ok (.astore_n k, 1)) (hq : pc + 1 = q) (k : Wp p e below PO T (mkF m q L' (st))) : Wp p e below PO T (mkF m pc L (x :: st)) := by
  subst hq
  exact o_st S (fun t X hx hy r => XS.astoreN X hx rfl (hb hy hd) rfl hv hl r) k
theorem o_iload (S : St p l e R s m args below meth c Z own bytes ml n0 ret nm T h cells slots) {k : Nat} {v : Int32} (hl : L[k]? = some (.val (.int v))) (hd : decode bytes pc = .ok (.iload k, 2)) (hq : pc + 2 = q) (k : Wp p e below PO T (mkF m q L (.int v :: st))) : Wp p e below PO T (mkF m pc L (st)) := by
  subst hq
  exact o_st S (fun t X hx hy r => XS.iload X hx rfl (hb hy hd) hl r) k
theorem o_lload (S : St p l e R s m args below meth c Z own bytes ml n0 ret nm T h cells slots) {k : Nat} {v : Int64} (hl : L[k]? = some (.val (.long v))) (hd : decode bytes pc = .ok (.lload k, 2)) (hq : pc + 2 = q) (k : Wp p e below PO T (mkF m q L (.long v :: st))) : Wp p e below PO T (mkF m pc L (st)) := by
  subst hq
  exact o_st S (fun t X hx hy r => XS.lload X hx rfl (hb hy hd) hl r) k
theorem o_aload (S : St p l e R s m args below meth c Z own bytes ml n0 ret nm T h cells slots) {k : Nat} {v : Value} (hl : L[k]? = some (.val v)) (hv : v.isRef = true) (hd : decode bytes pc = .ok (.aload k, 2)) (hq : pc + 2 = q) (k : Wp p e below PO T (mkF m q L (v :: st))) : Wp p e below PO T (mkF m pc L (st)) := by
  subst hq
  exact o_st S (fun t X hx hy r => XS.aload X hx rfl (hb hy hd) hl hv r) k
theorem o_istore (S : St p l e R s m args below meth c Z own bytes ml n0 ret nm T h cells slots) {k : Nat} {x : Int32} {L' : Array Slot} (hl : storeLocals L k (.int x) = some L') (hd : decode bytes pc = .ok (.istore k, 2)) (hq : pc + 2 = q) (k : Wp p e below PO T (mkF m q L' (st))) : Wp p e below PO T (mkF m pc L (.int x :: st)) := by
  subst hq
  exact o_st S (fun t X hx hy r => XS.istore X hx rfl (hb hy hd) rfl hl r) k
theorem o_istoreV (S : St p l e R s m args below meth c Z own bytes ml n0 ret nm T h cells slots) {k : Nat} {x : Int32} {L' : Int32 → Array Slot} (hl : ∀ v, storeLocals L k (.int v) = some (L' v)) (hd : decode bytes pc = .ok (.istore k, 2)) (hq : pc + 2 = q) (k : ∀ v, v = x → Wp p e below PO T (mkF m q (L' v) st)) : Wp p e below PO T (mkF m pc L (.int x :: st)) :=
  o_istore S (hl x) hd hq (k x rfl)
theorem o_lstore (S : St p l e R s m args below meth c Z own bytes ml n0 ret nm T h cells slots) {k : Nat} {x : Int64} {L' : Array Slot} (hl : storeLocals L k (.long x) = some L') (hd : decode bytes pc = .ok (.lstore k, 2)) (hq : pc + 2 = q) (k : Wp p e below PO T (mkF m q L' (st))) : Wp p e below PO T (mkF m pc L (.long x :: st)) := by
  subst hq
  exact o_st S (fun t X hx hy r => XS.lstore X hx rfl (hb hy hd) rfl hl r) k
theorem o_lstoreV (S : St p l e R s m args below meth c Z own bytes ml n0 ret nm T h cells slots) {k : Nat} {x : Int64} {L' : Int64 → Array Slot} (hl : ∀ v, storeLocals L k (.long v) = some (L' v)) (hd : decode bytes pc = .ok (.lstore k, 2)) (hq : pc + 2 = q) (k : ∀ v, v = x → Wp p e below PO T (mkF m q (L' v) st)) : Wp p e below PO T (mkF m pc L (.long x :: st)) :=
  o_lstore S (hl x) hd hq (k x rfl)
theorem o_astore (S : St p l e R s m args below meth c Z own bytes ml n0 ret nm T h cells slots) {k : Nat} {x : Value} {L' : Array Slot} (hv : x.isRef = true) (hl : storeLocals L k x = some L') (hd : decode bytes pc = .ok (.astore k, 2)) (hq : pc + 2 = q) (k : Wp p e below PO T (mkF m q L' (st))) : Wp p e below PO T (mkF m pc L (x :: st)) := by
  subst hq
  exact o_st S (fun t X hx hy r => XS.astore X hx rfl (hb hy hd) rfl hv hl r) k
theorem o_iconst (S : St p l e R s m args below meth c Z own bytes ml n0 ret nm T h cells slots) {i : Int} {z : Int32} (hz : Int32.ofInt i = z) (hd : decode bytes pc = .ok (.iconst i, 1)) (hq : pc + 1 = q) (k : Wp p e below PO T (mkF m q L (.int z :: st))) : Wp p e below PO T (mkF m pc L (st)) := by
  subst hq
  exact o_st S (fun t X hx hy r => XS.iconst X hx rfl (hb hy hd) (hz ▸ r)) k
theorem o_bipush (S : St p l e R s m args below meth c Z own bytes ml n0 ret nm T h cells slots) {i : Int} {z : Int32} (hz : (Int8.ofInt i).toInt32 = z) (hd : decode bytes pc = .ok (.bipush i, 2)) (hq : pc + 2 = q) (k : Wp p e below PO T (mkF m q L (.int z :: st))) : Wp p e below PO T (mkF m pc L (st)) := by
  subst hq
  exact o_st S (fun t X hx hy r => XS.bipush X hx rfl (hb hy hd) (hz ▸ r)) k
theorem o_sipush (S : St p l e R s m args below meth c Z own bytes ml n0 ret nm T h cells slots) {i : Int} {z : Int32} (hz : (Int16.ofInt i).toInt32 = z) (hd : decode bytes pc = .ok (.sipush i, 3)) (hq : pc + 3 = q) (k : Wp p e below PO T (mkF m q L (.int z :: st))) : Wp p e below PO T (mkF m pc L (st)) := by
  subst hq
  exact o_st S (fun t X hx hy r => XS.sipush X hx rfl (hb hy hd) (hz ▸ r)) k
theorem o_lconst (S : St p l e R s m args below meth c Z own bytes ml n0 ret nm T h cells slots) {i : Fin 2} {z : Int64} (hz : Int64.ofNat i = z) (hd : decode bytes pc = .ok (.lconst i, 1)) (hq : pc + 1 = q) (k : Wp p e below PO T (mkF m q L (.long z :: st))) : Wp p e below PO T (mkF m pc L (st)) := by
  subst hq
  exact o_st S (fun t X hx hy r => XS.lconst X hx rfl (hb hy hd) (hz ▸ r)) k
theorem o_aconstNull (S : St p l e R s m args below meth c Z own bytes ml n0 ret nm T h cells slots)  (hd : decode bytes pc = .ok (.aconst_null, 1)) (hq : pc + 1 = q) (k : Wp p e below PO T (mkF m q L (.null :: st))) : Wp p e below PO T (mkF m pc L (st)) := by
  subst hq
  exact o_st S (fun t X hx hy r => XS.aconstNull X hx rfl (hb hy hd) r) k
theorem o_iadd (S : St p l e R s m args below meth c Z own bytes ml n0 ret nm T h cells slots) {x y : Int32} (hd : decode bytes pc = .ok (.iadd, 1)) (hq : pc + 1 = q) (k : Wp p e below PO T (mkF m q L (.int (x + y) :: st))) : Wp p e below PO T (mkF m pc L (.int y :: .int x :: st)) := by
  subst hq
  exact o_st S (fun t X hx hy r => XS.iadd X hx rfl (hb hy hd) rfl r) k
theorem o_ladd (S : St p l e R s m args below meth c Z own bytes ml n0 ret nm T h cells slots) {x y : Int64} (hd : decode bytes pc = .ok (.ladd, 1)) (hq : pc + 1 = q) (k : Wp p e below PO T (mkF m q L (.long (x + y) :: st))) : Wp p e below PO T (mkF m pc L (.long y :: .long x :: st)) := by
  subst hq
  exact o_st S (fun t X hx hy r => XS.ladd X hx rfl (hb hy hd) rfl r) k
theorem o_isub (S : St p l e R s m args below meth c Z own bytes ml n0 ret nm T h cells slots) {x y : Int32} (hd : decode bytes pc = .ok (.isub, 1)) (hq : pc + 1 = q) (k : Wp p e below PO T (mkF m q L (.int (x - y) :: st))) : Wp p e below PO T (mkF m pc L (.int y :: .int x :: st)) := by
  subst hq
  exact o_st S (fun t X hx hy r => XS.isub X hx rfl (hb hy hd) rfl r) k
theorem o_lsub (S : St p l e R s m args below meth c Z own bytes ml n0 ret nm T h cells slots) {x y : Int64} (hd : decode bytes pc = .ok (.lsub, 1)) (hq : pc + 1 = q) (k : Wp p e below PO T (mkF m q L (.long (x - y) :: st))) : Wp p e below PO T (mkF m pc L (.long y :: .long x :: st)) := by
  subst hq
  exact o_st S (fun t X hx hy r => XS.lsub X hx rfl (hb hy hd) rfl r) k
theorem o_imul (S : St p l e R s m args below meth c Z own bytes ml n0 ret nm T h cells slots) {x y : Int32} (hd : decode bytes pc = .ok (.imul, 1)) (hq : pc + 1 = q) (k : Wp p e below PO T (mkF m q L (.int (x * y) :: st))) : Wp p e below PO T (mkF m pc L (.int y :: .int x :: st)) := by
  subst hq
  exact o_st S (fun t X hx hy r => XS.imul X hx rfl (hb hy hd) rfl r) k
theorem o_lmul (S : St p l e R s m args below meth c Z own bytes ml n0 ret nm T h cells slots) {x y : Int64} (hd : decode bytes pc = .ok (.lmul, 1)) (hq : pc + 1 = q) (k : Wp p e below PO T (mkF m q L (.long (x * y) :: st))) : Wp p e below PO T (mkF m pc L (.long y :: .long x :: st)) := by
  subst hq
  exact o_st S (fun t X hx hy r => XS.lmul X hx rfl (hb hy hd) rfl r) k
theorem o_iand (S : St p l e R s m args below meth c Z own bytes ml n0 ret nm T h cells slots) {x y : Int32} (hd : decode bytes pc = .ok (.iand, 1)) (hq : pc + 1 = q) (k : Wp p e below PO T (mkF m q L (.int (x &&& y) :: st))) : Wp p e below PO T (mkF m pc L (.int y :: .int x :: st)) := by
  subst hq
  exact o_st S (fun t X hx hy r => XS.iand X hx rfl (hb hy hd) rfl r) k
theorem o_land (S : St p l e R s m args below meth c Z own bytes ml n0 ret nm T h cells slots) {x y : Int64} (hd : decode bytes pc = .ok (.land, 1)) (hq : pc + 1 = q) (k : Wp p e below PO T (mkF m q L (.long (x &&& y) :: st))) : Wp p e below PO T (mkF m pc L (.long y :: .long x :: st)) := by
  subst hq
  exact o_st S (fun t X hx hy r => XS.land X hx rfl (hb hy hd) rfl r) k
theorem o_ior (S : St p l e R s m args below meth c Z own bytes ml n0 ret nm T h cells slots) {x y : Int32} (hd : decode bytes pc = .ok (.ior, 1)) (hq : pc + 1 = q) (k : Wp p e below PO T (mkF m q L (.int (x ||| y) :: st))) : Wp p e below PO T (mkF m pc L (.int y :: .int x :: st)) := by
  subst hq
  exact o_st S (fun t X hx hy r => XS.ior X hx rfl (hb hy hd) rfl r) k
theorem o_lor (S : St p l e R s m args below meth c Z own bytes ml n0 ret nm T h cells slots) {x y : Int64} (hd : decode bytes pc = .ok (.lor, 1)) (hq : pc + 1 = q) (k : Wp p e below PO T (mkF m q L (.long (x ||| y) :: st))) : Wp p e below PO T (mkF m pc L (.long y :: .long x :: st)) := by
  subst hq
  exact o_st S (fun t X hx hy r => XS.lor X hx rfl (hb hy hd) rfl r) k
theorem o_ixor (S : St p l e R s m args below meth c Z own bytes ml n0 ret nm T h cells slots) {x y : Int32} (hd : decode bytes pc = .ok (.ixor, 1)) (hq : pc + 1 = q) (k : Wp p e below PO T (mkF m q L (.int (x ^^^ y) :: st))) : Wp p e below PO T (mkF m pc L (.int y :: .int x :: st)) := by
  subst hq
  exact o_st S (fun t X hx hy r => XS.ixor X hx rfl (hb hy hd) rfl r) k
theorem o_lxor (S : St p l e R s m args below meth c Z own bytes ml n0 ret nm T h cells slots) {x y : Int64} (hd : decode bytes pc = .ok (.lxor, 1)) (hq : pc + 1 = q) (k : Wp p e below PO T (mkF m q L (.long (x ^^^ y) :: st))) : Wp p e below PO T (mkF m pc L (.long y :: .long x :: st)) := by
  subst hq
  exact o_st S (fun t X hx hy r => XS.lxor X hx rfl (hb hy hd) rfl r) k
theorem o_irem (S : St p l e R s m args below meth c Z own bytes ml n0 ret nm T h cells slots) {x y : Int32} (hy0 : y ≠ 0) (hd : decode bytes pc = .ok (.irem, 1)) (hq : pc + 1 = q) (k : Wp p e below PO T (mkF m q L (.int (x % y) :: st))) : Wp p e below PO T (mkF m pc L (.int y :: .int x :: st)) := by
  subst hq
  exact o_st S (fun t X hx hy r => XS.irem X hx rfl (hb hy hd) rfl hy0 (by have q : x - x / y * y = x % y := irem_eq_mod x y; rw [q]; exact r)) k
theorem o_idiv (S : St p l e R s m args below meth c Z own bytes ml n0 ret nm T h cells slots) {x y : Int32} (hy0 : y ≠ 0) (hd : decode bytes pc = .ok (.idiv, 1)) (hq : pc + 1 = q) (k : Wp p e below PO T (mkF m q L (.int (x / y) :: st))) : Wp p e below PO T (mkF m pc L (.int y :: .int x :: st)) := by
  subst hq
  exact o_st S (fun t X hx hy r => XS.idiv X hx rfl (hb hy hd) rfl hy0 r) k
theorem o_ineg (S : St p l e R s m args below meth c Z own bytes ml n0 ret nm T h cells slots) {x : Int32} (hd : decode bytes pc = .ok (.ineg, 1)) (hq : pc + 1 = q) (k : Wp p e below PO T (mkF m q L (.int (-x) :: st))) : Wp p e below PO T (mkF m pc L (.int x :: st)) := by
  subst hq
  exact o_st S (fun t X hx hy r => XS.ineg X hx rfl (hb hy hd) rfl r) k
theorem o_lneg (S : St p l e R s m args below meth c Z own bytes ml n0 ret nm T h cells slots) {x : Int64} (hd : decode bytes pc = .ok (.lneg, 1)) (hq : pc + 1 = q) (k : Wp p e below PO T (mkF m q L (.long (-x) :: st))) : Wp p e below PO T (mkF m pc L (.long x :: st)) := by
  subst hq
  exact o_st S (fun t X hx hy r => XS.lneg X hx rfl (hb hy hd) rfl r) k
theorem o_i2l (S : St p l e R s m args below meth c Z own bytes ml n0 ret nm T h cells slots) {x : Int32} (hd : decode bytes pc = .ok (.i2l, 1)) (hq : pc + 1 = q) (k : Wp p e below PO T (mkF m q L (.long x.toInt64 :: st))) : Wp p e below PO T (mkF m pc L (.int x :: st)) := by
  subst hq
  exact o_st S (fun t X hx hy r => XS.i2l X hx rfl (hb hy hd) rfl r) k
theorem o_l2i (S : St p l e R s m args below meth c Z own bytes ml n0 ret nm T h cells slots) {x : Int64} (hd : decode bytes pc = .ok (.l2i, 1)) (hq : pc + 1 = q) (k : Wp p e below PO T (mkF m q L (.int x.toInt32 :: st))) : Wp p e below PO T (mkF m pc L (.long x :: st)) := by
  subst hq
  exact o_st S (fun t X hx hy r => XS.l2i X hx rfl (hb hy hd) rfl r) k
theorem o_i2b (S : St p l e R s m args below meth c Z own bytes ml n0 ret nm T h cells slots) {x : Int32} (hd : decode bytes pc = .ok (.i2b, 1)) (hq : pc + 1 = q) (k : Wp p e below PO T (mkF m q L (.int x.toInt8.toInt32 :: st))) : Wp p e below PO T (mkF m pc L (.int x :: st)) := by
  subst hq
  exact o_st S (fun t X hx hy r => XS.i2b X hx rfl (hb hy hd) rfl r) k
theorem o_i2s (S : St p l e R s m args below meth c Z own bytes ml n0 ret nm T h cells slots) {x : Int32} (hd : decode bytes pc = .ok (.i2s, 1)) (hq : pc + 1 = q) (k : Wp p e below PO T (mkF m q L (.int x.toInt16.toInt32 :: st))) : Wp p e below PO T (mkF m pc L (.int x :: st)) := by
  subst hq
  exact o_st S (fun t X hx hy r => XS.i2s X hx rfl (hb hy hd) rfl r) k
theorem o_i2c (S : St p l e R s m args below meth c Z own bytes ml n0 ret nm T h cells slots) {x : Int32} (hd : decode bytes pc = .ok (.i2c, 1)) (hq : pc + 1 = q) (k : Wp p e below PO T (mkF m q L (.int x.toUInt32.toUInt16.toUInt32.toInt32 :: st))) : Wp p e below PO T (mkF m pc L (.int x :: st)) := by
  subst hq
  exact o_st S (fun t X hx hy r => XS.i2c X hx rfl (hb hy hd) rfl r) k
theorem o_ishl (S : St p l e R s m args below meth c Z own bytes ml n0 ret nm T h cells slots) {x y : Int32} (hd : decode bytes pc = .ok (.ishl, 1)) (hq : pc + 1 = q) (k : Wp p e below PO T (mkF m q L (.int (x <<< (y &&& 31)) :: st))) : Wp p e below PO T (mkF m pc L (.int y :: .int x :: st)) := by
  subst hq
  exact o_st S (fun t X hx hy r => XS.ishl X hx rfl (hb hy hd) rfl r) k
theorem o_ishr (S : St p l e R s m args below meth c Z own bytes ml n0 ret nm T h cells slots) {x y : Int32} (hd : decode bytes pc = .ok (.ishr, 1)) (hq : pc + 1 = q) (k : Wp p e below PO T (mkF m q L (.int (x >>> (y &&& 31)) :: st))) : Wp p e below PO T (mkF m pc L (.int y :: .int x :: st)) := by
  subst hq
  exact o_st S (fun t X hx hy r => XS.ishr X hx rfl (hb hy hd) rfl r) k
theorem o_iushr (S : St p l e R s m args below meth c Z own bytes ml n0 ret nm T h cells slots) {x y : Int32} (hd : decode bytes pc = .ok (.iushr, 1)) (hq : pc + 1 = q) (k : Wp p e below PO T (mkF m q L (.int ((x.toUInt32 >>> (y &&& 31).toUInt32).toInt32) :: st))) : Wp p e below PO T (mkF m pc L (.int y :: .int x :: st)) := by
  subst hq
  exact o_st S (fun t X hx hy r => XS.iushr X hx rfl (hb hy hd) rfl r) k
theorem o_lshl (S : St p l e R s m args below meth c Z own bytes ml n0 ret nm T h cells slots) {x : Int64} {y : Int32} (hd : decode bytes pc = .ok (.lshl, 1)) (hq : pc + 1 = q) (k : Wp p e below PO T (mkF m q L (.long (x <<< (y &&& 0x3f).toInt64) :: st))) : Wp p e below PO T (mkF m pc L (.int y :: .long x :: st)) := by
  subst hq
  exact o_st S (fun t X hx hy r => XS.lshl X hx rfl (hb hy hd) rfl r) k
theorem o_lshr (S : St p l e R s m args below meth c Z own bytes ml n0 ret nm T h cells slots) {x : Int64} {y : Int32} (hd : decode bytes pc = .ok (.lshr, 1)) (hq : pc + 1 = q) (k : Wp p e below PO T (mkF m q L (.long (x >>> (y &&& 0x3f).toInt64) :: st))) : Wp p e below PO T (mkF m pc L (.int y :: .long x :: st)) := by
  subst hq
  exact o_st S (fun t X hx hy r => XS.lshr X hx rfl (hb hy hd) rfl r) k
theorem o_lushr (S : St p l e R s m args below meth c Z own bytes ml n0 ret nm T h cells slots) {x : Int64} {y : Int32} (hd : decode bytes pc = .ok (.lushr, 1)) (hq : pc + 1 = q) (k : Wp p e below PO T (mkF m q L (.long ((x.toUInt64 >>> (y &&& 0x3f).toInt64.toUInt64).toInt64) :: st))) : Wp p e below PO T (mkF m pc L (.int y :: .long x :: st)) := by
  subst hq
  exact o_st S (fun t X hx hy r => XS.lushr X hx rfl (hb hy hd) rfl r) k
theorem o_lcmp (S : St p l e R s m args below meth c Z own bytes ml n0 ret nm T h cells slots) {x y : Int64} (hd : decode bytes pc = .ok (.lcmp, 1)) (hq : pc + 1 = q) (k : Wp p e below PO T (mkF m q L (.int (lcmpW x y) :: st))) : Wp p e below PO T (mkF m pc L (.long y :: .long x :: st)) := by
  subst hq
  exact o_st S (fun t X hx hy r => XS.lcmp X hx rfl (hb hy hd) rfl r) k
theorem o_dup (S : St p l e R s m args below meth c Z own bytes ml n0 ret nm T h cells slots) {x : Value} (hc : x.category = 1) (hd : decode bytes pc = .ok (.dup, 1)) (hq : pc + 1 = q) (k : Wp p e below PO T (mkF m q L (x :: x :: st))) : Wp p e below PO T (mkF m pc L (x :: st)) := by
  subst hq
  exact o_st S (fun t X hx hy r => XS.dup X hx rfl (hb hy hd) rfl hc r) k
theorem o_pop (S : St p l e R s m args below meth c Z own bytes ml n0 ret nm T h cells slots) {x : Value} (hc : x.category = 1) (hd : decode bytes pc = .ok (.pop, 1)) (hq : pc + 1 = q) (k : Wp p e below PO T (mkF m q L (st))) : Wp p e below PO T (mkF m pc L (x :: st)) := by
  subst hq
  exact o_st S (fun t X hx hy r => XS.pop X hx rfl (hb hy hd) rfl hc r) k
theorem o_dupX1 (S : St p l e R s m args below meth c Z own bytes ml n0 ret nm T h cells slots) {x y : Value} (hc : x.category = 1) (hc' : y.category = 1) (hd : decode bytes pc = .ok (.dup_x1, 1)) (hq : pc + 1 = q) (k : Wp p e below PO T (mkF m q L (x :: y :: x :: st))) : Wp p e below PO T (mkF m pc L (x :: y :: st)) := by
  subst hq
  exact o_st S (fun t X hx hy r => XS.dupX1 X hx rfl (hb hy hd) rfl hc hc' r) k
theorem o_dup2 (S : St p l e R s m args below meth c Z own bytes ml n0 ret nm T h cells slots) {x y : Value} (hc : x.category = 1) (hc' : y.category = 1) (hd : decode bytes pc = .ok (.dup2, 1)) (hq : pc + 1 = q) (k : Wp p e below PO T (mkF m q L (x :: y :: x :: y :: st))) : Wp p e below PO T (mkF m pc L (x :: y :: st)) := by
  subst hq
  exact o_st S (fun t X hx hy r => XT.dup2 X hx rfl (hb hy hd) rfl hc hc' r) k
theorem o_iinc (S : St p l e R s m args below meth c Z own bytes ml n0 ret nm T h cells slots) {k : Nat} {i : Int} {x : Int32} {L' : Array Slot} (hl : L[k]? = some (.val (.int x))) (hl' : storeLocals L k (.int (x + Int32.ofInt i)) = some L') (hd : decode bytes pc = .ok (.iinc k i, 3)) (hq : pc + 3 = q) (kk : Wp p e below PO T (mkF m q L' st)) : Wp p e below PO T (mkF m pc L st) := by
  subst hq
  exact o_st S (fun t X hx hy r => XS.iinc X hx rfl (hb hy hd) hl hl' r) kk
theorem o_goto (S : St p l e R s m args below meth c Z own bytes ml n0 ret nm T h cells slots) {o : Int} (hd : decode bytes pc = .ok (.goto o, 3)) (ho : 0 ≤ (pc : Int) + o) (hq : ((pc : Int) + o).toNat = q) (k : Wp p e below PO T (mkF m q L st)) : Wp p e below PO T (mkF m pc L st) :=
  o_st S (fun t X hx hy r => XS.goto X hx rfl rfl (hb hy hd) ho hq r) k
theorem o_ldc (S : St p l e R s m args below meth c Z own bytes ml n0 ret nm T h cells slots) {i : Nat} {z : Int32} (w : (Jvm.Cond.constant own i z).before a0 Z = true) (hd : decode bytes pc = .ok (.ldc i, 2)) (hq : pc + 2 = q) (k : Wp p e below PO T (mkF m q L (.int z :: st))) : Wp p e below PO T (mkF m pc L st) := by
  subst hq
  obtain ⟨locs, X, N, eT, hx, hZ, hown, hby, hml, hlk, hn, hrt, hnm⟩ := S
  exact o_to (X.ldcInt hx hown (mvT hZ w) (g := mkF m pc L st) rfl (hb hby hd)) k
theorem o_ldc2 (S : St p l e R s m args below meth c Z own bytes ml n0 ret nm T h cells slots) {i : Nat} {z : Int64} (w : (Jvm.Cond.constantLong own i z).before a0 Z = true) (hd : decode bytes pc = .ok (.ldc2_w i, 3)) (hq : pc + 3 = q) (k : Wp p e below PO T (mkF m q L (.long z :: st))) : Wp p e below PO T (mkF m pc L st) := by
  subst hq
  obtain ⟨locs, X, N, eT, hx, hZ, hown, hby, hml, hlk, hn, hrt, hnm⟩ := S
  exact o_to (X.ldc2Long hx hown (mvT hZ w) (g := mkF m pc L st) rfl (hb hby hd)) k
/-! branches: base conditions x < y (as integers) and x = y -/
theorem o_icmp (S : St p l e R s m args below meth c Z own bytes ml n0 ret nm T h cells slots) {cd : ClassFile.Cond} {x y : Int32} {o : Int} {q' : Nat} {P : Prop} (hd : decode bytes pc = .ok (.if_icmp cd o, 3)) (ho : 0 ≤ (pc : Int) + o) (hq' : ((pc : Int) + o).toNat = q') (hq : pc + 3 = q) (h1 : P → if_icmp.holds cd x y = true) (h2 : ¬ P → if_icmp.holds cd x y = false) [Decidable P]
    (k1 : P → Wp p e below PO T (mkF m q' L st)) (k2 : ¬ P → Wp p e below PO T (mkF m q L st)) : Wp p e below PO T (mkF m pc L (.int y :: .int x :: st)) := by
  subst hq
  by_cases hP : P
  · exact o_st S (fun t X hx hy r => XS.icmpYes X hx rfl rfl (hb hy hd) rfl (h1 hP) ho hq' r) (k1 hP)
  · exact o_st S (fun t X hx hy r => XS.icmpNo X hx rfl (hb hy hd) rfl (h2 hP) r) (k2 hP)
theorem o_if (S : St p l e R s m args below meth c Z own bytes ml n0 ret nm T h cells slots) {cd : ClassFile.Cond} {x : Int32} {o : Int} {q' : Nat} {P : Prop} (hd : decode bytes pc = .ok (.ifCond cd o, 3)) (ho : 0 ≤ (pc : Int) + o) (hq' : ((pc : Int) + o).toNat = q') (hq : pc + 3 = q) (h1 : P → if_icmp.holds cd x 0 = true) (h2 : ¬ P → if_icmp.holds cd x 0 = false) [Decidable P]
    (k1 : P → Wp p e below PO T (mkF m q' L st)) (k2 : ¬ P → Wp p e below PO T (mkF m q L st)) : Wp p e below PO T (mkF m pc L (.int x :: st)) := by
  subst hq
  by_cases hP : P
  · exact o_st S (fun t X hx hy r => XS.ifYes X hx rfl rfl (hb hy hd) rfl ((if0 _ _).trans (h1 hP)) ho hq' r) (k1 hP)
  · exact o_st S (fun t X hx hy r => XS.ifNo X hx rfl (hb hy hd) rfl ((if0 _ _).trans (h2 hP)) r) (k2 hP)
theorem hs_lt {x y : Int32} {a b : Int} (ha : x.toInt = a) (hb : y.toInt = b) : (a < b → if_icmp.holds .lt x y = true) ∧ (¬ a < b → if_icmp.holds .lt x y = false) := by subst ha hb; exact ⟨fun h => (tlt (Int32.lt_iff_toInt_lt.mpr h)).1, fun h => (flt (fun g => h (Int32.lt_iff_toInt_lt.mp g))).1⟩
theorem hs_ge {x y : Int32} {a b : Int} (ha : x.toInt = a) (hb : y.toInt = b) : (b ≤ a → if_icmp.holds .ge x y = true) ∧ (¬ b ≤ a → if_icmp.holds .ge x y = false) := by subst ha hb; exact ⟨fun h => (flt (fun g => by have := Int32.lt_iff_toInt_lt.mp g; omega)).2.1, fun h => (tlt (Int32.lt_iff_toInt_lt.mpr (by omega))).2.1⟩
theorem hs_gt {x y : Int32} {a b : Int} (ha : x.toInt = a) (hb : y.toInt = b) : (b < a → if_icmp.holds .gt x y = true) ∧ (¬ b < a → if_icmp.holds .gt x y = false) := by subst ha hb; exact ⟨fun h => (tlt (Int32.lt_iff_toInt_lt.mpr h)).2.2.1, fun h => (flt (fun g => h (Int32.lt_iff_toInt_lt.mp g))).2.2.1⟩
theorem hs_le {x y : Int32} {a b : Int} (ha : x.toInt = a) (hb : y.toInt = b) : (a ≤ b → if_icmp.holds .le x y = true) ∧ (¬ a ≤ b → if_icmp.holds .le x y = false) := by subst ha hb; exact ⟨fun h => (flt (fun g => by have := Int32.lt_iff_toInt_lt.mp g; omega)).2.2.2, fun h => (tlt (Int32.lt_iff_toInt_lt.mpr (by omega))).2.2.2⟩
theorem hs_eq {x y : Int32} : (x = y → if_icmp.holds .eq x y = true) ∧ (¬ x = y → if_icmp.holds .eq x y = false) := ⟨fun h => (teq h).1, fun h => (feq h).1⟩
theorem hs_ne {x y : Int32} : (¬ x = y → if_icmp.holds .ne x y = true) ∧ (¬ ¬ x = y → if_icmp.holds .ne x y = false) := ⟨fun h => (feq h).2, fun h => (teq (Decidable.not_not.mp h)).2⟩
theorem hl_eq {x y : Int64} : (x = y → if_icmp.holds .eq (lcmpW x y) 0 = true) ∧ (¬ x = y → if_icmp.holds .eq (lcmpW x y) 0 = false) := ⟨fun h => (teq ((lw_eq x y).mpr h)).1, fun h => (feq (fun g => h ((lw_eq x y).mp g))).1⟩
theorem hl_ne {x y : Int64} : (¬ x = y → if_icmp.holds .ne (lcmpW x y) 0 = true) ∧ (¬ ¬ x = y → if_icmp.holds .ne (lcmpW x y) 0 = false) := ⟨fun h => (feq (fun g => h ((lw_eq x y).mp g))).2, fun h => (teq ((lw_eq x y).mpr (Decidable.not_not.mp h))).2⟩
theorem hl_lt {x y : Int64} {a b : Int} (ha : x.toInt = a) (hb : y.toInt = b) : (a < b → if_icmp.holds .lt (lcmpW x y) 0 = true) ∧ (¬ a < b → if_icmp.holds .lt (lcmpW x y) 0 = false) := by subst ha hb; exact ⟨fun h => (tlt ((lw_lt x y).mpr (Int64.lt_iff_toInt_lt.mpr h))).1, fun h => (flt (fun g => h (Int64.lt_iff_toInt_lt.mp ((lw_lt x y).mp g)))).1⟩
theorem hl_ge {x y : Int64} {a b : Int} (ha : x.toInt = a) (hb : y.toInt = b) : (b ≤ a → if_icmp.holds .ge (lcmpW x y) 0 = true) ∧ (¬ b ≤ a → if_icmp.holds .ge (lcmpW x y) 0 = false) := by subst ha hb; exact ⟨fun h => (flt (fun g => by have := Int64.lt_iff_toInt_lt.mp ((lw_lt x y).mp g); omega)).2.1, fun h => (tlt ((lw_lt x y).mpr (Int64.lt_iff_toInt_lt.mpr (by omega)))).2.1⟩
theorem hl_gt {x y : Int64} {a b : Int} (ha : x.toInt = a) (hb : y.toInt = b) : (b < a → if_icmp.holds .gt (lcmpW x y) 0 = true) ∧ (¬ b < a → if_icmp.holds .gt (lcmpW x y) 0 = false) := by subst ha hb; exact ⟨fun h => (tlt ((lw_gt x y).mpr (Int64.lt_iff_toInt_lt.mpr h))).2.2.1, fun h => (flt (fun g => h (Int64.lt_iff_toInt_lt.mp ((lw_gt x y).mp g)))).2.2.1⟩
theorem hl_le {x y : Int64} {a b : Int} (ha : x.toInt = a) (hb : y.toInt = b) : (a ≤ b → if_icmp.holds .le (lcmpW x y) 0 = true) ∧ (¬ a ≤ b → if_icmp.holds .le (lcmpW x y) 0 = false) := by subst ha hb; exact ⟨fun h => (flt (fun g => by have := Int64.lt_iff_toInt_lt.mp ((lw_gt x y).mp g); omega)).2.2.2, fun h => (tlt ((lw_gt x y).mpr (Int64.lt_iff_toInt_lt.mpr (by omega)))).2.2.2⟩
theorem o_ifnullY (S : St p l e R s m args below meth c Z own bytes ml n0 ret nm T h cells slots) {o : Int} (hd : decode bytes pc = .ok (.ifnull o, 3)) (ho : 0 ≤ (pc : Int) + o) (hq : ((pc : Int) + o).toNat = q) (k : Wp p e below PO T (mkF m q L st)) : Wp p e below PO T (mkF m pc L (.null :: st)) :=
  o_st S (fun t X hx hy r => XS.ifnullYes X hx rfl rfl (hb hy hd) rfl ho hq r) k
theorem o_ifnullN (S : St p l e R s m args below meth c Z own bytes ml n0 ret nm T h cells slots) {o : Int} {b : Addr} (hd : decode bytes pc = .ok (.ifnull o, 3)) (hq : pc + 3 = q) (k : Wp p e below PO T (mkF m q L st)) : Wp p e below PO T (mkF m pc L (.ref b :: st)) := by
  subst hq
  exact o_st S (fun t X hx hy r => XS.ifnullNo X hx rfl (hb hy hd) rfl r) k
theorem o_ifnonnullY (S : St p l e R s m args below meth c Z own bytes ml n0 ret nm T h cells slots) {o : Int} {b : Addr} (hd : decode bytes pc = .ok (.ifnonnull o, 3)) (ho : 0 ≤ (pc : Int) + o) (hq : ((pc : Int) + o).toNat = q) (k : Wp p e below PO T (mkF m q L st)) : Wp p e below PO T (mkF m pc L (.ref b :: st)) :=
  o_st S (fun t X hx hy r => XS.ifnonnullYes X hx rfl rfl (hb hy hd) rfl ho hq r) k
theorem o_ifnonnullN (S : St p l e R s m args below meth c Z own bytes ml n0 ret nm T h cells slots) {o : Int} (hd : decode bytes pc = .ok (.ifnonnull o, 3)) (hq : pc + 3 = q) (k : Wp p e below PO T (mkF m q L st)) : Wp p e below PO T (mkF m pc L (.null :: st)) := by
  subst hq
  exact o_st S (fun t X hx hy r => XS.ifnonnullNo X hx rfl (hb hy hd) rfl r) k
/-! returns -/
theorem o_ret {Q : Option Value → Heap → Prop} {w : Option Value} (S : St p l e R s m args below meth c Z own bytes ml n0 ret nm T h cells slots) {g : JFrame} (hv : meth.sig.returnType = none → w = none) (hc : cells ≤ R.cells) (hs : slots ≤ R.slots) (qq : Q w h)
    (hst : ∀ fs : List Frame, At T m c below → T.vm.method? m = some meth → p.tables.exec = Jvm.exec → c.code = bytes → (∀ locs, Stand p l e R s m args below meth c T locs cells slots → (∀ (f : JFrame) (acts : List Action), f.method = m → f.locked = none → f.entered = [] → (doReturn e (T.setTop f) acts w).1 = T.setFrames fs) → Steps p.tables e below (T.setTop g) (T.setFrames fs))) : Wp p e below (Po s n0 R Q) T g := by
  obtain ⟨locs, X, N, eT, hx, hZ, hown, hby, hml, hlk, hn, hrt, hnm⟩ := S
  obtain ⟨fs, hr, hrun, hended, hW, hsame⟩ := X.leave (v := w) hv hlk
  refine ⟨_, _, hst fs X.here X.method' hx hby locs X hr, hrun, hended, _, _, rfl, ⟨?_, N⟩, ⟨_, rfl⟩, hW, hsame.mono hc hs⟩
  show Q w T.heap
  rw [eT]; exact qq
theorem o_retI {Q : Option Value → Heap → Prop} {z : Int32} (S : St p l e R s m args below meth c Z own bytes ml n0 ret nm T h cells slots) (hret : ret = some .int) (hd : decode bytes pc = .ok (.ireturn, 1)) (hc : cells ≤ R.cells) (hs : slots ≤ R.slots) (qq : Q (some (.int z)) h) : Wp p e below (Po s n0 R Q) T (mkF m pc L (.int z :: st)) := by
  have hrt : meth.sig.returnType = some .int := by obtain ⟨locs, X, N, eT, hx, hZ, hown, hby, hml, hlk, hn, hrt, hnm⟩ := S; rw [hrt, hret]
  refine o_ret S (w := some (.int z)) (fun h => by rw [hrt] at h; cases h) hc hs qq fun fs hA hm hx hby locs X hr => ?_
  exact retOut X hx hrt rfl (Or.inl ⟨rfl, Or.inl rfl, z, rfl⟩) (hb hby hd) hr
theorem o_retN {Q : Option Value → Heap → Prop} {z : Int32} {t : FieldType} (S : St p l e R s m args below meth c Z own bytes ml n0 ret nm T h cells slots) (hret : ret = some t) (ht : t = .boolean ∨ t = .byte ∨ t = .char ∨ t = .short) (hd : decode bytes pc = .ok (.ireturn, 1)) (hc : cells ≤ R.cells) (hs : slots ≤ R.slots) (hn : narrow t (.int z) = .int z) (qq : Q (some (.int z)) h) : Wp p e below (Po s n0 R Q) T (mkF m pc L (.int z :: st)) := by
  have hrt : meth.sig.returnType = some t := by obtain ⟨locs, X, N, eT, hx, hZ, hown, hby, hml, hlk, hn, hrt, hnm⟩ := S; rw [hrt, hret]
  refine o_ret S (w := some (.int z)) (fun h => by rw [hrt] at h; cases h) hc hs qq fun fs hA hm hx hby locs X hr => ?_
  exact retOut X hx hrt hn (Or.inl ⟨rfl, Or.inr ht, z, rfl⟩) (hb hby hd) hr
theorem o_retJ {Q : Option Value → Heap → Prop} {z : Int64} (S : St p l e R s m args below meth c Z own bytes ml n0 ret nm T h cells slots) (hret : ret = some .long) (hd : decode bytes pc = .ok (.lreturn, 1)) (hc : cells ≤ R.cells) (hs : slots ≤ R.slots) (qq : Q (some (.long z)) h) : Wp p e below (Po s n0 R Q) T (mkF m pc L (.long z :: st)) := by
  have hrt : meth.sig.returnType = some .long := by obtain ⟨locs, X, N, eT, hx, hZ, hown, hby, hml, hlk, hn, hrt, hnm⟩ := S; rw [hrt, hret]
  refine o_ret S (w := some (.long z)) (fun h => by rw [hrt] at h; cases h) hc hs qq fun fs hA hm hx hby locs X hr => ?_
  exact retOut X hx hrt rfl (Or.inr (Or.inl ⟨rfl, rfl, z, rfl⟩)) (hb hby hd) hr
theorem o_retR {Q : Option Value → Heap → Prop} {z : Value} {t : FieldType} (S : St p l e R s m args below meth c Z own bytes ml n0 ret nm T h cells slots) (hret : ret = some t) (ht : t.isReference = true) (hz : z.isRef = true) (hn : narrow t z = z) (hd : decode bytes pc = .ok (.areturn, 1)) (hc : cells ≤ R.cells) (hs : slots ≤ R.slots) (qq : Q (some z) h) : Wp p e below (Po s n0 R Q) T (mkF m pc L (z :: st)) := by
  have hrt : meth.sig.returnType = some t := by obtain ⟨locs, X, N, eT, hx, hZ, hown, hby, hml, hlk, hn, hrt, hnm⟩ := S; rw [hrt, hret]
  refine o_ret S (w := some z) (fun h => by rw [hrt] at h; cases h) hc hs qq fun fs hA hm hx hby locs X hr => ?_
  exact retOut X hx hrt hn (Or.inr (Or.inr (Or.inr (Or.inr ⟨rfl, ht, hz⟩)))) (hb hby hd) hr
theorem o_retV {Q : Option Value → Heap → Prop} (S : St p l e R s m args below meth c Z own bytes ml n0 ret nm T h cells slots) (hret : ret = none) (hd : decode bytes pc = .ok (.return_, 1)) (hc : cells ≤ R.cells) (hs : slots ≤ R.slots) (qq : Q none h) : Wp p e below (Po s n0 R Q) T (mkF m pc L []) := by
  have hrt : meth.sig.returnType = none := by obtain ⟨locs, X, N, eT, hx, hZ, hown, hby, hml, hlk, hn, hrt, hnm⟩ := S; rw [hrt, hret]
  exact o_ret S (w := none) (fun _ => rfl) hc hs qq fun fs hA hm hx hby locs X hr => X.returnOut hx hrt (hb hby hd) hr

/-! calls -/
theorem o_cut {A B : Prop} (k2 : A → B) (k1 : A) : B := k2 k1
theorem o_cutS {B : Prop} (S : St p l e R s m args below meth c Z own bytes ml n0 ret nm T h cells slots) {G : State → Prop} (k2 : (∀ T', St p l e R s m args below meth c Z own bytes ml n0 ret nm T' h cells slots → G T') → B) (k1 : ∀ T', St p l e R s m args below meth c Z own bytes ml n0 ret nm T' h cells slots → G T') : B := k2 k1
def Qp (r : Option Value) (h0 : Heap) : Option Value → Heap → Prop := fun v h => v = r ∧ h = h0
theorem o_si {a b : Int32} (h : a = b) : some (Value.int a) = some (Value.int b) := by rw [h]
theorem o_sj {a b : Int64} (h : a = b) : some (Value.long a) = some (Value.long b) := by rw [h]
theorem o_callS (S : St p l e R s m args below meth c Z own bytes ml n0 ret nm T h cells slots) {i : Nat} {y : MethodName} {bytes' : ByteArray} {maxL : Nat} {ret' : Option FieldType} {rm : Room} {W : Nat} {argsL rest : List Value} {Q : Option Value → Heap → Prop} {ps : List FieldType} {r' : Option FieldType}
    (w1 : (Jvm.Cond.methodLink own i y).before a0 Z = true) (w2 : (Jvm.Cond.static y).before a0 Z = true) (w3 : (Jvm.Cond.initialized y.cls).before a0 Z = true) (w4 : (Jvm.Cond.code y bytes' maxL ret').before a0 Z = true) (hy : y.cls ≠ "java/lang/invoke/MethodHandle" ∧ y.cls ≠ "java/lang/invoke/VarHandle")
    (K : Ct l y bytes' maxL ret' [] rm Z h n0 argsL.toArray Q) (hf : rm.frames + 1 ≤ R.frames) (hl : W + (maxL + 11) + rm.locals ≤ R.locals) (hL : L.size = ml) (hst : st = argsL.reverse ++ rest) (hsig : parseMethodDescriptor y.desc = some ⟨ps, r'⟩) (hlen : argsL.length = ps.length) (hW : (rest.map fun v => v.category).sum ≤ W)
    (hd : decode bytes pc = .ok (.invokestatic i, 3)) (hq : pc + 3 = q) (hc : cells + rm.cells ≤ R.cells) (hs : slots + rm.slots ≤ R.slots) (k : ∀ T' h' v, St p l e R s m args below meth c Z own bytes ml n0 ret nm T' h' (cells + rm.cells) (slots + rm.slots) → Q v h' → Wp p e below PO T' (mkF m q L (v.toList ++ rest))) : Wp p e below PO T (mkF m pc L st) := by
  subst hq
  obtain ⟨locs, X, N, eT, hx, hZ, hown, hby, hml, hlk, hn, hrt, hnm⟩ := S
  have hb0 := backOf (R := R) (s := s) (p := p) (e := e) (below := below) (args := args) (len := 3) (W := W) (Q := fun v h L => Q v h ∧ Fr n0 L) K hZ w4 w3 hf hl
  obtain ⟨v, vm, ⟨T', L', k', n'⟩, hwm, X', ⟨Lc, hQ, l1, y1, z1⟩, st1⟩ := Jvm.LawKit.callS X hx (y := y) hown (mvT hZ w1) (mvT hZ w2) (mvT hZ w3) (mvT hZ w4) hy hb0 (g := mkF m pc L st) rfl (by rw [hml]; exact hL) (argsL := argsL) (rest := rest) (lenOf hsig hlen) hst (by show 2 * 0 + _ ≤ _; omega) (hb hby hd) (fun _ _ => ⟨rfl, eT, hc, hs⟩)
  dsimp only [Pt.U, Pt.locs, Pt.cells, Pt.slots] at X' l1 y1 z1 st1 hQ
  subst l1 y1 z1
  exact o_to st1 (k T' T'.heap v ⟨_, X', N.app hQ.2, rfl, hx, hZ, hown, hby, hml, hlk, hn, hrt, hnm⟩ hQ.1)
theorem o_callI (S : St p l e R s m args below meth c Z own bytes ml n0 ret nm T h cells slots) {i : Nat} {y : MethodName} {bytes' : ByteArray} {maxL : Nat} {rm : Room} {W : Nat} {argsL rest : List Value} {Q : Option Value → Heap → Prop} {ps : List FieldType} {r' : Option FieldType} {a : Addr} (hy1 : y.name = "<init>")
    (w1 : (Jvm.Cond.methodLink own i y).before a0 Z = true) (w2 : (Jvm.Cond.instanceMethod y).before a0 Z = true) (w3 : (Jvm.Cond.initialized y.cls).before a0 Z = true) (w4 : (Jvm.Cond.code y bytes' maxL none).before a0 Z = true) (hy : y.cls ≠ "java/lang/invoke/MethodHandle" ∧ y.cls ≠ "java/lang/invoke/VarHandle")
    (K : Ct l y bytes' maxL none [] rm Z h n0 (.ref a :: argsL).toArray Q) (hf : rm.frames + 1 ≤ R.frames) (hl : W + (maxL + 11) + rm.locals ≤ R.locals) (hL : L.size = ml) (hst : st = argsL.reverse ++ .ref a :: rest) (hsig : parseMethodDescriptor y.desc = some ⟨ps, r'⟩) (hlen : argsL.length = ps.length) (hW : (rest.map fun v => v.category).sum ≤ W)
    (hd : decode bytes pc = .ok (.invokespecial i, 3)) (hq : pc + 3 = q) (hc : cells + rm.cells ≤ R.cells) (hs : slots + rm.slots ≤ R.slots) (k : ∀ T' h' v, St p l e R s m args below meth c Z own bytes ml n0 ret nm T' h' (cells + rm.cells) (slots + rm.slots) → Q v h' → Wp p e below PO T' (mkF m q L (v.toList ++ rest))) : Wp p e below PO T (mkF m pc L st) := by
  subst hq
  obtain ⟨locs, X, N, eT, hx, hZ, hown, hby, hml, hlk, hn, hrt, hnm⟩ := S
  have hb0 := backOf (R := R) (s := s) (p := p) (e := e) (below := below) (args := args) (len := 3) (W := W) (Q := fun v h L => Q v h ∧ Fr n0 L) K hZ w4 w3 hf hl
  obtain ⟨v, vm, ⟨T', L', k', n'⟩, hwm, X', ⟨Lc, hQ, l1, y1, z1⟩, st1⟩ := X.specialBack hx (y := y) hy1 hown (mvT hZ w1) (mvT hZ w2) (mvT hZ w4) hy hb0 (g := mkF m pc L st) rfl (by rw [hml]; exact hL) (Steps.refl _) (a := a) (argsL := argsL) (rest := rest) (lenOf hsig hlen) hst (by show 2 * 0 + _ ≤ _; omega) (hb hby hd) (fun _ _ => ⟨rfl, eT, hc, hs⟩)
  dsimp only [Pt.U, Pt.locs, Pt.cells, Pt.slots] at X' l1 y1 z1 st1 hQ
  subst l1 y1 z1
  exact o_to (fun t r => st1.trans r) (k T' T'.heap v ⟨_, X', N.app hQ.2, rfl, hx, hZ, hown, hby, hml, hlk, hn, hrt, hnm⟩ hQ.1)
theorem o_callV (S : St p l e R s m args below meth c Z own bytes ml n0 ret nm T h cells slots) {i : Nat} {y : MethodName} {bytes' : ByteArray} {maxL : Nat} {ret' : Option FieldType} {rm : Room} {W : Nat} {argsL rest : List Value} {Q : Option Value → Heap → Prop} {ps : List FieldType} {r' : Option FieldType} {a : Addr} {z : MethodName} {C : String}
    (w1 : (Jvm.Cond.methodLink own i y).before a0 Z = true) (w2 : (Jvm.Cond.declares y).before a0 Z = true) (w5 : (Jvm.Cond.selects C y z).before a0 Z = true) (w6 : (Jvm.Cond.instanceMethod z).before a0 Z = true) (w3 : (Jvm.Cond.initialized z.cls).before a0 Z = true) (w4 : (Jvm.Cond.code z bytes' maxL ret').before a0 Z = true) (nf : ∀ s' : State, Z.Warmed39 s'.vm → NotFace s' y) (hy : y.cls ≠ "java/lang/invoke/MethodHandle" ∧ y.cls ≠ "java/lang/invoke/VarHandle")
    (E : Exa Z h a C) (K : Ct l z bytes' maxL ret' [] rm Z h n0 (.ref a :: argsL).toArray Q) (hf : rm.frames + 1 ≤ R.frames) (hl : W + (maxL + 11) + rm.locals ≤ R.locals) (hL : L.size = ml) (hst : st = argsL.reverse ++ .ref a :: rest) (hsig : parseMethodDescriptor y.desc = some ⟨ps, r'⟩) (hlen : argsL.length = ps.length) (hW : (rest.map fun v => v.category).sum ≤ W)
    (hd : decode bytes pc = .ok (.invokevirtual i, 3)) (hq : pc + 3 = q) (hc : cells + rm.cells ≤ R.cells) (hs : slots + rm.slots ≤ R.slots) (k : ∀ T' h' v, St p l e R s m args below meth c Z own bytes ml n0 ret nm T' h' (cells + rm.cells) (slots + rm.slots) → Q v h' → Wp p e below PO T' (mkF m q L (v.toList ++ rest))) : Wp p e below PO T (mkF m pc L st) := by
  subst hq
  obtain ⟨locs, X, N, eT, hx, hZ, hown, hby, hml, hlk, hn, hrt, hnm⟩ := S
  have hb0 := backOf (R := R) (s := s) (p := p) (e := e) (below := below) (args := args) (len := 3) (W := W) (Q := fun v h L => Q v h ∧ Fr n0 L) K hZ w4 w3 hf hl
  obtain ⟨cq, kq, qa, qb, qc⟩ := isOf hZ eT E
  obtain ⟨v, vm, ⟨T', L', k', n'⟩, hwm, X', ⟨Lc, hQ, l1, y1, z1⟩, st1⟩ := X.virtualBack hx (y := y) (z := z) hown (mvT hZ w1) (mvT hZ w2) (nf s hZ) (mvT hZ w5) (mvT hZ w6) hy hb0 qa qc (g := mkF m pc L st) rfl (by rw [hml]; exact hL) (Steps.refl _) (argsL := argsL) (rest := rest) (lenOf hsig hlen) hst (by show 2 * 0 + _ ≤ _; omega) (hb hby hd) (fun _ _ => ⟨rfl, eT, hc, hs⟩)
  dsimp only [Pt.U, Pt.locs, Pt.cells, Pt.slots] at X' l1 y1 z1 st1 hQ
  subst l1 y1 z1
  exact o_to (fun t r => st1.trans r) (k T' T'.heap v ⟨_, X', N.app hQ.2, rfl, hx, hZ, hown, hby, hml, hlk, hn, hrt, hnm⟩ hQ.1)
theorem o_nf {y : MethodName} {C : String} (w : (Jvm.Cond.selects C y y).before a0 Z = true) : ∀ s' : State, Z.Warmed39 s'.vm → NotFace s' y := fun s' hZ => notFace_of_selects (args := #[]) (mvT hZ w)
theorem o_callP (S : St p l e R s m args below meth c Z own bytes ml n0 ret nm T h cells slots) {i : Nat} {y : MethodName} {bytes' : ByteArray} {maxL : Nat} {ret' : Option FieldType} {rm : Room} {W : Nat} {argsL rest : List Value} {Q : Option Value → Heap → Prop} {ps : List FieldType} {r' : Option FieldType} {a : Addr}
    (w1 : (Jvm.Cond.methodLink own i y).before a0 Z = true) (w2 : (Jvm.Cond.instanceMethod y).before a0 Z = true) (w5 : (Jvm.Cond.selects y.cls y y).before a0 Z = true) (w6 : (Jvm.Cond.privateMethod y).before a0 Z = true) (w3 : (Jvm.Cond.initialized y.cls).before a0 Z = true) (w4 : (Jvm.Cond.code y bytes' maxL ret').before a0 Z = true) (hy : y.cls ≠ "java/lang/invoke/MethodHandle" ∧ y.cls ≠ "java/lang/invoke/VarHandle")
    (E : Exa Z h a y.cls) (K : Ct l y bytes' maxL ret' [] rm Z h n0 (.ref a :: argsL).toArray Q) (hf : rm.frames + 1 ≤ R.frames) (hl : W + (maxL + 11) + rm.locals ≤ R.locals) (hL : L.size = ml) (hst : st = argsL.reverse ++ .ref a :: rest) (hsig : parseMethodDescriptor y.desc = some ⟨ps, r'⟩) (hlen : argsL.length = ps.length) (hW : (rest.map fun v => v.category).sum ≤ W)
    (hd : decode bytes pc = .ok (.invokevirtual i, 3)) (hq : pc + 3 = q) (hc : cells + rm.cells ≤ R.cells) (hs : slots + rm.slots ≤ R.slots) (k : ∀ T' h' v, St p l e R s m args below meth c Z own bytes ml n0 ret nm T' h' (cells + rm.cells) (slots + rm.slots) → Q v h' → Wp p e below PO T' (mkF m q L (v.toList ++ rest))) : Wp p e below PO T (mkF m pc L st) := by
  subst hq
  obtain ⟨locs, X, N, eT, hx, hZ, hown, hby, hml, hlk, hn, hrt, hnm⟩ := S
  have hb0 := backOf (R := R) (s := s) (p := p) (e := e) (below := below) (args := args) (len := 3) (W := W) (Q := fun v h L => Q v h ∧ Fr n0 L) K hZ w4 w3 hf hl
  obtain ⟨cq, qa, qb⟩ := E.cell
  obtain ⟨v, vm, ⟨T', L', k', n'⟩, hwm, X', ⟨Lc, hQ, l1, y1, z1⟩, st1⟩ := X.privateBack hx (y := y) hown (mvT hZ w1) (mvT hZ w2) (mvT hZ w5) (Cond.privateMethod_at (mvP hZ w6 (args := #[]))) (mvT hZ w4) hy hb0 (g := mkF m pc L st) rfl (by rw [hml]; exact hL) (Steps.refl _) (a := a) (by rw [eT]; exact qa) qb (argsL := argsL) (rest := rest) (lenOf hsig hlen) hst (by show 2 * 0 + _ ≤ _; omega) (hb hby hd) (fun _ _ => ⟨rfl, eT, hc, hs⟩)
  dsimp only [Pt.U, Pt.locs, Pt.cells, Pt.slots] at X' l1 y1 z1 st1 hQ
  subst l1 y1 z1
  exact o_to (fun t r => st1.trans r) (k T' T'.heap v ⟨_, X', N.app hQ.2, rfl, hx, hZ, hown, hby, hml, hlk, hn, hrt, hnm⟩ hQ.1)
theorem o_callS0 (S : St p l e R s m args below meth c Z own bytes ml n0 ret nm T h cells slots) {i : Nat} {y : MethodName} {bytes' : ByteArray} {maxL : Nat} {ret' : Option FieldType} {rm : Room} {W : Nat} {argsL rest : List Value} {ps : List FieldType} {r' : Option FieldType} {st' : List Value} {r : Option Value} 
    (w1 : (Jvm.Cond.methodLink own i y).before a0 Z = true) (w2 : (Jvm.Cond.static y).before a0 Z = true) (w3 : (Jvm.Cond.initialized y.cls).before a0 Z = true) (w4 : (Jvm.Cond.code y bytes' maxL ret').before a0 Z = true) (hy : y.cls ≠ "java/lang/invoke/MethodHandle" ∧ y.cls ≠ "java/lang/invoke/VarHandle")
    (K : Ct l y bytes' maxL ret' [] rm Z h n0 argsL.toArray (Qp r h)) (hf : rm.frames + 1 ≤ R.frames) (hl : W + (maxL + 11) + rm.locals ≤ R.locals) (hL : L.size = ml) (hst : st = argsL.reverse ++ rest) (hsig : parseMethodDescriptor y.desc = some ⟨ps, r'⟩) (hlen : argsL.length = ps.length) (hW : (rest.map fun v => v.category).sum ≤ W)
    (hd : decode bytes pc = .ok (.invokestatic i, 3)) (hq : pc + 3 = q) (hc : cells + rm.cells ≤ R.cells) (hs : slots + rm.slots ≤ R.slots) (hst' : r.toList ++ rest = st') (k : ∀ T', St p l e R s m args below meth c Z own bytes ml n0 ret nm T' h (cells + rm.cells) (slots + rm.slots) → Wp p e below PO T' (mkF m q L st')) : Wp p e below PO T (mkF m pc L st) := by
  subst hst'
  exact o_callS S w1 w2 w3 w4 hy K hf hl hL hst hsig hlen hW hd hq hc hs (fun T' h' v S' hQ => by obtain ⟨hv, hh⟩ := hQ; subst hv; rw [hh] at S'; exact k T' S')
theorem o_callI0 (S : St p l e R s m args below meth c Z own bytes ml n0 ret nm T h cells slots) {i : Nat} {y : MethodName} {bytes' : ByteArray} {maxL : Nat} {rm : Room} {W : Nat} {argsL rest : List Value} {ps : List FieldType} {r' : Option FieldType} {st' : List Value} {r : Option Value} {a : Addr} (hy1 : y.name = "<init>")
    (w1 : (Jvm.Cond.methodLink own i y).before a0 Z = true) (w2 : (Jvm.Cond.instanceMethod y).before a0 Z = true) (w3 : (Jvm.Cond.initialized y.cls).before a0 Z = true) (w4 : (Jvm.Cond.code y bytes' maxL none).before a0 Z = true) (hy : y.cls ≠ "java/lang/invoke/MethodHandle" ∧ y.cls ≠ "java/lang/invoke/VarHandle")
    (K : Ct l y bytes' maxL none [] rm Z h n0 (.ref a :: argsL).toArray (Qp r h)) (hf : rm.frames + 1 ≤ R.frames) (hl : W + (maxL + 11) + rm.locals ≤ R.locals) (hL : L.size = ml) (hst : st = argsL.reverse ++ .ref a :: rest) (hsig : parseMethodDescriptor y.desc = some ⟨ps, r'⟩) (hlen : argsL.length = ps.length) (hW : (rest.map fun v => v.category).sum ≤ W)
    (hd : decode bytes pc = .ok (.invokespecial i, 3)) (hq : pc + 3 = q) (hc : cells + rm.cells ≤ R.cells) (hs : slots + rm.slots ≤ R.slots) (hst' : r.toList ++ rest = st') (k : ∀ T', St p l e R s m args below meth c Z own bytes ml n0 ret nm T' h (cells + rm.cells) (slots + rm.slots) → Wp p e below PO T' (mkF m q L st')) : Wp p e below PO T (mkF m pc L st) := by
  subst hst'
  exact o_callI S hy1 w1 w2 w3 w4 hy K hf hl hL hst hsig hlen hW hd hq hc hs (fun T' h' v S' hQ => by obtain ⟨hv, hh⟩ := hQ; subst hv; rw [hh] at S'; exact k T' S')
theorem o_callV0 (S : St p l e R s m args below meth c Z own bytes ml n0 ret nm T h cells slots) {i : Nat} {y : MethodName} {bytes' : ByteArray} {maxL : Nat} {ret' : Option FieldType} {rm : Room} {W : Nat} {argsL rest : List Value} {ps : List FieldType} {r' : Option FieldType} {st' : List Value} {r : Option Value} {a : Addr} {z : MethodName} {C : String}
    (w1 : (Jvm.Cond.methodLink own i y).before a0 Z = true) (w2 : (Jvm.Cond.declares y).before a0 Z = true) (w5 : (Jvm.Cond.selects C y z).before a0 Z = true) (w6 : (Jvm.Cond.instanceMethod z).before a0 Z = true) (w3 : (Jvm.Cond.initialized z.cls).before a0 Z = true) (w4 : (Jvm.Cond.code z bytes' maxL ret').before a0 Z = true) (nf : ∀ s' : State, Z.Warmed39 s'.vm → NotFace s' y) (hy : y.cls ≠ "java/lang/invoke/MethodHandle" ∧ y.cls ≠ "java/lang/invoke/VarHandle")
    (E : Exa Z h a C) (K : Ct l z bytes' maxL ret' [] rm Z h n0 (.ref a :: argsL).toArray (Qp r h)) (hf : rm.frames + 1 ≤ R.frames) (hl : W + (maxL + 11) + rm.locals ≤ R.locals) (hL : L.size = ml) (hst : st = argsL.reverse ++ .ref a :: rest) (hsig : parseMethodDescriptor y.desc = some ⟨ps, r'⟩) (hlen : argsL.length = ps.length) (hW : (rest.map fun v => v.category).sum ≤ W)
    (hd : decode bytes pc = .ok (.invokevirtual i, 3)) (hq : pc + 3 = q) (hc : cells + rm.cells ≤ R.cells) (hs : slots + rm.slots ≤ R.slots) (hst' : r.toList ++ rest = st') (k : ∀ T', St p l e R s m args below meth c Z own bytes ml n0 ret nm T' h (cells + rm.cells) (slots + rm.slots) → Wp p e below PO T' (mkF m q L st')) : Wp p e below PO T (mkF m pc L st) := by
  subst hst'
  exact o_callV S w1 w2 w5 w6 w3 w4 nf hy E K hf hl hL hst hsig hlen hW hd hq hc hs (fun T' h' v S' hQ => by obtain ⟨hv, hh⟩ := hQ; subst hv; rw [hh] at S'; exact k T' S')
theorem o_callP0 (S : St p l e R s m args below meth c Z own bytes ml n0 ret nm T h cells slots) {i : Nat} {y : MethodName} {bytes' : ByteArray} {maxL : Nat} {ret' : Option FieldType} {rm : Room} {W : Nat} {argsL rest : List Value} {ps : List FieldType} {r' : Option FieldType} {st' : List Value} {r : Option Value} {a : Addr}
    (w1 : (Jvm.Cond.methodLink own i y).before a0 Z = true) (w2 : (Jvm.Cond.instanceMethod y).before a0 Z = true) (w5 : (Jvm.Cond.selects y.cls y y).before a0 Z = true) (w6 : (Jvm.Cond.privateMethod y).before a0 Z = true) (w3 : (Jvm.Cond.initialized y.cls).before a0 Z = true) (w4 : (Jvm.Cond.code y bytes' maxL ret').before a0 Z = true) (hy : y.cls ≠ "java/lang/invoke/MethodHandle" ∧ y.cls ≠ "java/lang/invoke/VarHandle")
    (E : Exa Z h a y.cls) (K : Ct l y bytes' maxL ret' [] rm Z h n0 (.ref a :: argsL).toArray (Qp r h)) (hf : rm.frames + 1 ≤ R.frames) (hl : W + (maxL + 11) + rm.locals ≤ R.locals) (hL : L.size = ml) (hst : st = argsL.reverse ++ .ref a :: rest) (hsig : parseMethodDescriptor y.desc = some ⟨ps, r'⟩) (hlen : argsL.length = ps.length) (hW : (rest.map fun v => v.category).sum ≤ W)
    (hd : decode bytes pc = .ok (.invokevirtual i, 3)) (hq : pc + 3 = q) (hc : cells + rm.cells ≤ R.cells) (hs : slots + rm.slots ≤ R.slots) (hst' : r.toList ++ rest = st') (k : ∀ T', St p l e R s m args below meth c Z own bytes ml n0 ret nm T' h (cells + rm.cells) (slots + rm.slots) → Wp p e below PO T' (mkF m q L st')) : Wp p e below PO T (mkF m pc L st) := by
  subst hst'
  exact o_callP S w1 w2 w5 w6 w3 w4 hy E K hf hl hL hst hsig hlen hW hd hq hc hs (fun T' h' v S' hQ => by obtain ⟨hv, hh⟩ := hQ; subst hv; rw [hh] at S'; exact k T' S')
/-! the heap -/
theorem o_initO (S : St p l e R s m args below meth c Z own bytes ml n0 ret nm T h cells slots) {i W : Nat} {a : Addr} (w1 : (Jvm.Cond.methodLink own i Lib.objectInit).before a0 Z = true) (w2 : (Jvm.Cond.instanceMethod Lib.objectInit).before a0 Z = true) (w3 : (Jvm.Cond.code Lib.objectInit ⟨#[0xb1]⟩ 1 none).before a0 Z = true) (hL : L.size = ml) (hd : decode bytes pc = .ok (.invokespecial i, 3)) (hq : pc + 3 = q) (hf : 1 ≤ R.frames) (hW : (st.map fun v => v.category).sum ≤ W) (hl : W + 12 ≤ R.locals)
    (k : ∀ T', St p l e R s m args below meth c Z own bytes ml n0 ret nm T' h cells slots → Wp p e below PO T' (mkF m q L st)) : Wp p e below PO T (mkF m pc L (.ref a :: st)) := by
  subst hq
  obtain ⟨locs, X, N, eT, hx, hZ, hown, hby, hml, hlk, hn, hrt, hnm⟩ := S
  obtain ⟨T', X', e', st'⟩ := initO X hx hZ hown w1 w2 w3 eT (g := mkF m pc L (.ref a :: st)) rfl (by rw [hml]; exact hL) rfl (hb hby hd) hf (W := W) (by show 2 * 0 + _ ≤ _; omega) hl
  exact o_to st' (k T' ⟨_, X', N, e', hx, hZ, hown, hby, hml, hlk, hn, hrt, hnm⟩)
theorem o_getF (S : St p l e R s m args below meth c Z own bytes ml n0 ret nm T h cells slots) {i : Nat} {R0 O n d : String} {a : Addr} {v : Value} (w : (Jvm.Cond.fieldLink own i R0 n d).before a0 Z = true) (via : Via Z R0 O n d) (F : Fld Z h a O n d v) (hd : decode bytes pc = .ok (.getfield i, 3)) (hq : pc + 3 = q)
    (k : ∀ T', St p l e R s m args below meth c Z own bytes ml n0 ret nm T' h cells slots → Wp p e below PO T' (mkF m q L (v :: st))) : Wp p e below PO T (mkF m pc L (.ref a :: st)) := by
  subst hq
  obtain ⟨locs, X, N, eT, hx, hZ, hown, hby, hml, hlk, hn, hrt, hnm⟩ := S
  obtain ⟨T', X', e', st'⟩ := getF X hx hZ hown (host := "") (Or.inl w) via eT F (g := mkF m pc L (.ref a :: st)) rfl rfl (hb hby hd)
  exact o_to st' (k T' ⟨_, X', N, e', hx, hZ, hown, hby, hml, hlk, hn, hrt, hnm⟩)
theorem o_putF (S : St p l e R s m args below meth c Z own bytes ml n0 ret nm T h cells slots) {i kk : Nat} {R0 O n d C : String} {ty : FieldType} {a : Addr} {v old : Value} (w : (Jvm.Cond.fieldLink own i R0 n d).before a0 Z = true) (via : Via Z R0 O n d) (F : Fld Z h a O n d old) (E : Exa Z h a C) (Lw : (Jvm.Cond.lays C O n d).before a0 Z = true ∨ ((Jvm.Cond.laysFinal C O n d).before a0 Z = true ∧ own = O ∧ nm = "<init>")) (wi : (Jvm.Cond.instantiable C kk).before a0 Z = true) (hty : parseFieldDescriptor d = some ty) (hn' : narrow ty v = v) (hf : fits ty v = true) (ga : n0 ≤ a) (hd : decode bytes pc = .ok (.putfield i, 3)) (hq : pc + 3 = q)
    (k : ∀ T' h', St p l e R s m args below meth c Z own bytes ml n0 ret nm T' h' cells slots → Wr h h' a (Jvm.RoadKit.slotOf Z O n d) v → Fld Z h' a O n d v → Wp p e below PO T' (mkF m q L st)) : Wp p e below PO T (mkF m pc L (v :: .ref a :: st)) := by
  subst hq
  obtain ⟨locs, X, N, eT, hx, hZ, hown, hby, hml, hlk, hn, hrt, hnm⟩ := S
  obtain ⟨T', h', X', e', W', st'⟩ := putF X hx hZ hown (host := "") (Or.inl w) via eT F E (Lw.imp id fun q => ⟨q.1, q.2.1, by rw [hnm]; exact q.2.2⟩) wi hty hn' hf (g := mkF m pc L (v :: .ref a :: st)) rfl rfl (hb hby hd)
  exact o_to st' (k T' h' ⟨_, X', Fr.snoc X' N ga, e', hx, hZ, hown, hby, hml, hlk, hn, hrt, hnm⟩ W' (F.same W'))
theorem o_new (S : St p l e R s m args below meth c Z own bytes ml n0 ret nm T h cells slots) {i n : Nat} {C : String} (w : (Jvm.Cond.classLink own i C).before a0 Z = true) (wi : (Jvm.Cond.instantiable C n).before a0 Z = true) (wz : (Jvm.Cond.initialized C).before a0 Z = true) (hd : decode bytes pc = .ok (.new i, 3)) (hq : pc + 3 = q) (hc : cells + 1 ≤ R.cells) (hl : slots + n ≤ R.slots)
    (k : ∀ T' h' a, St p l e R s m args below meth c Z own bytes ml n0 ret nm T' h' (cells + 1) (slots + n) → a = h.size → n0 ≤ a → Ext h h' → Exa Z h' a C → (∀ {O nm d : String} {ty : FieldType}, Laid Z a0 C O nm d → parseFieldDescriptor d = some ty → Fld Z h' a O nm d (defaultValue ty)) → Wp p e below PO T' (mkF m q L (.ref a :: st))) : Wp p e below PO T (mkF m pc L st) := by
  have g0 := o_n0 S
  subst hq
  obtain ⟨locs, X, N, eT, hx, hZ, hown, hby, hml, hlk, hn, hrt, hnm⟩ := S
  obtain ⟨T', h', X', e', E', A', D', -, st'⟩ := newO X hx hZ hown w wi wz eT (g := mkF m pc L st) rfl (hb hby hd) hc hl
  exact o_to st' (k T' h' h.size ⟨_, X', N, e', hx, hZ, hown, hby, hml, hlk, hn, hrt, hnm⟩ rfl g0 E' A' D')
/-! arrays of ints (bytes, booleans ..): the list of what they hold -/
def IA (Z : State) (h : Heap) (a : Addr) (ty : FieldType) (xs : List Int32) : Prop := ∃ c : Cell, Arr Z h a c ty ∧ c.slots.size = xs.length ∧ xs.length < 2147483648 ∧ (∀ i, i < xs.length → c.slots[i]? = some (.int (xs.getD i 0))) ∧ ∀ i, i < xs.length → fits ty (.int (xs.getD i 0)) = true
theorem IA.lt {a : Addr} {ty : FieldType} {xs : List Int32} (F : IA Z h a ty xs) : a < h.size := by obtain ⟨c, A, -⟩ := F; exact A.lt
theorem IA.ext {h' : Heap} {a : Addr} {ty : FieldType} {xs : List Int32} (F : IA Z h a ty xs) (E : Ext h h') : IA Z h' a ty xs := by obtain ⟨c, A, r⟩ := F; exact ⟨c, A.ext E, r⟩
theorem IA.other {h' : Heap} {a b : Addr} {sl : Nat} {v : Value} {ty : FieldType} {xs : List Int32} (F : IA Z h b ty xs) (W : Wr h h' a sl v) (q : b ≠ a) : IA Z h' b ty xs := by obtain ⟨c, A, r⟩ := F; exact ⟨c, A.other W q, r⟩
theorem IA.keep {h' : Heap} {a : Addr} {ws : List Addr} {ty : FieldType} {xs : List Int32} (F : IA Z h a ty xs) (K : Keep h h' ws) (q : a ∉ ws) : IA Z h' a ty xs := by obtain ⟨c, A, r⟩ := F; exact ⟨c, ⟨K.2.1 a c A.1 q, A.2⟩, r⟩
theorem IA.len {a : Addr} {ty : FieldType} {xs : List Int32} (F : IA Z h a ty xs) : xs.length < 2147483648 := by obtain ⟨c, A, h1, h2, -⟩ := F; exact h2
theorem o_nat {j : Int32} (h0 : 0 ≤ j.toInt) : ¬ j < 0 ∧ (j.toNatClampNeg : Int) = j.toInt := by
  have h1 : ¬ j < 0 := fun q => by have := Int32.lt_iff_toInt_lt.mp q; have : (0 : Int32).toInt = 0 := rfl; omega
  exact ⟨h1, (nat_of h1).symm⟩
theorem o_inb {j : Int32} {n N : Nat} (h0 : 0 ≤ j.toInt) (h1 : j.toInt < n) (hN : N = n) : ¬ (j < 0 ∨ N ≤ j.toNatClampNeg) := by
  obtain ⟨g1, g2⟩ := o_nat h0
  rintro (q | q)
  · exact g1 q
  · omega
theorem IA.set {h' : Heap} {a : Addr} {ty : FieldType} {xs : List Int32} {j x : Int32} (F : IA Z h a ty xs) (W : Wr h h' a j.toNatClampNeg (.int x)) (hf : fits ty (.int x) = true) : IA Z h' a ty (xs.set j.toNatClampNeg x) := by
  obtain ⟨c, A, h1, h2, h3, h4⟩ := F
  refine ⟨c.setSlot j.toNatClampNeg (.int x), A.same W, by rw [sz_set, h1]; simp, by simpa using h2, fun i hi => ?_, fun i hi => ?_⟩
  · rw [List.length_set] at hi
    by_cases q : j.toNatClampNeg = i
    · subst q
      have : j.toNatClampNeg < c.slots.size := by rw [h1]; exact hi
      simp [Cell.setSlot, this, hi, List.getD_eq_getElem?_getD]
    · have := h3 i hi
      simp only [Cell.setSlot, Array.getElem?_setIfInBounds_ne q, this, List.getD_eq_getElem?_getD, List.getElem?_set_ne q]
  · rw [List.length_set] at hi
    by_cases q : j.toNatClampNeg = i
    · subst q; simpa [hi, List.getD_eq_getElem?_getD] using hf
    · have := h4 i hi
      simpa only [List.getD_eq_getElem?_getD, List.getElem?_set_ne q] using this
theorem IA.new {a : Addr} {ty : FieldType} {k : ClassId} {n : Int32} (A : Arr Z h a (newA k ty n) ty) (hn : ¬ n < 0) (hd : defaultValue ty = .int 0) (hf : fits ty (.int 0) = true) : IA Z h a ty (List.replicate n.toNatClampNeg 0) := by
  have := (back32 hn).2
  refine ⟨_, A, by simp [newA], by simpa using this, fun i hi => ?_, fun i hi => ?_⟩
  · have hi' : i < n.toNatClampNeg := by simpa using hi
    simp [newA, hd, hi', List.getD_eq_getElem?_getD]
  · have hi' : i < n.toNatClampNeg := by simpa using hi
    simpa [List.getD_eq_getElem?_getD, hi'] using hf
theorem o_newarr (S : St p l e R s m args below meth c Z own bytes ml n0 ret nm T h cells slots) {aty : ArrayType} {n : Int32} {cap : Nat} (w : (Jvm.Cond.arrayClass (newarray.typeOf aty)).before a0 Z = true) (hd : decode bytes pc = .ok (.newarray aty, 2)) (hq : pc + 2 = q) (hn0 : 0 ≤ n.toInt) (hcap : n.toInt ≤ cap) (hb8 : cap * 8 ≤ 536870912) (hc : cells + 1 ≤ R.cells) (hl : slots + cap ≤ R.slots)
    (k : ∀ T' h' a cA, St p l e R s m args below meth c Z own bytes ml n0 ret nm T' h' (cells + 1) (slots + cap) → a = h.size → n0 ≤ a → Ext h h' → Arr Z h' a (newA cA (newarray.typeOf aty) n) (newarray.typeOf aty) → Wp p e below PO T' (mkF m q L (.ref a :: st))) : Wp p e below PO T (mkF m pc L (.int n :: st)) := by
  have g0 := o_n0 S
  obtain ⟨g1, g2⟩ := o_nat hn0
  subst hq
  obtain ⟨locs, X, N, eT, hx, hZ, hown, hby, hml, hlk, hn, hrt, hnm⟩ := S
  obtain ⟨T', h', cA, X', e', E', A', st'⟩ := newP X hx hZ w eT (g := mkF m pc L (.int n :: st)) rfl (hb hby hd) rfl g1 (cap := cap) (by omega) hb8 hc hl
  exact o_to st' (k T' h' h.size cA ⟨_, X', N, e', hx, hZ, hown, hby, hml, hlk, hn, hrt, hnm⟩ rfl g0 E' A')
theorem o_iaload (S : St p l e R s m args below meth c Z own bytes ml n0 ret nm T h cells slots) {a : Addr} {j v : Int32} {xs : List Int32} (F : IA Z h a .int xs) (h0 : 0 ≤ j.toInt) (h1 : j.toInt < xs.length) (hv : xs.getD j.toNatClampNeg 0 = v) (hd : decode bytes pc = .ok (.iaload, 1)) (hq : pc + 1 = q) (k : Wp p e below PO T (mkF m q L (.int v :: st))) : Wp p e below PO T (mkF m pc L (.int j :: .ref a :: st)) := by
  subst hq hv
  obtain ⟨locs, X, N, eT, hx, hZ, hown, hby, hml, hlk, hn, hrt, hnm⟩ := S
  obtain ⟨cl, A, g1, g2, g3, g4⟩ := F
  have g5 := (o_nat h0).2
  exact o_to (X.iaload hx (j := j) (by rw [eT]; exact A.1) (State.isArrayOf_alike hZ.alike A.2.1) A.2.2 (o_inb h0 h1 g1) (g3 _ (by omega)) (g := mkF m pc L (.int j :: .ref a :: st)) rfl rfl (hb hby hd)) k
theorem o_baload (S : St p l e R s m args below meth c Z own bytes ml n0 ret nm T h cells slots) {a : Addr} {j v : Int32} {xs : List Int32} (F : IA Z h a .byte xs) (h0 : 0 ≤ j.toInt) (h1 : j.toInt < xs.length) (hv : xs.getD j.toNatClampNeg 0 = v) (hd : decode bytes pc = .ok (.baload, 1)) (hq : pc + 1 = q) (k : Wp p e below PO T (mkF m q L (.int v :: st))) : Wp p e below PO T (mkF m pc L (.int j :: .ref a :: st)) := by
  subst hq hv
  obtain ⟨locs, X, N, eT, hx, hZ, hown, hby, hml, hlk, hn, hrt, hnm⟩ := S
  obtain ⟨cl, A, g1, g2, g3, g4⟩ := F
  have g5 := (o_nat h0).2
  exact o_to (X.baloadBytes hx (j := j) (by rw [eT]; exact A.1) (State.isArrayOf_alike hZ.alike A.2.1) A.2.2 (o_inb h0 h1 g1) (g3 _ (by omega)) (g := mkF m pc L (.int j :: .ref a :: st)) rfl rfl (hb hby hd)) k
theorem o_iastore (S : St p l e R s m args below meth c Z own bytes ml n0 ret nm T h cells slots) {a : Addr} {j x y : Int32} {xs ys : List Int32} (F : IA Z h a .int xs) (h0 : 0 ≤ j.toInt) (h1 : j.toInt < xs.length) (ga : n0 ≤ a) (hx' : x = y) (hys : xs.set j.toNatClampNeg y = ys) (hd : decode bytes pc = .ok (.iastore, 1)) (hq : pc + 1 = q) (k : ∀ T' h', St p l e R s m args below meth c Z own bytes ml n0 ret nm T' h' cells slots → Wr h h' a j.toNatClampNeg (.int y) → IA Z h' a .int ys → Wp p e below PO T' (mkF m q L st)) : Wp p e below PO T (mkF m pc L (.int x :: .int j :: .ref a :: st)) := by
  subst hq hys hx'
  obtain ⟨locs, X, N, eT, hx, hZ, hown, hby, hml, hlk, hn, hrt, hnm⟩ := S
  have F' := F
  obtain ⟨cl, A, g1, g2, g3, g4⟩ := F
  obtain ⟨T', h', X', e', W', st'⟩ := stI X hx hZ eT A (j := j) (x := x) (o_inb h0 h1 g1) (g := mkF m pc L (.int x :: .int j :: .ref a :: st)) rfl rfl (hb hby hd)
  exact o_to st' (k T' h' ⟨_, X', Fr.snoc X' N ga, e', hx, hZ, hown, hby, hml, hlk, hn, hrt, hnm⟩ W' (F'.set W' rfl))
theorem o_bastore (S : St p l e R s m args below meth c Z own bytes ml n0 ret nm T h cells slots) {a : Addr} {j x y : Int32} {xs ys : List Int32} (F : IA Z h a .byte xs) (h0 : 0 ≤ j.toInt) (h1 : j.toInt < xs.length) (ga : n0 ≤ a) (hx' : x.toInt8.toInt32 = y) (hys : xs.set j.toNatClampNeg y = ys) (hd : decode bytes pc = .ok (.bastore, 1)) (hq : pc + 1 = q) (k : ∀ T' h', St p l e R s m args below meth c Z own bytes ml n0 ret nm T' h' cells slots → Wr h h' a j.toNatClampNeg (.int y) → IA Z h' a .byte ys → Wp p e below PO T' (mkF m q L st)) : Wp p e below PO T (mkF m pc L (.int x :: .int j :: .ref a :: st)) := by
  subst hq hys hx'
  obtain ⟨locs, X, N, eT, hx, hZ, hown, hby, hml, hlk, hn, hrt, hnm⟩ := S
  have F' := F
  obtain ⟨cl, A, g1, g2, g3, g4⟩ := F
  obtain ⟨T', h', X', e', W', st'⟩ := stB X hx hZ eT A (j := j) (x := x) (o_inb h0 h1 g1) (g := mkF m pc L (.int x :: .int j :: .ref a :: st)) rfl rfl (hb hby hd)
  exact o_to st' (k T' h' ⟨_, X', Fr.snoc X' N ga, e', hx, hZ, hown, hby, hml, hlk, hn, hrt, hnm⟩ W' (F'.set W' (fits_nar_byte x)))
theorem o_arraylength (S : St p l e R s m args below meth c Z own bytes ml n0 ret nm T h cells slots) {a : Addr} {ty : FieldType} {xs : List Int32} {z : Int32} (F : IA Z h a ty xs) (hz : Int32.ofNat xs.length = z) (hd : decode bytes pc = .ok (.arraylength, 1)) (hq : pc + 1 = q) (k : Wp p e below PO T (mkF m q L (.int z :: st))) : Wp p e below PO T (mkF m pc L (.ref a :: st)) := by
  subst hq hz
  obtain ⟨locs, X, N, eT, hx, hZ, hown, hby, hml, hlk, hn, hrt, hnm⟩ := S
  obtain ⟨cl, A, g1, g2, g3, g4⟩ := F
  exact o_to (X.arraylength hx (by rw [eT]; exact A.1) (State.isArrayOf_alike hZ.alike A.2.1) (g := mkF m pc L (.ref a :: st)) rfl rfl (hb hby hd)) (by rw [g1]; exact k)
theorem o_bid {x : Int32} (h1 : -128 ≤ x.toInt) (h2 : x.toInt < 128) : x.toInt8.toInt32 = x := by
  rw [← Int32.toInt_inj]; have := c_i2b x; omega
theorem o_cid {x : Int32} (h1 : 0 ≤ x.toInt) (h2 : x.toInt < 65536) : x.toUInt32.toUInt16.toUInt32.toInt32 = x := by
  rw [← Int32.toInt_inj]; have := c_i2c x; omega
theorem o_i2bb (x : Int32) : x.toInt8.toInt32.toInt8.toInt32 = x.toInt8.toInt32 := o_bid (c_i2b x).2.1 (c_i2b x).2.2
theorem o_narB {x : Int32} (h1 : -128 ≤ x.toInt) (h2 : x.toInt < 128) : narrow .byte (.int x) = .int x := by show Value.int _ = _; rw [o_bid h1 h2]
theorem o_narC {x : Int32} (h1 : 0 ≤ x.toInt) (h2 : x.toInt < 65536) : narrow .char (.int x) = .int x := by show Value.int _ = _; rw [o_cid h1 h2]
theorem o_narZ {x : Int32} (h : x = 0 ∨ x = 1) : narrow .boolean (.int x) = .int x := by rcases h with rfl | rfl <;> rfl
theorem o_split64 (x M m : Int64) (h1 : M ||| m = -1) (h0 : M &&& m = 0) : (x &&& M) ||| (x &&& m) = x ∧ (x &&& M) &&& m = 0 := by
  refine ⟨?_, by rw [Int64.and_assoc, h0, Int64.and_zero]⟩
  have q : x &&& (M ||| m) = (x &&& M) ||| (x &&& m) := Int64.toBitVec_inj.1 BitVec.and_or_distrib_left
  rw [← q, h1, Int64.and_neg_one]
theorem o_ne32 {x y : Int32} (h : x.toInt ≠ y.toInt) : x ≠ y := fun q => h (by rw [q])
theorem o_eq32 {x y : Int32} (h : x.toInt = y.toInt) : x = y := Int32.toInt_inj.mp h
theorem o_newarrE (S : St p l e R s m args below meth c Z own bytes ml n0 ret nm T h cells slots) {aty : ArrayType} {n : Int32} {cap : Nat} {ad : String} (w : (Jvm.Cond.arrayClass (newarray.typeOf aty)).before a0 Z = true) (had : "[" ++ (newarray.typeOf aty).toString = ad) (hd : decode bytes pc = .ok (.newarray aty, 2)) (hq : pc + 2 = q) (hn0 : 0 ≤ n.toInt) (hcap : n.toInt ≤ cap) (hb8 : cap * 8 ≤ 536870912) (hc : cells + 1 ≤ R.cells) (hl : slots + cap ≤ R.slots)
    (k : ∀ T' h' a cA, St p l e R s m args below meth c Z own bytes ml n0 ret nm T' h' (cells + 1) (slots + cap) → a = h.size → n0 ≤ a → Ext h h' → Arr Z h' a (newA cA (newarray.typeOf aty) n) (newarray.typeOf aty) → Exa Z h' a ad → Wp p e below PO T' (mkF m q L (.ref a :: st))) : Wp p e below PO T (mkF m pc L (.int n :: st)) := by
  have g0 := o_n0 S
  obtain ⟨g1, g2⟩ := o_nat hn0
  subst hq
  obtain ⟨locs, X, N, eT, hx, hZ, hown, hby, hml, hlk, hn, hrt, hnm⟩ := S
  obtain ⟨T', h', cA, X', e', E', A', EE, st'⟩ := newPE X hx hZ w eT (g := mkF m pc L (.int n :: st)) rfl (hb hby hd) rfl g1 (cap := cap) (by omega) hb8 hc hl had
  exact o_to st' (k T' h' h.size cA ⟨_, X', N, e', hx, hZ, hown, hby, hml, hlk, hn, hrt, hnm⟩ rfl g0 E' A' EE)
theorem IA.fitC {a : Addr} {ty : FieldType} {xs : List Int32} {c : Cell} (A : Arr Z h a c ty) (h1 : c.slots.size = xs.length) (h3 : ∀ i, i < xs.length → c.slots[i]? = some (.int (xs.getD i 0))) (h4 : ∀ i, i < xs.length → fits ty (.int (xs.getD i 0)) = true) : FitC Z c := fitC_of A fun i hi v hv => by
  rw [h3 i (by omega)] at hv; cases hv; exact h4 i (by omega)
theorem o_clone (S : St p l e R s m args below meth c Z own bytes ml n0 ret nm T h cells slots) {i W cap : Nat} {ad : String} {a : Addr} {ty : FieldType} {xs : List Int32} (w1 : (Jvm.Cond.methodLink own i ⟨ad, "clone", "()Ljava/lang/Object;"⟩).before a0 Z = true) (w2 : (Jvm.Cond.sameMethod ad "java/lang/Object" "clone" "()Ljava/lang/Object;").before a0 Z = true) (w3 : (Jvm.Cond.native ⟨"java/lang/Object", "clone", "()Ljava/lang/Object;"⟩).before a0 Z = true) (w4 : (Jvm.Cond.instanceMethod ⟨"java/lang/Object", "clone", "()Ljava/lang/Object;"⟩).before a0 Z = true) (w5 : (Jvm.Cond.selects ad ⟨ad, "clone", "()Ljava/lang/Object;"⟩ ⟨"java/lang/Object", "clone", "()Ljava/lang/Object;"⟩).before a0 Z = true) (w6 : (Jvm.Cond.castable ad "java/lang/Cloneable").before a0 Z = true)
    (F : IA Z h a ty xs) (E : Exa Z h a ad) (hL : L.size = ml) (hd : decode bytes pc = .ok (.invokevirtual i, 3)) (hq : pc + 3 = q) (hf : 1 ≤ R.frames) (hW : (st.map fun v => v.category).sum ≤ W) (hl : W + 14 ≤ R.locals) (hcap : xs.length ≤ cap) (hc : cells + 1 ≤ R.cells) (hs : slots + cap ≤ R.slots)
    (k : ∀ T' h' b, St p l e R s m args below meth c Z own bytes ml n0 ret nm T' h' (cells + 1) (slots + cap) → b = h.size → n0 ≤ b → Ext h h' → IA Z h' b ty xs → Exa Z h' b ad → Wp p e below PO T' (mkF m q L (.ref b :: st))) : Wp p e below PO T (mkF m pc L (.ref a :: st)) := by
  have g0 := o_n0 S
  subst hq
  obtain ⟨locs, X, N, eT, hx, hZ, hown, hby, hml, hlk, hn, hrt, hnm⟩ := S
  obtain ⟨cl, A, h1, h2, h3, h4⟩ := F
  obtain ⟨T', h', X', e', Ex, A', E', st'⟩ := cloneA X hx hZ hown w1 w2 w3 w4 w5 w6 eT A E (IA.fitC A h1 h3 h4) (g := mkF m pc L (.ref a :: st)) rfl (by rw [hml]; exact hL) rfl (hb hby hd) hf (W := W) (cap := cap) (by show 2 * 0 + _ ≤ _; omega) hl (by omega) hc hs
  exact o_to st' (k T' h' h.size ⟨_, X', N, e', hx, hZ, hown, hby, hml, hlk, hn, hrt, hnm⟩ rfl g0 Ex ⟨_, A', h1, h2, h3, h4⟩ E')
theorem o_castY (S : St p l e R s m args below meth c Z own bytes ml n0 ret nm T h cells slots) {i : Nat} {K : String} {a : Addr} (w : (Jvm.Cond.classLink own i K).before a0 Z = true) (F : Ins Z h a K true) (hd : decode bytes pc = .ok (.checkcast i, 3)) (hq : pc + 3 = q) (k : ∀ T', St p l e R s m args below meth c Z own bytes ml n0 ret nm T' h cells slots → Wp p e below PO T' (mkF m q L (.ref a :: st))) : Wp p e below PO T (mkF m pc L (.ref a :: st)) := by
  subst hq
  obtain ⟨locs, X, N, eT, hx, hZ, hown, hby, hml, hlk, hn, hrt, hnm⟩ := S
  obtain ⟨T', X', e', st'⟩ := castY X hx hZ hown w eT F (g := mkF m pc L (.ref a :: st)) rfl rfl (hb hby hd)
  exact o_to st' (k T' ⟨_, X', N, e', hx, hZ, hown, hby, hml, hlk, hn, hrt, hnm⟩)
theorem o_instY (S : St p l e R s m args below meth c Z own bytes ml n0 ret nm T h cells slots) {i : Nat} {K : String} {a : Addr} (w : (Jvm.Cond.classLink own i K).before a0 Z = true) (F : Ins Z h a K true) (hd : decode bytes pc = .ok (.instanceof i, 3)) (hq : pc + 3 = q) (k : ∀ T', St p l e R s m args below meth c Z own bytes ml n0 ret nm T' h cells slots → Wp p e below PO T' (mkF m q L (.int 1 :: st))) : Wp p e below PO T (mkF m pc L (.ref a :: st)) := by
  subst hq
  obtain ⟨locs, X, N, eT, hx, hZ, hown, hby, hml, hlk, hn, hrt, hnm⟩ := S
  obtain ⟨T', X', e', st'⟩ := instY X hx hZ hown w eT F (g := mkF m pc L (.ref a :: st)) rfl rfl (hb hby hd)
  exact o_to st' (k T' ⟨_, X', N, e', hx, hZ, hown, hby, hml, hlk, hn, hrt, hnm⟩)
theorem o_instN (S : St p l e R s m args below meth c Z own bytes ml n0 ret nm T h cells slots) {i : Nat} {K C : String} {a : Addr} (w : (Jvm.Cond.classLink own i K).before a0 Z = true) (E : Exa Z h a C) (F : ∃ c t, Z.vm.findClass C = some c ∧ Z.vm.findClass K = some t ∧ Z.vm.assignable c t = false) (hd : decode bytes pc = .ok (.instanceof i, 3)) (hq : pc + 3 = q) (k : ∀ T', St p l e R s m args below meth c Z own bytes ml n0 ret nm T' h cells slots → Wp p e below PO T' (mkF m q L (.int 0 :: st))) : Wp p e below PO T (mkF m pc L (.ref a :: st)) := by
  subst hq
  obtain ⟨locs, X, N, eT, hx, hZ, hown, hby, hml, hlk, hn, hrt, hnm⟩ := S
  obtain ⟨T', X', e', st'⟩ := instNo X hx hZ hown w eT E F (g := mkF m pc L (.ref a :: st)) rfl rfl (hb hby hd)
  exact o_to st' (k T' ⟨_, X', N, e', hx, hZ, hown, hby, hml, hlk, hn, hrt, hnm⟩)
theorem o_instNull (S : St p l e R s m args below meth c Z own bytes ml n0 ret nm T h cells slots) {i : Nat} (hd : decode bytes pc = .ok (.instanceof i, 3)) (hq : pc + 3 = q) (k : Wp p e below PO T (mkF m q L (.int 0 :: st))) : Wp p e below PO T (mkF m pc L (.null :: st)) := by
  subst hq
  obtain ⟨locs, X, N, eT, hx, hZ, hown, hby, hml, hlk, hn, hrt, hnm⟩ := S
  exact o_to (X.instanceofNull hx (g := mkF m pc L (.null :: st)) rfl rfl (hb hby hd)) k
theorem o_getS (S : St p l e R s m args below meth c Z own bytes ml n0 ret nm T h cells slots) {i : Nat} {O n d : String} {v : Value} (w : (Jvm.Cond.fieldLink own i O n d).before a0 Z = true) (F : Sta Z h O n d v) (hd : decode bytes pc = .ok (.getstatic i, 3)) (hq : pc + 3 = q) (k : ∀ T', St p l e R s m args below meth c Z own bytes ml n0 ret nm T' h cells slots → Wp p e below PO T' (mkF m q L (v :: st))) : Wp p e below PO T (mkF m pc L st) := by
  subst hq
  obtain ⟨locs, X, N, eT, hx, hZ, hown, hby, hml, hlk, hn, hrt, hnm⟩ := S
  obtain ⟨T', X', e', st'⟩ := getS X hx hZ (host := "") hown w Via.refl eT F (g := mkF m pc L st) rfl (hb hby hd)
  exact o_to st' (k T' ⟨_, X', N, e', hx, hZ, hown, hby, hml, hlk, hn, hrt, hnm⟩)
theorem o_aaloadA (S : St p l e R s m args below meth c Z own bytes ml n0 ret nm T h cells slots) {a : Addr} {cl : Cell} {ty : FieldType} {j : Int32} {v : Value} (A : Arr Z h a cl ty) (hty : ty.isReference = true) (hin : ¬ (j < 0 ∨ cl.slots.size ≤ j.toNatClampNeg)) (hv : cl.slots[j.toNatClampNeg]? = some v) (hd : decode bytes pc = .ok (.aaload, 1)) (hq : pc + 1 = q) (k : Wp p e below PO T (mkF m q L (v :: st))) : Wp p e below PO T (mkF m pc L (.int j :: .ref a :: st)) := by
  subst hq
  obtain ⟨locs, X, N, eT, hx, hZ, hown, hby, hml, hlk, hn, hrt, hnm⟩ := S
  exact o_to (X.aaload hx (j := j) (by rw [eT]; exact A.1) (State.isArrayOf_alike hZ.alike A.2.1) hty A.2.2 hin hv (g := mkF m pc L (.int j :: .ref a :: st)) rfl rfl (hb hby hd)) k
/-! arrays of references -/
def RA (Z : State) (h : Heap) (a : Addr) (C : String) (vs : List Value) : Prop := ∃ c : Cell, Arr Z h a c (.object C) ∧ Ovr Z c.cls C ∧ c.slots.size = vs.length ∧ vs.length < 2147483648 ∧ ∀ i, i < vs.length → c.slots[i]? = some (vs.getD i .null)
theorem RA.lt {a : Addr} {C : String} {vs : List Value} (F : RA Z h a C vs) : a < h.size := by obtain ⟨c, A, -⟩ := F; exact A.lt
theorem RA.ext {h' : Heap} {a : Addr} {C : String} {vs : List Value} (F : RA Z h a C vs) (E : Ext h h') : RA Z h' a C vs := by obtain ⟨c, A, r⟩ := F; exact ⟨c, A.ext E, r⟩
theorem RA.other {h' : Heap} {a b : Addr} {sl : Nat} {v : Value} {C : String} {vs : List Value} (F : RA Z h b C vs) (W : Wr h h' a sl v) (q : b ≠ a) : RA Z h' b C vs := by obtain ⟨c, A, r⟩ := F; exact ⟨c, A.other W q, r⟩
theorem RA.keep {h' : Heap} {a : Addr} {ws : List Addr} {C : String} {vs : List Value} (F : RA Z h a C vs) (K : Keep h h' ws) (q : a ∉ ws) : RA Z h' a C vs := by obtain ⟨c, A, r⟩ := F; exact ⟨c, ⟨K.2.1 a c A.1 q, A.2⟩, r⟩
theorem RA.set {h' : Heap} {a : Addr} {C : String} {vs : List Value} {j : Int32} {x : Value} (F : RA Z h a C vs) (W : Wr h h' a j.toNatClampNeg x) : RA Z h' a C (vs.set j.toNatClampNeg x) := by
  obtain ⟨c, A, O, h1, h2, h3⟩ := F
  refine ⟨c.setSlot j.toNatClampNeg x, A.same W, O, by rw [sz_set, h1]; simp, by simpa using h2, fun i hi => ?_⟩
  rw [List.length_set] at hi
  by_cases q : j.toNatClampNeg = i
  · subst q
    have : j.toNatClampNeg < c.slots.size := by rw [h1]; exact hi
    simp [Cell.setSlot, this, hi, List.getD_eq_getElem?_getD]
  · have := h3 i hi
    simp only [Cell.setSlot, Array.getElem?_setIfInBounds_ne q, this, List.getD_eq_getElem?_getD, List.getElem?_set_ne q]
theorem o_anewarr (S : St p l e R s m args below meth c Z own bytes ml n0 ret nm T h cells slots) {i : Nat} {C : String} {n : Int32} {cap : Nat} (w1 : (Jvm.Cond.classLink own i C).before a0 Z = true) (w2 : (Jvm.Cond.arrayOver (.object C)).before a0 Z = true) (hd : decode bytes pc = .ok (.anewarray i, 3)) (hq : pc + 3 = q) (hn0 : 0 ≤ n.toInt) (hcap : n.toInt ≤ cap) (hb8 : cap * 8 ≤ 536870912) (hc : cells + 1 ≤ R.cells) (hl : slots + cap ≤ R.slots)
    (k : ∀ T' h' a, St p l e R s m args below meth c Z own bytes ml n0 ret nm T' h' (cells + 1) (slots + cap) → a = h.size → n0 ≤ a → Ext h h' → RA Z h' a C (List.replicate n.toNatClampNeg .null) → Wp p e below PO T' (mkF m q L (.ref a :: st))) : Wp p e below PO T (mkF m pc L (.int n :: st)) := by
  have g0 := o_n0 S
  obtain ⟨g1, g2⟩ := o_nat hn0
  subst hq
  obtain ⟨locs, X, N, eT, hx, hZ, hown, hby, hml, hlk, hn, hrt, hnm⟩ := S
  obtain ⟨T', h', cA, X', e', E', A', O', st'⟩ := newR X hx hZ hown w1 w2 eT (g := mkF m pc L (.int n :: st)) rfl (hb hby hd) rfl g1 (cap := cap) (by omega) hb8 hc hl
  refine o_to st' (k T' h' h.size ⟨_, X', N, e', hx, hZ, hown, hby, hml, hlk, hn, hrt, hnm⟩ rfl g0 E' ⟨_, A', O', by simp [newA], by have := (back32 g1).2; simpa using this, fun i hi => ?_⟩)
  have hi' : i < n.toNatClampNeg := by simpa using hi
  simp [newA, defaultValue, hi', List.getD_eq_getElem?_getD]
theorem o_aaload (S : St p l e R s m args below meth c Z own bytes ml n0 ret nm T h cells slots) {a : Addr} {C : String} {j : Int32} {v : Value} {vs : List Value} (F : RA Z h a C vs) (h0 : 0 ≤ j.toInt) (h1 : j.toInt < vs.length) (hv : vs.getD j.toNatClampNeg .null = v) (hd : decode bytes pc = .ok (.aaload, 1)) (hq : pc + 1 = q) (k : Wp p e below PO T (mkF m q L (v :: st))) : Wp p e below PO T (mkF m pc L (.int j :: .ref a :: st)) := by
  obtain ⟨cl, A, O, g1, g2, g3⟩ := F
  subst hv
  have g5 := (o_nat h0).2
  exact o_aaloadA S A rfl (o_inb h0 h1 g1) (g3 _ (by omega)) hd hq k
theorem o_aastore (S : St p l e R s m args below meth c Z own bytes ml n0 ret nm T h cells slots) {a : Addr} {C : String} {j : Int32} {x : Value} {vs ys : List Value} (F : RA Z h a C vs) (h0 : 0 ≤ j.toInt) (h1 : j.toInt < vs.length) (ga : n0 ≤ a) (hst : x = .null ∨ ∃ y, x = .ref y ∧ Ins Z h y C true) (hys : vs.set j.toNatClampNeg x = ys) (hd : decode bytes pc = .ok (.aastore, 1)) (hq : pc + 1 = q) (k : ∀ T' h', St p l e R s m args below meth c Z own bytes ml n0 ret nm T' h' cells slots → Wr h h' a j.toNatClampNeg x → RA Z h' a C ys → Wp p e below PO T' (mkF m q L st)) : Wp p e below PO T (mkF m pc L (x :: .int j :: .ref a :: st)) := by
  subst hq hys
  obtain ⟨locs, X, N, eT, hx, hZ, hown, hby, hml, hlk, hn, hrt, hnm⟩ := S
  have F' := F
  obtain ⟨cl, A, O, g1, g2, g3⟩ := F
  have hS : Sto Z h a x := by
    rcases hst with rfl | ⟨y, rfl, I⟩
    · exact Or.inl rfl
    · exact Sto.of A O I
  obtain ⟨T', h', X', e', W', st'⟩ := stR X hx hZ eT A (j := j) (o_inb h0 h1 g1) rfl hS (g := mkF m pc L (x :: .int j :: .ref a :: st)) rfl rfl (hb hby hd)
  exact o_to st' (k T' h' ⟨_, X', Fr.snoc X' N ga, e', hx, hZ, hown, hby, hml, hlk, hn, hrt, hnm⟩ W' (F'.set W'))
theorem o_acmp (S : St p l e R s m args below meth c Z own bytes ml n0 ret nm T h cells slots) {cd : ACond} {x y : Value} {o : Int} {same : Bool} (h1 : x.isRef = true) (h2 : y.isRef = true) (hs : decide (x = y) = same) (hd : decode bytes pc = .ok (.if_acmp cd o, 3)) (ho : 0 ≤ (pc : Int) + o) (hp : q = if acV cd same = true then ((pc : Int) + o).toNat else pc + 3) (k : Wp p e below PO T (mkF m q L st)) : Wp p e below PO T (mkF m pc L (y :: x :: st)) := by
  obtain ⟨locs, X, N, eT, hx, hZ, hown, hby, hml, hlk, hn, hrt, hnm⟩ := S
  exact o_to (fun t r => Jvm.RoadKit.acmp (g := mkF m pc L (y :: x :: st)) X hx rfl h1 h2 rfl (hb hby hd) rfl hs ho hp r) k
/-! arrays of longs -/
def LA (Z : State) (h : Heap) (a : Addr) (xs : List Int64) : Prop := ∃ c : Cell, Arr Z h a c .long ∧ c.slots.size = xs.length ∧ xs.length < 2147483648 ∧ ∀ i, i < xs.length → c.slots[i]? = some (.long (xs.getD i 0))
theorem LA.lt {a : Addr} {xs : List Int64} (F : LA Z h a xs) : a < h.size := by obtain ⟨c, A, -⟩ := F; exact A.lt
theorem LA.ext {h' : Heap} {a : Addr} {xs : List Int64} (F : LA Z h a xs) (E : Ext h h') : LA Z h' a xs := by obtain ⟨c, A, r⟩ := F; exact ⟨c, A.ext E, r⟩
theorem LA.other {h' : Heap} {a b : Addr} {sl : Nat} {v : Value} {xs : List Int64} (F : LA Z h b xs) (W : Wr h h' a sl v) (q : b ≠ a) : LA Z h' b xs := by obtain ⟨c, A, r⟩ := F; exact ⟨c, A.other W q, r⟩
theorem LA.keep {h' : Heap} {a : Addr} {ws : List Addr} {xs : List Int64} (F : LA Z h a xs) (K : Keep h h' ws) (q : a ∉ ws) : LA Z h' a xs := by obtain ⟨c, A, r⟩ := F; exact ⟨c, ⟨K.2.1 a c A.1 q, A.2⟩, r⟩
theorem LA.new {a : Addr} {k : ClassId} {n : Int32} (A : Arr Z h a (newA k .long n) .long) (hn : ¬ n < 0) : LA Z h a (List.replicate n.toNatClampNeg 0) := by
  have := (back32 hn).2
  refine ⟨_, A, by simp [newA], by simpa using this, fun i hi => ?_⟩
  have hi' : i < n.toNatClampNeg := by simpa using hi
  simp [newA, defaultValue, hi', List.getD_eq_getElem?_getD]
theorem LA.set {h' : Heap} {a : Addr} {xs : List Int64} {j : Int32} {x : Int64} (F : LA Z h a xs) (W : Wr h h' a j.toNatClampNeg (.long x)) : LA Z h' a (xs.set j.toNatClampNeg x) := by
  obtain ⟨c, A, h1, h2, h3⟩ := F
  refine ⟨c.setSlot j.toNatClampNeg (.long x), A.same W, by rw [sz_set, h1]; simp, by simpa using h2, fun i hi => ?_⟩
  rw [List.length_set] at hi
  by_cases q : j.toNatClampNeg = i
  · subst q
    have : j.toNatClampNeg < c.slots.size := by rw [h1]; exact hi
    simp [Cell.setSlot, this, hi, List.getD_eq_getElem?_getD]
  · have := h3 i hi
    simp only [Cell.setSlot, Array.getElem?_setIfInBounds_ne q, this, List.getD_eq_getElem?_getD, List.getElem?_set_ne q]
theorem o_laload (S : St p l e R s m args below meth c Z own bytes ml n0 ret nm T h cells slots) {a : Addr} {j : Int32} {v : Int64} {xs : List Int64} (F : LA Z h a xs) (h0 : 0 ≤ j.toInt) (h1 : j.toInt < xs.length) (hv : xs.getD j.toNatClampNeg 0 = v) (hd : decode bytes pc = .ok (.laload, 1)) (hq : pc + 1 = q) (k : Wp p e below PO T (mkF m q L (.long v :: st))) : Wp p e below PO T (mkF m pc L (.int j :: .ref a :: st)) := by
  subst hq hv
  obtain ⟨locs, X, N, eT, hx, hZ, hown, hby, hml, hlk, hn, hrt, hnm⟩ := S
  obtain ⟨cl, A, g1, g2, g3⟩ := F
  have g5 := (o_nat h0).2
  exact o_to (X.laload hx (j := j) (by rw [eT]; exact A.1) (State.isArrayOf_alike hZ.alike A.2.1) A.2.2 (o_inb h0 h1 g1) (g3 _ (by omega)) (g := mkF m pc L (.int j :: .ref a :: st)) rfl rfl (hb hby hd)) k
theorem o_lastore (S : St p l e R s m args below meth c Z own bytes ml n0 ret nm T h cells slots) {a : Addr} {j : Int32} {x : Int64} {xs ys : List Int64} (F : LA Z h a xs) (h0 : 0 ≤ j.toInt) (h1 : j.toInt < xs.length) (ga : n0 ≤ a) (hys : xs.set j.toNatClampNeg x = ys) (hd : decode bytes pc = .ok (.lastore, 1)) (hq : pc + 1 = q) (k : ∀ T' h', St p l e R s m args below meth c Z own bytes ml n0 ret nm T' h' cells slots → Wr h h' a j.toNatClampNeg (.long x) → LA Z h' a ys → Wp p e below PO T' (mkF m q L st)) : Wp p e below PO T (mkF m pc L (.long x :: .int j :: .ref a :: st)) := by
  subst hq hys
  obtain ⟨locs, X, N, eT, hx, hZ, hown, hby, hml, hlk, hn, hrt, hnm⟩ := S
  have F' := F
  obtain ⟨cl, A, g1, g2, g3⟩ := F
  obtain ⟨T', h', X', e', W', st'⟩ := stJ X hx hZ eT A (j := j) (x := x) (o_inb h0 h1 g1) (g := mkF m pc L (.long x :: .int j :: .ref a :: st)) rfl rfl (hb hby hd)
  exact o_to st' (k T' h' ⟨_, X', Fr.snoc X' N ga, e', hx, hZ, hown, hby, hml, hlk, hn, hrt, hnm⟩ W' (F'.set W'))
/-! arrays of arrays of longs -/
def RJ (Z : State) (h : Heap) (a : Addr) (vs : List Value) : Prop := ∃ c : Cell, Arr Z h a c (.array .long) ∧ OvrA Z c.cls .long "[J" ∧ c.slots.size = vs.length ∧ vs.length < 2147483648 ∧ ∀ i, i < vs.length → c.slots[i]? = some (vs.getD i .null)
theorem RJ.lt {a : Addr} {vs : List Value} (F : RJ Z h a vs) : a < h.size := by obtain ⟨c, A, -⟩ := F; exact A.lt
theorem RJ.ext {h' : Heap} {a : Addr} {vs : List Value} (F : RJ Z h a vs) (E : Ext h h') : RJ Z h' a vs := by obtain ⟨c, A, r⟩ := F; exact ⟨c, A.ext E, r⟩
theorem RJ.other {h' : Heap} {a b : Addr} {sl : Nat} {v : Value} {vs : List Value} (F : RJ Z h b vs) (W : Wr h h' a sl v) (q : b ≠ a) : RJ Z h' b vs := by obtain ⟨c, A, r⟩ := F; exact ⟨c, A.other W q, r⟩
theorem RJ.keep {h' : Heap} {a : Addr} {ws : List Addr} {vs : List Value} (F : RJ Z h a vs) (K : Keep h h' ws) (q : a ∉ ws) : RJ Z h' a vs := by obtain ⟨c, A, r⟩ := F; exact ⟨c, ⟨K.2.1 a c A.1 q, A.2⟩, r⟩
theorem RJ.set {h' : Heap} {a : Addr} {vs : List Value} {j : Int32} {x : Value} (F : RJ Z h a vs) (W : Wr h h' a j.toNatClampNeg x) : RJ Z h' a (vs.set j.toNatClampNeg x) := by
  obtain ⟨c, A, O, h1, h2, h3⟩ := F
  refine ⟨c.setSlot j.toNatClampNeg x, A.same W, O, by rw [sz_set, h1]; simp, by simpa using h2, fun i hi => ?_⟩
  rw [List.length_set] at hi
  by_cases q : j.toNatClampNeg = i
  · subst q
    have : j.toNatClampNeg < c.slots.size := by rw [h1]; exact hi
    simp [Cell.setSlot, this, hi, List.getD_eq_getElem?_getD]
  · have := h3 i hi
    simp only [Cell.setSlot, Array.getElem?_setIfInBounds_ne q, this, List.getD_eq_getElem?_getD, List.getElem?_set_ne q]
theorem o_anewarrJ (S : St p l e R s m args below meth c Z own bytes ml n0 ret nm T h cells slots) {i : Nat} {n : Int32} {cap : Nat} (w1 : (Jvm.Cond.classLink own i "[J").before a0 Z = true) (w2 : (Jvm.Cond.arrayOver (.array .long)).before a0 Z = true) (hd : decode bytes pc = .ok (.anewarray i, 3)) (hq : pc + 3 = q) (hn0 : 0 ≤ n.toInt) (hcap : n.toInt ≤ cap) (hb8 : cap * 8 ≤ 536870912) (hc : cells + 1 ≤ R.cells) (hl : slots + cap ≤ R.slots)
    (k : ∀ T' h' a, St p l e R s m args below meth c Z own bytes ml n0 ret nm T' h' (cells + 1) (slots + cap) → a = h.size → n0 ≤ a → Ext h h' → RJ Z h' a (List.replicate n.toNatClampNeg .null) → Wp p e below PO T' (mkF m q L (.ref a :: st))) : Wp p e below PO T (mkF m pc L (.int n :: st)) := by
  have g0 := o_n0 S
  obtain ⟨g1, g2⟩ := o_nat hn0
  subst hq
  obtain ⟨locs, X, N, eT, hx, hZ, hown, hby, hml, hlk, hn, hrt, hnm⟩ := S
  obtain ⟨T', h', cA, X', e', E', A', EE, O', st'⟩ := newRA X hx hZ hown (ty := .long) (C := "[J") rfl w1 w2 eT (g := mkF m pc L (.int n :: st)) rfl (hb hby hd) rfl g1 (cap := cap) (by omega) hb8 hc hl (ad := "[[J") rfl
  refine o_to st' (k T' h' h.size ⟨_, X', N, e', hx, hZ, hown, hby, hml, hlk, hn, hrt, hnm⟩ rfl g0 E' ⟨_, A', O', by simp [newA], by have := (back32 g1).2; simpa using this, fun i hi => ?_⟩)
  have hi' : i < n.toNatClampNeg := by simpa using hi
  simp [newA, defaultValue, hi', List.getD_eq_getElem?_getD]
theorem o_aaloadJ (S : St p l e R s m args below meth c Z own bytes ml n0 ret nm T h cells slots) {a : Addr} {j : Int32} {v : Value} {vs : List Value} (F : RJ Z h a vs) (h0 : 0 ≤ j.toInt) (h1 : j.toInt < vs.length) (hv : vs.getD j.toNatClampNeg .null = v) (hd : decode bytes pc = .ok (.aaload, 1)) (hq : pc + 1 = q) (k : Wp p e below PO T (mkF m q L (v :: st))) : Wp p e below PO T (mkF m pc L (.int j :: .ref a :: st)) := by
  obtain ⟨cl, A, O, g1, g2, g3⟩ := F
  subst hv
  have g5 := (o_nat h0).2
  exact o_aaloadA S A rfl (o_inb h0 h1 g1) (g3 _ (by omega)) hd hq k
theorem o_aastoreJ (S : St p l e R s m args below meth c Z own bytes ml n0 ret nm T h cells slots) {a y : Addr} {j : Int32} {vs ys : List Value} (F : RJ Z h a vs) (h0 : 0 ≤ j.toInt) (h1 : j.toInt < vs.length) (ga : n0 ≤ a) (I : Exa Z h y "[J") (hys : vs.set j.toNatClampNeg (.ref y) = ys) (hd : decode bytes pc = .ok (.aastore, 1)) (hq : pc + 1 = q) (k : ∀ T' h', St p l e R s m args below meth c Z own bytes ml n0 ret nm T' h' cells slots → Wr h h' a j.toNatClampNeg (.ref y) → RJ Z h' a ys → Wp p e below PO T' (mkF m q L st)) : Wp p e below PO T (mkF m pc L (.ref y :: .int j :: .ref a :: st)) := by
  subst hq hys
  obtain ⟨locs, X, N, eT, hx, hZ, hown, hby, hml, hlk, hn, hrt, hnm⟩ := S
  have F' := F
  obtain ⟨cl, A, O, g1, g2, g3⟩ := F
  obtain ⟨T', h', X', e', W', st'⟩ := stR X hx hZ eT A (j := j) (o_inb h0 h1 g1) rfl (Sto.ofVA A rfl O (Ins.self I)) (g := mkF m pc L (.ref y :: .int j :: .ref a :: st)) rfl rfl (hb hby hd)
  exact o_to st' (k T' h' ⟨_, X', Fr.snoc X' N ga, e', hx, hZ, hown, hby, hml, hlk, hn, hrt, hnm⟩ W' (F'.set W'))
theorem o_selP {y : MethodName} {n : Nat} (wi : (Jvm.Cond.instantiable y.cls n).before a0 Z = true) (w6 : (Jvm.Cond.privateMethod y).before a0 Z = true) (w2 : (Jvm.Cond.instanceMethod y).before a0 Z = true) (hy : y.cls ≠ "java/lang/invoke/MethodHandle" ∧ y.cls ≠ "java/lang/invoke/VarHandle") : (Jvm.Cond.selects y.cls y y).before a0 Z = true := by
  obtain ⟨c, k, h1, h2, h3, h4, -⟩ := Cond.instantiable_spec wi
  simp only [Bool.or_eq_false_iff] at h4
  exact selects_self_of_private h1 h2 h4.1 (Cond.privateMethod_at w6) w2 hy
end OwnPre
namespace OwnFl
open Jvm.FP Jvm.FP.Core
theorem pw {A B a b : Nat} {e : Int} (h : A * 2 ^ a = B * 2 ^ b) (he : e = (a : Int) - b) : A * 2 ^ e.toNat = B * 2 ^ (-e).toNat := by
  by_cases c : b ≤ a
  · have e1 : e.toNat = a - b := by omega
    have e2 : (-e).toNat = 0 := by omega
    rw [e1, e2, Nat.pow_zero, Nat.mul_one]
    have : A * 2 ^ (a - b) * 2 ^ b = B * 2 ^ b := by rw [Nat.mul_assoc, ← Nat.pow_add, Nat.sub_add_cancel c]; exact h
    exact Nat.eq_of_mul_eq_mul_right (Nat.two_pow_pos b) this
  · have e1 : e.toNat = 0 := by omega
    have e2 : (-e).toNat = b - a := by omega
    rw [e1, e2, Nat.pow_zero, Nat.mul_one]
    have : A * 2 ^ a = B * 2 ^ (b - a) * 2 ^ a := by rw [Nat.mul_assoc, ← Nat.pow_add, Nat.sub_add_cancel (by omega)]; exact h
    exact Nat.eq_of_mul_eq_mul_right (Nat.two_pow_pos a) this
theorem qm : b64.qmin = -1074 := by decide
theorem qx : b64.qmax = 971 := by decide
def EV (x : UInt64) (s : Bool) (M : Nat) : Prop := ∃ c q, val64 x = .fin s c q ∧ -1074 ≤ q ∧ c * 2 ^ (q + 1074).toNat = M
theorem rr {s : Bool} {A B m k : Nat} {e : Int} (hB : 0 < B) (hm : m < 2 ^ 53) (hk : k ≤ 1074) (h : A * 2 ^ (e + k).toNat = m * B * 2 ^ (-(e + k)).toNat) : ∃ c q, roundRatio b64 s A B e = .fin s c q ∧ -1074 ≤ q ∧ c * 2 ^ (q + 1074).toNat = m * 2 ^ (1074 - k) := by
  have h1 : roundRatio b64 s A B e = roundRatio b64 s m 1 (-(k : Int)) := by
    refine roundRatio_congr hB (by decide) ?_
    rw [Nat.mul_one, show e - -(k : Int) = e + k by omega, show -(k : Int) - e = -(e + k) by omega]; exact h
  obtain ⟨c, q, h2, h3⟩ := round_exact good_b64 s (c := m) (q := -(k : Int)) hm (by rw [qm]; omega) (by rw [qx]; omega)
  have h4 : roundRatio b64 s m 1 (-(k : Int)) = .fin s c q := h2
  have hf : Jvm.FP.Core.fits b64 (.fin s c q) := by rw [← h4]; exact roundRatio_fits good_b64 s m (by decide) _
  refine ⟨c, q, h1.trans h4, by have := hf.2.1; rw [qm] at this; exact this, ?_⟩
  unfold inUnits at h3
  rw [qm, show q - -1074 = q + 1074 by omega, show (-(k : Int) - -1074).toNat = 1074 - k by omega] at h3
  exact h3
theorem EV.l2d {a : Int64} {m : Nat} (h0 : a.toInt = m) (h : m < 2 ^ 53) : EV (FP.l2d a) false (m * 2 ^ 1074) := by
  have e : val64 (FP.l2d a) = roundRatio b64 false m 1 0 := by
    rw [val64_l2d]
    show roundRatio b64 (decide (a.toInt < 0)) a.toInt.natAbs 1 0 = _
    rw [show decide (a.toInt < 0) = false from decide_eq_false (by omega), show a.toInt.natAbs = m by omega]
  obtain ⟨c, q, h1, h2, h3⟩ := rr (s := false) (A := m) (B := 1) (m := m) (k := 0) (e := 0) (by decide) h (by decide) (by simp)
  exact ⟨c, q, e.trans h1, h2, h3⟩
theorem un {c : Nat} {q e : Int} (h1 : -1074 ≤ e) (h2 : e ≤ q) : c * 2 ^ (q - e).toNat * 2 ^ (e + 1074).toNat = c * 2 ^ (q + 1074).toNat := by
  rw [Nat.mul_assoc, ← Nat.pow_add, show (q - e).toNat + (e + 1074).toNat = (q + 1074).toNat by omega]
theorem EV.add {x y : UInt64} {M N m k : Nat} (hx : EV x false M) (hy : EV y false N) (hm : m < 2 ^ 53) (hk : k ≤ 1074) (h : M + N = m * 2 ^ (1074 - k)) : EV (FP.dadd x y) false (M + N) := by
  obtain ⟨c, q, e1, q1, u1⟩ := hx
  obtain ⟨d, r, e2, r1, u2⟩ := hy
  generalize hE : min q r = E
  have hq : E ≤ q := by omega
  have hr : E ≤ r := by omega
  have h0 : -1074 ≤ E := by omega
  have ev : val64 (FP.dadd x y) = roundRatio b64 false (c * 2 ^ (q - E).toNat + d * 2 ^ (r - E).toNat) 1 E := by
    rw [val64_dadd, e1, e2]
    show Jvm.FP.Core.round b64 (.fin (sumSign false false (sumUnits false c q false d r (min q r))) (sumUnits false c q false d r (min q r)).natAbs (min q r)) = _
    rw [hE]
    have su : sumUnits false c q false d r E = ((c * 2 ^ (q - E).toNat + d * 2 ^ (r - E).toNat : Nat) : Int) := by
      simp [sumUnits, signed, inUnits]
    rw [su]
    have sg : sumSign false false ((c * 2 ^ (q - E).toNat + d * 2 ^ (r - E).toNat : Nat) : Int) = false := by
      unfold sumSign; split; · rfl
      · exact decide_eq_false (by omega)
    rw [sg, Int.natAbs_natCast]; rfl
  obtain ⟨c', q', h1, h2, h3⟩ := rr (s := false) (A := c * 2 ^ (q - E).toNat + d * 2 ^ (r - E).toNat) (B := 1) (m := m) (k := k) (e := E) (by decide) hm hk (by
    rw [Nat.mul_one]
    refine pw (a := (E + 1074).toNat) (b := 1074 - k) ?_ (by omega)
    rw [Nat.add_mul, un h0 hq, un h0 hr, u1, u2]; exact h)
  exact ⟨c', q', ev.trans h1, h2, by rw [h3, h]⟩
theorem EV.sub {x y : UInt64} {M N m k : Nat} (hx : EV x false M) (hy : EV y false N) (hm : m < 2 ^ 53) (hk : k ≤ 1074) (h : M = N + m * 2 ^ (1074 - k)) : EV (FP.dsub x y) false (m * 2 ^ (1074 - k)) := by
  obtain ⟨c, q, e1, q1, u1⟩ := hx
  obtain ⟨d, r, e2, r1, u2⟩ := hy
  generalize hE : min q r = E
  have hq : E ≤ q := by omega
  have hr : E ≤ r := by omega
  have h0 : -1074 ≤ E := by omega
  have p := Nat.two_pow_pos (E + 1074).toNat
  have a1 := un (c := c) h0 hq
  have a2 := un (c := d) h0 hr
  rw [u1] at a1
  rw [u2] at a2
  have le : d * 2 ^ (r - E).toNat ≤ c * 2 ^ (q - E).toNat := by
    refine Nat.le_of_mul_le_mul_right (c := 2 ^ (E + 1074).toNat) ?_ p
    rw [a1, a2, h]; exact Nat.le_add_right _ _
  have ev : val64 (FP.dsub x y) = roundRatio b64 false (c * 2 ^ (q - E).toNat - d * 2 ^ (r - E).toNat) 1 E := by
    rw [val64_dsub, e1, e2]
    show Jvm.FP.Core.round b64 (.fin (sumSign false true (sumUnits false c q true d r (min q r))) (sumUnits false c q true d r (min q r)).natAbs (min q r)) = _
    rw [hE]
    have su : sumUnits false c q true d r E = ((c * 2 ^ (q - E).toNat - d * 2 ^ (r - E).toNat : Nat) : Int) := by
      simp only [sumUnits, signed, inUnits]
      rw [if_neg (by decide), if_pos trivial]; omega
    rw [su]
    have sg : sumSign false true ((c * 2 ^ (q - E).toNat - d * 2 ^ (r - E).toNat : Nat) : Int) = false := by
      unfold sumSign; split; · rfl
      · exact decide_eq_false (by omega)
    rw [sg, Int.natAbs_natCast]; rfl
  obtain ⟨c', q', h1, h2, h3⟩ := rr (s := false) (A := c * 2 ^ (q - E).toNat - d * 2 ^ (r - E).toNat) (B := 1) (m := m) (k := k) (e := E) (by decide) hm hk (by
    rw [Nat.mul_one]
    refine pw (a := (E + 1074).toNat) (b := 1074 - k) ?_ (by omega)
    rw [Nat.sub_mul, a1, a2, h]; omega)
  exact ⟨c', q', ev.trans h1, h2, h3⟩
theorem EV.mul {x y : UInt64} {M N m k : Nat} (hx : EV x false M) (hy : EV y false N) (hm : m < 2 ^ 53) (hk : k ≤ 1074) (h : M * N = m * 2 ^ (2148 - k)) : EV (FP.dmul x y) false (m * 2 ^ (1074 - k)) := by
  obtain ⟨c, q, e1, q1, u1⟩ := hx
  obtain ⟨d, r, e2, r1, u2⟩ := hy
  have ev : val64 (FP.dmul x y) = roundRatio b64 false (c * d) 1 (q + r) := by rw [val64_dmul, e1, e2]; rfl
  obtain ⟨c', q', h1, h2, h3⟩ := rr (s := false) (A := c * d) (B := 1) (m := m) (k := k) (e := q + r) (by decide) hm hk (by
    rw [Nat.mul_one]
    refine pw (a := (q + 1074).toNat + (r + 1074).toNat) (b := 2148 - k) ?_ (by omega)
    rw [Nat.pow_add, Nat.mul_mul_mul_comm, u1, u2]; exact h)
  exact ⟨c', q', ev.trans h1, h2, h3⟩
theorem EV.div {x y : UInt64} {M N m k : Nat} (hx : EV x false M) (hy : EV y false N) (hN : N ≠ 0) (hm : m < 2 ^ 53) (hk : k ≤ 1074) (h : M * 2 ^ k = m * N) : EV (FP.ddiv x y) false (m * 2 ^ (1074 - k)) := by
  obtain ⟨c, q, e1, q1, u1⟩ := hx
  obtain ⟨d, r, e2, r1, u2⟩ := hy
  have hd : d ≠ 0 := fun z => hN (by rw [← u2, z, Nat.zero_mul])
  have ev : val64 (FP.ddiv x y) = roundRatio b64 false c d (q - r) := by rw [val64_ddiv, e1, e2]; show (if d = 0 then _ else _) = _; rw [if_neg hd]; rfl
  obtain ⟨c', q', h1, h2, h3⟩ := rr (s := false) (A := c) (B := d) (m := m) (k := k) (e := q - r) (by omega) hm hk (by
    refine pw (a := (q + 1074).toNat + k) (b := (r + 1074).toNat) ?_ (by omega)
    rw [Nat.pow_add, ← Nat.mul_assoc, u1, Nat.mul_assoc, u2]; exact h)
  exact ⟨c', q', ev.trans h1, h2, h3⟩
theorem EV.divEq {x y x' y' : UInt64} {M N M' N' : Nat} (hx : EV x false M) (hy : EV y false N) (hx' : EV x' false M') (hy' : EV y' false N') (hN : N ≠ 0) (hN' : N' ≠ 0) (h : M * N' = M' * N) : FP.ddiv x y = FP.ddiv x' y' ∧ val64 (FP.ddiv x y) ≠ .nan := by
  obtain ⟨c, q, e1, q1, u1⟩ := hx
  obtain ⟨d, r, e2, r1, u2⟩ := hy
  obtain ⟨c', q', e1', q1', u1'⟩ := hx'
  obtain ⟨d', r', e2', r1', u2'⟩ := hy'
  have hd : d ≠ 0 := fun z => hN (by rw [← u2, z, Nat.zero_mul])
  have hd' : d' ≠ 0 := fun z => hN' (by rw [← u2', z, Nat.zero_mul])
  have ev : val64 (FP.ddiv x y) = roundRatio b64 false c d (q - r) := by rw [val64_ddiv, e1, e2]; show (if d = 0 then _ else _) = _; rw [if_neg hd]; rfl
  have ev' : val64 (FP.ddiv x' y') = roundRatio b64 false c' d' (q' - r') := by rw [val64_ddiv, e1', e2']; show (if d' = 0 then _ else _) = _; rw [if_neg hd']; rfl
  have nn : val64 (FP.ddiv x y) ≠ .nan := by rw [ev]; exact roundRatio_ne_nan _ _ _ _ _
  refine ⟨val64_inj nn ?_, nn⟩
  rw [ev, ev']
  refine roundRatio_congr (by omega) (by omega) ?_
  rw [show (q' - r' - (q - r)) = -(q - r - (q' - r')) by omega]
  refine pw (a := (q + 1074).toNat + (r' + 1074).toNat) (b := (q' + 1074).toNat + (r + 1074).toNat) ?_ (by omega)
  rw [Nat.pow_add, Nat.mul_mul_mul_comm, u1, u2', Nat.pow_add, Nat.mul_mul_mul_comm, u1', u2]; exact h
/-- how two such numbers compare -/
theorem EV.cmp {x y : UInt64} {M N : Nat} (hx : EV x false M) (hy : EV y false N) : FP.dcmp x y = some (compare (M : Int) (N : Int)) := by
  obtain ⟨c, q, e1, q1, u1⟩ := hx
  obtain ⟨d, r, e2, r1, u2⟩ := hy
  show Jvm.FP.Core.order (val64 x) (val64 y) = _
  rw [e1, e2]
  show some (compare (signed false (inUnits c q (min q r))) (signed false (inUnits d r (min q r)))) = _
  generalize hE : min q r = E
  have hq : E ≤ q := by omega
  have hr : E ≤ r := by omega
  have h0 : -1074 ≤ E := by omega
  have p := Nat.two_pow_pos (E + 1074).toNat
  have a1 := un (c := c) h0 hq
  have a2 := un (c := d) h0 hr
  rw [u1] at a1
  rw [u2] at a2
  simp only [signed, inUnits]
  rw [if_neg (by decide), if_neg (by decide)]
  generalize c * 2 ^ (q - E).toNat = A at *
  generalize d * 2 ^ (r - E).toNat = B at *
  generalize 2 ^ (E + 1074).toNat = P at *
  have key : (A < B ↔ M < N) ∧ (A = B ↔ M = N) := by
    rw [← a1, ← a2]
    exact ⟨(Nat.mul_lt_mul_right p).symm, ⟨fun z => by rw [z], fun z => Nat.eq_of_mul_eq_mul_right p z⟩⟩
  congr 1
  rcases Nat.lt_trichotomy A B with z | z | z
  · rw [Int.compare_eq_lt.mpr (by omega), Int.compare_eq_lt.mpr (by omega)]
  · rw [Int.compare_eq_eq.mpr (by omega), Int.compare_eq_eq.mpr (by omega)]
  · rw [Int.compare_eq_gt.mpr (by omega), Int.compare_eq_gt.mpr (by omega)]
theorem EV.lit {x : UInt64} {c : Nat} {q : Int} {M : Nat} (h : val64 x = .fin false c q) (h1 : -1074 ≤ q) (h2 : c * 2 ^ (q + 1074).toNat = M) : EV x false M := ⟨c, q, h, h1, h2⟩
theorem EV.nn {x : UInt64} {s : Bool} {M : Nat} (h : EV x s M) : Jvm.Free.Fl.NoNaN64 x := by
  obtain ⟨c, q, e, -⟩ := h
  exact Jvm.Free.Fl.val64_no.mpr (by rw [e]; intro z; cases z)
theorem EV.fin {x : UInt64} {s : Bool} {M : Nat} (h : EV x s M) : Jvm.Free.Fl.Fin64 x := by
  obtain ⟨c, q, e, -⟩ := h
  exact Jvm.Free.Fl.fin64_core.mpr ⟨s, c, q, e⟩
theorem cut {R m k U : Nat} (hU : U = 2 ^ 1074) (hk : k ≤ 1074) (h : R * 2 ^ k = m * U) : R = m * 2 ^ (1074 - k) := by
  refine Nat.eq_of_mul_eq_mul_right (Nat.two_pow_pos k) ?_
  rw [h, hU, Nat.mul_assoc, ← Nat.pow_add, Nat.sub_add_cancel hk]
theorem EV.add' {x y : UInt64} {M N m k U : Nat} (hU : U = 2 ^ 1074) (hx : EV x false M) (hy : EV y false N) (hm : m < 2 ^ 53) (hk : k ≤ 1074) (h : (M + N) * 2 ^ k = m * U) : EV (FP.dadd x y) false (M + N) := EV.add hx hy hm hk (cut hU hk h)
theorem EV.sub' {x y : UInt64} {M N R m k U : Nat} (hU : U = 2 ^ 1074) (hx : EV x false M) (hy : EV y false N) (hm : m < 2 ^ 53) (hk : k ≤ 1074) (h : M = N + R) (hR : R * 2 ^ k = m * U) : EV (FP.dsub x y) false R := by
  have e := cut hU hk hR
  rw [e]; exact EV.sub hx hy hm hk (by rw [← e]; exact h)
theorem EV.mul' {x y : UInt64} {M N R m k U : Nat} (hU : U = 2 ^ 1074) (hx : EV x false M) (hy : EV y false N) (hm : m < 2 ^ 53) (hk : k ≤ 1074) (h : M * N * 2 ^ k = m * U * U) (hR : R * 2 ^ k = m * U) : EV (FP.dmul x y) false R := by
  have e := cut hU hk hR
  rw [e]
  refine EV.mul hx hy hm hk ?_
  refine Nat.eq_of_mul_eq_mul_right (Nat.two_pow_pos k) ?_
  rw [h, hU, Nat.mul_assoc, Nat.mul_assoc, ← Nat.pow_add, ← Nat.pow_add, show 1074 + 1074 = 2148 - k + k by omega]
theorem EV.div' {x y : UInt64} {M N R m k U : Nat} (hU : U = 2 ^ 1074) (hx : EV x false M) (hy : EV y false N) (hN : N ≠ 0) (hm : m < 2 ^ 53) (hk : k ≤ 1074) (h : M * 2 ^ k = m * N) (hR : R * 2 ^ k = m * U) : EV (FP.ddiv x y) false R := by
  rw [cut hU hk hR]; exact EV.div hx hy hN hm hk h
end OwnFl
section OwnD
variable {p : Program} {l : Launch} {e : Env} {R : Room} {s : State} {m : MethodId} {args : Array Value} {below : List Frame} {meth : Method} {c : Code} {Z : State} {own : String} {bytes : ByteArray} {ml n0 : Nat} {ret : Option FieldType} {nm : String} {T : State} {h : Heap} {cells slots : Nat} {PO : Outcome → State → Prop} {a0 : Array Value} {pc q : Nat} {L : Array Slot} {st : List Value}
theorem o_dloadN (S : St p l e R s m args below meth c Z own bytes ml n0 ret nm T h cells slots) {k : Fin 4} {v : UInt64} (hl : L[k.val]? = some (.val (.double v))) (hd : decode bytes pc = .ok (.dload_n k, 1)) (hq : pc + 1 = q) (k : Wp p e below PO T (mkF m q L (.double v :: st))) : Wp p e below PO T (mkF m pc L (st)) := by
  subst hq
  exact o_st S (fun t X hx hy r => XS.dloadN X hx rfl (hb hy hd) hl r) k
theorem o_dstoreN (S : St p l e R s m args below meth c Z own bytes ml n0 ret nm T h cells slots) {k : Fin 4} {x : UInt64} {L' : Array Slot} (hl : storeLocals L k.val (.double x) = some L') (hd : decode bytes pc = .ok (.dstore_n k, 1)) (hq : pc + 1 = q) (k : Wp p e below PO T (mkF m q L' (st))) : Wp p e below PO T (mkF m pc L (.double x :: st)) := by
  subst hq
  exact o_st S (fun t X hx hy r => XS.dstoreN X hx rfl (hb hy hd) rfl hl r) k
theorem o_dstoreVN (S : St p l e R s m args below meth c Z own bytes ml n0 ret nm T h cells slots) {k : Fin 4} {x : UInt64} {L' : UInt64 → Array Slot} (hl : ∀ v, storeLocals L k.val (.double v) = some (L' v)) (hd : decode bytes pc = .ok (.dstore_n k, 1)) (hq : pc + 1 = q) (k : ∀ v, v = x → Wp p e below PO T (mkF m q (L' v) st)) : Wp p e below PO T (mkF m pc L (.double x :: st)) :=
  o_dstoreN S (hl x) hd hq (k x rfl)
theorem o_dload (S : St p l e R s m args below meth c Z own bytes ml n0 ret nm T h cells slots) {k : Nat} {v : UInt64} (hl : L[k]? = some (.val (.double v))) (hd : decode bytes pc = .ok (.dload k, 2)) (hq : pc + 2 = q) (k : Wp p e below PO T (mkF m q L (.double v :: st))) : Wp p e below PO T (mkF m pc L (st)) := by
  subst hq
  exact o_st S (fun t X hx hy r => XS.dload X hx rfl (hb hy hd) hl r) k
theorem o_dstore (S : St p l e R s m args below meth c Z own bytes ml n0 ret nm T h cells slots) {k : Nat} {x : UInt64} {L' : Array Slot} (hl : storeLocals L k (.double x) = some L') (hd : decode bytes pc = .ok (.dstore k, 2)) (hq : pc + 2 = q) (k : Wp p e below PO T (mkF m q L' (st))) : Wp p e below PO T (mkF m pc L (.double x :: st)) := by
  subst hq
  exact o_st S (fun t X hx hy r => XS.dstore X hx rfl (hb hy hd) rfl hl r) k
theorem o_dstoreV (S : St p l e R s m args below meth c Z own bytes ml n0 ret nm T h cells slots) {k : Nat} {x : UInt64} {L' : UInt64 → Array Slot} (hl : ∀ v, storeLocals L k (.double v) = some (L' v)) (hd : decode bytes pc = .ok (.dstore k, 2)) (hq : pc + 2 = q) (k : ∀ v, v = x → Wp p e below PO T (mkF m q (L' v) st)) : Wp p e below PO T (mkF m pc L (.double x :: st)) :=
  o_dstore S (hl x) hd hq (k x rfl)
theorem o_dconst0 (S : St p l e R s m args below meth c Z own bytes ml n0 ret nm T h cells slots)  (hd : decode bytes pc = .ok (.dconst 0, 1)) (hq : pc + 1 = q) (k : Wp p e below PO T (mkF m q L (.double FP.dconst0 :: st))) : Wp p e below PO T (mkF m pc L (st)) := by
  subst hq
  exact o_st S (fun t X hx hy r => XS.dconst0 X hx rfl (hb hy hd) rfl r) k
theorem o_dconst1 (S : St p l e R s m args below meth c Z own bytes ml n0 ret nm T h cells slots)  (hd : decode bytes pc = .ok (.dconst 1, 1)) (hq : pc + 1 = q) (k : Wp p e below PO T (mkF m q L (.double FP.dconst1 :: st))) : Wp p e below PO T (mkF m pc L (st)) := by
  subst hq
  exact o_st S (fun t X hx hy r => XS.dconst1 X hx rfl (hb hy hd) rfl r) k
theorem o_i2d (S : St p l e R s m args below meth c Z own bytes ml n0 ret nm T h cells slots) {x : Int32} (hd : decode bytes pc = .ok (.i2d, 1)) (hq : pc + 1 = q) (k : Wp p e below PO T (mkF m q L (.double (FP.i2d x) :: st))) : Wp p e below PO T (mkF m pc L (.int x :: st)) := by
  subst hq
  exact o_st S (fun t X hx hy r => XS.i2dS X hx rfl (hb hy hd) rfl rfl r) k
theorem o_l2d (S : St p l e R s m args below meth c Z own bytes ml n0 ret nm T h cells slots) {x : Int64} (hd : decode bytes pc = .ok (.l2d, 1)) (hq : pc + 1 = q) (k : Wp p e below PO T (mkF m q L (.double (FP.l2d x) :: st))) : Wp p e below PO T (mkF m pc L (.long x :: st)) := by
  subst hq
  exact o_st S (fun t X hx hy r => XS.l2dS X hx rfl (hb hy hd) rfl rfl r) k
theorem o_dcmp (S : St p l e R s m args below meth c Z own bytes ml n0 ret nm T h cells slots) {o : CmpOp} {x y : UInt64} (hd : decode bytes pc = .ok (.dcmp o, 1)) (hq : pc + 1 = q) (k : Wp p e below PO T (mkF m q L (.int (cmpValue (FP.dcmp x y) o) :: st))) : Wp p e below PO T (mkF m pc L (.double y :: .double x :: st)) := by
  subst hq
  exact o_st S (fun t X hx hy r => XS.dcmpS X hx rfl (hb hy hd) rfl rfl r) k
theorem o_dadd (S : St p l e R s m args below meth c Z own bytes ml n0 ret nm T h cells slots) {x y : UInt64} (hn : Jvm.Free.Fl.NoNaN64 (FP.dadd x y)) (hd : decode bytes pc = .ok (.dadd, 1)) (hq : pc + 1 = q) (k : Wp p e below PO T (mkF m q L (.double (FP.dadd x y) :: st))) : Wp p e below PO T (mkF m pc L (.double y :: .double x :: st)) := by
  subst hq
  exact o_st S (fun t X hx hy r => XS.daddS X hx rfl (hb hy hd) rfl hn rfl r) k
theorem o_dsub (S : St p l e R s m args below meth c Z own bytes ml n0 ret nm T h cells slots) {x y : UInt64} (hn : Jvm.Free.Fl.NoNaN64 (FP.dsub x y)) (hd : decode bytes pc = .ok (.dsub, 1)) (hq : pc + 1 = q) (k : Wp p e below PO T (mkF m q L (.double (FP.dsub x y) :: st))) : Wp p e below PO T (mkF m pc L (.double y :: .double x :: st)) := by
  subst hq
  exact o_st S (fun t X hx hy r => XS.dsubS X hx rfl (hb hy hd) rfl hn rfl r) k
theorem o_dmul (S : St p l e R s m args below meth c Z own bytes ml n0 ret nm T h cells slots) {x y : UInt64} (hn : Jvm.Free.Fl.NoNaN64 (FP.dmul x y)) (hd : decode bytes pc = .ok (.dmul, 1)) (hq : pc + 1 = q) (k : Wp p e below PO T (mkF m q L (.double (FP.dmul x y) :: st))) : Wp p e below PO T (mkF m pc L (.double y :: .double x :: st)) := by
  subst hq
  exact o_st S (fun t X hx hy r => XS.dmulS X hx rfl (hb hy hd) rfl hn rfl r) k
theorem o_ddiv (S : St p l e R s m args below meth c Z own bytes ml n0 ret nm T h cells slots) {x y : UInt64} (hn : Jvm.Free.Fl.NoNaN64 (FP.ddiv x y)) (hd : decode bytes pc = .ok (.ddiv, 1)) (hq : pc + 1 = q) (k : Wp p e below PO T (mkF m q L (.double (FP.ddiv x y) :: st))) : Wp p e below PO T (mkF m pc L (.double y :: .double x :: st)) := by
  subst hq
  exact o_st S (fun t X hx hy r => XS.ddivS X hx rfl (hb hy hd) rfl hn rfl r) k
theorem o_ldc2D (S : St p l e R s m args below meth c Z own bytes ml n0 ret nm T h cells slots) {i : Nat} {z : UInt64} (w : (Jvm.Cond.constantDouble own i z).before a0 Z = true) (hd : decode bytes pc = .ok (.ldc2_w i, 3)) (hq : pc + 3 = q) (k : Wp p e below PO T (mkF m q L (.double z :: st))) : Wp p e below PO T (mkF m pc L st) := by
  subst hq
  obtain ⟨locs, X, N, eT, hx, hZ, hown, hby, hml, hlk, hn, hrt, hnm⟩ := S
  exact o_to (X.ldc2DoubleC hx hown (mvT hZ w) (g := mkF m pc L st) rfl (hb hby hd)) k
theorem o_retD {Q : Option Value → Heap → Prop} {z : UInt64} (S : St p l e R s m args below meth c Z own bytes ml n0 ret nm T h cells slots) (hret : ret = some .double) (hd : decode bytes pc = .ok (.dreturn, 1)) (hc : cells ≤ R.cells) (hs : slots ≤ R.slots) (qq : Q (some (.double z)) h) : Wp p e below (Po s n0 R Q) T (mkF m pc L (.double z :: st)) := by
  have hrt : meth.sig.returnType = some .double := by obtain ⟨locs, X, N, eT, hx, hZ, hown, hby, hml, hlk, hn, hrt, hnm⟩ := S; rw [hrt, hret]
  refine o_ret S (w := some (.double z)) (fun h => by rw [hrt] at h; cases h) hc hs qq fun fs hA hm hx hby locs X hr => ?_
  exact retOut X hx hrt rfl (Or.inr (Or.inr (Or.inl ⟨rfl, rfl, z, rfl⟩))) (hb hby hd) hr
end OwnD
theorem d2_0 : decode jdk_30_method_1_code 0 = .ok (.aload_n 0, 1) := by decide +kernel
theorem d2_1 : decode jdk_30_method_1_code 1 = .ok (.invokespecial 1, 3) := by decide +kernel
theorem d2_4 : decode jdk_30_method_1_code 4 = .ok (.return_, 1) := by decide +kernel
def rm_2 : Room := ({ frames := 1, cells := 0, slots := 0, locals := 12 } : Room)
theorem pn_2 : plainFor (⟨"java/lang/Record", "<init>", "()V"⟩ : MethodName) = true := plainFor_of_name (by first | (simp [plainName, overriddenIn]; done) | (simp [plainName, overriddenIn, x]; done) | decide +kernel)
theorem ef_2 (r0 : Addr) (m : MethodId) : entryFrame m #[(.ref r0)] 1 = mkF m 0 #[.val (.ref r0)] [] := by first | (simp [entryFrame, mkF, argsToLocals, Value.category]; done) | rfl
set_option maxRecDepth 65536 in
set_option maxHeartbeats 40000000 in
theorem ct_2 (l : Launch) (Z : State) (a0 : Array Value) (hw : ∀ d ∈ tables_1, d.before a0 Z = true) (r0 : Addr) (h0 : Heap) (n0 : Nat) (hn : n0 ≤ h0.size) : Ct l (⟨"java/lang/Record", "<init>", "()V"⟩ : MethodName) jdk_30_method_1_code 1 none [] rm_2 Z h0 n0 #[(.ref r0)] (Qp none h0) := by
  refine o_body pn_2 hn (ef_2 r0) ?_
  intro p e s m below meth c T S
  refine o_aloadN S rfl rfl d2_0 rfl (q := 1) ?_
  refine o_initO S (W := 0) (o_wd (i := 17) hw rfl) (o_wd (i := 18) hw rfl) (o_wd (i := 19) hw rfl) rfl d2_1 rfl (q := 4) (by decide) (Nat.le_of_eq rfl) (by decide) (fun T S => ?_)
  refine o_retV S rfl d2_4 (by decide) (by decide) ?_
  exact ⟨rfl, rfl⟩
def Q_1 (Z : State) (r0 : Addr) (d1 : UInt64) (d2 : UInt64) (d3 : UInt64) (h0 : Heap) (n0 : Nat) : Option Value → Heap → Prop := fun v h => v = none ∧ Keep h0 h [r0] ∧ Exa Z h r0 "com/example/sanstem/sanstem/retrieval/Bm25" ∧ Fld Z h r0 "com/example/sanstem/sanstem/retrieval/Bm25" "k1" "D" (.double d1) ∧ Fld Z h r0 "com/example/sanstem/sanstem/retrieval/Bm25" "b" "D" (.double d2) ∧ Fld Z h r0 "com/example/sanstem/sanstem/retrieval/Bm25" "k3" "D" (.double d3)
theorem pd_0 : parseMethodDescriptor "()V" = some ⟨[], none⟩ := by decide +kernel
theorem d1_0 : decode prog_36_method_1_code 0 = .ok (.aload_n 0, 1) := by decide +kernel
theorem d1_1 : decode prog_36_method_1_code 1 = .ok (.invokespecial 1, 3) := by decide +kernel
theorem d1_4 : decode prog_36_method_1_code 4 = .ok (.dload_n 1, 1) := by decide +kernel
theorem d1_5 : decode prog_36_method_1_code 5 = .ok (.dconst 0, 1) := by decide +kernel
theorem d1_6 : decode prog_36_method_1_code 6 = .ok (.dcmp .l, 1) := by decide +kernel
theorem d1_7 : decode prog_36_method_1_code 7 = .ok (.ifCond .lt 11, 3) := by decide +kernel
theorem d1_10 : decode prog_36_method_1_code 10 = .ok (.dload_n 1, 1) := by decide +kernel
theorem d1_11 : decode prog_36_method_1_code 11 = .ok (.ldc2_w 9, 3) := by decide +kernel
theorem d1_14 : decode prog_36_method_1_code 14 = .ok (.dcmp .g, 1) := by decide +kernel
theorem d1_15 : decode prog_36_method_1_code 15 = .ok (.ifCond .lt 17, 3) := by decide +kernel
theorem d1_18 : decode prog_36_method_1_code 18 = .ok (.new 11, 3) := by decide +kernel
theorem d1_21 : decode prog_36_method_1_code 21 = .ok (.dup, 1) := by decide +kernel
theorem d1_22 : decode prog_36_method_1_code 22 = .ok (.dload_n 1, 1) := by decide +kernel
theorem d1_28 : decode prog_36_method_1_code 28 = .ok (.invokespecial 17, 3) := by decide +kernel
theorem d1_32 : decode prog_36_method_1_code 32 = .ok (.dload_n 3, 1) := by decide +kernel
theorem d1_33 : decode prog_36_method_1_code 33 = .ok (.dconst 0, 1) := by decide +kernel
theorem d1_34 : decode prog_36_method_1_code 34 = .ok (.dcmp .l, 1) := by decide +kernel
theorem d1_35 : decode prog_36_method_1_code 35 = .ok (.ifCond .lt 9, 3) := by decide +kernel
theorem d1_38 : decode prog_36_method_1_code 38 = .ok (.dload_n 3, 1) := by decide +kernel
theorem d1_39 : decode prog_36_method_1_code 39 = .ok (.dconst 1, 1) := by decide +kernel
theorem d1_40 : decode prog_36_method_1_code 40 = .ok (.dcmp .g, 1) := by decide +kernel
theorem d1_41 : decode prog_36_method_1_code 41 = .ok (.ifCond .le 17, 3) := by decide +kernel
theorem d1_44 : decode prog_36_method_1_code 44 = .ok (.new 11, 3) := by decide +kernel
theorem d1_47 : decode prog_36_method_1_code 47 = .ok (.dup, 1) := by decide +kernel
theorem d1_48 : decode prog_36_method_1_code 48 = .ok (.dload_n 3, 1) := by decide +kernel
theorem d1_54 : decode prog_36_method_1_code 54 = .ok (.invokespecial 17, 3) := by decide +kernel
theorem d1_58 : decode prog_36_method_1_code 58 = .ok (.dload 5, 2) := by decide +kernel
theorem d1_60 : decode prog_36_method_1_code 60 = .ok (.dconst 0, 1) := by decide +kernel
theorem d1_61 : decode prog_36_method_1_code 61 = .ok (.dcmp .l, 1) := by decide +kernel
theorem d1_62 : decode prog_36_method_1_code 62 = .ok (.ifCond .lt 12, 3) := by decide +kernel
theorem d1_65 : decode prog_36_method_1_code 65 = .ok (.dload 5, 2) := by decide +kernel
theorem d1_67 : decode prog_36_method_1_code 67 = .ok (.ldc2_w 9, 3) := by decide +kernel
theorem d1_70 : decode prog_36_method_1_code 70 = .ok (.dcmp .g, 1) := by decide +kernel
theorem d1_71 : decode prog_36_method_1_code 71 = .ok (.ifCond .lt 18, 3) := by decide +kernel
theorem d1_74 : decode prog_36_method_1_code 74 = .ok (.new 11, 3) := by decide +kernel
theorem d1_77 : decode prog_36_method_1_code 77 = .ok (.dup, 1) := by decide +kernel
theorem d1_78 : decode prog_36_method_1_code 78 = .ok (.dload 5, 2) := by decide +kernel
theorem d1_85 : decode prog_36_method_1_code 85 = .ok (.invokespecial 17, 3) := by decide +kernel
theorem d1_89 : decode prog_36_method_1_code 89 = .ok (.aload_n 0, 1) := by decide +kernel
theorem d1_90 : decode prog_36_method_1_code 90 = .ok (.dload_n 1, 1) := by decide +kernel
theorem d1_91 : decode prog_36_method_1_code 91 = .ok (.putfield 22, 3) := by decide +kernel
theorem d1_94 : decode prog_36_method_1_code 94 = .ok (.aload_n 0, 1) := by decide +kernel
theorem d1_95 : decode prog_36_method_1_code 95 = .ok (.dload_n 3, 1) := by decide +kernel
theorem d1_96 : decode prog_36_method_1_code 96 = .ok (.putfield 28, 3) := by decide +kernel
theorem d1_99 : decode prog_36_method_1_code 99 = .ok (.aload_n 0, 1) := by decide +kernel
theorem d1_100 : decode prog_36_method_1_code 100 = .ok (.dload 5, 2) := by decide +kernel
theorem d1_102 : decode prog_36_method_1_code 102 = .ok (.putfield 31, 3) := by decide +kernel
theorem d1_105 : decode prog_36_method_1_code 105 = .ok (.return_, 1) := by decide +kernel
def rm_1 : Room := ({ frames := 2, cells := 0, slots := 0, locals := 24 } : Room)
theorem pn_1 : plainFor (⟨"com/example/sanstem/sanstem/retrieval/Bm25", "<init>", "(DDD)V"⟩ : MethodName) = true := plainFor_of_name (by first | (simp [plainName, overriddenIn]; done) | (simp [plainName, overriddenIn, x]; done) | decide +kernel)
theorem ef_1 (r0 : Addr) (d1 : UInt64) (d2 : UInt64) (d3 : UInt64) (m : MethodId) : entryFrame m #[(.ref r0), (.double d1), (.double d2), (.double d3)] 7 = mkF m 0 #[.val (.ref r0), .val (.double d1), .second, .val (.double d2), .second, .val (.double d3), .second] [] := by first | (simp [entryFrame, mkF, argsToLocals, Value.category]; done) | rfl
set_option maxRecDepth 65536 in
set_option maxHeartbeats 40000000 in
theorem ct_1 (l : Launch) (Z : State) (a0 : Array Value) (hw : ∀ d ∈ tables_1, d.before a0 Z = true) (r0 : Addr) (d1 : UInt64) (d2 : UInt64) (d3 : UInt64) (h0 : Heap) (n0 : Nat) (hn : n0 ≤ h0.size) (E_r0 : Exa Z h0 r0 "com/example/sanstem/sanstem/retrieval/Bm25") (F_k1_r0 : Fld Z h0 r0 "com/example/sanstem/sanstem/retrieval/Bm25" "k1" "D" (.double (0 : UInt64))) (F_b_r0 : Fld Z h0 r0 "com/example/sanstem/sanstem/retrieval/Bm25" "b" "D" (.double (0 : UInt64))) (F_k3_r0 : Fld Z h0 r0 "com/example/sanstem/sanstem/retrieval/Bm25" "k3" "D" (.double (0 : UInt64))) (g_r0 : n0 ≤ r0) (ha1 : ¬ (cmpValue (FP.dcmp d1 FP.dconst0) .l).toInt < 0) (ha2 : (cmpValue (FP.dcmp d1 (9218868437227405312 : UInt64)) .g).toInt < 0) (hb1 : ¬ (cmpValue (FP.dcmp d2 FP.dconst0) .l).toInt < 0) (hb2 : (cmpValue (FP.dcmp d2 FP.dconst1) .g).toInt ≤ 0) (hc1 : ¬ (cmpValue (FP.dcmp d3 FP.dconst0) .l).toInt < 0) (hc2 : (cmpValue (FP.dcmp d3 (9218868437227405312 : UInt64)) .g).toInt < 0) : Ct l (⟨"com/example/sanstem/sanstem/retrieval/Bm25", "<init>", "(DDD)V"⟩ : MethodName) prog_36_method_1_code 7 none [] rm_1 Z h0 n0 #[(.ref r0), (.double d1), (.double d2), (.double d3)] (Q_1 Z r0 d1 d2 d3 h0 n0) := by
  refine o_body pn_1 hn (ef_1 r0 d1 d2 d3) ?_
  intro p e s m below meth c T S
  have K : Keep h0 h0 [r0] := Keep.refl _ _
  refine o_aloadN S rfl rfl d1_0 rfl (q := 1) ?_
  refine o_callI0 S (W := 0) (argsL := []) (rest := []) (a := r0) rfl (o_wd (i := 12) hw rfl) (o_wd (i := 13) hw rfl) (o_wd (i := 15) hw rfl) (o_wd (i := 16) hw rfl) (by decide) (ct_2 l Z a0 hw r0 h0 n0 (o_n0 S) ) (by decide) (by decide) rfl rfl pd_0 rfl (Nat.le_of_eq rfl) d1_1 rfl (q := 4) (by decide) (by decide) rfl (st' := []) (fun T S => ?_)
  refine o_dloadN S rfl d1_4 rfl (q := 5) ?_
  refine o_dconst0 S d1_5 rfl (q := 6) ?_
  refine o_dcmp S d1_6 rfl (q := 7) ?_
  refine o_if S d1_7 (by decide) (q' := 18) (by decide) (q := 10) rfl (hs_lt (a := (cmpValue (FP.dcmp d1 FP.dconst0) .l).toInt) (b := 0) rfl rfl).1 (hs_lt (a := (cmpValue (FP.dcmp d1 FP.dconst0) .l).toInt) (b := 0) rfl rfl).2 (fun hc7 => ?_) (fun hc7 => ?_)
  · exact absurd hc7 ha1
  · skip
    refine o_dloadN S rfl d1_10 rfl (q := 11) ?_
    refine o_ldc2D S (o_wd (i := 20) hw rfl) d1_11 rfl (q := 14) ?_
    refine o_dcmp S d1_14 rfl (q := 15) ?_
    refine o_if S d1_15 (by decide) (q' := 32) (by decide) (q := 18) rfl (hs_lt (a := (cmpValue (FP.dcmp d1 (9218868437227405312 : UInt64)) .g).toInt) (b := 0) rfl rfl).1 (hs_lt (a := (cmpValue (FP.dcmp d1 (9218868437227405312 : UInt64)) .g).toInt) (b := 0) rfl rfl).2 (fun hc15 => ?_) (fun hc15 => ?_)
    · skip
      refine o_dloadN S rfl d1_32 rfl (q := 33) ?_
      refine o_dconst0 S d1_33 rfl (q := 34) ?_
      refine o_dcmp S d1_34 rfl (q := 35) ?_
      refine o_if S d1_35 (by decide) (q' := 44) (by decide) (q := 38) rfl (hs_lt (a := (cmpValue (FP.dcmp d2 FP.dconst0) .l).toInt) (b := 0) rfl rfl).1 (hs_lt (a := (cmpValue (FP.dcmp d2 FP.dconst0) .l).toInt) (b := 0) rfl rfl).2 (fun hc35 => ?_) (fun hc35 => ?_)
      · exact absurd hc35 hb1
      · skip
        refine o_dloadN S rfl d1_38 rfl (q := 39) ?_
        refine o_dconst1 S d1_39 rfl (q := 40) ?_
        refine o_dcmp S d1_40 rfl (q := 41) ?_
        refine o_if S d1_41 (by decide) (q' := 58) (by decide) (q := 44) rfl (hs_le (a := (cmpValue (FP.dcmp d2 FP.dconst1) .g).toInt) (b := 0) rfl rfl).1 (hs_le (a := (cmpValue (FP.dcmp d2 FP.dconst1) .g).toInt) (b := 0) rfl rfl).2 (fun hc41 => ?_) (fun hc41 => ?_)
        · skip
          refine o_dload S rfl d1_58 rfl (q := 60) ?_
          refine o_dconst0 S d1_60 rfl (q := 61) ?_
          refine o_dcmp S d1_61 rfl (q := 62) ?_
          refine o_if S d1_62 (by decide) (q' := 74) (by decide) (q := 65) rfl (hs_lt (a := (cmpValue (FP.dcmp d3 FP.dconst0) .l).toInt) (b := 0) rfl rfl).1 (hs_lt (a := (cmpValue (FP.dcmp d3 FP.dconst0) .l).toInt) (b := 0) rfl rfl).2 (fun hc62 => ?_) (fun hc62 => ?_)
          · exact absurd hc62 hc1
          · skip
            refine o_dload S rfl d1_65 rfl (q := 67) ?_
            refine o_ldc2D S (o_wd (i := 20) hw rfl) d1_67 rfl (q := 70) ?_
            refine o_dcmp S d1_70 rfl (q := 71) ?_
            refine o_if S d1_71 (by decide) (q' := 89) (by decide) (q := 74) rfl (hs_lt (a := (cmpValue (FP.dcmp d3 (9218868437227405312 : UInt64)) .g).toInt) (b := 0) rfl rfl).1 (hs_lt (a := (cmpValue (FP.dcmp d3 (9218868437227405312 : UInt64)) .g).toInt) (b := 0) rfl rfl).2 (fun hc71 => ?_) (fun hc71 => ?_)
            · skip
              refine o_aloadN S rfl rfl d1_89 rfl (q := 90) ?_
              refine o_dloadN S rfl d1_90 rfl (q := 91) ?_
              refine o_putF S (o_wd (i := 21) hw rfl) Via.refl F_k1_r0 E_r0 (Or.inr ⟨(o_wd (i := 22) hw rfl), rfl, rfl⟩) (o_wd (i := 6) hw rfl) (ty := .double) (by decide) rfl rfl g_r0 d1_91 rfl (q := 94) (fun T h1 S W F_k1_r0 => ?_)
              have E_r0 := E_r0.wr W
              have F_b_r0 := Fld.other W F_b_r0 (Or.inr (slot_ne (Or.inr (o_wd (i := 24) hw rfl)) (Or.inr (o_wd (i := 22) hw rfl)) (by decide) (t := .double) (t' := .double) (by decide) (by decide)))
              have F_k3_r0 := Fld.other W F_k3_r0 (Or.inr (slot_ne (Or.inr (o_wd (i := 26) hw rfl)) (Or.inr (o_wd (i := 22) hw rfl)) (by decide) (t := .double) (t' := .double) (by decide) (by decide)))
              have K := K.wr W (Or.inl (List.mem_of_getElem? (i := 0) rfl))
              refine o_aloadN S rfl rfl d1_94 rfl (q := 95) ?_
              refine o_dloadN S rfl d1_95 rfl (q := 96) ?_
              refine o_putF S (o_wd (i := 23) hw rfl) Via.refl F_b_r0 E_r0 (Or.inr ⟨(o_wd (i := 24) hw rfl), rfl, rfl⟩) (o_wd (i := 6) hw rfl) (ty := .double) (by decide) rfl rfl g_r0 d1_96 rfl (q := 99) (fun T h2 S W F_b_r0 => ?_)
              have E_r0 := E_r0.wr W
              have F_k1_r0 := Fld.other W F_k1_r0 (Or.inr (slot_ne (Or.inr (o_wd (i := 22) hw rfl)) (Or.inr (o_wd (i := 24) hw rfl)) (by decide) (t := .double) (t' := .double) (by decide) (by decide)))
              have F_k3_r0 := Fld.other W F_k3_r0 (Or.inr (slot_ne (Or.inr (o_wd (i := 26) hw rfl)) (Or.inr (o_wd (i := 24) hw rfl)) (by decide) (t := .double) (t' := .double) (by decide) (by decide)))
              have K := K.wr W (Or.inl (List.mem_of_getElem? (i := 0) rfl))
              refine o_aloadN S rfl rfl d1_99 rfl (q := 100) ?_
              refine o_dload S rfl d1_100 rfl (q := 102) ?_
              refine o_putF S (o_wd (i := 25) hw rfl) Via.refl F_k3_r0 E_r0 (Or.inr ⟨(o_wd (i := 26) hw rfl), rfl, rfl⟩) (o_wd (i := 6) hw rfl) (ty := .double) (by decide) rfl rfl g_r0 d1_102 rfl (q := 105) (fun T h3 S W F_k3_r0 => ?_)
              have E_r0 := E_r0.wr W
              have F_k1_r0 := Fld.other W F_k1_r0 (Or.inr (slot_ne (Or.inr (o_wd (i := 22) hw rfl)) (Or.inr (o_wd (i := 26) hw rfl)) (by decide) (t := .double) (t' := .double) (by decide) (by decide)))
              have F_b_r0 := Fld.other W F_b_r0 (Or.inr (slot_ne (Or.inr (o_wd (i := 24) hw rfl)) (Or.inr (o_wd (i := 26) hw rfl)) (by decide) (t := .double) (t' := .double) (by decide) (by decide)))
              have K := K.wr W (Or.inl (List.mem_of_getElem? (i := 0) rfl))
              refine o_retV S rfl d1_105 (by decide) (by decide) ?_
              exact ⟨rfl, K, E_r0, F_k1_r0, F_b_r0, F_k3_r0⟩
            · exact absurd hc2 hc71
        · exact absurd hb2 hc41
    · exact absurd ha2 hc15
theorem d4_0 : decode prog_36_method_4_code 0 = .ok (.aload_n 0, 1) := by decide +kernel
theorem d4_1 : decode prog_36_method_4_code 1 = .ok (.getfield 22, 3) := by decide +kernel
theorem d4_4 : decode prog_36_method_4_code 4 = .ok (.dconst 1, 1) := by decide +kernel
theorem d4_5 : decode prog_36_method_4_code 5 = .ok (.aload_n 0, 1) := by decide +kernel
theorem d4_6 : decode prog_36_method_4_code 6 = .ok (.getfield 28, 3) := by decide +kernel
theorem d4_9 : decode prog_36_method_4_code 9 = .ok (.dsub, 1) := by decide +kernel
theorem d4_10 : decode prog_36_method_4_code 10 = .ok (.aload_n 0, 1) := by decide +kernel
theorem d4_11 : decode prog_36_method_4_code 11 = .ok (.getfield 28, 3) := by decide +kernel
theorem d4_14 : decode prog_36_method_4_code 14 = .ok (.lload_n 2, 1) := by decide +kernel
theorem d4_15 : decode prog_36_method_4_code 15 = .ok (.l2d, 1) := by decide +kernel
theorem d4_16 : decode prog_36_method_4_code 16 = .ok (.dmul, 1) := by decide +kernel
theorem d4_17 : decode prog_36_method_4_code 17 = .ok (.dload 4, 2) := by decide +kernel
theorem d4_19 : decode prog_36_method_4_code 19 = .ok (.ddiv, 1) := by decide +kernel
theorem d4_20 : decode prog_36_method_4_code 20 = .ok (.dadd, 1) := by decide +kernel
theorem d4_21 : decode prog_36_method_4_code 21 = .ok (.dmul, 1) := by decide +kernel
theorem d4_22 : decode prog_36_method_4_code 22 = .ok (.dstore 6, 2) := by decide +kernel
theorem d4_24 : decode prog_36_method_4_code 24 = .ok (.aload_n 0, 1) := by decide +kernel
theorem d4_25 : decode prog_36_method_4_code 25 = .ok (.getfield 22, 3) := by decide +kernel
theorem d4_28 : decode prog_36_method_4_code 28 = .ok (.dconst 1, 1) := by decide +kernel
theorem d4_29 : decode prog_36_method_4_code 29 = .ok (.dadd, 1) := by decide +kernel
theorem d4_30 : decode prog_36_method_4_code 30 = .ok (.iload_n 1, 1) := by decide +kernel
theorem d4_31 : decode prog_36_method_4_code 31 = .ok (.i2d, 1) := by decide +kernel
theorem d4_32 : decode prog_36_method_4_code 32 = .ok (.dmul, 1) := by decide +kernel
theorem d4_33 : decode prog_36_method_4_code 33 = .ok (.dload 6, 2) := by decide +kernel
theorem d4_35 : decode prog_36_method_4_code 35 = .ok (.iload_n 1, 1) := by decide +kernel
theorem d4_36 : decode prog_36_method_4_code 36 = .ok (.i2d, 1) := by decide +kernel
theorem d4_37 : decode prog_36_method_4_code 37 = .ok (.dadd, 1) := by decide +kernel
theorem d4_38 : decode prog_36_method_4_code 38 = .ok (.ddiv, 1) := by decide +kernel
theorem d4_39 : decode prog_36_method_4_code 39 = .ok (.dreturn, 1) := by decide +kernel
def rm_4 : Room := ({ frames := 0, cells := 0, slots := 0, locals := 0 } : Room)
theorem pn_4 : plainFor (⟨"com/example/sanstem/sanstem/retrieval/Bm25", "documentFactor", "(IJD)D"⟩ : MethodName) = true := plainFor_of_name (by first | (simp [plainName, overriddenIn]; done) | (simp [plainName, overriddenIn, x]; done) | decide +kernel)
theorem ef_4 (r0 : Addr) (p1 : Int32) (q2 : Int64) (d3 : UInt64) (m : MethodId) : entryFrame m #[(.ref r0), (.int p1), (.long q2), (.double d3)] 8 = mkF m 0 #[.val (.ref r0), .val (.int p1), .val (.long q2), .second, .val (.double d3), .second, .unset, .unset] [] := by first | (simp [entryFrame, mkF, argsToLocals, Value.category]; done) | rfl
set_option maxRecDepth 65536 in
set_option maxHeartbeats 40000000 in
theorem ct_4 (l : Launch) (Z : State) (a0 : Array Value) (hw : ∀ d ∈ tables_1, d.before a0 Z = true) (r0 : Addr) (p1 : Int32) (q2 : Int64) (d3 : UInt64) (k1 : UInt64) (bb : UInt64) (h0 : Heap) (n0 : Nat) (hn : n0 ≤ h0.size) (E_r0 : Exa Z h0 r0 "com/example/sanstem/sanstem/retrieval/Bm25") (F_k1_r0 : Fld Z h0 r0 "com/example/sanstem/sanstem/retrieval/Bm25" "k1" "D" (.double k1)) (F_b_r0 : Fld Z h0 r0 "com/example/sanstem/sanstem/retrieval/Bm25" "b" "D" (.double bb)) (n1 : Jvm.Free.Fl.NoNaN64 (FP.dsub FP.dconst1 bb)) (n2 : Jvm.Free.Fl.NoNaN64 (FP.dmul bb (FP.l2d q2))) (n3 : Jvm.Free.Fl.NoNaN64 (FP.ddiv (FP.dmul bb (FP.l2d q2)) d3)) (n4 : Jvm.Free.Fl.NoNaN64 (FP.dadd (FP.dsub FP.dconst1 bb) (FP.ddiv (FP.dmul bb (FP.l2d q2)) d3))) (n5 : Jvm.Free.Fl.NoNaN64 (FP.dmul k1 (FP.dadd (FP.dsub FP.dconst1 bb) (FP.ddiv (FP.dmul bb (FP.l2d q2)) d3)))) (n6 : Jvm.Free.Fl.NoNaN64 (FP.dadd k1 FP.dconst1)) (n7 : Jvm.Free.Fl.NoNaN64 (FP.dmul (FP.dadd k1 FP.dconst1) (FP.i2d p1))) (n8 : Jvm.Free.Fl.NoNaN64 (FP.dadd (FP.dmul k1 (FP.dadd (FP.dsub FP.dconst1 bb) (FP.ddiv (FP.dmul bb (FP.l2d q2)) d3))) (FP.i2d p1))) (n9 : Jvm.Free.Fl.NoNaN64 (FP.ddiv (FP.dmul (FP.dadd k1 FP.dconst1) (FP.i2d p1)) (FP.dadd (FP.dmul k1 (FP.dadd (FP.dsub FP.dconst1 bb) (FP.ddiv (FP.dmul bb (FP.l2d q2)) d3))) (FP.i2d p1)))) : Ct l (⟨"com/example/sanstem/sanstem/retrieval/Bm25", "documentFactor", "(IJD)D"⟩ : MethodName) prog_36_method_4_code 8 (some .double) [] rm_4 Z h0 n0 #[(.ref r0), (.int p1), (.long q2), (.double d3)] (Qp (some (.double (FP.ddiv (FP.dmul (FP.dadd k1 FP.dconst1) (FP.i2d p1)) (FP.dadd (FP.dmul k1 (FP.dadd (FP.dsub FP.dconst1 bb) (FP.ddiv (FP.dmul bb (FP.l2d q2)) d3))) (FP.i2d p1))))) h0) := by
  refine o_body pn_4 hn (ef_4 r0 p1 q2 d3) ?_
  intro p e s m below meth c T S
  refine o_aloadN S rfl rfl d4_0 rfl (q := 1) ?_
  refine o_getF S (o_wd (i := 21) hw rfl) Via.refl F_k1_r0 d4_1 rfl (q := 4) (fun T S => ?_)
  refine o_dconst1 S d4_4 rfl (q := 5) ?_
  refine o_aloadN S rfl rfl d4_5 rfl (q := 6) ?_
  refine o_getF S (o_wd (i := 23) hw rfl) Via.refl F_b_r0 d4_6 rfl (q := 9) (fun T S => ?_)
  refine o_dsub S n1 d4_9 rfl (q := 10) ?_
  refine o_aloadN S rfl rfl d4_10 rfl (q := 11) ?_
  refine o_getF S (o_wd (i := 23) hw rfl) Via.refl F_b_r0 d4_11 rfl (q := 14) (fun T S => ?_)
  refine o_lloadN S rfl d4_14 rfl (q := 15) ?_
  refine o_l2d S d4_15 rfl (q := 16) ?_
  refine o_dmul S n2 d4_16 rfl (q := 17) ?_
  refine o_dload S rfl d4_17 rfl (q := 19) ?_
  refine o_ddiv S n3 d4_19 rfl (q := 20) ?_
  refine o_dadd S n4 d4_20 rfl (q := 21) ?_
  refine o_dmul S n5 d4_21 rfl (q := 22) ?_
  refine o_dstore S (L' := #[.val (.ref r0), .val (.int p1), .val (.long q2), .second, .val (.double d3), .second, .val (.double (FP.dmul k1 (FP.dadd (FP.dsub FP.dconst1 bb) (FP.ddiv (FP.dmul bb (FP.l2d q2)) d3)))), .second]) rfl d4_22 rfl (q := 24) ?_
  refine o_aloadN S rfl rfl d4_24 rfl (q := 25) ?_
  refine o_getF S (o_wd (i := 21) hw rfl) Via.refl F_k1_r0 d4_25 rfl (q := 28) (fun T S => ?_)
  refine o_dconst1 S d4_28 rfl (q := 29) ?_
  refine o_dadd S n6 d4_29 rfl (q := 30) ?_
  refine o_iloadN S rfl d4_30 rfl (q := 31) ?_
  refine o_i2d S d4_31 rfl (q := 32) ?_
  refine o_dmul S n7 d4_32 rfl (q := 33) ?_
  refine o_dload S rfl d4_33 rfl (q := 35) ?_
  refine o_iloadN S rfl d4_35 rfl (q := 36) ?_
  refine o_i2d S d4_36 rfl (q := 37) ?_
  refine o_dadd S n8 d4_37 rfl (q := 38) ?_
  refine o_ddiv S n9 d4_38 rfl (q := 39) ?_
  refine o_retD S rfl d4_39 (by decide) (by decide) ?_
  exact ⟨rfl, rfl⟩
theorem a1 (i U : Nat) : i * U * 2 ^ 2 = i * (4 * U) := by grind
theorem a2 (i P p : Nat) : i * (4 * (P * p)) * 2 ^ 2 = i * (16 * (P * p)) := by grind
theorem a3 (p U : Nat) : p * U * 2 ^ 3 = p * (8 * U) := by grind
theorem a4 (P p : Nat) : p * (2 * (P * p)) * 2 ^ 3 = p * (16 * (P * p)) := by grind
theorem a5 (j r X : Nat) (h : j + r = 4) : 16 * X = j * (4 * X) + r * (4 * X) := by rw [← Nat.add_mul, h]; omega
theorem a6 (j len P p : Nat) : j * (4 * (P * p)) * (len * (16 * (P * p))) * 2 ^ 2 = j * len * (16 * (P * p)) * (16 * (P * p)) := by grind
theorem a7 (x P p : Nat) : x * (4 * (P * p)) * p = 2 * x * (p * (2 * (P * p))) := by grind
theorem a8 (x P p : Nat) : 32 * x * P * p = 2 * x * (16 * (P * p)) := by grind
theorem a9 (r x P p : Nat) : (r * (4 * (P * p)) + 32 * x * P) * (4 * p) = (r * p + 8 * x) * (16 * (P * p)) := by grind
theorem a10 (i r x P p : Nat) : i * (4 * (P * p)) * (r * (4 * (P * p)) + 32 * x * P) * (16 * p) = i * (r * p + 8 * x) * (16 * (P * p)) * (16 * (P * p)) := by grind
theorem a11 (y P p : Nat) : y * P * (16 * p) = y * (16 * (P * p)) := by grind
theorem a12 (i P p : Nat) : (i * (4 * (P * p)) + 16 * (P * p)) * 2 ^ 2 = (i + 4) * (16 * (P * p)) := by grind
theorem a13 (i t P p : Nat) : (i * (4 * (P * p)) + 16 * (P * p)) * (t * (16 * (P * p))) * 2 ^ 2 = (i + 4) * t * (16 * (P * p)) * (16 * (P * p)) := by grind
theorem a14 (y t P p : Nat) : (y * P + t * (16 * (P * p))) * (16 * p) = (y + t * 16 * p) * (16 * (P * p)) := by grind
theorem a15 (y t P p : Nat) : y * P + t * (16 * (P * p)) = (y + t * 16 * p) * P := by grind
theorem a16 (x d P p : Nat) : x * (4 * (P * p)) * (d * (16 * (P * p))) = x * 4 * p * (16 * (P * p)) * (d * P) := by grind
open OwnFl Jvm.Free.Fl in
theorem bm {xi xj xt xl xp xa xd : UInt64} {i j r t len e a d U p : Nat} (hU : U = 2 ^ 1074) (hpp : p = 2 ^ e) (Ei : EV xi false (i * U)) (Ej : EV xj false (j * U)) (Et : EV xt false (t * U)) (El : EV xl false (len * U)) (Ep : EV xp false (p * U)) (Ea : EV xa false (a * U)) (Ed : EV xd false (d * U)) (E1 : EV FP.dconst1 false U) (E4 : EV (4616189618054758400 : UInt64) false (4 * U)) (E8 : EV (4620693217682128896 : UInt64) false (8 * U))
    (hi : i ≤ 63) (hj : j + r = 4) (he : e ≤ 7) (hp : p ≤ 128) (ha : a = (i + 4) * t * 4 * p) (hd : d = i * (r * p + 8 * (j * len)) + t * 16 * p) (hd0 : d ≠ 0) (hdm : d < 9007199254740992) (hw : i * (r * p + 8 * (j * len)) < 9007199254740992) (hw2 : r * p + 8 * (j * len) < 9007199254740992) (hit : (i + 4) * t < 9007199254740992) :
    (∃ Mk Mb, EV (FP.ddiv xi 4616189618054758400) false Mk ∧ EV (FP.ddiv xj 4616189618054758400) false Mb ∧ Mb ≤ U) ∧ NoNaN64 (FP.ddiv xp 4620693217682128896) ∧ NoNaN64 ((FP.dsub FP.dconst1 (FP.ddiv xj 4616189618054758400))) ∧ NoNaN64 ((FP.dmul (FP.ddiv xj 4616189618054758400) xl)) ∧ NoNaN64 ((FP.ddiv (FP.dmul (FP.ddiv xj 4616189618054758400) xl) (FP.ddiv xp 4620693217682128896))) ∧ NoNaN64 ((FP.dadd (FP.dsub FP.dconst1 (FP.ddiv xj 4616189618054758400)) (FP.ddiv (FP.dmul (FP.ddiv xj 4616189618054758400) xl) (FP.ddiv xp 4620693217682128896)))) ∧ NoNaN64 ((FP.dmul (FP.ddiv xi 4616189618054758400) (FP.dadd (FP.dsub FP.dconst1 (FP.ddiv xj 4616189618054758400)) (FP.ddiv (FP.dmul (FP.ddiv xj 4616189618054758400) xl) (FP.ddiv xp 4620693217682128896))))) ∧ NoNaN64 ((FP.dadd (FP.ddiv xi 4616189618054758400) FP.dconst1)) ∧ NoNaN64 ((FP.dmul (FP.dadd (FP.ddiv xi 4616189618054758400) FP.dconst1) xt)) ∧ NoNaN64 ((FP.dadd (FP.dmul (FP.ddiv xi 4616189618054758400) (FP.dadd (FP.dsub FP.dconst1 (FP.ddiv xj 4616189618054758400)) (FP.ddiv (FP.dmul (FP.ddiv xj 4616189618054758400) xl) (FP.ddiv xp 4620693217682128896)))) xt)) ∧ (FP.ddiv (FP.dmul (FP.dadd (FP.ddiv xi 4616189618054758400) FP.dconst1) xt) (FP.dadd (FP.dmul (FP.ddiv xi 4616189618054758400) (FP.dadd (FP.dsub FP.dconst1 (FP.ddiv xj 4616189618054758400)) (FP.ddiv (FP.dmul (FP.ddiv xj 4616189618054758400) xl) (FP.ddiv xp 4620693217682128896)))) xt)) = FP.ddiv xa xd ∧ NoNaN64 (FP.ddiv xa xd) := by
  obtain ⟨P, hP⟩ : ∃ P, P = 2 ^ (1070 - e) := ⟨_, rfl⟩
  have p0 : 0 < p := by rw [hpp]; exact Nat.two_pow_pos e
  have P0 : 0 < P := by rw [hP]; exact Nat.two_pow_pos _
  have e4 : 2 ^ (e + 4) = 16 * p := by rw [Nat.pow_add, ← hpp, Nat.mul_comm]
  have e2 : 2 ^ (e + 2) = 4 * p := by rw [Nat.pow_add, ← hpp, Nat.mul_comm]
  have UP : U = 16 * (P * p) := by rw [hU, show 1074 = (1070 - e) + (e + 4) by omega, Nat.pow_add, e4, ← hP, Nat.mul_left_comm]
  have X0 := Nat.mul_pos P0 p0
  have b53 : (2 : Nat) ^ 53 = 9007199254740992 := by decide
  clear hP
  subst UP
  rw [← b53] at hdm hw hw2 hit
  have k1 : EV (FP.ddiv xi 4616189618054758400) false (i * (4 * (P * p))) := EV.div' (m := i) (k := 2) hU Ei E4 (by omega) (by rw [b53]; omega) (by omega) (a1 _ _) (a2 _ _ _)
  have bb : EV (FP.ddiv xj 4616189618054758400) false (j * (4 * (P * p))) := EV.div' (m := j) (k := 2) hU Ej E4 (by omega) (by rw [b53]; omega) (by omega) (a1 _ _) (a2 _ _ _)
  have d3 : EV (FP.ddiv xp 4620693217682128896) false (p * (2 * (P * p))) := EV.div' (m := p) (k := 3) hU Ep E8 (by omega) (by rw [b53]; omega) (by omega) (a3 _ _) (a4 _ _)
  have s1 := EV.sub' (R := r * (4 * (P * p))) (m := r) (k := 2) hU E1 bb (by rw [b53]; omega) (by omega) (a5 j r _ hj) (a2 _ _ _)
  have s2 := EV.mul' (R := j * len * (4 * (P * p))) (m := j * len) (k := 2) hU bb El (by omega) (by omega) (a6 _ _ _ _) (a2 _ _ _)
  have s3 := EV.div' (R := 32 * (j * len) * P) (m := 2 * (j * len)) (k := e) hU s2 d3 (by have := Nat.mul_pos p0 X0; intro z; rw [Nat.mul_left_comm] at z; omega) (by omega) (by omega) (by rw [← hpp]; exact a7 _ _ _) (by rw [← hpp]; exact a8 _ _ _)
  have s4 := EV.add' (m := r * p + 8 * (j * len)) (k := e + 2) hU s1 s3 hw2 (by omega) (by rw [e2]; exact a9 _ _ _ _)
  have s5 := EV.mul' (R := i * (r * p + 8 * (j * len)) * P) (m := i * (r * p + 8 * (j * len))) (k := e + 4) hU k1 s4 hw (by omega) (by rw [e4]; exact a10 _ _ _ _ _) (by rw [e4]; exact a11 _ _ _)
  have s6 := EV.add' (m := i + 4) (k := 2) hU k1 E1 (by rw [b53]; omega) (by omega) (a12 _ _ _)
  have s7 := EV.mul' (R := (i + 4) * t * (4 * (P * p))) (m := (i + 4) * t) (k := 2) hU s6 Et hit (by omega) (a13 _ _ _ _) (a2 _ _ _)
  have s8 := EV.add' (m := d) (k := e + 4) hU s5 Et hdm (by omega) (by rw [e4, hd]; exact a14 _ _ _ _)
  have nz : i * (r * p + 8 * (j * len)) * P + t * (16 * (P * p)) = d * P := by rw [hd]; exact a15 _ _ _ _
  have dP : d * P ≠ 0 := Nat.mul_ne_zero hd0 (by omega)
  have q := EV.divEq s7 s8 Ea Ed (by rw [nz]; exact dP) (Nat.mul_ne_zero hd0 (by omega)) (by rw [nz, ha]; exact a16 _ _ _ _)
  exact ⟨⟨_, _, k1, bb, by have := a5 j r (P * p) hj; omega⟩, d3.nn, s1.nn, s2.nn, s3.nn, s4.nn, s5.nn, s6.nn, s7.nn, s8.nn, q.1, val64_no.mpr (by rw [← q.1]; exact q.2)⟩
theorem mulx {x y : Int64} {a b : Nat} (hx : x.toInt = a) (hy : y.toInt = b) (h : a * b < 9223372036854775808) : (x * y).toInt = (a * b : Nat) := by
  have q := c_lmul x y; have r := rng64 (x * y)
  rw [hx, hy, ← Int.natCast_mul] at q; omega
theorem addx {x y : Int64} {a b : Nat} (hx : x.toInt = a) (hy : y.toInt = b) (h : a + b < 9223372036854775808) : (x + y).toInt = (a + b : Nat) := by
  have q := c_ladd x y; have r := rng64 (x + y); omega
theorem nums {p0 p2 p3 p4 tt ii jj ee : Int32} {q1 ln pp kn dd aa : Int64} (htt : tt = (p0 &&& (2147483647 : Int32))) (hln : ln = (q1 &&& (1099511627775 : Int64))) (hii : ii = (p2 &&& (63 : Int32))) (hjj : jj = ((p3 &&& (2147483647 : Int32)) % (5 : Int32))) (hee : ee = (p4 &&& (7 : Int32))) (hpp : pp = ((1 : Int64) <<< (ee &&& 0x3f).toInt64))
    (hkn : kn = (ii.toInt64 * ((((4 : Int64) - jj.toInt64) * pp) + (((8 : Int64) * jj.toInt64) * ln)))) (hdd : dd = (kn + ((tt.toInt64 * (16 : Int64)) * pp))) (haa : aa = ((((ii + (4 : Int32)).toInt64 * tt.toInt64) * (4 : Int64)) * pp)) (hd0 : ¬ dd = 0) :
    ∃ i j r t len e p a d : Nat, ii.toInt64.toInt = i ∧ jj.toInt64.toInt = j ∧ tt.toInt64.toInt = t ∧ ln.toInt = len ∧ pp.toInt = p ∧ aa.toInt = a ∧ dd.toInt = d ∧ p = 2 ^ e ∧ i ≤ 63 ∧ j + r = 4 ∧ e ≤ 7 ∧ p ≤ 128 ∧ t < 2147483648 ∧ len < 1099511627776 ∧ a = (i + 4) * t * 4 * p ∧ a < 9007199254740992 ∧ d = i * (r * p + 8 * (j * len)) + t * 16 * p ∧ d ≠ 0 ∧ d < 9007199254740992 ∧ i * (r * p + 8 * (j * len)) < 9007199254740992 ∧ r * p + 8 * (j * len) < 9007199254740992 ∧ (i + 4) * t < 9007199254740992 := by
  have h1 : tt.toInt = p0.toInt % 2147483648 := by rw [htt]; exact c_mask p0 2147483647 31 (by decide) (by decide)
  have h2 : ln.toInt = q1.toInt % 1099511627776 := by rw [hln]; exact c_maskL q1 1099511627775 40 (by decide) (by decide)
  have h3 : ii.toInt = p2.toInt % 64 := by rw [hii]; exact c_mask p2 63 6 (by decide) (by decide)
  have h4 : (p3 &&& (2147483647 : Int32)).toInt = p3.toInt % 2147483648 := c_mask p3 2147483647 31 (by decide) (by decide)
  have h5 := (c_irem (p3 &&& (2147483647 : Int32)) 5 5 rfl).1 (by omega)
  rw [← hjj] at h5
  have h6 : ee.toInt = p4.toInt % 8 := by rw [hee]; exact c_mask p4 7 3 (by decide) (by decide)
  obtain ⟨i, ei⟩ : ∃ i : Nat, ii.toInt = i := ⟨ii.toInt.toNat, by omega⟩
  obtain ⟨j, ej⟩ : ∃ j : Nat, jj.toInt = j := ⟨jj.toInt.toNat, by omega⟩
  obtain ⟨t, et⟩ : ∃ t : Nat, tt.toInt = t := ⟨tt.toInt.toNat, by omega⟩
  obtain ⟨len, el⟩ : ∃ len : Nat, ln.toInt = len := ⟨ln.toInt.toNat, by omega⟩
  obtain ⟨r, er⟩ : ∃ r : Nat, j + r = 4 := ⟨4 - j, by omega⟩
  obtain ⟨g1, g2⟩ := o_nat (j := ee) (by omega)
  obtain ⟨e, ee2⟩ : ∃ e : Fin 8, ee = Int32.ofNat e.1 := ⟨⟨ee.toNatClampNeg, by omega⟩, (back32 g1).1.symm⟩
  have qp : ∀ n : Fin 8, ((1 : Int64) <<< ((Int32.ofNat n.1) &&& 0x3f).toInt64).toInt = ((2 ^ n.1 : Nat) : Int) ∧ 2 ^ n.1 ≤ 128 := by decide +kernel
  have ep : pp.toInt = ((2 ^ e.1 : Nat) : Int) := by rw [hpp, ee2]; exact (qp e).1
  have lp := (qp e).2
  have le := e.2
  generalize hp : 2 ^ e.1 = p at *
  have fi : ii.toInt64.toInt = i := by rw [c_i2l]; exact ei
  have fj : jj.toInt64.toInt = j := by rw [c_i2l]; exact ej
  have ft : tt.toInt64.toInt = t := by rw [c_i2l]; exact et
  have bi : i ≤ 63 := by omega
  have bt : t ≤ 2147483647 := by omega
  have bl : len ≤ 1099511627775 := by omega
  have u1 : ((4 : Int64) - jj.toInt64).toInt = r := by have q := c_lsub (4 : Int64) jj.toInt64; have w : (4 : Int64).toInt = 4 := rfl; have z := rng64 ((4 : Int64) - jj.toInt64); omega
  have b2 : r * p ≤ 4 * 128 := Nat.mul_le_mul (by omega) lp
  have u2 := mulx u1 ep (by omega)
  have u3 := mulx (x := (8 : Int64)) (a := 8) rfl fj (by omega)
  have b4 : 8 * j * len ≤ 32 * 1099511627775 := Nat.mul_le_mul (by omega) bl
  have u4 := mulx u3 el (by omega)
  have u5 := addx u2 u4 (by omega)
  have b6 : i * (r * p + 8 * j * len) ≤ 63 * (512 + 32 * 1099511627775) := Nat.mul_le_mul bi (by omega)
  have u6 := mulx fi u5 (by omega)
  rw [← hkn] at u6
  have v1 := mulx (y := (16 : Int64)) (b := 16) ft rfl (by omega)
  have b7 : t * 16 * p ≤ (2147483647 * 16) * 128 := Nat.mul_le_mul (by omega) lp
  have v2 := mulx v1 ep (by omega)
  have v3 := addx u6 v2 (by omega)
  rw [← hdd] at v3
  have w1 : (ii + (4 : Int32)).toInt64.toInt = (i + 4 : Nat) := by rw [c_i2l]; have q := c_iadd ii (4 : Int32); have w : (4 : Int32).toInt = 4 := rfl; have z := rng32 (ii + (4 : Int32)); omega
  have b8 : (i + 4) * t ≤ 67 * 2147483647 := Nat.mul_le_mul (by omega) bt
  have w2 := mulx w1 ft (by omega)
  have w3 := mulx (y := (4 : Int64)) (b := 4) w2 rfl (by omega)
  have b9 : (i + 4) * t * 4 * p ≤ (67 * 2147483647 * 4) * 128 := Nat.mul_le_mul (by omega) lp
  have w4 := mulx w3 ep (by omega)
  rw [← haa] at w4
  rw [Nat.mul_assoc 8 j len] at b6 v3
  have dn : i * (r * p + 8 * (j * len)) + t * 16 * p ≠ 0 := fun z => hd0 (Int64.toInt_inj.1 (by rw [v3, z]; rfl))
  refine ⟨i, j, r, t, len, e.1, p, _, _, fi, fj, ft, el, ep, w4, v3, hp.symm, bi, er, by omega, lp, by omega, by omega, rfl, by omega, rfl, dn, by omega, by omega, ?_, by omega⟩
  rw [Nat.mul_assoc] at b4; omega
open OwnFl Jvm.Free.Fl in
theorem evi {x : Int32} {m : Nat} (h : x.toInt64.toInt = m) (hm : m < 9007199254740992) : EV (FP.i2d x) false (m * 2 ^ 1074) := by rw [i2d_w]; exact EV.l2d h hm
open OwnFl in
theorem evl {x : Int64} {m : Nat} (h : x.toInt = m) (hm : m < 9007199254740992) : EV (FP.l2d x) false (m * 2 ^ 1074) := EV.l2d h hm
open OwnFl in
theorem ev0 : EV FP.dconst0 false 0 := EV.lit (c := 0) (q := -1074) (by decide +kernel) (by decide) (by decide)
open OwnFl in
theorem ev1 : EV FP.dconst1 false (2 ^ 1074) := EV.lit (c := 2 ^ 52) (q := -52) (by decide +kernel) (by decide) (by decide +kernel)
open OwnFl in
theorem ev4 : EV (4616189618054758400 : UInt64) false (4 * 2 ^ 1074) := EV.lit (c := 2 ^ 52) (q := -50) (by decide +kernel) (by decide) (by decide +kernel)
open OwnFl in
theorem ev8 : EV (4620693217682128896 : UInt64) false (8 * 2 ^ 1074) := EV.lit (c := 2 ^ 52) (q := -49) (by decide +kernel) (by decide) (by decide +kernel)
open OwnFl in
theorem cmp_ge {x y : UInt64} {M N : Nat} (hx : EV x false M) (hy : EV y false N) (h : N ≤ M) (o : CmpOp) : ¬ (cmpValue (FP.dcmp x y) o).toInt < 0 := by
  rw [EV.cmp hx hy]
  by_cases z : M = N
  · rw [Int.compare_eq_eq.mpr (by omega)]; cases o <;> decide
  · rw [Int.compare_eq_gt.mpr (by omega)]; cases o <;> decide
open OwnFl in
theorem cmp_le {x y : UInt64} {M N : Nat} (hx : EV x false M) (hy : EV y false N) (h : M ≤ N) (o : CmpOp) : (cmpValue (FP.dcmp x y) o).toInt ≤ 0 := by
  rw [EV.cmp hx hy]
  by_cases z : M = N
  · rw [Int.compare_eq_eq.mpr (by omega)]; cases o <;> decide
  · rw [Int.compare_eq_lt.mpr (by omega)]; cases o <;> decide
theorem cmp_inf {x : UInt64} (h : Jvm.Free.Fl.Fin64 x) (o : CmpOp) : (cmpValue (FP.dcmp x 9218868437227405312) o).toInt < 0 := by rw [dcmp_pinf h o]; decide
theorem pd_1 : parseMethodDescriptor "(DDD)V" = some ⟨[.double, .double, .double], none⟩ := by decide +kernel
theorem pd_2 : parseMethodDescriptor "(IJD)D" = some ⟨[.int, .long, .double], some .double⟩ := by decide +kernel
def Q0 : Option Value → Heap → Prop := fun v _ => v = some (.int 1)
theorem pn_0 : plainFor x = true := plainFor_of_name (by first | (simp [plainName, overriddenIn]; done) | (simp [plainName, overriddenIn, x]; done) | decide +kernel)
theorem ef_0 (p0 : Int32) (q1 : Int64) (p2 : Int32) (p3 : Int32) (p4 : Int32) (m : MethodId) : entryFrame m #[(.int p0), (.long q1), (.int p2), (.int p3), (.int p4)] maxLocals = mkF m 0 #[.val (.int p0), .val (.long q1), .second, .val (.int p2), .val (.int p3), .val (.int p4), .unset, .unset, .unset, .unset, .unset, .unset, .unset, .unset, .unset, .unset, .unset, .unset, .unset, .unset, .unset, .unset, .unset, .unset, .unset] [] := by first | (simp [entryFrame, mkF, argsToLocals, Value.category, maxLocals]; done) | rfl
set_option maxRecDepth 65536 in
set_option maxHeartbeats 40000000 in
theorem ct_0 (l : Launch) (Z : State) (a0 : Array Value) (hw : ∀ d ∈ tables_1, d.before a0 Z = true) (ws : List Jvm.Cond) (p0 : Int32) (q1 : Int64) (p2 : Int32) (p3 : Int32) (p4 : Int32) (h0 : Heap) (n0 : Nat) (hn : n0 ≤ h0.size) : Ct l x code maxLocals ret ws room_1 Z h0 n0 #[(.int p0), (.long q1), (.int p2), (.int p3), (.int p4)] (Q0) := by
  refine o_body pn_0 hn (ef_0 p0 q1 p2 p3 p4) ?_
  intro p e s m below meth c T S
  refine o_iloadN S rfl at_0 rfl (q := 1) ?_
  refine o_ldc S (o_wd (i := 0) hw rfl) at_1 rfl (q := 3) ?_
  refine o_iand S at_3 rfl (q := 4) ?_
  refine o_istoreV S (L' := fun tt => #[.val (.int p0), .val (.long q1), .second, .val (.int p2), .val (.int p3), .val (.int p4), .val (.int tt), .unset, .unset, .unset, .unset, .unset, .unset, .unset, .unset, .unset, .unset, .unset, .unset, .unset, .unset, .unset, .unset, .unset, .unset]) (fun _ => rfl) at_4 rfl (q := 6) (fun tt htt => ?_)
  refine o_lloadN S rfl at_6 rfl (q := 7) ?_
  refine o_ldc2 S (o_wd (i := 1) hw rfl) at_7 rfl (q := 10) ?_
  refine o_land S at_10 rfl (q := 11) ?_
  refine o_lstoreV S (L' := fun ln => #[.val (.int p0), .val (.long q1), .second, .val (.int p2), .val (.int p3), .val (.int p4), .val (.int tt), .val (.long ln), .second, .unset, .unset, .unset, .unset, .unset, .unset, .unset, .unset, .unset, .unset, .unset, .unset, .unset, .unset, .unset, .unset]) (fun _ => rfl) at_11 rfl (q := 13) (fun ln hln => ?_)
  refine o_iloadN S rfl at_13 rfl (q := 14) ?_
  refine o_bipush S (z := 63) rfl at_14 rfl (q := 16) ?_
  refine o_iand S at_16 rfl (q := 17) ?_
  refine o_istoreV S (L' := fun ii => #[.val (.int p0), .val (.long q1), .second, .val (.int p2), .val (.int p3), .val (.int p4), .val (.int tt), .val (.long ln), .second, .val (.int ii), .unset, .unset, .unset, .unset, .unset, .unset, .unset, .unset, .unset, .unset, .unset, .unset, .unset, .unset, .unset]) (fun _ => rfl) at_17 rfl (q := 19) (fun ii hii => ?_)
  refine o_iload S rfl at_19 rfl (q := 21) ?_
  refine o_ldc S (o_wd (i := 0) hw rfl) at_21 rfl (q := 23) ?_
  refine o_iand S at_23 rfl (q := 24) ?_
  refine o_iconst S (z := 5) rfl at_24 rfl (q := 25) ?_
  refine o_irem S (by decide) at_25 rfl (q := 26) ?_
  refine o_istoreV S (L' := fun jj => #[.val (.int p0), .val (.long q1), .second, .val (.int p2), .val (.int p3), .val (.int p4), .val (.int tt), .val (.long ln), .second, .val (.int ii), .val (.int jj), .unset, .unset, .unset, .unset, .unset, .unset, .unset, .unset, .unset, .unset, .unset, .unset, .unset, .unset]) (fun _ => rfl) at_26 rfl (q := 28) (fun jj hjj => ?_)
  refine o_iload S rfl at_28 rfl (q := 30) ?_
  refine o_bipush S (z := 7) rfl at_30 rfl (q := 32) ?_
  refine o_iand S at_32 rfl (q := 33) ?_
  refine o_istoreV S (L' := fun ee => #[.val (.int p0), .val (.long q1), .second, .val (.int p2), .val (.int p3), .val (.int p4), .val (.int tt), .val (.long ln), .second, .val (.int ii), .val (.int jj), .val (.int ee), .unset, .unset, .unset, .unset, .unset, .unset, .unset, .unset, .unset, .unset, .unset, .unset, .unset]) (fun _ => rfl) at_33 rfl (q := 35) (fun ee hee => ?_)
  refine o_lconst S (z := 1) rfl at_35 rfl (q := 36) ?_
  refine o_iload S rfl at_36 rfl (q := 38) ?_
  refine o_lshl S at_38 rfl (q := 39) ?_
  refine o_lstoreV S (L' := fun pp => #[.val (.int p0), .val (.long q1), .second, .val (.int p2), .val (.int p3), .val (.int p4), .val (.int tt), .val (.long ln), .second, .val (.int ii), .val (.int jj), .val (.int ee), .val (.long pp), .second, .unset, .unset, .unset, .unset, .unset, .unset, .unset, .unset, .unset, .unset, .unset]) (fun _ => rfl) at_39 rfl (q := 41) (fun pp hpp => ?_)
  refine o_iload S rfl at_41 rfl (q := 43) ?_
  refine o_i2l S at_43 rfl (q := 44) ?_
  refine o_ldc2 S (o_wd (i := 2) hw rfl) at_44 rfl (q := 47) ?_
  refine o_iload S rfl at_47 rfl (q := 49) ?_
  refine o_i2l S at_49 rfl (q := 50) ?_
  refine o_lsub S at_50 rfl (q := 51) ?_
  refine o_lload S rfl at_51 rfl (q := 53) ?_
  refine o_lmul S at_53 rfl (q := 54) ?_
  refine o_ldc2 S (o_wd (i := 3) hw rfl) at_54 rfl (q := 57) ?_
  refine o_iload S rfl at_57 rfl (q := 59) ?_
  refine o_i2l S at_59 rfl (q := 60) ?_
  refine o_lmul S at_60 rfl (q := 61) ?_
  refine o_lload S rfl at_61 rfl (q := 63) ?_
  refine o_lmul S at_63 rfl (q := 64) ?_
  refine o_ladd S at_64 rfl (q := 65) ?_
  refine o_lmul S at_65 rfl (q := 66) ?_
  refine o_lstoreV S (L' := fun kn => #[.val (.int p0), .val (.long q1), .second, .val (.int p2), .val (.int p3), .val (.int p4), .val (.int tt), .val (.long ln), .second, .val (.int ii), .val (.int jj), .val (.int ee), .val (.long pp), .second, .val (.long kn), .second, .unset, .unset, .unset, .unset, .unset, .unset, .unset, .unset, .unset]) (fun _ => rfl) at_66 rfl (q := 68) (fun kn hkn => ?_)
  refine o_lload S rfl at_68 rfl (q := 70) ?_
  refine o_iload S rfl at_70 rfl (q := 72) ?_
  refine o_i2l S at_72 rfl (q := 73) ?_
  refine o_ldc2 S (o_wd (i := 4) hw rfl) at_73 rfl (q := 76) ?_
  refine o_lmul S at_76 rfl (q := 77) ?_
  refine o_lload S rfl at_77 rfl (q := 79) ?_
  refine o_lmul S at_79 rfl (q := 80) ?_
  refine o_ladd S at_80 rfl (q := 81) ?_
  refine o_lstoreV S (L' := fun dd => #[.val (.int p0), .val (.long q1), .second, .val (.int p2), .val (.int p3), .val (.int p4), .val (.int tt), .val (.long ln), .second, .val (.int ii), .val (.int jj), .val (.int ee), .val (.long pp), .second, .val (.long kn), .second, .val (.long dd), .second, .unset, .unset, .unset, .unset, .unset, .unset, .unset]) (fun _ => rfl) at_81 rfl (q := 83) (fun dd hdd => ?_)
  refine o_lload S rfl at_83 rfl (q := 85) ?_
  refine o_lconst S (z := 0) rfl at_85 rfl (q := 86) ?_
  refine o_lcmp S at_86 rfl (q := 87) ?_
  refine o_if S at_87 (by decide) (q' := 92) (by decide) (q := 90) rfl hl_ne.1 hl_ne.2 (fun hc87 => ?_) (fun hc87 => ?_)
  · skip
    refine o_iload S rfl at_92 rfl (q := 94) ?_
    refine o_iconst S (z := 4) rfl at_94 rfl (q := 95) ?_
    refine o_iadd S at_95 rfl (q := 96) ?_
    refine o_i2l S at_96 rfl (q := 97) ?_
    refine o_iload S rfl at_97 rfl (q := 99) ?_
    refine o_i2l S at_99 rfl (q := 100) ?_
    refine o_lmul S at_100 rfl (q := 101) ?_
    refine o_ldc2 S (o_wd (i := 2) hw rfl) at_101 rfl (q := 104) ?_
    refine o_lmul S at_104 rfl (q := 105) ?_
    refine o_lload S rfl at_105 rfl (q := 107) ?_
    refine o_lmul S at_107 rfl (q := 108) ?_
    refine o_lstoreV S (L' := fun aa => #[.val (.int p0), .val (.long q1), .second, .val (.int p2), .val (.int p3), .val (.int p4), .val (.int tt), .val (.long ln), .second, .val (.int ii), .val (.int jj), .val (.int ee), .val (.long pp), .second, .val (.long kn), .second, .val (.long dd), .second, .val (.long aa), .second, .unset, .unset, .unset, .unset, .unset]) (fun _ => rfl) at_108 rfl (q := 110) (fun aa haa => ?_)
    obtain ⟨i, j, r, t, len, e9, p9, a, d, fi, fj, ft, fl, fp, fa, fd, hp9, bi, bj, be, bp, bt, bl, ha, bA, hd, hd0, bD, bw, bw2, bit⟩ := nums htt hln hii hjj hee hpp hkn hdd haa hc87
    obtain ⟨⟨Mk, Mb, ek, eb, lb⟩, nd3, hn1, hn2, hn3, hn4, hn5, hn6, hn7, hn8, heq, nex⟩ := bm rfl hp9 (evi fi (by omega)) (evi fj (by omega)) (evi ft (by omega)) (evl fl (by omega)) (evl fp (by omega)) (evl fa bA) (evl fd bD) ev1 ev4 ev8 bi bj be bp ha hd hd0 bD bw bw2 bit
    have hn9 := nex
    rw [← heq] at hn9
    have kha1 := cmp_ge ek ev0 (Nat.zero_le _) .l
    have kha2 := cmp_inf ek.fin .g
    have khb1 := cmp_ge eb ev0 (Nat.zero_le _) .l
    have khb2 := cmp_le eb ev1 lb .g
    have khc1 := cmp_ge ev0 ev0 (Nat.zero_le _) .l
    have khc2 := cmp_inf ev0.fin .g
    refine o_lload S rfl at_110 rfl (q := 112) ?_
    refine o_l2d S at_112 rfl (q := 113) ?_
    refine o_lload S rfl at_113 rfl (q := 115) ?_
    refine o_l2d S at_115 rfl (q := 116) ?_
    refine o_ddiv S nex at_116 rfl (q := 117) ?_
    refine o_dstoreV S (L' := fun ex => #[.val (.int p0), .val (.long q1), .second, .val (.int p2), .val (.int p3), .val (.int p4), .val (.int tt), .val (.long ln), .second, .val (.int ii), .val (.int jj), .val (.int ee), .val (.long pp), .second, .val (.long kn), .second, .val (.long dd), .second, .val (.long aa), .second, .val (.double ex), .second, .unset, .unset, .unset]) (fun _ => rfl) at_117 rfl (q := 119) (fun ex hex => ?_)
    refine o_new S (o_wd (i := 5) hw rfl) (o_wd (i := 6) hw rfl) (o_wd (i := 7) hw rfl) at_119 rfl (q := 122) (by decide) (by decide) (fun T h2 b1 S ha_b1 g_b1 X E_b1 D => ?_)
    have F_k1_b1 : Fld Z h2 b1 "com/example/sanstem/sanstem/retrieval/Bm25" "k1" "D" (.double (0 : UInt64)) := D (Or.inr (o_wd (i := 22) hw rfl)) (ty := .double) (by decide)
    have F_b_b1 : Fld Z h2 b1 "com/example/sanstem/sanstem/retrieval/Bm25" "b" "D" (.double (0 : UInt64)) := D (Or.inr (o_wd (i := 24) hw rfl)) (ty := .double) (by decide)
    have F_k3_b1 : Fld Z h2 b1 "com/example/sanstem/sanstem/retrieval/Bm25" "k3" "D" (.double (0 : UInt64)) := D (Or.inr (o_wd (i := 26) hw rfl)) (ty := .double) (by decide)
    refine o_dup S rfl at_122 rfl (q := 123) ?_
    refine o_iload S rfl at_123 rfl (q := 125) ?_
    refine o_i2d S at_125 rfl (q := 126) ?_
    refine o_ldc2D S (o_wd (i := 8) hw rfl) at_126 rfl (q := 129) ?_
    refine o_ddiv S ek.nn at_129 rfl (q := 130) ?_
    refine o_iload S rfl at_130 rfl (q := 132) ?_
    refine o_i2d S at_132 rfl (q := 133) ?_
    refine o_ldc2D S (o_wd (i := 8) hw rfl) at_133 rfl (q := 136) ?_
    refine o_ddiv S eb.nn at_136 rfl (q := 137) ?_
    refine o_dconst0 S at_137 rfl (q := 138) ?_
    refine o_callI S (W := 1) (argsL := [(.double (FP.ddiv (FP.i2d ii) (4616189618054758400 : UInt64))), (.double (FP.ddiv (FP.i2d jj) (4616189618054758400 : UInt64))), (.double FP.dconst0)]) (rest := [(.ref b1)]) (a := b1) rfl (o_wd (i := 9) hw rfl) (o_wd (i := 10) hw rfl) (o_wd (i := 7) hw rfl) (o_wd (i := 11) hw rfl) (by decide) (ct_1 l Z a0 hw b1 (FP.ddiv (FP.i2d ii) (4616189618054758400 : UInt64)) (FP.ddiv (FP.i2d jj) (4616189618054758400 : UInt64)) FP.dconst0 h2 n0 (o_n0 S) E_b1 F_k1_b1 F_b_b1 F_k3_b1 g_b1 kha1 kha2 khb1 khb2 khc1 khc2) (by decide) (by decide) rfl rfl pd_1 rfl (Nat.le_of_eq rfl) at_138 rfl (q := 141) (by decide) (by decide) (fun T h3 rr4 S hQ => ?_)
    obtain ⟨hv, K1, E_b1', F_k1_b1', F_b_b1', F_k3_b1'⟩ := hQ
    subst hv
    have E_b1 := E_b1'
    have F_k1_b1 := F_k1_b1'
    have F_b_b1 := F_b_b1'
    have F_k3_b1 := F_k3_b1'
    show Wp p e below (Po s n0 room_1 Q0) T (mkF m 141 #[.val (.int p0), .val (.long q1), .second, .val (.int p2), .val (.int p3), .val (.int p4), .val (.int tt), .val (.long ln), .second, .val (.int ii), .val (.int jj), .val (.int ee), .val (.long pp), .second, .val (.long kn), .second, .val (.long dd), .second, .val (.long aa), .second, .val (.double ex), .second, .unset, .unset, .unset] [(.ref b1)])
    refine o_astore S (L' := #[.val (.int p0), .val (.long q1), .second, .val (.int p2), .val (.int p3), .val (.int p4), .val (.int tt), .val (.long ln), .second, .val (.int ii), .val (.int jj), .val (.int ee), .val (.long pp), .second, .val (.long kn), .second, .val (.long dd), .second, .val (.long aa), .second, .val (.double ex), .second, .val (.ref b1), .unset, .unset]) rfl rfl at_141 rfl (q := 143) ?_
    refine o_aload S rfl rfl at_143 rfl (q := 145) ?_
    refine o_iload S rfl at_145 rfl (q := 147) ?_
    refine o_lload S rfl at_147 rfl (q := 149) ?_
    refine o_lload S rfl at_149 rfl (q := 151) ?_
    refine o_l2d S at_151 rfl (q := 152) ?_
    refine o_ldc2D S (o_wd (i := 27) hw rfl) at_152 rfl (q := 155) ?_
    refine o_ddiv S nd3 at_155 rfl (q := 156) ?_
    refine o_callV0 S (W := 0) (argsL := [(.int tt), (.long ln), (.double (FP.ddiv (FP.l2d pp) (4620693217682128896 : UInt64)))]) (rest := []) (a := b1) (o_wd (i := 28) hw rfl) (o_wd (i := 29) hw rfl) (o_wd (i := 31) hw rfl) (o_wd (i := 30) hw rfl) (o_wd (i := 7) hw rfl) (o_wd (i := 32) hw rfl) (o_nf (o_wd (i := 31) hw rfl)) (by decide) E_b1 (ct_4 l Z a0 hw b1 tt ln (FP.ddiv (FP.l2d pp) (4620693217682128896 : UInt64)) (FP.ddiv (FP.i2d ii) (4616189618054758400 : UInt64)) (FP.ddiv (FP.i2d jj) (4616189618054758400 : UInt64)) h3 n0 (o_n0 S) E_b1 F_k1_b1 F_b_b1 hn1 hn2 hn3 hn4 hn5 hn6 hn7 hn8 hn9) (by decide) (by decide) rfl rfl pd_2 rfl (Nat.le_of_eq rfl) at_156 rfl (q := 159) (by decide) (by decide) rfl (st' := [(.double (FP.ddiv (FP.dmul (FP.dadd (FP.ddiv (FP.i2d ii) (4616189618054758400 : UInt64)) FP.dconst1) (FP.i2d tt)) (FP.dadd (FP.dmul (FP.ddiv (FP.i2d ii) (4616189618054758400 : UInt64)) (FP.dadd (FP.dsub FP.dconst1 (FP.ddiv (FP.i2d jj) (4616189618054758400 : UInt64))) (FP.ddiv (FP.dmul (FP.ddiv (FP.i2d jj) (4616189618054758400 : UInt64)) (FP.l2d ln)) (FP.ddiv (FP.l2d pp) (4620693217682128896 : UInt64))))) (FP.i2d tt))))]) (fun T S => ?_)
    refine o_dstoreV S (L' := fun gt => #[.val (.int p0), .val (.long q1), .second, .val (.int p2), .val (.int p3), .val (.int p4), .val (.int tt), .val (.long ln), .second, .val (.int ii), .val (.int jj), .val (.int ee), .val (.long pp), .second, .val (.long kn), .second, .val (.long dd), .second, .val (.long aa), .second, .val (.double ex), .second, .val (.ref b1), .val (.double gt), .second]) (fun _ => rfl) at_159 rfl (q := 161) (fun gt hgt => ?_)
    refine o_dload S rfl at_161 rfl (q := 163) ?_
    refine o_dload S rfl at_163 rfl (q := 165) ?_
    refine o_dcmp S at_165 rfl (q := 166) ?_
    refine o_if S at_166 (by decide) (q' := 173) (by decide) (q := 169) rfl hs_ne.1 hs_ne.2 (fun hc166 => ?_) (fun hc166 => ?_)
    · exact absurd (dcmpV_eq (by rw [hgt, hex]; exact heq) (by rw [hgt]; exact hn9) .l) hc166
    · skip
      refine o_iconst S (z := 1) rfl at_169 rfl (q := 170) ?_
      refine o_goto S at_170 (by decide) (q := 174) (by decide) ?_
      refine o_retN S (t := .boolean) rfl (by simp) at_174 (by decide) (by decide) rfl ?_
      rfl
  · skip
    refine o_iconst S (z := 1) rfl at_90 rfl (q := 91) ?_
    refine o_retN S (t := .boolean) rfl (by simp) at_91 (by decide) (by decide) rfl ?_
    rfl
set_option maxRecDepth 65536 in
set_option maxHeartbeats 40000000 in
theorem comes_1 {Post : Tables → Env → Array Value → State → Outcome → State → Prop} (hpost : ∀ tb e args s v u, (limb_1_1.after args s (.returned v) u = true ∧ limb_1_2.after args s (.returned v) u = true ∧ True) → FrameEnd s (.returned v) u (Jvm.fieldLocs frame_1_writes args s ++ Jvm.arrayLocs frame_1_arrays args s ++ Jvm.staticLocs frame_1_statics s) 16 128 → Post tb e args s (.returned v) u) :
    ArmFor flags0 classFile x code maxLocals ret World_1 tables_1 room_1 Calls_1 rest_1 Pre_1 Post := by
  intro l hfl _ _ p e ha hc hk s m args below hf hA hF happ hP
  obtain ⟨hcalls, hrest, hpre⟩ := hP
  obtain ⟨-, -, -, hnamed, -, -, -, hat⟩ := (Spec.applies_iff hf).mp happ
  obtain ⟨hg, hn⟩ := and_e (Cond.before_iff.mp (show (Jvm.Cond.and given_1 narrow_1).before args s = true from hpre))
  obtain ⟨g0, g⟩ := and_e hg
  obtain ⟨w0, w1, w2, w3, w4, rfl⟩ : ∃ w0 w1 w2 w3 w4 : Value, args = #[w0, w1, w2, w3, w4] := by
    have hs : args.size = 5 := by simpa [Cond.value, given_1] using g0
    obtain ⟨L⟩ := args
    match L, hs with
    | [w0, w1, w2, w3, w4], _ => exact ⟨w0, w1, w2, w3, w4, rfl⟩
  have hw := fun d (hd : d ∈ tables_1) => atoms_spec (ws := Jvm.Cond.code x code maxLocals ret :: tables_1) hat d (List.mem_cons_of_mem _ hd)
  obtain ⟨g1, gr1⟩ := and_e g
  obtain ⟨i0, ei0⟩ := is_v g1
  obtain rfl : w0 = (.int i0) := Option.some.inj ei0
  obtain ⟨g2, gr2⟩ := and_e gr1
  obtain ⟨i1, ei1⟩ := isL_v g2
  obtain rfl : w1 = (.long i1) := Option.some.inj ei1
  obtain ⟨g3, gr3⟩ := and_e gr2
  obtain ⟨i2, ei2⟩ := is_v g3
  obtain rfl : w2 = (.int i2) := Option.some.inj ei2
  obtain ⟨g4, gr4⟩ := and_e gr3
  obtain ⟨i3, ei3⟩ := is_v g4
  obtain rfl : w3 = (.int i3) := Option.some.inj ei3
  obtain ⟨i4, ei4⟩ := is_v gr4
  obtain rfl : w4 = (.int i4) := Option.some.inj ei4
  obtain ⟨n, o, h1, h2, h3, _, L, rfl, ⟨rfl, N⟩, hq⟩ := ct_0 l s _ hw tables_1 i0 i1 i2 i3 i4 s.heap s.heap.size (Nat.le_refl _) p e ha hc hk s m _ below hf ((Spec.applies_iff_loose hf).mp happ).1 ⟨rfl, State.Warmed39.refl s, rfl⟩ trivial
  refine ⟨n, _, h1, h2, h3, hpost _ _ _ _ _ _ ⟨Cond.after_iff.mpr rfl, Cond.after_iff.mpr (eq_i res_at (Term.int_eval (1)) rfl), trivial⟩ ⟨hq.1, hq.2.1, (hq.2.2.sift fun y hy => Or.inr (N y hy)).mono (by decide) (by decide)⟩⟩
theorem main_1_1 : Claimed_1_1 := comes_1 fun _ _ _ _ _ _ h hF => ⟨h.1, hF⟩
theorem main_1_2 : Claimed_1_2 := comes_1 fun _ _ _ _ _ _ h hF => ⟨h.2.1, hF⟩
end Jvm.Pilot.@@N@@
namespace Jvm.Pilot.@@N@@
open Jvm Jvm.ClassFile Sem Op Lib Jvm.Free Jvm.Stand Jvm.Pilot.@@N@@.Jvm.D
/-! MADE BY PROGRAM (witnessworld.py) out of the Statement's table words and the real class files: 10 classes; the members and pool entries that the words name. The judged class is class 1, her method 1. -/
namespace start1
open Jvm.ClassFile
def u (s : String) : CpInfo := .utf8 (stringToUtf16 s)
/-- a pool by its gaps: so many unusable entries, then the entry; so many at the end -/
def gap : Nat → List CpInfo → List CpInfo
  | 0, r => r
  | n + 1, r => .unusable :: gap n r
def poolList (es : List (Nat × CpInfo)) (last : Nat) : List CpInfo := es.foldr (fun e r => gap e.1 (e.2 :: r)) (gap last [])
def pool (es : List (Nat × CpInfo)) (last : Nat) : Array CpInfo := ⟨poolList es last⟩
def fileOf (pool : Array CpInfo) (this : Nat) (attrs : Array Attribute := #[]) (ms : Array MethodInfo := #[]) (fl : Nat := 33) (sup : Nat := 0) (ifs : Array Nat := #[]) (fds : Array FieldInfo := #[]) : ClassFile where
  minorVersion := 0
  majorVersion := 65
  constantPool := pool
  accessFlags := fl
  thisClass := this
  superClass := sup
  interfaces := ifs
  fields := fds
  methods := ms
  attributes := attrs
def plain (name : String) (sup : Option ClassId) : Class where
  name := name
  kind := .ordinary
  loader := none
  accessFlags := 33
  super := sup
  interfaces := #[]
  cf := none
  fields := #[]
  methods := #[]
  instanceTypes := #[]
  staticTypes := #[]
  resolved := #[]
  callSites := []
  init := .initialized
  statics := none
  mirror := none

def pool0 : Array CpInfo := pool [(5, u "<init>"), (0, u "()V"), (1, .class_ 10), (1, u "java/lang/Object")] 113

def k0c0 : Code := { maxStack := 0, maxLocals := 1, code := object_method_1_code, exceptionTable := #[], attributes := #[] }
def k0m0 : Method := { name := "<init>", desc := "()V", sig := { parameters := [], returnType := none }, accessFlags := 1, code := some k0c0 }
/-- java/lang/Object -/
def k0 : Class := { plain "java/lang/Object" none with
  accessFlags := 33
  interfaces := #[]
  cf := some (fileOf pool0 8 #[] #[{ accessFlags := 1, nameIndex := 5, descriptorIndex := 6, attributes := #[] }] 33 0 #[] #[])
  fields := #[]
  methods := #[k0m0]
  instanceTypes := #[]
  staticTypes := #[]
  resolved := Array.replicate 124 none
  statics := none }

def pool1 : Array CpInfo := pool [(2, .class_ 4), (1, u "java/lang/Object"), (0, u "<init>"), (0, u "()V"), (0, .integer 2147483647), (0, .long 1099511627775), (1, .long 4), (1, .long 8), (1, .long 16), (1, .class_ 17), (0, u "com/example/sanstem/sanstem/retrieval/Bm25"), (0, .double 4616189618054758400), (1, .methodref 16 21), (0, .nameAndType 5 22), (0, u "(DDD)V"), (0, .double 4620693217682128896), (1, .methodref 16 26), (0, .nameAndType 27 28), (0, u "documentFactor"), (0, u "(IJD)D"), (0, .class_ 30), (0, u "com/example/sanstem/sanstem/retrieval/Bm25DocumentFactorPinLaw"), (2, u "law"), (0, u "(IJIII)Z")] 3

def k1m0 : Method := { name := "<init>", desc := "()V", sig := { parameters := [], returnType := none }, accessFlags := 1, code := none }
def k1c1 : Code := { maxStack := 8, maxLocals := 25, code := code, exceptionTable := #[], attributes := #[] }
def k1m1 : Method := { name := "law", desc := "(IJIII)Z", sig := { parameters := [.int, .long, .int, .int, .int], returnType := some .boolean }, accessFlags := 9, code := some k1c1 }
/-- com/example/sanstem/sanstem/retrieval/Bm25DocumentFactorPinLaw -/
def k1 : Class := { plain "com/example/sanstem/sanstem/retrieval/Bm25DocumentFactorPinLaw" (some 0) with
  accessFlags := 49
  interfaces := #[]
  cf := some (fileOf pool1 29 #[] #[{ accessFlags := 1, nameIndex := 5, descriptorIndex := 6, attributes := #[] }, { accessFlags := 9, nameIndex := 33, descriptorIndex := 34, attributes := #[] }] 49 2 #[] #[])
  fields := #[]
  methods := #[k1m0, k1m1]
  instanceTypes := #[]
  staticTypes := #[]
  resolved := Array.replicate 38 none
  statics := none }

def pool2 : Array CpInfo := pool [(1, .methodref 2 3), (0, .class_ 4), (0, .nameAndType 5 6), (0, u "java/lang/Object"), (0, u "<init>"), (0, u "()V"), (0, .class_ 8), (0, u "java/lang/Record")] 13

def k2c0 : Code := { maxStack := 1, maxLocals := 1, code := jdk_30_method_1_code, exceptionTable := #[], attributes := #[] }
def k2m0 : Method := { name := "<init>", desc := "()V", sig := { parameters := [], returnType := none }, accessFlags := 4, code := some k2c0 }
/-- java/lang/Record -/
def k2 : Class := { plain "java/lang/Record" (some 0) with
  accessFlags := 1057
  interfaces := #[]
  cf := some (fileOf pool2 7 #[] #[{ accessFlags := 4, nameIndex := 5, descriptorIndex := 6, attributes := #[] }] 1057 2 #[] #[])
  fields := #[]
  methods := #[k2m0]
  instanceTypes := #[]
  staticTypes := #[]
  resolved := Array.replicate 22 none
  statics := none }

def pool3 : Array CpInfo := pool [(1, .methodref 2 3), (0, .class_ 4), (0, .nameAndType 5 6), (0, u "java/lang/Record"), (0, u "<init>"), (0, u "()V"), (2, .double 9218868437227405312), (12, .fieldref 23 24), (0, .class_ 25), (0, .nameAndType 26 27), (0, u "com/example/sanstem/sanstem/retrieval/Bm25"), (0, u "k1"), (0, u "D"), (0, .fieldref 23 29), (0, .nameAndType 30 27), (0, u "b"), (0, .fieldref 23 32), (0, .nameAndType 33 27), (0, u "k3"), (36, u "(DDD)V"), (2, u "DEFAULT"), (0, u "Lcom/example/sanstem/sanstem/retrieval/Bm25;"), (6, u "documentFactor"), (0, u "(IJD)D")] 41

def k3c0 : Code := { maxStack := 4, maxLocals := 7, code := prog_36_method_1_code, exceptionTable := #[], attributes := #[] }
def k3m0 : Method := { name := "<init>", desc := "(DDD)V", sig := { parameters := [.double, .double, .double], returnType := none }, accessFlags := 1, code := some k3c0 }
def k3c1 : Code := { maxStack := 8, maxLocals := 8, code := prog_36_method_4_code, exceptionTable := #[], attributes := #[] }
def k3m1 : Method := { name := "documentFactor", desc := "(IJD)D", sig := { parameters := [.int, .long, .double], returnType := some .double }, accessFlags := 0, code := some k3c1 }
/-- com/example/sanstem/sanstem/retrieval/Bm25 -/
def k3 : Class := { plain "com/example/sanstem/sanstem/retrieval/Bm25" (some 2) with
  accessFlags := 49
  interfaces := #[]
  cf := some (fileOf pool3 23 #[] #[{ accessFlags := 1, nameIndex := 5, descriptorIndex := 70, attributes := #[] }, { accessFlags := 0, nameIndex := 81, descriptorIndex := 82, attributes := #[] }] 49 2 #[] #[{ accessFlags := 18, nameIndex := 26, descriptorIndex := 27, attributes := #[] }, { accessFlags := 18, nameIndex := 30, descriptorIndex := 27, attributes := #[] }, { accessFlags := 18, nameIndex := 33, descriptorIndex := 27, attributes := #[] }, { accessFlags := 25, nameIndex := 73, descriptorIndex := 74, attributes := #[] }])
  fields := #[{ name := "k1", type := .double, accessFlags := 18, slot := 0, constantValue := 0 }, { name := "b", type := .double, accessFlags := 18, slot := 1, constantValue := 0 }, { name := "k3", type := .double, accessFlags := 18, slot := 2, constantValue := 0 }, { name := "DEFAULT", type := (.object "com/example/sanstem/sanstem/retrieval/Bm25"), accessFlags := 25, slot := 0, constantValue := 0 }]
  methods := #[k3m0, k3m1]
  instanceTypes := #[.double, .double, .double]
  staticTypes := #[(.object "com/example/sanstem/sanstem/retrieval/Bm25")]
  resolved := Array.replicate 124 none
  statics := none }

def pool4 : Array CpInfo := pool [(1, u "java/lang/Cloneable"), (0, .class_ 1), (0, u "java/lang/Object"), (0, .class_ 3)] 3

/-- java/lang/Cloneable -/
def k4 : Class := { plain "java/lang/Cloneable" (some 0) with
  accessFlags := 1537
  interfaces := #[]
  cf := some (fileOf pool4 2 #[] #[] 1537 4 #[] #[])
  fields := #[]
  methods := #[]
  instanceTypes := #[]
  staticTypes := #[]
  resolved := Array.replicate 8 none
  statics := none }

def pool5 : Array CpInfo := pool [(1, u "java/io/Serializable"), (0, .class_ 1), (0, u "java/lang/Object"), (0, .class_ 3)] 3

/-- java/io/Serializable -/
def k5 : Class := { plain "java/io/Serializable" (some 0) with
  accessFlags := 1537
  interfaces := #[]
  cf := some (fileOf pool5 2 #[] #[] 1537 4 #[] #[])
  fields := #[]
  methods := #[]
  instanceTypes := #[]
  staticTypes := #[]
  resolved := Array.replicate 8 none
  statics := none }

/-- the primitive byte -/
def k6 : Class := { plain "byte" none with kind := .primitive 'B', accessFlags := 0x411 }
/-- [B -/
def k7 : Class := { plain "[B" (some 0) with kind := .array 6 .byte, interfaces := #[4, 5], accessFlags := 1041 }

/-- the primitive int -/
def k8 : Class := { plain "int" none with kind := .primitive 'I', accessFlags := 0x411 }
/-- [I -/
def k9 : Class := { plain "[I" (some 0) with kind := .array 8 .int, interfaces := #[4, 5], accessFlags := 1041 }

def heap : Heap := #[]
def classes : Array Class := #[k0, k1, k2, k3, k4, k5, k6, k7, k8, k9]
def interned : List (Array UInt16 × Addr) := []
def slotsUsed : Nat := 0
def theMethod : MethodId := ⟨1, 1⟩
def args0 : Array Value := #[.int 5, .long 6, .int 7, .int 8, .int 9]
def aboutOver (below : List Frame) : State where
  vm := { classes := classes, interned := interned.toArray }
  heap := heap
  slotsUsed := slotsUsed
  threads := #[{ frames := .invoking theMethod args0 :: below }]
def below0 : List Frame := [.native { method := ⟨0, 0⟩, args := #[] }]
def about1 : State := aboutOver below0
def p0 : Program := .bare "" "" ""
def e0 : Env := launch0.env 0 0 0
theorem w_frames : about1.frames = Frame.invoking theMethod args0 :: below0 := rfl
set_option maxRecDepth 65536 in
theorem w_args : argsFit about1.vm theMethod args0 = true := by decide +kernel
set_option maxRecDepth 65536 in
theorem w_heap : heapFits about1 = true := by decide +kernel
set_option maxRecDepth 65536 in
theorem w_runnable : about1.curStatus? = some .runnable := by decide +kernel
set_option maxRecDepth 65536 in
theorem w_alone : about1.alone = true := by decide +kernel
set_option maxRecDepth 65536 in
theorem w_named : about1.methodNamed? x = some theMethod := by decide +kernel
set_option maxRecDepth 65536 in
theorem w_hears : about1.hears theMethod below0 = true := by decide +kernel
set_option maxRecDepth 65536 in
theorem w_ripe : about1.ripe theMethod args0 below0 = true := by decide +kernel
theorem w_running : about1.status = .running := rfl
set_option maxRecDepth 65536 in
theorem w_room : about1.hasRoom e0.platform room_1 = true :=
  launch0.hasRoom_least _ room_1 (by decide +kernel) (by decide +kernel) (by decide +kernel) (by decide +kernel) (by decide +kernel) (by decide +kernel)
theorem allAtoms_all (ts : List Jvm.Cond) (a : Array Jvm.Value) (st : Jvm.State) : (allAtoms ts).before a st = ts.all (fun c => c.before a st) := by
  induction ts with
  | nil => rfl
  | cons c t ih =>
    show (Jvm.Cond.and c (allAtoms t)).before a st = _
    rw [Jvm.Cond.before_and, ih, List.all_cons]
def words1 : List Jvm.Cond := Jvm.Cond.code x code maxLocals ret :: tables_1
/-- a 'code' word, met by the world's own term for the bytes: nothing is compared byte by byte -/
theorem code_word {y : MethodName} {bytes : ByteArray} {mx : Nat} {rt : Option FieldType} {a : Array Value} {s : State} {m : MethodId} {meth : Method} {c : Code} (h1 : s.methodNamed? y = some m) (h2 : s.vm.method? m = some meth) (h3 : meth.code = some c) (h4 : c.code = bytes)
    (h5 : (c.maxLocals == mx && c.exceptionTable.isEmpty && decide (c.maxStack ≤ mostOperands) && decide (meth.sig.returnType = rt) && !meth.locks && decide (parseMethodDescriptor y.desc = some meth.sig)) = true) : (Jvm.Cond.code y bytes mx rt).before a s = true := by
  simp only [Bool.and_eq_true, beq_iff_eq, Bool.not_eq_true', decide_eq_true_eq] at h5
  obtain ⟨⟨⟨⟨⟨g1, g2⟩, g3⟩, g4⟩, g5⟩, g6⟩ := h5
  simp [Cond.before, Cond.holds, Cond.value, h1, h2, h3, h4, g1, g2, g3, g4, g5, g6]
def isCode : Jvm.Cond → Bool
  | .code _ _ _ _ => true
  | _ => false
theorem all_split {L : List Jvm.Cond} {P : Jvm.Cond → Bool} (h1 : L.all (fun c => isCode c || P c) = true) (h2 : ∀ c ∈ L.filter isCode, P c = true) : L.all P = true := by
  refine List.all_eq_true.mpr fun c hc => ?_
  have h := List.all_eq_true.mp h1 c hc
  rcases Bool.eq_false_or_eq_true (isCode c) with hi | hi
  · exact h2 c (List.mem_filter.mpr ⟨hc, hi⟩)
  · simpa [hi] using h
set_option maxRecDepth 65536 in
theorem w_c0 : (Jvm.Cond.code x code maxLocals ret).before args0 about1 = true := code_word (m := ⟨1, 1⟩) (meth := k1m1) (c := k1c1) (by decide +kernel) rfl rfl rfl (by decide +kernel)
set_option maxRecDepth 65536 in
theorem w_c1 : (Jvm.Cond.code ({ cls := "com/example/sanstem/sanstem/retrieval/Bm25", name := "<init>", desc := "(DDD)V" } : Jvm.MethodName) prog_36_method_1_code (7 : Nat) (Option.none : Option Jvm.ClassFile.FieldType)).before args0 about1 = true := code_word (m := ⟨3, 0⟩) (meth := k3m0) (c := k3c0) (by decide +kernel) rfl rfl rfl (by decide +kernel)
set_option maxRecDepth 65536 in
theorem w_c2 : (Jvm.Cond.code ({ cls := "java/lang/Record", name := "<init>", desc := "()V" } : Jvm.MethodName) jdk_30_method_1_code (1 : Nat) (Option.none : Option Jvm.ClassFile.FieldType)).before args0 about1 = true := code_word (m := ⟨2, 0⟩) (meth := k2m0) (c := k2c0) (by decide +kernel) rfl rfl rfl (by decide +kernel)
set_option maxRecDepth 65536 in
theorem w_c3 : (Jvm.Cond.code ({ cls := "java/lang/Object", name := "<init>", desc := "()V" } : Jvm.MethodName) object_method_1_code (1 : Nat) (Option.none : Option Jvm.ClassFile.FieldType)).before args0 about1 = true := code_word (m := ⟨0, 0⟩) (meth := k0m0) (c := k0c0) (by decide +kernel) rfl rfl rfl (by decide +kernel)
set_option maxRecDepth 65536 in
theorem w_c4 : (Jvm.Cond.code ({ cls := "com/example/sanstem/sanstem/retrieval/Bm25", name := "documentFactor", desc := "(IJD)D" } : Jvm.MethodName) prog_36_method_4_code (8 : Nat) (Option.some Jvm.ClassFile.FieldType.double)).before args0 about1 = true := code_word (m := ⟨3, 1⟩) (meth := k3m1) (c := k3c1) (by decide +kernel) rfl rfl rfl (by decide +kernel)
def codes1 : List Jvm.Cond := [Jvm.Cond.code x code maxLocals ret, Jvm.Cond.code ({ cls := "com/example/sanstem/sanstem/retrieval/Bm25", name := "<init>", desc := "(DDD)V" } : Jvm.MethodName) prog_36_method_1_code (7 : Nat) (Option.none : Option Jvm.ClassFile.FieldType), Jvm.Cond.code ({ cls := "java/lang/Record", name := "<init>", desc := "()V" } : Jvm.MethodName) jdk_30_method_1_code (1 : Nat) (Option.none : Option Jvm.ClassFile.FieldType), Jvm.Cond.code ({ cls := "java/lang/Object", name := "<init>", desc := "()V" } : Jvm.MethodName) object_method_1_code (1 : Nat) (Option.none : Option Jvm.ClassFile.FieldType), Jvm.Cond.code ({ cls := "com/example/sanstem/sanstem/retrieval/Bm25", name := "documentFactor", desc := "(IJD)D" } : Jvm.MethodName) prog_36_method_4_code (8 : Nat) (Option.some Jvm.ClassFile.FieldType.double)]
set_option maxRecDepth 65536 in
theorem codes_eq : words1.filter isCode = codes1 := rfl
theorem w_codes : ∀ c ∈ words1.filter isCode, c.before args0 about1 = true := by
  rw [codes_eq]
  intro c hc
  simp only [codes1, List.mem_cons, List.not_mem_nil, or_false] at hc
  rcases hc with rfl | rfl | rfl | rfl | rfl
  · exact w_c0
  · exact w_c1
  · exact w_c2
  · exact w_c3
  · exact w_c4
set_option maxRecDepth 65536 in
theorem w_t1 : (words1.take 24).all (fun c => isCode c || c.before args0 about1) = true := by decide +kernel
set_option maxRecDepth 65536 in
theorem w_t2 : (words1.drop 24).all (fun c => isCode c || c.before args0 about1) = true := by decide +kernel
theorem w_tables : (allAtoms (Jvm.Cond.code x code maxLocals ret :: tables_1)).before args0 about1 = true := by
  rw [allAtoms_all]
  show words1.all (fun c => c.before args0 about1) = true
  refine all_split ?_ w_codes
  rw [← List.take_append_drop 24 words1, List.all_append, w_t1, w_t2]
  rfl
set_option maxRecDepth 65536 in
theorem w_case : (Jvm.Cond.and given_1 narrow_1).before args0 about1 = true := by decide +kernel
theorem w_applies : (headSpec (Jvm.Cond.code x code maxLocals ret :: tables_1) room_1).applies x e0.platform about1 = true :=
  (Spec.applies_iff w_frames).mpr ⟨w_running, w_runnable, w_alone, w_named, w_hears, w_ripe, w_room, w_tables⟩
theorem atStart : AtStart classFile x code maxLocals ret World_1 tables_1 room_1 Calls_1 rest_1 Pre_1 launch0 p0 e0 about1 theMethod args0 below0 :=
  ⟨lists_1, trivial, launch0.admits_env _ _ _, launch0.least_env, fairChoices_fair.cas, fairChoices_fair.clock, w_frames, w_args, w_heap, w_applies, trivial, trivial, w_case⟩
end start1
theorem witness_1 : WitnessClaimed_1 := ⟨start1.p0, start1.e0, start1.about1, start1.theMethod, start1.args0, start1.below0, start1.atStart⟩
end Jvm.Pilot.@@N@@
