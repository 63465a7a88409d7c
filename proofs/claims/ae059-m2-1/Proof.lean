import JvmDerived
import JvmDerived.Pilot.@@N@@Statement
import JvmDerived.Pilot.@@N@@Code
set_option linter.unusedVariables false
set_option linter.unusedSimpArgs false
namespace Jvm.Pilot.@@N@@
open Jvm Jvm.ClassFile Sem Op Lib Jvm.Free Jvm.Stand Jvm.LawKit Jvm.RoadKit Bundle Jvm.Pilot.@@N@@.Jvm.D
section OwnPre
/-- where the run stands, with all that stays true of the body -/
def St (p : Program) (l : Launch) (e : Env) (R : Room) (s : State) (m : MethodId) (args : Array Value) (below : List Frame) (meth : Method) (c : Code) (Z : State) (own : String) (bytes : ByteArray) (ml n0 : Nat) (ret : Option FieldType) (nm : String) (T : State) (h : Heap) (cells slots : Nat) : Prop :=
  ∃ locs, Stand p l e R s m args below meth c T locs cells slots ∧ Fr n0 locs ∧ T.heap = h ∧ p.tables.exec = Jvm.exec ∧ Z.Warmed39 s.vm ∧ s.vm.findClass own = some m.cls ∧ c.code = bytes ∧ c.maxLocals = ml ∧ meth.locks = false ∧ n0 ≤ s.heap.size ∧ meth.sig.returnType = ret ∧ meth.name = nm
def Wp (p : Program) (e : Env) (below : List Frame) (PO : Outcome → State → Prop) (T : State) (g : JFrame) : Prop := ∃ t o, Steps p.tables e below (T.setTop g) t ∧ t.status = .running ∧ Ended t below o ∧ PO o t
def Po (s : State) (n0 : Nat) (R : Room) (Q : Option Value → Heap → Prop) (o : Outcome) (t : State) : Prop := ∃ v L, o = .returned v ∧ (Q v t.heap ∧ Fr n0 L) ∧ FrameEnd s o t L R.cells R.slots
def Ct (l : Launch) (y : MethodName) (bytes : ByteArray) (ml : Nat) (ret : Option FieldType) (ws : List Jvm.Cond) (R : Room) (Z : State) (h0 : Heap) (n0 : Nat) (as : Array Value) (Q : Option Value → Heap → Prop) : Prop :=
  MetFree l y (head1 (Jvm.Cond.code y bytes ml ret :: ws) R) (fun a U => a = as ∧ Z.Warmed39 U.vm ∧ U.heap = h0) (fun _ _ _ _ _ => True) (fun _ U o U' => Po U n0 R Q o U')
variable {p : Program} {l : Launch} {e : Env} {R : Room} {s : State} {m : MethodId} {args : Array Value} {below : List Frame} {meth : Method} {c : Code} {Z : State} {own : String} {bytes : ByteArray} {ml n0 : Nat} {ret : Option FieldType} {nm : String} {T : State} {h : Heap} {cells slots : Nat} {PO : Outcome → State → Prop} {a0 : Array Value} {pc q : Nat} {L : Array Slot} {st : List Value}
theorem o_body {y : MethodName} {ws : List Jvm.Cond} {h0 : Heap} {as : Array Value} {Q : Option Value → Heap → Prop} {L0 : Array Slot} (hpl : plainFor y = true) (hn : n0 ≤ h0.size) (hef : ∀ m, entryFrame m as ml = mkF m 0 L0 [])
    (k : ∀ (p : Program) (e : Env) (s : State) (m : MethodId) (below : List Frame) (meth : Method) (c : Code) (T : State), St p l e R s m as below meth c Z y.cls bytes ml n0 ret y.name T h0 0 0 → Wp p e below (Po s n0 R Q) T (mkF m 0 L0 [])) :
    Ct l y bytes ml ret ws R Z h0 n0 as Q := by
  refine MetFree.of_bodySF hpl hisR ?_
  intro p e s m args below meth c s₁ Bd hml0 hP hK
  obtain ⟨rfl, hZ, hh⟩ := hP
  have X0 : Stand p l e R s m args below meth c s₁ [] 0 0 := Stand.of_body Bd
  have e0 : s₁.heap = h0 := by rw [← hh, Bd.state]; rfl
  obtain ⟨t, o, h1, h2, h3, h4⟩ := k p e s m below meth c s₁ ⟨[], X0, Fr.nil n0, e0, Bd.exec, hZ, findClass_of_methodNamed Bd.named, Bd.bytes, hml0, BodyLoose.notSynchronized Bd, (by rw [hh]; exact hn), Bd.returns, (name_of_methodNamed Bd.named Bd.method).1⟩
  exact ⟨t, o, castTop (hef m) h1, h2, h3, h4⟩
theorem o_st (S : St p l e R s m args below meth c Z own bytes ml n0 ret nm T h cells slots) {g g' : JFrame} (hs : ∀ t, At T m c below → p.tables.exec = Jvm.exec → c.code = bytes → Steps p.tables e below (T.setTop g') t → Steps p.tables e below (T.setTop g) t) (k : Wp p e below PO T g') : Wp p e below PO T g := by
  obtain ⟨locs, X, N, eT, hx, hZ, hown, hby, hml, hlk, hn, hrt, hnm⟩ := S
  obtain ⟨t, o, h1, h2⟩ := k
  exact ⟨t, o, hs t X.here hx hby h1, h2⟩
theorem o_to {T' : State} {g g' : JFrame} (hs : ∀ t, Steps p.tables e below (T'.setTop g') t → Steps p.tables e below (T.setTop g) t) (k : Wp p e below PO T' g') : Wp p e below PO T g := by
  obtain ⟨t, o, h1, h2⟩ := k
  exact ⟨t, o, hs t h1, h2⟩
theorem o_heap (S : St p l e R s m args below meth c Z own bytes ml n0 ret nm T h cells slots) : T.heap = h := by obtain ⟨locs, X, N, eT, -⟩ := S; exact eT
theorem o_n0 (S : St p l e R s m args below meth c Z own bytes ml n0 ret nm T h cells slots) : n0 ≤ h.size := by
  obtain ⟨locs, X, N, eT, hx, hZ, hown, hby, hml, hlk, hn, -⟩ := S
  have := X.same.2.1
  rw [← eT]; exact Nat.le_trans hn this
theorem o_wd {i : Nat} {d : Jvm.Cond} (hw : ∀ d ∈ tables_1, d.before a0 Z = true) (hi : tables_1[i]? = some d) : d.before a0 Z = true := hw _ (List.mem_of_getElem? hi)

theorem o_iloadN (S : St p l e R s m args below meth c Z own bytes ml n0 ret nm T h cells slots) {k : Fin 4} {v : Int32} (hl : L[k.val]? = some (.val (.int v))) (hd : decode bytes pc = .ok (.iload_n k, 1)) (hq : pc + 1 = q) (k : Wp p e below PO T (mkF m q L (.int v :: st))) : Wp p e below PO T (mkF m pc L (st)) := by
  subst hq
  exact o_st S (fun t X hx hy r => XS.iloadN X hx rfl (hb hy hd) hl r) k
theorem o_lloadN (S : St p l e R s m args below meth c Z own bytes ml n0 ret nm T h cells slots) {k : Fin 4} {v : Int64} (hl : L[k.val]? = some (.val (.long v))) (hd : decode bytes pc = .ok (.lload_n k, 1)) (hq : pc + 1 = q) (k : Wp p e below PO T (mkF m q L (.long v :: st))) : Wp p e below PO T (mkF m pc L (st)) := by
  subst hq
  exact o_st S (fun t X hx hy r => XS.lloadN X hx rfl (hb hy hd) hl r) k
theorem o_aloadN (S : St p l e R s m args below meth c Z own bytes ml n0 ret nm T h cells slots) {k : Fin 4} {v : Value} (hl : L[k.val]? = some (.val v)) (hv : v.isRef = true) (hd : decode bytes pc = .ok (.aload_n k, 1)) (hq : pc + 1 = q) (k : Wp p e below PO T (mkF m q L (v :: st))) : Wp p e below PO T (mkF m pc L (st)) := by
  subst hq
  exact o_st S (fun t X hx hy r => XS.aloadN X hx rfl (hb hy hd) hl hv r) k
theorem o_istoreN (S : St p l e R s m args below meth c Z own bytes ml n0 ret nm T h cells slots) {k : Fin 4} {x : Int32} {L' : Array Slot} (hl : storeLocals L k.val (.int x) = some L') (hd : decode bytes pc = .ok (.istore_n k, 1)) (hq : pc + 1 = q) (k : Wp p e below PO T (mkF m q L' (st))) : Wp p e below PO T (mkF m pc L (.int x :: st)) := by
  subst hq
  exact o_st S (fun t X hx hy r => XS.istoreN X hx rfl (hb hy hd) rfl hl r) k
theorem o_istoreVN (S : St p l e R s m args below meth c Z own bytes ml n0 ret nm T h cells slots) {k : Fin 4} {x : Int32} {L' : Int32 → Array Slot} (hl : ∀ v, storeLocals L k.val (.int v) = some (L' v)) (hd : decode bytes pc = .ok (.istore_n k, 1)) (hq : pc + 1 = q) (k : ∀ v, v = x → Wp p e below PO T (mkF m q (L' v) st)) : Wp p e below PO T (mkF m pc L (.int x :: st)) :=
  o_istoreN S (hl x) hd hq (k x rfl)
theorem o_lstoreN (S : St p l e R s m args below meth c Z own bytes ml n0 ret nm T h cells slots) {k : Fin 4} {x : Int64} {L' : Array Slot} (hl : storeLocals L k.val (.long x) = some L') (hd : decode bytes pc = .ok (.lstore_n k, 1)) (hq : pc + 1 = q) (k : Wp p e below PO T (mkF m q L' (st))) : Wp p e below PO T (mkF m pc L (.long x :: st)) := by
  subst hq
  exact o_st S (fun t X hx hy r => XS.lstoreN X hx rfl (hb hy hd) rfl hl r) k
theorem o_lstoreVN (S : St p l e R s m args below meth c Z own bytes ml n0 ret nm T h cells slots) {k : Fin 4} {x : Int64} {L' : Int64 → Array Slot} (hl : ∀ v, storeLocals L k.val (.long v) = some (L' v)) (hd : decode bytes pc = .ok (.lstore_n k, 1)) (hq : pc + 1 = q) (k : ∀ v, v = x → Wp p e below PO T (mkF m q (L' v) st)) : Wp p e below PO T (mkF m pc L (.long x :: st)) :=
  o_lstoreN S (hl x) hd hq (k x rfl)
theorem o_astoreN (S : St p l e R s m args below meth c Z own bytes ml n0 ret nm T h cells slots) {k : Fin 4} {x : Value} {L' : Array Slot} (hv : x.isRef = true) (hl : storeLocals L k.val x = some L') (hd : decode bytes pc = .ok (.astore_n k, 1)) (hq : pc + 1 = q) (k : Wp p e below PO T (mkF m q L' (st))) : Wp p e below PO T (mkF m pc L (x :: st)) := by
  subst hq
  exact o_st S (fun t X hx hy r => XS.astoreN X hx rfl (hb hy hd) rfl hv hl r) k
theorem o_iload (S : St p l e R s m args below meth c Z own bytes ml n0 ret nm T h cells slots) {k : Nat} {v : Int32} (hl : L[k]? = some (.val (.int v))) (hd : decode bytes pc = .ok (.iload k, 2)) (hq : pc + 2 = q) (k : Wp p e below PO T (mkF m q L (.int v :: st))) : Wp p e below PO T (mkF m pc L (st)) := by
  subst hq
  exact o_st S (fun t X hx hy r => XS.iload X hx rfl (hb hy hd) hl r) k
theorem o_lload (S : St p l e R s m args below meth c Z own bytes ml n0 ret nm T h cells slots) {k : Nat} {v : Int64} (hl : L[k]? = some (.val (.long v))) (hd : decode bytes pc = .ok (.lload k, 2)) (hq : pc + 2 = q) (k : Wp p e below PO T (mkF m q L (.long v :: st))) : Wp p e below PO T (mkF m pc L (st)) := by
  subst hq
  exact o_st S (fun t X hx hy r => XS.lload X hx rfl (hb hy hd) hl r) k
theorem o_aload (S : St p l e R s m args below meth c Z own bytes ml n0 ret nm T h cells slots) {k : Nat} {v : Value} (hl : L[k]? = some (.val v)) (hv : v.isRef = true) (hd : decode bytes pc = .ok (.aload k, 2)) (hq : pc + 2 = q) (k : Wp p e below PO T (mkF m q L (v :: st))) : Wp p e below PO T (mkF m pc L (st)) := by
  subst hq
  exact o_st S (fun t X hx hy r => XS.aload X hx rfl (hb hy hd) hl hv r) k
theorem o_istore (S : St p l e R s m args below meth c Z own bytes ml n0 ret nm T h cells slots) {k : Nat} {x : Int32} {L' : Array Slot} (hl : storeLocals L k (.int x) = some L') (hd : decode bytes pc = .ok (.istore k, 2)) (hq : pc + 2 = q) (k : Wp p e below PO T (mkF m q L' (st))) : Wp p e below PO T (mkF m pc L (.int x :: st)) := by
  subst hq
  exact o_st S (fun t X hx hy r => XS.istore X hx rfl (hb hy hd) rfl hl r) k
theorem o_istoreV (S : St p l e R s m args below meth c Z own bytes ml n0 ret nm T h cells slots) {k : Nat} {x : Int32} {L' : Int32 → Array Slot} (hl : ∀ v, storeLocals L k (.int v) = some (L' v)) (hd : decode bytes pc = .ok (.istore k, 2)) (hq : pc + 2 = q) (k : ∀ v, v = x → Wp p e below PO T (mkF m q (L' v) st)) : Wp p e below PO T (mkF m pc L (.int x :: st)) :=
  o_istore S (hl x) hd hq (k x rfl)
theorem o_lstore (S : St p l e R s m args below meth c Z own bytes ml n0 ret nm T h cells slots) {k : Nat} {x : Int64} {L' : Array Slot} (hl : storeLocals L k (.long x) = some L') (hd : decode bytes pc = .ok (.lstore k, 2)) (hq : pc + 2 = q) (k : Wp p e below PO T (mkF m q L' (st))) : Wp p e below PO T (mkF m pc L (.long x :: st)) := by
  subst hq
  exact o_st S (fun t X hx hy r => XS.lstore X hx rfl (hb hy hd) rfl hl r) k
theorem o_lstoreV (S : St p l e R s m args below meth c Z own bytes ml n0 ret nm T h cells slots) {k : Nat} {x : Int64} {L' : Int64 → Array Slot} (hl : ∀ v, storeLocals L k (.long v) = some (L' v)) (hd : decode bytes pc = .ok (.lstore k, 2)) (hq : pc + 2 = q) (k : ∀ v, v = x → Wp p e below PO T (mkF m q (L' v) st)) : Wp p e below PO T (mkF m pc L (.long x :: st)) :=
  o_lstore S (hl x) hd hq (k x rfl)
theorem o_astore (S : St p l e R s m args below meth c Z own bytes ml n0 ret nm T h cells slots) {k : Nat} {x : Value} {L' : Array Slot} (hv : x.isRef = true) (hl : storeLocals L k x = some L') (hd : decode bytes pc = .ok (.astore k, 2)) (hq : pc + 2 = q) (k : Wp p e below PO T (mkF m q L' (st))) : Wp p e below PO T (mkF m pc L (x :: st)) := by
  subst hq
  exact o_st S (fun t X hx hy r => XS.astore X hx rfl (hb hy hd) rfl hv hl r) k
theorem o_iconst (S : St p l e R s m args below meth c Z own bytes ml n0 ret nm T h cells slots) {i : Int} {z : Int32} (hz : Int32.ofInt i = z) (hd : decode bytes pc = .ok (.iconst i, 1)) (hq : pc + 1 = q) (k : Wp p e below PO T (mkF m q L (.int z :: st))) : Wp p e below PO T (mkF m pc L (st)) := by
  subst hq
  exact o_st S (fun t X hx hy r => XS.iconst X hx rfl (hb hy hd) (hz ▸ r)) k
theorem o_bipush (S : St p l e R s m args below meth c Z own bytes ml n0 ret nm T h cells slots) {i : Int} {z : Int32} (hz : (Int8.ofInt i).toInt32 = z) (hd : decode bytes pc = .ok (.bipush i, 2)) (hq : pc + 2 = q) (k : Wp p e below PO T (mkF m q L (.int z :: st))) : Wp p e below PO T (mkF m pc L (st)) := by
  subst hq
  exact o_st S (fun t X hx hy r => XS.bipush X hx rfl (hb hy hd) (hz ▸ r)) k
theorem o_sipush (S : St p l e R s m args below meth c Z own bytes ml n0 ret nm T h cells slots) {i : Int} {z : Int32} (hz : (Int16.ofInt i).toInt32 = z) (hd : decode bytes pc = .ok (.sipush i, 3)) (hq : pc + 3 = q) (k : Wp p e below PO T (mkF m q L (.int z :: st))) : Wp p e below PO T (mkF m pc L (st)) := by
  subst hq
  exact o_st S (fun t X hx hy r => XS.sipush X hx rfl (hb hy hd) (hz ▸ r)) k
theorem o_lconst (S : St p l e R s m args below meth c Z own bytes ml n0 ret nm T h cells slots) {i : Fin 2} {z : Int64} (hz : Int64.ofNat i = z) (hd : decode bytes pc = .ok (.lconst i, 1)) (hq : pc + 1 = q) (k : Wp p e below PO T (mkF m q L (.long z :: st))) : Wp p e below PO T (mkF m pc L (st)) := by
  subst hq
  exact o_st S (fun t X hx hy r => XS.lconst X hx rfl (hb hy hd) (hz ▸ r)) k
theorem o_aconstNull (S : St p l e R s m args below meth c Z own bytes ml n0 ret nm T h cells slots)  (hd : decode bytes pc = .ok (.aconst_null, 1)) (hq : pc + 1 = q) (k : Wp p e below PO T (mkF m q L (.null :: st))) : Wp p e below PO T (mkF m pc L (st)) := by
  subst hq
  exact o_st S (fun t X hx hy r => XS.aconstNull X hx rfl (hb hy hd) r) k
theorem o_iadd (S : St p l e R s m args below meth c Z own bytes ml n0 ret nm T h cells slots) {x y : Int32} (hd : decode bytes pc = .ok (.iadd, 1)) (hq : pc + 1 = q) (k : Wp p e below PO T (mkF m q L (.int (x + y) :: st))) : Wp p e below PO T (mkF m pc L (.int y :: .int x :: st)) := by
  subst hq
  exact o_st S (fun t X hx hy r => XS.iadd X hx rfl (hb hy hd) rfl r) k
theorem o_ladd (S : St p l e R s m args below meth c Z own bytes ml n0 ret nm T h cells slots) {x y : Int64} (hd : decode bytes pc = .ok (.ladd, 1)) (hq : pc + 1 = q) (k : Wp p e below PO T (mkF m q L (.long (x + y) :: st))) : Wp p e below PO T (mkF m pc L (.long y :: .long x :: st)) := by
  subst hq
  exact o_st S (fun t X hx hy r => XS.ladd X hx rfl (hb hy hd) rfl r) k
theorem o_isub (S : St p l e R s m args below meth c Z own bytes ml n0 ret nm T h cells slots) {x y : Int32} (hd : decode bytes pc = .ok (.isub, 1)) (hq : pc + 1 = q) (k : Wp p e below PO T (mkF m q L (.int (x - y) :: st))) : Wp p e below PO T (mkF m pc L (.int y :: .int x :: st)) := by
  subst hq
  exact o_st S (fun t X hx hy r => XS.isub X hx rfl (hb hy hd) rfl r) k
theorem o_lsub (S : St p l e R s m args below meth c Z own bytes ml n0 ret nm T h cells slots) {x y : Int64} (hd : decode bytes pc = .ok (.lsub, 1)) (hq : pc + 1 = q) (k : Wp p e below PO T (mkF m q L (.long (x - y) :: st))) : Wp p e below PO T (mkF m pc L (.long y :: .long x :: st)) := by
  subst hq
  exact o_st S (fun t X hx hy r => XS.lsub X hx rfl (hb hy hd) rfl r) k
theorem o_imul (S : St p l e R s m args below meth c Z own bytes ml n0 ret nm T h cells slots) {x y : Int32} (hd : decode bytes pc = .ok (.imul, 1)) (hq : pc + 1 = q) (k : Wp p e below PO T (mkF m q L (.int (x * y) :: st))) : Wp p e below PO T (mkF m pc L (.int y :: .int x :: st)) := by
  subst hq
  exact o_st S (fun t X hx hy r => XS.imul X hx rfl (hb hy hd) rfl r) k
theorem o_lmul (S : St p l e R s m args below meth c Z own bytes ml n0 ret nm T h cells slots) {x y : Int64} (hd : decode bytes pc = .ok (.lmul, 1)) (hq : pc + 1 = q) (k : Wp p e below PO T (mkF m q L (.long (x * y) :: st))) : Wp p e below PO T (mkF m pc L (.long y :: .long x :: st)) := by
  subst hq
  exact o_st S (fun t X hx hy r => XS.lmul X hx rfl (hb hy hd) rfl r) k
theorem o_iand (S : St p l e R s m args below meth c Z own bytes ml n0 ret nm T h cells slots) {x y : Int32} (hd : decode bytes pc = .ok (.iand, 1)) (hq : pc + 1 = q) (k : Wp p e below PO T (mkF m q L (.int (x &&& y) :: st))) : Wp p e below PO T (mkF m pc L (.int y :: .int x :: st)) := by
  subst hq
  exact o_st S (fun t X hx hy r => XS.iand X hx rfl (hb hy hd) rfl r) k
theorem o_land (S : St p l e R s m args below meth c Z own bytes ml n0 ret nm T h cells slots) {x y : Int64} (hd : decode bytes pc = .ok (.land, 1)) (hq : pc + 1 = q) (k : Wp p e below PO T (mkF m q L (.long (x &&& y) :: st))) : Wp p e below PO T (mkF m pc L (.long y :: .long x :: st)) := by
  subst hq
  exact o_st S (fun t X hx hy r => XS.land X hx rfl (hb hy hd) rfl r) k
theorem o_ior (S : St p l e R s m args below meth c Z own bytes ml n0 ret nm T h cells slots) {x y : Int32} (hd : decode bytes pc = .ok (.ior, 1)) (hq : pc + 1 = q) (k : Wp p e below PO T (mkF m q L (.int (x ||| y) :: st))) : Wp p e below PO T (mkF m pc L (.int y :: .int x :: st)) := by
  subst hq
  exact o_st S (fun t X hx hy r => XS.ior X hx rfl (hb hy hd) rfl r) k
theorem o_lor (S : St p l e R s m args below meth c Z own bytes ml n0 ret nm T h cells slots) {x y : Int64} (hd : decode bytes pc = .ok (.lor, 1)) (hq : pc + 1 = q) (k : Wp p e below PO T (mkF m q L (.long (x ||| y) :: st))) : Wp p e below PO T (mkF m pc L (.long y :: .long x :: st)) := by
  subst hq
  exact o_st S (fun t X hx hy r => XS.lor X hx rfl (hb hy hd) rfl r) k
theorem o_ixor (S : St p l e R s m args below meth c Z own bytes ml n0 ret nm T h cells slots) {x y : Int32} (hd : decode bytes pc = .ok (.ixor, 1)) (hq : pc + 1 = q) (k : Wp p e below PO T (mkF m q L (.int (x ^^^ y) :: st))) : Wp p e below PO T (mkF m pc L (.int y :: .int x :: st)) := by
  subst hq
  exact o_st S (fun t X hx hy r => XS.ixor X hx rfl (hb hy hd) rfl r) k
theorem o_lxor (S : St p l e R s m args below meth c Z own bytes ml n0 ret nm T h cells slots) {x y : Int64} (hd : decode bytes pc = .ok (.lxor, 1)) (hq : pc + 1 = q) (k : Wp p e below PO T (mkF m q L (.long (x ^^^ y) :: st))) : Wp p e below PO T (mkF m pc L (.long y :: .long x :: st)) := by
  subst hq
  exact o_st S (fun t X hx hy r => XS.lxor X hx rfl (hb hy hd) rfl r) k
theorem o_irem (S : St p l e R s m args below meth c Z own bytes ml n0 ret nm T h cells slots) {x y : Int32} (hy0 : y ≠ 0) (hd : decode bytes pc = .ok (.irem, 1)) (hq : pc + 1 = q) (k : Wp p e below PO T (mkF m q L (.int (x % y) :: st))) : Wp p e below PO T (mkF m pc L (.int y :: .int x :: st)) := by
  subst hq
  exact o_st S (fun t X hx hy r => XS.irem X hx rfl (hb hy hd) rfl hy0 (by have q : x - x / y * y = x % y := irem_eq_mod x y; rw [q]; exact r)) k
theorem o_idiv (S : St p l e R s m args below meth c Z own bytes ml n0 ret nm T h cells slots) {x y : Int32} (hy0 : y ≠ 0) (hd : decode bytes pc = .ok (.idiv, 1)) (hq : pc + 1 = q) (k : Wp p e below PO T (mkF m q L (.int (x / y) :: st))) : Wp p e below PO T (mkF m pc L (.int y :: .int x :: st)) := by
  subst hq
  exact o_st S (fun t X hx hy r => XS.idiv X hx rfl (hb hy hd) rfl hy0 r) k
theorem o_ineg (S : St p l e R s m args below meth c Z own bytes ml n0 ret nm T h cells slots) {x : Int32} (hd : decode bytes pc = .ok (.ineg, 1)) (hq : pc + 1 = q) (k : Wp p e below PO T (mkF m q L (.int (-x) :: st))) : Wp p e below PO T (mkF m pc L (.int x :: st)) := by
  subst hq
  exact o_st S (fun t X hx hy r => XS.ineg X hx rfl (hb hy hd) rfl r) k
theorem o_lneg (S : St p l e R s m args below meth c Z own bytes ml n0 ret nm T h cells slots) {x : Int64} (hd : decode bytes pc = .ok (.lneg, 1)) (hq : pc + 1 = q) (k : Wp p e below PO T (mkF m q L (.long (-x) :: st))) : Wp p e below PO T (mkF m pc L (.long x :: st)) := by
  subst hq
  exact o_st S (fun t X hx hy r => XS.lneg X hx rfl (hb hy hd) rfl r) k
theorem o_i2l (S : St p l e R s m args below meth c Z own bytes ml n0 ret nm T h cells slots) {x : Int32} (hd : decode bytes pc = .ok (.i2l, 1)) (hq : pc + 1 = q) (k : Wp p e below PO T (mkF m q L (.long x.toInt64 :: st))) : Wp p e below PO T (mkF m pc L (.int x :: st)) := by
  subst hq
  exact o_st S (fun t X hx hy r => XS.i2l X hx rfl (hb hy hd) rfl r) k
theorem o_l2i (S : St p l e R s m args below meth c Z own bytes ml n0 ret nm T h cells slots) {x : Int64} (hd : decode bytes pc = .ok (.l2i, 1)) (hq : pc + 1 = q) (k : Wp p e below PO T (mkF m q L (.int x.toInt32 :: st))) : Wp p e below PO T (mkF m pc L (.long x :: st)) := by
  subst hq
  exact o_st S (fun t X hx hy r => XS.l2i X hx rfl (hb hy hd) rfl r) k
theorem o_i2b (S : St p l e R s m args below meth c Z own bytes ml n0 ret nm T h cells slots) {x : Int32} (hd : decode bytes pc = .ok (.i2b, 1)) (hq : pc + 1 = q) (k : Wp p e below PO T (mkF m q L (.int x.toInt8.toInt32 :: st))) : Wp p e below PO T (mkF m pc L (.int x :: st)) := by
  subst hq
  exact o_st S (fun t X hx hy r => XS.i2b X hx rfl (hb hy hd) rfl r) k
theorem o_i2s (S : St p l e R s m args below meth c Z own bytes ml n0 ret nm T h cells slots) {x : Int32} (hd : decode bytes pc = .ok (.i2s, 1)) (hq : pc + 1 = q) (k : Wp p e below PO T (mkF m q L (.int x.toInt16.toInt32 :: st))) : Wp p e below PO T (mkF m pc L (.int x :: st)) := by
  subst hq
  exact o_st S (fun t X hx hy r => XS.i2s X hx rfl (hb hy hd) rfl r) k
theorem o_i2c (S : St p l e R s m args below meth c Z own bytes ml n0 ret nm T h cells slots) {x : Int32} (hd : decode bytes pc = .ok (.i2c, 1)) (hq : pc + 1 = q) (k : Wp p e below PO T (mkF m q L (.int x.toUInt32.toUInt16.toUInt32.toInt32 :: st))) : Wp p e below PO T (mkF m pc L (.int x :: st)) := by
  subst hq
  exact o_st S (fun t X hx hy r => XS.i2c X hx rfl (hb hy hd) rfl r) k
theorem o_ishl (S : St p l e R s m args below meth c Z own bytes ml n0 ret nm T h cells slots) {x y : Int32} (hd : decode bytes pc = .ok (.ishl, 1)) (hq : pc + 1 = q) (k : Wp p e below PO T (mkF m q L (.int (x <<< (y &&& 31)) :: st))) : Wp p e below PO T (mkF m pc L (.int y :: .int x :: st)) := by
  subst hq
  exact o_st S (fun t X hx hy r => XS.ishl X hx rfl (hb hy hd) rfl r) k
theorem o_ishr (S : St p l e R s m args below meth c Z own bytes ml n0 ret nm T h cells slots) {x y : Int32} (hd : decode bytes pc = .ok (.ishr, 1)) (hq : pc + 1 = q) (k : Wp p e below PO T (mkF m q L (.int (x >>> (y &&& 31)) :: st))) : Wp p e below PO T (mkF m pc L (.int y :: .int x :: st)) := by
  subst hq
  exact o_st S (fun t X hx hy r => XS.ishr X hx rfl (hb hy hd) rfl r) k
theorem o_iushr (S : St p l e R s m args below meth c Z own bytes ml n0 ret nm T h cells slots) {x y : Int32} (hd : decode bytes pc = .ok (.iushr, 1)) (hq : pc + 1 = q) (k : Wp p e below PO T (mkF m q L (.int ((x.toUInt32 >>> (y &&& 31).toUInt32).toInt32) :: st))) : Wp p e below PO T (mkF m pc L (.int y :: .int x :: st)) := by
  subst hq
  exact o_st S (fun t X hx hy r => XS.iushr X hx rfl (hb hy hd) rfl r) k
theorem o_lshl (S : St p l e R s m args below meth c Z own bytes ml n0 ret nm T h cells slots) {x : Int64} {y : Int32} (hd : decode bytes pc = .ok (.lshl, 1)) (hq : pc + 1 = q) (k : Wp p e below PO T (mkF m q L (.long (x <<< (y &&& 0x3f).toInt64) :: st))) : Wp p e below PO T (mkF m pc L (.int y :: .long x :: st)) := by
  subst hq
  exact o_st S (fun t X hx hy r => XS.lshl X hx rfl (hb hy hd) rfl r) k
theorem o_lshr (S : St p l e R s m args below meth c Z own bytes ml n0 ret nm T h cells slots) {x : Int64} {y : Int32} (hd : decode bytes pc = .ok (.lshr, 1)) (hq : pc + 1 = q) (k : Wp p e below PO T (mkF m q L (.long (x >>> (y &&& 0x3f).toInt64) :: st))) : Wp p e below PO T (mkF m pc L (.int y :: .long x :: st)) := by
  subst hq
  exact o_st S (fun t X hx hy r => XS.lshr X hx rfl (hb hy hd) rfl r) k
theorem o_lushr (S : St p l e R s m args below meth c Z own bytes ml n0 ret nm T h cells slots) {x : Int64} {y : Int32} (hd : decode bytes pc = .ok (.lushr, 1)) (hq : pc + 1 = q) (k : Wp p e below PO T (mkF m q L (.long ((x.toUInt64 >>> (y &&& 0x3f).toInt64.toUInt64).toInt64) :: st))) : Wp p e below PO T (mkF m pc L (.int y :: .long x :: st)) := by
  subst hq
  exact o_st S (fun t X hx hy r => XS.lushr X hx rfl (hb hy hd) rfl r) k
theorem o_lcmp (S : St p l e R s m args below meth c Z own bytes ml n0 ret nm T h cells slots) {x y : Int64} (hd : decode bytes pc = .ok (.lcmp, 1)) (hq : pc + 1 = q) (k : Wp p e below PO T (mkF m q L (.int (lcmpW x y) :: st))) : Wp p e below PO T (mkF m pc L (.long y :: .long x :: st)) := by
  subst hq
  exact o_st S (fun t X hx hy r => XS.lcmp X hx rfl (hb hy hd) rfl r) k
theorem o_dup (S : St p l e R s m args below meth c Z own bytes ml n0 ret nm T h cells slots) {x : Value} (hc : x.category = 1) (hd : decode bytes pc = .ok (.dup, 1)) (hq : pc + 1 = q) (k : Wp p e below PO T (mkF m q L (x :: x :: st))) : Wp p e below PO T (mkF m pc L (x :: st)) := by
  subst hq
  exact o_st S (fun t X hx hy r => XS.dup X hx rfl (hb hy hd) rfl hc r) k
theorem o_pop (S : St p l e R s m args below meth c Z own bytes ml n0 ret nm T h cells slots) {x : Value} (hc : x.category = 1) (hd : decode bytes pc = .ok (.pop, 1)) (hq : pc + 1 = q) (k : Wp p e below PO T (mkF m q L (st))) : Wp p e below PO T (mkF m pc L (x :: st)) := by
  subst hq
  exact o_st S (fun t X hx hy r => XS.pop X hx rfl (hb hy hd) rfl hc r) k
theorem o_dupX1 (S : St p l e R s m args below meth c Z own bytes ml n0 ret nm T h cells slots) {x y : Value} (hc : x.category = 1) (hc' : y.category = 1) (hd : decode bytes pc = .ok (.dup_x1, 1)) (hq : pc + 1 = q) (k : Wp p e below PO T (mkF m q L (x :: y :: x :: st))) : Wp p e below PO T (mkF m pc L (x :: y :: st)) := by
  subst hq
  exact o_st S (fun t X hx hy r => XS.dupX1 X hx rfl (hb hy hd) rfl hc hc' r) k
theorem o_dup2 (S : St p l e R s m args below meth c Z own bytes ml n0 ret nm T h cells slots) {x y : Value} (hc : x.category = 1) (hc' : y.category = 1) (hd : decode bytes pc = .ok (.dup2, 1)) (hq : pc + 1 = q) (k : Wp p e below PO T (mkF m q L (x :: y :: x :: y :: st))) : Wp p e below PO T (mkF m pc L (x :: y :: st)) := by
  subst hq
  exact o_st S (fun t X hx hy r => XT.dup2 X hx rfl (hb hy hd) rfl hc hc' r) k
theorem o_iinc (S : St p l e R s m args below meth c Z own bytes ml n0 ret nm T h cells slots) {k : Nat} {i : Int} {x : Int32} {L' : Array Slot} (hl : L[k]? = some (.val (.int x))) (hl' : storeLocals L k (.int (x + Int32.ofInt i)) = some L') (hd : decode bytes pc = .ok (.iinc k i, 3)) (hq : pc + 3 = q) (kk : Wp p e below PO T (mkF m q L' st)) : Wp p e below PO T (mkF m pc L st) := by
  subst hq
  exact o_st S (fun t X hx hy r => XS.iinc X hx rfl (hb hy hd) hl hl' r) kk
theorem o_goto (S : St p l e R s m args below meth c Z own bytes ml n0 ret nm T h cells slots) {o : Int} (hd : decode bytes pc = .ok (.goto o, 3)) (ho : 0 ≤ (pc : Int) + o) (hq : ((pc : Int) + o).toNat = q) (k : Wp p e below PO T (mkF m q L st)) : Wp p e below PO T (mkF m pc L st) :=
  o_st S (fun t X hx hy r => XS.goto X hx rfl rfl (hb hy hd) ho hq r) k
theorem o_ldc (S : St p l e R s m args below meth c Z own bytes ml n0 ret nm T h cells slots) {i : Nat} {z : Int32} (w : (Jvm.Cond.constant own i z).before a0 Z = true) (hd : decode bytes pc = .ok (.ldc i, 2)) (hq : pc + 2 = q) (k : Wp p e below PO T (mkF m q L (.int z :: st))) : Wp p e below PO T (mkF m pc L st) := by
  subst hq
  obtain ⟨locs, X, N, eT, hx, hZ, hown, hby, hml, hlk, hn, hrt, hnm⟩ := S
  exact o_to (X.ldcInt hx hown (mvT hZ w) (g := mkF m pc L st) rfl (hb hby hd)) k
theorem o_ldc2 (S : St p l e R s m args below meth c Z own bytes ml n0 ret nm T h cells slots) {i : Nat} {z : Int64} (w : (Jvm.Cond.constantLong own i z).before a0 Z = true) (hd : decode bytes pc = .ok (.ldc2_w i, 3)) (hq : pc + 3 = q) (k : Wp p e below PO T (mkF m q L (.long z :: st))) : Wp p e below PO T (mkF m pc L st) := by
  subst hq
  obtain ⟨locs, X, N, eT, hx, hZ, hown, hby, hml, hlk, hn, hrt, hnm⟩ := S
  exact o_to (X.ldc2Long hx hown (mvT hZ w) (g := mkF m pc L st) rfl (hb hby hd)) k
/-! branches: base conditions x < y (as integers) and x = y -/
theorem o_icmp (S : St p l e R s m args below meth c Z own bytes ml n0 ret nm T h cells slots) {cd : ClassFile.Cond} {x y : Int32} {o : Int} {q' : Nat} {P : Prop} (hd : decode bytes pc = .ok (.if_icmp cd o, 3)) (ho : 0 ≤ (pc : Int) + o) (hq' : ((pc : Int) + o).toNat = q') (hq : pc + 3 = q) (h1 : P → if_icmp.holds cd x y = true) (h2 : ¬ P → if_icmp.holds cd x y = false) [Decidable P]
    (k1 : P → Wp p e below PO T (mkF m q' L st)) (k2 : ¬ P → Wp p e below PO T (mkF m q L st)) : Wp p e below PO T (mkF m pc L (.int y :: .int x :: st)) := by
  subst hq
  by_cases hP : P
  · exact o_st S (fun t X hx hy r => XS.icmpYes X hx rfl rfl (hb hy hd) rfl (h1 hP) ho hq' r) (k1 hP)
  · exact o_st S (fun t X hx hy r => XS.icmpNo X hx rfl (hb hy hd) rfl (h2 hP) r) (k2 hP)
theorem o_if (S : St p l e R s m args below meth c Z own bytes ml n0 ret nm T h cells slots) {cd : ClassFile.Cond} {x : Int32} {o : Int} {q' : Nat} {P : Prop} (hd : decode bytes pc = .ok (.ifCond cd o, 3)) (ho : 0 ≤ (pc : Int) + o) (hq' : ((pc : Int) + o).toNat = q') (hq : pc + 3 = q) (h1 : P → if_icmp.holds cd x 0 = true) (h2 : ¬ P → if_icmp.holds cd x 0 = false) [Decidable P]
    (k1 : P → Wp p e below PO T (mkF m q' L st)) (k2 : ¬ P → Wp p e below PO T (mkF m q L st)) : Wp p e below PO T (mkF m pc L (.int x :: st)) := by
  subst hq
  by_cases hP : P
  · exact o_st S (fun t X hx hy r => XS.ifYes X hx rfl rfl (hb hy hd) rfl ((if0 _ _).trans (h1 hP)) ho hq' r) (k1 hP)
  · exact o_st S (fun t X hx hy r => XS.ifNo X hx rfl (hb hy hd) rfl ((if0 _ _).trans (h2 hP)) r) (k2 hP)
theorem hs_lt {x y : Int32} {a b : Int} (ha : x.toInt = a) (hb : y.toInt = b) : (a < b → if_icmp.holds .lt x y = true) ∧ (¬ a < b → if_icmp.holds .lt x y = false) := by subst ha hb; exact ⟨fun h => (tlt (Int32.lt_iff_toInt_lt.mpr h)).1, fun h => (flt (fun g => h (Int32.lt_iff_toInt_lt.mp g))).1⟩
theorem hs_ge {x y : Int32} {a b : Int} (ha : x.toInt = a) (hb : y.toInt = b) : (b ≤ a → if_icmp.holds .ge x y = true) ∧ (¬ b ≤ a → if_icmp.holds .ge x y = false) := by subst ha hb; exact ⟨fun h => (flt (fun g => by have := Int32.lt_iff_toInt_lt.mp g; omega)).2.1, fun h => (tlt (Int32.lt_iff_toInt_lt.mpr (by omega))).2.1⟩
theorem hs_gt {x y : Int32} {a b : Int} (ha : x.toInt = a) (hb : y.toInt = b) : (b < a → if_icmp.holds .gt x y = true) ∧ (¬ b < a → if_icmp.holds .gt x y = false) := by subst ha hb; exact ⟨fun h => (tlt (Int32.lt_iff_toInt_lt.mpr h)).2.2.1, fun h => (flt (fun g => h (Int32.lt_iff_toInt_lt.mp g))).2.2.1⟩
theorem hs_le {x y : Int32} {a b : Int} (ha : x.toInt = a) (hb : y.toInt = b) : (a ≤ b → if_icmp.holds .le x y = true) ∧ (¬ a ≤ b → if_icmp.holds .le x y = false) := by subst ha hb; exact ⟨fun h => (flt (fun g => by have := Int32.lt_iff_toInt_lt.mp g; omega)).2.2.2, fun h => (tlt (Int32.lt_iff_toInt_lt.mpr (by omega))).2.2.2⟩
theorem hs_eq {x y : Int32} : (x = y → if_icmp.holds .eq x y = true) ∧ (¬ x = y → if_icmp.holds .eq x y = false) := ⟨fun h => (teq h).1, fun h => (feq h).1⟩
theorem hs_ne {x y : Int32} : (¬ x = y → if_icmp.holds .ne x y = true) ∧ (¬ ¬ x = y → if_icmp.holds .ne x y = false) := ⟨fun h => (feq h).2, fun h => (teq (Decidable.not_not.mp h)).2⟩
theorem hl_eq {x y : Int64} : (x = y → if_icmp.holds .eq (lcmpW x y) 0 = true) ∧ (¬ x = y → if_icmp.holds .eq (lcmpW x y) 0 = false) := ⟨fun h => (teq ((lw_eq x y).mpr h)).1, fun h => (feq (fun g => h ((lw_eq x y).mp g))).1⟩
theorem hl_ne {x y : Int64} : (¬ x = y → if_icmp.holds .ne (lcmpW x y) 0 = true) ∧ (¬ ¬ x = y → if_icmp.holds .ne (lcmpW x y) 0 = false) := ⟨fun h => (feq (fun g => h ((lw_eq x y).mp g))).2, fun h => (teq ((lw_eq x y).mpr (Decidable.not_not.mp h))).2⟩
theorem hl_lt {x y : Int64} {a b : Int} (ha : x.toInt = a) (hb : y.toInt = b) : (a < b → if_icmp.holds .lt (lcmpW x y) 0 = true) ∧ (¬ a < b → if_icmp.holds .lt (lcmpW x y) 0 = false) := by subst ha hb; exact ⟨fun h => (tlt ((lw_lt x y).mpr (Int64.lt_iff_toInt_lt.mpr h))).1, fun h => (flt (fun g => h (Int64.lt_iff_toInt_lt.mp ((lw_lt x y).mp g)))).1⟩
theorem hl_ge {x y : Int64} {a b : Int} (ha : x.toInt = a) (hb : y.toInt = b) : (b ≤ a → if_icmp.holds .ge (lcmpW x y) 0 = true) ∧ (¬ b ≤ a → if_icmp.holds .ge (lcmpW x y) 0 = false) := by subst ha hb; exact ⟨fun h => (flt (fun g => by have := Int64.lt_iff_toInt_lt.mp ((lw_lt x y).mp g); omega)).2.1, fun h => (tlt ((lw_lt x y).mpr (Int64.lt_iff_toInt_lt.mpr (by omega)))).2.1⟩
theorem hl_gt {x y : Int64} {a b : Int} (ha : x.toInt = a) (hb : y.toInt = b) : (b < a → if_icmp.holds .gt (lcmpW x y) 0 = true) ∧ (¬ b < a → if_icmp.holds .gt (lcmpW x y) 0 = false) := by subst ha hb; exact ⟨fun h => (tlt ((lw_gt x y).mpr (Int64.lt_iff_toInt_lt.mpr h))).2.2.1, fun h => (flt (fun g => h (Int64.lt_iff_toInt_lt.mp ((lw_gt x y).mp g)))).2.2.1⟩
theorem hl_le {x y : Int64} {a b : Int} (ha : x.toInt = a) (hb : y.toInt = b) : (a ≤ b → if_icmp.holds .le (lcmpW x y) 0 = true) ∧ (¬ a ≤ b → if_icmp.holds .le (lcmpW x y) 0 = false) := by subst ha hb; exact ⟨fun h => (flt (fun g => by have := Int64.lt_iff_toInt_lt.mp ((lw_gt x y).mp g); omega)).2.2.2, fun h => (tlt ((lw_gt x y).mpr (Int64.lt_iff_toInt_lt.mpr (by omega)))).2.2.2⟩
theorem o_ifnullY (S : St p l e R s m args below meth c Z own bytes ml n0 ret nm T h cells slots) {o : Int} (hd : decode bytes pc = .ok (.ifnull o, 3)) (ho : 0 ≤ (pc : Int) + o) (hq : ((pc : Int) + o).toNat = q) (k : Wp p e below PO T (mkF m q L st)) : Wp p e below PO T (mkF m pc L (.null :: st)) :=
  o_st S (fun t X hx hy r => XS.ifnullYes X hx rfl rfl (hb hy hd) rfl ho hq r) k
theorem o_ifnullN (S : St p l e R s m args below meth c Z own bytes ml n0 ret nm T h cells slots) {o : Int} {b : Addr} (hd : decode bytes pc = .ok (.ifnull o, 3)) (hq : pc + 3 = q) (k : Wp p e below PO T (mkF m q L st)) : Wp p e below PO T (mkF m pc L (.ref b :: st)) := by
  subst hq
  exact o_st S (fun t X hx hy r => XS.ifnullNo X hx rfl (hb hy hd) rfl r) k
theorem o_ifnonnullY (S : St p l e R s m args below meth c Z own bytes ml n0 ret nm T h cells slots) {o : Int} {b : Addr} (hd : decode bytes pc = .ok (.ifnonnull o, 3)) (ho : 0 ≤ (pc : Int) + o) (hq : ((pc : Int) + o).toNat = q) (k : Wp p e below PO T (mkF m q L st)) : Wp p e below PO T (mkF m pc L (.ref b :: st)) :=
  o_st S (fun t X hx hy r => XS.ifnonnullYes X hx rfl rfl (hb hy hd) rfl ho hq r) k
theorem o_ifnonnullN (S : St p l e R s m args below meth c Z own bytes ml n0 ret nm T h cells slots) {o : Int} (hd : decode bytes pc = .ok (.ifnonnull o, 3)) (hq : pc + 3 = q) (k : Wp p e below PO T (mkF m q L st)) : Wp p e below PO T (mkF m pc L (.null :: st)) := by
  subst hq
  exact o_st S (fun t X hx hy r => XS.ifnonnullNo X hx rfl (hb hy hd) rfl r) k
/-! returns -/
theorem o_ret {Q : Option Value → Heap → Prop} {w : Option Value} (S : St p l e R s m args below meth c Z own bytes ml n0 ret nm T h cells slots) {g : JFrame} (hv : meth.sig.returnType = none → w = none) (hc : cells ≤ R.cells) (hs : slots ≤ R.slots) (qq : Q w h)
    (hst : ∀ fs : List Frame, At T m c below → T.vm.method? m = some meth → p.tables.exec = Jvm.exec → c.code = bytes → (∀ locs, Stand p l e R s m args below meth c T locs cells slots → (∀ (f : JFrame) (acts : List Action), f.method = m → f.locked = none → f.entered = [] → (doReturn e (T.setTop f) acts w).1 = T.setFrames fs) → Steps p.tables e below (T.setTop g) (T.setFrames fs))) : Wp p e below (Po s n0 R Q) T g := by
  obtain ⟨locs, X, N, eT, hx, hZ, hown, hby, hml, hlk, hn, hrt, hnm⟩ := S
  obtain ⟨fs, hr, hrun, hended, hW, hsame⟩ := X.leave (v := w) hv hlk
  refine ⟨_, _, hst fs X.here X.method' hx hby locs X hr, hrun, hended, _, _, rfl, ⟨?_, N⟩, ⟨_, rfl⟩, hW, hsame.mono hc hs⟩
  show Q w T.heap
  rw [eT]; exact qq
theorem o_retI {Q : Option Value → Heap → Prop} {z : Int32} (S : St p l e R s m args below meth c Z own bytes ml n0 ret nm T h cells slots) (hret : ret = some .int) (hd : decode bytes pc = .ok (.ireturn, 1)) (hc : cells ≤ R.cells) (hs : slots ≤ R.slots) (qq : Q (some (.int z)) h) : Wp p e below (Po s n0 R Q) T (mkF m pc L (.int z :: st)) := by
  have hrt : meth.sig.returnType = some .int := by obtain ⟨locs, X, N, eT, hx, hZ, hown, hby, hml, hlk, hn, hrt, hnm⟩ := S; rw [hrt, hret]
  refine o_ret S (w := some (.int z)) (fun h => by rw [hrt] at h; cases h) hc hs qq fun fs hA hm hx hby locs X hr => ?_
  exact retOut X hx hrt rfl (Or.inl ⟨rfl, Or.inl rfl, z, rfl⟩) (hb hby hd) hr
theorem o_retN {Q : Option Value → Heap → Prop} {z : Int32} {t : FieldType} (S : St p l e R s m args below meth c Z own bytes ml n0 ret nm T h cells slots) (hret : ret = some t) (ht : t = .boolean ∨ t = .byte ∨ t = .char ∨ t = .short) (hd : decode bytes pc = .ok (.ireturn, 1)) (hc : cells ≤ R.cells) (hs : slots ≤ R.slots) (hn : narrow t (.int z) = .int z) (qq : Q (some (.int z)) h) : Wp p e below (Po s n0 R Q) T (mkF m pc L (.int z :: st)) := by
  have hrt : meth.sig.returnType = some t := by obtain ⟨locs, X, N, eT, hx, hZ, hown, hby, hml, hlk, hn, hrt, hnm⟩ := S; rw [hrt, hret]
  refine o_ret S (w := some (.int z)) (fun h => by rw [hrt] at h; cases h) hc hs qq fun fs hA hm hx hby locs X hr => ?_
  exact retOut X hx hrt hn (Or.inl ⟨rfl, Or.inr ht, z, rfl⟩) (hb hby hd) hr
theorem o_retJ {Q : Option Value → Heap → Prop} {z : Int64} (S : St p l e R s m args below meth c Z own bytes ml n0 ret nm T h cells slots) (hret : ret = some .long) (hd : decode bytes pc = .ok (.lreturn, 1)) (hc : cells ≤ R.cells) (hs : slots ≤ R.slots) (qq : Q (some (.long z)) h) : Wp p e below (Po s n0 R Q) T (mkF m pc L (.long z :: st)) := by
  have hrt : meth.sig.returnType = some .long := by obtain ⟨locs, X, N, eT, hx, hZ, hown, hby, hml, hlk, hn, hrt, hnm⟩ := S; rw [hrt, hret]
  refine o_ret S (w := some (.long z)) (fun h => by rw [hrt] at h; cases h) hc hs qq fun fs hA hm hx hby locs X hr => ?_
  exact retOut X hx hrt rfl (Or.inr (Or.inl ⟨rfl, rfl, z, rfl⟩)) (hb hby hd) hr
theorem o_retR {Q : Option Value → Heap → Prop} {z : Value} {t : FieldType} (S : St p l e R s m args below meth c Z own bytes ml n0 ret nm T h cells slots) (hret : ret = some t) (ht : t.isReference = true) (hz : z.isRef = true) (hn : narrow t z = z) (hd : decode bytes pc = .ok (.areturn, 1)) (hc : cells ≤ R.cells) (hs : slots ≤ R.slots) (qq : Q (some z) h) : Wp p e below (Po s n0 R Q) T (mkF m pc L (z :: st)) := by
  have hrt : meth.sig.returnType = some t := by obtain ⟨locs, X, N, eT, hx, hZ, hown, hby, hml, hlk, hn, hrt, hnm⟩ := S; rw [hrt, hret]
  refine o_ret S (w := some z) (fun h => by rw [hrt] at h; cases h) hc hs qq fun fs hA hm hx hby locs X hr => ?_
  exact retOut X hx hrt hn (Or.inr (Or.inr (Or.inr (Or.inr ⟨rfl, ht, hz⟩)))) (hb hby hd) hr
theorem o_retV {Q : Option Value → Heap → Prop} (S : St p l e R s m args below meth c Z own bytes ml n0 ret nm T h cells slots) (hret : ret = none) (hd : decode bytes pc = .ok (.return_, 1)) (hc : cells ≤ R.cells) (hs : slots ≤ R.slots) (qq : Q none h) : Wp p e below (Po s n0 R Q) T (mkF m pc L []) := by
  have hrt : meth.sig.returnType = none := by obtain ⟨locs, X, N, eT, hx, hZ, hown, hby, hml, hlk, hn, hrt, hnm⟩ := S; rw [hrt, hret]
  exact o_ret S (w := none) (fun _ => rfl) hc hs qq fun fs hA hm hx hby locs X hr => X.returnOut hx hrt (hb hby hd) hr

/-! calls -/
theorem o_cut {A B : Prop} (k2 : A → B) (k1 : A) : B := k2 k1
theorem o_cutS {B : Prop} (S : St p l e R s m args below meth c Z own bytes ml n0 ret nm T h cells slots) {G : State → Prop} (k2 : (∀ T', St p l e R s m args below meth c Z own bytes ml n0 ret nm T' h cells slots → G T') → B) (k1 : ∀ T', St p l e R s m args below meth c Z own bytes ml n0 ret nm T' h cells slots → G T') : B := k2 k1
def Qp (r : Option Value) (h0 : Heap) : Option Value → Heap → Prop := fun v h => v = r ∧ h = h0
theorem o_si {a b : Int32} (h : a = b) : some (Value.int a) = some (Value.int b) := by rw [h]
theorem o_sj {a b : Int64} (h : a = b) : some (Value.long a) = some (Value.long b) := by rw [h]
theorem o_callS (S : St p l e R s m args below meth c Z own bytes ml n0 ret nm T h cells slots) {i : Nat} {y : MethodName} {bytes' : ByteArray} {maxL : Nat} {ret' : Option FieldType} {rm : Room} {W : Nat} {argsL rest : List Value} {Q : Option Value → Heap → Prop} {ps : List FieldType} {r' : Option FieldType}
    (w1 : (Jvm.Cond.methodLink own i y).before a0 Z = true) (w2 : (Jvm.Cond.static y).before a0 Z = true) (w3 : (Jvm.Cond.initialized y.cls).before a0 Z = true) (w4 : (Jvm.Cond.code y bytes' maxL ret').before a0 Z = true) (hy : y.cls ≠ "java/lang/invoke/MethodHandle" ∧ y.cls ≠ "java/lang/invoke/VarHandle")
    (K : Ct l y bytes' maxL ret' [] rm Z h n0 argsL.toArray Q) (hf : rm.frames + 1 ≤ R.frames) (hl : W + (maxL + 11) + rm.locals ≤ R.locals) (hL : L.size = ml) (hst : st = argsL.reverse ++ rest) (hsig : parseMethodDescriptor y.desc = some ⟨ps, r'⟩) (hlen : argsL.length = ps.length) (hW : (rest.map fun v => v.category).sum ≤ W)
    (hd : decode bytes pc = .ok (.invokestatic i, 3)) (hq : pc + 3 = q) (hc : cells + rm.cells ≤ R.cells) (hs : slots + rm.slots ≤ R.slots) (k : ∀ T' h' v, St p l e R s m args below meth c Z own bytes ml n0 ret nm T' h' (cells + rm.cells) (slots + rm.slots) → Q v h' → Wp p e below PO T' (mkF m q L (v.toList ++ rest))) : Wp p e below PO T (mkF m pc L st) := by
  subst hq
  obtain ⟨locs, X, N, eT, hx, hZ, hown, hby, hml, hlk, hn, hrt, hnm⟩ := S
  have hb0 := backOf (R := R) (s := s) (p := p) (e := e) (below := below) (args := args) (len := 3) (W := W) (Q := fun v h L => Q v h ∧ Fr n0 L) K hZ w4 w3 hf hl
  obtain ⟨v, vm, ⟨T', L', k', n'⟩, hwm, X', ⟨Lc, hQ, l1, y1, z1⟩, st1⟩ := Jvm.LawKit.callS X hx (y := y) hown (mvT hZ w1) (mvT hZ w2) (mvT hZ w3) (mvT hZ w4) hy hb0 (g := mkF m pc L st) rfl (by rw [hml]; exact hL) (argsL := argsL) (rest := rest) (lenOf hsig hlen) hst (by show 2 * 0 + _ ≤ _; omega) (hb hby hd) (fun _ _ => ⟨rfl, eT, hc, hs⟩)
  dsimp only [Pt.U, Pt.locs, Pt.cells, Pt.slots] at X' l1 y1 z1 st1 hQ
  subst l1 y1 z1
  exact o_to st1 (k T' T'.heap v ⟨_, X', N.app hQ.2, rfl, hx, hZ, hown, hby, hml, hlk, hn, hrt, hnm⟩ hQ.1)
theorem o_callI (S : St p l e R s m args below meth c Z own bytes ml n0 ret nm T h cells slots) {i : Nat} {y : MethodName} {bytes' : ByteArray} {maxL : Nat} {rm : Room} {W : Nat} {argsL rest : List Value} {Q : Option Value → Heap → Prop} {ps : List FieldType} {r' : Option FieldType} {a : Addr} (hy1 : y.name = "<init>")
    (w1 : (Jvm.Cond.methodLink own i y).before a0 Z = true) (w2 : (Jvm.Cond.instanceMethod y).before a0 Z = true) (w3 : (Jvm.Cond.initialized y.cls).before a0 Z = true) (w4 : (Jvm.Cond.code y bytes' maxL none).before a0 Z = true) (hy : y.cls ≠ "java/lang/invoke/MethodHandle" ∧ y.cls ≠ "java/lang/invoke/VarHandle")
    (K : Ct l y bytes' maxL none [] rm Z h n0 (.ref a :: argsL).toArray Q) (hf : rm.frames + 1 ≤ R.frames) (hl : W + (maxL + 11) + rm.locals ≤ R.locals) (hL : L.size = ml) (hst : st = argsL.reverse ++ .ref a :: rest) (hsig : parseMethodDescriptor y.desc = some ⟨ps, r'⟩) (hlen : argsL.length = ps.length) (hW : (rest.map fun v => v.category).sum ≤ W)
    (hd : decode bytes pc = .ok (.invokespecial i, 3)) (hq : pc + 3 = q) (hc : cells + rm.cells ≤ R.cells) (hs : slots + rm.slots ≤ R.slots) (k : ∀ T' h' v, St p l e R s m args below meth c Z own bytes ml n0 ret nm T' h' (cells + rm.cells) (slots + rm.slots) → Q v h' → Wp p e below PO T' (mkF m q L (v.toList ++ rest))) : Wp p e below PO T (mkF m pc L st) := by
  subst hq
  obtain ⟨locs, X, N, eT, hx, hZ, hown, hby, hml, hlk, hn, hrt, hnm⟩ := S
  have hb0 := backOf (R := R) (s := s) (p := p) (e := e) (below := below) (args := args) (len := 3) (W := W) (Q := fun v h L => Q v h ∧ Fr n0 L) K hZ w4 w3 hf hl
  obtain ⟨v, vm, ⟨T', L', k', n'⟩, hwm, X', ⟨Lc, hQ, l1, y1, z1⟩, st1⟩ := X.specialBack hx (y := y) hy1 hown (mvT hZ w1) (mvT hZ w2) (mvT hZ w4) hy hb0 (g := mkF m pc L st) rfl (by rw [hml]; exact hL) (Steps.refl _) (a := a) (argsL := argsL) (rest := rest) (lenOf hsig hlen) hst (by show 2 * 0 + _ ≤ _; omega) (hb hby hd) (fun _ _ => ⟨rfl, eT, hc, hs⟩)
  dsimp only [Pt.U, Pt.locs, Pt.cells, Pt.slots] at X' l1 y1 z1 st1 hQ
  subst l1 y1 z1
  exact o_to (fun t r => st1.trans r) (k T' T'.heap v ⟨_, X', N.app hQ.2, rfl, hx, hZ, hown, hby, hml, hlk, hn, hrt, hnm⟩ hQ.1)
theorem o_callV (S : St p l e R s m args below meth c Z own bytes ml n0 ret nm T h cells slots) {i : Nat} {y : MethodName} {bytes' : ByteArray} {maxL : Nat} {ret' : Option FieldType} {rm : Room} {W : Nat} {argsL rest : List Value} {Q : Option Value → Heap → Prop} {ps : List FieldType} {r' : Option FieldType} {a : Addr} {z : MethodName} {C : String}
    (w1 : (Jvm.Cond.methodLink own i y).before a0 Z = true) (w2 : (Jvm.Cond.declares y).before a0 Z = true) (w5 : (Jvm.Cond.selects C y z).before a0 Z = true) (w6 : (Jvm.Cond.instanceMethod z).before a0 Z = true) (w3 : (Jvm.Cond.initialized z.cls).before a0 Z = true) (w4 : (Jvm.Cond.code z bytes' maxL ret').before a0 Z = true) (nf : ∀ s' : State, Z.Warmed39 s'.vm → NotFace s' y) (hy : y.cls ≠ "java/lang/invoke/MethodHandle" ∧ y.cls ≠ "java/lang/invoke/VarHandle")
    (E : Exa Z h a C) (K : Ct l z bytes' maxL ret' [] rm Z h n0 (.ref a :: argsL).toArray Q) (hf : rm.frames + 1 ≤ R.frames) (hl : W + (maxL + 11) + rm.locals ≤ R.locals) (hL : L.size = ml) (hst : st = argsL.reverse ++ .ref a :: rest) (hsig : parseMethodDescriptor y.desc = some ⟨ps, r'⟩) (hlen : argsL.length = ps.length) (hW : (rest.map fun v => v.category).sum ≤ W)
    (hd : decode bytes pc = .ok (.invokevirtual i, 3)) (hq : pc + 3 = q) (hc : cells + rm.cells ≤ R.cells) (hs : slots + rm.slots ≤ R.slots) (k : ∀ T' h' v, St p l e R s m args below meth c Z own bytes ml n0 ret nm T' h' (cells + rm.cells) (slots + rm.slots) → Q v h' → Wp p e below PO T' (mkF m q L (v.toList ++ rest))) : Wp p e below PO T (mkF m pc L st) := by
  subst hq
  obtain ⟨locs, X, N, eT, hx, hZ, hown, hby, hml, hlk, hn, hrt, hnm⟩ := S
  have hb0 := backOf (R := R) (s := s) (p := p) (e := e) (below := below) (args := args) (len := 3) (W := W) (Q := fun v h L => Q v h ∧ Fr n0 L) K hZ w4 w3 hf hl
  obtain ⟨cq, kq, qa, qb, qc⟩ := isOf hZ eT E
  obtain ⟨v, vm, ⟨T', L', k', n'⟩, hwm, X', ⟨Lc, hQ, l1, y1, z1⟩, st1⟩ := X.virtualBack hx (y := y) (z := z) hown (mvT hZ w1) (mvT hZ w2) (nf s hZ) (mvT hZ w5) (mvT hZ w6) hy hb0 qa qc (g := mkF m pc L st) rfl (by rw [hml]; exact hL) (Steps.refl _) (argsL := argsL) (rest := rest) (lenOf hsig hlen) hst (by show 2 * 0 + _ ≤ _; omega) (hb hby hd) (fun _ _ => ⟨rfl, eT, hc, hs⟩)
  dsimp only [Pt.U, Pt.locs, Pt.cells, Pt.slots] at X' l1 y1 z1 st1 hQ
  subst l1 y1 z1
  exact o_to (fun t r => st1.trans r) (k T' T'.heap v ⟨_, X', N.app hQ.2, rfl, hx, hZ, hown, hby, hml, hlk, hn, hrt, hnm⟩ hQ.1)
theorem o_nf {y : MethodName} {C : String} (w : (Jvm.Cond.selects C y y).before a0 Z = true) : ∀ s' : State, Z.Warmed39 s'.vm → NotFace s' y := fun s' hZ => notFace_of_selects (args := #[]) (mvT hZ w)
theorem o_callP (S : St p l e R s m args below meth c Z own bytes ml n0 ret nm T h cells slots) {i : Nat} {y : MethodName} {bytes' : ByteArray} {maxL : Nat} {ret' : Option FieldType} {rm : Room} {W : Nat} {argsL rest : List Value} {Q : Option Value → Heap → Prop} {ps : List FieldType} {r' : Option FieldType} {a : Addr}
    (w1 : (Jvm.Cond.methodLink own i y).before a0 Z = true) (w2 : (Jvm.Cond.instanceMethod y).before a0 Z = true) (w5 : (Jvm.Cond.selects y.cls y y).before a0 Z = true) (w6 : (Jvm.Cond.privateMethod y).before a0 Z = true) (w3 : (Jvm.Cond.initialized y.cls).before a0 Z = true) (w4 : (Jvm.Cond.code y bytes' maxL ret').before a0 Z = true) (hy : y.cls ≠ "java/lang/invoke/MethodHandle" ∧ y.cls ≠ "java/lang/invoke/VarHandle")
    (E : Exa Z h a y.cls) (K : Ct l y bytes' maxL ret' [] rm Z h n0 (.ref a :: argsL).toArray Q) (hf : rm.frames + 1 ≤ R.frames) (hl : W + (maxL + 11) + rm.locals ≤ R.locals) (hL : L.size = ml) (hst : st = argsL.reverse ++ .ref a :: rest) (hsig : parseMethodDescriptor y.desc = some ⟨ps, r'⟩) (hlen : argsL.length = ps.length) (hW : (rest.map fun v => v.category).sum ≤ W)
    (hd : decode bytes pc = .ok (.invokevirtual i, 3)) (hq : pc + 3 = q) (hc : cells + rm.cells ≤ R.cells) (hs : slots + rm.slots ≤ R.slots) (k : ∀ T' h' v, St p l e R s m args below meth c Z own bytes ml n0 ret nm T' h' (cells + rm.cells) (slots + rm.slots) → Q v h' → Wp p e below PO T' (mkF m q L (v.toList ++ rest))) : Wp p e below PO T (mkF m pc L st) := by
  subst hq
  obtain ⟨locs, X, N, eT, hx, hZ, hown, hby, hml, hlk, hn, hrt, hnm⟩ := S
  have hb0 := backOf (R := R) (s := s) (p := p) (e := e) (below := below) (args := args) (len := 3) (W := W) (Q := fun v h L => Q v h ∧ Fr n0 L) K hZ w4 w3 hf hl
  obtain ⟨cq, qa, qb⟩ := E.cell
  obtain ⟨v, vm, ⟨T', L', k', n'⟩, hwm, X', ⟨Lc, hQ, l1, y1, z1⟩, st1⟩ := X.privateBack hx (y := y) hown (mvT hZ w1) (mvT hZ w2) (mvT hZ w5) (Cond.privateMethod_at (mvP hZ w6 (args := #[]))) (mvT hZ w4) hy hb0 (g := mkF m pc L st) rfl (by rw [hml]; exact hL) (Steps.refl _) (a := a) (by rw [eT]; exact qa) qb (argsL := argsL) (rest := rest) (lenOf hsig hlen) hst (by show 2 * 0 + _ ≤ _; omega) (hb hby hd) (fun _ _ => ⟨rfl, eT, hc, hs⟩)
  dsimp only [Pt.U, Pt.locs, Pt.cells, Pt.slots] at X' l1 y1 z1 st1 hQ
  subst l1 y1 z1
  exact o_to (fun t r => st1.trans r) (k T' T'.heap v ⟨_, X', N.app hQ.2, rfl, hx, hZ, hown, hby, hml, hlk, hn, hrt, hnm⟩ hQ.1)
theorem o_callS0 (S : St p l e R s m args below meth c Z own bytes ml n0 ret nm T h cells slots) {i : Nat} {y : MethodName} {bytes' : ByteArray} {maxL : Nat} {ret' : Option FieldType} {rm : Room} {W : Nat} {argsL rest : List Value} {ps : List FieldType} {r' : Option FieldType} {st' : List Value} {r : Option Value} 
    (w1 : (Jvm.Cond.methodLink own i y).before a0 Z = true) (w2 : (Jvm.Cond.static y).before a0 Z = true) (w3 : (Jvm.Cond.initialized y.cls).before a0 Z = true) (w4 : (Jvm.Cond.code y bytes' maxL ret').before a0 Z = true) (hy : y.cls ≠ "java/lang/invoke/MethodHandle" ∧ y.cls ≠ "java/lang/invoke/VarHandle")
    (K : Ct l y bytes' maxL ret' [] rm Z h n0 argsL.toArray (Qp r h)) (hf : rm.frames + 1 ≤ R.frames) (hl : W + (maxL + 11) + rm.locals ≤ R.locals) (hL : L.size = ml) (hst : st = argsL.reverse ++ rest) (hsig : parseMethodDescriptor y.desc = some ⟨ps, r'⟩) (hlen : argsL.length = ps.length) (hW : (rest.map fun v => v.category).sum ≤ W)
    (hd : decode bytes pc = .ok (.invokestatic i, 3)) (hq : pc + 3 = q) (hc : cells + rm.cells ≤ R.cells) (hs : slots + rm.slots ≤ R.slots) (hst' : r.toList ++ rest = st') (k : ∀ T', St p l e R s m args below meth c Z own bytes ml n0 ret nm T' h (cells + rm.cells) (slots + rm.slots) → Wp p e below PO T' (mkF m q L st')) : Wp p e below PO T (mkF m pc L st) := by
  subst hst'
  exact o_callS S w1 w2 w3 w4 hy K hf hl hL hst hsig hlen hW hd hq hc hs (fun T' h' v S' hQ => by obtain ⟨hv, hh⟩ := hQ; subst hv; rw [hh] at S'; exact k T' S')
theorem o_callI0 (S : St p l e R s m args below meth c Z own bytes ml n0 ret nm T h cells slots) {i : Nat} {y : MethodName} {bytes' : ByteArray} {maxL : Nat} {rm : Room} {W : Nat} {argsL rest : List Value} {ps : List FieldType} {r' : Option FieldType} {st' : List Value} {r : Option Value} {a : Addr} (hy1 : y.name = "<init>")
    (w1 : (Jvm.Cond.methodLink own i y).before a0 Z = true) (w2 : (Jvm.Cond.instanceMethod y).before a0 Z = true) (w3 : (Jvm.Cond.initialized y.cls).before a0 Z = true) (w4 : (Jvm.Cond.code y bytes' maxL none).before a0 Z = true) (hy : y.cls ≠ "java/lang/invoke/MethodHandle" ∧ y.cls ≠ "java/lang/invoke/VarHandle")
    (K : Ct l y bytes' maxL none [] rm Z h n0 (.ref a :: argsL).toArray (Qp r h)) (hf : rm.frames + 1 ≤ R.frames) (hl : W + (maxL + 11) + rm.locals ≤ R.locals) (hL : L.size = ml) (hst : st = argsL.reverse ++ .ref a :: rest) (hsig : parseMethodDescriptor y.desc = some ⟨ps, r'⟩) (hlen : argsL.length = ps.length) (hW : (rest.map fun v => v.category).sum ≤ W)
    (hd : decode bytes pc = .ok (.invokespecial i, 3)) (hq : pc + 3 = q) (hc : cells + rm.cells ≤ R.cells) (hs : slots + rm.slots ≤ R.slots) (hst' : r.toList ++ rest = st') (k : ∀ T', St p l e R s m args below meth c Z own bytes ml n0 ret nm T' h (cells + rm.cells) (slots + rm.slots) → Wp p e below PO T' (mkF m q L st')) : Wp p e below PO T (mkF m pc L st) := by
  subst hst'
  exact o_callI S hy1 w1 w2 w3 w4 hy K hf hl hL hst hsig hlen hW hd hq hc hs (fun T' h' v S' hQ => by obtain ⟨hv, hh⟩ := hQ; subst hv; rw [hh] at S'; exact k T' S')
theorem o_callV0 (S : St p l e R s m args below meth c Z own bytes ml n0 ret nm T h cells slots) {i : Nat} {y : MethodName} {bytes' : ByteArray} {maxL : Nat} {ret' : Option FieldType} {rm : Room} {W : Nat} {argsL rest : List Value} {ps : List FieldType} {r' : Option FieldType} {st' : List Value} {r : Option Value} {a : Addr} {z : MethodName} {C : String}
    (w1 : (Jvm.Cond.methodLink own i y).before a0 Z = true) (w2 : (Jvm.Cond.declares y).before a0 Z = true) (w5 : (Jvm.Cond.selects C y z).before a0 Z = true) (w6 : (Jvm.Cond.instanceMethod z).before a0 Z = true) (w3 : (Jvm.Cond.initialized z.cls).before a0 Z = true) (w4 : (Jvm.Cond.code z bytes' maxL ret').before a0 Z = true) (nf : ∀ s' : State, Z.Warmed39 s'.vm → NotFace s' y) (hy : y.cls ≠ "java/lang/invoke/MethodHandle" ∧ y.cls ≠ "java/lang/invoke/VarHandle")
    (E : Exa Z h a C) (K : Ct l z bytes' maxL ret' [] rm Z h n0 (.ref a :: argsL).toArray (Qp r h)) (hf : rm.frames + 1 ≤ R.frames) (hl : W + (maxL + 11) + rm.locals ≤ R.locals) (hL : L.size = ml) (hst : st = argsL.reverse ++ .ref a :: rest) (hsig : parseMethodDescriptor y.desc = some ⟨ps, r'⟩) (hlen : argsL.length = ps.length) (hW : (rest.map fun v => v.category).sum ≤ W)
    (hd : decode bytes pc = .ok (.invokevirtual i, 3)) (hq : pc + 3 = q) (hc : cells + rm.cells ≤ R.cells) (hs : slots + rm.slots ≤ R.slots) (hst' : r.toList ++ rest = st') (k : ∀ T', St p l e R s m args below meth c Z own bytes ml n0 ret nm T' h (cells + rm.cells) (slots + rm.slots) → Wp p e below PO T' (mkF m q L st')) : Wp p e below PO T (mkF m pc L st) := by
  subst hst'
  exact o_callV S w1 w2 w5 w6 w3 w4 nf hy E K hf hl hL hst hsig hlen hW hd hq hc hs (fun T' h' v S' hQ => by obtain ⟨hv, hh⟩ := hQ; subst hv; rw [hh] at S'; exact k T' S')
theorem o_callP0 (S : St p l e R s m args below meth c Z own bytes ml n0 ret nm T h cells slots) {i : Nat} {y : MethodName} {bytes' : ByteArray} {maxL : Nat} {ret' : Option FieldType} {rm : Room} {W : Nat} {argsL rest : List Value} {ps : List FieldType} {r' : Option FieldType} {st' : List Value} {r : Option Value} {a : Addr}
    (w1 : (Jvm.Cond.methodLink own i y).before a0 Z = true) (w2 : (Jvm.Cond.instanceMethod y).before a0 Z = true) (w5 : (Jvm.Cond.selects y.cls y y).before a0 Z = true) (w6 : (Jvm.Cond.privateMethod y).before a0 Z = true) (w3 : (Jvm.Cond.initialized y.cls).before a0 Z = true) (w4 : (Jvm.Cond.code y bytes' maxL ret').before a0 Z = true) (hy : y.cls ≠ "java/lang/invoke/MethodHandle" ∧ y.cls ≠ "java/lang/invoke/VarHandle")
    (E : Exa Z h a y.cls) (K : Ct l y bytes' maxL ret' [] rm Z h n0 (.ref a :: argsL).toArray (Qp r h)) (hf : rm.frames + 1 ≤ R.frames) (hl : W + (maxL + 11) + rm.locals ≤ R.locals) (hL : L.size = ml) (hst : st = argsL.reverse ++ .ref a :: rest) (hsig : parseMethodDescriptor y.desc = some ⟨ps, r'⟩) (hlen : argsL.length = ps.length) (hW : (rest.map fun v => v.category).sum ≤ W)
    (hd : decode bytes pc = .ok (.invokevirtual i, 3)) (hq : pc + 3 = q) (hc : cells + rm.cells ≤ R.cells) (hs : slots + rm.slots ≤ R.slots) (hst' : r.toList ++ rest = st') (k : ∀ T', St p l e R s m args below meth c Z own bytes ml n0 ret nm T' h (cells + rm.cells) (slots + rm.slots) → Wp p e below PO T' (mkF m q L st')) : Wp p e below PO T (mkF m pc L st) := by
  subst hst'
  exact o_callP S w1 w2 w5 w6 w3 w4 hy E K hf hl hL hst hsig hlen hW hd hq hc hs (fun T' h' v S' hQ => by obtain ⟨hv, hh⟩ := hQ; subst hv; rw [hh] at S'; exact k T' S')
/-! the heap -/
theorem o_initO (S : St p l e R s m args below meth c Z own bytes ml n0 ret nm T h cells slots) {i W : Nat} {a : Addr} (w1 : (Jvm.Cond.methodLink own i Lib.objectInit).before a0 Z = true) (w2 : (Jvm.Cond.instanceMethod Lib.objectInit).before a0 Z = true) (w3 : (Jvm.Cond.code Lib.objectInit ⟨#[0xb1]⟩ 1 none).before a0 Z = true) (hL : L.size = ml) (hd : decode bytes pc = .ok (.invokespecial i, 3)) (hq : pc + 3 = q) (hf : 1 ≤ R.frames) (hW : (st.map fun v => v.category).sum ≤ W) (hl : W + 12 ≤ R.locals)
    (k : ∀ T', St p l e R s m args below meth c Z own bytes ml n0 ret nm T' h cells slots → Wp p e below PO T' (mkF m q L st)) : Wp p e below PO T (mkF m pc L (.ref a :: st)) := by
  subst hq
  obtain ⟨locs, X, N, eT, hx, hZ, hown, hby, hml, hlk, hn, hrt, hnm⟩ := S
  obtain ⟨T', X', e', st'⟩ := initO X hx hZ hown w1 w2 w3 eT (g := mkF m pc L (.ref a :: st)) rfl (by rw [hml]; exact hL) rfl (hb hby hd) hf (W := W) (by show 2 * 0 + _ ≤ _; omega) hl
  exact o_to st' (k T' ⟨_, X', N, e', hx, hZ, hown, hby, hml, hlk, hn, hrt, hnm⟩)
theorem o_getF (S : St p l e R s m args below meth c Z own bytes ml n0 ret nm T h cells slots) {i : Nat} {R0 O n d : String} {a : Addr} {v : Value} (w : (Jvm.Cond.fieldLink own i R0 n d).before a0 Z = true) (via : Via Z R0 O n d) (F : Fld Z h a O n d v) (hd : decode bytes pc = .ok (.getfield i, 3)) (hq : pc + 3 = q)
    (k : ∀ T', St p l e R s m args below meth c Z own bytes ml n0 ret nm T' h cells slots → Wp p e below PO T' (mkF m q L (v :: st))) : Wp p e below PO T (mkF m pc L (.ref a :: st)) := by
  subst hq
  obtain ⟨locs, X, N, eT, hx, hZ, hown, hby, hml, hlk, hn, hrt, hnm⟩ := S
  obtain ⟨T', X', e', st'⟩ := getF X hx hZ hown (host := "") (Or.inl w) via eT F (g := mkF m pc L (.ref a :: st)) rfl rfl (hb hby hd)
  exact o_to st' (k T' ⟨_, X', N, e', hx, hZ, hown, hby, hml, hlk, hn, hrt, hnm⟩)
theorem o_putF (S : St p l e R s m args below meth c Z own bytes ml n0 ret nm T h cells slots) {i kk : Nat} {R0 O n d C : String} {ty : FieldType} {a : Addr} {v old : Value} (w : (Jvm.Cond.fieldLink own i R0 n d).before a0 Z = true) (via : Via Z R0 O n d) (F : Fld Z h a O n d old) (E : Exa Z h a C) (Lw : (Jvm.Cond.lays C O n d).before a0 Z = true ∨ ((Jvm.Cond.laysFinal C O n d).before a0 Z = true ∧ own = O ∧ nm = "<init>")) (wi : (Jvm.Cond.instantiable C kk).before a0 Z = true) (hty : parseFieldDescriptor d = some ty) (hn' : narrow ty v = v) (hf : fits ty v = true) (ga : n0 ≤ a) (hd : decode bytes pc = .ok (.putfield i, 3)) (hq : pc + 3 = q)
    (k : ∀ T' h', St p l e R s m args below meth c Z own bytes ml n0 ret nm T' h' cells slots → Wr h h' a (Jvm.RoadKit.slotOf Z O n d) v → Fld Z h' a O n d v → Wp p e below PO T' (mkF m q L st)) : Wp p e below PO T (mkF m pc L (v :: .ref a :: st)) := by
  subst hq
  obtain ⟨locs, X, N, eT, hx, hZ, hown, hby, hml, hlk, hn, hrt, hnm⟩ := S
  obtain ⟨T', h', X', e', W', st'⟩ := putF X hx hZ hown (host := "") (Or.inl w) via eT F E (Lw.imp id fun q => ⟨q.1, q.2.1, by rw [hnm]; exact q.2.2⟩) wi hty hn' hf (g := mkF m pc L (v :: .ref a :: st)) rfl rfl (hb hby hd)
  exact o_to st' (k T' h' ⟨_, X', Fr.snoc X' N ga, e', hx, hZ, hown, hby, hml, hlk, hn, hrt, hnm⟩ W' (F.same W'))
theorem o_new (S : St p l e R s m args below meth c Z own bytes ml n0 ret nm T h cells slots) {i n : Nat} {C : String} (w : (Jvm.Cond.classLink own i C).before a0 Z = true) (wi : (Jvm.Cond.instantiable C n).before a0 Z = true) (wz : (Jvm.Cond.initialized C).before a0 Z = true) (hd : decode bytes pc = .ok (.new i, 3)) (hq : pc + 3 = q) (hc : cells + 1 ≤ R.cells) (hl : slots + n ≤ R.slots)
    (k : ∀ T' h' a, St p l e R s m args below meth c Z own bytes ml n0 ret nm T' h' (cells + 1) (slots + n) → a = h.size → n0 ≤ a → Ext h h' → Exa Z h' a C → (∀ {O nm d : String} {ty : FieldType}, Laid Z a0 C O nm d → parseFieldDescriptor d = some ty → Fld Z h' a O nm d (defaultValue ty)) → Wp p e below PO T' (mkF m q L (.ref a :: st))) : Wp p e below PO T (mkF m pc L st) := by
  have g0 := o_n0 S
  subst hq
  obtain ⟨locs, X, N, eT, hx, hZ, hown, hby, hml, hlk, hn, hrt, hnm⟩ := S
  obtain ⟨T', h', X', e', E', A', D', -, st'⟩ := newO X hx hZ hown w wi wz eT (g := mkF m pc L st) rfl (hb hby hd) hc hl
  exact o_to st' (k T' h' h.size ⟨_, X', N, e', hx, hZ, hown, hby, hml, hlk, hn, hrt, hnm⟩ rfl g0 E' A' D')
/-! arrays of ints (bytes, booleans ..): the list of what they hold -/
def IA (Z : State) (h : Heap) (a : Addr) (ty : FieldType) (xs : List Int32) : Prop := ∃ c : Cell, Arr Z h a c ty ∧ c.slots.size = xs.length ∧ xs.length < 2147483648 ∧ (∀ i, i < xs.length → c.slots[i]? = some (.int (xs.getD i 0))) ∧ ∀ i, i < xs.length → fits ty (.int (xs.getD i 0)) = true
theorem IA.lt {a : Addr} {ty : FieldType} {xs : List Int32} (F : IA Z h a ty xs) : a < h.size := by obtain ⟨c, A, -⟩ := F; exact A.lt
theorem IA.ext {h' : Heap} {a : Addr} {ty : FieldType} {xs : List Int32} (F : IA Z h a ty xs) (E : Ext h h') : IA Z h' a ty xs := by obtain ⟨c, A, r⟩ := F; exact ⟨c, A.ext E, r⟩
theorem IA.other {h' : Heap} {a b : Addr} {sl : Nat} {v : Value} {ty : FieldType} {xs : List Int32} (F : IA Z h b ty xs) (W : Wr h h' a sl v) (q : b ≠ a) : IA Z h' b ty xs := by obtain ⟨c, A, r⟩ := F; exact ⟨c, A.other W q, r⟩
theorem IA.keep {h' : Heap} {a : Addr} {ws : List Addr} {ty : FieldType} {xs : List Int32} (F : IA Z h a ty xs) (K : Keep h h' ws) (q : a ∉ ws) : IA Z h' a ty xs := by obtain ⟨c, A, r⟩ := F; exact ⟨c, ⟨K.2.1 a c A.1 q, A.2⟩, r⟩
theorem IA.len {a : Addr} {ty : FieldType} {xs : List Int32} (F : IA Z h a ty xs) : xs.length < 2147483648 := by obtain ⟨c, A, h1, h2, -⟩ := F; exact h2
theorem o_nat {j : Int32} (h0 : 0 ≤ j.toInt) : ¬ j < 0 ∧ (j.toNatClampNeg : Int) = j.toInt := by
  have h1 : ¬ j < 0 := fun q => by have := Int32.lt_iff_toInt_lt.mp q; have : (0 : Int32).toInt = 0 := rfl; omega
  exact ⟨h1, (nat_of h1).symm⟩
theorem o_inb {j : Int32} {n N : Nat} (h0 : 0 ≤ j.toInt) (h1 : j.toInt < n) (hN : N = n) : ¬ (j < 0 ∨ N ≤ j.toNatClampNeg) := by
  obtain ⟨g1, g2⟩ := o_nat h0
  rintro (q | q)
  · exact g1 q
  · omega
theorem IA.set {h' : Heap} {a : Addr} {ty : FieldType} {xs : List Int32} {j x : Int32} (F : IA Z h a ty xs) (W : Wr h h' a j.toNatClampNeg (.int x)) (hf : fits ty (.int x) = true) : IA Z h' a ty (xs.set j.toNatClampNeg x) := by
  obtain ⟨c, A, h1, h2, h3, h4⟩ := F
  refine ⟨c.setSlot j.toNatClampNeg (.int x), A.same W, by rw [sz_set, h1]; simp, by simpa using h2, fun i hi => ?_, fun i hi => ?_⟩
  · rw [List.length_set] at hi
    by_cases q : j.toNatClampNeg = i
    · subst q
      have : j.toNatClampNeg < c.slots.size := by rw [h1]; exact hi
      simp [Cell.setSlot, this, hi, List.getD_eq_getElem?_getD]
    · have := h3 i hi
      simp only [Cell.setSlot, Array.getElem?_setIfInBounds_ne q, this, List.getD_eq_getElem?_getD, List.getElem?_set_ne q]
  · rw [List.length_set] at hi
    by_cases q : j.toNatClampNeg = i
    · subst q; simpa [hi, List.getD_eq_getElem?_getD] using hf
    · have := h4 i hi
      simpa only [List.getD_eq_getElem?_getD, List.getElem?_set_ne q] using this
theorem IA.new {a : Addr} {ty : FieldType} {k : ClassId} {n : Int32} (A : Arr Z h a (newA k ty n) ty) (hn : ¬ n < 0) (hd : defaultValue ty = .int 0) (hf : fits ty (.int 0) = true) : IA Z h a ty (List.replicate n.toNatClampNeg 0) := by
  have := (back32 hn).2
  refine ⟨_, A, by simp [newA], by simpa using this, fun i hi => ?_, fun i hi => ?_⟩
  · have hi' : i < n.toNatClampNeg := by simpa using hi
    simp [newA, hd, hi', List.getD_eq_getElem?_getD]
  · have hi' : i < n.toNatClampNeg := by simpa using hi
    simpa [List.getD_eq_getElem?_getD, hi'] using hf
theorem o_newarr (S : St p l e R s m args below meth c Z own bytes ml n0 ret nm T h cells slots) {aty : ArrayType} {n : Int32} {cap : Nat} (w : (Jvm.Cond.arrayClass (newarray.typeOf aty)).before a0 Z = true) (hd : decode bytes pc = .ok (.newarray aty, 2)) (hq : pc + 2 = q) (hn0 : 0 ≤ n.toInt) (hcap : n.toInt ≤ cap) (hb8 : cap * 8 ≤ 536870912) (hc : cells + 1 ≤ R.cells) (hl : slots + cap ≤ R.slots)
    (k : ∀ T' h' a cA, St p l e R s m args below meth c Z own bytes ml n0 ret nm T' h' (cells + 1) (slots + cap) → a = h.size → n0 ≤ a → Ext h h' → Arr Z h' a (newA cA (newarray.typeOf aty) n) (newarray.typeOf aty) → Wp p e below PO T' (mkF m q L (.ref a :: st))) : Wp p e below PO T (mkF m pc L (.int n :: st)) := by
  have g0 := o_n0 S
  obtain ⟨g1, g2⟩ := o_nat hn0
  subst hq
  obtain ⟨locs, X, N, eT, hx, hZ, hown, hby, hml, hlk, hn, hrt, hnm⟩ := S
  obtain ⟨T', h', cA, X', e', E', A', st'⟩ := newP X hx hZ w eT (g := mkF m pc L (.int n :: st)) rfl (hb hby hd) rfl g1 (cap := cap) (by omega) hb8 hc hl
  exact o_to st' (k T' h' h.size cA ⟨_, X', N, e', hx, hZ, hown, hby, hml, hlk, hn, hrt, hnm⟩ rfl g0 E' A')
theorem o_iaload (S : St p l e R s m args below meth c Z own bytes ml n0 ret nm T h cells slots) {a : Addr} {j v : Int32} {xs : List Int32} (F : IA Z h a .int xs) (h0 : 0 ≤ j.toInt) (h1 : j.toInt < xs.length) (hv : xs.getD j.toNatClampNeg 0 = v) (hd : decode bytes pc = .ok (.iaload, 1)) (hq : pc + 1 = q) (k : Wp p e below PO T (mkF m q L (.int v :: st))) : Wp p e below PO T (mkF m pc L (.int j :: .ref a :: st)) := by
  subst hq hv
  obtain ⟨locs, X, N, eT, hx, hZ, hown, hby, hml, hlk, hn, hrt, hnm⟩ := S
  obtain ⟨cl, A, g1, g2, g3, g4⟩ := F
  have g5 := (o_nat h0).2
  exact o_to (X.iaload hx (j := j) (by rw [eT]; exact A.1) (State.isArrayOf_alike hZ.alike A.2.1) A.2.2 (o_inb h0 h1 g1) (g3 _ (by omega)) (g := mkF m pc L (.int j :: .ref a :: st)) rfl rfl (hb hby hd)) k
theorem o_baload (S : St p l e R s m args below meth c Z own bytes ml n0 ret nm T h cells slots) {a : Addr} {j v : Int32} {xs : List Int32} (F : IA Z h a .byte xs) (h0 : 0 ≤ j.toInt) (h1 : j.toInt < xs.length) (hv : xs.getD j.toNatClampNeg 0 = v) (hd : decode bytes pc = .ok (.baload, 1)) (hq : pc + 1 = q) (k : Wp p e below PO T (mkF m q L (.int v :: st))) : Wp p e below PO T (mkF m pc L (.int j :: .ref a :: st)) := by
  subst hq hv
  obtain ⟨locs, X, N, eT, hx, hZ, hown, hby, hml, hlk, hn, hrt, hnm⟩ := S
  obtain ⟨cl, A, g1, g2, g3, g4⟩ := F
  have g5 := (o_nat h0).2
  exact o_to (X.baloadBytes hx (j := j) (by rw [eT]; exact A.1) (State.isArrayOf_alike hZ.alike A.2.1) A.2.2 (o_inb h0 h1 g1) (g3 _ (by omega)) (g := mkF m pc L (.int j :: .ref a :: st)) rfl rfl (hb hby hd)) k
theorem o_iastore (S : St p l e R s m args below meth c Z own bytes ml n0 ret nm T h cells slots) {a : Addr} {j x y : Int32} {xs ys : List Int32} (F : IA Z h a .int xs) (h0 : 0 ≤ j.toInt) (h1 : j.toInt < xs.length) (ga : n0 ≤ a) (hx' : x = y) (hys : xs.set j.toNatClampNeg y = ys) (hd : decode bytes pc = .ok (.iastore, 1)) (hq : pc + 1 = q) (k : ∀ T' h', St p l e R s m args below meth c Z own bytes ml n0 ret nm T' h' cells slots → Wr h h' a j.toNatClampNeg (.int y) → IA Z h' a .int ys → Wp p e below PO T' (mkF m q L st)) : Wp p e below PO T (mkF m pc L (.int x :: .int j :: .ref a :: st)) := by
  subst hq hys hx'
  obtain ⟨locs, X, N, eT, hx, hZ, hown, hby, hml, hlk, hn, hrt, hnm⟩ := S
  have F' := F
  obtain ⟨cl, A, g1, g2, g3, g4⟩ := F
  obtain ⟨T', h', X', e', W', st'⟩ := stI X hx hZ eT A (j := j) (x := x) (o_inb h0 h1 g1) (g := mkF m pc L (.int x :: .int j :: .ref a :: st)) rfl rfl (hb hby hd)
  exact o_to st' (k T' h' ⟨_, X', Fr.snoc X' N ga, e', hx, hZ, hown, hby, hml, hlk, hn, hrt, hnm⟩ W' (F'.set W' rfl))
theorem o_bastore (S : St p l e R s m args below meth c Z own bytes ml n0 ret nm T h cells slots) {a : Addr} {j x y : Int32} {xs ys : List Int32} (F : IA Z h a .byte xs) (h0 : 0 ≤ j.toInt) (h1 : j.toInt < xs.length) (ga : n0 ≤ a) (hx' : x.toInt8.toInt32 = y) (hys : xs.set j.toNatClampNeg y = ys) (hd : decode bytes pc = .ok (.bastore, 1)) (hq : pc + 1 = q) (k : ∀ T' h', St p l e R s m args below meth c Z own bytes ml n0 ret nm T' h' cells slots → Wr h h' a j.toNatClampNeg (.int y) → IA Z h' a .byte ys → Wp p e below PO T' (mkF m q L st)) : Wp p e below PO T (mkF m pc L (.int x :: .int j :: .ref a :: st)) := by
  subst hq hys hx'
  obtain ⟨locs, X, N, eT, hx, hZ, hown, hby, hml, hlk, hn, hrt, hnm⟩ := S
  have F' := F
  obtain ⟨cl, A, g1, g2, g3, g4⟩ := F
  obtain ⟨T', h', X', e', W', st'⟩ := stB X hx hZ eT A (j := j) (x := x) (o_inb h0 h1 g1) (g := mkF m pc L (.int x :: .int j :: .ref a :: st)) rfl rfl (hb hby hd)
  exact o_to st' (k T' h' ⟨_, X', Fr.snoc X' N ga, e', hx, hZ, hown, hby, hml, hlk, hn, hrt, hnm⟩ W' (F'.set W' (fits_nar_byte x)))
theorem o_arraylength (S : St p l e R s m args below meth c Z own bytes ml n0 ret nm T h cells slots) {a : Addr} {ty : FieldType} {xs : List Int32} {z : Int32} (F : IA Z h a ty xs) (hz : Int32.ofNat xs.length = z) (hd : decode bytes pc = .ok (.arraylength, 1)) (hq : pc + 1 = q) (k : Wp p e below PO T (mkF m q L (.int z :: st))) : Wp p e below PO T (mkF m pc L (.ref a :: st)) := by
  subst hq hz
  obtain ⟨locs, X, N, eT, hx, hZ, hown, hby, hml, hlk, hn, hrt, hnm⟩ := S
  obtain ⟨cl, A, g1, g2, g3, g4⟩ := F
  exact o_to (X.arraylength hx (by rw [eT]; exact A.1) (State.isArrayOf_alike hZ.alike A.2.1) (g := mkF m pc L (.ref a :: st)) rfl rfl (hb hby hd)) (by rw [g1]; exact k)
theorem o_bid {x : Int32} (h1 : -128 ≤ x.toInt) (h2 : x.toInt < 128) : x.toInt8.toInt32 = x := by
  rw [← Int32.toInt_inj]; have := c_i2b x; omega
theorem o_cid {x : Int32} (h1 : 0 ≤ x.toInt) (h2 : x.toInt < 65536) : x.toUInt32.toUInt16.toUInt32.toInt32 = x := by
  rw [← Int32.toInt_inj]; have := c_i2c x; omega
theorem o_i2bb (x : Int32) : x.toInt8.toInt32.toInt8.toInt32 = x.toInt8.toInt32 := o_bid (c_i2b x).2.1 (c_i2b x).2.2
theorem o_narB {x : Int32} (h1 : -128 ≤ x.toInt) (h2 : x.toInt < 128) : narrow .byte (.int x) = .int x := by show Value.int _ = _; rw [o_bid h1 h2]
theorem o_narC {x : Int32} (h1 : 0 ≤ x.toInt) (h2 : x.toInt < 65536) : narrow .char (.int x) = .int x := by show Value.int _ = _; rw [o_cid h1 h2]
theorem o_narZ {x : Int32} (h : x = 0 ∨ x = 1) : narrow .boolean (.int x) = .int x := by rcases h with rfl | rfl <;> rfl
theorem o_split64 (x M m : Int64) (h1 : M ||| m = -1) (h0 : M &&& m = 0) : (x &&& M) ||| (x &&& m) = x ∧ (x &&& M) &&& m = 0 := by
  refine ⟨?_, by rw [Int64.and_assoc, h0, Int64.and_zero]⟩
  have q : x &&& (M ||| m) = (x &&& M) ||| (x &&& m) := Int64.toBitVec_inj.1 BitVec.and_or_distrib_left
  rw [← q, h1, Int64.and_neg_one]
theorem o_ne32 {x y : Int32} (h : x.toInt ≠ y.toInt) : x ≠ y := fun q => h (by rw [q])
theorem o_eq32 {x y : Int32} (h : x.toInt = y.toInt) : x = y := Int32.toInt_inj.mp h
end OwnPre
def hit (xs : List Int32) (v s : Int32) : Prop := xs.getD s.toNatClampNeg 0 = (-1 : Int32) ∨ xs.getD s.toNatClampNeg 0 = v
instance (xs : List Int32) (v s : Int32) : Decidable (hit xs v s) := by unfold hit; infer_instance
def prb (xs : List Int32) (v mk : Int32) : Nat → Int32 → Int32
  | 0, s => s
  | k + 1, s => if hit xs v s then s else prb xs v mk k ((s + 1) &&& mk)
def fnd (xs : List Int32) (v mk : Int32) : Nat → Int32 → Prop
  | 0, s => hit xs v s
  | k + 1, s => hit xs v s ∨ fnd xs v mk k ((s + 1) &&& mk)
def itr (mk : Int32) : Nat → Int32 → Int32
  | 0, s => s
  | t + 1, s => itr mk t ((s + 1) &&& mk)
theorem prb_hit {xs : List Int32} {v mk s : Int32} (k : Nat) (h : hit xs v s) : prb xs v mk k s = s := by
  cases k with
  | zero => rfl
  | succ k => rw [prb, if_pos h]
theorem prb_miss {xs : List Int32} {v mk s : Int32} {k : Nat} (h : ¬ hit xs v s) : prb xs v mk (k + 1) s = prb xs v mk k ((s + 1) &&& mk) := by rw [prb, if_neg h]
theorem fnd_itr {xs : List Int32} {v mk : Int32} : ∀ (t k : Nat) (s : Int32), t ≤ k → hit xs v (itr mk t s) → fnd xs v mk k s := by
  intro t
  induction t with
  | zero => intro k s _ h; cases k with
    | zero => exact h
    | succ k => exact Or.inl h
  | succ t ih => intro k s hk h; cases k with
    | zero => omega
    | succ k => exact Or.inr (ih k _ (by omega) h)
def s0F (v N : Int32) : Int32 := ((v * (-1640531527 : Int32)) ^^^ (((v * (-1640531527 : Int32)).toUInt32 >>> ((16 : Int32) &&& 31).toUInt32).toInt32)) &&& (N - (1 : Int32))
theorem own_n1 {N : Int32} (h1 : 1 ≤ N.toInt) : (N - (1 : Int32)).toInt = N.toInt - 1 := by
  have := c_isub N 1; have : (1 : Int32).toInt = 1 := rfl; have := rng32 (N - (1 : Int32)); have := rng32 N; omega
theorem own_mask {x N : Int32} {L : Nat} (h : N.toInt = L) (h1 : 1 ≤ N.toInt) : 0 ≤ (x &&& (N - (1 : Int32))).toInt ∧ (x &&& (N - (1 : Int32))).toInt < L := by
  have e := own_n1 h1
  have q := c_and x (N - (1 : Int32)) (by omega)
  omega
def frL (k : Int32) : List Int32 := if k = (0 : Int32) then [-1, -1] else (if k = (1 : Int32) then [-1, -1, -1, -1] else [-1, -1, -1, -1, -1, -1, -1, -1])
def plF (p1 p2 p3 p4 p5 p6 p7 : Int32) (xs : List Int32) : List Int32 := if p2.toInt ≤ p1.toInt then xs else (if (((p3.toUInt32 >>> (((2 : Int32) + p1) &&& 31).toUInt32).toInt32) &&& (1 : Int32)) = (0 : Int32) then xs else xs.set ((p5 + (((p4.toUInt32 >>> (((3 : Int32) * p1) &&& 31).toUInt32).toInt32) &&& p6)) &&& p6).toNatClampNeg p7)
def frc (xs : List Int32) : Nat := xs.countP (fun x => x == (-1 : Int32))
theorem frc_set (m : Int32) : ∀ (xs : List Int32) (i : Nat), frc xs ≤ frc (xs.set i m) + 1 := by
  intro xs
  induction xs with
  | nil => intro i; simp [frc]
  | cons x xs ih =>
    intro i
    cases i with
    | zero => simp only [frc, List.set_cons_zero, List.countP_cons]; split <;> split <;> omega
    | succ i => have := ih i; simp only [frc, List.set_cons_succ, List.countP_cons] at this ⊢; omega
theorem frc_pos : ∀ (xs : List Int32), 1 ≤ frc xs → ∃ j, j < xs.length ∧ xs.getD j 0 = (-1 : Int32) := by
  intro xs
  induction xs with
  | nil => intro h; simp [frc] at h
  | cons x xs ih =>
    intro h
    by_cases e : x = (-1 : Int32)
    · exact ⟨0, by simp, by simpa using e⟩
    · have q : 1 ≤ frc xs := by simp only [frc, List.countP_cons, beq_iff_eq] at h ⊢; rw [if_neg e] at h; exact h
      obtain ⟨j, h1, h2⟩ := ih q
      exact ⟨j + 1, by simpa using h1, by simpa using h2⟩
theorem pl_len {p1 p2 p3 p4 p5 p6 p7 : Int32} {xs : List Int32} : (plF p1 p2 p3 p4 p5 p6 p7 xs).length = xs.length := by
  unfold plF; split; · rfl
  split <;> simp
theorem pl_frc {p1 p2 p3 p4 p5 p6 p7 : Int32} {xs : List Int32} : frc xs ≤ frc (plF p1 p2 p3 p4 p5 p6 p7 xs) + 1 := by
  unfold plF; split; · omega
  split; · omega
  exact frc_set _ _ _
theorem pl_skip {p1 p2 p3 p4 p5 p6 p7 : Int32} {xs : List Int32} (h : p2.toInt ≤ p1.toInt) : plF p1 p2 p3 p4 p5 p6 p7 xs = xs := by rw [plF, if_pos h]
def Q_1 (Z : State) (p0 : Int32) (h0 : Heap) (n0 : Nat) : Option Value → Heap → Prop := fun v h => ∃ b : Addr, n0 ≤ b ∧ h0.size ≤ b ∧ v = some (.ref b) ∧ Keep h0 h [] ∧ IA Z h b .int (frL p0)
theorem d1_0 : decode method_3_code 0 = .ok (.iload_n 0, 1) := by decide +kernel
theorem d1_1 : decode method_3_code 1 = .ok (.ifCond .ne 15, 3) := by decide +kernel
theorem d1_4 : decode method_3_code 4 = .ok (.iconst 2, 1) := by decide +kernel
theorem d1_5 : decode method_3_code 5 = .ok (.newarray .int, 2) := by decide +kernel
theorem d1_7 : decode method_3_code 7 = .ok (.dup, 1) := by decide +kernel
theorem d1_8 : decode method_3_code 8 = .ok (.iconst 0, 1) := by decide +kernel
theorem d1_9 : decode method_3_code 9 = .ok (.iconst (-1), 1) := by decide +kernel
theorem d1_10 : decode method_3_code 10 = .ok (.iastore, 1) := by decide +kernel
theorem d1_11 : decode method_3_code 11 = .ok (.dup, 1) := by decide +kernel
theorem d1_12 : decode method_3_code 12 = .ok (.iconst 1, 1) := by decide +kernel
theorem d1_13 : decode method_3_code 13 = .ok (.iconst (-1), 1) := by decide +kernel
theorem d1_14 : decode method_3_code 14 = .ok (.iastore, 1) := by decide +kernel
theorem d1_15 : decode method_3_code 15 = .ok (.areturn, 1) := by decide +kernel
theorem d1_16 : decode method_3_code 16 = .ok (.iload_n 0, 1) := by decide +kernel
theorem d1_17 : decode method_3_code 17 = .ok (.iconst 1, 1) := by decide +kernel
theorem d1_18 : decode method_3_code 18 = .ok (.if_icmp .ne 23, 3) := by decide +kernel
theorem d1_21 : decode method_3_code 21 = .ok (.iconst 4, 1) := by decide +kernel
theorem d1_22 : decode method_3_code 22 = .ok (.newarray .int, 2) := by decide +kernel
theorem d1_24 : decode method_3_code 24 = .ok (.dup, 1) := by decide +kernel
theorem d1_25 : decode method_3_code 25 = .ok (.iconst 0, 1) := by decide +kernel
theorem d1_26 : decode method_3_code 26 = .ok (.iconst (-1), 1) := by decide +kernel
theorem d1_27 : decode method_3_code 27 = .ok (.iastore, 1) := by decide +kernel
theorem d1_28 : decode method_3_code 28 = .ok (.dup, 1) := by decide +kernel
theorem d1_29 : decode method_3_code 29 = .ok (.iconst 1, 1) := by decide +kernel
theorem d1_30 : decode method_3_code 30 = .ok (.iconst (-1), 1) := by decide +kernel
theorem d1_31 : decode method_3_code 31 = .ok (.iastore, 1) := by decide +kernel
theorem d1_32 : decode method_3_code 32 = .ok (.dup, 1) := by decide +kernel
theorem d1_33 : decode method_3_code 33 = .ok (.iconst 2, 1) := by decide +kernel
theorem d1_34 : decode method_3_code 34 = .ok (.iconst (-1), 1) := by decide +kernel
theorem d1_35 : decode method_3_code 35 = .ok (.iastore, 1) := by decide +kernel
theorem d1_36 : decode method_3_code 36 = .ok (.dup, 1) := by decide +kernel
theorem d1_37 : decode method_3_code 37 = .ok (.iconst 3, 1) := by decide +kernel
theorem d1_38 : decode method_3_code 38 = .ok (.iconst (-1), 1) := by decide +kernel
theorem d1_39 : decode method_3_code 39 = .ok (.iastore, 1) := by decide +kernel
theorem d1_40 : decode method_3_code 40 = .ok (.areturn, 1) := by decide +kernel
theorem d1_41 : decode method_3_code 41 = .ok (.bipush 8, 2) := by decide +kernel
theorem d1_43 : decode method_3_code 43 = .ok (.newarray .int, 2) := by decide +kernel
theorem d1_45 : decode method_3_code 45 = .ok (.dup, 1) := by decide +kernel
theorem d1_46 : decode method_3_code 46 = .ok (.iconst 0, 1) := by decide +kernel
theorem d1_47 : decode method_3_code 47 = .ok (.iconst (-1), 1) := by decide +kernel
theorem d1_48 : decode method_3_code 48 = .ok (.iastore, 1) := by decide +kernel
theorem d1_49 : decode method_3_code 49 = .ok (.dup, 1) := by decide +kernel
theorem d1_50 : decode method_3_code 50 = .ok (.iconst 1, 1) := by decide +kernel
theorem d1_51 : decode method_3_code 51 = .ok (.iconst (-1), 1) := by decide +kernel
theorem d1_52 : decode method_3_code 52 = .ok (.iastore, 1) := by decide +kernel
theorem d1_53 : decode method_3_code 53 = .ok (.dup, 1) := by decide +kernel
theorem d1_54 : decode method_3_code 54 = .ok (.iconst 2, 1) := by decide +kernel
theorem d1_55 : decode method_3_code 55 = .ok (.iconst (-1), 1) := by decide +kernel
theorem d1_56 : decode method_3_code 56 = .ok (.iastore, 1) := by decide +kernel
theorem d1_57 : decode method_3_code 57 = .ok (.dup, 1) := by decide +kernel
theorem d1_58 : decode method_3_code 58 = .ok (.iconst 3, 1) := by decide +kernel
theorem d1_59 : decode method_3_code 59 = .ok (.iconst (-1), 1) := by decide +kernel
theorem d1_60 : decode method_3_code 60 = .ok (.iastore, 1) := by decide +kernel
theorem d1_61 : decode method_3_code 61 = .ok (.dup, 1) := by decide +kernel
theorem d1_62 : decode method_3_code 62 = .ok (.iconst 4, 1) := by decide +kernel
theorem d1_63 : decode method_3_code 63 = .ok (.iconst (-1), 1) := by decide +kernel
theorem d1_64 : decode method_3_code 64 = .ok (.iastore, 1) := by decide +kernel
theorem d1_65 : decode method_3_code 65 = .ok (.dup, 1) := by decide +kernel
theorem d1_66 : decode method_3_code 66 = .ok (.iconst 5, 1) := by decide +kernel
theorem d1_67 : decode method_3_code 67 = .ok (.iconst (-1), 1) := by decide +kernel
theorem d1_68 : decode method_3_code 68 = .ok (.iastore, 1) := by decide +kernel
theorem d1_69 : decode method_3_code 69 = .ok (.dup, 1) := by decide +kernel
theorem d1_70 : decode method_3_code 70 = .ok (.bipush 6, 2) := by decide +kernel
theorem d1_72 : decode method_3_code 72 = .ok (.iconst (-1), 1) := by decide +kernel
theorem d1_73 : decode method_3_code 73 = .ok (.iastore, 1) := by decide +kernel
theorem d1_74 : decode method_3_code 74 = .ok (.dup, 1) := by decide +kernel
theorem d1_75 : decode method_3_code 75 = .ok (.bipush 7, 2) := by decide +kernel
theorem d1_77 : decode method_3_code 77 = .ok (.iconst (-1), 1) := by decide +kernel
theorem d1_78 : decode method_3_code 78 = .ok (.iastore, 1) := by decide +kernel
theorem d1_79 : decode method_3_code 79 = .ok (.areturn, 1) := by decide +kernel
def rm_1 : Room := ({ frames := 0, cells := 3, slots := 14, locals := 0 } : Room)
theorem pn_1 : plainFor (⟨"com/example/dioscuri/dioscuri/ints/IntSetSlotOfPinLaw", "freeSlots", "(I)[I"⟩ : MethodName) = true := plainFor_of_name (by first | (simp [plainName, overriddenIn]; done) | (simp [plainName, overriddenIn, x]; done) | decide +kernel)
theorem ef_1 (p0 : Int32) (m : MethodId) : entryFrame m #[(.int p0)] 1 = mkF m 0 #[.val (.int p0)] [] := by first | (simp [entryFrame, mkF, argsToLocals, Value.category]; done) | rfl
set_option maxRecDepth 65536 in
set_option maxHeartbeats 40000000 in
theorem ct_1 (l : Launch) (Z : State) (a0 : Array Value) (hw : ∀ d ∈ tables_1, d.before a0 Z = true) (p0 : Int32) (h0 : Heap) (n0 : Nat) (hn : n0 ≤ h0.size) : Ct l (⟨"com/example/dioscuri/dioscuri/ints/IntSetSlotOfPinLaw", "freeSlots", "(I)[I"⟩ : MethodName) method_3_code 1 (some (.array .int)) [] rm_1 Z h0 n0 #[(.int p0)] (Q_1 Z p0 h0 n0) := by
  refine o_body pn_1 hn (ef_1 p0) ?_
  intro p e s m below meth c T S
  have K : Keep h0 h0 [] := Keep.refl _ _
  refine o_iloadN S rfl d1_0 rfl (q := 1) ?_
  refine o_if S d1_1 (by decide) (q' := 16) (by decide) (q := 4) rfl hs_ne.1 hs_ne.2 (fun hc1 => ?_) (fun hc1 => ?_)
  · skip
    refine o_iloadN S rfl d1_16 rfl (q := 17) ?_
    refine o_iconst S (z := 1) rfl d1_17 rfl (q := 18) ?_
    refine o_icmp S d1_18 (by decide) (q' := 41) (by decide) (q := 21) rfl hs_ne.1 hs_ne.2 (fun hc18 => ?_) (fun hc18 => ?_)
    · skip
      refine o_bipush S (z := 8) rfl d1_41 rfl (q := 43) ?_
      refine o_newarr S (cap := 8) (o_wd (i := 5) hw rfl) d1_43 rfl (q := 45) (by decide) (by decide) (by decide) (by decide) (by decide) (fun T h2 b1 kA_b1 S ha_b1 g_b1 X A0 => ?_)
      have sz_b1 : h0.size ≤ b1 := by rw [ha_b1]; exact K.1
      have K := K.ext X
      have A_b1 : IA Z h2 b1 .int ([0, 0, 0, 0, 0, 0, 0, 0]) := IA.new A0 (by decide) rfl rfl
      refine o_dup S rfl d1_45 rfl (q := 46) ?_
      refine o_iconst S (z := 0) rfl d1_46 rfl (q := 47) ?_
      refine o_iconst S (z := -1) rfl d1_47 rfl (q := 48) ?_
      refine o_iastore S (y := (-1 : Int32)) (ys := [(-1 : Int32), 0, 0, 0, 0, 0, 0, 0]) A_b1 (by decide) (by show (0 : Int) < 8; decide) g_b1 rfl rfl d1_48 rfl (q := 49) (fun T h3 S W A_b1 => ?_)
      have K := K.wr W (Or.inr sz_b1)
      refine o_dup S rfl d1_49 rfl (q := 50) ?_
      refine o_iconst S (z := 1) rfl d1_50 rfl (q := 51) ?_
      refine o_iconst S (z := -1) rfl d1_51 rfl (q := 52) ?_
      refine o_iastore S (y := (-1 : Int32)) (ys := [(-1 : Int32), (-1 : Int32), 0, 0, 0, 0, 0, 0]) A_b1 (by decide) (by show (1 : Int) < 8; decide) g_b1 rfl rfl d1_52 rfl (q := 53) (fun T h4 S W A_b1 => ?_)
      have K := K.wr W (Or.inr sz_b1)
      refine o_dup S rfl d1_53 rfl (q := 54) ?_
      refine o_iconst S (z := 2) rfl d1_54 rfl (q := 55) ?_
      refine o_iconst S (z := -1) rfl d1_55 rfl (q := 56) ?_
      refine o_iastore S (y := (-1 : Int32)) (ys := [(-1 : Int32), (-1 : Int32), (-1 : Int32), 0, 0, 0, 0, 0]) A_b1 (by decide) (by show (2 : Int) < 8; decide) g_b1 rfl rfl d1_56 rfl (q := 57) (fun T h5 S W A_b1 => ?_)
      have K := K.wr W (Or.inr sz_b1)
      refine o_dup S rfl d1_57 rfl (q := 58) ?_
      refine o_iconst S (z := 3) rfl d1_58 rfl (q := 59) ?_
      refine o_iconst S (z := -1) rfl d1_59 rfl (q := 60) ?_
      refine o_iastore S (y := (-1 : Int32)) (ys := [(-1 : Int32), (-1 : Int32), (-1 : Int32), (-1 : Int32), 0, 0, 0, 0]) A_b1 (by decide) (by show (3 : Int) < 8; decide) g_b1 rfl rfl d1_60 rfl (q := 61) (fun T h6 S W A_b1 => ?_)
      have K := K.wr W (Or.inr sz_b1)
      refine o_dup S rfl d1_61 rfl (q := 62) ?_
      refine o_iconst S (z := 4) rfl d1_62 rfl (q := 63) ?_
      refine o_iconst S (z := -1) rfl d1_63 rfl (q := 64) ?_
      refine o_iastore S (y := (-1 : Int32)) (ys := [(-1 : Int32), (-1 : Int32), (-1 : Int32), (-1 : Int32), (-1 : Int32), 0, 0, 0]) A_b1 (by decide) (by show (4 : Int) < 8; decide) g_b1 rfl rfl d1_64 rfl (q := 65) (fun T h7 S W A_b1 => ?_)
      have K := K.wr W (Or.inr sz_b1)
      refine o_dup S rfl d1_65 rfl (q := 66) ?_
      refine o_iconst S (z := 5) rfl d1_66 rfl (q := 67) ?_
      refine o_iconst S (z := -1) rfl d1_67 rfl (q := 68) ?_
      refine o_iastore S (y := (-1 : Int32)) (ys := [(-1 : Int32), (-1 : Int32), (-1 : Int32), (-1 : Int32), (-1 : Int32), (-1 : Int32), 0, 0]) A_b1 (by decide) (by show (5 : Int) < 8; decide) g_b1 rfl rfl d1_68 rfl (q := 69) (fun T h8 S W A_b1 => ?_)
      have K := K.wr W (Or.inr sz_b1)
      refine o_dup S rfl d1_69 rfl (q := 70) ?_
      refine o_bipush S (z := 6) rfl d1_70 rfl (q := 72) ?_
      refine o_iconst S (z := -1) rfl d1_72 rfl (q := 73) ?_
      refine o_iastore S (y := (-1 : Int32)) (ys := [(-1 : Int32), (-1 : Int32), (-1 : Int32), (-1 : Int32), (-1 : Int32), (-1 : Int32), (-1 : Int32), 0]) A_b1 (by decide) (by show (6 : Int) < 8; decide) g_b1 rfl rfl d1_73 rfl (q := 74) (fun T h9 S W A_b1 => ?_)
      have K := K.wr W (Or.inr sz_b1)
      refine o_dup S rfl d1_74 rfl (q := 75) ?_
      refine o_bipush S (z := 7) rfl d1_75 rfl (q := 77) ?_
      refine o_iconst S (z := -1) rfl d1_77 rfl (q := 78) ?_
      refine o_iastore S (y := (-1 : Int32)) (ys := [(-1 : Int32), (-1 : Int32), (-1 : Int32), (-1 : Int32), (-1 : Int32), (-1 : Int32), (-1 : Int32), (-1 : Int32)]) A_b1 (by decide) (by show (7 : Int) < 8; decide) g_b1 rfl rfl d1_78 rfl (q := 79) (fun T h10 S W A_b1 => ?_)
      have K := K.wr W (Or.inr sz_b1)
      refine o_retR S (t := (.array .int)) rfl rfl rfl rfl d1_79 (by decide) (by decide) ?_
      exact ⟨b1, g_b1, sz_b1, rfl, K, by rw [frL, if_neg hc1, if_neg hc18]; exact A_b1⟩
    · skip
      refine o_iconst S (z := 4) rfl d1_21 rfl (q := 22) ?_
      refine o_newarr S (cap := 4) (o_wd (i := 5) hw rfl) d1_22 rfl (q := 24) (by decide) (by decide) (by decide) (by decide) (by decide) (fun T h12 b11 kA_b11 S ha_b11 g_b11 X A0 => ?_)
      have sz_b11 : h0.size ≤ b11 := by rw [ha_b11]; exact K.1
      have K := K.ext X
      have A_b11 : IA Z h12 b11 .int ([0, 0, 0, 0]) := IA.new A0 (by decide) rfl rfl
      refine o_dup S rfl d1_24 rfl (q := 25) ?_
      refine o_iconst S (z := 0) rfl d1_25 rfl (q := 26) ?_
      refine o_iconst S (z := -1) rfl d1_26 rfl (q := 27) ?_
      refine o_iastore S (y := (-1 : Int32)) (ys := [(-1 : Int32), 0, 0, 0]) A_b11 (by decide) (by show (0 : Int) < 4; decide) g_b11 rfl rfl d1_27 rfl (q := 28) (fun T h13 S W A_b11 => ?_)
      have K := K.wr W (Or.inr sz_b11)
      refine o_dup S rfl d1_28 rfl (q := 29) ?_
      refine o_iconst S (z := 1) rfl d1_29 rfl (q := 30) ?_
      refine o_iconst S (z := -1) rfl d1_30 rfl (q := 31) ?_
      refine o_iastore S (y := (-1 : Int32)) (ys := [(-1 : Int32), (-1 : Int32), 0, 0]) A_b11 (by decide) (by show (1 : Int) < 4; decide) g_b11 rfl rfl d1_31 rfl (q := 32) (fun T h14 S W A_b11 => ?_)
      have K := K.wr W (Or.inr sz_b11)
      refine o_dup S rfl d1_32 rfl (q := 33) ?_
      refine o_iconst S (z := 2) rfl d1_33 rfl (q := 34) ?_
      refine o_iconst S (z := -1) rfl d1_34 rfl (q := 35) ?_
      refine o_iastore S (y := (-1 : Int32)) (ys := [(-1 : Int32), (-1 : Int32), (-1 : Int32), 0]) A_b11 (by decide) (by show (2 : Int) < 4; decide) g_b11 rfl rfl d1_35 rfl (q := 36) (fun T h15 S W A_b11 => ?_)
      have K := K.wr W (Or.inr sz_b11)
      refine o_dup S rfl d1_36 rfl (q := 37) ?_
      refine o_iconst S (z := 3) rfl d1_37 rfl (q := 38) ?_
      refine o_iconst S (z := -1) rfl d1_38 rfl (q := 39) ?_
      refine o_iastore S (y := (-1 : Int32)) (ys := [(-1 : Int32), (-1 : Int32), (-1 : Int32), (-1 : Int32)]) A_b11 (by decide) (by show (3 : Int) < 4; decide) g_b11 rfl rfl d1_39 rfl (q := 40) (fun T h16 S W A_b11 => ?_)
      have K := K.wr W (Or.inr sz_b11)
      refine o_retR S (t := (.array .int)) rfl rfl rfl rfl d1_40 (by decide) (by decide) ?_
      exact ⟨b11, g_b11, sz_b11, rfl, K, by rw [frL, if_neg hc1, if_pos (Decidable.not_not.mp hc18)]; exact A_b11⟩
  · skip
    refine o_iconst S (z := 2) rfl d1_4 rfl (q := 5) ?_
    refine o_newarr S (cap := 2) (o_wd (i := 5) hw rfl) d1_5 rfl (q := 7) (by decide) (by decide) (by decide) (by decide) (by decide) (fun T h18 b17 kA_b17 S ha_b17 g_b17 X A0 => ?_)
    have sz_b17 : h0.size ≤ b17 := by rw [ha_b17]; exact K.1
    have K := K.ext X
    have A_b17 : IA Z h18 b17 .int ([0, 0]) := IA.new A0 (by decide) rfl rfl
    refine o_dup S rfl d1_7 rfl (q := 8) ?_
    refine o_iconst S (z := 0) rfl d1_8 rfl (q := 9) ?_
    refine o_iconst S (z := -1) rfl d1_9 rfl (q := 10) ?_
    refine o_iastore S (y := (-1 : Int32)) (ys := [(-1 : Int32), 0]) A_b17 (by decide) (by show (0 : Int) < 2; decide) g_b17 rfl rfl d1_10 rfl (q := 11) (fun T h19 S W A_b17 => ?_)
    have K := K.wr W (Or.inr sz_b17)
    refine o_dup S rfl d1_11 rfl (q := 12) ?_
    refine o_iconst S (z := 1) rfl d1_12 rfl (q := 13) ?_
    refine o_iconst S (z := -1) rfl d1_13 rfl (q := 14) ?_
    refine o_iastore S (y := (-1 : Int32)) (ys := [(-1 : Int32), (-1 : Int32)]) A_b17 (by decide) (by show (1 : Int) < 2; decide) g_b17 rfl rfl d1_14 rfl (q := 15) (fun T h20 S W A_b17 => ?_)
    have K := K.wr W (Or.inr sz_b17)
    refine o_retR S (t := (.array .int)) rfl rfl rfl rfl d1_15 (by decide) (by decide) ?_
    exact ⟨b17, g_b17, sz_b17, rfl, K, by rw [frL, if_pos (Decidable.not_not.mp hc1)]; exact A_b17⟩
theorem d2_0 : decode prog_60_method_8_code 0 = .ok (.aload_n 1, 1) := by decide +kernel
theorem d2_1 : decode prog_60_method_8_code 1 = .ok (.arraylength, 1) := by decide +kernel
theorem d2_2 : decode prog_60_method_8_code 2 = .ok (.iconst 1, 1) := by decide +kernel
theorem d2_3 : decode prog_60_method_8_code 3 = .ok (.isub, 1) := by decide +kernel
theorem d2_4 : decode prog_60_method_8_code 4 = .ok (.istore_n 2, 1) := by decide +kernel
theorem d2_5 : decode prog_60_method_8_code 5 = .ok (.iload_n 0, 1) := by decide +kernel
theorem d2_6 : decode prog_60_method_8_code 6 = .ok (.ldc 36, 2) := by decide +kernel
theorem d2_8 : decode prog_60_method_8_code 8 = .ok (.imul, 1) := by decide +kernel
theorem d2_9 : decode prog_60_method_8_code 9 = .ok (.istore_n 3, 1) := by decide +kernel
theorem d2_10 : decode prog_60_method_8_code 10 = .ok (.iload_n 3, 1) := by decide +kernel
theorem d2_11 : decode prog_60_method_8_code 11 = .ok (.iload_n 3, 1) := by decide +kernel
theorem d2_12 : decode prog_60_method_8_code 12 = .ok (.bipush 16, 2) := by decide +kernel
theorem d2_14 : decode prog_60_method_8_code 14 = .ok (.iushr, 1) := by decide +kernel
theorem d2_15 : decode prog_60_method_8_code 15 = .ok (.ixor, 1) := by decide +kernel
theorem d2_16 : decode prog_60_method_8_code 16 = .ok (.iload_n 2, 1) := by decide +kernel
theorem d2_17 : decode prog_60_method_8_code 17 = .ok (.iand, 1) := by decide +kernel
theorem d2_18 : decode prog_60_method_8_code 18 = .ok (.istore 4, 2) := by decide +kernel
theorem d2_20 : decode prog_60_method_8_code 20 = .ok (.aload_n 1, 1) := by decide +kernel
theorem d2_21 : decode prog_60_method_8_code 21 = .ok (.iload 4, 2) := by decide +kernel
theorem d2_23 : decode prog_60_method_8_code 23 = .ok (.iaload, 1) := by decide +kernel
theorem d2_24 : decode prog_60_method_8_code 24 = .ok (.iconst (-1), 1) := by decide +kernel
theorem d2_25 : decode prog_60_method_8_code 25 = .ok (.if_icmp .eq 22, 3) := by decide +kernel
theorem d2_28 : decode prog_60_method_8_code 28 = .ok (.aload_n 1, 1) := by decide +kernel
theorem d2_29 : decode prog_60_method_8_code 29 = .ok (.iload 4, 2) := by decide +kernel
theorem d2_31 : decode prog_60_method_8_code 31 = .ok (.iaload, 1) := by decide +kernel
theorem d2_32 : decode prog_60_method_8_code 32 = .ok (.iload_n 0, 1) := by decide +kernel
theorem d2_33 : decode prog_60_method_8_code 33 = .ok (.if_icmp .eq 14, 3) := by decide +kernel
theorem d2_36 : decode prog_60_method_8_code 36 = .ok (.iload 4, 2) := by decide +kernel
theorem d2_38 : decode prog_60_method_8_code 38 = .ok (.iconst 1, 1) := by decide +kernel
theorem d2_39 : decode prog_60_method_8_code 39 = .ok (.iadd, 1) := by decide +kernel
theorem d2_40 : decode prog_60_method_8_code 40 = .ok (.iload_n 2, 1) := by decide +kernel
theorem d2_41 : decode prog_60_method_8_code 41 = .ok (.iand, 1) := by decide +kernel
theorem d2_42 : decode prog_60_method_8_code 42 = .ok (.istore 4, 2) := by decide +kernel
theorem d2_44 : decode prog_60_method_8_code 44 = .ok (.goto (-24), 3) := by decide +kernel
theorem d2_47 : decode prog_60_method_8_code 47 = .ok (.iload 4, 2) := by decide +kernel
theorem d2_49 : decode prog_60_method_8_code 49 = .ok (.ireturn, 1) := by decide +kernel
def rm_2 : Room := ({ frames := 0, cells := 0, slots := 0, locals := 0 } : Room)
theorem pn_2 : plainFor (⟨"com/example/dioscuri/dioscuri/ints/IntSet", "slotOf", "(I[I)I"⟩ : MethodName) = true := plainFor_of_name (by first | (simp [plainName, overriddenIn]; done) | (simp [plainName, overriddenIn, x]; done) | decide +kernel)
theorem ef_2 (p0 : Int32) (r1 : Addr) (m : MethodId) : entryFrame m #[(.int p0), (.ref r1)] 5 = mkF m 0 #[.val (.int p0), .val (.ref r1), .unset, .unset, .unset] [] := by first | (simp [entryFrame, mkF, argsToLocals, Value.category]; done) | rfl
set_option maxRecDepth 65536 in
set_option maxHeartbeats 40000000 in
theorem lp_so (l : Launch) (Z : State) (a0 : Array Value) (hw : ∀ d ∈ tables_1, d.before a0 Z = true) (p0 : Int32) (r1 : Addr) (xs : List Int32) (N : Int32) (k0 : Nat) (h0 : Heap) (n0 : Nat) (hn : n0 ≤ h0.size) (A_r1 : IA Z h0 r1 .int xs) (hN : Int32.ofNat xs.length = N) (hNl : N.toInt = xs.length) (hN0 : 1 ≤ N.toInt) (hf : fnd xs p0 (N - (1 : Int32)) k0 (s0F p0 N)) {p : Program} {e : Env} {s : State} {m : MethodId} {below : List Frame} {meth : Method} {c : Code} :
    ∀ (k : Nat) (T : State) (mk : Int32) (hs : Int32) (j : Int32) (S : St p l e rm_2 s m #[(.int p0), (.ref r1)] below meth c Z "com/example/dioscuri/dioscuri/ints/IntSet" prog_60_method_8_code 5 n0 (some .int) "slotOf" T h0 0 0) (hmk : mk = N - (1 : Int32)) (hs0 : 0 ≤ j.toInt) (hs1 : j.toInt < xs.length) (hfn : fnd xs p0 mk k j) (hres : prb xs p0 (N - (1 : Int32)) k0 (s0F p0 N) = prb xs p0 mk k j), Wp p e below (Po s n0 rm_2 (Qp (some (.int (prb xs p0 (N - (1 : Int32)) k0 (s0F p0 N)))) h0)) T (mkF m 20 #[.val (.int p0), .val (.ref r1), .val (.int mk), .val (.int hs), .val (.int j)] []) := by
  intro k
  induction k with
  | zero =>
    intro T mk hs j S hmk hs0 hs1 hfn hres
    refine o_aloadN S rfl rfl d2_20 rfl (q := 21) ?_
    refine o_iload S rfl d2_21 rfl (q := 23) ?_
    refine o_iaload S A_r1 hs0 hs1 (v := (xs.getD j.toNatClampNeg 0)) rfl d2_23 rfl (q := 24) ?_
    refine o_iconst S (z := -1) rfl d2_24 rfl (q := 25) ?_
    refine o_icmp S d2_25 (by decide) (q' := 47) (by decide) (q := 28) rfl hs_eq.1 hs_eq.2 (fun hc25 => ?_) (fun hc25 => ?_)
    · skip
      refine o_iload S rfl d2_47 rfl (q := 49) ?_
      refine o_retI S rfl d2_49 (by decide) (by decide) ?_
      exact ⟨o_si (by rw [hres, prb_hit _ (show hit xs p0 j from Or.inl hc25)]), rfl⟩
    · skip
      refine o_aloadN S rfl rfl d2_28 rfl (q := 29) ?_
      refine o_iload S rfl d2_29 rfl (q := 31) ?_
      refine o_iaload S A_r1 hs0 hs1 (v := (xs.getD j.toNatClampNeg 0)) rfl d2_31 rfl (q := 32) ?_
      refine o_iloadN S rfl d2_32 rfl (q := 33) ?_
      refine o_icmp S d2_33 (by decide) (q' := 47) (by decide) (q := 36) rfl hs_eq.1 hs_eq.2 (fun hc33 => ?_) (fun hc33 => ?_)
      · skip
        refine o_iload S rfl d2_47 rfl (q := 49) ?_
        refine o_retI S rfl d2_49 (by decide) (by decide) ?_
        exact ⟨o_si (by rw [hres, prb_hit _ (show hit xs p0 j from Or.inr hc33)]), rfl⟩
      · exact absurd (show hit xs p0 j from hfn) (fun q => q.elim hc25 hc33)
  | succ k ih =>
    intro T mk hs j S hmk hs0 hs1 hfn hres
    refine o_aloadN S rfl rfl d2_20 rfl (q := 21) ?_
    refine o_iload S rfl d2_21 rfl (q := 23) ?_
    refine o_iaload S A_r1 hs0 hs1 (v := (xs.getD j.toNatClampNeg 0)) rfl d2_23 rfl (q := 24) ?_
    refine o_iconst S (z := -1) rfl d2_24 rfl (q := 25) ?_
    refine o_icmp S d2_25 (by decide) (q' := 47) (by decide) (q := 28) rfl hs_eq.1 hs_eq.2 (fun hc25 => ?_) (fun hc25 => ?_)
    · skip
      refine o_iload S rfl d2_47 rfl (q := 49) ?_
      refine o_retI S rfl d2_49 (by decide) (by decide) ?_
      exact ⟨o_si (by rw [hres, prb_hit _ (show hit xs p0 j from Or.inl hc25)]), rfl⟩
    · skip
      refine o_aloadN S rfl rfl d2_28 rfl (q := 29) ?_
      refine o_iload S rfl d2_29 rfl (q := 31) ?_
      refine o_iaload S A_r1 hs0 hs1 (v := (xs.getD j.toNatClampNeg 0)) rfl d2_31 rfl (q := 32) ?_
      refine o_iloadN S rfl d2_32 rfl (q := 33) ?_
      refine o_icmp S d2_33 (by decide) (q' := 47) (by decide) (q := 36) rfl hs_eq.1 hs_eq.2 (fun hc33 => ?_) (fun hc33 => ?_)
      · skip
        refine o_iload S rfl d2_47 rfl (q := 49) ?_
        refine o_retI S rfl d2_49 (by decide) (by decide) ?_
        exact ⟨o_si (by rw [hres, prb_hit _ (show hit xs p0 j from Or.inr hc33)]), rfl⟩
      · skip
        refine o_iload S rfl d2_36 rfl (q := 38) ?_
        refine o_iconst S (z := 1) rfl d2_38 rfl (q := 39) ?_
        refine o_iadd S d2_39 rfl (q := 40) ?_
        refine o_iloadN S rfl d2_40 rfl (q := 41) ?_
        refine o_iand S d2_41 rfl (q := 42) ?_
        refine o_istore S (L' := #[.val (.int p0), .val (.ref r1), .val (.int mk), .val (.int hs), .val (.int ((j + (1 : Int32)) &&& mk))]) rfl d2_42 rfl (q := 44) ?_
        refine o_goto S d2_44 (by decide) (q := 20) (by decide) ?_
        exact ih T mk hs _ S hmk (by rw [hmk]; exact (own_mask hNl hN0).1) (by rw [hmk]; exact (own_mask hNl hN0).2) ((show hit xs p0 j ∨ fnd xs p0 mk k ((j + 1) &&& mk) from hfn).resolve_left (fun q => q.elim hc25 hc33)) (hres.trans (prb_miss (fun q => q.elim hc25 hc33)))
set_option maxRecDepth 65536 in
set_option maxHeartbeats 40000000 in
theorem ct_2 (l : Launch) (Z : State) (a0 : Array Value) (hw : ∀ d ∈ tables_1, d.before a0 Z = true) (p0 : Int32) (r1 : Addr) (xs : List Int32) (N : Int32) (k0 : Nat) (h0 : Heap) (n0 : Nat) (hn : n0 ≤ h0.size) (A_r1 : IA Z h0 r1 .int xs) (hN : Int32.ofNat xs.length = N) (hNl : N.toInt = xs.length) (hN0 : 1 ≤ N.toInt) (hf : fnd xs p0 (N - (1 : Int32)) k0 (s0F p0 N)) : Ct l (⟨"com/example/dioscuri/dioscuri/ints/IntSet", "slotOf", "(I[I)I"⟩ : MethodName) prog_60_method_8_code 5 (some .int) [] rm_2 Z h0 n0 #[(.int p0), (.ref r1)] (Qp (some (.int (prb xs p0 (N - (1 : Int32)) k0 (s0F p0 N)))) h0) := by
  refine o_body pn_2 hn (ef_2 p0 r1) ?_
  intro p e s m below meth c T S
  refine o_aloadN S rfl rfl d2_0 rfl (q := 1) ?_
  refine o_arraylength S A_r1 (z := N) hN d2_1 rfl (q := 2) ?_
  refine o_iconst S (z := 1) rfl d2_2 rfl (q := 3) ?_
  refine o_isub S d2_3 rfl (q := 4) ?_
  refine o_istoreVN S (L' := fun mk => #[.val (.int p0), .val (.ref r1), .val (.int mk), .unset, .unset]) (fun _ => rfl) d2_4 rfl (q := 5) (fun mk hmk => ?_)
  refine o_iloadN S rfl d2_5 rfl (q := 6) ?_
  refine o_ldc S (o_wd (i := 10) hw rfl) d2_6 rfl (q := 8) ?_
  refine o_imul S d2_8 rfl (q := 9) ?_
  refine o_istoreVN S (L' := fun hs => #[.val (.int p0), .val (.ref r1), .val (.int mk), .val (.int hs), .unset]) (fun _ => rfl) d2_9 rfl (q := 10) (fun hs hhs => ?_)
  refine o_iloadN S rfl d2_10 rfl (q := 11) ?_
  refine o_iloadN S rfl d2_11 rfl (q := 12) ?_
  refine o_bipush S (z := 16) rfl d2_12 rfl (q := 14) ?_
  refine o_iushr S d2_14 rfl (q := 15) ?_
  refine o_ixor S d2_15 rfl (q := 16) ?_
  refine o_iloadN S rfl d2_16 rfl (q := 17) ?_
  refine o_iand S d2_17 rfl (q := 18) ?_
  refine o_istoreV S (L' := fun sl => #[.val (.int p0), .val (.ref r1), .val (.int mk), .val (.int hs), .val (.int sl)]) (fun _ => rfl) d2_18 rfl (q := 20) (fun sl hsl => ?_)
  exact lp_so l Z a0 hw p0 r1 xs N k0 h0 n0 hn A_r1 hN hNl hN0 hf k0 T mk hs sl S hmk (by rw [hsl, hmk]; exact (own_mask hNl hN0).1) (by rw [hsl, hmk]; exact (own_mask hNl hN0).2) (by rw [hsl, hmk, hhs]; exact hf) (by rw [hsl, hmk, hhs]; rfl)
def Q_3 (Z : State) (r0 : Addr) (p1 : Int32) (p2 : Int32) (p3 : Int32) (p4 : Int32) (p5 : Int32) (p6 : Int32) (p7 : Int32) (xs : List Int32) (h0 : Heap) (n0 : Nat) : Option Value → Heap → Prop := fun v h => v = none ∧ Keep h0 h [r0] ∧ IA Z h r0 .int (plF p1 p2 p3 p4 p5 p6 p7 xs)
theorem d3_0 : decode method_4_code 0 = .ok (.iload_n 1, 1) := by decide +kernel
theorem d3_1 : decode method_4_code 1 = .ok (.iload_n 2, 1) := by decide +kernel
theorem d3_2 : decode method_4_code 2 = .ok (.if_icmp .ge 32, 3) := by decide +kernel
theorem d3_5 : decode method_4_code 5 = .ok (.iload_n 3, 1) := by decide +kernel
theorem d3_6 : decode method_4_code 6 = .ok (.iconst 2, 1) := by decide +kernel
theorem d3_7 : decode method_4_code 7 = .ok (.iload_n 1, 1) := by decide +kernel
theorem d3_8 : decode method_4_code 8 = .ok (.iadd, 1) := by decide +kernel
theorem d3_9 : decode method_4_code 9 = .ok (.iushr, 1) := by decide +kernel
theorem d3_10 : decode method_4_code 10 = .ok (.iconst 1, 1) := by decide +kernel
theorem d3_11 : decode method_4_code 11 = .ok (.iand, 1) := by decide +kernel
theorem d3_12 : decode method_4_code 12 = .ok (.ifCond .eq 22, 3) := by decide +kernel
theorem d3_15 : decode method_4_code 15 = .ok (.aload_n 0, 1) := by decide +kernel
theorem d3_16 : decode method_4_code 16 = .ok (.iload 5, 2) := by decide +kernel
theorem d3_18 : decode method_4_code 18 = .ok (.iload 4, 2) := by decide +kernel
theorem d3_20 : decode method_4_code 20 = .ok (.iconst 3, 1) := by decide +kernel
theorem d3_21 : decode method_4_code 21 = .ok (.iload_n 1, 1) := by decide +kernel
theorem d3_22 : decode method_4_code 22 = .ok (.imul, 1) := by decide +kernel
theorem d3_23 : decode method_4_code 23 = .ok (.iushr, 1) := by decide +kernel
theorem d3_24 : decode method_4_code 24 = .ok (.iload 6, 2) := by decide +kernel
theorem d3_26 : decode method_4_code 26 = .ok (.iand, 1) := by decide +kernel
theorem d3_27 : decode method_4_code 27 = .ok (.iadd, 1) := by decide +kernel
theorem d3_28 : decode method_4_code 28 = .ok (.iload 6, 2) := by decide +kernel
theorem d3_30 : decode method_4_code 30 = .ok (.iand, 1) := by decide +kernel
theorem d3_31 : decode method_4_code 31 = .ok (.iload 7, 2) := by decide +kernel
theorem d3_33 : decode method_4_code 33 = .ok (.iastore, 1) := by decide +kernel
theorem d3_34 : decode method_4_code 34 = .ok (.return_, 1) := by decide +kernel
def rm_3 : Room := ({ frames := 0, cells := 0, slots := 0, locals := 0 } : Room)
theorem pn_3 : plainFor (⟨"com/example/dioscuri/dioscuri/ints/IntSetSlotOfPinLaw", "place", "([IIIIIIII)V"⟩ : MethodName) = true := plainFor_of_name (by first | (simp [plainName, overriddenIn]; done) | (simp [plainName, overriddenIn, x]; done) | decide +kernel)
theorem ef_3 (r0 : Addr) (p1 : Int32) (p2 : Int32) (p3 : Int32) (p4 : Int32) (p5 : Int32) (p6 : Int32) (p7 : Int32) (m : MethodId) : entryFrame m #[(.ref r0), (.int p1), (.int p2), (.int p3), (.int p4), (.int p5), (.int p6), (.int p7)] 8 = mkF m 0 #[.val (.ref r0), .val (.int p1), .val (.int p2), .val (.int p3), .val (.int p4), .val (.int p5), .val (.int p6), .val (.int p7)] [] := by first | (simp [entryFrame, mkF, argsToLocals, Value.category]; done) | rfl
set_option maxRecDepth 65536 in
set_option maxHeartbeats 40000000 in
theorem ct_3 (l : Launch) (Z : State) (a0 : Array Value) (hw : ∀ d ∈ tables_1, d.before a0 Z = true) (r0 : Addr) (p1 : Int32) (p2 : Int32) (p3 : Int32) (p4 : Int32) (p5 : Int32) (p6 : Int32) (p7 : Int32) (xs : List Int32) (h0 : Heap) (n0 : Nat) (hn : n0 ≤ h0.size) (A_r0 : IA Z h0 r0 .int (xs)) (g_r0 : n0 ≤ r0) (hm0 : 0 ≤ p6.toInt) (hm1 : p6.toInt < xs.length) : Ct l (⟨"com/example/dioscuri/dioscuri/ints/IntSetSlotOfPinLaw", "place", "([IIIIIIII)V"⟩ : MethodName) method_4_code 8 none [] rm_3 Z h0 n0 #[(.ref r0), (.int p1), (.int p2), (.int p3), (.int p4), (.int p5), (.int p6), (.int p7)] (Q_3 Z r0 p1 p2 p3 p4 p5 p6 p7 xs h0 n0) := by
  refine o_body pn_3 hn (ef_3 r0 p1 p2 p3 p4 p5 p6 p7) ?_
  intro p e s m below meth c T S
  have K : Keep h0 h0 [r0] := Keep.refl _ _
  refine o_iloadN S rfl d3_0 rfl (q := 1) ?_
  refine o_iloadN S rfl d3_1 rfl (q := 2) ?_
  refine o_icmp S d3_2 (by decide) (q' := 34) (by decide) (q := 5) rfl (hs_ge (a := p1.toInt) (b := p2.toInt) rfl rfl).1 (hs_ge (a := p1.toInt) (b := p2.toInt) rfl rfl).2 (fun hc2 => ?_) (fun hc2 => ?_)
  · skip
    refine o_retV S rfl d3_34 (by decide) (by decide) ?_
    exact ⟨rfl, K, by rw [plF, if_pos hc2]; exact A_r0⟩
  · skip
    refine o_iloadN S rfl d3_5 rfl (q := 6) ?_
    refine o_iconst S (z := 2) rfl d3_6 rfl (q := 7) ?_
    refine o_iloadN S rfl d3_7 rfl (q := 8) ?_
    refine o_iadd S d3_8 rfl (q := 9) ?_
    refine o_iushr S d3_9 rfl (q := 10) ?_
    refine o_iconst S (z := 1) rfl d3_10 rfl (q := 11) ?_
    refine o_iand S d3_11 rfl (q := 12) ?_
    refine o_if S d3_12 (by decide) (q' := 34) (by decide) (q := 15) rfl hs_eq.1 hs_eq.2 (fun hc12 => ?_) (fun hc12 => ?_)
    · skip
      refine o_retV S rfl d3_34 (by decide) (by decide) ?_
      exact ⟨rfl, K, by rw [plF, if_neg hc2, if_pos hc12]; exact A_r0⟩
    · skip
      refine o_aloadN S rfl rfl d3_15 rfl (q := 16) ?_
      refine o_iload S rfl d3_16 rfl (q := 18) ?_
      refine o_iload S rfl d3_18 rfl (q := 20) ?_
      refine o_iconst S (z := 3) rfl d3_20 rfl (q := 21) ?_
      refine o_iloadN S rfl d3_21 rfl (q := 22) ?_
      refine o_imul S d3_22 rfl (q := 23) ?_
      refine o_iushr S d3_23 rfl (q := 24) ?_
      refine o_iload S rfl d3_24 rfl (q := 26) ?_
      refine o_iand S d3_26 rfl (q := 27) ?_
      refine o_iadd S d3_27 rfl (q := 28) ?_
      refine o_iload S rfl d3_28 rfl (q := 30) ?_
      refine o_iand S d3_30 rfl (q := 31) ?_
      refine o_iload S rfl d3_31 rfl (q := 33) ?_
      refine o_iastore S (y := p7) (ys := (xs.set ((p5 + (((p4.toUInt32 >>> (((3 : Int32) * p1) &&& 31).toUInt32).toInt32) &&& p6)) &&& p6).toNatClampNeg p7)) A_r0 (c_and _ p6 hm0).1 (by have := (c_and (p5 + (((p4.toUInt32 >>> (((3 : Int32) * p1) &&& 31).toUInt32).toInt32) &&& p6)) p6 hm0).2; omega) g_r0 rfl rfl d3_33 rfl (q := 34) (fun T h1 S W A_r0 => ?_)
      have K := K.wr W (Or.inl (List.mem_of_getElem? (i := 0) rfl))
      refine o_retV S rfl d3_34 (by decide) (by decide) ?_
      exact ⟨rfl, K, by rw [plF, if_neg hc2, if_neg hc12]; exact A_r0⟩
def f_step (p0 : Int32) (p1 : Int32) (p3 : Int32) (p4 : Int32) (xs : List Int32) (N : Int32) : Int32 := if 0 ≤ p0.toInt then p0 else (if p1.toInt < N.toInt then (if (xs.getD ((p3 + p1) &&& (N - (1 : Int32))).toNatClampNeg 0) = (-1 : Int32) then ((p3 + p1) &&& (N - (1 : Int32))) else (if ¬ (xs.getD ((p3 + p1) &&& (N - (1 : Int32))).toNatClampNeg 0) = p4 then p0 else ((p3 + p1) &&& (N - (1 : Int32))))) else p0)
theorem d4_0 : decode method_5_code 0 = .ok (.iload_n 0, 1) := by decide +kernel
theorem d4_1 : decode method_5_code 1 = .ok (.ifCond .ge 9, 3) := by decide +kernel
theorem d4_4 : decode method_5_code 4 = .ok (.iload_n 1, 1) := by decide +kernel
theorem d4_5 : decode method_5_code 5 = .ok (.aload_n 2, 1) := by decide +kernel
theorem d4_6 : decode method_5_code 6 = .ok (.arraylength, 1) := by decide +kernel
theorem d4_7 : decode method_5_code 7 = .ok (.if_icmp .lt 5, 3) := by decide +kernel
theorem d4_10 : decode method_5_code 10 = .ok (.iload_n 0, 1) := by decide +kernel
theorem d4_11 : decode method_5_code 11 = .ok (.ireturn, 1) := by decide +kernel
theorem d4_12 : decode method_5_code 12 = .ok (.iload_n 3, 1) := by decide +kernel
theorem d4_13 : decode method_5_code 13 = .ok (.iload_n 1, 1) := by decide +kernel
theorem d4_14 : decode method_5_code 14 = .ok (.iadd, 1) := by decide +kernel
theorem d4_15 : decode method_5_code 15 = .ok (.aload_n 2, 1) := by decide +kernel
theorem d4_16 : decode method_5_code 16 = .ok (.arraylength, 1) := by decide +kernel
theorem d4_17 : decode method_5_code 17 = .ok (.iconst 1, 1) := by decide +kernel
theorem d4_18 : decode method_5_code 18 = .ok (.isub, 1) := by decide +kernel
theorem d4_19 : decode method_5_code 19 = .ok (.iand, 1) := by decide +kernel
theorem d4_20 : decode method_5_code 20 = .ok (.istore 5, 2) := by decide +kernel
theorem d4_22 : decode method_5_code 22 = .ok (.aload_n 2, 1) := by decide +kernel
theorem d4_23 : decode method_5_code 23 = .ok (.iload 5, 2) := by decide +kernel
theorem d4_25 : decode method_5_code 25 = .ok (.iaload, 1) := by decide +kernel
theorem d4_26 : decode method_5_code 26 = .ok (.iconst (-1), 1) := by decide +kernel
theorem d4_27 : decode method_5_code 27 = .ok (.if_icmp .eq 12, 3) := by decide +kernel
theorem d4_30 : decode method_5_code 30 = .ok (.aload_n 2, 1) := by decide +kernel
theorem d4_31 : decode method_5_code 31 = .ok (.iload 5, 2) := by decide +kernel
theorem d4_33 : decode method_5_code 33 = .ok (.iaload, 1) := by decide +kernel
theorem d4_34 : decode method_5_code 34 = .ok (.iload 4, 2) := by decide +kernel
theorem d4_36 : decode method_5_code 36 = .ok (.if_icmp .ne 6, 3) := by decide +kernel
theorem d4_39 : decode method_5_code 39 = .ok (.iload 5, 2) := by decide +kernel
theorem d4_41 : decode method_5_code 41 = .ok (.ireturn, 1) := by decide +kernel
theorem d4_42 : decode method_5_code 42 = .ok (.iload_n 0, 1) := by decide +kernel
theorem d4_43 : decode method_5_code 43 = .ok (.ireturn, 1) := by decide +kernel
def rm_4 : Room := ({ frames := 0, cells := 0, slots := 0, locals := 0 } : Room)
theorem pn_4 : plainFor (⟨"com/example/dioscuri/dioscuri/ints/IntSetSlotOfPinLaw", "step", "(II[III)I"⟩ : MethodName) = true := plainFor_of_name (by first | (simp [plainName, overriddenIn]; done) | (simp [plainName, overriddenIn, x]; done) | decide +kernel)
theorem ef_4 (p0 : Int32) (p1 : Int32) (r2 : Addr) (p3 : Int32) (p4 : Int32) (m : MethodId) : entryFrame m #[(.int p0), (.int p1), (.ref r2), (.int p3), (.int p4)] 6 = mkF m 0 #[.val (.int p0), .val (.int p1), .val (.ref r2), .val (.int p3), .val (.int p4), .unset] [] := by first | (simp [entryFrame, mkF, argsToLocals, Value.category]; done) | rfl
set_option maxRecDepth 65536 in
set_option maxHeartbeats 40000000 in
theorem ct_4 (l : Launch) (Z : State) (a0 : Array Value) (hw : ∀ d ∈ tables_1, d.before a0 Z = true) (p0 : Int32) (p1 : Int32) (r2 : Addr) (p3 : Int32) (p4 : Int32) (xs : List Int32) (N : Int32) (h0 : Heap) (n0 : Nat) (hn : n0 ≤ h0.size) (A_r2 : IA Z h0 r2 .int xs) (hN : Int32.ofNat xs.length = N) (hNl : N.toInt = xs.length) (hN0 : 1 ≤ N.toInt) : Ct l (⟨"com/example/dioscuri/dioscuri/ints/IntSetSlotOfPinLaw", "step", "(II[III)I"⟩ : MethodName) method_5_code 6 (some .int) [] rm_4 Z h0 n0 #[(.int p0), (.int p1), (.ref r2), (.int p3), (.int p4)] (Qp (some (.int (f_step p0 p1 p3 p4 xs N))) h0) := by
  refine o_body pn_4 hn (ef_4 p0 p1 r2 p3 p4) ?_
  intro p e s m below meth c T S
  refine o_iloadN S rfl d4_0 rfl (q := 1) ?_
  refine o_if S d4_1 (by decide) (q' := 10) (by decide) (q := 4) rfl (hs_ge (a := p0.toInt) (b := 0) rfl rfl).1 (hs_ge (a := p0.toInt) (b := 0) rfl rfl).2 (fun hc1 => ?_) (fun hc1 => ?_)
  · skip
    refine o_iloadN S rfl d4_10 rfl (q := 11) ?_
    refine o_retI S rfl d4_11 (by decide) (by decide) ?_
    exact ⟨o_si (by rw [f_step, if_pos hc1]), rfl⟩
  · skip
    refine o_iloadN S rfl d4_4 rfl (q := 5) ?_
    refine o_aloadN S rfl rfl d4_5 rfl (q := 6) ?_
    refine o_arraylength S A_r2 (z := N) hN d4_6 rfl (q := 7) ?_
    refine o_icmp S d4_7 (by decide) (q' := 12) (by decide) (q := 10) rfl (hs_lt (a := p1.toInt) (b := N.toInt) rfl rfl).1 (hs_lt (a := p1.toInt) (b := N.toInt) rfl rfl).2 (fun hc7 => ?_) (fun hc7 => ?_)
    · skip
      refine o_iloadN S rfl d4_12 rfl (q := 13) ?_
      refine o_iloadN S rfl d4_13 rfl (q := 14) ?_
      refine o_iadd S d4_14 rfl (q := 15) ?_
      refine o_aloadN S rfl rfl d4_15 rfl (q := 16) ?_
      refine o_arraylength S A_r2 (z := N) hN d4_16 rfl (q := 17) ?_
      refine o_iconst S (z := 1) rfl d4_17 rfl (q := 18) ?_
      refine o_isub S d4_18 rfl (q := 19) ?_
      refine o_iand S d4_19 rfl (q := 20) ?_
      refine o_istore S (L' := #[.val (.int p0), .val (.int p1), .val (.ref r2), .val (.int p3), .val (.int p4), .val (.int ((p3 + p1) &&& (N - (1 : Int32))))]) rfl d4_20 rfl (q := 22) ?_
      refine o_aloadN S rfl rfl d4_22 rfl (q := 23) ?_
      refine o_iload S rfl d4_23 rfl (q := 25) ?_
      refine o_iaload S A_r2 (own_mask hNl hN0).1 (own_mask hNl hN0).2 (v := (xs.getD ((p3 + p1) &&& (N - (1 : Int32))).toNatClampNeg 0)) rfl d4_25 rfl (q := 26) ?_
      refine o_iconst S (z := -1) rfl d4_26 rfl (q := 27) ?_
      refine o_icmp S d4_27 (by decide) (q' := 39) (by decide) (q := 30) rfl hs_eq.1 hs_eq.2 (fun hc27 => ?_) (fun hc27 => ?_)
      · skip
        refine o_iload S rfl d4_39 rfl (q := 41) ?_
        refine o_retI S rfl d4_41 (by decide) (by decide) ?_
        exact ⟨o_si (by rw [f_step, if_neg hc1, if_pos hc7, if_pos hc27]), rfl⟩
      · skip
        refine o_aloadN S rfl rfl d4_30 rfl (q := 31) ?_
        refine o_iload S rfl d4_31 rfl (q := 33) ?_
        refine o_iaload S A_r2 (own_mask hNl hN0).1 (own_mask hNl hN0).2 (v := (xs.getD ((p3 + p1) &&& (N - (1 : Int32))).toNatClampNeg 0)) rfl d4_33 rfl (q := 34) ?_
        refine o_iload S rfl d4_34 rfl (q := 36) ?_
        refine o_icmp S d4_36 (by decide) (q' := 42) (by decide) (q := 39) rfl hs_ne.1 hs_ne.2 (fun hc36 => ?_) (fun hc36 => ?_)
        · skip
          refine o_iloadN S rfl d4_42 rfl (q := 43) ?_
          refine o_retI S rfl d4_43 (by decide) (by decide) ?_
          exact ⟨o_si (by rw [f_step, if_neg hc1, if_pos hc7, if_neg hc27, if_pos hc36]), rfl⟩
        · skip
          refine o_iload S rfl d4_39 rfl (q := 41) ?_
          refine o_retI S rfl d4_41 (by decide) (by decide) ?_
          exact ⟨o_si (by rw [f_step, if_neg hc1, if_pos hc7, if_neg hc27, if_neg hc36]), rfl⟩
    · skip
      refine o_iloadN S rfl d4_10 rfl (q := 11) ?_
      refine o_retI S rfl d4_11 (by decide) (by decide) ?_
      exact ⟨o_si (by rw [f_step, if_neg hc1, if_neg hc7]), rfl⟩
theorem st_eq (e k h v N : Int32) (ys : List Int32) : f_step e k h v ys N = if 0 ≤ e.toInt ∨ N.toInt ≤ k.toInt then e else if hit ys v ((h + k) &&& (N - (1 : Int32))) then ((h + k) &&& (N - (1 : Int32))) else e := by
  by_cases a : 0 ≤ e.toInt
  · rw [if_pos (Or.inl a)]; unfold f_step; rw [if_pos a]
  · by_cases b : N.toInt ≤ k.toInt
    · rw [if_pos (Or.inr b)]; unfold f_step; rw [if_neg a, if_neg (by omega)]
    · rw [if_neg (fun q => q.elim a b)]
      by_cases c1 : ys.getD ((h + k) &&& (N - (1 : Int32))).toNatClampNeg 0 = (-1 : Int32)
      · rw [if_pos (show hit _ _ _ from Or.inl c1)]; unfold f_step; rw [if_neg a, if_pos (by omega), if_pos c1]
      · by_cases c2 : ys.getD ((h + k) &&& (N - (1 : Int32))).toNatClampNeg 0 = v
        · rw [if_pos (show hit _ _ _ from Or.inr c2)]; unfold f_step; rw [if_neg a, if_pos (by omega), if_neg c1, if_neg (fun q => q c2)]
        · rw [if_neg (fun q : hit _ _ _ => q.elim c1 c2)]; unfold f_step; rw [if_neg a, if_pos (by omega), if_neg c1, if_pos c2]
theorem own_ofN {h : Int32} {N : Nat} (h0 : 0 ≤ h.toInt) (h1 : h.toInt < N) : ∃ i : Fin N, h = Int32.ofNat i.1 := by
  obtain ⟨g1, g2⟩ := o_nat h0
  exact ⟨⟨h.toNatClampNeg, by omega⟩, (back32 g1).1.symm⟩
theorem fnd_2 {ys : List Int32} {v h : Int32} (hl : ys.length = 2) (hf : 1 ≤ frc ys) (h0 : 0 ≤ h.toInt) (h1 : h.toInt < 2) : fnd ys v (1 : Int32) 1 h := by
  obtain ⟨j, j1, j2⟩ := frc_pos ys hf
  obtain ⟨i, rfl⟩ := own_ofN (N := 2) h0 h1
  have q : ∀ (a b : Fin 2), itr (1 : Int32) ((b.1 + 2 - a.1) % 2) (Int32.ofNat a.1) = Int32.ofNat b.1 ∧ (Int32.ofNat b.1).toNatClampNeg = b.1 := by decide +kernel
  obtain ⟨q1, q2⟩ := q i ⟨j, by omega⟩
  refine fnd_itr ((j + 2 - i.1) % 2) 1 _ (by omega) ?_
  rw [q1]
  exact Or.inl (by rw [q2]; exact j2)
theorem sl_2 {h : Int32} (h0 : 0 ≤ h.toInt) (h1 : h.toInt < 2) : itr (1 : Int32) 0 h = (h + (0 : Int32)) &&& ((2 : Int32) - (1 : Int32)) ∧ 0 ≤ ((h + (0 : Int32)) &&& ((2 : Int32) - (1 : Int32))).toInt ∧ itr (1 : Int32) 1 h = (h + (1 : Int32)) &&& ((2 : Int32) - (1 : Int32)) ∧ 0 ≤ ((h + (1 : Int32)) &&& ((2 : Int32) - (1 : Int32))).toInt := by
  obtain ⟨i, rfl⟩ := own_ofN (N := 2) h0 h1
  have q : ∀ (a : Fin 2), itr (1 : Int32) 0 (Int32.ofNat a.1) = ((Int32.ofNat a.1) + (0 : Int32)) &&& ((2 : Int32) - (1 : Int32)) ∧ 0 ≤ (((Int32.ofNat a.1) + (0 : Int32)) &&& ((2 : Int32) - (1 : Int32))).toInt ∧ itr (1 : Int32) 1 (Int32.ofNat a.1) = ((Int32.ofNat a.1) + (1 : Int32)) &&& ((2 : Int32) - (1 : Int32)) ∧ 0 ≤ (((Int32.ofNat a.1) + (1 : Int32)) &&& ((2 : Int32) - (1 : Int32))).toInt := by decide +kernel
  exact q i
theorem fin_2 {ys : List Int32} {v h r e1 e2 e3 e4 e5 e6 e7 e8 : Int32} (h0 : 0 ≤ h.toInt) (h1 : h.toInt < 2) (hf : fnd ys v (1 : Int32) 1 h) (hr : r = prb ys v (1 : Int32) 1 h) (he0 : e1 = f_step (-1 : Int32) (0 : Int32) h v ys (2 : Int32)) (he1 : e2 = f_step e1 (1 : Int32) h v ys (2 : Int32)) (he2 : e3 = f_step e2 (2 : Int32) h v ys (2 : Int32)) (he3 : e4 = f_step e3 (3 : Int32) h v ys (2 : Int32)) (he4 : e5 = f_step e4 (4 : Int32) h v ys (2 : Int32)) (he5 : e6 = f_step e5 (5 : Int32) h v ys (2 : Int32)) (he6 : e7 = f_step e6 (6 : Int32) h v ys (2 : Int32)) (he7 : e8 = f_step e7 (7 : Int32) h v ys (2 : Int32)) : ¬ e8.toInt < 0 ∧ r = e8 := by
  obtain ⟨i0, s0, i1, s1⟩ := sl_2 h0 h1
  rw [st_eq] at he0
  rw [st_eq] at he1
  rw [st_eq] at he2
  rw [st_eq] at he3
  rw [st_eq] at he4
  rw [st_eq] at he5
  rw [st_eq] at he6
  rw [st_eq] at he7
  rw [← i0] at he0 s0
  rw [← i1] at he1 s1
  have w : ((-1 : Int32)).toInt = -1 := rfl
  by_cases c0 : hit ys v (itr (1 : Int32) 0 h)
  · skip
    rw [if_neg (by decide), if_pos c0] at he0
    rw [if_pos (Or.inl (by rw [he0]; exact s0))] at he1
    rw [if_pos (Or.inl (by rw [he1, he0]; exact s0))] at he2
    rw [if_pos (Or.inl (by rw [he2, he1, he0]; exact s0))] at he3
    rw [if_pos (Or.inl (by rw [he3, he2, he1, he0]; exact s0))] at he4
    rw [if_pos (Or.inl (by rw [he4, he3, he2, he1, he0]; exact s0))] at he5
    rw [if_pos (Or.inl (by rw [he5, he4, he3, he2, he1, he0]; exact s0))] at he6
    rw [if_pos (Or.inl (by rw [he6, he5, he4, he3, he2, he1, he0]; exact s0))] at he7
    refine ⟨by rw [he7, he6, he5, he4, he3, he2, he1, he0]; omega, ?_⟩
    rw [he7, he6, he5, he4, he3, he2, he1, he0]; exact hr.trans (prb_hit _ c0)
  by_cases c1 : hit ys v (itr (1 : Int32) 1 h)
  · skip
    rw [if_neg (by decide), if_neg c0] at he0
    subst he0
    rw [if_neg (by decide), if_pos c1] at he1
    rw [if_pos (Or.inl (by rw [he1]; exact s1))] at he2
    rw [if_pos (Or.inl (by rw [he2, he1]; exact s1))] at he3
    rw [if_pos (Or.inl (by rw [he3, he2, he1]; exact s1))] at he4
    rw [if_pos (Or.inl (by rw [he4, he3, he2, he1]; exact s1))] at he5
    rw [if_pos (Or.inl (by rw [he5, he4, he3, he2, he1]; exact s1))] at he6
    rw [if_pos (Or.inl (by rw [he6, he5, he4, he3, he2, he1]; exact s1))] at he7
    refine ⟨by rw [he7, he6, he5, he4, he3, he2, he1]; omega, ?_⟩
    rw [he7, he6, he5, he4, he3, he2, he1]; exact hr.trans ((prb_miss c0).trans (prb_hit _ c1))
  exfalso
  rcases hf with q | q
  · exact c0 q
  · exact c1 q
theorem fnd_4 {ys : List Int32} {v h : Int32} (hl : ys.length = 4) (hf : 1 ≤ frc ys) (h0 : 0 ≤ h.toInt) (h1 : h.toInt < 4) : fnd ys v (3 : Int32) 3 h := by
  obtain ⟨j, j1, j2⟩ := frc_pos ys hf
  obtain ⟨i, rfl⟩ := own_ofN (N := 4) h0 h1
  have q : ∀ (a b : Fin 4), itr (3 : Int32) ((b.1 + 4 - a.1) % 4) (Int32.ofNat a.1) = Int32.ofNat b.1 ∧ (Int32.ofNat b.1).toNatClampNeg = b.1 := by decide +kernel
  obtain ⟨q1, q2⟩ := q i ⟨j, by omega⟩
  refine fnd_itr ((j + 4 - i.1) % 4) 3 _ (by omega) ?_
  rw [q1]
  exact Or.inl (by rw [q2]; exact j2)
theorem sl_4 {h : Int32} (h0 : 0 ≤ h.toInt) (h1 : h.toInt < 4) : itr (3 : Int32) 0 h = (h + (0 : Int32)) &&& ((4 : Int32) - (1 : Int32)) ∧ 0 ≤ ((h + (0 : Int32)) &&& ((4 : Int32) - (1 : Int32))).toInt ∧ itr (3 : Int32) 1 h = (h + (1 : Int32)) &&& ((4 : Int32) - (1 : Int32)) ∧ 0 ≤ ((h + (1 : Int32)) &&& ((4 : Int32) - (1 : Int32))).toInt ∧ itr (3 : Int32) 2 h = (h + (2 : Int32)) &&& ((4 : Int32) - (1 : Int32)) ∧ 0 ≤ ((h + (2 : Int32)) &&& ((4 : Int32) - (1 : Int32))).toInt ∧ itr (3 : Int32) 3 h = (h + (3 : Int32)) &&& ((4 : Int32) - (1 : Int32)) ∧ 0 ≤ ((h + (3 : Int32)) &&& ((4 : Int32) - (1 : Int32))).toInt := by
  obtain ⟨i, rfl⟩ := own_ofN (N := 4) h0 h1
  have q : ∀ (a : Fin 4), itr (3 : Int32) 0 (Int32.ofNat a.1) = ((Int32.ofNat a.1) + (0 : Int32)) &&& ((4 : Int32) - (1 : Int32)) ∧ 0 ≤ (((Int32.ofNat a.1) + (0 : Int32)) &&& ((4 : Int32) - (1 : Int32))).toInt ∧ itr (3 : Int32) 1 (Int32.ofNat a.1) = ((Int32.ofNat a.1) + (1 : Int32)) &&& ((4 : Int32) - (1 : Int32)) ∧ 0 ≤ (((Int32.ofNat a.1) + (1 : Int32)) &&& ((4 : Int32) - (1 : Int32))).toInt ∧ itr (3 : Int32) 2 (Int32.ofNat a.1) = ((Int32.ofNat a.1) + (2 : Int32)) &&& ((4 : Int32) - (1 : Int32)) ∧ 0 ≤ (((Int32.ofNat a.1) + (2 : Int32)) &&& ((4 : Int32) - (1 : Int32))).toInt ∧ itr (3 : Int32) 3 (Int32.ofNat a.1) = ((Int32.ofNat a.1) + (3 : Int32)) &&& ((4 : Int32) - (1 : Int32)) ∧ 0 ≤ (((Int32.ofNat a.1) + (3 : Int32)) &&& ((4 : Int32) - (1 : Int32))).toInt := by decide +kernel
  exact q i
theorem fin_4 {ys : List Int32} {v h r e1 e2 e3 e4 e5 e6 e7 e8 : Int32} (h0 : 0 ≤ h.toInt) (h1 : h.toInt < 4) (hf : fnd ys v (3 : Int32) 3 h) (hr : r = prb ys v (3 : Int32) 3 h) (he0 : e1 = f_step (-1 : Int32) (0 : Int32) h v ys (4 : Int32)) (he1 : e2 = f_step e1 (1 : Int32) h v ys (4 : Int32)) (he2 : e3 = f_step e2 (2 : Int32) h v ys (4 : Int32)) (he3 : e4 = f_step e3 (3 : Int32) h v ys (4 : Int32)) (he4 : e5 = f_step e4 (4 : Int32) h v ys (4 : Int32)) (he5 : e6 = f_step e5 (5 : Int32) h v ys (4 : Int32)) (he6 : e7 = f_step e6 (6 : Int32) h v ys (4 : Int32)) (he7 : e8 = f_step e7 (7 : Int32) h v ys (4 : Int32)) : ¬ e8.toInt < 0 ∧ r = e8 := by
  obtain ⟨i0, s0, i1, s1, i2, s2, i3, s3⟩ := sl_4 h0 h1
  rw [st_eq] at he0
  rw [st_eq] at he1
  rw [st_eq] at he2
  rw [st_eq] at he3
  rw [st_eq] at he4
  rw [st_eq] at he5
  rw [st_eq] at he6
  rw [st_eq] at he7
  rw [← i0] at he0 s0
  rw [← i1] at he1 s1
  rw [← i2] at he2 s2
  rw [← i3] at he3 s3
  have w : ((-1 : Int32)).toInt = -1 := rfl
  by_cases c0 : hit ys v (itr (3 : Int32) 0 h)
  · skip
    rw [if_neg (by decide), if_pos c0] at he0
    rw [if_pos (Or.inl (by rw [he0]; exact s0))] at he1
    rw [if_pos (Or.inl (by rw [he1, he0]; exact s0))] at he2
    rw [if_pos (Or.inl (by rw [he2, he1, he0]; exact s0))] at he3
    rw [if_pos (Or.inl (by rw [he3, he2, he1, he0]; exact s0))] at he4
    rw [if_pos (Or.inl (by rw [he4, he3, he2, he1, he0]; exact s0))] at he5
    rw [if_pos (Or.inl (by rw [he5, he4, he3, he2, he1, he0]; exact s0))] at he6
    rw [if_pos (Or.inl (by rw [he6, he5, he4, he3, he2, he1, he0]; exact s0))] at he7
    refine ⟨by rw [he7, he6, he5, he4, he3, he2, he1, he0]; omega, ?_⟩
    rw [he7, he6, he5, he4, he3, he2, he1, he0]; exact hr.trans (prb_hit _ c0)
  by_cases c1 : hit ys v (itr (3 : Int32) 1 h)
  · skip
    rw [if_neg (by decide), if_neg c0] at he0
    subst he0
    rw [if_neg (by decide), if_pos c1] at he1
    rw [if_pos (Or.inl (by rw [he1]; exact s1))] at he2
    rw [if_pos (Or.inl (by rw [he2, he1]; exact s1))] at he3
    rw [if_pos (Or.inl (by rw [he3, he2, he1]; exact s1))] at he4
    rw [if_pos (Or.inl (by rw [he4, he3, he2, he1]; exact s1))] at he5
    rw [if_pos (Or.inl (by rw [he5, he4, he3, he2, he1]; exact s1))] at he6
    rw [if_pos (Or.inl (by rw [he6, he5, he4, he3, he2, he1]; exact s1))] at he7
    refine ⟨by rw [he7, he6, he5, he4, he3, he2, he1]; omega, ?_⟩
    rw [he7, he6, he5, he4, he3, he2, he1]; exact hr.trans ((prb_miss c0).trans (prb_hit _ c1))
  by_cases c2 : hit ys v (itr (3 : Int32) 2 h)
  · skip
    rw [if_neg (by decide), if_neg c0] at he0
    subst he0
    rw [if_neg (by decide), if_neg c1] at he1
    subst he1
    rw [if_neg (by decide), if_pos c2] at he2
    rw [if_pos (Or.inl (by rw [he2]; exact s2))] at he3
    rw [if_pos (Or.inl (by rw [he3, he2]; exact s2))] at he4
    rw [if_pos (Or.inl (by rw [he4, he3, he2]; exact s2))] at he5
    rw [if_pos (Or.inl (by rw [he5, he4, he3, he2]; exact s2))] at he6
    rw [if_pos (Or.inl (by rw [he6, he5, he4, he3, he2]; exact s2))] at he7
    refine ⟨by rw [he7, he6, he5, he4, he3, he2]; omega, ?_⟩
    rw [he7, he6, he5, he4, he3, he2]; exact hr.trans ((prb_miss c0).trans ((prb_miss c1).trans (prb_hit _ c2)))
  by_cases c3 : hit ys v (itr (3 : Int32) 3 h)
  · skip
    rw [if_neg (by decide), if_neg c0] at he0
    subst he0
    rw [if_neg (by decide), if_neg c1] at he1
    subst he1
    rw [if_neg (by decide), if_neg c2] at he2
    subst he2
    rw [if_neg (by decide), if_pos c3] at he3
    rw [if_pos (Or.inl (by rw [he3]; exact s3))] at he4
    rw [if_pos (Or.inl (by rw [he4, he3]; exact s3))] at he5
    rw [if_pos (Or.inl (by rw [he5, he4, he3]; exact s3))] at he6
    rw [if_pos (Or.inl (by rw [he6, he5, he4, he3]; exact s3))] at he7
    refine ⟨by rw [he7, he6, he5, he4, he3]; omega, ?_⟩
    rw [he7, he6, he5, he4, he3]; exact hr.trans ((prb_miss c0).trans ((prb_miss c1).trans ((prb_miss c2).trans (prb_hit _ c3))))
  exfalso
  rcases hf with q | q | q | q
  · exact c0 q
  · exact c1 q
  · exact c2 q
  · exact c3 q
theorem fnd_8 {ys : List Int32} {v h : Int32} (hl : ys.length = 8) (hf : 1 ≤ frc ys) (h0 : 0 ≤ h.toInt) (h1 : h.toInt < 8) : fnd ys v (7 : Int32) 7 h := by
  obtain ⟨j, j1, j2⟩ := frc_pos ys hf
  obtain ⟨i, rfl⟩ := own_ofN (N := 8) h0 h1
  have q : ∀ (a b : Fin 8), itr (7 : Int32) ((b.1 + 8 - a.1) % 8) (Int32.ofNat a.1) = Int32.ofNat b.1 ∧ (Int32.ofNat b.1).toNatClampNeg = b.1 := by decide +kernel
  obtain ⟨q1, q2⟩ := q i ⟨j, by omega⟩
  refine fnd_itr ((j + 8 - i.1) % 8) 7 _ (by omega) ?_
  rw [q1]
  exact Or.inl (by rw [q2]; exact j2)
theorem sl_8 {h : Int32} (h0 : 0 ≤ h.toInt) (h1 : h.toInt < 8) : itr (7 : Int32) 0 h = (h + (0 : Int32)) &&& ((8 : Int32) - (1 : Int32)) ∧ 0 ≤ ((h + (0 : Int32)) &&& ((8 : Int32) - (1 : Int32))).toInt ∧ itr (7 : Int32) 1 h = (h + (1 : Int32)) &&& ((8 : Int32) - (1 : Int32)) ∧ 0 ≤ ((h + (1 : Int32)) &&& ((8 : Int32) - (1 : Int32))).toInt ∧ itr (7 : Int32) 2 h = (h + (2 : Int32)) &&& ((8 : Int32) - (1 : Int32)) ∧ 0 ≤ ((h + (2 : Int32)) &&& ((8 : Int32) - (1 : Int32))).toInt ∧ itr (7 : Int32) 3 h = (h + (3 : Int32)) &&& ((8 : Int32) - (1 : Int32)) ∧ 0 ≤ ((h + (3 : Int32)) &&& ((8 : Int32) - (1 : Int32))).toInt ∧ itr (7 : Int32) 4 h = (h + (4 : Int32)) &&& ((8 : Int32) - (1 : Int32)) ∧ 0 ≤ ((h + (4 : Int32)) &&& ((8 : Int32) - (1 : Int32))).toInt ∧ itr (7 : Int32) 5 h = (h + (5 : Int32)) &&& ((8 : Int32) - (1 : Int32)) ∧ 0 ≤ ((h + (5 : Int32)) &&& ((8 : Int32) - (1 : Int32))).toInt ∧ itr (7 : Int32) 6 h = (h + (6 : Int32)) &&& ((8 : Int32) - (1 : Int32)) ∧ 0 ≤ ((h + (6 : Int32)) &&& ((8 : Int32) - (1 : Int32))).toInt ∧ itr (7 : Int32) 7 h = (h + (7 : Int32)) &&& ((8 : Int32) - (1 : Int32)) ∧ 0 ≤ ((h + (7 : Int32)) &&& ((8 : Int32) - (1 : Int32))).toInt := by
  obtain ⟨i, rfl⟩ := own_ofN (N := 8) h0 h1
  have q : ∀ (a : Fin 8), itr (7 : Int32) 0 (Int32.ofNat a.1) = ((Int32.ofNat a.1) + (0 : Int32)) &&& ((8 : Int32) - (1 : Int32)) ∧ 0 ≤ (((Int32.ofNat a.1) + (0 : Int32)) &&& ((8 : Int32) - (1 : Int32))).toInt ∧ itr (7 : Int32) 1 (Int32.ofNat a.1) = ((Int32.ofNat a.1) + (1 : Int32)) &&& ((8 : Int32) - (1 : Int32)) ∧ 0 ≤ (((Int32.ofNat a.1) + (1 : Int32)) &&& ((8 : Int32) - (1 : Int32))).toInt ∧ itr (7 : Int32) 2 (Int32.ofNat a.1) = ((Int32.ofNat a.1) + (2 : Int32)) &&& ((8 : Int32) - (1 : Int32)) ∧ 0 ≤ (((Int32.ofNat a.1) + (2 : Int32)) &&& ((8 : Int32) - (1 : Int32))).toInt ∧ itr (7 : Int32) 3 (Int32.ofNat a.1) = ((Int32.ofNat a.1) + (3 : Int32)) &&& ((8 : Int32) - (1 : Int32)) ∧ 0 ≤ (((Int32.ofNat a.1) + (3 : Int32)) &&& ((8 : Int32) - (1 : Int32))).toInt ∧ itr (7 : Int32) 4 (Int32.ofNat a.1) = ((Int32.ofNat a.1) + (4 : Int32)) &&& ((8 : Int32) - (1 : Int32)) ∧ 0 ≤ (((Int32.ofNat a.1) + (4 : Int32)) &&& ((8 : Int32) - (1 : Int32))).toInt ∧ itr (7 : Int32) 5 (Int32.ofNat a.1) = ((Int32.ofNat a.1) + (5 : Int32)) &&& ((8 : Int32) - (1 : Int32)) ∧ 0 ≤ (((Int32.ofNat a.1) + (5 : Int32)) &&& ((8 : Int32) - (1 : Int32))).toInt ∧ itr (7 : Int32) 6 (Int32.ofNat a.1) = ((Int32.ofNat a.1) + (6 : Int32)) &&& ((8 : Int32) - (1 : Int32)) ∧ 0 ≤ (((Int32.ofNat a.1) + (6 : Int32)) &&& ((8 : Int32) - (1 : Int32))).toInt ∧ itr (7 : Int32) 7 (Int32.ofNat a.1) = ((Int32.ofNat a.1) + (7 : Int32)) &&& ((8 : Int32) - (1 : Int32)) ∧ 0 ≤ (((Int32.ofNat a.1) + (7 : Int32)) &&& ((8 : Int32) - (1 : Int32))).toInt := by decide +kernel
  exact q i
theorem fin_8 {ys : List Int32} {v h r e1 e2 e3 e4 e5 e6 e7 e8 : Int32} (h0 : 0 ≤ h.toInt) (h1 : h.toInt < 8) (hf : fnd ys v (7 : Int32) 7 h) (hr : r = prb ys v (7 : Int32) 7 h) (he0 : e1 = f_step (-1 : Int32) (0 : Int32) h v ys (8 : Int32)) (he1 : e2 = f_step e1 (1 : Int32) h v ys (8 : Int32)) (he2 : e3 = f_step e2 (2 : Int32) h v ys (8 : Int32)) (he3 : e4 = f_step e3 (3 : Int32) h v ys (8 : Int32)) (he4 : e5 = f_step e4 (4 : Int32) h v ys (8 : Int32)) (he5 : e6 = f_step e5 (5 : Int32) h v ys (8 : Int32)) (he6 : e7 = f_step e6 (6 : Int32) h v ys (8 : Int32)) (he7 : e8 = f_step e7 (7 : Int32) h v ys (8 : Int32)) : ¬ e8.toInt < 0 ∧ r = e8 := by
  obtain ⟨i0, s0, i1, s1, i2, s2, i3, s3, i4, s4, i5, s5, i6, s6, i7, s7⟩ := sl_8 h0 h1
  rw [st_eq] at he0
  rw [st_eq] at he1
  rw [st_eq] at he2
  rw [st_eq] at he3
  rw [st_eq] at he4
  rw [st_eq] at he5
  rw [st_eq] at he6
  rw [st_eq] at he7
  rw [← i0] at he0 s0
  rw [← i1] at he1 s1
  rw [← i2] at he2 s2
  rw [← i3] at he3 s3
  rw [← i4] at he4 s4
  rw [← i5] at he5 s5
  rw [← i6] at he6 s6
  rw [← i7] at he7 s7
  have w : ((-1 : Int32)).toInt = -1 := rfl
  by_cases c0 : hit ys v (itr (7 : Int32) 0 h)
  · skip
    rw [if_neg (by decide), if_pos c0] at he0
    rw [if_pos (Or.inl (by rw [he0]; exact s0))] at he1
    rw [if_pos (Or.inl (by rw [he1, he0]; exact s0))] at he2
    rw [if_pos (Or.inl (by rw [he2, he1, he0]; exact s0))] at he3
    rw [if_pos (Or.inl (by rw [he3, he2, he1, he0]; exact s0))] at he4
    rw [if_pos (Or.inl (by rw [he4, he3, he2, he1, he0]; exact s0))] at he5
    rw [if_pos (Or.inl (by rw [he5, he4, he3, he2, he1, he0]; exact s0))] at he6
    rw [if_pos (Or.inl (by rw [he6, he5, he4, he3, he2, he1, he0]; exact s0))] at he7
    refine ⟨by rw [he7, he6, he5, he4, he3, he2, he1, he0]; omega, ?_⟩
    rw [he7, he6, he5, he4, he3, he2, he1, he0]; exact hr.trans (prb_hit _ c0)
  by_cases c1 : hit ys v (itr (7 : Int32) 1 h)
  · skip
    rw [if_neg (by decide), if_neg c0] at he0
    subst he0
    rw [if_neg (by decide), if_pos c1] at he1
    rw [if_pos (Or.inl (by rw [he1]; exact s1))] at he2
    rw [if_pos (Or.inl (by rw [he2, he1]; exact s1))] at he3
    rw [if_pos (Or.inl (by rw [he3, he2, he1]; exact s1))] at he4
    rw [if_pos (Or.inl (by rw [he4, he3, he2, he1]; exact s1))] at he5
    rw [if_pos (Or.inl (by rw [he5, he4, he3, he2, he1]; exact s1))] at he6
    rw [if_pos (Or.inl (by rw [he6, he5, he4, he3, he2, he1]; exact s1))] at he7
    refine ⟨by rw [he7, he6, he5, he4, he3, he2, he1]; omega, ?_⟩
    rw [he7, he6, he5, he4, he3, he2, he1]; exact hr.trans ((prb_miss c0).trans (prb_hit _ c1))
  by_cases c2 : hit ys v (itr (7 : Int32) 2 h)
  · skip
    rw [if_neg (by decide), if_neg c0] at he0
    subst he0
    rw [if_neg (by decide), if_neg c1] at he1
    subst he1
    rw [if_neg (by decide), if_pos c2] at he2
    rw [if_pos (Or.inl (by rw [he2]; exact s2))] at he3
    rw [if_pos (Or.inl (by rw [he3, he2]; exact s2))] at he4
    rw [if_pos (Or.inl (by rw [he4, he3, he2]; exact s2))] at he5
    rw [if_pos (Or.inl (by rw [he5, he4, he3, he2]; exact s2))] at he6
    rw [if_pos (Or.inl (by rw [he6, he5, he4, he3, he2]; exact s2))] at he7
    refine ⟨by rw [he7, he6, he5, he4, he3, he2]; omega, ?_⟩
    rw [he7, he6, he5, he4, he3, he2]; exact hr.trans ((prb_miss c0).trans ((prb_miss c1).trans (prb_hit _ c2)))
  by_cases c3 : hit ys v (itr (7 : Int32) 3 h)
  · skip
    rw [if_neg (by decide), if_neg c0] at he0
    subst he0
    rw [if_neg (by decide), if_neg c1] at he1
    subst he1
    rw [if_neg (by decide), if_neg c2] at he2
    subst he2
    rw [if_neg (by decide), if_pos c3] at he3
    rw [if_pos (Or.inl (by rw [he3]; exact s3))] at he4
    rw [if_pos (Or.inl (by rw [he4, he3]; exact s3))] at he5
    rw [if_pos (Or.inl (by rw [he5, he4, he3]; exact s3))] at he6
    rw [if_pos (Or.inl (by rw [he6, he5, he4, he3]; exact s3))] at he7
    refine ⟨by rw [he7, he6, he5, he4, he3]; omega, ?_⟩
    rw [he7, he6, he5, he4, he3]; exact hr.trans ((prb_miss c0).trans ((prb_miss c1).trans ((prb_miss c2).trans (prb_hit _ c3))))
  by_cases c4 : hit ys v (itr (7 : Int32) 4 h)
  · skip
    rw [if_neg (by decide), if_neg c0] at he0
    subst he0
    rw [if_neg (by decide), if_neg c1] at he1
    subst he1
    rw [if_neg (by decide), if_neg c2] at he2
    subst he2
    rw [if_neg (by decide), if_neg c3] at he3
    subst he3
    rw [if_neg (by decide), if_pos c4] at he4
    rw [if_pos (Or.inl (by rw [he4]; exact s4))] at he5
    rw [if_pos (Or.inl (by rw [he5, he4]; exact s4))] at he6
    rw [if_pos (Or.inl (by rw [he6, he5, he4]; exact s4))] at he7
    refine ⟨by rw [he7, he6, he5, he4]; omega, ?_⟩
    rw [he7, he6, he5, he4]; exact hr.trans ((prb_miss c0).trans ((prb_miss c1).trans ((prb_miss c2).trans ((prb_miss c3).trans (prb_hit _ c4)))))
  by_cases c5 : hit ys v (itr (7 : Int32) 5 h)
  · skip
    rw [if_neg (by decide), if_neg c0] at he0
    subst he0
    rw [if_neg (by decide), if_neg c1] at he1
    subst he1
    rw [if_neg (by decide), if_neg c2] at he2
    subst he2
    rw [if_neg (by decide), if_neg c3] at he3
    subst he3
    rw [if_neg (by decide), if_neg c4] at he4
    subst he4
    rw [if_neg (by decide), if_pos c5] at he5
    rw [if_pos (Or.inl (by rw [he5]; exact s5))] at he6
    rw [if_pos (Or.inl (by rw [he6, he5]; exact s5))] at he7
    refine ⟨by rw [he7, he6, he5]; omega, ?_⟩
    rw [he7, he6, he5]; exact hr.trans ((prb_miss c0).trans ((prb_miss c1).trans ((prb_miss c2).trans ((prb_miss c3).trans ((prb_miss c4).trans (prb_hit _ c5))))))
  by_cases c6 : hit ys v (itr (7 : Int32) 6 h)
  · skip
    rw [if_neg (by decide), if_neg c0] at he0
    subst he0
    rw [if_neg (by decide), if_neg c1] at he1
    subst he1
    rw [if_neg (by decide), if_neg c2] at he2
    subst he2
    rw [if_neg (by decide), if_neg c3] at he3
    subst he3
    rw [if_neg (by decide), if_neg c4] at he4
    subst he4
    rw [if_neg (by decide), if_neg c5] at he5
    subst he5
    rw [if_neg (by decide), if_pos c6] at he6
    rw [if_pos (Or.inl (by rw [he6]; exact s6))] at he7
    refine ⟨by rw [he7, he6]; omega, ?_⟩
    rw [he7, he6]; exact hr.trans ((prb_miss c0).trans ((prb_miss c1).trans ((prb_miss c2).trans ((prb_miss c3).trans ((prb_miss c4).trans ((prb_miss c5).trans (prb_hit _ c6)))))))
  by_cases c7 : hit ys v (itr (7 : Int32) 7 h)
  · skip
    rw [if_neg (by decide), if_neg c0] at he0
    subst he0
    rw [if_neg (by decide), if_neg c1] at he1
    subst he1
    rw [if_neg (by decide), if_neg c2] at he2
    subst he2
    rw [if_neg (by decide), if_neg c3] at he3
    subst he3
    rw [if_neg (by decide), if_neg c4] at he4
    subst he4
    rw [if_neg (by decide), if_neg c5] at he5
    subst he5
    rw [if_neg (by decide), if_neg c6] at he6
    subst he6
    rw [if_neg (by decide), if_pos c7] at he7
    refine ⟨by rw [he7]; omega, ?_⟩
    rw [he7]; exact hr.trans ((prb_miss c0).trans ((prb_miss c1).trans ((prb_miss c2).trans ((prb_miss c3).trans ((prb_miss c4).trans ((prb_miss c5).trans ((prb_miss c6).trans (prb_hit _ c7))))))))
  exfalso
  rcases hf with q | q | q | q | q | q | q | q
  · exact c0 q
  · exact c1 q
  · exact c2 q
  · exact c3 q
  · exact c4 q
  · exact c5 q
  · exact c6 q
  · exact c7 q
theorem own_k3 {x v : Int32} (hv : v = ((x &&& (2147483647 : Int32)) % (3 : Int32))) : v = 0 ∨ v = 1 ∨ v = 2 := by
  have h1 : (x &&& (2147483647 : Int32)).toInt = x.toInt % 2147483648 := c_mask x 2147483647 31 (by decide) (by decide)
  have h2 := (c_irem (x &&& (2147483647 : Int32)) 3 3 rfl).1 (by omega)
  rw [← hv] at h2
  have h3 : v.toInt = 0 ∨ v.toInt = 1 ∨ v.toInt = 2 := by omega
  rcases h3 with h | h | h
  · exact Or.inl (o_eq32 h)
  · exact Or.inr (Or.inl (o_eq32 h))
  · exact Or.inr (Or.inr (o_eq32 h))
theorem free_hit {N : Nat} {v s : Int32} (h0 : 0 ≤ s.toInt) (h1 : s.toInt < N) : hit (List.replicate N (-1 : Int32)) v s := by
  have := (o_nat h0).2
  refine Or.inl ?_
  rw [List.getD_eq_getElem?_getD, List.getElem?_replicate, if_pos (by omega)]; rfl
theorem pd_0 : parseMethodDescriptor "(I)[I" = some ⟨[.int], some (.array .int)⟩ := by decide +kernel
theorem pd_1 : parseMethodDescriptor "(I[I)I" = some ⟨[.int, (.array .int)], some .int⟩ := by decide +kernel
theorem pd_2 : parseMethodDescriptor "([IIIIIIII)V" = some ⟨[(.array .int), .int, .int, .int, .int, .int, .int, .int], none⟩ := by decide +kernel
theorem pd_3 : parseMethodDescriptor "(II[III)I" = some ⟨[.int, .int, (.array .int), .int, .int], some .int⟩ := by decide +kernel
def Q0 : Option Value → Heap → Prop := fun v _ => v = some (.int 1)
theorem pn_0 : plainFor x = true := plainFor_of_name (by first | (simp [plainName, overriddenIn]; done) | (simp [plainName, overriddenIn, x]; done) | decide +kernel)
theorem ef_0 (p0 : Int32) (p1 : Int32) (p2 : Int32) (p3 : Int32) (p4 : Int32) (p5 : Int32) (m : MethodId) : entryFrame m #[(.int p0), (.int p1), (.int p2), (.int p3), (.int p4), (.int p5)] maxLocals = mkF m 0 #[.val (.int p0), .val (.int p1), .val (.int p2), .val (.int p3), .val (.int p4), .val (.int p5), .unset, .unset, .unset, .unset, .unset, .unset, .unset, .unset, .unset, .unset, .unset, .unset, .unset, .unset, .unset, .unset] [] := by first | (simp [entryFrame, mkF, argsToLocals, Value.category, maxLocals]; done) | rfl
set_option maxRecDepth 65536 in
set_option maxHeartbeats 40000000 in
theorem ct_0 (l : Launch) (Z : State) (a0 : Array Value) (hw : ∀ d ∈ tables_1, d.before a0 Z = true) (ws : List Jvm.Cond) (p0 : Int32) (p1 : Int32) (p2 : Int32) (p3 : Int32) (p4 : Int32) (p5 : Int32) (h0 : Heap) (n0 : Nat) (hn : n0 ≤ h0.size) : Ct l x code maxLocals ret ws room_1 Z h0 n0 #[(.int p0), (.int p1), (.int p2), (.int p3), (.int p4), (.int p5)] (Q0) := by
  refine o_body pn_0 hn (ef_0 p0 p1 p2 p3 p4 p5) ?_
  intro p e s m below meth c T S
  refine o_iloadN S rfl at_0 rfl (q := 1) ?_
  refine o_ldc S (o_wd (i := 0) hw rfl) at_1 rfl (q := 3) ?_
  refine o_iand S at_3 rfl (q := 4) ?_
  refine o_istoreV S (L' := fun v1 => #[.val (.int p0), .val (.int p1), .val (.int p2), .val (.int p3), .val (.int p4), .val (.int p5), .val (.int v1), .unset, .unset, .unset, .unset, .unset, .unset, .unset, .unset, .unset, .unset, .unset, .unset, .unset, .unset, .unset]) (fun _ => rfl) at_4 rfl (q := 6) (fun v1 hv1 => ?_)
  refine o_iload S rfl at_6 rfl (q := 8) ?_
  refine o_ldc S (o_wd (i := 0) hw rfl) at_8 rfl (q := 10) ?_
  refine o_iand S at_10 rfl (q := 11) ?_
  refine o_iconst S (z := 3) rfl at_11 rfl (q := 12) ?_
  refine o_irem S (by decide) at_12 rfl (q := 13) ?_
  refine o_istoreV S (L' := fun v2 => #[.val (.int p0), .val (.int p1), .val (.int p2), .val (.int p3), .val (.int p4), .val (.int p5), .val (.int v1), .val (.int v2), .unset, .unset, .unset, .unset, .unset, .unset, .unset, .unset, .unset, .unset, .unset, .unset, .unset, .unset]) (fun _ => rfl) at_13 rfl (q := 15) (fun v2 hv2 => ?_)
  rcases own_k3 hv2 with ho | ho | ho
  · subst ho
    refine o_iload S rfl at_15 rfl (q := 17) ?_
    refine o_callS S (W := 0) (argsL := [(.int (0 : Int32))]) (rest := []) (o_wd (i := 1) hw rfl) (o_wd (i := 2) hw rfl) (o_wd (i := 3) hw rfl) (o_wd (i := 4) hw rfl) (by decide) (ct_1 l Z a0 hw (0 : Int32) h0 n0 (o_n0 S) ) (by decide) (by decide) rfl rfl pd_0 rfl (Nat.le_of_eq rfl) at_17 rfl (q := 20) (by decide) (by decide) (fun T h3 rr4 S hQ => ?_)
    obtain ⟨b5, g_b5, sz'_b5, hv, K1, A_b5'⟩ := hQ
    subst hv
    have A_b5 := A_b5'
    show Wp p e below (Po s n0 room_1 Q0) T (mkF m 20 #[.val (.int p0), .val (.int p1), .val (.int p2), .val (.int p3), .val (.int p4), .val (.int p5), .val (.int v1), .val (.int (0 : Int32)), .unset, .unset, .unset, .unset, .unset, .unset, .unset, .unset, .unset, .unset, .unset, .unset, .unset, .unset] [(.ref b5)])
    have A_b5 : IA Z h3 b5 .int [(-1 : Int32), (-1 : Int32)] := by have q := A_b5; rw [frL, if_pos rfl] at q; exact q
    refine o_astore S (L' := #[.val (.int p0), .val (.int p1), .val (.int p2), .val (.int p3), .val (.int p4), .val (.int p5), .val (.int v1), .val (.int (0 : Int32)), .val (.ref b5), .unset, .unset, .unset, .unset, .unset, .unset, .unset, .unset, .unset, .unset, .unset, .unset, .unset]) rfl rfl at_20 rfl (q := 22) ?_
    refine o_iload S rfl at_22 rfl (q := 24) ?_
    refine o_callS S (W := 0) (argsL := [(.int (0 : Int32))]) (rest := []) (o_wd (i := 1) hw rfl) (o_wd (i := 2) hw rfl) (o_wd (i := 3) hw rfl) (o_wd (i := 4) hw rfl) (by decide) (ct_1 l Z a0 hw (0 : Int32) h3 n0 (o_n0 S) ) (by decide) (by decide) rfl rfl pd_0 rfl (Nat.le_of_eq rfl) at_24 rfl (q := 27) (by decide) (by decide) (fun T h6 rr7 S hQ => ?_)
    obtain ⟨b8, g_b8, sz'_b8, hv, K1, A_b8'⟩ := hQ
    subst hv
    have ne_b5_b8 : b5 ≠ b8 := Nat.ne_of_lt (Nat.lt_of_lt_of_le A_b5.lt sz'_b8)
    have A_b5 := A_b5.keep K1 nin0
    have A_b8 := A_b8'
    show Wp p e below (Po s n0 room_1 Q0) T (mkF m 27 #[.val (.int p0), .val (.int p1), .val (.int p2), .val (.int p3), .val (.int p4), .val (.int p5), .val (.int v1), .val (.int (0 : Int32)), .val (.ref b5), .unset, .unset, .unset, .unset, .unset, .unset, .unset, .unset, .unset, .unset, .unset, .unset, .unset] [(.ref b8)])
    have A_b8 : IA Z h6 b8 .int [(-1 : Int32), (-1 : Int32)] := by have q := A_b8; rw [frL, if_pos rfl] at q; exact q
    refine o_astore S (L' := #[.val (.int p0), .val (.int p1), .val (.int p2), .val (.int p3), .val (.int p4), .val (.int p5), .val (.int v1), .val (.int (0 : Int32)), .val (.ref b5), .val (.ref b8), .unset, .unset, .unset, .unset, .unset, .unset, .unset, .unset, .unset, .unset, .unset, .unset]) rfl rfl at_27 rfl (q := 29) ?_
    refine o_aload S rfl rfl at_29 rfl (q := 31) ?_
    refine o_arraylength S A_b8 (z := (2 : Int32)) rfl at_31 rfl (q := 32) ?_
    refine o_istore S (L' := #[.val (.int p0), .val (.int p1), .val (.int p2), .val (.int p3), .val (.int p4), .val (.int p5), .val (.int v1), .val (.int (0 : Int32)), .val (.ref b5), .val (.ref b8), .val (.int (2 : Int32)), .unset, .unset, .unset, .unset, .unset, .unset, .unset, .unset, .unset, .unset, .unset]) rfl at_32 rfl (q := 34) ?_
    refine o_iload S rfl at_34 rfl (q := 36) ?_
    refine o_iconst S (z := 1) rfl at_36 rfl (q := 37) ?_
    refine o_isub S at_37 rfl (q := 38) ?_
    refine o_istoreV S (L' := fun v9 => #[.val (.int p0), .val (.int p1), .val (.int p2), .val (.int p3), .val (.int p4), .val (.int p5), .val (.int v1), .val (.int (0 : Int32)), .val (.ref b5), .val (.ref b8), .val (.int (2 : Int32)), .val (.int v9), .unset, .unset, .unset, .unset, .unset, .unset, .unset, .unset, .unset, .unset]) (fun _ => rfl) at_38 rfl (q := 40) (fun v9 hv9 => ?_)
    have q11 : v9 = (1 : Int32) := by rw [hv9]; decide
    subst q11
    refine o_iload S rfl at_40 rfl (q := 42) ?_
    refine o_iconst S (z := 1) rfl at_42 rfl (q := 43) ?_
    refine o_ishr S at_43 rfl (q := 44) ?_
    refine o_istoreV S (L' := fun v10 => #[.val (.int p0), .val (.int p1), .val (.int p2), .val (.int p3), .val (.int p4), .val (.int p5), .val (.int v1), .val (.int (0 : Int32)), .val (.ref b5), .val (.ref b8), .val (.int (2 : Int32)), .val (.int (1 : Int32)), .val (.int v10), .unset, .unset, .unset, .unset, .unset, .unset, .unset, .unset, .unset]) (fun _ => rfl) at_44 rfl (q := 46) (fun v10 hv10 => ?_)
    have q12 : v10 = (1 : Int32) := by rw [hv10]; decide
    subst q12
    refine o_iload S rfl at_46 rfl (q := 48) ?_
    refine o_aload S rfl rfl at_48 rfl (q := 50) ?_
    refine o_callS0 S (W := 0) (argsL := [(.int v1), (.ref b5)]) (rest := []) (o_wd (i := 6) hw rfl) (o_wd (i := 7) hw rfl) (o_wd (i := 8) hw rfl) (o_wd (i := 9) hw rfl) (by decide) (ct_2 l Z a0 hw v1 b5 ([(-1 : Int32), (-1 : Int32)]) (2 : Int32) 0 h6 n0 (o_n0 S) A_b5 rfl (by show (2 : Int) = _; rfl) (by decide) (free_hit (N := 2) (own_mask (L := 2) rfl (by decide)).1 (own_mask (L := 2) rfl (by decide)).2)) (by decide) (by decide) rfl rfl pd_1 rfl (Nat.le_of_eq rfl) at_50 rfl (q := 53) (by decide) (by decide) rfl (st' := [(.int (prb ([(-1 : Int32), (-1 : Int32)]) v1 ((2 : Int32) - (1 : Int32)) 0 (s0F v1 (2 : Int32))))]) (fun T S => ?_)
    refine o_istoreV S (L' := fun hh => #[.val (.int p0), .val (.int p1), .val (.int p2), .val (.int p3), .val (.int p4), .val (.int p5), .val (.int v1), .val (.int (0 : Int32)), .val (.ref b5), .val (.ref b8), .val (.int (2 : Int32)), .val (.int (1 : Int32)), .val (.int (1 : Int32)), .val (.int hh), .unset, .unset, .unset, .unset, .unset, .unset, .unset, .unset]) (fun _ => rfl) at_53 rfl (q := 55) (fun hh hhh => ?_)
    have hh0 : 0 ≤ hh.toInt ∧ hh.toInt < 2 := by rw [hhh]; exact own_mask (L := 2) rfl (by decide)
    refine o_iload S rfl at_55 rfl (q := 57) ?_
    refine o_if S at_57 (by decide) (q' := 67) (by decide) (q := 60) rfl (hs_lt (a := hh.toInt) (b := 0) rfl rfl).1 (hs_lt (a := hh.toInt) (b := 0) rfl rfl).2 (fun hc57 => ?_) (fun hc57 => ?_)
    · exact absurd hc57 (by omega)
    · skip
      refine o_iload S rfl at_60 rfl (q := 62) ?_
      refine o_iload S rfl at_62 rfl (q := 64) ?_
      refine o_icmp S at_64 (by decide) (q' := 69) (by decide) (q := 67) rfl (hs_lt (a := hh.toInt) (b := 2) rfl rfl).1 (hs_lt (a := hh.toInt) (b := 2) rfl rfl).2 (fun hc64 => ?_) (fun hc64 => ?_)
      · skip
        refine o_iloadN S rfl at_69 rfl (q := 70) ?_
        refine o_ldc S (o_wd (i := 0) hw rfl) at_70 rfl (q := 72) ?_
        refine o_iand S at_72 rfl (q := 73) ?_
        refine o_istoreV S (L' := fun v11 => #[.val (.int p0), .val (.int p1), .val (.int p2), .val (.int p3), .val (.int p4), .val (.int p5), .val (.int v1), .val (.int (0 : Int32)), .val (.ref b5), .val (.ref b8), .val (.int (2 : Int32)), .val (.int (1 : Int32)), .val (.int (1 : Int32)), .val (.int hh), .val (.int v11), .unset, .unset, .unset, .unset, .unset, .unset, .unset]) (fun _ => rfl) at_73 rfl (q := 75) (fun v11 hv11 => ?_)
        refine o_iloadN S rfl at_75 rfl (q := 76) ?_
        refine o_ldc S (o_wd (i := 0) hw rfl) at_76 rfl (q := 78) ?_
        refine o_iand S at_78 rfl (q := 79) ?_
        refine o_istoreV S (L' := fun v12 => #[.val (.int p0), .val (.int p1), .val (.int p2), .val (.int p3), .val (.int p4), .val (.int p5), .val (.int v1), .val (.int (0 : Int32)), .val (.ref b5), .val (.ref b8), .val (.int (2 : Int32)), .val (.int (1 : Int32)), .val (.int (1 : Int32)), .val (.int hh), .val (.int v11), .val (.int v12), .unset, .unset, .unset, .unset, .unset, .unset]) (fun _ => rfl) at_79 rfl (q := 81) (fun v12 hv12 => ?_)
        refine o_iload S rfl at_81 rfl (q := 83) ?_
        refine o_bipush S (z := 6) rfl at_83 rfl (q := 85) ?_
        refine o_iushr S at_85 rfl (q := 86) ?_
        refine o_iconst S (z := 1) rfl at_86 rfl (q := 87) ?_
        refine o_iand S at_87 rfl (q := 88) ?_
        refine o_cutS S (G := fun T => ∀ (v13 : Int32), v13 = (if (((p4.toUInt32 >>> ((6 : Int32) &&& 31).toUInt32).toInt32) &&& (1 : Int32)) = (0 : Int32) then v11 else v1) → Wp p e below (Po s n0 room_1 Q0) T (mkF m 98 #[.val (.int p0), .val (.int p1), .val (.int p2), .val (.int p3), .val (.int p4), .val (.int p5), .val (.int v1), .val (.int (0 : Int32)), .val (.ref b5), .val (.ref b8), .val (.int (2 : Int32)), .val (.int (1 : Int32)), .val (.int (1 : Int32)), .val (.int hh), .val (.int v11), .val (.int v12), .unset, .unset, .unset, .unset, .unset, .unset] [(.int v13)])) (fun k88 => ?_) (fun T S v13 hv13 => ?_)
        · skip
          refine o_if S at_88 (by decide) (q' := 96) (by decide) (q := 91) rfl hs_eq.1 hs_eq.2 (fun hc88 => ?_) (fun hc88 => ?_)
          · skip
            refine o_iload S rfl at_96 rfl (q := 98) ?_
            exact k88 _ S _ (by rw [if_pos hc88])
          · skip
            refine o_iload S rfl at_91 rfl (q := 93) ?_
            refine o_goto S at_93 (by decide) (q := 98) (by decide) ?_
            exact k88 _ S _ (by rw [if_neg hc88])
        refine o_istore S (L' := #[.val (.int p0), .val (.int p1), .val (.int p2), .val (.int p3), .val (.int p4), .val (.int p5), .val (.int v1), .val (.int (0 : Int32)), .val (.ref b5), .val (.ref b8), .val (.int (2 : Int32)), .val (.int (1 : Int32)), .val (.int (1 : Int32)), .val (.int hh), .val (.int v11), .val (.int v12), .val (.int v13), .unset, .unset, .unset, .unset, .unset]) rfl at_98 rfl (q := 100) ?_
        refine o_iload S rfl at_100 rfl (q := 102) ?_
        refine o_istore S (L' := #[.val (.int p0), .val (.int p1), .val (.int p2), .val (.int p3), .val (.int p4), .val (.int p5), .val (.int v1), .val (.int (0 : Int32)), .val (.ref b5), .val (.ref b8), .val (.int (2 : Int32)), .val (.int (1 : Int32)), .val (.int (1 : Int32)), .val (.int hh), .val (.int v11), .val (.int v12), .val (.int v13), .val (.int v12), .unset, .unset, .unset, .unset]) rfl at_102 rfl (q := 104) ?_
        refine o_iload S rfl at_104 rfl (q := 106) ?_
        refine o_sipush S (z := 21845) rfl at_106 rfl (q := 109) ?_
        refine o_ixor S at_109 rfl (q := 110) ?_
        refine o_istoreV S (L' := fun v14 => #[.val (.int p0), .val (.int p1), .val (.int p2), .val (.int p3), .val (.int p4), .val (.int p5), .val (.int v1), .val (.int (0 : Int32)), .val (.ref b5), .val (.ref b8), .val (.int (2 : Int32)), .val (.int (1 : Int32)), .val (.int (1 : Int32)), .val (.int hh), .val (.int v11), .val (.int v12), .val (.int v13), .val (.int v12), .val (.int v14), .unset, .unset, .unset]) (fun _ => rfl) at_110 rfl (q := 112) (fun v14 hv14 => ?_)
        refine o_iload S rfl at_112 rfl (q := 114) ?_
        refine o_sipush S (z := 10922) rfl at_114 rfl (q := 117) ?_
        refine o_ixor S at_117 rfl (q := 118) ?_
        refine o_istoreV S (L' := fun v15 => #[.val (.int p0), .val (.int p1), .val (.int p2), .val (.int p3), .val (.int p4), .val (.int p5), .val (.int v1), .val (.int (0 : Int32)), .val (.ref b5), .val (.ref b8), .val (.int (2 : Int32)), .val (.int (1 : Int32)), .val (.int (1 : Int32)), .val (.int hh), .val (.int v11), .val (.int v12), .val (.int v13), .val (.int v12), .val (.int v14), .val (.int v15), .unset, .unset]) (fun _ => rfl) at_118 rfl (q := 120) (fun v15 hv15 => ?_)
        have hl0 : ([(-1 : Int32), (-1 : Int32)]).length = 2 := rfl
        have hz0 : 2 ≤ frc ([(-1 : Int32), (-1 : Int32)]) := by decide
        refine o_aload S rfl rfl at_120 rfl (q := 122) ?_
        refine o_iconst S (z := 0) rfl at_122 rfl (q := 123) ?_
        refine o_iload S rfl at_123 rfl (q := 125) ?_
        refine o_iload S rfl at_125 rfl (q := 127) ?_
        refine o_iloadN S rfl at_127 rfl (q := 128) ?_
        refine o_iload S rfl at_128 rfl (q := 130) ?_
        refine o_iload S rfl at_130 rfl (q := 132) ?_
        refine o_iload S rfl at_132 rfl (q := 134) ?_
        refine o_callS S (W := 0) (argsL := [(.ref b8), (.int (0 : Int32)), (.int (1 : Int32)), (.int p4), (.int p3), (.int hh), (.int (1 : Int32)), (.int v13)]) (rest := []) (o_wd (i := 11) hw rfl) (o_wd (i := 12) hw rfl) (o_wd (i := 3) hw rfl) (o_wd (i := 13) hw rfl) (by decide) (ct_3 l Z a0 hw b8 (0 : Int32) (1 : Int32) p4 p3 hh (1 : Int32) v13 ([(-1 : Int32), (-1 : Int32)]) h6 n0 (o_n0 S) A_b8 g_b8 (by decide) (by rw [hl0]; decide)) (by decide) (by decide) rfl rfl pd_2 rfl (Nat.le_of_eq rfl) at_134 rfl (q := 137) (by decide) (by decide) (fun T h16 rr17 S hQ => ?_)
        obtain ⟨hv, K1, A_b8'⟩ := hQ
        subst hv
        have A_b5 := A_b5.keep K1 (ninS ne_b5_b8 nin0)
        have A_b8 := A_b8'
        show Wp p e below (Po s n0 room_1 Q0) T (mkF m 137 #[.val (.int p0), .val (.int p1), .val (.int p2), .val (.int p3), .val (.int p4), .val (.int p5), .val (.int v1), .val (.int (0 : Int32)), .val (.ref b5), .val (.ref b8), .val (.int (2 : Int32)), .val (.int (1 : Int32)), .val (.int (1 : Int32)), .val (.int hh), .val (.int v11), .val (.int v12), .val (.int v13), .val (.int v12), .val (.int v14), .val (.int v15), .unset, .unset] [])
        have hl1 : (plF (0 : Int32) (1 : Int32) p4 p3 hh (1 : Int32) v13 ([(-1 : Int32), (-1 : Int32)])).length = 2 := pl_len.trans hl0
        have hz1 : 1 ≤ frc (plF (0 : Int32) (1 : Int32) p4 p3 hh (1 : Int32) v13 ([(-1 : Int32), (-1 : Int32)])) := by have := pl_frc (p1 := (0 : Int32)) (p2 := (1 : Int32)) (p3 := p4) (p4 := p3) (p5 := hh) (p6 := (1 : Int32)) (p7 := v13) (xs := [(-1 : Int32), (-1 : Int32)]); have := hz0; omega
        refine o_aload S rfl rfl at_137 rfl (q := 139) ?_
        refine o_iconst S (z := 1) rfl at_139 rfl (q := 140) ?_
        refine o_iload S rfl at_140 rfl (q := 142) ?_
        refine o_iload S rfl at_142 rfl (q := 144) ?_
        refine o_iloadN S rfl at_144 rfl (q := 145) ?_
        refine o_iload S rfl at_145 rfl (q := 147) ?_
        refine o_iload S rfl at_147 rfl (q := 149) ?_
        refine o_iload S rfl at_149 rfl (q := 151) ?_
        refine o_callS S (W := 0) (argsL := [(.ref b8), (.int (1 : Int32)), (.int (1 : Int32)), (.int p4), (.int p3), (.int hh), (.int (1 : Int32)), (.int v12)]) (rest := []) (o_wd (i := 11) hw rfl) (o_wd (i := 12) hw rfl) (o_wd (i := 3) hw rfl) (o_wd (i := 13) hw rfl) (by decide) (ct_3 l Z a0 hw b8 (1 : Int32) (1 : Int32) p4 p3 hh (1 : Int32) v12 (plF (0 : Int32) (1 : Int32) p4 p3 hh (1 : Int32) v13 ([(-1 : Int32), (-1 : Int32)])) h16 n0 (o_n0 S) A_b8 g_b8 (by decide) (by rw [hl1]; decide)) (by decide) (by decide) rfl rfl pd_2 rfl (Nat.le_of_eq rfl) at_151 rfl (q := 154) (by decide) (by decide) (fun T h18 rr19 S hQ => ?_)
        obtain ⟨hv, K1, A_b8'⟩ := hQ
        subst hv
        have A_b5 := A_b5.keep K1 (ninS ne_b5_b8 nin0)
        have A_b8 := A_b8'
        show Wp p e below (Po s n0 room_1 Q0) T (mkF m 154 #[.val (.int p0), .val (.int p1), .val (.int p2), .val (.int p3), .val (.int p4), .val (.int p5), .val (.int v1), .val (.int (0 : Int32)), .val (.ref b5), .val (.ref b8), .val (.int (2 : Int32)), .val (.int (1 : Int32)), .val (.int (1 : Int32)), .val (.int hh), .val (.int v11), .val (.int v12), .val (.int v13), .val (.int v12), .val (.int v14), .val (.int v15), .unset, .unset] [])
        have hl2 : (plF (1 : Int32) (1 : Int32) p4 p3 hh (1 : Int32) v12 (plF (0 : Int32) (1 : Int32) p4 p3 hh (1 : Int32) v13 ([(-1 : Int32), (-1 : Int32)]))).length = 2 := pl_len.trans hl1
        have hz2 : 1 ≤ frc (plF (1 : Int32) (1 : Int32) p4 p3 hh (1 : Int32) v12 (plF (0 : Int32) (1 : Int32) p4 p3 hh (1 : Int32) v13 ([(-1 : Int32), (-1 : Int32)]))) := by rw [pl_skip (by decide)]; exact hz1
        refine o_aload S rfl rfl at_154 rfl (q := 156) ?_
        refine o_iconst S (z := 2) rfl at_156 rfl (q := 157) ?_
        refine o_iload S rfl at_157 rfl (q := 159) ?_
        refine o_iload S rfl at_159 rfl (q := 161) ?_
        refine o_iloadN S rfl at_161 rfl (q := 162) ?_
        refine o_iload S rfl at_162 rfl (q := 164) ?_
        refine o_iload S rfl at_164 rfl (q := 166) ?_
        refine o_iload S rfl at_166 rfl (q := 168) ?_
        refine o_callS S (W := 0) (argsL := [(.ref b8), (.int (2 : Int32)), (.int (1 : Int32)), (.int p4), (.int p3), (.int hh), (.int (1 : Int32)), (.int v14)]) (rest := []) (o_wd (i := 11) hw rfl) (o_wd (i := 12) hw rfl) (o_wd (i := 3) hw rfl) (o_wd (i := 13) hw rfl) (by decide) (ct_3 l Z a0 hw b8 (2 : Int32) (1 : Int32) p4 p3 hh (1 : Int32) v14 (plF (1 : Int32) (1 : Int32) p4 p3 hh (1 : Int32) v12 (plF (0 : Int32) (1 : Int32) p4 p3 hh (1 : Int32) v13 ([(-1 : Int32), (-1 : Int32)]))) h18 n0 (o_n0 S) A_b8 g_b8 (by decide) (by rw [hl2]; decide)) (by decide) (by decide) rfl rfl pd_2 rfl (Nat.le_of_eq rfl) at_168 rfl (q := 171) (by decide) (by decide) (fun T h20 rr21 S hQ => ?_)
        obtain ⟨hv, K1, A_b8'⟩ := hQ
        subst hv
        have A_b5 := A_b5.keep K1 (ninS ne_b5_b8 nin0)
        have A_b8 := A_b8'
        show Wp p e below (Po s n0 room_1 Q0) T (mkF m 171 #[.val (.int p0), .val (.int p1), .val (.int p2), .val (.int p3), .val (.int p4), .val (.int p5), .val (.int v1), .val (.int (0 : Int32)), .val (.ref b5), .val (.ref b8), .val (.int (2 : Int32)), .val (.int (1 : Int32)), .val (.int (1 : Int32)), .val (.int hh), .val (.int v11), .val (.int v12), .val (.int v13), .val (.int v12), .val (.int v14), .val (.int v15), .unset, .unset] [])
        have hl3 : (plF (2 : Int32) (1 : Int32) p4 p3 hh (1 : Int32) v14 (plF (1 : Int32) (1 : Int32) p4 p3 hh (1 : Int32) v12 (plF (0 : Int32) (1 : Int32) p4 p3 hh (1 : Int32) v13 ([(-1 : Int32), (-1 : Int32)])))).length = 2 := pl_len.trans hl2
        have hz3 : 1 ≤ frc (plF (2 : Int32) (1 : Int32) p4 p3 hh (1 : Int32) v14 (plF (1 : Int32) (1 : Int32) p4 p3 hh (1 : Int32) v12 (plF (0 : Int32) (1 : Int32) p4 p3 hh (1 : Int32) v13 ([(-1 : Int32), (-1 : Int32)])))) := by rw [pl_skip (by decide)]; exact hz2
        refine o_aload S rfl rfl at_171 rfl (q := 173) ?_
        refine o_iconst S (z := 3) rfl at_173 rfl (q := 174) ?_
        refine o_iload S rfl at_174 rfl (q := 176) ?_
        refine o_iload S rfl at_176 rfl (q := 178) ?_
        refine o_iloadN S rfl at_178 rfl (q := 179) ?_
        refine o_iload S rfl at_179 rfl (q := 181) ?_
        refine o_iload S rfl at_181 rfl (q := 183) ?_
        refine o_iload S rfl at_183 rfl (q := 185) ?_
        refine o_callS S (W := 0) (argsL := [(.ref b8), (.int (3 : Int32)), (.int (1 : Int32)), (.int p4), (.int p3), (.int hh), (.int (1 : Int32)), (.int v15)]) (rest := []) (o_wd (i := 11) hw rfl) (o_wd (i := 12) hw rfl) (o_wd (i := 3) hw rfl) (o_wd (i := 13) hw rfl) (by decide) (ct_3 l Z a0 hw b8 (3 : Int32) (1 : Int32) p4 p3 hh (1 : Int32) v15 (plF (2 : Int32) (1 : Int32) p4 p3 hh (1 : Int32) v14 (plF (1 : Int32) (1 : Int32) p4 p3 hh (1 : Int32) v12 (plF (0 : Int32) (1 : Int32) p4 p3 hh (1 : Int32) v13 ([(-1 : Int32), (-1 : Int32)])))) h20 n0 (o_n0 S) A_b8 g_b8 (by decide) (by rw [hl3]; decide)) (by decide) (by decide) rfl rfl pd_2 rfl (Nat.le_of_eq rfl) at_185 rfl (q := 188) (by decide) (by decide) (fun T h22 rr23 S hQ => ?_)
        obtain ⟨hv, K1, A_b8'⟩ := hQ
        subst hv
        have A_b5 := A_b5.keep K1 (ninS ne_b5_b8 nin0)
        have A_b8 := A_b8'
        show Wp p e below (Po s n0 room_1 Q0) T (mkF m 188 #[.val (.int p0), .val (.int p1), .val (.int p2), .val (.int p3), .val (.int p4), .val (.int p5), .val (.int v1), .val (.int (0 : Int32)), .val (.ref b5), .val (.ref b8), .val (.int (2 : Int32)), .val (.int (1 : Int32)), .val (.int (1 : Int32)), .val (.int hh), .val (.int v11), .val (.int v12), .val (.int v13), .val (.int v12), .val (.int v14), .val (.int v15), .unset, .unset] [])
        have hl4 : (plF (3 : Int32) (1 : Int32) p4 p3 hh (1 : Int32) v15 (plF (2 : Int32) (1 : Int32) p4 p3 hh (1 : Int32) v14 (plF (1 : Int32) (1 : Int32) p4 p3 hh (1 : Int32) v12 (plF (0 : Int32) (1 : Int32) p4 p3 hh (1 : Int32) v13 ([(-1 : Int32), (-1 : Int32)]))))).length = 2 := pl_len.trans hl3
        have hz4 : 1 ≤ frc (plF (3 : Int32) (1 : Int32) p4 p3 hh (1 : Int32) v15 (plF (2 : Int32) (1 : Int32) p4 p3 hh (1 : Int32) v14 (plF (1 : Int32) (1 : Int32) p4 p3 hh (1 : Int32) v12 (plF (0 : Int32) (1 : Int32) p4 p3 hh (1 : Int32) v13 ([(-1 : Int32), (-1 : Int32)]))))) := by rw [pl_skip (by decide)]; exact hz3
        obtain ⟨ys, hys⟩ : ∃ ys, ys = (plF (3 : Int32) (1 : Int32) p4 p3 hh (1 : Int32) v15 (plF (2 : Int32) (1 : Int32) p4 p3 hh (1 : Int32) v14 (plF (1 : Int32) (1 : Int32) p4 p3 hh (1 : Int32) v12 (plF (0 : Int32) (1 : Int32) p4 p3 hh (1 : Int32) v13 ([(-1 : Int32), (-1 : Int32)]))))) := ⟨_, rfl⟩
        rw [← hys] at A_b8 hl4 hz4
        have hyL : ((2 : Int32)).toInt = ys.length := by rw [hl4]; rfl
        have hyN : Int32.ofNat ys.length = (2 : Int32) := by rw [hl4]; rfl
        have hfq := fnd_2 (v := v1) hl4 (by omega) hh0.1 hh0.2
        have hfn : fnd ys v1 ((2 : Int32) - (1 : Int32)) 1 (s0F v1 (2 : Int32)) := by have q : hh = s0F v1 (2 : Int32) := hhh; rw [← q]; exact hfq
        refine o_iload S rfl at_188 rfl (q := 190) ?_
        refine o_aload S rfl rfl at_190 rfl (q := 192) ?_
        refine o_callS0 S (W := 0) (argsL := [(.int v1), (.ref b8)]) (rest := []) (o_wd (i := 6) hw rfl) (o_wd (i := 7) hw rfl) (o_wd (i := 8) hw rfl) (o_wd (i := 9) hw rfl) (by decide) (ct_2 l Z a0 hw v1 b8 ys (2 : Int32) 1 h22 n0 (o_n0 S) A_b8 hyN hyL (by decide) hfn) (by decide) (by decide) rfl rfl pd_1 rfl (Nat.le_of_eq rfl) at_192 rfl (q := 195) (by decide) (by decide) rfl (st' := [(.int (prb ys v1 ((2 : Int32) - (1 : Int32)) 1 (s0F v1 (2 : Int32))))]) (fun T S => ?_)
        refine o_istoreV S (L' := fun rr0 => #[.val (.int p0), .val (.int p1), .val (.int p2), .val (.int p3), .val (.int p4), .val (.int p5), .val (.int v1), .val (.int (0 : Int32)), .val (.ref b5), .val (.ref b8), .val (.int (2 : Int32)), .val (.int (1 : Int32)), .val (.int (1 : Int32)), .val (.int hh), .val (.int v11), .val (.int v12), .val (.int v13), .val (.int v12), .val (.int v14), .val (.int v15), .val (.int rr0), .unset]) (fun _ => rfl) at_195 rfl (q := 197) (fun rr0 hrr0 => ?_)
        refine o_iconst S (z := -1) rfl at_197 rfl (q := 198) ?_
        refine o_istore S (L' := #[.val (.int p0), .val (.int p1), .val (.int p2), .val (.int p3), .val (.int p4), .val (.int p5), .val (.int v1), .val (.int (0 : Int32)), .val (.ref b5), .val (.ref b8), .val (.int (2 : Int32)), .val (.int (1 : Int32)), .val (.int (1 : Int32)), .val (.int hh), .val (.int v11), .val (.int v12), .val (.int v13), .val (.int v12), .val (.int v14), .val (.int v15), .val (.int rr0), .val (.int (-1 : Int32))]) rfl at_198 rfl (q := 200) ?_
        refine o_iload S rfl at_200 rfl (q := 202) ?_
        refine o_iconst S (z := 0) rfl at_202 rfl (q := 203) ?_
        refine o_aload S rfl rfl at_203 rfl (q := 205) ?_
        refine o_iload S rfl at_205 rfl (q := 207) ?_
        refine o_iload S rfl at_207 rfl (q := 209) ?_
        refine o_callS0 S (W := 0) (argsL := [(.int (-1 : Int32)), (.int (0 : Int32)), (.ref b8), (.int hh), (.int v1)]) (rest := []) (o_wd (i := 14) hw rfl) (o_wd (i := 15) hw rfl) (o_wd (i := 3) hw rfl) (o_wd (i := 16) hw rfl) (by decide) (ct_4 l Z a0 hw (-1 : Int32) (0 : Int32) b8 hh v1 ys (2 : Int32) h22 n0 (o_n0 S) A_b8 hyN hyL (by decide)) (by decide) (by decide) rfl rfl pd_3 rfl (Nat.le_of_eq rfl) at_209 rfl (q := 212) (by decide) (by decide) rfl (st' := [(.int (f_step (-1 : Int32) (0 : Int32) hh v1 ys (2 : Int32)))]) (fun T S => ?_)
        refine o_istoreV S (L' := fun e1 => #[.val (.int p0), .val (.int p1), .val (.int p2), .val (.int p3), .val (.int p4), .val (.int p5), .val (.int v1), .val (.int (0 : Int32)), .val (.ref b5), .val (.ref b8), .val (.int (2 : Int32)), .val (.int (1 : Int32)), .val (.int (1 : Int32)), .val (.int hh), .val (.int v11), .val (.int v12), .val (.int v13), .val (.int v12), .val (.int v14), .val (.int v15), .val (.int rr0), .val (.int e1)]) (fun _ => rfl) at_212 rfl (q := 214) (fun e1 he1 => ?_)
        refine o_iload S rfl at_214 rfl (q := 216) ?_
        refine o_iconst S (z := 1) rfl at_216 rfl (q := 217) ?_
        refine o_aload S rfl rfl at_217 rfl (q := 219) ?_
        refine o_iload S rfl at_219 rfl (q := 221) ?_
        refine o_iload S rfl at_221 rfl (q := 223) ?_
        refine o_callS0 S (W := 0) (argsL := [(.int e1), (.int (1 : Int32)), (.ref b8), (.int hh), (.int v1)]) (rest := []) (o_wd (i := 14) hw rfl) (o_wd (i := 15) hw rfl) (o_wd (i := 3) hw rfl) (o_wd (i := 16) hw rfl) (by decide) (ct_4 l Z a0 hw e1 (1 : Int32) b8 hh v1 ys (2 : Int32) h22 n0 (o_n0 S) A_b8 hyN hyL (by decide)) (by decide) (by decide) rfl rfl pd_3 rfl (Nat.le_of_eq rfl) at_223 rfl (q := 226) (by decide) (by decide) rfl (st' := [(.int (f_step e1 (1 : Int32) hh v1 ys (2 : Int32)))]) (fun T S => ?_)
        refine o_istoreV S (L' := fun e2 => #[.val (.int p0), .val (.int p1), .val (.int p2), .val (.int p3), .val (.int p4), .val (.int p5), .val (.int v1), .val (.int (0 : Int32)), .val (.ref b5), .val (.ref b8), .val (.int (2 : Int32)), .val (.int (1 : Int32)), .val (.int (1 : Int32)), .val (.int hh), .val (.int v11), .val (.int v12), .val (.int v13), .val (.int v12), .val (.int v14), .val (.int v15), .val (.int rr0), .val (.int e2)]) (fun _ => rfl) at_226 rfl (q := 228) (fun e2 he2 => ?_)
        refine o_iload S rfl at_228 rfl (q := 230) ?_
        refine o_iconst S (z := 2) rfl at_230 rfl (q := 231) ?_
        refine o_aload S rfl rfl at_231 rfl (q := 233) ?_
        refine o_iload S rfl at_233 rfl (q := 235) ?_
        refine o_iload S rfl at_235 rfl (q := 237) ?_
        refine o_callS0 S (W := 0) (argsL := [(.int e2), (.int (2 : Int32)), (.ref b8), (.int hh), (.int v1)]) (rest := []) (o_wd (i := 14) hw rfl) (o_wd (i := 15) hw rfl) (o_wd (i := 3) hw rfl) (o_wd (i := 16) hw rfl) (by decide) (ct_4 l Z a0 hw e2 (2 : Int32) b8 hh v1 ys (2 : Int32) h22 n0 (o_n0 S) A_b8 hyN hyL (by decide)) (by decide) (by decide) rfl rfl pd_3 rfl (Nat.le_of_eq rfl) at_237 rfl (q := 240) (by decide) (by decide) rfl (st' := [(.int (f_step e2 (2 : Int32) hh v1 ys (2 : Int32)))]) (fun T S => ?_)
        refine o_istoreV S (L' := fun e3 => #[.val (.int p0), .val (.int p1), .val (.int p2), .val (.int p3), .val (.int p4), .val (.int p5), .val (.int v1), .val (.int (0 : Int32)), .val (.ref b5), .val (.ref b8), .val (.int (2 : Int32)), .val (.int (1 : Int32)), .val (.int (1 : Int32)), .val (.int hh), .val (.int v11), .val (.int v12), .val (.int v13), .val (.int v12), .val (.int v14), .val (.int v15), .val (.int rr0), .val (.int e3)]) (fun _ => rfl) at_240 rfl (q := 242) (fun e3 he3 => ?_)
        refine o_iload S rfl at_242 rfl (q := 244) ?_
        refine o_iconst S (z := 3) rfl at_244 rfl (q := 245) ?_
        refine o_aload S rfl rfl at_245 rfl (q := 247) ?_
        refine o_iload S rfl at_247 rfl (q := 249) ?_
        refine o_iload S rfl at_249 rfl (q := 251) ?_
        refine o_callS0 S (W := 0) (argsL := [(.int e3), (.int (3 : Int32)), (.ref b8), (.int hh), (.int v1)]) (rest := []) (o_wd (i := 14) hw rfl) (o_wd (i := 15) hw rfl) (o_wd (i := 3) hw rfl) (o_wd (i := 16) hw rfl) (by decide) (ct_4 l Z a0 hw e3 (3 : Int32) b8 hh v1 ys (2 : Int32) h22 n0 (o_n0 S) A_b8 hyN hyL (by decide)) (by decide) (by decide) rfl rfl pd_3 rfl (Nat.le_of_eq rfl) at_251 rfl (q := 254) (by decide) (by decide) rfl (st' := [(.int (f_step e3 (3 : Int32) hh v1 ys (2 : Int32)))]) (fun T S => ?_)
        refine o_istoreV S (L' := fun e4 => #[.val (.int p0), .val (.int p1), .val (.int p2), .val (.int p3), .val (.int p4), .val (.int p5), .val (.int v1), .val (.int (0 : Int32)), .val (.ref b5), .val (.ref b8), .val (.int (2 : Int32)), .val (.int (1 : Int32)), .val (.int (1 : Int32)), .val (.int hh), .val (.int v11), .val (.int v12), .val (.int v13), .val (.int v12), .val (.int v14), .val (.int v15), .val (.int rr0), .val (.int e4)]) (fun _ => rfl) at_254 rfl (q := 256) (fun e4 he4 => ?_)
        refine o_iload S rfl at_256 rfl (q := 258) ?_
        refine o_iconst S (z := 4) rfl at_258 rfl (q := 259) ?_
        refine o_aload S rfl rfl at_259 rfl (q := 261) ?_
        refine o_iload S rfl at_261 rfl (q := 263) ?_
        refine o_iload S rfl at_263 rfl (q := 265) ?_
        refine o_callS0 S (W := 0) (argsL := [(.int e4), (.int (4 : Int32)), (.ref b8), (.int hh), (.int v1)]) (rest := []) (o_wd (i := 14) hw rfl) (o_wd (i := 15) hw rfl) (o_wd (i := 3) hw rfl) (o_wd (i := 16) hw rfl) (by decide) (ct_4 l Z a0 hw e4 (4 : Int32) b8 hh v1 ys (2 : Int32) h22 n0 (o_n0 S) A_b8 hyN hyL (by decide)) (by decide) (by decide) rfl rfl pd_3 rfl (Nat.le_of_eq rfl) at_265 rfl (q := 268) (by decide) (by decide) rfl (st' := [(.int (f_step e4 (4 : Int32) hh v1 ys (2 : Int32)))]) (fun T S => ?_)
        refine o_istoreV S (L' := fun e5 => #[.val (.int p0), .val (.int p1), .val (.int p2), .val (.int p3), .val (.int p4), .val (.int p5), .val (.int v1), .val (.int (0 : Int32)), .val (.ref b5), .val (.ref b8), .val (.int (2 : Int32)), .val (.int (1 : Int32)), .val (.int (1 : Int32)), .val (.int hh), .val (.int v11), .val (.int v12), .val (.int v13), .val (.int v12), .val (.int v14), .val (.int v15), .val (.int rr0), .val (.int e5)]) (fun _ => rfl) at_268 rfl (q := 270) (fun e5 he5 => ?_)
        refine o_iload S rfl at_270 rfl (q := 272) ?_
        refine o_iconst S (z := 5) rfl at_272 rfl (q := 273) ?_
        refine o_aload S rfl rfl at_273 rfl (q := 275) ?_
        refine o_iload S rfl at_275 rfl (q := 277) ?_
        refine o_iload S rfl at_277 rfl (q := 279) ?_
        refine o_callS0 S (W := 0) (argsL := [(.int e5), (.int (5 : Int32)), (.ref b8), (.int hh), (.int v1)]) (rest := []) (o_wd (i := 14) hw rfl) (o_wd (i := 15) hw rfl) (o_wd (i := 3) hw rfl) (o_wd (i := 16) hw rfl) (by decide) (ct_4 l Z a0 hw e5 (5 : Int32) b8 hh v1 ys (2 : Int32) h22 n0 (o_n0 S) A_b8 hyN hyL (by decide)) (by decide) (by decide) rfl rfl pd_3 rfl (Nat.le_of_eq rfl) at_279 rfl (q := 282) (by decide) (by decide) rfl (st' := [(.int (f_step e5 (5 : Int32) hh v1 ys (2 : Int32)))]) (fun T S => ?_)
        refine o_istoreV S (L' := fun e6 => #[.val (.int p0), .val (.int p1), .val (.int p2), .val (.int p3), .val (.int p4), .val (.int p5), .val (.int v1), .val (.int (0 : Int32)), .val (.ref b5), .val (.ref b8), .val (.int (2 : Int32)), .val (.int (1 : Int32)), .val (.int (1 : Int32)), .val (.int hh), .val (.int v11), .val (.int v12), .val (.int v13), .val (.int v12), .val (.int v14), .val (.int v15), .val (.int rr0), .val (.int e6)]) (fun _ => rfl) at_282 rfl (q := 284) (fun e6 he6 => ?_)
        refine o_iload S rfl at_284 rfl (q := 286) ?_
        refine o_bipush S (z := 6) rfl at_286 rfl (q := 288) ?_
        refine o_aload S rfl rfl at_288 rfl (q := 290) ?_
        refine o_iload S rfl at_290 rfl (q := 292) ?_
        refine o_iload S rfl at_292 rfl (q := 294) ?_
        refine o_callS0 S (W := 0) (argsL := [(.int e6), (.int (6 : Int32)), (.ref b8), (.int hh), (.int v1)]) (rest := []) (o_wd (i := 14) hw rfl) (o_wd (i := 15) hw rfl) (o_wd (i := 3) hw rfl) (o_wd (i := 16) hw rfl) (by decide) (ct_4 l Z a0 hw e6 (6 : Int32) b8 hh v1 ys (2 : Int32) h22 n0 (o_n0 S) A_b8 hyN hyL (by decide)) (by decide) (by decide) rfl rfl pd_3 rfl (Nat.le_of_eq rfl) at_294 rfl (q := 297) (by decide) (by decide) rfl (st' := [(.int (f_step e6 (6 : Int32) hh v1 ys (2 : Int32)))]) (fun T S => ?_)
        refine o_istoreV S (L' := fun e7 => #[.val (.int p0), .val (.int p1), .val (.int p2), .val (.int p3), .val (.int p4), .val (.int p5), .val (.int v1), .val (.int (0 : Int32)), .val (.ref b5), .val (.ref b8), .val (.int (2 : Int32)), .val (.int (1 : Int32)), .val (.int (1 : Int32)), .val (.int hh), .val (.int v11), .val (.int v12), .val (.int v13), .val (.int v12), .val (.int v14), .val (.int v15), .val (.int rr0), .val (.int e7)]) (fun _ => rfl) at_297 rfl (q := 299) (fun e7 he7 => ?_)
        refine o_iload S rfl at_299 rfl (q := 301) ?_
        refine o_bipush S (z := 7) rfl at_301 rfl (q := 303) ?_
        refine o_aload S rfl rfl at_303 rfl (q := 305) ?_
        refine o_iload S rfl at_305 rfl (q := 307) ?_
        refine o_iload S rfl at_307 rfl (q := 309) ?_
        refine o_callS0 S (W := 0) (argsL := [(.int e7), (.int (7 : Int32)), (.ref b8), (.int hh), (.int v1)]) (rest := []) (o_wd (i := 14) hw rfl) (o_wd (i := 15) hw rfl) (o_wd (i := 3) hw rfl) (o_wd (i := 16) hw rfl) (by decide) (ct_4 l Z a0 hw e7 (7 : Int32) b8 hh v1 ys (2 : Int32) h22 n0 (o_n0 S) A_b8 hyN hyL (by decide)) (by decide) (by decide) rfl rfl pd_3 rfl (Nat.le_of_eq rfl) at_309 rfl (q := 312) (by decide) (by decide) rfl (st' := [(.int (f_step e7 (7 : Int32) hh v1 ys (2 : Int32)))]) (fun T S => ?_)
        refine o_istoreV S (L' := fun e8 => #[.val (.int p0), .val (.int p1), .val (.int p2), .val (.int p3), .val (.int p4), .val (.int p5), .val (.int v1), .val (.int (0 : Int32)), .val (.ref b5), .val (.ref b8), .val (.int (2 : Int32)), .val (.int (1 : Int32)), .val (.int (1 : Int32)), .val (.int hh), .val (.int v11), .val (.int v12), .val (.int v13), .val (.int v12), .val (.int v14), .val (.int v15), .val (.int rr0), .val (.int e8)]) (fun _ => rfl) at_312 rfl (q := 314) (fun e8 he8 => ?_)
        have hfin := fin_2 (r := rr0) hh0.1 hh0.2 hfq (by rw [hrr0, hhh]; rfl) he1 he2 he3 he4 he5 he6 he7 he8
        refine o_iload S rfl at_314 rfl (q := 316) ?_
        refine o_if S at_316 (by decide) (q' := 330) (by decide) (q := 319) rfl (hs_lt (a := e8.toInt) (b := 0) rfl rfl).1 (hs_lt (a := e8.toInt) (b := 0) rfl rfl).2 (fun hc316 => ?_) (fun hc316 => ?_)
        · exact absurd hc316 hfin.1
        · skip
          refine o_iload S rfl at_319 rfl (q := 321) ?_
          refine o_iload S rfl at_321 rfl (q := 323) ?_
          refine o_icmp S at_323 (by decide) (q' := 330) (by decide) (q := 326) rfl hs_ne.1 hs_ne.2 (fun hc323 => ?_) (fun hc323 => ?_)
          · exact absurd hfin.2 hc323
          · skip
            refine o_iconst S (z := 1) rfl at_326 rfl (q := 327) ?_
            refine o_goto S at_327 (by decide) (q := 331) (by decide) ?_
            refine o_retN S (t := .boolean) rfl (by simp) at_331 (by decide) (by decide) rfl ?_
            rfl
      · exact absurd hc64 (by omega)
  · subst ho
    refine o_iload S rfl at_15 rfl (q := 17) ?_
    refine o_callS S (W := 0) (argsL := [(.int (1 : Int32))]) (rest := []) (o_wd (i := 1) hw rfl) (o_wd (i := 2) hw rfl) (o_wd (i := 3) hw rfl) (o_wd (i := 4) hw rfl) (by decide) (ct_1 l Z a0 hw (1 : Int32) h0 n0 (o_n0 S) ) (by decide) (by decide) rfl rfl pd_0 rfl (Nat.le_of_eq rfl) at_17 rfl (q := 20) (by decide) (by decide) (fun T h24 rr25 S hQ => ?_)
    obtain ⟨b26, g_b26, sz'_b26, hv, K1, A_b26'⟩ := hQ
    subst hv
    have A_b26 := A_b26'
    show Wp p e below (Po s n0 room_1 Q0) T (mkF m 20 #[.val (.int p0), .val (.int p1), .val (.int p2), .val (.int p3), .val (.int p4), .val (.int p5), .val (.int v1), .val (.int (1 : Int32)), .unset, .unset, .unset, .unset, .unset, .unset, .unset, .unset, .unset, .unset, .unset, .unset, .unset, .unset] [(.ref b26)])
    have A_b26 : IA Z h24 b26 .int [(-1 : Int32), (-1 : Int32), (-1 : Int32), (-1 : Int32)] := by have q := A_b26; rw [frL, if_neg (by decide), if_pos rfl] at q; exact q
    refine o_astore S (L' := #[.val (.int p0), .val (.int p1), .val (.int p2), .val (.int p3), .val (.int p4), .val (.int p5), .val (.int v1), .val (.int (1 : Int32)), .val (.ref b26), .unset, .unset, .unset, .unset, .unset, .unset, .unset, .unset, .unset, .unset, .unset, .unset, .unset]) rfl rfl at_20 rfl (q := 22) ?_
    refine o_iload S rfl at_22 rfl (q := 24) ?_
    refine o_callS S (W := 0) (argsL := [(.int (1 : Int32))]) (rest := []) (o_wd (i := 1) hw rfl) (o_wd (i := 2) hw rfl) (o_wd (i := 3) hw rfl) (o_wd (i := 4) hw rfl) (by decide) (ct_1 l Z a0 hw (1 : Int32) h24 n0 (o_n0 S) ) (by decide) (by decide) rfl rfl pd_0 rfl (Nat.le_of_eq rfl) at_24 rfl (q := 27) (by decide) (by decide) (fun T h27 rr28 S hQ => ?_)
    obtain ⟨b29, g_b29, sz'_b29, hv, K1, A_b29'⟩ := hQ
    subst hv
    have ne_b26_b29 : b26 ≠ b29 := Nat.ne_of_lt (Nat.lt_of_lt_of_le A_b26.lt sz'_b29)
    have A_b26 := A_b26.keep K1 nin0
    have A_b29 := A_b29'
    show Wp p e below (Po s n0 room_1 Q0) T (mkF m 27 #[.val (.int p0), .val (.int p1), .val (.int p2), .val (.int p3), .val (.int p4), .val (.int p5), .val (.int v1), .val (.int (1 : Int32)), .val (.ref b26), .unset, .unset, .unset, .unset, .unset, .unset, .unset, .unset, .unset, .unset, .unset, .unset, .unset] [(.ref b29)])
    have A_b29 : IA Z h27 b29 .int [(-1 : Int32), (-1 : Int32), (-1 : Int32), (-1 : Int32)] := by have q := A_b29; rw [frL, if_neg (by decide), if_pos rfl] at q; exact q
    refine o_astore S (L' := #[.val (.int p0), .val (.int p1), .val (.int p2), .val (.int p3), .val (.int p4), .val (.int p5), .val (.int v1), .val (.int (1 : Int32)), .val (.ref b26), .val (.ref b29), .unset, .unset, .unset, .unset, .unset, .unset, .unset, .unset, .unset, .unset, .unset, .unset]) rfl rfl at_27 rfl (q := 29) ?_
    refine o_aload S rfl rfl at_29 rfl (q := 31) ?_
    refine o_arraylength S A_b29 (z := (4 : Int32)) rfl at_31 rfl (q := 32) ?_
    refine o_istore S (L' := #[.val (.int p0), .val (.int p1), .val (.int p2), .val (.int p3), .val (.int p4), .val (.int p5), .val (.int v1), .val (.int (1 : Int32)), .val (.ref b26), .val (.ref b29), .val (.int (4 : Int32)), .unset, .unset, .unset, .unset, .unset, .unset, .unset, .unset, .unset, .unset, .unset]) rfl at_32 rfl (q := 34) ?_
    refine o_iload S rfl at_34 rfl (q := 36) ?_
    refine o_iconst S (z := 1) rfl at_36 rfl (q := 37) ?_
    refine o_isub S at_37 rfl (q := 38) ?_
    refine o_istoreV S (L' := fun v30 => #[.val (.int p0), .val (.int p1), .val (.int p2), .val (.int p3), .val (.int p4), .val (.int p5), .val (.int v1), .val (.int (1 : Int32)), .val (.ref b26), .val (.ref b29), .val (.int (4 : Int32)), .val (.int v30), .unset, .unset, .unset, .unset, .unset, .unset, .unset, .unset, .unset, .unset]) (fun _ => rfl) at_38 rfl (q := 40) (fun v30 hv30 => ?_)
    have q11 : v30 = (3 : Int32) := by rw [hv30]; decide
    subst q11
    refine o_iload S rfl at_40 rfl (q := 42) ?_
    refine o_iconst S (z := 1) rfl at_42 rfl (q := 43) ?_
    refine o_ishr S at_43 rfl (q := 44) ?_
    refine o_istoreV S (L' := fun v31 => #[.val (.int p0), .val (.int p1), .val (.int p2), .val (.int p3), .val (.int p4), .val (.int p5), .val (.int v1), .val (.int (1 : Int32)), .val (.ref b26), .val (.ref b29), .val (.int (4 : Int32)), .val (.int (3 : Int32)), .val (.int v31), .unset, .unset, .unset, .unset, .unset, .unset, .unset, .unset, .unset]) (fun _ => rfl) at_44 rfl (q := 46) (fun v31 hv31 => ?_)
    have q12 : v31 = (2 : Int32) := by rw [hv31]; decide
    subst q12
    refine o_iload S rfl at_46 rfl (q := 48) ?_
    refine o_aload S rfl rfl at_48 rfl (q := 50) ?_
    refine o_callS0 S (W := 0) (argsL := [(.int v1), (.ref b26)]) (rest := []) (o_wd (i := 6) hw rfl) (o_wd (i := 7) hw rfl) (o_wd (i := 8) hw rfl) (o_wd (i := 9) hw rfl) (by decide) (ct_2 l Z a0 hw v1 b26 ([(-1 : Int32), (-1 : Int32), (-1 : Int32), (-1 : Int32)]) (4 : Int32) 0 h27 n0 (o_n0 S) A_b26 rfl (by show (4 : Int) = _; rfl) (by decide) (free_hit (N := 4) (own_mask (L := 4) rfl (by decide)).1 (own_mask (L := 4) rfl (by decide)).2)) (by decide) (by decide) rfl rfl pd_1 rfl (Nat.le_of_eq rfl) at_50 rfl (q := 53) (by decide) (by decide) rfl (st' := [(.int (prb ([(-1 : Int32), (-1 : Int32), (-1 : Int32), (-1 : Int32)]) v1 ((4 : Int32) - (1 : Int32)) 0 (s0F v1 (4 : Int32))))]) (fun T S => ?_)
    refine o_istoreV S (L' := fun hh => #[.val (.int p0), .val (.int p1), .val (.int p2), .val (.int p3), .val (.int p4), .val (.int p5), .val (.int v1), .val (.int (1 : Int32)), .val (.ref b26), .val (.ref b29), .val (.int (4 : Int32)), .val (.int (3 : Int32)), .val (.int (2 : Int32)), .val (.int hh), .unset, .unset, .unset, .unset, .unset, .unset, .unset, .unset]) (fun _ => rfl) at_53 rfl (q := 55) (fun hh hhh => ?_)
    have hh0 : 0 ≤ hh.toInt ∧ hh.toInt < 4 := by rw [hhh]; exact own_mask (L := 4) rfl (by decide)
    refine o_iload S rfl at_55 rfl (q := 57) ?_
    refine o_if S at_57 (by decide) (q' := 67) (by decide) (q := 60) rfl (hs_lt (a := hh.toInt) (b := 0) rfl rfl).1 (hs_lt (a := hh.toInt) (b := 0) rfl rfl).2 (fun hc57 => ?_) (fun hc57 => ?_)
    · exact absurd hc57 (by omega)
    · skip
      refine o_iload S rfl at_60 rfl (q := 62) ?_
      refine o_iload S rfl at_62 rfl (q := 64) ?_
      refine o_icmp S at_64 (by decide) (q' := 69) (by decide) (q := 67) rfl (hs_lt (a := hh.toInt) (b := 4) rfl rfl).1 (hs_lt (a := hh.toInt) (b := 4) rfl rfl).2 (fun hc64 => ?_) (fun hc64 => ?_)
      · skip
        refine o_iloadN S rfl at_69 rfl (q := 70) ?_
        refine o_ldc S (o_wd (i := 0) hw rfl) at_70 rfl (q := 72) ?_
        refine o_iand S at_72 rfl (q := 73) ?_
        refine o_istoreV S (L' := fun v32 => #[.val (.int p0), .val (.int p1), .val (.int p2), .val (.int p3), .val (.int p4), .val (.int p5), .val (.int v1), .val (.int (1 : Int32)), .val (.ref b26), .val (.ref b29), .val (.int (4 : Int32)), .val (.int (3 : Int32)), .val (.int (2 : Int32)), .val (.int hh), .val (.int v32), .unset, .unset, .unset, .unset, .unset, .unset, .unset]) (fun _ => rfl) at_73 rfl (q := 75) (fun v32 hv32 => ?_)
        refine o_iloadN S rfl at_75 rfl (q := 76) ?_
        refine o_ldc S (o_wd (i := 0) hw rfl) at_76 rfl (q := 78) ?_
        refine o_iand S at_78 rfl (q := 79) ?_
        refine o_istoreV S (L' := fun v33 => #[.val (.int p0), .val (.int p1), .val (.int p2), .val (.int p3), .val (.int p4), .val (.int p5), .val (.int v1), .val (.int (1 : Int32)), .val (.ref b26), .val (.ref b29), .val (.int (4 : Int32)), .val (.int (3 : Int32)), .val (.int (2 : Int32)), .val (.int hh), .val (.int v32), .val (.int v33), .unset, .unset, .unset, .unset, .unset, .unset]) (fun _ => rfl) at_79 rfl (q := 81) (fun v33 hv33 => ?_)
        refine o_iload S rfl at_81 rfl (q := 83) ?_
        refine o_bipush S (z := 6) rfl at_83 rfl (q := 85) ?_
        refine o_iushr S at_85 rfl (q := 86) ?_
        refine o_iconst S (z := 1) rfl at_86 rfl (q := 87) ?_
        refine o_iand S at_87 rfl (q := 88) ?_
        refine o_cutS S (G := fun T => ∀ (v34 : Int32), v34 = (if (((p4.toUInt32 >>> ((6 : Int32) &&& 31).toUInt32).toInt32) &&& (1 : Int32)) = (0 : Int32) then v32 else v1) → Wp p e below (Po s n0 room_1 Q0) T (mkF m 98 #[.val (.int p0), .val (.int p1), .val (.int p2), .val (.int p3), .val (.int p4), .val (.int p5), .val (.int v1), .val (.int (1 : Int32)), .val (.ref b26), .val (.ref b29), .val (.int (4 : Int32)), .val (.int (3 : Int32)), .val (.int (2 : Int32)), .val (.int hh), .val (.int v32), .val (.int v33), .unset, .unset, .unset, .unset, .unset, .unset] [(.int v34)])) (fun k88 => ?_) (fun T S v34 hv34 => ?_)
        · skip
          refine o_if S at_88 (by decide) (q' := 96) (by decide) (q := 91) rfl hs_eq.1 hs_eq.2 (fun hc88 => ?_) (fun hc88 => ?_)
          · skip
            refine o_iload S rfl at_96 rfl (q := 98) ?_
            exact k88 _ S _ (by rw [if_pos hc88])
          · skip
            refine o_iload S rfl at_91 rfl (q := 93) ?_
            refine o_goto S at_93 (by decide) (q := 98) (by decide) ?_
            exact k88 _ S _ (by rw [if_neg hc88])
        refine o_istore S (L' := #[.val (.int p0), .val (.int p1), .val (.int p2), .val (.int p3), .val (.int p4), .val (.int p5), .val (.int v1), .val (.int (1 : Int32)), .val (.ref b26), .val (.ref b29), .val (.int (4 : Int32)), .val (.int (3 : Int32)), .val (.int (2 : Int32)), .val (.int hh), .val (.int v32), .val (.int v33), .val (.int v34), .unset, .unset, .unset, .unset, .unset]) rfl at_98 rfl (q := 100) ?_
        refine o_iload S rfl at_100 rfl (q := 102) ?_
        refine o_istore S (L' := #[.val (.int p0), .val (.int p1), .val (.int p2), .val (.int p3), .val (.int p4), .val (.int p5), .val (.int v1), .val (.int (1 : Int32)), .val (.ref b26), .val (.ref b29), .val (.int (4 : Int32)), .val (.int (3 : Int32)), .val (.int (2 : Int32)), .val (.int hh), .val (.int v32), .val (.int v33), .val (.int v34), .val (.int v33), .unset, .unset, .unset, .unset]) rfl at_102 rfl (q := 104) ?_
        refine o_iload S rfl at_104 rfl (q := 106) ?_
        refine o_sipush S (z := 21845) rfl at_106 rfl (q := 109) ?_
        refine o_ixor S at_109 rfl (q := 110) ?_
        refine o_istoreV S (L' := fun v35 => #[.val (.int p0), .val (.int p1), .val (.int p2), .val (.int p3), .val (.int p4), .val (.int p5), .val (.int v1), .val (.int (1 : Int32)), .val (.ref b26), .val (.ref b29), .val (.int (4 : Int32)), .val (.int (3 : Int32)), .val (.int (2 : Int32)), .val (.int hh), .val (.int v32), .val (.int v33), .val (.int v34), .val (.int v33), .val (.int v35), .unset, .unset, .unset]) (fun _ => rfl) at_110 rfl (q := 112) (fun v35 hv35 => ?_)
        refine o_iload S rfl at_112 rfl (q := 114) ?_
        refine o_sipush S (z := 10922) rfl at_114 rfl (q := 117) ?_
        refine o_ixor S at_117 rfl (q := 118) ?_
        refine o_istoreV S (L' := fun v36 => #[.val (.int p0), .val (.int p1), .val (.int p2), .val (.int p3), .val (.int p4), .val (.int p5), .val (.int v1), .val (.int (1 : Int32)), .val (.ref b26), .val (.ref b29), .val (.int (4 : Int32)), .val (.int (3 : Int32)), .val (.int (2 : Int32)), .val (.int hh), .val (.int v32), .val (.int v33), .val (.int v34), .val (.int v33), .val (.int v35), .val (.int v36), .unset, .unset]) (fun _ => rfl) at_118 rfl (q := 120) (fun v36 hv36 => ?_)
        have hl0 : ([(-1 : Int32), (-1 : Int32), (-1 : Int32), (-1 : Int32)]).length = 4 := rfl
        have hz0 : 4 ≤ frc ([(-1 : Int32), (-1 : Int32), (-1 : Int32), (-1 : Int32)]) := by decide
        refine o_aload S rfl rfl at_120 rfl (q := 122) ?_
        refine o_iconst S (z := 0) rfl at_122 rfl (q := 123) ?_
        refine o_iload S rfl at_123 rfl (q := 125) ?_
        refine o_iload S rfl at_125 rfl (q := 127) ?_
        refine o_iloadN S rfl at_127 rfl (q := 128) ?_
        refine o_iload S rfl at_128 rfl (q := 130) ?_
        refine o_iload S rfl at_130 rfl (q := 132) ?_
        refine o_iload S rfl at_132 rfl (q := 134) ?_
        refine o_callS S (W := 0) (argsL := [(.ref b29), (.int (0 : Int32)), (.int (2 : Int32)), (.int p4), (.int p3), (.int hh), (.int (3 : Int32)), (.int v34)]) (rest := []) (o_wd (i := 11) hw rfl) (o_wd (i := 12) hw rfl) (o_wd (i := 3) hw rfl) (o_wd (i := 13) hw rfl) (by decide) (ct_3 l Z a0 hw b29 (0 : Int32) (2 : Int32) p4 p3 hh (3 : Int32) v34 ([(-1 : Int32), (-1 : Int32), (-1 : Int32), (-1 : Int32)]) h27 n0 (o_n0 S) A_b29 g_b29 (by decide) (by rw [hl0]; decide)) (by decide) (by decide) rfl rfl pd_2 rfl (Nat.le_of_eq rfl) at_134 rfl (q := 137) (by decide) (by decide) (fun T h37 rr38 S hQ => ?_)
        obtain ⟨hv, K1, A_b29'⟩ := hQ
        subst hv
        have A_b26 := A_b26.keep K1 (ninS ne_b26_b29 nin0)
        have A_b29 := A_b29'
        show Wp p e below (Po s n0 room_1 Q0) T (mkF m 137 #[.val (.int p0), .val (.int p1), .val (.int p2), .val (.int p3), .val (.int p4), .val (.int p5), .val (.int v1), .val (.int (1 : Int32)), .val (.ref b26), .val (.ref b29), .val (.int (4 : Int32)), .val (.int (3 : Int32)), .val (.int (2 : Int32)), .val (.int hh), .val (.int v32), .val (.int v33), .val (.int v34), .val (.int v33), .val (.int v35), .val (.int v36), .unset, .unset] [])
        have hl1 : (plF (0 : Int32) (2 : Int32) p4 p3 hh (3 : Int32) v34 ([(-1 : Int32), (-1 : Int32), (-1 : Int32), (-1 : Int32)])).length = 4 := pl_len.trans hl0
        have hz1 : 3 ≤ frc (plF (0 : Int32) (2 : Int32) p4 p3 hh (3 : Int32) v34 ([(-1 : Int32), (-1 : Int32), (-1 : Int32), (-1 : Int32)])) := by have := pl_frc (p1 := (0 : Int32)) (p2 := (2 : Int32)) (p3 := p4) (p4 := p3) (p5 := hh) (p6 := (3 : Int32)) (p7 := v34) (xs := [(-1 : Int32), (-1 : Int32), (-1 : Int32), (-1 : Int32)]); have := hz0; omega
        refine o_aload S rfl rfl at_137 rfl (q := 139) ?_
        refine o_iconst S (z := 1) rfl at_139 rfl (q := 140) ?_
        refine o_iload S rfl at_140 rfl (q := 142) ?_
        refine o_iload S rfl at_142 rfl (q := 144) ?_
        refine o_iloadN S rfl at_144 rfl (q := 145) ?_
        refine o_iload S rfl at_145 rfl (q := 147) ?_
        refine o_iload S rfl at_147 rfl (q := 149) ?_
        refine o_iload S rfl at_149 rfl (q := 151) ?_
        refine o_callS S (W := 0) (argsL := [(.ref b29), (.int (1 : Int32)), (.int (2 : Int32)), (.int p4), (.int p3), (.int hh), (.int (3 : Int32)), (.int v33)]) (rest := []) (o_wd (i := 11) hw rfl) (o_wd (i := 12) hw rfl) (o_wd (i := 3) hw rfl) (o_wd (i := 13) hw rfl) (by decide) (ct_3 l Z a0 hw b29 (1 : Int32) (2 : Int32) p4 p3 hh (3 : Int32) v33 (plF (0 : Int32) (2 : Int32) p4 p3 hh (3 : Int32) v34 ([(-1 : Int32), (-1 : Int32), (-1 : Int32), (-1 : Int32)])) h37 n0 (o_n0 S) A_b29 g_b29 (by decide) (by rw [hl1]; decide)) (by decide) (by decide) rfl rfl pd_2 rfl (Nat.le_of_eq rfl) at_151 rfl (q := 154) (by decide) (by decide) (fun T h39 rr40 S hQ => ?_)
        obtain ⟨hv, K1, A_b29'⟩ := hQ
        subst hv
        have A_b26 := A_b26.keep K1 (ninS ne_b26_b29 nin0)
        have A_b29 := A_b29'
        show Wp p e below (Po s n0 room_1 Q0) T (mkF m 154 #[.val (.int p0), .val (.int p1), .val (.int p2), .val (.int p3), .val (.int p4), .val (.int p5), .val (.int v1), .val (.int (1 : Int32)), .val (.ref b26), .val (.ref b29), .val (.int (4 : Int32)), .val (.int (3 : Int32)), .val (.int (2 : Int32)), .val (.int hh), .val (.int v32), .val (.int v33), .val (.int v34), .val (.int v33), .val (.int v35), .val (.int v36), .unset, .unset] [])
        have hl2 : (plF (1 : Int32) (2 : Int32) p4 p3 hh (3 : Int32) v33 (plF (0 : Int32) (2 : Int32) p4 p3 hh (3 : Int32) v34 ([(-1 : Int32), (-1 : Int32), (-1 : Int32), (-1 : Int32)]))).length = 4 := pl_len.trans hl1
        have hz2 : 2 ≤ frc (plF (1 : Int32) (2 : Int32) p4 p3 hh (3 : Int32) v33 (plF (0 : Int32) (2 : Int32) p4 p3 hh (3 : Int32) v34 ([(-1 : Int32), (-1 : Int32), (-1 : Int32), (-1 : Int32)]))) := by have := pl_frc (p1 := (1 : Int32)) (p2 := (2 : Int32)) (p3 := p4) (p4 := p3) (p5 := hh) (p6 := (3 : Int32)) (p7 := v33) (xs := plF (0 : Int32) (2 : Int32) p4 p3 hh (3 : Int32) v34 ([(-1 : Int32), (-1 : Int32), (-1 : Int32), (-1 : Int32)])); have := hz1; omega
        refine o_aload S rfl rfl at_154 rfl (q := 156) ?_
        refine o_iconst S (z := 2) rfl at_156 rfl (q := 157) ?_
        refine o_iload S rfl at_157 rfl (q := 159) ?_
        refine o_iload S rfl at_159 rfl (q := 161) ?_
        refine o_iloadN S rfl at_161 rfl (q := 162) ?_
        refine o_iload S rfl at_162 rfl (q := 164) ?_
        refine o_iload S rfl at_164 rfl (q := 166) ?_
        refine o_iload S rfl at_166 rfl (q := 168) ?_
        refine o_callS S (W := 0) (argsL := [(.ref b29), (.int (2 : Int32)), (.int (2 : Int32)), (.int p4), (.int p3), (.int hh), (.int (3 : Int32)), (.int v35)]) (rest := []) (o_wd (i := 11) hw rfl) (o_wd (i := 12) hw rfl) (o_wd (i := 3) hw rfl) (o_wd (i := 13) hw rfl) (by decide) (ct_3 l Z a0 hw b29 (2 : Int32) (2 : Int32) p4 p3 hh (3 : Int32) v35 (plF (1 : Int32) (2 : Int32) p4 p3 hh (3 : Int32) v33 (plF (0 : Int32) (2 : Int32) p4 p3 hh (3 : Int32) v34 ([(-1 : Int32), (-1 : Int32), (-1 : Int32), (-1 : Int32)]))) h39 n0 (o_n0 S) A_b29 g_b29 (by decide) (by rw [hl2]; decide)) (by decide) (by decide) rfl rfl pd_2 rfl (Nat.le_of_eq rfl) at_168 rfl (q := 171) (by decide) (by decide) (fun T h41 rr42 S hQ => ?_)
        obtain ⟨hv, K1, A_b29'⟩ := hQ
        subst hv
        have A_b26 := A_b26.keep K1 (ninS ne_b26_b29 nin0)
        have A_b29 := A_b29'
        show Wp p e below (Po s n0 room_1 Q0) T (mkF m 171 #[.val (.int p0), .val (.int p1), .val (.int p2), .val (.int p3), .val (.int p4), .val (.int p5), .val (.int v1), .val (.int (1 : Int32)), .val (.ref b26), .val (.ref b29), .val (.int (4 : Int32)), .val (.int (3 : Int32)), .val (.int (2 : Int32)), .val (.int hh), .val (.int v32), .val (.int v33), .val (.int v34), .val (.int v33), .val (.int v35), .val (.int v36), .unset, .unset] [])
        have hl3 : (plF (2 : Int32) (2 : Int32) p4 p3 hh (3 : Int32) v35 (plF (1 : Int32) (2 : Int32) p4 p3 hh (3 : Int32) v33 (plF (0 : Int32) (2 : Int32) p4 p3 hh (3 : Int32) v34 ([(-1 : Int32), (-1 : Int32), (-1 : Int32), (-1 : Int32)])))).length = 4 := pl_len.trans hl2
        have hz3 : 2 ≤ frc (plF (2 : Int32) (2 : Int32) p4 p3 hh (3 : Int32) v35 (plF (1 : Int32) (2 : Int32) p4 p3 hh (3 : Int32) v33 (plF (0 : Int32) (2 : Int32) p4 p3 hh (3 : Int32) v34 ([(-1 : Int32), (-1 : Int32), (-1 : Int32), (-1 : Int32)])))) := by rw [pl_skip (by decide)]; exact hz2
        refine o_aload S rfl rfl at_171 rfl (q := 173) ?_
        refine o_iconst S (z := 3) rfl at_173 rfl (q := 174) ?_
        refine o_iload S rfl at_174 rfl (q := 176) ?_
        refine o_iload S rfl at_176 rfl (q := 178) ?_
        refine o_iloadN S rfl at_178 rfl (q := 179) ?_
        refine o_iload S rfl at_179 rfl (q := 181) ?_
        refine o_iload S rfl at_181 rfl (q := 183) ?_
        refine o_iload S rfl at_183 rfl (q := 185) ?_
        refine o_callS S (W := 0) (argsL := [(.ref b29), (.int (3 : Int32)), (.int (2 : Int32)), (.int p4), (.int p3), (.int hh), (.int (3 : Int32)), (.int v36)]) (rest := []) (o_wd (i := 11) hw rfl) (o_wd (i := 12) hw rfl) (o_wd (i := 3) hw rfl) (o_wd (i := 13) hw rfl) (by decide) (ct_3 l Z a0 hw b29 (3 : Int32) (2 : Int32) p4 p3 hh (3 : Int32) v36 (plF (2 : Int32) (2 : Int32) p4 p3 hh (3 : Int32) v35 (plF (1 : Int32) (2 : Int32) p4 p3 hh (3 : Int32) v33 (plF (0 : Int32) (2 : Int32) p4 p3 hh (3 : Int32) v34 ([(-1 : Int32), (-1 : Int32), (-1 : Int32), (-1 : Int32)])))) h41 n0 (o_n0 S) A_b29 g_b29 (by decide) (by rw [hl3]; decide)) (by decide) (by decide) rfl rfl pd_2 rfl (Nat.le_of_eq rfl) at_185 rfl (q := 188) (by decide) (by decide) (fun T h43 rr44 S hQ => ?_)
        obtain ⟨hv, K1, A_b29'⟩ := hQ
        subst hv
        have A_b26 := A_b26.keep K1 (ninS ne_b26_b29 nin0)
        have A_b29 := A_b29'
        show Wp p e below (Po s n0 room_1 Q0) T (mkF m 188 #[.val (.int p0), .val (.int p1), .val (.int p2), .val (.int p3), .val (.int p4), .val (.int p5), .val (.int v1), .val (.int (1 : Int32)), .val (.ref b26), .val (.ref b29), .val (.int (4 : Int32)), .val (.int (3 : Int32)), .val (.int (2 : Int32)), .val (.int hh), .val (.int v32), .val (.int v33), .val (.int v34), .val (.int v33), .val (.int v35), .val (.int v36), .unset, .unset] [])
        have hl4 : (plF (3 : Int32) (2 : Int32) p4 p3 hh (3 : Int32) v36 (plF (2 : Int32) (2 : Int32) p4 p3 hh (3 : Int32) v35 (plF (1 : Int32) (2 : Int32) p4 p3 hh (3 : Int32) v33 (plF (0 : Int32) (2 : Int32) p4 p3 hh (3 : Int32) v34 ([(-1 : Int32), (-1 : Int32), (-1 : Int32), (-1 : Int32)]))))).length = 4 := pl_len.trans hl3
        have hz4 : 2 ≤ frc (plF (3 : Int32) (2 : Int32) p4 p3 hh (3 : Int32) v36 (plF (2 : Int32) (2 : Int32) p4 p3 hh (3 : Int32) v35 (plF (1 : Int32) (2 : Int32) p4 p3 hh (3 : Int32) v33 (plF (0 : Int32) (2 : Int32) p4 p3 hh (3 : Int32) v34 ([(-1 : Int32), (-1 : Int32), (-1 : Int32), (-1 : Int32)]))))) := by rw [pl_skip (by decide)]; exact hz3
        obtain ⟨ys, hys⟩ : ∃ ys, ys = (plF (3 : Int32) (2 : Int32) p4 p3 hh (3 : Int32) v36 (plF (2 : Int32) (2 : Int32) p4 p3 hh (3 : Int32) v35 (plF (1 : Int32) (2 : Int32) p4 p3 hh (3 : Int32) v33 (plF (0 : Int32) (2 : Int32) p4 p3 hh (3 : Int32) v34 ([(-1 : Int32), (-1 : Int32), (-1 : Int32), (-1 : Int32)]))))) := ⟨_, rfl⟩
        rw [← hys] at A_b29 hl4 hz4
        have hyL : ((4 : Int32)).toInt = ys.length := by rw [hl4]; rfl
        have hyN : Int32.ofNat ys.length = (4 : Int32) := by rw [hl4]; rfl
        have hfq := fnd_4 (v := v1) hl4 (by omega) hh0.1 hh0.2
        have hfn : fnd ys v1 ((4 : Int32) - (1 : Int32)) 3 (s0F v1 (4 : Int32)) := by have q : hh = s0F v1 (4 : Int32) := hhh; rw [← q]; exact hfq
        refine o_iload S rfl at_188 rfl (q := 190) ?_
        refine o_aload S rfl rfl at_190 rfl (q := 192) ?_
        refine o_callS0 S (W := 0) (argsL := [(.int v1), (.ref b29)]) (rest := []) (o_wd (i := 6) hw rfl) (o_wd (i := 7) hw rfl) (o_wd (i := 8) hw rfl) (o_wd (i := 9) hw rfl) (by decide) (ct_2 l Z a0 hw v1 b29 ys (4 : Int32) 3 h43 n0 (o_n0 S) A_b29 hyN hyL (by decide) hfn) (by decide) (by decide) rfl rfl pd_1 rfl (Nat.le_of_eq rfl) at_192 rfl (q := 195) (by decide) (by decide) rfl (st' := [(.int (prb ys v1 ((4 : Int32) - (1 : Int32)) 3 (s0F v1 (4 : Int32))))]) (fun T S => ?_)
        refine o_istoreV S (L' := fun rr0 => #[.val (.int p0), .val (.int p1), .val (.int p2), .val (.int p3), .val (.int p4), .val (.int p5), .val (.int v1), .val (.int (1 : Int32)), .val (.ref b26), .val (.ref b29), .val (.int (4 : Int32)), .val (.int (3 : Int32)), .val (.int (2 : Int32)), .val (.int hh), .val (.int v32), .val (.int v33), .val (.int v34), .val (.int v33), .val (.int v35), .val (.int v36), .val (.int rr0), .unset]) (fun _ => rfl) at_195 rfl (q := 197) (fun rr0 hrr0 => ?_)
        refine o_iconst S (z := -1) rfl at_197 rfl (q := 198) ?_
        refine o_istore S (L' := #[.val (.int p0), .val (.int p1), .val (.int p2), .val (.int p3), .val (.int p4), .val (.int p5), .val (.int v1), .val (.int (1 : Int32)), .val (.ref b26), .val (.ref b29), .val (.int (4 : Int32)), .val (.int (3 : Int32)), .val (.int (2 : Int32)), .val (.int hh), .val (.int v32), .val (.int v33), .val (.int v34), .val (.int v33), .val (.int v35), .val (.int v36), .val (.int rr0), .val (.int (-1 : Int32))]) rfl at_198 rfl (q := 200) ?_
        refine o_iload S rfl at_200 rfl (q := 202) ?_
        refine o_iconst S (z := 0) rfl at_202 rfl (q := 203) ?_
        refine o_aload S rfl rfl at_203 rfl (q := 205) ?_
        refine o_iload S rfl at_205 rfl (q := 207) ?_
        refine o_iload S rfl at_207 rfl (q := 209) ?_
        refine o_callS0 S (W := 0) (argsL := [(.int (-1 : Int32)), (.int (0 : Int32)), (.ref b29), (.int hh), (.int v1)]) (rest := []) (o_wd (i := 14) hw rfl) (o_wd (i := 15) hw rfl) (o_wd (i := 3) hw rfl) (o_wd (i := 16) hw rfl) (by decide) (ct_4 l Z a0 hw (-1 : Int32) (0 : Int32) b29 hh v1 ys (4 : Int32) h43 n0 (o_n0 S) A_b29 hyN hyL (by decide)) (by decide) (by decide) rfl rfl pd_3 rfl (Nat.le_of_eq rfl) at_209 rfl (q := 212) (by decide) (by decide) rfl (st' := [(.int (f_step (-1 : Int32) (0 : Int32) hh v1 ys (4 : Int32)))]) (fun T S => ?_)
        refine o_istoreV S (L' := fun e1 => #[.val (.int p0), .val (.int p1), .val (.int p2), .val (.int p3), .val (.int p4), .val (.int p5), .val (.int v1), .val (.int (1 : Int32)), .val (.ref b26), .val (.ref b29), .val (.int (4 : Int32)), .val (.int (3 : Int32)), .val (.int (2 : Int32)), .val (.int hh), .val (.int v32), .val (.int v33), .val (.int v34), .val (.int v33), .val (.int v35), .val (.int v36), .val (.int rr0), .val (.int e1)]) (fun _ => rfl) at_212 rfl (q := 214) (fun e1 he1 => ?_)
        refine o_iload S rfl at_214 rfl (q := 216) ?_
        refine o_iconst S (z := 1) rfl at_216 rfl (q := 217) ?_
        refine o_aload S rfl rfl at_217 rfl (q := 219) ?_
        refine o_iload S rfl at_219 rfl (q := 221) ?_
        refine o_iload S rfl at_221 rfl (q := 223) ?_
        refine o_callS0 S (W := 0) (argsL := [(.int e1), (.int (1 : Int32)), (.ref b29), (.int hh), (.int v1)]) (rest := []) (o_wd (i := 14) hw rfl) (o_wd (i := 15) hw rfl) (o_wd (i := 3) hw rfl) (o_wd (i := 16) hw rfl) (by decide) (ct_4 l Z a0 hw e1 (1 : Int32) b29 hh v1 ys (4 : Int32) h43 n0 (o_n0 S) A_b29 hyN hyL (by decide)) (by decide) (by decide) rfl rfl pd_3 rfl (Nat.le_of_eq rfl) at_223 rfl (q := 226) (by decide) (by decide) rfl (st' := [(.int (f_step e1 (1 : Int32) hh v1 ys (4 : Int32)))]) (fun T S => ?_)
        refine o_istoreV S (L' := fun e2 => #[.val (.int p0), .val (.int p1), .val (.int p2), .val (.int p3), .val (.int p4), .val (.int p5), .val (.int v1), .val (.int (1 : Int32)), .val (.ref b26), .val (.ref b29), .val (.int (4 : Int32)), .val (.int (3 : Int32)), .val (.int (2 : Int32)), .val (.int hh), .val (.int v32), .val (.int v33), .val (.int v34), .val (.int v33), .val (.int v35), .val (.int v36), .val (.int rr0), .val (.int e2)]) (fun _ => rfl) at_226 rfl (q := 228) (fun e2 he2 => ?_)
        refine o_iload S rfl at_228 rfl (q := 230) ?_
        refine o_iconst S (z := 2) rfl at_230 rfl (q := 231) ?_
        refine o_aload S rfl rfl at_231 rfl (q := 233) ?_
        refine o_iload S rfl at_233 rfl (q := 235) ?_
        refine o_iload S rfl at_235 rfl (q := 237) ?_
        refine o_callS0 S (W := 0) (argsL := [(.int e2), (.int (2 : Int32)), (.ref b29), (.int hh), (.int v1)]) (rest := []) (o_wd (i := 14) hw rfl) (o_wd (i := 15) hw rfl) (o_wd (i := 3) hw rfl) (o_wd (i := 16) hw rfl) (by decide) (ct_4 l Z a0 hw e2 (2 : Int32) b29 hh v1 ys (4 : Int32) h43 n0 (o_n0 S) A_b29 hyN hyL (by decide)) (by decide) (by decide) rfl rfl pd_3 rfl (Nat.le_of_eq rfl) at_237 rfl (q := 240) (by decide) (by decide) rfl (st' := [(.int (f_step e2 (2 : Int32) hh v1 ys (4 : Int32)))]) (fun T S => ?_)
        refine o_istoreV S (L' := fun e3 => #[.val (.int p0), .val (.int p1), .val (.int p2), .val (.int p3), .val (.int p4), .val (.int p5), .val (.int v1), .val (.int (1 : Int32)), .val (.ref b26), .val (.ref b29), .val (.int (4 : Int32)), .val (.int (3 : Int32)), .val (.int (2 : Int32)), .val (.int hh), .val (.int v32), .val (.int v33), .val (.int v34), .val (.int v33), .val (.int v35), .val (.int v36), .val (.int rr0), .val (.int e3)]) (fun _ => rfl) at_240 rfl (q := 242) (fun e3 he3 => ?_)
        refine o_iload S rfl at_242 rfl (q := 244) ?_
        refine o_iconst S (z := 3) rfl at_244 rfl (q := 245) ?_
        refine o_aload S rfl rfl at_245 rfl (q := 247) ?_
        refine o_iload S rfl at_247 rfl (q := 249) ?_
        refine o_iload S rfl at_249 rfl (q := 251) ?_
        refine o_callS0 S (W := 0) (argsL := [(.int e3), (.int (3 : Int32)), (.ref b29), (.int hh), (.int v1)]) (rest := []) (o_wd (i := 14) hw rfl) (o_wd (i := 15) hw rfl) (o_wd (i := 3) hw rfl) (o_wd (i := 16) hw rfl) (by decide) (ct_4 l Z a0 hw e3 (3 : Int32) b29 hh v1 ys (4 : Int32) h43 n0 (o_n0 S) A_b29 hyN hyL (by decide)) (by decide) (by decide) rfl rfl pd_3 rfl (Nat.le_of_eq rfl) at_251 rfl (q := 254) (by decide) (by decide) rfl (st' := [(.int (f_step e3 (3 : Int32) hh v1 ys (4 : Int32)))]) (fun T S => ?_)
        refine o_istoreV S (L' := fun e4 => #[.val (.int p0), .val (.int p1), .val (.int p2), .val (.int p3), .val (.int p4), .val (.int p5), .val (.int v1), .val (.int (1 : Int32)), .val (.ref b26), .val (.ref b29), .val (.int (4 : Int32)), .val (.int (3 : Int32)), .val (.int (2 : Int32)), .val (.int hh), .val (.int v32), .val (.int v33), .val (.int v34), .val (.int v33), .val (.int v35), .val (.int v36), .val (.int rr0), .val (.int e4)]) (fun _ => rfl) at_254 rfl (q := 256) (fun e4 he4 => ?_)
        refine o_iload S rfl at_256 rfl (q := 258) ?_
        refine o_iconst S (z := 4) rfl at_258 rfl (q := 259) ?_
        refine o_aload S rfl rfl at_259 rfl (q := 261) ?_
        refine o_iload S rfl at_261 rfl (q := 263) ?_
        refine o_iload S rfl at_263 rfl (q := 265) ?_
        refine o_callS0 S (W := 0) (argsL := [(.int e4), (.int (4 : Int32)), (.ref b29), (.int hh), (.int v1)]) (rest := []) (o_wd (i := 14) hw rfl) (o_wd (i := 15) hw rfl) (o_wd (i := 3) hw rfl) (o_wd (i := 16) hw rfl) (by decide) (ct_4 l Z a0 hw e4 (4 : Int32) b29 hh v1 ys (4 : Int32) h43 n0 (o_n0 S) A_b29 hyN hyL (by decide)) (by decide) (by decide) rfl rfl pd_3 rfl (Nat.le_of_eq rfl) at_265 rfl (q := 268) (by decide) (by decide) rfl (st' := [(.int (f_step e4 (4 : Int32) hh v1 ys (4 : Int32)))]) (fun T S => ?_)
        refine o_istoreV S (L' := fun e5 => #[.val (.int p0), .val (.int p1), .val (.int p2), .val (.int p3), .val (.int p4), .val (.int p5), .val (.int v1), .val (.int (1 : Int32)), .val (.ref b26), .val (.ref b29), .val (.int (4 : Int32)), .val (.int (3 : Int32)), .val (.int (2 : Int32)), .val (.int hh), .val (.int v32), .val (.int v33), .val (.int v34), .val (.int v33), .val (.int v35), .val (.int v36), .val (.int rr0), .val (.int e5)]) (fun _ => rfl) at_268 rfl (q := 270) (fun e5 he5 => ?_)
        refine o_iload S rfl at_270 rfl (q := 272) ?_
        refine o_iconst S (z := 5) rfl at_272 rfl (q := 273) ?_
        refine o_aload S rfl rfl at_273 rfl (q := 275) ?_
        refine o_iload S rfl at_275 rfl (q := 277) ?_
        refine o_iload S rfl at_277 rfl (q := 279) ?_
        refine o_callS0 S (W := 0) (argsL := [(.int e5), (.int (5 : Int32)), (.ref b29), (.int hh), (.int v1)]) (rest := []) (o_wd (i := 14) hw rfl) (o_wd (i := 15) hw rfl) (o_wd (i := 3) hw rfl) (o_wd (i := 16) hw rfl) (by decide) (ct_4 l Z a0 hw e5 (5 : Int32) b29 hh v1 ys (4 : Int32) h43 n0 (o_n0 S) A_b29 hyN hyL (by decide)) (by decide) (by decide) rfl rfl pd_3 rfl (Nat.le_of_eq rfl) at_279 rfl (q := 282) (by decide) (by decide) rfl (st' := [(.int (f_step e5 (5 : Int32) hh v1 ys (4 : Int32)))]) (fun T S => ?_)
        refine o_istoreV S (L' := fun e6 => #[.val (.int p0), .val (.int p1), .val (.int p2), .val (.int p3), .val (.int p4), .val (.int p5), .val (.int v1), .val (.int (1 : Int32)), .val (.ref b26), .val (.ref b29), .val (.int (4 : Int32)), .val (.int (3 : Int32)), .val (.int (2 : Int32)), .val (.int hh), .val (.int v32), .val (.int v33), .val (.int v34), .val (.int v33), .val (.int v35), .val (.int v36), .val (.int rr0), .val (.int e6)]) (fun _ => rfl) at_282 rfl (q := 284) (fun e6 he6 => ?_)
        refine o_iload S rfl at_284 rfl (q := 286) ?_
        refine o_bipush S (z := 6) rfl at_286 rfl (q := 288) ?_
        refine o_aload S rfl rfl at_288 rfl (q := 290) ?_
        refine o_iload S rfl at_290 rfl (q := 292) ?_
        refine o_iload S rfl at_292 rfl (q := 294) ?_
        refine o_callS0 S (W := 0) (argsL := [(.int e6), (.int (6 : Int32)), (.ref b29), (.int hh), (.int v1)]) (rest := []) (o_wd (i := 14) hw rfl) (o_wd (i := 15) hw rfl) (o_wd (i := 3) hw rfl) (o_wd (i := 16) hw rfl) (by decide) (ct_4 l Z a0 hw e6 (6 : Int32) b29 hh v1 ys (4 : Int32) h43 n0 (o_n0 S) A_b29 hyN hyL (by decide)) (by decide) (by decide) rfl rfl pd_3 rfl (Nat.le_of_eq rfl) at_294 rfl (q := 297) (by decide) (by decide) rfl (st' := [(.int (f_step e6 (6 : Int32) hh v1 ys (4 : Int32)))]) (fun T S => ?_)
        refine o_istoreV S (L' := fun e7 => #[.val (.int p0), .val (.int p1), .val (.int p2), .val (.int p3), .val (.int p4), .val (.int p5), .val (.int v1), .val (.int (1 : Int32)), .val (.ref b26), .val (.ref b29), .val (.int (4 : Int32)), .val (.int (3 : Int32)), .val (.int (2 : Int32)), .val (.int hh), .val (.int v32), .val (.int v33), .val (.int v34), .val (.int v33), .val (.int v35), .val (.int v36), .val (.int rr0), .val (.int e7)]) (fun _ => rfl) at_297 rfl (q := 299) (fun e7 he7 => ?_)
        refine o_iload S rfl at_299 rfl (q := 301) ?_
        refine o_bipush S (z := 7) rfl at_301 rfl (q := 303) ?_
        refine o_aload S rfl rfl at_303 rfl (q := 305) ?_
        refine o_iload S rfl at_305 rfl (q := 307) ?_
        refine o_iload S rfl at_307 rfl (q := 309) ?_
        refine o_callS0 S (W := 0) (argsL := [(.int e7), (.int (7 : Int32)), (.ref b29), (.int hh), (.int v1)]) (rest := []) (o_wd (i := 14) hw rfl) (o_wd (i := 15) hw rfl) (o_wd (i := 3) hw rfl) (o_wd (i := 16) hw rfl) (by decide) (ct_4 l Z a0 hw e7 (7 : Int32) b29 hh v1 ys (4 : Int32) h43 n0 (o_n0 S) A_b29 hyN hyL (by decide)) (by decide) (by decide) rfl rfl pd_3 rfl (Nat.le_of_eq rfl) at_309 rfl (q := 312) (by decide) (by decide) rfl (st' := [(.int (f_step e7 (7 : Int32) hh v1 ys (4 : Int32)))]) (fun T S => ?_)
        refine o_istoreV S (L' := fun e8 => #[.val (.int p0), .val (.int p1), .val (.int p2), .val (.int p3), .val (.int p4), .val (.int p5), .val (.int v1), .val (.int (1 : Int32)), .val (.ref b26), .val (.ref b29), .val (.int (4 : Int32)), .val (.int (3 : Int32)), .val (.int (2 : Int32)), .val (.int hh), .val (.int v32), .val (.int v33), .val (.int v34), .val (.int v33), .val (.int v35), .val (.int v36), .val (.int rr0), .val (.int e8)]) (fun _ => rfl) at_312 rfl (q := 314) (fun e8 he8 => ?_)
        have hfin := fin_4 (r := rr0) hh0.1 hh0.2 hfq (by rw [hrr0, hhh]; rfl) he1 he2 he3 he4 he5 he6 he7 he8
        refine o_iload S rfl at_314 rfl (q := 316) ?_
        refine o_if S at_316 (by decide) (q' := 330) (by decide) (q := 319) rfl (hs_lt (a := e8.toInt) (b := 0) rfl rfl).1 (hs_lt (a := e8.toInt) (b := 0) rfl rfl).2 (fun hc316 => ?_) (fun hc316 => ?_)
        · exact absurd hc316 hfin.1
        · skip
          refine o_iload S rfl at_319 rfl (q := 321) ?_
          refine o_iload S rfl at_321 rfl (q := 323) ?_
          refine o_icmp S at_323 (by decide) (q' := 330) (by decide) (q := 326) rfl hs_ne.1 hs_ne.2 (fun hc323 => ?_) (fun hc323 => ?_)
          · exact absurd hfin.2 hc323
          · skip
            refine o_iconst S (z := 1) rfl at_326 rfl (q := 327) ?_
            refine o_goto S at_327 (by decide) (q := 331) (by decide) ?_
            refine o_retN S (t := .boolean) rfl (by simp) at_331 (by decide) (by decide) rfl ?_
            rfl
      · exact absurd hc64 (by omega)
  · subst ho
    refine o_iload S rfl at_15 rfl (q := 17) ?_
    refine o_callS S (W := 0) (argsL := [(.int (2 : Int32))]) (rest := []) (o_wd (i := 1) hw rfl) (o_wd (i := 2) hw rfl) (o_wd (i := 3) hw rfl) (o_wd (i := 4) hw rfl) (by decide) (ct_1 l Z a0 hw (2 : Int32) h0 n0 (o_n0 S) ) (by decide) (by decide) rfl rfl pd_0 rfl (Nat.le_of_eq rfl) at_17 rfl (q := 20) (by decide) (by decide) (fun T h45 rr46 S hQ => ?_)
    obtain ⟨b47, g_b47, sz'_b47, hv, K1, A_b47'⟩ := hQ
    subst hv
    have A_b47 := A_b47'
    show Wp p e below (Po s n0 room_1 Q0) T (mkF m 20 #[.val (.int p0), .val (.int p1), .val (.int p2), .val (.int p3), .val (.int p4), .val (.int p5), .val (.int v1), .val (.int (2 : Int32)), .unset, .unset, .unset, .unset, .unset, .unset, .unset, .unset, .unset, .unset, .unset, .unset, .unset, .unset] [(.ref b47)])
    have A_b47 : IA Z h45 b47 .int [(-1 : Int32), (-1 : Int32), (-1 : Int32), (-1 : Int32), (-1 : Int32), (-1 : Int32), (-1 : Int32), (-1 : Int32)] := by have q := A_b47; rw [frL, if_neg (by decide), if_neg (by decide)] at q; exact q
    refine o_astore S (L' := #[.val (.int p0), .val (.int p1), .val (.int p2), .val (.int p3), .val (.int p4), .val (.int p5), .val (.int v1), .val (.int (2 : Int32)), .val (.ref b47), .unset, .unset, .unset, .unset, .unset, .unset, .unset, .unset, .unset, .unset, .unset, .unset, .unset]) rfl rfl at_20 rfl (q := 22) ?_
    refine o_iload S rfl at_22 rfl (q := 24) ?_
    refine o_callS S (W := 0) (argsL := [(.int (2 : Int32))]) (rest := []) (o_wd (i := 1) hw rfl) (o_wd (i := 2) hw rfl) (o_wd (i := 3) hw rfl) (o_wd (i := 4) hw rfl) (by decide) (ct_1 l Z a0 hw (2 : Int32) h45 n0 (o_n0 S) ) (by decide) (by decide) rfl rfl pd_0 rfl (Nat.le_of_eq rfl) at_24 rfl (q := 27) (by decide) (by decide) (fun T h48 rr49 S hQ => ?_)
    obtain ⟨b50, g_b50, sz'_b50, hv, K1, A_b50'⟩ := hQ
    subst hv
    have ne_b47_b50 : b47 ≠ b50 := Nat.ne_of_lt (Nat.lt_of_lt_of_le A_b47.lt sz'_b50)
    have A_b47 := A_b47.keep K1 nin0
    have A_b50 := A_b50'
    show Wp p e below (Po s n0 room_1 Q0) T (mkF m 27 #[.val (.int p0), .val (.int p1), .val (.int p2), .val (.int p3), .val (.int p4), .val (.int p5), .val (.int v1), .val (.int (2 : Int32)), .val (.ref b47), .unset, .unset, .unset, .unset, .unset, .unset, .unset, .unset, .unset, .unset, .unset, .unset, .unset] [(.ref b50)])
    have A_b50 : IA Z h48 b50 .int [(-1 : Int32), (-1 : Int32), (-1 : Int32), (-1 : Int32), (-1 : Int32), (-1 : Int32), (-1 : Int32), (-1 : Int32)] := by have q := A_b50; rw [frL, if_neg (by decide), if_neg (by decide)] at q; exact q
    refine o_astore S (L' := #[.val (.int p0), .val (.int p1), .val (.int p2), .val (.int p3), .val (.int p4), .val (.int p5), .val (.int v1), .val (.int (2 : Int32)), .val (.ref b47), .val (.ref b50), .unset, .unset, .unset, .unset, .unset, .unset, .unset, .unset, .unset, .unset, .unset, .unset]) rfl rfl at_27 rfl (q := 29) ?_
    refine o_aload S rfl rfl at_29 rfl (q := 31) ?_
    refine o_arraylength S A_b50 (z := (8 : Int32)) rfl at_31 rfl (q := 32) ?_
    refine o_istore S (L' := #[.val (.int p0), .val (.int p1), .val (.int p2), .val (.int p3), .val (.int p4), .val (.int p5), .val (.int v1), .val (.int (2 : Int32)), .val (.ref b47), .val (.ref b50), .val (.int (8 : Int32)), .unset, .unset, .unset, .unset, .unset, .unset, .unset, .unset, .unset, .unset, .unset]) rfl at_32 rfl (q := 34) ?_
    refine o_iload S rfl at_34 rfl (q := 36) ?_
    refine o_iconst S (z := 1) rfl at_36 rfl (q := 37) ?_
    refine o_isub S at_37 rfl (q := 38) ?_
    refine o_istoreV S (L' := fun v51 => #[.val (.int p0), .val (.int p1), .val (.int p2), .val (.int p3), .val (.int p4), .val (.int p5), .val (.int v1), .val (.int (2 : Int32)), .val (.ref b47), .val (.ref b50), .val (.int (8 : Int32)), .val (.int v51), .unset, .unset, .unset, .unset, .unset, .unset, .unset, .unset, .unset, .unset]) (fun _ => rfl) at_38 rfl (q := 40) (fun v51 hv51 => ?_)
    have q11 : v51 = (7 : Int32) := by rw [hv51]; decide
    subst q11
    refine o_iload S rfl at_40 rfl (q := 42) ?_
    refine o_iconst S (z := 1) rfl at_42 rfl (q := 43) ?_
    refine o_ishr S at_43 rfl (q := 44) ?_
    refine o_istoreV S (L' := fun v52 => #[.val (.int p0), .val (.int p1), .val (.int p2), .val (.int p3), .val (.int p4), .val (.int p5), .val (.int v1), .val (.int (2 : Int32)), .val (.ref b47), .val (.ref b50), .val (.int (8 : Int32)), .val (.int (7 : Int32)), .val (.int v52), .unset, .unset, .unset, .unset, .unset, .unset, .unset, .unset, .unset]) (fun _ => rfl) at_44 rfl (q := 46) (fun v52 hv52 => ?_)
    have q12 : v52 = (4 : Int32) := by rw [hv52]; decide
    subst q12
    refine o_iload S rfl at_46 rfl (q := 48) ?_
    refine o_aload S rfl rfl at_48 rfl (q := 50) ?_
    refine o_callS0 S (W := 0) (argsL := [(.int v1), (.ref b47)]) (rest := []) (o_wd (i := 6) hw rfl) (o_wd (i := 7) hw rfl) (o_wd (i := 8) hw rfl) (o_wd (i := 9) hw rfl) (by decide) (ct_2 l Z a0 hw v1 b47 ([(-1 : Int32), (-1 : Int32), (-1 : Int32), (-1 : Int32), (-1 : Int32), (-1 : Int32), (-1 : Int32), (-1 : Int32)]) (8 : Int32) 0 h48 n0 (o_n0 S) A_b47 rfl (by show (8 : Int) = _; rfl) (by decide) (free_hit (N := 8) (own_mask (L := 8) rfl (by decide)).1 (own_mask (L := 8) rfl (by decide)).2)) (by decide) (by decide) rfl rfl pd_1 rfl (Nat.le_of_eq rfl) at_50 rfl (q := 53) (by decide) (by decide) rfl (st' := [(.int (prb ([(-1 : Int32), (-1 : Int32), (-1 : Int32), (-1 : Int32), (-1 : Int32), (-1 : Int32), (-1 : Int32), (-1 : Int32)]) v1 ((8 : Int32) - (1 : Int32)) 0 (s0F v1 (8 : Int32))))]) (fun T S => ?_)
    refine o_istoreV S (L' := fun hh => #[.val (.int p0), .val (.int p1), .val (.int p2), .val (.int p3), .val (.int p4), .val (.int p5), .val (.int v1), .val (.int (2 : Int32)), .val (.ref b47), .val (.ref b50), .val (.int (8 : Int32)), .val (.int (7 : Int32)), .val (.int (4 : Int32)), .val (.int hh), .unset, .unset, .unset, .unset, .unset, .unset, .unset, .unset]) (fun _ => rfl) at_53 rfl (q := 55) (fun hh hhh => ?_)
    have hh0 : 0 ≤ hh.toInt ∧ hh.toInt < 8 := by rw [hhh]; exact own_mask (L := 8) rfl (by decide)
    refine o_iload S rfl at_55 rfl (q := 57) ?_
    refine o_if S at_57 (by decide) (q' := 67) (by decide) (q := 60) rfl (hs_lt (a := hh.toInt) (b := 0) rfl rfl).1 (hs_lt (a := hh.toInt) (b := 0) rfl rfl).2 (fun hc57 => ?_) (fun hc57 => ?_)
    · exact absurd hc57 (by omega)
    · skip
      refine o_iload S rfl at_60 rfl (q := 62) ?_
      refine o_iload S rfl at_62 rfl (q := 64) ?_
      refine o_icmp S at_64 (by decide) (q' := 69) (by decide) (q := 67) rfl (hs_lt (a := hh.toInt) (b := 8) rfl rfl).1 (hs_lt (a := hh.toInt) (b := 8) rfl rfl).2 (fun hc64 => ?_) (fun hc64 => ?_)
      · skip
        refine o_iloadN S rfl at_69 rfl (q := 70) ?_
        refine o_ldc S (o_wd (i := 0) hw rfl) at_70 rfl (q := 72) ?_
        refine o_iand S at_72 rfl (q := 73) ?_
        refine o_istoreV S (L' := fun v53 => #[.val (.int p0), .val (.int p1), .val (.int p2), .val (.int p3), .val (.int p4), .val (.int p5), .val (.int v1), .val (.int (2 : Int32)), .val (.ref b47), .val (.ref b50), .val (.int (8 : Int32)), .val (.int (7 : Int32)), .val (.int (4 : Int32)), .val (.int hh), .val (.int v53), .unset, .unset, .unset, .unset, .unset, .unset, .unset]) (fun _ => rfl) at_73 rfl (q := 75) (fun v53 hv53 => ?_)
        refine o_iloadN S rfl at_75 rfl (q := 76) ?_
        refine o_ldc S (o_wd (i := 0) hw rfl) at_76 rfl (q := 78) ?_
        refine o_iand S at_78 rfl (q := 79) ?_
        refine o_istoreV S (L' := fun v54 => #[.val (.int p0), .val (.int p1), .val (.int p2), .val (.int p3), .val (.int p4), .val (.int p5), .val (.int v1), .val (.int (2 : Int32)), .val (.ref b47), .val (.ref b50), .val (.int (8 : Int32)), .val (.int (7 : Int32)), .val (.int (4 : Int32)), .val (.int hh), .val (.int v53), .val (.int v54), .unset, .unset, .unset, .unset, .unset, .unset]) (fun _ => rfl) at_79 rfl (q := 81) (fun v54 hv54 => ?_)
        refine o_iload S rfl at_81 rfl (q := 83) ?_
        refine o_bipush S (z := 6) rfl at_83 rfl (q := 85) ?_
        refine o_iushr S at_85 rfl (q := 86) ?_
        refine o_iconst S (z := 1) rfl at_86 rfl (q := 87) ?_
        refine o_iand S at_87 rfl (q := 88) ?_
        refine o_cutS S (G := fun T => ∀ (v55 : Int32), v55 = (if (((p4.toUInt32 >>> ((6 : Int32) &&& 31).toUInt32).toInt32) &&& (1 : Int32)) = (0 : Int32) then v53 else v1) → Wp p e below (Po s n0 room_1 Q0) T (mkF m 98 #[.val (.int p0), .val (.int p1), .val (.int p2), .val (.int p3), .val (.int p4), .val (.int p5), .val (.int v1), .val (.int (2 : Int32)), .val (.ref b47), .val (.ref b50), .val (.int (8 : Int32)), .val (.int (7 : Int32)), .val (.int (4 : Int32)), .val (.int hh), .val (.int v53), .val (.int v54), .unset, .unset, .unset, .unset, .unset, .unset] [(.int v55)])) (fun k88 => ?_) (fun T S v55 hv55 => ?_)
        · skip
          refine o_if S at_88 (by decide) (q' := 96) (by decide) (q := 91) rfl hs_eq.1 hs_eq.2 (fun hc88 => ?_) (fun hc88 => ?_)
          · skip
            refine o_iload S rfl at_96 rfl (q := 98) ?_
            exact k88 _ S _ (by rw [if_pos hc88])
          · skip
            refine o_iload S rfl at_91 rfl (q := 93) ?_
            refine o_goto S at_93 (by decide) (q := 98) (by decide) ?_
            exact k88 _ S _ (by rw [if_neg hc88])
        refine o_istore S (L' := #[.val (.int p0), .val (.int p1), .val (.int p2), .val (.int p3), .val (.int p4), .val (.int p5), .val (.int v1), .val (.int (2 : Int32)), .val (.ref b47), .val (.ref b50), .val (.int (8 : Int32)), .val (.int (7 : Int32)), .val (.int (4 : Int32)), .val (.int hh), .val (.int v53), .val (.int v54), .val (.int v55), .unset, .unset, .unset, .unset, .unset]) rfl at_98 rfl (q := 100) ?_
        refine o_iload S rfl at_100 rfl (q := 102) ?_
        refine o_istore S (L' := #[.val (.int p0), .val (.int p1), .val (.int p2), .val (.int p3), .val (.int p4), .val (.int p5), .val (.int v1), .val (.int (2 : Int32)), .val (.ref b47), .val (.ref b50), .val (.int (8 : Int32)), .val (.int (7 : Int32)), .val (.int (4 : Int32)), .val (.int hh), .val (.int v53), .val (.int v54), .val (.int v55), .val (.int v54), .unset, .unset, .unset, .unset]) rfl at_102 rfl (q := 104) ?_
        refine o_iload S rfl at_104 rfl (q := 106) ?_
        refine o_sipush S (z := 21845) rfl at_106 rfl (q := 109) ?_
        refine o_ixor S at_109 rfl (q := 110) ?_
        refine o_istoreV S (L' := fun v56 => #[.val (.int p0), .val (.int p1), .val (.int p2), .val (.int p3), .val (.int p4), .val (.int p5), .val (.int v1), .val (.int (2 : Int32)), .val (.ref b47), .val (.ref b50), .val (.int (8 : Int32)), .val (.int (7 : Int32)), .val (.int (4 : Int32)), .val (.int hh), .val (.int v53), .val (.int v54), .val (.int v55), .val (.int v54), .val (.int v56), .unset, .unset, .unset]) (fun _ => rfl) at_110 rfl (q := 112) (fun v56 hv56 => ?_)
        refine o_iload S rfl at_112 rfl (q := 114) ?_
        refine o_sipush S (z := 10922) rfl at_114 rfl (q := 117) ?_
        refine o_ixor S at_117 rfl (q := 118) ?_
        refine o_istoreV S (L' := fun v57 => #[.val (.int p0), .val (.int p1), .val (.int p2), .val (.int p3), .val (.int p4), .val (.int p5), .val (.int v1), .val (.int (2 : Int32)), .val (.ref b47), .val (.ref b50), .val (.int (8 : Int32)), .val (.int (7 : Int32)), .val (.int (4 : Int32)), .val (.int hh), .val (.int v53), .val (.int v54), .val (.int v55), .val (.int v54), .val (.int v56), .val (.int v57), .unset, .unset]) (fun _ => rfl) at_118 rfl (q := 120) (fun v57 hv57 => ?_)
        have hl0 : ([(-1 : Int32), (-1 : Int32), (-1 : Int32), (-1 : Int32), (-1 : Int32), (-1 : Int32), (-1 : Int32), (-1 : Int32)]).length = 8 := rfl
        have hz0 : 8 ≤ frc ([(-1 : Int32), (-1 : Int32), (-1 : Int32), (-1 : Int32), (-1 : Int32), (-1 : Int32), (-1 : Int32), (-1 : Int32)]) := by decide
        refine o_aload S rfl rfl at_120 rfl (q := 122) ?_
        refine o_iconst S (z := 0) rfl at_122 rfl (q := 123) ?_
        refine o_iload S rfl at_123 rfl (q := 125) ?_
        refine o_iload S rfl at_125 rfl (q := 127) ?_
        refine o_iloadN S rfl at_127 rfl (q := 128) ?_
        refine o_iload S rfl at_128 rfl (q := 130) ?_
        refine o_iload S rfl at_130 rfl (q := 132) ?_
        refine o_iload S rfl at_132 rfl (q := 134) ?_
        refine o_callS S (W := 0) (argsL := [(.ref b50), (.int (0 : Int32)), (.int (4 : Int32)), (.int p4), (.int p3), (.int hh), (.int (7 : Int32)), (.int v55)]) (rest := []) (o_wd (i := 11) hw rfl) (o_wd (i := 12) hw rfl) (o_wd (i := 3) hw rfl) (o_wd (i := 13) hw rfl) (by decide) (ct_3 l Z a0 hw b50 (0 : Int32) (4 : Int32) p4 p3 hh (7 : Int32) v55 ([(-1 : Int32), (-1 : Int32), (-1 : Int32), (-1 : Int32), (-1 : Int32), (-1 : Int32), (-1 : Int32), (-1 : Int32)]) h48 n0 (o_n0 S) A_b50 g_b50 (by decide) (by rw [hl0]; decide)) (by decide) (by decide) rfl rfl pd_2 rfl (Nat.le_of_eq rfl) at_134 rfl (q := 137) (by decide) (by decide) (fun T h58 rr59 S hQ => ?_)
        obtain ⟨hv, K1, A_b50'⟩ := hQ
        subst hv
        have A_b47 := A_b47.keep K1 (ninS ne_b47_b50 nin0)
        have A_b50 := A_b50'
        show Wp p e below (Po s n0 room_1 Q0) T (mkF m 137 #[.val (.int p0), .val (.int p1), .val (.int p2), .val (.int p3), .val (.int p4), .val (.int p5), .val (.int v1), .val (.int (2 : Int32)), .val (.ref b47), .val (.ref b50), .val (.int (8 : Int32)), .val (.int (7 : Int32)), .val (.int (4 : Int32)), .val (.int hh), .val (.int v53), .val (.int v54), .val (.int v55), .val (.int v54), .val (.int v56), .val (.int v57), .unset, .unset] [])
        have hl1 : (plF (0 : Int32) (4 : Int32) p4 p3 hh (7 : Int32) v55 ([(-1 : Int32), (-1 : Int32), (-1 : Int32), (-1 : Int32), (-1 : Int32), (-1 : Int32), (-1 : Int32), (-1 : Int32)])).length = 8 := pl_len.trans hl0
        have hz1 : 7 ≤ frc (plF (0 : Int32) (4 : Int32) p4 p3 hh (7 : Int32) v55 ([(-1 : Int32), (-1 : Int32), (-1 : Int32), (-1 : Int32), (-1 : Int32), (-1 : Int32), (-1 : Int32), (-1 : Int32)])) := by have := pl_frc (p1 := (0 : Int32)) (p2 := (4 : Int32)) (p3 := p4) (p4 := p3) (p5 := hh) (p6 := (7 : Int32)) (p7 := v55) (xs := [(-1 : Int32), (-1 : Int32), (-1 : Int32), (-1 : Int32), (-1 : Int32), (-1 : Int32), (-1 : Int32), (-1 : Int32)]); have := hz0; omega
        refine o_aload S rfl rfl at_137 rfl (q := 139) ?_
        refine o_iconst S (z := 1) rfl at_139 rfl (q := 140) ?_
        refine o_iload S rfl at_140 rfl (q := 142) ?_
        refine o_iload S rfl at_142 rfl (q := 144) ?_
        refine o_iloadN S rfl at_144 rfl (q := 145) ?_
        refine o_iload S rfl at_145 rfl (q := 147) ?_
        refine o_iload S rfl at_147 rfl (q := 149) ?_
        refine o_iload S rfl at_149 rfl (q := 151) ?_
        refine o_callS S (W := 0) (argsL := [(.ref b50), (.int (1 : Int32)), (.int (4 : Int32)), (.int p4), (.int p3), (.int hh), (.int (7 : Int32)), (.int v54)]) (rest := []) (o_wd (i := 11) hw rfl) (o_wd (i := 12) hw rfl) (o_wd (i := 3) hw rfl) (o_wd (i := 13) hw rfl) (by decide) (ct_3 l Z a0 hw b50 (1 : Int32) (4 : Int32) p4 p3 hh (7 : Int32) v54 (plF (0 : Int32) (4 : Int32) p4 p3 hh (7 : Int32) v55 ([(-1 : Int32), (-1 : Int32), (-1 : Int32), (-1 : Int32), (-1 : Int32), (-1 : Int32), (-1 : Int32), (-1 : Int32)])) h58 n0 (o_n0 S) A_b50 g_b50 (by decide) (by rw [hl1]; decide)) (by decide) (by decide) rfl rfl pd_2 rfl (Nat.le_of_eq rfl) at_151 rfl (q := 154) (by decide) (by decide) (fun T h60 rr61 S hQ => ?_)
        obtain ⟨hv, K1, A_b50'⟩ := hQ
        subst hv
        have A_b47 := A_b47.keep K1 (ninS ne_b47_b50 nin0)
        have A_b50 := A_b50'
        show Wp p e below (Po s n0 room_1 Q0) T (mkF m 154 #[.val (.int p0), .val (.int p1), .val (.int p2), .val (.int p3), .val (.int p4), .val (.int p5), .val (.int v1), .val (.int (2 : Int32)), .val (.ref b47), .val (.ref b50), .val (.int (8 : Int32)), .val (.int (7 : Int32)), .val (.int (4 : Int32)), .val (.int hh), .val (.int v53), .val (.int v54), .val (.int v55), .val (.int v54), .val (.int v56), .val (.int v57), .unset, .unset] [])
        have hl2 : (plF (1 : Int32) (4 : Int32) p4 p3 hh (7 : Int32) v54 (plF (0 : Int32) (4 : Int32) p4 p3 hh (7 : Int32) v55 ([(-1 : Int32), (-1 : Int32), (-1 : Int32), (-1 : Int32), (-1 : Int32), (-1 : Int32), (-1 : Int32), (-1 : Int32)]))).length = 8 := pl_len.trans hl1
        have hz2 : 6 ≤ frc (plF (1 : Int32) (4 : Int32) p4 p3 hh (7 : Int32) v54 (plF (0 : Int32) (4 : Int32) p4 p3 hh (7 : Int32) v55 ([(-1 : Int32), (-1 : Int32), (-1 : Int32), (-1 : Int32), (-1 : Int32), (-1 : Int32), (-1 : Int32), (-1 : Int32)]))) := by have := pl_frc (p1 := (1 : Int32)) (p2 := (4 : Int32)) (p3 := p4) (p4 := p3) (p5 := hh) (p6 := (7 : Int32)) (p7 := v54) (xs := plF (0 : Int32) (4 : Int32) p4 p3 hh (7 : Int32) v55 ([(-1 : Int32), (-1 : Int32), (-1 : Int32), (-1 : Int32), (-1 : Int32), (-1 : Int32), (-1 : Int32), (-1 : Int32)])); have := hz1; omega
        refine o_aload S rfl rfl at_154 rfl (q := 156) ?_
        refine o_iconst S (z := 2) rfl at_156 rfl (q := 157) ?_
        refine o_iload S rfl at_157 rfl (q := 159) ?_
        refine o_iload S rfl at_159 rfl (q := 161) ?_
        refine o_iloadN S rfl at_161 rfl (q := 162) ?_
        refine o_iload S rfl at_162 rfl (q := 164) ?_
        refine o_iload S rfl at_164 rfl (q := 166) ?_
        refine o_iload S rfl at_166 rfl (q := 168) ?_
        refine o_callS S (W := 0) (argsL := [(.ref b50), (.int (2 : Int32)), (.int (4 : Int32)), (.int p4), (.int p3), (.int hh), (.int (7 : Int32)), (.int v56)]) (rest := []) (o_wd (i := 11) hw rfl) (o_wd (i := 12) hw rfl) (o_wd (i := 3) hw rfl) (o_wd (i := 13) hw rfl) (by decide) (ct_3 l Z a0 hw b50 (2 : Int32) (4 : Int32) p4 p3 hh (7 : Int32) v56 (plF (1 : Int32) (4 : Int32) p4 p3 hh (7 : Int32) v54 (plF (0 : Int32) (4 : Int32) p4 p3 hh (7 : Int32) v55 ([(-1 : Int32), (-1 : Int32), (-1 : Int32), (-1 : Int32), (-1 : Int32), (-1 : Int32), (-1 : Int32), (-1 : Int32)]))) h60 n0 (o_n0 S) A_b50 g_b50 (by decide) (by rw [hl2]; decide)) (by decide) (by decide) rfl rfl pd_2 rfl (Nat.le_of_eq rfl) at_168 rfl (q := 171) (by decide) (by decide) (fun T h62 rr63 S hQ => ?_)
        obtain ⟨hv, K1, A_b50'⟩ := hQ
        subst hv
        have A_b47 := A_b47.keep K1 (ninS ne_b47_b50 nin0)
        have A_b50 := A_b50'
        show Wp p e below (Po s n0 room_1 Q0) T (mkF m 171 #[.val (.int p0), .val (.int p1), .val (.int p2), .val (.int p3), .val (.int p4), .val (.int p5), .val (.int v1), .val (.int (2 : Int32)), .val (.ref b47), .val (.ref b50), .val (.int (8 : Int32)), .val (.int (7 : Int32)), .val (.int (4 : Int32)), .val (.int hh), .val (.int v53), .val (.int v54), .val (.int v55), .val (.int v54), .val (.int v56), .val (.int v57), .unset, .unset] [])
        have hl3 : (plF (2 : Int32) (4 : Int32) p4 p3 hh (7 : Int32) v56 (plF (1 : Int32) (4 : Int32) p4 p3 hh (7 : Int32) v54 (plF (0 : Int32) (4 : Int32) p4 p3 hh (7 : Int32) v55 ([(-1 : Int32), (-1 : Int32), (-1 : Int32), (-1 : Int32), (-1 : Int32), (-1 : Int32), (-1 : Int32), (-1 : Int32)])))).length = 8 := pl_len.trans hl2
        have hz3 : 5 ≤ frc (plF (2 : Int32) (4 : Int32) p4 p3 hh (7 : Int32) v56 (plF (1 : Int32) (4 : Int32) p4 p3 hh (7 : Int32) v54 (plF (0 : Int32) (4 : Int32) p4 p3 hh (7 : Int32) v55 ([(-1 : Int32), (-1 : Int32), (-1 : Int32), (-1 : Int32), (-1 : Int32), (-1 : Int32), (-1 : Int32), (-1 : Int32)])))) := by have := pl_frc (p1 := (2 : Int32)) (p2 := (4 : Int32)) (p3 := p4) (p4 := p3) (p5 := hh) (p6 := (7 : Int32)) (p7 := v56) (xs := plF (1 : Int32) (4 : Int32) p4 p3 hh (7 : Int32) v54 (plF (0 : Int32) (4 : Int32) p4 p3 hh (7 : Int32) v55 ([(-1 : Int32), (-1 : Int32), (-1 : Int32), (-1 : Int32), (-1 : Int32), (-1 : Int32), (-1 : Int32), (-1 : Int32)]))); have := hz2; omega
        refine o_aload S rfl rfl at_171 rfl (q := 173) ?_
        refine o_iconst S (z := 3) rfl at_173 rfl (q := 174) ?_
        refine o_iload S rfl at_174 rfl (q := 176) ?_
        refine o_iload S rfl at_176 rfl (q := 178) ?_
        refine o_iloadN S rfl at_178 rfl (q := 179) ?_
        refine o_iload S rfl at_179 rfl (q := 181) ?_
        refine o_iload S rfl at_181 rfl (q := 183) ?_
        refine o_iload S rfl at_183 rfl (q := 185) ?_
        refine o_callS S (W := 0) (argsL := [(.ref b50), (.int (3 : Int32)), (.int (4 : Int32)), (.int p4), (.int p3), (.int hh), (.int (7 : Int32)), (.int v57)]) (rest := []) (o_wd (i := 11) hw rfl) (o_wd (i := 12) hw rfl) (o_wd (i := 3) hw rfl) (o_wd (i := 13) hw rfl) (by decide) (ct_3 l Z a0 hw b50 (3 : Int32) (4 : Int32) p4 p3 hh (7 : Int32) v57 (plF (2 : Int32) (4 : Int32) p4 p3 hh (7 : Int32) v56 (plF (1 : Int32) (4 : Int32) p4 p3 hh (7 : Int32) v54 (plF (0 : Int32) (4 : Int32) p4 p3 hh (7 : Int32) v55 ([(-1 : Int32), (-1 : Int32), (-1 : Int32), (-1 : Int32), (-1 : Int32), (-1 : Int32), (-1 : Int32), (-1 : Int32)])))) h62 n0 (o_n0 S) A_b50 g_b50 (by decide) (by rw [hl3]; decide)) (by decide) (by decide) rfl rfl pd_2 rfl (Nat.le_of_eq rfl) at_185 rfl (q := 188) (by decide) (by decide) (fun T h64 rr65 S hQ => ?_)
        obtain ⟨hv, K1, A_b50'⟩ := hQ
        subst hv
        have A_b47 := A_b47.keep K1 (ninS ne_b47_b50 nin0)
        have A_b50 := A_b50'
        show Wp p e below (Po s n0 room_1 Q0) T (mkF m 188 #[.val (.int p0), .val (.int p1), .val (.int p2), .val (.int p3), .val (.int p4), .val (.int p5), .val (.int v1), .val (.int (2 : Int32)), .val (.ref b47), .val (.ref b50), .val (.int (8 : Int32)), .val (.int (7 : Int32)), .val (.int (4 : Int32)), .val (.int hh), .val (.int v53), .val (.int v54), .val (.int v55), .val (.int v54), .val (.int v56), .val (.int v57), .unset, .unset] [])
        have hl4 : (plF (3 : Int32) (4 : Int32) p4 p3 hh (7 : Int32) v57 (plF (2 : Int32) (4 : Int32) p4 p3 hh (7 : Int32) v56 (plF (1 : Int32) (4 : Int32) p4 p3 hh (7 : Int32) v54 (plF (0 : Int32) (4 : Int32) p4 p3 hh (7 : Int32) v55 ([(-1 : Int32), (-1 : Int32), (-1 : Int32), (-1 : Int32), (-1 : Int32), (-1 : Int32), (-1 : Int32), (-1 : Int32)]))))).length = 8 := pl_len.trans hl3
        have hz4 : 4 ≤ frc (plF (3 : Int32) (4 : Int32) p4 p3 hh (7 : Int32) v57 (plF (2 : Int32) (4 : Int32) p4 p3 hh (7 : Int32) v56 (plF (1 : Int32) (4 : Int32) p4 p3 hh (7 : Int32) v54 (plF (0 : Int32) (4 : Int32) p4 p3 hh (7 : Int32) v55 ([(-1 : Int32), (-1 : Int32), (-1 : Int32), (-1 : Int32), (-1 : Int32), (-1 : Int32), (-1 : Int32), (-1 : Int32)]))))) := by have := pl_frc (p1 := (3 : Int32)) (p2 := (4 : Int32)) (p3 := p4) (p4 := p3) (p5 := hh) (p6 := (7 : Int32)) (p7 := v57) (xs := plF (2 : Int32) (4 : Int32) p4 p3 hh (7 : Int32) v56 (plF (1 : Int32) (4 : Int32) p4 p3 hh (7 : Int32) v54 (plF (0 : Int32) (4 : Int32) p4 p3 hh (7 : Int32) v55 ([(-1 : Int32), (-1 : Int32), (-1 : Int32), (-1 : Int32), (-1 : Int32), (-1 : Int32), (-1 : Int32), (-1 : Int32)])))); have := hz3; omega
        obtain ⟨ys, hys⟩ : ∃ ys, ys = (plF (3 : Int32) (4 : Int32) p4 p3 hh (7 : Int32) v57 (plF (2 : Int32) (4 : Int32) p4 p3 hh (7 : Int32) v56 (plF (1 : Int32) (4 : Int32) p4 p3 hh (7 : Int32) v54 (plF (0 : Int32) (4 : Int32) p4 p3 hh (7 : Int32) v55 ([(-1 : Int32), (-1 : Int32), (-1 : Int32), (-1 : Int32), (-1 : Int32), (-1 : Int32), (-1 : Int32), (-1 : Int32)]))))) := ⟨_, rfl⟩
        rw [← hys] at A_b50 hl4 hz4
        have hyL : ((8 : Int32)).toInt = ys.length := by rw [hl4]; rfl
        have hyN : Int32.ofNat ys.length = (8 : Int32) := by rw [hl4]; rfl
        have hfq := fnd_8 (v := v1) hl4 (by omega) hh0.1 hh0.2
        have hfn : fnd ys v1 ((8 : Int32) - (1 : Int32)) 7 (s0F v1 (8 : Int32)) := by have q : hh = s0F v1 (8 : Int32) := hhh; rw [← q]; exact hfq
        refine o_iload S rfl at_188 rfl (q := 190) ?_
        refine o_aload S rfl rfl at_190 rfl (q := 192) ?_
        refine o_callS0 S (W := 0) (argsL := [(.int v1), (.ref b50)]) (rest := []) (o_wd (i := 6) hw rfl) (o_wd (i := 7) hw rfl) (o_wd (i := 8) hw rfl) (o_wd (i := 9) hw rfl) (by decide) (ct_2 l Z a0 hw v1 b50 ys (8 : Int32) 7 h64 n0 (o_n0 S) A_b50 hyN hyL (by decide) hfn) (by decide) (by decide) rfl rfl pd_1 rfl (Nat.le_of_eq rfl) at_192 rfl (q := 195) (by decide) (by decide) rfl (st' := [(.int (prb ys v1 ((8 : Int32) - (1 : Int32)) 7 (s0F v1 (8 : Int32))))]) (fun T S => ?_)
        refine o_istoreV S (L' := fun rr0 => #[.val (.int p0), .val (.int p1), .val (.int p2), .val (.int p3), .val (.int p4), .val (.int p5), .val (.int v1), .val (.int (2 : Int32)), .val (.ref b47), .val (.ref b50), .val (.int (8 : Int32)), .val (.int (7 : Int32)), .val (.int (4 : Int32)), .val (.int hh), .val (.int v53), .val (.int v54), .val (.int v55), .val (.int v54), .val (.int v56), .val (.int v57), .val (.int rr0), .unset]) (fun _ => rfl) at_195 rfl (q := 197) (fun rr0 hrr0 => ?_)
        refine o_iconst S (z := -1) rfl at_197 rfl (q := 198) ?_
        refine o_istore S (L' := #[.val (.int p0), .val (.int p1), .val (.int p2), .val (.int p3), .val (.int p4), .val (.int p5), .val (.int v1), .val (.int (2 : Int32)), .val (.ref b47), .val (.ref b50), .val (.int (8 : Int32)), .val (.int (7 : Int32)), .val (.int (4 : Int32)), .val (.int hh), .val (.int v53), .val (.int v54), .val (.int v55), .val (.int v54), .val (.int v56), .val (.int v57), .val (.int rr0), .val (.int (-1 : Int32))]) rfl at_198 rfl (q := 200) ?_
        refine o_iload S rfl at_200 rfl (q := 202) ?_
        refine o_iconst S (z := 0) rfl at_202 rfl (q := 203) ?_
        refine o_aload S rfl rfl at_203 rfl (q := 205) ?_
        refine o_iload S rfl at_205 rfl (q := 207) ?_
        refine o_iload S rfl at_207 rfl (q := 209) ?_
        refine o_callS0 S (W := 0) (argsL := [(.int (-1 : Int32)), (.int (0 : Int32)), (.ref b50), (.int hh), (.int v1)]) (rest := []) (o_wd (i := 14) hw rfl) (o_wd (i := 15) hw rfl) (o_wd (i := 3) hw rfl) (o_wd (i := 16) hw rfl) (by decide) (ct_4 l Z a0 hw (-1 : Int32) (0 : Int32) b50 hh v1 ys (8 : Int32) h64 n0 (o_n0 S) A_b50 hyN hyL (by decide)) (by decide) (by decide) rfl rfl pd_3 rfl (Nat.le_of_eq rfl) at_209 rfl (q := 212) (by decide) (by decide) rfl (st' := [(.int (f_step (-1 : Int32) (0 : Int32) hh v1 ys (8 : Int32)))]) (fun T S => ?_)
        refine o_istoreV S (L' := fun e1 => #[.val (.int p0), .val (.int p1), .val (.int p2), .val (.int p3), .val (.int p4), .val (.int p5), .val (.int v1), .val (.int (2 : Int32)), .val (.ref b47), .val (.ref b50), .val (.int (8 : Int32)), .val (.int (7 : Int32)), .val (.int (4 : Int32)), .val (.int hh), .val (.int v53), .val (.int v54), .val (.int v55), .val (.int v54), .val (.int v56), .val (.int v57), .val (.int rr0), .val (.int e1)]) (fun _ => rfl) at_212 rfl (q := 214) (fun e1 he1 => ?_)
        refine o_iload S rfl at_214 rfl (q := 216) ?_
        refine o_iconst S (z := 1) rfl at_216 rfl (q := 217) ?_
        refine o_aload S rfl rfl at_217 rfl (q := 219) ?_
        refine o_iload S rfl at_219 rfl (q := 221) ?_
        refine o_iload S rfl at_221 rfl (q := 223) ?_
        refine o_callS0 S (W := 0) (argsL := [(.int e1), (.int (1 : Int32)), (.ref b50), (.int hh), (.int v1)]) (rest := []) (o_wd (i := 14) hw rfl) (o_wd (i := 15) hw rfl) (o_wd (i := 3) hw rfl) (o_wd (i := 16) hw rfl) (by decide) (ct_4 l Z a0 hw e1 (1 : Int32) b50 hh v1 ys (8 : Int32) h64 n0 (o_n0 S) A_b50 hyN hyL (by decide)) (by decide) (by decide) rfl rfl pd_3 rfl (Nat.le_of_eq rfl) at_223 rfl (q := 226) (by decide) (by decide) rfl (st' := [(.int (f_step e1 (1 : Int32) hh v1 ys (8 : Int32)))]) (fun T S => ?_)
        refine o_istoreV S (L' := fun e2 => #[.val (.int p0), .val (.int p1), .val (.int p2), .val (.int p3), .val (.int p4), .val (.int p5), .val (.int v1), .val (.int (2 : Int32)), .val (.ref b47), .val (.ref b50), .val (.int (8 : Int32)), .val (.int (7 : Int32)), .val (.int (4 : Int32)), .val (.int hh), .val (.int v53), .val (.int v54), .val (.int v55), .val (.int v54), .val (.int v56), .val (.int v57), .val (.int rr0), .val (.int e2)]) (fun _ => rfl) at_226 rfl (q := 228) (fun e2 he2 => ?_)
        refine o_iload S rfl at_228 rfl (q := 230) ?_
        refine o_iconst S (z := 2) rfl at_230 rfl (q := 231) ?_
        refine o_aload S rfl rfl at_231 rfl (q := 233) ?_
        refine o_iload S rfl at_233 rfl (q := 235) ?_
        refine o_iload S rfl at_235 rfl (q := 237) ?_
        refine o_callS0 S (W := 0) (argsL := [(.int e2), (.int (2 : Int32)), (.ref b50), (.int hh), (.int v1)]) (rest := []) (o_wd (i := 14) hw rfl) (o_wd (i := 15) hw rfl) (o_wd (i := 3) hw rfl) (o_wd (i := 16) hw rfl) (by decide) (ct_4 l Z a0 hw e2 (2 : Int32) b50 hh v1 ys (8 : Int32) h64 n0 (o_n0 S) A_b50 hyN hyL (by decide)) (by decide) (by decide) rfl rfl pd_3 rfl (Nat.le_of_eq rfl) at_237 rfl (q := 240) (by decide) (by decide) rfl (st' := [(.int (f_step e2 (2 : Int32) hh v1 ys (8 : Int32)))]) (fun T S => ?_)
        refine o_istoreV S (L' := fun e3 => #[.val (.int p0), .val (.int p1), .val (.int p2), .val (.int p3), .val (.int p4), .val (.int p5), .val (.int v1), .val (.int (2 : Int32)), .val (.ref b47), .val (.ref b50), .val (.int (8 : Int32)), .val (.int (7 : Int32)), .val (.int (4 : Int32)), .val (.int hh), .val (.int v53), .val (.int v54), .val (.int v55), .val (.int v54), .val (.int v56), .val (.int v57), .val (.int rr0), .val (.int e3)]) (fun _ => rfl) at_240 rfl (q := 242) (fun e3 he3 => ?_)
        refine o_iload S rfl at_242 rfl (q := 244) ?_
        refine o_iconst S (z := 3) rfl at_244 rfl (q := 245) ?_
        refine o_aload S rfl rfl at_245 rfl (q := 247) ?_
        refine o_iload S rfl at_247 rfl (q := 249) ?_
        refine o_iload S rfl at_249 rfl (q := 251) ?_
        refine o_callS0 S (W := 0) (argsL := [(.int e3), (.int (3 : Int32)), (.ref b50), (.int hh), (.int v1)]) (rest := []) (o_wd (i := 14) hw rfl) (o_wd (i := 15) hw rfl) (o_wd (i := 3) hw rfl) (o_wd (i := 16) hw rfl) (by decide) (ct_4 l Z a0 hw e3 (3 : Int32) b50 hh v1 ys (8 : Int32) h64 n0 (o_n0 S) A_b50 hyN hyL (by decide)) (by decide) (by decide) rfl rfl pd_3 rfl (Nat.le_of_eq rfl) at_251 rfl (q := 254) (by decide) (by decide) rfl (st' := [(.int (f_step e3 (3 : Int32) hh v1 ys (8 : Int32)))]) (fun T S => ?_)
        refine o_istoreV S (L' := fun e4 => #[.val (.int p0), .val (.int p1), .val (.int p2), .val (.int p3), .val (.int p4), .val (.int p5), .val (.int v1), .val (.int (2 : Int32)), .val (.ref b47), .val (.ref b50), .val (.int (8 : Int32)), .val (.int (7 : Int32)), .val (.int (4 : Int32)), .val (.int hh), .val (.int v53), .val (.int v54), .val (.int v55), .val (.int v54), .val (.int v56), .val (.int v57), .val (.int rr0), .val (.int e4)]) (fun _ => rfl) at_254 rfl (q := 256) (fun e4 he4 => ?_)
        refine o_iload S rfl at_256 rfl (q := 258) ?_
        refine o_iconst S (z := 4) rfl at_258 rfl (q := 259) ?_
        refine o_aload S rfl rfl at_259 rfl (q := 261) ?_
        refine o_iload S rfl at_261 rfl (q := 263) ?_
        refine o_iload S rfl at_263 rfl (q := 265) ?_
        refine o_callS0 S (W := 0) (argsL := [(.int e4), (.int (4 : Int32)), (.ref b50), (.int hh), (.int v1)]) (rest := []) (o_wd (i := 14) hw rfl) (o_wd (i := 15) hw rfl) (o_wd (i := 3) hw rfl) (o_wd (i := 16) hw rfl) (by decide) (ct_4 l Z a0 hw e4 (4 : Int32) b50 hh v1 ys (8 : Int32) h64 n0 (o_n0 S) A_b50 hyN hyL (by decide)) (by decide) (by decide) rfl rfl pd_3 rfl (Nat.le_of_eq rfl) at_265 rfl (q := 268) (by decide) (by decide) rfl (st' := [(.int (f_step e4 (4 : Int32) hh v1 ys (8 : Int32)))]) (fun T S => ?_)
        refine o_istoreV S (L' := fun e5 => #[.val (.int p0), .val (.int p1), .val (.int p2), .val (.int p3), .val (.int p4), .val (.int p5), .val (.int v1), .val (.int (2 : Int32)), .val (.ref b47), .val (.ref b50), .val (.int (8 : Int32)), .val (.int (7 : Int32)), .val (.int (4 : Int32)), .val (.int hh), .val (.int v53), .val (.int v54), .val (.int v55), .val (.int v54), .val (.int v56), .val (.int v57), .val (.int rr0), .val (.int e5)]) (fun _ => rfl) at_268 rfl (q := 270) (fun e5 he5 => ?_)
        refine o_iload S rfl at_270 rfl (q := 272) ?_
        refine o_iconst S (z := 5) rfl at_272 rfl (q := 273) ?_
        refine o_aload S rfl rfl at_273 rfl (q := 275) ?_
        refine o_iload S rfl at_275 rfl (q := 277) ?_
        refine o_iload S rfl at_277 rfl (q := 279) ?_
        refine o_callS0 S (W := 0) (argsL := [(.int e5), (.int (5 : Int32)), (.ref b50), (.int hh), (.int v1)]) (rest := []) (o_wd (i := 14) hw rfl) (o_wd (i := 15) hw rfl) (o_wd (i := 3) hw rfl) (o_wd (i := 16) hw rfl) (by decide) (ct_4 l Z a0 hw e5 (5 : Int32) b50 hh v1 ys (8 : Int32) h64 n0 (o_n0 S) A_b50 hyN hyL (by decide)) (by decide) (by decide) rfl rfl pd_3 rfl (Nat.le_of_eq rfl) at_279 rfl (q := 282) (by decide) (by decide) rfl (st' := [(.int (f_step e5 (5 : Int32) hh v1 ys (8 : Int32)))]) (fun T S => ?_)
        refine o_istoreV S (L' := fun e6 => #[.val (.int p0), .val (.int p1), .val (.int p2), .val (.int p3), .val (.int p4), .val (.int p5), .val (.int v1), .val (.int (2 : Int32)), .val (.ref b47), .val (.ref b50), .val (.int (8 : Int32)), .val (.int (7 : Int32)), .val (.int (4 : Int32)), .val (.int hh), .val (.int v53), .val (.int v54), .val (.int v55), .val (.int v54), .val (.int v56), .val (.int v57), .val (.int rr0), .val (.int e6)]) (fun _ => rfl) at_282 rfl (q := 284) (fun e6 he6 => ?_)
        refine o_iload S rfl at_284 rfl (q := 286) ?_
        refine o_bipush S (z := 6) rfl at_286 rfl (q := 288) ?_
        refine o_aload S rfl rfl at_288 rfl (q := 290) ?_
        refine o_iload S rfl at_290 rfl (q := 292) ?_
        refine o_iload S rfl at_292 rfl (q := 294) ?_
        refine o_callS0 S (W := 0) (argsL := [(.int e6), (.int (6 : Int32)), (.ref b50), (.int hh), (.int v1)]) (rest := []) (o_wd (i := 14) hw rfl) (o_wd (i := 15) hw rfl) (o_wd (i := 3) hw rfl) (o_wd (i := 16) hw rfl) (by decide) (ct_4 l Z a0 hw e6 (6 : Int32) b50 hh v1 ys (8 : Int32) h64 n0 (o_n0 S) A_b50 hyN hyL (by decide)) (by decide) (by decide) rfl rfl pd_3 rfl (Nat.le_of_eq rfl) at_294 rfl (q := 297) (by decide) (by decide) rfl (st' := [(.int (f_step e6 (6 : Int32) hh v1 ys (8 : Int32)))]) (fun T S => ?_)
        refine o_istoreV S (L' := fun e7 => #[.val (.int p0), .val (.int p1), .val (.int p2), .val (.int p3), .val (.int p4), .val (.int p5), .val (.int v1), .val (.int (2 : Int32)), .val (.ref b47), .val (.ref b50), .val (.int (8 : Int32)), .val (.int (7 : Int32)), .val (.int (4 : Int32)), .val (.int hh), .val (.int v53), .val (.int v54), .val (.int v55), .val (.int v54), .val (.int v56), .val (.int v57), .val (.int rr0), .val (.int e7)]) (fun _ => rfl) at_297 rfl (q := 299) (fun e7 he7 => ?_)
        refine o_iload S rfl at_299 rfl (q := 301) ?_
        refine o_bipush S (z := 7) rfl at_301 rfl (q := 303) ?_
        refine o_aload S rfl rfl at_303 rfl (q := 305) ?_
        refine o_iload S rfl at_305 rfl (q := 307) ?_
        refine o_iload S rfl at_307 rfl (q := 309) ?_
        refine o_callS0 S (W := 0) (argsL := [(.int e7), (.int (7 : Int32)), (.ref b50), (.int hh), (.int v1)]) (rest := []) (o_wd (i := 14) hw rfl) (o_wd (i := 15) hw rfl) (o_wd (i := 3) hw rfl) (o_wd (i := 16) hw rfl) (by decide) (ct_4 l Z a0 hw e7 (7 : Int32) b50 hh v1 ys (8 : Int32) h64 n0 (o_n0 S) A_b50 hyN hyL (by decide)) (by decide) (by decide) rfl rfl pd_3 rfl (Nat.le_of_eq rfl) at_309 rfl (q := 312) (by decide) (by decide) rfl (st' := [(.int (f_step e7 (7 : Int32) hh v1 ys (8 : Int32)))]) (fun T S => ?_)
        refine o_istoreV S (L' := fun e8 => #[.val (.int p0), .val (.int p1), .val (.int p2), .val (.int p3), .val (.int p4), .val (.int p5), .val (.int v1), .val (.int (2 : Int32)), .val (.ref b47), .val (.ref b50), .val (.int (8 : Int32)), .val (.int (7 : Int32)), .val (.int (4 : Int32)), .val (.int hh), .val (.int v53), .val (.int v54), .val (.int v55), .val (.int v54), .val (.int v56), .val (.int v57), .val (.int rr0), .val (.int e8)]) (fun _ => rfl) at_312 rfl (q := 314) (fun e8 he8 => ?_)
        have hfin := fin_8 (r := rr0) hh0.1 hh0.2 hfq (by rw [hrr0, hhh]; rfl) he1 he2 he3 he4 he5 he6 he7 he8
        refine o_iload S rfl at_314 rfl (q := 316) ?_
        refine o_if S at_316 (by decide) (q' := 330) (by decide) (q := 319) rfl (hs_lt (a := e8.toInt) (b := 0) rfl rfl).1 (hs_lt (a := e8.toInt) (b := 0) rfl rfl).2 (fun hc316 => ?_) (fun hc316 => ?_)
        · exact absurd hc316 hfin.1
        · skip
          refine o_iload S rfl at_319 rfl (q := 321) ?_
          refine o_iload S rfl at_321 rfl (q := 323) ?_
          refine o_icmp S at_323 (by decide) (q' := 330) (by decide) (q := 326) rfl hs_ne.1 hs_ne.2 (fun hc323 => ?_) (fun hc323 => ?_)
          · exact absurd hfin.2 hc323
          · skip
            refine o_iconst S (z := 1) rfl at_326 rfl (q := 327) ?_
            refine o_goto S at_327 (by decide) (q := 331) (by decide) ?_
            refine o_retN S (t := .boolean) rfl (by simp) at_331 (by decide) (by decide) rfl ?_
            rfl
      · exact absurd hc64 (by omega)
set_option maxRecDepth 65536 in
set_option maxHeartbeats 40000000 in
theorem comes_1 {Post : Tables → Env → Array Value → State → Outcome → State → Prop} (hpost : ∀ tb e args s v u, (limb_1_1.after args s (.returned v) u = true ∧ limb_1_2.after args s (.returned v) u = true ∧ True) → FrameEnd s (.returned v) u (Jvm.fieldLocs frame_1_writes args s ++ Jvm.arrayLocs frame_1_arrays args s ++ Jvm.staticLocs frame_1_statics s) 16 128 → Post tb e args s (.returned v) u) :
    ArmFor flags0 classFile x code maxLocals ret World_1 tables_1 room_1 Calls_1 rest_1 Pre_1 Post := by
  intro l hfl _ _ p e ha hc hk s m args below hf hA hF happ hP
  obtain ⟨hcalls, hrest, hpre⟩ := hP
  obtain ⟨-, -, -, hnamed, -, -, -, hat⟩ := (Spec.applies_iff hf).mp happ
  obtain ⟨hg, hn⟩ := and_e (Cond.before_iff.mp (show (Jvm.Cond.and given_1 narrow_1).before args s = true from hpre))
  obtain ⟨g0, g⟩ := and_e hg
  obtain ⟨w0, w1, w2, w3, w4, w5, rfl⟩ : ∃ w0 w1 w2 w3 w4 w5 : Value, args = #[w0, w1, w2, w3, w4, w5] := by
    have hs : args.size = 6 := by simpa [Cond.value, given_1] using g0
    obtain ⟨L⟩ := args
    match L, hs with
    | [w0, w1, w2, w3, w4, w5], _ => exact ⟨w0, w1, w2, w3, w4, w5, rfl⟩
  have hw := fun d (hd : d ∈ tables_1) => atoms_spec (ws := Jvm.Cond.code x code maxLocals ret :: tables_1) hat d (List.mem_cons_of_mem _ hd)
  obtain ⟨g1, gr1⟩ := and_e g
  obtain ⟨i0, ei0⟩ := is_v g1
  obtain rfl : w0 = (.int i0) := Option.some.inj ei0
  obtain ⟨g2, gr2⟩ := and_e gr1
  obtain ⟨i1, ei1⟩ := is_v g2
  obtain rfl : w1 = (.int i1) := Option.some.inj ei1
  obtain ⟨g3, gr3⟩ := and_e gr2
  obtain ⟨i2, ei2⟩ := is_v g3
  obtain rfl : w2 = (.int i2) := Option.some.inj ei2
  obtain ⟨g4, gr4⟩ := and_e gr3
  obtain ⟨i3, ei3⟩ := is_v g4
  obtain rfl : w3 = (.int i3) := Option.some.inj ei3
  obtain ⟨g5, gr5⟩ := and_e gr4
  obtain ⟨i4, ei4⟩ := is_v g5
  obtain rfl : w4 = (.int i4) := Option.some.inj ei4
  obtain ⟨i5, ei5⟩ := is_v gr5
  obtain rfl : w5 = (.int i5) := Option.some.inj ei5
  obtain ⟨n, o, h1, h2, h3, _, L, rfl, ⟨rfl, N⟩, hq⟩ := ct_0 l s _ hw tables_1 i0 i1 i2 i3 i4 i5 s.heap s.heap.size (Nat.le_refl _) p e ha hc hk s m _ below hf ((Spec.applies_iff_loose hf).mp happ).1 ⟨rfl, State.Warmed39.refl s, rfl⟩ trivial
  refine ⟨n, _, h1, h2, h3, hpost _ _ _ _ _ _ ⟨Cond.after_iff.mpr rfl, Cond.after_iff.mpr (eq_i res_at (Term.int_eval (1)) rfl), trivial⟩ ⟨hq.1, hq.2.1, (hq.2.2.sift fun y hy => Or.inr (N y hy)).mono (by decide) (by decide)⟩⟩
theorem main_1_1 : Claimed_1_1 := comes_1 fun _ _ _ _ _ _ h hF => ⟨h.1, hF⟩
theorem main_1_2 : Claimed_1_2 := comes_1 fun _ _ _ _ _ _ h hF => ⟨h.2.1, hF⟩
end Jvm.Pilot.@@N@@
namespace Jvm.Pilot.@@N@@
open Jvm Jvm.ClassFile Sem Op Lib Jvm.Free Jvm.Stand Jvm.Pilot.@@N@@.Jvm.D
/-! MADE BY PROGRAM (witnessworld.py) out of the Statement's table words and the real class files: 9 classes; the members and pool entries that the words name. The judged class is class 1, her method 1. -/
namespace start1
open Jvm.ClassFile
def u (s : String) : CpInfo := .utf8 (stringToUtf16 s)
/-- a pool by its gaps: so many unusable entries, then the entry; so many at the end -/
def gap : Nat → List CpInfo → List CpInfo
  | 0, r => r
  | n + 1, r => .unusable :: gap n r
def poolList (es : List (Nat × CpInfo)) (last : Nat) : List CpInfo := es.foldr (fun e r => gap e.1 (e.2 :: r)) (gap last [])
def pool (es : List (Nat × CpInfo)) (last : Nat) : Array CpInfo := ⟨poolList es last⟩
def fileOf (pool : Array CpInfo) (this : Nat) (attrs : Array Attribute := #[]) (ms : Array MethodInfo := #[]) (fl : Nat := 33) (sup : Nat := 0) (ifs : Array Nat := #[]) (fds : Array FieldInfo := #[]) : ClassFile where
  minorVersion := 0
  majorVersion := 65
  constantPool := pool
  accessFlags := fl
  thisClass := this
  superClass := sup
  interfaces := ifs
  fields := fds
  methods := ms
  attributes := attrs
def plain (name : String) (sup : Option ClassId) : Class where
  name := name
  kind := .ordinary
  loader := none
  accessFlags := 33
  super := sup
  interfaces := #[]
  cf := none
  fields := #[]
  methods := #[]
  instanceTypes := #[]
  staticTypes := #[]
  resolved := #[]
  callSites := []
  init := .initialized
  statics := none
  mirror := none

def pool0 : Array CpInfo := pool [(5, u "<init>"), (0, u "()V"), (1, .class_ 10), (1, u "java/lang/Object")] 113

def k0m0 : Method := { name := "<init>", desc := "()V", sig := { parameters := [], returnType := none }, accessFlags := 1, code := none }
/-- java/lang/Object -/
def k0 : Class := { plain "java/lang/Object" none with
  accessFlags := 33
  interfaces := #[]
  cf := some (fileOf pool0 8 #[] #[{ accessFlags := 1, nameIndex := 5, descriptorIndex := 6, attributes := #[] }] 33 0 #[] #[])
  fields := #[]
  methods := #[k0m0]
  instanceTypes := #[]
  staticTypes := #[]
  resolved := Array.replicate 124 none
  statics := none }

def pool1 : Array CpInfo := pool [(2, .class_ 4), (1, u "java/lang/Object"), (0, u "<init>"), (0, u "()V"), (0, .integer 2147483647), (0, .methodref 9 10), (0, .class_ 11), (0, .nameAndType 12 13), (0, u "com/example/dioscuri/dioscuri/ints/IntSetSlotOfPinLaw"), (0, u "freeSlots"), (0, u "(I)[I"), (0, .methodref 15 16), (0, .class_ 17), (0, .nameAndType 18 19), (0, u "com/example/dioscuri/dioscuri/ints/IntSet"), (0, u "slotOf"), (0, u "(I[I)I"), (0, .methodref 9 21), (0, .nameAndType 22 23), (0, u "place"), (0, u "([IIIIIIII)V"), (0, .methodref 9 25), (0, .nameAndType 26 27), (0, u "step"), (0, u "(II[III)I"), (2, u "law"), (0, u "(IIIIII)Z")] 5

def k1m0 : Method := { name := "<init>", desc := "()V", sig := { parameters := [], returnType := none }, accessFlags := 1, code := none }
def k1c1 : Code := { maxStack := 8, maxLocals := 22, code := code, exceptionTable := #[], attributes := #[] }
def k1m1 : Method := { name := "law", desc := "(IIIIII)Z", sig := { parameters := [.int, .int, .int, .int, .int, .int], returnType := some .boolean }, accessFlags := 9, code := some k1c1 }
def k1c2 : Code := { maxStack := 4, maxLocals := 1, code := method_3_code, exceptionTable := #[], attributes := #[] }
def k1m2 : Method := { name := "freeSlots", desc := "(I)[I", sig := { parameters := [.int], returnType := some (.array .int) }, accessFlags := 10, code := some k1c2 }
def k1c3 : Code := { maxStack := 5, maxLocals := 8, code := method_4_code, exceptionTable := #[], attributes := #[] }
def k1m3 : Method := { name := "place", desc := "([IIIIIIII)V", sig := { parameters := [(.array .int), .int, .int, .int, .int, .int, .int, .int], returnType := none }, accessFlags := 10, code := some k1c3 }
def k1c4 : Code := { maxStack := 3, maxLocals := 6, code := method_5_code, exceptionTable := #[], attributes := #[] }
def k1m4 : Method := { name := "step", desc := "(II[III)I", sig := { parameters := [.int, .int, (.array .int), .int, .int], returnType := some .int }, accessFlags := 10, code := some k1c4 }
/-- com/example/dioscuri/dioscuri/ints/IntSetSlotOfPinLaw -/
def k1 : Class := { plain "com/example/dioscuri/dioscuri/ints/IntSetSlotOfPinLaw" (some 0) with
  accessFlags := 49
  interfaces := #[]
  cf := some (fileOf pool1 9 #[] #[{ accessFlags := 1, nameIndex := 5, descriptorIndex := 6, attributes := #[] }, { accessFlags := 9, nameIndex := 30, descriptorIndex := 31, attributes := #[] }, { accessFlags := 10, nameIndex := 12, descriptorIndex := 13, attributes := #[] }, { accessFlags := 10, nameIndex := 22, descriptorIndex := 23, attributes := #[] }, { accessFlags := 10, nameIndex := 26, descriptorIndex := 27, attributes := #[] }] 49 2 #[] #[])
  fields := #[]
  methods := #[k1m0, k1m1, k1m2, k1m3, k1m4]
  instanceTypes := #[]
  staticTypes := #[]
  resolved := Array.replicate 37 none
  statics := none }

def pool2 : Array CpInfo := pool [(2, .class_ 4), (1, u "java/lang/Object"), (0, u "<init>"), (0, u "()V"), (0, .class_ 8), (0, u "com/example/dioscuri/dioscuri/ints/IntSet"), (2, u "slots"), (0, u "[I"), (2, u "size"), (0, u "I"), (5, u "slotOf"), (0, u "(I[I)I"), (12, .integer 2654435769), (0, u "FREE")] 15

def k2m0 : Method := { name := "<init>", desc := "()V", sig := { parameters := [], returnType := none }, accessFlags := 1, code := none }
def k2c1 : Code := { maxStack := 3, maxLocals := 5, code := prog_60_method_8_code, exceptionTable := #[], attributes := #[] }
def k2m1 : Method := { name := "slotOf", desc := "(I[I)I", sig := { parameters := [.int, (.array .int)], returnType := some .int }, accessFlags := 9, code := some k2c1 }
/-- com/example/dioscuri/dioscuri/ints/IntSet -/
def k2 : Class := { plain "com/example/dioscuri/dioscuri/ints/IntSet" (some 0) with
  accessFlags := 33
  interfaces := #[]
  cf := some (fileOf pool2 7 #[] #[{ accessFlags := 1, nameIndex := 5, descriptorIndex := 6, attributes := #[] }, { accessFlags := 9, nameIndex := 22, descriptorIndex := 23, attributes := #[] }] 33 2 #[] #[{ accessFlags := 26, nameIndex := 37, descriptorIndex := 16, attributes := #[] }, { accessFlags := 2, nameIndex := 11, descriptorIndex := 12, attributes := #[] }, { accessFlags := 2, nameIndex := 15, descriptorIndex := 16, attributes := #[] }])
  fields := #[{ name := "FREE", type := .int, accessFlags := 26, slot := 0, constantValue := 0 }, { name := "slots", type := (.array .int), accessFlags := 2, slot := 0, constantValue := 0 }, { name := "size", type := .int, accessFlags := 2, slot := 1, constantValue := 0 }]
  methods := #[k2m0, k2m1]
  instanceTypes := #[(.array .int), .int]
  staticTypes := #[.int]
  resolved := Array.replicate 53 none
  statics := none }

def pool3 : Array CpInfo := pool [(1, u "java/lang/Cloneable"), (0, .class_ 1), (0, u "java/lang/Object"), (0, .class_ 3)] 3

/-- java/lang/Cloneable -/
def k3 : Class := { plain "java/lang/Cloneable" (some 0) with
  accessFlags := 1537
  interfaces := #[]
  cf := some (fileOf pool3 2 #[] #[] 1537 4 #[] #[])
  fields := #[]
  methods := #[]
  instanceTypes := #[]
  staticTypes := #[]
  resolved := Array.replicate 8 none
  statics := none }

def pool4 : Array CpInfo := pool [(1, u "java/io/Serializable"), (0, .class_ 1), (0, u "java/lang/Object"), (0, .class_ 3)] 3

/-- java/io/Serializable -/
def k4 : Class := { plain "java/io/Serializable" (some 0) with
  accessFlags := 1537
  interfaces := #[]
  cf := some (fileOf pool4 2 #[] #[] 1537 4 #[] #[])
  fields := #[]
  methods := #[]
  instanceTypes := #[]
  staticTypes := #[]
  resolved := Array.replicate 8 none
  statics := none }

/-- the primitive byte -/
def k5 : Class := { plain "byte" none with kind := .primitive 'B', accessFlags := 0x411 }
/-- [B -/
def k6 : Class := { plain "[B" (some 0) with kind := .array 5 .byte, interfaces := #[3, 4], accessFlags := 1041 }

/-- the primitive int -/
def k7 : Class := { plain "int" none with kind := .primitive 'I', accessFlags := 0x411 }
/-- [I -/
def k8 : Class := { plain "[I" (some 0) with kind := .array 7 .int, interfaces := #[3, 4], accessFlags := 1041 }

def heap : Heap := #[]
def classes : Array Class := #[k0, k1, k2, k3, k4, k5, k6, k7, k8]
def interned : List (Array UInt16 × Addr) := []
def slotsUsed : Nat := 0
def theMethod : MethodId := ⟨1, 1⟩
def args0 : Array Value := #[.int 5, .int 6, .int 7, .int 8, .int 9, .int 10]
def aboutOver (below : List Frame) : State where
  vm := { classes := classes, interned := interned.toArray }
  heap := heap
  slotsUsed := slotsUsed
  threads := #[{ frames := .invoking theMethod args0 :: below }]
def below0 : List Frame := [.native { method := ⟨0, 0⟩, args := #[] }]
def about1 : State := aboutOver below0
def p0 : Program := .bare "" "" ""
def e0 : Env := launch0.env 0 0 0
theorem w_frames : about1.frames = Frame.invoking theMethod args0 :: below0 := rfl
set_option maxRecDepth 65536 in
theorem w_args : argsFit about1.vm theMethod args0 = true := by decide +kernel
set_option maxRecDepth 65536 in
theorem w_heap : heapFits about1 = true := by decide +kernel
set_option maxRecDepth 65536 in
theorem w_runnable : about1.curStatus? = some .runnable := by decide +kernel
set_option maxRecDepth 65536 in
theorem w_alone : about1.alone = true := by decide +kernel
set_option maxRecDepth 65536 in
theorem w_named : about1.methodNamed? x = some theMethod := by decide +kernel
set_option maxRecDepth 65536 in
theorem w_hears : about1.hears theMethod below0 = true := by decide +kernel
set_option maxRecDepth 65536 in
theorem w_ripe : about1.ripe theMethod args0 below0 = true := by decide +kernel
theorem w_running : about1.status = .running := rfl
set_option maxRecDepth 65536 in
theorem w_room : about1.hasRoom e0.platform room_1 = true :=
  launch0.hasRoom_least _ room_1 (by decide +kernel) (by decide +kernel) (by decide +kernel) (by decide +kernel) (by decide +kernel) (by decide +kernel)
theorem allAtoms_all (ts : List Jvm.Cond) (a : Array Jvm.Value) (st : Jvm.State) : (allAtoms ts).before a st = ts.all (fun c => c.before a st) := by
  induction ts with
  | nil => rfl
  | cons c t ih =>
    show (Jvm.Cond.and c (allAtoms t)).before a st = _
    rw [Jvm.Cond.before_and, ih, List.all_cons]
def words1 : List Jvm.Cond := Jvm.Cond.code x code maxLocals ret :: tables_1
/-- a 'code' word, met by the world's own term for the bytes: nothing is compared byte by byte -/
theorem code_word {y : MethodName} {bytes : ByteArray} {mx : Nat} {rt : Option FieldType} {a : Array Value} {s : State} {m : MethodId} {meth : Method} {c : Code} (h1 : s.methodNamed? y = some m) (h2 : s.vm.method? m = some meth) (h3 : meth.code = some c) (h4 : c.code = bytes)
    (h5 : (c.maxLocals == mx && c.exceptionTable.isEmpty && decide (c.maxStack ≤ mostOperands) && decide (meth.sig.returnType = rt) && !meth.locks && decide (parseMethodDescriptor y.desc = some meth.sig)) = true) : (Jvm.Cond.code y bytes mx rt).before a s = true := by
  simp only [Bool.and_eq_true, beq_iff_eq, Bool.not_eq_true', decide_eq_true_eq] at h5
  obtain ⟨⟨⟨⟨⟨g1, g2⟩, g3⟩, g4⟩, g5⟩, g6⟩ := h5
  simp [Cond.before, Cond.holds, Cond.value, h1, h2, h3, h4, g1, g2, g3, g4, g5, g6]
def isCode : Jvm.Cond → Bool
  | .code _ _ _ _ => true
  | _ => false
theorem all_split {L : List Jvm.Cond} {P : Jvm.Cond → Bool} (h1 : L.all (fun c => isCode c || P c) = true) (h2 : ∀ c ∈ L.filter isCode, P c = true) : L.all P = true := by
  refine List.all_eq_true.mpr fun c hc => ?_
  have h := List.all_eq_true.mp h1 c hc
  rcases Bool.eq_false_or_eq_true (isCode c) with hi | hi
  · exact h2 c (List.mem_filter.mpr ⟨hc, hi⟩)
  · simpa [hi] using h
set_option maxRecDepth 65536 in
theorem w_c0 : (Jvm.Cond.code x code maxLocals ret).before args0 about1 = true := code_word (m := ⟨1, 1⟩) (meth := k1m1) (c := k1c1) (by decide +kernel) rfl rfl rfl (by decide +kernel)
set_option maxRecDepth 65536 in
theorem w_c1 : (Jvm.Cond.code ({ cls := "com/example/dioscuri/dioscuri/ints/IntSetSlotOfPinLaw", name := "freeSlots", desc := "(I)[I" } : Jvm.MethodName) method_3_code (1 : Nat) (Option.some (Jvm.ClassFile.FieldType.array Jvm.ClassFile.FieldType.int))).before args0 about1 = true := code_word (m := ⟨1, 2⟩) (meth := k1m2) (c := k1c2) (by decide +kernel) rfl rfl rfl (by decide +kernel)
set_option maxRecDepth 65536 in
theorem w_c2 : (Jvm.Cond.code ({ cls := "com/example/dioscuri/dioscuri/ints/IntSet", name := "slotOf", desc := "(I[I)I" } : Jvm.MethodName) prog_60_method_8_code (5 : Nat) (Option.some Jvm.ClassFile.FieldType.int)).before args0 about1 = true := code_word (m := ⟨2, 1⟩) (meth := k2m1) (c := k2c1) (by decide +kernel) rfl rfl rfl (by decide +kernel)
set_option maxRecDepth 65536 in
theorem w_c3 : (Jvm.Cond.code ({ cls := "com/example/dioscuri/dioscuri/ints/IntSetSlotOfPinLaw", name := "place", desc := "([IIIIIIII)V" } : Jvm.MethodName) method_4_code (8 : Nat) (Option.none : Option Jvm.ClassFile.FieldType)).before args0 about1 = true := code_word (m := ⟨1, 3⟩) (meth := k1m3) (c := k1c3) (by decide +kernel) rfl rfl rfl (by decide +kernel)
set_option maxRecDepth 65536 in
theorem w_c4 : (Jvm.Cond.code ({ cls := "com/example/dioscuri/dioscuri/ints/IntSetSlotOfPinLaw", name := "step", desc := "(II[III)I" } : Jvm.MethodName) method_5_code (6 : Nat) (Option.some Jvm.ClassFile.FieldType.int)).before args0 about1 = true := code_word (m := ⟨1, 4⟩) (meth := k1m4) (c := k1c4) (by decide +kernel) rfl rfl rfl (by decide +kernel)
def codes1 : List Jvm.Cond := [Jvm.Cond.code x code maxLocals ret, Jvm.Cond.code ({ cls := "com/example/dioscuri/dioscuri/ints/IntSetSlotOfPinLaw", name := "freeSlots", desc := "(I)[I" } : Jvm.MethodName) method_3_code (1 : Nat) (Option.some (Jvm.ClassFile.FieldType.array Jvm.ClassFile.FieldType.int)), Jvm.Cond.code ({ cls := "com/example/dioscuri/dioscuri/ints/IntSet", name := "slotOf", desc := "(I[I)I" } : Jvm.MethodName) prog_60_method_8_code (5 : Nat) (Option.some Jvm.ClassFile.FieldType.int), Jvm.Cond.code ({ cls := "com/example/dioscuri/dioscuri/ints/IntSetSlotOfPinLaw", name := "place", desc := "([IIIIIIII)V" } : Jvm.MethodName) method_4_code (8 : Nat) (Option.none : Option Jvm.ClassFile.FieldType), Jvm.Cond.code ({ cls := "com/example/dioscuri/dioscuri/ints/IntSetSlotOfPinLaw", name := "step", desc := "(II[III)I" } : Jvm.MethodName) method_5_code (6 : Nat) (Option.some Jvm.ClassFile.FieldType.int)]
set_option maxRecDepth 65536 in
theorem codes_eq : words1.filter isCode = codes1 := rfl
theorem w_codes : ∀ c ∈ words1.filter isCode, c.before args0 about1 = true := by
  rw [codes_eq]
  intro c hc
  simp only [codes1, List.mem_cons, List.not_mem_nil, or_false] at hc
  rcases hc with rfl | rfl | rfl | rfl | rfl
  · exact w_c0
  · exact w_c1
  · exact w_c2
  · exact w_c3
  · exact w_c4
set_option maxRecDepth 65536 in
theorem w_t1 : words1.all (fun c => isCode c || c.before args0 about1) = true := by decide +kernel
theorem w_tables : (allAtoms (Jvm.Cond.code x code maxLocals ret :: tables_1)).before args0 about1 = true := by
  rw [allAtoms_all]
  show words1.all (fun c => c.before args0 about1) = true
  refine all_split ?_ w_codes
  rw [w_t1]
set_option maxRecDepth 65536 in
theorem w_case : (Jvm.Cond.and given_1 narrow_1).before args0 about1 = true := by decide +kernel
theorem w_applies : (headSpec (Jvm.Cond.code x code maxLocals ret :: tables_1) room_1).applies x e0.platform about1 = true :=
  (Spec.applies_iff w_frames).mpr ⟨w_running, w_runnable, w_alone, w_named, w_hears, w_ripe, w_room, w_tables⟩
theorem atStart : AtStart classFile x code maxLocals ret World_1 tables_1 room_1 Calls_1 rest_1 Pre_1 launch0 p0 e0 about1 theMethod args0 below0 :=
  ⟨lists_1, trivial, launch0.admits_env _ _ _, launch0.least_env, fairChoices_fair.cas, fairChoices_fair.clock, w_frames, w_args, w_heap, w_applies, trivial, trivial, w_case⟩
end start1
theorem witness_1 : WitnessClaimed_1 := ⟨start1.p0, start1.e0, start1.about1, start1.theMethod, start1.args0, start1.below0, start1.atStart⟩
end Jvm.Pilot.@@N@@
