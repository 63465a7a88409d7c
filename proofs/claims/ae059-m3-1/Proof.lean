import JvmDerived
import JvmDerived.Pilot.@@N@@Statement
import JvmDerived.Pilot.@@N@@Code
set_option linter.unusedVariables false
set_option linter.unusedSimpArgs false
namespace Jvm.Pilot.@@N@@
open Jvm Jvm.ClassFile Sem Op Lib Jvm.Free Jvm.Stand Jvm.LawKit Jvm.RoadKit Bundle Jvm.Pilot.@@N@@.Jvm.D
section OwnPre
/-- where the run stands, with all that stays true of the body -/
def St (p : Program) (l : Launch) (e : Env) (R : Room) (s : State) (m : MethodId) (args : Array Value) (below : List Frame) (meth : Method) (c : Code) (Z : State) (own : String) (bytes : ByteArray) (ml n0 : Nat) (ret : Option FieldType) (nm : String) (T : State) (h : Heap) (cells slots : Nat) : Prop :=
  ∃ locs, Stand p l e R s m args below meth c T locs cells slots ∧ Fr n0 locs ∧ T.heap = h ∧ p.tables.exec = Jvm.exec ∧ Z.Warmed39 s.vm ∧ s.vm.findClass own = some m.cls ∧ c.code = bytes ∧ c.maxLocals = ml ∧ meth.locks = false ∧ n0 ≤ s.heap.size ∧ meth.sig.returnType = ret ∧ meth.name = nm
def Wp (p : Program) (e : Env) (below : List Frame) (PO : Outcome → State → Prop) (T : State) (g : JFrame) : Prop := ∃ t o, Steps p.tables e below (T.setTop g) t ∧ t.status = .running ∧ Ended t below o ∧ PO o t
def Po (s : State) (n0 : Nat) (R : Room) (Q : Option Value → Heap → Prop) (o : Outcome) (t : State) : Prop := ∃ v L, o = .returned v ∧ (Q v t.heap ∧ Fr n0 L) ∧ FrameEnd s o t L R.cells R.slots
def Ct (l : Launch) (y : MethodName) (bytes : ByteArray) (ml : Nat) (ret : Option FieldType) (ws : List Jvm.Cond) (R : Room) (Z : State) (h0 : Heap) (n0 : Nat) (as : Array Value) (Q : Option Value → Heap → Prop) : Prop :=
  MetFree l y (head1 (Jvm.Cond.code y bytes ml ret :: ws) R) (fun a U => a = as ∧ Z.Warmed39 U.vm ∧ U.heap = h0) (fun _ _ _ _ _ => True) (fun _ U o U' => Po U n0 R Q o U')
variable {p : Program} {l : Launch} {e : Env} {R : Room} {s : State} {m : MethodId} {args : Array Value} {below : List Frame} {meth : Method} {c : Code} {Z : State} {own : String} {bytes : ByteArray} {ml n0 : Nat} {ret : Option FieldType} {nm : String} {T : State} {h : Heap} {cells slots : Nat} {PO : Outcome → State → Prop} {a0 : Array Value} {pc q : Nat} {L : Array Slot} {st : List Value}
theorem o_body {y : MethodName} {ws : List Jvm.Cond} {h0 : Heap} {as : Array Value} {Q : Option Value → Heap → Prop} {L0 : Array Slot} (hpl : plainFor y = true) (hn : n0 ≤ h0.size) (hef : ∀ m, entryFrame m as ml = mkF m 0 L0 [])
    (k : ∀ (p : Program) (e : Env) (s : State) (m : MethodId) (below : List Frame) (meth : Method) (c : Code) (T : State), St p l e R s m as below meth c Z y.cls bytes ml n0 ret y.name T h0 0 0 → Wp p e below (Po s n0 R Q) T (mkF m 0 L0 [])) :
    Ct l y bytes ml ret ws R Z h0 n0 as Q := by
  refine MetFree.of_bodySF hpl hisR ?_
  intro p e s m args below meth c s₁ Bd hml0 hP hK
  obtain ⟨rfl, hZ, hh⟩ := hP
  have X0 : Stand p l e R s m args below meth c s₁ [] 0 0 := Stand.of_body Bd
  have e0 : s₁.heap = h0 := by rw [← hh, Bd.state]; rfl
  obtain ⟨t, o, h1, h2, h3, h4⟩ := k p e s m below meth c s₁ ⟨[], X0, Fr.nil n0, e0, Bd.exec, hZ, findClass_of_methodNamed Bd.named, Bd.bytes, hml0, BodyLoose.notSynchronized Bd, (by rw [hh]; exact hn), Bd.returns, (name_of_methodNamed Bd.named Bd.method).1⟩
  exact ⟨t, o, castTop (hef m) h1, h2, h3, h4⟩
theorem o_st (S : St p l e R s m args below meth c Z own bytes ml n0 ret nm T h cells slots) {g g' : JFrame} (hs : ∀ t, At T m c below → p.tables.exec = Jvm.exec → c.code = bytes → Steps p.tables e below (T.setTop g') t → Steps p.tables e below (T.setTop g) t) (k : Wp p e below PO T g') : Wp p e below PO T g := by
  obtain ⟨locs, X, N, eT, hx, hZ, hown, hby, hml, hlk, hn, hrt, hnm⟩ := S
  obtain ⟨t, o, h1, h2⟩ := k
  exact ⟨t, o, hs t X.here hx hby h1, h2⟩
theorem o_to {T' : State} {g g' : JFrame} (hs : ∀ t, Steps p.tables e below (T'.setTop g') t → Steps p.tables e below (T.setTop g) t) (k : Wp p e below PO T' g') : Wp p e below PO T g := by
  obtain ⟨t, o, h1, h2⟩ := k
  exact ⟨t, o, hs t h1, h2⟩
theorem o_heap (S : St p l e R s m args below meth c Z own bytes ml n0 ret nm T h cells slots) : T.heap = h := by obtain ⟨locs, X, N, eT, -⟩ := S; exact eT
theorem o_n0 (S : St p l e R s m args below meth c Z own bytes ml n0 ret nm T h cells slots) : n0 ≤ h.size := by
  obtain ⟨locs, X, N, eT, hx, hZ, hown, hby, hml, hlk, hn, -⟩ := S
  have := X.same.2.1
  rw [← eT]; exact Nat.le_trans hn this
theorem o_wd {i : Nat} {d : Jvm.Cond} (hw : ∀ d ∈ tables_1, d.before a0 Z = true) (hi : tables_1[i]? = some d) : d.before a0 Z = true := hw _ (List.mem_of_getElem? hi)

theorem o_iloadN (S : St p l e R s m args below meth c Z own bytes ml n0 ret nm T h cells slots) {k : Fin 4} {v : Int32} (hl : L[k.val]? = some (.val (.int v))) (hd : decode bytes pc = .ok (.iload_n k, 1)) (hq : pc + 1 = q) (k : Wp p e below PO T (mkF m q L (.int v :: st))) : Wp p e below PO T (mkF m pc L (st)) := by
  subst hq
  exact o_st S (fun t X hx hy r => XS.iloadN X hx rfl (hb hy hd) hl r) k
theorem o_lloadN (S : St p l e R s m args below meth c Z own bytes ml n0 ret nm T h cells slots) {k : Fin 4} {v : Int64} (hl : L[k.val]? = some (.val (.long v))) (hd : decode bytes pc = .ok (.lload_n k, 1)) (hq : pc + 1 = q) (k : Wp p e below PO T (mkF m q L (.long v :: st))) : Wp p e below PO T (mkF m pc L (st)) := by
  subst hq
  exact o_st S (fun t X hx hy r => XS.lloadN X hx rfl (hb hy hd) hl r) k
theorem o_aloadN (S : St p l e R s m args below meth c Z own bytes ml n0 ret nm T h cells slots) {k : Fin 4} {v : Value} (hl : L[k.val]? = some (.val v)) (hv : v.isRef = true) (hd : decode bytes pc = .ok (.aload_n k, 1)) (hq : pc + 1 = q) (k : Wp p e below PO T (mkF m q L (v :: st))) : Wp p e below PO T (mkF m pc L (st)) := by
  subst hq
  exact o_st S (fun t X hx hy r => XS.aloadN X hx rfl (hb hy hd) hl hv r) k
theorem o_istoreN (S : St p l e R s m args below meth c Z own bytes ml n0 ret nm T h cells slots) {k : Fin 4} {x : Int32} {L' : Array Slot} (hl : storeLocals L k.val (.int x) = some L') (hd : decode bytes pc = .ok (.istore_n k, 1)) (hq : pc + 1 = q) (k : Wp p e below PO T (mkF m q L' (st))) : Wp p e below PO T (mkF m pc L (.int x :: st)) := by
  subst hq
  exact o_st S (fun t X hx hy r => XS.istoreN X hx rfl (hb hy hd) rfl hl r) k
theorem o_istoreVN (S : St p l e R s m args below meth c Z own bytes ml n0 ret nm T h cells slots) {k : Fin 4} {x : Int32} {L' : Int32 → Array Slot} (hl : ∀ v, storeLocals L k.val (.int v) = some (L' v)) (hd : decode bytes pc = .ok (.istore_n k, 1)) (hq : pc + 1 = q) (k : ∀ v, v = x → Wp p e below PO T (mkF m q (L' v) st)) : Wp p e below PO T (mkF m pc L (.int x :: st)) :=
  o_istoreN S (hl x) hd hq (k x rfl)
theorem o_lstoreN (S : St p l e R s m args below meth c Z own bytes ml n0 ret nm T h cells slots) {k : Fin 4} {x : Int64} {L' : Array Slot} (hl : storeLocals L k.val (.long x) = some L') (hd : decode bytes pc = .ok (.lstore_n k, 1)) (hq : pc + 1 = q) (k : Wp p e below PO T (mkF m q L' (st))) : Wp p e below PO T (mkF m pc L (.long x :: st)) := by
  subst hq
  exact o_st S (fun t X hx hy r => XS.lstoreN X hx rfl (hb hy hd) rfl hl r) k
theorem o_lstoreVN (S : St p l e R s m args below meth c Z own bytes ml n0 ret nm T h cells slots) {k : Fin 4} {x : Int64} {L' : Int64 → Array Slot} (hl : ∀ v, storeLocals L k.val (.long v) = some (L' v)) (hd : decode bytes pc = .ok (.lstore_n k, 1)) (hq : pc + 1 = q) (k : ∀ v, v = x → Wp p e below PO T (mkF m q (L' v) st)) : Wp p e below PO T (mkF m pc L (.long x :: st)) :=
  o_lstoreN S (hl x) hd hq (k x rfl)
theorem o_astoreN (S : St p l e R s m args below meth c Z own bytes ml n0 ret nm T h cells slots) {k : Fin 4} {x : Value} {L' : Array Slot} (hv : x.isRef = true) (hl : storeLocals L k.val x = some L') (hd : decode bytes pc = .ok (.astore_n k, 1)) (hq : pc + 1 = q) (k : Wp p e below PO T (mkF m q L' (st))) : Wp p e below PO T (mkF m pc L (x :: st)) := by
  subst hq
  exact o_st S (fun t X hx hy r => XS.astoreN X hx rfl (hb hy hd) rfl hv hl r) k
theorem o_iload (S : St p l e R s m args below meth c Z own bytes ml n0 ret nm T h cells slots) {k : Nat} {v : Int32} (hl : L[k]? = some (.val (.int v))) (hd : decode bytes pc = .ok (.iload k, 2)) (hq : pc + 2 = q) (k : Wp p e below PO T (mkF m q L (.int v :: st))) : Wp p e below PO T (mkF m pc L (st)) := by
  subst hq
  exact o_st S (fun t X hx hy r => XS.iload X hx rfl (hb hy hd) hl r) k
theorem o_lload (S : St p l e R s m args below meth c Z own bytes ml n0 ret nm T h cells slots) {k : Nat} {v : Int64} (hl : L[k]? = some (.val (.long v))) (hd : decode bytes pc = .ok (.lload k, 2)) (hq : pc + 2 = q) (k : Wp p e below PO T (mkF m q L (.long v :: st))) : Wp p e below PO T (mkF m pc L (st)) := by
  subst hq
  exact o_st S (fun t X hx hy r => XS.lload X hx rfl (hb hy hd) hl r) k
theorem o_aload (S : St p l e R s m args below meth c Z own bytes ml n0 ret nm T h cells slots) {k : Nat} {v : Value} (hl : L[k]? = some (.val v)) (hv : v.isRef = true) (hd : decode bytes pc = .ok (.aload k, 2)) (hq : pc + 2 = q) (k : Wp p e below PO T (mkF m q L (v :: st))) : Wp p e below PO T (mkF m pc L (st)) := by
  subst hq
  exact o_st S (fun t X hx hy r => XS.aload X hx rfl (hb hy hd) hl hv r) k
theorem o_istore (S : St p l e R s m args below meth c Z own bytes ml n0 ret nm T h cells slots) {k : Nat} {x : Int32} {L' : Array Slot} (hl : storeLocals L k (.int x) = some L') (hd : decode bytes pc = .ok (.istore k, 2)) (hq : pc + 2 = q) (k : Wp p e below PO T (mkF m q L' (st))) : Wp p e below PO T (mkF m pc L (.int x :: st)) := by
  subst hq
  exact o_st S (fun t X hx hy r => XS.istore X hx rfl (hb hy hd) rfl hl r) k
theorem o_istoreV (S : St p l e R s m args below meth c Z own bytes ml n0 ret nm T h cells slots) {k : Nat} {x : Int32} {L' : Int32 → Array Slot} (hl : ∀ v, storeLocals L k (.int v) = some (L' v)) (hd : decode bytes pc = .ok (.istore k, 2)) (hq : pc + 2 = q) (k : ∀ v, v = x → Wp p e below PO T (mkF m q (L' v) st)) : Wp p e below PO T (mkF m pc L (.int x :: st)) :=
  o_istore S (hl x) hd hq (k x rfl)
theorem o_lstore (S : St p l e R s m args below meth c Z own bytes ml n0 ret nm T h cells slots) {k : Nat} {x : Int64} {L' : Array Slot} (hl : storeLocals L k (.long x) = some L') (hd : decode bytes pc = .ok (.lstore k, 2)) (hq : pc + 2 = q) (k : Wp p e below PO T (mkF m q L' (st))) : Wp p e below PO T (mkF m pc L (.long x :: st)) := by
  subst hq
  exact o_st S (fun t X hx hy r => XS.lstore X hx rfl (hb hy hd) rfl hl r) k
theorem o_lstoreV (S : St p l e R s m args below meth c Z own bytes ml n0 ret nm T h cells slots) {k : Nat} {x : Int64} {L' : Int64 → Array Slot} (hl : ∀ v, storeLocals L k (.long v) = some (L' v)) (hd : decode bytes pc = .ok (.lstore k, 2)) (hq : pc + 2 = q) (k : ∀ v, v = x → Wp p e below PO T (mkF m q (L' v) st)) : Wp p e below PO T (mkF m pc L (.long x :: st)) :=
  o_lstore S (hl x) hd hq (k x rfl)
theorem o_astore (S : St p l e R s m args below meth c Z own bytes ml n0 ret nm T h cells slots) {k : Nat} {x : Value} {L' : Array Slot} (hv : x.isRef = true) (hl : storeLocals L k x = some L') (hd : decode bytes pc = .ok (.astore k, 2)) (hq : pc + 2 = q) (k : Wp p e below PO T (mkF m q L' (st))) : Wp p e below PO T (mkF m pc L (x :: st)) := by
  subst hq
  exact o_st S (fun t X hx hy r => XS.astore X hx rfl (hb hy hd) rfl hv hl r) k
theorem o_iconst (S : St p l e R s m args below meth c Z own bytes ml n0 ret nm T h cells slots) {i : Int} {z : Int32} (hz : Int32.ofInt i = z) (hd : decode bytes pc = .ok (.iconst i, 1)) (hq : pc + 1 = q) (k : Wp p e below PO T (mkF m q L (.int z :: st))) : Wp p e below PO T (mkF m pc L (st)) := by
  subst hq
  exact o_st S (fun t X hx hy r => XS.iconst X hx rfl (hb hy hd) (hz ▸ r)) k
theorem o_bipush (S : St p l e R s m args below meth c Z own bytes ml n0 ret nm T h cells slots) {i : Int} {z : Int32} (hz : (Int8.ofInt i).toInt32 = z) (hd : decode bytes pc = .ok (.bipush i, 2)) (hq : pc + 2 = q) (k : Wp p e below PO T (mkF m q L (.int z :: st))) : Wp p e below PO T (mkF m pc L (st)) := by
  subst hq
  exact o_st S (fun t X hx hy r => XS.bipush X hx rfl (hb hy hd) (hz ▸ r)) k
theorem o_sipush (S : St p l e R s m args below meth c Z own bytes ml n0 ret nm T h cells slots) {i : Int} {z : Int32} (hz : (Int16.ofInt i).toInt32 = z) (hd : decode bytes pc = .ok (.sipush i, 3)) (hq : pc + 3 = q) (k : Wp p e below PO T (mkF m q L (.int z :: st))) : Wp p e below PO T (mkF m pc L (st)) := by
  subst hq
  exact o_st S (fun t X hx hy r => XS.sipush X hx rfl (hb hy hd) (hz ▸ r)) k
theorem o_lconst (S : St p l e R s m args below meth c Z own bytes ml n0 ret nm T h cells slots) {i : Fin 2} {z : Int64} (hz : Int64.ofNat i = z) (hd : decode bytes pc = .ok (.lconst i, 1)) (hq : pc + 1 = q) (k : Wp p e below PO T (mkF m q L (.long z :: st))) : Wp p e below PO T (mkF m pc L (st)) := by
  subst hq
  exact o_st S (fun t X hx hy r => XS.lconst X hx rfl (hb hy hd) (hz ▸ r)) k
theorem o_aconstNull (S : St p l e R s m args below meth c Z own bytes ml n0 ret nm T h cells slots)  (hd : decode bytes pc = .ok (.aconst_null, 1)) (hq : pc + 1 = q) (k : Wp p e below PO T (mkF m q L (.null :: st))) : Wp p e below PO T (mkF m pc L (st)) := by
  subst hq
  exact o_st S (fun t X hx hy r => XS.aconstNull X hx rfl (hb hy hd) r) k
theorem o_iadd (S : St p l e R s m args below meth c Z own bytes ml n0 ret nm T h cells slots) {x y : Int32} (hd : decode bytes pc = .ok (.iadd, 1)) (hq : pc + 1 = q) (k : Wp p e below PO T (mkF m q L (.int (x + y) :: st))) : Wp p e below PO T (mkF m pc L (.int y :: .int x :: st)) := by
  subst hq
  exact o_st S (fun t X hx hy r => XS.iadd X hx rfl (hb hy hd) rfl r) k
theorem o_ladd (S : St p l e R s m args below meth c Z own bytes ml n0 ret nm T h cells slots) {x y : Int64} (hd : decode bytes pc = .ok (.ladd, 1)) (hq : pc + 1 = q) (k : Wp p e below PO T (mkF m q L (.long (x + y) :: st))) : Wp p e below PO T (mkF m pc L (.long y :: .long x :: st)) := by
  subst hq
  exact o_st S (fun t X hx hy r => XS.ladd X hx rfl (hb hy hd) rfl r) k
theorem o_isub (S : St p l e R s m args below meth c Z own bytes ml n0 ret nm T h cells slots) {x y : Int32} (hd : decode bytes pc = .ok (.isub, 1)) (hq : pc + 1 = q) (k : Wp p e below PO T (mkF m q L (.int (x - y) :: st))) : Wp p e below PO T (mkF m pc L (.int y :: .int x :: st)) := by
  subst hq
  exact o_st S (fun t X hx hy r => XS.isub X hx rfl (hb hy hd) rfl r) k
theorem o_lsub (S : St p l e R s m args below meth c Z own bytes ml n0 ret nm T h cells slots) {x y : Int64} (hd : decode bytes pc = .ok (.lsub, 1)) (hq : pc + 1 = q) (k : Wp p e below PO T (mkF m q L (.long (x - y) :: st))) : Wp p e below PO T (mkF m pc L (.long y :: .long x :: st)) := by
  subst hq
  exact o_st S (fun t X hx hy r => XS.lsub X hx rfl (hb hy hd) rfl r) k
theorem o_imul (S : St p l e R s m args below meth c Z own bytes ml n0 ret nm T h cells slots) {x y : Int32} (hd : decode bytes pc = .ok (.imul, 1)) (hq : pc + 1 = q) (k : Wp p e below PO T (mkF m q L (.int (x * y) :: st))) : Wp p e below PO T (mkF m pc L (.int y :: .int x :: st)) := by
  subst hq
  exact o_st S (fun t X hx hy r => XS.imul X hx rfl (hb hy hd) rfl r) k
theorem o_lmul (S : St p l e R s m args below meth c Z own bytes ml n0 ret nm T h cells slots) {x y : Int64} (hd : decode bytes pc = .ok (.lmul, 1)) (hq : pc + 1 = q) (k : Wp p e below PO T (mkF m q L (.long (x * y) :: st))) : Wp p e below PO T (mkF m pc L (.long y :: .long x :: st)) := by
  subst hq
  exact o_st S (fun t X hx hy r => XS.lmul X hx rfl (hb hy hd) rfl r) k
theorem o_iand (S : St p l e R s m args below meth c Z own bytes ml n0 ret nm T h cells slots) {x y : Int32} (hd : decode bytes pc = .ok (.iand, 1)) (hq : pc + 1 = q) (k : Wp p e below PO T (mkF m q L (.int (x &&& y) :: st))) : Wp p e below PO T (mkF m pc L (.int y :: .int x :: st)) := by
  subst hq
  exact o_st S (fun t X hx hy r => XS.iand X hx rfl (hb hy hd) rfl r) k
theorem o_land (S : St p l e R s m args below meth c Z own bytes ml n0 ret nm T h cells slots) {x y : Int64} (hd : decode bytes pc = .ok (.land, 1)) (hq : pc + 1 = q) (k : Wp p e below PO T (mkF m q L (.long (x &&& y) :: st))) : Wp p e below PO T (mkF m pc L (.long y :: .long x :: st)) := by
  subst hq
  exact o_st S (fun t X hx hy r => XS.land X hx rfl (hb hy hd) rfl r) k
theorem o_ior (S : St p l e R s m args below meth c Z own bytes ml n0 ret nm T h cells slots) {x y : Int32} (hd : decode bytes pc = .ok (.ior, 1)) (hq : pc + 1 = q) (k : Wp p e below PO T (mkF m q L (.int (x ||| y) :: st))) : Wp p e below PO T (mkF m pc L (.int y :: .int x :: st)) := by
  subst hq
  exact o_st S (fun t X hx hy r => XS.ior X hx rfl (hb hy hd) rfl r) k
theorem o_lor (S : St p l e R s m args below meth c Z own bytes ml n0 ret nm T h cells slots) {x y : Int64} (hd : decode bytes pc = .ok (.lor, 1)) (hq : pc + 1 = q) (k : Wp p e below PO T (mkF m q L (.long (x ||| y) :: st))) : Wp p e below PO T (mkF m pc L (.long y :: .long x :: st)) := by
  subst hq
  exact o_st S (fun t X hx hy r => XS.lor X hx rfl (hb hy hd) rfl r) k
theorem o_ixor (S : St p l e R s m args below meth c Z own bytes ml n0 ret nm T h cells slots) {x y : Int32} (hd : decode bytes pc = .ok (.ixor, 1)) (hq : pc + 1 = q) (k : Wp p e below PO T (mkF m q L (.int (x ^^^ y) :: st))) : Wp p e below PO T (mkF m pc L (.int y :: .int x :: st)) := by
  subst hq
  exact o_st S (fun t X hx hy r => XS.ixor X hx rfl (hb hy hd) rfl r) k
theorem o_lxor (S : St p l e R s m args below meth c Z own bytes ml n0 ret nm T h cells slots) {x y : Int64} (hd : decode bytes pc = .ok (.lxor, 1)) (hq : pc + 1 = q) (k : Wp p e below PO T (mkF m q L (.long (x ^^^ y) :: st))) : Wp p e below PO T (mkF m pc L (.long y :: .long x :: st)) := by
  subst hq
  exact o_st S (fun t X hx hy r => XS.lxor X hx rfl (hb hy hd) rfl r) k
theorem o_irem (S : St p l e R s m args below meth c Z own bytes ml n0 ret nm T h cells slots) {x y : Int32} (hy0 : y ≠ 0) (hd : decode bytes pc = .ok (.irem, 1)) (hq : pc + 1 = q) (k : Wp p e below PO T (mkF m q L (.int (x % y) :: st))) : Wp p e below PO T (mkF m pc L (.int y :: .int x :: st)) := by
  subst hq
  exact o_st S (fun t X hx hy r => XS.irem X hx rfl (hb hy hd) rfl hy0 (by have q : x - x / y * y = x % y := irem_eq_mod x y; rw [q]; exact r)) k
theorem o_idiv (S : St p l e R s m args below meth c Z own bytes ml n0 ret nm T h cells slots) {x y : Int32} (hy0 : y ≠ 0) (hd : decode bytes pc = .ok (.idiv, 1)) (hq : pc + 1 = q) (k : Wp p e below PO T (mkF m q L (.int (x / y) :: st))) : Wp p e below PO T (mkF m pc L (.int y :: .int x :: st)) := by
  subst hq
  exact o_st S (fun t X hx hy r => XS.idiv X hx rfl (hb hy hd) rfl hy0 r) k
theorem o_ineg (S : St p l e R s m args below meth c Z own bytes ml n0 ret nm T h cells slots) {x : Int32} (hd : decode bytes pc = .ok (.ineg, 1)) (hq : pc + 1 = q) (k : Wp p e below PO T (mkF m q L (.int (-x) :: st))) : Wp p e below PO T (mkF m pc L (.int x :: st)) := by
  subst hq
  exact o_st S (fun t X hx hy r => XS.ineg X hx rfl (hb hy hd) rfl r) k
theorem o_lneg (S : St p l e R s m args below meth c Z own bytes ml n0 ret nm T h cells slots) {x : Int64} (hd : decode bytes pc = .ok (.lneg, 1)) (hq : pc + 1 = q) (k : Wp p e below PO T (mkF m q L (.long (-x) :: st))) : Wp p e below PO T (mkF m pc L (.long x :: st)) := by
  subst hq
  exact o_st S (fun t X hx hy r => XS.lneg X hx rfl (hb hy hd) rfl r) k
theorem o_i2l (S : St p l e R s m args below meth c Z own bytes ml n0 ret nm T h cells slots) {x : Int32} (hd : decode bytes pc = .ok (.i2l, 1)) (hq : pc + 1 = q) (k : Wp p e below PO T (mkF m q L (.long x.toInt64 :: st))) : Wp p e below PO T (mkF m pc L (.int x :: st)) := by
  subst hq
  exact o_st S (fun t X hx hy r => XS.i2l X hx rfl (hb hy hd) rfl r) k
theorem o_l2i (S : St p l e R s m args below meth c Z own bytes ml n0 ret nm T h cells slots) {x : Int64} (hd : decode bytes pc = .ok (.l2i, 1)) (hq : pc + 1 = q) (k : Wp p e below PO T (mkF m q L (.int x.toInt32 :: st))) : Wp p e below PO T (mkF m pc L (.long x :: st)) := by
  subst hq
  exact o_st S (fun t X hx hy r => XS.l2i X hx rfl (hb hy hd) rfl r) k
theorem o_i2b (S : St p l e R s m args below meth c Z own bytes ml n0 ret nm T h cells slots) {x : Int32} (hd : decode bytes pc = .ok (.i2b, 1)) (hq : pc + 1 = q) (k : Wp p e below PO T (mkF m q L (.int x.toInt8.toInt32 :: st))) : Wp p e below PO T (mkF m pc L (.int x :: st)) := by
  subst hq
  exact o_st S (fun t X hx hy r => XS.i2b X hx rfl (hb hy hd) rfl r) k
theorem o_i2s (S : St p l e R s m args below meth c Z own bytes ml n0 ret nm T h cells slots) {x : Int32} (hd : decode bytes pc = .ok (.i2s, 1)) (hq : pc + 1 = q) (k : Wp p e below PO T (mkF m q L (.int x.toInt16.toInt32 :: st))) : Wp p e below PO T (mkF m pc L (.int x :: st)) := by
  subst hq
  exact o_st S (fun t X hx hy r => XS.i2s X hx rfl (hb hy hd) rfl r) k
theorem o_i2c (S : St p l e R s m args below meth c Z own bytes ml n0 ret nm T h cells slots) {x : Int32} (hd : decode bytes pc = .ok (.i2c, 1)) (hq : pc + 1 = q) (k : Wp p e below PO T (mkF m q L (.int x.toUInt32.toUInt16.toUInt32.toInt32 :: st))) : Wp p e below PO T (mkF m pc L (.int x :: st)) := by
  subst hq
  exact o_st S (fun t X hx hy r => XS.i2c X hx rfl (hb hy hd) rfl r) k
theorem o_ishl (S : St p l e R s m args below meth c Z own bytes ml n0 ret nm T h cells slots) {x y : Int32} (hd : decode bytes pc = .ok (.ishl, 1)) (hq : pc + 1 = q) (k : Wp p e below PO T (mkF m q L (.int (x <<< (y &&& 31)) :: st))) : Wp p e below PO T (mkF m pc L (.int y :: .int x :: st)) := by
  subst hq
  exact o_st S (fun t X hx hy r => XS.ishl X hx rfl (hb hy hd) rfl r) k
theorem o_ishr (S : St p l e R s m args below meth c Z own bytes ml n0 ret nm T h cells slots) {x y : Int32} (hd : decode bytes pc = .ok (.ishr, 1)) (hq : pc + 1 = q) (k : Wp p e below PO T (mkF m q L (.int (x >>> (y &&& 31)) :: st))) : Wp p e below PO T (mkF m pc L (.int y :: .int x :: st)) := by
  subst hq
  exact o_st S (fun t X hx hy r => XS.ishr X hx rfl (hb hy hd) rfl r) k
theorem o_iushr (S : St p l e R s m args below meth c Z own bytes ml n0 ret nm T h cells slots) {x y : Int32} (hd : decode bytes pc = .ok (.iushr, 1)) (hq : pc + 1 = q) (k : Wp p e below PO T (mkF m q L (.int ((x.toUInt32 >>> (y &&& 31).toUInt32).toInt32) :: st))) : Wp p e below PO T (mkF m pc L (.int y :: .int x :: st)) := by
  subst hq
  exact o_st S (fun t X hx hy r => XS.iushr X hx rfl (hb hy hd) rfl r) k
theorem o_lshl (S : St p l e R s m args below meth c Z own bytes ml n0 ret nm T h cells slots) {x : Int64} {y : Int32} (hd : decode bytes pc = .ok (.lshl, 1)) (hq : pc + 1 = q) (k : Wp p e below PO T (mkF m q L (.long (x <<< (y &&& 0x3f).toInt64) :: st))) : Wp p e below PO T (mkF m pc L (.int y :: .long x :: st)) := by
  subst hq
  exact o_st S (fun t X hx hy r => XS.lshl X hx rfl (hb hy hd) rfl r) k
theorem o_lshr (S : St p l e R s m args below meth c Z own bytes ml n0 ret nm T h cells slots) {x : Int64} {y : Int32} (hd : decode bytes pc = .ok (.lshr, 1)) (hq : pc + 1 = q) (k : Wp p e below PO T (mkF m q L (.long (x >>> (y &&& 0x3f).toInt64) :: st))) : Wp p e below PO T (mkF m pc L (.int y :: .long x :: st)) := by
  subst hq
  exact o_st S (fun t X hx hy r => XS.lshr X hx rfl (hb hy hd) rfl r) k
theorem o_lushr (S : St p l e R s m args below meth c Z own bytes ml n0 ret nm T h cells slots) {x : Int64} {y : Int32} (hd : decode bytes pc = .ok (.lushr, 1)) (hq : pc + 1 = q) (k : Wp p e below PO T (mkF m q L (.long ((x.toUInt64 >>> (y &&& 0x3f).toInt64.toUInt64).toInt64) :: st))) : Wp p e below PO T (mkF m pc L (.int y :: .long x :: st)) := by
  subst hq
  exact o_st S (fun t X hx hy r => XS.lushr X hx rfl (hb hy hd) rfl r) k
theorem o_lcmp (S : St p l e R s m args below meth c Z own bytes ml n0 ret nm T h cells slots) {x y : Int64} (hd : decode bytes pc = .ok (.lcmp, 1)) (hq : pc + 1 = q) (k : Wp p e below PO T (mkF m q L (.int (lcmpW x y) :: st))) : Wp p e below PO T (mkF m pc L (.long y :: .long x :: st)) := by
  subst hq
  exact o_st S (fun t X hx hy r => XS.lcmp X hx rfl (hb hy hd) rfl r) k
theorem o_dup (S : St p l e R s m args below meth c Z own bytes ml n0 ret nm T h cells slots) {x : Value} (hc : x.category = 1) (hd : decode bytes pc = .ok (.dup, 1)) (hq : pc + 1 = q) (k : Wp p e below PO T (mkF m q L (x :: x :: st))) : Wp p e below PO T (mkF m pc L (x :: st)) := by
  subst hq
  exact o_st S (fun t X hx hy r => XS.dup X hx rfl (hb hy hd) rfl hc r) k
theorem o_pop (S : St p l e R s m args below meth c Z own bytes ml n0 ret nm T h cells slots) {x : Value} (hc : x.category = 1) (hd : decode bytes pc = .ok (.pop, 1)) (hq : pc + 1 = q) (k : Wp p e below PO T (mkF m q L (st))) : Wp p e below PO T (mkF m pc L (x :: st)) := by
  subst hq
  exact o_st S (fun t X hx hy r => XS.pop X hx rfl (hb hy hd) rfl hc r) k
theorem o_dupX1 (S : St p l e R s m args below meth c Z own bytes ml n0 ret nm T h cells slots) {x y : Value} (hc : x.category = 1) (hc' : y.category = 1) (hd : decode bytes pc = .ok (.dup_x1, 1)) (hq : pc + 1 = q) (k : Wp p e below PO T (mkF m q L (x :: y :: x :: st))) : Wp p e below PO T (mkF m pc L (x :: y :: st)) := by
  subst hq
  exact o_st S (fun t X hx hy r => XS.dupX1 X hx rfl (hb hy hd) rfl hc hc' r) k
theorem o_dup2 (S : St p l e R s m args below meth c Z own bytes ml n0 ret nm T h cells slots) {x y : Value} (hc : x.category = 1) (hc' : y.category = 1) (hd : decode bytes pc = .ok (.dup2, 1)) (hq : pc + 1 = q) (k : Wp p e below PO T (mkF m q L (x :: y :: x :: y :: st))) : Wp p e below PO T (mkF m pc L (x :: y :: st)) := by
  subst hq
  exact o_st S (fun t X hx hy r => XT.dup2 X hx rfl (hb hy hd) rfl hc hc' r) k
theorem o_iinc (S : St p l e R s m args below meth c Z own bytes ml n0 ret nm T h cells slots) {k : Nat} {i : Int} {x : Int32} {L' : Array Slot} (hl : L[k]? = some (.val (.int x))) (hl' : storeLocals L k (.int (x + Int32.ofInt i)) = some L') (hd : decode bytes pc = .ok (.iinc k i, 3)) (hq : pc + 3 = q) (kk : Wp p e below PO T (mkF m q L' st)) : Wp p e below PO T (mkF m pc L st) := by
  subst hq
  exact o_st S (fun t X hx hy r => XS.iinc X hx rfl (hb hy hd) hl hl' r) kk
theorem o_goto (S : St p l e R s m args below meth c Z own bytes ml n0 ret nm T h cells slots) {o : Int} (hd : decode bytes pc = .ok (.goto o, 3)) (ho : 0 ≤ (pc : Int) + o) (hq : ((pc : Int) + o).toNat = q) (k : Wp p e below PO T (mkF m q L st)) : Wp p e below PO T (mkF m pc L st) :=
  o_st S (fun t X hx hy r => XS.goto X hx rfl rfl (hb hy hd) ho hq r) k
theorem o_ldc (S : St p l e R s m args below meth c Z own bytes ml n0 ret nm T h cells slots) {i : Nat} {z : Int32} (w : (Jvm.Cond.constant own i z).before a0 Z = true) (hd : decode bytes pc = .ok (.ldc i, 2)) (hq : pc + 2 = q) (k : Wp p e below PO T (mkF m q L (.int z :: st))) : Wp p e below PO T (mkF m pc L st) := by
  subst hq
  obtain ⟨locs, X, N, eT, hx, hZ, hown, hby, hml, hlk, hn, hrt, hnm⟩ := S
  exact o_to (X.ldcInt hx hown (mvT hZ w) (g := mkF m pc L st) rfl (hb hby hd)) k
theorem o_ldc2 (S : St p l e R s m args below meth c Z own bytes ml n0 ret nm T h cells slots) {i : Nat} {z : Int64} (w : (Jvm.Cond.constantLong own i z).before a0 Z = true) (hd : decode bytes pc = .ok (.ldc2_w i, 3)) (hq : pc + 3 = q) (k : Wp p e below PO T (mkF m q L (.long z :: st))) : Wp p e below PO T (mkF m pc L st) := by
  subst hq
  obtain ⟨locs, X, N, eT, hx, hZ, hown, hby, hml, hlk, hn, hrt, hnm⟩ := S
  exact o_to (X.ldc2Long hx hown (mvT hZ w) (g := mkF m pc L st) rfl (hb hby hd)) k
/-! branches: base conditions x < y (as integers) and x = y -/
theorem o_icmp (S : St p l e R s m args below meth c Z own bytes ml n0 ret nm T h cells slots) {cd : ClassFile.Cond} {x y : Int32} {o : Int} {q' : Nat} {P : Prop} (hd : decode bytes pc = .ok (.if_icmp cd o, 3)) (ho : 0 ≤ (pc : Int) + o) (hq' : ((pc : Int) + o).toNat = q') (hq : pc + 3 = q) (h1 : P → if_icmp.holds cd x y = true) (h2 : ¬ P → if_icmp.holds cd x y = false) [Decidable P]
    (k1 : P → Wp p e below PO T (mkF m q' L st)) (k2 : ¬ P → Wp p e below PO T (mkF m q L st)) : Wp p e below PO T (mkF m pc L (.int y :: .int x :: st)) := by
  subst hq
  by_cases hP : P
  · exact o_st S (fun t X hx hy r => XS.icmpYes X hx rfl rfl (hb hy hd) rfl (h1 hP) ho hq' r) (k1 hP)
  · exact o_st S (fun t X hx hy r => XS.icmpNo X hx rfl (hb hy hd) rfl (h2 hP) r) (k2 hP)
theorem o_if (S : St p l e R s m args below meth c Z own bytes ml n0 ret nm T h cells slots) {cd : ClassFile.Cond} {x : Int32} {o : Int} {q' : Nat} {P : Prop} (hd : decode bytes pc = .ok (.ifCond cd o, 3)) (ho : 0 ≤ (pc : Int) + o) (hq' : ((pc : Int) + o).toNat = q') (hq : pc + 3 = q) (h1 : P → if_icmp.holds cd x 0 = true) (h2 : ¬ P → if_icmp.holds cd x 0 = false) [Decidable P]
    (k1 : P → Wp p e below PO T (mkF m q' L st)) (k2 : ¬ P → Wp p e below PO T (mkF m q L st)) : Wp p e below PO T (mkF m pc L (.int x :: st)) := by
  subst hq
  by_cases hP : P
  · exact o_st S (fun t X hx hy r => XS.ifYes X hx rfl rfl (hb hy hd) rfl ((if0 _ _).trans (h1 hP)) ho hq' r) (k1 hP)
  · exact o_st S (fun t X hx hy r => XS.ifNo X hx rfl (hb hy hd) rfl ((if0 _ _).trans (h2 hP)) r) (k2 hP)
theorem hs_lt {x y : Int32} {a b : Int} (ha : x.toInt = a) (hb : y.toInt = b) : (a < b → if_icmp.holds .lt x y = true) ∧ (¬ a < b → if_icmp.holds .lt x y = false) := by subst ha hb; exact ⟨fun h => (tlt (Int32.lt_iff_toInt_lt.mpr h)).1, fun h => (flt (fun g => h (Int32.lt_iff_toInt_lt.mp g))).1⟩
theorem hs_ge {x y : Int32} {a b : Int} (ha : x.toInt = a) (hb : y.toInt = b) : (b ≤ a → if_icmp.holds .ge x y = true) ∧ (¬ b ≤ a → if_icmp.holds .ge x y = false) := by subst ha hb; exact ⟨fun h => (flt (fun g => by have := Int32.lt_iff_toInt_lt.mp g; omega)).2.1, fun h => (tlt (Int32.lt_iff_toInt_lt.mpr (by omega))).2.1⟩
theorem hs_gt {x y : Int32} {a b : Int} (ha : x.toInt = a) (hb : y.toInt = b) : (b < a → if_icmp.holds .gt x y = true) ∧ (¬ b < a → if_icmp.holds .gt x y = false) := by subst ha hb; exact ⟨fun h => (tlt (Int32.lt_iff_toInt_lt.mpr h)).2.2.1, fun h => (flt (fun g => h (Int32.lt_iff_toInt_lt.mp g))).2.2.1⟩
theorem hs_le {x y : Int32} {a b : Int} (ha : x.toInt = a) (hb : y.toInt = b) : (a ≤ b → if_icmp.holds .le x y = true) ∧ (¬ a ≤ b → if_icmp.holds .le x y = false) := by subst ha hb; exact ⟨fun h => (flt (fun g => by have := Int32.lt_iff_toInt_lt.mp g; omega)).2.2.2, fun h => (tlt (Int32.lt_iff_toInt_lt.mpr (by omega))).2.2.2⟩
theorem hs_eq {x y : Int32} : (x = y → if_icmp.holds .eq x y = true) ∧ (¬ x = y → if_icmp.holds .eq x y = false) := ⟨fun h => (teq h).1, fun h => (feq h).1⟩
theorem hs_ne {x y : Int32} : (¬ x = y → if_icmp.holds .ne x y = true) ∧ (¬ ¬ x = y → if_icmp.holds .ne x y = false) := ⟨fun h => (feq h).2, fun h => (teq (Decidable.not_not.mp h)).2⟩
theorem hl_eq {x y : Int64} : (x = y → if_icmp.holds .eq (lcmpW x y) 0 = true) ∧ (¬ x = y → if_icmp.holds .eq (lcmpW x y) 0 = false) := ⟨fun h => (teq ((lw_eq x y).mpr h)).1, fun h => (feq (fun g => h ((lw_eq x y).mp g))).1⟩
theorem hl_ne {x y : Int64} : (¬ x = y → if_icmp.holds .ne (lcmpW x y) 0 = true) ∧ (¬ ¬ x = y → if_icmp.holds .ne (lcmpW x y) 0 = false) := ⟨fun h => (feq (fun g => h ((lw_eq x y).mp g))).2, fun h => (teq ((lw_eq x y).mpr (Decidable.not_not.mp h))).2⟩
theorem hl_lt {x y : Int64} {a b : Int} (ha : x.toInt = a) (hb : y.toInt = b) : (a < b → if_icmp.holds .lt (lcmpW x y) 0 = true) ∧ (¬ a < b → if_icmp.holds .lt (lcmpW x y) 0 = false) := by subst ha hb; exact ⟨fun h => (tlt ((lw_lt x y).mpr (Int64.lt_iff_toInt_lt.mpr h))).1, fun h => (flt (fun g => h (Int64.lt_iff_toInt_lt.mp ((lw_lt x y).mp g)))).1⟩
theorem hl_ge {x y : Int64} {a b : Int} (ha : x.toInt = a) (hb : y.toInt = b) : (b ≤ a → if_icmp.holds .ge (lcmpW x y) 0 = true) ∧ (¬ b ≤ a → if_icmp.holds .ge (lcmpW x y) 0 = false) := by subst ha hb; exact ⟨fun h => (flt (fun g => by have := Int64.lt_iff_toInt_lt.mp ((lw_lt x y).mp g); omega)).2.1, fun h => (tlt ((lw_lt x y).mpr (Int64.lt_iff_toInt_lt.mpr (by omega)))).2.1⟩
theorem hl_gt {x y : Int64} {a b : Int} (ha : x.toInt = a) (hb : y.toInt = b) : (b < a → if_icmp.holds .gt (lcmpW x y) 0 = true) ∧ (¬ b < a → if_icmp.holds .gt (lcmpW x y) 0 = false) := by subst ha hb; exact ⟨fun h => (tlt ((lw_gt x y).mpr (Int64.lt_iff_toInt_lt.mpr h))).2.2.1, fun h => (flt (fun g => h (Int64.lt_iff_toInt_lt.mp ((lw_gt x y).mp g)))).2.2.1⟩
theorem hl_le {x y : Int64} {a b : Int} (ha : x.toInt = a) (hb : y.toInt = b) : (a ≤ b → if_icmp.holds .le (lcmpW x y) 0 = true) ∧ (¬ a ≤ b → if_icmp.holds .le (lcmpW x y) 0 = false) := by subst ha hb; exact ⟨fun h => (flt (fun g => by have := Int64.lt_iff_toInt_lt.mp ((lw_gt x y).mp g); omega)).2.2.2, fun h => (tlt ((lw_gt x y).mpr (Int64.lt_iff_toInt_lt.mpr (by omega)))).2.2.2⟩
theorem o_ifnullY (S : St p l e R s m args below meth c Z own bytes ml n0 ret nm T h cells slots) {o : Int} (hd : decode bytes pc = .ok (.ifnull o, 3)) (ho : 0 ≤ (pc : Int) + o) (hq : ((pc : Int) + o).toNat = q) (k : Wp p e below PO T (mkF m q L st)) : Wp p e below PO T (mkF m pc L (.null :: st)) :=
  o_st S (fun t X hx hy r => XS.ifnullYes X hx rfl rfl (hb hy hd) rfl ho hq r) k
theorem o_ifnullN (S : St p l e R s m args below meth c Z own bytes ml n0 ret nm T h cells slots) {o : Int} {b : Addr} (hd : decode bytes pc = .ok (.ifnull o, 3)) (hq : pc + 3 = q) (k : Wp p e below PO T (mkF m q L st)) : Wp p e below PO T (mkF m pc L (.ref b :: st)) := by
  subst hq
  exact o_st S (fun t X hx hy r => XS.ifnullNo X hx rfl (hb hy hd) rfl r) k
theorem o_ifnonnullY (S : St p l e R s m args below meth c Z own bytes ml n0 ret nm T h cells slots) {o : Int} {b : Addr} (hd : decode bytes pc = .ok (.ifnonnull o, 3)) (ho : 0 ≤ (pc : Int) + o) (hq : ((pc : Int) + o).toNat = q) (k : Wp p e below PO T (mkF m q L st)) : Wp p e below PO T (mkF m pc L (.ref b :: st)) :=
  o_st S (fun t X hx hy r => XS.ifnonnullYes X hx rfl rfl (hb hy hd) rfl ho hq r) k
theorem o_ifnonnullN (S : St p l e R s m args below meth c Z own bytes ml n0 ret nm T h cells slots) {o : Int} (hd : decode bytes pc = .ok (.ifnonnull o, 3)) (hq : pc + 3 = q) (k : Wp p e below PO T (mkF m q L st)) : Wp p e below PO T (mkF m pc L (.null :: st)) := by
  subst hq
  exact o_st S (fun t X hx hy r => XS.ifnonnullNo X hx rfl (hb hy hd) rfl r) k
/-! returns -/
theorem o_ret {Q : Option Value → Heap → Prop} {w : Option Value} (S : St p l e R s m args below meth c Z own bytes ml n0 ret nm T h cells slots) {g : JFrame} (hv : meth.sig.returnType = none → w = none) (hc : cells ≤ R.cells) (hs : slots ≤ R.slots) (qq : Q w h)
    (hst : ∀ fs : List Frame, At T m c below → T.vm.method? m = some meth → p.tables.exec = Jvm.exec → c.code = bytes → (∀ locs, Stand p l e R s m args below meth c T locs cells slots → (∀ (f : JFrame) (acts : List Action), f.method = m → f.locked = none → f.entered = [] → (doReturn e (T.setTop f) acts w).1 = T.setFrames fs) → Steps p.tables e below (T.setTop g) (T.setFrames fs))) : Wp p e below (Po s n0 R Q) T g := by
  obtain ⟨locs, X, N, eT, hx, hZ, hown, hby, hml, hlk, hn, hrt, hnm⟩ := S
  obtain ⟨fs, hr, hrun, hended, hW, hsame⟩ := X.leave (v := w) hv hlk
  refine ⟨_, _, hst fs X.here X.method' hx hby locs X hr, hrun, hended, _, _, rfl, ⟨?_, N⟩, ⟨_, rfl⟩, hW, hsame.mono hc hs⟩
  show Q w T.heap
  rw [eT]; exact qq
theorem o_retI {Q : Option Value → Heap → Prop} {z : Int32} (S : St p l e R s m args below meth c Z own bytes ml n0 ret nm T h cells slots) (hret : ret = some .int) (hd : decode bytes pc = .ok (.ireturn, 1)) (hc : cells ≤ R.cells) (hs : slots ≤ R.slots) (qq : Q (some (.int z)) h) : Wp p e below (Po s n0 R Q) T (mkF m pc L (.int z :: st)) := by
  have hrt : meth.sig.returnType = some .int := by obtain ⟨locs, X, N, eT, hx, hZ, hown, hby, hml, hlk, hn, hrt, hnm⟩ := S; rw [hrt, hret]
  refine o_ret S (w := some (.int z)) (fun h => by rw [hrt] at h; cases h) hc hs qq fun fs hA hm hx hby locs X hr => ?_
  exact retOut X hx hrt rfl (Or.inl ⟨rfl, Or.inl rfl, z, rfl⟩) (hb hby hd) hr
theorem o_retN {Q : Option Value → Heap → Prop} {z : Int32} {t : FieldType} (S : St p l e R s m args below meth c Z own bytes ml n0 ret nm T h cells slots) (hret : ret = some t) (ht : t = .boolean ∨ t = .byte ∨ t = .char ∨ t = .short) (hd : decode bytes pc = .ok (.ireturn, 1)) (hc : cells ≤ R.cells) (hs : slots ≤ R.slots) (hn : narrow t (.int z) = .int z) (qq : Q (some (.int z)) h) : Wp p e below (Po s n0 R Q) T (mkF m pc L (.int z :: st)) := by
  have hrt : meth.sig.returnType = some t := by obtain ⟨locs, X, N, eT, hx, hZ, hown, hby, hml, hlk, hn, hrt, hnm⟩ := S; rw [hrt, hret]
  refine o_ret S (w := some (.int z)) (fun h => by rw [hrt] at h; cases h) hc hs qq fun fs hA hm hx hby locs X hr => ?_
  exact retOut X hx hrt hn (Or.inl ⟨rfl, Or.inr ht, z, rfl⟩) (hb hby hd) hr
theorem o_retJ {Q : Option Value → Heap → Prop} {z : Int64} (S : St p l e R s m args below meth c Z own bytes ml n0 ret nm T h cells slots) (hret : ret = some .long) (hd : decode bytes pc = .ok (.lreturn, 1)) (hc : cells ≤ R.cells) (hs : slots ≤ R.slots) (qq : Q (some (.long z)) h) : Wp p e below (Po s n0 R Q) T (mkF m pc L (.long z :: st)) := by
  have hrt : meth.sig.returnType = some .long := by obtain ⟨locs, X, N, eT, hx, hZ, hown, hby, hml, hlk, hn, hrt, hnm⟩ := S; rw [hrt, hret]
  refine o_ret S (w := some (.long z)) (fun h => by rw [hrt] at h; cases h) hc hs qq fun fs hA hm hx hby locs X hr => ?_
  exact retOut X hx hrt rfl (Or.inr (Or.inl ⟨rfl, rfl, z, rfl⟩)) (hb hby hd) hr
theorem o_retR {Q : Option Value → Heap → Prop} {z : Value} {t : FieldType} (S : St p l e R s m args below meth c Z own bytes ml n0 ret nm T h cells slots) (hret : ret = some t) (ht : t.isReference = true) (hz : z.isRef = true) (hn : narrow t z = z) (hd : decode bytes pc = .ok (.areturn, 1)) (hc : cells ≤ R.cells) (hs : slots ≤ R.slots) (qq : Q (some z) h) : Wp p e below (Po s n0 R Q) T (mkF m pc L (z :: st)) := by
  have hrt : meth.sig.returnType = some t := by obtain ⟨locs, X, N, eT, hx, hZ, hown, hby, hml, hlk, hn, hrt, hnm⟩ := S; rw [hrt, hret]
  refine o_ret S (w := some z) (fun h => by rw [hrt] at h; cases h) hc hs qq fun fs hA hm hx hby locs X hr => ?_
  exact retOut X hx hrt hn (Or.inr (Or.inr (Or.inr (Or.inr ⟨rfl, ht, hz⟩)))) (hb hby hd) hr
theorem o_retV {Q : Option Value → Heap → Prop} (S : St p l e R s m args below meth c Z own bytes ml n0 ret nm T h cells slots) (hret : ret = none) (hd : decode bytes pc = .ok (.return_, 1)) (hc : cells ≤ R.cells) (hs : slots ≤ R.slots) (qq : Q none h) : Wp p e below (Po s n0 R Q) T (mkF m pc L []) := by
  have hrt : meth.sig.returnType = none := by obtain ⟨locs, X, N, eT, hx, hZ, hown, hby, hml, hlk, hn, hrt, hnm⟩ := S; rw [hrt, hret]
  exact o_ret S (w := none) (fun _ => rfl) hc hs qq fun fs hA hm hx hby locs X hr => X.returnOut hx hrt (hb hby hd) hr

/-! calls -/
theorem o_cut {A B : Prop} (k2 : A → B) (k1 : A) : B := k2 k1
theorem o_cutS {B : Prop} (S : St p l e R s m args below meth c Z own bytes ml n0 ret nm T h cells slots) {G : State → Prop} (k2 : (∀ T', St p l e R s m args below meth c Z own bytes ml n0 ret nm T' h cells slots → G T') → B) (k1 : ∀ T', St p l e R s m args below meth c Z own bytes ml n0 ret nm T' h cells slots → G T') : B := k2 k1
def Qp (r : Option Value) (h0 : Heap) : Option Value → Heap → Prop := fun v h => v = r ∧ h = h0
theorem o_si {a b : Int32} (h : a = b) : some (Value.int a) = some (Value.int b) := by rw [h]
theorem o_sj {a b : Int64} (h : a = b) : some (Value.long a) = some (Value.long b) := by rw [h]
theorem o_callS (S : St p l e R s m args below meth c Z own bytes ml n0 ret nm T h cells slots) {i : Nat} {y : MethodName} {bytes' : ByteArray} {maxL : Nat} {ret' : Option FieldType} {rm : Room} {W : Nat} {argsL rest : List Value} {Q : Option Value → Heap → Prop} {ps : List FieldType} {r' : Option FieldType}
    (w1 : (Jvm.Cond.methodLink own i y).before a0 Z = true) (w2 : (Jvm.Cond.static y).before a0 Z = true) (w3 : (Jvm.Cond.initialized y.cls).before a0 Z = true) (w4 : (Jvm.Cond.code y bytes' maxL ret').before a0 Z = true) (hy : y.cls ≠ "java/lang/invoke/MethodHandle" ∧ y.cls ≠ "java/lang/invoke/VarHandle")
    (K : Ct l y bytes' maxL ret' [] rm Z h n0 argsL.toArray Q) (hf : rm.frames + 1 ≤ R.frames) (hl : W + (maxL + 11) + rm.locals ≤ R.locals) (hL : L.size = ml) (hst : st = argsL.reverse ++ rest) (hsig : parseMethodDescriptor y.desc = some ⟨ps, r'⟩) (hlen : argsL.length = ps.length) (hW : (rest.map fun v => v.category).sum ≤ W)
    (hd : decode bytes pc = .ok (.invokestatic i, 3)) (hq : pc + 3 = q) (hc : cells + rm.cells ≤ R.cells) (hs : slots + rm.slots ≤ R.slots) (k : ∀ T' h' v, St p l e R s m args below meth c Z own bytes ml n0 ret nm T' h' (cells + rm.cells) (slots + rm.slots) → Q v h' → Wp p e below PO T' (mkF m q L (v.toList ++ rest))) : Wp p e below PO T (mkF m pc L st) := by
  subst hq
  obtain ⟨locs, X, N, eT, hx, hZ, hown, hby, hml, hlk, hn, hrt, hnm⟩ := S
  have hb0 := backOf (R := R) (s := s) (p := p) (e := e) (below := below) (args := args) (len := 3) (W := W) (Q := fun v h L => Q v h ∧ Fr n0 L) K hZ w4 w3 hf hl
  obtain ⟨v, vm, ⟨T', L', k', n'⟩, hwm, X', ⟨Lc, hQ, l1, y1, z1⟩, st1⟩ := Jvm.LawKit.callS X hx (y := y) hown (mvT hZ w1) (mvT hZ w2) (mvT hZ w3) (mvT hZ w4) hy hb0 (g := mkF m pc L st) rfl (by rw [hml]; exact hL) (argsL := argsL) (rest := rest) (lenOf hsig hlen) hst (by show 2 * 0 + _ ≤ _; omega) (hb hby hd) (fun _ _ => ⟨rfl, eT, hc, hs⟩)
  dsimp only [Pt.U, Pt.locs, Pt.cells, Pt.slots] at X' l1 y1 z1 st1 hQ
  subst l1 y1 z1
  exact o_to st1 (k T' T'.heap v ⟨_, X', N.app hQ.2, rfl, hx, hZ, hown, hby, hml, hlk, hn, hrt, hnm⟩ hQ.1)
theorem o_callI (S : St p l e R s m args below meth c Z own bytes ml n0 ret nm T h cells slots) {i : Nat} {y : MethodName} {bytes' : ByteArray} {maxL : Nat} {rm : Room} {W : Nat} {argsL rest : List Value} {Q : Option Value → Heap → Prop} {ps : List FieldType} {r' : Option FieldType} {a : Addr} (hy1 : y.name = "<init>")
    (w1 : (Jvm.Cond.methodLink own i y).before a0 Z = true) (w2 : (Jvm.Cond.instanceMethod y).before a0 Z = true) (w3 : (Jvm.Cond.initialized y.cls).before a0 Z = true) (w4 : (Jvm.Cond.code y bytes' maxL none).before a0 Z = true) (hy : y.cls ≠ "java/lang/invoke/MethodHandle" ∧ y.cls ≠ "java/lang/invoke/VarHandle")
    (K : Ct l y bytes' maxL none [] rm Z h n0 (.ref a :: argsL).toArray Q) (hf : rm.frames + 1 ≤ R.frames) (hl : W + (maxL + 11) + rm.locals ≤ R.locals) (hL : L.size = ml) (hst : st = argsL.reverse ++ .ref a :: rest) (hsig : parseMethodDescriptor y.desc = some ⟨ps, r'⟩) (hlen : argsL.length = ps.length) (hW : (rest.map fun v => v.category).sum ≤ W)
    (hd : decode bytes pc = .ok (.invokespecial i, 3)) (hq : pc + 3 = q) (hc : cells + rm.cells ≤ R.cells) (hs : slots + rm.slots ≤ R.slots) (k : ∀ T' h' v, St p l e R s m args below meth c Z own bytes ml n0 ret nm T' h' (cells + rm.cells) (slots + rm.slots) → Q v h' → Wp p e below PO T' (mkF m q L (v.toList ++ rest))) : Wp p e below PO T (mkF m pc L st) := by
  subst hq
  obtain ⟨locs, X, N, eT, hx, hZ, hown, hby, hml, hlk, hn, hrt, hnm⟩ := S
  have hb0 := backOf (R := R) (s := s) (p := p) (e := e) (below := below) (args := args) (len := 3) (W := W) (Q := fun v h L => Q v h ∧ Fr n0 L) K hZ w4 w3 hf hl
  obtain ⟨v, vm, ⟨T', L', k', n'⟩, hwm, X', ⟨Lc, hQ, l1, y1, z1⟩, st1⟩ := X.specialBack hx (y := y) hy1 hown (mvT hZ w1) (mvT hZ w2) (mvT hZ w4) hy hb0 (g := mkF m pc L st) rfl (by rw [hml]; exact hL) (Steps.refl _) (a := a) (argsL := argsL) (rest := rest) (lenOf hsig hlen) hst (by show 2 * 0 + _ ≤ _; omega) (hb hby hd) (fun _ _ => ⟨rfl, eT, hc, hs⟩)
  dsimp only [Pt.U, Pt.locs, Pt.cells, Pt.slots] at X' l1 y1 z1 st1 hQ
  subst l1 y1 z1
  exact o_to (fun t r => st1.trans r) (k T' T'.heap v ⟨_, X', N.app hQ.2, rfl, hx, hZ, hown, hby, hml, hlk, hn, hrt, hnm⟩ hQ.1)
theorem o_callV (S : St p l e R s m args below meth c Z own bytes ml n0 ret nm T h cells slots) {i : Nat} {y : MethodName} {bytes' : ByteArray} {maxL : Nat} {ret' : Option FieldType} {rm : Room} {W : Nat} {argsL rest : List Value} {Q : Option Value → Heap → Prop} {ps : List FieldType} {r' : Option FieldType} {a : Addr} {z : MethodName} {C : String}
    (w1 : (Jvm.Cond.methodLink own i y).before a0 Z = true) (w2 : (Jvm.Cond.declares y).before a0 Z = true) (w5 : (Jvm.Cond.selects C y z).before a0 Z = true) (w6 : (Jvm.Cond.instanceMethod z).before a0 Z = true) (w3 : (Jvm.Cond.initialized z.cls).before a0 Z = true) (w4 : (Jvm.Cond.code z bytes' maxL ret').before a0 Z = true) (nf : ∀ s' : State, Z.Warmed39 s'.vm → NotFace s' y) (hy : y.cls ≠ "java/lang/invoke/MethodHandle" ∧ y.cls ≠ "java/lang/invoke/VarHandle")
    (E : Exa Z h a C) (K : Ct l z bytes' maxL ret' [] rm Z h n0 (.ref a :: argsL).toArray Q) (hf : rm.frames + 1 ≤ R.frames) (hl : W + (maxL + 11) + rm.locals ≤ R.locals) (hL : L.size = ml) (hst : st = argsL.reverse ++ .ref a :: rest) (hsig : parseMethodDescriptor y.desc = some ⟨ps, r'⟩) (hlen : argsL.length = ps.length) (hW : (rest.map fun v => v.category).sum ≤ W)
    (hd : decode bytes pc = .ok (.invokevirtual i, 3)) (hq : pc + 3 = q) (hc : cells + rm.cells ≤ R.cells) (hs : slots + rm.slots ≤ R.slots) (k : ∀ T' h' v, St p l e R s m args below meth c Z own bytes ml n0 ret nm T' h' (cells + rm.cells) (slots + rm.slots) → Q v h' → Wp p e below PO T' (mkF m q L (v.toList ++ rest))) : Wp p e below PO T (mkF m pc L st) := by
  subst hq
  obtain ⟨locs, X, N, eT, hx, hZ, hown, hby, hml, hlk, hn, hrt, hnm⟩ := S
  have hb0 := backOf (R := R) (s := s) (p := p) (e := e) (below := below) (args := args) (len := 3) (W := W) (Q := fun v h L => Q v h ∧ Fr n0 L) K hZ w4 w3 hf hl
  obtain ⟨cq, kq, qa, qb, qc⟩ := isOf hZ eT E
  obtain ⟨v, vm, ⟨T', L', k', n'⟩, hwm, X', ⟨Lc, hQ, l1, y1, z1⟩, st1⟩ := X.virtualBack hx (y := y) (z := z) hown (mvT hZ w1) (mvT hZ w2) (nf s hZ) (mvT hZ w5) (mvT hZ w6) hy hb0 qa qc (g := mkF m pc L st) rfl (by rw [hml]; exact hL) (Steps.refl _) (argsL := argsL) (rest := rest) (lenOf hsig hlen) hst (by show 2 * 0 + _ ≤ _; omega) (hb hby hd) (fun _ _ => ⟨rfl, eT, hc, hs⟩)
  dsimp only [Pt.U, Pt.locs, Pt.cells, Pt.slots] at X' l1 y1 z1 st1 hQ
  subst l1 y1 z1
  exact o_to (fun t r => st1.trans r) (k T' T'.heap v ⟨_, X', N.app hQ.2, rfl, hx, hZ, hown, hby, hml, hlk, hn, hrt, hnm⟩ hQ.1)
theorem o_nf {y : MethodName} {C : String} (w : (Jvm.Cond.selects C y y).before a0 Z = true) : ∀ s' : State, Z.Warmed39 s'.vm → NotFace s' y := fun s' hZ => notFace_of_selects (args := #[]) (mvT hZ w)
theorem o_callP (S : St p l e R s m args below meth c Z own bytes ml n0 ret nm T h cells slots) {i : Nat} {y : MethodName} {bytes' : ByteArray} {maxL : Nat} {ret' : Option FieldType} {rm : Room} {W : Nat} {argsL rest : List Value} {Q : Option Value → Heap → Prop} {ps : List FieldType} {r' : Option FieldType} {a : Addr}
    (w1 : (Jvm.Cond.methodLink own i y).before a0 Z = true) (w2 : (Jvm.Cond.instanceMethod y).before a0 Z = true) (w5 : (Jvm.Cond.selects y.cls y y).before a0 Z = true) (w6 : (Jvm.Cond.privateMethod y).before a0 Z = true) (w3 : (Jvm.Cond.initialized y.cls).before a0 Z = true) (w4 : (Jvm.Cond.code y bytes' maxL ret').before a0 Z = true) (hy : y.cls ≠ "java/lang/invoke/MethodHandle" ∧ y.cls ≠ "java/lang/invoke/VarHandle")
    (E : Exa Z h a y.cls) (K : Ct l y bytes' maxL ret' [] rm Z h n0 (.ref a :: argsL).toArray Q) (hf : rm.frames + 1 ≤ R.frames) (hl : W + (maxL + 11) + rm.locals ≤ R.locals) (hL : L.size = ml) (hst : st = argsL.reverse ++ .ref a :: rest) (hsig : parseMethodDescriptor y.desc = some ⟨ps, r'⟩) (hlen : argsL.length = ps.length) (hW : (rest.map fun v => v.category).sum ≤ W)
    (hd : decode bytes pc = .ok (.invokevirtual i, 3)) (hq : pc + 3 = q) (hc : cells + rm.cells ≤ R.cells) (hs : slots + rm.slots ≤ R.slots) (k : ∀ T' h' v, St p l e R s m args below meth c Z own bytes ml n0 ret nm T' h' (cells + rm.cells) (slots + rm.slots) → Q v h' → Wp p e below PO T' (mkF m q L (v.toList ++ rest))) : Wp p e below PO T (mkF m pc L st) := by
  subst hq
  obtain ⟨locs, X, N, eT, hx, hZ, hown, hby, hml, hlk, hn, hrt, hnm⟩ := S
  have hb0 := backOf (R := R) (s := s) (p := p) (e := e) (below := below) (args := args) (len := 3) (W := W) (Q := fun v h L => Q v h ∧ Fr n0 L) K hZ w4 w3 hf hl
  obtain ⟨cq, qa, qb⟩ := E.cell
  obtain ⟨v, vm, ⟨T', L', k', n'⟩, hwm, X', ⟨Lc, hQ, l1, y1, z1⟩, st1⟩ := X.privateBack hx (y := y) hown (mvT hZ w1) (mvT hZ w2) (mvT hZ w5) (Cond.privateMethod_at (mvP hZ w6 (args := #[]))) (mvT hZ w4) hy hb0 (g := mkF m pc L st) rfl (by rw [hml]; exact hL) (Steps.refl _) (a := a) (by rw [eT]; exact qa) qb (argsL := argsL) (rest := rest) (lenOf hsig hlen) hst (by show 2 * 0 + _ ≤ _; omega) (hb hby hd) (fun _ _ => ⟨rfl, eT, hc, hs⟩)
  dsimp only [Pt.U, Pt.locs, Pt.cells, Pt.slots] at X' l1 y1 z1 st1 hQ
  subst l1 y1 z1
  exact o_to (fun t r => st1.trans r) (k T' T'.heap v ⟨_, X', N.app hQ.2, rfl, hx, hZ, hown, hby, hml, hlk, hn, hrt, hnm⟩ hQ.1)
theorem o_callS0 (S : St p l e R s m args below meth c Z own bytes ml n0 ret nm T h cells slots) {i : Nat} {y : MethodName} {bytes' : ByteArray} {maxL : Nat} {ret' : Option FieldType} {rm : Room} {W : Nat} {argsL rest : List Value} {ps : List FieldType} {r' : Option FieldType} {st' : List Value} {r : Option Value} 
    (w1 : (Jvm.Cond.methodLink own i y).before a0 Z = true) (w2 : (Jvm.Cond.static y).before a0 Z = true) (w3 : (Jvm.Cond.initialized y.cls).before a0 Z = true) (w4 : (Jvm.Cond.code y bytes' maxL ret').before a0 Z = true) (hy : y.cls ≠ "java/lang/invoke/MethodHandle" ∧ y.cls ≠ "java/lang/invoke/VarHandle")
    (K : Ct l y bytes' maxL ret' [] rm Z h n0 argsL.toArray (Qp r h)) (hf : rm.frames + 1 ≤ R.frames) (hl : W + (maxL + 11) + rm.locals ≤ R.locals) (hL : L.size = ml) (hst : st = argsL.reverse ++ rest) (hsig : parseMethodDescriptor y.desc = some ⟨ps, r'⟩) (hlen : argsL.length = ps.length) (hW : (rest.map fun v => v.category).sum ≤ W)
    (hd : decode bytes pc = .ok (.invokestatic i, 3)) (hq : pc + 3 = q) (hc : cells + rm.cells ≤ R.cells) (hs : slots + rm.slots ≤ R.slots) (hst' : r.toList ++ rest = st') (k : ∀ T', St p l e R s m args below meth c Z own bytes ml n0 ret nm T' h (cells + rm.cells) (slots + rm.slots) → Wp p e below PO T' (mkF m q L st')) : Wp p e below PO T (mkF m pc L st) := by
  subst hst'
  exact o_callS S w1 w2 w3 w4 hy K hf hl hL hst hsig hlen hW hd hq hc hs (fun T' h' v S' hQ => by obtain ⟨hv, hh⟩ := hQ; subst hv; rw [hh] at S'; exact k T' S')
theorem o_callI0 (S : St p l e R s m args below meth c Z own bytes ml n0 ret nm T h cells slots) {i : Nat} {y : MethodName} {bytes' : ByteArray} {maxL : Nat} {rm : Room} {W : Nat} {argsL rest : List Value} {ps : List FieldType} {r' : Option FieldType} {st' : List Value} {r : Option Value} {a : Addr} (hy1 : y.name = "<init>")
    (w1 : (Jvm.Cond.methodLink own i y).before a0 Z = true) (w2 : (Jvm.Cond.instanceMethod y).before a0 Z = true) (w3 : (Jvm.Cond.initialized y.cls).before a0 Z = true) (w4 : (Jvm.Cond.code y bytes' maxL none).before a0 Z = true) (hy : y.cls ≠ "java/lang/invoke/MethodHandle" ∧ y.cls ≠ "java/lang/invoke/VarHandle")
    (K : Ct l y bytes' maxL none [] rm Z h n0 (.ref a :: argsL).toArray (Qp r h)) (hf : rm.frames + 1 ≤ R.frames) (hl : W + (maxL + 11) + rm.locals ≤ R.locals) (hL : L.size = ml) (hst : st = argsL.reverse ++ .ref a :: rest) (hsig : parseMethodDescriptor y.desc = some ⟨ps, r'⟩) (hlen : argsL.length = ps.length) (hW : (rest.map fun v => v.category).sum ≤ W)
    (hd : decode bytes pc = .ok (.invokespecial i, 3)) (hq : pc + 3 = q) (hc : cells + rm.cells ≤ R.cells) (hs : slots + rm.slots ≤ R.slots) (hst' : r.toList ++ rest = st') (k : ∀ T', St p l e R s m args below meth c Z own bytes ml n0 ret nm T' h (cells + rm.cells) (slots + rm.slots) → Wp p e below PO T' (mkF m q L st')) : Wp p e below PO T (mkF m pc L st) := by
  subst hst'
  exact o_callI S hy1 w1 w2 w3 w4 hy K hf hl hL hst hsig hlen hW hd hq hc hs (fun T' h' v S' hQ => by obtain ⟨hv, hh⟩ := hQ; subst hv; rw [hh] at S'; exact k T' S')
theorem o_callV0 (S : St p l e R s m args below meth c Z own bytes ml n0 ret nm T h cells slots) {i : Nat} {y : MethodName} {bytes' : ByteArray} {maxL : Nat} {ret' : Option FieldType} {rm : Room} {W : Nat} {argsL rest : List Value} {ps : List FieldType} {r' : Option FieldType} {st' : List Value} {r : Option Value} {a : Addr} {z : MethodName} {C : String}
    (w1 : (Jvm.Cond.methodLink own i y).before a0 Z = true) (w2 : (Jvm.Cond.declares y).before a0 Z = true) (w5 : (Jvm.Cond.selects C y z).before a0 Z = true) (w6 : (Jvm.Cond.instanceMethod z).before a0 Z = true) (w3 : (Jvm.Cond.initialized z.cls).before a0 Z = true) (w4 : (Jvm.Cond.code z bytes' maxL ret').before a0 Z = true) (nf : ∀ s' : State, Z.Warmed39 s'.vm → NotFace s' y) (hy : y.cls ≠ "java/lang/invoke/MethodHandle" ∧ y.cls ≠ "java/lang/invoke/VarHandle")
    (E : Exa Z h a C) (K : Ct l z bytes' maxL ret' [] rm Z h n0 (.ref a :: argsL).toArray (Qp r h)) (hf : rm.frames + 1 ≤ R.frames) (hl : W + (maxL + 11) + rm.locals ≤ R.locals) (hL : L.size = ml) (hst : st = argsL.reverse ++ .ref a :: rest) (hsig : parseMethodDescriptor y.desc = some ⟨ps, r'⟩) (hlen : argsL.length = ps.length) (hW : (rest.map fun v => v.category).sum ≤ W)
    (hd : decode bytes pc = .ok (.invokevirtual i, 3)) (hq : pc + 3 = q) (hc : cells + rm.cells ≤ R.cells) (hs : slots + rm.slots ≤ R.slots) (hst' : r.toList ++ rest = st') (k : ∀ T', St p l e R s m args below meth c Z own bytes ml n0 ret nm T' h (cells + rm.cells) (slots + rm.slots) → Wp p e below PO T' (mkF m q L st')) : Wp p e below PO T (mkF m pc L st) := by
  subst hst'
  exact o_callV S w1 w2 w5 w6 w3 w4 nf hy E K hf hl hL hst hsig hlen hW hd hq hc hs (fun T' h' v S' hQ => by obtain ⟨hv, hh⟩ := hQ; subst hv; rw [hh] at S'; exact k T' S')
theorem o_callP0 (S : St p l e R s m args below meth c Z own bytes ml n0 ret nm T h cells slots) {i : Nat} {y : MethodName} {bytes' : ByteArray} {maxL : Nat} {ret' : Option FieldType} {rm : Room} {W : Nat} {argsL rest : List Value} {ps : List FieldType} {r' : Option FieldType} {st' : List Value} {r : Option Value} {a : Addr}
    (w1 : (Jvm.Cond.methodLink own i y).before a0 Z = true) (w2 : (Jvm.Cond.instanceMethod y).before a0 Z = true) (w5 : (Jvm.Cond.selects y.cls y y).before a0 Z = true) (w6 : (Jvm.Cond.privateMethod y).before a0 Z = true) (w3 : (Jvm.Cond.initialized y.cls).before a0 Z = true) (w4 : (Jvm.Cond.code y bytes' maxL ret').before a0 Z = true) (hy : y.cls ≠ "java/lang/invoke/MethodHandle" ∧ y.cls ≠ "java/lang/invoke/VarHandle")
    (E : Exa Z h a y.cls) (K : Ct l y bytes' maxL ret' [] rm Z h n0 (.ref a :: argsL).toArray (Qp r h)) (hf : rm.frames + 1 ≤ R.frames) (hl : W + (maxL + 11) + rm.locals ≤ R.locals) (hL : L.size = ml) (hst : st = argsL.reverse ++ .ref a :: rest) (hsig : parseMethodDescriptor y.desc = some ⟨ps, r'⟩) (hlen : argsL.length = ps.length) (hW : (rest.map fun v => v.category).sum ≤ W)
    (hd : decode bytes pc = .ok (.invokevirtual i, 3)) (hq : pc + 3 = q) (hc : cells + rm.cells ≤ R.cells) (hs : slots + rm.slots ≤ R.slots) (hst' : r.toList ++ rest = st') (k : ∀ T', St p l e R s m args below meth c Z own bytes ml n0 ret nm T' h (cells + rm.cells) (slots + rm.slots) → Wp p e below PO T' (mkF m q L st')) : Wp p e below PO T (mkF m pc L st) := by
  subst hst'
  exact o_callP S w1 w2 w5 w6 w3 w4 hy E K hf hl hL hst hsig hlen hW hd hq hc hs (fun T' h' v S' hQ => by obtain ⟨hv, hh⟩ := hQ; subst hv; rw [hh] at S'; exact k T' S')
/-! the heap -/
theorem o_initO (S : St p l e R s m args below meth c Z own bytes ml n0 ret nm T h cells slots) {i W : Nat} {a : Addr} (w1 : (Jvm.Cond.methodLink own i Lib.objectInit).before a0 Z = true) (w2 : (Jvm.Cond.instanceMethod Lib.objectInit).before a0 Z = true) (w3 : (Jvm.Cond.code Lib.objectInit ⟨#[0xb1]⟩ 1 none).before a0 Z = true) (hL : L.size = ml) (hd : decode bytes pc = .ok (.invokespecial i, 3)) (hq : pc + 3 = q) (hf : 1 ≤ R.frames) (hW : (st.map fun v => v.category).sum ≤ W) (hl : W + 12 ≤ R.locals)
    (k : ∀ T', St p l e R s m args below meth c Z own bytes ml n0 ret nm T' h cells slots → Wp p e below PO T' (mkF m q L st)) : Wp p e below PO T (mkF m pc L (.ref a :: st)) := by
  subst hq
  obtain ⟨locs, X, N, eT, hx, hZ, hown, hby, hml, hlk, hn, hrt, hnm⟩ := S
  obtain ⟨T', X', e', st'⟩ := initO X hx hZ hown w1 w2 w3 eT (g := mkF m pc L (.ref a :: st)) rfl (by rw [hml]; exact hL) rfl (hb hby hd) hf (W := W) (by show 2 * 0 + _ ≤ _; omega) hl
  exact o_to st' (k T' ⟨_, X', N, e', hx, hZ, hown, hby, hml, hlk, hn, hrt, hnm⟩)
theorem o_getF (S : St p l e R s m args below meth c Z own bytes ml n0 ret nm T h cells slots) {i : Nat} {R0 O n d : String} {a : Addr} {v : Value} (w : (Jvm.Cond.fieldLink own i R0 n d).before a0 Z = true) (via : Via Z R0 O n d) (F : Fld Z h a O n d v) (hd : decode bytes pc = .ok (.getfield i, 3)) (hq : pc + 3 = q)
    (k : ∀ T', St p l e R s m args below meth c Z own bytes ml n0 ret nm T' h cells slots → Wp p e below PO T' (mkF m q L (v :: st))) : Wp p e below PO T (mkF m pc L (.ref a :: st)) := by
  subst hq
  obtain ⟨locs, X, N, eT, hx, hZ, hown, hby, hml, hlk, hn, hrt, hnm⟩ := S
  obtain ⟨T', X', e', st'⟩ := getF X hx hZ hown (host := "") (Or.inl w) via eT F (g := mkF m pc L (.ref a :: st)) rfl rfl (hb hby hd)
  exact o_to st' (k T' ⟨_, X', N, e', hx, hZ, hown, hby, hml, hlk, hn, hrt, hnm⟩)
theorem o_putF (S : St p l e R s m args below meth c Z own bytes ml n0 ret nm T h cells slots) {i kk : Nat} {R0 O n d C : String} {ty : FieldType} {a : Addr} {v old : Value} (w : (Jvm.Cond.fieldLink own i R0 n d).before a0 Z = true) (via : Via Z R0 O n d) (F : Fld Z h a O n d old) (E : Exa Z h a C) (Lw : (Jvm.Cond.lays C O n d).before a0 Z = true ∨ ((Jvm.Cond.laysFinal C O n d).before a0 Z = true ∧ own = O ∧ nm = "<init>")) (wi : (Jvm.Cond.instantiable C kk).before a0 Z = true) (hty : parseFieldDescriptor d = some ty) (hn' : narrow ty v = v) (hf : fits ty v = true) (ga : n0 ≤ a) (hd : decode bytes pc = .ok (.putfield i, 3)) (hq : pc + 3 = q)
    (k : ∀ T' h', St p l e R s m args below meth c Z own bytes ml n0 ret nm T' h' cells slots → Wr h h' a (Jvm.RoadKit.slotOf Z O n d) v → Fld Z h' a O n d v → Wp p e below PO T' (mkF m q L st)) : Wp p e below PO T (mkF m pc L (v :: .ref a :: st)) := by
  subst hq
  obtain ⟨locs, X, N, eT, hx, hZ, hown, hby, hml, hlk, hn, hrt, hnm⟩ := S
  obtain ⟨T', h', X', e', W', st'⟩ := putF X hx hZ hown (host := "") (Or.inl w) via eT F E (Lw.imp id fun q => ⟨q.1, q.2.1, by rw [hnm]; exact q.2.2⟩) wi hty hn' hf (g := mkF m pc L (v :: .ref a :: st)) rfl rfl (hb hby hd)
  exact o_to st' (k T' h' ⟨_, X', Fr.snoc X' N ga, e', hx, hZ, hown, hby, hml, hlk, hn, hrt, hnm⟩ W' (F.same W'))
theorem o_new (S : St p l e R s m args below meth c Z own bytes ml n0 ret nm T h cells slots) {i n : Nat} {C : String} (w : (Jvm.Cond.classLink own i C).before a0 Z = true) (wi : (Jvm.Cond.instantiable C n).before a0 Z = true) (wz : (Jvm.Cond.initialized C).before a0 Z = true) (hd : decode bytes pc = .ok (.new i, 3)) (hq : pc + 3 = q) (hc : cells + 1 ≤ R.cells) (hl : slots + n ≤ R.slots)
    (k : ∀ T' h' a, St p l e R s m args below meth c Z own bytes ml n0 ret nm T' h' (cells + 1) (slots + n) → a = h.size → n0 ≤ a → Ext h h' → Exa Z h' a C → (∀ {O nm d : String} {ty : FieldType}, Laid Z a0 C O nm d → parseFieldDescriptor d = some ty → Fld Z h' a O nm d (defaultValue ty)) → Wp p e below PO T' (mkF m q L (.ref a :: st))) : Wp p e below PO T (mkF m pc L st) := by
  have g0 := o_n0 S
  subst hq
  obtain ⟨locs, X, N, eT, hx, hZ, hown, hby, hml, hlk, hn, hrt, hnm⟩ := S
  obtain ⟨T', h', X', e', E', A', D', -, st'⟩ := newO X hx hZ hown w wi wz eT (g := mkF m pc L st) rfl (hb hby hd) hc hl
  exact o_to st' (k T' h' h.size ⟨_, X', N, e', hx, hZ, hown, hby, hml, hlk, hn, hrt, hnm⟩ rfl g0 E' A' D')
/-! arrays of ints (bytes, booleans ..): the list of what they hold -/
def IA (Z : State) (h : Heap) (a : Addr) (ty : FieldType) (xs : List Int32) : Prop := ∃ c : Cell, Arr Z h a c ty ∧ c.slots.size = xs.length ∧ xs.length < 2147483648 ∧ (∀ i, i < xs.length → c.slots[i]? = some (.int (xs.getD i 0))) ∧ ∀ i, i < xs.length → fits ty (.int (xs.getD i 0)) = true
theorem IA.lt {a : Addr} {ty : FieldType} {xs : List Int32} (F : IA Z h a ty xs) : a < h.size := by obtain ⟨c, A, -⟩ := F; exact A.lt
theorem IA.ext {h' : Heap} {a : Addr} {ty : FieldType} {xs : List Int32} (F : IA Z h a ty xs) (E : Ext h h') : IA Z h' a ty xs := by obtain ⟨c, A, r⟩ := F; exact ⟨c, A.ext E, r⟩
theorem IA.other {h' : Heap} {a b : Addr} {sl : Nat} {v : Value} {ty : FieldType} {xs : List Int32} (F : IA Z h b ty xs) (W : Wr h h' a sl v) (q : b ≠ a) : IA Z h' b ty xs := by obtain ⟨c, A, r⟩ := F; exact ⟨c, A.other W q, r⟩
theorem IA.keep {h' : Heap} {a : Addr} {ws : List Addr} {ty : FieldType} {xs : List Int32} (F : IA Z h a ty xs) (K : Keep h h' ws) (q : a ∉ ws) : IA Z h' a ty xs := by obtain ⟨c, A, r⟩ := F; exact ⟨c, ⟨K.2.1 a c A.1 q, A.2⟩, r⟩
theorem IA.len {a : Addr} {ty : FieldType} {xs : List Int32} (F : IA Z h a ty xs) : xs.length < 2147483648 := by obtain ⟨c, A, h1, h2, -⟩ := F; exact h2
theorem o_nat {j : Int32} (h0 : 0 ≤ j.toInt) : ¬ j < 0 ∧ (j.toNatClampNeg : Int) = j.toInt := by
  have h1 : ¬ j < 0 := fun q => by have := Int32.lt_iff_toInt_lt.mp q; have : (0 : Int32).toInt = 0 := rfl; omega
  exact ⟨h1, (nat_of h1).symm⟩
theorem o_inb {j : Int32} {n N : Nat} (h0 : 0 ≤ j.toInt) (h1 : j.toInt < n) (hN : N = n) : ¬ (j < 0 ∨ N ≤ j.toNatClampNeg) := by
  obtain ⟨g1, g2⟩ := o_nat h0
  rintro (q | q)
  · exact g1 q
  · omega
theorem IA.set {h' : Heap} {a : Addr} {ty : FieldType} {xs : List Int32} {j x : Int32} (F : IA Z h a ty xs) (W : Wr h h' a j.toNatClampNeg (.int x)) (hf : fits ty (.int x) = true) : IA Z h' a ty (xs.set j.toNatClampNeg x) := by
  obtain ⟨c, A, h1, h2, h3, h4⟩ := F
  refine ⟨c.setSlot j.toNatClampNeg (.int x), A.same W, by rw [sz_set, h1]; simp, by simpa using h2, fun i hi => ?_, fun i hi => ?_⟩
  · rw [List.length_set] at hi
    by_cases q : j.toNatClampNeg = i
    · subst q
      have : j.toNatClampNeg < c.slots.size := by rw [h1]; exact hi
      simp [Cell.setSlot, this, hi, List.getD_eq_getElem?_getD]
    · have := h3 i hi
      simp only [Cell.setSlot, Array.getElem?_setIfInBounds_ne q, this, List.getD_eq_getElem?_getD, List.getElem?_set_ne q]
  · rw [List.length_set] at hi
    by_cases q : j.toNatClampNeg = i
    · subst q; simpa [hi, List.getD_eq_getElem?_getD] using hf
    · have := h4 i hi
      simpa only [List.getD_eq_getElem?_getD, List.getElem?_set_ne q] using this
theorem IA.new {a : Addr} {ty : FieldType} {k : ClassId} {n : Int32} (A : Arr Z h a (newA k ty n) ty) (hn : ¬ n < 0) (hd : defaultValue ty = .int 0) (hf : fits ty (.int 0) = true) : IA Z h a ty (List.replicate n.toNatClampNeg 0) := by
  have := (back32 hn).2
  refine ⟨_, A, by simp [newA], by simpa using this, fun i hi => ?_, fun i hi => ?_⟩
  · have hi' : i < n.toNatClampNeg := by simpa using hi
    simp [newA, hd, hi', List.getD_eq_getElem?_getD]
  · have hi' : i < n.toNatClampNeg := by simpa using hi
    simpa [List.getD_eq_getElem?_getD, hi'] using hf
theorem o_newarr (S : St p l e R s m args below meth c Z own bytes ml n0 ret nm T h cells slots) {aty : ArrayType} {n : Int32} {cap : Nat} (w : (Jvm.Cond.arrayClass (newarray.typeOf aty)).before a0 Z = true) (hd : decode bytes pc = .ok (.newarray aty, 2)) (hq : pc + 2 = q) (hn0 : 0 ≤ n.toInt) (hcap : n.toInt ≤ cap) (hb8 : cap * 8 ≤ 536870912) (hc : cells + 1 ≤ R.cells) (hl : slots + cap ≤ R.slots)
    (k : ∀ T' h' a cA, St p l e R s m args below meth c Z own bytes ml n0 ret nm T' h' (cells + 1) (slots + cap) → a = h.size → n0 ≤ a → Ext h h' → Arr Z h' a (newA cA (newarray.typeOf aty) n) (newarray.typeOf aty) → Wp p e below PO T' (mkF m q L (.ref a :: st))) : Wp p e below PO T (mkF m pc L (.int n :: st)) := by
  have g0 := o_n0 S
  obtain ⟨g1, g2⟩ := o_nat hn0
  subst hq
  obtain ⟨locs, X, N, eT, hx, hZ, hown, hby, hml, hlk, hn, hrt, hnm⟩ := S
  obtain ⟨T', h', cA, X', e', E', A', st'⟩ := newP X hx hZ w eT (g := mkF m pc L (.int n :: st)) rfl (hb hby hd) rfl g1 (cap := cap) (by omega) hb8 hc hl
  exact o_to st' (k T' h' h.size cA ⟨_, X', N, e', hx, hZ, hown, hby, hml, hlk, hn, hrt, hnm⟩ rfl g0 E' A')
theorem o_iaload (S : St p l e R s m args below meth c Z own bytes ml n0 ret nm T h cells slots) {a : Addr} {j v : Int32} {xs : List Int32} (F : IA Z h a .int xs) (h0 : 0 ≤ j.toInt) (h1 : j.toInt < xs.length) (hv : xs.getD j.toNatClampNeg 0 = v) (hd : decode bytes pc = .ok (.iaload, 1)) (hq : pc + 1 = q) (k : Wp p e below PO T (mkF m q L (.int v :: st))) : Wp p e below PO T (mkF m pc L (.int j :: .ref a :: st)) := by
  subst hq hv
  obtain ⟨locs, X, N, eT, hx, hZ, hown, hby, hml, hlk, hn, hrt, hnm⟩ := S
  obtain ⟨cl, A, g1, g2, g3, g4⟩ := F
  have g5 := (o_nat h0).2
  exact o_to (X.iaload hx (j := j) (by rw [eT]; exact A.1) (State.isArrayOf_alike hZ.alike A.2.1) A.2.2 (o_inb h0 h1 g1) (g3 _ (by omega)) (g := mkF m pc L (.int j :: .ref a :: st)) rfl rfl (hb hby hd)) k
theorem o_baload (S : St p l e R s m args below meth c Z own bytes ml n0 ret nm T h cells slots) {a : Addr} {j v : Int32} {xs : List Int32} (F : IA Z h a .byte xs) (h0 : 0 ≤ j.toInt) (h1 : j.toInt < xs.length) (hv : xs.getD j.toNatClampNeg 0 = v) (hd : decode bytes pc = .ok (.baload, 1)) (hq : pc + 1 = q) (k : Wp p e below PO T (mkF m q L (.int v :: st))) : Wp p e below PO T (mkF m pc L (.int j :: .ref a :: st)) := by
  subst hq hv
  obtain ⟨locs, X, N, eT, hx, hZ, hown, hby, hml, hlk, hn, hrt, hnm⟩ := S
  obtain ⟨cl, A, g1, g2, g3, g4⟩ := F
  have g5 := (o_nat h0).2
  exact o_to (X.baloadBytes hx (j := j) (by rw [eT]; exact A.1) (State.isArrayOf_alike hZ.alike A.2.1) A.2.2 (o_inb h0 h1 g1) (g3 _ (by omega)) (g := mkF m pc L (.int j :: .ref a :: st)) rfl rfl (hb hby hd)) k
theorem o_iastore (S : St p l e R s m args below meth c Z own bytes ml n0 ret nm T h cells slots) {a : Addr} {j x y : Int32} {xs ys : List Int32} (F : IA Z h a .int xs) (h0 : 0 ≤ j.toInt) (h1 : j.toInt < xs.length) (ga : n0 ≤ a) (hx' : x = y) (hys : xs.set j.toNatClampNeg y = ys) (hd : decode bytes pc = .ok (.iastore, 1)) (hq : pc + 1 = q) (k : ∀ T' h', St p l e R s m args below meth c Z own bytes ml n0 ret nm T' h' cells slots → Wr h h' a j.toNatClampNeg (.int y) → IA Z h' a .int ys → Wp p e below PO T' (mkF m q L st)) : Wp p e below PO T (mkF m pc L (.int x :: .int j :: .ref a :: st)) := by
  subst hq hys hx'
  obtain ⟨locs, X, N, eT, hx, hZ, hown, hby, hml, hlk, hn, hrt, hnm⟩ := S
  have F' := F
  obtain ⟨cl, A, g1, g2, g3, g4⟩ := F
  obtain ⟨T', h', X', e', W', st'⟩ := stI X hx hZ eT A (j := j) (x := x) (o_inb h0 h1 g1) (g := mkF m pc L (.int x :: .int j :: .ref a :: st)) rfl rfl (hb hby hd)
  exact o_to st' (k T' h' ⟨_, X', Fr.snoc X' N ga, e', hx, hZ, hown, hby, hml, hlk, hn, hrt, hnm⟩ W' (F'.set W' rfl))
theorem o_bastore (S : St p l e R s m args below meth c Z own bytes ml n0 ret nm T h cells slots) {a : Addr} {j x y : Int32} {xs ys : List Int32} (F : IA Z h a .byte xs) (h0 : 0 ≤ j.toInt) (h1 : j.toInt < xs.length) (ga : n0 ≤ a) (hx' : x.toInt8.toInt32 = y) (hys : xs.set j.toNatClampNeg y = ys) (hd : decode bytes pc = .ok (.bastore, 1)) (hq : pc + 1 = q) (k : ∀ T' h', St p l e R s m args below meth c Z own bytes ml n0 ret nm T' h' cells slots → Wr h h' a j.toNatClampNeg (.int y) → IA Z h' a .byte ys → Wp p e below PO T' (mkF m q L st)) : Wp p e below PO T (mkF m pc L (.int x :: .int j :: .ref a :: st)) := by
  subst hq hys hx'
  obtain ⟨locs, X, N, eT, hx, hZ, hown, hby, hml, hlk, hn, hrt, hnm⟩ := S
  have F' := F
  obtain ⟨cl, A, g1, g2, g3, g4⟩ := F
  obtain ⟨T', h', X', e', W', st'⟩ := stB X hx hZ eT A (j := j) (x := x) (o_inb h0 h1 g1) (g := mkF m pc L (.int x :: .int j :: .ref a :: st)) rfl rfl (hb hby hd)
  exact o_to st' (k T' h' ⟨_, X', Fr.snoc X' N ga, e', hx, hZ, hown, hby, hml, hlk, hn, hrt, hnm⟩ W' (F'.set W' (fits_nar_byte x)))
theorem o_arraylength (S : St p l e R s m args below meth c Z own bytes ml n0 ret nm T h cells slots) {a : Addr} {ty : FieldType} {xs : List Int32} {z : Int32} (F : IA Z h a ty xs) (hz : Int32.ofNat xs.length = z) (hd : decode bytes pc = .ok (.arraylength, 1)) (hq : pc + 1 = q) (k : Wp p e below PO T (mkF m q L (.int z :: st))) : Wp p e below PO T (mkF m pc L (.ref a :: st)) := by
  subst hq hz
  obtain ⟨locs, X, N, eT, hx, hZ, hown, hby, hml, hlk, hn, hrt, hnm⟩ := S
  obtain ⟨cl, A, g1, g2, g3, g4⟩ := F
  exact o_to (X.arraylength hx (by rw [eT]; exact A.1) (State.isArrayOf_alike hZ.alike A.2.1) (g := mkF m pc L (.ref a :: st)) rfl rfl (hb hby hd)) (by rw [g1]; exact k)
theorem o_bid {x : Int32} (h1 : -128 ≤ x.toInt) (h2 : x.toInt < 128) : x.toInt8.toInt32 = x := by
  rw [← Int32.toInt_inj]; have := c_i2b x; omega
theorem o_cid {x : Int32} (h1 : 0 ≤ x.toInt) (h2 : x.toInt < 65536) : x.toUInt32.toUInt16.toUInt32.toInt32 = x := by
  rw [← Int32.toInt_inj]; have := c_i2c x; omega
theorem o_i2bb (x : Int32) : x.toInt8.toInt32.toInt8.toInt32 = x.toInt8.toInt32 := o_bid (c_i2b x).2.1 (c_i2b x).2.2
theorem o_narB {x : Int32} (h1 : -128 ≤ x.toInt) (h2 : x.toInt < 128) : narrow .byte (.int x) = .int x := by show Value.int _ = _; rw [o_bid h1 h2]
theorem o_narC {x : Int32} (h1 : 0 ≤ x.toInt) (h2 : x.toInt < 65536) : narrow .char (.int x) = .int x := by show Value.int _ = _; rw [o_cid h1 h2]
theorem o_narZ {x : Int32} (h : x = 0 ∨ x = 1) : narrow .boolean (.int x) = .int x := by rcases h with rfl | rfl <;> rfl
theorem o_split64 (x M m : Int64) (h1 : M ||| m = -1) (h0 : M &&& m = 0) : (x &&& M) ||| (x &&& m) = x ∧ (x &&& M) &&& m = 0 := by
  refine ⟨?_, by rw [Int64.and_assoc, h0, Int64.and_zero]⟩
  have q : x &&& (M ||| m) = (x &&& M) ||| (x &&& m) := Int64.toBitVec_inj.1 BitVec.and_or_distrib_left
  rw [← q, h1, Int64.and_neg_one]
theorem o_ne32 {x y : Int32} (h : x.toInt ≠ y.toInt) : x ≠ y := fun q => h (by rw [q])
theorem o_eq32 {x y : Int32} (h : x.toInt = y.toInt) : x = y := Int32.toInt_inj.mp h
theorem o_newarrE (S : St p l e R s m args below meth c Z own bytes ml n0 ret nm T h cells slots) {aty : ArrayType} {n : Int32} {cap : Nat} {ad : String} (w : (Jvm.Cond.arrayClass (newarray.typeOf aty)).before a0 Z = true) (had : "[" ++ (newarray.typeOf aty).toString = ad) (hd : decode bytes pc = .ok (.newarray aty, 2)) (hq : pc + 2 = q) (hn0 : 0 ≤ n.toInt) (hcap : n.toInt ≤ cap) (hb8 : cap * 8 ≤ 536870912) (hc : cells + 1 ≤ R.cells) (hl : slots + cap ≤ R.slots)
    (k : ∀ T' h' a cA, St p l e R s m args below meth c Z own bytes ml n0 ret nm T' h' (cells + 1) (slots + cap) → a = h.size → n0 ≤ a → Ext h h' → Arr Z h' a (newA cA (newarray.typeOf aty) n) (newarray.typeOf aty) → Exa Z h' a ad → Wp p e below PO T' (mkF m q L (.ref a :: st))) : Wp p e below PO T (mkF m pc L (.int n :: st)) := by
  have g0 := o_n0 S
  obtain ⟨g1, g2⟩ := o_nat hn0
  subst hq
  obtain ⟨locs, X, N, eT, hx, hZ, hown, hby, hml, hlk, hn, hrt, hnm⟩ := S
  obtain ⟨T', h', cA, X', e', E', A', EE, st'⟩ := newPE X hx hZ w eT (g := mkF m pc L (.int n :: st)) rfl (hb hby hd) rfl g1 (cap := cap) (by omega) hb8 hc hl had
  exact o_to st' (k T' h' h.size cA ⟨_, X', N, e', hx, hZ, hown, hby, hml, hlk, hn, hrt, hnm⟩ rfl g0 E' A' EE)
theorem IA.fitC {a : Addr} {ty : FieldType} {xs : List Int32} {c : Cell} (A : Arr Z h a c ty) (h1 : c.slots.size = xs.length) (h3 : ∀ i, i < xs.length → c.slots[i]? = some (.int (xs.getD i 0))) (h4 : ∀ i, i < xs.length → fits ty (.int (xs.getD i 0)) = true) : FitC Z c := fitC_of A fun i hi v hv => by
  rw [h3 i (by omega)] at hv; cases hv; exact h4 i (by omega)
theorem o_clone (S : St p l e R s m args below meth c Z own bytes ml n0 ret nm T h cells slots) {i W cap : Nat} {ad : String} {a : Addr} {ty : FieldType} {xs : List Int32} (w1 : (Jvm.Cond.methodLink own i ⟨ad, "clone", "()Ljava/lang/Object;"⟩).before a0 Z = true) (w2 : (Jvm.Cond.sameMethod ad "java/lang/Object" "clone" "()Ljava/lang/Object;").before a0 Z = true) (w3 : (Jvm.Cond.native ⟨"java/lang/Object", "clone", "()Ljava/lang/Object;"⟩).before a0 Z = true) (w4 : (Jvm.Cond.instanceMethod ⟨"java/lang/Object", "clone", "()Ljava/lang/Object;"⟩).before a0 Z = true) (w5 : (Jvm.Cond.selects ad ⟨ad, "clone", "()Ljava/lang/Object;"⟩ ⟨"java/lang/Object", "clone", "()Ljava/lang/Object;"⟩).before a0 Z = true) (w6 : (Jvm.Cond.castable ad "java/lang/Cloneable").before a0 Z = true)
    (F : IA Z h a ty xs) (E : Exa Z h a ad) (hL : L.size = ml) (hd : decode bytes pc = .ok (.invokevirtual i, 3)) (hq : pc + 3 = q) (hf : 1 ≤ R.frames) (hW : (st.map fun v => v.category).sum ≤ W) (hl : W + 14 ≤ R.locals) (hcap : xs.length ≤ cap) (hc : cells + 1 ≤ R.cells) (hs : slots + cap ≤ R.slots)
    (k : ∀ T' h' b, St p l e R s m args below meth c Z own bytes ml n0 ret nm T' h' (cells + 1) (slots + cap) → b = h.size → n0 ≤ b → Ext h h' → IA Z h' b ty xs → Exa Z h' b ad → Wp p e below PO T' (mkF m q L (.ref b :: st))) : Wp p e below PO T (mkF m pc L (.ref a :: st)) := by
  have g0 := o_n0 S
  subst hq
  obtain ⟨locs, X, N, eT, hx, hZ, hown, hby, hml, hlk, hn, hrt, hnm⟩ := S
  obtain ⟨cl, A, h1, h2, h3, h4⟩ := F
  obtain ⟨T', h', X', e', Ex, A', E', st'⟩ := cloneA X hx hZ hown w1 w2 w3 w4 w5 w6 eT A E (IA.fitC A h1 h3 h4) (g := mkF m pc L (.ref a :: st)) rfl (by rw [hml]; exact hL) rfl (hb hby hd) hf (W := W) (cap := cap) (by show 2 * 0 + _ ≤ _; omega) hl (by omega) hc hs
  exact o_to st' (k T' h' h.size ⟨_, X', N, e', hx, hZ, hown, hby, hml, hlk, hn, hrt, hnm⟩ rfl g0 Ex ⟨_, A', h1, h2, h3, h4⟩ E')
theorem o_castY (S : St p l e R s m args below meth c Z own bytes ml n0 ret nm T h cells slots) {i : Nat} {K : String} {a : Addr} (w : (Jvm.Cond.classLink own i K).before a0 Z = true) (F : Ins Z h a K true) (hd : decode bytes pc = .ok (.checkcast i, 3)) (hq : pc + 3 = q) (k : ∀ T', St p l e R s m args below meth c Z own bytes ml n0 ret nm T' h cells slots → Wp p e below PO T' (mkF m q L (.ref a :: st))) : Wp p e below PO T (mkF m pc L (.ref a :: st)) := by
  subst hq
  obtain ⟨locs, X, N, eT, hx, hZ, hown, hby, hml, hlk, hn, hrt, hnm⟩ := S
  obtain ⟨T', X', e', st'⟩ := castY X hx hZ hown w eT F (g := mkF m pc L (.ref a :: st)) rfl rfl (hb hby hd)
  exact o_to st' (k T' ⟨_, X', N, e', hx, hZ, hown, hby, hml, hlk, hn, hrt, hnm⟩)
theorem o_instY (S : St p l e R s m args below meth c Z own bytes ml n0 ret nm T h cells slots) {i : Nat} {K : String} {a : Addr} (w : (Jvm.Cond.classLink own i K).before a0 Z = true) (F : Ins Z h a K true) (hd : decode bytes pc = .ok (.instanceof i, 3)) (hq : pc + 3 = q) (k : ∀ T', St p l e R s m args below meth c Z own bytes ml n0 ret nm T' h cells slots → Wp p e below PO T' (mkF m q L (.int 1 :: st))) : Wp p e below PO T (mkF m pc L (.ref a :: st)) := by
  subst hq
  obtain ⟨locs, X, N, eT, hx, hZ, hown, hby, hml, hlk, hn, hrt, hnm⟩ := S
  obtain ⟨T', X', e', st'⟩ := instY X hx hZ hown w eT F (g := mkF m pc L (.ref a :: st)) rfl rfl (hb hby hd)
  exact o_to st' (k T' ⟨_, X', N, e', hx, hZ, hown, hby, hml, hlk, hn, hrt, hnm⟩)
theorem o_instN (S : St p l e R s m args below meth c Z own bytes ml n0 ret nm T h cells slots) {i : Nat} {K C : String} {a : Addr} (w : (Jvm.Cond.classLink own i K).before a0 Z = true) (E : Exa Z h a C) (F : ∃ c t, Z.vm.findClass C = some c ∧ Z.vm.findClass K = some t ∧ Z.vm.assignable c t = false) (hd : decode bytes pc = .ok (.instanceof i, 3)) (hq : pc + 3 = q) (k : ∀ T', St p l e R s m args below meth c Z own bytes ml n0 ret nm T' h cells slots → Wp p e below PO T' (mkF m q L (.int 0 :: st))) : Wp p e below PO T (mkF m pc L (.ref a :: st)) := by
  subst hq
  obtain ⟨locs, X, N, eT, hx, hZ, hown, hby, hml, hlk, hn, hrt, hnm⟩ := S
  obtain ⟨T', X', e', st'⟩ := instNo X hx hZ hown w eT E F (g := mkF m pc L (.ref a :: st)) rfl rfl (hb hby hd)
  exact o_to st' (k T' ⟨_, X', N, e', hx, hZ, hown, hby, hml, hlk, hn, hrt, hnm⟩)
theorem o_instNull (S : St p l e R s m args below meth c Z own bytes ml n0 ret nm T h cells slots) {i : Nat} (hd : decode bytes pc = .ok (.instanceof i, 3)) (hq : pc + 3 = q) (k : Wp p e below PO T (mkF m q L (.int 0 :: st))) : Wp p e below PO T (mkF m pc L (.null :: st)) := by
  subst hq
  obtain ⟨locs, X, N, eT, hx, hZ, hown, hby, hml, hlk, hn, hrt, hnm⟩ := S
  exact o_to (X.instanceofNull hx (g := mkF m pc L (.null :: st)) rfl rfl (hb hby hd)) k
theorem o_getS (S : St p l e R s m args below meth c Z own bytes ml n0 ret nm T h cells slots) {i : Nat} {O n d : String} {v : Value} (w : (Jvm.Cond.fieldLink own i O n d).before a0 Z = true) (F : Sta Z h O n d v) (hd : decode bytes pc = .ok (.getstatic i, 3)) (hq : pc + 3 = q) (k : ∀ T', St p l e R s m args below meth c Z own bytes ml n0 ret nm T' h cells slots → Wp p e below PO T' (mkF m q L (v :: st))) : Wp p e below PO T (mkF m pc L st) := by
  subst hq
  obtain ⟨locs, X, N, eT, hx, hZ, hown, hby, hml, hlk, hn, hrt, hnm⟩ := S
  obtain ⟨T', X', e', st'⟩ := getS X hx hZ (host := "") hown w Via.refl eT F (g := mkF m pc L st) rfl (hb hby hd)
  exact o_to st' (k T' ⟨_, X', N, e', hx, hZ, hown, hby, hml, hlk, hn, hrt, hnm⟩)
theorem o_aaloadA (S : St p l e R s m args below meth c Z own bytes ml n0 ret nm T h cells slots) {a : Addr} {cl : Cell} {ty : FieldType} {j : Int32} {v : Value} (A : Arr Z h a cl ty) (hty : ty.isReference = true) (hin : ¬ (j < 0 ∨ cl.slots.size ≤ j.toNatClampNeg)) (hv : cl.slots[j.toNatClampNeg]? = some v) (hd : decode bytes pc = .ok (.aaload, 1)) (hq : pc + 1 = q) (k : Wp p e below PO T (mkF m q L (v :: st))) : Wp p e below PO T (mkF m pc L (.int j :: .ref a :: st)) := by
  subst hq
  obtain ⟨locs, X, N, eT, hx, hZ, hown, hby, hml, hlk, hn, hrt, hnm⟩ := S
  exact o_to (X.aaload hx (j := j) (by rw [eT]; exact A.1) (State.isArrayOf_alike hZ.alike A.2.1) hty A.2.2 hin hv (g := mkF m pc L (.int j :: .ref a :: st)) rfl rfl (hb hby hd)) k
/-! arrays of references -/
def RA (Z : State) (h : Heap) (a : Addr) (C : String) (vs : List Value) : Prop := ∃ c : Cell, Arr Z h a c (.object C) ∧ Ovr Z c.cls C ∧ c.slots.size = vs.length ∧ vs.length < 2147483648 ∧ ∀ i, i < vs.length → c.slots[i]? = some (vs.getD i .null)
theorem RA.lt {a : Addr} {C : String} {vs : List Value} (F : RA Z h a C vs) : a < h.size := by obtain ⟨c, A, -⟩ := F; exact A.lt
theorem RA.ext {h' : Heap} {a : Addr} {C : String} {vs : List Value} (F : RA Z h a C vs) (E : Ext h h') : RA Z h' a C vs := by obtain ⟨c, A, r⟩ := F; exact ⟨c, A.ext E, r⟩
theorem RA.other {h' : Heap} {a b : Addr} {sl : Nat} {v : Value} {C : String} {vs : List Value} (F : RA Z h b C vs) (W : Wr h h' a sl v) (q : b ≠ a) : RA Z h' b C vs := by obtain ⟨c, A, r⟩ := F; exact ⟨c, A.other W q, r⟩
theorem RA.keep {h' : Heap} {a : Addr} {ws : List Addr} {C : String} {vs : List Value} (F : RA Z h a C vs) (K : Keep h h' ws) (q : a ∉ ws) : RA Z h' a C vs := by obtain ⟨c, A, r⟩ := F; exact ⟨c, ⟨K.2.1 a c A.1 q, A.2⟩, r⟩
theorem RA.set {h' : Heap} {a : Addr} {C : String} {vs : List Value} {j : Int32} {x : Value} (F : RA Z h a C vs) (W : Wr h h' a j.toNatClampNeg x) : RA Z h' a C (vs.set j.toNatClampNeg x) := by
  obtain ⟨c, A, O, h1, h2, h3⟩ := F
  refine ⟨c.setSlot j.toNatClampNeg x, A.same W, O, by rw [sz_set, h1]; simp, by simpa using h2, fun i hi => ?_⟩
  rw [List.length_set] at hi
  by_cases q : j.toNatClampNeg = i
  · subst q
    have : j.toNatClampNeg < c.slots.size := by rw [h1]; exact hi
    simp [Cell.setSlot, this, hi, List.getD_eq_getElem?_getD]
  · have := h3 i hi
    simp only [Cell.setSlot, Array.getElem?_setIfInBounds_ne q, this, List.getD_eq_getElem?_getD, List.getElem?_set_ne q]
theorem o_anewarr (S : St p l e R s m args below meth c Z own bytes ml n0 ret nm T h cells slots) {i : Nat} {C : String} {n : Int32} {cap : Nat} (w1 : (Jvm.Cond.classLink own i C).before a0 Z = true) (w2 : (Jvm.Cond.arrayOver (.object C)).before a0 Z = true) (hd : decode bytes pc = .ok (.anewarray i, 3)) (hq : pc + 3 = q) (hn0 : 0 ≤ n.toInt) (hcap : n.toInt ≤ cap) (hb8 : cap * 8 ≤ 536870912) (hc : cells + 1 ≤ R.cells) (hl : slots + cap ≤ R.slots)
    (k : ∀ T' h' a, St p l e R s m args below meth c Z own bytes ml n0 ret nm T' h' (cells + 1) (slots + cap) → a = h.size → n0 ≤ a → Ext h h' → RA Z h' a C (List.replicate n.toNatClampNeg .null) → Wp p e below PO T' (mkF m q L (.ref a :: st))) : Wp p e below PO T (mkF m pc L (.int n :: st)) := by
  have g0 := o_n0 S
  obtain ⟨g1, g2⟩ := o_nat hn0
  subst hq
  obtain ⟨locs, X, N, eT, hx, hZ, hown, hby, hml, hlk, hn, hrt, hnm⟩ := S
  obtain ⟨T', h', cA, X', e', E', A', O', st'⟩ := newR X hx hZ hown w1 w2 eT (g := mkF m pc L (.int n :: st)) rfl (hb hby hd) rfl g1 (cap := cap) (by omega) hb8 hc hl
  refine o_to st' (k T' h' h.size ⟨_, X', N, e', hx, hZ, hown, hby, hml, hlk, hn, hrt, hnm⟩ rfl g0 E' ⟨_, A', O', by simp [newA], by have := (back32 g1).2; simpa using this, fun i hi => ?_⟩)
  have hi' : i < n.toNatClampNeg := by simpa using hi
  simp [newA, defaultValue, hi', List.getD_eq_getElem?_getD]
theorem o_aaload (S : St p l e R s m args below meth c Z own bytes ml n0 ret nm T h cells slots) {a : Addr} {C : String} {j : Int32} {v : Value} {vs : List Value} (F : RA Z h a C vs) (h0 : 0 ≤ j.toInt) (h1 : j.toInt < vs.length) (hv : vs.getD j.toNatClampNeg .null = v) (hd : decode bytes pc = .ok (.aaload, 1)) (hq : pc + 1 = q) (k : Wp p e below PO T (mkF m q L (v :: st))) : Wp p e below PO T (mkF m pc L (.int j :: .ref a :: st)) := by
  obtain ⟨cl, A, O, g1, g2, g3⟩ := F
  subst hv
  have g5 := (o_nat h0).2
  exact o_aaloadA S A rfl (o_inb h0 h1 g1) (g3 _ (by omega)) hd hq k
theorem o_aastore (S : St p l e R s m args below meth c Z own bytes ml n0 ret nm T h cells slots) {a : Addr} {C : String} {j : Int32} {x : Value} {vs ys : List Value} (F : RA Z h a C vs) (h0 : 0 ≤ j.toInt) (h1 : j.toInt < vs.length) (ga : n0 ≤ a) (hst : x = .null ∨ ∃ y, x = .ref y ∧ Ins Z h y C true) (hys : vs.set j.toNatClampNeg x = ys) (hd : decode bytes pc = .ok (.aastore, 1)) (hq : pc + 1 = q) (k : ∀ T' h', St p l e R s m args below meth c Z own bytes ml n0 ret nm T' h' cells slots → Wr h h' a j.toNatClampNeg x → RA Z h' a C ys → Wp p e below PO T' (mkF m q L st)) : Wp p e below PO T (mkF m pc L (x :: .int j :: .ref a :: st)) := by
  subst hq hys
  obtain ⟨locs, X, N, eT, hx, hZ, hown, hby, hml, hlk, hn, hrt, hnm⟩ := S
  have F' := F
  obtain ⟨cl, A, O, g1, g2, g3⟩ := F
  have hS : Sto Z h a x := by
    rcases hst with rfl | ⟨y, rfl, I⟩
    · exact Or.inl rfl
    · exact Sto.of A O I
  obtain ⟨T', h', X', e', W', st'⟩ := stR X hx hZ eT A (j := j) (o_inb h0 h1 g1) rfl hS (g := mkF m pc L (x :: .int j :: .ref a :: st)) rfl rfl (hb hby hd)
  exact o_to st' (k T' h' ⟨_, X', Fr.snoc X' N ga, e', hx, hZ, hown, hby, hml, hlk, hn, hrt, hnm⟩ W' (F'.set W'))
theorem o_acmp (S : St p l e R s m args below meth c Z own bytes ml n0 ret nm T h cells slots) {cd : ACond} {x y : Value} {o : Int} {same : Bool} (h1 : x.isRef = true) (h2 : y.isRef = true) (hs : decide (x = y) = same) (hd : decode bytes pc = .ok (.if_acmp cd o, 3)) (ho : 0 ≤ (pc : Int) + o) (hp : q = if acV cd same = true then ((pc : Int) + o).toNat else pc + 3) (k : Wp p e below PO T (mkF m q L st)) : Wp p e below PO T (mkF m pc L (y :: x :: st)) := by
  obtain ⟨locs, X, N, eT, hx, hZ, hown, hby, hml, hlk, hn, hrt, hnm⟩ := S
  exact o_to (fun t r => Jvm.RoadKit.acmp (g := mkF m pc L (y :: x :: st)) X hx rfl h1 h2 rfl (hb hby hd) rfl hs ho hp r) k
end OwnPre
def par (i : Fin 19) : Option (Fin 19) := [none, some 0, some 1, some 2, some 3, some 4, some 0, some 6, some 7, some 8, some 9, some 10, some 11, some 0, some 13, some 0, some 0, some 0, some 0].getD i.1 none
def parV (cs : Fin 19 → Addr) (i : Fin 19) : Value := match par i with | none => .null | some j => .ref (cs j)
def upF : Nat → Fin 19 → Fin 19 → Int32
  | 0, i, j => if i = j then 1 else 0
  | k + 1, i, j => if i = j then 1 else match par i with | none => 0 | some q => upF k q j
def dep : Nat → Fin 19 → Bool
  | 0, i => (par i).isNone
  | k + 1, i => match par i with | none => true | some q => dep k q
theorem own_dep : ∀ i : Fin 19, dep 19 i = true := by decide +kernel
theorem d1_0 : decode prog_15_method_5_code 0 = .ok (.aload_n 0, 1) := by decide +kernel
theorem d1_1 : decode prog_15_method_5_code 1 = .ok (.astore_n 2, 1) := by decide +kernel
theorem d1_2 : decode prog_15_method_5_code 2 = .ok (.aload_n 2, 1) := by decide +kernel
theorem d1_3 : decode prog_15_method_5_code 3 = .ok (.ifnull 16, 3) := by decide +kernel
theorem d1_6 : decode prog_15_method_5_code 6 = .ok (.aload_n 2, 1) := by decide +kernel
theorem d1_7 : decode prog_15_method_5_code 7 = .ok (.aload_n 1, 1) := by decide +kernel
theorem d1_8 : decode prog_15_method_5_code 8 = .ok (.if_acmp .eq 11, 3) := by decide +kernel
theorem d1_11 : decode prog_15_method_5_code 11 = .ok (.aload_n 2, 1) := by decide +kernel
theorem d1_12 : decode prog_15_method_5_code 12 = .ok (.getfield 80, 3) := by decide +kernel
theorem d1_15 : decode prog_15_method_5_code 15 = .ok (.astore_n 2, 1) := by decide +kernel
theorem d1_16 : decode prog_15_method_5_code 16 = .ok (.goto (-14), 3) := by decide +kernel
theorem d1_19 : decode prog_15_method_5_code 19 = .ok (.aload_n 2, 1) := by decide +kernel
theorem d1_20 : decode prog_15_method_5_code 20 = .ok (.aload_n 1, 1) := by decide +kernel
theorem d1_21 : decode prog_15_method_5_code 21 = .ok (.if_acmp .ne 7, 3) := by decide +kernel
theorem d1_24 : decode prog_15_method_5_code 24 = .ok (.iconst 1, 1) := by decide +kernel
theorem d1_25 : decode prog_15_method_5_code 25 = .ok (.goto 4, 3) := by decide +kernel
theorem d1_28 : decode prog_15_method_5_code 28 = .ok (.iconst 0, 1) := by decide +kernel
theorem d1_29 : decode prog_15_method_5_code 29 = .ok (.ireturn, 1) := by decide +kernel
def rm_1 : Room := ({ frames := 0, cells := 0, slots := 0, locals := 0 } : Room)
theorem pn_1 : plainFor (⟨"com/example/dioscuri/dioscuri/el/ElDatatype", "isWithin", "(Lcom/example/dioscuri/dioscuri/el/ElDatatype;)Z"⟩ : MethodName) = true := plainFor_of_name (by first | (simp [plainName, overriddenIn]; done) | (simp [plainName, overriddenIn, x]; done) | decide +kernel)
theorem ef_1 (r0 : Addr) (r1 : Addr) (m : MethodId) : entryFrame m #[(.ref r0), (.ref r1)] 3 = mkF m 0 #[.val (.ref r0), .val (.ref r1), .unset] [] := by first | (simp [entryFrame, mkF, argsToLocals, Value.category]; done) | rfl
set_option maxRecDepth 65536 in
set_option maxHeartbeats 40000000 in
theorem lp_wi (l : Launch) (Z : State) (a0 : Array Value) (hw : ∀ d ∈ tables_1, d.before a0 Z = true) (r0 : Addr) (r1 : Addr) (cs : Fin 19 → Addr) (i : Fin 19) (j : Fin 19) (h0 : Heap) (n0 : Nat) (hn : n0 ≤ h0.size) (E0 : Exa Z h0 r0 "com/example/dioscuri/dioscuri/el/ElDatatype") (hi : r0 = cs i) (hj : cs j = r1) (hinj : ∀ a b, cs a = cs b → a = b) (hF0 : ∀ a, Fld Z h0 (cs a) "com/example/dioscuri/dioscuri/el/ElDatatype" "within" "Lcom/example/dioscuri/dioscuri/el/ElDatatype;" (parV cs a)) {p : Program} {e : Env} {s : State} {m : MethodId} {below : List Frame} {meth : Method} {c : Code} :
    ∀ (k : Nat) (T : State) (ii : Fin 19) (S : St p l e rm_1 s m #[(.ref r0), (.ref r1)] below meth c Z "com/example/dioscuri/dioscuri/el/ElDatatype" prog_15_method_5_code 3 n0 (some .boolean) "isWithin" T h0 0 0) (hdep : dep k ii = true) (hres : upF 19 i j = upF k ii j), Wp p e below (Po s n0 rm_1 (Qp (some (.int (upF 19 i j))) h0)) T (mkF m 2 #[.val (.ref r0), .val (.ref r1), .val (.ref (cs ii))] []) := by
  intro k
  induction k with
  | zero =>
    intro T ii S hdep hres
    refine o_aloadN S rfl rfl d1_2 rfl (q := 3) ?_
    refine o_ifnullN S d1_3 rfl (q := 6) ?_
    refine o_aloadN S rfl rfl d1_6 rfl (q := 7) ?_
    refine o_aloadN S rfl rfl d1_7 rfl (q := 8) ?_
    by_cases hij : ii = j
    · skip
      refine o_acmp S (q := 19) (same := true) rfl rfl (decide_eq_true (by rw [hij, hj])) d1_8 (by decide) (by decide) ?_
      refine o_aloadN S rfl rfl d1_19 rfl (q := 20) ?_
      refine o_aloadN S rfl rfl d1_20 rfl (q := 21) ?_
      refine o_acmp S (q := 24) (same := true) rfl rfl (decide_eq_true (by rw [hij, hj])) d1_21 (by decide) (by decide) ?_
      refine o_iconst S (z := 1) rfl d1_24 rfl (q := 25) ?_
      refine o_goto S d1_25 (by decide) (q := 29) (by decide) ?_
      refine o_retN S (t := .boolean) rfl (by simp) d1_29 (by decide) (by decide) rfl ?_
      exact ⟨o_si (by rw [hres, upF, if_pos hij]), rfl⟩
    · skip
      refine o_acmp S (q := 11) (same := false) rfl rfl (decide_eq_false (fun q => hij (hinj _ _ ((Value.ref.inj q).trans hj.symm)))) d1_8 (by decide) (by decide) ?_
      refine o_aloadN S rfl rfl d1_11 rfl (q := 12) ?_
      have hF := hF0 ii
      unfold parV at hF
      cases hp : par ii with
      | none =>
        rw [hp] at hF
        refine o_getF S (o_wd (i := 53) hw rfl) Via.refl hF d1_12 rfl (q := 15) (fun T S => ?_)
        refine o_astoreN S (L' := #[.val (.ref r0), .val (.ref r1), .val .null]) rfl rfl d1_15 rfl (q := 16) ?_
        refine o_goto S d1_16 (by decide) (q := 2) (by decide) ?_
        refine o_aloadN S rfl rfl d1_2 rfl (q := 3) ?_
        refine o_ifnullY S d1_3 (by decide) (q := 19) (by decide) ?_
        refine o_aloadN S rfl rfl d1_19 rfl (q := 20) ?_
        refine o_aloadN S rfl rfl d1_20 rfl (q := 21) ?_
        refine o_acmp S (q := 28) (same := false) rfl rfl (decide_eq_false nofun) d1_21 (by decide) (by decide) ?_
        refine o_iconst S (z := 0) rfl d1_28 rfl (q := 29) ?_
        refine o_retN S (t := .boolean) rfl (by simp) d1_29 (by decide) (by decide) rfl ?_
        exact ⟨o_si (by rw [hres, upF, if_neg hij]), rfl⟩
      | some q =>
        rw [hp] at hF
        refine o_getF S (o_wd (i := 53) hw rfl) Via.refl hF d1_12 rfl (q := 15) (fun T S => ?_)
        refine o_astoreN S (L' := #[.val (.ref r0), .val (.ref r1), .val (.ref (cs q))]) rfl rfl d1_15 rfl (q := 16) ?_
        refine o_goto S d1_16 (by decide) (q := 2) (by decide) ?_
        exact absurd hdep (by simp [dep, hp])
  | succ k ih =>
    intro T ii S hdep hres
    refine o_aloadN S rfl rfl d1_2 rfl (q := 3) ?_
    refine o_ifnullN S d1_3 rfl (q := 6) ?_
    refine o_aloadN S rfl rfl d1_6 rfl (q := 7) ?_
    refine o_aloadN S rfl rfl d1_7 rfl (q := 8) ?_
    by_cases hij : ii = j
    · skip
      refine o_acmp S (q := 19) (same := true) rfl rfl (decide_eq_true (by rw [hij, hj])) d1_8 (by decide) (by decide) ?_
      refine o_aloadN S rfl rfl d1_19 rfl (q := 20) ?_
      refine o_aloadN S rfl rfl d1_20 rfl (q := 21) ?_
      refine o_acmp S (q := 24) (same := true) rfl rfl (decide_eq_true (by rw [hij, hj])) d1_21 (by decide) (by decide) ?_
      refine o_iconst S (z := 1) rfl d1_24 rfl (q := 25) ?_
      refine o_goto S d1_25 (by decide) (q := 29) (by decide) ?_
      refine o_retN S (t := .boolean) rfl (by simp) d1_29 (by decide) (by decide) rfl ?_
      exact ⟨o_si (by rw [hres, upF, if_pos hij]), rfl⟩
    · skip
      refine o_acmp S (q := 11) (same := false) rfl rfl (decide_eq_false (fun q => hij (hinj _ _ ((Value.ref.inj q).trans hj.symm)))) d1_8 (by decide) (by decide) ?_
      refine o_aloadN S rfl rfl d1_11 rfl (q := 12) ?_
      have hF := hF0 ii
      unfold parV at hF
      cases hp : par ii with
      | none =>
        rw [hp] at hF
        refine o_getF S (o_wd (i := 53) hw rfl) Via.refl hF d1_12 rfl (q := 15) (fun T S => ?_)
        refine o_astoreN S (L' := #[.val (.ref r0), .val (.ref r1), .val .null]) rfl rfl d1_15 rfl (q := 16) ?_
        refine o_goto S d1_16 (by decide) (q := 2) (by decide) ?_
        refine o_aloadN S rfl rfl d1_2 rfl (q := 3) ?_
        refine o_ifnullY S d1_3 (by decide) (q := 19) (by decide) ?_
        refine o_aloadN S rfl rfl d1_19 rfl (q := 20) ?_
        refine o_aloadN S rfl rfl d1_20 rfl (q := 21) ?_
        refine o_acmp S (q := 28) (same := false) rfl rfl (decide_eq_false nofun) d1_21 (by decide) (by decide) ?_
        refine o_iconst S (z := 0) rfl d1_28 rfl (q := 29) ?_
        refine o_retN S (t := .boolean) rfl (by simp) d1_29 (by decide) (by decide) rfl ?_
        exact ⟨o_si (by rw [hres, upF, if_neg hij, hp]), rfl⟩
      | some q =>
        rw [hp] at hF
        refine o_getF S (o_wd (i := 53) hw rfl) Via.refl hF d1_12 rfl (q := 15) (fun T S => ?_)
        refine o_astoreN S (L' := #[.val (.ref r0), .val (.ref r1), .val (.ref (cs q))]) rfl rfl d1_15 rfl (q := 16) ?_
        refine o_goto S d1_16 (by decide) (q := 2) (by decide) ?_
        exact ih T q S (by simpa [dep, hp] using hdep) (by rw [hres, upF, if_neg hij, hp])
set_option maxRecDepth 65536 in
set_option maxHeartbeats 40000000 in
theorem ct_1 (l : Launch) (Z : State) (a0 : Array Value) (hw : ∀ d ∈ tables_1, d.before a0 Z = true) (r0 : Addr) (r1 : Addr) (cs : Fin 19 → Addr) (i : Fin 19) (j : Fin 19) (h0 : Heap) (n0 : Nat) (hn : n0 ≤ h0.size) (E0 : Exa Z h0 r0 "com/example/dioscuri/dioscuri/el/ElDatatype") (hi : r0 = cs i) (hj : cs j = r1) (hinj : ∀ a b, cs a = cs b → a = b) (hF0 : ∀ a, Fld Z h0 (cs a) "com/example/dioscuri/dioscuri/el/ElDatatype" "within" "Lcom/example/dioscuri/dioscuri/el/ElDatatype;" (parV cs a)) : Ct l (⟨"com/example/dioscuri/dioscuri/el/ElDatatype", "isWithin", "(Lcom/example/dioscuri/dioscuri/el/ElDatatype;)Z"⟩ : MethodName) prog_15_method_5_code 3 (some .boolean) [] rm_1 Z h0 n0 #[(.ref r0), (.ref r1)] (Qp (some (.int (upF 19 i j))) h0) := by
  refine o_body pn_1 hn (ef_1 r0 r1) ?_
  intro p e s m below meth c T S
  have hd19 : dep 19 i = true := own_dep i
  refine o_aloadN S rfl rfl d1_0 rfl (q := 1) ?_
  refine o_astoreN S (L' := #[.val (.ref r0), .val (.ref r1), .val (.ref r0)]) rfl rfl d1_1 rfl (q := 2) ?_
  have q := lp_wi l Z a0 hw r0 r1 cs i j h0 n0 hn E0 hi hj hinj hF0 19 T i S hd19 rfl
  rw [← hi] at q
  exact q
theorem own_vs (cs : Fin 19 → Addr) (i : Fin 19) : ([.ref (cs 0), .ref (cs 1), .ref (cs 2), .ref (cs 3), .ref (cs 4), .ref (cs 5), .ref (cs 6), .ref (cs 7), .ref (cs 8), .ref (cs 9), .ref (cs 10), .ref (cs 11), .ref (cs 12), .ref (cs 13), .ref (cs 14), .ref (cs 15), .ref (cs 16), .ref (cs 17), .ref (cs 18)] : List Value).getD (Int32.ofNat i.1).toNatClampNeg .null = .ref (cs i) := by
  have q : ∀ i : Fin 19, (Int32.ofNat i.1).toNatClampNeg = i.1 := by decide +kernel
  rw [q i]
  match i with
  | ⟨0, _⟩ => rfl
  | ⟨1, _⟩ => rfl
  | ⟨2, _⟩ => rfl
  | ⟨3, _⟩ => rfl
  | ⟨4, _⟩ => rfl
  | ⟨5, _⟩ => rfl
  | ⟨6, _⟩ => rfl
  | ⟨7, _⟩ => rfl
  | ⟨8, _⟩ => rfl
  | ⟨9, _⟩ => rfl
  | ⟨10, _⟩ => rfl
  | ⟨11, _⟩ => rfl
  | ⟨12, _⟩ => rfl
  | ⟨13, _⟩ => rfl
  | ⟨14, _⟩ => rfl
  | ⟨15, _⟩ => rfl
  | ⟨16, _⟩ => rfl
  | ⟨17, _⟩ => rfl
  | ⟨18, _⟩ => rfl
  | ⟨_ + 19, hx⟩ => exact absurd hx (by omega)
theorem own_ofN {h : Int32} {N : Nat} (h0 : 0 ≤ h.toInt) (h1 : h.toInt < N) : ∃ i : Fin N, h = Int32.ofNat i.1 := by
  obtain ⟨g1, g2⟩ := o_nat h0
  exact ⟨⟨h.toNatClampNeg, by omega⟩, (back32 g1).1.symm⟩
theorem own_m {x : Int32} : 0 ≤ (x &&& (2147483647 : Int32)).toInt := by
  have h1 : (x &&& (2147483647 : Int32)).toInt = x.toInt % 2147483648 := c_mask x 2147483647 31 (by decide) (by decide)
  omega
theorem own_rem {x y : Int32} (n : Int) (hy : y.toInt = n) (hn : 0 < n) (h : 0 ≤ x.toInt) : 0 ≤ (x % y).toInt ∧ (x % y).toInt < n := by
  have q := (c_irem x y n hy).1 h
  have := Int.emod_nonneg x.toInt (b := n) (by omega); have := Int.emod_lt_of_pos x.toInt hn
  omega
def csF (c0 c1 c2 c3 c4 c5 c6 c7 c8 c9 c10 c11 c12 c13 c14 c15 c16 c17 c18 : Addr) (i : Fin 19) : Addr := match i with | ⟨0, _⟩ => c0 | ⟨1, _⟩ => c1 | ⟨2, _⟩ => c2 | ⟨3, _⟩ => c3 | ⟨4, _⟩ => c4 | ⟨5, _⟩ => c5 | ⟨6, _⟩ => c6 | ⟨7, _⟩ => c7 | ⟨8, _⟩ => c8 | ⟨9, _⟩ => c9 | ⟨10, _⟩ => c10 | ⟨11, _⟩ => c11 | ⟨12, _⟩ => c12 | ⟨13, _⟩ => c13 | ⟨14, _⟩ => c14 | ⟨15, _⟩ => c15 | ⟨16, _⟩ => c16 | ⟨17, _⟩ => c17 | ⟨18, _⟩ => c18 | ⟨_ + 19, hx⟩ => absurd hx (by omega)
theorem own_ordne (a b : Fin 19) (z : ¬ a = b) : Value.int (Int32.ofNat a.1) ≠ Value.int (Int32.ofNat b.1) := by
  have q : ∀ a b : Fin 19, ¬ a = b → Int32.ofNat a.1 ≠ Int32.ofNat b.1 := by decide +kernel
  exact fun h => q a b z (Value.int.inj h)
theorem eqv_r {Z : State} {args : Array Value} {X F : Term} {y : Addr} (hF : F.eval args Z none [] Z = some (.ref y)) (h : (Jvm.Cond.eq X F).value args Z none Z [] = some true) : X.eval args Z none [] Z = some (.ref y) := by
  obtain ⟨x, y', e1, e2, k1, k2⟩ := cmp_v (Or.inl h)
  cases hF.symm.trans e2
  have hx : x.isRef = true := by
    have k3 : (Value.ref y).isRef = true ∧ x.isRef = true := k2
    exact k3.2
  rw [eq_R e1 hF hx rfl] at h
  have : x = .ref y := by simpa using h
  rw [← this]; exact e1
theorem plain_1 (ia ib : Fin 19) : upF 19 ia ib = (if ((((([(1 : Int32), (3 : Int32), (7 : Int32), (15 : Int32), (31 : Int32), (63 : Int32), (65 : Int32), (193 : Int32), (449 : Int32), (961 : Int32), (1985 : Int32), (4033 : Int32), (8129 : Int32), (8193 : Int32), (24577 : Int32), (32769 : Int32), (65537 : Int32), (131073 : Int32), (262145 : Int32)] : List Int32).getD (Int32.ofNat ia.1).toNatClampNeg 0).toUInt32 >>> ((Int32.ofNat ib.1) &&& 31).toUInt32).toInt32) &&& (1 : Int32)) = (0 : Int32) then (0 : Int32) else (1 : Int32)) := by
  have q : ∀ a b : Fin 19, upF 19 a b = (if ((((([(1 : Int32), (3 : Int32), (7 : Int32), (15 : Int32), (31 : Int32), (63 : Int32), (65 : Int32), (193 : Int32), (449 : Int32), (961 : Int32), (1985 : Int32), (4033 : Int32), (8129 : Int32), (8193 : Int32), (24577 : Int32), (32769 : Int32), (65537 : Int32), (131073 : Int32), (262145 : Int32)] : List Int32).getD (Int32.ofNat a.1).toNatClampNeg 0).toUInt32 >>> ((Int32.ofNat b.1) &&& 31).toUInt32).toInt32) &&& (1 : Int32)) = (0 : Int32) then (0 : Int32) else (1 : Int32)) := by decide +kernel
  exact q ia ib
theorem pd_0 : parseMethodDescriptor "(Lcom/example/dioscuri/dioscuri/el/ElDatatype;)Z" = some ⟨[(.object "com/example/dioscuri/dioscuri/el/ElDatatype")], some .boolean⟩ := by decide +kernel
def Q0 : Option Value → Heap → Prop := fun v _ => v = some (.int 1)
theorem pn_0 : plainFor x = true := plainFor_of_name (by first | (simp [plainName, overriddenIn]; done) | (simp [plainName, overriddenIn, x]; done) | decide +kernel)
theorem ef_0 (p0 : Int32) (p1 : Int32) (m : MethodId) : entryFrame m #[(.int p0), (.int p1)] maxLocals = mkF m 0 #[.val (.int p0), .val (.int p1), .unset, .unset, .unset, .unset, .unset] [] := by first | (simp [entryFrame, mkF, argsToLocals, Value.category, maxLocals]; done) | rfl
set_option maxRecDepth 65536 in
set_option maxHeartbeats 40000000 in
theorem ct_0 (l : Launch) (Z : State) (a0 : Array Value) (hw : ∀ d ∈ tables_1, d.before a0 Z = true) (ws : List Jvm.Cond) (p0 : Int32) (p1 : Int32) (cs : Fin 19 → Addr) (h0 : Heap) (n0 : Nat) (hn : n0 ≤ h0.size) (O : Old Z n0 h0) (SC0 : Sta Z Z.heap "com/example/dioscuri/dioscuri/el/ElDatatype" "LITERAL" "Lcom/example/dioscuri/dioscuri/el/ElDatatype;" (.ref (cs 0))) (SC1 : Sta Z Z.heap "com/example/dioscuri/dioscuri/el/ElDatatype" "REAL" "Lcom/example/dioscuri/dioscuri/el/ElDatatype;" (.ref (cs 1))) (SC2 : Sta Z Z.heap "com/example/dioscuri/dioscuri/el/ElDatatype" "RATIONAL" "Lcom/example/dioscuri/dioscuri/el/ElDatatype;" (.ref (cs 2))) (SC3 : Sta Z Z.heap "com/example/dioscuri/dioscuri/el/ElDatatype" "DECIMAL" "Lcom/example/dioscuri/dioscuri/el/ElDatatype;" (.ref (cs 3))) (SC4 : Sta Z Z.heap "com/example/dioscuri/dioscuri/el/ElDatatype" "INTEGER" "Lcom/example/dioscuri/dioscuri/el/ElDatatype;" (.ref (cs 4))) (SC5 : Sta Z Z.heap "com/example/dioscuri/dioscuri/el/ElDatatype" "NON_NEGATIVE_INTEGER" "Lcom/example/dioscuri/dioscuri/el/ElDatatype;" (.ref (cs 5))) (SC6 : Sta Z Z.heap "com/example/dioscuri/dioscuri/el/ElDatatype" "PLAIN_LITERAL" "Lcom/example/dioscuri/dioscuri/el/ElDatatype;" (.ref (cs 6))) (SC7 : Sta Z Z.heap "com/example/dioscuri/dioscuri/el/ElDatatype" "STRING" "Lcom/example/dioscuri/dioscuri/el/ElDatatype;" (.ref (cs 7))) (SC8 : Sta Z Z.heap "com/example/dioscuri/dioscuri/el/ElDatatype" "NORMALIZED_STRING" "Lcom/example/dioscuri/dioscuri/el/ElDatatype;" (.ref (cs 8))) (SC9 : Sta Z Z.heap "com/example/dioscuri/dioscuri/el/ElDatatype" "TOKEN" "Lcom/example/dioscuri/dioscuri/el/ElDatatype;" (.ref (cs 9))) (SC10 : Sta Z Z.heap "com/example/dioscuri/dioscuri/el/ElDatatype" "NMTOKEN" "Lcom/example/dioscuri/dioscuri/el/ElDatatype;" (.ref (cs 10))) (SC11 : Sta Z Z.heap "com/example/dioscuri/dioscuri/el/ElDatatype" "NAME" "Lcom/example/dioscuri/dioscuri/el/ElDatatype;" (.ref (cs 11))) (SC12 : Sta Z Z.heap "com/example/dioscuri/dioscuri/el/ElDatatype" "NCNAME" "Lcom/example/dioscuri/dioscuri/el/ElDatatype;" (.ref (cs 12))) (SC13 : Sta Z Z.heap "com/example/dioscuri/dioscuri/el/ElDatatype" "DATE_TIME" "Lcom/example/dioscuri/dioscuri/el/ElDatatype;" (.ref (cs 13))) (SC14 : Sta Z Z.heap "com/example/dioscuri/dioscuri/el/ElDatatype" "DATE_TIME_STAMP" "Lcom/example/dioscuri/dioscuri/el/ElDatatype;" (.ref (cs 14))) (SC15 : Sta Z Z.heap "com/example/dioscuri/dioscuri/el/ElDatatype" "HEX_BINARY" "Lcom/example/dioscuri/dioscuri/el/ElDatatype;" (.ref (cs 15))) (SC16 : Sta Z Z.heap "com/example/dioscuri/dioscuri/el/ElDatatype" "BASE64_BINARY" "Lcom/example/dioscuri/dioscuri/el/ElDatatype;" (.ref (cs 16))) (SC17 : Sta Z Z.heap "com/example/dioscuri/dioscuri/el/ElDatatype" "ANY_URI" "Lcom/example/dioscuri/dioscuri/el/ElDatatype;" (.ref (cs 17))) (SC18 : Sta Z Z.heap "com/example/dioscuri/dioscuri/el/ElDatatype" "XML_LITERAL" "Lcom/example/dioscuri/dioscuri/el/ElDatatype;" (.ref (cs 18))) (hE : ∀ a, Exa Z Z.heap (cs a) "com/example/dioscuri/dioscuri/el/ElDatatype") (hF : ∀ a, Fld Z Z.heap (cs a) "com/example/dioscuri/dioscuri/el/ElDatatype" "within" "Lcom/example/dioscuri/dioscuri/el/ElDatatype;" (parV cs a)) (hinj : ∀ a b, cs a = cs b → a = b) : Ct l x code maxLocals ret ws room_1 Z h0 n0 #[(.int p0), (.int p1)] (Q0) := by
  refine o_body pn_0 hn (ef_0 p0 p1) ?_
  intro p e s m below meth c T S
  refine o_bipush S (z := 19) rfl at_0 rfl (q := 2) ?_
  refine o_anewarr S (cap := 19) (o_wd (i := 0) hw rfl) (o_wd (i := 1) hw rfl) at_2 rfl (q := 5) (by decide) (by decide) (by decide) (by decide) (by decide) (fun T h2 b1 S ha_b1 g_b1 X A_b1 => ?_)
  have O := O.ext X
  have A_b1 : RA Z h2 b1 "com/example/dioscuri/dioscuri/el/ElDatatype" ([.null, .null, .null, .null, .null, .null, .null, .null, .null, .null, .null, .null, .null, .null, .null, .null, .null, .null, .null]) := A_b1
  refine o_dup S rfl at_5 rfl (q := 6) ?_
  refine o_iconst S (z := 0) rfl at_6 rfl (q := 7) ?_
  refine o_getS S (o_wd (i := 2) hw rfl) (Sta.ext O.2 SC0) at_7 rfl (q := 10) (fun T S => ?_)
  refine o_aastore S (ys := [(.ref (cs 0)), .null, .null, .null, .null, .null, .null, .null, .null, .null, .null, .null, .null, .null, .null, .null, .null, .null, .null]) A_b1 (by decide) (by show (0 : Int) < 19; decide) g_b1 (Or.inr ⟨_, rfl, Ins.self (Exa.ext O.2 (hE 0))⟩) rfl at_10 rfl (q := 11) (fun T h3 S W A_b1 => ?_)
  have O := O.wr W g_b1
  refine o_dup S rfl at_11 rfl (q := 12) ?_
  refine o_iconst S (z := 1) rfl at_12 rfl (q := 13) ?_
  refine o_getS S (o_wd (i := 6) hw rfl) (Sta.ext O.2 SC1) at_13 rfl (q := 16) (fun T S => ?_)
  refine o_aastore S (ys := [(.ref (cs 0)), (.ref (cs 1)), .null, .null, .null, .null, .null, .null, .null, .null, .null, .null, .null, .null, .null, .null, .null, .null, .null]) A_b1 (by decide) (by show (1 : Int) < 19; decide) g_b1 (Or.inr ⟨_, rfl, Ins.self (Exa.ext O.2 (hE 1))⟩) rfl at_16 rfl (q := 17) (fun T h4 S W A_b1 => ?_)
  have O := O.wr W g_b1
  refine o_dup S rfl at_17 rfl (q := 18) ?_
  refine o_iconst S (z := 2) rfl at_18 rfl (q := 19) ?_
  refine o_getS S (o_wd (i := 8) hw rfl) (Sta.ext O.2 SC2) at_19 rfl (q := 22) (fun T S => ?_)
  refine o_aastore S (ys := [(.ref (cs 0)), (.ref (cs 1)), (.ref (cs 2)), .null, .null, .null, .null, .null, .null, .null, .null, .null, .null, .null, .null, .null, .null, .null, .null]) A_b1 (by decide) (by show (2 : Int) < 19; decide) g_b1 (Or.inr ⟨_, rfl, Ins.self (Exa.ext O.2 (hE 2))⟩) rfl at_22 rfl (q := 23) (fun T h5 S W A_b1 => ?_)
  have O := O.wr W g_b1
  refine o_dup S rfl at_23 rfl (q := 24) ?_
  refine o_iconst S (z := 3) rfl at_24 rfl (q := 25) ?_
  refine o_getS S (o_wd (i := 10) hw rfl) (Sta.ext O.2 SC3) at_25 rfl (q := 28) (fun T S => ?_)
  refine o_aastore S (ys := [(.ref (cs 0)), (.ref (cs 1)), (.ref (cs 2)), (.ref (cs 3)), .null, .null, .null, .null, .null, .null, .null, .null, .null, .null, .null, .null, .null, .null, .null]) A_b1 (by decide) (by show (3 : Int) < 19; decide) g_b1 (Or.inr ⟨_, rfl, Ins.self (Exa.ext O.2 (hE 3))⟩) rfl at_28 rfl (q := 29) (fun T h6 S W A_b1 => ?_)
  have O := O.wr W g_b1
  refine o_dup S rfl at_29 rfl (q := 30) ?_
  refine o_iconst S (z := 4) rfl at_30 rfl (q := 31) ?_
  refine o_getS S (o_wd (i := 12) hw rfl) (Sta.ext O.2 SC4) at_31 rfl (q := 34) (fun T S => ?_)
  refine o_aastore S (ys := [(.ref (cs 0)), (.ref (cs 1)), (.ref (cs 2)), (.ref (cs 3)), (.ref (cs 4)), .null, .null, .null, .null, .null, .null, .null, .null, .null, .null, .null, .null, .null, .null]) A_b1 (by decide) (by show (4 : Int) < 19; decide) g_b1 (Or.inr ⟨_, rfl, Ins.self (Exa.ext O.2 (hE 4))⟩) rfl at_34 rfl (q := 35) (fun T h7 S W A_b1 => ?_)
  have O := O.wr W g_b1
  refine o_dup S rfl at_35 rfl (q := 36) ?_
  refine o_iconst S (z := 5) rfl at_36 rfl (q := 37) ?_
  refine o_getS S (o_wd (i := 14) hw rfl) (Sta.ext O.2 SC5) at_37 rfl (q := 40) (fun T S => ?_)
  refine o_aastore S (ys := [(.ref (cs 0)), (.ref (cs 1)), (.ref (cs 2)), (.ref (cs 3)), (.ref (cs 4)), (.ref (cs 5)), .null, .null, .null, .null, .null, .null, .null, .null, .null, .null, .null, .null, .null]) A_b1 (by decide) (by show (5 : Int) < 19; decide) g_b1 (Or.inr ⟨_, rfl, Ins.self (Exa.ext O.2 (hE 5))⟩) rfl at_40 rfl (q := 41) (fun T h8 S W A_b1 => ?_)
  have O := O.wr W g_b1
  refine o_dup S rfl at_41 rfl (q := 42) ?_
  refine o_bipush S (z := 6) rfl at_42 rfl (q := 44) ?_
  refine o_getS S (o_wd (i := 16) hw rfl) (Sta.ext O.2 SC6) at_44 rfl (q := 47) (fun T S => ?_)
  refine o_aastore S (ys := [(.ref (cs 0)), (.ref (cs 1)), (.ref (cs 2)), (.ref (cs 3)), (.ref (cs 4)), (.ref (cs 5)), (.ref (cs 6)), .null, .null, .null, .null, .null, .null, .null, .null, .null, .null, .null, .null]) A_b1 (by decide) (by show (6 : Int) < 19; decide) g_b1 (Or.inr ⟨_, rfl, Ins.self (Exa.ext O.2 (hE 6))⟩) rfl at_47 rfl (q := 48) (fun T h9 S W A_b1 => ?_)
  have O := O.wr W g_b1
  refine o_dup S rfl at_48 rfl (q := 49) ?_
  refine o_bipush S (z := 7) rfl at_49 rfl (q := 51) ?_
  refine o_getS S (o_wd (i := 18) hw rfl) (Sta.ext O.2 SC7) at_51 rfl (q := 54) (fun T S => ?_)
  refine o_aastore S (ys := [(.ref (cs 0)), (.ref (cs 1)), (.ref (cs 2)), (.ref (cs 3)), (.ref (cs 4)), (.ref (cs 5)), (.ref (cs 6)), (.ref (cs 7)), .null, .null, .null, .null, .null, .null, .null, .null, .null, .null, .null]) A_b1 (by decide) (by show (7 : Int) < 19; decide) g_b1 (Or.inr ⟨_, rfl, Ins.self (Exa.ext O.2 (hE 7))⟩) rfl at_54 rfl (q := 55) (fun T h10 S W A_b1 => ?_)
  have O := O.wr W g_b1
  refine o_dup S rfl at_55 rfl (q := 56) ?_
  refine o_bipush S (z := 8) rfl at_56 rfl (q := 58) ?_
  refine o_getS S (o_wd (i := 20) hw rfl) (Sta.ext O.2 SC8) at_58 rfl (q := 61) (fun T S => ?_)
  refine o_aastore S (ys := [(.ref (cs 0)), (.ref (cs 1)), (.ref (cs 2)), (.ref (cs 3)), (.ref (cs 4)), (.ref (cs 5)), (.ref (cs 6)), (.ref (cs 7)), (.ref (cs 8)), .null, .null, .null, .null, .null, .null, .null, .null, .null, .null]) A_b1 (by decide) (by show (8 : Int) < 19; decide) g_b1 (Or.inr ⟨_, rfl, Ins.self (Exa.ext O.2 (hE 8))⟩) rfl at_61 rfl (q := 62) (fun T h11 S W A_b1 => ?_)
  have O := O.wr W g_b1
  refine o_dup S rfl at_62 rfl (q := 63) ?_
  refine o_bipush S (z := 9) rfl at_63 rfl (q := 65) ?_
  refine o_getS S (o_wd (i := 22) hw rfl) (Sta.ext O.2 SC9) at_65 rfl (q := 68) (fun T S => ?_)
  refine o_aastore S (ys := [(.ref (cs 0)), (.ref (cs 1)), (.ref (cs 2)), (.ref (cs 3)), (.ref (cs 4)), (.ref (cs 5)), (.ref (cs 6)), (.ref (cs 7)), (.ref (cs 8)), (.ref (cs 9)), .null, .null, .null, .null, .null, .null, .null, .null, .null]) A_b1 (by decide) (by show (9 : Int) < 19; decide) g_b1 (Or.inr ⟨_, rfl, Ins.self (Exa.ext O.2 (hE 9))⟩) rfl at_68 rfl (q := 69) (fun T h12 S W A_b1 => ?_)
  have O := O.wr W g_b1
  refine o_dup S rfl at_69 rfl (q := 70) ?_
  refine o_bipush S (z := 10) rfl at_70 rfl (q := 72) ?_
  refine o_getS S (o_wd (i := 24) hw rfl) (Sta.ext O.2 SC10) at_72 rfl (q := 75) (fun T S => ?_)
  refine o_aastore S (ys := [(.ref (cs 0)), (.ref (cs 1)), (.ref (cs 2)), (.ref (cs 3)), (.ref (cs 4)), (.ref (cs 5)), (.ref (cs 6)), (.ref (cs 7)), (.ref (cs 8)), (.ref (cs 9)), (.ref (cs 10)), .null, .null, .null, .null, .null, .null, .null, .null]) A_b1 (by decide) (by show (10 : Int) < 19; decide) g_b1 (Or.inr ⟨_, rfl, Ins.self (Exa.ext O.2 (hE 10))⟩) rfl at_75 rfl (q := 76) (fun T h13 S W A_b1 => ?_)
  have O := O.wr W g_b1
  refine o_dup S rfl at_76 rfl (q := 77) ?_
  refine o_bipush S (z := 11) rfl at_77 rfl (q := 79) ?_
  refine o_getS S (o_wd (i := 26) hw rfl) (Sta.ext O.2 SC11) at_79 rfl (q := 82) (fun T S => ?_)
  refine o_aastore S (ys := [(.ref (cs 0)), (.ref (cs 1)), (.ref (cs 2)), (.ref (cs 3)), (.ref (cs 4)), (.ref (cs 5)), (.ref (cs 6)), (.ref (cs 7)), (.ref (cs 8)), (.ref (cs 9)), (.ref (cs 10)), (.ref (cs 11)), .null, .null, .null, .null, .null, .null, .null]) A_b1 (by decide) (by show (11 : Int) < 19; decide) g_b1 (Or.inr ⟨_, rfl, Ins.self (Exa.ext O.2 (hE 11))⟩) rfl at_82 rfl (q := 83) (fun T h14 S W A_b1 => ?_)
  have O := O.wr W g_b1
  refine o_dup S rfl at_83 rfl (q := 84) ?_
  refine o_bipush S (z := 12) rfl at_84 rfl (q := 86) ?_
  refine o_getS S (o_wd (i := 28) hw rfl) (Sta.ext O.2 SC12) at_86 rfl (q := 89) (fun T S => ?_)
  refine o_aastore S (ys := [(.ref (cs 0)), (.ref (cs 1)), (.ref (cs 2)), (.ref (cs 3)), (.ref (cs 4)), (.ref (cs 5)), (.ref (cs 6)), (.ref (cs 7)), (.ref (cs 8)), (.ref (cs 9)), (.ref (cs 10)), (.ref (cs 11)), (.ref (cs 12)), .null, .null, .null, .null, .null, .null]) A_b1 (by decide) (by show (12 : Int) < 19; decide) g_b1 (Or.inr ⟨_, rfl, Ins.self (Exa.ext O.2 (hE 12))⟩) rfl at_89 rfl (q := 90) (fun T h15 S W A_b1 => ?_)
  have O := O.wr W g_b1
  refine o_dup S rfl at_90 rfl (q := 91) ?_
  refine o_bipush S (z := 13) rfl at_91 rfl (q := 93) ?_
  refine o_getS S (o_wd (i := 30) hw rfl) (Sta.ext O.2 SC13) at_93 rfl (q := 96) (fun T S => ?_)
  refine o_aastore S (ys := [(.ref (cs 0)), (.ref (cs 1)), (.ref (cs 2)), (.ref (cs 3)), (.ref (cs 4)), (.ref (cs 5)), (.ref (cs 6)), (.ref (cs 7)), (.ref (cs 8)), (.ref (cs 9)), (.ref (cs 10)), (.ref (cs 11)), (.ref (cs 12)), (.ref (cs 13)), .null, .null, .null, .null, .null]) A_b1 (by decide) (by show (13 : Int) < 19; decide) g_b1 (Or.inr ⟨_, rfl, Ins.self (Exa.ext O.2 (hE 13))⟩) rfl at_96 rfl (q := 97) (fun T h16 S W A_b1 => ?_)
  have O := O.wr W g_b1
  refine o_dup S rfl at_97 rfl (q := 98) ?_
  refine o_bipush S (z := 14) rfl at_98 rfl (q := 100) ?_
  refine o_getS S (o_wd (i := 32) hw rfl) (Sta.ext O.2 SC14) at_100 rfl (q := 103) (fun T S => ?_)
  refine o_aastore S (ys := [(.ref (cs 0)), (.ref (cs 1)), (.ref (cs 2)), (.ref (cs 3)), (.ref (cs 4)), (.ref (cs 5)), (.ref (cs 6)), (.ref (cs 7)), (.ref (cs 8)), (.ref (cs 9)), (.ref (cs 10)), (.ref (cs 11)), (.ref (cs 12)), (.ref (cs 13)), (.ref (cs 14)), .null, .null, .null, .null]) A_b1 (by decide) (by show (14 : Int) < 19; decide) g_b1 (Or.inr ⟨_, rfl, Ins.self (Exa.ext O.2 (hE 14))⟩) rfl at_103 rfl (q := 104) (fun T h17 S W A_b1 => ?_)
  have O := O.wr W g_b1
  refine o_dup S rfl at_104 rfl (q := 105) ?_
  refine o_bipush S (z := 15) rfl at_105 rfl (q := 107) ?_
  refine o_getS S (o_wd (i := 34) hw rfl) (Sta.ext O.2 SC15) at_107 rfl (q := 110) (fun T S => ?_)
  refine o_aastore S (ys := [(.ref (cs 0)), (.ref (cs 1)), (.ref (cs 2)), (.ref (cs 3)), (.ref (cs 4)), (.ref (cs 5)), (.ref (cs 6)), (.ref (cs 7)), (.ref (cs 8)), (.ref (cs 9)), (.ref (cs 10)), (.ref (cs 11)), (.ref (cs 12)), (.ref (cs 13)), (.ref (cs 14)), (.ref (cs 15)), .null, .null, .null]) A_b1 (by decide) (by show (15 : Int) < 19; decide) g_b1 (Or.inr ⟨_, rfl, Ins.self (Exa.ext O.2 (hE 15))⟩) rfl at_110 rfl (q := 111) (fun T h18 S W A_b1 => ?_)
  have O := O.wr W g_b1
  refine o_dup S rfl at_111 rfl (q := 112) ?_
  refine o_bipush S (z := 16) rfl at_112 rfl (q := 114) ?_
  refine o_getS S (o_wd (i := 36) hw rfl) (Sta.ext O.2 SC16) at_114 rfl (q := 117) (fun T S => ?_)
  refine o_aastore S (ys := [(.ref (cs 0)), (.ref (cs 1)), (.ref (cs 2)), (.ref (cs 3)), (.ref (cs 4)), (.ref (cs 5)), (.ref (cs 6)), (.ref (cs 7)), (.ref (cs 8)), (.ref (cs 9)), (.ref (cs 10)), (.ref (cs 11)), (.ref (cs 12)), (.ref (cs 13)), (.ref (cs 14)), (.ref (cs 15)), (.ref (cs 16)), .null, .null]) A_b1 (by decide) (by show (16 : Int) < 19; decide) g_b1 (Or.inr ⟨_, rfl, Ins.self (Exa.ext O.2 (hE 16))⟩) rfl at_117 rfl (q := 118) (fun T h19 S W A_b1 => ?_)
  have O := O.wr W g_b1
  refine o_dup S rfl at_118 rfl (q := 119) ?_
  refine o_bipush S (z := 17) rfl at_119 rfl (q := 121) ?_
  refine o_getS S (o_wd (i := 38) hw rfl) (Sta.ext O.2 SC17) at_121 rfl (q := 124) (fun T S => ?_)
  refine o_aastore S (ys := [(.ref (cs 0)), (.ref (cs 1)), (.ref (cs 2)), (.ref (cs 3)), (.ref (cs 4)), (.ref (cs 5)), (.ref (cs 6)), (.ref (cs 7)), (.ref (cs 8)), (.ref (cs 9)), (.ref (cs 10)), (.ref (cs 11)), (.ref (cs 12)), (.ref (cs 13)), (.ref (cs 14)), (.ref (cs 15)), (.ref (cs 16)), (.ref (cs 17)), .null]) A_b1 (by decide) (by show (17 : Int) < 19; decide) g_b1 (Or.inr ⟨_, rfl, Ins.self (Exa.ext O.2 (hE 17))⟩) rfl at_124 rfl (q := 125) (fun T h20 S W A_b1 => ?_)
  have O := O.wr W g_b1
  refine o_dup S rfl at_125 rfl (q := 126) ?_
  refine o_bipush S (z := 18) rfl at_126 rfl (q := 128) ?_
  refine o_getS S (o_wd (i := 40) hw rfl) (Sta.ext O.2 SC18) at_128 rfl (q := 131) (fun T S => ?_)
  refine o_aastore S (ys := [(.ref (cs 0)), (.ref (cs 1)), (.ref (cs 2)), (.ref (cs 3)), (.ref (cs 4)), (.ref (cs 5)), (.ref (cs 6)), (.ref (cs 7)), (.ref (cs 8)), (.ref (cs 9)), (.ref (cs 10)), (.ref (cs 11)), (.ref (cs 12)), (.ref (cs 13)), (.ref (cs 14)), (.ref (cs 15)), (.ref (cs 16)), (.ref (cs 17)), (.ref (cs 18))]) A_b1 (by decide) (by show (18 : Int) < 19; decide) g_b1 (Or.inr ⟨_, rfl, Ins.self (Exa.ext O.2 (hE 18))⟩) rfl at_131 rfl (q := 132) (fun T h21 S W A_b1 => ?_)
  have O := O.wr W g_b1
  refine o_astoreN S (L' := #[.val (.int p0), .val (.int p1), .val (.ref b1), .unset, .unset, .unset, .unset]) rfl rfl at_132 rfl (q := 133) ?_
  refine o_bipush S (z := 19) rfl at_133 rfl (q := 135) ?_
  refine o_newarr S (cap := 19) (o_wd (i := 42) hw rfl) at_135 rfl (q := 137) (by decide) (by decide) (by decide) (by decide) (by decide) (fun T h23 b22 kA_b22 S ha_b22 g_b22 X A0 => ?_)
  have ne_b1_b22 : b1 ≠ b22 := by rw [ha_b22]; exact Nat.ne_of_lt A_b1.lt
  have O := O.ext X
  have A_b1 := A_b1.ext X
  have A_b22 : IA Z h23 b22 .int ([0, 0, 0, 0, 0, 0, 0, 0, 0, 0, 0, 0, 0, 0, 0, 0, 0, 0, 0]) := IA.new A0 (by decide) rfl rfl
  refine o_dup S rfl at_137 rfl (q := 138) ?_
  refine o_iconst S (z := 0) rfl at_138 rfl (q := 139) ?_
  refine o_iconst S (z := 1) rfl at_139 rfl (q := 140) ?_
  refine o_iastore S (y := (1 : Int32)) (ys := [(1 : Int32), 0, 0, 0, 0, 0, 0, 0, 0, 0, 0, 0, 0, 0, 0, 0, 0, 0, 0]) A_b22 (by decide) (by show (0 : Int) < 19; decide) g_b22 rfl rfl at_140 rfl (q := 141) (fun T h24 S W A_b22 => ?_)
  have O := O.wr W g_b22
  have A_b1 := A_b1.other W ne_b1_b22
  refine o_dup S rfl at_141 rfl (q := 142) ?_
  refine o_iconst S (z := 1) rfl at_142 rfl (q := 143) ?_
  refine o_iconst S (z := 3) rfl at_143 rfl (q := 144) ?_
  refine o_iastore S (y := (3 : Int32)) (ys := [(1 : Int32), (3 : Int32), 0, 0, 0, 0, 0, 0, 0, 0, 0, 0, 0, 0, 0, 0, 0, 0, 0]) A_b22 (by decide) (by show (1 : Int) < 19; decide) g_b22 rfl rfl at_144 rfl (q := 145) (fun T h25 S W A_b22 => ?_)
  have O := O.wr W g_b22
  have A_b1 := A_b1.other W ne_b1_b22
  refine o_dup S rfl at_145 rfl (q := 146) ?_
  refine o_iconst S (z := 2) rfl at_146 rfl (q := 147) ?_
  refine o_bipush S (z := 7) rfl at_147 rfl (q := 149) ?_
  refine o_iastore S (y := (7 : Int32)) (ys := [(1 : Int32), (3 : Int32), (7 : Int32), 0, 0, 0, 0, 0, 0, 0, 0, 0, 0, 0, 0, 0, 0, 0, 0]) A_b22 (by decide) (by show (2 : Int) < 19; decide) g_b22 rfl rfl at_149 rfl (q := 150) (fun T h26 S W A_b22 => ?_)
  have O := O.wr W g_b22
  have A_b1 := A_b1.other W ne_b1_b22
  refine o_dup S rfl at_150 rfl (q := 151) ?_
  refine o_iconst S (z := 3) rfl at_151 rfl (q := 152) ?_
  refine o_bipush S (z := 15) rfl at_152 rfl (q := 154) ?_
  refine o_iastore S (y := (15 : Int32)) (ys := [(1 : Int32), (3 : Int32), (7 : Int32), (15 : Int32), 0, 0, 0, 0, 0, 0, 0, 0, 0, 0, 0, 0, 0, 0, 0]) A_b22 (by decide) (by show (3 : Int) < 19; decide) g_b22 rfl rfl at_154 rfl (q := 155) (fun T h27 S W A_b22 => ?_)
  have O := O.wr W g_b22
  have A_b1 := A_b1.other W ne_b1_b22
  refine o_dup S rfl at_155 rfl (q := 156) ?_
  refine o_iconst S (z := 4) rfl at_156 rfl (q := 157) ?_
  refine o_bipush S (z := 31) rfl at_157 rfl (q := 159) ?_
  refine o_iastore S (y := (31 : Int32)) (ys := [(1 : Int32), (3 : Int32), (7 : Int32), (15 : Int32), (31 : Int32), 0, 0, 0, 0, 0, 0, 0, 0, 0, 0, 0, 0, 0, 0]) A_b22 (by decide) (by show (4 : Int) < 19; decide) g_b22 rfl rfl at_159 rfl (q := 160) (fun T h28 S W A_b22 => ?_)
  have O := O.wr W g_b22
  have A_b1 := A_b1.other W ne_b1_b22
  refine o_dup S rfl at_160 rfl (q := 161) ?_
  refine o_iconst S (z := 5) rfl at_161 rfl (q := 162) ?_
  refine o_bipush S (z := 63) rfl at_162 rfl (q := 164) ?_
  refine o_iastore S (y := (63 : Int32)) (ys := [(1 : Int32), (3 : Int32), (7 : Int32), (15 : Int32), (31 : Int32), (63 : Int32), 0, 0, 0, 0, 0, 0, 0, 0, 0, 0, 0, 0, 0]) A_b22 (by decide) (by show (5 : Int) < 19; decide) g_b22 rfl rfl at_164 rfl (q := 165) (fun T h29 S W A_b22 => ?_)
  have O := O.wr W g_b22
  have A_b1 := A_b1.other W ne_b1_b22
  refine o_dup S rfl at_165 rfl (q := 166) ?_
  refine o_bipush S (z := 6) rfl at_166 rfl (q := 168) ?_
  refine o_bipush S (z := 65) rfl at_168 rfl (q := 170) ?_
  refine o_iastore S (y := (65 : Int32)) (ys := [(1 : Int32), (3 : Int32), (7 : Int32), (15 : Int32), (31 : Int32), (63 : Int32), (65 : Int32), 0, 0, 0, 0, 0, 0, 0, 0, 0, 0, 0, 0]) A_b22 (by decide) (by show (6 : Int) < 19; decide) g_b22 rfl rfl at_170 rfl (q := 171) (fun T h30 S W A_b22 => ?_)
  have O := O.wr W g_b22
  have A_b1 := A_b1.other W ne_b1_b22
  refine o_dup S rfl at_171 rfl (q := 172) ?_
  refine o_bipush S (z := 7) rfl at_172 rfl (q := 174) ?_
  refine o_sipush S (z := 193) rfl at_174 rfl (q := 177) ?_
  refine o_iastore S (y := (193 : Int32)) (ys := [(1 : Int32), (3 : Int32), (7 : Int32), (15 : Int32), (31 : Int32), (63 : Int32), (65 : Int32), (193 : Int32), 0, 0, 0, 0, 0, 0, 0, 0, 0, 0, 0]) A_b22 (by decide) (by show (7 : Int) < 19; decide) g_b22 rfl rfl at_177 rfl (q := 178) (fun T h31 S W A_b22 => ?_)
  have O := O.wr W g_b22
  have A_b1 := A_b1.other W ne_b1_b22
  refine o_dup S rfl at_178 rfl (q := 179) ?_
  refine o_bipush S (z := 8) rfl at_179 rfl (q := 181) ?_
  refine o_sipush S (z := 449) rfl at_181 rfl (q := 184) ?_
  refine o_iastore S (y := (449 : Int32)) (ys := [(1 : Int32), (3 : Int32), (7 : Int32), (15 : Int32), (31 : Int32), (63 : Int32), (65 : Int32), (193 : Int32), (449 : Int32), 0, 0, 0, 0, 0, 0, 0, 0, 0, 0]) A_b22 (by decide) (by show (8 : Int) < 19; decide) g_b22 rfl rfl at_184 rfl (q := 185) (fun T h32 S W A_b22 => ?_)
  have O := O.wr W g_b22
  have A_b1 := A_b1.other W ne_b1_b22
  refine o_dup S rfl at_185 rfl (q := 186) ?_
  refine o_bipush S (z := 9) rfl at_186 rfl (q := 188) ?_
  refine o_sipush S (z := 961) rfl at_188 rfl (q := 191) ?_
  refine o_iastore S (y := (961 : Int32)) (ys := [(1 : Int32), (3 : Int32), (7 : Int32), (15 : Int32), (31 : Int32), (63 : Int32), (65 : Int32), (193 : Int32), (449 : Int32), (961 : Int32), 0, 0, 0, 0, 0, 0, 0, 0, 0]) A_b22 (by decide) (by show (9 : Int) < 19; decide) g_b22 rfl rfl at_191 rfl (q := 192) (fun T h33 S W A_b22 => ?_)
  have O := O.wr W g_b22
  have A_b1 := A_b1.other W ne_b1_b22
  refine o_dup S rfl at_192 rfl (q := 193) ?_
  refine o_bipush S (z := 10) rfl at_193 rfl (q := 195) ?_
  refine o_sipush S (z := 1985) rfl at_195 rfl (q := 198) ?_
  refine o_iastore S (y := (1985 : Int32)) (ys := [(1 : Int32), (3 : Int32), (7 : Int32), (15 : Int32), (31 : Int32), (63 : Int32), (65 : Int32), (193 : Int32), (449 : Int32), (961 : Int32), (1985 : Int32), 0, 0, 0, 0, 0, 0, 0, 0]) A_b22 (by decide) (by show (10 : Int) < 19; decide) g_b22 rfl rfl at_198 rfl (q := 199) (fun T h34 S W A_b22 => ?_)
  have O := O.wr W g_b22
  have A_b1 := A_b1.other W ne_b1_b22
  refine o_dup S rfl at_199 rfl (q := 200) ?_
  refine o_bipush S (z := 11) rfl at_200 rfl (q := 202) ?_
  refine o_sipush S (z := 4033) rfl at_202 rfl (q := 205) ?_
  refine o_iastore S (y := (4033 : Int32)) (ys := [(1 : Int32), (3 : Int32), (7 : Int32), (15 : Int32), (31 : Int32), (63 : Int32), (65 : Int32), (193 : Int32), (449 : Int32), (961 : Int32), (1985 : Int32), (4033 : Int32), 0, 0, 0, 0, 0, 0, 0]) A_b22 (by decide) (by show (11 : Int) < 19; decide) g_b22 rfl rfl at_205 rfl (q := 206) (fun T h35 S W A_b22 => ?_)
  have O := O.wr W g_b22
  have A_b1 := A_b1.other W ne_b1_b22
  refine o_dup S rfl at_206 rfl (q := 207) ?_
  refine o_bipush S (z := 12) rfl at_207 rfl (q := 209) ?_
  refine o_sipush S (z := 8129) rfl at_209 rfl (q := 212) ?_
  refine o_iastore S (y := (8129 : Int32)) (ys := [(1 : Int32), (3 : Int32), (7 : Int32), (15 : Int32), (31 : Int32), (63 : Int32), (65 : Int32), (193 : Int32), (449 : Int32), (961 : Int32), (1985 : Int32), (4033 : Int32), (8129 : Int32), 0, 0, 0, 0, 0, 0]) A_b22 (by decide) (by show (12 : Int) < 19; decide) g_b22 rfl rfl at_212 rfl (q := 213) (fun T h36 S W A_b22 => ?_)
  have O := O.wr W g_b22
  have A_b1 := A_b1.other W ne_b1_b22
  refine o_dup S rfl at_213 rfl (q := 214) ?_
  refine o_bipush S (z := 13) rfl at_214 rfl (q := 216) ?_
  refine o_sipush S (z := 8193) rfl at_216 rfl (q := 219) ?_
  refine o_iastore S (y := (8193 : Int32)) (ys := [(1 : Int32), (3 : Int32), (7 : Int32), (15 : Int32), (31 : Int32), (63 : Int32), (65 : Int32), (193 : Int32), (449 : Int32), (961 : Int32), (1985 : Int32), (4033 : Int32), (8129 : Int32), (8193 : Int32), 0, 0, 0, 0, 0]) A_b22 (by decide) (by show (13 : Int) < 19; decide) g_b22 rfl rfl at_219 rfl (q := 220) (fun T h37 S W A_b22 => ?_)
  have O := O.wr W g_b22
  have A_b1 := A_b1.other W ne_b1_b22
  refine o_dup S rfl at_220 rfl (q := 221) ?_
  refine o_bipush S (z := 14) rfl at_221 rfl (q := 223) ?_
  refine o_sipush S (z := 24577) rfl at_223 rfl (q := 226) ?_
  refine o_iastore S (y := (24577 : Int32)) (ys := [(1 : Int32), (3 : Int32), (7 : Int32), (15 : Int32), (31 : Int32), (63 : Int32), (65 : Int32), (193 : Int32), (449 : Int32), (961 : Int32), (1985 : Int32), (4033 : Int32), (8129 : Int32), (8193 : Int32), (24577 : Int32), 0, 0, 0, 0]) A_b22 (by decide) (by show (14 : Int) < 19; decide) g_b22 rfl rfl at_226 rfl (q := 227) (fun T h38 S W A_b22 => ?_)
  have O := O.wr W g_b22
  have A_b1 := A_b1.other W ne_b1_b22
  refine o_dup S rfl at_227 rfl (q := 228) ?_
  refine o_bipush S (z := 15) rfl at_228 rfl (q := 230) ?_
  refine o_ldc S (o_wd (i := 43) hw rfl) at_230 rfl (q := 232) ?_
  refine o_iastore S (y := (32769 : Int32)) (ys := [(1 : Int32), (3 : Int32), (7 : Int32), (15 : Int32), (31 : Int32), (63 : Int32), (65 : Int32), (193 : Int32), (449 : Int32), (961 : Int32), (1985 : Int32), (4033 : Int32), (8129 : Int32), (8193 : Int32), (24577 : Int32), (32769 : Int32), 0, 0, 0]) A_b22 (by decide) (by show (15 : Int) < 19; decide) g_b22 rfl rfl at_232 rfl (q := 233) (fun T h39 S W A_b22 => ?_)
  have O := O.wr W g_b22
  have A_b1 := A_b1.other W ne_b1_b22
  refine o_dup S rfl at_233 rfl (q := 234) ?_
  refine o_bipush S (z := 16) rfl at_234 rfl (q := 236) ?_
  refine o_ldc S (o_wd (i := 44) hw rfl) at_236 rfl (q := 238) ?_
  refine o_iastore S (y := (65537 : Int32)) (ys := [(1 : Int32), (3 : Int32), (7 : Int32), (15 : Int32), (31 : Int32), (63 : Int32), (65 : Int32), (193 : Int32), (449 : Int32), (961 : Int32), (1985 : Int32), (4033 : Int32), (8129 : Int32), (8193 : Int32), (24577 : Int32), (32769 : Int32), (65537 : Int32), 0, 0]) A_b22 (by decide) (by show (16 : Int) < 19; decide) g_b22 rfl rfl at_238 rfl (q := 239) (fun T h40 S W A_b22 => ?_)
  have O := O.wr W g_b22
  have A_b1 := A_b1.other W ne_b1_b22
  refine o_dup S rfl at_239 rfl (q := 240) ?_
  refine o_bipush S (z := 17) rfl at_240 rfl (q := 242) ?_
  refine o_ldc S (o_wd (i := 45) hw rfl) at_242 rfl (q := 244) ?_
  refine o_iastore S (y := (131073 : Int32)) (ys := [(1 : Int32), (3 : Int32), (7 : Int32), (15 : Int32), (31 : Int32), (63 : Int32), (65 : Int32), (193 : Int32), (449 : Int32), (961 : Int32), (1985 : Int32), (4033 : Int32), (8129 : Int32), (8193 : Int32), (24577 : Int32), (32769 : Int32), (65537 : Int32), (131073 : Int32), 0]) A_b22 (by decide) (by show (17 : Int) < 19; decide) g_b22 rfl rfl at_244 rfl (q := 245) (fun T h41 S W A_b22 => ?_)
  have O := O.wr W g_b22
  have A_b1 := A_b1.other W ne_b1_b22
  refine o_dup S rfl at_245 rfl (q := 246) ?_
  refine o_bipush S (z := 18) rfl at_246 rfl (q := 248) ?_
  refine o_ldc S (o_wd (i := 46) hw rfl) at_248 rfl (q := 250) ?_
  refine o_iastore S (y := (262145 : Int32)) (ys := [(1 : Int32), (3 : Int32), (7 : Int32), (15 : Int32), (31 : Int32), (63 : Int32), (65 : Int32), (193 : Int32), (449 : Int32), (961 : Int32), (1985 : Int32), (4033 : Int32), (8129 : Int32), (8193 : Int32), (24577 : Int32), (32769 : Int32), (65537 : Int32), (131073 : Int32), (262145 : Int32)]) A_b22 (by decide) (by show (18 : Int) < 19; decide) g_b22 rfl rfl at_250 rfl (q := 251) (fun T h42 S W A_b22 => ?_)
  have O := O.wr W g_b22
  have A_b1 := A_b1.other W ne_b1_b22
  refine o_astoreN S (L' := #[.val (.int p0), .val (.int p1), .val (.ref b1), .val (.ref b22), .unset, .unset, .unset]) rfl rfl at_251 rfl (q := 252) ?_
  refine o_iloadN S rfl at_252 rfl (q := 253) ?_
  refine o_ldc S (o_wd (i := 47) hw rfl) at_253 rfl (q := 255) ?_
  refine o_iand S at_255 rfl (q := 256) ?_
  refine o_bipush S (z := 19) rfl at_256 rfl (q := 258) ?_
  refine o_irem S (by decide) at_258 rfl (q := 259) ?_
  refine o_istoreV S (L' := fun v43 => #[.val (.int p0), .val (.int p1), .val (.ref b1), .val (.ref b22), .val (.int v43), .unset, .unset]) (fun _ => rfl) at_259 rfl (q := 261) (fun v43 hv43 => ?_)
  have hr4 : 0 ≤ v43.toInt ∧ v43.toInt < 19 := by rw [hv43]; exact own_rem 19 rfl (by decide) own_m
  obtain ⟨ia, q4⟩ := own_ofN (N := 19) hr4.1 hr4.2
  subst q4
  refine o_iloadN S rfl at_261 rfl (q := 262) ?_
  refine o_ldc S (o_wd (i := 47) hw rfl) at_262 rfl (q := 264) ?_
  refine o_iand S at_264 rfl (q := 265) ?_
  refine o_bipush S (z := 19) rfl at_265 rfl (q := 267) ?_
  refine o_irem S (by decide) at_267 rfl (q := 268) ?_
  refine o_istoreV S (L' := fun v44 => #[.val (.int p0), .val (.int p1), .val (.ref b1), .val (.ref b22), .val (.int (Int32.ofNat ia.1)), .val (.int v44), .unset]) (fun _ => rfl) at_268 rfl (q := 270) (fun v44 hv44 => ?_)
  have hr5 : 0 ≤ v44.toInt ∧ v44.toInt < 19 := by rw [hv44]; exact own_rem 19 rfl (by decide) own_m
  obtain ⟨ib, q5⟩ := own_ofN (N := 19) hr5.1 hr5.2
  subst q5
  refine o_aloadN S rfl rfl at_270 rfl (q := 271) ?_
  refine o_iload S rfl at_271 rfl (q := 273) ?_
  refine o_iaload S A_b22 hr4.1 hr4.2 (v := (([(1 : Int32), (3 : Int32), (7 : Int32), (15 : Int32), (31 : Int32), (63 : Int32), (65 : Int32), (193 : Int32), (449 : Int32), (961 : Int32), (1985 : Int32), (4033 : Int32), (8129 : Int32), (8193 : Int32), (24577 : Int32), (32769 : Int32), (65537 : Int32), (131073 : Int32), (262145 : Int32)] : List Int32).getD (Int32.ofNat ia.1).toNatClampNeg 0)) rfl at_273 rfl (q := 274) ?_
  refine o_iload S rfl at_274 rfl (q := 276) ?_
  refine o_iushr S at_276 rfl (q := 277) ?_
  refine o_iconst S (z := 1) rfl at_277 rfl (q := 278) ?_
  refine o_iand S at_278 rfl (q := 279) ?_
  refine o_cutS S (G := fun T => ∀ (v45 : Int32), v45 = (if ((((([(1 : Int32), (3 : Int32), (7 : Int32), (15 : Int32), (31 : Int32), (63 : Int32), (65 : Int32), (193 : Int32), (449 : Int32), (961 : Int32), (1985 : Int32), (4033 : Int32), (8129 : Int32), (8193 : Int32), (24577 : Int32), (32769 : Int32), (65537 : Int32), (131073 : Int32), (262145 : Int32)] : List Int32).getD (Int32.ofNat ia.1).toNatClampNeg 0).toUInt32 >>> ((Int32.ofNat ib.1) &&& 31).toUInt32).toInt32) &&& (1 : Int32)) = (0 : Int32) then (0 : Int32) else (1 : Int32)) → Wp p e below (Po s n0 room_1 Q0) T (mkF m 287 #[.val (.int p0), .val (.int p1), .val (.ref b1), .val (.ref b22), .val (.int (Int32.ofNat ia.1)), .val (.int (Int32.ofNat ib.1)), .unset] [(.int v45)])) (fun k279 => ?_) (fun T S v45 hv45 => ?_)
  · skip
    refine o_if S at_279 (by decide) (q' := 286) (by decide) (q := 282) rfl hs_eq.1 hs_eq.2 (fun hc279 => ?_) (fun hc279 => ?_)
    · skip
      refine o_iconst S (z := 0) rfl at_286 rfl (q := 287) ?_
      exact k279 _ S _ (by rw [if_pos hc279])
    · skip
      refine o_iconst S (z := 1) rfl at_282 rfl (q := 283) ?_
      refine o_goto S at_283 (by decide) (q := 287) (by decide) ?_
      exact k279 _ S _ (by rw [if_neg hc279])
  refine o_istore S (L' := #[.val (.int p0), .val (.int p1), .val (.ref b1), .val (.ref b22), .val (.int (Int32.ofNat ia.1)), .val (.int (Int32.ofNat ib.1)), .val (.int v45)]) rfl at_287 rfl (q := 289) ?_
  refine o_aloadN S rfl rfl at_289 rfl (q := 290) ?_
  refine o_iload S rfl at_290 rfl (q := 292) ?_
  refine o_aaload S A_b1 hr4.1 hr4.2 (v := (.ref (cs ia))) (own_vs cs ia) at_292 rfl (q := 293) ?_
  refine o_aloadN S rfl rfl at_293 rfl (q := 294) ?_
  refine o_iload S rfl at_294 rfl (q := 296) ?_
  refine o_aaload S A_b1 hr5.1 hr5.2 (v := (.ref (cs ib))) (own_vs cs ib) at_296 rfl (q := 297) ?_
  refine o_callV0 S (W := 0) (argsL := [(.ref (cs ib))]) (rest := []) (a := (cs ia)) (o_wd (i := 48) hw rfl) (o_wd (i := 49) hw rfl) (o_wd (i := 51) hw rfl) (o_wd (i := 50) hw rfl) (o_wd (i := 3) hw rfl) (o_wd (i := 52) hw rfl) (o_nf (o_wd (i := 51) hw rfl)) (by decide) (Exa.ext O.2 (hE ia)) (ct_1 l Z a0 hw (cs ia) (cs ib) cs ia ib h42 n0 (o_n0 S) (Exa.ext O.2 (hE ia)) rfl rfl hinj (fun a => Fld.ext O.2 (hF a))) (by decide) (by decide) rfl rfl pd_0 rfl (Nat.le_of_eq rfl) at_297 rfl (q := 300) (by decide) (by decide) rfl (st' := [(.int (upF 19 ia ib))]) (fun T S => ?_)
  refine o_iload S rfl at_300 rfl (q := 302) ?_
  refine o_icmp S at_302 (by decide) (q' := 309) (by decide) (q := 305) rfl hs_ne.1 hs_ne.2 (fun hc302 => ?_) (fun hc302 => ?_)
  · exact absurd (by rw [hv45]; exact plain_1 ia ib) hc302
  · skip
    refine o_iconst S (z := 1) rfl at_305 rfl (q := 306) ?_
    refine o_goto S at_306 (by decide) (q := 310) (by decide) ?_
    refine o_retN S (t := .boolean) rfl (by simp) at_310 (by decide) (by decide) rfl ?_
    rfl
set_option maxRecDepth 65536 in
set_option maxHeartbeats 40000000 in
theorem comes_1 {Post : Tables → Env → Array Value → State → Outcome → State → Prop} (hpost : ∀ tb e args s v u, (limb_1_1.after args s (.returned v) u = true ∧ limb_1_2.after args s (.returned v) u = true ∧ True) → FrameEnd s (.returned v) u (Jvm.fieldLocs frame_1_writes args s ++ Jvm.arrayLocs frame_1_arrays args s ++ Jvm.staticLocs frame_1_statics s) 16 192 → Post tb e args s (.returned v) u) :
    ArmFor flags0 classFile x code maxLocals ret World_1 tables_1 room_1 Calls_1 rest_1 Pre_1 Post := by
  intro l hfl _ _ p e ha hc hk s m args below hf hA hF happ hP
  obtain ⟨hcalls, hrest, hpre⟩ := hP
  obtain ⟨-, -, -, hnamed, -, -, -, hat⟩ := (Spec.applies_iff hf).mp happ
  obtain ⟨hg, hn⟩ := and_e (Cond.before_iff.mp (show (Jvm.Cond.and given_1 narrow_1).before args s = true from hpre))
  obtain ⟨g0, g⟩ := and_e hg
  obtain ⟨w0, w1, rfl⟩ : ∃ w0 w1 : Value, args = #[w0, w1] := by
    have hs : args.size = 2 := by simpa [Cond.value, given_1] using g0
    obtain ⟨L⟩ := args
    match L, hs with
    | [w0, w1], _ => exact ⟨w0, w1, rfl⟩
  have hw := fun d (hd : d ∈ tables_1) => atoms_spec (ws := Jvm.Cond.code x code maxLocals ret :: tables_1) hat d (List.mem_cons_of_mem _ hd)
  obtain ⟨g1, gr1⟩ := and_e g
  obtain ⟨i0, ei0⟩ := is_v g1
  obtain rfl : w0 = (.int i0) := Option.some.inj ei0
  obtain ⟨i1, ei1⟩ := is_v gr1
  obtain rfl : w1 = (.int i1) := Option.some.inj ei1
  have hn' := hn
  obtain ⟨m0, r0⟩ := and_e hn'
  obtain ⟨m1, r1⟩ := and_e r0
  obtain ⟨m2, r2⟩ := and_e r1
  obtain ⟨m3, r3⟩ := and_e r2
  obtain ⟨m4, r4⟩ := and_e r3
  obtain ⟨m5, r5⟩ := and_e r4
  obtain ⟨m6, r6⟩ := and_e r5
  obtain ⟨m7, r7⟩ := and_e r6
  obtain ⟨m8, r8⟩ := and_e r7
  obtain ⟨m9, r9⟩ := and_e r8
  obtain ⟨m10, r10⟩ := and_e r9
  obtain ⟨m11, r11⟩ := and_e r10
  obtain ⟨m12, r12⟩ := and_e r11
  obtain ⟨m13, r13⟩ := and_e r12
  obtain ⟨m14, r14⟩ := and_e r13
  obtain ⟨m15, r15⟩ := and_e r14
  obtain ⟨m16, r16⟩ := and_e r15
  obtain ⟨m17, r17⟩ := and_e r16
  obtain ⟨m18, r18⟩ := and_e r17
  obtain ⟨m19, r19⟩ := and_e r18
  obtain ⟨m20, r20⟩ := and_e r19
  obtain ⟨m21, r21⟩ := and_e r20
  obtain ⟨m22, r22⟩ := and_e r21
  obtain ⟨m23, r23⟩ := and_e r22
  obtain ⟨m24, r24⟩ := and_e r23
  obtain ⟨m25, r25⟩ := and_e r24
  obtain ⟨m26, r26⟩ := and_e r25
  obtain ⟨m27, r27⟩ := and_e r26
  obtain ⟨m28, r28⟩ := and_e r27
  obtain ⟨m29, r29⟩ := and_e r28
  obtain ⟨m30, r30⟩ := and_e r29
  obtain ⟨m31, r31⟩ := and_e r30
  obtain ⟨m32, r32⟩ := and_e r31
  obtain ⟨m33, r33⟩ := and_e r32
  obtain ⟨m34, r34⟩ := and_e r33
  obtain ⟨m35, r35⟩ := and_e r34
  obtain ⟨m36, r36⟩ := and_e r35
  obtain ⟨m37, r37⟩ := and_e r36
  obtain ⟨m38, r38⟩ := and_e r37
  obtain ⟨m39, r39⟩ := and_e r38
  obtain ⟨m40, r40⟩ := and_e r39
  obtain ⟨m41, r41⟩ := and_e r40
  obtain ⟨m42, r42⟩ := and_e r41
  obtain ⟨m43, r43⟩ := and_e r42
  obtain ⟨m44, r44⟩ := and_e r43
  obtain ⟨m45, r45⟩ := and_e r44
  obtain ⟨m46, r46⟩ := and_e r45
  obtain ⟨m47, r47⟩ := and_e r46
  obtain ⟨m48, r48⟩ := and_e r47
  obtain ⟨m49, r49⟩ := and_e r48
  obtain ⟨m50, r50⟩ := and_e r49
  obtain ⟨m51, r51⟩ := and_e r50
  obtain ⟨m52, r52⟩ := and_e r51
  obtain ⟨m53, r53⟩ := and_e r52
  obtain ⟨m54, r54⟩ := and_e r53
  obtain ⟨m55, r55⟩ := and_e r54
  have m56 := r55
  obtain ⟨c0, e0⟩ := exa_v m0
  have X0 := Exa.start e0 m0
  have SC0 := Sta.start e0 (Or.inr ⟨hw _ (List.mem_of_getElem? (i := 3) rfl), hw _ (List.mem_of_getElem? (i := 4) rfl)⟩)
  have O0 := Fld.start ((fld_at e0).symm.trans (eqv_i (y := 0) (Term.int_eval 0) m19))
  obtain ⟨c1, e1⟩ := exa_v m1
  have X1 := Exa.start e1 m1
  have SC1 := Sta.start e1 (Or.inr ⟨hw _ (List.mem_of_getElem? (i := 3) rfl), hw _ (List.mem_of_getElem? (i := 7) rfl)⟩)
  have O1 := Fld.start ((fld_at e1).symm.trans (eqv_i (y := 1) (Term.int_eval 1) m23))
  obtain ⟨c2, e2⟩ := exa_v m2
  have X2 := Exa.start e2 m2
  have SC2 := Sta.start e2 (Or.inr ⟨hw _ (List.mem_of_getElem? (i := 3) rfl), hw _ (List.mem_of_getElem? (i := 9) rfl)⟩)
  have O2 := Fld.start ((fld_at e2).symm.trans (eqv_i (y := 2) (Term.int_eval 2) m28))
  obtain ⟨c3, e3⟩ := exa_v m3
  have X3 := Exa.start e3 m3
  have SC3 := Sta.start e3 (Or.inr ⟨hw _ (List.mem_of_getElem? (i := 3) rfl), hw _ (List.mem_of_getElem? (i := 11) rfl)⟩)
  have O3 := Fld.start ((fld_at e3).symm.trans (eqv_i (y := 3) (Term.int_eval 3) m20))
  obtain ⟨c4, e4⟩ := exa_v m4
  have X4 := Exa.start e4 m4
  have SC4 := Sta.start e4 (Or.inr ⟨hw _ (List.mem_of_getElem? (i := 3) rfl), hw _ (List.mem_of_getElem? (i := 13) rfl)⟩)
  have O4 := Fld.start ((fld_at e4).symm.trans (eqv_i (y := 4) (Term.int_eval 4) m48))
  obtain ⟨c5, e5⟩ := exa_v m5
  have X5 := Exa.start e5 m5
  have SC5 := Sta.start e5 (Or.inr ⟨hw _ (List.mem_of_getElem? (i := 3) rfl), hw _ (List.mem_of_getElem? (i := 15) rfl)⟩)
  have O5 := Fld.start ((fld_at e5).symm.trans (eqv_i (y := 5) (Term.int_eval 5) m42))
  obtain ⟨c6, e6⟩ := exa_v m6
  have X6 := Exa.start e6 m6
  have SC6 := Sta.start e6 (Or.inr ⟨hw _ (List.mem_of_getElem? (i := 3) rfl), hw _ (List.mem_of_getElem? (i := 17) rfl)⟩)
  have O6 := Fld.start ((fld_at e6).symm.trans (eqv_i (y := 6) (Term.int_eval 6) m36))
  obtain ⟨c7, e7⟩ := exa_v m7
  have X7 := Exa.start e7 m7
  have SC7 := Sta.start e7 (Or.inr ⟨hw _ (List.mem_of_getElem? (i := 3) rfl), hw _ (List.mem_of_getElem? (i := 19) rfl)⟩)
  have O7 := Fld.start ((fld_at e7).symm.trans (eqv_i (y := 7) (Term.int_eval 7) m34))
  obtain ⟨c8, e8⟩ := exa_v m8
  have X8 := Exa.start e8 m8
  have SC8 := Sta.start e8 (Or.inr ⟨hw _ (List.mem_of_getElem? (i := 3) rfl), hw _ (List.mem_of_getElem? (i := 21) rfl)⟩)
  have O8 := Fld.start ((fld_at e8).symm.trans (eqv_i (y := 8) (Term.int_eval 8) m32))
  obtain ⟨c9, e9⟩ := exa_v m9
  have X9 := Exa.start e9 m9
  have SC9 := Sta.start e9 (Or.inr ⟨hw _ (List.mem_of_getElem? (i := 3) rfl), hw _ (List.mem_of_getElem? (i := 23) rfl)⟩)
  have O9 := Fld.start ((fld_at e9).symm.trans (eqv_i (y := 9) (Term.int_eval 9) m30))
  obtain ⟨c10, e10⟩ := exa_v m10
  have X10 := Exa.start e10 m10
  have SC10 := Sta.start e10 (Or.inr ⟨hw _ (List.mem_of_getElem? (i := 3) rfl), hw _ (List.mem_of_getElem? (i := 25) rfl)⟩)
  have O10 := Fld.start ((fld_at e10).symm.trans (eqv_i (y := 10) (Term.int_eval 10) m40))
  obtain ⟨c11, e11⟩ := exa_v m11
  have X11 := Exa.start e11 m11
  have SC11 := Sta.start e11 (Or.inr ⟨hw _ (List.mem_of_getElem? (i := 3) rfl), hw _ (List.mem_of_getElem? (i := 27) rfl)⟩)
  have O11 := Fld.start ((fld_at e11).symm.trans (eqv_i (y := 11) (Term.int_eval 11) m44))
  obtain ⟨c12, e12⟩ := exa_v m12
  have X12 := Exa.start e12 m12
  have SC12 := Sta.start e12 (Or.inr ⟨hw _ (List.mem_of_getElem? (i := 3) rfl), hw _ (List.mem_of_getElem? (i := 29) rfl)⟩)
  have O12 := Fld.start ((fld_at e12).symm.trans (eqv_i (y := 12) (Term.int_eval 12) m41))
  obtain ⟨c13, e13⟩ := exa_v m13
  have X13 := Exa.start e13 m13
  have SC13 := Sta.start e13 (Or.inr ⟨hw _ (List.mem_of_getElem? (i := 3) rfl), hw _ (List.mem_of_getElem? (i := 31) rfl)⟩)
  have O13 := Fld.start ((fld_at e13).symm.trans (eqv_i (y := 13) (Term.int_eval 13) m25))
  obtain ⟨c14, e14⟩ := exa_v m14
  have X14 := Exa.start e14 m14
  have SC14 := Sta.start e14 (Or.inr ⟨hw _ (List.mem_of_getElem? (i := 3) rfl), hw _ (List.mem_of_getElem? (i := 33) rfl)⟩)
  have O14 := Fld.start ((fld_at e14).symm.trans (eqv_i (y := 14) (Term.int_eval 14) m22))
  obtain ⟨c15, e15⟩ := exa_v m15
  have X15 := Exa.start e15 m15
  have SC15 := Sta.start e15 (Or.inr ⟨hw _ (List.mem_of_getElem? (i := 3) rfl), hw _ (List.mem_of_getElem? (i := 35) rfl)⟩)
  have O15 := Fld.start ((fld_at e15).symm.trans (eqv_i (y := 15) (Term.int_eval 15) m52))
  obtain ⟨c16, e16⟩ := exa_v m16
  have X16 := Exa.start e16 m16
  have SC16 := Sta.start e16 (Or.inr ⟨hw _ (List.mem_of_getElem? (i := 3) rfl), hw _ (List.mem_of_getElem? (i := 37) rfl)⟩)
  have O16 := Fld.start ((fld_at e16).symm.trans (eqv_i (y := 16) (Term.int_eval 16) m50))
  obtain ⟨c17, e17⟩ := exa_v m17
  have X17 := Exa.start e17 m17
  have SC17 := Sta.start e17 (Or.inr ⟨hw _ (List.mem_of_getElem? (i := 3) rfl), hw _ (List.mem_of_getElem? (i := 39) rfl)⟩)
  have O17 := Fld.start ((fld_at e17).symm.trans (eqv_i (y := 17) (Term.int_eval 17) m27))
  obtain ⟨c18, e18⟩ := exa_v m18
  have X18 := Exa.start e18 m18
  have SC18 := Sta.start e18 (Or.inr ⟨hw _ (List.mem_of_getElem? (i := 3) rfl), hw _ (List.mem_of_getElem? (i := 41) rfl)⟩)
  have O18 := Fld.start ((fld_at e18).symm.trans (eqv_i (y := 18) (Term.int_eval 18) m53))
  have W0 := Fld.start ((fld_at e0).symm.trans (null_v m21))
  have W1 := Fld.start ((fld_at e1).symm.trans (eqv_r e0 m39))
  have W2 := Fld.start ((fld_at e2).symm.trans (eqv_r e1 m29))
  have W3 := Fld.start ((fld_at e3).symm.trans (eqv_r e2 m38))
  have W4 := Fld.start ((fld_at e4).symm.trans (eqv_r e3 m49))
  have W5 := Fld.start ((fld_at e5).symm.trans (eqv_r e4 m47))
  have W6 := Fld.start ((fld_at e6).symm.trans (eqv_r e0 m37))
  have W7 := Fld.start ((fld_at e7).symm.trans (eqv_r e6 m35))
  have W8 := Fld.start ((fld_at e8).symm.trans (eqv_r e7 m33))
  have W9 := Fld.start ((fld_at e9).symm.trans (eqv_r e8 m31))
  have W10 := Fld.start ((fld_at e10).symm.trans (eqv_r e9 m46))
  have W11 := Fld.start ((fld_at e11).symm.trans (eqv_r e10 m45))
  have W12 := Fld.start ((fld_at e12).symm.trans (eqv_r e11 m43))
  have W13 := Fld.start ((fld_at e13).symm.trans (eqv_r e0 m26))
  have W14 := Fld.start ((fld_at e14).symm.trans (eqv_r e13 m24))
  have W15 := Fld.start ((fld_at e15).symm.trans (eqv_r e0 m54))
  have W16 := Fld.start ((fld_at e16).symm.trans (eqv_r e0 m51))
  have W17 := Fld.start ((fld_at e17).symm.trans (eqv_r e0 m56))
  have W18 := Fld.start ((fld_at e18).symm.trans (eqv_r e0 m55))
  have hE : ∀ a, Exa s s.heap ((csF c0 c1 c2 c3 c4 c5 c6 c7 c8 c9 c10 c11 c12 c13 c14 c15 c16 c17 c18) a) "com/example/dioscuri/dioscuri/el/ElDatatype" := fun a => match a with | ⟨0, _⟩ => X0 | ⟨1, _⟩ => X1 | ⟨2, _⟩ => X2 | ⟨3, _⟩ => X3 | ⟨4, _⟩ => X4 | ⟨5, _⟩ => X5 | ⟨6, _⟩ => X6 | ⟨7, _⟩ => X7 | ⟨8, _⟩ => X8 | ⟨9, _⟩ => X9 | ⟨10, _⟩ => X10 | ⟨11, _⟩ => X11 | ⟨12, _⟩ => X12 | ⟨13, _⟩ => X13 | ⟨14, _⟩ => X14 | ⟨15, _⟩ => X15 | ⟨16, _⟩ => X16 | ⟨17, _⟩ => X17 | ⟨18, _⟩ => X18 | ⟨_ + 19, hx⟩ => absurd hx (by omega)
  have hF : ∀ a, Fld s s.heap ((csF c0 c1 c2 c3 c4 c5 c6 c7 c8 c9 c10 c11 c12 c13 c14 c15 c16 c17 c18) a) "com/example/dioscuri/dioscuri/el/ElDatatype" "within" "Lcom/example/dioscuri/dioscuri/el/ElDatatype;" (parV (csF c0 c1 c2 c3 c4 c5 c6 c7 c8 c9 c10 c11 c12 c13 c14 c15 c16 c17 c18) a) := fun a => match a with | ⟨0, _⟩ => W0 | ⟨1, _⟩ => W1 | ⟨2, _⟩ => W2 | ⟨3, _⟩ => W3 | ⟨4, _⟩ => W4 | ⟨5, _⟩ => W5 | ⟨6, _⟩ => W6 | ⟨7, _⟩ => W7 | ⟨8, _⟩ => W8 | ⟨9, _⟩ => W9 | ⟨10, _⟩ => W10 | ⟨11, _⟩ => W11 | ⟨12, _⟩ => W12 | ⟨13, _⟩ => W13 | ⟨14, _⟩ => W14 | ⟨15, _⟩ => W15 | ⟨16, _⟩ => W16 | ⟨17, _⟩ => W17 | ⟨18, _⟩ => W18 | ⟨_ + 19, hx⟩ => absurd hx (by omega)
  have hO : ∀ a, Fld s s.heap ((csF c0 c1 c2 c3 c4 c5 c6 c7 c8 c9 c10 c11 c12 c13 c14 c15 c16 c17 c18) a) "java/lang/Enum" "ordinal" "I" (.int (Int32.ofNat a.1)) := fun a => match a with | ⟨0, _⟩ => O0 | ⟨1, _⟩ => O1 | ⟨2, _⟩ => O2 | ⟨3, _⟩ => O3 | ⟨4, _⟩ => O4 | ⟨5, _⟩ => O5 | ⟨6, _⟩ => O6 | ⟨7, _⟩ => O7 | ⟨8, _⟩ => O8 | ⟨9, _⟩ => O9 | ⟨10, _⟩ => O10 | ⟨11, _⟩ => O11 | ⟨12, _⟩ => O12 | ⟨13, _⟩ => O13 | ⟨14, _⟩ => O14 | ⟨15, _⟩ => O15 | ⟨16, _⟩ => O16 | ⟨17, _⟩ => O17 | ⟨18, _⟩ => O18 | ⟨_ + 19, hx⟩ => absurd hx (by omega)
  have hinj : ∀ a b, (csF c0 c1 c2 c3 c4 c5 c6 c7 c8 c9 c10 c11 c12 c13 c14 c15 c16 c17 c18) a = (csF c0 c1 c2 c3 c4 c5 c6 c7 c8 c9 c10 c11 c12 c13 c14 c15 c16 c17 c18) b → a = b := fun a b q => by
    have h1 := hO a; have h2 := hO b
    rw [q] at h1
    by_cases z : a = b
    · exact z
    · exact absurd rfl (Fld.ne h1 h2 (own_ordne a b z))
  obtain ⟨n, o, h1, h2, h3, _, L, rfl, ⟨rfl, N⟩, hq⟩ := ct_0 l s _ hw tables_1 i0 i1 (csF c0 c1 c2 c3 c4 c5 c6 c7 c8 c9 c10 c11 c12 c13 c14 c15 c16 c17 c18) s.heap s.heap.size (Nat.le_refl _) (Old.start s) SC0 SC1 SC2 SC3 SC4 SC5 SC6 SC7 SC8 SC9 SC10 SC11 SC12 SC13 SC14 SC15 SC16 SC17 SC18 hE hF hinj p e ha hc hk s m _ below hf ((Spec.applies_iff_loose hf).mp happ).1 ⟨rfl, State.Warmed39.refl s, rfl⟩ trivial
  refine ⟨n, _, h1, h2, h3, hpost _ _ _ _ _ _ ⟨Cond.after_iff.mpr rfl, Cond.after_iff.mpr (eq_i res_at (Term.int_eval (1)) rfl), trivial⟩ ⟨hq.1, hq.2.1, (hq.2.2.sift fun y hy => Or.inr (N y hy)).mono (by decide) (by decide)⟩⟩
theorem main_1_1 : Claimed_1_1 := comes_1 fun _ _ _ _ _ _ h hF => ⟨h.1, hF⟩
theorem main_1_2 : Claimed_1_2 := comes_1 fun _ _ _ _ _ _ h hF => ⟨h.2.1, hF⟩
end Jvm.Pilot.@@N@@
namespace Jvm.Pilot.@@N@@
open Jvm Jvm.ClassFile Sem Op Lib Jvm.Free Jvm.Stand Jvm.Pilot.@@N@@.Jvm.D
/-! MADE BY PROGRAM (witnessworld.py) out of the Statement's table words and the real class files: 13 classes; the members and pool entries that the words name. The judged class is class 1, her method 1. -/
namespace start1
open Jvm.ClassFile
def u (s : String) : CpInfo := .utf8 (stringToUtf16 s)
/-- a pool by its gaps: so many unusable entries, then the entry; so many at the end -/
def gap : Nat → List CpInfo → List CpInfo
  | 0, r => r
  | n + 1, r => .unusable :: gap n r
def poolList (es : List (Nat × CpInfo)) (last : Nat) : List CpInfo := es.foldr (fun e r => gap e.1 (e.2 :: r)) (gap last [])
def pool (es : List (Nat × CpInfo)) (last : Nat) : Array CpInfo := ⟨poolList es last⟩
def fileOf (pool : Array CpInfo) (this : Nat) (attrs : Array Attribute := #[]) (ms : Array MethodInfo := #[]) (fl : Nat := 33) (sup : Nat := 0) (ifs : Array Nat := #[]) (fds : Array FieldInfo := #[]) : ClassFile where
  minorVersion := 0
  majorVersion := 65
  constantPool := pool
  accessFlags := fl
  thisClass := this
  superClass := sup
  interfaces := ifs
  fields := fds
  methods := ms
  attributes := attrs
def plain (name : String) (sup : Option ClassId) : Class where
  name := name
  kind := .ordinary
  loader := none
  accessFlags := 33
  super := sup
  interfaces := #[]
  cf := none
  fields := #[]
  methods := #[]
  instanceTypes := #[]
  staticTypes := #[]
  resolved := #[]
  callSites := []
  init := .initialized
  statics := none
  mirror := none

def pool0 : Array CpInfo := pool [(5, u "<init>"), (0, u "()V"), (1, .class_ 10), (1, u "java/lang/Object")] 113

def k0m0 : Method := { name := "<init>", desc := "()V", sig := { parameters := [], returnType := none }, accessFlags := 1, code := none }
/-- java/lang/Object -/
def k0 : Class := { plain "java/lang/Object" none with
  accessFlags := 33
  interfaces := #[]
  cf := some (fileOf pool0 8 #[] #[{ accessFlags := 1, nameIndex := 5, descriptorIndex := 6, attributes := #[] }] 33 0 #[] #[])
  fields := #[]
  methods := #[k0m0]
  instanceTypes := #[]
  staticTypes := #[]
  resolved := Array.replicate 124 none
  statics := none }

def pool1 : Array CpInfo := pool [(2, .class_ 4), (1, u "java/lang/Object"), (0, u "<init>"), (0, u "()V"), (0, .class_ 8), (0, u "com/example/dioscuri/dioscuri/el/ElDatatype"), (0, .fieldref 7 10), (0, .nameAndType 11 12), (0, u "LITERAL"), (0, u "Lcom/example/dioscuri/dioscuri/el/ElDatatype;"), (0, .fieldref 7 14), (0, .nameAndType 15 12), (0, u "REAL"), (0, .fieldref 7 17), (0, .nameAndType 18 12), (0, u "RATIONAL"), (0, .fieldref 7 20), (0, .nameAndType 21 12), (0, u "DECIMAL"), (0, .fieldref 7 23), (0, .nameAndType 24 12), (0, u "INTEGER"), (0, .fieldref 7 26), (0, .nameAndType 27 12), (0, u "NON_NEGATIVE_INTEGER"), (0, .fieldref 7 29), (0, .nameAndType 30 12), (0, u "PLAIN_LITERAL"), (0, .fieldref 7 32), (0, .nameAndType 33 12), (0, u "STRING"), (0, .fieldref 7 35), (0, .nameAndType 36 12), (0, u "NORMALIZED_STRING"), (0, .fieldref 7 38), (0, .nameAndType 39 12), (0, u "TOKEN"), (0, .fieldref 7 41), (0, .nameAndType 42 12), (0, u "NMTOKEN"), (0, .fieldref 7 44), (0, .nameAndType 45 12), (0, u "NAME"), (0, .fieldref 7 47), (0, .nameAndType 48 12), (0, u "NCNAME"), (0, .fieldref 7 50), (0, .nameAndType 51 12), (0, u "DATE_TIME"), (0, .fieldref 7 53), (0, .nameAndType 54 12), (0, u "DATE_TIME_STAMP"), (0, .fieldref 7 56), (0, .nameAndType 57 12), (0, u "HEX_BINARY"), (0, .fieldref 7 59), (0, .nameAndType 60 12), (0, u "BASE64_BINARY"), (0, .fieldref 7 62), (0, .nameAndType 63 12), (0, u "ANY_URI"), (0, .fieldref 7 65), (0, .nameAndType 66 12), (0, u "XML_LITERAL"), (0, .integer 32769), (0, .integer 65537), (0, .integer 131073), (0, .integer 262145), (0, .integer 2147483647), (0, .methodref 7 73), (0, .nameAndType 74 75), (0, u "isWithin"), (0, u "(Lcom/example/dioscuri/dioscuri/el/ElDatatype;)Z"), (0, .class_ 77), (0, u "com/example/dioscuri/dioscuri/el/ElDatatypeIsWithinPinLaw"), (2, u "law"), (0, u "(II)Z")] 7

def k1m0 : Method := { name := "<init>", desc := "()V", sig := { parameters := [], returnType := none }, accessFlags := 2, code := none }
def k1c1 : Code := { maxStack := 4, maxLocals := 7, code := code, exceptionTable := #[], attributes := #[] }
def k1m1 : Method := { name := "law", desc := "(II)Z", sig := { parameters := [.int, .int], returnType := some .boolean }, accessFlags := 9, code := some k1c1 }
/-- com/example/dioscuri/dioscuri/el/ElDatatypeIsWithinPinLaw -/
def k1 : Class := { plain "com/example/dioscuri/dioscuri/el/ElDatatypeIsWithinPinLaw" (some 0) with
  accessFlags := 49
  interfaces := #[]
  cf := some (fileOf pool1 76 #[] #[{ accessFlags := 2, nameIndex := 5, descriptorIndex := 6, attributes := #[] }, { accessFlags := 9, nameIndex := 80, descriptorIndex := 81, attributes := #[] }] 49 2 #[] #[])
  fields := #[]
  methods := #[k1m0, k1m1]
  instanceTypes := #[]
  staticTypes := #[]
  resolved := Array.replicate 89 none
  statics := none }

def pool2 : Array CpInfo := pool [(1, .class_ 2), (0, u "java/lang/constant/Constable"), (0, .class_ 4), (0, u "java/lang/Object")] 6

/-- java/lang/constant/Constable -/
def k2 : Class := { plain "java/lang/constant/Constable" (some 0) with
  accessFlags := 1537
  interfaces := #[]
  cf := some (fileOf pool2 1 #[] #[] 1537 3 #[] #[])
  fields := #[]
  methods := #[]
  instanceTypes := #[]
  staticTypes := #[]
  resolved := Array.replicate 11 none
  statics := none }

def pool3 : Array CpInfo := pool [(1, .class_ 2), (0, u "java/lang/Comparable"), (0, .class_ 4), (0, u "java/lang/Object")] 7

/-- java/lang/Comparable -/
def k3 : Class := { plain "java/lang/Comparable" (some 0) with
  accessFlags := 1537
  interfaces := #[]
  cf := some (fileOf pool3 1 #[] #[] 1537 3 #[] #[])
  fields := #[]
  methods := #[]
  instanceTypes := #[]
  staticTypes := #[]
  resolved := Array.replicate 12 none
  statics := none }

def pool4 : Array CpInfo := pool [(1, .class_ 2), (0, u "java/io/Serializable"), (0, .class_ 4), (0, u "java/lang/Object")] 2

/-- java/io/Serializable -/
def k4 : Class := { plain "java/io/Serializable" (some 0) with
  accessFlags := 1537
  interfaces := #[]
  cf := some (fileOf pool4 1 #[] #[] 1537 3 #[] #[])
  fields := #[]
  methods := #[]
  instanceTypes := #[]
  staticTypes := #[]
  resolved := Array.replicate 7 none
  statics := none }

def pool5 : Array CpInfo := pool [(2, .class_ 4), (1, u "java/lang/Enum"), (0, u "name"), (0, u "Ljava/lang/String;"), (2, u "ordinal"), (0, u "I"), (1, .class_ 14), (1, u "java/lang/Object"), (4, u "hash"), (86, .class_ 108), (1, u "java/lang/Enum$EnumDesc"), (2, .class_ 112), (0, u "java/lang/constant/Constable"), (0, .class_ 114), (0, u "java/lang/Comparable"), (0, .class_ 116), (0, u "java/io/Serializable")] 87

/-- java/lang/Enum -/
def k5 : Class := { plain "java/lang/Enum" (some 0) with
  accessFlags := 1057
  interfaces := #[2, 3, 4]
  cf := some (fileOf pool5 2 #[.nestMembers #[106]] #[] 1057 12 #[111, 113, 115] #[{ accessFlags := 18, nameIndex := 5, descriptorIndex := 6, attributes := #[] }, { accessFlags := 18, nameIndex := 9, descriptorIndex := 10, attributes := #[] }, { accessFlags := 2, nameIndex := 19, descriptorIndex := 10, attributes := #[] }])
  fields := #[{ name := "name", type := (.object "java/lang/String"), accessFlags := 18, slot := 0, constantValue := 0 }, { name := "ordinal", type := .int, accessFlags := 18, slot := 1, constantValue := 0 }, { name := "hash", type := .int, accessFlags := 2, slot := 2, constantValue := 0 }]
  methods := #[]
  instanceTypes := #[(.object "java/lang/String"), .int, .int]
  staticTypes := #[]
  resolved := Array.replicate 204 none
  statics := none }

def pool6 : Array CpInfo := pool [(1, .class_ 2), (0, u "com/example/dioscuri/dioscuri/el/ElDatatype"), (2, u "LITERAL"), (0, u "Lcom/example/dioscuri/dioscuri/el/ElDatatype;"), (2, u "REAL"), (2, u "RATIONAL"), (2, u "DECIMAL"), (2, u "INTEGER"), (2, u "NON_NEGATIVE_INTEGER"), (2, u "PLAIN_LITERAL"), (2, u "STRING"), (2, u "NORMALIZED_STRING"), (2, u "TOKEN"), (2, u "NMTOKEN"), (2, u "NAME"), (2, u "NCNAME"), (2, u "DATE_TIME"), (2, u "DATE_TIME_STAMP"), (2, u "HEX_BINARY"), (2, u "BASE64_BINARY"), (2, u "ANY_URI"), (2, u "XML_LITERAL"), (2, u "$VALUES"), (0, u "[Lcom/example/dioscuri/dioscuri/el/ElDatatype;"), (6, .class_ 73), (1, u "java/lang/Enum"), (6, .fieldref 1 81), (0, .nameAndType 82 6), (0, u "within"), (2, u "iri"), (0, u "Ljava/lang/String;"), (2, u "BY_IRI"), (0, u "Ljava/util/Map;"), (13, .class_ 105), (0, u "com/example/dioscuri/dioscuri/el/ElDatatype$Iris"), (77, u "isWithin"), (0, u "(Lcom/example/dioscuri/dioscuri/el/ElDatatype;)Z")] 8

def k6c0 : Code := { maxStack := 2, maxLocals := 3, code := prog_15_method_5_code, exceptionTable := #[], attributes := #[] }
def k6m0 : Method := { name := "isWithin", desc := "(Lcom/example/dioscuri/dioscuri/el/ElDatatype;)Z", sig := { parameters := [(.object "com/example/dioscuri/dioscuri/el/ElDatatype")], returnType := some .boolean }, accessFlags := 0, code := some k6c0 }
/-- com/example/dioscuri/dioscuri/el/ElDatatype -/
def k6 : Class := { plain "com/example/dioscuri/dioscuri/el/ElDatatype" (some 5) with
  accessFlags := 16432
  interfaces := #[]
  cf := some (fileOf pool6 1 #[.nestMembers #[104]] #[{ accessFlags := 0, nameIndex := 183, descriptorIndex := 184, attributes := #[] }] 16432 71 #[] #[{ accessFlags := 16409, nameIndex := 5, descriptorIndex := 6, attributes := #[] }, { accessFlags := 16409, nameIndex := 9, descriptorIndex := 6, attributes := #[] }, { accessFlags := 16409, nameIndex := 12, descriptorIndex := 6, attributes := #[] }, { accessFlags := 16409, nameIndex := 15, descriptorIndex := 6, attributes := #[] }, { accessFlags := 16409, nameIndex := 18, descriptorIndex := 6, attributes := #[] }, { accessFlags := 16409, nameIndex := 21, descriptorIndex := 6, attributes := #[] }, { accessFlags := 16409, nameIndex := 24, descriptorIndex := 6, attributes := #[] }, { accessFlags := 16409, nameIndex := 27, descriptorIndex := 6, attributes := #[] }, { accessFlags := 16409, nameIndex := 30, descriptorIndex := 6, attributes := #[] }, { accessFlags := 16409, nameIndex := 33, descriptorIndex := 6, attributes := #[] }, { accessFlags := 16409, nameIndex := 36, descriptorIndex := 6, attributes := #[] }, { accessFlags := 16409, nameIndex := 39, descriptorIndex := 6, attributes := #[] }, { accessFlags := 16409, nameIndex := 42, descriptorIndex := 6, attributes := #[] }, { accessFlags := 16409, nameIndex := 45, descriptorIndex := 6, attributes := #[] }, { accessFlags := 16409, nameIndex := 48, descriptorIndex := 6, attributes := #[] }, { accessFlags := 16409, nameIndex := 51, descriptorIndex := 6, attributes := #[] }, { accessFlags := 16409, nameIndex := 54, descriptorIndex := 6, attributes := #[] }, { accessFlags := 16409, nameIndex := 57, descriptorIndex := 6, attributes := #[] }, { accessFlags := 16409, nameIndex := 60, descriptorIndex := 6, attributes := #[] }, { accessFlags := 26, nameIndex := 89, descriptorIndex := 90, attributes := #[] }, { accessFlags := 18, nameIndex := 82, descriptorIndex := 6, attributes := #[] }, { accessFlags := 18, nameIndex := 85, descriptorIndex := 86, attributes := #[] }, { accessFlags := 4122, nameIndex := 63, descriptorIndex := 64, attributes := #[] }])
  fields := #[{ name := "LITERAL", type := (.object "com/example/dioscuri/dioscuri/el/ElDatatype"), accessFlags := 16409, slot := 0, constantValue := 0 }, { name := "REAL", type := (.object "com/example/dioscuri/dioscuri/el/ElDatatype"), accessFlags := 16409, slot := 1, constantValue := 0 }, { name := "RATIONAL", type := (.object "com/example/dioscuri/dioscuri/el/ElDatatype"), accessFlags := 16409, slot := 2, constantValue := 0 }, { name := "DECIMAL", type := (.object "com/example/dioscuri/dioscuri/el/ElDatatype"), accessFlags := 16409, slot := 3, constantValue := 0 }, { name := "INTEGER", type := (.object "com/example/dioscuri/dioscuri/el/ElDatatype"), accessFlags := 16409, slot := 4, constantValue := 0 }, { name := "NON_NEGATIVE_INTEGER", type := (.object "com/example/dioscuri/dioscuri/el/ElDatatype"), accessFlags := 16409, slot := 5, constantValue := 0 }, { name := "PLAIN_LITERAL", type := (.object "com/example/dioscuri/dioscuri/el/ElDatatype"), accessFlags := 16409, slot := 6, constantValue := 0 }, { name := "STRING", type := (.object "com/example/dioscuri/dioscuri/el/ElDatatype"), accessFlags := 16409, slot := 7, constantValue := 0 }, { name := "NORMALIZED_STRING", type := (.object "com/example/dioscuri/dioscuri/el/ElDatatype"), accessFlags := 16409, slot := 8, constantValue := 0 }, { name := "TOKEN", type := (.object "com/example/dioscuri/dioscuri/el/ElDatatype"), accessFlags := 16409, slot := 9, constantValue := 0 }, { name := "NMTOKEN", type := (.object "com/example/dioscuri/dioscuri/el/ElDatatype"), accessFlags := 16409, slot := 10, constantValue := 0 }, { name := "NAME", type := (.object "com/example/dioscuri/dioscuri/el/ElDatatype"), accessFlags := 16409, slot := 11, constantValue := 0 }, { name := "NCNAME", type := (.object "com/example/dioscuri/dioscuri/el/ElDatatype"), accessFlags := 16409, slot := 12, constantValue := 0 }, { name := "DATE_TIME", type := (.object "com/example/dioscuri/dioscuri/el/ElDatatype"), accessFlags := 16409, slot := 13, constantValue := 0 }, { name := "DATE_TIME_STAMP", type := (.object "com/example/dioscuri/dioscuri/el/ElDatatype"), accessFlags := 16409, slot := 14, constantValue := 0 }, { name := "HEX_BINARY", type := (.object "com/example/dioscuri/dioscuri/el/ElDatatype"), accessFlags := 16409, slot := 15, constantValue := 0 }, { name := "BASE64_BINARY", type := (.object "com/example/dioscuri/dioscuri/el/ElDatatype"), accessFlags := 16409, slot := 16, constantValue := 0 }, { name := "ANY_URI", type := (.object "com/example/dioscuri/dioscuri/el/ElDatatype"), accessFlags := 16409, slot := 17, constantValue := 0 }, { name := "XML_LITERAL", type := (.object "com/example/dioscuri/dioscuri/el/ElDatatype"), accessFlags := 16409, slot := 18, constantValue := 0 }, { name := "BY_IRI", type := (.object "java/util/Map"), accessFlags := 26, slot := 19, constantValue := 0 }, { name := "within", type := (.object "com/example/dioscuri/dioscuri/el/ElDatatype"), accessFlags := 18, slot := 3, constantValue := 0 }, { name := "iri", type := (.object "java/lang/String"), accessFlags := 18, slot := 4, constantValue := 0 }, { name := "$VALUES", type := (.array (.object "com/example/dioscuri/dioscuri/el/ElDatatype")), accessFlags := 4122, slot := 20, constantValue := 0 }]
  methods := #[k6m0]
  instanceTypes := #[(.object "java/lang/String"), .int, .int, (.object "com/example/dioscuri/dioscuri/el/ElDatatype"), (.object "java/lang/String")]
  staticTypes := #[(.object "com/example/dioscuri/dioscuri/el/ElDatatype"), (.object "com/example/dioscuri/dioscuri/el/ElDatatype"), (.object "com/example/dioscuri/dioscuri/el/ElDatatype"), (.object "com/example/dioscuri/dioscuri/el/ElDatatype"), (.object "com/example/dioscuri/dioscuri/el/ElDatatype"), (.object "com/example/dioscuri/dioscuri/el/ElDatatype"), (.object "com/example/dioscuri/dioscuri/el/ElDatatype"), (.object "com/example/dioscuri/dioscuri/el/ElDatatype"), (.object "com/example/dioscuri/dioscuri/el/ElDatatype"), (.object "com/example/dioscuri/dioscuri/el/ElDatatype"), (.object "com/example/dioscuri/dioscuri/el/ElDatatype"), (.object "com/example/dioscuri/dioscuri/el/ElDatatype"), (.object "com/example/dioscuri/dioscuri/el/ElDatatype"), (.object "com/example/dioscuri/dioscuri/el/ElDatatype"), (.object "com/example/dioscuri/dioscuri/el/ElDatatype"), (.object "com/example/dioscuri/dioscuri/el/ElDatatype"), (.object "com/example/dioscuri/dioscuri/el/ElDatatype"), (.object "com/example/dioscuri/dioscuri/el/ElDatatype"), (.object "com/example/dioscuri/dioscuri/el/ElDatatype"), (.object "java/util/Map"), (.array (.object "com/example/dioscuri/dioscuri/el/ElDatatype"))]
  resolved := Array.replicate 193 none
  statics := some 0 }

def pool7 : Array CpInfo := pool [(1, u "java/lang/Cloneable"), (0, .class_ 1), (0, u "java/lang/Object"), (0, .class_ 3)] 3

/-- java/lang/Cloneable -/
def k7 : Class := { plain "java/lang/Cloneable" (some 0) with
  accessFlags := 1537
  interfaces := #[]
  cf := some (fileOf pool7 2 #[] #[] 1537 4 #[] #[])
  fields := #[]
  methods := #[]
  instanceTypes := #[]
  staticTypes := #[]
  resolved := Array.replicate 8 none
  statics := none }

/-- the primitive byte -/
def k8 : Class := { plain "byte" none with kind := .primitive 'B', accessFlags := 0x411 }
/-- [B -/
def k9 : Class := { plain "[B" (some 0) with kind := .array 8 .byte, interfaces := #[7, 4], accessFlags := 1041 }

/-- the primitive int -/
def k10 : Class := { plain "int" none with kind := .primitive 'I', accessFlags := 0x411 }
/-- [I -/
def k11 : Class := { plain "[I" (some 0) with kind := .array 10 .int, interfaces := #[7, 4], accessFlags := 1041 }

/-- [Lcom/example/dioscuri/dioscuri/el/ElDatatype; -/
def k12 : Class := { plain "[Lcom/example/dioscuri/dioscuri/el/ElDatatype;" (some 0) with kind := .array 6 (.object "com/example/dioscuri/dioscuri/el/ElDatatype"), interfaces := #[7, 4], accessFlags := 1041 }

def heap : Heap := #[{ cls := 6, slots := #[.ref 1, .ref 2, .ref 3, .ref 4, .ref 5, .ref 6, .ref 7, .ref 8, .ref 9, .ref 10, .ref 11, .ref 12, .ref 13, .ref 14, .ref 15, .ref 16, .ref 17, .ref 18, .ref 19, .null, .null], vm := .statics 6 },
  { cls := 6, slots := #[.null, .int 0, .int 0, .null, .null], vm := .none },
  { cls := 6, slots := #[.null, .int 1, .int 0, .ref 1, .null], vm := .none },
  { cls := 6, slots := #[.null, .int 2, .int 0, .ref 2, .null], vm := .none },
  { cls := 6, slots := #[.null, .int 3, .int 0, .ref 3, .null], vm := .none },
  { cls := 6, slots := #[.null, .int 4, .int 0, .ref 4, .null], vm := .none },
  { cls := 6, slots := #[.null, .int 5, .int 0, .ref 5, .null], vm := .none },
  { cls := 6, slots := #[.null, .int 6, .int 0, .ref 1, .null], vm := .none },
  { cls := 6, slots := #[.null, .int 7, .int 0, .ref 7, .null], vm := .none },
  { cls := 6, slots := #[.null, .int 8, .int 0, .ref 8, .null], vm := .none },
  { cls := 6, slots := #[.null, .int 9, .int 0, .ref 9, .null], vm := .none },
  { cls := 6, slots := #[.null, .int 10, .int 0, .ref 10, .null], vm := .none },
  { cls := 6, slots := #[.null, .int 11, .int 0, .ref 11, .null], vm := .none },
  { cls := 6, slots := #[.null, .int 12, .int 0, .ref 12, .null], vm := .none },
  { cls := 6, slots := #[.null, .int 13, .int 0, .ref 1, .null], vm := .none },
  { cls := 6, slots := #[.null, .int 14, .int 0, .ref 14, .null], vm := .none },
  { cls := 6, slots := #[.null, .int 15, .int 0, .ref 1, .null], vm := .none },
  { cls := 6, slots := #[.null, .int 16, .int 0, .ref 1, .null], vm := .none },
  { cls := 6, slots := #[.null, .int 17, .int 0, .ref 1, .null], vm := .none },
  { cls := 6, slots := #[.null, .int 18, .int 0, .ref 1, .null], vm := .none }]
def classes : Array Class := #[k0, k1, k2, k3, k4, k5, k6, k7, k8, k9, k10, k11, k12]
def interned : List (Array UInt16 × Addr) := []
def slotsUsed : Nat := 116
def theMethod : MethodId := ⟨1, 1⟩
def args0 : Array Value := #[.int 5, .int 6]
def aboutOver (below : List Frame) : State where
  vm := { classes := classes, interned := interned.toArray }
  heap := heap
  slotsUsed := slotsUsed
  threads := #[{ frames := .invoking theMethod args0 :: below }]
def below0 : List Frame := [.native { method := ⟨0, 0⟩, args := #[] }]
def about1 : State := aboutOver below0
def p0 : Program := .bare "" "" ""
def e0 : Env := launch0.env 0 0 0
theorem w_frames : about1.frames = Frame.invoking theMethod args0 :: below0 := rfl
set_option maxRecDepth 65536 in
theorem w_args : argsFit about1.vm theMethod args0 = true := by decide +kernel
set_option maxRecDepth 65536 in
theorem w_heap : heapFits about1 = true := by decide +kernel
set_option maxRecDepth 65536 in
theorem w_runnable : about1.curStatus? = some .runnable := by decide +kernel
set_option maxRecDepth 65536 in
theorem w_alone : about1.alone = true := by decide +kernel
set_option maxRecDepth 65536 in
theorem w_named : about1.methodNamed? x = some theMethod := by decide +kernel
set_option maxRecDepth 65536 in
theorem w_hears : about1.hears theMethod below0 = true := by decide +kernel
set_option maxRecDepth 65536 in
theorem w_ripe : about1.ripe theMethod args0 below0 = true := by decide +kernel
theorem w_running : about1.status = .running := rfl
set_option maxRecDepth 65536 in
theorem w_room : about1.hasRoom e0.platform room_1 = true :=
  launch0.hasRoom_least _ room_1 (by decide +kernel) (by decide +kernel) (by decide +kernel) (by decide +kernel) (by decide +kernel) (by decide +kernel)
theorem allAtoms_all (ts : List Jvm.Cond) (a : Array Jvm.Value) (st : Jvm.State) : (allAtoms ts).before a st = ts.all (fun c => c.before a st) := by
  induction ts with
  | nil => rfl
  | cons c t ih =>
    show (Jvm.Cond.and c (allAtoms t)).before a st = _
    rw [Jvm.Cond.before_and, ih, List.all_cons]
def words1 : List Jvm.Cond := Jvm.Cond.code x code maxLocals ret :: tables_1
/-- a 'code' word, met by the world's own term for the bytes: nothing is compared byte by byte -/
theorem code_word {y : MethodName} {bytes : ByteArray} {mx : Nat} {rt : Option FieldType} {a : Array Value} {s : State} {m : MethodId} {meth : Method} {c : Code} (h1 : s.methodNamed? y = some m) (h2 : s.vm.method? m = some meth) (h3 : meth.code = some c) (h4 : c.code = bytes)
    (h5 : (c.maxLocals == mx && c.exceptionTable.isEmpty && decide (c.maxStack ≤ mostOperands) && decide (meth.sig.returnType = rt) && !meth.locks && decide (parseMethodDescriptor y.desc = some meth.sig)) = true) : (Jvm.Cond.code y bytes mx rt).before a s = true := by
  simp only [Bool.and_eq_true, beq_iff_eq, Bool.not_eq_true', decide_eq_true_eq] at h5
  obtain ⟨⟨⟨⟨⟨g1, g2⟩, g3⟩, g4⟩, g5⟩, g6⟩ := h5
  simp [Cond.before, Cond.holds, Cond.value, h1, h2, h3, h4, g1, g2, g3, g4, g5, g6]
def isCode : Jvm.Cond → Bool
  | .code _ _ _ _ => true
  | _ => false
theorem all_split {L : List Jvm.Cond} {P : Jvm.Cond → Bool} (h1 : L.all (fun c => isCode c || P c) = true) (h2 : ∀ c ∈ L.filter isCode, P c = true) : L.all P = true := by
  refine List.all_eq_true.mpr fun c hc => ?_
  have h := List.all_eq_true.mp h1 c hc
  rcases Bool.eq_false_or_eq_true (isCode c) with hi | hi
  · exact h2 c (List.mem_filter.mpr ⟨hc, hi⟩)
  · simpa [hi] using h
set_option maxRecDepth 65536 in
theorem w_c0 : (Jvm.Cond.code x code maxLocals ret).before args0 about1 = true := code_word (m := ⟨1, 1⟩) (meth := k1m1) (c := k1c1) (by decide +kernel) rfl rfl rfl (by decide +kernel)
set_option maxRecDepth 65536 in
theorem w_c1 : (Jvm.Cond.code ({ cls := "com/example/dioscuri/dioscuri/el/ElDatatype", name := "isWithin", desc := "(Lcom/example/dioscuri/dioscuri/el/ElDatatype;)Z" } : Jvm.MethodName) prog_15_method_5_code (3 : Nat) (Option.some Jvm.ClassFile.FieldType.boolean)).before args0 about1 = true := code_word (m := ⟨6, 0⟩) (meth := k6m0) (c := k6c0) (by decide +kernel) rfl rfl rfl (by decide +kernel)
def codes1 : List Jvm.Cond := [Jvm.Cond.code x code maxLocals ret, Jvm.Cond.code ({ cls := "com/example/dioscuri/dioscuri/el/ElDatatype", name := "isWithin", desc := "(Lcom/example/dioscuri/dioscuri/el/ElDatatype;)Z" } : Jvm.MethodName) prog_15_method_5_code (3 : Nat) (Option.some Jvm.ClassFile.FieldType.boolean)]
set_option maxRecDepth 65536 in
theorem codes_eq : words1.filter isCode = codes1 := rfl
theorem w_codes : ∀ c ∈ words1.filter isCode, c.before args0 about1 = true := by
  rw [codes_eq]
  intro c hc
  simp only [codes1, List.mem_cons, List.not_mem_nil, or_false] at hc
  rcases hc with rfl | rfl
  · exact w_c0
  · exact w_c1
set_option maxRecDepth 65536 in
theorem w_t1 : (words1.take 24).all (fun c => isCode c || c.before args0 about1) = true := by decide +kernel
set_option maxRecDepth 65536 in
theorem w_t2 : ((words1.drop 24).take 24).all (fun c => isCode c || c.before args0 about1) = true := by decide +kernel
set_option maxRecDepth 65536 in
theorem w_t3 : ((words1.drop 24).drop 24).all (fun c => isCode c || c.before args0 about1) = true := by decide +kernel
theorem w_tables : (allAtoms (Jvm.Cond.code x code maxLocals ret :: tables_1)).before args0 about1 = true := by
  rw [allAtoms_all]
  show words1.all (fun c => c.before args0 about1) = true
  refine all_split ?_ w_codes
  rw [← List.take_append_drop 24 words1, List.all_append, w_t1, ← List.take_append_drop 24 (words1.drop 24), List.all_append, w_t2, w_t3]
  rfl
set_option maxRecDepth 65536 in
theorem w_case : (Jvm.Cond.and given_1 narrow_1).before args0 about1 = true := by decide +kernel
theorem w_applies : (headSpec (Jvm.Cond.code x code maxLocals ret :: tables_1) room_1).applies x e0.platform about1 = true :=
  (Spec.applies_iff w_frames).mpr ⟨w_running, w_runnable, w_alone, w_named, w_hears, w_ripe, w_room, w_tables⟩
theorem atStart : AtStart classFile x code maxLocals ret World_1 tables_1 room_1 Calls_1 rest_1 Pre_1 launch0 p0 e0 about1 theMethod args0 below0 :=
  ⟨lists_1, trivial, launch0.admits_env _ _ _, launch0.least_env, fairChoices_fair.cas, fairChoices_fair.clock, w_frames, w_args, w_heap, w_applies, trivial, trivial, w_case⟩
end start1
theorem witness_1 : WitnessClaimed_1 := ⟨start1.p0, start1.e0, start1.about1, start1.theMethod, start1.args0, start1.below0, start1.atStart⟩
end Jvm.Pilot.@@N@@
