import JvmDerived
import JvmDerived.Pilot.@@N@@Statement
import JvmDerived.Pilot.@@N@@Code
set_option linter.unusedVariables false
set_option linter.unusedSimpArgs false
namespace Jvm.Pilot.@@N@@
open Jvm Jvm.ClassFile Sem Op Lib Jvm.Free Jvm.Stand Jvm.LawKit Jvm.RoadKit Bundle Jvm.Pilot.@@N@@.Jvm.D
section OwnPre
/-- where the run stands, with all that stays true of the body -/
def St (p : Program) (l : Launch) (e : Env) (R : Room) (s : State) (m : MethodId) (args : Array Value) (below : List Frame) (meth : Method) (c : Code) (Z : State) (own : String) (bytes : ByteArray) (ml n0 : Nat) (ret : Option FieldType) (nm : String) (T : State) (h : Heap) (cells slots : Nat) : Prop :=
  ∃ locs, Stand p l e R s m args below meth c T locs cells slots ∧ Fr n0 locs ∧ T.heap = h ∧ p.tables.exec = Jvm.exec ∧ Z.Warmed39 s.vm ∧ s.vm.findClass own = some m.cls ∧ c.code = bytes ∧ c.maxLocals = ml ∧ meth.locks = false ∧ n0 ≤ s.heap.size ∧ meth.sig.returnType = ret ∧ meth.name = nm
def Wp (p : Program) (e : Env) (below : List Frame) (PO : Outcome → State → Prop) (T : State) (g : JFrame) : Prop := ∃ t o, Steps p.tables e below (T.setTop g) t ∧ t.status = .running ∧ Ended t below o ∧ PO o t
def Po (s : State) (n0 : Nat) (R : Room) (Q : Option Value → Heap → Prop) (o : Outcome) (t : State) : Prop := ∃ v L, o = .returned v ∧ (Q v t.heap ∧ Fr n0 L) ∧ FrameEnd s o t L R.cells R.slots
def Ct (l : Launch) (y : MethodName) (bytes : ByteArray) (ml : Nat) (ret : Option FieldType) (ws : List Jvm.Cond) (R : Room) (Z : State) (h0 : Heap) (n0 : Nat) (as : Array Value) (Q : Option Value → Heap → Prop) : Prop :=
  MetFree l y (head1 (Jvm.Cond.code y bytes ml ret :: ws) R) (fun a U => a = as ∧ Z.Warmed39 U.vm ∧ U.heap = h0) (fun _ _ _ _ _ => True) (fun _ U o U' => Po U n0 R Q o U')
variable {p : Program} {l : Launch} {e : Env} {R : Room} {s : State} {m : MethodId} {args : Array Value} {below : List Frame} {meth : Method} {c : Code} {Z : State} {own : String} {bytes : ByteArray} {ml n0 : Nat} {ret : Option FieldType} {nm : String} {T : State} {h : Heap} {cells slots : Nat} {PO : Outcome → State → Prop} {a0 : Array Value} {pc q : Nat} {L : Array Slot} {st : List Value}
theorem o_body {y : MethodName} {ws : List Jvm.Cond} {h0 : Heap} {as : Array Value} {Q : Option Value → Heap → Prop} {L0 : Array Slot} (hpl : plainFor y = true) (hn : n0 ≤ h0.size) (hef : ∀ m, entryFrame m as ml = mkF m 0 L0 [])
    (k : ∀ (p : Program) (e : Env) (s : State) (m : MethodId) (below : List Frame) (meth : Method) (c : Code) (T : State), St p l e R s m as below meth c Z y.cls bytes ml n0 ret y.name T h0 0 0 → Wp p e below (Po s n0 R Q) T (mkF m 0 L0 [])) :
    Ct l y bytes ml ret ws R Z h0 n0 as Q := by
  refine MetFree.of_bodySF hpl hisR ?_
  intro p e s m args below meth c s₁ Bd hml0 hP hK
  obtain ⟨rfl, hZ, hh⟩ := hP
  have X0 : Stand p l e R s m args below meth c s₁ [] 0 0 := Stand.of_body Bd
  have e0 : s₁.heap = h0 := by rw [← hh, Bd.state]; rfl
  obtain ⟨t, o, h1, h2, h3, h4⟩ := k p e s m below meth c s₁ ⟨[], X0, Fr.nil n0, e0, Bd.exec, hZ, findClass_of_methodNamed Bd.named, Bd.bytes, hml0, BodyLoose.notSynchronized Bd, (by rw [hh]; exact hn), Bd.returns, (name_of_methodNamed Bd.named Bd.method).1⟩
  exact ⟨t, o, castTop (hef m) h1, h2, h3, h4⟩
theorem o_st (S : St p l e R s m args below meth c Z own bytes ml n0 ret nm T h cells slots) {g g' : JFrame} (hs : ∀ t, At T m c below → p.tables.exec = Jvm.exec → c.code = bytes → Steps p.tables e below (T.setTop g') t → Steps p.tables e below (T.setTop g) t) (k : Wp p e below PO T g') : Wp p e below PO T g := by
  obtain ⟨locs, X, N, eT, hx, hZ, hown, hby, hml, hlk, hn, hrt, hnm⟩ := S
  obtain ⟨t, o, h1, h2⟩ := k
  exact ⟨t, o, hs t X.here hx hby h1, h2⟩
theorem o_to {T' : State} {g g' : JFrame} (hs : ∀ t, Steps p.tables e below (T'.setTop g') t → Steps p.tables e below (T.setTop g) t) (k : Wp p e below PO T' g') : Wp p e below PO T g := by
  obtain ⟨t, o, h1, h2⟩ := k
  exact ⟨t, o, hs t h1, h2⟩
theorem o_heap (S : St p l e R s m args below meth c Z own bytes ml n0 ret nm T h cells slots) : T.heap = h := by obtain ⟨locs, X, N, eT, -⟩ := S; exact eT
theorem o_n0 (S : St p l e R s m args below meth c Z own bytes ml n0 ret nm T h cells slots) : n0 ≤ h.size := by
  obtain ⟨locs, X, N, eT, hx, hZ, hown, hby, hml, hlk, hn, -⟩ := S
  have := X.same.2.1
  rw [← eT]; exact Nat.le_trans hn this
theorem o_wd {i : Nat} {d : Jvm.Cond} (hw : ∀ d ∈ tables_1, d.before a0 Z = true) (hi : tables_1[i]? = some d) : d.before a0 Z = true := hw _ (List.mem_of_getElem? hi)

theorem o_iloadN (S : St p l e R s m args below meth c Z own bytes ml n0 ret nm T h cells slots) {k : Fin 4} {v : Int32} (hl : L[k.val]? = some (.val (.int v))) (hd : decode bytes pc = .ok (.iload_n k, 1)) (hq : pc + 1 = q) (k : Wp p e below PO T (mkF m q L (.int v :: st))) : Wp p e below PO T (mkF m pc L (st)) := by
  subst hq
  exact o_st S (fun t X hx hy r => XS.iloadN X hx rfl (hb hy hd) hl r) k
theorem o_lloadN (S : St p l e R s m args below meth c Z own bytes ml n0 ret nm T h cells slots) {k : Fin 4} {v : Int64} (hl : L[k.val]? = some (.val (.long v))) (hd : decode bytes pc = .ok (.lload_n k, 1)) (hq : pc + 1 = q) (k : Wp p e below PO T (mkF m q L (.long v :: st))) : Wp p e below PO T (mkF m pc L (st)) := by
  subst hq
  exact o_st S (fun t X hx hy r => XS.lloadN X hx rfl (hb hy hd) hl r) k
theorem o_aloadN (S : St p l e R s m args below meth c Z own bytes ml n0 ret nm T h cells slots) {k : Fin 4} {v : Value} (hl : L[k.val]? = some (.val v)) (hv : v.isRef = true) (hd : decode bytes pc = .ok (.aload_n k, 1)) (hq : pc + 1 = q) (k : Wp p e below PO T (mkF m q L (v :: st))) : Wp p e below PO T (mkF m pc L (st)) := by
  subst hq
  exact o_st S (fun t X hx hy r => XS.aloadN X hx rfl (hb hy hd) hl hv r) k
theorem o_istoreN (S : St p l e R s m args below meth c Z own bytes ml n0 ret nm T h cells slots) {k : Fin 4} {x : Int32} {L' : Array Slot} (hl : storeLocals L k.val (.int x) = some L') (hd : decode bytes pc = .ok (.istore_n k, 1)) (hq : pc + 1 = q) (k : Wp p e below PO T (mkF m q L' (st))) : Wp p e below PO T (mkF m pc L (.int x :: st)) := by
  subst hq
  exact o_st S (fun t X hx hy r => XS.istoreN X hx rfl (hb hy hd) rfl hl r) k
theorem o_istoreVN (S : St p l e R s m args below meth c Z own bytes ml n0 ret nm T h cells slots) {k : Fin 4} {x : Int32} {L' : Int32 → Array Slot} (hl : ∀ v, storeLocals L k.val (.int v) = some (L' v)) (hd : decode bytes pc = .ok (.istore_n k, 1)) (hq : pc + 1 = q) (k : ∀ v, v = x → Wp p e below PO T (mkF m q (L' v) st)) : Wp p e below PO T (mkF m pc L (.int x :: st)) :=
  o_istoreN S (hl x) hd hq (k x rfl)
theorem o_lstoreN (S : St p l e R s m args below meth c Z own bytes ml n0 ret nm T h cells slots) {k : Fin 4} {x : Int64} {L' : Array Slot} (hl : storeLocals L k.val (.long x) = some L') (hd : decode bytes pc = .ok (.lstore_n k, 1)) (hq : pc + 1 = q) (k : Wp p e below PO T (mkF m q L' (st))) : Wp p e below PO T (mkF m pc L (.long x :: st)) := by
  subst hq
  exact o_st S (fun t X hx hy r => XS.lstoreN X hx rfl (hb hy hd) rfl hl r) k
theorem o_lstoreVN (S : St p l e R s m args below meth c Z own bytes ml n0 ret nm T h cells slots) {k : Fin 4} {x : Int64} {L' : Int64 → Array Slot} (hl : ∀ v, storeLocals L k.val (.long v) = some (L' v)) (hd : decode bytes pc = .ok (.lstore_n k, 1)) (hq : pc + 1 = q) (k : ∀ v, v = x → Wp p e below PO T (mkF m q (L' v) st)) : Wp p e below PO T (mkF m pc L (.long x :: st)) :=
  o_lstoreN S (hl x) hd hq (k x rfl)
theorem o_astoreN (S : St p l e R s m args below meth c Z own bytes ml n0 ret nm T h cells slots) {k : Fin 4} {x : Value} {L' : Array Slot} (hv : x.isRef = true) (hl : storeLocals L k.val x = some L') (hd : decode bytes pc = .ok (.astore_n k, 1)) (hq : pc + 1 = q) (k : Wp p e below PO T (mkF m q L' (st))) : Wp p e below PO T (mkF m pc L (x :: st)) := by
  subst hq
  exact o_st S (fun t X hx hy r => XS.astoreN X hx rfl (hb hy hd) rfl hv hl r) k
theorem o_iload (S : St p l e R s m args below meth c Z own bytes ml n0 ret nm T h cells slots) {k : Nat} {v : Int32} (hl : L[k]? = some (.val (.int v))) (hd : decode bytes pc = .ok (.iload k, 2)) (hq : pc + 2 = q) (k : Wp p e below PO T (mkF m q L (.int v :: st))) : Wp p e below PO T (mkF m pc L (st)) := by
  subst hq
  exact o_st S (fun t X hx hy r => XS.iload X hx rfl (hb hy hd) hl r) k
theorem o_lload (S : St p l e R s m args below meth c Z own bytes ml n0 ret nm T h cells slots) {k : Nat} {v : Int64} (hl : L[k]? = some (.val (.long v))) (hd : decode bytes pc = .ok (.lload k, 2)) (hq : pc + 2 = q) (k : Wp p e below PO T (mkF m q L (.long v :: st))) : Wp p e below PO T (mkF m pc L (st)) := by
  subst hq
  exact o_st S (fun t X hx hy r => XS.lload X hx rfl (hb hy hd) hl r) k
theorem o_aload (S : St p l e R s m args below meth c Z own bytes ml n0 ret nm T h cells slots) {k : Nat} {v : Value} (hl : L[k]? = some (.val v)) (hv : v.isRef = true) (hd : decode bytes pc = .ok (.aload k, 2)) (hq : pc + 2 = q) (k : Wp p e below PO T (mkF m q L (v :: st))) : Wp p e below PO T (mkF m pc L (st)) := by
  subst hq
  exact o_st S (fun t X hx hy r => XS.aload X hx rfl (hb hy hd) hl hv r) k
theorem o_istore (S : St p l e R s m args below meth c Z own bytes ml n0 ret nm T h cells slots) {k : Nat} {x : Int32} {L' : Array Slot} (hl : storeLocals L k (.int x) = some L') (hd : decode bytes pc = .ok (.istore k, 2)) (hq : pc + 2 = q) (k : Wp p e below PO T (mkF m q L' (st))) : Wp p e below PO T (mkF m pc L (.int x :: st)) := by
  subst hq
  exact o_st S (fun t X hx hy r => XS.istore X hx rfl (hb hy hd) rfl hl r) k
theorem o_istoreV (S : St p l e R s m args below meth c Z own bytes ml n0 ret nm T h cells slots) {k : Nat} {x : Int32} {L' : Int32 → Array Slot} (hl : ∀ v, storeLocals L k (.int v) = some (L' v)) (hd : decode bytes pc = .ok (.istore k, 2)) (hq : pc + 2 = q) (k : ∀ v, v = x → Wp p e below PO T (mkF m q (L' v) st)) : Wp p e below PO T (mkF m pc L (.int x :: st)) :=
  o_istore S (hl x) hd hq (k x rfl)
theorem o_lstore (S : St p l e R s m args below meth c Z own bytes ml n0 ret nm T h cells slots) {k : Nat} {x : Int64} {L' : Array Slot} (hl : storeLocals L k (.long x) = some L') (hd : decode bytes pc = .ok (.lstore k, 2)) (hq : pc + 2 = q) (k : Wp p e below PO T (mkF m q L' (st))) : Wp p e below PO T (mkF m pc L (.long x :: st)) := by
  subst hq
  exact o_st S (fun t X hx hy r => XS.lstore X hx rfl (hb hy hd) rfl hl r) k
theorem o_lstoreV (S : St p l e R s m args below meth c Z own bytes ml n0 ret nm T h cells slots) {k : Nat} {x : Int64} {L' : Int64 → Array Slot} (hl : ∀ v, storeLocals L k (.long v) = some (L' v)) (hd : decode bytes pc = .ok (.lstore k, 2)) (hq : pc + 2 = q) (k : ∀ v, v = x → Wp p e below PO T (mkF m q (L' v) st)) : Wp p e below PO T (mkF m pc L (.long x :: st)) :=
  o_lstore S (hl x) hd hq (k x rfl)
theorem o_astore (S : St p l e R s m args below meth c Z own bytes ml n0 ret nm T h cells slots) {k : Nat} {x : Value} {L' : Array Slot} (hv : x.isRef = true) (hl : storeLocals L k x = some L') (hd : decode bytes pc = .ok (.astore k, 2)) (hq : pc + 2 = q) (k : Wp p e below PO T (mkF m q L' (st))) : Wp p e below PO T (mkF m pc L (x :: st)) := by
  subst hq
  exact o_st S (fun t X hx hy r => XS.astore X hx rfl (hb hy hd) rfl hv hl r) k
theorem o_iconst (S : St p l e R s m args below meth c Z own bytes ml n0 ret nm T h cells slots) {i : Int} {z : Int32} (hz : Int32.ofInt i = z) (hd : decode bytes pc = .ok (.iconst i, 1)) (hq : pc + 1 = q) (k : Wp p e below PO T (mkF m q L (.int z :: st))) : Wp p e below PO T (mkF m pc L (st)) := by
  subst hq
  exact o_st S (fun t X hx hy r => XS.iconst X hx rfl (hb hy hd) (hz ▸ r)) k
theorem o_bipush (S : St p l e R s m args below meth c Z own bytes ml n0 ret nm T h cells slots) {i : Int} {z : Int32} (hz : (Int8.ofInt i).toInt32 = z) (hd : decode bytes pc = .ok (.bipush i, 2)) (hq : pc + 2 = q) (k : Wp p e below PO T (mkF m q L (.int z :: st))) : Wp p e below PO T (mkF m pc L (st)) := by
  subst hq
  exact o_st S (fun t X hx hy r => XS.bipush X hx rfl (hb hy hd) (hz ▸ r)) k
theorem o_sipush (S : St p l e R s m args below meth c Z own bytes ml n0 ret nm T h cells slots) {i : Int} {z : Int32} (hz : (Int16.ofInt i).toInt32 = z) (hd : decode bytes pc = .ok (.sipush i, 3)) (hq : pc + 3 = q) (k : Wp p e below PO T (mkF m q L (.int z :: st))) : Wp p e below PO T (mkF m pc L (st)) := by
  subst hq
  exact o_st S (fun t X hx hy r => XS.sipush X hx rfl (hb hy hd) (hz ▸ r)) k
theorem o_lconst (S : St p l e R s m args below meth c Z own bytes ml n0 ret nm T h cells slots) {i : Fin 2} {z : Int64} (hz : Int64.ofNat i = z) (hd : decode bytes pc = .ok (.lconst i, 1)) (hq : pc + 1 = q) (k : Wp p e below PO T (mkF m q L (.long z :: st))) : Wp p e below PO T (mkF m pc L (st)) := by
  subst hq
  exact o_st S (fun t X hx hy r => XS.lconst X hx rfl (hb hy hd) (hz ▸ r)) k
theorem o_aconstNull (S : St p l e R s m args below meth c Z own bytes ml n0 ret nm T h cells slots)  (hd : decode bytes pc = .ok (.aconst_null, 1)) (hq : pc + 1 = q) (k : Wp p e below PO T (mkF m q L (.null :: st))) : Wp p e below PO T (mkF m pc L (st)) := by
  subst hq
  exact o_st S (fun t X hx hy r => XS.aconstNull X hx rfl (hb hy hd) r) k
theorem o_iadd (S : St p l e R s m args below meth c Z own bytes ml n0 ret nm T h cells slots) {x y : Int32} (hd : decode bytes pc = .ok (.iadd, 1)) (hq : pc + 1 = q) (k : Wp p e below PO T (mkF m q L (.int (x + y) :: st))) : Wp p e below PO T (mkF m pc L (.int y :: .int x :: st)) := by
  subst hq
  exact o_st S (fun t X hx hy r => XS.iadd X hx rfl (hb hy hd) rfl r) k
theorem o_ladd (S : St p l e R s m args below meth c Z own bytes ml n0 ret nm T h cells slots) {x y : Int64} (hd : decode bytes pc = .ok (.ladd, 1)) (hq : pc + 1 = q) (k : Wp p e below PO T (mkF m q L (.long (x + y) :: st))) : Wp p e below PO T (mkF m pc L (.long y :: .long x :: st)) := by
  subst hq
  exact o_st S (fun t X hx hy r => XS.ladd X hx rfl (hb hy hd) rfl r) k
theorem o_isub (S : St p l e R s m args below meth c Z own bytes ml n0 ret nm T h cells slots) {x y : Int32} (hd : decode bytes pc = .ok (.isub, 1)) (hq : pc + 1 = q) (k : Wp p e below PO T (mkF m q L (.int (x - y) :: st))) : Wp p e below PO T (mkF m pc L (.int y :: .int x :: st)) := by
  subst hq
  exact o_st S (fun t X hx hy r => XS.isub X hx rfl (hb hy hd) rfl r) k
theorem o_lsub (S : St p l e R s m args below meth c Z own bytes ml n0 ret nm T h cells slots) {x y : Int64} (hd : decode bytes pc = .ok (.lsub, 1)) (hq : pc + 1 = q) (k : Wp p e below PO T (mkF m q L (.long (x - y) :: st))) : Wp p e below PO T (mkF m pc L (.long y :: .long x :: st)) := by
  subst hq
  exact o_st S (fun t X hx hy r => XS.lsub X hx rfl (hb hy hd) rfl r) k
theorem o_imul (S : St p l e R s m args below meth c Z own bytes ml n0 ret nm T h cells slots) {x y : Int32} (hd : decode bytes pc = .ok (.imul, 1)) (hq : pc + 1 = q) (k : Wp p e below PO T (mkF m q L (.int (x * y) :: st))) : Wp p e below PO T (mkF m pc L (.int y :: .int x :: st)) := by
  subst hq
  exact o_st S (fun t X hx hy r => XS.imul X hx rfl (hb hy hd) rfl r) k
theorem o_lmul (S : St p l e R s m args below meth c Z own bytes ml n0 ret nm T h cells slots) {x y : Int64} (hd : decode bytes pc = .ok (.lmul, 1)) (hq : pc + 1 = q) (k : Wp p e below PO T (mkF m q L (.long (x * y) :: st))) : Wp p e below PO T (mkF m pc L (.long y :: .long x :: st)) := by
  subst hq
  exact o_st S (fun t X hx hy r => XS.lmul X hx rfl (hb hy hd) rfl r) k
theorem o_iand (S : St p l e R s m args below meth c Z own bytes ml n0 ret nm T h cells slots) {x y : Int32} (hd : decode bytes pc = .ok (.iand, 1)) (hq : pc + 1 = q) (k : Wp p e below PO T (mkF m q L (.int (x &&& y) :: st))) : Wp p e below PO T (mkF m pc L (.int y :: .int x :: st)) := by
  subst hq
  exact o_st S (fun t X hx hy r => XS.iand X hx rfl (hb hy hd) rfl r) k
theorem o_land (S : St p l e R s m args below meth c Z own bytes ml n0 ret nm T h cells slots) {x y : Int64} (hd : decode bytes pc = .ok (.land, 1)) (hq : pc + 1 = q) (k : Wp p e below PO T (mkF m q L (.long (x &&& y) :: st))) : Wp p e below PO T (mkF m pc L (.long y :: .long x :: st)) := by
  subst hq
  exact o_st S (fun t X hx hy r => XS.land X hx rfl (hb hy hd) rfl r) k
theorem o_ior (S : St p l e R s m args below meth c Z own bytes ml n0 ret nm T h cells slots) {x y : Int32} (hd : decode bytes pc = .ok (.ior, 1)) (hq : pc + 1 = q) (k : Wp p e below PO T (mkF m q L (.int (x ||| y) :: st))) : Wp p e below PO T (mkF m pc L (.int y :: .int x :: st)) := by
  subst hq
  exact o_st S (fun t X hx hy r => XS.ior X hx rfl (hb hy hd) rfl r) k
theorem o_lor (S : St p l e R s m args below meth c Z own bytes ml n0 ret nm T h cells slots) {x y : Int64} (hd : decode bytes pc = .ok (.lor, 1)) (hq : pc + 1 = q) (k : Wp p e below PO T (mkF m q L (.long (x ||| y) :: st))) : Wp p e below PO T (mkF m pc L (.long y :: .long x :: st)) := by
  subst hq
  exact o_st S (fun t X hx hy r => XS.lor X hx rfl (hb hy hd) rfl r) k
theorem o_ixor (S : St p l e R s m args below meth c Z own bytes ml n0 ret nm T h cells slots) {x y : Int32} (hd : decode bytes pc = .ok (.ixor, 1)) (hq : pc + 1 = q) (k : Wp p e below PO T (mkF m q L (.int (x ^^^ y) :: st))) : Wp p e below PO T (mkF m pc L (.int y :: .int x :: st)) := by
  subst hq
  exact o_st S (fun t X hx hy r => XS.ixor X hx rfl (hb hy hd) rfl r) k
theorem o_lxor (S : St p l e R s m args below meth c Z own bytes ml n0 ret nm T h cells slots) {x y : Int64} (hd : decode bytes pc = .ok (.lxor, 1)) (hq : pc + 1 = q) (k : Wp p e below PO T (mkF m q L (.long (x ^^^ y) :: st))) : Wp p e below PO T (mkF m pc L (.long y :: .long x :: st)) := by
  subst hq
  exact o_st S (fun t X hx hy r => XS.lxor X hx rfl (hb hy hd) rfl r) k
theorem o_irem (S : St p l e R s m args below meth c Z own bytes ml n0 ret nm T h cells slots) {x y : Int32} (hy0 : y ≠ 0) (hd : decode bytes pc = .ok (.irem, 1)) (hq : pc + 1 = q) (k : Wp p e below PO T (mkF m q L (.int (x % y) :: st))) : Wp p e below PO T (mkF m pc L (.int y :: .int x :: st)) := by
  subst hq
  exact o_st S (fun t X hx hy r => XS.irem X hx rfl (hb hy hd) rfl hy0 (by have q : x - x / y * y = x % y := irem_eq_mod x y; rw [q]; exact r)) k
theorem o_idiv (S : St p l e R s m args below meth c Z own bytes ml n0 ret nm T h cells slots) {x y : Int32} (hy0 : y ≠ 0) (hd : decode bytes pc = .ok (.idiv, 1)) (hq : pc + 1 = q) (k : Wp p e below PO T (mkF m q L (.int (x / y) :: st))) : Wp p e below PO T (mkF m pc L (.int y :: .int x :: st)) := by
  subst hq
  exact o_st S (fun t X hx hy r => XS.idiv X hx rfl (hb hy hd) rfl hy0 r) k
theorem o_ineg (S : St p l e R s m args below meth c Z own bytes ml n0 ret nm T h cells slots) {x : Int32} (hd : decode bytes pc = .ok (.ineg, 1)) (hq : pc + 1 = q) (k : Wp p e below PO T (mkF m q L (.int (-x) :: st))) : Wp p e below PO T (mkF m pc L (.int x :: st)) := by
  subst hq
  exact o_st S (fun t X hx hy r => XS.ineg X hx rfl (hb hy hd) rfl r) k
theorem o_lneg (S : St p l e R s m args below meth c Z own bytes ml n0 ret nm T h cells slots) {x : Int64} (hd : decode bytes pc = .ok (.lneg, 1)) (hq : pc + 1 = q) (k : Wp p e below PO T (mkF m q L (.long (-x) :: st))) : Wp p e below PO T (mkF m pc L (.long x :: st)) := by
  subst hq
  exact o_st S (fun t X hx hy r => XS.lneg X hx rfl (hb hy hd) rfl r) k
theorem o_i2l (S : St p l e R s m args below meth c Z own bytes ml n0 ret nm T h cells slots) {x : Int32} (hd : decode bytes pc = .ok (.i2l, 1)) (hq : pc + 1 = q) (k : Wp p e below PO T (mkF m q L (.long x.toInt64 :: st))) : Wp p e below PO T (mkF m pc L (.int x :: st)) := by
  subst hq
  exact o_st S (fun t X hx hy r => XS.i2l X hx rfl (hb hy hd) rfl r) k
theorem o_l2i (S : St p l e R s m args below meth c Z own bytes ml n0 ret nm T h cells slots) {x : Int64} (hd : decode bytes pc = .ok (.l2i, 1)) (hq : pc + 1 = q) (k : Wp p e below PO T (mkF m q L (.int x.toInt32 :: st))) : Wp p e below PO T (mkF m pc L (.long x :: st)) := by
  subst hq
  exact o_st S (fun t X hx hy r => XS.l2i X hx rfl (hb hy hd) rfl r) k
theorem o_i2b (S : St p l e R s m args below meth c Z own bytes ml n0 ret nm T h cells slots) {x : Int32} (hd : decode bytes pc = .ok (.i2b, 1)) (hq : pc + 1 = q) (k : Wp p e below PO T (mkF m q L (.int x.toInt8.toInt32 :: st))) : Wp p e below PO T (mkF m pc L (.int x :: st)) := by
  subst hq
  exact o_st S (fun t X hx hy r => XS.i2b X hx rfl (hb hy hd) rfl r) k
theorem o_i2s (S : St p l e R s m args below meth c Z own bytes ml n0 ret nm T h cells slots) {x : Int32} (hd : decode bytes pc = .ok (.i2s, 1)) (hq : pc + 1 = q) (k : Wp p e below PO T (mkF m q L (.int x.toInt16.toInt32 :: st))) : Wp p e below PO T (mkF m pc L (.int x :: st)) := by
  subst hq
  exact o_st S (fun t X hx hy r => XS.i2s X hx rfl (hb hy hd) rfl r) k
theorem o_i2c (S : St p l e R s m args below meth c Z own bytes ml n0 ret nm T h cells slots) {x : Int32} (hd : decode bytes pc = .ok (.i2c, 1)) (hq : pc + 1 = q) (k : Wp p e below PO T (mkF m q L (.int x.toUInt32.toUInt16.toUInt32.toInt32 :: st))) : Wp p e below PO T (mkF m pc L (.int x :: st)) := by
  subst hq
  exact o_st S (fun t X hx hy r => XS.i2c X hx rfl (hb hy hd) rfl r) k
theorem o_ishl (S : St p l e R s m args below meth c Z own bytes ml n0 ret nm T h cells slots) {x y : Int32} (hd : decode bytes pc = .ok (.ishl, 1)) (hq : pc + 1 = q) (k : Wp p e below PO T (mkF m q L (.int (x <<< (y &&& 31)) :: st))) : Wp p e below PO T (mkF m pc L (.int y :: .int x :: st)) := by
  subst hq
  exact o_st S (fun t X hx hy r => XS.ishl X hx rfl (hb hy hd) rfl r) k
theorem o_ishr (S : St p l e R s m args below meth c Z own bytes ml n0 ret nm T h cells slots) {x y : Int32} (hd : decode bytes pc = .ok (.ishr, 1)) (hq : pc + 1 = q) (k : Wp p e below PO T (mkF m q L (.int (x >>> (y &&& 31)) :: st))) : Wp p e below PO T (mkF m pc L (.int y :: .int x :: st)) := by
  subst hq
  exact o_st S (fun t X hx hy r => XS.ishr X hx rfl (hb hy hd) rfl r) k
theorem o_iushr (S : St p l e R s m args below meth c Z own bytes ml n0 ret nm T h cells slots) {x y : Int32} (hd : decode bytes pc = .ok (.iushr, 1)) (hq : pc + 1 = q) (k : Wp p e below PO T (mkF m q L (.int ((x.toUInt32 >>> (y &&& 31).toUInt32).toInt32) :: st))) : Wp p e below PO T (mkF m pc L (.int y :: .int x :: st)) := by
  subst hq
  exact o_st S (fun t X hx hy r => XS.iushr X hx rfl (hb hy hd) rfl r) k
theorem o_lshl (S : St p l e R s m args below meth c Z own bytes ml n0 ret nm T h cells slots) {x : Int64} {y : Int32} (hd : decode bytes pc = .ok (.lshl, 1)) (hq : pc + 1 = q) (k : Wp p e below PO T (mkF m q L (.long (x <<< (y &&& 0x3f).toInt64) :: st))) : Wp p e below PO T (mkF m pc L (.int y :: .long x :: st)) := by
  subst hq
  exact o_st S (fun t X hx hy r => XS.lshl X hx rfl (hb hy hd) rfl r) k
theorem o_lshr (S : St p l e R s m args below meth c Z own bytes ml n0 ret nm T h cells slots) {x : Int64} {y : Int32} (hd : decode bytes pc = .ok (.lshr, 1)) (hq : pc + 1 = q) (k : Wp p e below PO T (mkF m q L (.long (x >>> (y &&& 0x3f).toInt64) :: st))) : Wp p e below PO T (mkF m pc L (.int y :: .long x :: st)) := by
  subst hq
  exact o_st S (fun t X hx hy r => XS.lshr X hx rfl (hb hy hd) rfl r) k
theorem o_lushr (S : St p l e R s m args below meth c Z own bytes ml n0 ret nm T h cells slots) {x : Int64} {y : Int32} (hd : decode bytes pc = .ok (.lushr, 1)) (hq : pc + 1 = q) (k : Wp p e below PO T (mkF m q L (.long ((x.toUInt64 >>> (y &&& 0x3f).toInt64.toUInt64).toInt64) :: st))) : Wp p e below PO T (mkF m pc L (.int y :: .long x :: st)) := by
  subst hq
  exact o_st S (fun t X hx hy r => XS.lushr X hx rfl (hb hy hd) rfl r) k
theorem o_lcmp (S : St p l e R s m args below meth c Z own bytes ml n0 ret nm T h cells slots) {x y : Int64} (hd : decode bytes pc = .ok (.lcmp, 1)) (hq : pc + 1 = q) (k : Wp p e below PO T (mkF m q L (.int (lcmpW x y) :: st))) : Wp p e below PO T (mkF m pc L (.long y :: .long x :: st)) := by
  subst hq
  exact o_st S (fun t X hx hy r => XS.lcmp X hx rfl (hb hy hd) rfl r) k
theorem o_dup (S : St p l e R s m args below meth c Z own bytes ml n0 ret nm T h cells slots) {x : Value} (hc : x.category = 1) (hd : decode bytes pc = .ok (.dup, 1)) (hq : pc + 1 = q) (k : Wp p e below PO T (mkF m q L (x :: x :: st))) : Wp p e below PO T (mkF m pc L (x :: st)) := by
  subst hq
  exact o_st S (fun t X hx hy r => XS.dup X hx rfl (hb hy hd) rfl hc r) k
theorem o_pop (S : St p l e R s m args below meth c Z own bytes ml n0 ret nm T h cells slots) {x : Value} (hc : x.category = 1) (hd : decode bytes pc = .ok (.pop, 1)) (hq : pc + 1 = q) (k : Wp p e below PO T (mkF m q L (st))) : Wp p e below PO T (mkF m pc L (x :: st)) := by
  subst hq
  exact o_st S (fun t X hx hy r => XS.pop X hx rfl (hb hy hd) rfl hc r) k
theorem o_dupX1 (S : St p l e R s m args below meth c Z own bytes ml n0 ret nm T h cells slots) {x y : Value} (hc : x.category = 1) (hc' : y.category = 1) (hd : decode bytes pc = .ok (.dup_x1, 1)) (hq : pc + 1 = q) (k : Wp p e below PO T (mkF m q L (x :: y :: x :: st))) : Wp p e below PO T (mkF m pc L (x :: y :: st)) := by
  subst hq
  exact o_st S (fun t X hx hy r => XS.dupX1 X hx rfl (hb hy hd) rfl hc hc' r) k
theorem o_dup2 (S : St p l e R s m args below meth c Z own bytes ml n0 ret nm T h cells slots) {x y : Value} (hc : x.category = 1) (hc' : y.category = 1) (hd : decode bytes pc = .ok (.dup2, 1)) (hq : pc + 1 = q) (k : Wp p e below PO T (mkF m q L (x :: y :: x :: y :: st))) : Wp p e below PO T (mkF m pc L (x :: y :: st)) := by
  subst hq
  exact o_st S (fun t X hx hy r => XT.dup2 X hx rfl (hb hy hd) rfl hc hc' r) k
theorem o_iinc (S : St p l e R s m args below meth c Z own bytes ml n0 ret nm T h cells slots) {k : Nat} {i : Int} {x : Int32} {L' : Array Slot} (hl : L[k]? = some (.val (.int x))) (hl' : storeLocals L k (.int (x + Int32.ofInt i)) = some L') (hd : decode bytes pc = .ok (.iinc k i, 3)) (hq : pc + 3 = q) (kk : Wp p e below PO T (mkF m q L' st)) : Wp p e below PO T (mkF m pc L st) := by
  subst hq
  exact o_st S (fun t X hx hy r => XS.iinc X hx rfl (hb hy hd) hl hl' r) kk
theorem o_goto (S : St p l e R s m args below meth c Z own bytes ml n0 ret nm T h cells slots) {o : Int} (hd : decode bytes pc = .ok (.goto o, 3)) (ho : 0 ≤ (pc : Int) + o) (hq : ((pc : Int) + o).toNat = q) (k : Wp p e below PO T (mkF m q L st)) : Wp p e below PO T (mkF m pc L st) :=
  o_st S (fun t X hx hy r => XS.goto X hx rfl rfl (hb hy hd) ho hq r) k
theorem o_ldc (S : St p l e R s m args below meth c Z own bytes ml n0 ret nm T h cells slots) {i : Nat} {z : Int32} (w : (Jvm.Cond.constant own i z).before a0 Z = true) (hd : decode bytes pc = .ok (.ldc i, 2)) (hq : pc + 2 = q) (k : Wp p e below PO T (mkF m q L (.int z :: st))) : Wp p e below PO T (mkF m pc L st) := by
  subst hq
  obtain ⟨locs, X, N, eT, hx, hZ, hown, hby, hml, hlk, hn, hrt, hnm⟩ := S
  exact o_to (X.ldcInt hx hown (mvT hZ w) (g := mkF m pc L st) rfl (hb hby hd)) k
theorem o_ldc2 (S : St p l e R s m args below meth c Z own bytes ml n0 ret nm T h cells slots) {i : Nat} {z : Int64} (w : (Jvm.Cond.constantLong own i z).before a0 Z = true) (hd : decode bytes pc = .ok (.ldc2_w i, 3)) (hq : pc + 3 = q) (k : Wp p e below PO T (mkF m q L (.long z :: st))) : Wp p e below PO T (mkF m pc L st) := by
  subst hq
  obtain ⟨locs, X, N, eT, hx, hZ, hown, hby, hml, hlk, hn, hrt, hnm⟩ := S
  exact o_to (X.ldc2Long hx hown (mvT hZ w) (g := mkF m pc L st) rfl (hb hby hd)) k
/-! branches: base conditions x < y (as integers) and x = y -/
theorem o_icmp (S : St p l e R s m args below meth c Z own bytes ml n0 ret nm T h cells slots) {cd : ClassFile.Cond} {x y : Int32} {o : Int} {q' : Nat} {P : Prop} (hd : decode bytes pc = .ok (.if_icmp cd o, 3)) (ho : 0 ≤ (pc : Int) + o) (hq' : ((pc : Int) + o).toNat = q') (hq : pc + 3 = q) (h1 : P → if_icmp.holds cd x y = true) (h2 : ¬ P → if_icmp.holds cd x y = false) [Decidable P]
    (k1 : P → Wp p e below PO T (mkF m q' L st)) (k2 : ¬ P → Wp p e below PO T (mkF m q L st)) : Wp p e below PO T (mkF m pc L (.int y :: .int x :: st)) := by
  subst hq
  by_cases hP : P
  · exact o_st S (fun t X hx hy r => XS.icmpYes X hx rfl rfl (hb hy hd) rfl (h1 hP) ho hq' r) (k1 hP)
  · exact o_st S (fun t X hx hy r => XS.icmpNo X hx rfl (hb hy hd) rfl (h2 hP) r) (k2 hP)
theorem o_if (S : St p l e R s m args below meth c Z own bytes ml n0 ret nm T h cells slots) {cd : ClassFile.Cond} {x : Int32} {o : Int} {q' : Nat} {P : Prop} (hd : decode bytes pc = .ok (.ifCond cd o, 3)) (ho : 0 ≤ (pc : Int) + o) (hq' : ((pc : Int) + o).toNat = q') (hq : pc + 3 = q) (h1 : P → if_icmp.holds cd x 0 = true) (h2 : ¬ P → if_icmp.holds cd x 0 = false) [Decidable P]
    (k1 : P → Wp p e below PO T (mkF m q' L st)) (k2 : ¬ P → Wp p e below PO T (mkF m q L st)) : Wp p e below PO T (mkF m pc L (.int x :: st)) := by
  subst hq
  by_cases hP : P
  · exact o_st S (fun t X hx hy r => XS.ifYes X hx rfl rfl (hb hy hd) rfl ((if0 _ _).trans (h1 hP)) ho hq' r) (k1 hP)
  · exact o_st S (fun t X hx hy r => XS.ifNo X hx rfl (hb hy hd) rfl ((if0 _ _).trans (h2 hP)) r) (k2 hP)
theorem hs_lt {x y : Int32} {a b : Int} (ha : x.toInt = a) (hb : y.toInt = b) : (a < b → if_icmp.holds .lt x y = true) ∧ (¬ a < b → if_icmp.holds .lt x y = false) := by subst ha hb; exact ⟨fun h => (tlt (Int32.lt_iff_toInt_lt.mpr h)).1, fun h => (flt (fun g => h (Int32.lt_iff_toInt_lt.mp g))).1⟩
theorem hs_ge {x y : Int32} {a b : Int} (ha : x.toInt = a) (hb : y.toInt = b) : (b ≤ a → if_icmp.holds .ge x y = true) ∧ (¬ b ≤ a → if_icmp.holds .ge x y = false) := by subst ha hb; exact ⟨fun h => (flt (fun g => by have := Int32.lt_iff_toInt_lt.mp g; omega)).2.1, fun h => (tlt (Int32.lt_iff_toInt_lt.mpr (by omega))).2.1⟩
theorem hs_gt {x y : Int32} {a b : Int} (ha : x.toInt = a) (hb : y.toInt = b) : (b < a → if_icmp.holds .gt x y = true) ∧ (¬ b < a → if_icmp.holds .gt x y = false) := by subst ha hb; exact ⟨fun h => (tlt (Int32.lt_iff_toInt_lt.mpr h)).2.2.1, fun h => (flt (fun g => h (Int32.lt_iff_toInt_lt.mp g))).2.2.1⟩
theorem hs_le {x y : Int32} {a b : Int} (ha : x.toInt = a) (hb : y.toInt = b) : (a ≤ b → if_icmp.holds .le x y = true) ∧ (¬ a ≤ b → if_icmp.holds .le x y = false) := by subst ha hb; exact ⟨fun h => (flt (fun g => by have := Int32.lt_iff_toInt_lt.mp g; omega)).2.2.2, fun h => (tlt (Int32.lt_iff_toInt_lt.mpr (by omega))).2.2.2⟩
theorem hs_eq {x y : Int32} : (x = y → if_icmp.holds .eq x y = true) ∧ (¬ x = y → if_icmp.holds .eq x y = false) := ⟨fun h => (teq h).1, fun h => (feq h).1⟩
theorem hs_ne {x y : Int32} : (¬ x = y → if_icmp.holds .ne x y = true) ∧ (¬ ¬ x = y → if_icmp.holds .ne x y = false) := ⟨fun h => (feq h).2, fun h => (teq (Decidable.not_not.mp h)).2⟩
theorem hl_eq {x y : Int64} : (x = y → if_icmp.holds .eq (lcmpW x y) 0 = true) ∧ (¬ x = y → if_icmp.holds .eq (lcmpW x y) 0 = false) := ⟨fun h => (teq ((lw_eq x y).mpr h)).1, fun h => (feq (fun g => h ((lw_eq x y).mp g))).1⟩
theorem hl_ne {x y : Int64} : (¬ x = y → if_icmp.holds .ne (lcmpW x y) 0 = true) ∧ (¬ ¬ x = y → if_icmp.holds .ne (lcmpW x y) 0 = false) := ⟨fun h => (feq (fun g => h ((lw_eq x y).mp g))).2, fun h => (teq ((lw_eq x y).mpr (Decidable.not_not.mp h))).2⟩
theorem hl_lt {x y : Int64} {a b : Int} (ha : x.toInt = a) (hb : y.toInt = b) : (a < b → if_icmp.holds .lt (lcmpW x y) 0 = true) ∧ (¬ a < b → if_icmp.holds .lt (lcmpW x y) 0 = false) := by subst ha hb; exact ⟨fun h => (tlt ((lw_lt x y).mpr (Int64.lt_iff_toInt_lt.mpr h))).1, fun h => (flt (fun g => h (Int64.lt_iff_toInt_lt.mp ((lw_lt x y).mp g)))).1⟩
theorem hl_ge {x y : Int64} {a b : Int} (ha : x.toInt = a) (hb : y.toInt = b) : (b ≤ a → if_icmp.holds .ge (lcmpW x y) 0 = true) ∧ (¬ b ≤ a → if_icmp.holds .ge (lcmpW x y) 0 = false) := by subst ha hb; exact ⟨fun h => (flt (fun g => by have := Int64.lt_iff_toInt_lt.mp ((lw_lt x y).mp g); omega)).2.1, fun h => (tlt ((lw_lt x y).mpr (Int64.lt_iff_toInt_lt.mpr (by omega)))).2.1⟩
theorem hl_gt {x y : Int64} {a b : Int} (ha : x.toInt = a) (hb : y.toInt = b) : (b < a → if_icmp.holds .gt (lcmpW x y) 0 = true) ∧ (¬ b < a → if_icmp.holds .gt (lcmpW x y) 0 = false) := by subst ha hb; exact ⟨fun h => (tlt ((lw_gt x y).mpr (Int64.lt_iff_toInt_lt.mpr h))).2.2.1, fun h => (flt (fun g => h (Int64.lt_iff_toInt_lt.mp ((lw_gt x y).mp g)))).2.2.1⟩
theorem hl_le {x y : Int64} {a b : Int} (ha : x.toInt = a) (hb : y.toInt = b) : (a ≤ b → if_icmp.holds .le (lcmpW x y) 0 = true) ∧ (¬ a ≤ b → if_icmp.holds .le (lcmpW x y) 0 = false) := by subst ha hb; exact ⟨fun h => (flt (fun g => by have := Int64.lt_iff_toInt_lt.mp ((lw_gt x y).mp g); omega)).2.2.2, fun h => (tlt ((lw_gt x y).mpr (Int64.lt_iff_toInt_lt.mpr (by omega)))).2.2.2⟩
theorem o_ifnullY (S : St p l e R s m args below meth c Z own bytes ml n0 ret nm T h cells slots) {o : Int} (hd : decode bytes pc = .ok (.ifnull o, 3)) (ho : 0 ≤ (pc : Int) + o) (hq : ((pc : Int) + o).toNat = q) (k : Wp p e below PO T (mkF m q L st)) : Wp p e below PO T (mkF m pc L (.null :: st)) :=
  o_st S (fun t X hx hy r => XS.ifnullYes X hx rfl rfl (hb hy hd) rfl ho hq r) k
theorem o_ifnullN (S : St p l e R s m args below meth c Z own bytes ml n0 ret nm T h cells slots) {o : Int} {b : Addr} (hd : decode bytes pc = .ok (.ifnull o, 3)) (hq : pc + 3 = q) (k : Wp p e below PO T (mkF m q L st)) : Wp p e below PO T (mkF m pc L (.ref b :: st)) := by
  subst hq
  exact o_st S (fun t X hx hy r => XS.ifnullNo X hx rfl (hb hy hd) rfl r) k
theorem o_ifnonnullY (S : St p l e R s m args below meth c Z own bytes ml n0 ret nm T h cells slots) {o : Int} {b : Addr} (hd : decode bytes pc = .ok (.ifnonnull o, 3)) (ho : 0 ≤ (pc : Int) + o) (hq : ((pc : Int) + o).toNat = q) (k : Wp p e below PO T (mkF m q L st)) : Wp p e below PO T (mkF m pc L (.ref b :: st)) :=
  o_st S (fun t X hx hy r => XS.ifnonnullYes X hx rfl rfl (hb hy hd) rfl ho hq r) k
theorem o_ifnonnullN (S : St p l e R s m args below meth c Z own bytes ml n0 ret nm T h cells slots) {o : Int} (hd : decode bytes pc = .ok (.ifnonnull o, 3)) (hq : pc + 3 = q) (k : Wp p e below PO T (mkF m q L st)) : Wp p e below PO T (mkF m pc L (.null :: st)) := by
  subst hq
  exact o_st S (fun t X hx hy r => XS.ifnonnullNo X hx rfl (hb hy hd) rfl r) k
/-! returns -/
theorem o_ret {Q : Option Value → Heap → Prop} {w : Option Value} (S : St p l e R s m args below meth c Z own bytes ml n0 ret nm T h cells slots) {g : JFrame} (hv : meth.sig.returnType = none → w = none) (hc : cells ≤ R.cells) (hs : slots ≤ R.slots) (qq : Q w h)
    (hst : ∀ fs : List Frame, At T m c below → T.vm.method? m = some meth → p.tables.exec = Jvm.exec → c.code = bytes → (∀ locs, Stand p l e R s m args below meth c T locs cells slots → (∀ (f : JFrame) (acts : List Action), f.method = m → f.locked = none → f.entered = [] → (doReturn e (T.setTop f) acts w).1 = T.setFrames fs) → Steps p.tables e below (T.setTop g) (T.setFrames fs))) : Wp p e below (Po s n0 R Q) T g := by
  obtain ⟨locs, X, N, eT, hx, hZ, hown, hby, hml, hlk, hn, hrt, hnm⟩ := S
  obtain ⟨fs, hr, hrun, hended, hW, hsame⟩ := X.leave (v := w) hv hlk
  refine ⟨_, _, hst fs X.here X.method' hx hby locs X hr, hrun, hended, _, _, rfl, ⟨?_, N⟩, ⟨_, rfl⟩, hW, hsame.mono hc hs⟩
  show Q w T.heap
  rw [eT]; exact qq
theorem o_retI {Q : Option Value → Heap → Prop} {z : Int32} (S : St p l e R s m args below meth c Z own bytes ml n0 ret nm T h cells slots) (hret : ret = some .int) (hd : decode bytes pc = .ok (.ireturn, 1)) (hc : cells ≤ R.cells) (hs : slots ≤ R.slots) (qq : Q (some (.int z)) h) : Wp p e below (Po s n0 R Q) T (mkF m pc L (.int z :: st)) := by
  have hrt : meth.sig.returnType = some .int := by obtain ⟨locs, X, N, eT, hx, hZ, hown, hby, hml, hlk, hn, hrt, hnm⟩ := S; rw [hrt, hret]
  refine o_ret S (w := some (.int z)) (fun h => by rw [hrt] at h; cases h) hc hs qq fun fs hA hm hx hby locs X hr => ?_
  exact retOut X hx hrt rfl (Or.inl ⟨rfl, Or.inl rfl, z, rfl⟩) (hb hby hd) hr
theorem o_retN {Q : Option Value → Heap → Prop} {z : Int32} {t : FieldType} (S : St p l e R s m args below meth c Z own bytes ml n0 ret nm T h cells slots) (hret : ret = some t) (ht : t = .boolean ∨ t = .byte ∨ t = .char ∨ t = .short) (hd : decode bytes pc = .ok (.ireturn, 1)) (hc : cells ≤ R.cells) (hs : slots ≤ R.slots) (hn : narrow t (.int z) = .int z) (qq : Q (some (.int z)) h) : Wp p e below (Po s n0 R Q) T (mkF m pc L (.int z :: st)) := by
  have hrt : meth.sig.returnType = some t := by obtain ⟨locs, X, N, eT, hx, hZ, hown, hby, hml, hlk, hn, hrt, hnm⟩ := S; rw [hrt, hret]
  refine o_ret S (w := some (.int z)) (fun h => by rw [hrt] at h; cases h) hc hs qq fun fs hA hm hx hby locs X hr => ?_
  exact retOut X hx hrt hn (Or.inl ⟨rfl, Or.inr ht, z, rfl⟩) (hb hby hd) hr
theorem o_retJ {Q : Option Value → Heap → Prop} {z : Int64} (S : St p l e R s m args below meth c Z own bytes ml n0 ret nm T h cells slots) (hret : ret = some .long) (hd : decode bytes pc = .ok (.lreturn, 1)) (hc : cells ≤ R.cells) (hs : slots ≤ R.slots) (qq : Q (some (.long z)) h) : Wp p e below (Po s n0 R Q) T (mkF m pc L (.long z :: st)) := by
  have hrt : meth.sig.returnType = some .long := by obtain ⟨locs, X, N, eT, hx, hZ, hown, hby, hml, hlk, hn, hrt, hnm⟩ := S; rw [hrt, hret]
  refine o_ret S (w := some (.long z)) (fun h => by rw [hrt] at h; cases h) hc hs qq fun fs hA hm hx hby locs X hr => ?_
  exact retOut X hx hrt rfl (Or.inr (Or.inl ⟨rfl, rfl, z, rfl⟩)) (hb hby hd) hr
theorem o_retR {Q : Option Value → Heap → Prop} {z : Value} {t : FieldType} (S : St p l e R s m args below meth c Z own bytes ml n0 ret nm T h cells slots) (hret : ret = some t) (ht : t.isReference = true) (hz : z.isRef = true) (hn : narrow t z = z) (hd : decode bytes pc = .ok (.areturn, 1)) (hc : cells ≤ R.cells) (hs : slots ≤ R.slots) (qq : Q (some z) h) : Wp p e below (Po s n0 R Q) T (mkF m pc L (z :: st)) := by
  have hrt : meth.sig.returnType = some t := by obtain ⟨locs, X, N, eT, hx, hZ, hown, hby, hml, hlk, hn, hrt, hnm⟩ := S; rw [hrt, hret]
  refine o_ret S (w := some z) (fun h => by rw [hrt] at h; cases h) hc hs qq fun fs hA hm hx hby locs X hr => ?_
  exact retOut X hx hrt hn (Or.inr (Or.inr (Or.inr (Or.inr ⟨rfl, ht, hz⟩)))) (hb hby hd) hr
theorem o_retV {Q : Option Value → Heap → Prop} (S : St p l e R s m args below meth c Z own bytes ml n0 ret nm T h cells slots) (hret : ret = none) (hd : decode bytes pc = .ok (.return_, 1)) (hc : cells ≤ R.cells) (hs : slots ≤ R.slots) (qq : Q none h) : Wp p e below (Po s n0 R Q) T (mkF m pc L []) := by
  have hrt : meth.sig.returnType = none := by obtain ⟨locs, X, N, eT, hx, hZ, hown, hby, hml, hlk, hn, hrt, hnm⟩ := S; rw [hrt, hret]
  exact o_ret S (w := none) (fun _ => rfl) hc hs qq fun fs hA hm hx hby locs X hr => X.returnOut hx hrt (hb hby hd) hr

/-! calls -/
theorem o_cut {A B : Prop} (k2 : A → B) (k1 : A) : B := k2 k1
theorem o_cutS {B : Prop} (S : St p l e R s m args below meth c Z own bytes ml n0 ret nm T h cells slots) {G : State → Prop} (k2 : (∀ T', St p l e R s m args below meth c Z own bytes ml n0 ret nm T' h cells slots → G T') → B) (k1 : ∀ T', St p l e R s m args below meth c Z own bytes ml n0 ret nm T' h cells slots → G T') : B := k2 k1
def Qp (r : Option Value) (h0 : Heap) : Option Value → Heap → Prop := fun v h => v = r ∧ h = h0
theorem o_si {a b : Int32} (h : a = b) : some (Value.int a) = some (Value.int b) := by rw [h]
theorem o_sj {a b : Int64} (h : a = b) : some (Value.long a) = some (Value.long b) := by rw [h]
theorem o_callS (S : St p l e R s m args below meth c Z own bytes ml n0 ret nm T h cells slots) {i : Nat} {y : MethodName} {bytes' : ByteArray} {maxL : Nat} {ret' : Option FieldType} {rm : Room} {W : Nat} {argsL rest : List Value} {Q : Option Value → Heap → Prop} {ps : List FieldType} {r' : Option FieldType}
    (w1 : (Jvm.Cond.methodLink own i y).before a0 Z = true) (w2 : (Jvm.Cond.static y).before a0 Z = true) (w3 : (Jvm.Cond.initialized y.cls).before a0 Z = true) (w4 : (Jvm.Cond.code y bytes' maxL ret').before a0 Z = true) (hy : y.cls ≠ "java/lang/invoke/MethodHandle" ∧ y.cls ≠ "java/lang/invoke/VarHandle")
    (K : Ct l y bytes' maxL ret' [] rm Z h n0 argsL.toArray Q) (hf : rm.frames + 1 ≤ R.frames) (hl : W + (maxL + 11) + rm.locals ≤ R.locals) (hL : L.size = ml) (hst : st = argsL.reverse ++ rest) (hsig : parseMethodDescriptor y.desc = some ⟨ps, r'⟩) (hlen : argsL.length = ps.length) (hW : (rest.map fun v => v.category).sum ≤ W)
    (hd : decode bytes pc = .ok (.invokestatic i, 3)) (hq : pc + 3 = q) (hc : cells + rm.cells ≤ R.cells) (hs : slots + rm.slots ≤ R.slots) (k : ∀ T' h' v, St p l e R s m args below meth c Z own bytes ml n0 ret nm T' h' (cells + rm.cells) (slots + rm.slots) → Q v h' → Wp p e below PO T' (mkF m q L (v.toList ++ rest))) : Wp p e below PO T (mkF m pc L st) := by
  subst hq
  obtain ⟨locs, X, N, eT, hx, hZ, hown, hby, hml, hlk, hn, hrt, hnm⟩ := S
  have hb0 := backOf (R := R) (s := s) (p := p) (e := e) (below := below) (args := args) (len := 3) (W := W) (Q := fun v h L => Q v h ∧ Fr n0 L) K hZ w4 w3 hf hl
  obtain ⟨v, vm, ⟨T', L', k', n'⟩, hwm, X', ⟨Lc, hQ, l1, y1, z1⟩, st1⟩ := Jvm.LawKit.callS X hx (y := y) hown (mvT hZ w1) (mvT hZ w2) (mvT hZ w3) (mvT hZ w4) hy hb0 (g := mkF m pc L st) rfl (by rw [hml]; exact hL) (argsL := argsL) (rest := rest) (lenOf hsig hlen) hst (by show 2 * 0 + _ ≤ _; omega) (hb hby hd) (fun _ _ => ⟨rfl, eT, hc, hs⟩)
  dsimp only [Pt.U, Pt.locs, Pt.cells, Pt.slots] at X' l1 y1 z1 st1 hQ
  subst l1 y1 z1
  exact o_to st1 (k T' T'.heap v ⟨_, X', N.app hQ.2, rfl, hx, hZ, hown, hby, hml, hlk, hn, hrt, hnm⟩ hQ.1)
theorem o_callI (S : St p l e R s m args below meth c Z own bytes ml n0 ret nm T h cells slots) {i : Nat} {y : MethodName} {bytes' : ByteArray} {maxL : Nat} {rm : Room} {W : Nat} {argsL rest : List Value} {Q : Option Value → Heap → Prop} {ps : List FieldType} {r' : Option FieldType} {a : Addr} (hy1 : y.name = "<init>")
    (w1 : (Jvm.Cond.methodLink own i y).before a0 Z = true) (w2 : (Jvm.Cond.instanceMethod y).before a0 Z = true) (w3 : (Jvm.Cond.initialized y.cls).before a0 Z = true) (w4 : (Jvm.Cond.code y bytes' maxL none).before a0 Z = true) (hy : y.cls ≠ "java/lang/invoke/MethodHandle" ∧ y.cls ≠ "java/lang/invoke/VarHandle")
    (K : Ct l y bytes' maxL none [] rm Z h n0 (.ref a :: argsL).toArray Q) (hf : rm.frames + 1 ≤ R.frames) (hl : W + (maxL + 11) + rm.locals ≤ R.locals) (hL : L.size = ml) (hst : st = argsL.reverse ++ .ref a :: rest) (hsig : parseMethodDescriptor y.desc = some ⟨ps, r'⟩) (hlen : argsL.length = ps.length) (hW : (rest.map fun v => v.category).sum ≤ W)
    (hd : decode bytes pc = .ok (.invokespecial i, 3)) (hq : pc + 3 = q) (hc : cells + rm.cells ≤ R.cells) (hs : slots + rm.slots ≤ R.slots) (k : ∀ T' h' v, St p l e R s m args below meth c Z own bytes ml n0 ret nm T' h' (cells + rm.cells) (slots + rm.slots) → Q v h' → Wp p e below PO T' (mkF m q L (v.toList ++ rest))) : Wp p e below PO T (mkF m pc L st) := by
  subst hq
  obtain ⟨locs, X, N, eT, hx, hZ, hown, hby, hml, hlk, hn, hrt, hnm⟩ := S
  have hb0 := backOf (R := R) (s := s) (p := p) (e := e) (below := below) (args := args) (len := 3) (W := W) (Q := fun v h L => Q v h ∧ Fr n0 L) K hZ w4 w3 hf hl
  obtain ⟨v, vm, ⟨T', L', k', n'⟩, hwm, X', ⟨Lc, hQ, l1, y1, z1⟩, st1⟩ := X.specialBack hx (y := y) hy1 hown (mvT hZ w1) (mvT hZ w2) (mvT hZ w4) hy hb0 (g := mkF m pc L st) rfl (by rw [hml]; exact hL) (Steps.refl _) (a := a) (argsL := argsL) (rest := rest) (lenOf hsig hlen) hst (by show 2 * 0 + _ ≤ _; omega) (hb hby hd) (fun _ _ => ⟨rfl, eT, hc, hs⟩)
  dsimp only [Pt.U, Pt.locs, Pt.cells, Pt.slots] at X' l1 y1 z1 st1 hQ
  subst l1 y1 z1
  exact o_to (fun t r => st1.trans r) (k T' T'.heap v ⟨_, X', N.app hQ.2, rfl, hx, hZ, hown, hby, hml, hlk, hn, hrt, hnm⟩ hQ.1)
theorem o_callV (S : St p l e R s m args below meth c Z own bytes ml n0 ret nm T h cells slots) {i : Nat} {y : MethodName} {bytes' : ByteArray} {maxL : Nat} {ret' : Option FieldType} {rm : Room} {W : Nat} {argsL rest : List Value} {Q : Option Value → Heap → Prop} {ps : List FieldType} {r' : Option FieldType} {a : Addr} {z : MethodName} {C : String}
    (w1 : (Jvm.Cond.methodLink own i y).before a0 Z = true) (w2 : (Jvm.Cond.declares y).before a0 Z = true) (w5 : (Jvm.Cond.selects C y z).before a0 Z = true) (w6 : (Jvm.Cond.instanceMethod z).before a0 Z = true) (w3 : (Jvm.Cond.initialized z.cls).before a0 Z = true) (w4 : (Jvm.Cond.code z bytes' maxL ret').before a0 Z = true) (nf : ∀ s' : State, Z.Warmed39 s'.vm → NotFace s' y) (hy : y.cls ≠ "java/lang/invoke/MethodHandle" ∧ y.cls ≠ "java/lang/invoke/VarHandle")
    (E : Exa Z h a C) (K : Ct l z bytes' maxL ret' [] rm Z h n0 (.ref a :: argsL).toArray Q) (hf : rm.frames + 1 ≤ R.frames) (hl : W + (maxL + 11) + rm.locals ≤ R.locals) (hL : L.size = ml) (hst : st = argsL.reverse ++ .ref a :: rest) (hsig : parseMethodDescriptor y.desc = some ⟨ps, r'⟩) (hlen : argsL.length = ps.length) (hW : (rest.map fun v => v.category).sum ≤ W)
    (hd : decode bytes pc = .ok (.invokevirtual i, 3)) (hq : pc + 3 = q) (hc : cells + rm.cells ≤ R.cells) (hs : slots + rm.slots ≤ R.slots) (k : ∀ T' h' v, St p l e R s m args below meth c Z own bytes ml n0 ret nm T' h' (cells + rm.cells) (slots + rm.slots) → Q v h' → Wp p e below PO T' (mkF m q L (v.toList ++ rest))) : Wp p e below PO T (mkF m pc L st) := by
  subst hq
  obtain ⟨locs, X, N, eT, hx, hZ, hown, hby, hml, hlk, hn, hrt, hnm⟩ := S
  have hb0 := backOf (R := R) (s := s) (p := p) (e := e) (below := below) (args := args) (len := 3) (W := W) (Q := fun v h L => Q v h ∧ Fr n0 L) K hZ w4 w3 hf hl
  obtain ⟨cq, kq, qa, qb, qc⟩ := isOf hZ eT E
  obtain ⟨v, vm, ⟨T', L', k', n'⟩, hwm, X', ⟨Lc, hQ, l1, y1, z1⟩, st1⟩ := X.virtualBack hx (y := y) (z := z) hown (mvT hZ w1) (mvT hZ w2) (nf s hZ) (mvT hZ w5) (mvT hZ w6) hy hb0 qa qc (g := mkF m pc L st) rfl (by rw [hml]; exact hL) (Steps.refl _) (argsL := argsL) (rest := rest) (lenOf hsig hlen) hst (by show 2 * 0 + _ ≤ _; omega) (hb hby hd) (fun _ _ => ⟨rfl, eT, hc, hs⟩)
  dsimp only [Pt.U, Pt.locs, Pt.cells, Pt.slots] at X' l1 y1 z1 st1 hQ
  subst l1 y1 z1
  exact o_to (fun t r => st1.trans r) (k T' T'.heap v ⟨_, X', N.app hQ.2, rfl, hx, hZ, hown, hby, hml, hlk, hn, hrt, hnm⟩ hQ.1)
theorem o_nf {y : MethodName} {C : String} (w : (Jvm.Cond.selects C y y).before a0 Z = true) : ∀ s' : State, Z.Warmed39 s'.vm → NotFace s' y := fun s' hZ => notFace_of_selects (args := #[]) (mvT hZ w)
theorem o_callP (S : St p l e R s m args below meth c Z own bytes ml n0 ret nm T h cells slots) {i : Nat} {y : MethodName} {bytes' : ByteArray} {maxL : Nat} {ret' : Option FieldType} {rm : Room} {W : Nat} {argsL rest : List Value} {Q : Option Value → Heap → Prop} {ps : List FieldType} {r' : Option FieldType} {a : Addr}
    (w1 : (Jvm.Cond.methodLink own i y).before a0 Z = true) (w2 : (Jvm.Cond.instanceMethod y).before a0 Z = true) (w5 : (Jvm.Cond.selects y.cls y y).before a0 Z = true) (w6 : (Jvm.Cond.privateMethod y).before a0 Z = true) (w3 : (Jvm.Cond.initialized y.cls).before a0 Z = true) (w4 : (Jvm.Cond.code y bytes' maxL ret').before a0 Z = true) (hy : y.cls ≠ "java/lang/invoke/MethodHandle" ∧ y.cls ≠ "java/lang/invoke/VarHandle")
    (E : Exa Z h a y.cls) (K : Ct l y bytes' maxL ret' [] rm Z h n0 (.ref a :: argsL).toArray Q) (hf : rm.frames + 1 ≤ R.frames) (hl : W + (maxL + 11) + rm.locals ≤ R.locals) (hL : L.size = ml) (hst : st = argsL.reverse ++ .ref a :: rest) (hsig : parseMethodDescriptor y.desc = some ⟨ps, r'⟩) (hlen : argsL.length = ps.length) (hW : (rest.map fun v => v.category).sum ≤ W)
    (hd : decode bytes pc = .ok (.invokevirtual i, 3)) (hq : pc + 3 = q) (hc : cells + rm.cells ≤ R.cells) (hs : slots + rm.slots ≤ R.slots) (k : ∀ T' h' v, St p l e R s m args below meth c Z own bytes ml n0 ret nm T' h' (cells + rm.cells) (slots + rm.slots) → Q v h' → Wp p e below PO T' (mkF m q L (v.toList ++ rest))) : Wp p e below PO T (mkF m pc L st) := by
  subst hq
  obtain ⟨locs, X, N, eT, hx, hZ, hown, hby, hml, hlk, hn, hrt, hnm⟩ := S
  have hb0 := backOf (R := R) (s := s) (p := p) (e := e) (below := below) (args := args) (len := 3) (W := W) (Q := fun v h L => Q v h ∧ Fr n0 L) K hZ w4 w3 hf hl
  obtain ⟨cq, qa, qb⟩ := E.cell
  obtain ⟨v, vm, ⟨T', L', k', n'⟩, hwm, X', ⟨Lc, hQ, l1, y1, z1⟩, st1⟩ := X.privateBack hx (y := y) hown (mvT hZ w1) (mvT hZ w2) (mvT hZ w5) (Cond.privateMethod_at (mvP hZ w6 (args := #[]))) (mvT hZ w4) hy hb0 (g := mkF m pc L st) rfl (by rw [hml]; exact hL) (Steps.refl _) (a := a) (by rw [eT]; exact qa) qb (argsL := argsL) (rest := rest) (lenOf hsig hlen) hst (by show 2 * 0 + _ ≤ _; omega) (hb hby hd) (fun _ _ => ⟨rfl, eT, hc, hs⟩)
  dsimp only [Pt.U, Pt.locs, Pt.cells, Pt.slots] at X' l1 y1 z1 st1 hQ
  subst l1 y1 z1
  exact o_to (fun t r => st1.trans r) (k T' T'.heap v ⟨_, X', N.app hQ.2, rfl, hx, hZ, hown, hby, hml, hlk, hn, hrt, hnm⟩ hQ.1)
theorem o_callS0 (S : St p l e R s m args below meth c Z own bytes ml n0 ret nm T h cells slots) {i : Nat} {y : MethodName} {bytes' : ByteArray} {maxL : Nat} {ret' : Option FieldType} {rm : Room} {W : Nat} {argsL rest : List Value} {ps : List FieldType} {r' : Option FieldType} {st' : List Value} {r : Option Value} 
    (w1 : (Jvm.Cond.methodLink own i y).before a0 Z = true) (w2 : (Jvm.Cond.static y).before a0 Z = true) (w3 : (Jvm.Cond.initialized y.cls).before a0 Z = true) (w4 : (Jvm.Cond.code y bytes' maxL ret').before a0 Z = true) (hy : y.cls ≠ "java/lang/invoke/MethodHandle" ∧ y.cls ≠ "java/lang/invoke/VarHandle")
    (K : Ct l y bytes' maxL ret' [] rm Z h n0 argsL.toArray (Qp r h)) (hf : rm.frames + 1 ≤ R.frames) (hl : W + (maxL + 11) + rm.locals ≤ R.locals) (hL : L.size = ml) (hst : st = argsL.reverse ++ rest) (hsig : parseMethodDescriptor y.desc = some ⟨ps, r'⟩) (hlen : argsL.length = ps.length) (hW : (rest.map fun v => v.category).sum ≤ W)
    (hd : decode bytes pc = .ok (.invokestatic i, 3)) (hq : pc + 3 = q) (hc : cells + rm.cells ≤ R.cells) (hs : slots + rm.slots ≤ R.slots) (hst' : r.toList ++ rest = st') (k : ∀ T', St p l e R s m args below meth c Z own bytes ml n0 ret nm T' h (cells + rm.cells) (slots + rm.slots) → Wp p e below PO T' (mkF m q L st')) : Wp p e below PO T (mkF m pc L st) := by
  subst hst'
  exact o_callS S w1 w2 w3 w4 hy K hf hl hL hst hsig hlen hW hd hq hc hs (fun T' h' v S' hQ => by obtain ⟨hv, hh⟩ := hQ; subst hv; rw [hh] at S'; exact k T' S')
theorem o_callI0 (S : St p l e R s m args below meth c Z own bytes ml n0 ret nm T h cells slots) {i : Nat} {y : MethodName} {bytes' : ByteArray} {maxL : Nat} {rm : Room} {W : Nat} {argsL rest : List Value} {ps : List FieldType} {r' : Option FieldType} {st' : List Value} {r : Option Value} {a : Addr} (hy1 : y.name = "<init>")
    (w1 : (Jvm.Cond.methodLink own i y).before a0 Z = true) (w2 : (Jvm.Cond.instanceMethod y).before a0 Z = true) (w3 : (Jvm.Cond.initialized y.cls).before a0 Z = true) (w4 : (Jvm.Cond.code y bytes' maxL none).before a0 Z = true) (hy : y.cls ≠ "java/lang/invoke/MethodHandle" ∧ y.cls ≠ "java/lang/invoke/VarHandle")
    (K : Ct l y bytes' maxL none [] rm Z h n0 (.ref a :: argsL).toArray (Qp r h)) (hf : rm.frames + 1 ≤ R.frames) (hl : W + (maxL + 11) + rm.locals ≤ R.locals) (hL : L.size = ml) (hst : st = argsL.reverse ++ .ref a :: rest) (hsig : parseMethodDescriptor y.desc = some ⟨ps, r'⟩) (hlen : argsL.length = ps.length) (hW : (rest.map fun v => v.category).sum ≤ W)
    (hd : decode bytes pc = .ok (.invokespecial i, 3)) (hq : pc + 3 = q) (hc : cells + rm.cells ≤ R.cells) (hs : slots + rm.slots ≤ R.slots) (hst' : r.toList ++ rest = st') (k : ∀ T', St p l e R s m args below meth c Z own bytes ml n0 ret nm T' h (cells + rm.cells) (slots + rm.slots) → Wp p e below PO T' (mkF m q L st')) : Wp p e below PO T (mkF m pc L st) := by
  subst hst'
  exact o_callI S hy1 w1 w2 w3 w4 hy K hf hl hL hst hsig hlen hW hd hq hc hs (fun T' h' v S' hQ => by obtain ⟨hv, hh⟩ := hQ; subst hv; rw [hh] at S'; exact k T' S')
theorem o_callV0 (S : St p l e R s m args below meth c Z own bytes ml n0 ret nm T h cells slots) {i : Nat} {y : MethodName} {bytes' : ByteArray} {maxL : Nat} {ret' : Option FieldType} {rm : Room} {W : Nat} {argsL rest : List Value} {ps : List FieldType} {r' : Option FieldType} {st' : List Value} {r : Option Value} {a : Addr} {z : MethodName} {C : String}
    (w1 : (Jvm.Cond.methodLink own i y).before a0 Z = true) (w2 : (Jvm.Cond.declares y).before a0 Z = true) (w5 : (Jvm.Cond.selects C y z).before a0 Z = true) (w6 : (Jvm.Cond.instanceMethod z).before a0 Z = true) (w3 : (Jvm.Cond.initialized z.cls).before a0 Z = true) (w4 : (Jvm.Cond.code z bytes' maxL ret').before a0 Z = true) (nf : ∀ s' : State, Z.Warmed39 s'.vm → NotFace s' y) (hy : y.cls ≠ "java/lang/invoke/MethodHandle" ∧ y.cls ≠ "java/lang/invoke/VarHandle")
    (E : Exa Z h a C) (K : Ct l z bytes' maxL ret' [] rm Z h n0 (.ref a :: argsL).toArray (Qp r h)) (hf : rm.frames + 1 ≤ R.frames) (hl : W + (maxL + 11) + rm.locals ≤ R.locals) (hL : L.size = ml) (hst : st = argsL.reverse ++ .ref a :: rest) (hsig : parseMethodDescriptor y.desc = some ⟨ps, r'⟩) (hlen : argsL.length = ps.length) (hW : (rest.map fun v => v.category).sum ≤ W)
    (hd : decode bytes pc = .ok (.invokevirtual i, 3)) (hq : pc + 3 = q) (hc : cells + rm.cells ≤ R.cells) (hs : slots + rm.slots ≤ R.slots) (hst' : r.toList ++ rest = st') (k : ∀ T', St p l e R s m args below meth c Z own bytes ml n0 ret nm T' h (cells + rm.cells) (slots + rm.slots) → Wp p e below PO T' (mkF m q L st')) : Wp p e below PO T (mkF m pc L st) := by
  subst hst'
  exact o_callV S w1 w2 w5 w6 w3 w4 nf hy E K hf hl hL hst hsig hlen hW hd hq hc hs (fun T' h' v S' hQ => by obtain ⟨hv, hh⟩ := hQ; subst hv; rw [hh] at S'; exact k T' S')
theorem o_callP0 (S : St p l e R s m args below meth c Z own bytes ml n0 ret nm T h cells slots) {i : Nat} {y : MethodName} {bytes' : ByteArray} {maxL : Nat} {ret' : Option FieldType} {rm : Room} {W : Nat} {argsL rest : List Value} {ps : List FieldType} {r' : Option FieldType} {st' : List Value} {r : Option Value} {a : Addr}
    (w1 : (Jvm.Cond.methodLink own i y).before a0 Z = true) (w2 : (Jvm.Cond.instanceMethod y).before a0 Z = true) (w5 : (Jvm.Cond.selects y.cls y y).before a0 Z = true) (w6 : (Jvm.Cond.privateMethod y).before a0 Z = true) (w3 : (Jvm.Cond.initialized y.cls).before a0 Z = true) (w4 : (Jvm.Cond.code y bytes' maxL ret').before a0 Z = true) (hy : y.cls ≠ "java/lang/invoke/MethodHandle" ∧ y.cls ≠ "java/lang/invoke/VarHandle")
    (E : Exa Z h a y.cls) (K : Ct l y bytes' maxL ret' [] rm Z h n0 (.ref a :: argsL).toArray (Qp r h)) (hf : rm.frames + 1 ≤ R.frames) (hl : W + (maxL + 11) + rm.locals ≤ R.locals) (hL : L.size = ml) (hst : st = argsL.reverse ++ .ref a :: rest) (hsig : parseMethodDescriptor y.desc = some ⟨ps, r'⟩) (hlen : argsL.length = ps.length) (hW : (rest.map fun v => v.category).sum ≤ W)
    (hd : decode bytes pc = .ok (.invokevirtual i, 3)) (hq : pc + 3 = q) (hc : cells + rm.cells ≤ R.cells) (hs : slots + rm.slots ≤ R.slots) (hst' : r.toList ++ rest = st') (k : ∀ T', St p l e R s m args below meth c Z own bytes ml n0 ret nm T' h (cells + rm.cells) (slots + rm.slots) → Wp p e below PO T' (mkF m q L st')) : Wp p e below PO T (mkF m pc L st) := by
  subst hst'
  exact o_callP S w1 w2 w5 w6 w3 w4 hy E K hf hl hL hst hsig hlen hW hd hq hc hs (fun T' h' v S' hQ => by obtain ⟨hv, hh⟩ := hQ; subst hv; rw [hh] at S'; exact k T' S')
/-! the heap -/
theorem o_initO (S : St p l e R s m args below meth c Z own bytes ml n0 ret nm T h cells slots) {i W : Nat} {a : Addr} (w1 : (Jvm.Cond.methodLink own i Lib.objectInit).before a0 Z = true) (w2 : (Jvm.Cond.instanceMethod Lib.objectInit).before a0 Z = true) (w3 : (Jvm.Cond.code Lib.objectInit ⟨#[0xb1]⟩ 1 none).before a0 Z = true) (hL : L.size = ml) (hd : decode bytes pc = .ok (.invokespecial i, 3)) (hq : pc + 3 = q) (hf : 1 ≤ R.frames) (hW : (st.map fun v => v.category).sum ≤ W) (hl : W + 12 ≤ R.locals)
    (k : ∀ T', St p l e R s m args below meth c Z own bytes ml n0 ret nm T' h cells slots → Wp p e below PO T' (mkF m q L st)) : Wp p e below PO T (mkF m pc L (.ref a :: st)) := by
  subst hq
  obtain ⟨locs, X, N, eT, hx, hZ, hown, hby, hml, hlk, hn, hrt, hnm⟩ := S
  obtain ⟨T', X', e', st'⟩ := initO X hx hZ hown w1 w2 w3 eT (g := mkF m pc L (.ref a :: st)) rfl (by rw [hml]; exact hL) rfl (hb hby hd) hf (W := W) (by show 2 * 0 + _ ≤ _; omega) hl
  exact o_to st' (k T' ⟨_, X', N, e', hx, hZ, hown, hby, hml, hlk, hn, hrt, hnm⟩)
theorem o_getF (S : St p l e R s m args below meth c Z own bytes ml n0 ret nm T h cells slots) {i : Nat} {R0 O n d : String} {a : Addr} {v : Value} (w : (Jvm.Cond.fieldLink own i R0 n d).before a0 Z = true) (via : Via Z R0 O n d) (F : Fld Z h a O n d v) (hd : decode bytes pc = .ok (.getfield i, 3)) (hq : pc + 3 = q)
    (k : ∀ T', St p l e R s m args below meth c Z own bytes ml n0 ret nm T' h cells slots → Wp p e below PO T' (mkF m q L (v :: st))) : Wp p e below PO T (mkF m pc L (.ref a :: st)) := by
  subst hq
  obtain ⟨locs, X, N, eT, hx, hZ, hown, hby, hml, hlk, hn, hrt, hnm⟩ := S
  obtain ⟨T', X', e', st'⟩ := getF X hx hZ hown (host := "") (Or.inl w) via eT F (g := mkF m pc L (.ref a :: st)) rfl rfl (hb hby hd)
  exact o_to st' (k T' ⟨_, X', N, e', hx, hZ, hown, hby, hml, hlk, hn, hrt, hnm⟩)
theorem o_putF (S : St p l e R s m args below meth c Z own bytes ml n0 ret nm T h cells slots) {i kk : Nat} {R0 O n d C : String} {ty : FieldType} {a : Addr} {v old : Value} (w : (Jvm.Cond.fieldLink own i R0 n d).before a0 Z = true) (via : Via Z R0 O n d) (F : Fld Z h a O n d old) (E : Exa Z h a C) (Lw : (Jvm.Cond.lays C O n d).before a0 Z = true ∨ ((Jvm.Cond.laysFinal C O n d).before a0 Z = true ∧ own = O ∧ nm = "<init>")) (wi : (Jvm.Cond.instantiable C kk).before a0 Z = true) (hty : parseFieldDescriptor d = some ty) (hn' : narrow ty v = v) (hf : fits ty v = true) (ga : n0 ≤ a) (hd : decode bytes pc = .ok (.putfield i, 3)) (hq : pc + 3 = q)
    (k : ∀ T' h', St p l e R s m args below meth c Z own bytes ml n0 ret nm T' h' cells slots → Wr h h' a (Jvm.RoadKit.slotOf Z O n d) v → Fld Z h' a O n d v → Wp p e below PO T' (mkF m q L st)) : Wp p e below PO T (mkF m pc L (v :: .ref a :: st)) := by
  subst hq
  obtain ⟨locs, X, N, eT, hx, hZ, hown, hby, hml, hlk, hn, hrt, hnm⟩ := S
  obtain ⟨T', h', X', e', W', st'⟩ := putF X hx hZ hown (host := "") (Or.inl w) via eT F E (Lw.imp id fun q => ⟨q.1, q.2.1, by rw [hnm]; exact q.2.2⟩) wi hty hn' hf (g := mkF m pc L (v :: .ref a :: st)) rfl rfl (hb hby hd)
  exact o_to st' (k T' h' ⟨_, X', Fr.snoc X' N ga, e', hx, hZ, hown, hby, hml, hlk, hn, hrt, hnm⟩ W' (F.same W'))
theorem o_new (S : St p l e R s m args below meth c Z own bytes ml n0 ret nm T h cells slots) {i n : Nat} {C : String} (w : (Jvm.Cond.classLink own i C).before a0 Z = true) (wi : (Jvm.Cond.instantiable C n).before a0 Z = true) (wz : (Jvm.Cond.initialized C).before a0 Z = true) (hd : decode bytes pc = .ok (.new i, 3)) (hq : pc + 3 = q) (hc : cells + 1 ≤ R.cells) (hl : slots + n ≤ R.slots)
    (k : ∀ T' h' a, St p l e R s m args below meth c Z own bytes ml n0 ret nm T' h' (cells + 1) (slots + n) → a = h.size → n0 ≤ a → Ext h h' → Exa Z h' a C → (∀ {O nm d : String} {ty : FieldType}, Laid Z a0 C O nm d → parseFieldDescriptor d = some ty → Fld Z h' a O nm d (defaultValue ty)) → Wp p e below PO T' (mkF m q L (.ref a :: st))) : Wp p e below PO T (mkF m pc L st) := by
  have g0 := o_n0 S
  subst hq
  obtain ⟨locs, X, N, eT, hx, hZ, hown, hby, hml, hlk, hn, hrt, hnm⟩ := S
  obtain ⟨T', h', X', e', E', A', D', -, st'⟩ := newO X hx hZ hown w wi wz eT (g := mkF m pc L st) rfl (hb hby hd) hc hl
  exact o_to st' (k T' h' h.size ⟨_, X', N, e', hx, hZ, hown, hby, hml, hlk, hn, hrt, hnm⟩ rfl g0 E' A' D')
/-! arrays of ints (bytes, booleans ..): the list of what they hold -/
def IA (Z : State) (h : Heap) (a : Addr) (ty : FieldType) (xs : List Int32) : Prop := ∃ c : Cell, Arr Z h a c ty ∧ c.slots.size = xs.length ∧ xs.length < 2147483648 ∧ (∀ i, i < xs.length → c.slots[i]? = some (.int (xs.getD i 0))) ∧ ∀ i, i < xs.length → fits ty (.int (xs.getD i 0)) = true
theorem IA.lt {a : Addr} {ty : FieldType} {xs : List Int32} (F : IA Z h a ty xs) : a < h.size := by obtain ⟨c, A, -⟩ := F; exact A.lt
theorem IA.ext {h' : Heap} {a : Addr} {ty : FieldType} {xs : List Int32} (F : IA Z h a ty xs) (E : Ext h h') : IA Z h' a ty xs := by obtain ⟨c, A, r⟩ := F; exact ⟨c, A.ext E, r⟩
theorem IA.other {h' : Heap} {a b : Addr} {sl : Nat} {v : Value} {ty : FieldType} {xs : List Int32} (F : IA Z h b ty xs) (W : Wr h h' a sl v) (q : b ≠ a) : IA Z h' b ty xs := by obtain ⟨c, A, r⟩ := F; exact ⟨c, A.other W q, r⟩
theorem IA.keep {h' : Heap} {a : Addr} {ws : List Addr} {ty : FieldType} {xs : List Int32} (F : IA Z h a ty xs) (K : Keep h h' ws) (q : a ∉ ws) : IA Z h' a ty xs := by obtain ⟨c, A, r⟩ := F; exact ⟨c, ⟨K.2.1 a c A.1 q, A.2⟩, r⟩
theorem IA.len {a : Addr} {ty : FieldType} {xs : List Int32} (F : IA Z h a ty xs) : xs.length < 2147483648 := by obtain ⟨c, A, h1, h2, -⟩ := F; exact h2
theorem o_nat {j : Int32} (h0 : 0 ≤ j.toInt) : ¬ j < 0 ∧ (j.toNatClampNeg : Int) = j.toInt := by
  have h1 : ¬ j < 0 := fun q => by have := Int32.lt_iff_toInt_lt.mp q; have : (0 : Int32).toInt = 0 := rfl; omega
  exact ⟨h1, (nat_of h1).symm⟩
theorem o_inb {j : Int32} {n N : Nat} (h0 : 0 ≤ j.toInt) (h1 : j.toInt < n) (hN : N = n) : ¬ (j < 0 ∨ N ≤ j.toNatClampNeg) := by
  obtain ⟨g1, g2⟩ := o_nat h0
  rintro (q | q)
  · exact g1 q
  · omega
theorem IA.set {h' : Heap} {a : Addr} {ty : FieldType} {xs : List Int32} {j x : Int32} (F : IA Z h a ty xs) (W : Wr h h' a j.toNatClampNeg (.int x)) (hf : fits ty (.int x) = true) : IA Z h' a ty (xs.set j.toNatClampNeg x) := by
  obtain ⟨c, A, h1, h2, h3, h4⟩ := F
  refine ⟨c.setSlot j.toNatClampNeg (.int x), A.same W, by rw [sz_set, h1]; simp, by simpa using h2, fun i hi => ?_, fun i hi => ?_⟩
  · rw [List.length_set] at hi
    by_cases q : j.toNatClampNeg = i
    · subst q
      have : j.toNatClampNeg < c.slots.size := by rw [h1]; exact hi
      simp [Cell.setSlot, this, hi, List.getD_eq_getElem?_getD]
    · have := h3 i hi
      simp only [Cell.setSlot, Array.getElem?_setIfInBounds_ne q, this, List.getD_eq_getElem?_getD, List.getElem?_set_ne q]
  · rw [List.length_set] at hi
    by_cases q : j.toNatClampNeg = i
    · subst q; simpa [hi, List.getD_eq_getElem?_getD] using hf
    · have := h4 i hi
      simpa only [List.getD_eq_getElem?_getD, List.getElem?_set_ne q] using this
theorem IA.new {a : Addr} {ty : FieldType} {k : ClassId} {n : Int32} (A : Arr Z h a (newA k ty n) ty) (hn : ¬ n < 0) (hd : defaultValue ty = .int 0) (hf : fits ty (.int 0) = true) : IA Z h a ty (List.replicate n.toNatClampNeg 0) := by
  have := (back32 hn).2
  refine ⟨_, A, by simp [newA], by simpa using this, fun i hi => ?_, fun i hi => ?_⟩
  · have hi' : i < n.toNatClampNeg := by simpa using hi
    simp [newA, hd, hi', List.getD_eq_getElem?_getD]
  · have hi' : i < n.toNatClampNeg := by simpa using hi
    simpa [List.getD_eq_getElem?_getD, hi'] using hf
theorem o_newarr (S : St p l e R s m args below meth c Z own bytes ml n0 ret nm T h cells slots) {aty : ArrayType} {n : Int32} {cap : Nat} (w : (Jvm.Cond.arrayClass (newarray.typeOf aty)).before a0 Z = true) (hd : decode bytes pc = .ok (.newarray aty, 2)) (hq : pc + 2 = q) (hn0 : 0 ≤ n.toInt) (hcap : n.toInt ≤ cap) (hb8 : cap * 8 ≤ 536870912) (hc : cells + 1 ≤ R.cells) (hl : slots + cap ≤ R.slots)
    (k : ∀ T' h' a cA, St p l e R s m args below meth c Z own bytes ml n0 ret nm T' h' (cells + 1) (slots + cap) → a = h.size → n0 ≤ a → Ext h h' → Arr Z h' a (newA cA (newarray.typeOf aty) n) (newarray.typeOf aty) → Wp p e below PO T' (mkF m q L (.ref a :: st))) : Wp p e below PO T (mkF m pc L (.int n :: st)) := by
  have g0 := o_n0 S
  obtain ⟨g1, g2⟩ := o_nat hn0
  subst hq
  obtain ⟨locs, X, N, eT, hx, hZ, hown, hby, hml, hlk, hn, hrt, hnm⟩ := S
  obtain ⟨T', h', cA, X', e', E', A', st'⟩ := newP X hx hZ w eT (g := mkF m pc L (.int n :: st)) rfl (hb hby hd) rfl g1 (cap := cap) (by omega) hb8 hc hl
  exact o_to st' (k T' h' h.size cA ⟨_, X', N, e', hx, hZ, hown, hby, hml, hlk, hn, hrt, hnm⟩ rfl g0 E' A')
theorem o_iaload (S : St p l e R s m args below meth c Z own bytes ml n0 ret nm T h cells slots) {a : Addr} {j v : Int32} {xs : List Int32} (F : IA Z h a .int xs) (h0 : 0 ≤ j.toInt) (h1 : j.toInt < xs.length) (hv : xs.getD j.toNatClampNeg 0 = v) (hd : decode bytes pc = .ok (.iaload, 1)) (hq : pc + 1 = q) (k : Wp p e below PO T (mkF m q L (.int v :: st))) : Wp p e below PO T (mkF m pc L (.int j :: .ref a :: st)) := by
  subst hq hv
  obtain ⟨locs, X, N, eT, hx, hZ, hown, hby, hml, hlk, hn, hrt, hnm⟩ := S
  obtain ⟨cl, A, g1, g2, g3, g4⟩ := F
  have g5 := (o_nat h0).2
  exact o_to (X.iaload hx (j := j) (by rw [eT]; exact A.1) (State.isArrayOf_alike hZ.alike A.2.1) A.2.2 (o_inb h0 h1 g1) (g3 _ (by omega)) (g := mkF m pc L (.int j :: .ref a :: st)) rfl rfl (hb hby hd)) k
theorem o_baload (S : St p l e R s m args below meth c Z own bytes ml n0 ret nm T h cells slots) {a : Addr} {j v : Int32} {xs : List Int32} (F : IA Z h a .byte xs) (h0 : 0 ≤ j.toInt) (h1 : j.toInt < xs.length) (hv : xs.getD j.toNatClampNeg 0 = v) (hd : decode bytes pc = .ok (.baload, 1)) (hq : pc + 1 = q) (k : Wp p e below PO T (mkF m q L (.int v :: st))) : Wp p e below PO T (mkF m pc L (.int j :: .ref a :: st)) := by
  subst hq hv
  obtain ⟨locs, X, N, eT, hx, hZ, hown, hby, hml, hlk, hn, hrt, hnm⟩ := S
  obtain ⟨cl, A, g1, g2, g3, g4⟩ := F
  have g5 := (o_nat h0).2
  exact o_to (X.baloadBytes hx (j := j) (by rw [eT]; exact A.1) (State.isArrayOf_alike hZ.alike A.2.1) A.2.2 (o_inb h0 h1 g1) (g3 _ (by omega)) (g := mkF m pc L (.int j :: .ref a :: st)) rfl rfl (hb hby hd)) k
theorem o_iastore (S : St p l e R s m args below meth c Z own bytes ml n0 ret nm T h cells slots) {a : Addr} {j x y : Int32} {xs ys : List Int32} (F : IA Z h a .int xs) (h0 : 0 ≤ j.toInt) (h1 : j.toInt < xs.length) (ga : n0 ≤ a) (hx' : x = y) (hys : xs.set j.toNatClampNeg y = ys) (hd : decode bytes pc = .ok (.iastore, 1)) (hq : pc + 1 = q) (k : ∀ T' h', St p l e R s m args below meth c Z own bytes ml n0 ret nm T' h' cells slots → Wr h h' a j.toNatClampNeg (.int y) → IA Z h' a .int ys → Wp p e below PO T' (mkF m q L st)) : Wp p e below PO T (mkF m pc L (.int x :: .int j :: .ref a :: st)) := by
  subst hq hys hx'
  obtain ⟨locs, X, N, eT, hx, hZ, hown, hby, hml, hlk, hn, hrt, hnm⟩ := S
  have F' := F
  obtain ⟨cl, A, g1, g2, g3, g4⟩ := F
  obtain ⟨T', h', X', e', W', st'⟩ := stI X hx hZ eT A (j := j) (x := x) (o_inb h0 h1 g1) (g := mkF m pc L (.int x :: .int j :: .ref a :: st)) rfl rfl (hb hby hd)
  exact o_to st' (k T' h' ⟨_, X', Fr.snoc X' N ga, e', hx, hZ, hown, hby, hml, hlk, hn, hrt, hnm⟩ W' (F'.set W' rfl))
theorem o_bastore (S : St p l e R s m args below meth c Z own bytes ml n0 ret nm T h cells slots) {a : Addr} {j x y : Int32} {xs ys : List Int32} (F : IA Z h a .byte xs) (h0 : 0 ≤ j.toInt) (h1 : j.toInt < xs.length) (ga : n0 ≤ a) (hx' : x.toInt8.toInt32 = y) (hys : xs.set j.toNatClampNeg y = ys) (hd : decode bytes pc = .ok (.bastore, 1)) (hq : pc + 1 = q) (k : ∀ T' h', St p l e R s m args below meth c Z own bytes ml n0 ret nm T' h' cells slots → Wr h h' a j.toNatClampNeg (.int y) → IA Z h' a .byte ys → Wp p e below PO T' (mkF m q L st)) : Wp p e below PO T (mkF m pc L (.int x :: .int j :: .ref a :: st)) := by
  subst hq hys hx'
  obtain ⟨locs, X, N, eT, hx, hZ, hown, hby, hml, hlk, hn, hrt, hnm⟩ := S
  have F' := F
  obtain ⟨cl, A, g1, g2, g3, g4⟩ := F
  obtain ⟨T', h', X', e', W', st'⟩ := stB X hx hZ eT A (j := j) (x := x) (o_inb h0 h1 g1) (g := mkF m pc L (.int x :: .int j :: .ref a :: st)) rfl rfl (hb hby hd)
  exact o_to st' (k T' h' ⟨_, X', Fr.snoc X' N ga, e', hx, hZ, hown, hby, hml, hlk, hn, hrt, hnm⟩ W' (F'.set W' (fits_nar_byte x)))
theorem o_arraylength (S : St p l e R s m args below meth c Z own bytes ml n0 ret nm T h cells slots) {a : Addr} {ty : FieldType} {xs : List Int32} {z : Int32} (F : IA Z h a ty xs) (hz : Int32.ofNat xs.length = z) (hd : decode bytes pc = .ok (.arraylength, 1)) (hq : pc + 1 = q) (k : Wp p e below PO T (mkF m q L (.int z :: st))) : Wp p e below PO T (mkF m pc L (.ref a :: st)) := by
  subst hq hz
  obtain ⟨locs, X, N, eT, hx, hZ, hown, hby, hml, hlk, hn, hrt, hnm⟩ := S
  obtain ⟨cl, A, g1, g2, g3, g4⟩ := F
  exact o_to (X.arraylength hx (by rw [eT]; exact A.1) (State.isArrayOf_alike hZ.alike A.2.1) (g := mkF m pc L (.ref a :: st)) rfl rfl (hb hby hd)) (by rw [g1]; exact k)
theorem o_bid {x : Int32} (h1 : -128 ≤ x.toInt) (h2 : x.toInt < 128) : x.toInt8.toInt32 = x := by
  rw [← Int32.toInt_inj]; have := c_i2b x; omega
theorem o_cid {x : Int32} (h1 : 0 ≤ x.toInt) (h2 : x.toInt < 65536) : x.toUInt32.toUInt16.toUInt32.toInt32 = x := by
  rw [← Int32.toInt_inj]; have := c_i2c x; omega
theorem o_i2bb (x : Int32) : x.toInt8.toInt32.toInt8.toInt32 = x.toInt8.toInt32 := o_bid (c_i2b x).2.1 (c_i2b x).2.2
theorem o_narB {x : Int32} (h1 : -128 ≤ x.toInt) (h2 : x.toInt < 128) : narrow .byte (.int x) = .int x := by show Value.int _ = _; rw [o_bid h1 h2]
theorem o_narC {x : Int32} (h1 : 0 ≤ x.toInt) (h2 : x.toInt < 65536) : narrow .char (.int x) = .int x := by show Value.int _ = _; rw [o_cid h1 h2]
theorem o_narZ {x : Int32} (h : x = 0 ∨ x = 1) : narrow .boolean (.int x) = .int x := by rcases h with rfl | rfl <;> rfl
theorem o_split64 (x M m : Int64) (h1 : M ||| m = -1) (h0 : M &&& m = 0) : (x &&& M) ||| (x &&& m) = x ∧ (x &&& M) &&& m = 0 := by
  refine ⟨?_, by rw [Int64.and_assoc, h0, Int64.and_zero]⟩
  have q : x &&& (M ||| m) = (x &&& M) ||| (x &&& m) := Int64.toBitVec_inj.1 BitVec.and_or_distrib_left
  rw [← q, h1, Int64.and_neg_one]
theorem o_ne32 {x y : Int32} (h : x.toInt ≠ y.toInt) : x ≠ y := fun q => h (by rw [q])
theorem o_eq32 {x y : Int32} (h : x.toInt = y.toInt) : x = y := Int32.toInt_inj.mp h
end OwnPre
def encL (p0 p2 : Int32) (xs : List Int32) : List Int32 := if 128 ≤ p0.toInt then (if 2048 ≤ p0.toInt then (if 65536 ≤ p0.toInt then (List.set (List.set (List.set (List.set xs p2.toNatClampNeg (((240 : Int32) ||| (p0 >>> ((18 : Int32) &&& 31))).toInt8.toInt32)) (p2 + (1 : Int32)).toNatClampNeg (((128 : Int32) ||| ((p0 >>> ((12 : Int32) &&& 31)) &&& (63 : Int32))).toInt8.toInt32)) ((p2 + (1 : Int32)) + (1 : Int32)).toNatClampNeg (((128 : Int32) ||| ((p0 >>> ((6 : Int32) &&& 31)) &&& (63 : Int32))).toInt8.toInt32)) (((p2 + (1 : Int32)) + (1 : Int32)) + (1 : Int32)).toNatClampNeg (((128 : Int32) ||| (p0 &&& (63 : Int32))).toInt8.toInt32)) else (List.set (List.set (List.set xs p2.toNatClampNeg (((224 : Int32) ||| (p0 >>> ((12 : Int32) &&& 31))).toInt8.toInt32)) (p2 + (1 : Int32)).toNatClampNeg (((128 : Int32) ||| ((p0 >>> ((6 : Int32) &&& 31)) &&& (63 : Int32))).toInt8.toInt32)) ((p2 + (1 : Int32)) + (1 : Int32)).toNatClampNeg (((128 : Int32) ||| (p0 &&& (63 : Int32))).toInt8.toInt32))) else (List.set (List.set xs p2.toNatClampNeg (((192 : Int32) ||| (p0 >>> ((6 : Int32) &&& 31))).toInt8.toInt32)) (p2 + (1 : Int32)).toNatClampNeg (((128 : Int32) ||| (p0 &&& (63 : Int32))).toInt8.toInt32))) else (List.set xs p2.toNatClampNeg (p0.toInt8.toInt32))
def encN (p0 p2 : Int32) : Int32 := if 128 ≤ p0.toInt then (if 2048 ≤ p0.toInt then (if 65536 ≤ p0.toInt then ((((p2 + (1 : Int32)) + (1 : Int32)) + (1 : Int32)) + (1 : Int32)) else (((p2 + (1 : Int32)) + (1 : Int32)) + (1 : Int32))) else ((p2 + (1 : Int32)) + (1 : Int32))) else (p2 + (1 : Int32))
def Q_1 (Z : State) (p0 : Int32) (r1 : Addr) (p2 : Int32) (xs : List Int32) (h0 : Heap) (n0 : Nat) : Option Value → Heap → Prop := fun v h => v = some (.int (encN p0 p2)) ∧ Keep h0 h [r1] ∧ IA Z h r1 .byte (encL p0 p2 xs)
theorem d1_0 : decode prog_65_method_2_code 0 = .ok (.iload_n 2, 1) := by decide +kernel
theorem d1_1 : decode prog_65_method_2_code 1 = .ok (.istore_n 3, 1) := by decide +kernel
theorem d1_2 : decode prog_65_method_2_code 2 = .ok (.iload_n 0, 1) := by decide +kernel
theorem d1_3 : decode prog_65_method_2_code 3 = .ok (.sipush 128, 3) := by decide +kernel
theorem d1_6 : decode prog_65_method_2_code 6 = .ok (.if_icmp .ge 14, 3) := by decide +kernel
theorem d1_9 : decode prog_65_method_2_code 9 = .ok (.aload_n 1, 1) := by decide +kernel
theorem d1_10 : decode prog_65_method_2_code 10 = .ok (.iload_n 3, 1) := by decide +kernel
theorem d1_11 : decode prog_65_method_2_code 11 = .ok (.iinc 3 1, 3) := by decide +kernel
theorem d1_14 : decode prog_65_method_2_code 14 = .ok (.iload_n 0, 1) := by decide +kernel
theorem d1_15 : decode prog_65_method_2_code 15 = .ok (.i2b, 1) := by decide +kernel
theorem d1_16 : decode prog_65_method_2_code 16 = .ok (.bastore, 1) := by decide +kernel
theorem d1_17 : decode prog_65_method_2_code 17 = .ok (.goto 166, 3) := by decide +kernel
theorem d1_20 : decode prog_65_method_2_code 20 = .ok (.iload_n 0, 1) := by decide +kernel
theorem d1_21 : decode prog_65_method_2_code 21 = .ok (.sipush 2048, 3) := by decide +kernel
theorem d1_24 : decode prog_65_method_2_code 24 = .ok (.if_icmp .ge 36, 3) := by decide +kernel
theorem d1_27 : decode prog_65_method_2_code 27 = .ok (.aload_n 1, 1) := by decide +kernel
theorem d1_28 : decode prog_65_method_2_code 28 = .ok (.iload_n 3, 1) := by decide +kernel
theorem d1_29 : decode prog_65_method_2_code 29 = .ok (.iinc 3 1, 3) := by decide +kernel
theorem d1_32 : decode prog_65_method_2_code 32 = .ok (.sipush 192, 3) := by decide +kernel
theorem d1_35 : decode prog_65_method_2_code 35 = .ok (.iload_n 0, 1) := by decide +kernel
theorem d1_36 : decode prog_65_method_2_code 36 = .ok (.bipush 6, 2) := by decide +kernel
theorem d1_38 : decode prog_65_method_2_code 38 = .ok (.ishr, 1) := by decide +kernel
theorem d1_39 : decode prog_65_method_2_code 39 = .ok (.ior, 1) := by decide +kernel
theorem d1_40 : decode prog_65_method_2_code 40 = .ok (.i2b, 1) := by decide +kernel
theorem d1_41 : decode prog_65_method_2_code 41 = .ok (.bastore, 1) := by decide +kernel
theorem d1_42 : decode prog_65_method_2_code 42 = .ok (.aload_n 1, 1) := by decide +kernel
theorem d1_43 : decode prog_65_method_2_code 43 = .ok (.iload_n 3, 1) := by decide +kernel
theorem d1_44 : decode prog_65_method_2_code 44 = .ok (.iinc 3 1, 3) := by decide +kernel
theorem d1_47 : decode prog_65_method_2_code 47 = .ok (.sipush 128, 3) := by decide +kernel
theorem d1_50 : decode prog_65_method_2_code 50 = .ok (.iload_n 0, 1) := by decide +kernel
theorem d1_51 : decode prog_65_method_2_code 51 = .ok (.bipush 63, 2) := by decide +kernel
theorem d1_53 : decode prog_65_method_2_code 53 = .ok (.iand, 1) := by decide +kernel
theorem d1_54 : decode prog_65_method_2_code 54 = .ok (.ior, 1) := by decide +kernel
theorem d1_55 : decode prog_65_method_2_code 55 = .ok (.i2b, 1) := by decide +kernel
theorem d1_56 : decode prog_65_method_2_code 56 = .ok (.bastore, 1) := by decide +kernel
theorem d1_57 : decode prog_65_method_2_code 57 = .ok (.goto 126, 3) := by decide +kernel
theorem d1_60 : decode prog_65_method_2_code 60 = .ok (.iload_n 0, 1) := by decide +kernel
theorem d1_61 : decode prog_65_method_2_code 61 = .ok (.ldc 7, 2) := by decide +kernel
theorem d1_63 : decode prog_65_method_2_code 63 = .ok (.if_icmp .ge 54, 3) := by decide +kernel
theorem d1_66 : decode prog_65_method_2_code 66 = .ok (.aload_n 1, 1) := by decide +kernel
theorem d1_67 : decode prog_65_method_2_code 67 = .ok (.iload_n 3, 1) := by decide +kernel
theorem d1_68 : decode prog_65_method_2_code 68 = .ok (.iinc 3 1, 3) := by decide +kernel
theorem d1_71 : decode prog_65_method_2_code 71 = .ok (.sipush 224, 3) := by decide +kernel
theorem d1_74 : decode prog_65_method_2_code 74 = .ok (.iload_n 0, 1) := by decide +kernel
theorem d1_75 : decode prog_65_method_2_code 75 = .ok (.bipush 12, 2) := by decide +kernel
theorem d1_77 : decode prog_65_method_2_code 77 = .ok (.ishr, 1) := by decide +kernel
theorem d1_78 : decode prog_65_method_2_code 78 = .ok (.ior, 1) := by decide +kernel
theorem d1_79 : decode prog_65_method_2_code 79 = .ok (.i2b, 1) := by decide +kernel
theorem d1_80 : decode prog_65_method_2_code 80 = .ok (.bastore, 1) := by decide +kernel
theorem d1_81 : decode prog_65_method_2_code 81 = .ok (.aload_n 1, 1) := by decide +kernel
theorem d1_82 : decode prog_65_method_2_code 82 = .ok (.iload_n 3, 1) := by decide +kernel
theorem d1_83 : decode prog_65_method_2_code 83 = .ok (.iinc 3 1, 3) := by decide +kernel
theorem d1_86 : decode prog_65_method_2_code 86 = .ok (.sipush 128, 3) := by decide +kernel
theorem d1_89 : decode prog_65_method_2_code 89 = .ok (.iload_n 0, 1) := by decide +kernel
theorem d1_90 : decode prog_65_method_2_code 90 = .ok (.bipush 6, 2) := by decide +kernel
theorem d1_92 : decode prog_65_method_2_code 92 = .ok (.ishr, 1) := by decide +kernel
theorem d1_93 : decode prog_65_method_2_code 93 = .ok (.bipush 63, 2) := by decide +kernel
theorem d1_95 : decode prog_65_method_2_code 95 = .ok (.iand, 1) := by decide +kernel
theorem d1_96 : decode prog_65_method_2_code 96 = .ok (.ior, 1) := by decide +kernel
theorem d1_97 : decode prog_65_method_2_code 97 = .ok (.i2b, 1) := by decide +kernel
theorem d1_98 : decode prog_65_method_2_code 98 = .ok (.bastore, 1) := by decide +kernel
theorem d1_99 : decode prog_65_method_2_code 99 = .ok (.aload_n 1, 1) := by decide +kernel
theorem d1_100 : decode prog_65_method_2_code 100 = .ok (.iload_n 3, 1) := by decide +kernel
theorem d1_101 : decode prog_65_method_2_code 101 = .ok (.iinc 3 1, 3) := by decide +kernel
theorem d1_104 : decode prog_65_method_2_code 104 = .ok (.sipush 128, 3) := by decide +kernel
theorem d1_107 : decode prog_65_method_2_code 107 = .ok (.iload_n 0, 1) := by decide +kernel
theorem d1_108 : decode prog_65_method_2_code 108 = .ok (.bipush 63, 2) := by decide +kernel
theorem d1_110 : decode prog_65_method_2_code 110 = .ok (.iand, 1) := by decide +kernel
theorem d1_111 : decode prog_65_method_2_code 111 = .ok (.ior, 1) := by decide +kernel
theorem d1_112 : decode prog_65_method_2_code 112 = .ok (.i2b, 1) := by decide +kernel
theorem d1_113 : decode prog_65_method_2_code 113 = .ok (.bastore, 1) := by decide +kernel
theorem d1_114 : decode prog_65_method_2_code 114 = .ok (.goto 69, 3) := by decide +kernel
theorem d1_117 : decode prog_65_method_2_code 117 = .ok (.aload_n 1, 1) := by decide +kernel
theorem d1_118 : decode prog_65_method_2_code 118 = .ok (.iload_n 3, 1) := by decide +kernel
theorem d1_119 : decode prog_65_method_2_code 119 = .ok (.iinc 3 1, 3) := by decide +kernel
theorem d1_122 : decode prog_65_method_2_code 122 = .ok (.sipush 240, 3) := by decide +kernel
theorem d1_125 : decode prog_65_method_2_code 125 = .ok (.iload_n 0, 1) := by decide +kernel
theorem d1_126 : decode prog_65_method_2_code 126 = .ok (.bipush 18, 2) := by decide +kernel
theorem d1_128 : decode prog_65_method_2_code 128 = .ok (.ishr, 1) := by decide +kernel
theorem d1_129 : decode prog_65_method_2_code 129 = .ok (.ior, 1) := by decide +kernel
theorem d1_130 : decode prog_65_method_2_code 130 = .ok (.i2b, 1) := by decide +kernel
theorem d1_131 : decode prog_65_method_2_code 131 = .ok (.bastore, 1) := by decide +kernel
theorem d1_132 : decode prog_65_method_2_code 132 = .ok (.aload_n 1, 1) := by decide +kernel
theorem d1_133 : decode prog_65_method_2_code 133 = .ok (.iload_n 3, 1) := by decide +kernel
theorem d1_134 : decode prog_65_method_2_code 134 = .ok (.iinc 3 1, 3) := by decide +kernel
theorem d1_137 : decode prog_65_method_2_code 137 = .ok (.sipush 128, 3) := by decide +kernel
theorem d1_140 : decode prog_65_method_2_code 140 = .ok (.iload_n 0, 1) := by decide +kernel
theorem d1_141 : decode prog_65_method_2_code 141 = .ok (.bipush 12, 2) := by decide +kernel
theorem d1_143 : decode prog_65_method_2_code 143 = .ok (.ishr, 1) := by decide +kernel
theorem d1_144 : decode prog_65_method_2_code 144 = .ok (.bipush 63, 2) := by decide +kernel
theorem d1_146 : decode prog_65_method_2_code 146 = .ok (.iand, 1) := by decide +kernel
theorem d1_147 : decode prog_65_method_2_code 147 = .ok (.ior, 1) := by decide +kernel
theorem d1_148 : decode prog_65_method_2_code 148 = .ok (.i2b, 1) := by decide +kernel
theorem d1_149 : decode prog_65_method_2_code 149 = .ok (.bastore, 1) := by decide +kernel
theorem d1_150 : decode prog_65_method_2_code 150 = .ok (.aload_n 1, 1) := by decide +kernel
theorem d1_151 : decode prog_65_method_2_code 151 = .ok (.iload_n 3, 1) := by decide +kernel
theorem d1_152 : decode prog_65_method_2_code 152 = .ok (.iinc 3 1, 3) := by decide +kernel
theorem d1_155 : decode prog_65_method_2_code 155 = .ok (.sipush 128, 3) := by decide +kernel
theorem d1_158 : decode prog_65_method_2_code 158 = .ok (.iload_n 0, 1) := by decide +kernel
theorem d1_159 : decode prog_65_method_2_code 159 = .ok (.bipush 6, 2) := by decide +kernel
theorem d1_161 : decode prog_65_method_2_code 161 = .ok (.ishr, 1) := by decide +kernel
theorem d1_162 : decode prog_65_method_2_code 162 = .ok (.bipush 63, 2) := by decide +kernel
theorem d1_164 : decode prog_65_method_2_code 164 = .ok (.iand, 1) := by decide +kernel
theorem d1_165 : decode prog_65_method_2_code 165 = .ok (.ior, 1) := by decide +kernel
theorem d1_166 : decode prog_65_method_2_code 166 = .ok (.i2b, 1) := by decide +kernel
theorem d1_167 : decode prog_65_method_2_code 167 = .ok (.bastore, 1) := by decide +kernel
theorem d1_168 : decode prog_65_method_2_code 168 = .ok (.aload_n 1, 1) := by decide +kernel
theorem d1_169 : decode prog_65_method_2_code 169 = .ok (.iload_n 3, 1) := by decide +kernel
theorem d1_170 : decode prog_65_method_2_code 170 = .ok (.iinc 3 1, 3) := by decide +kernel
theorem d1_173 : decode prog_65_method_2_code 173 = .ok (.sipush 128, 3) := by decide +kernel
theorem d1_176 : decode prog_65_method_2_code 176 = .ok (.iload_n 0, 1) := by decide +kernel
theorem d1_177 : decode prog_65_method_2_code 177 = .ok (.bipush 63, 2) := by decide +kernel
theorem d1_179 : decode prog_65_method_2_code 179 = .ok (.iand, 1) := by decide +kernel
theorem d1_180 : decode prog_65_method_2_code 180 = .ok (.ior, 1) := by decide +kernel
theorem d1_181 : decode prog_65_method_2_code 181 = .ok (.i2b, 1) := by decide +kernel
theorem d1_182 : decode prog_65_method_2_code 182 = .ok (.bastore, 1) := by decide +kernel
theorem d1_183 : decode prog_65_method_2_code 183 = .ok (.iload_n 3, 1) := by decide +kernel
theorem d1_184 : decode prog_65_method_2_code 184 = .ok (.ireturn, 1) := by decide +kernel
def rm_1 : Room := ({ frames := 0, cells := 0, slots := 0, locals := 0 } : Room)
theorem pn_1 : plainFor (⟨"com/example/mince_trees/mincetrees/tree/Utf8", "encode", "(I[BI)I"⟩ : MethodName) = true := plainFor_of_name (by first | (simp [plainName, overriddenIn]; done) | (simp [plainName, overriddenIn, x]; done) | decide +kernel)
theorem ef_1 (p0 : Int32) (r1 : Addr) (p2 : Int32) (m : MethodId) : entryFrame m #[(.int p0), (.ref r1), (.int p2)] 4 = mkF m 0 #[.val (.int p0), .val (.ref r1), .val (.int p2), .unset] [] := by first | (simp [entryFrame, mkF, argsToLocals, Value.category]; done) | rfl
set_option maxRecDepth 65536 in
set_option maxHeartbeats 40000000 in
theorem ct_1 (l : Launch) (Z : State) (a0 : Array Value) (hw : ∀ d ∈ tables_1, d.before a0 Z = true) (p0 : Int32) (r1 : Addr) (p2 : Int32) (xs : List Int32) (h0 : Heap) (n0 : Nat) (hn : n0 ≤ h0.size) (A_r1 : IA Z h0 r1 .byte (xs)) (g_r1 : n0 ≤ r1) (hq0 : 0 ≤ p2.toInt) (hq1 : p2.toInt + 4 ≤ xs.length) : Ct l (⟨"com/example/mince_trees/mincetrees/tree/Utf8", "encode", "(I[BI)I"⟩ : MethodName) prog_65_method_2_code 4 (some .int) [] rm_1 Z h0 n0 #[(.int p0), (.ref r1), (.int p2)] (Q_1 Z p0 r1 p2 xs h0 n0) := by
  refine o_body pn_1 hn (ef_1 p0 r1 p2) ?_
  intro p e s m below meth c T S
  have hl := A_r1.len
  have w1 : (1 : Int32).toInt = 1 := rfl
  have hj1 : (p2 + (1 : Int32)).toInt = p2.toInt + 1 := by have := c_iadd p2 1; have := rng32 (p2 + (1 : Int32)); omega
  have hj2 : ((p2 + (1 : Int32)) + (1 : Int32)).toInt = p2.toInt + 2 := by have := c_iadd (p2 + (1 : Int32)) 1; have := rng32 ((p2 + (1 : Int32)) + (1 : Int32)); omega
  have hj3 : (((p2 + (1 : Int32)) + (1 : Int32)) + (1 : Int32)).toInt = p2.toInt + 3 := by have := c_iadd ((p2 + (1 : Int32)) + (1 : Int32)) 1; have := rng32 (((p2 + (1 : Int32)) + (1 : Int32)) + (1 : Int32)); omega
  have K : Keep h0 h0 [r1] := Keep.refl _ _
  refine o_iloadN S rfl d1_0 rfl (q := 1) ?_
  refine o_istoreN S (L' := #[.val (.int p0), .val (.ref r1), .val (.int p2), .val (.int p2)]) rfl d1_1 rfl (q := 2) ?_
  refine o_iloadN S rfl d1_2 rfl (q := 3) ?_
  refine o_sipush S (z := 128) rfl d1_3 rfl (q := 6) ?_
  refine o_icmp S d1_6 (by decide) (q' := 20) (by decide) (q := 9) rfl (hs_ge (a := p0.toInt) (b := 128) rfl rfl).1 (hs_ge (a := p0.toInt) (b := 128) rfl rfl).2 (fun hc6 => ?_) (fun hc6 => ?_)
  · skip
    refine o_iloadN S rfl d1_20 rfl (q := 21) ?_
    refine o_sipush S (z := 2048) rfl d1_21 rfl (q := 24) ?_
    refine o_icmp S d1_24 (by decide) (q' := 60) (by decide) (q := 27) rfl (hs_ge (a := p0.toInt) (b := 2048) rfl rfl).1 (hs_ge (a := p0.toInt) (b := 2048) rfl rfl).2 (fun hc24 => ?_) (fun hc24 => ?_)
    · skip
      refine o_iloadN S rfl d1_60 rfl (q := 61) ?_
      refine o_ldc S (o_wd (i := 12) hw rfl) d1_61 rfl (q := 63) ?_
      refine o_icmp S d1_63 (by decide) (q' := 117) (by decide) (q := 66) rfl (hs_ge (a := p0.toInt) (b := 65536) rfl rfl).1 (hs_ge (a := p0.toInt) (b := 65536) rfl rfl).2 (fun hc63 => ?_) (fun hc63 => ?_)
      · skip
        refine o_aloadN S rfl rfl d1_117 rfl (q := 118) ?_
        refine o_iloadN S rfl d1_118 rfl (q := 119) ?_
        refine o_iinc S rfl (L' := #[.val (.int p0), .val (.ref r1), .val (.int p2), .val (.int (p2 + (1 : Int32)))]) rfl d1_119 rfl (q := 122) ?_
        refine o_sipush S (z := 240) rfl d1_122 rfl (q := 125) ?_
        refine o_iloadN S rfl d1_125 rfl (q := 126) ?_
        refine o_bipush S (z := 18) rfl d1_126 rfl (q := 128) ?_
        refine o_ishr S d1_128 rfl (q := 129) ?_
        refine o_ior S d1_129 rfl (q := 130) ?_
        refine o_i2b S d1_130 rfl (q := 131) ?_
        refine o_bastore S (y := (((240 : Int32) ||| (p0 >>> ((18 : Int32) &&& 31))).toInt8.toInt32)) (ys := (List.set xs p2.toNatClampNeg (((240 : Int32) ||| (p0 >>> ((18 : Int32) &&& 31))).toInt8.toInt32))) A_r1 (by omega) (by first | omega | (simp only [List.length_set]; omega)) g_r1 (o_i2bb _) rfl d1_131 rfl (q := 132) (fun T h1 S W A_r1 => ?_)
        have K := K.wr W (Or.inl (List.mem_of_getElem? (i := 0) rfl))
        refine o_aloadN S rfl rfl d1_132 rfl (q := 133) ?_
        refine o_iloadN S rfl d1_133 rfl (q := 134) ?_
        refine o_iinc S rfl (L' := #[.val (.int p0), .val (.ref r1), .val (.int p2), .val (.int ((p2 + (1 : Int32)) + (1 : Int32)))]) rfl d1_134 rfl (q := 137) ?_
        refine o_sipush S (z := 128) rfl d1_137 rfl (q := 140) ?_
        refine o_iloadN S rfl d1_140 rfl (q := 141) ?_
        refine o_bipush S (z := 12) rfl d1_141 rfl (q := 143) ?_
        refine o_ishr S d1_143 rfl (q := 144) ?_
        refine o_bipush S (z := 63) rfl d1_144 rfl (q := 146) ?_
        refine o_iand S d1_146 rfl (q := 147) ?_
        refine o_ior S d1_147 rfl (q := 148) ?_
        refine o_i2b S d1_148 rfl (q := 149) ?_
        refine o_bastore S (y := (((128 : Int32) ||| ((p0 >>> ((12 : Int32) &&& 31)) &&& (63 : Int32))).toInt8.toInt32)) (ys := (List.set (List.set xs p2.toNatClampNeg (((240 : Int32) ||| (p0 >>> ((18 : Int32) &&& 31))).toInt8.toInt32)) (p2 + (1 : Int32)).toNatClampNeg (((128 : Int32) ||| ((p0 >>> ((12 : Int32) &&& 31)) &&& (63 : Int32))).toInt8.toInt32))) A_r1 (by omega) (by first | omega | (simp only [List.length_set]; omega)) g_r1 (o_i2bb _) rfl d1_149 rfl (q := 150) (fun T h2 S W A_r1 => ?_)
        have K := K.wr W (Or.inl (List.mem_of_getElem? (i := 0) rfl))
        refine o_aloadN S rfl rfl d1_150 rfl (q := 151) ?_
        refine o_iloadN S rfl d1_151 rfl (q := 152) ?_
        refine o_iinc S rfl (L' := #[.val (.int p0), .val (.ref r1), .val (.int p2), .val (.int (((p2 + (1 : Int32)) + (1 : Int32)) + (1 : Int32)))]) rfl d1_152 rfl (q := 155) ?_
        refine o_sipush S (z := 128) rfl d1_155 rfl (q := 158) ?_
        refine o_iloadN S rfl d1_158 rfl (q := 159) ?_
        refine o_bipush S (z := 6) rfl d1_159 rfl (q := 161) ?_
        refine o_ishr S d1_161 rfl (q := 162) ?_
        refine o_bipush S (z := 63) rfl d1_162 rfl (q := 164) ?_
        refine o_iand S d1_164 rfl (q := 165) ?_
        refine o_ior S d1_165 rfl (q := 166) ?_
        refine o_i2b S d1_166 rfl (q := 167) ?_
        refine o_bastore S (y := (((128 : Int32) ||| ((p0 >>> ((6 : Int32) &&& 31)) &&& (63 : Int32))).toInt8.toInt32)) (ys := (List.set (List.set (List.set xs p2.toNatClampNeg (((240 : Int32) ||| (p0 >>> ((18 : Int32) &&& 31))).toInt8.toInt32)) (p2 + (1 : Int32)).toNatClampNeg (((128 : Int32) ||| ((p0 >>> ((12 : Int32) &&& 31)) &&& (63 : Int32))).toInt8.toInt32)) ((p2 + (1 : Int32)) + (1 : Int32)).toNatClampNeg (((128 : Int32) ||| ((p0 >>> ((6 : Int32) &&& 31)) &&& (63 : Int32))).toInt8.toInt32))) A_r1 (by omega) (by first | omega | (simp only [List.length_set]; omega)) g_r1 (o_i2bb _) rfl d1_167 rfl (q := 168) (fun T h3 S W A_r1 => ?_)
        have K := K.wr W (Or.inl (List.mem_of_getElem? (i := 0) rfl))
        refine o_aloadN S rfl rfl d1_168 rfl (q := 169) ?_
        refine o_iloadN S rfl d1_169 rfl (q := 170) ?_
        refine o_iinc S rfl (L' := #[.val (.int p0), .val (.ref r1), .val (.int p2), .val (.int ((((p2 + (1 : Int32)) + (1 : Int32)) + (1 : Int32)) + (1 : Int32)))]) rfl d1_170 rfl (q := 173) ?_
        refine o_sipush S (z := 128) rfl d1_173 rfl (q := 176) ?_
        refine o_iloadN S rfl d1_176 rfl (q := 177) ?_
        refine o_bipush S (z := 63) rfl d1_177 rfl (q := 179) ?_
        refine o_iand S d1_179 rfl (q := 180) ?_
        refine o_ior S d1_180 rfl (q := 181) ?_
        refine o_i2b S d1_181 rfl (q := 182) ?_
        refine o_bastore S (y := (((128 : Int32) ||| (p0 &&& (63 : Int32))).toInt8.toInt32)) (ys := (List.set (List.set (List.set (List.set xs p2.toNatClampNeg (((240 : Int32) ||| (p0 >>> ((18 : Int32) &&& 31))).toInt8.toInt32)) (p2 + (1 : Int32)).toNatClampNeg (((128 : Int32) ||| ((p0 >>> ((12 : Int32) &&& 31)) &&& (63 : Int32))).toInt8.toInt32)) ((p2 + (1 : Int32)) + (1 : Int32)).toNatClampNeg (((128 : Int32) ||| ((p0 >>> ((6 : Int32) &&& 31)) &&& (63 : Int32))).toInt8.toInt32)) (((p2 + (1 : Int32)) + (1 : Int32)) + (1 : Int32)).toNatClampNeg (((128 : Int32) ||| (p0 &&& (63 : Int32))).toInt8.toInt32))) A_r1 (by omega) (by first | omega | (simp only [List.length_set]; omega)) g_r1 (o_i2bb _) rfl d1_182 rfl (q := 183) (fun T h4 S W A_r1 => ?_)
        have K := K.wr W (Or.inl (List.mem_of_getElem? (i := 0) rfl))
        refine o_iloadN S rfl d1_183 rfl (q := 184) ?_
        refine o_retI S rfl d1_184 (by decide) (by decide) ?_
        exact ⟨o_si (by rw [encN, if_pos hc6, if_pos hc24, if_pos hc63]), K, by rw [encL, if_pos hc6, if_pos hc24, if_pos hc63]; exact A_r1⟩
      · skip
        refine o_aloadN S rfl rfl d1_66 rfl (q := 67) ?_
        refine o_iloadN S rfl d1_67 rfl (q := 68) ?_
        refine o_iinc S rfl (L' := #[.val (.int p0), .val (.ref r1), .val (.int p2), .val (.int (p2 + (1 : Int32)))]) rfl d1_68 rfl (q := 71) ?_
        refine o_sipush S (z := 224) rfl d1_71 rfl (q := 74) ?_
        refine o_iloadN S rfl d1_74 rfl (q := 75) ?_
        refine o_bipush S (z := 12) rfl d1_75 rfl (q := 77) ?_
        refine o_ishr S d1_77 rfl (q := 78) ?_
        refine o_ior S d1_78 rfl (q := 79) ?_
        refine o_i2b S d1_79 rfl (q := 80) ?_
        refine o_bastore S (y := (((224 : Int32) ||| (p0 >>> ((12 : Int32) &&& 31))).toInt8.toInt32)) (ys := (List.set xs p2.toNatClampNeg (((224 : Int32) ||| (p0 >>> ((12 : Int32) &&& 31))).toInt8.toInt32))) A_r1 (by omega) (by first | omega | (simp only [List.length_set]; omega)) g_r1 (o_i2bb _) rfl d1_80 rfl (q := 81) (fun T h5 S W A_r1 => ?_)
        have K := K.wr W (Or.inl (List.mem_of_getElem? (i := 0) rfl))
        refine o_aloadN S rfl rfl d1_81 rfl (q := 82) ?_
        refine o_iloadN S rfl d1_82 rfl (q := 83) ?_
        refine o_iinc S rfl (L' := #[.val (.int p0), .val (.ref r1), .val (.int p2), .val (.int ((p2 + (1 : Int32)) + (1 : Int32)))]) rfl d1_83 rfl (q := 86) ?_
        refine o_sipush S (z := 128) rfl d1_86 rfl (q := 89) ?_
        refine o_iloadN S rfl d1_89 rfl (q := 90) ?_
        refine o_bipush S (z := 6) rfl d1_90 rfl (q := 92) ?_
        refine o_ishr S d1_92 rfl (q := 93) ?_
        refine o_bipush S (z := 63) rfl d1_93 rfl (q := 95) ?_
        refine o_iand S d1_95 rfl (q := 96) ?_
        refine o_ior S d1_96 rfl (q := 97) ?_
        refine o_i2b S d1_97 rfl (q := 98) ?_
        refine o_bastore S (y := (((128 : Int32) ||| ((p0 >>> ((6 : Int32) &&& 31)) &&& (63 : Int32))).toInt8.toInt32)) (ys := (List.set (List.set xs p2.toNatClampNeg (((224 : Int32) ||| (p0 >>> ((12 : Int32) &&& 31))).toInt8.toInt32)) (p2 + (1 : Int32)).toNatClampNeg (((128 : Int32) ||| ((p0 >>> ((6 : Int32) &&& 31)) &&& (63 : Int32))).toInt8.toInt32))) A_r1 (by omega) (by first | omega | (simp only [List.length_set]; omega)) g_r1 (o_i2bb _) rfl d1_98 rfl (q := 99) (fun T h6 S W A_r1 => ?_)
        have K := K.wr W (Or.inl (List.mem_of_getElem? (i := 0) rfl))
        refine o_aloadN S rfl rfl d1_99 rfl (q := 100) ?_
        refine o_iloadN S rfl d1_100 rfl (q := 101) ?_
        refine o_iinc S rfl (L' := #[.val (.int p0), .val (.ref r1), .val (.int p2), .val (.int (((p2 + (1 : Int32)) + (1 : Int32)) + (1 : Int32)))]) rfl d1_101 rfl (q := 104) ?_
        refine o_sipush S (z := 128) rfl d1_104 rfl (q := 107) ?_
        refine o_iloadN S rfl d1_107 rfl (q := 108) ?_
        refine o_bipush S (z := 63) rfl d1_108 rfl (q := 110) ?_
        refine o_iand S d1_110 rfl (q := 111) ?_
        refine o_ior S d1_111 rfl (q := 112) ?_
        refine o_i2b S d1_112 rfl (q := 113) ?_
        refine o_bastore S (y := (((128 : Int32) ||| (p0 &&& (63 : Int32))).toInt8.toInt32)) (ys := (List.set (List.set (List.set xs p2.toNatClampNeg (((224 : Int32) ||| (p0 >>> ((12 : Int32) &&& 31))).toInt8.toInt32)) (p2 + (1 : Int32)).toNatClampNeg (((128 : Int32) ||| ((p0 >>> ((6 : Int32) &&& 31)) &&& (63 : Int32))).toInt8.toInt32)) ((p2 + (1 : Int32)) + (1 : Int32)).toNatClampNeg (((128 : Int32) ||| (p0 &&& (63 : Int32))).toInt8.toInt32))) A_r1 (by omega) (by first | omega | (simp only [List.length_set]; omega)) g_r1 (o_i2bb _) rfl d1_113 rfl (q := 114) (fun T h7 S W A_r1 => ?_)
        have K := K.wr W (Or.inl (List.mem_of_getElem? (i := 0) rfl))
        refine o_goto S d1_114 (by decide) (q := 183) (by decide) ?_
        refine o_iloadN S rfl d1_183 rfl (q := 184) ?_
        refine o_retI S rfl d1_184 (by decide) (by decide) ?_
        exact ⟨o_si (by rw [encN, if_pos hc6, if_pos hc24, if_neg hc63]), K, by rw [encL, if_pos hc6, if_pos hc24, if_neg hc63]; exact A_r1⟩
    · skip
      refine o_aloadN S rfl rfl d1_27 rfl (q := 28) ?_
      refine o_iloadN S rfl d1_28 rfl (q := 29) ?_
      refine o_iinc S rfl (L' := #[.val (.int p0), .val (.ref r1), .val (.int p2), .val (.int (p2 + (1 : Int32)))]) rfl d1_29 rfl (q := 32) ?_
      refine o_sipush S (z := 192) rfl d1_32 rfl (q := 35) ?_
      refine o_iloadN S rfl d1_35 rfl (q := 36) ?_
      refine o_bipush S (z := 6) rfl d1_36 rfl (q := 38) ?_
      refine o_ishr S d1_38 rfl (q := 39) ?_
      refine o_ior S d1_39 rfl (q := 40) ?_
      refine o_i2b S d1_40 rfl (q := 41) ?_
      refine o_bastore S (y := (((192 : Int32) ||| (p0 >>> ((6 : Int32) &&& 31))).toInt8.toInt32)) (ys := (List.set xs p2.toNatClampNeg (((192 : Int32) ||| (p0 >>> ((6 : Int32) &&& 31))).toInt8.toInt32))) A_r1 (by omega) (by first | omega | (simp only [List.length_set]; omega)) g_r1 (o_i2bb _) rfl d1_41 rfl (q := 42) (fun T h8 S W A_r1 => ?_)
      have K := K.wr W (Or.inl (List.mem_of_getElem? (i := 0) rfl))
      refine o_aloadN S rfl rfl d1_42 rfl (q := 43) ?_
      refine o_iloadN S rfl d1_43 rfl (q := 44) ?_
      refine o_iinc S rfl (L' := #[.val (.int p0), .val (.ref r1), .val (.int p2), .val (.int ((p2 + (1 : Int32)) + (1 : Int32)))]) rfl d1_44 rfl (q := 47) ?_
      refine o_sipush S (z := 128) rfl d1_47 rfl (q := 50) ?_
      refine o_iloadN S rfl d1_50 rfl (q := 51) ?_
      refine o_bipush S (z := 63) rfl d1_51 rfl (q := 53) ?_
      refine o_iand S d1_53 rfl (q := 54) ?_
      refine o_ior S d1_54 rfl (q := 55) ?_
      refine o_i2b S d1_55 rfl (q := 56) ?_
      refine o_bastore S (y := (((128 : Int32) ||| (p0 &&& (63 : Int32))).toInt8.toInt32)) (ys := (List.set (List.set xs p2.toNatClampNeg (((192 : Int32) ||| (p0 >>> ((6 : Int32) &&& 31))).toInt8.toInt32)) (p2 + (1 : Int32)).toNatClampNeg (((128 : Int32) ||| (p0 &&& (63 : Int32))).toInt8.toInt32))) A_r1 (by omega) (by first | omega | (simp only [List.length_set]; omega)) g_r1 (o_i2bb _) rfl d1_56 rfl (q := 57) (fun T h9 S W A_r1 => ?_)
      have K := K.wr W (Or.inl (List.mem_of_getElem? (i := 0) rfl))
      refine o_goto S d1_57 (by decide) (q := 183) (by decide) ?_
      refine o_iloadN S rfl d1_183 rfl (q := 184) ?_
      refine o_retI S rfl d1_184 (by decide) (by decide) ?_
      exact ⟨o_si (by rw [encN, if_pos hc6, if_neg hc24]), K, by rw [encL, if_pos hc6, if_neg hc24]; exact A_r1⟩
  · skip
    refine o_aloadN S rfl rfl d1_9 rfl (q := 10) ?_
    refine o_iloadN S rfl d1_10 rfl (q := 11) ?_
    refine o_iinc S rfl (L' := #[.val (.int p0), .val (.ref r1), .val (.int p2), .val (.int (p2 + (1 : Int32)))]) rfl d1_11 rfl (q := 14) ?_
    refine o_iloadN S rfl d1_14 rfl (q := 15) ?_
    refine o_i2b S d1_15 rfl (q := 16) ?_
    refine o_bastore S (y := (p0.toInt8.toInt32)) (ys := (List.set xs p2.toNatClampNeg (p0.toInt8.toInt32))) A_r1 (by omega) (by first | omega | (simp only [List.length_set]; omega)) g_r1 (o_i2bb _) rfl d1_16 rfl (q := 17) (fun T h10 S W A_r1 => ?_)
    have K := K.wr W (Or.inl (List.mem_of_getElem? (i := 0) rfl))
    refine o_goto S d1_17 (by decide) (q := 183) (by decide) ?_
    refine o_iloadN S rfl d1_183 rfl (q := 184) ?_
    refine o_retI S rfl d1_184 (by decide) (by decide) ?_
    exact ⟨o_si (by rw [encN, if_neg hc6]), K, by rw [encL, if_neg hc6]; exact A_r1⟩
def f_kept (p1 : Int32) (p2 : Int32) (p3 : Int32) (p4 : Int32) (xs : List Int32) : Int32 := if p1.toInt < p2.toInt then (if ¬ (xs.getD p1.toNatClampNeg 0) = p4 then (0 : Int32) else (1 : Int32)) else (if p1.toInt < p3.toInt then (1 : Int32) else (if ¬ (xs.getD p1.toNatClampNeg 0) = p4 then (0 : Int32) else (1 : Int32)))
theorem d2_0 : decode method_2_code 0 = .ok (.iload_n 1, 1) := by decide +kernel
theorem d2_1 : decode method_2_code 1 = .ok (.iload_n 2, 1) := by decide +kernel
theorem d2_2 : decode method_2_code 2 = .ok (.if_icmp .lt 8, 3) := by decide +kernel
theorem d2_5 : decode method_2_code 5 = .ok (.iload_n 1, 1) := by decide +kernel
theorem d2_6 : decode method_2_code 6 = .ok (.iload_n 3, 1) := by decide +kernel
theorem d2_7 : decode method_2_code 7 = .ok (.if_icmp .lt 11, 3) := by decide +kernel
theorem d2_10 : decode method_2_code 10 = .ok (.aload_n 0, 1) := by decide +kernel
theorem d2_11 : decode method_2_code 11 = .ok (.iload_n 1, 1) := by decide +kernel
theorem d2_12 : decode method_2_code 12 = .ok (.baload, 1) := by decide +kernel
theorem d2_13 : decode method_2_code 13 = .ok (.iload 4, 2) := by decide +kernel
theorem d2_15 : decode method_2_code 15 = .ok (.if_icmp .ne 7, 3) := by decide +kernel
theorem d2_18 : decode method_2_code 18 = .ok (.iconst 1, 1) := by decide +kernel
theorem d2_19 : decode method_2_code 19 = .ok (.goto 4, 3) := by decide +kernel
theorem d2_22 : decode method_2_code 22 = .ok (.iconst 0, 1) := by decide +kernel
theorem d2_23 : decode method_2_code 23 = .ok (.ireturn, 1) := by decide +kernel
def rm_2 : Room := ({ frames := 0, cells := 0, slots := 0, locals := 0 } : Room)
theorem pn_2 : plainFor (⟨"com/example/mince_trees/mincetrees/tree/Utf8EncodePinLaw", "kept", "([BIIIB)Z"⟩ : MethodName) = true := plainFor_of_name (by first | (simp [plainName, overriddenIn]; done) | (simp [plainName, overriddenIn, x]; done) | decide +kernel)
theorem ef_2 (r0 : Addr) (p1 : Int32) (p2 : Int32) (p3 : Int32) (p4 : Int32) (m : MethodId) : entryFrame m #[(.ref r0), (.int p1), (.int p2), (.int p3), (.int p4)] 5 = mkF m 0 #[.val (.ref r0), .val (.int p1), .val (.int p2), .val (.int p3), .val (.int p4)] [] := by first | (simp [entryFrame, mkF, argsToLocals, Value.category]; done) | rfl
set_option maxRecDepth 65536 in
set_option maxHeartbeats 40000000 in
theorem ct_2 (l : Launch) (Z : State) (a0 : Array Value) (hw : ∀ d ∈ tables_1, d.before a0 Z = true) (r0 : Addr) (p1 : Int32) (p2 : Int32) (p3 : Int32) (p4 : Int32) (xs : List Int32) (h0 : Heap) (n0 : Nat) (hn : n0 ≤ h0.size) (A_r0 : IA Z h0 r0 .byte xs) (hk0 : 0 ≤ p1.toInt) (hk1 : p1.toInt < xs.length) : Ct l (⟨"com/example/mince_trees/mincetrees/tree/Utf8EncodePinLaw", "kept", "([BIIIB)Z"⟩ : MethodName) method_2_code 5 (some .boolean) [] rm_2 Z h0 n0 #[(.ref r0), (.int p1), (.int p2), (.int p3), (.int p4)] (Qp (some (.int (f_kept p1 p2 p3 p4 xs))) h0) := by
  refine o_body pn_2 hn (ef_2 r0 p1 p2 p3 p4) ?_
  intro p e s m below meth c T S
  refine o_iloadN S rfl d2_0 rfl (q := 1) ?_
  refine o_iloadN S rfl d2_1 rfl (q := 2) ?_
  refine o_icmp S d2_2 (by decide) (q' := 10) (by decide) (q := 5) rfl (hs_lt (a := p1.toInt) (b := p2.toInt) rfl rfl).1 (hs_lt (a := p1.toInt) (b := p2.toInt) rfl rfl).2 (fun hc2 => ?_) (fun hc2 => ?_)
  · skip
    refine o_aloadN S rfl rfl d2_10 rfl (q := 11) ?_
    refine o_iloadN S rfl d2_11 rfl (q := 12) ?_
    refine o_baload S A_r0 hk0 hk1 (v := (xs.getD p1.toNatClampNeg 0)) rfl d2_12 rfl (q := 13) ?_
    refine o_iload S rfl d2_13 rfl (q := 15) ?_
    refine o_icmp S d2_15 (by decide) (q' := 22) (by decide) (q := 18) rfl hs_ne.1 hs_ne.2 (fun hc15 => ?_) (fun hc15 => ?_)
    · skip
      refine o_iconst S (z := 0) rfl d2_22 rfl (q := 23) ?_
      refine o_retN S (t := .boolean) rfl (by simp) d2_23 (by decide) (by decide) rfl ?_
      exact ⟨o_si (by rw [f_kept, if_pos hc2, if_pos hc15]), rfl⟩
    · skip
      refine o_iconst S (z := 1) rfl d2_18 rfl (q := 19) ?_
      refine o_goto S d2_19 (by decide) (q := 23) (by decide) ?_
      refine o_retN S (t := .boolean) rfl (by simp) d2_23 (by decide) (by decide) rfl ?_
      exact ⟨o_si (by rw [f_kept, if_pos hc2, if_neg hc15]), rfl⟩
  · skip
    refine o_iloadN S rfl d2_5 rfl (q := 6) ?_
    refine o_iloadN S rfl d2_6 rfl (q := 7) ?_
    refine o_icmp S d2_7 (by decide) (q' := 18) (by decide) (q := 10) rfl (hs_lt (a := p1.toInt) (b := p3.toInt) rfl rfl).1 (hs_lt (a := p1.toInt) (b := p3.toInt) rfl rfl).2 (fun hc7 => ?_) (fun hc7 => ?_)
    · skip
      refine o_iconst S (z := 1) rfl d2_18 rfl (q := 19) ?_
      refine o_goto S d2_19 (by decide) (q := 23) (by decide) ?_
      refine o_retN S (t := .boolean) rfl (by simp) d2_23 (by decide) (by decide) rfl ?_
      exact ⟨o_si (by rw [f_kept, if_neg hc2, if_pos hc7]), rfl⟩
    · skip
      refine o_aloadN S rfl rfl d2_10 rfl (q := 11) ?_
      refine o_iloadN S rfl d2_11 rfl (q := 12) ?_
      refine o_baload S A_r0 hk0 hk1 (v := (xs.getD p1.toNatClampNeg 0)) rfl d2_12 rfl (q := 13) ?_
      refine o_iload S rfl d2_13 rfl (q := 15) ?_
      refine o_icmp S d2_15 (by decide) (q' := 22) (by decide) (q := 18) rfl hs_ne.1 hs_ne.2 (fun hc15 => ?_) (fun hc15 => ?_)
      · skip
        refine o_iconst S (z := 0) rfl d2_22 rfl (q := 23) ?_
        refine o_retN S (t := .boolean) rfl (by simp) d2_23 (by decide) (by decide) rfl ?_
        exact ⟨o_si (by rw [f_kept, if_neg hc2, if_neg hc7, if_pos hc15]), rfl⟩
      · skip
        refine o_iconst S (z := 1) rfl d2_18 rfl (q := 19) ?_
        refine o_goto S d2_19 (by decide) (q := 23) (by decide) ?_
        refine o_retN S (t := .boolean) rfl (by simp) d2_23 (by decide) (by decide) rfl ?_
        exact ⟨o_si (by rw [f_kept, if_neg hc2, if_neg hc7, if_neg hc15]), rfl⟩
def f_cont (p0 : Int32) : Int32 := if ¬ (p0 &&& (192 : Int32)) = (128 : Int32) then (0 : Int32) else (1 : Int32)
theorem d3_0 : decode method_3_code 0 = .ok (.iload_n 0, 1) := by decide +kernel
theorem d3_1 : decode method_3_code 1 = .ok (.sipush 192, 3) := by decide +kernel
theorem d3_4 : decode method_3_code 4 = .ok (.iand, 1) := by decide +kernel
theorem d3_5 : decode method_3_code 5 = .ok (.sipush 128, 3) := by decide +kernel
theorem d3_8 : decode method_3_code 8 = .ok (.if_icmp .ne 7, 3) := by decide +kernel
theorem d3_11 : decode method_3_code 11 = .ok (.iconst 1, 1) := by decide +kernel
theorem d3_12 : decode method_3_code 12 = .ok (.goto 4, 3) := by decide +kernel
theorem d3_15 : decode method_3_code 15 = .ok (.iconst 0, 1) := by decide +kernel
theorem d3_16 : decode method_3_code 16 = .ok (.ireturn, 1) := by decide +kernel
def rm_3 : Room := ({ frames := 0, cells := 0, slots := 0, locals := 0 } : Room)
theorem pn_3 : plainFor (⟨"com/example/mince_trees/mincetrees/tree/Utf8EncodePinLaw", "cont", "(I)Z"⟩ : MethodName) = true := plainFor_of_name (by first | (simp [plainName, overriddenIn]; done) | (simp [plainName, overriddenIn, x]; done) | decide +kernel)
theorem ef_3 (p0 : Int32) (m : MethodId) : entryFrame m #[(.int p0)] 1 = mkF m 0 #[.val (.int p0)] [] := by first | (simp [entryFrame, mkF, argsToLocals, Value.category]; done) | rfl
set_option maxRecDepth 65536 in
set_option maxHeartbeats 40000000 in
theorem ct_3 (l : Launch) (Z : State) (a0 : Array Value) (hw : ∀ d ∈ tables_1, d.before a0 Z = true) (p0 : Int32) (h0 : Heap) (n0 : Nat) (hn : n0 ≤ h0.size) : Ct l (⟨"com/example/mince_trees/mincetrees/tree/Utf8EncodePinLaw", "cont", "(I)Z"⟩ : MethodName) method_3_code 1 (some .boolean) [] rm_3 Z h0 n0 #[(.int p0)] (Qp (some (.int (f_cont p0))) h0) := by
  refine o_body pn_3 hn (ef_3 p0) ?_
  intro p e s m below meth c T S
  refine o_iloadN S rfl d3_0 rfl (q := 1) ?_
  refine o_sipush S (z := 192) rfl d3_1 rfl (q := 4) ?_
  refine o_iand S d3_4 rfl (q := 5) ?_
  refine o_sipush S (z := 128) rfl d3_5 rfl (q := 8) ?_
  refine o_icmp S d3_8 (by decide) (q' := 15) (by decide) (q := 11) rfl hs_ne.1 hs_ne.2 (fun hc8 => ?_) (fun hc8 => ?_)
  · skip
    refine o_iconst S (z := 0) rfl d3_15 rfl (q := 16) ?_
    refine o_retN S (t := .boolean) rfl (by simp) d3_16 (by decide) (by decide) rfl ?_
    exact ⟨o_si (by rw [f_cont, if_pos hc8]), rfl⟩
  · skip
    refine o_iconst S (z := 1) rfl d3_11 rfl (q := 12) ?_
    refine o_goto S d3_12 (by decide) (q := 16) (by decide) ?_
    refine o_retN S (t := .boolean) rfl (by simp) d3_16 (by decide) (by decide) rfl ?_
    exact ⟨o_si (by rw [f_cont, if_neg hc8]), rfl⟩
theorem and192 (y : Int32) (h0 : 0 ≤ y.toInt) (h1 : y.toInt < 256) : (y &&& (192 : Int32)).toInt = y.toInt - y.toInt % 64 := by
  have hall : ∀ n : Fin 256, ((Int32.ofNat n.1) &&& (192 : Int32)).toInt = (n.1 : Int) - (n.1 : Int) % 64 := by decide +kernel
  obtain ⟨g1, g2⟩ := o_nat h0
  have e : Int32.ofNat y.toNatClampNeg = y := (back32 g1).1
  have q := hall ⟨y.toNatClampNeg, by omega⟩
  dsimp only at q
  rw [e] at q
  omega
theorem and224 (y : Int32) (h0 : 0 ≤ y.toInt) (h1 : y.toInt < 256) : (y &&& (224 : Int32)).toInt = y.toInt - y.toInt % 32 := by
  have hall : ∀ n : Fin 256, ((Int32.ofNat n.1) &&& (224 : Int32)).toInt = (n.1 : Int) - (n.1 : Int) % 32 := by decide +kernel
  obtain ⟨g1, g2⟩ := o_nat h0
  have e : Int32.ofNat y.toNatClampNeg = y := (back32 g1).1
  have q := hall ⟨y.toNatClampNeg, by omega⟩
  dsimp only at q
  rw [e] at q
  omega
theorem and240 (y : Int32) (h0 : 0 ≤ y.toInt) (h1 : y.toInt < 256) : (y &&& (240 : Int32)).toInt = y.toInt - y.toInt % 16 := by
  have hall : ∀ n : Fin 256, ((Int32.ofNat n.1) &&& (240 : Int32)).toInt = (n.1 : Int) - (n.1 : Int) % 16 := by decide +kernel
  obtain ⟨g1, g2⟩ := o_nat h0
  have e : Int32.ofNat y.toNatClampNeg = y := (back32 g1).1
  have q := hall ⟨y.toNatClampNeg, by omega⟩
  dsimp only at q
  rw [e] at q
  omega
theorem and248 (y : Int32) (h0 : 0 ≤ y.toInt) (h1 : y.toInt < 256) : (y &&& (248 : Int32)).toInt = y.toInt - y.toInt % 8 := by
  have hall : ∀ n : Fin 256, ((Int32.ofNat n.1) &&& (248 : Int32)).toInt = (n.1 : Int) - (n.1 : Int) % 8 := by decide +kernel
  obtain ⟨g1, g2⟩ := o_nat h0
  have e : Int32.ofNat y.toNatClampNeg = y := (back32 g1).1
  have q := hall ⟨y.toNatClampNeg, by omega⟩
  dsimp only at q
  rw [e] at q
  omega
theorem low8 (y : Int32) : ((y.toInt8.toInt32) &&& (255 : Int32)).toInt = y.toInt % 256 := by
  have h1 := c_i2b y
  have h2 : ((y.toInt8.toInt32) &&& (255 : Int32)).toInt = (y.toInt8.toInt32).toInt % 256 := c_mask _ 255 8 (by decide) (by decide)
  omega
theorem cbyte (z v : Int32) (hv : v = (((128 : Int32) ||| (z &&& (63 : Int32))).toInt8.toInt32) &&& (255 : Int32)) : v.toInt = 128 + z.toInt % 64 := by
  have h1 := low8 ((128 : Int32) ||| (z &&& (63 : Int32)))
  have h2 : (z &&& (63 : Int32)).toInt = z.toInt % 64 := c_mask z 63 6 (by decide) (by decide)
  have w : (128 : Int32).toInt = 128 := rfl
  have h3 := c_or (128 : Int32) (z &&& (63 : Int32)) 6 (by decide) 64 (by decide) (by omega) (by omega) (by omega)
  have r := rng32 ((128 : Int32) ||| (z &&& (63 : Int32)))
  rw [hv, h1]; omega
theorem cont_ok (v : Int32) (m : Int) (hv : v.toInt = 128 + m) (h0 : 0 ≤ m) (h1 : m < 64) : ¬ f_cont v = (0 : Int32) := by
  have h := and192 v (by omega) (by omega)
  have e : (v &&& (192 : Int32)) = (128 : Int32) := o_eq32 (by rw [h]; have : (128 : Int32).toInt = 128 := rfl; omega)
  rw [f_cont, if_neg (fun q => q e)]; decide
theorem hbyte (M k : Int32) (K : Nat) (D : Int) (z v : Int32) (hv : v = ((M ||| z).toInt8.toInt32) &&& (255 : Int32)) (hK : K ≤ 31) (hD : D = (2 ^ K : Nat)) (hm : M.toInt % D = 0) (hM : M.toInt + D ≤ 256) (hM0 : 0 ≤ M.toInt) (h0 : 0 ≤ z.toInt) (h1 : z.toInt < D) : v.toInt = M.toInt + z.toInt := by
  have q1 := low8 (M ||| z)
  have q3 := c_or M z K hK D hD hm h0 h1
  have r := rng32 (M ||| z)
  rw [hv, q1]; omega
theorem sh6 (x : Int32) : (x >>> ((6 : Int32) &&& 31)).toInt = x.toInt / 64 := c_ishr x 6 6 (by decide)
theorem sh12 (x : Int32) : (x >>> ((12 : Int32) &&& 31)).toInt = x.toInt / 4096 := c_ishr x 12 12 (by decide)
theorem sh18 (x : Int32) : (x >>> ((18 : Int32) &&& 31)).toInt = x.toInt / 262144 := c_ishr x 18 18 (by decide)
theorem one_ok (x v : Int32) (hv : v = ((x.toInt8.toInt32) &&& (255 : Int32))) (h0 : 0 ≤ x.toInt) (h1 : x.toInt < 128) : v = x := by
  have := low8 x
  refine o_eq32 ?_
  rw [hv]; omega
theorem two_h (x v : Int32) (hv : v = ((((192 : Int32) ||| (x >>> ((6 : Int32) &&& 31))).toInt8.toInt32) &&& (255 : Int32))) (h0 : 128 ≤ x.toInt) (h1 : x.toInt < 2048) : v.toInt = 192 + x.toInt / 64 := by
  have := sh6 x
  exact (hbyte 192 0 5 32 _ v hv (by decide) (by decide) (by decide) (by decide) (by decide) (by omega) (by omega)).trans (by rw [this]; rfl)
theorem three_h (x v : Int32) (hv : v = ((((224 : Int32) ||| (x >>> ((12 : Int32) &&& 31))).toInt8.toInt32) &&& (255 : Int32))) (h0 : 2048 ≤ x.toInt) (h1 : x.toInt < 65536) : v.toInt = 224 + x.toInt / 4096 := by
  have := sh12 x
  exact (hbyte 224 0 4 16 _ v hv (by decide) (by decide) (by decide) (by decide) (by decide) (by omega) (by omega)).trans (by rw [this]; rfl)
theorem four_h (x v : Int32) (hv : v = ((((240 : Int32) ||| (x >>> ((18 : Int32) &&& 31))).toInt8.toInt32) &&& (255 : Int32))) (h0 : 65536 ≤ x.toInt) (h1 : x.toInt < 1114112) : v.toInt = 240 + x.toInt / 262144 := by
  have := sh18 x
  exact (hbyte 240 0 3 8 _ v hv (by decide) (by decide) (by decide) (by decide) (by decide) (by omega) (by omega)).trans (by rw [this]; rfl)
theorem two_t (v : Int32) (y : Int) (hv : v.toInt = 192 + y) (h0 : 0 ≤ y) (h1 : y < 32) : (v &&& (224 : Int32)) = (192 : Int32) := o_eq32 (by rw [and224 v (by omega) (by omega)]; have : (192 : Int32).toInt = 192 := rfl; omega)
theorem three_t (v : Int32) (y : Int) (hv : v.toInt = 224 + y) (h0 : 0 ≤ y) (h1 : y < 16) : (v &&& (240 : Int32)) = (224 : Int32) := o_eq32 (by rw [and240 v (by omega) (by omega)]; have : (224 : Int32).toInt = 224 := rfl; omega)
theorem four_t (v : Int32) (y : Int) (hv : v.toInt = 240 + y) (h0 : 0 ≤ y) (h1 : y < 8) : (v &&& (248 : Int32)) = (240 : Int32) := o_eq32 (by rw [and248 v (by omega) (by omega)]; have : (240 : Int32).toInt = 240 := rfl; omega)
theorem m63 (v : Int32) : (v &&& (63 : Int32)).toInt = v.toInt % 64 := c_mask v 63 6 (by decide) (by decide)
theorem two_e (x v w : Int32) (h0 : 128 ≤ x.toInt) (h1 : x.toInt < 2048) (hv : v.toInt = 192 + x.toInt / 64) (hw : w.toInt = 128 + x.toInt % 64) : (((v &&& (31 : Int32)) <<< ((6 : Int32) &&& 31)) ||| (w &&& (63 : Int32))) = x := by
  have a1 : (v &&& (31 : Int32)).toInt = v.toInt % 32 := c_mask v 31 5 (by decide) (by decide)
  have a2 := m63 w
  have a3 : (((v &&& (31 : Int32)) <<< ((6 : Int32) &&& 31)).toInt - (v &&& (31 : Int32)).toInt * 64) % 4294967296 = 0 := c_ishl _ 6 6 (by decide)
  have r := rng32 ((v &&& (31 : Int32)) <<< ((6 : Int32) &&& 31))
  have a4 := c_or ((v &&& (31 : Int32)) <<< ((6 : Int32) &&& 31)) (w &&& (63 : Int32)) 6 (by decide) 64 (by decide) (by omega) (by omega) (by omega)
  have r2 := rng32 (((v &&& (31 : Int32)) <<< ((6 : Int32) &&& 31)) ||| (w &&& (63 : Int32)))
  exact o_eq32 (by omega)
theorem three_e (x v w u : Int32) (h0 : 2048 ≤ x.toInt) (h1 : x.toInt < 65536) (hv : v.toInt = 224 + x.toInt / 4096) (hw : w.toInt = 128 + x.toInt / 64 % 64) (hu : u.toInt = 128 + x.toInt % 64) : ((((v &&& (15 : Int32)) <<< ((12 : Int32) &&& 31)) ||| ((w &&& (63 : Int32)) <<< ((6 : Int32) &&& 31))) ||| (u &&& (63 : Int32))) = x := by
  have a1 : (v &&& (15 : Int32)).toInt = v.toInt % 16 := c_mask v 15 4 (by decide) (by decide)
  have a2 := m63 w
  have a2' := m63 u
  have a3 : (((v &&& (15 : Int32)) <<< ((12 : Int32) &&& 31)).toInt - (v &&& (15 : Int32)).toInt * 4096) % 4294967296 = 0 := c_ishl _ 12 12 (by decide)
  have a5 : (((w &&& (63 : Int32)) <<< ((6 : Int32) &&& 31)).toInt - (w &&& (63 : Int32)).toInt * 64) % 4294967296 = 0 := c_ishl _ 6 6 (by decide)
  generalize ((v &&& (15 : Int32)) <<< ((12 : Int32) &&& 31)) = A at *
  generalize ((w &&& (63 : Int32)) <<< ((6 : Int32) &&& 31)) = B at *
  generalize (u &&& (63 : Int32)) = D at *
  have r := rng32 A; have r2 := rng32 B
  have a4 := c_or A B 12 (by decide) 4096 (by decide) (by omega) (by omega) (by omega)
  generalize A ||| B = E at *
  have r3 := rng32 E
  have a6 := c_or E D 6 (by decide) 64 (by decide) (by omega) (by omega) (by omega)
  have r4 := rng32 (E ||| D)
  exact o_eq32 (by omega)
theorem four_e (x v w u t : Int32) (h0 : 65536 ≤ x.toInt) (h1 : x.toInt < 1114112) (hv : v.toInt = 240 + x.toInt / 262144) (hw : w.toInt = 128 + x.toInt / 4096 % 64) (hu : u.toInt = 128 + x.toInt / 64 % 64) (ht : t.toInt = 128 + x.toInt % 64) : (((((v &&& (7 : Int32)) <<< ((18 : Int32) &&& 31)) ||| ((w &&& (63 : Int32)) <<< ((12 : Int32) &&& 31))) ||| ((u &&& (63 : Int32)) <<< ((6 : Int32) &&& 31))) ||| (t &&& (63 : Int32))) = x := by
  have a1 : (v &&& (7 : Int32)).toInt = v.toInt % 8 := c_mask v 7 3 (by decide) (by decide)
  have a2 := m63 w
  have a2' := m63 u
  have a2'' := m63 t
  have a3 : (((v &&& (7 : Int32)) <<< ((18 : Int32) &&& 31)).toInt - (v &&& (7 : Int32)).toInt * 262144) % 4294967296 = 0 := c_ishl _ 18 18 (by decide)
  have a5 : (((w &&& (63 : Int32)) <<< ((12 : Int32) &&& 31)).toInt - (w &&& (63 : Int32)).toInt * 4096) % 4294967296 = 0 := c_ishl _ 12 12 (by decide)
  have a7 : (((u &&& (63 : Int32)) <<< ((6 : Int32) &&& 31)).toInt - (u &&& (63 : Int32)).toInt * 64) % 4294967296 = 0 := c_ishl _ 6 6 (by decide)
  generalize ((v &&& (7 : Int32)) <<< ((18 : Int32) &&& 31)) = A at *
  generalize ((w &&& (63 : Int32)) <<< ((12 : Int32) &&& 31)) = B at *
  generalize ((u &&& (63 : Int32)) <<< ((6 : Int32) &&& 31)) = G at *
  generalize (t &&& (63 : Int32)) = D at *
  have r := rng32 A; have r2 := rng32 B; have r3 := rng32 G
  have a4 := c_or A B 18 (by decide) 262144 (by decide) (by omega) (by omega) (by omega)
  generalize A ||| B = E at *
  have r4 := rng32 E
  have a6 := c_or E G 12 (by decide) 4096 (by decide) (by omega) (by omega) (by omega)
  generalize E ||| G = H at *
  have r5 := rng32 H
  have a8 := c_or H D 6 (by decide) 64 (by decide) (by omega) (by omega) (by omega)
  have r6 := rng32 (H ||| D)
  exact o_eq32 (by omega)
theorem own_off {x v : Int32} (hv : v = ((x &&& (2147483647 : Int32)) % (3 : Int32))) : v = 0 ∨ v = 1 ∨ v = 2 := by
  have h1 : (x &&& (2147483647 : Int32)).toInt = x.toInt % 2147483648 := c_mask x 2147483647 31 (by decide) (by decide)
  have h2 := (c_irem (x &&& (2147483647 : Int32)) 3 3 rfl).1 (by omega)
  rw [← hv] at h2
  have h3 : v.toInt = 0 ∨ v.toInt = 1 ∨ v.toInt = 2 := by omega
  rcases h3 with h | h | h
  · exact Or.inl (o_eq32 h)
  · exact Or.inr (Or.inl (o_eq32 h))
  · exact Or.inr (Or.inr (o_eq32 h))
theorem own_cp {x s r k v : Int32} (hr : r = (x &&& (2147483647 : Int32))) (hk : k = (s &&& (3 : Int32))) (hv : v = (if ¬ k = (0 : Int32) then (if ¬ k = (1 : Int32) then (if ¬ k = (2 : Int32) then ((65536 : Int32) + (r % (1048576 : Int32))) else ((2048 : Int32) + (r % (63488 : Int32)))) else ((128 : Int32) + (r % (1920 : Int32)))) else (r % (128 : Int32)))) :
    0 ≤ v.toInt ∧ (v.toInt < 128 ∨ (128 ≤ v.toInt ∧ v.toInt < 2048) ∨ (2048 ≤ v.toInt ∧ v.toInt < 65536) ∨ (65536 ≤ v.toInt ∧ v.toInt < 1114112)) := by
  have h1 : r.toInt = x.toInt % 2147483648 := by rw [hr]; exact c_mask x 2147483647 31 (by decide) (by decide)
  have q1 := (c_irem r 1048576 1048576 rfl).1 (by omega)
  have q2 := (c_irem r 63488 63488 rfl).1 (by omega)
  have q3 := (c_irem r 1920 1920 rfl).1 (by omega)
  have q4 := (c_irem r 128 128 rfl).1 (by omega)
  have e1 := c_iadd (65536 : Int32) (r % (1048576 : Int32)); have e2 := c_iadd (2048 : Int32) (r % (63488 : Int32)); have e3 := c_iadd (128 : Int32) (r % (1920 : Int32))
  have r1 := rng32 ((65536 : Int32) + (r % (1048576 : Int32))); have r2 := rng32 ((2048 : Int32) + (r % (63488 : Int32))); have r3 := rng32 ((128 : Int32) + (r % (1920 : Int32)))
  have w1 : (65536 : Int32).toInt = 65536 := rfl; have w2 : (2048 : Int32).toInt = 2048 := rfl; have w3 : (128 : Int32).toInt = 128 := rfl
  rw [hv]
  repeat' split
  all_goals omega
theorem pd_0 : parseMethodDescriptor "(I[BI)I" = some ⟨[.int, (.array .byte), .int], some .int⟩ := by decide +kernel
theorem pd_1 : parseMethodDescriptor "([BIIIB)Z" = some ⟨[(.array .byte), .int, .int, .int, .byte], some .boolean⟩ := by decide +kernel
theorem pd_2 : parseMethodDescriptor "(I)Z" = some ⟨[.int], some .boolean⟩ := by decide +kernel
def Q0 : Option Value → Heap → Prop := fun v _ => v = some (.int 1)
theorem pn_0 : plainFor x = true := plainFor_of_name (by first | (simp [plainName, overriddenIn]; done) | (simp [plainName, overriddenIn, x]; done) | decide +kernel)
theorem ef_0 (p0 : Int32) (p1 : Int32) (p2 : Int32) (p3 : Int32) (m : MethodId) : entryFrame m #[(.int p0), (.int p1), (.int p2), (.int p3)] maxLocals = mkF m 0 #[.val (.int p0), .val (.int p1), .val (.int p2), .val (.int p3), .unset, .unset, .unset, .unset, .unset, .unset, .unset, .unset, .unset, .unset, .unset, .unset] [] := by first | (simp [entryFrame, mkF, argsToLocals, Value.category, maxLocals]; done) | rfl
set_option maxRecDepth 65536 in
set_option maxHeartbeats 40000000 in
theorem ct_0 (l : Launch) (Z : State) (a0 : Array Value) (hw : ∀ d ∈ tables_1, d.before a0 Z = true) (ws : List Jvm.Cond) (p0 : Int32) (p1 : Int32) (p2 : Int32) (p3 : Int32) (h0 : Heap) (n0 : Nat) (hn : n0 ≤ h0.size) : Ct l x code maxLocals ret ws room_1 Z h0 n0 #[(.int p0), (.int p1), (.int p2), (.int p3)] (Q0) := by
  refine o_body pn_0 hn (ef_0 p0 p1 p2 p3) ?_
  intro p e s m below meth c T S
  refine o_iloadN S rfl at_0 rfl (q := 1) ?_
  refine o_ldc S (o_wd (i := 0) hw rfl) at_1 rfl (q := 3) ?_
  refine o_iand S at_3 rfl (q := 4) ?_
  refine o_istoreV S (L' := fun v1 => #[.val (.int p0), .val (.int p1), .val (.int p2), .val (.int p3), .val (.int v1), .unset, .unset, .unset, .unset, .unset, .unset, .unset, .unset, .unset, .unset, .unset]) (fun _ => rfl) at_4 rfl (q := 6) (fun v1 hv1 => ?_)
  refine o_iloadN S rfl at_6 rfl (q := 7) ?_
  refine o_iconst S (z := 3) rfl at_7 rfl (q := 8) ?_
  refine o_iand S at_8 rfl (q := 9) ?_
  refine o_istoreV S (L' := fun v2 => #[.val (.int p0), .val (.int p1), .val (.int p2), .val (.int p3), .val (.int v1), .val (.int v2), .unset, .unset, .unset, .unset, .unset, .unset, .unset, .unset, .unset, .unset]) (fun _ => rfl) at_9 rfl (q := 11) (fun v2 hv2 => ?_)
  refine o_iload S rfl at_11 rfl (q := 13) ?_
  refine o_cutS S (G := fun T => ∀ (v3 : Int32), v3 = (if ¬ v2 = (0 : Int32) then (if ¬ v2 = (1 : Int32) then (if ¬ v2 = (2 : Int32) then ((65536 : Int32) + (v1 % (1048576 : Int32))) else ((2048 : Int32) + (v1 % (63488 : Int32)))) else ((128 : Int32) + (v1 % (1920 : Int32)))) else (v1 % (128 : Int32))) → Wp p e below (Po s n0 room_1 Q0) T (mkF m 78 #[.val (.int p0), .val (.int p1), .val (.int p2), .val (.int p3), .val (.int v1), .val (.int v2), .val (.int v3), .unset, .unset, .unset, .unset, .unset, .unset, .unset, .unset, .unset] [])) (fun k13 => ?_) (fun T S v3 hv3 => ?_)
  · skip
    refine o_if S at_13 (by decide) (q' := 27) (by decide) (q := 16) rfl hs_ne.1 hs_ne.2 (fun hc13 => ?_) (fun hc13 => ?_)
    · skip
      refine o_iload S rfl at_27 rfl (q := 29) ?_
      refine o_iconst S (z := 1) rfl at_29 rfl (q := 30) ?_
      refine o_icmp S at_30 (by decide) (q' := 48) (by decide) (q := 33) rfl hs_ne.1 hs_ne.2 (fun hc30 => ?_) (fun hc30 => ?_)
      · skip
        refine o_iload S rfl at_48 rfl (q := 50) ?_
        refine o_iconst S (z := 2) rfl at_50 rfl (q := 51) ?_
        refine o_icmp S at_51 (by decide) (q' := 68) (by decide) (q := 54) rfl hs_ne.1 hs_ne.2 (fun hc51 => ?_) (fun hc51 => ?_)
        · skip
          refine o_ldc S (o_wd (i := 10) hw rfl) at_68 rfl (q := 70) ?_
          refine o_iload S rfl at_70 rfl (q := 72) ?_
          refine o_ldc S (o_wd (i := 11) hw rfl) at_72 rfl (q := 74) ?_
          refine o_irem S (by decide) at_74 rfl (q := 75) ?_
          refine o_iadd S at_75 rfl (q := 76) ?_
          refine o_istore S (L' := #[.val (.int p0), .val (.int p1), .val (.int p2), .val (.int p3), .val (.int v1), .val (.int v2), .val (.int ((65536 : Int32) + (v1 % (1048576 : Int32)))), .unset, .unset, .unset, .unset, .unset, .unset, .unset, .unset, .unset]) rfl at_76 rfl (q := 78) ?_
          exact k13 _ S _ (by rw [if_pos hc13, if_pos hc30, if_pos hc51])
        · skip
          refine o_sipush S (z := 2048) rfl at_54 rfl (q := 57) ?_
          refine o_iload S rfl at_57 rfl (q := 59) ?_
          refine o_ldc S (o_wd (i := 16) hw rfl) at_59 rfl (q := 61) ?_
          refine o_irem S (by decide) at_61 rfl (q := 62) ?_
          refine o_iadd S at_62 rfl (q := 63) ?_
          refine o_istore S (L' := #[.val (.int p0), .val (.int p1), .val (.int p2), .val (.int p3), .val (.int v1), .val (.int v2), .val (.int ((2048 : Int32) + (v1 % (63488 : Int32)))), .unset, .unset, .unset, .unset, .unset, .unset, .unset, .unset, .unset]) rfl at_63 rfl (q := 65) ?_
          refine o_goto S at_65 (by decide) (q := 78) (by decide) ?_
          exact k13 _ S _ (by rw [if_pos hc13, if_pos hc30, if_neg hc51])
      · skip
        refine o_sipush S (z := 128) rfl at_33 rfl (q := 36) ?_
        refine o_iload S rfl at_36 rfl (q := 38) ?_
        refine o_sipush S (z := 1920) rfl at_38 rfl (q := 41) ?_
        refine o_irem S (by decide) at_41 rfl (q := 42) ?_
        refine o_iadd S at_42 rfl (q := 43) ?_
        refine o_istore S (L' := #[.val (.int p0), .val (.int p1), .val (.int p2), .val (.int p3), .val (.int v1), .val (.int v2), .val (.int ((128 : Int32) + (v1 % (1920 : Int32)))), .unset, .unset, .unset, .unset, .unset, .unset, .unset, .unset, .unset]) rfl at_43 rfl (q := 45) ?_
        refine o_goto S at_45 (by decide) (q := 78) (by decide) ?_
        exact k13 _ S _ (by rw [if_pos hc13, if_neg hc30])
    · skip
      refine o_iload S rfl at_16 rfl (q := 18) ?_
      refine o_sipush S (z := 128) rfl at_18 rfl (q := 21) ?_
      refine o_irem S (by decide) at_21 rfl (q := 22) ?_
      refine o_istore S (L' := #[.val (.int p0), .val (.int p1), .val (.int p2), .val (.int p3), .val (.int v1), .val (.int v2), .val (.int (v1 % (128 : Int32))), .unset, .unset, .unset, .unset, .unset, .unset, .unset, .unset, .unset]) rfl at_22 rfl (q := 24) ?_
      refine o_goto S at_24 (by decide) (q := 78) (by decide) ?_
      exact k13 _ S _ (by rw [if_neg hc13])
  refine o_iloadN S rfl at_78 rfl (q := 79) ?_
  refine o_ldc S (o_wd (i := 0) hw rfl) at_79 rfl (q := 81) ?_
  refine o_iand S at_81 rfl (q := 82) ?_
  refine o_iconst S (z := 3) rfl at_82 rfl (q := 83) ?_
  refine o_irem S (by decide) at_83 rfl (q := 84) ?_
  refine o_istoreV S (L' := fun v4 => #[.val (.int p0), .val (.int p1), .val (.int p2), .val (.int p3), .val (.int v1), .val (.int v2), .val (.int v3), .val (.int v4), .unset, .unset, .unset, .unset, .unset, .unset, .unset, .unset]) (fun _ => rfl) at_84 rfl (q := 86) (fun v4 hv4 => ?_)
  refine o_iloadN S rfl at_86 rfl (q := 87) ?_
  refine o_i2b S at_87 rfl (q := 88) ?_
  refine o_istoreV S (L' := fun v5 => #[.val (.int p0), .val (.int p1), .val (.int p2), .val (.int p3), .val (.int v1), .val (.int v2), .val (.int v3), .val (.int v4), .val (.int v5), .unset, .unset, .unset, .unset, .unset, .unset, .unset]) (fun _ => rfl) at_88 rfl (q := 90) (fun v5 hv5 => ?_)
  have hfb : v5.toInt8.toInt32 = v5 := by rw [hv5]; exact o_i2bb _
  refine o_bipush S (z := 6) rfl at_90 rfl (q := 92) ?_
  refine o_newarr S (cap := 6) (o_wd (i := 1) hw rfl) at_92 rfl (q := 94) (by decide) (by decide) (by decide) (by decide) (by decide) (fun T h7 b6 kA_b6 S ha_b6 g_b6 X A0 => ?_)
  have A_b6 : IA Z h7 b6 .byte ([0, 0, 0, 0, 0, 0]) := IA.new A0 (by decide) rfl rfl
  refine o_astore S (L' := #[.val (.int p0), .val (.int p1), .val (.int p2), .val (.int p3), .val (.int v1), .val (.int v2), .val (.int v3), .val (.int v4), .val (.int v5), .val (.ref b6), .unset, .unset, .unset, .unset, .unset, .unset]) rfl rfl at_94 rfl (q := 96) ?_
  refine o_aload S rfl rfl at_96 rfl (q := 98) ?_
  refine o_iconst S (z := 0) rfl at_98 rfl (q := 99) ?_
  refine o_iload S rfl at_99 rfl (q := 101) ?_
  refine o_bastore S (y := v5) (ys := [v5, 0, 0, 0, 0, 0]) A_b6 (by decide) (by show (0 : Int) < 6; decide) g_b6 hfb rfl at_101 rfl (q := 102) (fun T h8 S W A_b6 => ?_)
  refine o_aload S rfl rfl at_102 rfl (q := 104) ?_
  refine o_iconst S (z := 1) rfl at_104 rfl (q := 105) ?_
  refine o_iload S rfl at_105 rfl (q := 107) ?_
  refine o_bastore S (y := v5) (ys := [v5, v5, 0, 0, 0, 0]) A_b6 (by decide) (by show (1 : Int) < 6; decide) g_b6 hfb rfl at_107 rfl (q := 108) (fun T h9 S W A_b6 => ?_)
  refine o_aload S rfl rfl at_108 rfl (q := 110) ?_
  refine o_iconst S (z := 2) rfl at_110 rfl (q := 111) ?_
  refine o_iload S rfl at_111 rfl (q := 113) ?_
  refine o_bastore S (y := v5) (ys := [v5, v5, v5, 0, 0, 0]) A_b6 (by decide) (by show (2 : Int) < 6; decide) g_b6 hfb rfl at_113 rfl (q := 114) (fun T h10 S W A_b6 => ?_)
  refine o_aload S rfl rfl at_114 rfl (q := 116) ?_
  refine o_iconst S (z := 3) rfl at_116 rfl (q := 117) ?_
  refine o_iload S rfl at_117 rfl (q := 119) ?_
  refine o_bastore S (y := v5) (ys := [v5, v5, v5, v5, 0, 0]) A_b6 (by decide) (by show (3 : Int) < 6; decide) g_b6 hfb rfl at_119 rfl (q := 120) (fun T h11 S W A_b6 => ?_)
  refine o_aload S rfl rfl at_120 rfl (q := 122) ?_
  refine o_iconst S (z := 4) rfl at_122 rfl (q := 123) ?_
  refine o_iload S rfl at_123 rfl (q := 125) ?_
  refine o_bastore S (y := v5) (ys := [v5, v5, v5, v5, v5, 0]) A_b6 (by decide) (by show (4 : Int) < 6; decide) g_b6 hfb rfl at_125 rfl (q := 126) (fun T h12 S W A_b6 => ?_)
  refine o_aload S rfl rfl at_126 rfl (q := 128) ?_
  refine o_iconst S (z := 5) rfl at_128 rfl (q := 129) ?_
  refine o_iload S rfl at_129 rfl (q := 131) ?_
  refine o_bastore S (y := v5) (ys := [v5, v5, v5, v5, v5, v5]) A_b6 (by decide) (by show (5 : Int) < 6; decide) g_b6 hfb rfl at_131 rfl (q := 132) (fun T h13 S W A_b6 => ?_)
  have hoff : v4 = 0 ∨ v4 = 1 ∨ v4 = 2 := own_off hv4
  have hcr : 0 ≤ v3.toInt ∧ (v3.toInt < 128 ∨ (128 ≤ v3.toInt ∧ v3.toInt < 2048) ∨ (2048 ≤ v3.toInt ∧ v3.toInt < 65536) ∨ (65536 ≤ v3.toInt ∧ v3.toInt < 1114112)) := own_cp hv1 hv2 hv3
  obtain ⟨hc0, hcp⟩ := hcr
  rcases hoff with ho | ho | ho
  · subst ho
    rcases hcp with hcp | hcp | hcp | hcp
    · skip
      refine o_iload S rfl at_132 rfl (q := 134) ?_
      refine o_aload S rfl rfl at_134 rfl (q := 136) ?_
      refine o_iload S rfl at_136 rfl (q := 138) ?_
      refine o_callS S (W := 0) (argsL := [(.int v3), (.ref b6), (.int (0 : Int32))]) (rest := []) (o_wd (i := 2) hw rfl) (o_wd (i := 3) hw rfl) (o_wd (i := 4) hw rfl) (o_wd (i := 5) hw rfl) (by decide) (ct_1 l Z a0 hw v3 b6 (0 : Int32) ([v5, v5, v5, v5, v5, v5]) h13 n0 (o_n0 S) A_b6 g_b6 (by decide) (by show (0 : Int) + 4 ≤ 6; decide)) (by decide) (by decide) rfl rfl pd_0 rfl (Nat.le_of_eq rfl) at_138 rfl (q := 141) (by decide) (by decide) (fun T h14 rr15 S hQ => ?_)
      obtain ⟨hv, K1, A_b6'⟩ := hQ
      subst hv
      have A_b6 := A_b6'
      show Wp p e below (Po s n0 room_1 Q0) T (mkF m 141 #[.val (.int p0), .val (.int p1), .val (.int p2), .val (.int p3), .val (.int v1), .val (.int v2), .val (.int v3), .val (.int (0 : Int32)), .val (.int v5), .val (.ref b6), .unset, .unset, .unset, .unset, .unset, .unset] [(.int (encN v3 (0 : Int32)))])
      have hend : encN v3 (0 : Int32) = (1 : Int32) := by rw [encN, if_neg (by omega)]; rfl
      rw [hend]
      have A_b6 : IA Z h14 b6 .byte [(v3.toInt8.toInt32), v5, v5, v5, v5, v5] := by have q := A_b6; rw [encL, if_neg (by omega)] at q; exact q
      refine o_istore S (L' := #[.val (.int p0), .val (.int p1), .val (.int p2), .val (.int p3), .val (.int v1), .val (.int v2), .val (.int v3), .val (.int (0 : Int32)), .val (.int v5), .val (.ref b6), .val (.int (1 : Int32)), .unset, .unset, .unset, .unset, .unset]) rfl at_141 rfl (q := 143) ?_
      refine o_iload S rfl at_143 rfl (q := 145) ?_
      refine o_sipush S (z := 128) rfl at_145 rfl (q := 148) ?_
      refine o_icmp S at_148 (by decide) (q' := 157) (by decide) (q := 151) rfl (hs_ge (a := v3.toInt) (b := 128) rfl rfl).1 (hs_ge (a := v3.toInt) (b := 128) rfl rfl).2 (fun hc148 => ?_) (fun hc148 => ?_)
      · exact absurd hc148 (by omega)
      · skip
        refine o_iconst S (z := 1) rfl at_151 rfl (q := 152) ?_
        refine o_istore S (L' := #[.val (.int p0), .val (.int p1), .val (.int p2), .val (.int p3), .val (.int v1), .val (.int v2), .val (.int v3), .val (.int (0 : Int32)), .val (.int v5), .val (.ref b6), .val (.int (1 : Int32)), .val (.int (1 : Int32)), .unset, .unset, .unset, .unset]) rfl at_152 rfl (q := 154) ?_
        refine o_goto S at_154 (by decide) (q := 187) (by decide) ?_
        refine o_iload S rfl at_187 rfl (q := 189) ?_
        refine o_iload S rfl at_189 rfl (q := 191) ?_
        refine o_iload S rfl at_191 rfl (q := 193) ?_
        refine o_iadd S at_193 rfl (q := 194) ?_
        refine o_icmp S at_194 (by decide) (q' := 199) (by decide) (q := 197) rfl hs_eq.1 hs_eq.2 (fun hc194 => ?_) (fun hc194 => ?_)
        · skip
          refine o_aload S rfl rfl at_199 rfl (q := 201) ?_
          refine o_iconst S (z := 0) rfl at_201 rfl (q := 202) ?_
          refine o_iload S rfl at_202 rfl (q := 204) ?_
          refine o_iload S rfl at_204 rfl (q := 206) ?_
          refine o_iload S rfl at_206 rfl (q := 208) ?_
          refine o_callS0 S (W := 0) (argsL := [(.ref b6), (.int (0 : Int32)), (.int (0 : Int32)), (.int (1 : Int32)), (.int v5)]) (rest := []) (o_wd (i := 6) hw rfl) (o_wd (i := 7) hw rfl) (o_wd (i := 8) hw rfl) (o_wd (i := 9) hw rfl) (by decide) (ct_2 l Z a0 hw b6 (0 : Int32) (0 : Int32) (1 : Int32) v5 ([(v3.toInt8.toInt32), v5, v5, v5, v5, v5]) h14 n0 (o_n0 S) A_b6 (by decide) (by show (0 : Int) < 6; decide)) (by decide) (by decide) rfl rfl pd_1 rfl (Nat.le_of_eq rfl) at_208 rfl (q := 211) (by decide) (by decide) rfl (st' := [(.int (f_kept (0 : Int32) (0 : Int32) (1 : Int32) v5 ([(v3.toInt8.toInt32), v5, v5, v5, v5, v5])))]) (fun T S => ?_)
          refine o_if S at_211 (by decide) (q' := 289) (by decide) (q := 214) rfl hs_eq.1 hs_eq.2 (fun hc211 => ?_) (fun hc211 => ?_)
          · exact absurd hc211 (by rw [f_kept, if_neg (by decide), if_pos (by decide)]; decide)
          · skip
            refine o_aload S rfl rfl at_214 rfl (q := 216) ?_
            refine o_iconst S (z := 1) rfl at_216 rfl (q := 217) ?_
            refine o_iload S rfl at_217 rfl (q := 219) ?_
            refine o_iload S rfl at_219 rfl (q := 221) ?_
            refine o_iload S rfl at_221 rfl (q := 223) ?_
            refine o_callS0 S (W := 0) (argsL := [(.ref b6), (.int (1 : Int32)), (.int (0 : Int32)), (.int (1 : Int32)), (.int v5)]) (rest := []) (o_wd (i := 6) hw rfl) (o_wd (i := 7) hw rfl) (o_wd (i := 8) hw rfl) (o_wd (i := 9) hw rfl) (by decide) (ct_2 l Z a0 hw b6 (1 : Int32) (0 : Int32) (1 : Int32) v5 ([(v3.toInt8.toInt32), v5, v5, v5, v5, v5]) h14 n0 (o_n0 S) A_b6 (by decide) (by show (1 : Int) < 6; decide)) (by decide) (by decide) rfl rfl pd_1 rfl (Nat.le_of_eq rfl) at_223 rfl (q := 226) (by decide) (by decide) rfl (st' := [(.int (f_kept (1 : Int32) (0 : Int32) (1 : Int32) v5 ([(v3.toInt8.toInt32), v5, v5, v5, v5, v5])))]) (fun T S => ?_)
            refine o_if S at_226 (by decide) (q' := 289) (by decide) (q := 229) rfl hs_eq.1 hs_eq.2 (fun hc226 => ?_) (fun hc226 => ?_)
            · exact absurd hc226 (by rw [f_kept, if_neg (by decide), if_neg (by decide), if_neg (fun q => q rfl)]; decide)
            · skip
              refine o_aload S rfl rfl at_229 rfl (q := 231) ?_
              refine o_iconst S (z := 2) rfl at_231 rfl (q := 232) ?_
              refine o_iload S rfl at_232 rfl (q := 234) ?_
              refine o_iload S rfl at_234 rfl (q := 236) ?_
              refine o_iload S rfl at_236 rfl (q := 238) ?_
              refine o_callS0 S (W := 0) (argsL := [(.ref b6), (.int (2 : Int32)), (.int (0 : Int32)), (.int (1 : Int32)), (.int v5)]) (rest := []) (o_wd (i := 6) hw rfl) (o_wd (i := 7) hw rfl) (o_wd (i := 8) hw rfl) (o_wd (i := 9) hw rfl) (by decide) (ct_2 l Z a0 hw b6 (2 : Int32) (0 : Int32) (1 : Int32) v5 ([(v3.toInt8.toInt32), v5, v5, v5, v5, v5]) h14 n0 (o_n0 S) A_b6 (by decide) (by show (2 : Int) < 6; decide)) (by decide) (by decide) rfl rfl pd_1 rfl (Nat.le_of_eq rfl) at_238 rfl (q := 241) (by decide) (by decide) rfl (st' := [(.int (f_kept (2 : Int32) (0 : Int32) (1 : Int32) v5 ([(v3.toInt8.toInt32), v5, v5, v5, v5, v5])))]) (fun T S => ?_)
              refine o_if S at_241 (by decide) (q' := 289) (by decide) (q := 244) rfl hs_eq.1 hs_eq.2 (fun hc241 => ?_) (fun hc241 => ?_)
              · exact absurd hc241 (by rw [f_kept, if_neg (by decide), if_neg (by decide), if_neg (fun q => q rfl)]; decide)
              · skip
                refine o_aload S rfl rfl at_244 rfl (q := 246) ?_
                refine o_iconst S (z := 3) rfl at_246 rfl (q := 247) ?_
                refine o_iload S rfl at_247 rfl (q := 249) ?_
                refine o_iload S rfl at_249 rfl (q := 251) ?_
                refine o_iload S rfl at_251 rfl (q := 253) ?_
                refine o_callS0 S (W := 0) (argsL := [(.ref b6), (.int (3 : Int32)), (.int (0 : Int32)), (.int (1 : Int32)), (.int v5)]) (rest := []) (o_wd (i := 6) hw rfl) (o_wd (i := 7) hw rfl) (o_wd (i := 8) hw rfl) (o_wd (i := 9) hw rfl) (by decide) (ct_2 l Z a0 hw b6 (3 : Int32) (0 : Int32) (1 : Int32) v5 ([(v3.toInt8.toInt32), v5, v5, v5, v5, v5]) h14 n0 (o_n0 S) A_b6 (by decide) (by show (3 : Int) < 6; decide)) (by decide) (by decide) rfl rfl pd_1 rfl (Nat.le_of_eq rfl) at_253 rfl (q := 256) (by decide) (by decide) rfl (st' := [(.int (f_kept (3 : Int32) (0 : Int32) (1 : Int32) v5 ([(v3.toInt8.toInt32), v5, v5, v5, v5, v5])))]) (fun T S => ?_)
                refine o_if S at_256 (by decide) (q' := 289) (by decide) (q := 259) rfl hs_eq.1 hs_eq.2 (fun hc256 => ?_) (fun hc256 => ?_)
                · exact absurd hc256 (by rw [f_kept, if_neg (by decide), if_neg (by decide), if_neg (fun q => q rfl)]; decide)
                · skip
                  refine o_aload S rfl rfl at_259 rfl (q := 261) ?_
                  refine o_iconst S (z := 4) rfl at_261 rfl (q := 262) ?_
                  refine o_iload S rfl at_262 rfl (q := 264) ?_
                  refine o_iload S rfl at_264 rfl (q := 266) ?_
                  refine o_iload S rfl at_266 rfl (q := 268) ?_
                  refine o_callS0 S (W := 0) (argsL := [(.ref b6), (.int (4 : Int32)), (.int (0 : Int32)), (.int (1 : Int32)), (.int v5)]) (rest := []) (o_wd (i := 6) hw rfl) (o_wd (i := 7) hw rfl) (o_wd (i := 8) hw rfl) (o_wd (i := 9) hw rfl) (by decide) (ct_2 l Z a0 hw b6 (4 : Int32) (0 : Int32) (1 : Int32) v5 ([(v3.toInt8.toInt32), v5, v5, v5, v5, v5]) h14 n0 (o_n0 S) A_b6 (by decide) (by show (4 : Int) < 6; decide)) (by decide) (by decide) rfl rfl pd_1 rfl (Nat.le_of_eq rfl) at_268 rfl (q := 271) (by decide) (by decide) rfl (st' := [(.int (f_kept (4 : Int32) (0 : Int32) (1 : Int32) v5 ([(v3.toInt8.toInt32), v5, v5, v5, v5, v5])))]) (fun T S => ?_)
                  refine o_if S at_271 (by decide) (q' := 289) (by decide) (q := 274) rfl hs_eq.1 hs_eq.2 (fun hc271 => ?_) (fun hc271 => ?_)
                  · exact absurd hc271 (by rw [f_kept, if_neg (by decide), if_neg (by decide), if_neg (fun q => q rfl)]; decide)
                  · skip
                    refine o_aload S rfl rfl at_274 rfl (q := 276) ?_
                    refine o_iconst S (z := 5) rfl at_276 rfl (q := 277) ?_
                    refine o_iload S rfl at_277 rfl (q := 279) ?_
                    refine o_iload S rfl at_279 rfl (q := 281) ?_
                    refine o_iload S rfl at_281 rfl (q := 283) ?_
                    refine o_callS0 S (W := 0) (argsL := [(.ref b6), (.int (5 : Int32)), (.int (0 : Int32)), (.int (1 : Int32)), (.int v5)]) (rest := []) (o_wd (i := 6) hw rfl) (o_wd (i := 7) hw rfl) (o_wd (i := 8) hw rfl) (o_wd (i := 9) hw rfl) (by decide) (ct_2 l Z a0 hw b6 (5 : Int32) (0 : Int32) (1 : Int32) v5 ([(v3.toInt8.toInt32), v5, v5, v5, v5, v5]) h14 n0 (o_n0 S) A_b6 (by decide) (by show (5 : Int) < 6; decide)) (by decide) (by decide) rfl rfl pd_1 rfl (Nat.le_of_eq rfl) at_283 rfl (q := 286) (by decide) (by decide) rfl (st' := [(.int (f_kept (5 : Int32) (0 : Int32) (1 : Int32) v5 ([(v3.toInt8.toInt32), v5, v5, v5, v5, v5])))]) (fun T S => ?_)
                    refine o_if S at_286 (by decide) (q' := 291) (by decide) (q := 289) rfl hs_ne.1 hs_ne.2 (fun hc286 => ?_) (fun hc286 => ?_)
                    · skip
                      refine o_aload S rfl rfl at_291 rfl (q := 293) ?_
                      refine o_iload S rfl at_293 rfl (q := 295) ?_
                      refine o_baload S A_b6 (by decide) (by show (0 : Int) < 6; decide) (v := (v3.toInt8.toInt32)) rfl at_295 rfl (q := 296) ?_
                      refine o_sipush S (z := 255) rfl at_296 rfl (q := 299) ?_
                      refine o_iand S at_299 rfl (q := 300) ?_
                      refine o_istoreV S (L' := fun v16 => #[.val (.int p0), .val (.int p1), .val (.int p2), .val (.int p3), .val (.int v1), .val (.int v2), .val (.int v3), .val (.int (0 : Int32)), .val (.int v5), .val (.ref b6), .val (.int (1 : Int32)), .val (.int (1 : Int32)), .val (.int v16), .unset, .unset, .unset]) (fun _ => rfl) at_300 rfl (q := 302) (fun v16 hv16 => ?_)
                      refine o_iload S rfl at_302 rfl (q := 304) ?_
                      refine o_iconst S (z := 1) rfl at_304 rfl (q := 305) ?_
                      refine o_icmp S at_305 (by decide) (q' := 321) (by decide) (q := 308) rfl hs_ne.1 hs_ne.2 (fun hc305 => ?_) (fun hc305 => ?_)
                      · exact absurd hc305 (by decide)
                      · skip
                        refine o_iload S rfl at_308 rfl (q := 310) ?_
                        refine o_iload S rfl at_310 rfl (q := 312) ?_
                        refine o_icmp S at_312 (by decide) (q' := 319) (by decide) (q := 315) rfl hs_ne.1 hs_ne.2 (fun hc312 => ?_) (fun hc312 => ?_)
                        · exact absurd (one_ok _ _ hv16 hc0 hcp) hc312
                        · skip
                          refine o_iconst S (z := 1) rfl at_315 rfl (q := 316) ?_
                          refine o_goto S at_316 (by decide) (q := 320) (by decide) ?_
                          refine o_retN S (t := .boolean) rfl (by simp) at_320 (by decide) (by decide) rfl ?_
                          rfl
                    · exact absurd (Decidable.not_not.mp hc286) (by rw [f_kept, if_neg (by decide), if_neg (by decide), if_neg (fun q => q rfl)]; decide)
        · exact absurd hc194 (by decide)
    · skip
      refine o_iload S rfl at_132 rfl (q := 134) ?_
      refine o_aload S rfl rfl at_134 rfl (q := 136) ?_
      refine o_iload S rfl at_136 rfl (q := 138) ?_
      refine o_callS S (W := 0) (argsL := [(.int v3), (.ref b6), (.int (0 : Int32))]) (rest := []) (o_wd (i := 2) hw rfl) (o_wd (i := 3) hw rfl) (o_wd (i := 4) hw rfl) (o_wd (i := 5) hw rfl) (by decide) (ct_1 l Z a0 hw v3 b6 (0 : Int32) ([v5, v5, v5, v5, v5, v5]) h13 n0 (o_n0 S) A_b6 g_b6 (by decide) (by show (0 : Int) + 4 ≤ 6; decide)) (by decide) (by decide) rfl rfl pd_0 rfl (Nat.le_of_eq rfl) at_138 rfl (q := 141) (by decide) (by decide) (fun T h17 rr18 S hQ => ?_)
      obtain ⟨hv, K1, A_b6'⟩ := hQ
      subst hv
      have A_b6 := A_b6'
      show Wp p e below (Po s n0 room_1 Q0) T (mkF m 141 #[.val (.int p0), .val (.int p1), .val (.int p2), .val (.int p3), .val (.int v1), .val (.int v2), .val (.int v3), .val (.int (0 : Int32)), .val (.int v5), .val (.ref b6), .unset, .unset, .unset, .unset, .unset, .unset] [(.int (encN v3 (0 : Int32)))])
      have hend : encN v3 (0 : Int32) = (2 : Int32) := by rw [encN, if_pos (by omega), if_neg (by omega)]; rfl
      rw [hend]
      have A_b6 : IA Z h17 b6 .byte [(((192 : Int32) ||| (v3 >>> ((6 : Int32) &&& 31))).toInt8.toInt32), (((128 : Int32) ||| (v3 &&& (63 : Int32))).toInt8.toInt32), v5, v5, v5, v5] := by have q := A_b6; rw [encL, if_pos (by omega), if_neg (by omega)] at q; exact q
      refine o_istore S (L' := #[.val (.int p0), .val (.int p1), .val (.int p2), .val (.int p3), .val (.int v1), .val (.int v2), .val (.int v3), .val (.int (0 : Int32)), .val (.int v5), .val (.ref b6), .val (.int (2 : Int32)), .unset, .unset, .unset, .unset, .unset]) rfl at_141 rfl (q := 143) ?_
      refine o_iload S rfl at_143 rfl (q := 145) ?_
      refine o_sipush S (z := 128) rfl at_145 rfl (q := 148) ?_
      refine o_icmp S at_148 (by decide) (q' := 157) (by decide) (q := 151) rfl (hs_ge (a := v3.toInt) (b := 128) rfl rfl).1 (hs_ge (a := v3.toInt) (b := 128) rfl rfl).2 (fun hc148 => ?_) (fun hc148 => ?_)
      · skip
        refine o_iload S rfl at_157 rfl (q := 159) ?_
        refine o_sipush S (z := 2048) rfl at_159 rfl (q := 162) ?_
        refine o_icmp S at_162 (by decide) (q' := 171) (by decide) (q := 165) rfl (hs_ge (a := v3.toInt) (b := 2048) rfl rfl).1 (hs_ge (a := v3.toInt) (b := 2048) rfl rfl).2 (fun hc162 => ?_) (fun hc162 => ?_)
        · exact absurd hc162 (by omega)
        · skip
          refine o_iconst S (z := 2) rfl at_165 rfl (q := 166) ?_
          refine o_istore S (L' := #[.val (.int p0), .val (.int p1), .val (.int p2), .val (.int p3), .val (.int v1), .val (.int v2), .val (.int v3), .val (.int (0 : Int32)), .val (.int v5), .val (.ref b6), .val (.int (2 : Int32)), .val (.int (2 : Int32)), .unset, .unset, .unset, .unset]) rfl at_166 rfl (q := 168) ?_
          refine o_goto S at_168 (by decide) (q := 187) (by decide) ?_
          refine o_iload S rfl at_187 rfl (q := 189) ?_
          refine o_iload S rfl at_189 rfl (q := 191) ?_
          refine o_iload S rfl at_191 rfl (q := 193) ?_
          refine o_iadd S at_193 rfl (q := 194) ?_
          refine o_icmp S at_194 (by decide) (q' := 199) (by decide) (q := 197) rfl hs_eq.1 hs_eq.2 (fun hc194 => ?_) (fun hc194 => ?_)
          · skip
            refine o_aload S rfl rfl at_199 rfl (q := 201) ?_
            refine o_iconst S (z := 0) rfl at_201 rfl (q := 202) ?_
            refine o_iload S rfl at_202 rfl (q := 204) ?_
            refine o_iload S rfl at_204 rfl (q := 206) ?_
            refine o_iload S rfl at_206 rfl (q := 208) ?_
            refine o_callS0 S (W := 0) (argsL := [(.ref b6), (.int (0 : Int32)), (.int (0 : Int32)), (.int (2 : Int32)), (.int v5)]) (rest := []) (o_wd (i := 6) hw rfl) (o_wd (i := 7) hw rfl) (o_wd (i := 8) hw rfl) (o_wd (i := 9) hw rfl) (by decide) (ct_2 l Z a0 hw b6 (0 : Int32) (0 : Int32) (2 : Int32) v5 ([(((192 : Int32) ||| (v3 >>> ((6 : Int32) &&& 31))).toInt8.toInt32), (((128 : Int32) ||| (v3 &&& (63 : Int32))).toInt8.toInt32), v5, v5, v5, v5]) h17 n0 (o_n0 S) A_b6 (by decide) (by show (0 : Int) < 6; decide)) (by decide) (by decide) rfl rfl pd_1 rfl (Nat.le_of_eq rfl) at_208 rfl (q := 211) (by decide) (by decide) rfl (st' := [(.int (f_kept (0 : Int32) (0 : Int32) (2 : Int32) v5 ([(((192 : Int32) ||| (v3 >>> ((6 : Int32) &&& 31))).toInt8.toInt32), (((128 : Int32) ||| (v3 &&& (63 : Int32))).toInt8.toInt32), v5, v5, v5, v5])))]) (fun T S => ?_)
            refine o_if S at_211 (by decide) (q' := 289) (by decide) (q := 214) rfl hs_eq.1 hs_eq.2 (fun hc211 => ?_) (fun hc211 => ?_)
            · exact absurd hc211 (by rw [f_kept, if_neg (by decide), if_pos (by decide)]; decide)
            · skip
              refine o_aload S rfl rfl at_214 rfl (q := 216) ?_
              refine o_iconst S (z := 1) rfl at_216 rfl (q := 217) ?_
              refine o_iload S rfl at_217 rfl (q := 219) ?_
              refine o_iload S rfl at_219 rfl (q := 221) ?_
              refine o_iload S rfl at_221 rfl (q := 223) ?_
              refine o_callS0 S (W := 0) (argsL := [(.ref b6), (.int (1 : Int32)), (.int (0 : Int32)), (.int (2 : Int32)), (.int v5)]) (rest := []) (o_wd (i := 6) hw rfl) (o_wd (i := 7) hw rfl) (o_wd (i := 8) hw rfl) (o_wd (i := 9) hw rfl) (by decide) (ct_2 l Z a0 hw b6 (1 : Int32) (0 : Int32) (2 : Int32) v5 ([(((192 : Int32) ||| (v3 >>> ((6 : Int32) &&& 31))).toInt8.toInt32), (((128 : Int32) ||| (v3 &&& (63 : Int32))).toInt8.toInt32), v5, v5, v5, v5]) h17 n0 (o_n0 S) A_b6 (by decide) (by show (1 : Int) < 6; decide)) (by decide) (by decide) rfl rfl pd_1 rfl (Nat.le_of_eq rfl) at_223 rfl (q := 226) (by decide) (by decide) rfl (st' := [(.int (f_kept (1 : Int32) (0 : Int32) (2 : Int32) v5 ([(((192 : Int32) ||| (v3 >>> ((6 : Int32) &&& 31))).toInt8.toInt32), (((128 : Int32) ||| (v3 &&& (63 : Int32))).toInt8.toInt32), v5, v5, v5, v5])))]) (fun T S => ?_)
              refine o_if S at_226 (by decide) (q' := 289) (by decide) (q := 229) rfl hs_eq.1 hs_eq.2 (fun hc226 => ?_) (fun hc226 => ?_)
              · exact absurd hc226 (by rw [f_kept, if_neg (by decide), if_pos (by decide)]; decide)
              · skip
                refine o_aload S rfl rfl at_229 rfl (q := 231) ?_
                refine o_iconst S (z := 2) rfl at_231 rfl (q := 232) ?_
                refine o_iload S rfl at_232 rfl (q := 234) ?_
                refine o_iload S rfl at_234 rfl (q := 236) ?_
                refine o_iload S rfl at_236 rfl (q := 238) ?_
                refine o_callS0 S (W := 0) (argsL := [(.ref b6), (.int (2 : Int32)), (.int (0 : Int32)), (.int (2 : Int32)), (.int v5)]) (rest := []) (o_wd (i := 6) hw rfl) (o_wd (i := 7) hw rfl) (o_wd (i := 8) hw rfl) (o_wd (i := 9) hw rfl) (by decide) (ct_2 l Z a0 hw b6 (2 : Int32) (0 : Int32) (2 : Int32) v5 ([(((192 : Int32) ||| (v3 >>> ((6 : Int32) &&& 31))).toInt8.toInt32), (((128 : Int32) ||| (v3 &&& (63 : Int32))).toInt8.toInt32), v5, v5, v5, v5]) h17 n0 (o_n0 S) A_b6 (by decide) (by show (2 : Int) < 6; decide)) (by decide) (by decide) rfl rfl pd_1 rfl (Nat.le_of_eq rfl) at_238 rfl (q := 241) (by decide) (by decide) rfl (st' := [(.int (f_kept (2 : Int32) (0 : Int32) (2 : Int32) v5 ([(((192 : Int32) ||| (v3 >>> ((6 : Int32) &&& 31))).toInt8.toInt32), (((128 : Int32) ||| (v3 &&& (63 : Int32))).toInt8.toInt32), v5, v5, v5, v5])))]) (fun T S => ?_)
                refine o_if S at_241 (by decide) (q' := 289) (by decide) (q := 244) rfl hs_eq.1 hs_eq.2 (fun hc241 => ?_) (fun hc241 => ?_)
                · exact absurd hc241 (by rw [f_kept, if_neg (by decide), if_neg (by decide), if_neg (fun q => q rfl)]; decide)
                · skip
                  refine o_aload S rfl rfl at_244 rfl (q := 246) ?_
                  refine o_iconst S (z := 3) rfl at_246 rfl (q := 247) ?_
                  refine o_iload S rfl at_247 rfl (q := 249) ?_
                  refine o_iload S rfl at_249 rfl (q := 251) ?_
                  refine o_iload S rfl at_251 rfl (q := 253) ?_
                  refine o_callS0 S (W := 0) (argsL := [(.ref b6), (.int (3 : Int32)), (.int (0 : Int32)), (.int (2 : Int32)), (.int v5)]) (rest := []) (o_wd (i := 6) hw rfl) (o_wd (i := 7) hw rfl) (o_wd (i := 8) hw rfl) (o_wd (i := 9) hw rfl) (by decide) (ct_2 l Z a0 hw b6 (3 : Int32) (0 : Int32) (2 : Int32) v5 ([(((192 : Int32) ||| (v3 >>> ((6 : Int32) &&& 31))).toInt8.toInt32), (((128 : Int32) ||| (v3 &&& (63 : Int32))).toInt8.toInt32), v5, v5, v5, v5]) h17 n0 (o_n0 S) A_b6 (by decide) (by show (3 : Int) < 6; decide)) (by decide) (by decide) rfl rfl pd_1 rfl (Nat.le_of_eq rfl) at_253 rfl (q := 256) (by decide) (by decide) rfl (st' := [(.int (f_kept (3 : Int32) (0 : Int32) (2 : Int32) v5 ([(((192 : Int32) ||| (v3 >>> ((6 : Int32) &&& 31))).toInt8.toInt32), (((128 : Int32) ||| (v3 &&& (63 : Int32))).toInt8.toInt32), v5, v5, v5, v5])))]) (fun T S => ?_)
                  refine o_if S at_256 (by decide) (q' := 289) (by decide) (q := 259) rfl hs_eq.1 hs_eq.2 (fun hc256 => ?_) (fun hc256 => ?_)
                  · exact absurd hc256 (by rw [f_kept, if_neg (by decide), if_neg (by decide), if_neg (fun q => q rfl)]; decide)
                  · skip
                    refine o_aload S rfl rfl at_259 rfl (q := 261) ?_
                    refine o_iconst S (z := 4) rfl at_261 rfl (q := 262) ?_
                    refine o_iload S rfl at_262 rfl (q := 264) ?_
                    refine o_iload S rfl at_264 rfl (q := 266) ?_
                    refine o_iload S rfl at_266 rfl (q := 268) ?_
                    refine o_callS0 S (W := 0) (argsL := [(.ref b6), (.int (4 : Int32)), (.int (0 : Int32)), (.int (2 : Int32)), (.int v5)]) (rest := []) (o_wd (i := 6) hw rfl) (o_wd (i := 7) hw rfl) (o_wd (i := 8) hw rfl) (o_wd (i := 9) hw rfl) (by decide) (ct_2 l Z a0 hw b6 (4 : Int32) (0 : Int32) (2 : Int32) v5 ([(((192 : Int32) ||| (v3 >>> ((6 : Int32) &&& 31))).toInt8.toInt32), (((128 : Int32) ||| (v3 &&& (63 : Int32))).toInt8.toInt32), v5, v5, v5, v5]) h17 n0 (o_n0 S) A_b6 (by decide) (by show (4 : Int) < 6; decide)) (by decide) (by decide) rfl rfl pd_1 rfl (Nat.le_of_eq rfl) at_268 rfl (q := 271) (by decide) (by decide) rfl (st' := [(.int (f_kept (4 : Int32) (0 : Int32) (2 : Int32) v5 ([(((192 : Int32) ||| (v3 >>> ((6 : Int32) &&& 31))).toInt8.toInt32), (((128 : Int32) ||| (v3 &&& (63 : Int32))).toInt8.toInt32), v5, v5, v5, v5])))]) (fun T S => ?_)
                    refine o_if S at_271 (by decide) (q' := 289) (by decide) (q := 274) rfl hs_eq.1 hs_eq.2 (fun hc271 => ?_) (fun hc271 => ?_)
                    · exact absurd hc271 (by rw [f_kept, if_neg (by decide), if_neg (by decide), if_neg (fun q => q rfl)]; decide)
                    · skip
                      refine o_aload S rfl rfl at_274 rfl (q := 276) ?_
                      refine o_iconst S (z := 5) rfl at_276 rfl (q := 277) ?_
                      refine o_iload S rfl at_277 rfl (q := 279) ?_
                      refine o_iload S rfl at_279 rfl (q := 281) ?_
                      refine o_iload S rfl at_281 rfl (q := 283) ?_
                      refine o_callS0 S (W := 0) (argsL := [(.ref b6), (.int (5 : Int32)), (.int (0 : Int32)), (.int (2 : Int32)), (.int v5)]) (rest := []) (o_wd (i := 6) hw rfl) (o_wd (i := 7) hw rfl) (o_wd (i := 8) hw rfl) (o_wd (i := 9) hw rfl) (by decide) (ct_2 l Z a0 hw b6 (5 : Int32) (0 : Int32) (2 : Int32) v5 ([(((192 : Int32) ||| (v3 >>> ((6 : Int32) &&& 31))).toInt8.toInt32), (((128 : Int32) ||| (v3 &&& (63 : Int32))).toInt8.toInt32), v5, v5, v5, v5]) h17 n0 (o_n0 S) A_b6 (by decide) (by show (5 : Int) < 6; decide)) (by decide) (by decide) rfl rfl pd_1 rfl (Nat.le_of_eq rfl) at_283 rfl (q := 286) (by decide) (by decide) rfl (st' := [(.int (f_kept (5 : Int32) (0 : Int32) (2 : Int32) v5 ([(((192 : Int32) ||| (v3 >>> ((6 : Int32) &&& 31))).toInt8.toInt32), (((128 : Int32) ||| (v3 &&& (63 : Int32))).toInt8.toInt32), v5, v5, v5, v5])))]) (fun T S => ?_)
                      refine o_if S at_286 (by decide) (q' := 291) (by decide) (q := 289) rfl hs_ne.1 hs_ne.2 (fun hc286 => ?_) (fun hc286 => ?_)
                      · skip
                        refine o_aload S rfl rfl at_291 rfl (q := 293) ?_
                        refine o_iload S rfl at_293 rfl (q := 295) ?_
                        refine o_baload S A_b6 (by decide) (by show (0 : Int) < 6; decide) (v := (((192 : Int32) ||| (v3 >>> ((6 : Int32) &&& 31))).toInt8.toInt32)) rfl at_295 rfl (q := 296) ?_
                        refine o_sipush S (z := 255) rfl at_296 rfl (q := 299) ?_
                        refine o_iand S at_299 rfl (q := 300) ?_
                        refine o_istoreV S (L' := fun v19 => #[.val (.int p0), .val (.int p1), .val (.int p2), .val (.int p3), .val (.int v1), .val (.int v2), .val (.int v3), .val (.int (0 : Int32)), .val (.int v5), .val (.ref b6), .val (.int (2 : Int32)), .val (.int (2 : Int32)), .val (.int v19), .unset, .unset, .unset]) (fun _ => rfl) at_300 rfl (q := 302) (fun v19 hv19 => ?_)
                        have hb0 := two_h v3 v19 hv19 hcp.1 hcp.2
                        refine o_iload S rfl at_302 rfl (q := 304) ?_
                        refine o_iconst S (z := 1) rfl at_304 rfl (q := 305) ?_
                        refine o_icmp S at_305 (by decide) (q' := 321) (by decide) (q := 308) rfl hs_ne.1 hs_ne.2 (fun hc305 => ?_) (fun hc305 => ?_)
                        · skip
                          refine o_aload S rfl rfl at_321 rfl (q := 323) ?_
                          refine o_iload S rfl at_323 rfl (q := 325) ?_
                          refine o_iconst S (z := 1) rfl at_325 rfl (q := 326) ?_
                          refine o_iadd S at_326 rfl (q := 327) ?_
                          refine o_baload S A_b6 (by decide) (by show (1 : Int) < 6; decide) (v := (((128 : Int32) ||| (v3 &&& (63 : Int32))).toInt8.toInt32)) rfl at_327 rfl (q := 328) ?_
                          refine o_sipush S (z := 255) rfl at_328 rfl (q := 331) ?_
                          refine o_iand S at_331 rfl (q := 332) ?_
                          refine o_istoreV S (L' := fun v20 => #[.val (.int p0), .val (.int p1), .val (.int p2), .val (.int p3), .val (.int v1), .val (.int v2), .val (.int v3), .val (.int (0 : Int32)), .val (.int v5), .val (.ref b6), .val (.int (2 : Int32)), .val (.int (2 : Int32)), .val (.int v19), .val (.int v20), .unset, .unset]) (fun _ => rfl) at_332 rfl (q := 334) (fun v20 hv20 => ?_)
                          have hb1 : v20.toInt = 128 + v3.toInt % 64 := cbyte _ _ hv20
                          refine o_iload S rfl at_334 rfl (q := 336) ?_
                          refine o_callS0 S (W := 0) (argsL := [(.int v20)]) (rest := []) (o_wd (i := 13) hw rfl) (o_wd (i := 14) hw rfl) (o_wd (i := 8) hw rfl) (o_wd (i := 15) hw rfl) (by decide) (ct_3 l Z a0 hw v20 h17 n0 (o_n0 S)) (by decide) (by decide) rfl rfl pd_2 rfl (Nat.le_of_eq rfl) at_336 rfl (q := 339) (by decide) (by decide) rfl (st' := [(.int (f_cont v20))]) (fun T S => ?_)
                          refine o_if S at_339 (by decide) (q' := 344) (by decide) (q := 342) rfl hs_ne.1 hs_ne.2 (fun hc339 => ?_) (fun hc339 => ?_)
                          · skip
                            refine o_iload S rfl at_344 rfl (q := 346) ?_
                            refine o_iconst S (z := 2) rfl at_346 rfl (q := 347) ?_
                            refine o_icmp S at_347 (by decide) (q' := 387) (by decide) (q := 350) rfl hs_ne.1 hs_ne.2 (fun hc347 => ?_) (fun hc347 => ?_)
                            · exact absurd hc347 (by decide)
                            · skip
                              refine o_iload S rfl at_350 rfl (q := 352) ?_
                              refine o_sipush S (z := 224) rfl at_352 rfl (q := 355) ?_
                              refine o_iand S at_355 rfl (q := 356) ?_
                              refine o_sipush S (z := 192) rfl at_356 rfl (q := 359) ?_
                              refine o_icmp S at_359 (by decide) (q' := 385) (by decide) (q := 362) rfl hs_ne.1 hs_ne.2 (fun hc359 => ?_) (fun hc359 => ?_)
                              · exact absurd (two_t _ _ hb0 (by omega) (by omega)) hc359
                              · skip
                                refine o_iload S rfl at_362 rfl (q := 364) ?_
                                refine o_bipush S (z := 31) rfl at_364 rfl (q := 366) ?_
                                refine o_iand S at_366 rfl (q := 367) ?_
                                refine o_bipush S (z := 6) rfl at_367 rfl (q := 369) ?_
                                refine o_ishl S at_369 rfl (q := 370) ?_
                                refine o_iload S rfl at_370 rfl (q := 372) ?_
                                refine o_bipush S (z := 63) rfl at_372 rfl (q := 374) ?_
                                refine o_iand S at_374 rfl (q := 375) ?_
                                refine o_ior S at_375 rfl (q := 376) ?_
                                refine o_iload S rfl at_376 rfl (q := 378) ?_
                                refine o_icmp S at_378 (by decide) (q' := 385) (by decide) (q := 381) rfl hs_ne.1 hs_ne.2 (fun hc378 => ?_) (fun hc378 => ?_)
                                · exact absurd (two_e _ _ _ hcp.1 hcp.2 hb0 hb1) hc378
                                · skip
                                  refine o_iconst S (z := 1) rfl at_381 rfl (q := 382) ?_
                                  refine o_goto S at_382 (by decide) (q := 386) (by decide) ?_
                                  refine o_retN S (t := .boolean) rfl (by simp) at_386 (by decide) (by decide) rfl ?_
                                  rfl
                          · exact absurd (Decidable.not_not.mp hc339) (cont_ok _ _ hb1 (by omega) (by omega))
                        · exact absurd hc305 (by decide)
                      · exact absurd (Decidable.not_not.mp hc286) (by rw [f_kept, if_neg (by decide), if_neg (by decide), if_neg (fun q => q rfl)]; decide)
          · exact absurd hc194 (by decide)
      · exact absurd hc148 (by omega)
    · skip
      refine o_iload S rfl at_132 rfl (q := 134) ?_
      refine o_aload S rfl rfl at_134 rfl (q := 136) ?_
      refine o_iload S rfl at_136 rfl (q := 138) ?_
      refine o_callS S (W := 0) (argsL := [(.int v3), (.ref b6), (.int (0 : Int32))]) (rest := []) (o_wd (i := 2) hw rfl) (o_wd (i := 3) hw rfl) (o_wd (i := 4) hw rfl) (o_wd (i := 5) hw rfl) (by decide) (ct_1 l Z a0 hw v3 b6 (0 : Int32) ([v5, v5, v5, v5, v5, v5]) h13 n0 (o_n0 S) A_b6 g_b6 (by decide) (by show (0 : Int) + 4 ≤ 6; decide)) (by decide) (by decide) rfl rfl pd_0 rfl (Nat.le_of_eq rfl) at_138 rfl (q := 141) (by decide) (by decide) (fun T h21 rr22 S hQ => ?_)
      obtain ⟨hv, K1, A_b6'⟩ := hQ
      subst hv
      have A_b6 := A_b6'
      show Wp p e below (Po s n0 room_1 Q0) T (mkF m 141 #[.val (.int p0), .val (.int p1), .val (.int p2), .val (.int p3), .val (.int v1), .val (.int v2), .val (.int v3), .val (.int (0 : Int32)), .val (.int v5), .val (.ref b6), .unset, .unset, .unset, .unset, .unset, .unset] [(.int (encN v3 (0 : Int32)))])
      have hend : encN v3 (0 : Int32) = (3 : Int32) := by rw [encN, if_pos (by omega), if_pos (by omega), if_neg (by omega)]; rfl
      rw [hend]
      have A_b6 : IA Z h21 b6 .byte [(((224 : Int32) ||| (v3 >>> ((12 : Int32) &&& 31))).toInt8.toInt32), (((128 : Int32) ||| ((v3 >>> ((6 : Int32) &&& 31)) &&& (63 : Int32))).toInt8.toInt32), (((128 : Int32) ||| (v3 &&& (63 : Int32))).toInt8.toInt32), v5, v5, v5] := by have q := A_b6; rw [encL, if_pos (by omega), if_pos (by omega), if_neg (by omega)] at q; exact q
      refine o_istore S (L' := #[.val (.int p0), .val (.int p1), .val (.int p2), .val (.int p3), .val (.int v1), .val (.int v2), .val (.int v3), .val (.int (0 : Int32)), .val (.int v5), .val (.ref b6), .val (.int (3 : Int32)), .unset, .unset, .unset, .unset, .unset]) rfl at_141 rfl (q := 143) ?_
      refine o_iload S rfl at_143 rfl (q := 145) ?_
      refine o_sipush S (z := 128) rfl at_145 rfl (q := 148) ?_
      refine o_icmp S at_148 (by decide) (q' := 157) (by decide) (q := 151) rfl (hs_ge (a := v3.toInt) (b := 128) rfl rfl).1 (hs_ge (a := v3.toInt) (b := 128) rfl rfl).2 (fun hc148 => ?_) (fun hc148 => ?_)
      · skip
        refine o_iload S rfl at_157 rfl (q := 159) ?_
        refine o_sipush S (z := 2048) rfl at_159 rfl (q := 162) ?_
        refine o_icmp S at_162 (by decide) (q' := 171) (by decide) (q := 165) rfl (hs_ge (a := v3.toInt) (b := 2048) rfl rfl).1 (hs_ge (a := v3.toInt) (b := 2048) rfl rfl).2 (fun hc162 => ?_) (fun hc162 => ?_)
        · skip
          refine o_iload S rfl at_171 rfl (q := 173) ?_
          refine o_ldc S (o_wd (i := 10) hw rfl) at_173 rfl (q := 175) ?_
          refine o_icmp S at_175 (by decide) (q' := 184) (by decide) (q := 178) rfl (hs_ge (a := v3.toInt) (b := 65536) rfl rfl).1 (hs_ge (a := v3.toInt) (b := 65536) rfl rfl).2 (fun hc175 => ?_) (fun hc175 => ?_)
          · exact absurd hc175 (by omega)
          · skip
            refine o_iconst S (z := 3) rfl at_178 rfl (q := 179) ?_
            refine o_istore S (L' := #[.val (.int p0), .val (.int p1), .val (.int p2), .val (.int p3), .val (.int v1), .val (.int v2), .val (.int v3), .val (.int (0 : Int32)), .val (.int v5), .val (.ref b6), .val (.int (3 : Int32)), .val (.int (3 : Int32)), .unset, .unset, .unset, .unset]) rfl at_179 rfl (q := 181) ?_
            refine o_goto S at_181 (by decide) (q := 187) (by decide) ?_
            refine o_iload S rfl at_187 rfl (q := 189) ?_
            refine o_iload S rfl at_189 rfl (q := 191) ?_
            refine o_iload S rfl at_191 rfl (q := 193) ?_
            refine o_iadd S at_193 rfl (q := 194) ?_
            refine o_icmp S at_194 (by decide) (q' := 199) (by decide) (q := 197) rfl hs_eq.1 hs_eq.2 (fun hc194 => ?_) (fun hc194 => ?_)
            · skip
              refine o_aload S rfl rfl at_199 rfl (q := 201) ?_
              refine o_iconst S (z := 0) rfl at_201 rfl (q := 202) ?_
              refine o_iload S rfl at_202 rfl (q := 204) ?_
              refine o_iload S rfl at_204 rfl (q := 206) ?_
              refine o_iload S rfl at_206 rfl (q := 208) ?_
              refine o_callS0 S (W := 0) (argsL := [(.ref b6), (.int (0 : Int32)), (.int (0 : Int32)), (.int (3 : Int32)), (.int v5)]) (rest := []) (o_wd (i := 6) hw rfl) (o_wd (i := 7) hw rfl) (o_wd (i := 8) hw rfl) (o_wd (i := 9) hw rfl) (by decide) (ct_2 l Z a0 hw b6 (0 : Int32) (0 : Int32) (3 : Int32) v5 ([(((224 : Int32) ||| (v3 >>> ((12 : Int32) &&& 31))).toInt8.toInt32), (((128 : Int32) ||| ((v3 >>> ((6 : Int32) &&& 31)) &&& (63 : Int32))).toInt8.toInt32), (((128 : Int32) ||| (v3 &&& (63 : Int32))).toInt8.toInt32), v5, v5, v5]) h21 n0 (o_n0 S) A_b6 (by decide) (by show (0 : Int) < 6; decide)) (by decide) (by decide) rfl rfl pd_1 rfl (Nat.le_of_eq rfl) at_208 rfl (q := 211) (by decide) (by decide) rfl (st' := [(.int (f_kept (0 : Int32) (0 : Int32) (3 : Int32) v5 ([(((224 : Int32) ||| (v3 >>> ((12 : Int32) &&& 31))).toInt8.toInt32), (((128 : Int32) ||| ((v3 >>> ((6 : Int32) &&& 31)) &&& (63 : Int32))).toInt8.toInt32), (((128 : Int32) ||| (v3 &&& (63 : Int32))).toInt8.toInt32), v5, v5, v5])))]) (fun T S => ?_)
              refine o_if S at_211 (by decide) (q' := 289) (by decide) (q := 214) rfl hs_eq.1 hs_eq.2 (fun hc211 => ?_) (fun hc211 => ?_)
              · exact absurd hc211 (by rw [f_kept, if_neg (by decide), if_pos (by decide)]; decide)
              · skip
                refine o_aload S rfl rfl at_214 rfl (q := 216) ?_
                refine o_iconst S (z := 1) rfl at_216 rfl (q := 217) ?_
                refine o_iload S rfl at_217 rfl (q := 219) ?_
                refine o_iload S rfl at_219 rfl (q := 221) ?_
                refine o_iload S rfl at_221 rfl (q := 223) ?_
                refine o_callS0 S (W := 0) (argsL := [(.ref b6), (.int (1 : Int32)), (.int (0 : Int32)), (.int (3 : Int32)), (.int v5)]) (rest := []) (o_wd (i := 6) hw rfl) (o_wd (i := 7) hw rfl) (o_wd (i := 8) hw rfl) (o_wd (i := 9) hw rfl) (by decide) (ct_2 l Z a0 hw b6 (1 : Int32) (0 : Int32) (3 : Int32) v5 ([(((224 : Int32) ||| (v3 >>> ((12 : Int32) &&& 31))).toInt8.toInt32), (((128 : Int32) ||| ((v3 >>> ((6 : Int32) &&& 31)) &&& (63 : Int32))).toInt8.toInt32), (((128 : Int32) ||| (v3 &&& (63 : Int32))).toInt8.toInt32), v5, v5, v5]) h21 n0 (o_n0 S) A_b6 (by decide) (by show (1 : Int) < 6; decide)) (by decide) (by decide) rfl rfl pd_1 rfl (Nat.le_of_eq rfl) at_223 rfl (q := 226) (by decide) (by decide) rfl (st' := [(.int (f_kept (1 : Int32) (0 : Int32) (3 : Int32) v5 ([(((224 : Int32) ||| (v3 >>> ((12 : Int32) &&& 31))).toInt8.toInt32), (((128 : Int32) ||| ((v3 >>> ((6 : Int32) &&& 31)) &&& (63 : Int32))).toInt8.toInt32), (((128 : Int32) ||| (v3 &&& (63 : Int32))).toInt8.toInt32), v5, v5, v5])))]) (fun T S => ?_)
                refine o_if S at_226 (by decide) (q' := 289) (by decide) (q := 229) rfl hs_eq.1 hs_eq.2 (fun hc226 => ?_) (fun hc226 => ?_)
                · exact absurd hc226 (by rw [f_kept, if_neg (by decide), if_pos (by decide)]; decide)
                · skip
                  refine o_aload S rfl rfl at_229 rfl (q := 231) ?_
                  refine o_iconst S (z := 2) rfl at_231 rfl (q := 232) ?_
                  refine o_iload S rfl at_232 rfl (q := 234) ?_
                  refine o_iload S rfl at_234 rfl (q := 236) ?_
                  refine o_iload S rfl at_236 rfl (q := 238) ?_
                  refine o_callS0 S (W := 0) (argsL := [(.ref b6), (.int (2 : Int32)), (.int (0 : Int32)), (.int (3 : Int32)), (.int v5)]) (rest := []) (o_wd (i := 6) hw rfl) (o_wd (i := 7) hw rfl) (o_wd (i := 8) hw rfl) (o_wd (i := 9) hw rfl) (by decide) (ct_2 l Z a0 hw b6 (2 : Int32) (0 : Int32) (3 : Int32) v5 ([(((224 : Int32) ||| (v3 >>> ((12 : Int32) &&& 31))).toInt8.toInt32), (((128 : Int32) ||| ((v3 >>> ((6 : Int32) &&& 31)) &&& (63 : Int32))).toInt8.toInt32), (((128 : Int32) ||| (v3 &&& (63 : Int32))).toInt8.toInt32), v5, v5, v5]) h21 n0 (o_n0 S) A_b6 (by decide) (by show (2 : Int) < 6; decide)) (by decide) (by decide) rfl rfl pd_1 rfl (Nat.le_of_eq rfl) at_238 rfl (q := 241) (by decide) (by decide) rfl (st' := [(.int (f_kept (2 : Int32) (0 : Int32) (3 : Int32) v5 ([(((224 : Int32) ||| (v3 >>> ((12 : Int32) &&& 31))).toInt8.toInt32), (((128 : Int32) ||| ((v3 >>> ((6 : Int32) &&& 31)) &&& (63 : Int32))).toInt8.toInt32), (((128 : Int32) ||| (v3 &&& (63 : Int32))).toInt8.toInt32), v5, v5, v5])))]) (fun T S => ?_)
                  refine o_if S at_241 (by decide) (q' := 289) (by decide) (q := 244) rfl hs_eq.1 hs_eq.2 (fun hc241 => ?_) (fun hc241 => ?_)
                  · exact absurd hc241 (by rw [f_kept, if_neg (by decide), if_pos (by decide)]; decide)
                  · skip
                    refine o_aload S rfl rfl at_244 rfl (q := 246) ?_
                    refine o_iconst S (z := 3) rfl at_246 rfl (q := 247) ?_
                    refine o_iload S rfl at_247 rfl (q := 249) ?_
                    refine o_iload S rfl at_249 rfl (q := 251) ?_
                    refine o_iload S rfl at_251 rfl (q := 253) ?_
                    refine o_callS0 S (W := 0) (argsL := [(.ref b6), (.int (3 : Int32)), (.int (0 : Int32)), (.int (3 : Int32)), (.int v5)]) (rest := []) (o_wd (i := 6) hw rfl) (o_wd (i := 7) hw rfl) (o_wd (i := 8) hw rfl) (o_wd (i := 9) hw rfl) (by decide) (ct_2 l Z a0 hw b6 (3 : Int32) (0 : Int32) (3 : Int32) v5 ([(((224 : Int32) ||| (v3 >>> ((12 : Int32) &&& 31))).toInt8.toInt32), (((128 : Int32) ||| ((v3 >>> ((6 : Int32) &&& 31)) &&& (63 : Int32))).toInt8.toInt32), (((128 : Int32) ||| (v3 &&& (63 : Int32))).toInt8.toInt32), v5, v5, v5]) h21 n0 (o_n0 S) A_b6 (by decide) (by show (3 : Int) < 6; decide)) (by decide) (by decide) rfl rfl pd_1 rfl (Nat.le_of_eq rfl) at_253 rfl (q := 256) (by decide) (by decide) rfl (st' := [(.int (f_kept (3 : Int32) (0 : Int32) (3 : Int32) v5 ([(((224 : Int32) ||| (v3 >>> ((12 : Int32) &&& 31))).toInt8.toInt32), (((128 : Int32) ||| ((v3 >>> ((6 : Int32) &&& 31)) &&& (63 : Int32))).toInt8.toInt32), (((128 : Int32) ||| (v3 &&& (63 : Int32))).toInt8.toInt32), v5, v5, v5])))]) (fun T S => ?_)
                    refine o_if S at_256 (by decide) (q' := 289) (by decide) (q := 259) rfl hs_eq.1 hs_eq.2 (fun hc256 => ?_) (fun hc256 => ?_)
                    · exact absurd hc256 (by rw [f_kept, if_neg (by decide), if_neg (by decide), if_neg (fun q => q rfl)]; decide)
                    · skip
                      refine o_aload S rfl rfl at_259 rfl (q := 261) ?_
                      refine o_iconst S (z := 4) rfl at_261 rfl (q := 262) ?_
                      refine o_iload S rfl at_262 rfl (q := 264) ?_
                      refine o_iload S rfl at_264 rfl (q := 266) ?_
                      refine o_iload S rfl at_266 rfl (q := 268) ?_
                      refine o_callS0 S (W := 0) (argsL := [(.ref b6), (.int (4 : Int32)), (.int (0 : Int32)), (.int (3 : Int32)), (.int v5)]) (rest := []) (o_wd (i := 6) hw rfl) (o_wd (i := 7) hw rfl) (o_wd (i := 8) hw rfl) (o_wd (i := 9) hw rfl) (by decide) (ct_2 l Z a0 hw b6 (4 : Int32) (0 : Int32) (3 : Int32) v5 ([(((224 : Int32) ||| (v3 >>> ((12 : Int32) &&& 31))).toInt8.toInt32), (((128 : Int32) ||| ((v3 >>> ((6 : Int32) &&& 31)) &&& (63 : Int32))).toInt8.toInt32), (((128 : Int32) ||| (v3 &&& (63 : Int32))).toInt8.toInt32), v5, v5, v5]) h21 n0 (o_n0 S) A_b6 (by decide) (by show (4 : Int) < 6; decide)) (by decide) (by decide) rfl rfl pd_1 rfl (Nat.le_of_eq rfl) at_268 rfl (q := 271) (by decide) (by decide) rfl (st' := [(.int (f_kept (4 : Int32) (0 : Int32) (3 : Int32) v5 ([(((224 : Int32) ||| (v3 >>> ((12 : Int32) &&& 31))).toInt8.toInt32), (((128 : Int32) ||| ((v3 >>> ((6 : Int32) &&& 31)) &&& (63 : Int32))).toInt8.toInt32), (((128 : Int32) ||| (v3 &&& (63 : Int32))).toInt8.toInt32), v5, v5, v5])))]) (fun T S => ?_)
                      refine o_if S at_271 (by decide) (q' := 289) (by decide) (q := 274) rfl hs_eq.1 hs_eq.2 (fun hc271 => ?_) (fun hc271 => ?_)
                      · exact absurd hc271 (by rw [f_kept, if_neg (by decide), if_neg (by decide), if_neg (fun q => q rfl)]; decide)
                      · skip
                        refine o_aload S rfl rfl at_274 rfl (q := 276) ?_
                        refine o_iconst S (z := 5) rfl at_276 rfl (q := 277) ?_
                        refine o_iload S rfl at_277 rfl (q := 279) ?_
                        refine o_iload S rfl at_279 rfl (q := 281) ?_
                        refine o_iload S rfl at_281 rfl (q := 283) ?_
                        refine o_callS0 S (W := 0) (argsL := [(.ref b6), (.int (5 : Int32)), (.int (0 : Int32)), (.int (3 : Int32)), (.int v5)]) (rest := []) (o_wd (i := 6) hw rfl) (o_wd (i := 7) hw rfl) (o_wd (i := 8) hw rfl) (o_wd (i := 9) hw rfl) (by decide) (ct_2 l Z a0 hw b6 (5 : Int32) (0 : Int32) (3 : Int32) v5 ([(((224 : Int32) ||| (v3 >>> ((12 : Int32) &&& 31))).toInt8.toInt32), (((128 : Int32) ||| ((v3 >>> ((6 : Int32) &&& 31)) &&& (63 : Int32))).toInt8.toInt32), (((128 : Int32) ||| (v3 &&& (63 : Int32))).toInt8.toInt32), v5, v5, v5]) h21 n0 (o_n0 S) A_b6 (by decide) (by show (5 : Int) < 6; decide)) (by decide) (by decide) rfl rfl pd_1 rfl (Nat.le_of_eq rfl) at_283 rfl (q := 286) (by decide) (by decide) rfl (st' := [(.int (f_kept (5 : Int32) (0 : Int32) (3 : Int32) v5 ([(((224 : Int32) ||| (v3 >>> ((12 : Int32) &&& 31))).toInt8.toInt32), (((128 : Int32) ||| ((v3 >>> ((6 : Int32) &&& 31)) &&& (63 : Int32))).toInt8.toInt32), (((128 : Int32) ||| (v3 &&& (63 : Int32))).toInt8.toInt32), v5, v5, v5])))]) (fun T S => ?_)
                        refine o_if S at_286 (by decide) (q' := 291) (by decide) (q := 289) rfl hs_ne.1 hs_ne.2 (fun hc286 => ?_) (fun hc286 => ?_)
                        · skip
                          refine o_aload S rfl rfl at_291 rfl (q := 293) ?_
                          refine o_iload S rfl at_293 rfl (q := 295) ?_
                          refine o_baload S A_b6 (by decide) (by show (0 : Int) < 6; decide) (v := (((224 : Int32) ||| (v3 >>> ((12 : Int32) &&& 31))).toInt8.toInt32)) rfl at_295 rfl (q := 296) ?_
                          refine o_sipush S (z := 255) rfl at_296 rfl (q := 299) ?_
                          refine o_iand S at_299 rfl (q := 300) ?_
                          refine o_istoreV S (L' := fun v23 => #[.val (.int p0), .val (.int p1), .val (.int p2), .val (.int p3), .val (.int v1), .val (.int v2), .val (.int v3), .val (.int (0 : Int32)), .val (.int v5), .val (.ref b6), .val (.int (3 : Int32)), .val (.int (3 : Int32)), .val (.int v23), .unset, .unset, .unset]) (fun _ => rfl) at_300 rfl (q := 302) (fun v23 hv23 => ?_)
                          have hb0 := three_h v3 v23 hv23 hcp.1 hcp.2
                          refine o_iload S rfl at_302 rfl (q := 304) ?_
                          refine o_iconst S (z := 1) rfl at_304 rfl (q := 305) ?_
                          refine o_icmp S at_305 (by decide) (q' := 321) (by decide) (q := 308) rfl hs_ne.1 hs_ne.2 (fun hc305 => ?_) (fun hc305 => ?_)
                          · skip
                            refine o_aload S rfl rfl at_321 rfl (q := 323) ?_
                            refine o_iload S rfl at_323 rfl (q := 325) ?_
                            refine o_iconst S (z := 1) rfl at_325 rfl (q := 326) ?_
                            refine o_iadd S at_326 rfl (q := 327) ?_
                            refine o_baload S A_b6 (by decide) (by show (1 : Int) < 6; decide) (v := (((128 : Int32) ||| ((v3 >>> ((6 : Int32) &&& 31)) &&& (63 : Int32))).toInt8.toInt32)) rfl at_327 rfl (q := 328) ?_
                            refine o_sipush S (z := 255) rfl at_328 rfl (q := 331) ?_
                            refine o_iand S at_331 rfl (q := 332) ?_
                            refine o_istoreV S (L' := fun v24 => #[.val (.int p0), .val (.int p1), .val (.int p2), .val (.int p3), .val (.int v1), .val (.int v2), .val (.int v3), .val (.int (0 : Int32)), .val (.int v5), .val (.ref b6), .val (.int (3 : Int32)), .val (.int (3 : Int32)), .val (.int v23), .val (.int v24), .unset, .unset]) (fun _ => rfl) at_332 rfl (q := 334) (fun v24 hv24 => ?_)
                            have hb1 : v24.toInt = 128 + v3.toInt / 64 % 64 := (cbyte _ _ hv24).trans (by rw [sh6])
                            refine o_iload S rfl at_334 rfl (q := 336) ?_
                            refine o_callS0 S (W := 0) (argsL := [(.int v24)]) (rest := []) (o_wd (i := 13) hw rfl) (o_wd (i := 14) hw rfl) (o_wd (i := 8) hw rfl) (o_wd (i := 15) hw rfl) (by decide) (ct_3 l Z a0 hw v24 h21 n0 (o_n0 S)) (by decide) (by decide) rfl rfl pd_2 rfl (Nat.le_of_eq rfl) at_336 rfl (q := 339) (by decide) (by decide) rfl (st' := [(.int (f_cont v24))]) (fun T S => ?_)
                            refine o_if S at_339 (by decide) (q' := 344) (by decide) (q := 342) rfl hs_ne.1 hs_ne.2 (fun hc339 => ?_) (fun hc339 => ?_)
                            · skip
                              refine o_iload S rfl at_344 rfl (q := 346) ?_
                              refine o_iconst S (z := 2) rfl at_346 rfl (q := 347) ?_
                              refine o_icmp S at_347 (by decide) (q' := 387) (by decide) (q := 350) rfl hs_ne.1 hs_ne.2 (fun hc347 => ?_) (fun hc347 => ?_)
                              · skip
                                refine o_aload S rfl rfl at_387 rfl (q := 389) ?_
                                refine o_iload S rfl at_389 rfl (q := 391) ?_
                                refine o_iconst S (z := 2) rfl at_391 rfl (q := 392) ?_
                                refine o_iadd S at_392 rfl (q := 393) ?_
                                refine o_baload S A_b6 (by decide) (by show (2 : Int) < 6; decide) (v := (((128 : Int32) ||| (v3 &&& (63 : Int32))).toInt8.toInt32)) rfl at_393 rfl (q := 394) ?_
                                refine o_sipush S (z := 255) rfl at_394 rfl (q := 397) ?_
                                refine o_iand S at_397 rfl (q := 398) ?_
                                refine o_istoreV S (L' := fun v25 => #[.val (.int p0), .val (.int p1), .val (.int p2), .val (.int p3), .val (.int v1), .val (.int v2), .val (.int v3), .val (.int (0 : Int32)), .val (.int v5), .val (.ref b6), .val (.int (3 : Int32)), .val (.int (3 : Int32)), .val (.int v23), .val (.int v24), .val (.int v25), .unset]) (fun _ => rfl) at_398 rfl (q := 400) (fun v25 hv25 => ?_)
                                have hb2 : v25.toInt = 128 + v3.toInt % 64 := cbyte _ _ hv25
                                refine o_iload S rfl at_400 rfl (q := 402) ?_
                                refine o_callS0 S (W := 0) (argsL := [(.int v25)]) (rest := []) (o_wd (i := 13) hw rfl) (o_wd (i := 14) hw rfl) (o_wd (i := 8) hw rfl) (o_wd (i := 15) hw rfl) (by decide) (ct_3 l Z a0 hw v25 h21 n0 (o_n0 S)) (by decide) (by decide) rfl rfl pd_2 rfl (Nat.le_of_eq rfl) at_402 rfl (q := 405) (by decide) (by decide) rfl (st' := [(.int (f_cont v25))]) (fun T S => ?_)
                                refine o_if S at_405 (by decide) (q' := 410) (by decide) (q := 408) rfl hs_ne.1 hs_ne.2 (fun hc405 => ?_) (fun hc405 => ?_)
                                · skip
                                  refine o_iload S rfl at_410 rfl (q := 412) ?_
                                  refine o_iconst S (z := 3) rfl at_412 rfl (q := 413) ?_
                                  refine o_icmp S at_413 (by decide) (q' := 462) (by decide) (q := 416) rfl hs_ne.1 hs_ne.2 (fun hc413 => ?_) (fun hc413 => ?_)
                                  · exact absurd hc413 (by decide)
                                  · skip
                                    refine o_iload S rfl at_416 rfl (q := 418) ?_
                                    refine o_sipush S (z := 240) rfl at_418 rfl (q := 421) ?_
                                    refine o_iand S at_421 rfl (q := 422) ?_
                                    refine o_sipush S (z := 224) rfl at_422 rfl (q := 425) ?_
                                    refine o_icmp S at_425 (by decide) (q' := 460) (by decide) (q := 428) rfl hs_ne.1 hs_ne.2 (fun hc425 => ?_) (fun hc425 => ?_)
                                    · exact absurd (three_t _ _ hb0 (by omega) (by omega)) hc425
                                    · skip
                                      refine o_iload S rfl at_428 rfl (q := 430) ?_
                                      refine o_bipush S (z := 15) rfl at_430 rfl (q := 432) ?_
                                      refine o_iand S at_432 rfl (q := 433) ?_
                                      refine o_bipush S (z := 12) rfl at_433 rfl (q := 435) ?_
                                      refine o_ishl S at_435 rfl (q := 436) ?_
                                      refine o_iload S rfl at_436 rfl (q := 438) ?_
                                      refine o_bipush S (z := 63) rfl at_438 rfl (q := 440) ?_
                                      refine o_iand S at_440 rfl (q := 441) ?_
                                      refine o_bipush S (z := 6) rfl at_441 rfl (q := 443) ?_
                                      refine o_ishl S at_443 rfl (q := 444) ?_
                                      refine o_ior S at_444 rfl (q := 445) ?_
                                      refine o_iload S rfl at_445 rfl (q := 447) ?_
                                      refine o_bipush S (z := 63) rfl at_447 rfl (q := 449) ?_
                                      refine o_iand S at_449 rfl (q := 450) ?_
                                      refine o_ior S at_450 rfl (q := 451) ?_
                                      refine o_iload S rfl at_451 rfl (q := 453) ?_
                                      refine o_icmp S at_453 (by decide) (q' := 460) (by decide) (q := 456) rfl hs_ne.1 hs_ne.2 (fun hc453 => ?_) (fun hc453 => ?_)
                                      · exact absurd (three_e _ _ _ _ hcp.1 hcp.2 hb0 hb1 hb2) hc453
                                      · skip
                                        refine o_iconst S (z := 1) rfl at_456 rfl (q := 457) ?_
                                        refine o_goto S at_457 (by decide) (q := 461) (by decide) ?_
                                        refine o_retN S (t := .boolean) rfl (by simp) at_461 (by decide) (by decide) rfl ?_
                                        rfl
                                · exact absurd (Decidable.not_not.mp hc405) (cont_ok _ _ hb2 (by omega) (by omega))
                              · exact absurd hc347 (by decide)
                            · exact absurd (Decidable.not_not.mp hc339) (cont_ok _ _ hb1 (by omega) (by omega))
                          · exact absurd hc305 (by decide)
                        · exact absurd (Decidable.not_not.mp hc286) (by rw [f_kept, if_neg (by decide), if_neg (by decide), if_neg (fun q => q rfl)]; decide)
            · exact absurd hc194 (by decide)
        · exact absurd hc162 (by omega)
      · exact absurd hc148 (by omega)
    · skip
      refine o_iload S rfl at_132 rfl (q := 134) ?_
      refine o_aload S rfl rfl at_134 rfl (q := 136) ?_
      refine o_iload S rfl at_136 rfl (q := 138) ?_
      refine o_callS S (W := 0) (argsL := [(.int v3), (.ref b6), (.int (0 : Int32))]) (rest := []) (o_wd (i := 2) hw rfl) (o_wd (i := 3) hw rfl) (o_wd (i := 4) hw rfl) (o_wd (i := 5) hw rfl) (by decide) (ct_1 l Z a0 hw v3 b6 (0 : Int32) ([v5, v5, v5, v5, v5, v5]) h13 n0 (o_n0 S) A_b6 g_b6 (by decide) (by show (0 : Int) + 4 ≤ 6; decide)) (by decide) (by decide) rfl rfl pd_0 rfl (Nat.le_of_eq rfl) at_138 rfl (q := 141) (by decide) (by decide) (fun T h26 rr27 S hQ => ?_)
      obtain ⟨hv, K1, A_b6'⟩ := hQ
      subst hv
      have A_b6 := A_b6'
      show Wp p e below (Po s n0 room_1 Q0) T (mkF m 141 #[.val (.int p0), .val (.int p1), .val (.int p2), .val (.int p3), .val (.int v1), .val (.int v2), .val (.int v3), .val (.int (0 : Int32)), .val (.int v5), .val (.ref b6), .unset, .unset, .unset, .unset, .unset, .unset] [(.int (encN v3 (0 : Int32)))])
      have hend : encN v3 (0 : Int32) = (4 : Int32) := by rw [encN, if_pos (by omega), if_pos (by omega), if_pos (by omega)]; rfl
      rw [hend]
      have A_b6 : IA Z h26 b6 .byte [(((240 : Int32) ||| (v3 >>> ((18 : Int32) &&& 31))).toInt8.toInt32), (((128 : Int32) ||| ((v3 >>> ((12 : Int32) &&& 31)) &&& (63 : Int32))).toInt8.toInt32), (((128 : Int32) ||| ((v3 >>> ((6 : Int32) &&& 31)) &&& (63 : Int32))).toInt8.toInt32), (((128 : Int32) ||| (v3 &&& (63 : Int32))).toInt8.toInt32), v5, v5] := by have q := A_b6; rw [encL, if_pos (by omega), if_pos (by omega), if_pos (by omega)] at q; exact q
      refine o_istore S (L' := #[.val (.int p0), .val (.int p1), .val (.int p2), .val (.int p3), .val (.int v1), .val (.int v2), .val (.int v3), .val (.int (0 : Int32)), .val (.int v5), .val (.ref b6), .val (.int (4 : Int32)), .unset, .unset, .unset, .unset, .unset]) rfl at_141 rfl (q := 143) ?_
      refine o_iload S rfl at_143 rfl (q := 145) ?_
      refine o_sipush S (z := 128) rfl at_145 rfl (q := 148) ?_
      refine o_icmp S at_148 (by decide) (q' := 157) (by decide) (q := 151) rfl (hs_ge (a := v3.toInt) (b := 128) rfl rfl).1 (hs_ge (a := v3.toInt) (b := 128) rfl rfl).2 (fun hc148 => ?_) (fun hc148 => ?_)
      · skip
        refine o_iload S rfl at_157 rfl (q := 159) ?_
        refine o_sipush S (z := 2048) rfl at_159 rfl (q := 162) ?_
        refine o_icmp S at_162 (by decide) (q' := 171) (by decide) (q := 165) rfl (hs_ge (a := v3.toInt) (b := 2048) rfl rfl).1 (hs_ge (a := v3.toInt) (b := 2048) rfl rfl).2 (fun hc162 => ?_) (fun hc162 => ?_)
        · skip
          refine o_iload S rfl at_171 rfl (q := 173) ?_
          refine o_ldc S (o_wd (i := 10) hw rfl) at_173 rfl (q := 175) ?_
          refine o_icmp S at_175 (by decide) (q' := 184) (by decide) (q := 178) rfl (hs_ge (a := v3.toInt) (b := 65536) rfl rfl).1 (hs_ge (a := v3.toInt) (b := 65536) rfl rfl).2 (fun hc175 => ?_) (fun hc175 => ?_)
          · skip
            refine o_iconst S (z := 4) rfl at_184 rfl (q := 185) ?_
            refine o_istore S (L' := #[.val (.int p0), .val (.int p1), .val (.int p2), .val (.int p3), .val (.int v1), .val (.int v2), .val (.int v3), .val (.int (0 : Int32)), .val (.int v5), .val (.ref b6), .val (.int (4 : Int32)), .val (.int (4 : Int32)), .unset, .unset, .unset, .unset]) rfl at_185 rfl (q := 187) ?_
            refine o_iload S rfl at_187 rfl (q := 189) ?_
            refine o_iload S rfl at_189 rfl (q := 191) ?_
            refine o_iload S rfl at_191 rfl (q := 193) ?_
            refine o_iadd S at_193 rfl (q := 194) ?_
            refine o_icmp S at_194 (by decide) (q' := 199) (by decide) (q := 197) rfl hs_eq.1 hs_eq.2 (fun hc194 => ?_) (fun hc194 => ?_)
            · skip
              refine o_aload S rfl rfl at_199 rfl (q := 201) ?_
              refine o_iconst S (z := 0) rfl at_201 rfl (q := 202) ?_
              refine o_iload S rfl at_202 rfl (q := 204) ?_
              refine o_iload S rfl at_204 rfl (q := 206) ?_
              refine o_iload S rfl at_206 rfl (q := 208) ?_
              refine o_callS0 S (W := 0) (argsL := [(.ref b6), (.int (0 : Int32)), (.int (0 : Int32)), (.int (4 : Int32)), (.int v5)]) (rest := []) (o_wd (i := 6) hw rfl) (o_wd (i := 7) hw rfl) (o_wd (i := 8) hw rfl) (o_wd (i := 9) hw rfl) (by decide) (ct_2 l Z a0 hw b6 (0 : Int32) (0 : Int32) (4 : Int32) v5 ([(((240 : Int32) ||| (v3 >>> ((18 : Int32) &&& 31))).toInt8.toInt32), (((128 : Int32) ||| ((v3 >>> ((12 : Int32) &&& 31)) &&& (63 : Int32))).toInt8.toInt32), (((128 : Int32) ||| ((v3 >>> ((6 : Int32) &&& 31)) &&& (63 : Int32))).toInt8.toInt32), (((128 : Int32) ||| (v3 &&& (63 : Int32))).toInt8.toInt32), v5, v5]) h26 n0 (o_n0 S) A_b6 (by decide) (by show (0 : Int) < 6; decide)) (by decide) (by decide) rfl rfl pd_1 rfl (Nat.le_of_eq rfl) at_208 rfl (q := 211) (by decide) (by decide) rfl (st' := [(.int (f_kept (0 : Int32) (0 : Int32) (4 : Int32) v5 ([(((240 : Int32) ||| (v3 >>> ((18 : Int32) &&& 31))).toInt8.toInt32), (((128 : Int32) ||| ((v3 >>> ((12 : Int32) &&& 31)) &&& (63 : Int32))).toInt8.toInt32), (((128 : Int32) ||| ((v3 >>> ((6 : Int32) &&& 31)) &&& (63 : Int32))).toInt8.toInt32), (((128 : Int32) ||| (v3 &&& (63 : Int32))).toInt8.toInt32), v5, v5])))]) (fun T S => ?_)
              refine o_if S at_211 (by decide) (q' := 289) (by decide) (q := 214) rfl hs_eq.1 hs_eq.2 (fun hc211 => ?_) (fun hc211 => ?_)
              · exact absurd hc211 (by rw [f_kept, if_neg (by decide), if_pos (by decide)]; decide)
              · skip
                refine o_aload S rfl rfl at_214 rfl (q := 216) ?_
                refine o_iconst S (z := 1) rfl at_216 rfl (q := 217) ?_
                refine o_iload S rfl at_217 rfl (q := 219) ?_
                refine o_iload S rfl at_219 rfl (q := 221) ?_
                refine o_iload S rfl at_221 rfl (q := 223) ?_
                refine o_callS0 S (W := 0) (argsL := [(.ref b6), (.int (1 : Int32)), (.int (0 : Int32)), (.int (4 : Int32)), (.int v5)]) (rest := []) (o_wd (i := 6) hw rfl) (o_wd (i := 7) hw rfl) (o_wd (i := 8) hw rfl) (o_wd (i := 9) hw rfl) (by decide) (ct_2 l Z a0 hw b6 (1 : Int32) (0 : Int32) (4 : Int32) v5 ([(((240 : Int32) ||| (v3 >>> ((18 : Int32) &&& 31))).toInt8.toInt32), (((128 : Int32) ||| ((v3 >>> ((12 : Int32) &&& 31)) &&& (63 : Int32))).toInt8.toInt32), (((128 : Int32) ||| ((v3 >>> ((6 : Int32) &&& 31)) &&& (63 : Int32))).toInt8.toInt32), (((128 : Int32) ||| (v3 &&& (63 : Int32))).toInt8.toInt32), v5, v5]) h26 n0 (o_n0 S) A_b6 (by decide) (by show (1 : Int) < 6; decide)) (by decide) (by decide) rfl rfl pd_1 rfl (Nat.le_of_eq rfl) at_223 rfl (q := 226) (by decide) (by decide) rfl (st' := [(.int (f_kept (1 : Int32) (0 : Int32) (4 : Int32) v5 ([(((240 : Int32) ||| (v3 >>> ((18 : Int32) &&& 31))).toInt8.toInt32), (((128 : Int32) ||| ((v3 >>> ((12 : Int32) &&& 31)) &&& (63 : Int32))).toInt8.toInt32), (((128 : Int32) ||| ((v3 >>> ((6 : Int32) &&& 31)) &&& (63 : Int32))).toInt8.toInt32), (((128 : Int32) ||| (v3 &&& (63 : Int32))).toInt8.toInt32), v5, v5])))]) (fun T S => ?_)
                refine o_if S at_226 (by decide) (q' := 289) (by decide) (q := 229) rfl hs_eq.1 hs_eq.2 (fun hc226 => ?_) (fun hc226 => ?_)
                · exact absurd hc226 (by rw [f_kept, if_neg (by decide), if_pos (by decide)]; decide)
                · skip
                  refine o_aload S rfl rfl at_229 rfl (q := 231) ?_
                  refine o_iconst S (z := 2) rfl at_231 rfl (q := 232) ?_
                  refine o_iload S rfl at_232 rfl (q := 234) ?_
                  refine o_iload S rfl at_234 rfl (q := 236) ?_
                  refine o_iload S rfl at_236 rfl (q := 238) ?_
                  refine o_callS0 S (W := 0) (argsL := [(.ref b6), (.int (2 : Int32)), (.int (0 : Int32)), (.int (4 : Int32)), (.int v5)]) (rest := []) (o_wd (i := 6) hw rfl) (o_wd (i := 7) hw rfl) (o_wd (i := 8) hw rfl) (o_wd (i := 9) hw rfl) (by decide) (ct_2 l Z a0 hw b6 (2 : Int32) (0 : Int32) (4 : Int32) v5 ([(((240 : Int32) ||| (v3 >>> ((18 : Int32) &&& 31))).toInt8.toInt32), (((128 : Int32) ||| ((v3 >>> ((12 : Int32) &&& 31)) &&& (63 : Int32))).toInt8.toInt32), (((128 : Int32) ||| ((v3 >>> ((6 : Int32) &&& 31)) &&& (63 : Int32))).toInt8.toInt32), (((128 : Int32) ||| (v3 &&& (63 : Int32))).toInt8.toInt32), v5, v5]) h26 n0 (o_n0 S) A_b6 (by decide) (by show (2 : Int) < 6; decide)) (by decide) (by decide) rfl rfl pd_1 rfl (Nat.le_of_eq rfl) at_238 rfl (q := 241) (by decide) (by decide) rfl (st' := [(.int (f_kept (2 : Int32) (0 : Int32) (4 : Int32) v5 ([(((240 : Int32) ||| (v3 >>> ((18 : Int32) &&& 31))).toInt8.toInt32), (((128 : Int32) ||| ((v3 >>> ((12 : Int32) &&& 31)) &&& (63 : Int32))).toInt8.toInt32), (((128 : Int32) ||| ((v3 >>> ((6 : Int32) &&& 31)) &&& (63 : Int32))).toInt8.toInt32), (((128 : Int32) ||| (v3 &&& (63 : Int32))).toInt8.toInt32), v5, v5])))]) (fun T S => ?_)
                  refine o_if S at_241 (by decide) (q' := 289) (by decide) (q := 244) rfl hs_eq.1 hs_eq.2 (fun hc241 => ?_) (fun hc241 => ?_)
                  · exact absurd hc241 (by rw [f_kept, if_neg (by decide), if_pos (by decide)]; decide)
                  · skip
                    refine o_aload S rfl rfl at_244 rfl (q := 246) ?_
                    refine o_iconst S (z := 3) rfl at_246 rfl (q := 247) ?_
                    refine o_iload S rfl at_247 rfl (q := 249) ?_
                    refine o_iload S rfl at_249 rfl (q := 251) ?_
                    refine o_iload S rfl at_251 rfl (q := 253) ?_
                    refine o_callS0 S (W := 0) (argsL := [(.ref b6), (.int (3 : Int32)), (.int (0 : Int32)), (.int (4 : Int32)), (.int v5)]) (rest := []) (o_wd (i := 6) hw rfl) (o_wd (i := 7) hw rfl) (o_wd (i := 8) hw rfl) (o_wd (i := 9) hw rfl) (by decide) (ct_2 l Z a0 hw b6 (3 : Int32) (0 : Int32) (4 : Int32) v5 ([(((240 : Int32) ||| (v3 >>> ((18 : Int32) &&& 31))).toInt8.toInt32), (((128 : Int32) ||| ((v3 >>> ((12 : Int32) &&& 31)) &&& (63 : Int32))).toInt8.toInt32), (((128 : Int32) ||| ((v3 >>> ((6 : Int32) &&& 31)) &&& (63 : Int32))).toInt8.toInt32), (((128 : Int32) ||| (v3 &&& (63 : Int32))).toInt8.toInt32), v5, v5]) h26 n0 (o_n0 S) A_b6 (by decide) (by show (3 : Int) < 6; decide)) (by decide) (by decide) rfl rfl pd_1 rfl (Nat.le_of_eq rfl) at_253 rfl (q := 256) (by decide) (by decide) rfl (st' := [(.int (f_kept (3 : Int32) (0 : Int32) (4 : Int32) v5 ([(((240 : Int32) ||| (v3 >>> ((18 : Int32) &&& 31))).toInt8.toInt32), (((128 : Int32) ||| ((v3 >>> ((12 : Int32) &&& 31)) &&& (63 : Int32))).toInt8.toInt32), (((128 : Int32) ||| ((v3 >>> ((6 : Int32) &&& 31)) &&& (63 : Int32))).toInt8.toInt32), (((128 : Int32) ||| (v3 &&& (63 : Int32))).toInt8.toInt32), v5, v5])))]) (fun T S => ?_)
                    refine o_if S at_256 (by decide) (q' := 289) (by decide) (q := 259) rfl hs_eq.1 hs_eq.2 (fun hc256 => ?_) (fun hc256 => ?_)
                    · exact absurd hc256 (by rw [f_kept, if_neg (by decide), if_pos (by decide)]; decide)
                    · skip
                      refine o_aload S rfl rfl at_259 rfl (q := 261) ?_
                      refine o_iconst S (z := 4) rfl at_261 rfl (q := 262) ?_
                      refine o_iload S rfl at_262 rfl (q := 264) ?_
                      refine o_iload S rfl at_264 rfl (q := 266) ?_
                      refine o_iload S rfl at_266 rfl (q := 268) ?_
                      refine o_callS0 S (W := 0) (argsL := [(.ref b6), (.int (4 : Int32)), (.int (0 : Int32)), (.int (4 : Int32)), (.int v5)]) (rest := []) (o_wd (i := 6) hw rfl) (o_wd (i := 7) hw rfl) (o_wd (i := 8) hw rfl) (o_wd (i := 9) hw rfl) (by decide) (ct_2 l Z a0 hw b6 (4 : Int32) (0 : Int32) (4 : Int32) v5 ([(((240 : Int32) ||| (v3 >>> ((18 : Int32) &&& 31))).toInt8.toInt32), (((128 : Int32) ||| ((v3 >>> ((12 : Int32) &&& 31)) &&& (63 : Int32))).toInt8.toInt32), (((128 : Int32) ||| ((v3 >>> ((6 : Int32) &&& 31)) &&& (63 : Int32))).toInt8.toInt32), (((128 : Int32) ||| (v3 &&& (63 : Int32))).toInt8.toInt32), v5, v5]) h26 n0 (o_n0 S) A_b6 (by decide) (by show (4 : Int) < 6; decide)) (by decide) (by decide) rfl rfl pd_1 rfl (Nat.le_of_eq rfl) at_268 rfl (q := 271) (by decide) (by decide) rfl (st' := [(.int (f_kept (4 : Int32) (0 : Int32) (4 : Int32) v5 ([(((240 : Int32) ||| (v3 >>> ((18 : Int32) &&& 31))).toInt8.toInt32), (((128 : Int32) ||| ((v3 >>> ((12 : Int32) &&& 31)) &&& (63 : Int32))).toInt8.toInt32), (((128 : Int32) ||| ((v3 >>> ((6 : Int32) &&& 31)) &&& (63 : Int32))).toInt8.toInt32), (((128 : Int32) ||| (v3 &&& (63 : Int32))).toInt8.toInt32), v5, v5])))]) (fun T S => ?_)
                      refine o_if S at_271 (by decide) (q' := 289) (by decide) (q := 274) rfl hs_eq.1 hs_eq.2 (fun hc271 => ?_) (fun hc271 => ?_)
                      · exact absurd hc271 (by rw [f_kept, if_neg (by decide), if_neg (by decide), if_neg (fun q => q rfl)]; decide)
                      · skip
                        refine o_aload S rfl rfl at_274 rfl (q := 276) ?_
                        refine o_iconst S (z := 5) rfl at_276 rfl (q := 277) ?_
                        refine o_iload S rfl at_277 rfl (q := 279) ?_
                        refine o_iload S rfl at_279 rfl (q := 281) ?_
                        refine o_iload S rfl at_281 rfl (q := 283) ?_
                        refine o_callS0 S (W := 0) (argsL := [(.ref b6), (.int (5 : Int32)), (.int (0 : Int32)), (.int (4 : Int32)), (.int v5)]) (rest := []) (o_wd (i := 6) hw rfl) (o_wd (i := 7) hw rfl) (o_wd (i := 8) hw rfl) (o_wd (i := 9) hw rfl) (by decide) (ct_2 l Z a0 hw b6 (5 : Int32) (0 : Int32) (4 : Int32) v5 ([(((240 : Int32) ||| (v3 >>> ((18 : Int32) &&& 31))).toInt8.toInt32), (((128 : Int32) ||| ((v3 >>> ((12 : Int32) &&& 31)) &&& (63 : Int32))).toInt8.toInt32), (((128 : Int32) ||| ((v3 >>> ((6 : Int32) &&& 31)) &&& (63 : Int32))).toInt8.toInt32), (((128 : Int32) ||| (v3 &&& (63 : Int32))).toInt8.toInt32), v5, v5]) h26 n0 (o_n0 S) A_b6 (by decide) (by show (5 : Int) < 6; decide)) (by decide) (by decide) rfl rfl pd_1 rfl (Nat.le_of_eq rfl) at_283 rfl (q := 286) (by decide) (by decide) rfl (st' := [(.int (f_kept (5 : Int32) (0 : Int32) (4 : Int32) v5 ([(((240 : Int32) ||| (v3 >>> ((18 : Int32) &&& 31))).toInt8.toInt32), (((128 : Int32) ||| ((v3 >>> ((12 : Int32) &&& 31)) &&& (63 : Int32))).toInt8.toInt32), (((128 : Int32) ||| ((v3 >>> ((6 : Int32) &&& 31)) &&& (63 : Int32))).toInt8.toInt32), (((128 : Int32) ||| (v3 &&& (63 : Int32))).toInt8.toInt32), v5, v5])))]) (fun T S => ?_)
                        refine o_if S at_286 (by decide) (q' := 291) (by decide) (q := 289) rfl hs_ne.1 hs_ne.2 (fun hc286 => ?_) (fun hc286 => ?_)
                        · skip
                          refine o_aload S rfl rfl at_291 rfl (q := 293) ?_
                          refine o_iload S rfl at_293 rfl (q := 295) ?_
                          refine o_baload S A_b6 (by decide) (by show (0 : Int) < 6; decide) (v := (((240 : Int32) ||| (v3 >>> ((18 : Int32) &&& 31))).toInt8.toInt32)) rfl at_295 rfl (q := 296) ?_
                          refine o_sipush S (z := 255) rfl at_296 rfl (q := 299) ?_
                          refine o_iand S at_299 rfl (q := 300) ?_
                          refine o_istoreV S (L' := fun v28 => #[.val (.int p0), .val (.int p1), .val (.int p2), .val (.int p3), .val (.int v1), .val (.int v2), .val (.int v3), .val (.int (0 : Int32)), .val (.int v5), .val (.ref b6), .val (.int (4 : Int32)), .val (.int (4 : Int32)), .val (.int v28), .unset, .unset, .unset]) (fun _ => rfl) at_300 rfl (q := 302) (fun v28 hv28 => ?_)
                          have hb0 := four_h v3 v28 hv28 hcp.1 hcp.2
                          refine o_iload S rfl at_302 rfl (q := 304) ?_
                          refine o_iconst S (z := 1) rfl at_304 rfl (q := 305) ?_
                          refine o_icmp S at_305 (by decide) (q' := 321) (by decide) (q := 308) rfl hs_ne.1 hs_ne.2 (fun hc305 => ?_) (fun hc305 => ?_)
                          · skip
                            refine o_aload S rfl rfl at_321 rfl (q := 323) ?_
                            refine o_iload S rfl at_323 rfl (q := 325) ?_
                            refine o_iconst S (z := 1) rfl at_325 rfl (q := 326) ?_
                            refine o_iadd S at_326 rfl (q := 327) ?_
                            refine o_baload S A_b6 (by decide) (by show (1 : Int) < 6; decide) (v := (((128 : Int32) ||| ((v3 >>> ((12 : Int32) &&& 31)) &&& (63 : Int32))).toInt8.toInt32)) rfl at_327 rfl (q := 328) ?_
                            refine o_sipush S (z := 255) rfl at_328 rfl (q := 331) ?_
                            refine o_iand S at_331 rfl (q := 332) ?_
                            refine o_istoreV S (L' := fun v29 => #[.val (.int p0), .val (.int p1), .val (.int p2), .val (.int p3), .val (.int v1), .val (.int v2), .val (.int v3), .val (.int (0 : Int32)), .val (.int v5), .val (.ref b6), .val (.int (4 : Int32)), .val (.int (4 : Int32)), .val (.int v28), .val (.int v29), .unset, .unset]) (fun _ => rfl) at_332 rfl (q := 334) (fun v29 hv29 => ?_)
                            have hb1 : v29.toInt = 128 + v3.toInt / 4096 % 64 := (cbyte _ _ hv29).trans (by rw [sh12])
                            refine o_iload S rfl at_334 rfl (q := 336) ?_
                            refine o_callS0 S (W := 0) (argsL := [(.int v29)]) (rest := []) (o_wd (i := 13) hw rfl) (o_wd (i := 14) hw rfl) (o_wd (i := 8) hw rfl) (o_wd (i := 15) hw rfl) (by decide) (ct_3 l Z a0 hw v29 h26 n0 (o_n0 S)) (by decide) (by decide) rfl rfl pd_2 rfl (Nat.le_of_eq rfl) at_336 rfl (q := 339) (by decide) (by decide) rfl (st' := [(.int (f_cont v29))]) (fun T S => ?_)
                            refine o_if S at_339 (by decide) (q' := 344) (by decide) (q := 342) rfl hs_ne.1 hs_ne.2 (fun hc339 => ?_) (fun hc339 => ?_)
                            · skip
                              refine o_iload S rfl at_344 rfl (q := 346) ?_
                              refine o_iconst S (z := 2) rfl at_346 rfl (q := 347) ?_
                              refine o_icmp S at_347 (by decide) (q' := 387) (by decide) (q := 350) rfl hs_ne.1 hs_ne.2 (fun hc347 => ?_) (fun hc347 => ?_)
                              · skip
                                refine o_aload S rfl rfl at_387 rfl (q := 389) ?_
                                refine o_iload S rfl at_389 rfl (q := 391) ?_
                                refine o_iconst S (z := 2) rfl at_391 rfl (q := 392) ?_
                                refine o_iadd S at_392 rfl (q := 393) ?_
                                refine o_baload S A_b6 (by decide) (by show (2 : Int) < 6; decide) (v := (((128 : Int32) ||| ((v3 >>> ((6 : Int32) &&& 31)) &&& (63 : Int32))).toInt8.toInt32)) rfl at_393 rfl (q := 394) ?_
                                refine o_sipush S (z := 255) rfl at_394 rfl (q := 397) ?_
                                refine o_iand S at_397 rfl (q := 398) ?_
                                refine o_istoreV S (L' := fun v30 => #[.val (.int p0), .val (.int p1), .val (.int p2), .val (.int p3), .val (.int v1), .val (.int v2), .val (.int v3), .val (.int (0 : Int32)), .val (.int v5), .val (.ref b6), .val (.int (4 : Int32)), .val (.int (4 : Int32)), .val (.int v28), .val (.int v29), .val (.int v30), .unset]) (fun _ => rfl) at_398 rfl (q := 400) (fun v30 hv30 => ?_)
                                have hb2 : v30.toInt = 128 + v3.toInt / 64 % 64 := (cbyte _ _ hv30).trans (by rw [sh6])
                                refine o_iload S rfl at_400 rfl (q := 402) ?_
                                refine o_callS0 S (W := 0) (argsL := [(.int v30)]) (rest := []) (o_wd (i := 13) hw rfl) (o_wd (i := 14) hw rfl) (o_wd (i := 8) hw rfl) (o_wd (i := 15) hw rfl) (by decide) (ct_3 l Z a0 hw v30 h26 n0 (o_n0 S)) (by decide) (by decide) rfl rfl pd_2 rfl (Nat.le_of_eq rfl) at_402 rfl (q := 405) (by decide) (by decide) rfl (st' := [(.int (f_cont v30))]) (fun T S => ?_)
                                refine o_if S at_405 (by decide) (q' := 410) (by decide) (q := 408) rfl hs_ne.1 hs_ne.2 (fun hc405 => ?_) (fun hc405 => ?_)
                                · skip
                                  refine o_iload S rfl at_410 rfl (q := 412) ?_
                                  refine o_iconst S (z := 3) rfl at_412 rfl (q := 413) ?_
                                  refine o_icmp S at_413 (by decide) (q' := 462) (by decide) (q := 416) rfl hs_ne.1 hs_ne.2 (fun hc413 => ?_) (fun hc413 => ?_)
                                  · skip
                                    refine o_aload S rfl rfl at_462 rfl (q := 464) ?_
                                    refine o_iload S rfl at_464 rfl (q := 466) ?_
                                    refine o_iconst S (z := 3) rfl at_466 rfl (q := 467) ?_
                                    refine o_iadd S at_467 rfl (q := 468) ?_
                                    refine o_baload S A_b6 (by decide) (by show (3 : Int) < 6; decide) (v := (((128 : Int32) ||| (v3 &&& (63 : Int32))).toInt8.toInt32)) rfl at_468 rfl (q := 469) ?_
                                    refine o_sipush S (z := 255) rfl at_469 rfl (q := 472) ?_
                                    refine o_iand S at_472 rfl (q := 473) ?_
                                    refine o_istoreV S (L' := fun v31 => #[.val (.int p0), .val (.int p1), .val (.int p2), .val (.int p3), .val (.int v1), .val (.int v2), .val (.int v3), .val (.int (0 : Int32)), .val (.int v5), .val (.ref b6), .val (.int (4 : Int32)), .val (.int (4 : Int32)), .val (.int v28), .val (.int v29), .val (.int v30), .val (.int v31)]) (fun _ => rfl) at_473 rfl (q := 475) (fun v31 hv31 => ?_)
                                    have hb3 : v31.toInt = 128 + v3.toInt % 64 := cbyte _ _ hv31
                                    refine o_iload S rfl at_475 rfl (q := 477) ?_
                                    refine o_callS0 S (W := 0) (argsL := [(.int v31)]) (rest := []) (o_wd (i := 13) hw rfl) (o_wd (i := 14) hw rfl) (o_wd (i := 8) hw rfl) (o_wd (i := 15) hw rfl) (by decide) (ct_3 l Z a0 hw v31 h26 n0 (o_n0 S)) (by decide) (by decide) rfl rfl pd_2 rfl (Nat.le_of_eq rfl) at_477 rfl (q := 480) (by decide) (by decide) rfl (st' := [(.int (f_cont v31))]) (fun T S => ?_)
                                    refine o_if S at_480 (by decide) (q' := 485) (by decide) (q := 483) rfl hs_ne.1 hs_ne.2 (fun hc480 => ?_) (fun hc480 => ?_)
                                    · skip
                                      refine o_iload S rfl at_485 rfl (q := 487) ?_
                                      refine o_sipush S (z := 248) rfl at_487 rfl (q := 490) ?_
                                      refine o_iand S at_490 rfl (q := 491) ?_
                                      refine o_sipush S (z := 240) rfl at_491 rfl (q := 494) ?_
                                      refine o_icmp S at_494 (by decide) (q' := 538) (by decide) (q := 497) rfl hs_ne.1 hs_ne.2 (fun hc494 => ?_) (fun hc494 => ?_)
                                      · exact absurd (four_t _ _ hb0 (by omega) (by omega)) hc494
                                      · skip
                                        refine o_iload S rfl at_497 rfl (q := 499) ?_
                                        refine o_bipush S (z := 7) rfl at_499 rfl (q := 501) ?_
                                        refine o_iand S at_501 rfl (q := 502) ?_
                                        refine o_bipush S (z := 18) rfl at_502 rfl (q := 504) ?_
                                        refine o_ishl S at_504 rfl (q := 505) ?_
                                        refine o_iload S rfl at_505 rfl (q := 507) ?_
                                        refine o_bipush S (z := 63) rfl at_507 rfl (q := 509) ?_
                                        refine o_iand S at_509 rfl (q := 510) ?_
                                        refine o_bipush S (z := 12) rfl at_510 rfl (q := 512) ?_
                                        refine o_ishl S at_512 rfl (q := 513) ?_
                                        refine o_ior S at_513 rfl (q := 514) ?_
                                        refine o_iload S rfl at_514 rfl (q := 516) ?_
                                        refine o_bipush S (z := 63) rfl at_516 rfl (q := 518) ?_
                                        refine o_iand S at_518 rfl (q := 519) ?_
                                        refine o_bipush S (z := 6) rfl at_519 rfl (q := 521) ?_
                                        refine o_ishl S at_521 rfl (q := 522) ?_
                                        refine o_ior S at_522 rfl (q := 523) ?_
                                        refine o_iload S rfl at_523 rfl (q := 525) ?_
                                        refine o_bipush S (z := 63) rfl at_525 rfl (q := 527) ?_
                                        refine o_iand S at_527 rfl (q := 528) ?_
                                        refine o_ior S at_528 rfl (q := 529) ?_
                                        refine o_iload S rfl at_529 rfl (q := 531) ?_
                                        refine o_icmp S at_531 (by decide) (q' := 538) (by decide) (q := 534) rfl hs_ne.1 hs_ne.2 (fun hc531 => ?_) (fun hc531 => ?_)
                                        · exact absurd (four_e _ _ _ _ _ hcp.1 hcp.2 hb0 hb1 hb2 hb3) hc531
                                        · skip
                                          refine o_iconst S (z := 1) rfl at_534 rfl (q := 535) ?_
                                          refine o_goto S at_535 (by decide) (q := 539) (by decide) ?_
                                          refine o_retN S (t := .boolean) rfl (by simp) at_539 (by decide) (by decide) rfl ?_
                                          rfl
                                    · exact absurd (Decidable.not_not.mp hc480) (cont_ok _ _ hb3 (by omega) (by omega))
                                  · exact absurd hc413 (by decide)
                                · exact absurd (Decidable.not_not.mp hc405) (cont_ok _ _ hb2 (by omega) (by omega))
                              · exact absurd hc347 (by decide)
                            · exact absurd (Decidable.not_not.mp hc339) (cont_ok _ _ hb1 (by omega) (by omega))
                          · exact absurd hc305 (by decide)
                        · exact absurd (Decidable.not_not.mp hc286) (by rw [f_kept, if_neg (by decide), if_neg (by decide), if_neg (fun q => q rfl)]; decide)
            · exact absurd hc194 (by decide)
          · exact absurd hc175 (by omega)
        · exact absurd hc162 (by omega)
      · exact absurd hc148 (by omega)
  · subst ho
    rcases hcp with hcp | hcp | hcp | hcp
    · skip
      refine o_iload S rfl at_132 rfl (q := 134) ?_
      refine o_aload S rfl rfl at_134 rfl (q := 136) ?_
      refine o_iload S rfl at_136 rfl (q := 138) ?_
      refine o_callS S (W := 0) (argsL := [(.int v3), (.ref b6), (.int (1 : Int32))]) (rest := []) (o_wd (i := 2) hw rfl) (o_wd (i := 3) hw rfl) (o_wd (i := 4) hw rfl) (o_wd (i := 5) hw rfl) (by decide) (ct_1 l Z a0 hw v3 b6 (1 : Int32) ([v5, v5, v5, v5, v5, v5]) h13 n0 (o_n0 S) A_b6 g_b6 (by decide) (by show (1 : Int) + 4 ≤ 6; decide)) (by decide) (by decide) rfl rfl pd_0 rfl (Nat.le_of_eq rfl) at_138 rfl (q := 141) (by decide) (by decide) (fun T h32 rr33 S hQ => ?_)
      obtain ⟨hv, K1, A_b6'⟩ := hQ
      subst hv
      have A_b6 := A_b6'
      show Wp p e below (Po s n0 room_1 Q0) T (mkF m 141 #[.val (.int p0), .val (.int p1), .val (.int p2), .val (.int p3), .val (.int v1), .val (.int v2), .val (.int v3), .val (.int (1 : Int32)), .val (.int v5), .val (.ref b6), .unset, .unset, .unset, .unset, .unset, .unset] [(.int (encN v3 (1 : Int32)))])
      have hend : encN v3 (1 : Int32) = (2 : Int32) := by rw [encN, if_neg (by omega)]; rfl
      rw [hend]
      have A_b6 : IA Z h32 b6 .byte [v5, (v3.toInt8.toInt32), v5, v5, v5, v5] := by have q := A_b6; rw [encL, if_neg (by omega)] at q; exact q
      refine o_istore S (L' := #[.val (.int p0), .val (.int p1), .val (.int p2), .val (.int p3), .val (.int v1), .val (.int v2), .val (.int v3), .val (.int (1 : Int32)), .val (.int v5), .val (.ref b6), .val (.int (2 : Int32)), .unset, .unset, .unset, .unset, .unset]) rfl at_141 rfl (q := 143) ?_
      refine o_iload S rfl at_143 rfl (q := 145) ?_
      refine o_sipush S (z := 128) rfl at_145 rfl (q := 148) ?_
      refine o_icmp S at_148 (by decide) (q' := 157) (by decide) (q := 151) rfl (hs_ge (a := v3.toInt) (b := 128) rfl rfl).1 (hs_ge (a := v3.toInt) (b := 128) rfl rfl).2 (fun hc148 => ?_) (fun hc148 => ?_)
      · exact absurd hc148 (by omega)
      · skip
        refine o_iconst S (z := 1) rfl at_151 rfl (q := 152) ?_
        refine o_istore S (L' := #[.val (.int p0), .val (.int p1), .val (.int p2), .val (.int p3), .val (.int v1), .val (.int v2), .val (.int v3), .val (.int (1 : Int32)), .val (.int v5), .val (.ref b6), .val (.int (2 : Int32)), .val (.int (1 : Int32)), .unset, .unset, .unset, .unset]) rfl at_152 rfl (q := 154) ?_
        refine o_goto S at_154 (by decide) (q := 187) (by decide) ?_
        refine o_iload S rfl at_187 rfl (q := 189) ?_
        refine o_iload S rfl at_189 rfl (q := 191) ?_
        refine o_iload S rfl at_191 rfl (q := 193) ?_
        refine o_iadd S at_193 rfl (q := 194) ?_
        refine o_icmp S at_194 (by decide) (q' := 199) (by decide) (q := 197) rfl hs_eq.1 hs_eq.2 (fun hc194 => ?_) (fun hc194 => ?_)
        · skip
          refine o_aload S rfl rfl at_199 rfl (q := 201) ?_
          refine o_iconst S (z := 0) rfl at_201 rfl (q := 202) ?_
          refine o_iload S rfl at_202 rfl (q := 204) ?_
          refine o_iload S rfl at_204 rfl (q := 206) ?_
          refine o_iload S rfl at_206 rfl (q := 208) ?_
          refine o_callS0 S (W := 0) (argsL := [(.ref b6), (.int (0 : Int32)), (.int (1 : Int32)), (.int (2 : Int32)), (.int v5)]) (rest := []) (o_wd (i := 6) hw rfl) (o_wd (i := 7) hw rfl) (o_wd (i := 8) hw rfl) (o_wd (i := 9) hw rfl) (by decide) (ct_2 l Z a0 hw b6 (0 : Int32) (1 : Int32) (2 : Int32) v5 ([v5, (v3.toInt8.toInt32), v5, v5, v5, v5]) h32 n0 (o_n0 S) A_b6 (by decide) (by show (0 : Int) < 6; decide)) (by decide) (by decide) rfl rfl pd_1 rfl (Nat.le_of_eq rfl) at_208 rfl (q := 211) (by decide) (by decide) rfl (st' := [(.int (f_kept (0 : Int32) (1 : Int32) (2 : Int32) v5 ([v5, (v3.toInt8.toInt32), v5, v5, v5, v5])))]) (fun T S => ?_)
          refine o_if S at_211 (by decide) (q' := 289) (by decide) (q := 214) rfl hs_eq.1 hs_eq.2 (fun hc211 => ?_) (fun hc211 => ?_)
          · exact absurd hc211 (by rw [f_kept, if_pos (by decide), if_neg (fun q => q rfl)]; decide)
          · skip
            refine o_aload S rfl rfl at_214 rfl (q := 216) ?_
            refine o_iconst S (z := 1) rfl at_216 rfl (q := 217) ?_
            refine o_iload S rfl at_217 rfl (q := 219) ?_
            refine o_iload S rfl at_219 rfl (q := 221) ?_
            refine o_iload S rfl at_221 rfl (q := 223) ?_
            refine o_callS0 S (W := 0) (argsL := [(.ref b6), (.int (1 : Int32)), (.int (1 : Int32)), (.int (2 : Int32)), (.int v5)]) (rest := []) (o_wd (i := 6) hw rfl) (o_wd (i := 7) hw rfl) (o_wd (i := 8) hw rfl) (o_wd (i := 9) hw rfl) (by decide) (ct_2 l Z a0 hw b6 (1 : Int32) (1 : Int32) (2 : Int32) v5 ([v5, (v3.toInt8.toInt32), v5, v5, v5, v5]) h32 n0 (o_n0 S) A_b6 (by decide) (by show (1 : Int) < 6; decide)) (by decide) (by decide) rfl rfl pd_1 rfl (Nat.le_of_eq rfl) at_223 rfl (q := 226) (by decide) (by decide) rfl (st' := [(.int (f_kept (1 : Int32) (1 : Int32) (2 : Int32) v5 ([v5, (v3.toInt8.toInt32), v5, v5, v5, v5])))]) (fun T S => ?_)
            refine o_if S at_226 (by decide) (q' := 289) (by decide) (q := 229) rfl hs_eq.1 hs_eq.2 (fun hc226 => ?_) (fun hc226 => ?_)
            · exact absurd hc226 (by rw [f_kept, if_neg (by decide), if_pos (by decide)]; decide)
            · skip
              refine o_aload S rfl rfl at_229 rfl (q := 231) ?_
              refine o_iconst S (z := 2) rfl at_231 rfl (q := 232) ?_
              refine o_iload S rfl at_232 rfl (q := 234) ?_
              refine o_iload S rfl at_234 rfl (q := 236) ?_
              refine o_iload S rfl at_236 rfl (q := 238) ?_
              refine o_callS0 S (W := 0) (argsL := [(.ref b6), (.int (2 : Int32)), (.int (1 : Int32)), (.int (2 : Int32)), (.int v5)]) (rest := []) (o_wd (i := 6) hw rfl) (o_wd (i := 7) hw rfl) (o_wd (i := 8) hw rfl) (o_wd (i := 9) hw rfl) (by decide) (ct_2 l Z a0 hw b6 (2 : Int32) (1 : Int32) (2 : Int32) v5 ([v5, (v3.toInt8.toInt32), v5, v5, v5, v5]) h32 n0 (o_n0 S) A_b6 (by decide) (by show (2 : Int) < 6; decide)) (by decide) (by decide) rfl rfl pd_1 rfl (Nat.le_of_eq rfl) at_238 rfl (q := 241) (by decide) (by decide) rfl (st' := [(.int (f_kept (2 : Int32) (1 : Int32) (2 : Int32) v5 ([v5, (v3.toInt8.toInt32), v5, v5, v5, v5])))]) (fun T S => ?_)
              refine o_if S at_241 (by decide) (q' := 289) (by decide) (q := 244) rfl hs_eq.1 hs_eq.2 (fun hc241 => ?_) (fun hc241 => ?_)
              · exact absurd hc241 (by rw [f_kept, if_neg (by decide), if_neg (by decide), if_neg (fun q => q rfl)]; decide)
              · skip
                refine o_aload S rfl rfl at_244 rfl (q := 246) ?_
                refine o_iconst S (z := 3) rfl at_246 rfl (q := 247) ?_
                refine o_iload S rfl at_247 rfl (q := 249) ?_
                refine o_iload S rfl at_249 rfl (q := 251) ?_
                refine o_iload S rfl at_251 rfl (q := 253) ?_
                refine o_callS0 S (W := 0) (argsL := [(.ref b6), (.int (3 : Int32)), (.int (1 : Int32)), (.int (2 : Int32)), (.int v5)]) (rest := []) (o_wd (i := 6) hw rfl) (o_wd (i := 7) hw rfl) (o_wd (i := 8) hw rfl) (o_wd (i := 9) hw rfl) (by decide) (ct_2 l Z a0 hw b6 (3 : Int32) (1 : Int32) (2 : Int32) v5 ([v5, (v3.toInt8.toInt32), v5, v5, v5, v5]) h32 n0 (o_n0 S) A_b6 (by decide) (by show (3 : Int) < 6; decide)) (by decide) (by decide) rfl rfl pd_1 rfl (Nat.le_of_eq rfl) at_253 rfl (q := 256) (by decide) (by decide) rfl (st' := [(.int (f_kept (3 : Int32) (1 : Int32) (2 : Int32) v5 ([v5, (v3.toInt8.toInt32), v5, v5, v5, v5])))]) (fun T S => ?_)
                refine o_if S at_256 (by decide) (q' := 289) (by decide) (q := 259) rfl hs_eq.1 hs_eq.2 (fun hc256 => ?_) (fun hc256 => ?_)
                · exact absurd hc256 (by rw [f_kept, if_neg (by decide), if_neg (by decide), if_neg (fun q => q rfl)]; decide)
                · skip
                  refine o_aload S rfl rfl at_259 rfl (q := 261) ?_
                  refine o_iconst S (z := 4) rfl at_261 rfl (q := 262) ?_
                  refine o_iload S rfl at_262 rfl (q := 264) ?_
                  refine o_iload S rfl at_264 rfl (q := 266) ?_
                  refine o_iload S rfl at_266 rfl (q := 268) ?_
                  refine o_callS0 S (W := 0) (argsL := [(.ref b6), (.int (4 : Int32)), (.int (1 : Int32)), (.int (2 : Int32)), (.int v5)]) (rest := []) (o_wd (i := 6) hw rfl) (o_wd (i := 7) hw rfl) (o_wd (i := 8) hw rfl) (o_wd (i := 9) hw rfl) (by decide) (ct_2 l Z a0 hw b6 (4 : Int32) (1 : Int32) (2 : Int32) v5 ([v5, (v3.toInt8.toInt32), v5, v5, v5, v5]) h32 n0 (o_n0 S) A_b6 (by decide) (by show (4 : Int) < 6; decide)) (by decide) (by decide) rfl rfl pd_1 rfl (Nat.le_of_eq rfl) at_268 rfl (q := 271) (by decide) (by decide) rfl (st' := [(.int (f_kept (4 : Int32) (1 : Int32) (2 : Int32) v5 ([v5, (v3.toInt8.toInt32), v5, v5, v5, v5])))]) (fun T S => ?_)
                  refine o_if S at_271 (by decide) (q' := 289) (by decide) (q := 274) rfl hs_eq.1 hs_eq.2 (fun hc271 => ?_) (fun hc271 => ?_)
                  · exact absurd hc271 (by rw [f_kept, if_neg (by decide), if_neg (by decide), if_neg (fun q => q rfl)]; decide)
                  · skip
                    refine o_aload S rfl rfl at_274 rfl (q := 276) ?_
                    refine o_iconst S (z := 5) rfl at_276 rfl (q := 277) ?_
                    refine o_iload S rfl at_277 rfl (q := 279) ?_
                    refine o_iload S rfl at_279 rfl (q := 281) ?_
                    refine o_iload S rfl at_281 rfl (q := 283) ?_
                    refine o_callS0 S (W := 0) (argsL := [(.ref b6), (.int (5 : Int32)), (.int (1 : Int32)), (.int (2 : Int32)), (.int v5)]) (rest := []) (o_wd (i := 6) hw rfl) (o_wd (i := 7) hw rfl) (o_wd (i := 8) hw rfl) (o_wd (i := 9) hw rfl) (by decide) (ct_2 l Z a0 hw b6 (5 : Int32) (1 : Int32) (2 : Int32) v5 ([v5, (v3.toInt8.toInt32), v5, v5, v5, v5]) h32 n0 (o_n0 S) A_b6 (by decide) (by show (5 : Int) < 6; decide)) (by decide) (by decide) rfl rfl pd_1 rfl (Nat.le_of_eq rfl) at_283 rfl (q := 286) (by decide) (by decide) rfl (st' := [(.int (f_kept (5 : Int32) (1 : Int32) (2 : Int32) v5 ([v5, (v3.toInt8.toInt32), v5, v5, v5, v5])))]) (fun T S => ?_)
                    refine o_if S at_286 (by decide) (q' := 291) (by decide) (q := 289) rfl hs_ne.1 hs_ne.2 (fun hc286 => ?_) (fun hc286 => ?_)
                    · skip
                      refine o_aload S rfl rfl at_291 rfl (q := 293) ?_
                      refine o_iload S rfl at_293 rfl (q := 295) ?_
                      refine o_baload S A_b6 (by decide) (by show (1 : Int) < 6; decide) (v := (v3.toInt8.toInt32)) rfl at_295 rfl (q := 296) ?_
                      refine o_sipush S (z := 255) rfl at_296 rfl (q := 299) ?_
                      refine o_iand S at_299 rfl (q := 300) ?_
                      refine o_istoreV S (L' := fun v34 => #[.val (.int p0), .val (.int p1), .val (.int p2), .val (.int p3), .val (.int v1), .val (.int v2), .val (.int v3), .val (.int (1 : Int32)), .val (.int v5), .val (.ref b6), .val (.int (2 : Int32)), .val (.int (1 : Int32)), .val (.int v34), .unset, .unset, .unset]) (fun _ => rfl) at_300 rfl (q := 302) (fun v34 hv34 => ?_)
                      refine o_iload S rfl at_302 rfl (q := 304) ?_
                      refine o_iconst S (z := 1) rfl at_304 rfl (q := 305) ?_
                      refine o_icmp S at_305 (by decide) (q' := 321) (by decide) (q := 308) rfl hs_ne.1 hs_ne.2 (fun hc305 => ?_) (fun hc305 => ?_)
                      · exact absurd hc305 (by decide)
                      · skip
                        refine o_iload S rfl at_308 rfl (q := 310) ?_
                        refine o_iload S rfl at_310 rfl (q := 312) ?_
                        refine o_icmp S at_312 (by decide) (q' := 319) (by decide) (q := 315) rfl hs_ne.1 hs_ne.2 (fun hc312 => ?_) (fun hc312 => ?_)
                        · exact absurd (one_ok _ _ hv34 hc0 hcp) hc312
                        · skip
                          refine o_iconst S (z := 1) rfl at_315 rfl (q := 316) ?_
                          refine o_goto S at_316 (by decide) (q := 320) (by decide) ?_
                          refine o_retN S (t := .boolean) rfl (by simp) at_320 (by decide) (by decide) rfl ?_
                          rfl
                    · exact absurd (Decidable.not_not.mp hc286) (by rw [f_kept, if_neg (by decide), if_neg (by decide), if_neg (fun q => q rfl)]; decide)
        · exact absurd hc194 (by decide)
    · skip
      refine o_iload S rfl at_132 rfl (q := 134) ?_
      refine o_aload S rfl rfl at_134 rfl (q := 136) ?_
      refine o_iload S rfl at_136 rfl (q := 138) ?_
      refine o_callS S (W := 0) (argsL := [(.int v3), (.ref b6), (.int (1 : Int32))]) (rest := []) (o_wd (i := 2) hw rfl) (o_wd (i := 3) hw rfl) (o_wd (i := 4) hw rfl) (o_wd (i := 5) hw rfl) (by decide) (ct_1 l Z a0 hw v3 b6 (1 : Int32) ([v5, v5, v5, v5, v5, v5]) h13 n0 (o_n0 S) A_b6 g_b6 (by decide) (by show (1 : Int) + 4 ≤ 6; decide)) (by decide) (by decide) rfl rfl pd_0 rfl (Nat.le_of_eq rfl) at_138 rfl (q := 141) (by decide) (by decide) (fun T h35 rr36 S hQ => ?_)
      obtain ⟨hv, K1, A_b6'⟩ := hQ
      subst hv
      have A_b6 := A_b6'
      show Wp p e below (Po s n0 room_1 Q0) T (mkF m 141 #[.val (.int p0), .val (.int p1), .val (.int p2), .val (.int p3), .val (.int v1), .val (.int v2), .val (.int v3), .val (.int (1 : Int32)), .val (.int v5), .val (.ref b6), .unset, .unset, .unset, .unset, .unset, .unset] [(.int (encN v3 (1 : Int32)))])
      have hend : encN v3 (1 : Int32) = (3 : Int32) := by rw [encN, if_pos (by omega), if_neg (by omega)]; rfl
      rw [hend]
      have A_b6 : IA Z h35 b6 .byte [v5, (((192 : Int32) ||| (v3 >>> ((6 : Int32) &&& 31))).toInt8.toInt32), (((128 : Int32) ||| (v3 &&& (63 : Int32))).toInt8.toInt32), v5, v5, v5] := by have q := A_b6; rw [encL, if_pos (by omega), if_neg (by omega)] at q; exact q
      refine o_istore S (L' := #[.val (.int p0), .val (.int p1), .val (.int p2), .val (.int p3), .val (.int v1), .val (.int v2), .val (.int v3), .val (.int (1 : Int32)), .val (.int v5), .val (.ref b6), .val (.int (3 : Int32)), .unset, .unset, .unset, .unset, .unset]) rfl at_141 rfl (q := 143) ?_
      refine o_iload S rfl at_143 rfl (q := 145) ?_
      refine o_sipush S (z := 128) rfl at_145 rfl (q := 148) ?_
      refine o_icmp S at_148 (by decide) (q' := 157) (by decide) (q := 151) rfl (hs_ge (a := v3.toInt) (b := 128) rfl rfl).1 (hs_ge (a := v3.toInt) (b := 128) rfl rfl).2 (fun hc148 => ?_) (fun hc148 => ?_)
      · skip
        refine o_iload S rfl at_157 rfl (q := 159) ?_
        refine o_sipush S (z := 2048) rfl at_159 rfl (q := 162) ?_
        refine o_icmp S at_162 (by decide) (q' := 171) (by decide) (q := 165) rfl (hs_ge (a := v3.toInt) (b := 2048) rfl rfl).1 (hs_ge (a := v3.toInt) (b := 2048) rfl rfl).2 (fun hc162 => ?_) (fun hc162 => ?_)
        · exact absurd hc162 (by omega)
        · skip
          refine o_iconst S (z := 2) rfl at_165 rfl (q := 166) ?_
          refine o_istore S (L' := #[.val (.int p0), .val (.int p1), .val (.int p2), .val (.int p3), .val (.int v1), .val (.int v2), .val (.int v3), .val (.int (1 : Int32)), .val (.int v5), .val (.ref b6), .val (.int (3 : Int32)), .val (.int (2 : Int32)), .unset, .unset, .unset, .unset]) rfl at_166 rfl (q := 168) ?_
          refine o_goto S at_168 (by decide) (q := 187) (by decide) ?_
          refine o_iload S rfl at_187 rfl (q := 189) ?_
          refine o_iload S rfl at_189 rfl (q := 191) ?_
          refine o_iload S rfl at_191 rfl (q := 193) ?_
          refine o_iadd S at_193 rfl (q := 194) ?_
          refine o_icmp S at_194 (by decide) (q' := 199) (by decide) (q := 197) rfl hs_eq.1 hs_eq.2 (fun hc194 => ?_) (fun hc194 => ?_)
          · skip
            refine o_aload S rfl rfl at_199 rfl (q := 201) ?_
            refine o_iconst S (z := 0) rfl at_201 rfl (q := 202) ?_
            refine o_iload S rfl at_202 rfl (q := 204) ?_
            refine o_iload S rfl at_204 rfl (q := 206) ?_
            refine o_iload S rfl at_206 rfl (q := 208) ?_
            refine o_callS0 S (W := 0) (argsL := [(.ref b6), (.int (0 : Int32)), (.int (1 : Int32)), (.int (3 : Int32)), (.int v5)]) (rest := []) (o_wd (i := 6) hw rfl) (o_wd (i := 7) hw rfl) (o_wd (i := 8) hw rfl) (o_wd (i := 9) hw rfl) (by decide) (ct_2 l Z a0 hw b6 (0 : Int32) (1 : Int32) (3 : Int32) v5 ([v5, (((192 : Int32) ||| (v3 >>> ((6 : Int32) &&& 31))).toInt8.toInt32), (((128 : Int32) ||| (v3 &&& (63 : Int32))).toInt8.toInt32), v5, v5, v5]) h35 n0 (o_n0 S) A_b6 (by decide) (by show (0 : Int) < 6; decide)) (by decide) (by decide) rfl rfl pd_1 rfl (Nat.le_of_eq rfl) at_208 rfl (q := 211) (by decide) (by decide) rfl (st' := [(.int (f_kept (0 : Int32) (1 : Int32) (3 : Int32) v5 ([v5, (((192 : Int32) ||| (v3 >>> ((6 : Int32) &&& 31))).toInt8.toInt32), (((128 : Int32) ||| (v3 &&& (63 : Int32))).toInt8.toInt32), v5, v5, v5])))]) (fun T S => ?_)
            refine o_if S at_211 (by decide) (q' := 289) (by decide) (q := 214) rfl hs_eq.1 hs_eq.2 (fun hc211 => ?_) (fun hc211 => ?_)
            · exact absurd hc211 (by rw [f_kept, if_pos (by decide), if_neg (fun q => q rfl)]; decide)
            · skip
              refine o_aload S rfl rfl at_214 rfl (q := 216) ?_
              refine o_iconst S (z := 1) rfl at_216 rfl (q := 217) ?_
              refine o_iload S rfl at_217 rfl (q := 219) ?_
              refine o_iload S rfl at_219 rfl (q := 221) ?_
              refine o_iload S rfl at_221 rfl (q := 223) ?_
              refine o_callS0 S (W := 0) (argsL := [(.ref b6), (.int (1 : Int32)), (.int (1 : Int32)), (.int (3 : Int32)), (.int v5)]) (rest := []) (o_wd (i := 6) hw rfl) (o_wd (i := 7) hw rfl) (o_wd (i := 8) hw rfl) (o_wd (i := 9) hw rfl) (by decide) (ct_2 l Z a0 hw b6 (1 : Int32) (1 : Int32) (3 : Int32) v5 ([v5, (((192 : Int32) ||| (v3 >>> ((6 : Int32) &&& 31))).toInt8.toInt32), (((128 : Int32) ||| (v3 &&& (63 : Int32))).toInt8.toInt32), v5, v5, v5]) h35 n0 (o_n0 S) A_b6 (by decide) (by show (1 : Int) < 6; decide)) (by decide) (by decide) rfl rfl pd_1 rfl (Nat.le_of_eq rfl) at_223 rfl (q := 226) (by decide) (by decide) rfl (st' := [(.int (f_kept (1 : Int32) (1 : Int32) (3 : Int32) v5 ([v5, (((192 : Int32) ||| (v3 >>> ((6 : Int32) &&& 31))).toInt8.toInt32), (((128 : Int32) ||| (v3 &&& (63 : Int32))).toInt8.toInt32), v5, v5, v5])))]) (fun T S => ?_)
              refine o_if S at_226 (by decide) (q' := 289) (by decide) (q := 229) rfl hs_eq.1 hs_eq.2 (fun hc226 => ?_) (fun hc226 => ?_)
              · exact absurd hc226 (by rw [f_kept, if_neg (by decide), if_pos (by decide)]; decide)
              · skip
                refine o_aload S rfl rfl at_229 rfl (q := 231) ?_
                refine o_iconst S (z := 2) rfl at_231 rfl (q := 232) ?_
                refine o_iload S rfl at_232 rfl (q := 234) ?_
                refine o_iload S rfl at_234 rfl (q := 236) ?_
                refine o_iload S rfl at_236 rfl (q := 238) ?_
                refine o_callS0 S (W := 0) (argsL := [(.ref b6), (.int (2 : Int32)), (.int (1 : Int32)), (.int (3 : Int32)), (.int v5)]) (rest := []) (o_wd (i := 6) hw rfl) (o_wd (i := 7) hw rfl) (o_wd (i := 8) hw rfl) (o_wd (i := 9) hw rfl) (by decide) (ct_2 l Z a0 hw b6 (2 : Int32) (1 : Int32) (3 : Int32) v5 ([v5, (((192 : Int32) ||| (v3 >>> ((6 : Int32) &&& 31))).toInt8.toInt32), (((128 : Int32) ||| (v3 &&& (63 : Int32))).toInt8.toInt32), v5, v5, v5]) h35 n0 (o_n0 S) A_b6 (by decide) (by show (2 : Int) < 6; decide)) (by decide) (by decide) rfl rfl pd_1 rfl (Nat.le_of_eq rfl) at_238 rfl (q := 241) (by decide) (by decide) rfl (st' := [(.int (f_kept (2 : Int32) (1 : Int32) (3 : Int32) v5 ([v5, (((192 : Int32) ||| (v3 >>> ((6 : Int32) &&& 31))).toInt8.toInt32), (((128 : Int32) ||| (v3 &&& (63 : Int32))).toInt8.toInt32), v5, v5, v5])))]) (fun T S => ?_)
                refine o_if S at_241 (by decide) (q' := 289) (by decide) (q := 244) rfl hs_eq.1 hs_eq.2 (fun hc241 => ?_) (fun hc241 => ?_)
                · exact absurd hc241 (by rw [f_kept, if_neg (by decide), if_pos (by decide)]; decide)
                · skip
                  refine o_aload S rfl rfl at_244 rfl (q := 246) ?_
                  refine o_iconst S (z := 3) rfl at_246 rfl (q := 247) ?_
                  refine o_iload S rfl at_247 rfl (q := 249) ?_
                  refine o_iload S rfl at_249 rfl (q := 251) ?_
                  refine o_iload S rfl at_251 rfl (q := 253) ?_
                  refine o_callS0 S (W := 0) (argsL := [(.ref b6), (.int (3 : Int32)), (.int (1 : Int32)), (.int (3 : Int32)), (.int v5)]) (rest := []) (o_wd (i := 6) hw rfl) (o_wd (i := 7) hw rfl) (o_wd (i := 8) hw rfl) (o_wd (i := 9) hw rfl) (by decide) (ct_2 l Z a0 hw b6 (3 : Int32) (1 : Int32) (3 : Int32) v5 ([v5, (((192 : Int32) ||| (v3 >>> ((6 : Int32) &&& 31))).toInt8.toInt32), (((128 : Int32) ||| (v3 &&& (63 : Int32))).toInt8.toInt32), v5, v5, v5]) h35 n0 (o_n0 S) A_b6 (by decide) (by show (3 : Int) < 6; decide)) (by decide) (by decide) rfl rfl pd_1 rfl (Nat.le_of_eq rfl) at_253 rfl (q := 256) (by decide) (by decide) rfl (st' := [(.int (f_kept (3 : Int32) (1 : Int32) (3 : Int32) v5 ([v5, (((192 : Int32) ||| (v3 >>> ((6 : Int32) &&& 31))).toInt8.toInt32), (((128 : Int32) ||| (v3 &&& (63 : Int32))).toInt8.toInt32), v5, v5, v5])))]) (fun T S => ?_)
                  refine o_if S at_256 (by decide) (q' := 289) (by decide) (q := 259) rfl hs_eq.1 hs_eq.2 (fun hc256 => ?_) (fun hc256 => ?_)
                  · exact absurd hc256 (by rw [f_kept, if_neg (by decide), if_neg (by decide), if_neg (fun q => q rfl)]; decide)
                  · skip
                    refine o_aload S rfl rfl at_259 rfl (q := 261) ?_
                    refine o_iconst S (z := 4) rfl at_261 rfl (q := 262) ?_
                    refine o_iload S rfl at_262 rfl (q := 264) ?_
                    refine o_iload S rfl at_264 rfl (q := 266) ?_
                    refine o_iload S rfl at_266 rfl (q := 268) ?_
                    refine o_callS0 S (W := 0) (argsL := [(.ref b6), (.int (4 : Int32)), (.int (1 : Int32)), (.int (3 : Int32)), (.int v5)]) (rest := []) (o_wd (i := 6) hw rfl) (o_wd (i := 7) hw rfl) (o_wd (i := 8) hw rfl) (o_wd (i := 9) hw rfl) (by decide) (ct_2 l Z a0 hw b6 (4 : Int32) (1 : Int32) (3 : Int32) v5 ([v5, (((192 : Int32) ||| (v3 >>> ((6 : Int32) &&& 31))).toInt8.toInt32), (((128 : Int32) ||| (v3 &&& (63 : Int32))).toInt8.toInt32), v5, v5, v5]) h35 n0 (o_n0 S) A_b6 (by decide) (by show (4 : Int) < 6; decide)) (by decide) (by decide) rfl rfl pd_1 rfl (Nat.le_of_eq rfl) at_268 rfl (q := 271) (by decide) (by decide) rfl (st' := [(.int (f_kept (4 : Int32) (1 : Int32) (3 : Int32) v5 ([v5, (((192 : Int32) ||| (v3 >>> ((6 : Int32) &&& 31))).toInt8.toInt32), (((128 : Int32) ||| (v3 &&& (63 : Int32))).toInt8.toInt32), v5, v5, v5])))]) (fun T S => ?_)
                    refine o_if S at_271 (by decide) (q' := 289) (by decide) (q := 274) rfl hs_eq.1 hs_eq.2 (fun hc271 => ?_) (fun hc271 => ?_)
                    · exact absurd hc271 (by rw [f_kept, if_neg (by decide), if_neg (by decide), if_neg (fun q => q rfl)]; decide)
                    · skip
                      refine o_aload S rfl rfl at_274 rfl (q := 276) ?_
                      refine o_iconst S (z := 5) rfl at_276 rfl (q := 277) ?_
                      refine o_iload S rfl at_277 rfl (q := 279) ?_
                      refine o_iload S rfl at_279 rfl (q := 281) ?_
                      refine o_iload S rfl at_281 rfl (q := 283) ?_
                      refine o_callS0 S (W := 0) (argsL := [(.ref b6), (.int (5 : Int32)), (.int (1 : Int32)), (.int (3 : Int32)), (.int v5)]) (rest := []) (o_wd (i := 6) hw rfl) (o_wd (i := 7) hw rfl) (o_wd (i := 8) hw rfl) (o_wd (i := 9) hw rfl) (by decide) (ct_2 l Z a0 hw b6 (5 : Int32) (1 : Int32) (3 : Int32) v5 ([v5, (((192 : Int32) ||| (v3 >>> ((6 : Int32) &&& 31))).toInt8.toInt32), (((128 : Int32) ||| (v3 &&& (63 : Int32))).toInt8.toInt32), v5, v5, v5]) h35 n0 (o_n0 S) A_b6 (by decide) (by show (5 : Int) < 6; decide)) (by decide) (by decide) rfl rfl pd_1 rfl (Nat.le_of_eq rfl) at_283 rfl (q := 286) (by decide) (by decide) rfl (st' := [(.int (f_kept (5 : Int32) (1 : Int32) (3 : Int32) v5 ([v5, (((192 : Int32) ||| (v3 >>> ((6 : Int32) &&& 31))).toInt8.toInt32), (((128 : Int32) ||| (v3 &&& (63 : Int32))).toInt8.toInt32), v5, v5, v5])))]) (fun T S => ?_)
                      refine o_if S at_286 (by decide) (q' := 291) (by decide) (q := 289) rfl hs_ne.1 hs_ne.2 (fun hc286 => ?_) (fun hc286 => ?_)
                      · skip
                        refine o_aload S rfl rfl at_291 rfl (q := 293) ?_
                        refine o_iload S rfl at_293 rfl (q := 295) ?_
                        refine o_baload S A_b6 (by decide) (by show (1 : Int) < 6; decide) (v := (((192 : Int32) ||| (v3 >>> ((6 : Int32) &&& 31))).toInt8.toInt32)) rfl at_295 rfl (q := 296) ?_
                        refine o_sipush S (z := 255) rfl at_296 rfl (q := 299) ?_
                        refine o_iand S at_299 rfl (q := 300) ?_
                        refine o_istoreV S (L' := fun v37 => #[.val (.int p0), .val (.int p1), .val (.int p2), .val (.int p3), .val (.int v1), .val (.int v2), .val (.int v3), .val (.int (1 : Int32)), .val (.int v5), .val (.ref b6), .val (.int (3 : Int32)), .val (.int (2 : Int32)), .val (.int v37), .unset, .unset, .unset]) (fun _ => rfl) at_300 rfl (q := 302) (fun v37 hv37 => ?_)
                        have hb0 := two_h v3 v37 hv37 hcp.1 hcp.2
                        refine o_iload S rfl at_302 rfl (q := 304) ?_
                        refine o_iconst S (z := 1) rfl at_304 rfl (q := 305) ?_
                        refine o_icmp S at_305 (by decide) (q' := 321) (by decide) (q := 308) rfl hs_ne.1 hs_ne.2 (fun hc305 => ?_) (fun hc305 => ?_)
                        · skip
                          refine o_aload S rfl rfl at_321 rfl (q := 323) ?_
                          refine o_iload S rfl at_323 rfl (q := 325) ?_
                          refine o_iconst S (z := 1) rfl at_325 rfl (q := 326) ?_
                          refine o_iadd S at_326 rfl (q := 327) ?_
                          refine o_baload S A_b6 (by decide) (by show (2 : Int) < 6; decide) (v := (((128 : Int32) ||| (v3 &&& (63 : Int32))).toInt8.toInt32)) rfl at_327 rfl (q := 328) ?_
                          refine o_sipush S (z := 255) rfl at_328 rfl (q := 331) ?_
                          refine o_iand S at_331 rfl (q := 332) ?_
                          refine o_istoreV S (L' := fun v38 => #[.val (.int p0), .val (.int p1), .val (.int p2), .val (.int p3), .val (.int v1), .val (.int v2), .val (.int v3), .val (.int (1 : Int32)), .val (.int v5), .val (.ref b6), .val (.int (3 : Int32)), .val (.int (2 : Int32)), .val (.int v37), .val (.int v38), .unset, .unset]) (fun _ => rfl) at_332 rfl (q := 334) (fun v38 hv38 => ?_)
                          have hb1 : v38.toInt = 128 + v3.toInt % 64 := cbyte _ _ hv38
                          refine o_iload S rfl at_334 rfl (q := 336) ?_
                          refine o_callS0 S (W := 0) (argsL := [(.int v38)]) (rest := []) (o_wd (i := 13) hw rfl) (o_wd (i := 14) hw rfl) (o_wd (i := 8) hw rfl) (o_wd (i := 15) hw rfl) (by decide) (ct_3 l Z a0 hw v38 h35 n0 (o_n0 S)) (by decide) (by decide) rfl rfl pd_2 rfl (Nat.le_of_eq rfl) at_336 rfl (q := 339) (by decide) (by decide) rfl (st' := [(.int (f_cont v38))]) (fun T S => ?_)
                          refine o_if S at_339 (by decide) (q' := 344) (by decide) (q := 342) rfl hs_ne.1 hs_ne.2 (fun hc339 => ?_) (fun hc339 => ?_)
                          · skip
                            refine o_iload S rfl at_344 rfl (q := 346) ?_
                            refine o_iconst S (z := 2) rfl at_346 rfl (q := 347) ?_
                            refine o_icmp S at_347 (by decide) (q' := 387) (by decide) (q := 350) rfl hs_ne.1 hs_ne.2 (fun hc347 => ?_) (fun hc347 => ?_)
                            · exact absurd hc347 (by decide)
                            · skip
                              refine o_iload S rfl at_350 rfl (q := 352) ?_
                              refine o_sipush S (z := 224) rfl at_352 rfl (q := 355) ?_
                              refine o_iand S at_355 rfl (q := 356) ?_
                              refine o_sipush S (z := 192) rfl at_356 rfl (q := 359) ?_
                              refine o_icmp S at_359 (by decide) (q' := 385) (by decide) (q := 362) rfl hs_ne.1 hs_ne.2 (fun hc359 => ?_) (fun hc359 => ?_)
                              · exact absurd (two_t _ _ hb0 (by omega) (by omega)) hc359
                              · skip
                                refine o_iload S rfl at_362 rfl (q := 364) ?_
                                refine o_bipush S (z := 31) rfl at_364 rfl (q := 366) ?_
                                refine o_iand S at_366 rfl (q := 367) ?_
                                refine o_bipush S (z := 6) rfl at_367 rfl (q := 369) ?_
                                refine o_ishl S at_369 rfl (q := 370) ?_
                                refine o_iload S rfl at_370 rfl (q := 372) ?_
                                refine o_bipush S (z := 63) rfl at_372 rfl (q := 374) ?_
                                refine o_iand S at_374 rfl (q := 375) ?_
                                refine o_ior S at_375 rfl (q := 376) ?_
                                refine o_iload S rfl at_376 rfl (q := 378) ?_
                                refine o_icmp S at_378 (by decide) (q' := 385) (by decide) (q := 381) rfl hs_ne.1 hs_ne.2 (fun hc378 => ?_) (fun hc378 => ?_)
                                · exact absurd (two_e _ _ _ hcp.1 hcp.2 hb0 hb1) hc378
                                · skip
                                  refine o_iconst S (z := 1) rfl at_381 rfl (q := 382) ?_
                                  refine o_goto S at_382 (by decide) (q := 386) (by decide) ?_
                                  refine o_retN S (t := .boolean) rfl (by simp) at_386 (by decide) (by decide) rfl ?_
                                  rfl
                          · exact absurd (Decidable.not_not.mp hc339) (cont_ok _ _ hb1 (by omega) (by omega))
                        · exact absurd hc305 (by decide)
                      · exact absurd (Decidable.not_not.mp hc286) (by rw [f_kept, if_neg (by decide), if_neg (by decide), if_neg (fun q => q rfl)]; decide)
          · exact absurd hc194 (by decide)
      · exact absurd hc148 (by omega)
    · skip
      refine o_iload S rfl at_132 rfl (q := 134) ?_
      refine o_aload S rfl rfl at_134 rfl (q := 136) ?_
      refine o_iload S rfl at_136 rfl (q := 138) ?_
      refine o_callS S (W := 0) (argsL := [(.int v3), (.ref b6), (.int (1 : Int32))]) (rest := []) (o_wd (i := 2) hw rfl) (o_wd (i := 3) hw rfl) (o_wd (i := 4) hw rfl) (o_wd (i := 5) hw rfl) (by decide) (ct_1 l Z a0 hw v3 b6 (1 : Int32) ([v5, v5, v5, v5, v5, v5]) h13 n0 (o_n0 S) A_b6 g_b6 (by decide) (by show (1 : Int) + 4 ≤ 6; decide)) (by decide) (by decide) rfl rfl pd_0 rfl (Nat.le_of_eq rfl) at_138 rfl (q := 141) (by decide) (by decide) (fun T h39 rr40 S hQ => ?_)
      obtain ⟨hv, K1, A_b6'⟩ := hQ
      subst hv
      have A_b6 := A_b6'
      show Wp p e below (Po s n0 room_1 Q0) T (mkF m 141 #[.val (.int p0), .val (.int p1), .val (.int p2), .val (.int p3), .val (.int v1), .val (.int v2), .val (.int v3), .val (.int (1 : Int32)), .val (.int v5), .val (.ref b6), .unset, .unset, .unset, .unset, .unset, .unset] [(.int (encN v3 (1 : Int32)))])
      have hend : encN v3 (1 : Int32) = (4 : Int32) := by rw [encN, if_pos (by omega), if_pos (by omega), if_neg (by omega)]; rfl
      rw [hend]
      have A_b6 : IA Z h39 b6 .byte [v5, (((224 : Int32) ||| (v3 >>> ((12 : Int32) &&& 31))).toInt8.toInt32), (((128 : Int32) ||| ((v3 >>> ((6 : Int32) &&& 31)) &&& (63 : Int32))).toInt8.toInt32), (((128 : Int32) ||| (v3 &&& (63 : Int32))).toInt8.toInt32), v5, v5] := by have q := A_b6; rw [encL, if_pos (by omega), if_pos (by omega), if_neg (by omega)] at q; exact q
      refine o_istore S (L' := #[.val (.int p0), .val (.int p1), .val (.int p2), .val (.int p3), .val (.int v1), .val (.int v2), .val (.int v3), .val (.int (1 : Int32)), .val (.int v5), .val (.ref b6), .val (.int (4 : Int32)), .unset, .unset, .unset, .unset, .unset]) rfl at_141 rfl (q := 143) ?_
      refine o_iload S rfl at_143 rfl (q := 145) ?_
      refine o_sipush S (z := 128) rfl at_145 rfl (q := 148) ?_
      refine o_icmp S at_148 (by decide) (q' := 157) (by decide) (q := 151) rfl (hs_ge (a := v3.toInt) (b := 128) rfl rfl).1 (hs_ge (a := v3.toInt) (b := 128) rfl rfl).2 (fun hc148 => ?_) (fun hc148 => ?_)
      · skip
        refine o_iload S rfl at_157 rfl (q := 159) ?_
        refine o_sipush S (z := 2048) rfl at_159 rfl (q := 162) ?_
        refine o_icmp S at_162 (by decide) (q' := 171) (by decide) (q := 165) rfl (hs_ge (a := v3.toInt) (b := 2048) rfl rfl).1 (hs_ge (a := v3.toInt) (b := 2048) rfl rfl).2 (fun hc162 => ?_) (fun hc162 => ?_)
        · skip
          refine o_iload S rfl at_171 rfl (q := 173) ?_
          refine o_ldc S (o_wd (i := 10) hw rfl) at_173 rfl (q := 175) ?_
          refine o_icmp S at_175 (by decide) (q' := 184) (by decide) (q := 178) rfl (hs_ge (a := v3.toInt) (b := 65536) rfl rfl).1 (hs_ge (a := v3.toInt) (b := 65536) rfl rfl).2 (fun hc175 => ?_) (fun hc175 => ?_)
          · exact absurd hc175 (by omega)
          · skip
            refine o_iconst S (z := 3) rfl at_178 rfl (q := 179) ?_
            refine o_istore S (L' := #[.val (.int p0), .val (.int p1), .val (.int p2), .val (.int p3), .val (.int v1), .val (.int v2), .val (.int v3), .val (.int (1 : Int32)), .val (.int v5), .val (.ref b6), .val (.int (4 : Int32)), .val (.int (3 : Int32)), .unset, .unset, .unset, .unset]) rfl at_179 rfl (q := 181) ?_
            refine o_goto S at_181 (by decide) (q := 187) (by decide) ?_
            refine o_iload S rfl at_187 rfl (q := 189) ?_
            refine o_iload S rfl at_189 rfl (q := 191) ?_
            refine o_iload S rfl at_191 rfl (q := 193) ?_
            refine o_iadd S at_193 rfl (q := 194) ?_
            refine o_icmp S at_194 (by decide) (q' := 199) (by decide) (q := 197) rfl hs_eq.1 hs_eq.2 (fun hc194 => ?_) (fun hc194 => ?_)
            · skip
              refine o_aload S rfl rfl at_199 rfl (q := 201) ?_
              refine o_iconst S (z := 0) rfl at_201 rfl (q := 202) ?_
              refine o_iload S rfl at_202 rfl (q := 204) ?_
              refine o_iload S rfl at_204 rfl (q := 206) ?_
              refine o_iload S rfl at_206 rfl (q := 208) ?_
              refine o_callS0 S (W := 0) (argsL := [(.ref b6), (.int (0 : Int32)), (.int (1 : Int32)), (.int (4 : Int32)), (.int v5)]) (rest := []) (o_wd (i := 6) hw rfl) (o_wd (i := 7) hw rfl) (o_wd (i := 8) hw rfl) (o_wd (i := 9) hw rfl) (by decide) (ct_2 l Z a0 hw b6 (0 : Int32) (1 : Int32) (4 : Int32) v5 ([v5, (((224 : Int32) ||| (v3 >>> ((12 : Int32) &&& 31))).toInt8.toInt32), (((128 : Int32) ||| ((v3 >>> ((6 : Int32) &&& 31)) &&& (63 : Int32))).toInt8.toInt32), (((128 : Int32) ||| (v3 &&& (63 : Int32))).toInt8.toInt32), v5, v5]) h39 n0 (o_n0 S) A_b6 (by decide) (by show (0 : Int) < 6; decide)) (by decide) (by decide) rfl rfl pd_1 rfl (Nat.le_of_eq rfl) at_208 rfl (q := 211) (by decide) (by decide) rfl (st' := [(.int (f_kept (0 : Int32) (1 : Int32) (4 : Int32) v5 ([v5, (((224 : Int32) ||| (v3 >>> ((12 : Int32) &&& 31))).toInt8.toInt32), (((128 : Int32) ||| ((v3 >>> ((6 : Int32) &&& 31)) &&& (63 : Int32))).toInt8.toInt32), (((128 : Int32) ||| (v3 &&& (63 : Int32))).toInt8.toInt32), v5, v5])))]) (fun T S => ?_)
              refine o_if S at_211 (by decide) (q' := 289) (by decide) (q := 214) rfl hs_eq.1 hs_eq.2 (fun hc211 => ?_) (fun hc211 => ?_)
              · exact absurd hc211 (by rw [f_kept, if_pos (by decide), if_neg (fun q => q rfl)]; decide)
              · skip
                refine o_aload S rfl rfl at_214 rfl (q := 216) ?_
                refine o_iconst S (z := 1) rfl at_216 rfl (q := 217) ?_
                refine o_iload S rfl at_217 rfl (q := 219) ?_
                refine o_iload S rfl at_219 rfl (q := 221) ?_
                refine o_iload S rfl at_221 rfl (q := 223) ?_
                refine o_callS0 S (W := 0) (argsL := [(.ref b6), (.int (1 : Int32)), (.int (1 : Int32)), (.int (4 : Int32)), (.int v5)]) (rest := []) (o_wd (i := 6) hw rfl) (o_wd (i := 7) hw rfl) (o_wd (i := 8) hw rfl) (o_wd (i := 9) hw rfl) (by decide) (ct_2 l Z a0 hw b6 (1 : Int32) (1 : Int32) (4 : Int32) v5 ([v5, (((224 : Int32) ||| (v3 >>> ((12 : Int32) &&& 31))).toInt8.toInt32), (((128 : Int32) ||| ((v3 >>> ((6 : Int32) &&& 31)) &&& (63 : Int32))).toInt8.toInt32), (((128 : Int32) ||| (v3 &&& (63 : Int32))).toInt8.toInt32), v5, v5]) h39 n0 (o_n0 S) A_b6 (by decide) (by show (1 : Int) < 6; decide)) (by decide) (by decide) rfl rfl pd_1 rfl (Nat.le_of_eq rfl) at_223 rfl (q := 226) (by decide) (by decide) rfl (st' := [(.int (f_kept (1 : Int32) (1 : Int32) (4 : Int32) v5 ([v5, (((224 : Int32) ||| (v3 >>> ((12 : Int32) &&& 31))).toInt8.toInt32), (((128 : Int32) ||| ((v3 >>> ((6 : Int32) &&& 31)) &&& (63 : Int32))).toInt8.toInt32), (((128 : Int32) ||| (v3 &&& (63 : Int32))).toInt8.toInt32), v5, v5])))]) (fun T S => ?_)
                refine o_if S at_226 (by decide) (q' := 289) (by decide) (q := 229) rfl hs_eq.1 hs_eq.2 (fun hc226 => ?_) (fun hc226 => ?_)
                · exact absurd hc226 (by rw [f_kept, if_neg (by decide), if_pos (by decide)]; decide)
                · skip
                  refine o_aload S rfl rfl at_229 rfl (q := 231) ?_
                  refine o_iconst S (z := 2) rfl at_231 rfl (q := 232) ?_
                  refine o_iload S rfl at_232 rfl (q := 234) ?_
                  refine o_iload S rfl at_234 rfl (q := 236) ?_
                  refine o_iload S rfl at_236 rfl (q := 238) ?_
                  refine o_callS0 S (W := 0) (argsL := [(.ref b6), (.int (2 : Int32)), (.int (1 : Int32)), (.int (4 : Int32)), (.int v5)]) (rest := []) (o_wd (i := 6) hw rfl) (o_wd (i := 7) hw rfl) (o_wd (i := 8) hw rfl) (o_wd (i := 9) hw rfl) (by decide) (ct_2 l Z a0 hw b6 (2 : Int32) (1 : Int32) (4 : Int32) v5 ([v5, (((224 : Int32) ||| (v3 >>> ((12 : Int32) &&& 31))).toInt8.toInt32), (((128 : Int32) ||| ((v3 >>> ((6 : Int32) &&& 31)) &&& (63 : Int32))).toInt8.toInt32), (((128 : Int32) ||| (v3 &&& (63 : Int32))).toInt8.toInt32), v5, v5]) h39 n0 (o_n0 S) A_b6 (by decide) (by show (2 : Int) < 6; decide)) (by decide) (by decide) rfl rfl pd_1 rfl (Nat.le_of_eq rfl) at_238 rfl (q := 241) (by decide) (by decide) rfl (st' := [(.int (f_kept (2 : Int32) (1 : Int32) (4 : Int32) v5 ([v5, (((224 : Int32) ||| (v3 >>> ((12 : Int32) &&& 31))).toInt8.toInt32), (((128 : Int32) ||| ((v3 >>> ((6 : Int32) &&& 31)) &&& (63 : Int32))).toInt8.toInt32), (((128 : Int32) ||| (v3 &&& (63 : Int32))).toInt8.toInt32), v5, v5])))]) (fun T S => ?_)
                  refine o_if S at_241 (by decide) (q' := 289) (by decide) (q := 244) rfl hs_eq.1 hs_eq.2 (fun hc241 => ?_) (fun hc241 => ?_)
                  · exact absurd hc241 (by rw [f_kept, if_neg (by decide), if_pos (by decide)]; decide)
                  · skip
                    refine o_aload S rfl rfl at_244 rfl (q := 246) ?_
                    refine o_iconst S (z := 3) rfl at_246 rfl (q := 247) ?_
                    refine o_iload S rfl at_247 rfl (q := 249) ?_
                    refine o_iload S rfl at_249 rfl (q := 251) ?_
                    refine o_iload S rfl at_251 rfl (q := 253) ?_
                    refine o_callS0 S (W := 0) (argsL := [(.ref b6), (.int (3 : Int32)), (.int (1 : Int32)), (.int (4 : Int32)), (.int v5)]) (rest := []) (o_wd (i := 6) hw rfl) (o_wd (i := 7) hw rfl) (o_wd (i := 8) hw rfl) (o_wd (i := 9) hw rfl) (by decide) (ct_2 l Z a0 hw b6 (3 : Int32) (1 : Int32) (4 : Int32) v5 ([v5, (((224 : Int32) ||| (v3 >>> ((12 : Int32) &&& 31))).toInt8.toInt32), (((128 : Int32) ||| ((v3 >>> ((6 : Int32) &&& 31)) &&& (63 : Int32))).toInt8.toInt32), (((128 : Int32) ||| (v3 &&& (63 : Int32))).toInt8.toInt32), v5, v5]) h39 n0 (o_n0 S) A_b6 (by decide) (by show (3 : Int) < 6; decide)) (by decide) (by decide) rfl rfl pd_1 rfl (Nat.le_of_eq rfl) at_253 rfl (q := 256) (by decide) (by decide) rfl (st' := [(.int (f_kept (3 : Int32) (1 : Int32) (4 : Int32) v5 ([v5, (((224 : Int32) ||| (v3 >>> ((12 : Int32) &&& 31))).toInt8.toInt32), (((128 : Int32) ||| ((v3 >>> ((6 : Int32) &&& 31)) &&& (63 : Int32))).toInt8.toInt32), (((128 : Int32) ||| (v3 &&& (63 : Int32))).toInt8.toInt32), v5, v5])))]) (fun T S => ?_)
                    refine o_if S at_256 (by decide) (q' := 289) (by decide) (q := 259) rfl hs_eq.1 hs_eq.2 (fun hc256 => ?_) (fun hc256 => ?_)
                    · exact absurd hc256 (by rw [f_kept, if_neg (by decide), if_pos (by decide)]; decide)
                    · skip
                      refine o_aload S rfl rfl at_259 rfl (q := 261) ?_
                      refine o_iconst S (z := 4) rfl at_261 rfl (q := 262) ?_
                      refine o_iload S rfl at_262 rfl (q := 264) ?_
                      refine o_iload S rfl at_264 rfl (q := 266) ?_
                      refine o_iload S rfl at_266 rfl (q := 268) ?_
                      refine o_callS0 S (W := 0) (argsL := [(.ref b6), (.int (4 : Int32)), (.int (1 : Int32)), (.int (4 : Int32)), (.int v5)]) (rest := []) (o_wd (i := 6) hw rfl) (o_wd (i := 7) hw rfl) (o_wd (i := 8) hw rfl) (o_wd (i := 9) hw rfl) (by decide) (ct_2 l Z a0 hw b6 (4 : Int32) (1 : Int32) (4 : Int32) v5 ([v5, (((224 : Int32) ||| (v3 >>> ((12 : Int32) &&& 31))).toInt8.toInt32), (((128 : Int32) ||| ((v3 >>> ((6 : Int32) &&& 31)) &&& (63 : Int32))).toInt8.toInt32), (((128 : Int32) ||| (v3 &&& (63 : Int32))).toInt8.toInt32), v5, v5]) h39 n0 (o_n0 S) A_b6 (by decide) (by show (4 : Int) < 6; decide)) (by decide) (by decide) rfl rfl pd_1 rfl (Nat.le_of_eq rfl) at_268 rfl (q := 271) (by decide) (by decide) rfl (st' := [(.int (f_kept (4 : Int32) (1 : Int32) (4 : Int32) v5 ([v5, (((224 : Int32) ||| (v3 >>> ((12 : Int32) &&& 31))).toInt8.toInt32), (((128 : Int32) ||| ((v3 >>> ((6 : Int32) &&& 31)) &&& (63 : Int32))).toInt8.toInt32), (((128 : Int32) ||| (v3 &&& (63 : Int32))).toInt8.toInt32), v5, v5])))]) (fun T S => ?_)
                      refine o_if S at_271 (by decide) (q' := 289) (by decide) (q := 274) rfl hs_eq.1 hs_eq.2 (fun hc271 => ?_) (fun hc271 => ?_)
                      · exact absurd hc271 (by rw [f_kept, if_neg (by decide), if_neg (by decide), if_neg (fun q => q rfl)]; decide)
                      · skip
                        refine o_aload S rfl rfl at_274 rfl (q := 276) ?_
                        refine o_iconst S (z := 5) rfl at_276 rfl (q := 277) ?_
                        refine o_iload S rfl at_277 rfl (q := 279) ?_
                        refine o_iload S rfl at_279 rfl (q := 281) ?_
                        refine o_iload S rfl at_281 rfl (q := 283) ?_
                        refine o_callS0 S (W := 0) (argsL := [(.ref b6), (.int (5 : Int32)), (.int (1 : Int32)), (.int (4 : Int32)), (.int v5)]) (rest := []) (o_wd (i := 6) hw rfl) (o_wd (i := 7) hw rfl) (o_wd (i := 8) hw rfl) (o_wd (i := 9) hw rfl) (by decide) (ct_2 l Z a0 hw b6 (5 : Int32) (1 : Int32) (4 : Int32) v5 ([v5, (((224 : Int32) ||| (v3 >>> ((12 : Int32) &&& 31))).toInt8.toInt32), (((128 : Int32) ||| ((v3 >>> ((6 : Int32) &&& 31)) &&& (63 : Int32))).toInt8.toInt32), (((128 : Int32) ||| (v3 &&& (63 : Int32))).toInt8.toInt32), v5, v5]) h39 n0 (o_n0 S) A_b6 (by decide) (by show (5 : Int) < 6; decide)) (by decide) (by decide) rfl rfl pd_1 rfl (Nat.le_of_eq rfl) at_283 rfl (q := 286) (by decide) (by decide) rfl (st' := [(.int (f_kept (5 : Int32) (1 : Int32) (4 : Int32) v5 ([v5, (((224 : Int32) ||| (v3 >>> ((12 : Int32) &&& 31))).toInt8.toInt32), (((128 : Int32) ||| ((v3 >>> ((6 : Int32) &&& 31)) &&& (63 : Int32))).toInt8.toInt32), (((128 : Int32) ||| (v3 &&& (63 : Int32))).toInt8.toInt32), v5, v5])))]) (fun T S => ?_)
                        refine o_if S at_286 (by decide) (q' := 291) (by decide) (q := 289) rfl hs_ne.1 hs_ne.2 (fun hc286 => ?_) (fun hc286 => ?_)
                        · skip
                          refine o_aload S rfl rfl at_291 rfl (q := 293) ?_
                          refine o_iload S rfl at_293 rfl (q := 295) ?_
                          refine o_baload S A_b6 (by decide) (by show (1 : Int) < 6; decide) (v := (((224 : Int32) ||| (v3 >>> ((12 : Int32) &&& 31))).toInt8.toInt32)) rfl at_295 rfl (q := 296) ?_
                          refine o_sipush S (z := 255) rfl at_296 rfl (q := 299) ?_
                          refine o_iand S at_299 rfl (q := 300) ?_
                          refine o_istoreV S (L' := fun v41 => #[.val (.int p0), .val (.int p1), .val (.int p2), .val (.int p3), .val (.int v1), .val (.int v2), .val (.int v3), .val (.int (1 : Int32)), .val (.int v5), .val (.ref b6), .val (.int (4 : Int32)), .val (.int (3 : Int32)), .val (.int v41), .unset, .unset, .unset]) (fun _ => rfl) at_300 rfl (q := 302) (fun v41 hv41 => ?_)
                          have hb0 := three_h v3 v41 hv41 hcp.1 hcp.2
                          refine o_iload S rfl at_302 rfl (q := 304) ?_
                          refine o_iconst S (z := 1) rfl at_304 rfl (q := 305) ?_
                          refine o_icmp S at_305 (by decide) (q' := 321) (by decide) (q := 308) rfl hs_ne.1 hs_ne.2 (fun hc305 => ?_) (fun hc305 => ?_)
                          · skip
                            refine o_aload S rfl rfl at_321 rfl (q := 323) ?_
                            refine o_iload S rfl at_323 rfl (q := 325) ?_
                            refine o_iconst S (z := 1) rfl at_325 rfl (q := 326) ?_
                            refine o_iadd S at_326 rfl (q := 327) ?_
                            refine o_baload S A_b6 (by decide) (by show (2 : Int) < 6; decide) (v := (((128 : Int32) ||| ((v3 >>> ((6 : Int32) &&& 31)) &&& (63 : Int32))).toInt8.toInt32)) rfl at_327 rfl (q := 328) ?_
                            refine o_sipush S (z := 255) rfl at_328 rfl (q := 331) ?_
                            refine o_iand S at_331 rfl (q := 332) ?_
                            refine o_istoreV S (L' := fun v42 => #[.val (.int p0), .val (.int p1), .val (.int p2), .val (.int p3), .val (.int v1), .val (.int v2), .val (.int v3), .val (.int (1 : Int32)), .val (.int v5), .val (.ref b6), .val (.int (4 : Int32)), .val (.int (3 : Int32)), .val (.int v41), .val (.int v42), .unset, .unset]) (fun _ => rfl) at_332 rfl (q := 334) (fun v42 hv42 => ?_)
                            have hb1 : v42.toInt = 128 + v3.toInt / 64 % 64 := (cbyte _ _ hv42).trans (by rw [sh6])
                            refine o_iload S rfl at_334 rfl (q := 336) ?_
                            refine o_callS0 S (W := 0) (argsL := [(.int v42)]) (rest := []) (o_wd (i := 13) hw rfl) (o_wd (i := 14) hw rfl) (o_wd (i := 8) hw rfl) (o_wd (i := 15) hw rfl) (by decide) (ct_3 l Z a0 hw v42 h39 n0 (o_n0 S)) (by decide) (by decide) rfl rfl pd_2 rfl (Nat.le_of_eq rfl) at_336 rfl (q := 339) (by decide) (by decide) rfl (st' := [(.int (f_cont v42))]) (fun T S => ?_)
                            refine o_if S at_339 (by decide) (q' := 344) (by decide) (q := 342) rfl hs_ne.1 hs_ne.2 (fun hc339 => ?_) (fun hc339 => ?_)
                            · skip
                              refine o_iload S rfl at_344 rfl (q := 346) ?_
                              refine o_iconst S (z := 2) rfl at_346 rfl (q := 347) ?_
                              refine o_icmp S at_347 (by decide) (q' := 387) (by decide) (q := 350) rfl hs_ne.1 hs_ne.2 (fun hc347 => ?_) (fun hc347 => ?_)
                              · skip
                                refine o_aload S rfl rfl at_387 rfl (q := 389) ?_
                                refine o_iload S rfl at_389 rfl (q := 391) ?_
                                refine o_iconst S (z := 2) rfl at_391 rfl (q := 392) ?_
                                refine o_iadd S at_392 rfl (q := 393) ?_
                                refine o_baload S A_b6 (by decide) (by show (3 : Int) < 6; decide) (v := (((128 : Int32) ||| (v3 &&& (63 : Int32))).toInt8.toInt32)) rfl at_393 rfl (q := 394) ?_
                                refine o_sipush S (z := 255) rfl at_394 rfl (q := 397) ?_
                                refine o_iand S at_397 rfl (q := 398) ?_
                                refine o_istoreV S (L' := fun v43 => #[.val (.int p0), .val (.int p1), .val (.int p2), .val (.int p3), .val (.int v1), .val (.int v2), .val (.int v3), .val (.int (1 : Int32)), .val (.int v5), .val (.ref b6), .val (.int (4 : Int32)), .val (.int (3 : Int32)), .val (.int v41), .val (.int v42), .val (.int v43), .unset]) (fun _ => rfl) at_398 rfl (q := 400) (fun v43 hv43 => ?_)
                                have hb2 : v43.toInt = 128 + v3.toInt % 64 := cbyte _ _ hv43
                                refine o_iload S rfl at_400 rfl (q := 402) ?_
                                refine o_callS0 S (W := 0) (argsL := [(.int v43)]) (rest := []) (o_wd (i := 13) hw rfl) (o_wd (i := 14) hw rfl) (o_wd (i := 8) hw rfl) (o_wd (i := 15) hw rfl) (by decide) (ct_3 l Z a0 hw v43 h39 n0 (o_n0 S)) (by decide) (by decide) rfl rfl pd_2 rfl (Nat.le_of_eq rfl) at_402 rfl (q := 405) (by decide) (by decide) rfl (st' := [(.int (f_cont v43))]) (fun T S => ?_)
                                refine o_if S at_405 (by decide) (q' := 410) (by decide) (q := 408) rfl hs_ne.1 hs_ne.2 (fun hc405 => ?_) (fun hc405 => ?_)
                                · skip
                                  refine o_iload S rfl at_410 rfl (q := 412) ?_
                                  refine o_iconst S (z := 3) rfl at_412 rfl (q := 413) ?_
                                  refine o_icmp S at_413 (by decide) (q' := 462) (by decide) (q := 416) rfl hs_ne.1 hs_ne.2 (fun hc413 => ?_) (fun hc413 => ?_)
                                  · exact absurd hc413 (by decide)
                                  · skip
                                    refine o_iload S rfl at_416 rfl (q := 418) ?_
                                    refine o_sipush S (z := 240) rfl at_418 rfl (q := 421) ?_
                                    refine o_iand S at_421 rfl (q := 422) ?_
                                    refine o_sipush S (z := 224) rfl at_422 rfl (q := 425) ?_
                                    refine o_icmp S at_425 (by decide) (q' := 460) (by decide) (q := 428) rfl hs_ne.1 hs_ne.2 (fun hc425 => ?_) (fun hc425 => ?_)
                                    · exact absurd (three_t _ _ hb0 (by omega) (by omega)) hc425
                                    · skip
                                      refine o_iload S rfl at_428 rfl (q := 430) ?_
                                      refine o_bipush S (z := 15) rfl at_430 rfl (q := 432) ?_
                                      refine o_iand S at_432 rfl (q := 433) ?_
                                      refine o_bipush S (z := 12) rfl at_433 rfl (q := 435) ?_
                                      refine o_ishl S at_435 rfl (q := 436) ?_
                                      refine o_iload S rfl at_436 rfl (q := 438) ?_
                                      refine o_bipush S (z := 63) rfl at_438 rfl (q := 440) ?_
                                      refine o_iand S at_440 rfl (q := 441) ?_
                                      refine o_bipush S (z := 6) rfl at_441 rfl (q := 443) ?_
                                      refine o_ishl S at_443 rfl (q := 444) ?_
                                      refine o_ior S at_444 rfl (q := 445) ?_
                                      refine o_iload S rfl at_445 rfl (q := 447) ?_
                                      refine o_bipush S (z := 63) rfl at_447 rfl (q := 449) ?_
                                      refine o_iand S at_449 rfl (q := 450) ?_
                                      refine o_ior S at_450 rfl (q := 451) ?_
                                      refine o_iload S rfl at_451 rfl (q := 453) ?_
                                      refine o_icmp S at_453 (by decide) (q' := 460) (by decide) (q := 456) rfl hs_ne.1 hs_ne.2 (fun hc453 => ?_) (fun hc453 => ?_)
                                      · exact absurd (three_e _ _ _ _ hcp.1 hcp.2 hb0 hb1 hb2) hc453
                                      · skip
                                        refine o_iconst S (z := 1) rfl at_456 rfl (q := 457) ?_
                                        refine o_goto S at_457 (by decide) (q := 461) (by decide) ?_
                                        refine o_retN S (t := .boolean) rfl (by simp) at_461 (by decide) (by decide) rfl ?_
                                        rfl
                                · exact absurd (Decidable.not_not.mp hc405) (cont_ok _ _ hb2 (by omega) (by omega))
                              · exact absurd hc347 (by decide)
                            · exact absurd (Decidable.not_not.mp hc339) (cont_ok _ _ hb1 (by omega) (by omega))
                          · exact absurd hc305 (by decide)
                        · exact absurd (Decidable.not_not.mp hc286) (by rw [f_kept, if_neg (by decide), if_neg (by decide), if_neg (fun q => q rfl)]; decide)
            · exact absurd hc194 (by decide)
        · exact absurd hc162 (by omega)
      · exact absurd hc148 (by omega)
    · skip
      refine o_iload S rfl at_132 rfl (q := 134) ?_
      refine o_aload S rfl rfl at_134 rfl (q := 136) ?_
      refine o_iload S rfl at_136 rfl (q := 138) ?_
      refine o_callS S (W := 0) (argsL := [(.int v3), (.ref b6), (.int (1 : Int32))]) (rest := []) (o_wd (i := 2) hw rfl) (o_wd (i := 3) hw rfl) (o_wd (i := 4) hw rfl) (o_wd (i := 5) hw rfl) (by decide) (ct_1 l Z a0 hw v3 b6 (1 : Int32) ([v5, v5, v5, v5, v5, v5]) h13 n0 (o_n0 S) A_b6 g_b6 (by decide) (by show (1 : Int) + 4 ≤ 6; decide)) (by decide) (by decide) rfl rfl pd_0 rfl (Nat.le_of_eq rfl) at_138 rfl (q := 141) (by decide) (by decide) (fun T h44 rr45 S hQ => ?_)
      obtain ⟨hv, K1, A_b6'⟩ := hQ
      subst hv
      have A_b6 := A_b6'
      show Wp p e below (Po s n0 room_1 Q0) T (mkF m 141 #[.val (.int p0), .val (.int p1), .val (.int p2), .val (.int p3), .val (.int v1), .val (.int v2), .val (.int v3), .val (.int (1 : Int32)), .val (.int v5), .val (.ref b6), .unset, .unset, .unset, .unset, .unset, .unset] [(.int (encN v3 (1 : Int32)))])
      have hend : encN v3 (1 : Int32) = (5 : Int32) := by rw [encN, if_pos (by omega), if_pos (by omega), if_pos (by omega)]; rfl
      rw [hend]
      have A_b6 : IA Z h44 b6 .byte [v5, (((240 : Int32) ||| (v3 >>> ((18 : Int32) &&& 31))).toInt8.toInt32), (((128 : Int32) ||| ((v3 >>> ((12 : Int32) &&& 31)) &&& (63 : Int32))).toInt8.toInt32), (((128 : Int32) ||| ((v3 >>> ((6 : Int32) &&& 31)) &&& (63 : Int32))).toInt8.toInt32), (((128 : Int32) ||| (v3 &&& (63 : Int32))).toInt8.toInt32), v5] := by have q := A_b6; rw [encL, if_pos (by omega), if_pos (by omega), if_pos (by omega)] at q; exact q
      refine o_istore S (L' := #[.val (.int p0), .val (.int p1), .val (.int p2), .val (.int p3), .val (.int v1), .val (.int v2), .val (.int v3), .val (.int (1 : Int32)), .val (.int v5), .val (.ref b6), .val (.int (5 : Int32)), .unset, .unset, .unset, .unset, .unset]) rfl at_141 rfl (q := 143) ?_
      refine o_iload S rfl at_143 rfl (q := 145) ?_
      refine o_sipush S (z := 128) rfl at_145 rfl (q := 148) ?_
      refine o_icmp S at_148 (by decide) (q' := 157) (by decide) (q := 151) rfl (hs_ge (a := v3.toInt) (b := 128) rfl rfl).1 (hs_ge (a := v3.toInt) (b := 128) rfl rfl).2 (fun hc148 => ?_) (fun hc148 => ?_)
      · skip
        refine o_iload S rfl at_157 rfl (q := 159) ?_
        refine o_sipush S (z := 2048) rfl at_159 rfl (q := 162) ?_
        refine o_icmp S at_162 (by decide) (q' := 171) (by decide) (q := 165) rfl (hs_ge (a := v3.toInt) (b := 2048) rfl rfl).1 (hs_ge (a := v3.toInt) (b := 2048) rfl rfl).2 (fun hc162 => ?_) (fun hc162 => ?_)
        · skip
          refine o_iload S rfl at_171 rfl (q := 173) ?_
          refine o_ldc S (o_wd (i := 10) hw rfl) at_173 rfl (q := 175) ?_
          refine o_icmp S at_175 (by decide) (q' := 184) (by decide) (q := 178) rfl (hs_ge (a := v3.toInt) (b := 65536) rfl rfl).1 (hs_ge (a := v3.toInt) (b := 65536) rfl rfl).2 (fun hc175 => ?_) (fun hc175 => ?_)
          · skip
            refine o_iconst S (z := 4) rfl at_184 rfl (q := 185) ?_
            refine o_istore S (L' := #[.val (.int p0), .val (.int p1), .val (.int p2), .val (.int p3), .val (.int v1), .val (.int v2), .val (.int v3), .val (.int (1 : Int32)), .val (.int v5), .val (.ref b6), .val (.int (5 : Int32)), .val (.int (4 : Int32)), .unset, .unset, .unset, .unset]) rfl at_185 rfl (q := 187) ?_
            refine o_iload S rfl at_187 rfl (q := 189) ?_
            refine o_iload S rfl at_189 rfl (q := 191) ?_
            refine o_iload S rfl at_191 rfl (q := 193) ?_
            refine o_iadd S at_193 rfl (q := 194) ?_
            refine o_icmp S at_194 (by decide) (q' := 199) (by decide) (q := 197) rfl hs_eq.1 hs_eq.2 (fun hc194 => ?_) (fun hc194 => ?_)
            · skip
              refine o_aload S rfl rfl at_199 rfl (q := 201) ?_
              refine o_iconst S (z := 0) rfl at_201 rfl (q := 202) ?_
              refine o_iload S rfl at_202 rfl (q := 204) ?_
              refine o_iload S rfl at_204 rfl (q := 206) ?_
              refine o_iload S rfl at_206 rfl (q := 208) ?_
              refine o_callS0 S (W := 0) (argsL := [(.ref b6), (.int (0 : Int32)), (.int (1 : Int32)), (.int (5 : Int32)), (.int v5)]) (rest := []) (o_wd (i := 6) hw rfl) (o_wd (i := 7) hw rfl) (o_wd (i := 8) hw rfl) (o_wd (i := 9) hw rfl) (by decide) (ct_2 l Z a0 hw b6 (0 : Int32) (1 : Int32) (5 : Int32) v5 ([v5, (((240 : Int32) ||| (v3 >>> ((18 : Int32) &&& 31))).toInt8.toInt32), (((128 : Int32) ||| ((v3 >>> ((12 : Int32) &&& 31)) &&& (63 : Int32))).toInt8.toInt32), (((128 : Int32) ||| ((v3 >>> ((6 : Int32) &&& 31)) &&& (63 : Int32))).toInt8.toInt32), (((128 : Int32) ||| (v3 &&& (63 : Int32))).toInt8.toInt32), v5]) h44 n0 (o_n0 S) A_b6 (by decide) (by show (0 : Int) < 6; decide)) (by decide) (by decide) rfl rfl pd_1 rfl (Nat.le_of_eq rfl) at_208 rfl (q := 211) (by decide) (by decide) rfl (st' := [(.int (f_kept (0 : Int32) (1 : Int32) (5 : Int32) v5 ([v5, (((240 : Int32) ||| (v3 >>> ((18 : Int32) &&& 31))).toInt8.toInt32), (((128 : Int32) ||| ((v3 >>> ((12 : Int32) &&& 31)) &&& (63 : Int32))).toInt8.toInt32), (((128 : Int32) ||| ((v3 >>> ((6 : Int32) &&& 31)) &&& (63 : Int32))).toInt8.toInt32), (((128 : Int32) ||| (v3 &&& (63 : Int32))).toInt8.toInt32), v5])))]) (fun T S => ?_)
              refine o_if S at_211 (by decide) (q' := 289) (by decide) (q := 214) rfl hs_eq.1 hs_eq.2 (fun hc211 => ?_) (fun hc211 => ?_)
              · exact absurd hc211 (by rw [f_kept, if_pos (by decide), if_neg (fun q => q rfl)]; decide)
              · skip
                refine o_aload S rfl rfl at_214 rfl (q := 216) ?_
                refine o_iconst S (z := 1) rfl at_216 rfl (q := 217) ?_
                refine o_iload S rfl at_217 rfl (q := 219) ?_
                refine o_iload S rfl at_219 rfl (q := 221) ?_
                refine o_iload S rfl at_221 rfl (q := 223) ?_
                refine o_callS0 S (W := 0) (argsL := [(.ref b6), (.int (1 : Int32)), (.int (1 : Int32)), (.int (5 : Int32)), (.int v5)]) (rest := []) (o_wd (i := 6) hw rfl) (o_wd (i := 7) hw rfl) (o_wd (i := 8) hw rfl) (o_wd (i := 9) hw rfl) (by decide) (ct_2 l Z a0 hw b6 (1 : Int32) (1 : Int32) (5 : Int32) v5 ([v5, (((240 : Int32) ||| (v3 >>> ((18 : Int32) &&& 31))).toInt8.toInt32), (((128 : Int32) ||| ((v3 >>> ((12 : Int32) &&& 31)) &&& (63 : Int32))).toInt8.toInt32), (((128 : Int32) ||| ((v3 >>> ((6 : Int32) &&& 31)) &&& (63 : Int32))).toInt8.toInt32), (((128 : Int32) ||| (v3 &&& (63 : Int32))).toInt8.toInt32), v5]) h44 n0 (o_n0 S) A_b6 (by decide) (by show (1 : Int) < 6; decide)) (by decide) (by decide) rfl rfl pd_1 rfl (Nat.le_of_eq rfl) at_223 rfl (q := 226) (by decide) (by decide) rfl (st' := [(.int (f_kept (1 : Int32) (1 : Int32) (5 : Int32) v5 ([v5, (((240 : Int32) ||| (v3 >>> ((18 : Int32) &&& 31))).toInt8.toInt32), (((128 : Int32) ||| ((v3 >>> ((12 : Int32) &&& 31)) &&& (63 : Int32))).toInt8.toInt32), (((128 : Int32) ||| ((v3 >>> ((6 : Int32) &&& 31)) &&& (63 : Int32))).toInt8.toInt32), (((128 : Int32) ||| (v3 &&& (63 : Int32))).toInt8.toInt32), v5])))]) (fun T S => ?_)
                refine o_if S at_226 (by decide) (q' := 289) (by decide) (q := 229) rfl hs_eq.1 hs_eq.2 (fun hc226 => ?_) (fun hc226 => ?_)
                · exact absurd hc226 (by rw [f_kept, if_neg (by decide), if_pos (by decide)]; decide)
                · skip
                  refine o_aload S rfl rfl at_229 rfl (q := 231) ?_
                  refine o_iconst S (z := 2) rfl at_231 rfl (q := 232) ?_
                  refine o_iload S rfl at_232 rfl (q := 234) ?_
                  refine o_iload S rfl at_234 rfl (q := 236) ?_
                  refine o_iload S rfl at_236 rfl (q := 238) ?_
                  refine o_callS0 S (W := 0) (argsL := [(.ref b6), (.int (2 : Int32)), (.int (1 : Int32)), (.int (5 : Int32)), (.int v5)]) (rest := []) (o_wd (i := 6) hw rfl) (o_wd (i := 7) hw rfl) (o_wd (i := 8) hw rfl) (o_wd (i := 9) hw rfl) (by decide) (ct_2 l Z a0 hw b6 (2 : Int32) (1 : Int32) (5 : Int32) v5 ([v5, (((240 : Int32) ||| (v3 >>> ((18 : Int32) &&& 31))).toInt8.toInt32), (((128 : Int32) ||| ((v3 >>> ((12 : Int32) &&& 31)) &&& (63 : Int32))).toInt8.toInt32), (((128 : Int32) ||| ((v3 >>> ((6 : Int32) &&& 31)) &&& (63 : Int32))).toInt8.toInt32), (((128 : Int32) ||| (v3 &&& (63 : Int32))).toInt8.toInt32), v5]) h44 n0 (o_n0 S) A_b6 (by decide) (by show (2 : Int) < 6; decide)) (by decide) (by decide) rfl rfl pd_1 rfl (Nat.le_of_eq rfl) at_238 rfl (q := 241) (by decide) (by decide) rfl (st' := [(.int (f_kept (2 : Int32) (1 : Int32) (5 : Int32) v5 ([v5, (((240 : Int32) ||| (v3 >>> ((18 : Int32) &&& 31))).toInt8.toInt32), (((128 : Int32) ||| ((v3 >>> ((12 : Int32) &&& 31)) &&& (63 : Int32))).toInt8.toInt32), (((128 : Int32) ||| ((v3 >>> ((6 : Int32) &&& 31)) &&& (63 : Int32))).toInt8.toInt32), (((128 : Int32) ||| (v3 &&& (63 : Int32))).toInt8.toInt32), v5])))]) (fun T S => ?_)
                  refine o_if S at_241 (by decide) (q' := 289) (by decide) (q := 244) rfl hs_eq.1 hs_eq.2 (fun hc241 => ?_) (fun hc241 => ?_)
                  · exact absurd hc241 (by rw [f_kept, if_neg (by decide), if_pos (by decide)]; decide)
                  · skip
                    refine o_aload S rfl rfl at_244 rfl (q := 246) ?_
                    refine o_iconst S (z := 3) rfl at_246 rfl (q := 247) ?_
                    refine o_iload S rfl at_247 rfl (q := 249) ?_
                    refine o_iload S rfl at_249 rfl (q := 251) ?_
                    refine o_iload S rfl at_251 rfl (q := 253) ?_
                    refine o_callS0 S (W := 0) (argsL := [(.ref b6), (.int (3 : Int32)), (.int (1 : Int32)), (.int (5 : Int32)), (.int v5)]) (rest := []) (o_wd (i := 6) hw rfl) (o_wd (i := 7) hw rfl) (o_wd (i := 8) hw rfl) (o_wd (i := 9) hw rfl) (by decide) (ct_2 l Z a0 hw b6 (3 : Int32) (1 : Int32) (5 : Int32) v5 ([v5, (((240 : Int32) ||| (v3 >>> ((18 : Int32) &&& 31))).toInt8.toInt32), (((128 : Int32) ||| ((v3 >>> ((12 : Int32) &&& 31)) &&& (63 : Int32))).toInt8.toInt32), (((128 : Int32) ||| ((v3 >>> ((6 : Int32) &&& 31)) &&& (63 : Int32))).toInt8.toInt32), (((128 : Int32) ||| (v3 &&& (63 : Int32))).toInt8.toInt32), v5]) h44 n0 (o_n0 S) A_b6 (by decide) (by show (3 : Int) < 6; decide)) (by decide) (by decide) rfl rfl pd_1 rfl (Nat.le_of_eq rfl) at_253 rfl (q := 256) (by decide) (by decide) rfl (st' := [(.int (f_kept (3 : Int32) (1 : Int32) (5 : Int32) v5 ([v5, (((240 : Int32) ||| (v3 >>> ((18 : Int32) &&& 31))).toInt8.toInt32), (((128 : Int32) ||| ((v3 >>> ((12 : Int32) &&& 31)) &&& (63 : Int32))).toInt8.toInt32), (((128 : Int32) ||| ((v3 >>> ((6 : Int32) &&& 31)) &&& (63 : Int32))).toInt8.toInt32), (((128 : Int32) ||| (v3 &&& (63 : Int32))).toInt8.toInt32), v5])))]) (fun T S => ?_)
                    refine o_if S at_256 (by decide) (q' := 289) (by decide) (q := 259) rfl hs_eq.1 hs_eq.2 (fun hc256 => ?_) (fun hc256 => ?_)
                    · exact absurd hc256 (by rw [f_kept, if_neg (by decide), if_pos (by decide)]; decide)
                    · skip
                      refine o_aload S rfl rfl at_259 rfl (q := 261) ?_
                      refine o_iconst S (z := 4) rfl at_261 rfl (q := 262) ?_
                      refine o_iload S rfl at_262 rfl (q := 264) ?_
                      refine o_iload S rfl at_264 rfl (q := 266) ?_
                      refine o_iload S rfl at_266 rfl (q := 268) ?_
                      refine o_callS0 S (W := 0) (argsL := [(.ref b6), (.int (4 : Int32)), (.int (1 : Int32)), (.int (5 : Int32)), (.int v5)]) (rest := []) (o_wd (i := 6) hw rfl) (o_wd (i := 7) hw rfl) (o_wd (i := 8) hw rfl) (o_wd (i := 9) hw rfl) (by decide) (ct_2 l Z a0 hw b6 (4 : Int32) (1 : Int32) (5 : Int32) v5 ([v5, (((240 : Int32) ||| (v3 >>> ((18 : Int32) &&& 31))).toInt8.toInt32), (((128 : Int32) ||| ((v3 >>> ((12 : Int32) &&& 31)) &&& (63 : Int32))).toInt8.toInt32), (((128 : Int32) ||| ((v3 >>> ((6 : Int32) &&& 31)) &&& (63 : Int32))).toInt8.toInt32), (((128 : Int32) ||| (v3 &&& (63 : Int32))).toInt8.toInt32), v5]) h44 n0 (o_n0 S) A_b6 (by decide) (by show (4 : Int) < 6; decide)) (by decide) (by decide) rfl rfl pd_1 rfl (Nat.le_of_eq rfl) at_268 rfl (q := 271) (by decide) (by decide) rfl (st' := [(.int (f_kept (4 : Int32) (1 : Int32) (5 : Int32) v5 ([v5, (((240 : Int32) ||| (v3 >>> ((18 : Int32) &&& 31))).toInt8.toInt32), (((128 : Int32) ||| ((v3 >>> ((12 : Int32) &&& 31)) &&& (63 : Int32))).toInt8.toInt32), (((128 : Int32) ||| ((v3 >>> ((6 : Int32) &&& 31)) &&& (63 : Int32))).toInt8.toInt32), (((128 : Int32) ||| (v3 &&& (63 : Int32))).toInt8.toInt32), v5])))]) (fun T S => ?_)
                      refine o_if S at_271 (by decide) (q' := 289) (by decide) (q := 274) rfl hs_eq.1 hs_eq.2 (fun hc271 => ?_) (fun hc271 => ?_)
                      · exact absurd hc271 (by rw [f_kept, if_neg (by decide), if_pos (by decide)]; decide)
                      · skip
                        refine o_aload S rfl rfl at_274 rfl (q := 276) ?_
                        refine o_iconst S (z := 5) rfl at_276 rfl (q := 277) ?_
                        refine o_iload S rfl at_277 rfl (q := 279) ?_
                        refine o_iload S rfl at_279 rfl (q := 281) ?_
                        refine o_iload S rfl at_281 rfl (q := 283) ?_
                        refine o_callS0 S (W := 0) (argsL := [(.ref b6), (.int (5 : Int32)), (.int (1 : Int32)), (.int (5 : Int32)), (.int v5)]) (rest := []) (o_wd (i := 6) hw rfl) (o_wd (i := 7) hw rfl) (o_wd (i := 8) hw rfl) (o_wd (i := 9) hw rfl) (by decide) (ct_2 l Z a0 hw b6 (5 : Int32) (1 : Int32) (5 : Int32) v5 ([v5, (((240 : Int32) ||| (v3 >>> ((18 : Int32) &&& 31))).toInt8.toInt32), (((128 : Int32) ||| ((v3 >>> ((12 : Int32) &&& 31)) &&& (63 : Int32))).toInt8.toInt32), (((128 : Int32) ||| ((v3 >>> ((6 : Int32) &&& 31)) &&& (63 : Int32))).toInt8.toInt32), (((128 : Int32) ||| (v3 &&& (63 : Int32))).toInt8.toInt32), v5]) h44 n0 (o_n0 S) A_b6 (by decide) (by show (5 : Int) < 6; decide)) (by decide) (by decide) rfl rfl pd_1 rfl (Nat.le_of_eq rfl) at_283 rfl (q := 286) (by decide) (by decide) rfl (st' := [(.int (f_kept (5 : Int32) (1 : Int32) (5 : Int32) v5 ([v5, (((240 : Int32) ||| (v3 >>> ((18 : Int32) &&& 31))).toInt8.toInt32), (((128 : Int32) ||| ((v3 >>> ((12 : Int32) &&& 31)) &&& (63 : Int32))).toInt8.toInt32), (((128 : Int32) ||| ((v3 >>> ((6 : Int32) &&& 31)) &&& (63 : Int32))).toInt8.toInt32), (((128 : Int32) ||| (v3 &&& (63 : Int32))).toInt8.toInt32), v5])))]) (fun T S => ?_)
                        refine o_if S at_286 (by decide) (q' := 291) (by decide) (q := 289) rfl hs_ne.1 hs_ne.2 (fun hc286 => ?_) (fun hc286 => ?_)
                        · skip
                          refine o_aload S rfl rfl at_291 rfl (q := 293) ?_
                          refine o_iload S rfl at_293 rfl (q := 295) ?_
                          refine o_baload S A_b6 (by decide) (by show (1 : Int) < 6; decide) (v := (((240 : Int32) ||| (v3 >>> ((18 : Int32) &&& 31))).toInt8.toInt32)) rfl at_295 rfl (q := 296) ?_
                          refine o_sipush S (z := 255) rfl at_296 rfl (q := 299) ?_
                          refine o_iand S at_299 rfl (q := 300) ?_
                          refine o_istoreV S (L' := fun v46 => #[.val (.int p0), .val (.int p1), .val (.int p2), .val (.int p3), .val (.int v1), .val (.int v2), .val (.int v3), .val (.int (1 : Int32)), .val (.int v5), .val (.ref b6), .val (.int (5 : Int32)), .val (.int (4 : Int32)), .val (.int v46), .unset, .unset, .unset]) (fun _ => rfl) at_300 rfl (q := 302) (fun v46 hv46 => ?_)
                          have hb0 := four_h v3 v46 hv46 hcp.1 hcp.2
                          refine o_iload S rfl at_302 rfl (q := 304) ?_
                          refine o_iconst S (z := 1) rfl at_304 rfl (q := 305) ?_
                          refine o_icmp S at_305 (by decide) (q' := 321) (by decide) (q := 308) rfl hs_ne.1 hs_ne.2 (fun hc305 => ?_) (fun hc305 => ?_)
                          · skip
                            refine o_aload S rfl rfl at_321 rfl (q := 323) ?_
                            refine o_iload S rfl at_323 rfl (q := 325) ?_
                            refine o_iconst S (z := 1) rfl at_325 rfl (q := 326) ?_
                            refine o_iadd S at_326 rfl (q := 327) ?_
                            refine o_baload S A_b6 (by decide) (by show (2 : Int) < 6; decide) (v := (((128 : Int32) ||| ((v3 >>> ((12 : Int32) &&& 31)) &&& (63 : Int32))).toInt8.toInt32)) rfl at_327 rfl (q := 328) ?_
                            refine o_sipush S (z := 255) rfl at_328 rfl (q := 331) ?_
                            refine o_iand S at_331 rfl (q := 332) ?_
                            refine o_istoreV S (L' := fun v47 => #[.val (.int p0), .val (.int p1), .val (.int p2), .val (.int p3), .val (.int v1), .val (.int v2), .val (.int v3), .val (.int (1 : Int32)), .val (.int v5), .val (.ref b6), .val (.int (5 : Int32)), .val (.int (4 : Int32)), .val (.int v46), .val (.int v47), .unset, .unset]) (fun _ => rfl) at_332 rfl (q := 334) (fun v47 hv47 => ?_)
                            have hb1 : v47.toInt = 128 + v3.toInt / 4096 % 64 := (cbyte _ _ hv47).trans (by rw [sh12])
                            refine o_iload S rfl at_334 rfl (q := 336) ?_
                            refine o_callS0 S (W := 0) (argsL := [(.int v47)]) (rest := []) (o_wd (i := 13) hw rfl) (o_wd (i := 14) hw rfl) (o_wd (i := 8) hw rfl) (o_wd (i := 15) hw rfl) (by decide) (ct_3 l Z a0 hw v47 h44 n0 (o_n0 S)) (by decide) (by decide) rfl rfl pd_2 rfl (Nat.le_of_eq rfl) at_336 rfl (q := 339) (by decide) (by decide) rfl (st' := [(.int (f_cont v47))]) (fun T S => ?_)
                            refine o_if S at_339 (by decide) (q' := 344) (by decide) (q := 342) rfl hs_ne.1 hs_ne.2 (fun hc339 => ?_) (fun hc339 => ?_)
                            · skip
                              refine o_iload S rfl at_344 rfl (q := 346) ?_
                              refine o_iconst S (z := 2) rfl at_346 rfl (q := 347) ?_
                              refine o_icmp S at_347 (by decide) (q' := 387) (by decide) (q := 350) rfl hs_ne.1 hs_ne.2 (fun hc347 => ?_) (fun hc347 => ?_)
                              · skip
                                refine o_aload S rfl rfl at_387 rfl (q := 389) ?_
                                refine o_iload S rfl at_389 rfl (q := 391) ?_
                                refine o_iconst S (z := 2) rfl at_391 rfl (q := 392) ?_
                                refine o_iadd S at_392 rfl (q := 393) ?_
                                refine o_baload S A_b6 (by decide) (by show (3 : Int) < 6; decide) (v := (((128 : Int32) ||| ((v3 >>> ((6 : Int32) &&& 31)) &&& (63 : Int32))).toInt8.toInt32)) rfl at_393 rfl (q := 394) ?_
                                refine o_sipush S (z := 255) rfl at_394 rfl (q := 397) ?_
                                refine o_iand S at_397 rfl (q := 398) ?_
                                refine o_istoreV S (L' := fun v48 => #[.val (.int p0), .val (.int p1), .val (.int p2), .val (.int p3), .val (.int v1), .val (.int v2), .val (.int v3), .val (.int (1 : Int32)), .val (.int v5), .val (.ref b6), .val (.int (5 : Int32)), .val (.int (4 : Int32)), .val (.int v46), .val (.int v47), .val (.int v48), .unset]) (fun _ => rfl) at_398 rfl (q := 400) (fun v48 hv48 => ?_)
                                have hb2 : v48.toInt = 128 + v3.toInt / 64 % 64 := (cbyte _ _ hv48).trans (by rw [sh6])
                                refine o_iload S rfl at_400 rfl (q := 402) ?_
                                refine o_callS0 S (W := 0) (argsL := [(.int v48)]) (rest := []) (o_wd (i := 13) hw rfl) (o_wd (i := 14) hw rfl) (o_wd (i := 8) hw rfl) (o_wd (i := 15) hw rfl) (by decide) (ct_3 l Z a0 hw v48 h44 n0 (o_n0 S)) (by decide) (by decide) rfl rfl pd_2 rfl (Nat.le_of_eq rfl) at_402 rfl (q := 405) (by decide) (by decide) rfl (st' := [(.int (f_cont v48))]) (fun T S => ?_)
                                refine o_if S at_405 (by decide) (q' := 410) (by decide) (q := 408) rfl hs_ne.1 hs_ne.2 (fun hc405 => ?_) (fun hc405 => ?_)
                                · skip
                                  refine o_iload S rfl at_410 rfl (q := 412) ?_
                                  refine o_iconst S (z := 3) rfl at_412 rfl (q := 413) ?_
                                  refine o_icmp S at_413 (by decide) (q' := 462) (by decide) (q := 416) rfl hs_ne.1 hs_ne.2 (fun hc413 => ?_) (fun hc413 => ?_)
                                  · skip
                                    refine o_aload S rfl rfl at_462 rfl (q := 464) ?_
                                    refine o_iload S rfl at_464 rfl (q := 466) ?_
                                    refine o_iconst S (z := 3) rfl at_466 rfl (q := 467) ?_
                                    refine o_iadd S at_467 rfl (q := 468) ?_
                                    refine o_baload S A_b6 (by decide) (by show (4 : Int) < 6; decide) (v := (((128 : Int32) ||| (v3 &&& (63 : Int32))).toInt8.toInt32)) rfl at_468 rfl (q := 469) ?_
                                    refine o_sipush S (z := 255) rfl at_469 rfl (q := 472) ?_
                                    refine o_iand S at_472 rfl (q := 473) ?_
                                    refine o_istoreV S (L' := fun v49 => #[.val (.int p0), .val (.int p1), .val (.int p2), .val (.int p3), .val (.int v1), .val (.int v2), .val (.int v3), .val (.int (1 : Int32)), .val (.int v5), .val (.ref b6), .val (.int (5 : Int32)), .val (.int (4 : Int32)), .val (.int v46), .val (.int v47), .val (.int v48), .val (.int v49)]) (fun _ => rfl) at_473 rfl (q := 475) (fun v49 hv49 => ?_)
                                    have hb3 : v49.toInt = 128 + v3.toInt % 64 := cbyte _ _ hv49
                                    refine o_iload S rfl at_475 rfl (q := 477) ?_
                                    refine o_callS0 S (W := 0) (argsL := [(.int v49)]) (rest := []) (o_wd (i := 13) hw rfl) (o_wd (i := 14) hw rfl) (o_wd (i := 8) hw rfl) (o_wd (i := 15) hw rfl) (by decide) (ct_3 l Z a0 hw v49 h44 n0 (o_n0 S)) (by decide) (by decide) rfl rfl pd_2 rfl (Nat.le_of_eq rfl) at_477 rfl (q := 480) (by decide) (by decide) rfl (st' := [(.int (f_cont v49))]) (fun T S => ?_)
                                    refine o_if S at_480 (by decide) (q' := 485) (by decide) (q := 483) rfl hs_ne.1 hs_ne.2 (fun hc480 => ?_) (fun hc480 => ?_)
                                    · skip
                                      refine o_iload S rfl at_485 rfl (q := 487) ?_
                                      refine o_sipush S (z := 248) rfl at_487 rfl (q := 490) ?_
                                      refine o_iand S at_490 rfl (q := 491) ?_
                                      refine o_sipush S (z := 240) rfl at_491 rfl (q := 494) ?_
                                      refine o_icmp S at_494 (by decide) (q' := 538) (by decide) (q := 497) rfl hs_ne.1 hs_ne.2 (fun hc494 => ?_) (fun hc494 => ?_)
                                      · exact absurd (four_t _ _ hb0 (by omega) (by omega)) hc494
                                      · skip
                                        refine o_iload S rfl at_497 rfl (q := 499) ?_
                                        refine o_bipush S (z := 7) rfl at_499 rfl (q := 501) ?_
                                        refine o_iand S at_501 rfl (q := 502) ?_
                                        refine o_bipush S (z := 18) rfl at_502 rfl (q := 504) ?_
                                        refine o_ishl S at_504 rfl (q := 505) ?_
                                        refine o_iload S rfl at_505 rfl (q := 507) ?_
                                        refine o_bipush S (z := 63) rfl at_507 rfl (q := 509) ?_
                                        refine o_iand S at_509 rfl (q := 510) ?_
                                        refine o_bipush S (z := 12) rfl at_510 rfl (q := 512) ?_
                                        refine o_ishl S at_512 rfl (q := 513) ?_
                                        refine o_ior S at_513 rfl (q := 514) ?_
                                        refine o_iload S rfl at_514 rfl (q := 516) ?_
                                        refine o_bipush S (z := 63) rfl at_516 rfl (q := 518) ?_
                                        refine o_iand S at_518 rfl (q := 519) ?_
                                        refine o_bipush S (z := 6) rfl at_519 rfl (q := 521) ?_
                                        refine o_ishl S at_521 rfl (q := 522) ?_
                                        refine o_ior S at_522 rfl (q := 523) ?_
                                        refine o_iload S rfl at_523 rfl (q := 525) ?_
                                        refine o_bipush S (z := 63) rfl at_525 rfl (q := 527) ?_
                                        refine o_iand S at_527 rfl (q := 528) ?_
                                        refine o_ior S at_528 rfl (q := 529) ?_
                                        refine o_iload S rfl at_529 rfl (q := 531) ?_
                                        refine o_icmp S at_531 (by decide) (q' := 538) (by decide) (q := 534) rfl hs_ne.1 hs_ne.2 (fun hc531 => ?_) (fun hc531 => ?_)
                                        · exact absurd (four_e _ _ _ _ _ hcp.1 hcp.2 hb0 hb1 hb2 hb3) hc531
                                        · skip
                                          refine o_iconst S (z := 1) rfl at_534 rfl (q := 535) ?_
                                          refine o_goto S at_535 (by decide) (q := 539) (by decide) ?_
                                          refine o_retN S (t := .boolean) rfl (by simp) at_539 (by decide) (by decide) rfl ?_
                                          rfl
                                    · exact absurd (Decidable.not_not.mp hc480) (cont_ok _ _ hb3 (by omega) (by omega))
                                  · exact absurd hc413 (by decide)
                                · exact absurd (Decidable.not_not.mp hc405) (cont_ok _ _ hb2 (by omega) (by omega))
                              · exact absurd hc347 (by decide)
                            · exact absurd (Decidable.not_not.mp hc339) (cont_ok _ _ hb1 (by omega) (by omega))
                          · exact absurd hc305 (by decide)
                        · exact absurd (Decidable.not_not.mp hc286) (by rw [f_kept, if_neg (by decide), if_neg (by decide), if_neg (fun q => q rfl)]; decide)
            · exact absurd hc194 (by decide)
          · exact absurd hc175 (by omega)
        · exact absurd hc162 (by omega)
      · exact absurd hc148 (by omega)
  · subst ho
    rcases hcp with hcp | hcp | hcp | hcp
    · skip
      refine o_iload S rfl at_132 rfl (q := 134) ?_
      refine o_aload S rfl rfl at_134 rfl (q := 136) ?_
      refine o_iload S rfl at_136 rfl (q := 138) ?_
      refine o_callS S (W := 0) (argsL := [(.int v3), (.ref b6), (.int (2 : Int32))]) (rest := []) (o_wd (i := 2) hw rfl) (o_wd (i := 3) hw rfl) (o_wd (i := 4) hw rfl) (o_wd (i := 5) hw rfl) (by decide) (ct_1 l Z a0 hw v3 b6 (2 : Int32) ([v5, v5, v5, v5, v5, v5]) h13 n0 (o_n0 S) A_b6 g_b6 (by decide) (by show (2 : Int) + 4 ≤ 6; decide)) (by decide) (by decide) rfl rfl pd_0 rfl (Nat.le_of_eq rfl) at_138 rfl (q := 141) (by decide) (by decide) (fun T h50 rr51 S hQ => ?_)
      obtain ⟨hv, K1, A_b6'⟩ := hQ
      subst hv
      have A_b6 := A_b6'
      show Wp p e below (Po s n0 room_1 Q0) T (mkF m 141 #[.val (.int p0), .val (.int p1), .val (.int p2), .val (.int p3), .val (.int v1), .val (.int v2), .val (.int v3), .val (.int (2 : Int32)), .val (.int v5), .val (.ref b6), .unset, .unset, .unset, .unset, .unset, .unset] [(.int (encN v3 (2 : Int32)))])
      have hend : encN v3 (2 : Int32) = (3 : Int32) := by rw [encN, if_neg (by omega)]; rfl
      rw [hend]
      have A_b6 : IA Z h50 b6 .byte [v5, v5, (v3.toInt8.toInt32), v5, v5, v5] := by have q := A_b6; rw [encL, if_neg (by omega)] at q; exact q
      refine o_istore S (L' := #[.val (.int p0), .val (.int p1), .val (.int p2), .val (.int p3), .val (.int v1), .val (.int v2), .val (.int v3), .val (.int (2 : Int32)), .val (.int v5), .val (.ref b6), .val (.int (3 : Int32)), .unset, .unset, .unset, .unset, .unset]) rfl at_141 rfl (q := 143) ?_
      refine o_iload S rfl at_143 rfl (q := 145) ?_
      refine o_sipush S (z := 128) rfl at_145 rfl (q := 148) ?_
      refine o_icmp S at_148 (by decide) (q' := 157) (by decide) (q := 151) rfl (hs_ge (a := v3.toInt) (b := 128) rfl rfl).1 (hs_ge (a := v3.toInt) (b := 128) rfl rfl).2 (fun hc148 => ?_) (fun hc148 => ?_)
      · exact absurd hc148 (by omega)
      · skip
        refine o_iconst S (z := 1) rfl at_151 rfl (q := 152) ?_
        refine o_istore S (L' := #[.val (.int p0), .val (.int p1), .val (.int p2), .val (.int p3), .val (.int v1), .val (.int v2), .val (.int v3), .val (.int (2 : Int32)), .val (.int v5), .val (.ref b6), .val (.int (3 : Int32)), .val (.int (1 : Int32)), .unset, .unset, .unset, .unset]) rfl at_152 rfl (q := 154) ?_
        refine o_goto S at_154 (by decide) (q := 187) (by decide) ?_
        refine o_iload S rfl at_187 rfl (q := 189) ?_
        refine o_iload S rfl at_189 rfl (q := 191) ?_
        refine o_iload S rfl at_191 rfl (q := 193) ?_
        refine o_iadd S at_193 rfl (q := 194) ?_
        refine o_icmp S at_194 (by decide) (q' := 199) (by decide) (q := 197) rfl hs_eq.1 hs_eq.2 (fun hc194 => ?_) (fun hc194 => ?_)
        · skip
          refine o_aload S rfl rfl at_199 rfl (q := 201) ?_
          refine o_iconst S (z := 0) rfl at_201 rfl (q := 202) ?_
          refine o_iload S rfl at_202 rfl (q := 204) ?_
          refine o_iload S rfl at_204 rfl (q := 206) ?_
          refine o_iload S rfl at_206 rfl (q := 208) ?_
          refine o_callS0 S (W := 0) (argsL := [(.ref b6), (.int (0 : Int32)), (.int (2 : Int32)), (.int (3 : Int32)), (.int v5)]) (rest := []) (o_wd (i := 6) hw rfl) (o_wd (i := 7) hw rfl) (o_wd (i := 8) hw rfl) (o_wd (i := 9) hw rfl) (by decide) (ct_2 l Z a0 hw b6 (0 : Int32) (2 : Int32) (3 : Int32) v5 ([v5, v5, (v3.toInt8.toInt32), v5, v5, v5]) h50 n0 (o_n0 S) A_b6 (by decide) (by show (0 : Int) < 6; decide)) (by decide) (by decide) rfl rfl pd_1 rfl (Nat.le_of_eq rfl) at_208 rfl (q := 211) (by decide) (by decide) rfl (st' := [(.int (f_kept (0 : Int32) (2 : Int32) (3 : Int32) v5 ([v5, v5, (v3.toInt8.toInt32), v5, v5, v5])))]) (fun T S => ?_)
          refine o_if S at_211 (by decide) (q' := 289) (by decide) (q := 214) rfl hs_eq.1 hs_eq.2 (fun hc211 => ?_) (fun hc211 => ?_)
          · exact absurd hc211 (by rw [f_kept, if_pos (by decide), if_neg (fun q => q rfl)]; decide)
          · skip
            refine o_aload S rfl rfl at_214 rfl (q := 216) ?_
            refine o_iconst S (z := 1) rfl at_216 rfl (q := 217) ?_
            refine o_iload S rfl at_217 rfl (q := 219) ?_
            refine o_iload S rfl at_219 rfl (q := 221) ?_
            refine o_iload S rfl at_221 rfl (q := 223) ?_
            refine o_callS0 S (W := 0) (argsL := [(.ref b6), (.int (1 : Int32)), (.int (2 : Int32)), (.int (3 : Int32)), (.int v5)]) (rest := []) (o_wd (i := 6) hw rfl) (o_wd (i := 7) hw rfl) (o_wd (i := 8) hw rfl) (o_wd (i := 9) hw rfl) (by decide) (ct_2 l Z a0 hw b6 (1 : Int32) (2 : Int32) (3 : Int32) v5 ([v5, v5, (v3.toInt8.toInt32), v5, v5, v5]) h50 n0 (o_n0 S) A_b6 (by decide) (by show (1 : Int) < 6; decide)) (by decide) (by decide) rfl rfl pd_1 rfl (Nat.le_of_eq rfl) at_223 rfl (q := 226) (by decide) (by decide) rfl (st' := [(.int (f_kept (1 : Int32) (2 : Int32) (3 : Int32) v5 ([v5, v5, (v3.toInt8.toInt32), v5, v5, v5])))]) (fun T S => ?_)
            refine o_if S at_226 (by decide) (q' := 289) (by decide) (q := 229) rfl hs_eq.1 hs_eq.2 (fun hc226 => ?_) (fun hc226 => ?_)
            · exact absurd hc226 (by rw [f_kept, if_pos (by decide), if_neg (fun q => q rfl)]; decide)
            · skip
              refine o_aload S rfl rfl at_229 rfl (q := 231) ?_
              refine o_iconst S (z := 2) rfl at_231 rfl (q := 232) ?_
              refine o_iload S rfl at_232 rfl (q := 234) ?_
              refine o_iload S rfl at_234 rfl (q := 236) ?_
              refine o_iload S rfl at_236 rfl (q := 238) ?_
              refine o_callS0 S (W := 0) (argsL := [(.ref b6), (.int (2 : Int32)), (.int (2 : Int32)), (.int (3 : Int32)), (.int v5)]) (rest := []) (o_wd (i := 6) hw rfl) (o_wd (i := 7) hw rfl) (o_wd (i := 8) hw rfl) (o_wd (i := 9) hw rfl) (by decide) (ct_2 l Z a0 hw b6 (2 : Int32) (2 : Int32) (3 : Int32) v5 ([v5, v5, (v3.toInt8.toInt32), v5, v5, v5]) h50 n0 (o_n0 S) A_b6 (by decide) (by show (2 : Int) < 6; decide)) (by decide) (by decide) rfl rfl pd_1 rfl (Nat.le_of_eq rfl) at_238 rfl (q := 241) (by decide) (by decide) rfl (st' := [(.int (f_kept (2 : Int32) (2 : Int32) (3 : Int32) v5 ([v5, v5, (v3.toInt8.toInt32), v5, v5, v5])))]) (fun T S => ?_)
              refine o_if S at_241 (by decide) (q' := 289) (by decide) (q := 244) rfl hs_eq.1 hs_eq.2 (fun hc241 => ?_) (fun hc241 => ?_)
              · exact absurd hc241 (by rw [f_kept, if_neg (by decide), if_pos (by decide)]; decide)
              · skip
                refine o_aload S rfl rfl at_244 rfl (q := 246) ?_
                refine o_iconst S (z := 3) rfl at_246 rfl (q := 247) ?_
                refine o_iload S rfl at_247 rfl (q := 249) ?_
                refine o_iload S rfl at_249 rfl (q := 251) ?_
                refine o_iload S rfl at_251 rfl (q := 253) ?_
                refine o_callS0 S (W := 0) (argsL := [(.ref b6), (.int (3 : Int32)), (.int (2 : Int32)), (.int (3 : Int32)), (.int v5)]) (rest := []) (o_wd (i := 6) hw rfl) (o_wd (i := 7) hw rfl) (o_wd (i := 8) hw rfl) (o_wd (i := 9) hw rfl) (by decide) (ct_2 l Z a0 hw b6 (3 : Int32) (2 : Int32) (3 : Int32) v5 ([v5, v5, (v3.toInt8.toInt32), v5, v5, v5]) h50 n0 (o_n0 S) A_b6 (by decide) (by show (3 : Int) < 6; decide)) (by decide) (by decide) rfl rfl pd_1 rfl (Nat.le_of_eq rfl) at_253 rfl (q := 256) (by decide) (by decide) rfl (st' := [(.int (f_kept (3 : Int32) (2 : Int32) (3 : Int32) v5 ([v5, v5, (v3.toInt8.toInt32), v5, v5, v5])))]) (fun T S => ?_)
                refine o_if S at_256 (by decide) (q' := 289) (by decide) (q := 259) rfl hs_eq.1 hs_eq.2 (fun hc256 => ?_) (fun hc256 => ?_)
                · exact absurd hc256 (by rw [f_kept, if_neg (by decide), if_neg (by decide), if_neg (fun q => q rfl)]; decide)
                · skip
                  refine o_aload S rfl rfl at_259 rfl (q := 261) ?_
                  refine o_iconst S (z := 4) rfl at_261 rfl (q := 262) ?_
                  refine o_iload S rfl at_262 rfl (q := 264) ?_
                  refine o_iload S rfl at_264 rfl (q := 266) ?_
                  refine o_iload S rfl at_266 rfl (q := 268) ?_
                  refine o_callS0 S (W := 0) (argsL := [(.ref b6), (.int (4 : Int32)), (.int (2 : Int32)), (.int (3 : Int32)), (.int v5)]) (rest := []) (o_wd (i := 6) hw rfl) (o_wd (i := 7) hw rfl) (o_wd (i := 8) hw rfl) (o_wd (i := 9) hw rfl) (by decide) (ct_2 l Z a0 hw b6 (4 : Int32) (2 : Int32) (3 : Int32) v5 ([v5, v5, (v3.toInt8.toInt32), v5, v5, v5]) h50 n0 (o_n0 S) A_b6 (by decide) (by show (4 : Int) < 6; decide)) (by decide) (by decide) rfl rfl pd_1 rfl (Nat.le_of_eq rfl) at_268 rfl (q := 271) (by decide) (by decide) rfl (st' := [(.int (f_kept (4 : Int32) (2 : Int32) (3 : Int32) v5 ([v5, v5, (v3.toInt8.toInt32), v5, v5, v5])))]) (fun T S => ?_)
                  refine o_if S at_271 (by decide) (q' := 289) (by decide) (q := 274) rfl hs_eq.1 hs_eq.2 (fun hc271 => ?_) (fun hc271 => ?_)
                  · exact absurd hc271 (by rw [f_kept, if_neg (by decide), if_neg (by decide), if_neg (fun q => q rfl)]; decide)
                  · skip
                    refine o_aload S rfl rfl at_274 rfl (q := 276) ?_
                    refine o_iconst S (z := 5) rfl at_276 rfl (q := 277) ?_
                    refine o_iload S rfl at_277 rfl (q := 279) ?_
                    refine o_iload S rfl at_279 rfl (q := 281) ?_
                    refine o_iload S rfl at_281 rfl (q := 283) ?_
                    refine o_callS0 S (W := 0) (argsL := [(.ref b6), (.int (5 : Int32)), (.int (2 : Int32)), (.int (3 : Int32)), (.int v5)]) (rest := []) (o_wd (i := 6) hw rfl) (o_wd (i := 7) hw rfl) (o_wd (i := 8) hw rfl) (o_wd (i := 9) hw rfl) (by decide) (ct_2 l Z a0 hw b6 (5 : Int32) (2 : Int32) (3 : Int32) v5 ([v5, v5, (v3.toInt8.toInt32), v5, v5, v5]) h50 n0 (o_n0 S) A_b6 (by decide) (by show (5 : Int) < 6; decide)) (by decide) (by decide) rfl rfl pd_1 rfl (Nat.le_of_eq rfl) at_283 rfl (q := 286) (by decide) (by decide) rfl (st' := [(.int (f_kept (5 : Int32) (2 : Int32) (3 : Int32) v5 ([v5, v5, (v3.toInt8.toInt32), v5, v5, v5])))]) (fun T S => ?_)
                    refine o_if S at_286 (by decide) (q' := 291) (by decide) (q := 289) rfl hs_ne.1 hs_ne.2 (fun hc286 => ?_) (fun hc286 => ?_)
                    · skip
                      refine o_aload S rfl rfl at_291 rfl (q := 293) ?_
                      refine o_iload S rfl at_293 rfl (q := 295) ?_
                      refine o_baload S A_b6 (by decide) (by show (2 : Int) < 6; decide) (v := (v3.toInt8.toInt32)) rfl at_295 rfl (q := 296) ?_
                      refine o_sipush S (z := 255) rfl at_296 rfl (q := 299) ?_
                      refine o_iand S at_299 rfl (q := 300) ?_
                      refine o_istoreV S (L' := fun v52 => #[.val (.int p0), .val (.int p1), .val (.int p2), .val (.int p3), .val (.int v1), .val (.int v2), .val (.int v3), .val (.int (2 : Int32)), .val (.int v5), .val (.ref b6), .val (.int (3 : Int32)), .val (.int (1 : Int32)), .val (.int v52), .unset, .unset, .unset]) (fun _ => rfl) at_300 rfl (q := 302) (fun v52 hv52 => ?_)
                      refine o_iload S rfl at_302 rfl (q := 304) ?_
                      refine o_iconst S (z := 1) rfl at_304 rfl (q := 305) ?_
                      refine o_icmp S at_305 (by decide) (q' := 321) (by decide) (q := 308) rfl hs_ne.1 hs_ne.2 (fun hc305 => ?_) (fun hc305 => ?_)
                      · exact absurd hc305 (by decide)
                      · skip
                        refine o_iload S rfl at_308 rfl (q := 310) ?_
                        refine o_iload S rfl at_310 rfl (q := 312) ?_
                        refine o_icmp S at_312 (by decide) (q' := 319) (by decide) (q := 315) rfl hs_ne.1 hs_ne.2 (fun hc312 => ?_) (fun hc312 => ?_)
                        · exact absurd (one_ok _ _ hv52 hc0 hcp) hc312
                        · skip
                          refine o_iconst S (z := 1) rfl at_315 rfl (q := 316) ?_
                          refine o_goto S at_316 (by decide) (q := 320) (by decide) ?_
                          refine o_retN S (t := .boolean) rfl (by simp) at_320 (by decide) (by decide) rfl ?_
                          rfl
                    · exact absurd (Decidable.not_not.mp hc286) (by rw [f_kept, if_neg (by decide), if_neg (by decide), if_neg (fun q => q rfl)]; decide)
        · exact absurd hc194 (by decide)
    · skip
      refine o_iload S rfl at_132 rfl (q := 134) ?_
      refine o_aload S rfl rfl at_134 rfl (q := 136) ?_
      refine o_iload S rfl at_136 rfl (q := 138) ?_
      refine o_callS S (W := 0) (argsL := [(.int v3), (.ref b6), (.int (2 : Int32))]) (rest := []) (o_wd (i := 2) hw rfl) (o_wd (i := 3) hw rfl) (o_wd (i := 4) hw rfl) (o_wd (i := 5) hw rfl) (by decide) (ct_1 l Z a0 hw v3 b6 (2 : Int32) ([v5, v5, v5, v5, v5, v5]) h13 n0 (o_n0 S) A_b6 g_b6 (by decide) (by show (2 : Int) + 4 ≤ 6; decide)) (by decide) (by decide) rfl rfl pd_0 rfl (Nat.le_of_eq rfl) at_138 rfl (q := 141) (by decide) (by decide) (fun T h53 rr54 S hQ => ?_)
      obtain ⟨hv, K1, A_b6'⟩ := hQ
      subst hv
      have A_b6 := A_b6'
      show Wp p e below (Po s n0 room_1 Q0) T (mkF m 141 #[.val (.int p0), .val (.int p1), .val (.int p2), .val (.int p3), .val (.int v1), .val (.int v2), .val (.int v3), .val (.int (2 : Int32)), .val (.int v5), .val (.ref b6), .unset, .unset, .unset, .unset, .unset, .unset] [(.int (encN v3 (2 : Int32)))])
      have hend : encN v3 (2 : Int32) = (4 : Int32) := by rw [encN, if_pos (by omega), if_neg (by omega)]; rfl
      rw [hend]
      have A_b6 : IA Z h53 b6 .byte [v5, v5, (((192 : Int32) ||| (v3 >>> ((6 : Int32) &&& 31))).toInt8.toInt32), (((128 : Int32) ||| (v3 &&& (63 : Int32))).toInt8.toInt32), v5, v5] := by have q := A_b6; rw [encL, if_pos (by omega), if_neg (by omega)] at q; exact q
      refine o_istore S (L' := #[.val (.int p0), .val (.int p1), .val (.int p2), .val (.int p3), .val (.int v1), .val (.int v2), .val (.int v3), .val (.int (2 : Int32)), .val (.int v5), .val (.ref b6), .val (.int (4 : Int32)), .unset, .unset, .unset, .unset, .unset]) rfl at_141 rfl (q := 143) ?_
      refine o_iload S rfl at_143 rfl (q := 145) ?_
      refine o_sipush S (z := 128) rfl at_145 rfl (q := 148) ?_
      refine o_icmp S at_148 (by decide) (q' := 157) (by decide) (q := 151) rfl (hs_ge (a := v3.toInt) (b := 128) rfl rfl).1 (hs_ge (a := v3.toInt) (b := 128) rfl rfl).2 (fun hc148 => ?_) (fun hc148 => ?_)
      · skip
        refine o_iload S rfl at_157 rfl (q := 159) ?_
        refine o_sipush S (z := 2048) rfl at_159 rfl (q := 162) ?_
        refine o_icmp S at_162 (by decide) (q' := 171) (by decide) (q := 165) rfl (hs_ge (a := v3.toInt) (b := 2048) rfl rfl).1 (hs_ge (a := v3.toInt) (b := 2048) rfl rfl).2 (fun hc162 => ?_) (fun hc162 => ?_)
        · exact absurd hc162 (by omega)
        · skip
          refine o_iconst S (z := 2) rfl at_165 rfl (q := 166) ?_
          refine o_istore S (L' := #[.val (.int p0), .val (.int p1), .val (.int p2), .val (.int p3), .val (.int v1), .val (.int v2), .val (.int v3), .val (.int (2 : Int32)), .val (.int v5), .val (.ref b6), .val (.int (4 : Int32)), .val (.int (2 : Int32)), .unset, .unset, .unset, .unset]) rfl at_166 rfl (q := 168) ?_
          refine o_goto S at_168 (by decide) (q := 187) (by decide) ?_
          refine o_iload S rfl at_187 rfl (q := 189) ?_
          refine o_iload S rfl at_189 rfl (q := 191) ?_
          refine o_iload S rfl at_191 rfl (q := 193) ?_
          refine o_iadd S at_193 rfl (q := 194) ?_
          refine o_icmp S at_194 (by decide) (q' := 199) (by decide) (q := 197) rfl hs_eq.1 hs_eq.2 (fun hc194 => ?_) (fun hc194 => ?_)
          · skip
            refine o_aload S rfl rfl at_199 rfl (q := 201) ?_
            refine o_iconst S (z := 0) rfl at_201 rfl (q := 202) ?_
            refine o_iload S rfl at_202 rfl (q := 204) ?_
            refine o_iload S rfl at_204 rfl (q := 206) ?_
            refine o_iload S rfl at_206 rfl (q := 208) ?_
            refine o_callS0 S (W := 0) (argsL := [(.ref b6), (.int (0 : Int32)), (.int (2 : Int32)), (.int (4 : Int32)), (.int v5)]) (rest := []) (o_wd (i := 6) hw rfl) (o_wd (i := 7) hw rfl) (o_wd (i := 8) hw rfl) (o_wd (i := 9) hw rfl) (by decide) (ct_2 l Z a0 hw b6 (0 : Int32) (2 : Int32) (4 : Int32) v5 ([v5, v5, (((192 : Int32) ||| (v3 >>> ((6 : Int32) &&& 31))).toInt8.toInt32), (((128 : Int32) ||| (v3 &&& (63 : Int32))).toInt8.toInt32), v5, v5]) h53 n0 (o_n0 S) A_b6 (by decide) (by show (0 : Int) < 6; decide)) (by decide) (by decide) rfl rfl pd_1 rfl (Nat.le_of_eq rfl) at_208 rfl (q := 211) (by decide) (by decide) rfl (st' := [(.int (f_kept (0 : Int32) (2 : Int32) (4 : Int32) v5 ([v5, v5, (((192 : Int32) ||| (v3 >>> ((6 : Int32) &&& 31))).toInt8.toInt32), (((128 : Int32) ||| (v3 &&& (63 : Int32))).toInt8.toInt32), v5, v5])))]) (fun T S => ?_)
            refine o_if S at_211 (by decide) (q' := 289) (by decide) (q := 214) rfl hs_eq.1 hs_eq.2 (fun hc211 => ?_) (fun hc211 => ?_)
            · exact absurd hc211 (by rw [f_kept, if_pos (by decide), if_neg (fun q => q rfl)]; decide)
            · skip
              refine o_aload S rfl rfl at_214 rfl (q := 216) ?_
              refine o_iconst S (z := 1) rfl at_216 rfl (q := 217) ?_
              refine o_iload S rfl at_217 rfl (q := 219) ?_
              refine o_iload S rfl at_219 rfl (q := 221) ?_
              refine o_iload S rfl at_221 rfl (q := 223) ?_
              refine o_callS0 S (W := 0) (argsL := [(.ref b6), (.int (1 : Int32)), (.int (2 : Int32)), (.int (4 : Int32)), (.int v5)]) (rest := []) (o_wd (i := 6) hw rfl) (o_wd (i := 7) hw rfl) (o_wd (i := 8) hw rfl) (o_wd (i := 9) hw rfl) (by decide) (ct_2 l Z a0 hw b6 (1 : Int32) (2 : Int32) (4 : Int32) v5 ([v5, v5, (((192 : Int32) ||| (v3 >>> ((6 : Int32) &&& 31))).toInt8.toInt32), (((128 : Int32) ||| (v3 &&& (63 : Int32))).toInt8.toInt32), v5, v5]) h53 n0 (o_n0 S) A_b6 (by decide) (by show (1 : Int) < 6; decide)) (by decide) (by decide) rfl rfl pd_1 rfl (Nat.le_of_eq rfl) at_223 rfl (q := 226) (by decide) (by decide) rfl (st' := [(.int (f_kept (1 : Int32) (2 : Int32) (4 : Int32) v5 ([v5, v5, (((192 : Int32) ||| (v3 >>> ((6 : Int32) &&& 31))).toInt8.toInt32), (((128 : Int32) ||| (v3 &&& (63 : Int32))).toInt8.toInt32), v5, v5])))]) (fun T S => ?_)
              refine o_if S at_226 (by decide) (q' := 289) (by decide) (q := 229) rfl hs_eq.1 hs_eq.2 (fun hc226 => ?_) (fun hc226 => ?_)
              · exact absurd hc226 (by rw [f_kept, if_pos (by decide), if_neg (fun q => q rfl)]; decide)
              · skip
                refine o_aload S rfl rfl at_229 rfl (q := 231) ?_
                refine o_iconst S (z := 2) rfl at_231 rfl (q := 232) ?_
                refine o_iload S rfl at_232 rfl (q := 234) ?_
                refine o_iload S rfl at_234 rfl (q := 236) ?_
                refine o_iload S rfl at_236 rfl (q := 238) ?_
                refine o_callS0 S (W := 0) (argsL := [(.ref b6), (.int (2 : Int32)), (.int (2 : Int32)), (.int (4 : Int32)), (.int v5)]) (rest := []) (o_wd (i := 6) hw rfl) (o_wd (i := 7) hw rfl) (o_wd (i := 8) hw rfl) (o_wd (i := 9) hw rfl) (by decide) (ct_2 l Z a0 hw b6 (2 : Int32) (2 : Int32) (4 : Int32) v5 ([v5, v5, (((192 : Int32) ||| (v3 >>> ((6 : Int32) &&& 31))).toInt8.toInt32), (((128 : Int32) ||| (v3 &&& (63 : Int32))).toInt8.toInt32), v5, v5]) h53 n0 (o_n0 S) A_b6 (by decide) (by show (2 : Int) < 6; decide)) (by decide) (by decide) rfl rfl pd_1 rfl (Nat.le_of_eq rfl) at_238 rfl (q := 241) (by decide) (by decide) rfl (st' := [(.int (f_kept (2 : Int32) (2 : Int32) (4 : Int32) v5 ([v5, v5, (((192 : Int32) ||| (v3 >>> ((6 : Int32) &&& 31))).toInt8.toInt32), (((128 : Int32) ||| (v3 &&& (63 : Int32))).toInt8.toInt32), v5, v5])))]) (fun T S => ?_)
                refine o_if S at_241 (by decide) (q' := 289) (by decide) (q := 244) rfl hs_eq.1 hs_eq.2 (fun hc241 => ?_) (fun hc241 => ?_)
                · exact absurd hc241 (by rw [f_kept, if_neg (by decide), if_pos (by decide)]; decide)
                · skip
                  refine o_aload S rfl rfl at_244 rfl (q := 246) ?_
                  refine o_iconst S (z := 3) rfl at_246 rfl (q := 247) ?_
                  refine o_iload S rfl at_247 rfl (q := 249) ?_
                  refine o_iload S rfl at_249 rfl (q := 251) ?_
                  refine o_iload S rfl at_251 rfl (q := 253) ?_
                  refine o_callS0 S (W := 0) (argsL := [(.ref b6), (.int (3 : Int32)), (.int (2 : Int32)), (.int (4 : Int32)), (.int v5)]) (rest := []) (o_wd (i := 6) hw rfl) (o_wd (i := 7) hw rfl) (o_wd (i := 8) hw rfl) (o_wd (i := 9) hw rfl) (by decide) (ct_2 l Z a0 hw b6 (3 : Int32) (2 : Int32) (4 : Int32) v5 ([v5, v5, (((192 : Int32) ||| (v3 >>> ((6 : Int32) &&& 31))).toInt8.toInt32), (((128 : Int32) ||| (v3 &&& (63 : Int32))).toInt8.toInt32), v5, v5]) h53 n0 (o_n0 S) A_b6 (by decide) (by show (3 : Int) < 6; decide)) (by decide) (by decide) rfl rfl pd_1 rfl (Nat.le_of_eq rfl) at_253 rfl (q := 256) (by decide) (by decide) rfl (st' := [(.int (f_kept (3 : Int32) (2 : Int32) (4 : Int32) v5 ([v5, v5, (((192 : Int32) ||| (v3 >>> ((6 : Int32) &&& 31))).toInt8.toInt32), (((128 : Int32) ||| (v3 &&& (63 : Int32))).toInt8.toInt32), v5, v5])))]) (fun T S => ?_)
                  refine o_if S at_256 (by decide) (q' := 289) (by decide) (q := 259) rfl hs_eq.1 hs_eq.2 (fun hc256 => ?_) (fun hc256 => ?_)
                  · exact absurd hc256 (by rw [f_kept, if_neg (by decide), if_pos (by decide)]; decide)
                  · skip
                    refine o_aload S rfl rfl at_259 rfl (q := 261) ?_
                    refine o_iconst S (z := 4) rfl at_261 rfl (q := 262) ?_
                    refine o_iload S rfl at_262 rfl (q := 264) ?_
                    refine o_iload S rfl at_264 rfl (q := 266) ?_
                    refine o_iload S rfl at_266 rfl (q := 268) ?_
                    refine o_callS0 S (W := 0) (argsL := [(.ref b6), (.int (4 : Int32)), (.int (2 : Int32)), (.int (4 : Int32)), (.int v5)]) (rest := []) (o_wd (i := 6) hw rfl) (o_wd (i := 7) hw rfl) (o_wd (i := 8) hw rfl) (o_wd (i := 9) hw rfl) (by decide) (ct_2 l Z a0 hw b6 (4 : Int32) (2 : Int32) (4 : Int32) v5 ([v5, v5, (((192 : Int32) ||| (v3 >>> ((6 : Int32) &&& 31))).toInt8.toInt32), (((128 : Int32) ||| (v3 &&& (63 : Int32))).toInt8.toInt32), v5, v5]) h53 n0 (o_n0 S) A_b6 (by decide) (by show (4 : Int) < 6; decide)) (by decide) (by decide) rfl rfl pd_1 rfl (Nat.le_of_eq rfl) at_268 rfl (q := 271) (by decide) (by decide) rfl (st' := [(.int (f_kept (4 : Int32) (2 : Int32) (4 : Int32) v5 ([v5, v5, (((192 : Int32) ||| (v3 >>> ((6 : Int32) &&& 31))).toInt8.toInt32), (((128 : Int32) ||| (v3 &&& (63 : Int32))).toInt8.toInt32), v5, v5])))]) (fun T S => ?_)
                    refine o_if S at_271 (by decide) (q' := 289) (by decide) (q := 274) rfl hs_eq.1 hs_eq.2 (fun hc271 => ?_) (fun hc271 => ?_)
                    · exact absurd hc271 (by rw [f_kept, if_neg (by decide), if_neg (by decide), if_neg (fun q => q rfl)]; decide)
                    · skip
                      refine o_aload S rfl rfl at_274 rfl (q := 276) ?_
                      refine o_iconst S (z := 5) rfl at_276 rfl (q := 277) ?_
                      refine o_iload S rfl at_277 rfl (q := 279) ?_
                      refine o_iload S rfl at_279 rfl (q := 281) ?_
                      refine o_iload S rfl at_281 rfl (q := 283) ?_
                      refine o_callS0 S (W := 0) (argsL := [(.ref b6), (.int (5 : Int32)), (.int (2 : Int32)), (.int (4 : Int32)), (.int v5)]) (rest := []) (o_wd (i := 6) hw rfl) (o_wd (i := 7) hw rfl) (o_wd (i := 8) hw rfl) (o_wd (i := 9) hw rfl) (by decide) (ct_2 l Z a0 hw b6 (5 : Int32) (2 : Int32) (4 : Int32) v5 ([v5, v5, (((192 : Int32) ||| (v3 >>> ((6 : Int32) &&& 31))).toInt8.toInt32), (((128 : Int32) ||| (v3 &&& (63 : Int32))).toInt8.toInt32), v5, v5]) h53 n0 (o_n0 S) A_b6 (by decide) (by show (5 : Int) < 6; decide)) (by decide) (by decide) rfl rfl pd_1 rfl (Nat.le_of_eq rfl) at_283 rfl (q := 286) (by decide) (by decide) rfl (st' := [(.int (f_kept (5 : Int32) (2 : Int32) (4 : Int32) v5 ([v5, v5, (((192 : Int32) ||| (v3 >>> ((6 : Int32) &&& 31))).toInt8.toInt32), (((128 : Int32) ||| (v3 &&& (63 : Int32))).toInt8.toInt32), v5, v5])))]) (fun T S => ?_)
                      refine o_if S at_286 (by decide) (q' := 291) (by decide) (q := 289) rfl hs_ne.1 hs_ne.2 (fun hc286 => ?_) (fun hc286 => ?_)
                      · skip
                        refine o_aload S rfl rfl at_291 rfl (q := 293) ?_
                        refine o_iload S rfl at_293 rfl (q := 295) ?_
                        refine o_baload S A_b6 (by decide) (by show (2 : Int) < 6; decide) (v := (((192 : Int32) ||| (v3 >>> ((6 : Int32) &&& 31))).toInt8.toInt32)) rfl at_295 rfl (q := 296) ?_
                        refine o_sipush S (z := 255) rfl at_296 rfl (q := 299) ?_
                        refine o_iand S at_299 rfl (q := 300) ?_
                        refine o_istoreV S (L' := fun v55 => #[.val (.int p0), .val (.int p1), .val (.int p2), .val (.int p3), .val (.int v1), .val (.int v2), .val (.int v3), .val (.int (2 : Int32)), .val (.int v5), .val (.ref b6), .val (.int (4 : Int32)), .val (.int (2 : Int32)), .val (.int v55), .unset, .unset, .unset]) (fun _ => rfl) at_300 rfl (q := 302) (fun v55 hv55 => ?_)
                        have hb0 := two_h v3 v55 hv55 hcp.1 hcp.2
                        refine o_iload S rfl at_302 rfl (q := 304) ?_
                        refine o_iconst S (z := 1) rfl at_304 rfl (q := 305) ?_
                        refine o_icmp S at_305 (by decide) (q' := 321) (by decide) (q := 308) rfl hs_ne.1 hs_ne.2 (fun hc305 => ?_) (fun hc305 => ?_)
                        · skip
                          refine o_aload S rfl rfl at_321 rfl (q := 323) ?_
                          refine o_iload S rfl at_323 rfl (q := 325) ?_
                          refine o_iconst S (z := 1) rfl at_325 rfl (q := 326) ?_
                          refine o_iadd S at_326 rfl (q := 327) ?_
                          refine o_baload S A_b6 (by decide) (by show (3 : Int) < 6; decide) (v := (((128 : Int32) ||| (v3 &&& (63 : Int32))).toInt8.toInt32)) rfl at_327 rfl (q := 328) ?_
                          refine o_sipush S (z := 255) rfl at_328 rfl (q := 331) ?_
                          refine o_iand S at_331 rfl (q := 332) ?_
                          refine o_istoreV S (L' := fun v56 => #[.val (.int p0), .val (.int p1), .val (.int p2), .val (.int p3), .val (.int v1), .val (.int v2), .val (.int v3), .val (.int (2 : Int32)), .val (.int v5), .val (.ref b6), .val (.int (4 : Int32)), .val (.int (2 : Int32)), .val (.int v55), .val (.int v56), .unset, .unset]) (fun _ => rfl) at_332 rfl (q := 334) (fun v56 hv56 => ?_)
                          have hb1 : v56.toInt = 128 + v3.toInt % 64 := cbyte _ _ hv56
                          refine o_iload S rfl at_334 rfl (q := 336) ?_
                          refine o_callS0 S (W := 0) (argsL := [(.int v56)]) (rest := []) (o_wd (i := 13) hw rfl) (o_wd (i := 14) hw rfl) (o_wd (i := 8) hw rfl) (o_wd (i := 15) hw rfl) (by decide) (ct_3 l Z a0 hw v56 h53 n0 (o_n0 S)) (by decide) (by decide) rfl rfl pd_2 rfl (Nat.le_of_eq rfl) at_336 rfl (q := 339) (by decide) (by decide) rfl (st' := [(.int (f_cont v56))]) (fun T S => ?_)
                          refine o_if S at_339 (by decide) (q' := 344) (by decide) (q := 342) rfl hs_ne.1 hs_ne.2 (fun hc339 => ?_) (fun hc339 => ?_)
                          · skip
                            refine o_iload S rfl at_344 rfl (q := 346) ?_
                            refine o_iconst S (z := 2) rfl at_346 rfl (q := 347) ?_
                            refine o_icmp S at_347 (by decide) (q' := 387) (by decide) (q := 350) rfl hs_ne.1 hs_ne.2 (fun hc347 => ?_) (fun hc347 => ?_)
                            · exact absurd hc347 (by decide)
                            · skip
                              refine o_iload S rfl at_350 rfl (q := 352) ?_
                              refine o_sipush S (z := 224) rfl at_352 rfl (q := 355) ?_
                              refine o_iand S at_355 rfl (q := 356) ?_
                              refine o_sipush S (z := 192) rfl at_356 rfl (q := 359) ?_
                              refine o_icmp S at_359 (by decide) (q' := 385) (by decide) (q := 362) rfl hs_ne.1 hs_ne.2 (fun hc359 => ?_) (fun hc359 => ?_)
                              · exact absurd (two_t _ _ hb0 (by omega) (by omega)) hc359
                              · skip
                                refine o_iload S rfl at_362 rfl (q := 364) ?_
                                refine o_bipush S (z := 31) rfl at_364 rfl (q := 366) ?_
                                refine o_iand S at_366 rfl (q := 367) ?_
                                refine o_bipush S (z := 6) rfl at_367 rfl (q := 369) ?_
                                refine o_ishl S at_369 rfl (q := 370) ?_
                                refine o_iload S rfl at_370 rfl (q := 372) ?_
                                refine o_bipush S (z := 63) rfl at_372 rfl (q := 374) ?_
                                refine o_iand S at_374 rfl (q := 375) ?_
                                refine o_ior S at_375 rfl (q := 376) ?_
                                refine o_iload S rfl at_376 rfl (q := 378) ?_
                                refine o_icmp S at_378 (by decide) (q' := 385) (by decide) (q := 381) rfl hs_ne.1 hs_ne.2 (fun hc378 => ?_) (fun hc378 => ?_)
                                · exact absurd (two_e _ _ _ hcp.1 hcp.2 hb0 hb1) hc378
                                · skip
                                  refine o_iconst S (z := 1) rfl at_381 rfl (q := 382) ?_
                                  refine o_goto S at_382 (by decide) (q := 386) (by decide) ?_
                                  refine o_retN S (t := .boolean) rfl (by simp) at_386 (by decide) (by decide) rfl ?_
                                  rfl
                          · exact absurd (Decidable.not_not.mp hc339) (cont_ok _ _ hb1 (by omega) (by omega))
                        · exact absurd hc305 (by decide)
                      · exact absurd (Decidable.not_not.mp hc286) (by rw [f_kept, if_neg (by decide), if_neg (by decide), if_neg (fun q => q rfl)]; decide)
          · exact absurd hc194 (by decide)
      · exact absurd hc148 (by omega)
    · skip
      refine o_iload S rfl at_132 rfl (q := 134) ?_
      refine o_aload S rfl rfl at_134 rfl (q := 136) ?_
      refine o_iload S rfl at_136 rfl (q := 138) ?_
      refine o_callS S (W := 0) (argsL := [(.int v3), (.ref b6), (.int (2 : Int32))]) (rest := []) (o_wd (i := 2) hw rfl) (o_wd (i := 3) hw rfl) (o_wd (i := 4) hw rfl) (o_wd (i := 5) hw rfl) (by decide) (ct_1 l Z a0 hw v3 b6 (2 : Int32) ([v5, v5, v5, v5, v5, v5]) h13 n0 (o_n0 S) A_b6 g_b6 (by decide) (by show (2 : Int) + 4 ≤ 6; decide)) (by decide) (by decide) rfl rfl pd_0 rfl (Nat.le_of_eq rfl) at_138 rfl (q := 141) (by decide) (by decide) (fun T h57 rr58 S hQ => ?_)
      obtain ⟨hv, K1, A_b6'⟩ := hQ
      subst hv
      have A_b6 := A_b6'
      show Wp p e below (Po s n0 room_1 Q0) T (mkF m 141 #[.val (.int p0), .val (.int p1), .val (.int p2), .val (.int p3), .val (.int v1), .val (.int v2), .val (.int v3), .val (.int (2 : Int32)), .val (.int v5), .val (.ref b6), .unset, .unset, .unset, .unset, .unset, .unset] [(.int (encN v3 (2 : Int32)))])
      have hend : encN v3 (2 : Int32) = (5 : Int32) := by rw [encN, if_pos (by omega), if_pos (by omega), if_neg (by omega)]; rfl
      rw [hend]
      have A_b6 : IA Z h57 b6 .byte [v5, v5, (((224 : Int32) ||| (v3 >>> ((12 : Int32) &&& 31))).toInt8.toInt32), (((128 : Int32) ||| ((v3 >>> ((6 : Int32) &&& 31)) &&& (63 : Int32))).toInt8.toInt32), (((128 : Int32) ||| (v3 &&& (63 : Int32))).toInt8.toInt32), v5] := by have q := A_b6; rw [encL, if_pos (by omega), if_pos (by omega), if_neg (by omega)] at q; exact q
      refine o_istore S (L' := #[.val (.int p0), .val (.int p1), .val (.int p2), .val (.int p3), .val (.int v1), .val (.int v2), .val (.int v3), .val (.int (2 : Int32)), .val (.int v5), .val (.ref b6), .val (.int (5 : Int32)), .unset, .unset, .unset, .unset, .unset]) rfl at_141 rfl (q := 143) ?_
      refine o_iload S rfl at_143 rfl (q := 145) ?_
      refine o_sipush S (z := 128) rfl at_145 rfl (q := 148) ?_
      refine o_icmp S at_148 (by decide) (q' := 157) (by decide) (q := 151) rfl (hs_ge (a := v3.toInt) (b := 128) rfl rfl).1 (hs_ge (a := v3.toInt) (b := 128) rfl rfl).2 (fun hc148 => ?_) (fun hc148 => ?_)
      · skip
        refine o_iload S rfl at_157 rfl (q := 159) ?_
        refine o_sipush S (z := 2048) rfl at_159 rfl (q := 162) ?_
        refine o_icmp S at_162 (by decide) (q' := 171) (by decide) (q := 165) rfl (hs_ge (a := v3.toInt) (b := 2048) rfl rfl).1 (hs_ge (a := v3.toInt) (b := 2048) rfl rfl).2 (fun hc162 => ?_) (fun hc162 => ?_)
        · skip
          refine o_iload S rfl at_171 rfl (q := 173) ?_
          refine o_ldc S (o_wd (i := 10) hw rfl) at_173 rfl (q := 175) ?_
          refine o_icmp S at_175 (by decide) (q' := 184) (by decide) (q := 178) rfl (hs_ge (a := v3.toInt) (b := 65536) rfl rfl).1 (hs_ge (a := v3.toInt) (b := 65536) rfl rfl).2 (fun hc175 => ?_) (fun hc175 => ?_)
          · exact absurd hc175 (by omega)
          · skip
            refine o_iconst S (z := 3) rfl at_178 rfl (q := 179) ?_
            refine o_istore S (L' := #[.val (.int p0), .val (.int p1), .val (.int p2), .val (.int p3), .val (.int v1), .val (.int v2), .val (.int v3), .val (.int (2 : Int32)), .val (.int v5), .val (.ref b6), .val (.int (5 : Int32)), .val (.int (3 : Int32)), .unset, .unset, .unset, .unset]) rfl at_179 rfl (q := 181) ?_
            refine o_goto S at_181 (by decide) (q := 187) (by decide) ?_
            refine o_iload S rfl at_187 rfl (q := 189) ?_
            refine o_iload S rfl at_189 rfl (q := 191) ?_
            refine o_iload S rfl at_191 rfl (q := 193) ?_
            refine o_iadd S at_193 rfl (q := 194) ?_
            refine o_icmp S at_194 (by decide) (q' := 199) (by decide) (q := 197) rfl hs_eq.1 hs_eq.2 (fun hc194 => ?_) (fun hc194 => ?_)
            · skip
              refine o_aload S rfl rfl at_199 rfl (q := 201) ?_
              refine o_iconst S (z := 0) rfl at_201 rfl (q := 202) ?_
              refine o_iload S rfl at_202 rfl (q := 204) ?_
              refine o_iload S rfl at_204 rfl (q := 206) ?_
              refine o_iload S rfl at_206 rfl (q := 208) ?_
              refine o_callS0 S (W := 0) (argsL := [(.ref b6), (.int (0 : Int32)), (.int (2 : Int32)), (.int (5 : Int32)), (.int v5)]) (rest := []) (o_wd (i := 6) hw rfl) (o_wd (i := 7) hw rfl) (o_wd (i := 8) hw rfl) (o_wd (i := 9) hw rfl) (by decide) (ct_2 l Z a0 hw b6 (0 : Int32) (2 : Int32) (5 : Int32) v5 ([v5, v5, (((224 : Int32) ||| (v3 >>> ((12 : Int32) &&& 31))).toInt8.toInt32), (((128 : Int32) ||| ((v3 >>> ((6 : Int32) &&& 31)) &&& (63 : Int32))).toInt8.toInt32), (((128 : Int32) ||| (v3 &&& (63 : Int32))).toInt8.toInt32), v5]) h57 n0 (o_n0 S) A_b6 (by decide) (by show (0 : Int) < 6; decide)) (by decide) (by decide) rfl rfl pd_1 rfl (Nat.le_of_eq rfl) at_208 rfl (q := 211) (by decide) (by decide) rfl (st' := [(.int (f_kept (0 : Int32) (2 : Int32) (5 : Int32) v5 ([v5, v5, (((224 : Int32) ||| (v3 >>> ((12 : Int32) &&& 31))).toInt8.toInt32), (((128 : Int32) ||| ((v3 >>> ((6 : Int32) &&& 31)) &&& (63 : Int32))).toInt8.toInt32), (((128 : Int32) ||| (v3 &&& (63 : Int32))).toInt8.toInt32), v5])))]) (fun T S => ?_)
              refine o_if S at_211 (by decide) (q' := 289) (by decide) (q := 214) rfl hs_eq.1 hs_eq.2 (fun hc211 => ?_) (fun hc211 => ?_)
              · exact absurd hc211 (by rw [f_kept, if_pos (by decide), if_neg (fun q => q rfl)]; decide)
              · skip
                refine o_aload S rfl rfl at_214 rfl (q := 216) ?_
                refine o_iconst S (z := 1) rfl at_216 rfl (q := 217) ?_
                refine o_iload S rfl at_217 rfl (q := 219) ?_
                refine o_iload S rfl at_219 rfl (q := 221) ?_
                refine o_iload S rfl at_221 rfl (q := 223) ?_
                refine o_callS0 S (W := 0) (argsL := [(.ref b6), (.int (1 : Int32)), (.int (2 : Int32)), (.int (5 : Int32)), (.int v5)]) (rest := []) (o_wd (i := 6) hw rfl) (o_wd (i := 7) hw rfl) (o_wd (i := 8) hw rfl) (o_wd (i := 9) hw rfl) (by decide) (ct_2 l Z a0 hw b6 (1 : Int32) (2 : Int32) (5 : Int32) v5 ([v5, v5, (((224 : Int32) ||| (v3 >>> ((12 : Int32) &&& 31))).toInt8.toInt32), (((128 : Int32) ||| ((v3 >>> ((6 : Int32) &&& 31)) &&& (63 : Int32))).toInt8.toInt32), (((128 : Int32) ||| (v3 &&& (63 : Int32))).toInt8.toInt32), v5]) h57 n0 (o_n0 S) A_b6 (by decide) (by show (1 : Int) < 6; decide)) (by decide) (by decide) rfl rfl pd_1 rfl (Nat.le_of_eq rfl) at_223 rfl (q := 226) (by decide) (by decide) rfl (st' := [(.int (f_kept (1 : Int32) (2 : Int32) (5 : Int32) v5 ([v5, v5, (((224 : Int32) ||| (v3 >>> ((12 : Int32) &&& 31))).toInt8.toInt32), (((128 : Int32) ||| ((v3 >>> ((6 : Int32) &&& 31)) &&& (63 : Int32))).toInt8.toInt32), (((128 : Int32) ||| (v3 &&& (63 : Int32))).toInt8.toInt32), v5])))]) (fun T S => ?_)
                refine o_if S at_226 (by decide) (q' := 289) (by decide) (q := 229) rfl hs_eq.1 hs_eq.2 (fun hc226 => ?_) (fun hc226 => ?_)
                · exact absurd hc226 (by rw [f_kept, if_pos (by decide), if_neg (fun q => q rfl)]; decide)
                · skip
                  refine o_aload S rfl rfl at_229 rfl (q := 231) ?_
                  refine o_iconst S (z := 2) rfl at_231 rfl (q := 232) ?_
                  refine o_iload S rfl at_232 rfl (q := 234) ?_
                  refine o_iload S rfl at_234 rfl (q := 236) ?_
                  refine o_iload S rfl at_236 rfl (q := 238) ?_
                  refine o_callS0 S (W := 0) (argsL := [(.ref b6), (.int (2 : Int32)), (.int (2 : Int32)), (.int (5 : Int32)), (.int v5)]) (rest := []) (o_wd (i := 6) hw rfl) (o_wd (i := 7) hw rfl) (o_wd (i := 8) hw rfl) (o_wd (i := 9) hw rfl) (by decide) (ct_2 l Z a0 hw b6 (2 : Int32) (2 : Int32) (5 : Int32) v5 ([v5, v5, (((224 : Int32) ||| (v3 >>> ((12 : Int32) &&& 31))).toInt8.toInt32), (((128 : Int32) ||| ((v3 >>> ((6 : Int32) &&& 31)) &&& (63 : Int32))).toInt8.toInt32), (((128 : Int32) ||| (v3 &&& (63 : Int32))).toInt8.toInt32), v5]) h57 n0 (o_n0 S) A_b6 (by decide) (by show (2 : Int) < 6; decide)) (by decide) (by decide) rfl rfl pd_1 rfl (Nat.le_of_eq rfl) at_238 rfl (q := 241) (by decide) (by decide) rfl (st' := [(.int (f_kept (2 : Int32) (2 : Int32) (5 : Int32) v5 ([v5, v5, (((224 : Int32) ||| (v3 >>> ((12 : Int32) &&& 31))).toInt8.toInt32), (((128 : Int32) ||| ((v3 >>> ((6 : Int32) &&& 31)) &&& (63 : Int32))).toInt8.toInt32), (((128 : Int32) ||| (v3 &&& (63 : Int32))).toInt8.toInt32), v5])))]) (fun T S => ?_)
                  refine o_if S at_241 (by decide) (q' := 289) (by decide) (q := 244) rfl hs_eq.1 hs_eq.2 (fun hc241 => ?_) (fun hc241 => ?_)
                  · exact absurd hc241 (by rw [f_kept, if_neg (by decide), if_pos (by decide)]; decide)
                  · skip
                    refine o_aload S rfl rfl at_244 rfl (q := 246) ?_
                    refine o_iconst S (z := 3) rfl at_246 rfl (q := 247) ?_
                    refine o_iload S rfl at_247 rfl (q := 249) ?_
                    refine o_iload S rfl at_249 rfl (q := 251) ?_
                    refine o_iload S rfl at_251 rfl (q := 253) ?_
                    refine o_callS0 S (W := 0) (argsL := [(.ref b6), (.int (3 : Int32)), (.int (2 : Int32)), (.int (5 : Int32)), (.int v5)]) (rest := []) (o_wd (i := 6) hw rfl) (o_wd (i := 7) hw rfl) (o_wd (i := 8) hw rfl) (o_wd (i := 9) hw rfl) (by decide) (ct_2 l Z a0 hw b6 (3 : Int32) (2 : Int32) (5 : Int32) v5 ([v5, v5, (((224 : Int32) ||| (v3 >>> ((12 : Int32) &&& 31))).toInt8.toInt32), (((128 : Int32) ||| ((v3 >>> ((6 : Int32) &&& 31)) &&& (63 : Int32))).toInt8.toInt32), (((128 : Int32) ||| (v3 &&& (63 : Int32))).toInt8.toInt32), v5]) h57 n0 (o_n0 S) A_b6 (by decide) (by show (3 : Int) < 6; decide)) (by decide) (by decide) rfl rfl pd_1 rfl (Nat.le_of_eq rfl) at_253 rfl (q := 256) (by decide) (by decide) rfl (st' := [(.int (f_kept (3 : Int32) (2 : Int32) (5 : Int32) v5 ([v5, v5, (((224 : Int32) ||| (v3 >>> ((12 : Int32) &&& 31))).toInt8.toInt32), (((128 : Int32) ||| ((v3 >>> ((6 : Int32) &&& 31)) &&& (63 : Int32))).toInt8.toInt32), (((128 : Int32) ||| (v3 &&& (63 : Int32))).toInt8.toInt32), v5])))]) (fun T S => ?_)
                    refine o_if S at_256 (by decide) (q' := 289) (by decide) (q := 259) rfl hs_eq.1 hs_eq.2 (fun hc256 => ?_) (fun hc256 => ?_)
                    · exact absurd hc256 (by rw [f_kept, if_neg (by decide), if_pos (by decide)]; decide)
                    · skip
                      refine o_aload S rfl rfl at_259 rfl (q := 261) ?_
                      refine o_iconst S (z := 4) rfl at_261 rfl (q := 262) ?_
                      refine o_iload S rfl at_262 rfl (q := 264) ?_
                      refine o_iload S rfl at_264 rfl (q := 266) ?_
                      refine o_iload S rfl at_266 rfl (q := 268) ?_
                      refine o_callS0 S (W := 0) (argsL := [(.ref b6), (.int (4 : Int32)), (.int (2 : Int32)), (.int (5 : Int32)), (.int v5)]) (rest := []) (o_wd (i := 6) hw rfl) (o_wd (i := 7) hw rfl) (o_wd (i := 8) hw rfl) (o_wd (i := 9) hw rfl) (by decide) (ct_2 l Z a0 hw b6 (4 : Int32) (2 : Int32) (5 : Int32) v5 ([v5, v5, (((224 : Int32) ||| (v3 >>> ((12 : Int32) &&& 31))).toInt8.toInt32), (((128 : Int32) ||| ((v3 >>> ((6 : Int32) &&& 31)) &&& (63 : Int32))).toInt8.toInt32), (((128 : Int32) ||| (v3 &&& (63 : Int32))).toInt8.toInt32), v5]) h57 n0 (o_n0 S) A_b6 (by decide) (by show (4 : Int) < 6; decide)) (by decide) (by decide) rfl rfl pd_1 rfl (Nat.le_of_eq rfl) at_268 rfl (q := 271) (by decide) (by decide) rfl (st' := [(.int (f_kept (4 : Int32) (2 : Int32) (5 : Int32) v5 ([v5, v5, (((224 : Int32) ||| (v3 >>> ((12 : Int32) &&& 31))).toInt8.toInt32), (((128 : Int32) ||| ((v3 >>> ((6 : Int32) &&& 31)) &&& (63 : Int32))).toInt8.toInt32), (((128 : Int32) ||| (v3 &&& (63 : Int32))).toInt8.toInt32), v5])))]) (fun T S => ?_)
                      refine o_if S at_271 (by decide) (q' := 289) (by decide) (q := 274) rfl hs_eq.1 hs_eq.2 (fun hc271 => ?_) (fun hc271 => ?_)
                      · exact absurd hc271 (by rw [f_kept, if_neg (by decide), if_pos (by decide)]; decide)
                      · skip
                        refine o_aload S rfl rfl at_274 rfl (q := 276) ?_
                        refine o_iconst S (z := 5) rfl at_276 rfl (q := 277) ?_
                        refine o_iload S rfl at_277 rfl (q := 279) ?_
                        refine o_iload S rfl at_279 rfl (q := 281) ?_
                        refine o_iload S rfl at_281 rfl (q := 283) ?_
                        refine o_callS0 S (W := 0) (argsL := [(.ref b6), (.int (5 : Int32)), (.int (2 : Int32)), (.int (5 : Int32)), (.int v5)]) (rest := []) (o_wd (i := 6) hw rfl) (o_wd (i := 7) hw rfl) (o_wd (i := 8) hw rfl) (o_wd (i := 9) hw rfl) (by decide) (ct_2 l Z a0 hw b6 (5 : Int32) (2 : Int32) (5 : Int32) v5 ([v5, v5, (((224 : Int32) ||| (v3 >>> ((12 : Int32) &&& 31))).toInt8.toInt32), (((128 : Int32) ||| ((v3 >>> ((6 : Int32) &&& 31)) &&& (63 : Int32))).toInt8.toInt32), (((128 : Int32) ||| (v3 &&& (63 : Int32))).toInt8.toInt32), v5]) h57 n0 (o_n0 S) A_b6 (by decide) (by show (5 : Int) < 6; decide)) (by decide) (by decide) rfl rfl pd_1 rfl (Nat.le_of_eq rfl) at_283 rfl (q := 286) (by decide) (by decide) rfl (st' := [(.int (f_kept (5 : Int32) (2 : Int32) (5 : Int32) v5 ([v5, v5, (((224 : Int32) ||| (v3 >>> ((12 : Int32) &&& 31))).toInt8.toInt32), (((128 : Int32) ||| ((v3 >>> ((6 : Int32) &&& 31)) &&& (63 : Int32))).toInt8.toInt32), (((128 : Int32) ||| (v3 &&& (63 : Int32))).toInt8.toInt32), v5])))]) (fun T S => ?_)
                        refine o_if S at_286 (by decide) (q' := 291) (by decide) (q := 289) rfl hs_ne.1 hs_ne.2 (fun hc286 => ?_) (fun hc286 => ?_)
                        · skip
                          refine o_aload S rfl rfl at_291 rfl (q := 293) ?_
                          refine o_iload S rfl at_293 rfl (q := 295) ?_
                          refine o_baload S A_b6 (by decide) (by show (2 : Int) < 6; decide) (v := (((224 : Int32) ||| (v3 >>> ((12 : Int32) &&& 31))).toInt8.toInt32)) rfl at_295 rfl (q := 296) ?_
                          refine o_sipush S (z := 255) rfl at_296 rfl (q := 299) ?_
                          refine o_iand S at_299 rfl (q := 300) ?_
                          refine o_istoreV S (L' := fun v59 => #[.val (.int p0), .val (.int p1), .val (.int p2), .val (.int p3), .val (.int v1), .val (.int v2), .val (.int v3), .val (.int (2 : Int32)), .val (.int v5), .val (.ref b6), .val (.int (5 : Int32)), .val (.int (3 : Int32)), .val (.int v59), .unset, .unset, .unset]) (fun _ => rfl) at_300 rfl (q := 302) (fun v59 hv59 => ?_)
                          have hb0 := three_h v3 v59 hv59 hcp.1 hcp.2
                          refine o_iload S rfl at_302 rfl (q := 304) ?_
                          refine o_iconst S (z := 1) rfl at_304 rfl (q := 305) ?_
                          refine o_icmp S at_305 (by decide) (q' := 321) (by decide) (q := 308) rfl hs_ne.1 hs_ne.2 (fun hc305 => ?_) (fun hc305 => ?_)
                          · skip
                            refine o_aload S rfl rfl at_321 rfl (q := 323) ?_
                            refine o_iload S rfl at_323 rfl (q := 325) ?_
                            refine o_iconst S (z := 1) rfl at_325 rfl (q := 326) ?_
                            refine o_iadd S at_326 rfl (q := 327) ?_
                            refine o_baload S A_b6 (by decide) (by show (3 : Int) < 6; decide) (v := (((128 : Int32) ||| ((v3 >>> ((6 : Int32) &&& 31)) &&& (63 : Int32))).toInt8.toInt32)) rfl at_327 rfl (q := 328) ?_
                            refine o_sipush S (z := 255) rfl at_328 rfl (q := 331) ?_
                            refine o_iand S at_331 rfl (q := 332) ?_
                            refine o_istoreV S (L' := fun v60 => #[.val (.int p0), .val (.int p1), .val (.int p2), .val (.int p3), .val (.int v1), .val (.int v2), .val (.int v3), .val (.int (2 : Int32)), .val (.int v5), .val (.ref b6), .val (.int (5 : Int32)), .val (.int (3 : Int32)), .val (.int v59), .val (.int v60), .unset, .unset]) (fun _ => rfl) at_332 rfl (q := 334) (fun v60 hv60 => ?_)
                            have hb1 : v60.toInt = 128 + v3.toInt / 64 % 64 := (cbyte _ _ hv60).trans (by rw [sh6])
                            refine o_iload S rfl at_334 rfl (q := 336) ?_
                            refine o_callS0 S (W := 0) (argsL := [(.int v60)]) (rest := []) (o_wd (i := 13) hw rfl) (o_wd (i := 14) hw rfl) (o_wd (i := 8) hw rfl) (o_wd (i := 15) hw rfl) (by decide) (ct_3 l Z a0 hw v60 h57 n0 (o_n0 S)) (by decide) (by decide) rfl rfl pd_2 rfl (Nat.le_of_eq rfl) at_336 rfl (q := 339) (by decide) (by decide) rfl (st' := [(.int (f_cont v60))]) (fun T S => ?_)
                            refine o_if S at_339 (by decide) (q' := 344) (by decide) (q := 342) rfl hs_ne.1 hs_ne.2 (fun hc339 => ?_) (fun hc339 => ?_)
                            · skip
                              refine o_iload S rfl at_344 rfl (q := 346) ?_
                              refine o_iconst S (z := 2) rfl at_346 rfl (q := 347) ?_
                              refine o_icmp S at_347 (by decide) (q' := 387) (by decide) (q := 350) rfl hs_ne.1 hs_ne.2 (fun hc347 => ?_) (fun hc347 => ?_)
                              · skip
                                refine o_aload S rfl rfl at_387 rfl (q := 389) ?_
                                refine o_iload S rfl at_389 rfl (q := 391) ?_
                                refine o_iconst S (z := 2) rfl at_391 rfl (q := 392) ?_
                                refine o_iadd S at_392 rfl (q := 393) ?_
                                refine o_baload S A_b6 (by decide) (by show (4 : Int) < 6; decide) (v := (((128 : Int32) ||| (v3 &&& (63 : Int32))).toInt8.toInt32)) rfl at_393 rfl (q := 394) ?_
                                refine o_sipush S (z := 255) rfl at_394 rfl (q := 397) ?_
                                refine o_iand S at_397 rfl (q := 398) ?_
                                refine o_istoreV S (L' := fun v61 => #[.val (.int p0), .val (.int p1), .val (.int p2), .val (.int p3), .val (.int v1), .val (.int v2), .val (.int v3), .val (.int (2 : Int32)), .val (.int v5), .val (.ref b6), .val (.int (5 : Int32)), .val (.int (3 : Int32)), .val (.int v59), .val (.int v60), .val (.int v61), .unset]) (fun _ => rfl) at_398 rfl (q := 400) (fun v61 hv61 => ?_)
                                have hb2 : v61.toInt = 128 + v3.toInt % 64 := cbyte _ _ hv61
                                refine o_iload S rfl at_400 rfl (q := 402) ?_
                                refine o_callS0 S (W := 0) (argsL := [(.int v61)]) (rest := []) (o_wd (i := 13) hw rfl) (o_wd (i := 14) hw rfl) (o_wd (i := 8) hw rfl) (o_wd (i := 15) hw rfl) (by decide) (ct_3 l Z a0 hw v61 h57 n0 (o_n0 S)) (by decide) (by decide) rfl rfl pd_2 rfl (Nat.le_of_eq rfl) at_402 rfl (q := 405) (by decide) (by decide) rfl (st' := [(.int (f_cont v61))]) (fun T S => ?_)
                                refine o_if S at_405 (by decide) (q' := 410) (by decide) (q := 408) rfl hs_ne.1 hs_ne.2 (fun hc405 => ?_) (fun hc405 => ?_)
                                · skip
                                  refine o_iload S rfl at_410 rfl (q := 412) ?_
                                  refine o_iconst S (z := 3) rfl at_412 rfl (q := 413) ?_
                                  refine o_icmp S at_413 (by decide) (q' := 462) (by decide) (q := 416) rfl hs_ne.1 hs_ne.2 (fun hc413 => ?_) (fun hc413 => ?_)
                                  · exact absurd hc413 (by decide)
                                  · skip
                                    refine o_iload S rfl at_416 rfl (q := 418) ?_
                                    refine o_sipush S (z := 240) rfl at_418 rfl (q := 421) ?_
                                    refine o_iand S at_421 rfl (q := 422) ?_
                                    refine o_sipush S (z := 224) rfl at_422 rfl (q := 425) ?_
                                    refine o_icmp S at_425 (by decide) (q' := 460) (by decide) (q := 428) rfl hs_ne.1 hs_ne.2 (fun hc425 => ?_) (fun hc425 => ?_)
                                    · exact absurd (three_t _ _ hb0 (by omega) (by omega)) hc425
                                    · skip
                                      refine o_iload S rfl at_428 rfl (q := 430) ?_
                                      refine o_bipush S (z := 15) rfl at_430 rfl (q := 432) ?_
                                      refine o_iand S at_432 rfl (q := 433) ?_
                                      refine o_bipush S (z := 12) rfl at_433 rfl (q := 435) ?_
                                      refine o_ishl S at_435 rfl (q := 436) ?_
                                      refine o_iload S rfl at_436 rfl (q := 438) ?_
                                      refine o_bipush S (z := 63) rfl at_438 rfl (q := 440) ?_
                                      refine o_iand S at_440 rfl (q := 441) ?_
                                      refine o_bipush S (z := 6) rfl at_441 rfl (q := 443) ?_
                                      refine o_ishl S at_443 rfl (q := 444) ?_
                                      refine o_ior S at_444 rfl (q := 445) ?_
                                      refine o_iload S rfl at_445 rfl (q := 447) ?_
                                      refine o_bipush S (z := 63) rfl at_447 rfl (q := 449) ?_
                                      refine o_iand S at_449 rfl (q := 450) ?_
                                      refine o_ior S at_450 rfl (q := 451) ?_
                                      refine o_iload S rfl at_451 rfl (q := 453) ?_
                                      refine o_icmp S at_453 (by decide) (q' := 460) (by decide) (q := 456) rfl hs_ne.1 hs_ne.2 (fun hc453 => ?_) (fun hc453 => ?_)
                                      · exact absurd (three_e _ _ _ _ hcp.1 hcp.2 hb0 hb1 hb2) hc453
                                      · skip
                                        refine o_iconst S (z := 1) rfl at_456 rfl (q := 457) ?_
                                        refine o_goto S at_457 (by decide) (q := 461) (by decide) ?_
                                        refine o_retN S (t := .boolean) rfl (by simp) at_461 (by decide) (by decide) rfl ?_
                                        rfl
                                · exact absurd (Decidable.not_not.mp hc405) (cont_ok _ _ hb2 (by omega) (by omega))
                              · exact absurd hc347 (by decide)
                            · exact absurd (Decidable.not_not.mp hc339) (cont_ok _ _ hb1 (by omega) (by omega))
                          · exact absurd hc305 (by decide)
                        · exact absurd (Decidable.not_not.mp hc286) (by rw [f_kept, if_neg (by decide), if_neg (by decide), if_neg (fun q => q rfl)]; decide)
            · exact absurd hc194 (by decide)
        · exact absurd hc162 (by omega)
      · exact absurd hc148 (by omega)
    · skip
      refine o_iload S rfl at_132 rfl (q := 134) ?_
      refine o_aload S rfl rfl at_134 rfl (q := 136) ?_
      refine o_iload S rfl at_136 rfl (q := 138) ?_
      refine o_callS S (W := 0) (argsL := [(.int v3), (.ref b6), (.int (2 : Int32))]) (rest := []) (o_wd (i := 2) hw rfl) (o_wd (i := 3) hw rfl) (o_wd (i := 4) hw rfl) (o_wd (i := 5) hw rfl) (by decide) (ct_1 l Z a0 hw v3 b6 (2 : Int32) ([v5, v5, v5, v5, v5, v5]) h13 n0 (o_n0 S) A_b6 g_b6 (by decide) (by show (2 : Int) + 4 ≤ 6; decide)) (by decide) (by decide) rfl rfl pd_0 rfl (Nat.le_of_eq rfl) at_138 rfl (q := 141) (by decide) (by decide) (fun T h62 rr63 S hQ => ?_)
      obtain ⟨hv, K1, A_b6'⟩ := hQ
      subst hv
      have A_b6 := A_b6'
      show Wp p e below (Po s n0 room_1 Q0) T (mkF m 141 #[.val (.int p0), .val (.int p1), .val (.int p2), .val (.int p3), .val (.int v1), .val (.int v2), .val (.int v3), .val (.int (2 : Int32)), .val (.int v5), .val (.ref b6), .unset, .unset, .unset, .unset, .unset, .unset] [(.int (encN v3 (2 : Int32)))])
      have hend : encN v3 (2 : Int32) = (6 : Int32) := by rw [encN, if_pos (by omega), if_pos (by omega), if_pos (by omega)]; rfl
      rw [hend]
      have A_b6 : IA Z h62 b6 .byte [v5, v5, (((240 : Int32) ||| (v3 >>> ((18 : Int32) &&& 31))).toInt8.toInt32), (((128 : Int32) ||| ((v3 >>> ((12 : Int32) &&& 31)) &&& (63 : Int32))).toInt8.toInt32), (((128 : Int32) ||| ((v3 >>> ((6 : Int32) &&& 31)) &&& (63 : Int32))).toInt8.toInt32), (((128 : Int32) ||| (v3 &&& (63 : Int32))).toInt8.toInt32)] := by have q := A_b6; rw [encL, if_pos (by omega), if_pos (by omega), if_pos (by omega)] at q; exact q
      refine o_istore S (L' := #[.val (.int p0), .val (.int p1), .val (.int p2), .val (.int p3), .val (.int v1), .val (.int v2), .val (.int v3), .val (.int (2 : Int32)), .val (.int v5), .val (.ref b6), .val (.int (6 : Int32)), .unset, .unset, .unset, .unset, .unset]) rfl at_141 rfl (q := 143) ?_
      refine o_iload S rfl at_143 rfl (q := 145) ?_
      refine o_sipush S (z := 128) rfl at_145 rfl (q := 148) ?_
      refine o_icmp S at_148 (by decide) (q' := 157) (by decide) (q := 151) rfl (hs_ge (a := v3.toInt) (b := 128) rfl rfl).1 (hs_ge (a := v3.toInt) (b := 128) rfl rfl).2 (fun hc148 => ?_) (fun hc148 => ?_)
      · skip
        refine o_iload S rfl at_157 rfl (q := 159) ?_
        refine o_sipush S (z := 2048) rfl at_159 rfl (q := 162) ?_
        refine o_icmp S at_162 (by decide) (q' := 171) (by decide) (q := 165) rfl (hs_ge (a := v3.toInt) (b := 2048) rfl rfl).1 (hs_ge (a := v3.toInt) (b := 2048) rfl rfl).2 (fun hc162 => ?_) (fun hc162 => ?_)
        · skip
          refine o_iload S rfl at_171 rfl (q := 173) ?_
          refine o_ldc S (o_wd (i := 10) hw rfl) at_173 rfl (q := 175) ?_
          refine o_icmp S at_175 (by decide) (q' := 184) (by decide) (q := 178) rfl (hs_ge (a := v3.toInt) (b := 65536) rfl rfl).1 (hs_ge (a := v3.toInt) (b := 65536) rfl rfl).2 (fun hc175 => ?_) (fun hc175 => ?_)
          · skip
            refine o_iconst S (z := 4) rfl at_184 rfl (q := 185) ?_
            refine o_istore S (L' := #[.val (.int p0), .val (.int p1), .val (.int p2), .val (.int p3), .val (.int v1), .val (.int v2), .val (.int v3), .val (.int (2 : Int32)), .val (.int v5), .val (.ref b6), .val (.int (6 : Int32)), .val (.int (4 : Int32)), .unset, .unset, .unset, .unset]) rfl at_185 rfl (q := 187) ?_
            refine o_iload S rfl at_187 rfl (q := 189) ?_
            refine o_iload S rfl at_189 rfl (q := 191) ?_
            refine o_iload S rfl at_191 rfl (q := 193) ?_
            refine o_iadd S at_193 rfl (q := 194) ?_
            refine o_icmp S at_194 (by decide) (q' := 199) (by decide) (q := 197) rfl hs_eq.1 hs_eq.2 (fun hc194 => ?_) (fun hc194 => ?_)
            · skip
              refine o_aload S rfl rfl at_199 rfl (q := 201) ?_
              refine o_iconst S (z := 0) rfl at_201 rfl (q := 202) ?_
              refine o_iload S rfl at_202 rfl (q := 204) ?_
              refine o_iload S rfl at_204 rfl (q := 206) ?_
              refine o_iload S rfl at_206 rfl (q := 208) ?_
              refine o_callS0 S (W := 0) (argsL := [(.ref b6), (.int (0 : Int32)), (.int (2 : Int32)), (.int (6 : Int32)), (.int v5)]) (rest := []) (o_wd (i := 6) hw rfl) (o_wd (i := 7) hw rfl) (o_wd (i := 8) hw rfl) (o_wd (i := 9) hw rfl) (by decide) (ct_2 l Z a0 hw b6 (0 : Int32) (2 : Int32) (6 : Int32) v5 ([v5, v5, (((240 : Int32) ||| (v3 >>> ((18 : Int32) &&& 31))).toInt8.toInt32), (((128 : Int32) ||| ((v3 >>> ((12 : Int32) &&& 31)) &&& (63 : Int32))).toInt8.toInt32), (((128 : Int32) ||| ((v3 >>> ((6 : Int32) &&& 31)) &&& (63 : Int32))).toInt8.toInt32), (((128 : Int32) ||| (v3 &&& (63 : Int32))).toInt8.toInt32)]) h62 n0 (o_n0 S) A_b6 (by decide) (by show (0 : Int) < 6; decide)) (by decide) (by decide) rfl rfl pd_1 rfl (Nat.le_of_eq rfl) at_208 rfl (q := 211) (by decide) (by decide) rfl (st' := [(.int (f_kept (0 : Int32) (2 : Int32) (6 : Int32) v5 ([v5, v5, (((240 : Int32) ||| (v3 >>> ((18 : Int32) &&& 31))).toInt8.toInt32), (((128 : Int32) ||| ((v3 >>> ((12 : Int32) &&& 31)) &&& (63 : Int32))).toInt8.toInt32), (((128 : Int32) ||| ((v3 >>> ((6 : Int32) &&& 31)) &&& (63 : Int32))).toInt8.toInt32), (((128 : Int32) ||| (v3 &&& (63 : Int32))).toInt8.toInt32)])))]) (fun T S => ?_)
              refine o_if S at_211 (by decide) (q' := 289) (by decide) (q := 214) rfl hs_eq.1 hs_eq.2 (fun hc211 => ?_) (fun hc211 => ?_)
              · exact absurd hc211 (by rw [f_kept, if_pos (by decide), if_neg (fun q => q rfl)]; decide)
              · skip
                refine o_aload S rfl rfl at_214 rfl (q := 216) ?_
                refine o_iconst S (z := 1) rfl at_216 rfl (q := 217) ?_
                refine o_iload S rfl at_217 rfl (q := 219) ?_
                refine o_iload S rfl at_219 rfl (q := 221) ?_
                refine o_iload S rfl at_221 rfl (q := 223) ?_
                refine o_callS0 S (W := 0) (argsL := [(.ref b6), (.int (1 : Int32)), (.int (2 : Int32)), (.int (6 : Int32)), (.int v5)]) (rest := []) (o_wd (i := 6) hw rfl) (o_wd (i := 7) hw rfl) (o_wd (i := 8) hw rfl) (o_wd (i := 9) hw rfl) (by decide) (ct_2 l Z a0 hw b6 (1 : Int32) (2 : Int32) (6 : Int32) v5 ([v5, v5, (((240 : Int32) ||| (v3 >>> ((18 : Int32) &&& 31))).toInt8.toInt32), (((128 : Int32) ||| ((v3 >>> ((12 : Int32) &&& 31)) &&& (63 : Int32))).toInt8.toInt32), (((128 : Int32) ||| ((v3 >>> ((6 : Int32) &&& 31)) &&& (63 : Int32))).toInt8.toInt32), (((128 : Int32) ||| (v3 &&& (63 : Int32))).toInt8.toInt32)]) h62 n0 (o_n0 S) A_b6 (by decide) (by show (1 : Int) < 6; decide)) (by decide) (by decide) rfl rfl pd_1 rfl (Nat.le_of_eq rfl) at_223 rfl (q := 226) (by decide) (by decide) rfl (st' := [(.int (f_kept (1 : Int32) (2 : Int32) (6 : Int32) v5 ([v5, v5, (((240 : Int32) ||| (v3 >>> ((18 : Int32) &&& 31))).toInt8.toInt32), (((128 : Int32) ||| ((v3 >>> ((12 : Int32) &&& 31)) &&& (63 : Int32))).toInt8.toInt32), (((128 : Int32) ||| ((v3 >>> ((6 : Int32) &&& 31)) &&& (63 : Int32))).toInt8.toInt32), (((128 : Int32) ||| (v3 &&& (63 : Int32))).toInt8.toInt32)])))]) (fun T S => ?_)
                refine o_if S at_226 (by decide) (q' := 289) (by decide) (q := 229) rfl hs_eq.1 hs_eq.2 (fun hc226 => ?_) (fun hc226 => ?_)
                · exact absurd hc226 (by rw [f_kept, if_pos (by decide), if_neg (fun q => q rfl)]; decide)
                · skip
                  refine o_aload S rfl rfl at_229 rfl (q := 231) ?_
                  refine o_iconst S (z := 2) rfl at_231 rfl (q := 232) ?_
                  refine o_iload S rfl at_232 rfl (q := 234) ?_
                  refine o_iload S rfl at_234 rfl (q := 236) ?_
                  refine o_iload S rfl at_236 rfl (q := 238) ?_
                  refine o_callS0 S (W := 0) (argsL := [(.ref b6), (.int (2 : Int32)), (.int (2 : Int32)), (.int (6 : Int32)), (.int v5)]) (rest := []) (o_wd (i := 6) hw rfl) (o_wd (i := 7) hw rfl) (o_wd (i := 8) hw rfl) (o_wd (i := 9) hw rfl) (by decide) (ct_2 l Z a0 hw b6 (2 : Int32) (2 : Int32) (6 : Int32) v5 ([v5, v5, (((240 : Int32) ||| (v3 >>> ((18 : Int32) &&& 31))).toInt8.toInt32), (((128 : Int32) ||| ((v3 >>> ((12 : Int32) &&& 31)) &&& (63 : Int32))).toInt8.toInt32), (((128 : Int32) ||| ((v3 >>> ((6 : Int32) &&& 31)) &&& (63 : Int32))).toInt8.toInt32), (((128 : Int32) ||| (v3 &&& (63 : Int32))).toInt8.toInt32)]) h62 n0 (o_n0 S) A_b6 (by decide) (by show (2 : Int) < 6; decide)) (by decide) (by decide) rfl rfl pd_1 rfl (Nat.le_of_eq rfl) at_238 rfl (q := 241) (by decide) (by decide) rfl (st' := [(.int (f_kept (2 : Int32) (2 : Int32) (6 : Int32) v5 ([v5, v5, (((240 : Int32) ||| (v3 >>> ((18 : Int32) &&& 31))).toInt8.toInt32), (((128 : Int32) ||| ((v3 >>> ((12 : Int32) &&& 31)) &&& (63 : Int32))).toInt8.toInt32), (((128 : Int32) ||| ((v3 >>> ((6 : Int32) &&& 31)) &&& (63 : Int32))).toInt8.toInt32), (((128 : Int32) ||| (v3 &&& (63 : Int32))).toInt8.toInt32)])))]) (fun T S => ?_)
                  refine o_if S at_241 (by decide) (q' := 289) (by decide) (q := 244) rfl hs_eq.1 hs_eq.2 (fun hc241 => ?_) (fun hc241 => ?_)
                  · exact absurd hc241 (by rw [f_kept, if_neg (by decide), if_pos (by decide)]; decide)
                  · skip
                    refine o_aload S rfl rfl at_244 rfl (q := 246) ?_
                    refine o_iconst S (z := 3) rfl at_246 rfl (q := 247) ?_
                    refine o_iload S rfl at_247 rfl (q := 249) ?_
                    refine o_iload S rfl at_249 rfl (q := 251) ?_
                    refine o_iload S rfl at_251 rfl (q := 253) ?_
                    refine o_callS0 S (W := 0) (argsL := [(.ref b6), (.int (3 : Int32)), (.int (2 : Int32)), (.int (6 : Int32)), (.int v5)]) (rest := []) (o_wd (i := 6) hw rfl) (o_wd (i := 7) hw rfl) (o_wd (i := 8) hw rfl) (o_wd (i := 9) hw rfl) (by decide) (ct_2 l Z a0 hw b6 (3 : Int32) (2 : Int32) (6 : Int32) v5 ([v5, v5, (((240 : Int32) ||| (v3 >>> ((18 : Int32) &&& 31))).toInt8.toInt32), (((128 : Int32) ||| ((v3 >>> ((12 : Int32) &&& 31)) &&& (63 : Int32))).toInt8.toInt32), (((128 : Int32) ||| ((v3 >>> ((6 : Int32) &&& 31)) &&& (63 : Int32))).toInt8.toInt32), (((128 : Int32) ||| (v3 &&& (63 : Int32))).toInt8.toInt32)]) h62 n0 (o_n0 S) A_b6 (by decide) (by show (3 : Int) < 6; decide)) (by decide) (by decide) rfl rfl pd_1 rfl (Nat.le_of_eq rfl) at_253 rfl (q := 256) (by decide) (by decide) rfl (st' := [(.int (f_kept (3 : Int32) (2 : Int32) (6 : Int32) v5 ([v5, v5, (((240 : Int32) ||| (v3 >>> ((18 : Int32) &&& 31))).toInt8.toInt32), (((128 : Int32) ||| ((v3 >>> ((12 : Int32) &&& 31)) &&& (63 : Int32))).toInt8.toInt32), (((128 : Int32) ||| ((v3 >>> ((6 : Int32) &&& 31)) &&& (63 : Int32))).toInt8.toInt32), (((128 : Int32) ||| (v3 &&& (63 : Int32))).toInt8.toInt32)])))]) (fun T S => ?_)
                    refine o_if S at_256 (by decide) (q' := 289) (by decide) (q := 259) rfl hs_eq.1 hs_eq.2 (fun hc256 => ?_) (fun hc256 => ?_)
                    · exact absurd hc256 (by rw [f_kept, if_neg (by decide), if_pos (by decide)]; decide)
                    · skip
                      refine o_aload S rfl rfl at_259 rfl (q := 261) ?_
                      refine o_iconst S (z := 4) rfl at_261 rfl (q := 262) ?_
                      refine o_iload S rfl at_262 rfl (q := 264) ?_
                      refine o_iload S rfl at_264 rfl (q := 266) ?_
                      refine o_iload S rfl at_266 rfl (q := 268) ?_
                      refine o_callS0 S (W := 0) (argsL := [(.ref b6), (.int (4 : Int32)), (.int (2 : Int32)), (.int (6 : Int32)), (.int v5)]) (rest := []) (o_wd (i := 6) hw rfl) (o_wd (i := 7) hw rfl) (o_wd (i := 8) hw rfl) (o_wd (i := 9) hw rfl) (by decide) (ct_2 l Z a0 hw b6 (4 : Int32) (2 : Int32) (6 : Int32) v5 ([v5, v5, (((240 : Int32) ||| (v3 >>> ((18 : Int32) &&& 31))).toInt8.toInt32), (((128 : Int32) ||| ((v3 >>> ((12 : Int32) &&& 31)) &&& (63 : Int32))).toInt8.toInt32), (((128 : Int32) ||| ((v3 >>> ((6 : Int32) &&& 31)) &&& (63 : Int32))).toInt8.toInt32), (((128 : Int32) ||| (v3 &&& (63 : Int32))).toInt8.toInt32)]) h62 n0 (o_n0 S) A_b6 (by decide) (by show (4 : Int) < 6; decide)) (by decide) (by decide) rfl rfl pd_1 rfl (Nat.le_of_eq rfl) at_268 rfl (q := 271) (by decide) (by decide) rfl (st' := [(.int (f_kept (4 : Int32) (2 : Int32) (6 : Int32) v5 ([v5, v5, (((240 : Int32) ||| (v3 >>> ((18 : Int32) &&& 31))).toInt8.toInt32), (((128 : Int32) ||| ((v3 >>> ((12 : Int32) &&& 31)) &&& (63 : Int32))).toInt8.toInt32), (((128 : Int32) ||| ((v3 >>> ((6 : Int32) &&& 31)) &&& (63 : Int32))).toInt8.toInt32), (((128 : Int32) ||| (v3 &&& (63 : Int32))).toInt8.toInt32)])))]) (fun T S => ?_)
                      refine o_if S at_271 (by decide) (q' := 289) (by decide) (q := 274) rfl hs_eq.1 hs_eq.2 (fun hc271 => ?_) (fun hc271 => ?_)
                      · exact absurd hc271 (by rw [f_kept, if_neg (by decide), if_pos (by decide)]; decide)
                      · skip
                        refine o_aload S rfl rfl at_274 rfl (q := 276) ?_
                        refine o_iconst S (z := 5) rfl at_276 rfl (q := 277) ?_
                        refine o_iload S rfl at_277 rfl (q := 279) ?_
                        refine o_iload S rfl at_279 rfl (q := 281) ?_
                        refine o_iload S rfl at_281 rfl (q := 283) ?_
                        refine o_callS0 S (W := 0) (argsL := [(.ref b6), (.int (5 : Int32)), (.int (2 : Int32)), (.int (6 : Int32)), (.int v5)]) (rest := []) (o_wd (i := 6) hw rfl) (o_wd (i := 7) hw rfl) (o_wd (i := 8) hw rfl) (o_wd (i := 9) hw rfl) (by decide) (ct_2 l Z a0 hw b6 (5 : Int32) (2 : Int32) (6 : Int32) v5 ([v5, v5, (((240 : Int32) ||| (v3 >>> ((18 : Int32) &&& 31))).toInt8.toInt32), (((128 : Int32) ||| ((v3 >>> ((12 : Int32) &&& 31)) &&& (63 : Int32))).toInt8.toInt32), (((128 : Int32) ||| ((v3 >>> ((6 : Int32) &&& 31)) &&& (63 : Int32))).toInt8.toInt32), (((128 : Int32) ||| (v3 &&& (63 : Int32))).toInt8.toInt32)]) h62 n0 (o_n0 S) A_b6 (by decide) (by show (5 : Int) < 6; decide)) (by decide) (by decide) rfl rfl pd_1 rfl (Nat.le_of_eq rfl) at_283 rfl (q := 286) (by decide) (by decide) rfl (st' := [(.int (f_kept (5 : Int32) (2 : Int32) (6 : Int32) v5 ([v5, v5, (((240 : Int32) ||| (v3 >>> ((18 : Int32) &&& 31))).toInt8.toInt32), (((128 : Int32) ||| ((v3 >>> ((12 : Int32) &&& 31)) &&& (63 : Int32))).toInt8.toInt32), (((128 : Int32) ||| ((v3 >>> ((6 : Int32) &&& 31)) &&& (63 : Int32))).toInt8.toInt32), (((128 : Int32) ||| (v3 &&& (63 : Int32))).toInt8.toInt32)])))]) (fun T S => ?_)
                        refine o_if S at_286 (by decide) (q' := 291) (by decide) (q := 289) rfl hs_ne.1 hs_ne.2 (fun hc286 => ?_) (fun hc286 => ?_)
                        · skip
                          refine o_aload S rfl rfl at_291 rfl (q := 293) ?_
                          refine o_iload S rfl at_293 rfl (q := 295) ?_
                          refine o_baload S A_b6 (by decide) (by show (2 : Int) < 6; decide) (v := (((240 : Int32) ||| (v3 >>> ((18 : Int32) &&& 31))).toInt8.toInt32)) rfl at_295 rfl (q := 296) ?_
                          refine o_sipush S (z := 255) rfl at_296 rfl (q := 299) ?_
                          refine o_iand S at_299 rfl (q := 300) ?_
                          refine o_istoreV S (L' := fun v64 => #[.val (.int p0), .val (.int p1), .val (.int p2), .val (.int p3), .val (.int v1), .val (.int v2), .val (.int v3), .val (.int (2 : Int32)), .val (.int v5), .val (.ref b6), .val (.int (6 : Int32)), .val (.int (4 : Int32)), .val (.int v64), .unset, .unset, .unset]) (fun _ => rfl) at_300 rfl (q := 302) (fun v64 hv64 => ?_)
                          have hb0 := four_h v3 v64 hv64 hcp.1 hcp.2
                          refine o_iload S rfl at_302 rfl (q := 304) ?_
                          refine o_iconst S (z := 1) rfl at_304 rfl (q := 305) ?_
                          refine o_icmp S at_305 (by decide) (q' := 321) (by decide) (q := 308) rfl hs_ne.1 hs_ne.2 (fun hc305 => ?_) (fun hc305 => ?_)
                          · skip
                            refine o_aload S rfl rfl at_321 rfl (q := 323) ?_
                            refine o_iload S rfl at_323 rfl (q := 325) ?_
                            refine o_iconst S (z := 1) rfl at_325 rfl (q := 326) ?_
                            refine o_iadd S at_326 rfl (q := 327) ?_
                            refine o_baload S A_b6 (by decide) (by show (3 : Int) < 6; decide) (v := (((128 : Int32) ||| ((v3 >>> ((12 : Int32) &&& 31)) &&& (63 : Int32))).toInt8.toInt32)) rfl at_327 rfl (q := 328) ?_
                            refine o_sipush S (z := 255) rfl at_328 rfl (q := 331) ?_
                            refine o_iand S at_331 rfl (q := 332) ?_
                            refine o_istoreV S (L' := fun v65 => #[.val (.int p0), .val (.int p1), .val (.int p2), .val (.int p3), .val (.int v1), .val (.int v2), .val (.int v3), .val (.int (2 : Int32)), .val (.int v5), .val (.ref b6), .val (.int (6 : Int32)), .val (.int (4 : Int32)), .val (.int v64), .val (.int v65), .unset, .unset]) (fun _ => rfl) at_332 rfl (q := 334) (fun v65 hv65 => ?_)
                            have hb1 : v65.toInt = 128 + v3.toInt / 4096 % 64 := (cbyte _ _ hv65).trans (by rw [sh12])
                            refine o_iload S rfl at_334 rfl (q := 336) ?_
                            refine o_callS0 S (W := 0) (argsL := [(.int v65)]) (rest := []) (o_wd (i := 13) hw rfl) (o_wd (i := 14) hw rfl) (o_wd (i := 8) hw rfl) (o_wd (i := 15) hw rfl) (by decide) (ct_3 l Z a0 hw v65 h62 n0 (o_n0 S)) (by decide) (by decide) rfl rfl pd_2 rfl (Nat.le_of_eq rfl) at_336 rfl (q := 339) (by decide) (by decide) rfl (st' := [(.int (f_cont v65))]) (fun T S => ?_)
                            refine o_if S at_339 (by decide) (q' := 344) (by decide) (q := 342) rfl hs_ne.1 hs_ne.2 (fun hc339 => ?_) (fun hc339 => ?_)
                            · skip
                              refine o_iload S rfl at_344 rfl (q := 346) ?_
                              refine o_iconst S (z := 2) rfl at_346 rfl (q := 347) ?_
                              refine o_icmp S at_347 (by decide) (q' := 387) (by decide) (q := 350) rfl hs_ne.1 hs_ne.2 (fun hc347 => ?_) (fun hc347 => ?_)
                              · skip
                                refine o_aload S rfl rfl at_387 rfl (q := 389) ?_
                                refine o_iload S rfl at_389 rfl (q := 391) ?_
                                refine o_iconst S (z := 2) rfl at_391 rfl (q := 392) ?_
                                refine o_iadd S at_392 rfl (q := 393) ?_
                                refine o_baload S A_b6 (by decide) (by show (4 : Int) < 6; decide) (v := (((128 : Int32) ||| ((v3 >>> ((6 : Int32) &&& 31)) &&& (63 : Int32))).toInt8.toInt32)) rfl at_393 rfl (q := 394) ?_
                                refine o_sipush S (z := 255) rfl at_394 rfl (q := 397) ?_
                                refine o_iand S at_397 rfl (q := 398) ?_
                                refine o_istoreV S (L' := fun v66 => #[.val (.int p0), .val (.int p1), .val (.int p2), .val (.int p3), .val (.int v1), .val (.int v2), .val (.int v3), .val (.int (2 : Int32)), .val (.int v5), .val (.ref b6), .val (.int (6 : Int32)), .val (.int (4 : Int32)), .val (.int v64), .val (.int v65), .val (.int v66), .unset]) (fun _ => rfl) at_398 rfl (q := 400) (fun v66 hv66 => ?_)
                                have hb2 : v66.toInt = 128 + v3.toInt / 64 % 64 := (cbyte _ _ hv66).trans (by rw [sh6])
                                refine o_iload S rfl at_400 rfl (q := 402) ?_
                                refine o_callS0 S (W := 0) (argsL := [(.int v66)]) (rest := []) (o_wd (i := 13) hw rfl) (o_wd (i := 14) hw rfl) (o_wd (i := 8) hw rfl) (o_wd (i := 15) hw rfl) (by decide) (ct_3 l Z a0 hw v66 h62 n0 (o_n0 S)) (by decide) (by decide) rfl rfl pd_2 rfl (Nat.le_of_eq rfl) at_402 rfl (q := 405) (by decide) (by decide) rfl (st' := [(.int (f_cont v66))]) (fun T S => ?_)
                                refine o_if S at_405 (by decide) (q' := 410) (by decide) (q := 408) rfl hs_ne.1 hs_ne.2 (fun hc405 => ?_) (fun hc405 => ?_)
                                · skip
                                  refine o_iload S rfl at_410 rfl (q := 412) ?_
                                  refine o_iconst S (z := 3) rfl at_412 rfl (q := 413) ?_
                                  refine o_icmp S at_413 (by decide) (q' := 462) (by decide) (q := 416) rfl hs_ne.1 hs_ne.2 (fun hc413 => ?_) (fun hc413 => ?_)
                                  · skip
                                    refine o_aload S rfl rfl at_462 rfl (q := 464) ?_
                                    refine o_iload S rfl at_464 rfl (q := 466) ?_
                                    refine o_iconst S (z := 3) rfl at_466 rfl (q := 467) ?_
                                    refine o_iadd S at_467 rfl (q := 468) ?_
                                    refine o_baload S A_b6 (by decide) (by show (5 : Int) < 6; decide) (v := (((128 : Int32) ||| (v3 &&& (63 : Int32))).toInt8.toInt32)) rfl at_468 rfl (q := 469) ?_
                                    refine o_sipush S (z := 255) rfl at_469 rfl (q := 472) ?_
                                    refine o_iand S at_472 rfl (q := 473) ?_
                                    refine o_istoreV S (L' := fun v67 => #[.val (.int p0), .val (.int p1), .val (.int p2), .val (.int p3), .val (.int v1), .val (.int v2), .val (.int v3), .val (.int (2 : Int32)), .val (.int v5), .val (.ref b6), .val (.int (6 : Int32)), .val (.int (4 : Int32)), .val (.int v64), .val (.int v65), .val (.int v66), .val (.int v67)]) (fun _ => rfl) at_473 rfl (q := 475) (fun v67 hv67 => ?_)
                                    have hb3 : v67.toInt = 128 + v3.toInt % 64 := cbyte _ _ hv67
                                    refine o_iload S rfl at_475 rfl (q := 477) ?_
                                    refine o_callS0 S (W := 0) (argsL := [(.int v67)]) (rest := []) (o_wd (i := 13) hw rfl) (o_wd (i := 14) hw rfl) (o_wd (i := 8) hw rfl) (o_wd (i := 15) hw rfl) (by decide) (ct_3 l Z a0 hw v67 h62 n0 (o_n0 S)) (by decide) (by decide) rfl rfl pd_2 rfl (Nat.le_of_eq rfl) at_477 rfl (q := 480) (by decide) (by decide) rfl (st' := [(.int (f_cont v67))]) (fun T S => ?_)
                                    refine o_if S at_480 (by decide) (q' := 485) (by decide) (q := 483) rfl hs_ne.1 hs_ne.2 (fun hc480 => ?_) (fun hc480 => ?_)
                                    · skip
                                      refine o_iload S rfl at_485 rfl (q := 487) ?_
                                      refine o_sipush S (z := 248) rfl at_487 rfl (q := 490) ?_
                                      refine o_iand S at_490 rfl (q := 491) ?_
                                      refine o_sipush S (z := 240) rfl at_491 rfl (q := 494) ?_
                                      refine o_icmp S at_494 (by decide) (q' := 538) (by decide) (q := 497) rfl hs_ne.1 hs_ne.2 (fun hc494 => ?_) (fun hc494 => ?_)
                                      · exact absurd (four_t _ _ hb0 (by omega) (by omega)) hc494
                                      · skip
                                        refine o_iload S rfl at_497 rfl (q := 499) ?_
                                        refine o_bipush S (z := 7) rfl at_499 rfl (q := 501) ?_
                                        refine o_iand S at_501 rfl (q := 502) ?_
                                        refine o_bipush S (z := 18) rfl at_502 rfl (q := 504) ?_
                                        refine o_ishl S at_504 rfl (q := 505) ?_
                                        refine o_iload S rfl at_505 rfl (q := 507) ?_
                                        refine o_bipush S (z := 63) rfl at_507 rfl (q := 509) ?_
                                        refine o_iand S at_509 rfl (q := 510) ?_
                                        refine o_bipush S (z := 12) rfl at_510 rfl (q := 512) ?_
                                        refine o_ishl S at_512 rfl (q := 513) ?_
                                        refine o_ior S at_513 rfl (q := 514) ?_
                                        refine o_iload S rfl at_514 rfl (q := 516) ?_
                                        refine o_bipush S (z := 63) rfl at_516 rfl (q := 518) ?_
                                        refine o_iand S at_518 rfl (q := 519) ?_
                                        refine o_bipush S (z := 6) rfl at_519 rfl (q := 521) ?_
                                        refine o_ishl S at_521 rfl (q := 522) ?_
                                        refine o_ior S at_522 rfl (q := 523) ?_
                                        refine o_iload S rfl at_523 rfl (q := 525) ?_
                                        refine o_bipush S (z := 63) rfl at_525 rfl (q := 527) ?_
                                        refine o_iand S at_527 rfl (q := 528) ?_
                                        refine o_ior S at_528 rfl (q := 529) ?_
                                        refine o_iload S rfl at_529 rfl (q := 531) ?_
                                        refine o_icmp S at_531 (by decide) (q' := 538) (by decide) (q := 534) rfl hs_ne.1 hs_ne.2 (fun hc531 => ?_) (fun hc531 => ?_)
                                        · exact absurd (four_e _ _ _ _ _ hcp.1 hcp.2 hb0 hb1 hb2 hb3) hc531
                                        · skip
                                          refine o_iconst S (z := 1) rfl at_534 rfl (q := 535) ?_
                                          refine o_goto S at_535 (by decide) (q := 539) (by decide) ?_
                                          refine o_retN S (t := .boolean) rfl (by simp) at_539 (by decide) (by decide) rfl ?_
                                          rfl
                                    · exact absurd (Decidable.not_not.mp hc480) (cont_ok _ _ hb3 (by omega) (by omega))
                                  · exact absurd hc413 (by decide)
                                · exact absurd (Decidable.not_not.mp hc405) (cont_ok _ _ hb2 (by omega) (by omega))
                              · exact absurd hc347 (by decide)
                            · exact absurd (Decidable.not_not.mp hc339) (cont_ok _ _ hb1 (by omega) (by omega))
                          · exact absurd hc305 (by decide)
                        · exact absurd (Decidable.not_not.mp hc286) (by rw [f_kept, if_neg (by decide), if_pos (by decide)]; decide)
            · exact absurd hc194 (by decide)
          · exact absurd hc175 (by omega)
        · exact absurd hc162 (by omega)
      · exact absurd hc148 (by omega)
set_option maxRecDepth 65536 in
set_option maxHeartbeats 40000000 in
theorem comes_1 {Post : Tables → Env → Array Value → State → Outcome → State → Prop} (hpost : ∀ tb e args s v u, (limb_1_1.after args s (.returned v) u = true ∧ limb_1_2.after args s (.returned v) u = true ∧ True) → FrameEnd s (.returned v) u (Jvm.fieldLocs frame_1_writes args s ++ Jvm.arrayLocs frame_1_arrays args s ++ Jvm.staticLocs frame_1_statics s) 16 128 → Post tb e args s (.returned v) u) :
    ArmFor flags0 classFile x code maxLocals ret World_1 tables_1 room_1 Calls_1 rest_1 Pre_1 Post := by
  intro l hfl _ _ p e ha hc hk s m args below hf hA hF happ hP
  obtain ⟨hcalls, hrest, hpre⟩ := hP
  obtain ⟨-, -, -, hnamed, -, -, -, hat⟩ := (Spec.applies_iff hf).mp happ
  obtain ⟨hg, hn⟩ := and_e (Cond.before_iff.mp (show (Jvm.Cond.and given_1 narrow_1).before args s = true from hpre))
  obtain ⟨g0, g⟩ := and_e hg
  obtain ⟨w0, w1, w2, w3, rfl⟩ : ∃ w0 w1 w2 w3 : Value, args = #[w0, w1, w2, w3] := by
    have hs : args.size = 4 := by simpa [Cond.value, given_1] using g0
    obtain ⟨L⟩ := args
    match L, hs with
    | [w0, w1, w2, w3], _ => exact ⟨w0, w1, w2, w3, rfl⟩
  have hw := fun d (hd : d ∈ tables_1) => atoms_spec (ws := Jvm.Cond.code x code maxLocals ret :: tables_1) hat d (List.mem_cons_of_mem _ hd)
  obtain ⟨g1, gr1⟩ := and_e g
  obtain ⟨i0, ei0⟩ := is_v g1
  obtain rfl : w0 = (.int i0) := Option.some.inj ei0
  obtain ⟨g2, gr2⟩ := and_e gr1
  obtain ⟨i1, ei1⟩ := is_v g2
  obtain rfl : w1 = (.int i1) := Option.some.inj ei1
  obtain ⟨g3, gr3⟩ := and_e gr2
  obtain ⟨i2, ei2⟩ := is_v g3
  obtain rfl : w2 = (.int i2) := Option.some.inj ei2
  obtain ⟨i3, ei3⟩ := is_v gr3
  obtain rfl : w3 = (.int i3) := Option.some.inj ei3
  obtain ⟨n, o, h1, h2, h3, _, L, rfl, ⟨rfl, N⟩, hq⟩ := ct_0 l s _ hw tables_1 i0 i1 i2 i3 s.heap s.heap.size (Nat.le_refl _) p e ha hc hk s m _ below hf ((Spec.applies_iff_loose hf).mp happ).1 ⟨rfl, State.Warmed39.refl s, rfl⟩ trivial
  refine ⟨n, _, h1, h2, h3, hpost _ _ _ _ _ _ ⟨Cond.after_iff.mpr rfl, Cond.after_iff.mpr (eq_i res_at (Term.int_eval (1)) rfl), trivial⟩ ⟨hq.1, hq.2.1, (hq.2.2.sift fun y hy => Or.inr (N y hy)).mono (by decide) (by decide)⟩⟩
theorem main_1_1 : Claimed_1_1 := comes_1 fun _ _ _ _ _ _ h hF => ⟨h.1, hF⟩
theorem main_1_2 : Claimed_1_2 := comes_1 fun _ _ _ _ _ _ h hF => ⟨h.2.1, hF⟩
end Jvm.Pilot.@@N@@
namespace Jvm.Pilot.@@N@@
open Jvm Jvm.ClassFile Sem Op Lib Jvm.Free Jvm.Stand Jvm.Pilot.@@N@@.Jvm.D
/-! MADE BY PROGRAM (witnessworld.py) out of the Statement's table words and the real class files: 9 classes; the members and pool entries that the words name. The judged class is class 1, her method 3. -/
namespace start1
open Jvm.ClassFile
def u (s : String) : CpInfo := .utf8 (stringToUtf16 s)
/-- a pool by its gaps: so many unusable entries, then the entry; so many at the end -/
def gap : Nat → List CpInfo → List CpInfo
  | 0, r => r
  | n + 1, r => .unusable :: gap n r
def poolList (es : List (Nat × CpInfo)) (last : Nat) : List CpInfo := es.foldr (fun e r => gap e.1 (e.2 :: r)) (gap last [])
def pool (es : List (Nat × CpInfo)) (last : Nat) : Array CpInfo := ⟨poolList es last⟩
def fileOf (pool : Array CpInfo) (this : Nat) (attrs : Array Attribute := #[]) (ms : Array MethodInfo := #[]) (fl : Nat := 33) (sup : Nat := 0) (ifs : Array Nat := #[]) (fds : Array FieldInfo := #[]) : ClassFile where
  minorVersion := 0
  majorVersion := 65
  constantPool := pool
  accessFlags := fl
  thisClass := this
  superClass := sup
  interfaces := ifs
  fields := fds
  methods := ms
  attributes := attrs
def plain (name : String) (sup : Option ClassId) : Class where
  name := name
  kind := .ordinary
  loader := none
  accessFlags := 33
  super := sup
  interfaces := #[]
  cf := none
  fields := #[]
  methods := #[]
  instanceTypes := #[]
  staticTypes := #[]
  resolved := #[]
  callSites := []
  init := .initialized
  statics := none
  mirror := none

def pool0 : Array CpInfo := pool [(5, u "<init>"), (0, u "()V"), (1, .class_ 10), (1, u "java/lang/Object")] 113

def k0m0 : Method := { name := "<init>", desc := "()V", sig := { parameters := [], returnType := none }, accessFlags := 1, code := none }
/-- java/lang/Object -/
def k0 : Class := { plain "java/lang/Object" none with
  accessFlags := 33
  interfaces := #[]
  cf := some (fileOf pool0 8 #[] #[{ accessFlags := 1, nameIndex := 5, descriptorIndex := 6, attributes := #[] }] 33 0 #[] #[])
  fields := #[]
  methods := #[k0m0]
  instanceTypes := #[]
  staticTypes := #[]
  resolved := Array.replicate 124 none
  statics := none }

def pool1 : Array CpInfo := pool [(2, .class_ 4), (1, u "java/lang/Object"), (0, u "<init>"), (0, u "()V"), (0, .integer 2147483647), (0, .integer 63488), (0, .integer 65536), (0, .integer 1048576), (0, .methodref 12 13), (0, .class_ 14), (0, .nameAndType 15 16), (0, u "com/example/mince_trees/mincetrees/tree/Utf8"), (0, u "encode"), (0, u "(I[BI)I"), (0, .methodref 18 19), (0, .class_ 20), (0, .nameAndType 21 22), (0, u "com/example/mince_trees/mincetrees/tree/Utf8EncodePinLaw"), (0, u "kept"), (0, u "([BIIIB)Z"), (0, .methodref 18 24), (0, .nameAndType 25 26), (0, u "cont"), (0, u "(I)Z"), (3, u "law"), (0, u "(IIII)Z")] 4

def k1m0 : Method := { name := "<init>", desc := "()V", sig := { parameters := [], returnType := none }, accessFlags := 2, code := none }
def k1c1 : Code := { maxStack := 2, maxLocals := 5, code := method_2_code, exceptionTable := #[], attributes := #[] }
def k1m1 : Method := { name := "kept", desc := "([BIIIB)Z", sig := { parameters := [(.array .byte), .int, .int, .int, .byte], returnType := some .boolean }, accessFlags := 10, code := some k1c1 }
def k1c2 : Code := { maxStack := 2, maxLocals := 1, code := method_3_code, exceptionTable := #[], attributes := #[] }
def k1m2 : Method := { name := "cont", desc := "(I)Z", sig := { parameters := [.int], returnType := some .boolean }, accessFlags := 10, code := some k1c2 }
def k1c3 : Code := { maxStack := 5, maxLocals := 16, code := code, exceptionTable := #[], attributes := #[] }
def k1m3 : Method := { name := "law", desc := "(IIII)Z", sig := { parameters := [.int, .int, .int, .int], returnType := some .boolean }, accessFlags := 9, code := some k1c3 }
/-- com/example/mince_trees/mincetrees/tree/Utf8EncodePinLaw -/
def k1 : Class := { plain "com/example/mince_trees/mincetrees/tree/Utf8EncodePinLaw" (some 0) with
  accessFlags := 49
  interfaces := #[]
  cf := some (fileOf pool1 18 #[] #[{ accessFlags := 2, nameIndex := 5, descriptorIndex := 6, attributes := #[] }, { accessFlags := 10, nameIndex := 21, descriptorIndex := 22, attributes := #[] }, { accessFlags := 10, nameIndex := 25, descriptorIndex := 26, attributes := #[] }, { accessFlags := 9, nameIndex := 30, descriptorIndex := 31, attributes := #[] }] 49 2 #[] #[])
  fields := #[]
  methods := #[k1m0, k1m1, k1m2, k1m3]
  instanceTypes := #[]
  staticTypes := #[]
  resolved := Array.replicate 36 none
  statics := none }

def pool2 : Array CpInfo := pool [(2, .class_ 4), (1, u "java/lang/Object"), (0, u "<init>"), (0, u "()V"), (0, .integer 65536), (0, .class_ 9), (0, u "com/example/mince_trees/mincetrees/tree/Utf8"), (0, u "MAX_BYTES_PER_CHARACTER"), (0, u "I"), (4, u "encode"), (0, u "(I[BI)I")] 5

def k2m0 : Method := { name := "<init>", desc := "()V", sig := { parameters := [], returnType := none }, accessFlags := 2, code := none }
def k2c1 : Code := { maxStack := 5, maxLocals := 4, code := prog_65_method_2_code, exceptionTable := #[], attributes := #[] }
def k2m1 : Method := { name := "encode", desc := "(I[BI)I", sig := { parameters := [.int, (.array .byte), .int], returnType := some .int }, accessFlags := 9, code := some k2c1 }
/-- com/example/mince_trees/mincetrees/tree/Utf8 -/
def k2 : Class := { plain "com/example/mince_trees/mincetrees/tree/Utf8" (some 0) with
  accessFlags := 49
  interfaces := #[]
  cf := some (fileOf pool2 8 #[] #[{ accessFlags := 2, nameIndex := 5, descriptorIndex := 6, attributes := #[] }, { accessFlags := 9, nameIndex := 16, descriptorIndex := 17, attributes := #[] }] 49 2 #[] #[{ accessFlags := 25, nameIndex := 10, descriptorIndex := 11, attributes := #[] }])
  fields := #[{ name := "MAX_BYTES_PER_CHARACTER", type := .int, accessFlags := 25, slot := 0, constantValue := 0 }]
  methods := #[k2m0, k2m1]
  instanceTypes := #[]
  staticTypes := #[.int]
  resolved := Array.replicate 23 none
  statics := none }

def pool3 : Array CpInfo := pool [(1, u "java/lang/Cloneable"), (0, .class_ 1), (0, u "java/lang/Object"), (0, .class_ 3)] 3

/-- java/lang/Cloneable -/
def k3 : Class := { plain "java/lang/Cloneable" (some 0) with
  accessFlags := 1537
  interfaces := #[]
  cf := some (fileOf pool3 2 #[] #[] 1537 4 #[] #[])
  fields := #[]
  methods := #[]
  instanceTypes := #[]
  staticTypes := #[]
  resolved := Array.replicate 8 none
  statics := none }

def pool4 : Array CpInfo := pool [(1, u "java/io/Serializable"), (0, .class_ 1), (0, u "java/lang/Object"), (0, .class_ 3)] 3

/-- java/io/Serializable -/
def k4 : Class := { plain "java/io/Serializable" (some 0) with
  accessFlags := 1537
  interfaces := #[]
  cf := some (fileOf pool4 2 #[] #[] 1537 4 #[] #[])
  fields := #[]
  methods := #[]
  instanceTypes := #[]
  staticTypes := #[]
  resolved := Array.replicate 8 none
  statics := none }

/-- the primitive byte -/
def k5 : Class := { plain "byte" none with kind := .primitive 'B', accessFlags := 0x411 }
/-- [B -/
def k6 : Class := { plain "[B" (some 0) with kind := .array 5 .byte, interfaces := #[3, 4], accessFlags := 1041 }

/-- the primitive int -/
def k7 : Class := { plain "int" none with kind := .primitive 'I', accessFlags := 0x411 }
/-- [I -/
def k8 : Class := { plain "[I" (some 0) with kind := .array 7 .int, interfaces := #[3, 4], accessFlags := 1041 }

def heap : Heap := #[]
def classes : Array Class := #[k0, k1, k2, k3, k4, k5, k6, k7, k8]
def interned : List (Array UInt16 × Addr) := []
def slotsUsed : Nat := 0
def theMethod : MethodId := ⟨1, 3⟩
def args0 : Array Value := #[.int 5, .int 6, .int 7, .int 8]
def aboutOver (below : List Frame) : State where
  vm := { classes := classes, interned := interned.toArray }
  heap := heap
  slotsUsed := slotsUsed
  threads := #[{ frames := .invoking theMethod args0 :: below }]
def below0 : List Frame := [.native { method := ⟨0, 0⟩, args := #[] }]
def about1 : State := aboutOver below0
def p0 : Program := .bare "" "" ""
def e0 : Env := launch0.env 0 0 0
theorem w_frames : about1.frames = Frame.invoking theMethod args0 :: below0 := rfl
set_option maxRecDepth 65536 in
theorem w_args : argsFit about1.vm theMethod args0 = true := by decide +kernel
set_option maxRecDepth 65536 in
theorem w_heap : heapFits about1 = true := by decide +kernel
set_option maxRecDepth 65536 in
theorem w_runnable : about1.curStatus? = some .runnable := by decide +kernel
set_option maxRecDepth 65536 in
theorem w_alone : about1.alone = true := by decide +kernel
set_option maxRecDepth 65536 in
theorem w_named : about1.methodNamed? x = some theMethod := by decide +kernel
set_option maxRecDepth 65536 in
theorem w_hears : about1.hears theMethod below0 = true := by decide +kernel
set_option maxRecDepth 65536 in
theorem w_ripe : about1.ripe theMethod args0 below0 = true := by decide +kernel
theorem w_running : about1.status = .running := rfl
set_option maxRecDepth 65536 in
theorem w_room : about1.hasRoom e0.platform room_1 = true :=
  launch0.hasRoom_least _ room_1 (by decide +kernel) (by decide +kernel) (by decide +kernel) (by decide +kernel) (by decide +kernel) (by decide +kernel)
theorem allAtoms_all (ts : List Jvm.Cond) (a : Array Jvm.Value) (st : Jvm.State) : (allAtoms ts).before a st = ts.all (fun c => c.before a st) := by
  induction ts with
  | nil => rfl
  | cons c t ih =>
    show (Jvm.Cond.and c (allAtoms t)).before a st = _
    rw [Jvm.Cond.before_and, ih, List.all_cons]
def words1 : List Jvm.Cond := Jvm.Cond.code x code maxLocals ret :: tables_1
/-- a 'code' word, met by the world's own term for the bytes: nothing is compared byte by byte -/
theorem code_word {y : MethodName} {bytes : ByteArray} {mx : Nat} {rt : Option FieldType} {a : Array Value} {s : State} {m : MethodId} {meth : Method} {c : Code} (h1 : s.methodNamed? y = some m) (h2 : s.vm.method? m = some meth) (h3 : meth.code = some c) (h4 : c.code = bytes)
    (h5 : (c.maxLocals == mx && c.exceptionTable.isEmpty && decide (c.maxStack ≤ mostOperands) && decide (meth.sig.returnType = rt) && !meth.locks && decide (parseMethodDescriptor y.desc = some meth.sig)) = true) : (Jvm.Cond.code y bytes mx rt).before a s = true := by
  simp only [Bool.and_eq_true, beq_iff_eq, Bool.not_eq_true', decide_eq_true_eq] at h5
  obtain ⟨⟨⟨⟨⟨g1, g2⟩, g3⟩, g4⟩, g5⟩, g6⟩ := h5
  simp [Cond.before, Cond.holds, Cond.value, h1, h2, h3, h4, g1, g2, g3, g4, g5, g6]
def isCode : Jvm.Cond → Bool
  | .code _ _ _ _ => true
  | _ => false
theorem all_split {L : List Jvm.Cond} {P : Jvm.Cond → Bool} (h1 : L.all (fun c => isCode c || P c) = true) (h2 : ∀ c ∈ L.filter isCode, P c = true) : L.all P = true := by
  refine List.all_eq_true.mpr fun c hc => ?_
  have h := List.all_eq_true.mp h1 c hc
  rcases Bool.eq_false_or_eq_true (isCode c) with hi | hi
  · exact h2 c (List.mem_filter.mpr ⟨hc, hi⟩)
  · simpa [hi] using h
set_option maxRecDepth 65536 in
theorem w_c0 : (Jvm.Cond.code x code maxLocals ret).before args0 about1 = true := code_word (m := ⟨1, 3⟩) (meth := k1m3) (c := k1c3) (by decide +kernel) rfl rfl rfl (by decide +kernel)
set_option maxRecDepth 65536 in
theorem w_c1 : (Jvm.Cond.code ({ cls := "com/example/mince_trees/mincetrees/tree/Utf8", name := "encode", desc := "(I[BI)I" } : Jvm.MethodName) prog_65_method_2_code (4 : Nat) (Option.some Jvm.ClassFile.FieldType.int)).before args0 about1 = true := code_word (m := ⟨2, 1⟩) (meth := k2m1) (c := k2c1) (by decide +kernel) rfl rfl rfl (by decide +kernel)
set_option maxRecDepth 65536 in
theorem w_c2 : (Jvm.Cond.code ({ cls := "com/example/mince_trees/mincetrees/tree/Utf8EncodePinLaw", name := "kept", desc := "([BIIIB)Z" } : Jvm.MethodName) method_2_code (5 : Nat) (Option.some Jvm.ClassFile.FieldType.boolean)).before args0 about1 = true := code_word (m := ⟨1, 1⟩) (meth := k1m1) (c := k1c1) (by decide +kernel) rfl rfl rfl (by decide +kernel)
set_option maxRecDepth 65536 in
theorem w_c3 : (Jvm.Cond.code ({ cls := "com/example/mince_trees/mincetrees/tree/Utf8EncodePinLaw", name := "cont", desc := "(I)Z" } : Jvm.MethodName) method_3_code (1 : Nat) (Option.some Jvm.ClassFile.FieldType.boolean)).before args0 about1 = true := code_word (m := ⟨1, 2⟩) (meth := k1m2) (c := k1c2) (by decide +kernel) rfl rfl rfl (by decide +kernel)
def codes1 : List Jvm.Cond := [Jvm.Cond.code x code maxLocals ret, Jvm.Cond.code ({ cls := "com/example/mince_trees/mincetrees/tree/Utf8", name := "encode", desc := "(I[BI)I" } : Jvm.MethodName) prog_65_method_2_code (4 : Nat) (Option.some Jvm.ClassFile.FieldType.int), Jvm.Cond.code ({ cls := "com/example/mince_trees/mincetrees/tree/Utf8EncodePinLaw", name := "kept", desc := "([BIIIB)Z" } : Jvm.MethodName) method_2_code (5 : Nat) (Option.some Jvm.ClassFile.FieldType.boolean), Jvm.Cond.code ({ cls := "com/example/mince_trees/mincetrees/tree/Utf8EncodePinLaw", name := "cont", desc := "(I)Z" } : Jvm.MethodName) method_3_code (1 : Nat) (Option.some Jvm.ClassFile.FieldType.boolean)]
set_option maxRecDepth 65536 in
theorem codes_eq : words1.filter isCode = codes1 := rfl
theorem w_codes : ∀ c ∈ words1.filter isCode, c.before args0 about1 = true := by
  rw [codes_eq]
  intro c hc
  simp only [codes1, List.mem_cons, List.not_mem_nil, or_false] at hc
  rcases hc with rfl | rfl | rfl | rfl
  · exact w_c0
  · exact w_c1
  · exact w_c2
  · exact w_c3
set_option maxRecDepth 65536 in
theorem w_t1 : words1.all (fun c => isCode c || c.before args0 about1) = true := by decide +kernel
theorem w_tables : (allAtoms (Jvm.Cond.code x code maxLocals ret :: tables_1)).before args0 about1 = true := by
  rw [allAtoms_all]
  show words1.all (fun c => c.before args0 about1) = true
  refine all_split ?_ w_codes
  rw [w_t1]
set_option maxRecDepth 65536 in
theorem w_case : (Jvm.Cond.and given_1 narrow_1).before args0 about1 = true := by decide +kernel
theorem w_applies : (headSpec (Jvm.Cond.code x code maxLocals ret :: tables_1) room_1).applies x e0.platform about1 = true :=
  (Spec.applies_iff w_frames).mpr ⟨w_running, w_runnable, w_alone, w_named, w_hears, w_ripe, w_room, w_tables⟩
theorem atStart : AtStart classFile x code maxLocals ret World_1 tables_1 room_1 Calls_1 rest_1 Pre_1 launch0 p0 e0 about1 theMethod args0 below0 :=
  ⟨lists_1, trivial, launch0.admits_env _ _ _, launch0.least_env, fairChoices_fair.cas, fairChoices_fair.clock, w_frames, w_args, w_heap, w_applies, trivial, trivial, w_case⟩
end start1
theorem witness_1 : WitnessClaimed_1 := ⟨start1.p0, start1.e0, start1.about1, start1.theMethod, start1.args0, start1.below0, start1.atStart⟩
end Jvm.Pilot.@@N@@
