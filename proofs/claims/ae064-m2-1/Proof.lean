import JvmDerived
import JvmDerived.Pilot.@@N@@Statement
import JvmDerived.Pilot.@@N@@Code
set_option linter.unusedVariables false
set_option linter.unusedSimpArgs false
namespace Jvm.Pilot.@@N@@
open Jvm Jvm.ClassFile Sem Op Lib Jvm.Free Jvm.Stand Jvm.LawKit Jvm.RoadKit Bundle Jvm.Pilot.@@N@@.Jvm.D
section OwnPre
/-- where the run stands, with all that stays true of the body -/
def St (p : Program) (l : Launch) (e : Env) (R : Room) (s : State) (m : MethodId) (args : Array Value) (below : List Frame) (meth : Method) (c : Code) (Z : State) (own : String) (bytes : ByteArray) (ml n0 : Nat) (ret : Option FieldType) (nm : String) (T : State) (h : Heap) (cells slots : Nat) : Prop :=
  ∃ locs, Stand p l e R s m args below meth c T locs cells slots ∧ Fr n0 locs ∧ T.heap = h ∧ p.tables.exec = Jvm.exec ∧ Z.Warmed39 s.vm ∧ s.vm.findClass own = some m.cls ∧ c.code = bytes ∧ c.maxLocals = ml ∧ meth.locks = false ∧ n0 ≤ s.heap.size ∧ meth.sig.returnType = ret ∧ meth.name = nm
def Wp (p : Program) (e : Env) (below : List Frame) (PO : Outcome → State → Prop) (T : State) (g : JFrame) : Prop := ∃ t o, Steps p.tables e below (T.setTop g) t ∧ t.status = .running ∧ Ended t below o ∧ PO o t
def Po (s : State) (n0 : Nat) (R : Room) (Q : Option Value → Heap → Prop) (o : Outcome) (t : State) : Prop := ∃ v L, o = .returned v ∧ (Q v t.heap ∧ Fr n0 L) ∧ FrameEnd s o t L R.cells R.slots
def Ct (l : Launch) (y : MethodName) (bytes : ByteArray) (ml : Nat) (ret : Option FieldType) (ws : List Jvm.Cond) (R : Room) (Z : State) (h0 : Heap) (n0 : Nat) (as : Array Value) (Q : Option Value → Heap → Prop) : Prop :=
  MetFree l y (head1 (Jvm.Cond.code y bytes ml ret :: ws) R) (fun a U => a = as ∧ Z.Warmed39 U.vm ∧ U.heap = h0) (fun _ _ _ _ _ => True) (fun _ U o U' => Po U n0 R Q o U')
variable {p : Program} {l : Launch} {e : Env} {R : Room} {s : State} {m : MethodId} {args : Array Value} {below : List Frame} {meth : Method} {c : Code} {Z : State} {own : String} {bytes : ByteArray} {ml n0 : Nat} {ret : Option FieldType} {nm : String} {T : State} {h : Heap} {cells slots : Nat} {PO : Outcome → State → Prop} {a0 : Array Value} {pc q : Nat} {L : Array Slot} {st : List Value}
theorem o_body {y : MethodName} {ws : List Jvm.Cond} {h0 : Heap} {as : Array Value} {Q : Option Value → Heap → Prop} {L0 : Array Slot} (hpl : plainFor y = true) (hn : n0 ≤ h0.size) (hef : ∀ m, entryFrame m as ml = mkF m 0 L0 [])
    (k : ∀ (p : Program) (e : Env) (s : State) (m : MethodId) (below : List Frame) (meth : Method) (c : Code) (T : State), St p l e R s m as below meth c Z y.cls bytes ml n0 ret y.name T h0 0 0 → Wp p e below (Po s n0 R Q) T (mkF m 0 L0 [])) :
    Ct l y bytes ml ret ws R Z h0 n0 as Q := by
  refine MetFree.of_bodySF hpl hisR ?_
  intro p e s m args below meth c s₁ Bd hml0 hP hK
  obtain ⟨rfl, hZ, hh⟩ := hP
  have X0 : Stand p l e R s m args below meth c s₁ [] 0 0 := Stand.of_body Bd
  have e0 : s₁.heap = h0 := by rw [← hh, Bd.state]; rfl
  obtain ⟨t, o, h1, h2, h3, h4⟩ := k p e s m below meth c s₁ ⟨[], X0, Fr.nil n0, e0, Bd.exec, hZ, findClass_of_methodNamed Bd.named, Bd.bytes, hml0, BodyLoose.notSynchronized Bd, (by rw [hh]; exact hn), Bd.returns, (name_of_methodNamed Bd.named Bd.method).1⟩
  exact ⟨t, o, castTop (hef m) h1, h2, h3, h4⟩
theorem o_st (S : St p l e R s m args below meth c Z own bytes ml n0 ret nm T h cells slots) {g g' : JFrame} (hs : ∀ t, At T m c below → p.tables.exec = Jvm.exec → c.code = bytes → Steps p.tables e below (T.setTop g') t → Steps p.tables e below (T.setTop g) t) (k : Wp p e below PO T g') : Wp p e below PO T g := by
  obtain ⟨locs, X, N, eT, hx, hZ, hown, hby, hml, hlk, hn, hrt, hnm⟩ := S
  obtain ⟨t, o, h1, h2⟩ := k
  exact ⟨t, o, hs t X.here hx hby h1, h2⟩
theorem o_to {T' : State} {g g' : JFrame} (hs : ∀ t, Steps p.tables e below (T'.setTop g') t → Steps p.tables e below (T.setTop g) t) (k : Wp p e below PO T' g') : Wp p e below PO T g := by
  obtain ⟨t, o, h1, h2⟩ := k
  exact ⟨t, o, hs t h1, h2⟩
theorem o_heap (S : St p l e R s m args below meth c Z own bytes ml n0 ret nm T h cells slots) : T.heap = h := by obtain ⟨locs, X, N, eT, -⟩ := S; exact eT
theorem o_n0 (S : St p l e R s m args below meth c Z own bytes ml n0 ret nm T h cells slots) : n0 ≤ h.size := by
  obtain ⟨locs, X, N, eT, hx, hZ, hown, hby, hml, hlk, hn, -⟩ := S
  have := X.same.2.1
  rw [← eT]; exact Nat.le_trans hn this
theorem o_wd {i : Nat} {d : Jvm.Cond} (hw : ∀ d ∈ tables_1, d.before a0 Z = true) (hi : tables_1[i]? = some d) : d.before a0 Z = true := hw _ (List.mem_of_getElem? hi)

theorem o_iloadN (S : St p l e R s m args below meth c Z own bytes ml n0 ret nm T h cells slots) {k : Fin 4} {v : Int32} (hl : L[k.val]? = some (.val (.int v))) (hd : decode bytes pc = .ok (.iload_n k, 1)) (hq : pc + 1 = q) (k : Wp p e below PO T (mkF m q L (.int v :: st))) : Wp p e below PO T (mkF m pc L (st)) := by
  subst hq
  exact o_st S (fun t X hx hy r => XS.iloadN X hx rfl (hb hy hd) hl r) k
theorem o_lloadN (S : St p l e R s m args below meth c Z own bytes ml n0 ret nm T h cells slots) {k : Fin 4} {v : Int64} (hl : L[k.val]? = some (.val (.long v))) (hd : decode bytes pc = .ok (.lload_n k, 1)) (hq : pc + 1 = q) (k : Wp p e below PO T (mkF m q L (.long v :: st))) : Wp p e below PO T (mkF m pc L (st)) := by
  subst hq
  exact o_st S (fun t X hx hy r => XS.lloadN X hx rfl (hb hy hd) hl r) k
theorem o_aloadN (S : St p l e R s m args below meth c Z own bytes ml n0 ret nm T h cells slots) {k : Fin 4} {v : Value} (hl : L[k.val]? = some (.val v)) (hv : v.isRef = true) (hd : decode bytes pc = .ok (.aload_n k, 1)) (hq : pc + 1 = q) (k : Wp p e below PO T (mkF m q L (v :: st))) : Wp p e below PO T (mkF m pc L (st)) := by
  subst hq
  exact o_st S (fun t X hx hy r => XS.aloadN X hx rfl (hb hy hd) hl hv r) k
theorem o_istoreN (S : St p l e R s m args below meth c Z own bytes ml n0 ret nm T h cells slots) {k : Fin 4} {x : Int32} {L' : Array Slot} (hl : storeLocals L k.val (.int x) = some L') (hd : decode bytes pc = .ok (.istore_n k, 1)) (hq : pc + 1 = q) (k : Wp p e below PO T (mkF m q L' (st))) : Wp p e below PO T (mkF m pc L (.int x :: st)) := by
  subst hq
  exact o_st S (fun t X hx hy r => XS.istoreN X hx rfl (hb hy hd) rfl hl r) k
theorem o_istoreVN (S : St p l e R s m args below meth c Z own bytes ml n0 ret nm T h cells slots) {k : Fin 4} {x : Int32} {L' : Int32 → Array Slot} (hl : ∀ v, storeLocals L k.val (.int v) = some (L' v)) (hd : decode bytes pc = .ok (.istore_n k, 1)) (hq : pc + 1 = q) (k : ∀ v, v = x → Wp p e below PO T (mkF m q (L' v) st)) : Wp p e below PO T (mkF m pc L (.int x :: st)) :=
  o_istoreN S (hl x) hd hq (k x rfl)
theorem o_lstoreN (S : St p l e R s m args below meth c Z own bytes ml n0 ret nm T h cells slots) {k : Fin 4} {x : Int64} {L' : Array Slot} (hl : storeLocals L k.val (.long x) = some L') (hd : decode bytes pc = .ok (.lstore_n k, 1)) (hq : pc + 1 = q) (k : Wp p e below PO T (mkF m q L' (st))) : Wp p e below PO T (mkF m pc L (.long x :: st)) := by
  subst hq
  exact o_st S (fun t X hx hy r => XS.lstoreN X hx rfl (hb hy hd) rfl hl r) k
theorem o_lstoreVN (S : St p l e R s m args below meth c Z own bytes ml n0 ret nm T h cells slots) {k : Fin 4} {x : Int64} {L' : Int64 → Array Slot} (hl : ∀ v, storeLocals L k.val (.long v) = some (L' v)) (hd : decode bytes pc = .ok (.lstore_n k, 1)) (hq : pc + 1 = q) (k : ∀ v, v = x → Wp p e below PO T (mkF m q (L' v) st)) : Wp p e below PO T (mkF m pc L (.long x :: st)) :=
  o_lstoreN S (hl x) hd hq (k x rfl)
theorem o_astoreN (S : St p l e R s m args below meth c Z own bytes ml n0 ret nm T h cells slots) {k : Fin 4} {x : Value} {L' : Array Slot} (hv : x.isRef = true) (hl : storeLocals L k.val x = some L') (hd : decode bytes pc = .ok (.astore_n k, 1)) (hq : pc + 1 = q) (k : Wp p e below PO T (mkF m q L' (st))) : Wp p e below PO T (mkF m pc L (x :: st)) := by
  subst hq
  exact o_st S (fun t X hx hy r => XS.astoreN X hx rfl (hb hy hd) rfl hv hl r) k
theorem o_iload (S : St p l e R s m args below meth c Z own bytes ml n0 ret nm T h cells slots) {k : Nat} {v : Int32} (hl : L[k]? = some (.val (.int v))) (hd : decode bytes pc = .ok (.iload k, 2)) (hq : pc + 2 = q) (k : Wp p e below PO T (mkF m q L (.int v :: st))) : Wp p e below PO T (mkF m pc L (st)) := by
  subst hq
  exact o_st S (fun t X hx hy r => XS.iload X hx rfl (hb hy hd) hl r) k
theorem o_lload (S : St p l e R s m args below meth c Z own bytes ml n0 ret nm T h cells slots) {k : Nat} {v : Int64} (hl : L[k]? = some (.val (.long v))) (hd : decode bytes pc = .ok (.lload k, 2)) (hq : pc + 2 = q) (k : Wp p e below PO T (mkF m q L (.long v :: st))) : Wp p e below PO T (mkF m pc L (st)) := by
  subst hq
  exact o_st S (fun t X hx hy r => XS.lload X hx rfl (hb hy hd) hl r) k
theorem o_aload (S : St p l e R s m args below meth c Z own bytes ml n0 ret nm T h cells slots) {k : Nat} {v : Value} (hl : L[k]? = some (.val v)) (hv : v.isRef = true) (hd : decode bytes pc = .ok (.aload k, 2)) (hq : pc + 2 = q) (k : Wp p e below PO T (mkF m q L (v :: st))) : Wp p e below PO T (mkF m pc L (st)) := by
  subst hq
  exact o_st S (fun t X hx hy r => XS.aload X hx rfl (hb hy hd) hl hv r) k
theorem o_istore (S : St p l e R s m args below meth c Z own bytes ml n0 ret nm T h cells slots) {k : Nat} {x : Int32} {L' : Array Slot} (hl : storeLocals L k (.int x) = some L') (hd : decode bytes pc = .ok (.istore k, 2)) (hq : pc + 2 = q) (k : Wp p e below PO T (mkF m q L' (st))) : Wp p e below PO T (mkF m pc L (.int x :: st)) := by
  subst hq
  exact o_st S (fun t X hx hy r => XS.istore X hx rfl (hb hy hd) rfl hl r) k
theorem o_istoreV (S : St p l e R s m args below meth c Z own bytes ml n0 ret nm T h cells slots) {k : Nat} {x : Int32} {L' : Int32 → Array Slot} (hl : ∀ v, storeLocals L k (.int v) = some (L' v)) (hd : decode bytes pc = .ok (.istore k, 2)) (hq : pc + 2 = q) (k : ∀ v, v = x → Wp p e below PO T (mkF m q (L' v) st)) : Wp p e below PO T (mkF m pc L (.int x :: st)) :=
  o_istore S (hl x) hd hq (k x rfl)
theorem o_lstore (S : St p l e R s m args below meth c Z own bytes ml n0 ret nm T h cells slots) {k : Nat} {x : Int64} {L' : Array Slot} (hl : storeLocals L k (.long x) = some L') (hd : decode bytes pc = .ok (.lstore k, 2)) (hq : pc + 2 = q) (k : Wp p e below PO T (mkF m q L' (st))) : Wp p e below PO T (mkF m pc L (.long x :: st)) := by
  subst hq
  exact o_st S (fun t X hx hy r => XS.lstore X hx rfl (hb hy hd) rfl hl r) k
theorem o_lstoreV (S : St p l e R s m args below meth c Z own bytes ml n0 ret nm T h cells slots) {k : Nat} {x : Int64} {L' : Int64 → Array Slot} (hl : ∀ v, storeLocals L k (.long v) = some (L' v)) (hd : decode bytes pc = .ok (.lstore k, 2)) (hq : pc + 2 = q) (k : ∀ v, v = x → Wp p e below PO T (mkF m q (L' v) st)) : Wp p e below PO T (mkF m pc L (.long x :: st)) :=
  o_lstore S (hl x) hd hq (k x rfl)
theorem o_astore (S : St p l e R s m args below meth c Z own bytes ml n0 ret nm T h cells slots) {k : Nat} {x : Value} {L' : Array Slot} (hv : x.isRef = true) (hl : storeLocals L k x = some L') (hd : decode bytes pc = .ok (.astore k, 2)) (hq : pc + 2 = q) (k : Wp p e below PO T (mkF m q L' (st))) : Wp p e below PO T (mkF m pc L (x :: st)) := by
  subst hq
  exact o_st S (fun t X hx hy r => XS.astore X hx rfl (hb hy hd) rfl hv hl r) k
theorem o_iconst (S : St p l e R s m args below meth c Z own bytes ml n0 ret nm T h cells slots) {i : Int} {z : Int32} (hz : Int32.ofInt i = z) (hd : decode bytes pc = .ok (.iconst i, 1)) (hq : pc + 1 = q) (k : Wp p e below PO T (mkF m q L (.int z :: st))) : Wp p e below PO T (mkF m pc L (st)) := by
  subst hq
  exact o_st S (fun t X hx hy r => XS.iconst X hx rfl (hb hy hd) (hz ▸ r)) k
theorem o_bipush (S : St p l e R s m args below meth c Z own bytes ml n0 ret nm T h cells slots) {i : Int} {z : Int32} (hz : (Int8.ofInt i).toInt32 = z) (hd : decode bytes pc = .ok (.bipush i, 2)) (hq : pc + 2 = q) (k : Wp p e below PO T (mkF m q L (.int z :: st))) : Wp p e below PO T (mkF m pc L (st)) := by
  subst hq
  exact o_st S (fun t X hx hy r => XS.bipush X hx rfl (hb hy hd) (hz ▸ r)) k
theorem o_sipush (S : St p l e R s m args below meth c Z own bytes ml n0 ret nm T h cells slots) {i : Int} {z : Int32} (hz : (Int16.ofInt i).toInt32 = z) (hd : decode bytes pc = .ok (.sipush i, 3)) (hq : pc + 3 = q) (k : Wp p e below PO T (mkF m q L (.int z :: st))) : Wp p e below PO T (mkF m pc L (st)) := by
  subst hq
  exact o_st S (fun t X hx hy r => XS.sipush X hx rfl (hb hy hd) (hz ▸ r)) k
theorem o_lconst (S : St p l e R s m args below meth c Z own bytes ml n0 ret nm T h cells slots) {i : Fin 2} {z : Int64} (hz : Int64.ofNat i = z) (hd : decode bytes pc = .ok (.lconst i, 1)) (hq : pc + 1 = q) (k : Wp p e below PO T (mkF m q L (.long z :: st))) : Wp p e below PO T (mkF m pc L (st)) := by
  subst hq
  exact o_st S (fun t X hx hy r => XS.lconst X hx rfl (hb hy hd) (hz ▸ r)) k
theorem o_aconstNull (S : St p l e R s m args below meth c Z own bytes ml n0 ret nm T h cells slots)  (hd : decode bytes pc = .ok (.aconst_null, 1)) (hq : pc + 1 = q) (k : Wp p e below PO T (mkF m q L (.null :: st))) : Wp p e below PO T (mkF m pc L (st)) := by
  subst hq
  exact o_st S (fun t X hx hy r => XS.aconstNull X hx rfl (hb hy hd) r) k
theorem o_iadd (S : St p l e R s m args below meth c Z own bytes ml n0 ret nm T h cells slots) {x y : Int32} (hd : decode bytes pc = .ok (.iadd, 1)) (hq : pc + 1 = q) (k : Wp p e below PO T (mkF m q L (.int (x + y) :: st))) : Wp p e below PO T (mkF m pc L (.int y :: .int x :: st)) := by
  subst hq
  exact o_st S (fun t X hx hy r => XS.iadd X hx rfl (hb hy hd) rfl r) k
theorem o_ladd (S : St p l e R s m args below meth c Z own bytes ml n0 ret nm T h cells slots) {x y : Int64} (hd : decode bytes pc = .ok (.ladd, 1)) (hq : pc + 1 = q) (k : Wp p e below PO T (mkF m q L (.long (x + y) :: st))) : Wp p e below PO T (mkF m pc L (.long y :: .long x :: st)) := by
  subst hq
  exact o_st S (fun t X hx hy r => XS.ladd X hx rfl (hb hy hd) rfl r) k
theorem o_isub (S : St p l e R s m args below meth c Z own bytes ml n0 ret nm T h cells slots) {x y : Int32} (hd : decode bytes pc = .ok (.isub, 1)) (hq : pc + 1 = q) (k : Wp p e below PO T (mkF m q L (.int (x - y) :: st))) : Wp p e below PO T (mkF m pc L (.int y :: .int x :: st)) := by
  subst hq
  exact o_st S (fun t X hx hy r => XS.isub X hx rfl (hb hy hd) rfl r) k
theorem o_lsub (S : St p l e R s m args below meth c Z own bytes ml n0 ret nm T h cells slots) {x y : Int64} (hd : decode bytes pc = .ok (.lsub, 1)) (hq : pc + 1 = q) (k : Wp p e below PO T (mkF m q L (.long (x - y) :: st))) : Wp p e below PO T (mkF m pc L (.long y :: .long x :: st)) := by
  subst hq
  exact o_st S (fun t X hx hy r => XS.lsub X hx rfl (hb hy hd) rfl r) k
theorem o_imul (S : St p l e R s m args below meth c Z own bytes ml n0 ret nm T h cells slots) {x y : Int32} (hd : decode bytes pc = .ok (.imul, 1)) (hq : pc + 1 = q) (k : Wp p e below PO T (mkF m q L (.int (x * y) :: st))) : Wp p e below PO T (mkF m pc L (.int y :: .int x :: st)) := by
  subst hq
  exact o_st S (fun t X hx hy r => XS.imul X hx rfl (hb hy hd) rfl r) k
theorem o_lmul (S : St p l e R s m args below meth c Z own bytes ml n0 ret nm T h cells slots) {x y : Int64} (hd : decode bytes pc = .ok (.lmul, 1)) (hq : pc + 1 = q) (k : Wp p e below PO T (mkF m q L (.long (x * y) :: st))) : Wp p e below PO T (mkF m pc L (.long y :: .long x :: st)) := by
  subst hq
  exact o_st S (fun t X hx hy r => XS.lmul X hx rfl (hb hy hd) rfl r) k
theorem o_iand (S : St p l e R s m args below meth c Z own bytes ml n0 ret nm T h cells slots) {x y : Int32} (hd : decode bytes pc = .ok (.iand, 1)) (hq : pc + 1 = q) (k : Wp p e below PO T (mkF m q L (.int (x &&& y) :: st))) : Wp p e below PO T (mkF m pc L (.int y :: .int x :: st)) := by
  subst hq
  exact o_st S (fun t X hx hy r => XS.iand X hx rfl (hb hy hd) rfl r) k
theorem o_land (S : St p l e R s m args below meth c Z own bytes ml n0 ret nm T h cells slots) {x y : Int64} (hd : decode bytes pc = .ok (.land, 1)) (hq : pc + 1 = q) (k : Wp p e below PO T (mkF m q L (.long (x &&& y) :: st))) : Wp p e below PO T (mkF m pc L (.long y :: .long x :: st)) := by
  subst hq
  exact o_st S (fun t X hx hy r => XS.land X hx rfl (hb hy hd) rfl r) k
theorem o_ior (S : St p l e R s m args below meth c Z own bytes ml n0 ret nm T h cells slots) {x y : Int32} (hd : decode bytes pc = .ok (.ior, 1)) (hq : pc + 1 = q) (k : Wp p e below PO T (mkF m q L (.int (x ||| y) :: st))) : Wp p e below PO T (mkF m pc L (.int y :: .int x :: st)) := by
  subst hq
  exact o_st S (fun t X hx hy r => XS.ior X hx rfl (hb hy hd) rfl r) k
theorem o_lor (S : St p l e R s m args below meth c Z own bytes ml n0 ret nm T h cells slots) {x y : Int64} (hd : decode bytes pc = .ok (.lor, 1)) (hq : pc + 1 = q) (k : Wp p e below PO T (mkF m q L (.long (x ||| y) :: st))) : Wp p e below PO T (mkF m pc L (.long y :: .long x :: st)) := by
  subst hq
  exact o_st S (fun t X hx hy r => XS.lor X hx rfl (hb hy hd) rfl r) k
theorem o_ixor (S : St p l e R s m args below meth c Z own bytes ml n0 ret nm T h cells slots) {x y : Int32} (hd : decode bytes pc = .ok (.ixor, 1)) (hq : pc + 1 = q) (k : Wp p e below PO T (mkF m q L (.int (x ^^^ y) :: st))) : Wp p e below PO T (mkF m pc L (.int y :: .int x :: st)) := by
  subst hq
  exact o_st S (fun t X hx hy r => XS.ixor X hx rfl (hb hy hd) rfl r) k
theorem o_lxor (S : St p l e R s m args below meth c Z own bytes ml n0 ret nm T h cells slots) {x y : Int64} (hd : decode bytes pc = .ok (.lxor, 1)) (hq : pc + 1 = q) (k : Wp p e below PO T (mkF m q L (.long (x ^^^ y) :: st))) : Wp p e below PO T (mkF m pc L (.long y :: .long x :: st)) := by
  subst hq
  exact o_st S (fun t X hx hy r => XS.lxor X hx rfl (hb hy hd) rfl r) k
theorem o_irem (S : St p l e R s m args below meth c Z own bytes ml n0 ret nm T h cells slots) {x y : Int32} (hy0 : y ≠ 0) (hd : decode bytes pc = .ok (.irem, 1)) (hq : pc + 1 = q) (k : Wp p e below PO T (mkF m q L (.int (x % y) :: st))) : Wp p e below PO T (mkF m pc L (.int y :: .int x :: st)) := by
  subst hq
  exact o_st S (fun t X hx hy r => XS.irem X hx rfl (hb hy hd) rfl hy0 (by have q : x - x / y * y = x % y := irem_eq_mod x y; rw [q]; exact r)) k
theorem o_idiv (S : St p l e R s m args below meth c Z own bytes ml n0 ret nm T h cells slots) {x y : Int32} (hy0 : y ≠ 0) (hd : decode bytes pc = .ok (.idiv, 1)) (hq : pc + 1 = q) (k : Wp p e below PO T (mkF m q L (.int (x / y) :: st))) : Wp p e below PO T (mkF m pc L (.int y :: .int x :: st)) := by
  subst hq
  exact o_st S (fun t X hx hy r => XS.idiv X hx rfl (hb hy hd) rfl hy0 r) k
theorem o_ineg (S : St p l e R s m args below meth c Z own bytes ml n0 ret nm T h cells slots) {x : Int32} (hd : decode bytes pc = .ok (.ineg, 1)) (hq : pc + 1 = q) (k : Wp p e below PO T (mkF m q L (.int (-x) :: st))) : Wp p e below PO T (mkF m pc L (.int x :: st)) := by
  subst hq
  exact o_st S (fun t X hx hy r => XS.ineg X hx rfl (hb hy hd) rfl r) k
theorem o_lneg (S : St p l e R s m args below meth c Z own bytes ml n0 ret nm T h cells slots) {x : Int64} (hd : decode bytes pc = .ok (.lneg, 1)) (hq : pc + 1 = q) (k : Wp p e below PO T (mkF m q L (.long (-x) :: st))) : Wp p e below PO T (mkF m pc L (.long x :: st)) := by
  subst hq
  exact o_st S (fun t X hx hy r => XS.lneg X hx rfl (hb hy hd) rfl r) k
theorem o_i2l (S : St p l e R s m args below meth c Z own bytes ml n0 ret nm T h cells slots) {x : Int32} (hd : decode bytes pc = .ok (.i2l, 1)) (hq : pc + 1 = q) (k : Wp p e below PO T (mkF m q L (.long x.toInt64 :: st))) : Wp p e below PO T (mkF m pc L (.int x :: st)) := by
  subst hq
  exact o_st S (fun t X hx hy r => XS.i2l X hx rfl (hb hy hd) rfl r) k
theorem o_l2i (S : St p l e R s m args below meth c Z own bytes ml n0 ret nm T h cells slots) {x : Int64} (hd : decode bytes pc = .ok (.l2i, 1)) (hq : pc + 1 = q) (k : Wp p e below PO T (mkF m q L (.int x.toInt32 :: st))) : Wp p e below PO T (mkF m pc L (.long x :: st)) := by
  subst hq
  exact o_st S (fun t X hx hy r => XS.l2i X hx rfl (hb hy hd) rfl r) k
theorem o_i2b (S : St p l e R s m args below meth c Z own bytes ml n0 ret nm T h cells slots) {x : Int32} (hd : decode bytes pc = .ok (.i2b, 1)) (hq : pc + 1 = q) (k : Wp p e below PO T (mkF m q L (.int x.toInt8.toInt32 :: st))) : Wp p e below PO T (mkF m pc L (.int x :: st)) := by
  subst hq
  exact o_st S (fun t X hx hy r => XS.i2b X hx rfl (hb hy hd) rfl r) k
theorem o_i2s (S : St p l e R s m args below meth c Z own bytes ml n0 ret nm T h cells slots) {x : Int32} (hd : decode bytes pc = .ok (.i2s, 1)) (hq : pc + 1 = q) (k : Wp p e below PO T (mkF m q L (.int x.toInt16.toInt32 :: st))) : Wp p e below PO T (mkF m pc L (.int x :: st)) := by
  subst hq
  exact o_st S (fun t X hx hy r => XS.i2s X hx rfl (hb hy hd) rfl r) k
theorem o_i2c (S : St p l e R s m args below meth c Z own bytes ml n0 ret nm T h cells slots) {x : Int32} (hd : decode bytes pc = .ok (.i2c, 1)) (hq : pc + 1 = q) (k : Wp p e below PO T (mkF m q L (.int x.toUInt32.toUInt16.toUInt32.toInt32 :: st))) : Wp p e below PO T (mkF m pc L (.int x :: st)) := by
  subst hq
  exact o_st S (fun t X hx hy r => XS.i2c X hx rfl (hb hy hd) rfl r) k
theorem o_ishl (S : St p l e R s m args below meth c Z own bytes ml n0 ret nm T h cells slots) {x y : Int32} (hd : decode bytes pc = .ok (.ishl, 1)) (hq : pc + 1 = q) (k : Wp p e below PO T (mkF m q L (.int (x <<< (y &&& 31)) :: st))) : Wp p e below PO T (mkF m pc L (.int y :: .int x :: st)) := by
  subst hq
  exact o_st S (fun t X hx hy r => XS.ishl X hx rfl (hb hy hd) rfl r) k
theorem o_ishr (S : St p l e R s m args below meth c Z own bytes ml n0 ret nm T h cells slots) {x y : Int32} (hd : decode bytes pc = .ok (.ishr, 1)) (hq : pc + 1 = q) (k : Wp p e below PO T (mkF m q L (.int (x >>> (y &&& 31)) :: st))) : Wp p e below PO T (mkF m pc L (.int y :: .int x :: st)) := by
  subst hq
  exact o_st S (fun t X hx hy r => XS.ishr X hx rfl (hb hy hd) rfl r) k
theorem o_iushr (S : St p l e R s m args below meth c Z own bytes ml n0 ret nm T h cells slots) {x y : Int32} (hd : decode bytes pc = .ok (.iushr, 1)) (hq : pc + 1 = q) (k : Wp p e below PO T (mkF m q L (.int ((x.toUInt32 >>> (y &&& 31).toUInt32).toInt32) :: st))) : Wp p e below PO T (mkF m pc L (.int y :: .int x :: st)) := by
  subst hq
  exact o_st S (fun t X hx hy r => XS.iushr X hx rfl (hb hy hd) rfl r) k
theorem o_lshl (S : St p l e R s m args below meth c Z own bytes ml n0 ret nm T h cells slots) {x : Int64} {y : Int32} (hd : decode bytes pc = .ok (.lshl, 1)) (hq : pc + 1 = q) (k : Wp p e below PO T (mkF m q L (.long (x <<< (y &&& 0x3f).toInt64) :: st))) : Wp p e below PO T (mkF m pc L (.int y :: .long x :: st)) := by
  subst hq
  exact o_st S (fun t X hx hy r => XS.lshl X hx rfl (hb hy hd) rfl r) k
theorem o_lshr (S : St p l e R s m args below meth c Z own bytes ml n0 ret nm T h cells slots) {x : Int64} {y : Int32} (hd : decode bytes pc = .ok (.lshr, 1)) (hq : pc + 1 = q) (k : Wp p e below PO T (mkF m q L (.long (x >>> (y &&& 0x3f).toInt64) :: st))) : Wp p e below PO T (mkF m pc L (.int y :: .long x :: st)) := by
  subst hq
  exact o_st S (fun t X hx hy r => XS.lshr X hx rfl (hb hy hd) rfl r) k
theorem o_lushr (S : St p l e R s m args below meth c Z own bytes ml n0 ret nm T h cells slots) {x : Int64} {y : Int32} (hd : decode bytes pc = .ok (.lushr, 1)) (hq : pc + 1 = q) (k : Wp p e below PO T (mkF m q L (.long ((x.toUInt64 >>> (y &&& 0x3f).toInt64.toUInt64).toInt64) :: st))) : Wp p e below PO T (mkF m pc L (.int y :: .long x :: st)) := by
  subst hq
  exact o_st S (fun t X hx hy r => XS.lushr X hx rfl (hb hy hd) rfl r) k
theorem o_lcmp (S : St p l e R s m args below meth c Z own bytes ml n0 ret nm T h cells slots) {x y : Int64} (hd : decode bytes pc = .ok (.lcmp, 1)) (hq : pc + 1 = q) (k : Wp p e below PO T (mkF m q L (.int (lcmpW x y) :: st))) : Wp p e below PO T (mkF m pc L (.long y :: .long x :: st)) := by
  subst hq
  exact o_st S (fun t X hx hy r => XS.lcmp X hx rfl (hb hy hd) rfl r) k
theorem o_dup (S : St p l e R s m args below meth c Z own bytes ml n0 ret nm T h cells slots) {x : Value} (hc : x.category = 1) (hd : decode bytes pc = .ok (.dup, 1)) (hq : pc + 1 = q) (k : Wp p e below PO T (mkF m q L (x :: x :: st))) : Wp p e below PO T (mkF m pc L (x :: st)) := by
  subst hq
  exact o_st S (fun t X hx hy r => XS.dup X hx rfl (hb hy hd) rfl hc r) k
theorem o_pop (S : St p l e R s m args below meth c Z own bytes ml n0 ret nm T h cells slots) {x : Value} (hc : x.category = 1) (hd : decode bytes pc = .ok (.pop, 1)) (hq : pc + 1 = q) (k : Wp p e below PO T (mkF m q L (st))) : Wp p e below PO T (mkF m pc L (x :: st)) := by
  subst hq
  exact o_st S (fun t X hx hy r => XS.pop X hx rfl (hb hy hd) rfl hc r) k
theorem o_dupX1 (S : St p l e R s m args below meth c Z own bytes ml n0 ret nm T h cells slots) {x y : Value} (hc : x.category = 1) (hc' : y.category = 1) (hd : decode bytes pc = .ok (.dup_x1, 1)) (hq : pc + 1 = q) (k : Wp p e below PO T (mkF m q L (x :: y :: x :: st))) : Wp p e below PO T (mkF m pc L (x :: y :: st)) := by
  subst hq
  exact o_st S (fun t X hx hy r => XS.dupX1 X hx rfl (hb hy hd) rfl hc hc' r) k
theorem o_dup2 (S : St p l e R s m args below meth c Z own bytes ml n0 ret nm T h cells slots) {x y : Value} (hc : x.category = 1) (hc' : y.category = 1) (hd : decode bytes pc = .ok (.dup2, 1)) (hq : pc + 1 = q) (k : Wp p e below PO T (mkF m q L (x :: y :: x :: y :: st))) : Wp p e below PO T (mkF m pc L (x :: y :: st)) := by
  subst hq
  exact o_st S (fun t X hx hy r => XT.dup2 X hx rfl (hb hy hd) rfl hc hc' r) k
theorem o_iinc (S : St p l e R s m args below meth c Z own bytes ml n0 ret nm T h cells slots) {k : Nat} {i : Int} {x : Int32} {L' : Array Slot} (hl : L[k]? = some (.val (.int x))) (hl' : storeLocals L k (.int (x + Int32.ofInt i)) = some L') (hd : decode bytes pc = .ok (.iinc k i, 3)) (hq : pc + 3 = q) (kk : Wp p e below PO T (mkF m q L' st)) : Wp p e below PO T (mkF m pc L st) := by
  subst hq
  exact o_st S (fun t X hx hy r => XS.iinc X hx rfl (hb hy hd) hl hl' r) kk
theorem o_goto (S : St p l e R s m args below meth c Z own bytes ml n0 ret nm T h cells slots) {o : Int} (hd : decode bytes pc = .ok (.goto o, 3)) (ho : 0 ≤ (pc : Int) + o) (hq : ((pc : Int) + o).toNat = q) (k : Wp p e below PO T (mkF m q L st)) : Wp p e below PO T (mkF m pc L st) :=
  o_st S (fun t X hx hy r => XS.goto X hx rfl rfl (hb hy hd) ho hq r) k
theorem o_ldc (S : St p l e R s m args below meth c Z own bytes ml n0 ret nm T h cells slots) {i : Nat} {z : Int32} (w : (Jvm.Cond.constant own i z).before a0 Z = true) (hd : decode bytes pc = .ok (.ldc i, 2)) (hq : pc + 2 = q) (k : Wp p e below PO T (mkF m q L (.int z :: st))) : Wp p e below PO T (mkF m pc L st) := by
  subst hq
  obtain ⟨locs, X, N, eT, hx, hZ, hown, hby, hml, hlk, hn, hrt, hnm⟩ := S
  exact o_to (X.ldcInt hx hown (mvT hZ w) (g := mkF m pc L st) rfl (hb hby hd)) k
theorem o_ldc2 (S : St p l e R s m args below meth c Z own bytes ml n0 ret nm T h cells slots) {i : Nat} {z : Int64} (w : (Jvm.Cond.constantLong own i z).before a0 Z = true) (hd : decode bytes pc = .ok (.ldc2_w i, 3)) (hq : pc + 3 = q) (k : Wp p e below PO T (mkF m q L (.long z :: st))) : Wp p e below PO T (mkF m pc L st) := by
  subst hq
  obtain ⟨locs, X, N, eT, hx, hZ, hown, hby, hml, hlk, hn, hrt, hnm⟩ := S
  exact o_to (X.ldc2Long hx hown (mvT hZ w) (g := mkF m pc L st) rfl (hb hby hd)) k
/-! branches: base conditions x < y (as integers) and x = y -/
theorem o_icmp (S : St p l e R s m args below meth c Z own bytes ml n0 ret nm T h cells slots) {cd : ClassFile.Cond} {x y : Int32} {o : Int} {q' : Nat} {P : Prop} (hd : decode bytes pc = .ok (.if_icmp cd o, 3)) (ho : 0 ≤ (pc : Int) + o) (hq' : ((pc : Int) + o).toNat = q') (hq : pc + 3 = q) (h1 : P → if_icmp.holds cd x y = true) (h2 : ¬ P → if_icmp.holds cd x y = false) [Decidable P]
    (k1 : P → Wp p e below PO T (mkF m q' L st)) (k2 : ¬ P → Wp p e below PO T (mkF m q L st)) : Wp p e below PO T (mkF m pc L (.int y :: .int x :: st)) := by
  subst hq
  by_cases hP : P
  · exact o_st S (fun t X hx hy r => XS.icmpYes X hx rfl rfl (hb hy hd) rfl (h1 hP) ho hq' r) (k1 hP)
  · exact o_st S (fun t X hx hy r => XS.icmpNo X hx rfl (hb hy hd) rfl (h2 hP) r) (k2 hP)
theorem o_if (S : St p l e R s m args below meth c Z own bytes ml n0 ret nm T h cells slots) {cd : ClassFile.Cond} {x : Int32} {o : Int} {q' : Nat} {P : Prop} (hd : decode bytes pc = .ok (.ifCond cd o, 3)) (ho : 0 ≤ (pc : Int) + o) (hq' : ((pc : Int) + o).toNat = q') (hq : pc + 3 = q) (h1 : P → if_icmp.holds cd x 0 = true) (h2 : ¬ P → if_icmp.holds cd x 0 = false) [Decidable P]
    (k1 : P → Wp p e below PO T (mkF m q' L st)) (k2 : ¬ P → Wp p e below PO T (mkF m q L st)) : Wp p e below PO T (mkF m pc L (.int x :: st)) := by
  subst hq
  by_cases hP : P
  · exact o_st S (fun t X hx hy r => XS.ifYes X hx rfl rfl (hb hy hd) rfl ((if0 _ _).trans (h1 hP)) ho hq' r) (k1 hP)
  · exact o_st S (fun t X hx hy r => XS.ifNo X hx rfl (hb hy hd) rfl ((if0 _ _).trans (h2 hP)) r) (k2 hP)
theorem hs_lt {x y : Int32} {a b : Int} (ha : x.toInt = a) (hb : y.toInt = b) : (a < b → if_icmp.holds .lt x y = true) ∧ (¬ a < b → if_icmp.holds .lt x y = false) := by subst ha hb; exact ⟨fun h => (tlt (Int32.lt_iff_toInt_lt.mpr h)).1, fun h => (flt (fun g => h (Int32.lt_iff_toInt_lt.mp g))).1⟩
theorem hs_ge {x y : Int32} {a b : Int} (ha : x.toInt = a) (hb : y.toInt = b) : (b ≤ a → if_icmp.holds .ge x y = true) ∧ (¬ b ≤ a → if_icmp.holds .ge x y = false) := by subst ha hb; exact ⟨fun h => (flt (fun g => by have := Int32.lt_iff_toInt_lt.mp g; omega)).2.1, fun h => (tlt (Int32.lt_iff_toInt_lt.mpr (by omega))).2.1⟩
theorem hs_gt {x y : Int32} {a b : Int} (ha : x.toInt = a) (hb : y.toInt = b) : (b < a → if_icmp.holds .gt x y = true) ∧ (¬ b < a → if_icmp.holds .gt x y = false) := by subst ha hb; exact ⟨fun h => (tlt (Int32.lt_iff_toInt_lt.mpr h)).2.2.1, fun h => (flt (fun g => h (Int32.lt_iff_toInt_lt.mp g))).2.2.1⟩
theorem hs_le {x y : Int32} {a b : Int} (ha : x.toInt = a) (hb : y.toInt = b) : (a ≤ b → if_icmp.holds .le x y = true) ∧ (¬ a ≤ b → if_icmp.holds .le x y = false) := by subst ha hb; exact ⟨fun h => (flt (fun g => by have := Int32.lt_iff_toInt_lt.mp g; omega)).2.2.2, fun h => (tlt (Int32.lt_iff_toInt_lt.mpr (by omega))).2.2.2⟩
theorem hs_eq {x y : Int32} : (x = y → if_icmp.holds .eq x y = true) ∧ (¬ x = y → if_icmp.holds .eq x y = false) := ⟨fun h => (teq h).1, fun h => (feq h).1⟩
theorem hs_ne {x y : Int32} : (¬ x = y → if_icmp.holds .ne x y = true) ∧ (¬ ¬ x = y → if_icmp.holds .ne x y = false) := ⟨fun h => (feq h).2, fun h => (teq (Decidable.not_not.mp h)).2⟩
theorem hl_eq {x y : Int64} : (x = y → if_icmp.holds .eq (lcmpW x y) 0 = true) ∧ (¬ x = y → if_icmp.holds .eq (lcmpW x y) 0 = false) := ⟨fun h => (teq ((lw_eq x y).mpr h)).1, fun h => (feq (fun g => h ((lw_eq x y).mp g))).1⟩
theorem hl_ne {x y : Int64} : (¬ x = y → if_icmp.holds .ne (lcmpW x y) 0 = true) ∧ (¬ ¬ x = y → if_icmp.holds .ne (lcmpW x y) 0 = false) := ⟨fun h => (feq (fun g => h ((lw_eq x y).mp g))).2, fun h => (teq ((lw_eq x y).mpr (Decidable.not_not.mp h))).2⟩
theorem hl_lt {x y : Int64} {a b : Int} (ha : x.toInt = a) (hb : y.toInt = b) : (a < b → if_icmp.holds .lt (lcmpW x y) 0 = true) ∧ (¬ a < b → if_icmp.holds .lt (lcmpW x y) 0 = false) := by subst ha hb; exact ⟨fun h => (tlt ((lw_lt x y).mpr (Int64.lt_iff_toInt_lt.mpr h))).1, fun h => (flt (fun g => h (Int64.lt_iff_toInt_lt.mp ((lw_lt x y).mp g)))).1⟩
theorem hl_ge {x y : Int64} {a b : Int} (ha : x.toInt = a) (hb : y.toInt = b) : (b ≤ a → if_icmp.holds .ge (lcmpW x y) 0 = true) ∧ (¬ b ≤ a → if_icmp.holds .ge (lcmpW x y) 0 = false) := by subst ha hb; exact ⟨fun h => (flt (fun g => by have := Int64.lt_iff_toInt_lt.mp ((lw_lt x y).mp g); omega)).2.1, fun h => (tlt ((lw_lt x y).mpr (Int64.lt_iff_toInt_lt.mpr (by omega)))).2.1⟩
theorem hl_gt {x y : Int64} {a b : Int} (ha : x.toInt = a) (hb : y.toInt = b) : (b < a → if_icmp.holds .gt (lcmpW x y) 0 = true) ∧ (¬ b < a → if_icmp.holds .gt (lcmpW x y) 0 = false) := by subst ha hb; exact ⟨fun h => (tlt ((lw_gt x y).mpr (Int64.lt_iff_toInt_lt.mpr h))).2.2.1, fun h => (flt (fun g => h (Int64.lt_iff_toInt_lt.mp ((lw_gt x y).mp g)))).2.2.1⟩
theorem hl_le {x y : Int64} {a b : Int} (ha : x.toInt = a) (hb : y.toInt = b) : (a ≤ b → if_icmp.holds .le (lcmpW x y) 0 = true) ∧ (¬ a ≤ b → if_icmp.holds .le (lcmpW x y) 0 = false) := by subst ha hb; exact ⟨fun h => (flt (fun g => by have := Int64.lt_iff_toInt_lt.mp ((lw_gt x y).mp g); omega)).2.2.2, fun h => (tlt ((lw_gt x y).mpr (Int64.lt_iff_toInt_lt.mpr (by omega)))).2.2.2⟩
theorem o_ifnullY (S : St p l e R s m args below meth c Z own bytes ml n0 ret nm T h cells slots) {o : Int} (hd : decode bytes pc = .ok (.ifnull o, 3)) (ho : 0 ≤ (pc : Int) + o) (hq : ((pc : Int) + o).toNat = q) (k : Wp p e below PO T (mkF m q L st)) : Wp p e below PO T (mkF m pc L (.null :: st)) :=
  o_st S (fun t X hx hy r => XS.ifnullYes X hx rfl rfl (hb hy hd) rfl ho hq r) k
theorem o_ifnullN (S : St p l e R s m args below meth c Z own bytes ml n0 ret nm T h cells slots) {o : Int} {b : Addr} (hd : decode bytes pc = .ok (.ifnull o, 3)) (hq : pc + 3 = q) (k : Wp p e below PO T (mkF m q L st)) : Wp p e below PO T (mkF m pc L (.ref b :: st)) := by
  subst hq
  exact o_st S (fun t X hx hy r => XS.ifnullNo X hx rfl (hb hy hd) rfl r) k
theorem o_ifnonnullY (S : St p l e R s m args below meth c Z own bytes ml n0 ret nm T h cells slots) {o : Int} {b : Addr} (hd : decode bytes pc = .ok (.ifnonnull o, 3)) (ho : 0 ≤ (pc : Int) + o) (hq : ((pc : Int) + o).toNat = q) (k : Wp p e below PO T (mkF m q L st)) : Wp p e below PO T (mkF m pc L (.ref b :: st)) :=
  o_st S (fun t X hx hy r => XS.ifnonnullYes X hx rfl rfl (hb hy hd) rfl ho hq r) k
theorem o_ifnonnullN (S : St p l e R s m args below meth c Z own bytes ml n0 ret nm T h cells slots) {o : Int} (hd : decode bytes pc = .ok (.ifnonnull o, 3)) (hq : pc + 3 = q) (k : Wp p e below PO T (mkF m q L st)) : Wp p e below PO T (mkF m pc L (.null :: st)) := by
  subst hq
  exact o_st S (fun t X hx hy r => XS.ifnonnullNo X hx rfl (hb hy hd) rfl r) k
/-! returns -/
theorem o_ret {Q : Option Value → Heap → Prop} {w : Option Value} (S : St p l e R s m args below meth c Z own bytes ml n0 ret nm T h cells slots) {g : JFrame} (hv : meth.sig.returnType = none → w = none) (hc : cells ≤ R.cells) (hs : slots ≤ R.slots) (qq : Q w h)
    (hst : ∀ fs : List Frame, At T m c below → T.vm.method? m = some meth → p.tables.exec = Jvm.exec → c.code = bytes → (∀ locs, Stand p l e R s m args below meth c T locs cells slots → (∀ (f : JFrame) (acts : List Action), f.method = m → f.locked = none → f.entered = [] → (doReturn e (T.setTop f) acts w).1 = T.setFrames fs) → Steps p.tables e below (T.setTop g) (T.setFrames fs))) : Wp p e below (Po s n0 R Q) T g := by
  obtain ⟨locs, X, N, eT, hx, hZ, hown, hby, hml, hlk, hn, hrt, hnm⟩ := S
  obtain ⟨fs, hr, hrun, hended, hW, hsame⟩ := X.leave (v := w) hv hlk
  refine ⟨_, _, hst fs X.here X.method' hx hby locs X hr, hrun, hended, _, _, rfl, ⟨?_, N⟩, ⟨_, rfl⟩, hW, hsame.mono hc hs⟩
  show Q w T.heap
  rw [eT]; exact qq
theorem o_retI {Q : Option Value → Heap → Prop} {z : Int32} (S : St p l e R s m args below meth c Z own bytes ml n0 ret nm T h cells slots) (hret : ret = some .int) (hd : decode bytes pc = .ok (.ireturn, 1)) (hc : cells ≤ R.cells) (hs : slots ≤ R.slots) (qq : Q (some (.int z)) h) : Wp p e below (Po s n0 R Q) T (mkF m pc L (.int z :: st)) := by
  have hrt : meth.sig.returnType = some .int := by obtain ⟨locs, X, N, eT, hx, hZ, hown, hby, hml, hlk, hn, hrt, hnm⟩ := S; rw [hrt, hret]
  refine o_ret S (w := some (.int z)) (fun h => by rw [hrt] at h; cases h) hc hs qq fun fs hA hm hx hby locs X hr => ?_
  exact retOut X hx hrt rfl (Or.inl ⟨rfl, Or.inl rfl, z, rfl⟩) (hb hby hd) hr
theorem o_retN {Q : Option Value → Heap → Prop} {z : Int32} {t : FieldType} (S : St p l e R s m args below meth c Z own bytes ml n0 ret nm T h cells slots) (hret : ret = some t) (ht : t = .boolean ∨ t = .byte ∨ t = .char ∨ t = .short) (hd : decode bytes pc = .ok (.ireturn, 1)) (hc : cells ≤ R.cells) (hs : slots ≤ R.slots) (hn : narrow t (.int z) = .int z) (qq : Q (some (.int z)) h) : Wp p e below (Po s n0 R Q) T (mkF m pc L (.int z :: st)) := by
  have hrt : meth.sig.returnType = some t := by obtain ⟨locs, X, N, eT, hx, hZ, hown, hby, hml, hlk, hn, hrt, hnm⟩ := S; rw [hrt, hret]
  refine o_ret S (w := some (.int z)) (fun h => by rw [hrt] at h; cases h) hc hs qq fun fs hA hm hx hby locs X hr => ?_
  exact retOut X hx hrt hn (Or.inl ⟨rfl, Or.inr ht, z, rfl⟩) (hb hby hd) hr
theorem o_retJ {Q : Option Value → Heap → Prop} {z : Int64} (S : St p l e R s m args below meth c Z own bytes ml n0 ret nm T h cells slots) (hret : ret = some .long) (hd : decode bytes pc = .ok (.lreturn, 1)) (hc : cells ≤ R.cells) (hs : slots ≤ R.slots) (qq : Q (some (.long z)) h) : Wp p e below (Po s n0 R Q) T (mkF m pc L (.long z :: st)) := by
  have hrt : meth.sig.returnType = some .long := by obtain ⟨locs, X, N, eT, hx, hZ, hown, hby, hml, hlk, hn, hrt, hnm⟩ := S; rw [hrt, hret]
  refine o_ret S (w := some (.long z)) (fun h => by rw [hrt] at h; cases h) hc hs qq fun fs hA hm hx hby locs X hr => ?_
  exact retOut X hx hrt rfl (Or.inr (Or.inl ⟨rfl, rfl, z, rfl⟩)) (hb hby hd) hr
theorem o_retR {Q : Option Value → Heap → Prop} {z : Value} {t : FieldType} (S : St p l e R s m args below meth c Z own bytes ml n0 ret nm T h cells slots) (hret : ret = some t) (ht : t.isReference = true) (hz : z.isRef = true) (hn : narrow t z = z) (hd : decode bytes pc = .ok (.areturn, 1)) (hc : cells ≤ R.cells) (hs : slots ≤ R.slots) (qq : Q (some z) h) : Wp p e below (Po s n0 R Q) T (mkF m pc L (z :: st)) := by
  have hrt : meth.sig.returnType = some t := by obtain ⟨locs, X, N, eT, hx, hZ, hown, hby, hml, hlk, hn, hrt, hnm⟩ := S; rw [hrt, hret]
  refine o_ret S (w := some z) (fun h => by rw [hrt] at h; cases h) hc hs qq fun fs hA hm hx hby locs X hr => ?_
  exact retOut X hx hrt hn (Or.inr (Or.inr (Or.inr (Or.inr ⟨rfl, ht, hz⟩)))) (hb hby hd) hr
theorem o_retV {Q : Option Value → Heap → Prop} (S : St p l e R s m args below meth c Z own bytes ml n0 ret nm T h cells slots) (hret : ret = none) (hd : decode bytes pc = .ok (.return_, 1)) (hc : cells ≤ R.cells) (hs : slots ≤ R.slots) (qq : Q none h) : Wp p e below (Po s n0 R Q) T (mkF m pc L []) := by
  have hrt : meth.sig.returnType = none := by obtain ⟨locs, X, N, eT, hx, hZ, hown, hby, hml, hlk, hn, hrt, hnm⟩ := S; rw [hrt, hret]
  exact o_ret S (w := none) (fun _ => rfl) hc hs qq fun fs hA hm hx hby locs X hr => X.returnOut hx hrt (hb hby hd) hr

/-! calls -/
theorem o_cut {A B : Prop} (k2 : A → B) (k1 : A) : B := k2 k1
theorem o_cutS {B : Prop} (S : St p l e R s m args below meth c Z own bytes ml n0 ret nm T h cells slots) {G : State → Prop} (k2 : (∀ T', St p l e R s m args below meth c Z own bytes ml n0 ret nm T' h cells slots → G T') → B) (k1 : ∀ T', St p l e R s m args below meth c Z own bytes ml n0 ret nm T' h cells slots → G T') : B := k2 k1
def Qp (r : Option Value) (h0 : Heap) : Option Value → Heap → Prop := fun v h => v = r ∧ h = h0
theorem o_si {a b : Int32} (h : a = b) : some (Value.int a) = some (Value.int b) := by rw [h]
theorem o_sj {a b : Int64} (h : a = b) : some (Value.long a) = some (Value.long b) := by rw [h]
theorem o_callS (S : St p l e R s m args below meth c Z own bytes ml n0 ret nm T h cells slots) {i : Nat} {y : MethodName} {bytes' : ByteArray} {maxL : Nat} {ret' : Option FieldType} {rm : Room} {W : Nat} {argsL rest : List Value} {Q : Option Value → Heap → Prop} {ps : List FieldType} {r' : Option FieldType}
    (w1 : (Jvm.Cond.methodLink own i y).before a0 Z = true) (w2 : (Jvm.Cond.static y).before a0 Z = true) (w3 : (Jvm.Cond.initialized y.cls).before a0 Z = true) (w4 : (Jvm.Cond.code y bytes' maxL ret').before a0 Z = true) (hy : y.cls ≠ "java/lang/invoke/MethodHandle" ∧ y.cls ≠ "java/lang/invoke/VarHandle")
    (K : Ct l y bytes' maxL ret' [] rm Z h n0 argsL.toArray Q) (hf : rm.frames + 1 ≤ R.frames) (hl : W + (maxL + 11) + rm.locals ≤ R.locals) (hL : L.size = ml) (hst : st = argsL.reverse ++ rest) (hsig : parseMethodDescriptor y.desc = some ⟨ps, r'⟩) (hlen : argsL.length = ps.length) (hW : (rest.map fun v => v.category).sum ≤ W)
    (hd : decode bytes pc = .ok (.invokestatic i, 3)) (hq : pc + 3 = q) (hc : cells + rm.cells ≤ R.cells) (hs : slots + rm.slots ≤ R.slots) (k : ∀ T' h' v, St p l e R s m args below meth c Z own bytes ml n0 ret nm T' h' (cells + rm.cells) (slots + rm.slots) → Q v h' → Wp p e below PO T' (mkF m q L (v.toList ++ rest))) : Wp p e below PO T (mkF m pc L st) := by
  subst hq
  obtain ⟨locs, X, N, eT, hx, hZ, hown, hby, hml, hlk, hn, hrt, hnm⟩ := S
  have hb0 := backOf (R := R) (s := s) (p := p) (e := e) (below := below) (args := args) (len := 3) (W := W) (Q := fun v h L => Q v h ∧ Fr n0 L) K hZ w4 w3 hf hl
  obtain ⟨v, vm, ⟨T', L', k', n'⟩, hwm, X', ⟨Lc, hQ, l1, y1, z1⟩, st1⟩ := Jvm.LawKit.callS X hx (y := y) hown (mvT hZ w1) (mvT hZ w2) (mvT hZ w3) (mvT hZ w4) hy hb0 (g := mkF m pc L st) rfl (by rw [hml]; exact hL) (argsL := argsL) (rest := rest) (lenOf hsig hlen) hst (by show 2 * 0 + _ ≤ _; omega) (hb hby hd) (fun _ _ => ⟨rfl, eT, hc, hs⟩)
  dsimp only [Pt.U, Pt.locs, Pt.cells, Pt.slots] at X' l1 y1 z1 st1 hQ
  subst l1 y1 z1
  exact o_to st1 (k T' T'.heap v ⟨_, X', N.app hQ.2, rfl, hx, hZ, hown, hby, hml, hlk, hn, hrt, hnm⟩ hQ.1)
theorem o_callI (S : St p l e R s m args below meth c Z own bytes ml n0 ret nm T h cells slots) {i : Nat} {y : MethodName} {bytes' : ByteArray} {maxL : Nat} {rm : Room} {W : Nat} {argsL rest : List Value} {Q : Option Value → Heap → Prop} {ps : List FieldType} {r' : Option FieldType} {a : Addr} (hy1 : y.name = "<init>")
    (w1 : (Jvm.Cond.methodLink own i y).before a0 Z = true) (w2 : (Jvm.Cond.instanceMethod y).before a0 Z = true) (w3 : (Jvm.Cond.initialized y.cls).before a0 Z = true) (w4 : (Jvm.Cond.code y bytes' maxL none).before a0 Z = true) (hy : y.cls ≠ "java/lang/invoke/MethodHandle" ∧ y.cls ≠ "java/lang/invoke/VarHandle")
    (K : Ct l y bytes' maxL none [] rm Z h n0 (.ref a :: argsL).toArray Q) (hf : rm.frames + 1 ≤ R.frames) (hl : W + (maxL + 11) + rm.locals ≤ R.locals) (hL : L.size = ml) (hst : st = argsL.reverse ++ .ref a :: rest) (hsig : parseMethodDescriptor y.desc = some ⟨ps, r'⟩) (hlen : argsL.length = ps.length) (hW : (rest.map fun v => v.category).sum ≤ W)
    (hd : decode bytes pc = .ok (.invokespecial i, 3)) (hq : pc + 3 = q) (hc : cells + rm.cells ≤ R.cells) (hs : slots + rm.slots ≤ R.slots) (k : ∀ T' h' v, St p l e R s m args below meth c Z own bytes ml n0 ret nm T' h' (cells + rm.cells) (slots + rm.slots) → Q v h' → Wp p e below PO T' (mkF m q L (v.toList ++ rest))) : Wp p e below PO T (mkF m pc L st) := by
  subst hq
  obtain ⟨locs, X, N, eT, hx, hZ, hown, hby, hml, hlk, hn, hrt, hnm⟩ := S
  have hb0 := backOf (R := R) (s := s) (p := p) (e := e) (below := below) (args := args) (len := 3) (W := W) (Q := fun v h L => Q v h ∧ Fr n0 L) K hZ w4 w3 hf hl
  obtain ⟨v, vm, ⟨T', L', k', n'⟩, hwm, X', ⟨Lc, hQ, l1, y1, z1⟩, st1⟩ := X.specialBack hx (y := y) hy1 hown (mvT hZ w1) (mvT hZ w2) (mvT hZ w4) hy hb0 (g := mkF m pc L st) rfl (by rw [hml]; exact hL) (Steps.refl _) (a := a) (argsL := argsL) (rest := rest) (lenOf hsig hlen) hst (by show 2 * 0 + _ ≤ _; omega) (hb hby hd) (fun _ _ => ⟨rfl, eT, hc, hs⟩)
  dsimp only [Pt.U, Pt.locs, Pt.cells, Pt.slots] at X' l1 y1 z1 st1 hQ
  subst l1 y1 z1
  exact o_to (fun t r => st1.trans r) (k T' T'.heap v ⟨_, X', N.app hQ.2, rfl, hx, hZ, hown, hby, hml, hlk, hn, hrt, hnm⟩ hQ.1)
theorem o_callV (S : St p l e R s m args below meth c Z own bytes ml n0 ret nm T h cells slots) {i : Nat} {y : MethodName} {bytes' : ByteArray} {maxL : Nat} {ret' : Option FieldType} {rm : Room} {W : Nat} {argsL rest : List Value} {Q : Option Value → Heap → Prop} {ps : List FieldType} {r' : Option FieldType} {a : Addr} {z : MethodName} {C : String}
    (w1 : (Jvm.Cond.methodLink own i y).before a0 Z = true) (w2 : (Jvm.Cond.declares y).before a0 Z = true) (w5 : (Jvm.Cond.selects C y z).before a0 Z = true) (w6 : (Jvm.Cond.instanceMethod z).before a0 Z = true) (w3 : (Jvm.Cond.initialized z.cls).before a0 Z = true) (w4 : (Jvm.Cond.code z bytes' maxL ret').before a0 Z = true) (nf : ∀ s' : State, Z.Warmed39 s'.vm → NotFace s' y) (hy : y.cls ≠ "java/lang/invoke/MethodHandle" ∧ y.cls ≠ "java/lang/invoke/VarHandle")
    (E : Exa Z h a C) (K : Ct l z bytes' maxL ret' [] rm Z h n0 (.ref a :: argsL).toArray Q) (hf : rm.frames + 1 ≤ R.frames) (hl : W + (maxL + 11) + rm.locals ≤ R.locals) (hL : L.size = ml) (hst : st = argsL.reverse ++ .ref a :: rest) (hsig : parseMethodDescriptor y.desc = some ⟨ps, r'⟩) (hlen : argsL.length = ps.length) (hW : (rest.map fun v => v.category).sum ≤ W)
    (hd : decode bytes pc = .ok (.invokevirtual i, 3)) (hq : pc + 3 = q) (hc : cells + rm.cells ≤ R.cells) (hs : slots + rm.slots ≤ R.slots) (k : ∀ T' h' v, St p l e R s m args below meth c Z own bytes ml n0 ret nm T' h' (cells + rm.cells) (slots + rm.slots) → Q v h' → Wp p e below PO T' (mkF m q L (v.toList ++ rest))) : Wp p e below PO T (mkF m pc L st) := by
  subst hq
  obtain ⟨locs, X, N, eT, hx, hZ, hown, hby, hml, hlk, hn, hrt, hnm⟩ := S
  have hb0 := backOf (R := R) (s := s) (p := p) (e := e) (below := below) (args := args) (len := 3) (W := W) (Q := fun v h L => Q v h ∧ Fr n0 L) K hZ w4 w3 hf hl
  obtain ⟨cq, kq, qa, qb, qc⟩ := isOf hZ eT E
  obtain ⟨v, vm, ⟨T', L', k', n'⟩, hwm, X', ⟨Lc, hQ, l1, y1, z1⟩, st1⟩ := X.virtualBack hx (y := y) (z := z) hown (mvT hZ w1) (mvT hZ w2) (nf s hZ) (mvT hZ w5) (mvT hZ w6) hy hb0 qa qc (g := mkF m pc L st) rfl (by rw [hml]; exact hL) (Steps.refl _) (argsL := argsL) (rest := rest) (lenOf hsig hlen) hst (by show 2 * 0 + _ ≤ _; omega) (hb hby hd) (fun _ _ => ⟨rfl, eT, hc, hs⟩)
  dsimp only [Pt.U, Pt.locs, Pt.cells, Pt.slots] at X' l1 y1 z1 st1 hQ
  subst l1 y1 z1
  exact o_to (fun t r => st1.trans r) (k T' T'.heap v ⟨_, X', N.app hQ.2, rfl, hx, hZ, hown, hby, hml, hlk, hn, hrt, hnm⟩ hQ.1)
theorem o_nf {y : MethodName} {C : String} (w : (Jvm.Cond.selects C y y).before a0 Z = true) : ∀ s' : State, Z.Warmed39 s'.vm → NotFace s' y := fun s' hZ => notFace_of_selects (args := #[]) (mvT hZ w)
theorem o_callP (S : St p l e R s m args below meth c Z own bytes ml n0 ret nm T h cells slots) {i : Nat} {y : MethodName} {bytes' : ByteArray} {maxL : Nat} {ret' : Option FieldType} {rm : Room} {W : Nat} {argsL rest : List Value} {Q : Option Value → Heap → Prop} {ps : List FieldType} {r' : Option FieldType} {a : Addr}
    (w1 : (Jvm.Cond.methodLink own i y).before a0 Z = true) (w2 : (Jvm.Cond.instanceMethod y).before a0 Z = true) (w5 : (Jvm.Cond.selects y.cls y y).before a0 Z = true) (w6 : (Jvm.Cond.privateMethod y).before a0 Z = true) (w3 : (Jvm.Cond.initialized y.cls).before a0 Z = true) (w4 : (Jvm.Cond.code y bytes' maxL ret').before a0 Z = true) (hy : y.cls ≠ "java/lang/invoke/MethodHandle" ∧ y.cls ≠ "java/lang/invoke/VarHandle")
    (E : Exa Z h a y.cls) (K : Ct l y bytes' maxL ret' [] rm Z h n0 (.ref a :: argsL).toArray Q) (hf : rm.frames + 1 ≤ R.frames) (hl : W + (maxL + 11) + rm.locals ≤ R.locals) (hL : L.size = ml) (hst : st = argsL.reverse ++ .ref a :: rest) (hsig : parseMethodDescriptor y.desc = some ⟨ps, r'⟩) (hlen : argsL.length = ps.length) (hW : (rest.map fun v => v.category).sum ≤ W)
    (hd : decode bytes pc = .ok (.invokevirtual i, 3)) (hq : pc + 3 = q) (hc : cells + rm.cells ≤ R.cells) (hs : slots + rm.slots ≤ R.slots) (k : ∀ T' h' v, St p l e R s m args below meth c Z own bytes ml n0 ret nm T' h' (cells + rm.cells) (slots + rm.slots) → Q v h' → Wp p e below PO T' (mkF m q L (v.toList ++ rest))) : Wp p e below PO T (mkF m pc L st) := by
  subst hq
  obtain ⟨locs, X, N, eT, hx, hZ, hown, hby, hml, hlk, hn, hrt, hnm⟩ := S
  have hb0 := backOf (R := R) (s := s) (p := p) (e := e) (below := below) (args := args) (len := 3) (W := W) (Q := fun v h L => Q v h ∧ Fr n0 L) K hZ w4 w3 hf hl
  obtain ⟨cq, qa, qb⟩ := E.cell
  obtain ⟨v, vm, ⟨T', L', k', n'⟩, hwm, X', ⟨Lc, hQ, l1, y1, z1⟩, st1⟩ := X.privateBack hx (y := y) hown (mvT hZ w1) (mvT hZ w2) (mvT hZ w5) (Cond.privateMethod_at (mvP hZ w6 (args := #[]))) (mvT hZ w4) hy hb0 (g := mkF m pc L st) rfl (by rw [hml]; exact hL) (Steps.refl _) (a := a) (by rw [eT]; exact qa) qb (argsL := argsL) (rest := rest) (lenOf hsig hlen) hst (by show 2 * 0 + _ ≤ _; omega) (hb hby hd) (fun _ _ => ⟨rfl, eT, hc, hs⟩)
  dsimp only [Pt.U, Pt.locs, Pt.cells, Pt.slots] at X' l1 y1 z1 st1 hQ
  subst l1 y1 z1
  exact o_to (fun t r => st1.trans r) (k T' T'.heap v ⟨_, X', N.app hQ.2, rfl, hx, hZ, hown, hby, hml, hlk, hn, hrt, hnm⟩ hQ.1)
theorem o_callS0 (S : St p l e R s m args below meth c Z own bytes ml n0 ret nm T h cells slots) {i : Nat} {y : MethodName} {bytes' : ByteArray} {maxL : Nat} {ret' : Option FieldType} {rm : Room} {W : Nat} {argsL rest : List Value} {ps : List FieldType} {r' : Option FieldType} {st' : List Value} {r : Option Value} 
    (w1 : (Jvm.Cond.methodLink own i y).before a0 Z = true) (w2 : (Jvm.Cond.static y).before a0 Z = true) (w3 : (Jvm.Cond.initialized y.cls).before a0 Z = true) (w4 : (Jvm.Cond.code y bytes' maxL ret').before a0 Z = true) (hy : y.cls ≠ "java/lang/invoke/MethodHandle" ∧ y.cls ≠ "java/lang/invoke/VarHandle")
    (K : Ct l y bytes' maxL ret' [] rm Z h n0 argsL.toArray (Qp r h)) (hf : rm.frames + 1 ≤ R.frames) (hl : W + (maxL + 11) + rm.locals ≤ R.locals) (hL : L.size = ml) (hst : st = argsL.reverse ++ rest) (hsig : parseMethodDescriptor y.desc = some ⟨ps, r'⟩) (hlen : argsL.length = ps.length) (hW : (rest.map fun v => v.category).sum ≤ W)
    (hd : decode bytes pc = .ok (.invokestatic i, 3)) (hq : pc + 3 = q) (hc : cells + rm.cells ≤ R.cells) (hs : slots + rm.slots ≤ R.slots) (hst' : r.toList ++ rest = st') (k : ∀ T', St p l e R s m args below meth c Z own bytes ml n0 ret nm T' h (cells + rm.cells) (slots + rm.slots) → Wp p e below PO T' (mkF m q L st')) : Wp p e below PO T (mkF m pc L st) := by
  subst hst'
  exact o_callS S w1 w2 w3 w4 hy K hf hl hL hst hsig hlen hW hd hq hc hs (fun T' h' v S' hQ => by obtain ⟨hv, hh⟩ := hQ; subst hv; rw [hh] at S'; exact k T' S')
theorem o_callI0 (S : St p l e R s m args below meth c Z own bytes ml n0 ret nm T h cells slots) {i : Nat} {y : MethodName} {bytes' : ByteArray} {maxL : Nat} {rm : Room} {W : Nat} {argsL rest : List Value} {ps : List FieldType} {r' : Option FieldType} {st' : List Value} {r : Option Value} {a : Addr} (hy1 : y.name = "<init>")
    (w1 : (Jvm.Cond.methodLink own i y).before a0 Z = true) (w2 : (Jvm.Cond.instanceMethod y).before a0 Z = true) (w3 : (Jvm.Cond.initialized y.cls).before a0 Z = true) (w4 : (Jvm.Cond.code y bytes' maxL none).before a0 Z = true) (hy : y.cls ≠ "java/lang/invoke/MethodHandle" ∧ y.cls ≠ "java/lang/invoke/VarHandle")
    (K : Ct l y bytes' maxL none [] rm Z h n0 (.ref a :: argsL).toArray (Qp r h)) (hf : rm.frames + 1 ≤ R.frames) (hl : W + (maxL + 11) + rm.locals ≤ R.locals) (hL : L.size = ml) (hst : st = argsL.reverse ++ .ref a :: rest) (hsig : parseMethodDescriptor y.desc = some ⟨ps, r'⟩) (hlen : argsL.length = ps.length) (hW : (rest.map fun v => v.category).sum ≤ W)
    (hd : decode bytes pc = .ok (.invokespecial i, 3)) (hq : pc + 3 = q) (hc : cells + rm.cells ≤ R.cells) (hs : slots + rm.slots ≤ R.slots) (hst' : r.toList ++ rest = st') (k : ∀ T', St p l e R s m args below meth c Z own bytes ml n0 ret nm T' h (cells + rm.cells) (slots + rm.slots) → Wp p e below PO T' (mkF m q L st')) : Wp p e below PO T (mkF m pc L st) := by
  subst hst'
  exact o_callI S hy1 w1 w2 w3 w4 hy K hf hl hL hst hsig hlen hW hd hq hc hs (fun T' h' v S' hQ => by obtain ⟨hv, hh⟩ := hQ; subst hv; rw [hh] at S'; exact k T' S')
theorem o_callV0 (S : St p l e R s m args below meth c Z own bytes ml n0 ret nm T h cells slots) {i : Nat} {y : MethodName} {bytes' : ByteArray} {maxL : Nat} {ret' : Option FieldType} {rm : Room} {W : Nat} {argsL rest : List Value} {ps : List FieldType} {r' : Option FieldType} {st' : List Value} {r : Option Value} {a : Addr} {z : MethodName} {C : String}
    (w1 : (Jvm.Cond.methodLink own i y).before a0 Z = true) (w2 : (Jvm.Cond.declares y).before a0 Z = true) (w5 : (Jvm.Cond.selects C y z).before a0 Z = true) (w6 : (Jvm.Cond.instanceMethod z).before a0 Z = true) (w3 : (Jvm.Cond.initialized z.cls).before a0 Z = true) (w4 : (Jvm.Cond.code z bytes' maxL ret').before a0 Z = true) (nf : ∀ s' : State, Z.Warmed39 s'.vm → NotFace s' y) (hy : y.cls ≠ "java/lang/invoke/MethodHandle" ∧ y.cls ≠ "java/lang/invoke/VarHandle")
    (E : Exa Z h a C) (K : Ct l z bytes' maxL ret' [] rm Z h n0 (.ref a :: argsL).toArray (Qp r h)) (hf : rm.frames + 1 ≤ R.frames) (hl : W + (maxL + 11) + rm.locals ≤ R.locals) (hL : L.size = ml) (hst : st = argsL.reverse ++ .ref a :: rest) (hsig : parseMethodDescriptor y.desc = some ⟨ps, r'⟩) (hlen : argsL.length = ps.length) (hW : (rest.map fun v => v.category).sum ≤ W)
    (hd : decode bytes pc = .ok (.invokevirtual i, 3)) (hq : pc + 3 = q) (hc : cells + rm.cells ≤ R.cells) (hs : slots + rm.slots ≤ R.slots) (hst' : r.toList ++ rest = st') (k : ∀ T', St p l e R s m args below meth c Z own bytes ml n0 ret nm T' h (cells + rm.cells) (slots + rm.slots) → Wp p e below PO T' (mkF m q L st')) : Wp p e below PO T (mkF m pc L st) := by
  subst hst'
  exact o_callV S w1 w2 w5 w6 w3 w4 nf hy E K hf hl hL hst hsig hlen hW hd hq hc hs (fun T' h' v S' hQ => by obtain ⟨hv, hh⟩ := hQ; subst hv; rw [hh] at S'; exact k T' S')
theorem o_callP0 (S : St p l e R s m args below meth c Z own bytes ml n0 ret nm T h cells slots) {i : Nat} {y : MethodName} {bytes' : ByteArray} {maxL : Nat} {ret' : Option FieldType} {rm : Room} {W : Nat} {argsL rest : List Value} {ps : List FieldType} {r' : Option FieldType} {st' : List Value} {r : Option Value} {a : Addr}
    (w1 : (Jvm.Cond.methodLink own i y).before a0 Z = true) (w2 : (Jvm.Cond.instanceMethod y).before a0 Z = true) (w5 : (Jvm.Cond.selects y.cls y y).before a0 Z = true) (w6 : (Jvm.Cond.privateMethod y).before a0 Z = true) (w3 : (Jvm.Cond.initialized y.cls).before a0 Z = true) (w4 : (Jvm.Cond.code y bytes' maxL ret').before a0 Z = true) (hy : y.cls ≠ "java/lang/invoke/MethodHandle" ∧ y.cls ≠ "java/lang/invoke/VarHandle")
    (E : Exa Z h a y.cls) (K : Ct l y bytes' maxL ret' [] rm Z h n0 (.ref a :: argsL).toArray (Qp r h)) (hf : rm.frames + 1 ≤ R.frames) (hl : W + (maxL + 11) + rm.locals ≤ R.locals) (hL : L.size = ml) (hst : st = argsL.reverse ++ .ref a :: rest) (hsig : parseMethodDescriptor y.desc = some ⟨ps, r'⟩) (hlen : argsL.length = ps.length) (hW : (rest.map fun v => v.category).sum ≤ W)
    (hd : decode bytes pc = .ok (.invokevirtual i, 3)) (hq : pc + 3 = q) (hc : cells + rm.cells ≤ R.cells) (hs : slots + rm.slots ≤ R.slots) (hst' : r.toList ++ rest = st') (k : ∀ T', St p l e R s m args below meth c Z own bytes ml n0 ret nm T' h (cells + rm.cells) (slots + rm.slots) → Wp p e below PO T' (mkF m q L st')) : Wp p e below PO T (mkF m pc L st) := by
  subst hst'
  exact o_callP S w1 w2 w5 w6 w3 w4 hy E K hf hl hL hst hsig hlen hW hd hq hc hs (fun T' h' v S' hQ => by obtain ⟨hv, hh⟩ := hQ; subst hv; rw [hh] at S'; exact k T' S')
/-! the heap -/
theorem o_initO (S : St p l e R s m args below meth c Z own bytes ml n0 ret nm T h cells slots) {i W : Nat} {a : Addr} (w1 : (Jvm.Cond.methodLink own i Lib.objectInit).before a0 Z = true) (w2 : (Jvm.Cond.instanceMethod Lib.objectInit).before a0 Z = true) (w3 : (Jvm.Cond.code Lib.objectInit ⟨#[0xb1]⟩ 1 none).before a0 Z = true) (hL : L.size = ml) (hd : decode bytes pc = .ok (.invokespecial i, 3)) (hq : pc + 3 = q) (hf : 1 ≤ R.frames) (hW : (st.map fun v => v.category).sum ≤ W) (hl : W + 12 ≤ R.locals)
    (k : ∀ T', St p l e R s m args below meth c Z own bytes ml n0 ret nm T' h cells slots → Wp p e below PO T' (mkF m q L st)) : Wp p e below PO T (mkF m pc L (.ref a :: st)) := by
  subst hq
  obtain ⟨locs, X, N, eT, hx, hZ, hown, hby, hml, hlk, hn, hrt, hnm⟩ := S
  obtain ⟨T', X', e', st'⟩ := initO X hx hZ hown w1 w2 w3 eT (g := mkF m pc L (.ref a :: st)) rfl (by rw [hml]; exact hL) rfl (hb hby hd) hf (W := W) (by show 2 * 0 + _ ≤ _; omega) hl
  exact o_to st' (k T' ⟨_, X', N, e', hx, hZ, hown, hby, hml, hlk, hn, hrt, hnm⟩)
theorem o_getF (S : St p l e R s m args below meth c Z own bytes ml n0 ret nm T h cells slots) {i : Nat} {R0 O n d : String} {a : Addr} {v : Value} (w : (Jvm.Cond.fieldLink own i R0 n d).before a0 Z = true) (via : Via Z R0 O n d) (F : Fld Z h a O n d v) (hd : decode bytes pc = .ok (.getfield i, 3)) (hq : pc + 3 = q)
    (k : ∀ T', St p l e R s m args below meth c Z own bytes ml n0 ret nm T' h cells slots → Wp p e below PO T' (mkF m q L (v :: st))) : Wp p e below PO T (mkF m pc L (.ref a :: st)) := by
  subst hq
  obtain ⟨locs, X, N, eT, hx, hZ, hown, hby, hml, hlk, hn, hrt, hnm⟩ := S
  obtain ⟨T', X', e', st'⟩ := getF X hx hZ hown (host := "") (Or.inl w) via eT F (g := mkF m pc L (.ref a :: st)) rfl rfl (hb hby hd)
  exact o_to st' (k T' ⟨_, X', N, e', hx, hZ, hown, hby, hml, hlk, hn, hrt, hnm⟩)
theorem o_putF (S : St p l e R s m args below meth c Z own bytes ml n0 ret nm T h cells slots) {i kk : Nat} {R0 O n d C : String} {ty : FieldType} {a : Addr} {v old : Value} (w : (Jvm.Cond.fieldLink own i R0 n d).before a0 Z = true) (via : Via Z R0 O n d) (F : Fld Z h a O n d old) (E : Exa Z h a C) (Lw : (Jvm.Cond.lays C O n d).before a0 Z = true ∨ ((Jvm.Cond.laysFinal C O n d).before a0 Z = true ∧ own = O ∧ nm = "<init>")) (wi : (Jvm.Cond.instantiable C kk).before a0 Z = true) (hty : parseFieldDescriptor d = some ty) (hn' : narrow ty v = v) (hf : fits ty v = true) (ga : n0 ≤ a) (hd : decode bytes pc = .ok (.putfield i, 3)) (hq : pc + 3 = q)
    (k : ∀ T' h', St p l e R s m args below meth c Z own bytes ml n0 ret nm T' h' cells slots → Wr h h' a (Jvm.RoadKit.slotOf Z O n d) v → Fld Z h' a O n d v → Wp p e below PO T' (mkF m q L st)) : Wp p e below PO T (mkF m pc L (v :: .ref a :: st)) := by
  subst hq
  obtain ⟨locs, X, N, eT, hx, hZ, hown, hby, hml, hlk, hn, hrt, hnm⟩ := S
  obtain ⟨T', h', X', e', W', st'⟩ := putF X hx hZ hown (host := "") (Or.inl w) via eT F E (Lw.imp id fun q => ⟨q.1, q.2.1, by rw [hnm]; exact q.2.2⟩) wi hty hn' hf (g := mkF m pc L (v :: .ref a :: st)) rfl rfl (hb hby hd)
  exact o_to st' (k T' h' ⟨_, X', Fr.snoc X' N ga, e', hx, hZ, hown, hby, hml, hlk, hn, hrt, hnm⟩ W' (F.same W'))
theorem o_new (S : St p l e R s m args below meth c Z own bytes ml n0 ret nm T h cells slots) {i n : Nat} {C : String} (w : (Jvm.Cond.classLink own i C).before a0 Z = true) (wi : (Jvm.Cond.instantiable C n).before a0 Z = true) (wz : (Jvm.Cond.initialized C).before a0 Z = true) (hd : decode bytes pc = .ok (.new i, 3)) (hq : pc + 3 = q) (hc : cells + 1 ≤ R.cells) (hl : slots + n ≤ R.slots)
    (k : ∀ T' h' a, St p l e R s m args below meth c Z own bytes ml n0 ret nm T' h' (cells + 1) (slots + n) → a = h.size → n0 ≤ a → Ext h h' → Exa Z h' a C → (∀ {O nm d : String} {ty : FieldType}, Laid Z a0 C O nm d → parseFieldDescriptor d = some ty → Fld Z h' a O nm d (defaultValue ty)) → Wp p e below PO T' (mkF m q L (.ref a :: st))) : Wp p e below PO T (mkF m pc L st) := by
  have g0 := o_n0 S
  subst hq
  obtain ⟨locs, X, N, eT, hx, hZ, hown, hby, hml, hlk, hn, hrt, hnm⟩ := S
  obtain ⟨T', h', X', e', E', A', D', -, st'⟩ := newO X hx hZ hown w wi wz eT (g := mkF m pc L st) rfl (hb hby hd) hc hl
  exact o_to st' (k T' h' h.size ⟨_, X', N, e', hx, hZ, hown, hby, hml, hlk, hn, hrt, hnm⟩ rfl g0 E' A' D')
/-! arrays of ints (bytes, booleans ..): the list of what they hold -/
def IA (Z : State) (h : Heap) (a : Addr) (ty : FieldType) (xs : List Int32) : Prop := ∃ c : Cell, Arr Z h a c ty ∧ c.slots.size = xs.length ∧ xs.length < 2147483648 ∧ (∀ i, i < xs.length → c.slots[i]? = some (.int (xs.getD i 0))) ∧ ∀ i, i < xs.length → fits ty (.int (xs.getD i 0)) = true
theorem IA.lt {a : Addr} {ty : FieldType} {xs : List Int32} (F : IA Z h a ty xs) : a < h.size := by obtain ⟨c, A, -⟩ := F; exact A.lt
theorem IA.ext {h' : Heap} {a : Addr} {ty : FieldType} {xs : List Int32} (F : IA Z h a ty xs) (E : Ext h h') : IA Z h' a ty xs := by obtain ⟨c, A, r⟩ := F; exact ⟨c, A.ext E, r⟩
theorem IA.other {h' : Heap} {a b : Addr} {sl : Nat} {v : Value} {ty : FieldType} {xs : List Int32} (F : IA Z h b ty xs) (W : Wr h h' a sl v) (q : b ≠ a) : IA Z h' b ty xs := by obtain ⟨c, A, r⟩ := F; exact ⟨c, A.other W q, r⟩
theorem IA.keep {h' : Heap} {a : Addr} {ws : List Addr} {ty : FieldType} {xs : List Int32} (F : IA Z h a ty xs) (K : Keep h h' ws) (q : a ∉ ws) : IA Z h' a ty xs := by obtain ⟨c, A, r⟩ := F; exact ⟨c, ⟨K.2.1 a c A.1 q, A.2⟩, r⟩
theorem IA.len {a : Addr} {ty : FieldType} {xs : List Int32} (F : IA Z h a ty xs) : xs.length < 2147483648 := by obtain ⟨c, A, h1, h2, -⟩ := F; exact h2
theorem o_nat {j : Int32} (h0 : 0 ≤ j.toInt) : ¬ j < 0 ∧ (j.toNatClampNeg : Int) = j.toInt := by
  have h1 : ¬ j < 0 := fun q => by have := Int32.lt_iff_toInt_lt.mp q; have : (0 : Int32).toInt = 0 := rfl; omega
  exact ⟨h1, (nat_of h1).symm⟩
theorem o_inb {j : Int32} {n N : Nat} (h0 : 0 ≤ j.toInt) (h1 : j.toInt < n) (hN : N = n) : ¬ (j < 0 ∨ N ≤ j.toNatClampNeg) := by
  obtain ⟨g1, g2⟩ := o_nat h0
  rintro (q | q)
  · exact g1 q
  · omega
theorem IA.set {h' : Heap} {a : Addr} {ty : FieldType} {xs : List Int32} {j x : Int32} (F : IA Z h a ty xs) (W : Wr h h' a j.toNatClampNeg (.int x)) (hf : fits ty (.int x) = true) : IA Z h' a ty (xs.set j.toNatClampNeg x) := by
  obtain ⟨c, A, h1, h2, h3, h4⟩ := F
  refine ⟨c.setSlot j.toNatClampNeg (.int x), A.same W, by rw [sz_set, h1]; simp, by simpa using h2, fun i hi => ?_, fun i hi => ?_⟩
  · rw [List.length_set] at hi
    by_cases q : j.toNatClampNeg = i
    · subst q
      have : j.toNatClampNeg < c.slots.size := by rw [h1]; exact hi
      simp [Cell.setSlot, this, hi, List.getD_eq_getElem?_getD]
    · have := h3 i hi
      simp only [Cell.setSlot, Array.getElem?_setIfInBounds_ne q, this, List.getD_eq_getElem?_getD, List.getElem?_set_ne q]
  · rw [List.length_set] at hi
    by_cases q : j.toNatClampNeg = i
    · subst q; simpa [hi, List.getD_eq_getElem?_getD] using hf
    · have := h4 i hi
      simpa only [List.getD_eq_getElem?_getD, List.getElem?_set_ne q] using this
theorem IA.new {a : Addr} {ty : FieldType} {k : ClassId} {n : Int32} (A : Arr Z h a (newA k ty n) ty) (hn : ¬ n < 0) (hd : defaultValue ty = .int 0) (hf : fits ty (.int 0) = true) : IA Z h a ty (List.replicate n.toNatClampNeg 0) := by
  have := (back32 hn).2
  refine ⟨_, A, by simp [newA], by simpa using this, fun i hi => ?_, fun i hi => ?_⟩
  · have hi' : i < n.toNatClampNeg := by simpa using hi
    simp [newA, hd, hi', List.getD_eq_getElem?_getD]
  · have hi' : i < n.toNatClampNeg := by simpa using hi
    simpa [List.getD_eq_getElem?_getD, hi'] using hf
theorem o_newarr (S : St p l e R s m args below meth c Z own bytes ml n0 ret nm T h cells slots) {aty : ArrayType} {n : Int32} {cap : Nat} (w : (Jvm.Cond.arrayClass (newarray.typeOf aty)).before a0 Z = true) (hd : decode bytes pc = .ok (.newarray aty, 2)) (hq : pc + 2 = q) (hn0 : 0 ≤ n.toInt) (hcap : n.toInt ≤ cap) (hb8 : cap * 8 ≤ 536870912) (hc : cells + 1 ≤ R.cells) (hl : slots + cap ≤ R.slots)
    (k : ∀ T' h' a cA, St p l e R s m args below meth c Z own bytes ml n0 ret nm T' h' (cells + 1) (slots + cap) → a = h.size → n0 ≤ a → Ext h h' → Arr Z h' a (newA cA (newarray.typeOf aty) n) (newarray.typeOf aty) → Wp p e below PO T' (mkF m q L (.ref a :: st))) : Wp p e below PO T (mkF m pc L (.int n :: st)) := by
  have g0 := o_n0 S
  obtain ⟨g1, g2⟩ := o_nat hn0
  subst hq
  obtain ⟨locs, X, N, eT, hx, hZ, hown, hby, hml, hlk, hn, hrt, hnm⟩ := S
  obtain ⟨T', h', cA, X', e', E', A', st'⟩ := newP X hx hZ w eT (g := mkF m pc L (.int n :: st)) rfl (hb hby hd) rfl g1 (cap := cap) (by omega) hb8 hc hl
  exact o_to st' (k T' h' h.size cA ⟨_, X', N, e', hx, hZ, hown, hby, hml, hlk, hn, hrt, hnm⟩ rfl g0 E' A')
theorem o_iaload (S : St p l e R s m args below meth c Z own bytes ml n0 ret nm T h cells slots) {a : Addr} {j v : Int32} {xs : List Int32} (F : IA Z h a .int xs) (h0 : 0 ≤ j.toInt) (h1 : j.toInt < xs.length) (hv : xs.getD j.toNatClampNeg 0 = v) (hd : decode bytes pc = .ok (.iaload, 1)) (hq : pc + 1 = q) (k : Wp p e below PO T (mkF m q L (.int v :: st))) : Wp p e below PO T (mkF m pc L (.int j :: .ref a :: st)) := by
  subst hq hv
  obtain ⟨locs, X, N, eT, hx, hZ, hown, hby, hml, hlk, hn, hrt, hnm⟩ := S
  obtain ⟨cl, A, g1, g2, g3, g4⟩ := F
  have g5 := (o_nat h0).2
  exact o_to (X.iaload hx (j := j) (by rw [eT]; exact A.1) (State.isArrayOf_alike hZ.alike A.2.1) A.2.2 (o_inb h0 h1 g1) (g3 _ (by omega)) (g := mkF m pc L (.int j :: .ref a :: st)) rfl rfl (hb hby hd)) k
theorem o_baload (S : St p l e R s m args below meth c Z own bytes ml n0 ret nm T h cells slots) {a : Addr} {j v : Int32} {xs : List Int32} (F : IA Z h a .byte xs) (h0 : 0 ≤ j.toInt) (h1 : j.toInt < xs.length) (hv : xs.getD j.toNatClampNeg 0 = v) (hd : decode bytes pc = .ok (.baload, 1)) (hq : pc + 1 = q) (k : Wp p e below PO T (mkF m q L (.int v :: st))) : Wp p e below PO T (mkF m pc L (.int j :: .ref a :: st)) := by
  subst hq hv
  obtain ⟨locs, X, N, eT, hx, hZ, hown, hby, hml, hlk, hn, hrt, hnm⟩ := S
  obtain ⟨cl, A, g1, g2, g3, g4⟩ := F
  have g5 := (o_nat h0).2
  exact o_to (X.baloadBytes hx (j := j) (by rw [eT]; exact A.1) (State.isArrayOf_alike hZ.alike A.2.1) A.2.2 (o_inb h0 h1 g1) (g3 _ (by omega)) (g := mkF m pc L (.int j :: .ref a :: st)) rfl rfl (hb hby hd)) k
theorem o_iastore (S : St p l e R s m args below meth c Z own bytes ml n0 ret nm T h cells slots) {a : Addr} {j x y : Int32} {xs ys : List Int32} (F : IA Z h a .int xs) (h0 : 0 ≤ j.toInt) (h1 : j.toInt < xs.length) (ga : n0 ≤ a) (hx' : x = y) (hys : xs.set j.toNatClampNeg y = ys) (hd : decode bytes pc = .ok (.iastore, 1)) (hq : pc + 1 = q) (k : ∀ T' h', St p l e R s m args below meth c Z own bytes ml n0 ret nm T' h' cells slots → Wr h h' a j.toNatClampNeg (.int y) → IA Z h' a .int ys → Wp p e below PO T' (mkF m q L st)) : Wp p e below PO T (mkF m pc L (.int x :: .int j :: .ref a :: st)) := by
  subst hq hys hx'
  obtain ⟨locs, X, N, eT, hx, hZ, hown, hby, hml, hlk, hn, hrt, hnm⟩ := S
  have F' := F
  obtain ⟨cl, A, g1, g2, g3, g4⟩ := F
  obtain ⟨T', h', X', e', W', st'⟩ := stI X hx hZ eT A (j := j) (x := x) (o_inb h0 h1 g1) (g := mkF m pc L (.int x :: .int j :: .ref a :: st)) rfl rfl (hb hby hd)
  exact o_to st' (k T' h' ⟨_, X', Fr.snoc X' N ga, e', hx, hZ, hown, hby, hml, hlk, hn, hrt, hnm⟩ W' (F'.set W' rfl))
theorem o_bastore (S : St p l e R s m args below meth c Z own bytes ml n0 ret nm T h cells slots) {a : Addr} {j x y : Int32} {xs ys : List Int32} (F : IA Z h a .byte xs) (h0 : 0 ≤ j.toInt) (h1 : j.toInt < xs.length) (ga : n0 ≤ a) (hx' : x.toInt8.toInt32 = y) (hys : xs.set j.toNatClampNeg y = ys) (hd : decode bytes pc = .ok (.bastore, 1)) (hq : pc + 1 = q) (k : ∀ T' h', St p l e R s m args below meth c Z own bytes ml n0 ret nm T' h' cells slots → Wr h h' a j.toNatClampNeg (.int y) → IA Z h' a .byte ys → Wp p e below PO T' (mkF m q L st)) : Wp p e below PO T (mkF m pc L (.int x :: .int j :: .ref a :: st)) := by
  subst hq hys hx'
  obtain ⟨locs, X, N, eT, hx, hZ, hown, hby, hml, hlk, hn, hrt, hnm⟩ := S
  have F' := F
  obtain ⟨cl, A, g1, g2, g3, g4⟩ := F
  obtain ⟨T', h', X', e', W', st'⟩ := stB X hx hZ eT A (j := j) (x := x) (o_inb h0 h1 g1) (g := mkF m pc L (.int x :: .int j :: .ref a :: st)) rfl rfl (hb hby hd)
  exact o_to st' (k T' h' ⟨_, X', Fr.snoc X' N ga, e', hx, hZ, hown, hby, hml, hlk, hn, hrt, hnm⟩ W' (F'.set W' (fits_nar_byte x)))
theorem o_arraylength (S : St p l e R s m args below meth c Z own bytes ml n0 ret nm T h cells slots) {a : Addr} {ty : FieldType} {xs : List Int32} {z : Int32} (F : IA Z h a ty xs) (hz : Int32.ofNat xs.length = z) (hd : decode bytes pc = .ok (.arraylength, 1)) (hq : pc + 1 = q) (k : Wp p e below PO T (mkF m q L (.int z :: st))) : Wp p e below PO T (mkF m pc L (.ref a :: st)) := by
  subst hq hz
  obtain ⟨locs, X, N, eT, hx, hZ, hown, hby, hml, hlk, hn, hrt, hnm⟩ := S
  obtain ⟨cl, A, g1, g2, g3, g4⟩ := F
  exact o_to (X.arraylength hx (by rw [eT]; exact A.1) (State.isArrayOf_alike hZ.alike A.2.1) (g := mkF m pc L (.ref a :: st)) rfl rfl (hb hby hd)) (by rw [g1]; exact k)
theorem o_bid {x : Int32} (h1 : -128 ≤ x.toInt) (h2 : x.toInt < 128) : x.toInt8.toInt32 = x := by
  rw [← Int32.toInt_inj]; have := c_i2b x; omega
theorem o_cid {x : Int32} (h1 : 0 ≤ x.toInt) (h2 : x.toInt < 65536) : x.toUInt32.toUInt16.toUInt32.toInt32 = x := by
  rw [← Int32.toInt_inj]; have := c_i2c x; omega
theorem o_i2bb (x : Int32) : x.toInt8.toInt32.toInt8.toInt32 = x.toInt8.toInt32 := o_bid (c_i2b x).2.1 (c_i2b x).2.2
theorem o_narB {x : Int32} (h1 : -128 ≤ x.toInt) (h2 : x.toInt < 128) : narrow .byte (.int x) = .int x := by show Value.int _ = _; rw [o_bid h1 h2]
theorem o_narC {x : Int32} (h1 : 0 ≤ x.toInt) (h2 : x.toInt < 65536) : narrow .char (.int x) = .int x := by show Value.int _ = _; rw [o_cid h1 h2]
theorem o_narZ {x : Int32} (h : x = 0 ∨ x = 1) : narrow .boolean (.int x) = .int x := by rcases h with rfl | rfl <;> rfl
theorem o_split64 (x M m : Int64) (h1 : M ||| m = -1) (h0 : M &&& m = 0) : (x &&& M) ||| (x &&& m) = x ∧ (x &&& M) &&& m = 0 := by
  refine ⟨?_, by rw [Int64.and_assoc, h0, Int64.and_zero]⟩
  have q : x &&& (M ||| m) = (x &&& M) ||| (x &&& m) := Int64.toBitVec_inj.1 BitVec.and_or_distrib_left
  rw [← q, h1, Int64.and_neg_one]
theorem o_ne32 {x y : Int32} (h : x.toInt ≠ y.toInt) : x ≠ y := fun q => h (by rw [q])
theorem o_eq32 {x y : Int32} (h : x.toInt = y.toInt) : x = y := Int32.toInt_inj.mp h
end OwnPre
def f_pick (p0 : Int32) (q1 : Int64) (p2 : Int32) : Int32 := if ¬ (((p0.toUInt32 >>> (((3 : Int32) * p2) &&& 31).toUInt32).toInt32) &&& (7 : Int32)) = (0 : Int32) then (if ¬ (((p0.toUInt32 >>> (((3 : Int32) * p2) &&& 31).toUInt32).toInt32) &&& (7 : Int32)) = (1 : Int32) then (if ¬ (((p0.toUInt32 >>> (((3 : Int32) * p2) &&& 31).toUInt32).toInt32) &&& (7 : Int32)) = (2 : Int32) then (if ¬ (((p0.toUInt32 >>> (((3 : Int32) * p2) &&& 31).toUInt32).toInt32) &&& (7 : Int32)) = (3 : Int32) then ((((q1.toUInt64 >>> (((8 : Int32) * p2) &&& 0x3f).toInt64.toUInt64).toInt64).toInt32).toInt8.toInt32) else (10 : Int32)) else (13 : Int32)) else (9 : Int32)) else (32 : Int32)
theorem d1_0 : decode method_3_code 0 = .ok (.iload_n 0, 1) := by decide +kernel
theorem d1_1 : decode method_3_code 1 = .ok (.iconst 3, 1) := by decide +kernel
theorem d1_2 : decode method_3_code 2 = .ok (.iload_n 3, 1) := by decide +kernel
theorem d1_3 : decode method_3_code 3 = .ok (.imul, 1) := by decide +kernel
theorem d1_4 : decode method_3_code 4 = .ok (.iushr, 1) := by decide +kernel
theorem d1_5 : decode method_3_code 5 = .ok (.bipush 7, 2) := by decide +kernel
theorem d1_7 : decode method_3_code 7 = .ok (.iand, 1) := by decide +kernel
theorem d1_8 : decode method_3_code 8 = .ok (.istore 4, 2) := by decide +kernel
theorem d1_10 : decode method_3_code 10 = .ok (.iload 4, 2) := by decide +kernel
theorem d1_12 : decode method_3_code 12 = .ok (.ifCond .ne 6, 3) := by decide +kernel
theorem d1_15 : decode method_3_code 15 = .ok (.bipush 32, 2) := by decide +kernel
theorem d1_17 : decode method_3_code 17 = .ok (.ireturn, 1) := by decide +kernel
theorem d1_18 : decode method_3_code 18 = .ok (.iload 4, 2) := by decide +kernel
theorem d1_20 : decode method_3_code 20 = .ok (.iconst 1, 1) := by decide +kernel
theorem d1_21 : decode method_3_code 21 = .ok (.if_icmp .ne 6, 3) := by decide +kernel
theorem d1_24 : decode method_3_code 24 = .ok (.bipush 9, 2) := by decide +kernel
theorem d1_26 : decode method_3_code 26 = .ok (.ireturn, 1) := by decide +kernel
theorem d1_27 : decode method_3_code 27 = .ok (.iload 4, 2) := by decide +kernel
theorem d1_29 : decode method_3_code 29 = .ok (.iconst 2, 1) := by decide +kernel
theorem d1_30 : decode method_3_code 30 = .ok (.if_icmp .ne 6, 3) := by decide +kernel
theorem d1_33 : decode method_3_code 33 = .ok (.bipush 13, 2) := by decide +kernel
theorem d1_35 : decode method_3_code 35 = .ok (.ireturn, 1) := by decide +kernel
theorem d1_36 : decode method_3_code 36 = .ok (.iload 4, 2) := by decide +kernel
theorem d1_38 : decode method_3_code 38 = .ok (.iconst 3, 1) := by decide +kernel
theorem d1_39 : decode method_3_code 39 = .ok (.if_icmp .ne 6, 3) := by decide +kernel
theorem d1_42 : decode method_3_code 42 = .ok (.bipush 10, 2) := by decide +kernel
theorem d1_44 : decode method_3_code 44 = .ok (.ireturn, 1) := by decide +kernel
theorem d1_45 : decode method_3_code 45 = .ok (.lload_n 1, 1) := by decide +kernel
theorem d1_46 : decode method_3_code 46 = .ok (.bipush 8, 2) := by decide +kernel
theorem d1_48 : decode method_3_code 48 = .ok (.iload_n 3, 1) := by decide +kernel
theorem d1_49 : decode method_3_code 49 = .ok (.imul, 1) := by decide +kernel
theorem d1_50 : decode method_3_code 50 = .ok (.lushr, 1) := by decide +kernel
theorem d1_51 : decode method_3_code 51 = .ok (.l2i, 1) := by decide +kernel
theorem d1_52 : decode method_3_code 52 = .ok (.i2b, 1) := by decide +kernel
theorem d1_53 : decode method_3_code 53 = .ok (.ireturn, 1) := by decide +kernel
def rm_1 : Room := ({ frames := 0, cells := 0, slots := 0, locals := 0 } : Room)
theorem pn_1 : plainFor (⟨"com/example/mince_trees/mincetrees/tree/Utf8IsWhitespacePinLaw", "pick", "(IJI)B"⟩ : MethodName) = true := plainFor_of_name (by first | (simp [plainName, overriddenIn]; done) | (simp [plainName, overriddenIn, x]; done) | decide +kernel)
theorem ef_1 (p0 : Int32) (q1 : Int64) (p2 : Int32) (m : MethodId) : entryFrame m #[(.int p0), (.long q1), (.int p2)] 5 = mkF m 0 #[.val (.int p0), .val (.long q1), .second, .val (.int p2), .unset] [] := by first | (simp [entryFrame, mkF, argsToLocals, Value.category]; done) | rfl
set_option maxRecDepth 65536 in
set_option maxHeartbeats 40000000 in
theorem ct_1 (l : Launch) (Z : State) (a0 : Array Value) (hw : ∀ d ∈ tables_1, d.before a0 Z = true) (p0 : Int32) (q1 : Int64) (p2 : Int32) (h0 : Heap) (n0 : Nat) (hn : n0 ≤ h0.size) : Ct l (⟨"com/example/mince_trees/mincetrees/tree/Utf8IsWhitespacePinLaw", "pick", "(IJI)B"⟩ : MethodName) method_3_code 5 (some .byte) [] rm_1 Z h0 n0 #[(.int p0), (.long q1), (.int p2)] (Qp (some (.int (f_pick p0 q1 p2))) h0) := by
  refine o_body pn_1 hn (ef_1 p0 q1 p2) ?_
  intro p e s m below meth c T S
  refine o_iloadN S rfl d1_0 rfl (q := 1) ?_
  refine o_iconst S (z := 3) rfl d1_1 rfl (q := 2) ?_
  refine o_iloadN S rfl d1_2 rfl (q := 3) ?_
  refine o_imul S d1_3 rfl (q := 4) ?_
  refine o_iushr S d1_4 rfl (q := 5) ?_
  refine o_bipush S (z := 7) rfl d1_5 rfl (q := 7) ?_
  refine o_iand S d1_7 rfl (q := 8) ?_
  refine o_istore S (L' := #[.val (.int p0), .val (.long q1), .second, .val (.int p2), .val (.int (((p0.toUInt32 >>> (((3 : Int32) * p2) &&& 31).toUInt32).toInt32) &&& (7 : Int32)))]) rfl d1_8 rfl (q := 10) ?_
  refine o_iload S rfl d1_10 rfl (q := 12) ?_
  refine o_if S d1_12 (by decide) (q' := 18) (by decide) (q := 15) rfl hs_ne.1 hs_ne.2 (fun hc12 => ?_) (fun hc12 => ?_)
  · skip
    refine o_iload S rfl d1_18 rfl (q := 20) ?_
    refine o_iconst S (z := 1) rfl d1_20 rfl (q := 21) ?_
    refine o_icmp S d1_21 (by decide) (q' := 27) (by decide) (q := 24) rfl hs_ne.1 hs_ne.2 (fun hc21 => ?_) (fun hc21 => ?_)
    · skip
      refine o_iload S rfl d1_27 rfl (q := 29) ?_
      refine o_iconst S (z := 2) rfl d1_29 rfl (q := 30) ?_
      refine o_icmp S d1_30 (by decide) (q' := 36) (by decide) (q := 33) rfl hs_ne.1 hs_ne.2 (fun hc30 => ?_) (fun hc30 => ?_)
      · skip
        refine o_iload S rfl d1_36 rfl (q := 38) ?_
        refine o_iconst S (z := 3) rfl d1_38 rfl (q := 39) ?_
        refine o_icmp S d1_39 (by decide) (q' := 45) (by decide) (q := 42) rfl hs_ne.1 hs_ne.2 (fun hc39 => ?_) (fun hc39 => ?_)
        · skip
          refine o_lloadN S rfl d1_45 rfl (q := 46) ?_
          refine o_bipush S (z := 8) rfl d1_46 rfl (q := 48) ?_
          refine o_iloadN S rfl d1_48 rfl (q := 49) ?_
          refine o_imul S d1_49 rfl (q := 50) ?_
          refine o_lushr S d1_50 rfl (q := 51) ?_
          refine o_l2i S d1_51 rfl (q := 52) ?_
          refine o_i2b S d1_52 rfl (q := 53) ?_
          refine o_retN S (t := .byte) rfl (by simp) d1_53 (by decide) (by decide) (o_narB (c_i2b _).2.1 (c_i2b _).2.2) ?_
          exact ⟨o_si (by rw [f_pick, if_pos hc12, if_pos hc21, if_pos hc30, if_pos hc39]), rfl⟩
        · skip
          refine o_bipush S (z := 10) rfl d1_42 rfl (q := 44) ?_
          refine o_retN S (t := .byte) rfl (by simp) d1_44 (by decide) (by decide) rfl ?_
          exact ⟨o_si (by rw [f_pick, if_pos hc12, if_pos hc21, if_pos hc30, if_neg hc39]), rfl⟩
      · skip
        refine o_bipush S (z := 13) rfl d1_33 rfl (q := 35) ?_
        refine o_retN S (t := .byte) rfl (by simp) d1_35 (by decide) (by decide) rfl ?_
        exact ⟨o_si (by rw [f_pick, if_pos hc12, if_pos hc21, if_neg hc30]), rfl⟩
    · skip
      refine o_bipush S (z := 9) rfl d1_24 rfl (q := 26) ?_
      refine o_retN S (t := .byte) rfl (by simp) d1_26 (by decide) (by decide) rfl ?_
      exact ⟨o_si (by rw [f_pick, if_pos hc12, if_neg hc21]), rfl⟩
  · skip
    refine o_bipush S (z := 32) rfl d1_15 rfl (q := 17) ?_
    refine o_retN S (t := .byte) rfl (by simp) d1_17 (by decide) (by decide) rfl ?_
    exact ⟨o_si (by rw [f_pick, if_neg hc12]), rfl⟩
theorem own_ite {P : Prop} [Decidable P] {a b : Int32} (ha : a.toInt8.toInt32 = a) (hb : b.toInt8.toInt32 = b) : (if P then a else b).toInt8.toInt32 = (if P then a else b) := by split <;> assumption
theorem pick_rng (a : Int32) (b : Int64) (k : Int32) : (f_pick a b k).toInt8.toInt32 = f_pick a b k := by
  unfold f_pick
  exact own_ite (own_ite (own_ite (own_ite (o_i2bb _) (by decide)) (by decide)) (by decide)) (by decide)
def isW (x : Int32) : Prop := x = 32 ∨ x = 9 ∨ x = 13 ∨ x = 10
instance (x : Int32) : Decidable (isW x) := by unfold isW; infer_instance
def wsF (xs : List Int32) : Nat → Nat → Int32
  | _, 0 => 1
  | i, k + 1 => if isW (xs.getD i 0) then wsF xs (i + 1) k else 0
def f_fits (p1 : Int32) (p2 : Int32) (p3 : Int32) (xs : List Int32) : Int32 := if p1.toInt < p2.toInt then (1 : Int32) else (if p1.toInt < (p2 + p3).toInt then (if (xs.getD p1.toNatClampNeg 0) = (32 : Int32) then (1 : Int32) else (if (xs.getD p1.toNatClampNeg 0) = (9 : Int32) then (1 : Int32) else (if (xs.getD p1.toNatClampNeg 0) = (13 : Int32) then (1 : Int32) else (if ¬ (xs.getD p1.toNatClampNeg 0) = (10 : Int32) then (0 : Int32) else (1 : Int32))))) else (1 : Int32))
theorem d2_0 : decode method_4_code 0 = .ok (.iload_n 1, 1) := by decide +kernel
theorem d2_1 : decode method_4_code 1 = .ok (.iload_n 2, 1) := by decide +kernel
theorem d2_2 : decode method_4_code 2 = .ok (.if_icmp .lt 10, 3) := by decide +kernel
theorem d2_5 : decode method_4_code 5 = .ok (.iload_n 1, 1) := by decide +kernel
theorem d2_6 : decode method_4_code 6 = .ok (.iload_n 2, 1) := by decide +kernel
theorem d2_7 : decode method_4_code 7 = .ok (.iload_n 3, 1) := by decide +kernel
theorem d2_8 : decode method_4_code 8 = .ok (.iadd, 1) := by decide +kernel
theorem d2_9 : decode method_4_code 9 = .ok (.if_icmp .lt 5, 3) := by decide +kernel
theorem d2_12 : decode method_4_code 12 = .ok (.iconst 1, 1) := by decide +kernel
theorem d2_13 : decode method_4_code 13 = .ok (.ireturn, 1) := by decide +kernel
theorem d2_14 : decode method_4_code 14 = .ok (.aload_n 0, 1) := by decide +kernel
theorem d2_15 : decode method_4_code 15 = .ok (.iload_n 1, 1) := by decide +kernel
theorem d2_16 : decode method_4_code 16 = .ok (.baload, 1) := by decide +kernel
theorem d2_17 : decode method_4_code 17 = .ok (.istore 4, 2) := by decide +kernel
theorem d2_19 : decode method_4_code 19 = .ok (.iload 4, 2) := by decide +kernel
theorem d2_21 : decode method_4_code 21 = .ok (.bipush 32, 2) := by decide +kernel
theorem d2_23 : decode method_4_code 23 = .ok (.if_icmp .eq 24, 3) := by decide +kernel
theorem d2_26 : decode method_4_code 26 = .ok (.iload 4, 2) := by decide +kernel
theorem d2_28 : decode method_4_code 28 = .ok (.bipush 9, 2) := by decide +kernel
theorem d2_30 : decode method_4_code 30 = .ok (.if_icmp .eq 17, 3) := by decide +kernel
theorem d2_33 : decode method_4_code 33 = .ok (.iload 4, 2) := by decide +kernel
theorem d2_35 : decode method_4_code 35 = .ok (.bipush 13, 2) := by decide +kernel
theorem d2_37 : decode method_4_code 37 = .ok (.if_icmp .eq 10, 3) := by decide +kernel
theorem d2_40 : decode method_4_code 40 = .ok (.iload 4, 2) := by decide +kernel
theorem d2_42 : decode method_4_code 42 = .ok (.bipush 10, 2) := by decide +kernel
theorem d2_44 : decode method_4_code 44 = .ok (.if_icmp .ne 7, 3) := by decide +kernel
theorem d2_47 : decode method_4_code 47 = .ok (.iconst 1, 1) := by decide +kernel
theorem d2_48 : decode method_4_code 48 = .ok (.goto 4, 3) := by decide +kernel
theorem d2_51 : decode method_4_code 51 = .ok (.iconst 0, 1) := by decide +kernel
theorem d2_52 : decode method_4_code 52 = .ok (.ireturn, 1) := by decide +kernel
def rm_2 : Room := ({ frames := 0, cells := 0, slots := 0, locals := 0 } : Room)
theorem pn_2 : plainFor (⟨"com/example/mince_trees/mincetrees/tree/Utf8IsWhitespacePinLaw", "fits", "([BIII)Z"⟩ : MethodName) = true := plainFor_of_name (by first | (simp [plainName, overriddenIn]; done) | (simp [plainName, overriddenIn, x]; done) | decide +kernel)
theorem ef_2 (r0 : Addr) (p1 : Int32) (p2 : Int32) (p3 : Int32) (m : MethodId) : entryFrame m #[(.ref r0), (.int p1), (.int p2), (.int p3)] 5 = mkF m 0 #[.val (.ref r0), .val (.int p1), .val (.int p2), .val (.int p3), .unset] [] := by first | (simp [entryFrame, mkF, argsToLocals, Value.category]; done) | rfl
set_option maxRecDepth 65536 in
set_option maxHeartbeats 40000000 in
theorem ct_2 (l : Launch) (Z : State) (a0 : Array Value) (hw : ∀ d ∈ tables_1, d.before a0 Z = true) (r0 : Addr) (p1 : Int32) (p2 : Int32) (p3 : Int32) (xs : List Int32) (h0 : Heap) (n0 : Nat) (hn : n0 ≤ h0.size) (A_r0 : IA Z h0 r0 .byte xs) (hk0 : 0 ≤ p1.toInt) (hk1 : p1.toInt < xs.length) : Ct l (⟨"com/example/mince_trees/mincetrees/tree/Utf8IsWhitespacePinLaw", "fits", "([BIII)Z"⟩ : MethodName) method_4_code 5 (some .boolean) [] rm_2 Z h0 n0 #[(.ref r0), (.int p1), (.int p2), (.int p3)] (Qp (some (.int (f_fits p1 p2 p3 xs))) h0) := by
  refine o_body pn_2 hn (ef_2 r0 p1 p2 p3) ?_
  intro p e s m below meth c T S
  refine o_iloadN S rfl d2_0 rfl (q := 1) ?_
  refine o_iloadN S rfl d2_1 rfl (q := 2) ?_
  refine o_icmp S d2_2 (by decide) (q' := 12) (by decide) (q := 5) rfl (hs_lt (a := p1.toInt) (b := p2.toInt) rfl rfl).1 (hs_lt (a := p1.toInt) (b := p2.toInt) rfl rfl).2 (fun hc2 => ?_) (fun hc2 => ?_)
  · skip
    refine o_iconst S (z := 1) rfl d2_12 rfl (q := 13) ?_
    refine o_retN S (t := .boolean) rfl (by simp) d2_13 (by decide) (by decide) rfl ?_
    exact ⟨o_si (by rw [f_fits, if_pos hc2]), rfl⟩
  · skip
    refine o_iloadN S rfl d2_5 rfl (q := 6) ?_
    refine o_iloadN S rfl d2_6 rfl (q := 7) ?_
    refine o_iloadN S rfl d2_7 rfl (q := 8) ?_
    refine o_iadd S d2_8 rfl (q := 9) ?_
    refine o_icmp S d2_9 (by decide) (q' := 14) (by decide) (q := 12) rfl (hs_lt (a := p1.toInt) (b := (p2 + p3).toInt) rfl rfl).1 (hs_lt (a := p1.toInt) (b := (p2 + p3).toInt) rfl rfl).2 (fun hc9 => ?_) (fun hc9 => ?_)
    · skip
      refine o_aloadN S rfl rfl d2_14 rfl (q := 15) ?_
      refine o_iloadN S rfl d2_15 rfl (q := 16) ?_
      refine o_baload S A_r0 hk0 hk1 (v := (xs.getD p1.toNatClampNeg 0)) rfl d2_16 rfl (q := 17) ?_
      refine o_istore S (L' := #[.val (.ref r0), .val (.int p1), .val (.int p2), .val (.int p3), .val (.int (xs.getD p1.toNatClampNeg 0))]) rfl d2_17 rfl (q := 19) ?_
      refine o_iload S rfl d2_19 rfl (q := 21) ?_
      refine o_bipush S (z := 32) rfl d2_21 rfl (q := 23) ?_
      refine o_icmp S d2_23 (by decide) (q' := 47) (by decide) (q := 26) rfl hs_eq.1 hs_eq.2 (fun hc23 => ?_) (fun hc23 => ?_)
      · skip
        refine o_iconst S (z := 1) rfl d2_47 rfl (q := 48) ?_
        refine o_goto S d2_48 (by decide) (q := 52) (by decide) ?_
        refine o_retN S (t := .boolean) rfl (by simp) d2_52 (by decide) (by decide) rfl ?_
        exact ⟨o_si (by rw [f_fits, if_neg hc2, if_pos hc9, if_pos hc23]), rfl⟩
      · skip
        refine o_iload S rfl d2_26 rfl (q := 28) ?_
        refine o_bipush S (z := 9) rfl d2_28 rfl (q := 30) ?_
        refine o_icmp S d2_30 (by decide) (q' := 47) (by decide) (q := 33) rfl hs_eq.1 hs_eq.2 (fun hc30 => ?_) (fun hc30 => ?_)
        · skip
          refine o_iconst S (z := 1) rfl d2_47 rfl (q := 48) ?_
          refine o_goto S d2_48 (by decide) (q := 52) (by decide) ?_
          refine o_retN S (t := .boolean) rfl (by simp) d2_52 (by decide) (by decide) rfl ?_
          exact ⟨o_si (by rw [f_fits, if_neg hc2, if_pos hc9, if_neg hc23, if_pos hc30]), rfl⟩
        · skip
          refine o_iload S rfl d2_33 rfl (q := 35) ?_
          refine o_bipush S (z := 13) rfl d2_35 rfl (q := 37) ?_
          refine o_icmp S d2_37 (by decide) (q' := 47) (by decide) (q := 40) rfl hs_eq.1 hs_eq.2 (fun hc37 => ?_) (fun hc37 => ?_)
          · skip
            refine o_iconst S (z := 1) rfl d2_47 rfl (q := 48) ?_
            refine o_goto S d2_48 (by decide) (q := 52) (by decide) ?_
            refine o_retN S (t := .boolean) rfl (by simp) d2_52 (by decide) (by decide) rfl ?_
            exact ⟨o_si (by rw [f_fits, if_neg hc2, if_pos hc9, if_neg hc23, if_neg hc30, if_pos hc37]), rfl⟩
          · skip
            refine o_iload S rfl d2_40 rfl (q := 42) ?_
            refine o_bipush S (z := 10) rfl d2_42 rfl (q := 44) ?_
            refine o_icmp S d2_44 (by decide) (q' := 51) (by decide) (q := 47) rfl hs_ne.1 hs_ne.2 (fun hc44 => ?_) (fun hc44 => ?_)
            · skip
              refine o_iconst S (z := 0) rfl d2_51 rfl (q := 52) ?_
              refine o_retN S (t := .boolean) rfl (by simp) d2_52 (by decide) (by decide) rfl ?_
              exact ⟨o_si (by rw [f_fits, if_neg hc2, if_pos hc9, if_neg hc23, if_neg hc30, if_neg hc37, if_pos hc44]), rfl⟩
            · skip
              refine o_iconst S (z := 1) rfl d2_47 rfl (q := 48) ?_
              refine o_goto S d2_48 (by decide) (q := 52) (by decide) ?_
              refine o_retN S (t := .boolean) rfl (by simp) d2_52 (by decide) (by decide) rfl ?_
              exact ⟨o_si (by rw [f_fits, if_neg hc2, if_pos hc9, if_neg hc23, if_neg hc30, if_neg hc37, if_neg hc44]), rfl⟩
    · skip
      refine o_iconst S (z := 1) rfl d2_12 rfl (q := 13) ?_
      refine o_retN S (t := .boolean) rfl (by simp) d2_13 (by decide) (by decide) rfl ?_
      exact ⟨o_si (by rw [f_fits, if_neg hc2, if_neg hc9]), rfl⟩
theorem d3_0 : decode prog_65_method_3_code 0 = .ok (.iload_n 1, 1) := by decide +kernel
theorem d3_1 : decode prog_65_method_3_code 1 = .ok (.iload_n 2, 1) := by decide +kernel
theorem d3_2 : decode prog_65_method_3_code 2 = .ok (.iadd, 1) := by decide +kernel
theorem d3_3 : decode prog_65_method_3_code 3 = .ok (.istore_n 3, 1) := by decide +kernel
theorem d3_4 : decode prog_65_method_3_code 4 = .ok (.iload_n 1, 1) := by decide +kernel
theorem d3_5 : decode prog_65_method_3_code 5 = .ok (.istore 4, 2) := by decide +kernel
theorem d3_7 : decode prog_65_method_3_code 7 = .ok (.iload 4, 2) := by decide +kernel
theorem d3_9 : decode prog_65_method_3_code 9 = .ok (.iload_n 3, 1) := by decide +kernel
theorem d3_10 : decode prog_65_method_3_code 10 = .ok (.if_icmp .ge 45, 3) := by decide +kernel
theorem d3_13 : decode prog_65_method_3_code 13 = .ok (.aload_n 0, 1) := by decide +kernel
theorem d3_14 : decode prog_65_method_3_code 14 = .ok (.iload 4, 2) := by decide +kernel
theorem d3_16 : decode prog_65_method_3_code 16 = .ok (.baload, 1) := by decide +kernel
theorem d3_17 : decode prog_65_method_3_code 17 = .ok (.bipush 32, 2) := by decide +kernel
theorem d3_19 : decode prog_65_method_3_code 19 = .ok (.if_icmp .eq 30, 3) := by decide +kernel
theorem d3_22 : decode prog_65_method_3_code 22 = .ok (.aload_n 0, 1) := by decide +kernel
theorem d3_23 : decode prog_65_method_3_code 23 = .ok (.iload 4, 2) := by decide +kernel
theorem d3_25 : decode prog_65_method_3_code 25 = .ok (.baload, 1) := by decide +kernel
theorem d3_26 : decode prog_65_method_3_code 26 = .ok (.bipush 9, 2) := by decide +kernel
theorem d3_28 : decode prog_65_method_3_code 28 = .ok (.if_icmp .eq 21, 3) := by decide +kernel
theorem d3_31 : decode prog_65_method_3_code 31 = .ok (.aload_n 0, 1) := by decide +kernel
theorem d3_32 : decode prog_65_method_3_code 32 = .ok (.iload 4, 2) := by decide +kernel
theorem d3_34 : decode prog_65_method_3_code 34 = .ok (.baload, 1) := by decide +kernel
theorem d3_35 : decode prog_65_method_3_code 35 = .ok (.bipush 13, 2) := by decide +kernel
theorem d3_37 : decode prog_65_method_3_code 37 = .ok (.if_icmp .eq 12, 3) := by decide +kernel
theorem d3_40 : decode prog_65_method_3_code 40 = .ok (.aload_n 0, 1) := by decide +kernel
theorem d3_41 : decode prog_65_method_3_code 41 = .ok (.iload 4, 2) := by decide +kernel
theorem d3_43 : decode prog_65_method_3_code 43 = .ok (.baload, 1) := by decide +kernel
theorem d3_44 : decode prog_65_method_3_code 44 = .ok (.bipush 10, 2) := by decide +kernel
theorem d3_46 : decode prog_65_method_3_code 46 = .ok (.if_icmp .ne 9, 3) := by decide +kernel
theorem d3_49 : decode prog_65_method_3_code 49 = .ok (.iinc 4 1, 3) := by decide +kernel
theorem d3_52 : decode prog_65_method_3_code 52 = .ok (.goto (-45), 3) := by decide +kernel
theorem d3_55 : decode prog_65_method_3_code 55 = .ok (.iload 4, 2) := by decide +kernel
theorem d3_57 : decode prog_65_method_3_code 57 = .ok (.iload_n 3, 1) := by decide +kernel
theorem d3_58 : decode prog_65_method_3_code 58 = .ok (.if_icmp .ne 7, 3) := by decide +kernel
theorem d3_61 : decode prog_65_method_3_code 61 = .ok (.iconst 1, 1) := by decide +kernel
theorem d3_62 : decode prog_65_method_3_code 62 = .ok (.goto 4, 3) := by decide +kernel
theorem d3_65 : decode prog_65_method_3_code 65 = .ok (.iconst 0, 1) := by decide +kernel
theorem d3_66 : decode prog_65_method_3_code 66 = .ok (.ireturn, 1) := by decide +kernel
def rm_3 : Room := ({ frames := 0, cells := 0, slots := 0, locals := 0 } : Room)
theorem pn_3 : plainFor (⟨"com/example/mince_trees/mincetrees/tree/Utf8", "isWhitespace", "([BII)Z"⟩ : MethodName) = true := plainFor_of_name (by first | (simp [plainName, overriddenIn]; done) | (simp [plainName, overriddenIn, x]; done) | decide +kernel)
theorem ef_3 (r0 : Addr) (p1 : Int32) (p2 : Int32) (m : MethodId) : entryFrame m #[(.ref r0), (.int p1), (.int p2)] 5 = mkF m 0 #[.val (.ref r0), .val (.int p1), .val (.int p2), .unset, .unset] [] := by first | (simp [entryFrame, mkF, argsToLocals, Value.category]; done) | rfl
set_option maxRecDepth 65536 in
set_option maxHeartbeats 40000000 in
theorem lp_ws (l : Launch) (Z : State) (a0 : Array Value) (hw : ∀ d ∈ tables_1, d.before a0 Z = true) (r0 : Addr) (p1 : Int32) (p2 : Int32) (xs : List Int32) (h0 : Heap) (n0 : Nat) (hn : n0 ≤ h0.size) (A_r0 : IA Z h0 r0 .byte xs) (hq0 : 0 ≤ p1.toInt) (hq1 : 0 ≤ p2.toInt) (hq2 : p1.toInt + p2.toInt ≤ xs.length) {p : Program} {e : Env} {s : State} {m : MethodId} {below : List Frame} {meth : Method} {c : Code} :
    ∀ (k : Nat) (T : State) (w : Int32) (i : Int32) (S : St p l e rm_3 s m #[(.ref r0), (.int p1), (.int p2)] below meth c Z "com/example/mince_trees/mincetrees/tree/Utf8" prog_65_method_3_code 5 n0 (some .boolean) "isWhitespace" T h0 0 0) (hw0 : w.toInt ≤ xs.length) (hi0 : 0 ≤ i.toInt) (hik : i.toInt + k = w.toInt) (hinv : wsF xs p1.toNatClampNeg p2.toNatClampNeg = wsF xs i.toNatClampNeg k), Wp p e below (Po s n0 rm_3 (Qp (some (.int (wsF xs p1.toNatClampNeg p2.toNatClampNeg))) h0)) T (mkF m 7 #[.val (.ref r0), .val (.int p1), .val (.int p2), .val (.int w), .val (.int i)] []) := by
  intro k
  induction k with
  | zero =>
    intro T w i S hw0 hi0 hik hinv
    refine o_iload S rfl d3_7 rfl (q := 9) ?_
    refine o_iloadN S rfl d3_9 rfl (q := 10) ?_
    refine o_icmp S d3_10 (by decide) (q' := 55) (by decide) (q := 13) rfl (hs_ge (a := i.toInt) (b := w.toInt) rfl rfl).1 (hs_ge (a := i.toInt) (b := w.toInt) rfl rfl).2 (fun hc10 => ?_) (fun hc10 => ?_)
    · skip
      refine o_iload S rfl d3_55 rfl (q := 57) ?_
      refine o_iloadN S rfl d3_57 rfl (q := 58) ?_
      refine o_icmp S d3_58 (by decide) (q' := 65) (by decide) (q := 61) rfl hs_ne.1 hs_ne.2 (fun hc58 => ?_) (fun hc58 => ?_)
      · exact absurd (o_eq32 (by omega)) hc58
      · skip
        refine o_iconst S (z := 1) rfl d3_61 rfl (q := 62) ?_
        refine o_goto S d3_62 (by decide) (q := 66) (by decide) ?_
        refine o_retN S (t := .boolean) rfl (by simp) d3_66 (by decide) (by decide) rfl ?_
        exact ⟨o_si (by rw [hinv, wsF]), rfl⟩
    · exact absurd hc10 (by omega)
  | succ k ih =>
    intro T w i S hw0 hi0 hik hinv
    refine o_iload S rfl d3_7 rfl (q := 9) ?_
    refine o_iloadN S rfl d3_9 rfl (q := 10) ?_
    refine o_icmp S d3_10 (by decide) (q' := 55) (by decide) (q := 13) rfl (hs_ge (a := i.toInt) (b := w.toInt) rfl rfl).1 (hs_ge (a := i.toInt) (b := w.toInt) rfl rfl).2 (fun hc10 => ?_) (fun hc10 => ?_)
    · exact absurd hc10 (by omega)
    · skip
      refine o_aloadN S rfl rfl d3_13 rfl (q := 14) ?_
      refine o_iload S rfl d3_14 rfl (q := 16) ?_
      refine o_baload S A_r0 hi0 (by omega) (v := (xs.getD i.toNatClampNeg 0)) rfl d3_16 rfl (q := 17) ?_
      refine o_bipush S (z := 32) rfl d3_17 rfl (q := 19) ?_
      refine o_icmp S d3_19 (by decide) (q' := 49) (by decide) (q := 22) rfl hs_eq.1 hs_eq.2 (fun hc19 => ?_) (fun hc19 => ?_)
      · skip
        have hi1 : (i + (1 : Int32)).toInt = i.toInt + 1 := by have := c_iadd i 1; have := rng32 (i + (1 : Int32)); have := rng32 w; have : (1 : Int32).toInt = 1 := rfl; omega
        have hin : (i + (1 : Int32)).toNatClampNeg = i.toNatClampNeg + 1 := by have := (o_nat hi0).2; have := (o_nat (j := i + (1 : Int32)) (by omega)).2; omega
        refine o_iinc S rfl (L' := #[.val (.ref r0), .val (.int p1), .val (.int p2), .val (.int w), .val (.int (i + (1 : Int32)))]) rfl d3_49 rfl (q := 52) ?_
        refine o_goto S d3_52 (by decide) (q := 7) (by decide) ?_
        exact ih T w (i + (1 : Int32)) S hw0 (by omega) (by omega) (by rw [hinv, wsF, if_pos (show isW _ from Or.inl hc19), hin])
      · skip
        refine o_aloadN S rfl rfl d3_22 rfl (q := 23) ?_
        refine o_iload S rfl d3_23 rfl (q := 25) ?_
        refine o_baload S A_r0 hi0 (by omega) (v := (xs.getD i.toNatClampNeg 0)) rfl d3_25 rfl (q := 26) ?_
        refine o_bipush S (z := 9) rfl d3_26 rfl (q := 28) ?_
        refine o_icmp S d3_28 (by decide) (q' := 49) (by decide) (q := 31) rfl hs_eq.1 hs_eq.2 (fun hc28 => ?_) (fun hc28 => ?_)
        · skip
          have hi1 : (i + (1 : Int32)).toInt = i.toInt + 1 := by have := c_iadd i 1; have := rng32 (i + (1 : Int32)); have := rng32 w; have : (1 : Int32).toInt = 1 := rfl; omega
          have hin : (i + (1 : Int32)).toNatClampNeg = i.toNatClampNeg + 1 := by have := (o_nat hi0).2; have := (o_nat (j := i + (1 : Int32)) (by omega)).2; omega
          refine o_iinc S rfl (L' := #[.val (.ref r0), .val (.int p1), .val (.int p2), .val (.int w), .val (.int (i + (1 : Int32)))]) rfl d3_49 rfl (q := 52) ?_
          refine o_goto S d3_52 (by decide) (q := 7) (by decide) ?_
          exact ih T w (i + (1 : Int32)) S hw0 (by omega) (by omega) (by rw [hinv, wsF, if_pos (show isW _ from Or.inr (Or.inl hc28)), hin])
        · skip
          refine o_aloadN S rfl rfl d3_31 rfl (q := 32) ?_
          refine o_iload S rfl d3_32 rfl (q := 34) ?_
          refine o_baload S A_r0 hi0 (by omega) (v := (xs.getD i.toNatClampNeg 0)) rfl d3_34 rfl (q := 35) ?_
          refine o_bipush S (z := 13) rfl d3_35 rfl (q := 37) ?_
          refine o_icmp S d3_37 (by decide) (q' := 49) (by decide) (q := 40) rfl hs_eq.1 hs_eq.2 (fun hc37 => ?_) (fun hc37 => ?_)
          · skip
            have hi1 : (i + (1 : Int32)).toInt = i.toInt + 1 := by have := c_iadd i 1; have := rng32 (i + (1 : Int32)); have := rng32 w; have : (1 : Int32).toInt = 1 := rfl; omega
            have hin : (i + (1 : Int32)).toNatClampNeg = i.toNatClampNeg + 1 := by have := (o_nat hi0).2; have := (o_nat (j := i + (1 : Int32)) (by omega)).2; omega
            refine o_iinc S rfl (L' := #[.val (.ref r0), .val (.int p1), .val (.int p2), .val (.int w), .val (.int (i + (1 : Int32)))]) rfl d3_49 rfl (q := 52) ?_
            refine o_goto S d3_52 (by decide) (q := 7) (by decide) ?_
            exact ih T w (i + (1 : Int32)) S hw0 (by omega) (by omega) (by rw [hinv, wsF, if_pos (show isW _ from Or.inr (Or.inr (Or.inl hc37))), hin])
          · skip
            refine o_aloadN S rfl rfl d3_40 rfl (q := 41) ?_
            refine o_iload S rfl d3_41 rfl (q := 43) ?_
            refine o_baload S A_r0 hi0 (by omega) (v := (xs.getD i.toNatClampNeg 0)) rfl d3_43 rfl (q := 44) ?_
            refine o_bipush S (z := 10) rfl d3_44 rfl (q := 46) ?_
            refine o_icmp S d3_46 (by decide) (q' := 55) (by decide) (q := 49) rfl hs_ne.1 hs_ne.2 (fun hc46 => ?_) (fun hc46 => ?_)
            · skip
              refine o_iload S rfl d3_55 rfl (q := 57) ?_
              refine o_iloadN S rfl d3_57 rfl (q := 58) ?_
              refine o_icmp S d3_58 (by decide) (q' := 65) (by decide) (q := 61) rfl hs_ne.1 hs_ne.2 (fun hc58 => ?_) (fun hc58 => ?_)
              · skip
                refine o_iconst S (z := 0) rfl d3_65 rfl (q := 66) ?_
                refine o_retN S (t := .boolean) rfl (by simp) d3_66 (by decide) (by decide) rfl ?_
                exact ⟨o_si (by rw [hinv, wsF, if_neg (fun q : isW _ => q.elim hc19 (fun q => q.elim hc28 (fun q => q.elim hc37 hc46)))]), rfl⟩
              · exact absurd (Decidable.not_not.mp hc58) (o_ne32 (by omega))
            · skip
              have hi1 : (i + (1 : Int32)).toInt = i.toInt + 1 := by have := c_iadd i 1; have := rng32 (i + (1 : Int32)); have := rng32 w; have : (1 : Int32).toInt = 1 := rfl; omega
              have hin : (i + (1 : Int32)).toNatClampNeg = i.toNatClampNeg + 1 := by have := (o_nat hi0).2; have := (o_nat (j := i + (1 : Int32)) (by omega)).2; omega
              refine o_iinc S rfl (L' := #[.val (.ref r0), .val (.int p1), .val (.int p2), .val (.int w), .val (.int (i + (1 : Int32)))]) rfl d3_49 rfl (q := 52) ?_
              refine o_goto S d3_52 (by decide) (q := 7) (by decide) ?_
              exact ih T w (i + (1 : Int32)) S hw0 (by omega) (by omega) (by rw [hinv, wsF, if_pos (show isW _ from Or.inr (Or.inr (Or.inr (Decidable.not_not.mp hc46)))), hin])
set_option maxRecDepth 65536 in
set_option maxHeartbeats 40000000 in
theorem ct_3 (l : Launch) (Z : State) (a0 : Array Value) (hw : ∀ d ∈ tables_1, d.before a0 Z = true) (r0 : Addr) (p1 : Int32) (p2 : Int32) (xs : List Int32) (h0 : Heap) (n0 : Nat) (hn : n0 ≤ h0.size) (A_r0 : IA Z h0 r0 .byte xs) (hq0 : 0 ≤ p1.toInt) (hq1 : 0 ≤ p2.toInt) (hq2 : p1.toInt + p2.toInt ≤ xs.length) : Ct l (⟨"com/example/mince_trees/mincetrees/tree/Utf8", "isWhitespace", "([BII)Z"⟩ : MethodName) prog_65_method_3_code 5 (some .boolean) [] rm_3 Z h0 n0 #[(.ref r0), (.int p1), (.int p2)] (Qp (some (.int (wsF xs p1.toNatClampNeg p2.toNatClampNeg))) h0) := by
  refine o_body pn_3 hn (ef_3 r0 p1 p2) ?_
  intro p e s m below meth c T S
  refine o_iloadN S rfl d3_0 rfl (q := 1) ?_
  refine o_iloadN S rfl d3_1 rfl (q := 2) ?_
  refine o_iadd S d3_2 rfl (q := 3) ?_
  refine o_istoreVN S (L' := fun en => #[.val (.ref r0), .val (.int p1), .val (.int p2), .val (.int en), .unset]) (fun _ => rfl) d3_3 rfl (q := 4) (fun en hen => ?_)
  have hww : en.toInt = p1.toInt + p2.toInt := by rw [hen]; have := c_iadd p1 p2; have := rng32 (p1 + p2); have := A_r0.len; omega
  have hn2 := (o_nat hq1).2
  refine o_iloadN S rfl d3_4 rfl (q := 5) ?_
  refine o_istore S (L' := #[.val (.ref r0), .val (.int p1), .val (.int p2), .val (.int en), .val (.int p1)]) rfl d3_5 rfl (q := 7) ?_
  exact lp_ws l Z a0 hw r0 p1 p2 xs h0 n0 hn A_r0 hq0 hq1 hq2 p2.toNatClampNeg T en p1 S (by omega) hq0 (by omega) rfl
theorem own_off {x v : Int32} (hv : v = ((x &&& (7 : Int32)) % (6 : Int32))) : 0 ≤ v.toInt ∧ v.toInt ≤ 5 := by
  have h1 : (x &&& (7 : Int32)).toInt = x.toInt % 8 := c_mask x 7 3 (by decide) (by decide)
  have h2 := (c_irem (x &&& (7 : Int32)) 6 6 rfl).1 (by omega)
  rw [← hv] at h2
  omega
theorem own_six {v : Int32} (h0 : 0 ≤ v.toInt) (h1 : v.toInt ≤ 5) : ((6 : Int32) - v).toInt = 6 - v.toInt := by
  have := c_isub (6 : Int32) v; have : (6 : Int32).toInt = 6 := rfl; have := rng32 ((6 : Int32) - v); omega
theorem own_len {x o v : Int32} (h0 : 0 ≤ o.toInt) (h1 : o.toInt ≤ 5) (hv : v = ((((x.toUInt32 >>> ((3 : Int32) &&& 31).toUInt32).toInt32) &&& (7 : Int32)) % ((6 : Int32) - o))) : 0 ≤ v.toInt ∧ o.toInt + v.toInt ≤ 5 := by
  have h2 : (((x.toUInt32 >>> ((3 : Int32) &&& 31).toUInt32).toInt32) &&& (7 : Int32)).toInt = ((x.toUInt32 >>> ((3 : Int32) &&& 31).toUInt32).toInt32).toInt % 8 := c_mask _ 7 3 (by decide) (by decide)
  have h3 := own_six h0 h1
  have h4 := (c_iremV (((x.toUInt32 >>> ((3 : Int32) &&& 31).toUInt32).toInt32) &&& (7 : Int32)) ((6 : Int32) - o)).1 (by omega) (by omega)
  rw [← hv] at h4
  omega
theorem fits_in {xs : List Int32} {k o n : Int32} (h1 : o.toInt ≤ k.toInt) (h2 : k.toInt < o.toInt + n.toInt) (h3 : o.toInt + n.toInt ≤ 5) (h0 : 0 ≤ n.toInt) (h4 : 0 ≤ o.toInt) : (f_fits k o n xs = (0 : Int32)) = ¬ isW (xs.getD k.toNatClampNeg 0) := by
  have e : (o + n).toInt = o.toInt + n.toInt := by have := c_iadd o n; have := rng32 (o + n); omega
  unfold f_fits isW
  rw [if_neg (by omega), if_pos (by omega)]
  generalize xs.getD k.toNatClampNeg 0 = y
  by_cases a1 : y = 32
  · simp [a1]
  · by_cases a2 : y = 9
    · simp [a2]
    · by_cases a3 : y = 13
      · simp [a3]
      · by_cases a4 : y = 10
        · simp [a4]
        · simp [a1, a2, a3, a4]
theorem fits_out {xs : List Int32} {k o n : Int32} (h : k.toInt < o.toInt ∨ o.toInt + n.toInt ≤ k.toInt) (h3 : o.toInt + n.toInt ≤ 5) (h0 : 0 ≤ n.toInt) (h4 : 0 ≤ o.toInt) : (f_fits k o n xs = (0 : Int32)) = False := by
  have e : (o + n).toInt = o.toInt + n.toInt := by have := c_iadd o n; have := rng32 (o + n); omega
  unfold f_fits
  rcases h with h | h
  · rw [if_pos h]; simp
  · by_cases q : k.toInt < o.toInt
    · rw [if_pos q]; simp
    · rw [if_neg q, if_neg (by omega)]; simp
set_option maxHeartbeats 8000000 in
theorem plain_1 (x0 x1 x2 x3 x4 o n v : Int32) (h0 : 0 ≤ o.toInt) (h1 : 0 ≤ n.toInt) (h2 : o.toInt + n.toInt ≤ 5) (hv : v = (if (f_fits (0 : Int32) o n [x0, x1, x2, x3, x4]) = (0 : Int32) then (0 : Int32) else (if (f_fits (1 : Int32) o n [x0, x1, x2, x3, x4]) = (0 : Int32) then (0 : Int32) else (if (f_fits (2 : Int32) o n [x0, x1, x2, x3, x4]) = (0 : Int32) then (0 : Int32) else (if (f_fits (3 : Int32) o n [x0, x1, x2, x3, x4]) = (0 : Int32) then (0 : Int32) else (if (f_fits (4 : Int32) o n [x0, x1, x2, x3, x4]) = (0 : Int32) then (0 : Int32) else (1 : Int32))))))) :
    wsF [x0, x1, x2, x3, x4] o.toNatClampNeg n.toNatClampNeg = v := by
  have ho := (o_nat h0).2
  have hn := (o_nat h1).2
  have e : ∀ (k : Int32) (j : Nat), k.toInt = j → k.toNatClampNeg = j → (f_fits k o n [x0, x1, x2, x3, x4] = (0 : Int32)) = (o.toNatClampNeg ≤ j ∧ j < o.toNatClampNeg + n.toNatClampNeg ∧ ¬ isW ([x0, x1, x2, x3, x4].getD j 0)) := by
    intro k j hk hj
    by_cases c1 : o.toNatClampNeg ≤ j ∧ j < o.toNatClampNeg + n.toNatClampNeg
    · rw [fits_in (by omega) (by omega) h2 h1 h0, hj]; simp [c1]
    · rw [fits_out (by omega) h2 h1 h0]; simp; omega
  rw [hv]
  simp only [e 0 0 rfl rfl, e 1 1 rfl rfl, e 2 2 rfl rfl, e 3 3 rfl rfl, e 4 4 rfl rfl]
  generalize o.toNatClampNeg = a at *
  generalize n.toNatClampNeg = b at *
  have ha : a = 0 ∨ a = 1 ∨ a = 2 ∨ a = 3 ∨ a = 4 ∨ a = 5 := by omega
  have hb : b = 0 ∨ b = 1 ∨ b = 2 ∨ b = 3 ∨ b = 4 ∨ b = 5 := by omega
  clear e hv
  rcases ha with rfl | rfl | rfl | rfl | rfl | rfl <;> rcases hb with rfl | rfl | rfl | rfl | rfl | rfl <;> first | (exfalso; omega) | (by_cases w0 : isW x0 <;> by_cases w1 : isW x1 <;> by_cases w2 : isW x2 <;> by_cases w3 : isW x3 <;> by_cases w4 : isW x4 <;> simp [wsF, w0, w1, w2, w3, w4])
theorem pd_0 : parseMethodDescriptor "(IJI)B" = some ⟨[.int, .long, .int], some .byte⟩ := by decide +kernel
theorem pd_1 : parseMethodDescriptor "([BIII)Z" = some ⟨[(.array .byte), .int, .int, .int], some .boolean⟩ := by decide +kernel
theorem pd_2 : parseMethodDescriptor "([BII)Z" = some ⟨[(.array .byte), .int, .int], some .boolean⟩ := by decide +kernel
def Q0 : Option Value → Heap → Prop := fun v _ => v = some (.int 1)
theorem pn_0 : plainFor x = true := plainFor_of_name (by first | (simp [plainName, overriddenIn]; done) | (simp [plainName, overriddenIn, x]; done) | decide +kernel)
theorem ef_0 (p0 : Int32) (q1 : Int64) (p2 : Int32) (m : MethodId) : entryFrame m #[(.int p0), (.long q1), (.int p2)] maxLocals = mkF m 0 #[.val (.int p0), .val (.long q1), .second, .val (.int p2), .unset, .unset, .unset, .unset] [] := by first | (simp [entryFrame, mkF, argsToLocals, Value.category, maxLocals]; done) | rfl
set_option maxRecDepth 65536 in
set_option maxHeartbeats 40000000 in
theorem ct_0 (l : Launch) (Z : State) (a0 : Array Value) (hw : ∀ d ∈ tables_1, d.before a0 Z = true) (ws : List Jvm.Cond) (p0 : Int32) (q1 : Int64) (p2 : Int32) (h0 : Heap) (n0 : Nat) (hn : n0 ≤ h0.size) : Ct l x code maxLocals ret ws room_1 Z h0 n0 #[(.int p0), (.long q1), (.int p2)] (Q0) := by
  refine o_body pn_0 hn (ef_0 p0 q1 p2) ?_
  intro p e s m below meth c T S
  refine o_iconst S (z := 5) rfl at_0 rfl (q := 1) ?_
  refine o_newarr S (cap := 5) (o_wd (i := 0) hw rfl) at_1 rfl (q := 3) (by decide) (by decide) (by decide) (by decide) (by decide) (fun T h2 b1 kA_b1 S ha_b1 g_b1 X A0 => ?_)
  have A_b1 : IA Z h2 b1 .byte ([0, 0, 0, 0, 0]) := IA.new A0 (by decide) rfl rfl
  refine o_astore S (L' := #[.val (.int p0), .val (.long q1), .second, .val (.int p2), .val (.ref b1), .unset, .unset, .unset]) rfl rfl at_3 rfl (q := 5) ?_
  refine o_aload S rfl rfl at_5 rfl (q := 7) ?_
  refine o_iconst S (z := 0) rfl at_7 rfl (q := 8) ?_
  refine o_iloadN S rfl at_8 rfl (q := 9) ?_
  refine o_lloadN S rfl at_9 rfl (q := 10) ?_
  refine o_iconst S (z := 0) rfl at_10 rfl (q := 11) ?_
  refine o_callS0 S (W := 2) (argsL := [(.int p0), (.long q1), (.int (0 : Int32))]) (rest := [(.int (0 : Int32)), (.ref b1)]) (o_wd (i := 1) hw rfl) (o_wd (i := 2) hw rfl) (o_wd (i := 3) hw rfl) (o_wd (i := 4) hw rfl) (by decide) (ct_1 l Z a0 hw p0 q1 (0 : Int32) h2 n0 (o_n0 S)) (by decide) (by decide) rfl rfl pd_0 rfl (Nat.le_of_eq rfl) at_11 rfl (q := 14) (by decide) (by decide) rfl (st' := [(.int (f_pick p0 q1 (0 : Int32))), (.int (0 : Int32)), (.ref b1)]) (fun T S => ?_)
  refine o_bastore S (y := (f_pick p0 q1 (0 : Int32))) (ys := [(f_pick p0 q1 (0 : Int32)), 0, 0, 0, 0]) A_b1 (by decide) (by show (0 : Int) < 5; decide) g_b1 (pick_rng _ _ _) rfl at_14 rfl (q := 15) (fun T h3 S W A_b1 => ?_)
  refine o_aload S rfl rfl at_15 rfl (q := 17) ?_
  refine o_iconst S (z := 1) rfl at_17 rfl (q := 18) ?_
  refine o_iloadN S rfl at_18 rfl (q := 19) ?_
  refine o_lloadN S rfl at_19 rfl (q := 20) ?_
  refine o_iconst S (z := 1) rfl at_20 rfl (q := 21) ?_
  refine o_callS0 S (W := 2) (argsL := [(.int p0), (.long q1), (.int (1 : Int32))]) (rest := [(.int (1 : Int32)), (.ref b1)]) (o_wd (i := 1) hw rfl) (o_wd (i := 2) hw rfl) (o_wd (i := 3) hw rfl) (o_wd (i := 4) hw rfl) (by decide) (ct_1 l Z a0 hw p0 q1 (1 : Int32) h3 n0 (o_n0 S)) (by decide) (by decide) rfl rfl pd_0 rfl (Nat.le_of_eq rfl) at_21 rfl (q := 24) (by decide) (by decide) rfl (st' := [(.int (f_pick p0 q1 (1 : Int32))), (.int (1 : Int32)), (.ref b1)]) (fun T S => ?_)
  refine o_bastore S (y := (f_pick p0 q1 (1 : Int32))) (ys := [(f_pick p0 q1 (0 : Int32)), (f_pick p0 q1 (1 : Int32)), 0, 0, 0]) A_b1 (by decide) (by show (1 : Int) < 5; decide) g_b1 (pick_rng _ _ _) rfl at_24 rfl (q := 25) (fun T h4 S W A_b1 => ?_)
  refine o_aload S rfl rfl at_25 rfl (q := 27) ?_
  refine o_iconst S (z := 2) rfl at_27 rfl (q := 28) ?_
  refine o_iloadN S rfl at_28 rfl (q := 29) ?_
  refine o_lloadN S rfl at_29 rfl (q := 30) ?_
  refine o_iconst S (z := 2) rfl at_30 rfl (q := 31) ?_
  refine o_callS0 S (W := 2) (argsL := [(.int p0), (.long q1), (.int (2 : Int32))]) (rest := [(.int (2 : Int32)), (.ref b1)]) (o_wd (i := 1) hw rfl) (o_wd (i := 2) hw rfl) (o_wd (i := 3) hw rfl) (o_wd (i := 4) hw rfl) (by decide) (ct_1 l Z a0 hw p0 q1 (2 : Int32) h4 n0 (o_n0 S)) (by decide) (by decide) rfl rfl pd_0 rfl (Nat.le_of_eq rfl) at_31 rfl (q := 34) (by decide) (by decide) rfl (st' := [(.int (f_pick p0 q1 (2 : Int32))), (.int (2 : Int32)), (.ref b1)]) (fun T S => ?_)
  refine o_bastore S (y := (f_pick p0 q1 (2 : Int32))) (ys := [(f_pick p0 q1 (0 : Int32)), (f_pick p0 q1 (1 : Int32)), (f_pick p0 q1 (2 : Int32)), 0, 0]) A_b1 (by decide) (by show (2 : Int) < 5; decide) g_b1 (pick_rng _ _ _) rfl at_34 rfl (q := 35) (fun T h5 S W A_b1 => ?_)
  refine o_aload S rfl rfl at_35 rfl (q := 37) ?_
  refine o_iconst S (z := 3) rfl at_37 rfl (q := 38) ?_
  refine o_iloadN S rfl at_38 rfl (q := 39) ?_
  refine o_lloadN S rfl at_39 rfl (q := 40) ?_
  refine o_iconst S (z := 3) rfl at_40 rfl (q := 41) ?_
  refine o_callS0 S (W := 2) (argsL := [(.int p0), (.long q1), (.int (3 : Int32))]) (rest := [(.int (3 : Int32)), (.ref b1)]) (o_wd (i := 1) hw rfl) (o_wd (i := 2) hw rfl) (o_wd (i := 3) hw rfl) (o_wd (i := 4) hw rfl) (by decide) (ct_1 l Z a0 hw p0 q1 (3 : Int32) h5 n0 (o_n0 S)) (by decide) (by decide) rfl rfl pd_0 rfl (Nat.le_of_eq rfl) at_41 rfl (q := 44) (by decide) (by decide) rfl (st' := [(.int (f_pick p0 q1 (3 : Int32))), (.int (3 : Int32)), (.ref b1)]) (fun T S => ?_)
  refine o_bastore S (y := (f_pick p0 q1 (3 : Int32))) (ys := [(f_pick p0 q1 (0 : Int32)), (f_pick p0 q1 (1 : Int32)), (f_pick p0 q1 (2 : Int32)), (f_pick p0 q1 (3 : Int32)), 0]) A_b1 (by decide) (by show (3 : Int) < 5; decide) g_b1 (pick_rng _ _ _) rfl at_44 rfl (q := 45) (fun T h6 S W A_b1 => ?_)
  refine o_aload S rfl rfl at_45 rfl (q := 47) ?_
  refine o_iconst S (z := 4) rfl at_47 rfl (q := 48) ?_
  refine o_iloadN S rfl at_48 rfl (q := 49) ?_
  refine o_lloadN S rfl at_49 rfl (q := 50) ?_
  refine o_iconst S (z := 4) rfl at_50 rfl (q := 51) ?_
  refine o_callS0 S (W := 2) (argsL := [(.int p0), (.long q1), (.int (4 : Int32))]) (rest := [(.int (4 : Int32)), (.ref b1)]) (o_wd (i := 1) hw rfl) (o_wd (i := 2) hw rfl) (o_wd (i := 3) hw rfl) (o_wd (i := 4) hw rfl) (by decide) (ct_1 l Z a0 hw p0 q1 (4 : Int32) h6 n0 (o_n0 S)) (by decide) (by decide) rfl rfl pd_0 rfl (Nat.le_of_eq rfl) at_51 rfl (q := 54) (by decide) (by decide) rfl (st' := [(.int (f_pick p0 q1 (4 : Int32))), (.int (4 : Int32)), (.ref b1)]) (fun T S => ?_)
  refine o_bastore S (y := (f_pick p0 q1 (4 : Int32))) (ys := [(f_pick p0 q1 (0 : Int32)), (f_pick p0 q1 (1 : Int32)), (f_pick p0 q1 (2 : Int32)), (f_pick p0 q1 (3 : Int32)), (f_pick p0 q1 (4 : Int32))]) A_b1 (by decide) (by show (4 : Int) < 5; decide) g_b1 (pick_rng _ _ _) rfl at_54 rfl (q := 55) (fun T h7 S W A_b1 => ?_)
  refine o_iloadN S rfl at_55 rfl (q := 56) ?_
  refine o_bipush S (z := 7) rfl at_56 rfl (q := 58) ?_
  refine o_iand S at_58 rfl (q := 59) ?_
  refine o_bipush S (z := 6) rfl at_59 rfl (q := 61) ?_
  refine o_irem S (by decide) at_61 rfl (q := 62) ?_
  refine o_istoreV S (L' := fun v8 => #[.val (.int p0), .val (.long q1), .second, .val (.int p2), .val (.ref b1), .val (.int v8), .unset, .unset]) (fun _ => rfl) at_62 rfl (q := 64) (fun v8 hv8 => ?_)
  obtain ⟨ho0, ho1⟩ := own_off hv8
  refine o_iloadN S rfl at_64 rfl (q := 65) ?_
  refine o_iconst S (z := 3) rfl at_65 rfl (q := 66) ?_
  refine o_iushr S at_66 rfl (q := 67) ?_
  refine o_bipush S (z := 7) rfl at_67 rfl (q := 69) ?_
  refine o_iand S at_69 rfl (q := 70) ?_
  refine o_bipush S (z := 6) rfl at_70 rfl (q := 72) ?_
  refine o_iload S rfl at_72 rfl (q := 74) ?_
  refine o_isub S at_74 rfl (q := 75) ?_
  refine o_irem S (o_ne32 (by rw [own_six ho0 ho1]; show _ ≠ (0 : Int); omega)) at_75 rfl (q := 76) ?_
  refine o_istoreV S (L' := fun v9 => #[.val (.int p0), .val (.long q1), .second, .val (.int p2), .val (.ref b1), .val (.int v8), .val (.int v9), .unset]) (fun _ => rfl) at_76 rfl (q := 78) (fun v9 hv9 => ?_)
  obtain ⟨hl0, hl1⟩ := own_len ho0 ho1 hv9
  refine o_aload S rfl rfl at_78 rfl (q := 80) ?_
  refine o_iconst S (z := 0) rfl at_80 rfl (q := 81) ?_
  refine o_iload S rfl at_81 rfl (q := 83) ?_
  refine o_iload S rfl at_83 rfl (q := 85) ?_
  refine o_callS0 S (W := 0) (argsL := [(.ref b1), (.int (0 : Int32)), (.int v8), (.int v9)]) (rest := []) (o_wd (i := 5) hw rfl) (o_wd (i := 6) hw rfl) (o_wd (i := 3) hw rfl) (o_wd (i := 7) hw rfl) (by decide) (ct_2 l Z a0 hw b1 (0 : Int32) v8 v9 ([(f_pick p0 q1 (0 : Int32)), (f_pick p0 q1 (1 : Int32)), (f_pick p0 q1 (2 : Int32)), (f_pick p0 q1 (3 : Int32)), (f_pick p0 q1 (4 : Int32))]) h7 n0 (o_n0 S) A_b1 (by decide) (by show (0 : Int) < 5; decide)) (by decide) (by decide) rfl rfl pd_1 rfl (Nat.le_of_eq rfl) at_85 rfl (q := 88) (by decide) (by decide) rfl (st' := [(.int (f_fits (0 : Int32) v8 v9 ([(f_pick p0 q1 (0 : Int32)), (f_pick p0 q1 (1 : Int32)), (f_pick p0 q1 (2 : Int32)), (f_pick p0 q1 (3 : Int32)), (f_pick p0 q1 (4 : Int32))])))]) (fun T S => ?_)
  refine o_cutS S (G := fun T => ∀ (v10 : Int32), v10 = (if (f_fits (0 : Int32) v8 v9 ([(f_pick p0 q1 (0 : Int32)), (f_pick p0 q1 (1 : Int32)), (f_pick p0 q1 (2 : Int32)), (f_pick p0 q1 (3 : Int32)), (f_pick p0 q1 (4 : Int32))])) = (0 : Int32) then (0 : Int32) else (if (f_fits (1 : Int32) v8 v9 ([(f_pick p0 q1 (0 : Int32)), (f_pick p0 q1 (1 : Int32)), (f_pick p0 q1 (2 : Int32)), (f_pick p0 q1 (3 : Int32)), (f_pick p0 q1 (4 : Int32))])) = (0 : Int32) then (0 : Int32) else (if (f_fits (2 : Int32) v8 v9 ([(f_pick p0 q1 (0 : Int32)), (f_pick p0 q1 (1 : Int32)), (f_pick p0 q1 (2 : Int32)), (f_pick p0 q1 (3 : Int32)), (f_pick p0 q1 (4 : Int32))])) = (0 : Int32) then (0 : Int32) else (if (f_fits (3 : Int32) v8 v9 ([(f_pick p0 q1 (0 : Int32)), (f_pick p0 q1 (1 : Int32)), (f_pick p0 q1 (2 : Int32)), (f_pick p0 q1 (3 : Int32)), (f_pick p0 q1 (4 : Int32))])) = (0 : Int32) then (0 : Int32) else (if (f_fits (4 : Int32) v8 v9 ([(f_pick p0 q1 (0 : Int32)), (f_pick p0 q1 (1 : Int32)), (f_pick p0 q1 (2 : Int32)), (f_pick p0 q1 (3 : Int32)), (f_pick p0 q1 (4 : Int32))])) = (0 : Int32) then (0 : Int32) else (1 : Int32)))))) → Wp p e below (Po s n0 room_1 Q0) T (mkF m 148 #[.val (.int p0), .val (.long q1), .second, .val (.int p2), .val (.ref b1), .val (.int v8), .val (.int v9), .unset] [(.int v10)])) (fun k88 => ?_) (fun T S v10 hv10 => ?_)
  · skip
    refine o_if S at_88 (by decide) (q' := 147) (by decide) (q := 91) rfl hs_eq.1 hs_eq.2 (fun hc88 => ?_) (fun hc88 => ?_)
    · skip
      refine o_iconst S (z := 0) rfl at_147 rfl (q := 148) ?_
      exact k88 _ S _ (by rw [if_pos hc88])
    · skip
      refine o_aload S rfl rfl at_91 rfl (q := 93) ?_
      refine o_iconst S (z := 1) rfl at_93 rfl (q := 94) ?_
      refine o_iload S rfl at_94 rfl (q := 96) ?_
      refine o_iload S rfl at_96 rfl (q := 98) ?_
      refine o_callS0 S (W := 0) (argsL := [(.ref b1), (.int (1 : Int32)), (.int v8), (.int v9)]) (rest := []) (o_wd (i := 5) hw rfl) (o_wd (i := 6) hw rfl) (o_wd (i := 3) hw rfl) (o_wd (i := 7) hw rfl) (by decide) (ct_2 l Z a0 hw b1 (1 : Int32) v8 v9 ([(f_pick p0 q1 (0 : Int32)), (f_pick p0 q1 (1 : Int32)), (f_pick p0 q1 (2 : Int32)), (f_pick p0 q1 (3 : Int32)), (f_pick p0 q1 (4 : Int32))]) h7 n0 (o_n0 S) A_b1 (by decide) (by show (1 : Int) < 5; decide)) (by decide) (by decide) rfl rfl pd_1 rfl (Nat.le_of_eq rfl) at_98 rfl (q := 101) (by decide) (by decide) rfl (st' := [(.int (f_fits (1 : Int32) v8 v9 ([(f_pick p0 q1 (0 : Int32)), (f_pick p0 q1 (1 : Int32)), (f_pick p0 q1 (2 : Int32)), (f_pick p0 q1 (3 : Int32)), (f_pick p0 q1 (4 : Int32))])))]) (fun T S => ?_)
      refine o_if S at_101 (by decide) (q' := 147) (by decide) (q := 104) rfl hs_eq.1 hs_eq.2 (fun hc101 => ?_) (fun hc101 => ?_)
      · skip
        refine o_iconst S (z := 0) rfl at_147 rfl (q := 148) ?_
        exact k88 _ S _ (by rw [if_neg hc88, if_pos hc101])
      · skip
        refine o_aload S rfl rfl at_104 rfl (q := 106) ?_
        refine o_iconst S (z := 2) rfl at_106 rfl (q := 107) ?_
        refine o_iload S rfl at_107 rfl (q := 109) ?_
        refine o_iload S rfl at_109 rfl (q := 111) ?_
        refine o_callS0 S (W := 0) (argsL := [(.ref b1), (.int (2 : Int32)), (.int v8), (.int v9)]) (rest := []) (o_wd (i := 5) hw rfl) (o_wd (i := 6) hw rfl) (o_wd (i := 3) hw rfl) (o_wd (i := 7) hw rfl) (by decide) (ct_2 l Z a0 hw b1 (2 : Int32) v8 v9 ([(f_pick p0 q1 (0 : Int32)), (f_pick p0 q1 (1 : Int32)), (f_pick p0 q1 (2 : Int32)), (f_pick p0 q1 (3 : Int32)), (f_pick p0 q1 (4 : Int32))]) h7 n0 (o_n0 S) A_b1 (by decide) (by show (2 : Int) < 5; decide)) (by decide) (by decide) rfl rfl pd_1 rfl (Nat.le_of_eq rfl) at_111 rfl (q := 114) (by decide) (by decide) rfl (st' := [(.int (f_fits (2 : Int32) v8 v9 ([(f_pick p0 q1 (0 : Int32)), (f_pick p0 q1 (1 : Int32)), (f_pick p0 q1 (2 : Int32)), (f_pick p0 q1 (3 : Int32)), (f_pick p0 q1 (4 : Int32))])))]) (fun T S => ?_)
        refine o_if S at_114 (by decide) (q' := 147) (by decide) (q := 117) rfl hs_eq.1 hs_eq.2 (fun hc114 => ?_) (fun hc114 => ?_)
        · skip
          refine o_iconst S (z := 0) rfl at_147 rfl (q := 148) ?_
          exact k88 _ S _ (by rw [if_neg hc88, if_neg hc101, if_pos hc114])
        · skip
          refine o_aload S rfl rfl at_117 rfl (q := 119) ?_
          refine o_iconst S (z := 3) rfl at_119 rfl (q := 120) ?_
          refine o_iload S rfl at_120 rfl (q := 122) ?_
          refine o_iload S rfl at_122 rfl (q := 124) ?_
          refine o_callS0 S (W := 0) (argsL := [(.ref b1), (.int (3 : Int32)), (.int v8), (.int v9)]) (rest := []) (o_wd (i := 5) hw rfl) (o_wd (i := 6) hw rfl) (o_wd (i := 3) hw rfl) (o_wd (i := 7) hw rfl) (by decide) (ct_2 l Z a0 hw b1 (3 : Int32) v8 v9 ([(f_pick p0 q1 (0 : Int32)), (f_pick p0 q1 (1 : Int32)), (f_pick p0 q1 (2 : Int32)), (f_pick p0 q1 (3 : Int32)), (f_pick p0 q1 (4 : Int32))]) h7 n0 (o_n0 S) A_b1 (by decide) (by show (3 : Int) < 5; decide)) (by decide) (by decide) rfl rfl pd_1 rfl (Nat.le_of_eq rfl) at_124 rfl (q := 127) (by decide) (by decide) rfl (st' := [(.int (f_fits (3 : Int32) v8 v9 ([(f_pick p0 q1 (0 : Int32)), (f_pick p0 q1 (1 : Int32)), (f_pick p0 q1 (2 : Int32)), (f_pick p0 q1 (3 : Int32)), (f_pick p0 q1 (4 : Int32))])))]) (fun T S => ?_)
          refine o_if S at_127 (by decide) (q' := 147) (by decide) (q := 130) rfl hs_eq.1 hs_eq.2 (fun hc127 => ?_) (fun hc127 => ?_)
          · skip
            refine o_iconst S (z := 0) rfl at_147 rfl (q := 148) ?_
            exact k88 _ S _ (by rw [if_neg hc88, if_neg hc101, if_neg hc114, if_pos hc127])
          · skip
            refine o_aload S rfl rfl at_130 rfl (q := 132) ?_
            refine o_iconst S (z := 4) rfl at_132 rfl (q := 133) ?_
            refine o_iload S rfl at_133 rfl (q := 135) ?_
            refine o_iload S rfl at_135 rfl (q := 137) ?_
            refine o_callS0 S (W := 0) (argsL := [(.ref b1), (.int (4 : Int32)), (.int v8), (.int v9)]) (rest := []) (o_wd (i := 5) hw rfl) (o_wd (i := 6) hw rfl) (o_wd (i := 3) hw rfl) (o_wd (i := 7) hw rfl) (by decide) (ct_2 l Z a0 hw b1 (4 : Int32) v8 v9 ([(f_pick p0 q1 (0 : Int32)), (f_pick p0 q1 (1 : Int32)), (f_pick p0 q1 (2 : Int32)), (f_pick p0 q1 (3 : Int32)), (f_pick p0 q1 (4 : Int32))]) h7 n0 (o_n0 S) A_b1 (by decide) (by show (4 : Int) < 5; decide)) (by decide) (by decide) rfl rfl pd_1 rfl (Nat.le_of_eq rfl) at_137 rfl (q := 140) (by decide) (by decide) rfl (st' := [(.int (f_fits (4 : Int32) v8 v9 ([(f_pick p0 q1 (0 : Int32)), (f_pick p0 q1 (1 : Int32)), (f_pick p0 q1 (2 : Int32)), (f_pick p0 q1 (3 : Int32)), (f_pick p0 q1 (4 : Int32))])))]) (fun T S => ?_)
            refine o_if S at_140 (by decide) (q' := 147) (by decide) (q := 143) rfl hs_eq.1 hs_eq.2 (fun hc140 => ?_) (fun hc140 => ?_)
            · skip
              refine o_iconst S (z := 0) rfl at_147 rfl (q := 148) ?_
              exact k88 _ S _ (by rw [if_neg hc88, if_neg hc101, if_neg hc114, if_neg hc127, if_pos hc140])
            · skip
              refine o_iconst S (z := 1) rfl at_143 rfl (q := 144) ?_
              refine o_goto S at_144 (by decide) (q := 148) (by decide) ?_
              exact k88 _ S _ (by rw [if_neg hc88, if_neg hc101, if_neg hc114, if_neg hc127, if_neg hc140])
  refine o_istore S (L' := #[.val (.int p0), .val (.long q1), .second, .val (.int p2), .val (.ref b1), .val (.int v8), .val (.int v9), .val (.int v10)]) rfl at_148 rfl (q := 150) ?_
  refine o_aload S rfl rfl at_150 rfl (q := 152) ?_
  refine o_iload S rfl at_152 rfl (q := 154) ?_
  refine o_iload S rfl at_154 rfl (q := 156) ?_
  refine o_callS0 S (W := 0) (argsL := [(.ref b1), (.int v8), (.int v9)]) (rest := []) (o_wd (i := 8) hw rfl) (o_wd (i := 9) hw rfl) (o_wd (i := 10) hw rfl) (o_wd (i := 11) hw rfl) (by decide) (ct_3 l Z a0 hw b1 v8 v9 ([(f_pick p0 q1 (0 : Int32)), (f_pick p0 q1 (1 : Int32)), (f_pick p0 q1 (2 : Int32)), (f_pick p0 q1 (3 : Int32)), (f_pick p0 q1 (4 : Int32))]) h7 n0 (o_n0 S) A_b1 ho0 hl0 (by show _ ≤ (5 : Int); omega)) (by decide) (by decide) rfl rfl pd_2 rfl (Nat.le_of_eq rfl) at_156 rfl (q := 159) (by decide) (by decide) rfl (st' := [(.int (wsF ([(f_pick p0 q1 (0 : Int32)), (f_pick p0 q1 (1 : Int32)), (f_pick p0 q1 (2 : Int32)), (f_pick p0 q1 (3 : Int32)), (f_pick p0 q1 (4 : Int32))]) v8.toNatClampNeg v9.toNatClampNeg))]) (fun T S => ?_)
  refine o_iload S rfl at_159 rfl (q := 161) ?_
  refine o_icmp S at_161 (by decide) (q' := 168) (by decide) (q := 164) rfl hs_ne.1 hs_ne.2 (fun hc161 => ?_) (fun hc161 => ?_)
  · skip
    refine o_iconst S (z := 0) rfl at_168 rfl (q := 169) ?_
    refine o_retN S (t := .boolean) rfl (by simp) at_169 (by decide) (by decide) rfl ?_
    exact absurd (plain_1 _ _ _ _ _ _ _ _ ho0 hl0 hl1 hv10) hc161
  · skip
    refine o_iconst S (z := 1) rfl at_164 rfl (q := 165) ?_
    refine o_goto S at_165 (by decide) (q := 169) (by decide) ?_
    refine o_retN S (t := .boolean) rfl (by simp) at_169 (by decide) (by decide) rfl ?_
    rfl
set_option maxRecDepth 65536 in
set_option maxHeartbeats 40000000 in
theorem comes_1 {Post : Tables → Env → Array Value → State → Outcome → State → Prop} (hpost : ∀ tb e args s v u, (limb_1_1.after args s (.returned v) u = true ∧ limb_1_2.after args s (.returned v) u = true ∧ True) → FrameEnd s (.returned v) u (Jvm.fieldLocs frame_1_writes args s ++ Jvm.arrayLocs frame_1_arrays args s ++ Jvm.staticLocs frame_1_statics s) 16 128 → Post tb e args s (.returned v) u) :
    ArmFor flags0 classFile x code maxLocals ret World_1 tables_1 room_1 Calls_1 rest_1 Pre_1 Post := by
  intro l hfl _ _ p e ha hc hk s m args below hf hA hF happ hP
  obtain ⟨hcalls, hrest, hpre⟩ := hP
  obtain ⟨-, -, -, hnamed, -, -, -, hat⟩ := (Spec.applies_iff hf).mp happ
  obtain ⟨hg, hn⟩ := and_e (Cond.before_iff.mp (show (Jvm.Cond.and given_1 narrow_1).before args s = true from hpre))
  obtain ⟨g0, g⟩ := and_e hg
  obtain ⟨w0, w1, w2, rfl⟩ : ∃ w0 w1 w2 : Value, args = #[w0, w1, w2] := by
    have hs : args.size = 3 := by simpa [Cond.value, given_1] using g0
    obtain ⟨L⟩ := args
    match L, hs with
    | [w0, w1, w2], _ => exact ⟨w0, w1, w2, rfl⟩
  have hw := fun d (hd : d ∈ tables_1) => atoms_spec (ws := Jvm.Cond.code x code maxLocals ret :: tables_1) hat d (List.mem_cons_of_mem _ hd)
  obtain ⟨g1, gr1⟩ := and_e g
  obtain ⟨i0, ei0⟩ := is_v g1
  obtain rfl : w0 = (.int i0) := Option.some.inj ei0
  obtain ⟨g2, gr2⟩ := and_e gr1
  obtain ⟨i1, ei1⟩ := isL_v g2
  obtain rfl : w1 = (.long i1) := Option.some.inj ei1
  obtain ⟨i2, ei2⟩ := is_v gr2
  obtain rfl : w2 = (.int i2) := Option.some.inj ei2
  obtain ⟨n, o, h1, h2, h3, _, L, rfl, ⟨rfl, N⟩, hq⟩ := ct_0 l s _ hw tables_1 i0 i1 i2 s.heap s.heap.size (Nat.le_refl _) p e ha hc hk s m _ below hf ((Spec.applies_iff_loose hf).mp happ).1 ⟨rfl, State.Warmed39.refl s, rfl⟩ trivial
  refine ⟨n, _, h1, h2, h3, hpost _ _ _ _ _ _ ⟨Cond.after_iff.mpr rfl, Cond.after_iff.mpr (eq_i res_at (Term.int_eval (1)) rfl), trivial⟩ ⟨hq.1, hq.2.1, (hq.2.2.sift fun y hy => Or.inr (N y hy)).mono (by decide) (by decide)⟩⟩
theorem main_1_1 : Claimed_1_1 := comes_1 fun _ _ _ _ _ _ h hF => ⟨h.1, hF⟩
theorem main_1_2 : Claimed_1_2 := comes_1 fun _ _ _ _ _ _ h hF => ⟨h.2.1, hF⟩
end Jvm.Pilot.@@N@@
namespace Jvm.Pilot.@@N@@
open Jvm Jvm.ClassFile Sem Op Lib Jvm.Free Jvm.Stand Jvm.Pilot.@@N@@.Jvm.D
/-! MADE BY PROGRAM (witnessworld.py) out of the Statement's table words and the real class files: 9 classes; the members and pool entries that the words name. The judged class is class 1, her method 1. -/
namespace start1
open Jvm.ClassFile
def u (s : String) : CpInfo := .utf8 (stringToUtf16 s)
/-- a pool by its gaps: so many unusable entries, then the entry; so many at the end -/
def gap : Nat → List CpInfo → List CpInfo
  | 0, r => r
  | n + 1, r => .unusable :: gap n r
def poolList (es : List (Nat × CpInfo)) (last : Nat) : List CpInfo := es.foldr (fun e r => gap e.1 (e.2 :: r)) (gap last [])
def pool (es : List (Nat × CpInfo)) (last : Nat) : Array CpInfo := ⟨poolList es last⟩
def fileOf (pool : Array CpInfo) (this : Nat) (attrs : Array Attribute := #[]) (ms : Array MethodInfo := #[]) (fl : Nat := 33) (sup : Nat := 0) (ifs : Array Nat := #[]) (fds : Array FieldInfo := #[]) : ClassFile where
  minorVersion := 0
  majorVersion := 65
  constantPool := pool
  accessFlags := fl
  thisClass := this
  superClass := sup
  interfaces := ifs
  fields := fds
  methods := ms
  attributes := attrs
def plain (name : String) (sup : Option ClassId) : Class where
  name := name
  kind := .ordinary
  loader := none
  accessFlags := 33
  super := sup
  interfaces := #[]
  cf := none
  fields := #[]
  methods := #[]
  instanceTypes := #[]
  staticTypes := #[]
  resolved := #[]
  callSites := []
  init := .initialized
  statics := none
  mirror := none

def pool0 : Array CpInfo := pool [(5, u "<init>"), (0, u "()V"), (1, .class_ 10), (1, u "java/lang/Object")] 113

def k0m0 : Method := { name := "<init>", desc := "()V", sig := { parameters := [], returnType := none }, accessFlags := 1, code := none }
/-- java/lang/Object -/
def k0 : Class := { plain "java/lang/Object" none with
  accessFlags := 33
  interfaces := #[]
  cf := some (fileOf pool0 8 #[] #[{ accessFlags := 1, nameIndex := 5, descriptorIndex := 6, attributes := #[] }] 33 0 #[] #[])
  fields := #[]
  methods := #[k0m0]
  instanceTypes := #[]
  staticTypes := #[]
  resolved := Array.replicate 124 none
  statics := none }

def pool1 : Array CpInfo := pool [(2, .class_ 4), (1, u "java/lang/Object"), (0, u "<init>"), (0, u "()V"), (0, .methodref 8 9), (0, .class_ 10), (0, .nameAndType 11 12), (0, u "com/example/mince_trees/mincetrees/tree/Utf8IsWhitespacePinLaw"), (0, u "pick"), (0, u "(IJI)B"), (0, .methodref 8 14), (0, .nameAndType 15 16), (0, u "fits"), (0, u "([BIII)Z"), (0, .methodref 18 19), (0, .class_ 20), (0, .nameAndType 21 22), (0, u "com/example/mince_trees/mincetrees/tree/Utf8"), (0, u "isWhitespace"), (0, u "([BII)Z"), (2, u "law"), (0, u "(IJI)Z")] 5

def k1m0 : Method := { name := "<init>", desc := "()V", sig := { parameters := [], returnType := none }, accessFlags := 1, code := none }
def k1c1 : Code := { maxStack := 6, maxLocals := 8, code := code, exceptionTable := #[], attributes := #[] }
def k1m1 : Method := { name := "law", desc := "(IJI)Z", sig := { parameters := [.int, .long, .int], returnType := some .boolean }, accessFlags := 9, code := some k1c1 }
def k1c2 : Code := { maxStack := 4, maxLocals := 5, code := method_3_code, exceptionTable := #[], attributes := #[] }
def k1m2 : Method := { name := "pick", desc := "(IJI)B", sig := { parameters := [.int, .long, .int], returnType := some .byte }, accessFlags := 10, code := some k1c2 }
def k1c3 : Code := { maxStack := 3, maxLocals := 5, code := method_4_code, exceptionTable := #[], attributes := #[] }
def k1m3 : Method := { name := "fits", desc := "([BIII)Z", sig := { parameters := [(.array .byte), .int, .int, .int], returnType := some .boolean }, accessFlags := 10, code := some k1c3 }
/-- com/example/mince_trees/mincetrees/tree/Utf8IsWhitespacePinLaw -/
def k1 : Class := { plain "com/example/mince_trees/mincetrees/tree/Utf8IsWhitespacePinLaw" (some 0) with
  accessFlags := 49
  interfaces := #[]
  cf := some (fileOf pool1 8 #[] #[{ accessFlags := 1, nameIndex := 5, descriptorIndex := 6, attributes := #[] }, { accessFlags := 9, nameIndex := 25, descriptorIndex := 26, attributes := #[] }, { accessFlags := 10, nameIndex := 11, descriptorIndex := 12, attributes := #[] }, { accessFlags := 10, nameIndex := 15, descriptorIndex := 16, attributes := #[] }] 49 2 #[] #[])
  fields := #[]
  methods := #[k1m0, k1m1, k1m2, k1m3]
  instanceTypes := #[]
  staticTypes := #[]
  resolved := Array.replicate 32 none
  statics := none }

def pool2 : Array CpInfo := pool [(2, .class_ 4), (1, u "java/lang/Object"), (0, u "<init>"), (0, u "()V"), (1, .class_ 9), (0, u "com/example/mince_trees/mincetrees/tree/Utf8"), (0, u "MAX_BYTES_PER_CHARACTER"), (0, u "I"), (7, u "isWhitespace"), (0, u "([BII)Z")] 2

def k2m0 : Method := { name := "<init>", desc := "()V", sig := { parameters := [], returnType := none }, accessFlags := 2, code := none }
def k2c1 : Code := { maxStack := 2, maxLocals := 5, code := prog_65_method_3_code, exceptionTable := #[], attributes := #[] }
def k2m1 : Method := { name := "isWhitespace", desc := "([BII)Z", sig := { parameters := [(.array .byte), .int, .int], returnType := some .boolean }, accessFlags := 9, code := some k2c1 }
/-- com/example/mince_trees/mincetrees/tree/Utf8 -/
def k2 : Class := { plain "com/example/mince_trees/mincetrees/tree/Utf8" (some 0) with
  accessFlags := 49
  interfaces := #[]
  cf := some (fileOf pool2 8 #[] #[{ accessFlags := 2, nameIndex := 5, descriptorIndex := 6, attributes := #[] }, { accessFlags := 9, nameIndex := 19, descriptorIndex := 20, attributes := #[] }] 49 2 #[] #[{ accessFlags := 25, nameIndex := 10, descriptorIndex := 11, attributes := #[] }])
  fields := #[{ name := "MAX_BYTES_PER_CHARACTER", type := .int, accessFlags := 25, slot := 0, constantValue := 0 }]
  methods := #[k2m0, k2m1]
  instanceTypes := #[]
  staticTypes := #[.int]
  resolved := Array.replicate 23 none
  statics := none }

def pool3 : Array CpInfo := pool [(1, u "java/lang/Cloneable"), (0, .class_ 1), (0, u "java/lang/Object"), (0, .class_ 3)] 3

/-- java/lang/Cloneable -/
def k3 : Class := { plain "java/lang/Cloneable" (some 0) with
  accessFlags := 1537
  interfaces := #[]
  cf := some (fileOf pool3 2 #[] #[] 1537 4 #[] #[])
  fields := #[]
  methods := #[]
  instanceTypes := #[]
  staticTypes := #[]
  resolved := Array.replicate 8 none
  statics := none }

def pool4 : Array CpInfo := pool [(1, u "java/io/Serializable"), (0, .class_ 1), (0, u "java/lang/Object"), (0, .class_ 3)] 3

/-- java/io/Serializable -/
def k4 : Class := { plain "java/io/Serializable" (some 0) with
  accessFlags := 1537
  interfaces := #[]
  cf := some (fileOf pool4 2 #[] #[] 1537 4 #[] #[])
  fields := #[]
  methods := #[]
  instanceTypes := #[]
  staticTypes := #[]
  resolved := Array.replicate 8 none
  statics := none }

/-- the primitive byte -/
def k5 : Class := { plain "byte" none with kind := .primitive 'B', accessFlags := 0x411 }
/-- [B -/
def k6 : Class := { plain "[B" (some 0) with kind := .array 5 .byte, interfaces := #[3, 4], accessFlags := 1041 }

/-- the primitive int -/
def k7 : Class := { plain "int" none with kind := .primitive 'I', accessFlags := 0x411 }
/-- [I -/
def k8 : Class := { plain "[I" (some 0) with kind := .array 7 .int, interfaces := #[3, 4], accessFlags := 1041 }

def heap : Heap := #[]
def classes : Array Class := #[k0, k1, k2, k3, k4, k5, k6, k7, k8]
def interned : List (Array UInt16 × Addr) := []
def slotsUsed : Nat := 0
def theMethod : MethodId := ⟨1, 1⟩
def args0 : Array Value := #[.int 5, .long 6, .int 7]
def aboutOver (below : List Frame) : State where
  vm := { classes := classes, interned := interned.toArray }
  heap := heap
  slotsUsed := slotsUsed
  threads := #[{ frames := .invoking theMethod args0 :: below }]
def below0 : List Frame := [.native { method := ⟨0, 0⟩, args := #[] }]
def about1 : State := aboutOver below0
def p0 : Program := .bare "" "" ""
def e0 : Env := launch0.env 0 0 0
theorem w_frames : about1.frames = Frame.invoking theMethod args0 :: below0 := rfl
set_option maxRecDepth 65536 in
theorem w_args : argsFit about1.vm theMethod args0 = true := by decide +kernel
set_option maxRecDepth 65536 in
theorem w_heap : heapFits about1 = true := by decide +kernel
set_option maxRecDepth 65536 in
theorem w_runnable : about1.curStatus? = some .runnable := by decide +kernel
set_option maxRecDepth 65536 in
theorem w_alone : about1.alone = true := by decide +kernel
set_option maxRecDepth 65536 in
theorem w_named : about1.methodNamed? x = some theMethod := by decide +kernel
set_option maxRecDepth 65536 in
theorem w_hears : about1.hears theMethod below0 = true := by decide +kernel
set_option maxRecDepth 65536 in
theorem w_ripe : about1.ripe theMethod args0 below0 = true := by decide +kernel
theorem w_running : about1.status = .running := rfl
set_option maxRecDepth 65536 in
theorem w_room : about1.hasRoom e0.platform room_1 = true :=
  launch0.hasRoom_least _ room_1 (by decide +kernel) (by decide +kernel) (by decide +kernel) (by decide +kernel) (by decide +kernel) (by decide +kernel)
theorem allAtoms_all (ts : List Jvm.Cond) (a : Array Jvm.Value) (st : Jvm.State) : (allAtoms ts).before a st = ts.all (fun c => c.before a st) := by
  induction ts with
  | nil => rfl
  | cons c t ih =>
    show (Jvm.Cond.and c (allAtoms t)).before a st = _
    rw [Jvm.Cond.before_and, ih, List.all_cons]
def words1 : List Jvm.Cond := Jvm.Cond.code x code maxLocals ret :: tables_1
/-- a 'code' word, met by the world's own term for the bytes: nothing is compared byte by byte -/
theorem code_word {y : MethodName} {bytes : ByteArray} {mx : Nat} {rt : Option FieldType} {a : Array Value} {s : State} {m : MethodId} {meth : Method} {c : Code} (h1 : s.methodNamed? y = some m) (h2 : s.vm.method? m = some meth) (h3 : meth.code = some c) (h4 : c.code = bytes)
    (h5 : (c.maxLocals == mx && c.exceptionTable.isEmpty && decide (c.maxStack ≤ mostOperands) && decide (meth.sig.returnType = rt) && !meth.locks && decide (parseMethodDescriptor y.desc = some meth.sig)) = true) : (Jvm.Cond.code y bytes mx rt).before a s = true := by
  simp only [Bool.and_eq_true, beq_iff_eq, Bool.not_eq_true', decide_eq_true_eq] at h5
  obtain ⟨⟨⟨⟨⟨g1, g2⟩, g3⟩, g4⟩, g5⟩, g6⟩ := h5
  simp [Cond.before, Cond.holds, Cond.value, h1, h2, h3, h4, g1, g2, g3, g4, g5, g6]
def isCode : Jvm.Cond → Bool
  | .code _ _ _ _ => true
  | _ => false
theorem all_split {L : List Jvm.Cond} {P : Jvm.Cond → Bool} (h1 : L.all (fun c => isCode c || P c) = true) (h2 : ∀ c ∈ L.filter isCode, P c = true) : L.all P = true := by
  refine List.all_eq_true.mpr fun c hc => ?_
  have h := List.all_eq_true.mp h1 c hc
  rcases Bool.eq_false_or_eq_true (isCode c) with hi | hi
  · exact h2 c (List.mem_filter.mpr ⟨hc, hi⟩)
  · simpa [hi] using h
set_option maxRecDepth 65536 in
theorem w_c0 : (Jvm.Cond.code x code maxLocals ret).before args0 about1 = true := code_word (m := ⟨1, 1⟩) (meth := k1m1) (c := k1c1) (by decide +kernel) rfl rfl rfl (by decide +kernel)
set_option maxRecDepth 65536 in
theorem w_c1 : (Jvm.Cond.code ({ cls := "com/example/mince_trees/mincetrees/tree/Utf8IsWhitespacePinLaw", name := "pick", desc := "(IJI)B" } : Jvm.MethodName) method_3_code (5 : Nat) (Option.some Jvm.ClassFile.FieldType.byte)).before args0 about1 = true := code_word (m := ⟨1, 2⟩) (meth := k1m2) (c := k1c2) (by decide +kernel) rfl rfl rfl (by decide +kernel)
set_option maxRecDepth 65536 in
theorem w_c2 : (Jvm.Cond.code ({ cls := "com/example/mince_trees/mincetrees/tree/Utf8IsWhitespacePinLaw", name := "fits", desc := "([BIII)Z" } : Jvm.MethodName) method_4_code (5 : Nat) (Option.some Jvm.ClassFile.FieldType.boolean)).before args0 about1 = true := code_word (m := ⟨1, 3⟩) (meth := k1m3) (c := k1c3) (by decide +kernel) rfl rfl rfl (by decide +kernel)
set_option maxRecDepth 65536 in
theorem w_c3 : (Jvm.Cond.code ({ cls := "com/example/mince_trees/mincetrees/tree/Utf8", name := "isWhitespace", desc := "([BII)Z" } : Jvm.MethodName) prog_65_method_3_code (5 : Nat) (Option.some Jvm.ClassFile.FieldType.boolean)).before args0 about1 = true := code_word (m := ⟨2, 1⟩) (meth := k2m1) (c := k2c1) (by decide +kernel) rfl rfl rfl (by decide +kernel)
def codes1 : List Jvm.Cond := [Jvm.Cond.code x code maxLocals ret, Jvm.Cond.code ({ cls := "com/example/mince_trees/mincetrees/tree/Utf8IsWhitespacePinLaw", name := "pick", desc := "(IJI)B" } : Jvm.MethodName) method_3_code (5 : Nat) (Option.some Jvm.ClassFile.FieldType.byte), Jvm.Cond.code ({ cls := "com/example/mince_trees/mincetrees/tree/Utf8IsWhitespacePinLaw", name := "fits", desc := "([BIII)Z" } : Jvm.MethodName) method_4_code (5 : Nat) (Option.some Jvm.ClassFile.FieldType.boolean), Jvm.Cond.code ({ cls := "com/example/mince_trees/mincetrees/tree/Utf8", name := "isWhitespace", desc := "([BII)Z" } : Jvm.MethodName) prog_65_method_3_code (5 : Nat) (Option.some Jvm.ClassFile.FieldType.boolean)]
set_option maxRecDepth 65536 in
theorem codes_eq : words1.filter isCode = codes1 := rfl
theorem w_codes : ∀ c ∈ words1.filter isCode, c.before args0 about1 = true := by
  rw [codes_eq]
  intro c hc
  simp only [codes1, List.mem_cons, List.not_mem_nil, or_false] at hc
  rcases hc with rfl | rfl | rfl | rfl
  · exact w_c0
  · exact w_c1
  · exact w_c2
  · exact w_c3
set_option maxRecDepth 65536 in
theorem w_t1 : words1.all (fun c => isCode c || c.before args0 about1) = true := by decide +kernel
theorem w_tables : (allAtoms (Jvm.Cond.code x code maxLocals ret :: tables_1)).before args0 about1 = true := by
  rw [allAtoms_all]
  show words1.all (fun c => c.before args0 about1) = true
  refine all_split ?_ w_codes
  rw [w_t1]
set_option maxRecDepth 65536 in
theorem w_case : (Jvm.Cond.and given_1 narrow_1).before args0 about1 = true := by decide +kernel
theorem w_applies : (headSpec (Jvm.Cond.code x code maxLocals ret :: tables_1) room_1).applies x e0.platform about1 = true :=
  (Spec.applies_iff w_frames).mpr ⟨w_running, w_runnable, w_alone, w_named, w_hears, w_ripe, w_room, w_tables⟩
theorem atStart : AtStart classFile x code maxLocals ret World_1 tables_1 room_1 Calls_1 rest_1 Pre_1 launch0 p0 e0 about1 theMethod args0 below0 :=
  ⟨lists_1, trivial, launch0.admits_env _ _ _, launch0.least_env, fairChoices_fair.cas, fairChoices_fair.clock, w_frames, w_args, w_heap, w_applies, trivial, trivial, w_case⟩
end start1
theorem witness_1 : WitnessClaimed_1 := ⟨start1.p0, start1.e0, start1.about1, start1.theMethod, start1.args0, start1.below0, start1.atStart⟩
end Jvm.Pilot.@@N@@
