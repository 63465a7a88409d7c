import JvmDerived
import JvmDerived.Pilot.@@N@@Statement
import JvmDerived.Pilot.@@N@@Code
set_option linter.unusedVariables false
set_option linter.unusedSimpArgs false
namespace Jvm.Pilot.@@N@@
open Jvm Jvm.ClassFile Sem Op Lib Jvm.Free Jvm.Stand Jvm.LawKit Jvm.RoadKit Bundle Jvm.Pilot.@@N@@.Jvm.D
section OwnPre
/-- where the run stands, with all that stays true of the body -/
def St (p : Program) (l : Launch) (e : Env) (R : Room) (s : State) (m : MethodId) (args : Array Value) (below : List Frame) (meth : Method) (c : Code) (Z : State) (own : String) (bytes : ByteArray) (ml n0 : Nat) (ret : Option FieldType) (nm : String) (T : State) (h : Heap) (cells slots : Nat) : Prop :=
  ∃ locs, Stand p l e R s m args below meth c T locs cells slots ∧ Fr n0 locs ∧ T.heap = h ∧ p.tables.exec = Jvm.exec ∧ Z.Warmed39 s.vm ∧ s.vm.findClass own = some m.cls ∧ c.code = bytes ∧ c.maxLocals = ml ∧ meth.locks = false ∧ n0 ≤ s.heap.size ∧ meth.sig.returnType = ret ∧ meth.name = nm
def Wp (p : Program) (e : Env) (below : List Frame) (PO : Outcome → State → Prop) (T : State) (g : JFrame) : Prop := ∃ t o, Steps p.tables e below (T.setTop g) t ∧ t.status = .running ∧ Ended t below o ∧ PO o t
def Po (s : State) (n0 : Nat) (R : Room) (Q : Option Value → Heap → Prop) (o : Outcome) (t : State) : Prop := ∃ v L, o = .returned v ∧ (Q v t.heap ∧ Fr n0 L) ∧ FrameEnd s o t L R.cells R.slots
def Ct (l : Launch) (y : MethodName) (bytes : ByteArray) (ml : Nat) (ret : Option FieldType) (ws : List Jvm.Cond) (R : Room) (Z : State) (h0 : Heap) (n0 : Nat) (as : Array Value) (Q : Option Value → Heap → Prop) : Prop :=
  MetFree l y (head1 (Jvm.Cond.code y bytes ml ret :: ws) R) (fun a U => a = as ∧ Z.Warmed39 U.vm ∧ U.heap = h0) (fun _ _ _ _ _ => True) (fun _ U o U' => Po U n0 R Q o U')
variable {p : Program} {l : Launch} {e : Env} {R : Room} {s : State} {m : MethodId} {args : Array Value} {below : List Frame} {meth : Method} {c : Code} {Z : State} {own : String} {bytes : ByteArray} {ml n0 : Nat} {ret : Option FieldType} {nm : String} {T : State} {h : Heap} {cells slots : Nat} {PO : Outcome → State → Prop} {a0 : Array Value} {pc q : Nat} {L : Array Slot} {st : List Value}
theorem o_body {y : MethodName} {ws : List Jvm.Cond} {h0 : Heap} {as : Array Value} {Q : Option Value → Heap → Prop} {L0 : Array Slot} (hpl : plainFor y = true) (hn : n0 ≤ h0.size) (hef : ∀ m, entryFrame m as ml = mkF m 0 L0 [])
    (k : ∀ (p : Program) (e : Env) (s : State) (m : MethodId) (below : List Frame) (meth : Method) (c : Code) (T : State), St p l e R s m as below meth c Z y.cls bytes ml n0 ret y.name T h0 0 0 → Wp p e below (Po s n0 R Q) T (mkF m 0 L0 [])) :
    Ct l y bytes ml ret ws R Z h0 n0 as Q := by
  refine MetFree.of_bodySF hpl hisR ?_
  intro p e s m args below meth c s₁ Bd hml0 hP hK
  obtain ⟨rfl, hZ, hh⟩ := hP
  have X0 : Stand p l e R s m args below meth c s₁ [] 0 0 := Stand.of_body Bd
  have e0 : s₁.heap = h0 := by rw [← hh, Bd.state]; rfl
  obtain ⟨t, o, h1, h2, h3, h4⟩ := k p e s m below meth c s₁ ⟨[], X0, Fr.nil n0, e0, Bd.exec, hZ, findClass_of_methodNamed Bd.named, Bd.bytes, hml0, BodyLoose.notSynchronized Bd, (by rw [hh]; exact hn), Bd.returns, (name_of_methodNamed Bd.named Bd.method).1⟩
  exact ⟨t, o, castTop (hef m) h1, h2, h3, h4⟩
theorem o_st (S : St p l e R s m args below meth c Z own bytes ml n0 ret nm T h cells slots) {g g' : JFrame} (hs : ∀ t, At T m c below → p.tables.exec = Jvm.exec → c.code = bytes → Steps p.tables e below (T.setTop g') t → Steps p.tables e below (T.setTop g) t) (k : Wp p e below PO T g') : Wp p e below PO T g := by
  obtain ⟨locs, X, N, eT, hx, hZ, hown, hby, hml, hlk, hn, hrt, hnm⟩ := S
  obtain ⟨t, o, h1, h2⟩ := k
  exact ⟨t, o, hs t X.here hx hby h1, h2⟩
theorem o_to {T' : State} {g g' : JFrame} (hs : ∀ t, Steps p.tables e below (T'.setTop g') t → Steps p.tables e below (T.setTop g) t) (k : Wp p e below PO T' g') : Wp p e below PO T g := by
  obtain ⟨t, o, h1, h2⟩ := k
  exact ⟨t, o, hs t h1, h2⟩
theorem o_heap (S : St p l e R s m args below meth c Z own bytes ml n0 ret nm T h cells slots) : T.heap = h := by obtain ⟨locs, X, N, eT, -⟩ := S; exact eT
theorem o_n0 (S : St p l e R s m args below meth c Z own bytes ml n0 ret nm T h cells slots) : n0 ≤ h.size := by
  obtain ⟨locs, X, N, eT, hx, hZ, hown, hby, hml, hlk, hn, -⟩ := S
  have := X.same.2.1
  rw [← eT]; exact Nat.le_trans hn this
theorem o_wd {i : Nat} {d : Jvm.Cond} (hw : ∀ d ∈ tables_1, d.before a0 Z = true) (hi : tables_1[i]? = some d) : d.before a0 Z = true := hw _ (List.mem_of_getElem? hi)

theorem o_iloadN (S : St p l e R s m args below meth c Z own bytes ml n0 ret nm T h cells slots) {k : Fin 4} {v : Int32} (hl : L[k.val]? = some (.val (.int v))) (hd : decode bytes pc = .ok (.iload_n k, 1)) (hq : pc + 1 = q) (k : Wp p e below PO T (mkF m q L (.int v :: st))) : Wp p e below PO T (mkF m pc L (st)) := by
  subst hq
  exact o_st S (fun t X hx hy r => XS.iloadN X hx rfl (hb hy hd) hl r) k
theorem o_lloadN (S : St p l e R s m args below meth c Z own bytes ml n0 ret nm T h cells slots) {k : Fin 4} {v : Int64} (hl : L[k.val]? = some (.val (.long v))) (hd : decode bytes pc = .ok (.lload_n k, 1)) (hq : pc + 1 = q) (k : Wp p e below PO T (mkF m q L (.long v :: st))) : Wp p e below PO T (mkF m pc L (st)) := by
  subst hq
  exact o_st S (fun t X hx hy r => XS.lloadN X hx rfl (hb hy hd) hl r) k
theorem o_aloadN (S : St p l e R s m args below meth c Z own bytes ml n0 ret nm T h cells slots) {k : Fin 4} {v : Value} (hl : L[k.val]? = some (.val v)) (hv : v.isRef = true) (hd : decode bytes pc = .ok (.aload_n k, 1)) (hq : pc + 1 = q) (k : Wp p e below PO T (mkF m q L (v :: st))) : Wp p e below PO T (mkF m pc L (st)) := by
  subst hq
  exact o_st S (fun t X hx hy r => XS.aloadN X hx rfl (hb hy hd) hl hv r) k
theorem o_istoreN (S : St p l e R s m args below meth c Z own bytes ml n0 ret nm T h cells slots) {k : Fin 4} {x : Int32} {L' : Array Slot} (hl : storeLocals L k.val (.int x) = some L') (hd : decode bytes pc = .ok (.istore_n k, 1)) (hq : pc + 1 = q) (k : Wp p e below PO T (mkF m q L' (st))) : Wp p e below PO T (mkF m pc L (.int x :: st)) := by
  subst hq
  exact o_st S (fun t X hx hy r => XS.istoreN X hx rfl (hb hy hd) rfl hl r) k
theorem o_istoreVN (S : St p l e R s m args below meth c Z own bytes ml n0 ret nm T h cells slots) {k : Fin 4} {x : Int32} {L' : Int32 → Array Slot} (hl : ∀ v, storeLocals L k.val (.int v) = some (L' v)) (hd : decode bytes pc = .ok (.istore_n k, 1)) (hq : pc + 1 = q) (k : ∀ v, v = x → Wp p e below PO T (mkF m q (L' v) st)) : Wp p e below PO T (mkF m pc L (.int x :: st)) :=
  o_istoreN S (hl x) hd hq (k x rfl)
theorem o_lstoreN (S : St p l e R s m args below meth c Z own bytes ml n0 ret nm T h cells slots) {k : Fin 4} {x : Int64} {L' : Array Slot} (hl : storeLocals L k.val (.long x) = some L') (hd : decode bytes pc = .ok (.lstore_n k, 1)) (hq : pc + 1 = q) (k : Wp p e below PO T (mkF m q L' (st))) : Wp p e below PO T (mkF m pc L (.long x :: st)) := by
  subst hq
  exact o_st S (fun t X hx hy r => XS.lstoreN X hx rfl (hb hy hd) rfl hl r) k
theorem o_lstoreVN (S : St p l e R s m args below meth c Z own bytes ml n0 ret nm T h cells slots) {k : Fin 4} {x : Int64} {L' : Int64 → Array Slot} (hl : ∀ v, storeLocals L k.val (.long v) = some (L' v)) (hd : decode bytes pc = .ok (.lstore_n k, 1)) (hq : pc + 1 = q) (k : ∀ v, v = x → Wp p e below PO T (mkF m q (L' v) st)) : Wp p e below PO T (mkF m pc L (.long x :: st)) :=
  o_lstoreN S (hl x) hd hq (k x rfl)
theorem o_astoreN (S : St p l e R s m args below meth c Z own bytes ml n0 ret nm T h cells slots) {k : Fin 4} {x : Value} {L' : Array Slot} (hv : x.isRef = true) (hl : storeLocals L k.val x = some L') (hd : decode bytes pc = .ok (.astore_n k, 1)) (hq : pc + 1 = q) (k : Wp p e below PO T (mkF m q L' (st))) : Wp p e below PO T (mkF m pc L (x :: st)) := by
  subst hq
  exact o_st S (fun t X hx hy r => XS.astoreN X hx rfl (hb hy hd) rfl hv hl r) k
theorem o_iload (S : St p l e R s m args below meth c Z own bytes ml n0 ret nm T h cells slots) {k : Nat} {v : Int32} (hl : L[k]? = some (.val (.int v))) (hd : decode bytes pc = .ok (.iload k, 2)) (hq : pc + 2 = q) (k : Wp p e below PO T (mkF m q L (.int v :: st))) : Wp p e below PO T (mkF m pc L (st)) := by
  subst hq
  exact o_st S (fun t X hx hy r => XS.iload X hx rfl (hb hy hd) hl r) k
theorem o_lload (S : St p l e R s m args below meth c Z own bytes ml n0 ret nm T h cells slots) {k : Nat} {v : Int64} (hl : L[k]? = some (.val (.long v))) (hd : decode bytes pc = .ok (.lload k, 2)) (hq : pc + 2 = q) (k : Wp p e below PO T (mkF m q L (.long v :: st))) : Wp p e below PO T (mkF m pc L (st)) := by
  subst hq
  exact o_st S (fun t X hx hy r => XS.lload X hx rfl (hb hy hd) hl r) k
theorem o_aload (S : St p l e R s m args below meth c Z own bytes ml n0 ret nm T h cells slots) {k : Nat} {v : Value} (hl : L[k]? = some (.val v)) (hv : v.isRef = true) (hd : decode bytes pc = .ok (.aload k, 2)) (hq : pc + 2 = q) (k : Wp p e below PO T (mkF m q L (v :: st))) : Wp p e below PO T (mkF m pc L (st)) := by
  subst hq
  exact o_st S (fun t X hx hy r => XS.aload X hx rfl (hb hy hd) hl hv r) k
theorem o_istore (S : St p l e R s m args below meth c Z own bytes ml n0 ret nm T h cells slots) {k : Nat} {x : Int32} {L' : Array Slot} (hl : storeLocals L k (.int x) = some L') (hd : decode bytes pc = .ok (.istore k, 2)) (hq : pc + 2 = q) (k : Wp p e below PO T (mkF m q L' (st))) : Wp p e below PO T (mkF m pc L (.int x :: st)) := by
  subst hq
  exact o_st S (fun t X hx hy r => XS.istore X hx rfl (hb hy hd) rfl hl r) k
theorem o_istoreV (S : St p l e R s m args below meth c Z own bytes ml n0 ret nm T h cells slots) {k : Nat} {x : Int32} {L' : Int32 → Array Slot} (hl : ∀ v, storeLocals L k (.int v) = some (L' v)) (hd : decode bytes pc = .ok (.istore k, 2)) (hq : pc + 2 = q) (k : ∀ v, v = x → Wp p e below PO T (mkF m q (L' v) st)) : Wp p e below PO T (mkF m pc L (.int x :: st)) :=
  o_istore S (hl x) hd hq (k x rfl)
theorem o_lstore (S : St p l e R s m args below meth c Z own bytes ml n0 ret nm T h cells slots) {k : Nat} {x : Int64} {L' : Array Slot} (hl : storeLocals L k (.long x) = some L') (hd : decode bytes pc = .ok (.lstore k, 2)) (hq : pc + 2 = q) (k : Wp p e below PO T (mkF m q L' (st))) : Wp p e below PO T (mkF m pc L (.long x :: st)) := by
  subst hq
  exact o_st S (fun t X hx hy r => XS.lstore X hx rfl (hb hy hd) rfl hl r) k
theorem o_lstoreV (S : St p l e R s m args below meth c Z own bytes ml n0 ret nm T h cells slots) {k : Nat} {x : Int64} {L' : Int64 → Array Slot} (hl : ∀ v, storeLocals L k (.long v) = some (L' v)) (hd : decode bytes pc = .ok (.lstore k, 2)) (hq : pc + 2 = q) (k : ∀ v, v = x → Wp p e below PO T (mkF m q (L' v) st)) : Wp p e below PO T (mkF m pc L (.long x :: st)) :=
  o_lstore S (hl x) hd hq (k x rfl)
theorem o_astore (S : St p l e R s m args below meth c Z own bytes ml n0 ret nm T h cells slots) {k : Nat} {x : Value} {L' : Array Slot} (hv : x.isRef = true) (hl : storeLocals L k x = some L') (hd : decode bytes pc = .ok (.astore k, 2)) (hq : pc + 2 = q) (k : Wp p e below PO T (mkF m q L' (st))) : Wp p e below PO T (mkF m pc L (x :: st)) := by
  subst hq
  exact o_st S (fun t X hx hy r => XS.astore X hx rfl (hb hy hd) rfl hv hl r) k
theorem o_iconst (S : St p l e R s m args below meth c Z own bytes ml n0 ret nm T h cells slots) {i : Int} {z : Int32} (hz : Int32.ofInt i = z) (hd : decode bytes pc = .ok (.iconst i, 1)) (hq : pc + 1 = q) (k : Wp p e below PO T (mkF m q L (.int z :: st))) : Wp p e below PO T (mkF m pc L (st)) := by
  subst hq
  exact o_st S (fun t X hx hy r => XS.iconst X hx rfl (hb hy hd) (hz ▸ r)) k
theorem o_bipush (S : St p l e R s m args below meth c Z own bytes ml n0 ret nm T h cells slots) {i : Int} {z : Int32} (hz : (Int8.ofInt i).toInt32 = z) (hd : decode bytes pc = .ok (.bipush i, 2)) (hq : pc + 2 = q) (k : Wp p e below PO T (mkF m q L (.int z :: st))) : Wp p e below PO T (mkF m pc L (st)) := by
  subst hq
  exact o_st S (fun t X hx hy r => XS.bipush X hx rfl (hb hy hd) (hz ▸ r)) k
theorem o_sipush (S : St p l e R s m args below meth c Z own bytes ml n0 ret nm T h cells slots) {i : Int} {z : Int32} (hz : (Int16.ofInt i).toInt32 = z) (hd : decode bytes pc = .ok (.sipush i, 3)) (hq : pc + 3 = q) (k : Wp p e below PO T (mkF m q L (.int z :: st))) : Wp p e below PO T (mkF m pc L (st)) := by
  subst hq
  exact o_st S (fun t X hx hy r => XS.sipush X hx rfl (hb hy hd) (hz ▸ r)) k
theorem o_lconst (S : St p l e R s m args below meth c Z own bytes ml n0 ret nm T h cells slots) {i : Fin 2} {z : Int64} (hz : Int64.ofNat i = z) (hd : decode bytes pc = .ok (.lconst i, 1)) (hq : pc + 1 = q) (k : Wp p e below PO T (mkF m q L (.long z :: st))) : Wp p e below PO T (mkF m pc L (st)) := by
  subst hq
  exact o_st S (fun t X hx hy r => XS.lconst X hx rfl (hb hy hd) (hz ▸ r)) k
theorem o_aconstNull (S : St p l e R s m args below meth c Z own bytes ml n0 ret nm T h cells slots)  (hd : decode bytes pc = .ok (.aconst_null, 1)) (hq : pc + 1 = q) (k : Wp p e below PO T (mkF m q L (.null :: st))) : Wp p e below PO T (mkF m pc L (st)) := by
  subst hq
  exact o_st S (fun t X hx hy r => XS.aconstNull X hx rfl (hb hy hd) r) k
theorem o_iadd (S : St p l e R s m args below meth c Z own bytes ml n0 ret nm T h cells slots) {x y : Int32} (hd : decode bytes pc = .ok (.iadd, 1)) (hq : pc + 1 = q) (k : Wp p e below PO T (mkF m q L (.int (x + y) :: st))) : Wp p e below PO T (mkF m pc L (.int y :: .int x :: st)) := by
  subst hq
  exact o_st S (fun t X hx hy r => XS.iadd X hx rfl (hb hy hd) rfl r) k
theorem o_ladd (S : St p l e R s m args below meth c Z own bytes ml n0 ret nm T h cells slots) {x y : Int64} (hd : decode bytes pc = .ok (.ladd, 1)) (hq : pc + 1 = q) (k : Wp p e below PO T (mkF m q L (.long (x + y) :: st))) : Wp p e below PO T (mkF m pc L (.long y :: .long x :: st)) := by
  subst hq
  exact o_st S (fun t X hx hy r => XS.ladd X hx rfl (hb hy hd) rfl r) k
theorem o_isub (S : St p l e R s m args below meth c Z own bytes ml n0 ret nm T h cells slots) {x y : Int32} (hd : decode bytes pc = .ok (.isub, 1)) (hq : pc + 1 = q) (k : Wp p e below PO T (mkF m q L (.int (x - y) :: st))) : Wp p e below PO T (mkF m pc L (.int y :: .int x :: st)) := by
  subst hq
  exact o_st S (fun t X hx hy r => XS.isub X hx rfl (hb hy hd) rfl r) k
theorem o_lsub (S : St p l e R s m args below meth c Z own bytes ml n0 ret nm T h cells slots) {x y : Int64} (hd : decode bytes pc = .ok (.lsub, 1)) (hq : pc + 1 = q) (k : Wp p e below PO T (mkF m q L (.long (x - y) :: st))) : Wp p e below PO T (mkF m pc L (.long y :: .long x :: st)) := by
  subst hq
  exact o_st S (fun t X hx hy r => XS.lsub X hx rfl (hb hy hd) rfl r) k
theorem o_imul (S : St p l e R s m args below meth c Z own bytes ml n0 ret nm T h cells slots) {x y : Int32} (hd : decode bytes pc = .ok (.imul, 1)) (hq : pc + 1 = q) (k : Wp p e below PO T (mkF m q L (.int (x * y) :: st))) : Wp p e below PO T (mkF m pc L (.int y :: .int x :: st)) := by
  subst hq
  exact o_st S (fun t X hx hy r => XS.imul X hx rfl (hb hy hd) rfl r) k
theorem o_lmul (S : St p l e R s m args below meth c Z own bytes ml n0 ret nm T h cells slots) {x y : Int64} (hd : decode bytes pc = .ok (.lmul, 1)) (hq : pc + 1 = q) (k : Wp p e below PO T (mkF m q L (.long (x * y) :: st))) : Wp p e below PO T (mkF m pc L (.long y :: .long x :: st)) := by
  subst hq
  exact o_st S (fun t X hx hy r => XS.lmul X hx rfl (hb hy hd) rfl r) k
theorem o_iand (S : St p l e R s m args below meth c Z own bytes ml n0 ret nm T h cells slots) {x y : Int32} (hd : decode bytes pc = .ok (.iand, 1)) (hq : pc + 1 = q) (k : Wp p e below PO T (mkF m q L (.int (x &&& y) :: st))) : Wp p e below PO T (mkF m pc L (.int y :: .int x :: st)) := by
  subst hq
  exact o_st S (fun t X hx hy r => XS.iand X hx rfl (hb hy hd) rfl r) k
theorem o_land (S : St p l e R s m args below meth c Z own bytes ml n0 ret nm T h cells slots) {x y : Int64} (hd : decode bytes pc = .ok (.land, 1)) (hq : pc + 1 = q) (k : Wp p e below PO T (mkF m q L (.long (x &&& y) :: st))) : Wp p e below PO T (mkF m pc L (.long y :: .long x :: st)) := by
  subst hq
  exact o_st S (fun t X hx hy r => XS.land X hx rfl (hb hy hd) rfl r) k
theorem o_ior (S : St p l e R s m args below meth c Z own bytes ml n0 ret nm T h cells slots) {x y : Int32} (hd : decode bytes pc = .ok (.ior, 1)) (hq : pc + 1 = q) (k : Wp p e below PO T (mkF m q L (.int (x ||| y) :: st))) : Wp p e below PO T (mkF m pc L (.int y :: .int x :: st)) := by
  subst hq
  exact o_st S (fun t X hx hy r => XS.ior X hx rfl (hb hy hd) rfl r) k
theorem o_lor (S : St p l e R s m args below meth c Z own bytes ml n0 ret nm T h cells slots) {x y : Int64} (hd : decode bytes pc = .ok (.lor, 1)) (hq : pc + 1 = q) (k : Wp p e below PO T (mkF m q L (.long (x ||| y) :: st))) : Wp p e below PO T (mkF m pc L (.long y :: .long x :: st)) := by
  subst hq
  exact o_st S (fun t X hx hy r => XS.lor X hx rfl (hb hy hd) rfl r) k
theorem o_ixor (S : St p l e R s m args below meth c Z own bytes ml n0 ret nm T h cells slots) {x y : Int32} (hd : decode bytes pc = .ok (.ixor, 1)) (hq : pc + 1 = q) (k : Wp p e below PO T (mkF m q L (.int (x ^^^ y) :: st))) : Wp p e below PO T (mkF m pc L (.int y :: .int x :: st)) := by
  subst hq
  exact o_st S (fun t X hx hy r => XS.ixor X hx rfl (hb hy hd) rfl r) k
theorem o_lxor (S : St p l e R s m args below meth c Z own bytes ml n0 ret nm T h cells slots) {x y : Int64} (hd : decode bytes pc = .ok (.lxor, 1)) (hq : pc + 1 = q) (k : Wp p e below PO T (mkF m q L (.long (x ^^^ y) :: st))) : Wp p e below PO T (mkF m pc L (.long y :: .long x :: st)) := by
  subst hq
  exact o_st S (fun t X hx hy r => XS.lxor X hx rfl (hb hy hd) rfl r) k
theorem o_irem (S : St p l e R s m args below meth c Z own bytes ml n0 ret nm T h cells slots) {x y : Int32} (hy0 : y ≠ 0) (hd : decode bytes pc = .ok (.irem, 1)) (hq : pc + 1 = q) (k : Wp p e below PO T (mkF m q L (.int (x % y) :: st))) : Wp p e below PO T (mkF m pc L (.int y :: .int x :: st)) := by
  subst hq
  exact o_st S (fun t X hx hy r => XS.irem X hx rfl (hb hy hd) rfl hy0 (by have q : x - x / y * y = x % y := irem_eq_mod x y; rw [q]; exact r)) k
theorem o_idiv (S : St p l e R s m args below meth c Z own bytes ml n0 ret nm T h cells slots) {x y : Int32} (hy0 : y ≠ 0) (hd : decode bytes pc = .ok (.idiv, 1)) (hq : pc + 1 = q) (k : Wp p e below PO T (mkF m q L (.int (x / y) :: st))) : Wp p e below PO T (mkF m pc L (.int y :: .int x :: st)) := by
  subst hq
  exact o_st S (fun t X hx hy r => XS.idiv X hx rfl (hb hy hd) rfl hy0 r) k
theorem o_ineg (S : St p l e R s m args below meth c Z own bytes ml n0 ret nm T h cells slots) {x : Int32} (hd : decode bytes pc = .ok (.ineg, 1)) (hq : pc + 1 = q) (k : Wp p e below PO T (mkF m q L (.int (-x) :: st))) : Wp p e below PO T (mkF m pc L (.int x :: st)) := by
  subst hq
  exact o_st S (fun t X hx hy r => XS.ineg X hx rfl (hb hy hd) rfl r) k
theorem o_lneg (S : St p l e R s m args below meth c Z own bytes ml n0 ret nm T h cells slots) {x : Int64} (hd : decode bytes pc = .ok (.lneg, 1)) (hq : pc + 1 = q) (k : Wp p e below PO T (mkF m q L (.long (-x) :: st))) : Wp p e below PO T (mkF m pc L (.long x :: st)) := by
  subst hq
  exact o_st S (fun t X hx hy r => XS.lneg X hx rfl (hb hy hd) rfl r) k
theorem o_i2l (S : St p l e R s m args below meth c Z own bytes ml n0 ret nm T h cells slots) {x : Int32} (hd : decode bytes pc = .ok (.i2l, 1)) (hq : pc + 1 = q) (k : Wp p e below PO T (mkF m q L (.long x.toInt64 :: st))) : Wp p e below PO T (mkF m pc L (.int x :: st)) := by
  subst hq
  exact o_st S (fun t X hx hy r => XS.i2l X hx rfl (hb hy hd) rfl r) k
theorem o_l2i (S : St p l e R s m args below meth c Z own bytes ml n0 ret nm T h cells slots) {x : Int64} (hd : decode bytes pc = .ok (.l2i, 1)) (hq : pc + 1 = q) (k : Wp p e below PO T (mkF m q L (.int x.toInt32 :: st))) : Wp p e below PO T (mkF m pc L (.long x :: st)) := by
  subst hq
  exact o_st S (fun t X hx hy r => XS.l2i X hx rfl (hb hy hd) rfl r) k
theorem o_i2b (S : St p l e R s m args below meth c Z own bytes ml n0 ret nm T h cells slots) {x : Int32} (hd : decode bytes pc = .ok (.i2b, 1)) (hq : pc + 1 = q) (k : Wp p e below PO T (mkF m q L (.int x.toInt8.toInt32 :: st))) : Wp p e below PO T (mkF m pc L (.int x :: st)) := by
  subst hq
  exact o_st S (fun t X hx hy r => XS.i2b X hx rfl (hb hy hd) rfl r) k
theorem o_i2s (S : St p l e R s m args below meth c Z own bytes ml n0 ret nm T h cells slots) {x : Int32} (hd : decode bytes pc = .ok (.i2s, 1)) (hq : pc + 1 = q) (k : Wp p e below PO T (mkF m q L (.int x.toInt16.toInt32 :: st))) : Wp p e below PO T (mkF m pc L (.int x :: st)) := by
  subst hq
  exact o_st S (fun t X hx hy r => XS.i2s X hx rfl (hb hy hd) rfl r) k
theorem o_i2c (S : St p l e R s m args below meth c Z own bytes ml n0 ret nm T h cells slots) {x : Int32} (hd : decode bytes pc = .ok (.i2c, 1)) (hq : pc + 1 = q) (k : Wp p e below PO T (mkF m q L (.int x.toUInt32.toUInt16.toUInt32.toInt32 :: st))) : Wp p e below PO T (mkF m pc L (.int x :: st)) := by
  subst hq
  exact o_st S (fun t X hx hy r => XS.i2c X hx rfl (hb hy hd) rfl r) k
theorem o_ishl (S : St p l e R s m args below meth c Z own bytes ml n0 ret nm T h cells slots) {x y : Int32} (hd : decode bytes pc = .ok (.ishl, 1)) (hq : pc + 1 = q) (k : Wp p e below PO T (mkF m q L (.int (x <<< (y &&& 31)) :: st))) : Wp p e below PO T (mkF m pc L (.int y :: .int x :: st)) := by
  subst hq
  exact o_st S (fun t X hx hy r => XS.ishl X hx rfl (hb hy hd) rfl r) k
theorem o_ishr (S : St p l e R s m args below meth c Z own bytes ml n0 ret nm T h cells slots) {x y : Int32} (hd : decode bytes pc = .ok (.ishr, 1)) (hq : pc + 1 = q) (k : Wp p e below PO T (mkF m q L (.int (x >>> (y &&& 31)) :: st))) : Wp p e below PO T (mkF m pc L (.int y :: .int x :: st)) := by
  subst hq
  exact o_st S (fun t X hx hy r => XS.ishr X hx rfl (hb hy hd) rfl r) k
theorem o_iushr (S : St p l e R s m args below meth c Z own bytes ml n0 ret nm T h cells slots) {x y : Int32} (hd : decode bytes pc = .ok (.iushr, 1)) (hq : pc + 1 = q) (k : Wp p e below PO T (mkF m q L (.int ((x.toUInt32 >>> (y &&& 31).toUInt32).toInt32) :: st))) : Wp p e below PO T (mkF m pc L (.int y :: .int x :: st)) := by
  subst hq
  exact o_st S (fun t X hx hy r => XS.iushr X hx rfl (hb hy hd) rfl r) k
theorem o_lshl (S : St p l e R s m args below meth c Z own bytes ml n0 ret nm T h cells slots) {x : Int64} {y : Int32} (hd : decode bytes pc = .ok (.lshl, 1)) (hq : pc + 1 = q) (k : Wp p e below PO T (mkF m q L (.long (x <<< (y &&& 0x3f).toInt64) :: st))) : Wp p e below PO T (mkF m pc L (.int y :: .long x :: st)) := by
  subst hq
  exact o_st S (fun t X hx hy r => XS.lshl X hx rfl (hb hy hd) rfl r) k
theorem o_lshr (S : St p l e R s m args below meth c Z own bytes ml n0 ret nm T h cells slots) {x : Int64} {y : Int32} (hd : decode bytes pc = .ok (.lshr, 1)) (hq : pc + 1 = q) (k : Wp p e below PO T (mkF m q L (.long (x >>> (y &&& 0x3f).toInt64) :: st))) : Wp p e below PO T (mkF m pc L (.int y :: .long x :: st)) := by
  subst hq
  exact o_st S (fun t X hx hy r => XS.lshr X hx rfl (hb hy hd) rfl r) k
theorem o_lushr (S : St p l e R s m args below meth c Z own bytes ml n0 ret nm T h cells slots) {x : Int64} {y : Int32} (hd : decode bytes pc = .ok (.lushr, 1)) (hq : pc + 1 = q) (k : Wp p e below PO T (mkF m q L (.long ((x.toUInt64 >>> (y &&& 0x3f).toInt64.toUInt64).toInt64) :: st))) : Wp p e below PO T (mkF m pc L (.int y :: .long x :: st)) := by
  subst hq
  exact o_st S (fun t X hx hy r => XS.lushr X hx rfl (hb hy hd) rfl r) k
theorem o_lcmp (S : St p l e R s m args below meth c Z own bytes ml n0 ret nm T h cells slots) {x y : Int64} (hd : decode bytes pc = .ok (.lcmp, 1)) (hq : pc + 1 = q) (k : Wp p e below PO T (mkF m q L (.int (lcmpW x y) :: st))) : Wp p e below PO T (mkF m pc L (.long y :: .long x :: st)) := by
  subst hq
  exact o_st S (fun t X hx hy r => XS.lcmp X hx rfl (hb hy hd) rfl r) k
theorem o_dup (S : St p l e R s m args below meth c Z own bytes ml n0 ret nm T h cells slots) {x : Value} (hc : x.category = 1) (hd : decode bytes pc = .ok (.dup, 1)) (hq : pc + 1 = q) (k : Wp p e below PO T (mkF m q L (x :: x :: st))) : Wp p e below PO T (mkF m pc L (x :: st)) := by
  subst hq
  exact o_st S (fun t X hx hy r => XS.dup X hx rfl (hb hy hd) rfl hc r) k
theorem o_pop (S : St p l e R s m args below meth c Z own bytes ml n0 ret nm T h cells slots) {x : Value} (hc : x.category = 1) (hd : decode bytes pc = .ok (.pop, 1)) (hq : pc + 1 = q) (k : Wp p e below PO T (mkF m q L (st))) : Wp p e below PO T (mkF m pc L (x :: st)) := by
  subst hq
  exact o_st S (fun t X hx hy r => XS.pop X hx rfl (hb hy hd) rfl hc r) k
theorem o_dupX1 (S : St p l e R s m args below meth c Z own bytes ml n0 ret nm T h cells slots) {x y : Value} (hc : x.category = 1) (hc' : y.category = 1) (hd : decode bytes pc = .ok (.dup_x1, 1)) (hq : pc + 1 = q) (k : Wp p e below PO T (mkF m q L (x :: y :: x :: st))) : Wp p e below PO T (mkF m pc L (x :: y :: st)) := by
  subst hq
  exact o_st S (fun t X hx hy r => XS.dupX1 X hx rfl (hb hy hd) rfl hc hc' r) k
theorem o_dup2 (S : St p l e R s m args below meth c Z own bytes ml n0 ret nm T h cells slots) {x y : Value} (hc : x.category = 1) (hc' : y.category = 1) (hd : decode bytes pc = .ok (.dup2, 1)) (hq : pc + 1 = q) (k : Wp p e below PO T (mkF m q L (x :: y :: x :: y :: st))) : Wp p e below PO T (mkF m pc L (x :: y :: st)) := by
  subst hq
  exact o_st S (fun t X hx hy r => XT.dup2 X hx rfl (hb hy hd) rfl hc hc' r) k
theorem o_iinc (S : St p l e R s m args below meth c Z own bytes ml n0 ret nm T h cells slots) {k : Nat} {i : Int} {x : Int32} {L' : Array Slot} (hl : L[k]? = some (.val (.int x))) (hl' : storeLocals L k (.int (x + Int32.ofInt i)) = some L') (hd : decode bytes pc = .ok (.iinc k i, 3)) (hq : pc + 3 = q) (kk : Wp p e below PO T (mkF m q L' st)) : Wp p e below PO T (mkF m pc L st) := by
  subst hq
  exact o_st S (fun t X hx hy r => XS.iinc X hx rfl (hb hy hd) hl hl' r) kk
theorem o_goto (S : St p l e R s m args below meth c Z own bytes ml n0 ret nm T h cells slots) {o : Int} (hd : decode bytes pc = .ok (.goto o, 3)) (ho : 0 ≤ (pc : Int) + o) (hq : ((pc : Int) + o).toNat = q) (k : Wp p e below PO T (mkF m q L st)) : Wp p e below PO T (mkF m pc L st) :=
  o_st S (fun t X hx hy r => XS.goto X hx rfl rfl (hb hy hd) ho hq r) k
theorem o_ldc (S : St p l e R s m args below meth c Z own bytes ml n0 ret nm T h cells slots) {i : Nat} {z : Int32} (w : (Jvm.Cond.constant own i z).before a0 Z = true) (hd : decode bytes pc = .ok (.ldc i, 2)) (hq : pc + 2 = q) (k : Wp p e below PO T (mkF m q L (.int z :: st))) : Wp p e below PO T (mkF m pc L st) := by
  subst hq
  obtain ⟨locs, X, N, eT, hx, hZ, hown, hby, hml, hlk, hn, hrt, hnm⟩ := S
  exact o_to (X.ldcInt hx hown (mvT hZ w) (g := mkF m pc L st) rfl (hb hby hd)) k
theorem o_ldc2 (S : St p l e R s m args below meth c Z own bytes ml n0 ret nm T h cells slots) {i : Nat} {z : Int64} (w : (Jvm.Cond.constantLong own i z).before a0 Z = true) (hd : decode bytes pc = .ok (.ldc2_w i, 3)) (hq : pc + 3 = q) (k : Wp p e below PO T (mkF m q L (.long z :: st))) : Wp p e below PO T (mkF m pc L st) := by
  subst hq
  obtain ⟨locs, X, N, eT, hx, hZ, hown, hby, hml, hlk, hn, hrt, hnm⟩ := S
  exact o_to (X.ldc2Long hx hown (mvT hZ w) (g := mkF m pc L st) rfl (hb hby hd)) k
/-! branches: base conditions x < y (as integers) and x = y -/
theorem o_icmp (S : St p l e R s m args below meth c Z own bytes ml n0 ret nm T h cells slots) {cd : ClassFile.Cond} {x y : Int32} {o : Int} {q' : Nat} {P : Prop} (hd : decode bytes pc = .ok (.if_icmp cd o, 3)) (ho : 0 ≤ (pc : Int) + o) (hq' : ((pc : Int) + o).toNat = q') (hq : pc + 3 = q) (h1 : P → if_icmp.holds cd x y = true) (h2 : ¬ P → if_icmp.holds cd x y = false) [Decidable P]
    (k1 : P → Wp p e below PO T (mkF m q' L st)) (k2 : ¬ P → Wp p e below PO T (mkF m q L st)) : Wp p e below PO T (mkF m pc L (.int y :: .int x :: st)) := by
  subst hq
  by_cases hP : P
  · exact o_st S (fun t X hx hy r => XS.icmpYes X hx rfl rfl (hb hy hd) rfl (h1 hP) ho hq' r) (k1 hP)
  · exact o_st S (fun t X hx hy r => XS.icmpNo X hx rfl (hb hy hd) rfl (h2 hP) r) (k2 hP)
theorem o_if (S : St p l e R s m args below meth c Z own bytes ml n0 ret nm T h cells slots) {cd : ClassFile.Cond} {x : Int32} {o : Int} {q' : Nat} {P : Prop} (hd : decode bytes pc = .ok (.ifCond cd o, 3)) (ho : 0 ≤ (pc : Int) + o) (hq' : ((pc : Int) + o).toNat = q') (hq : pc + 3 = q) (h1 : P → if_icmp.holds cd x 0 = true) (h2 : ¬ P → if_icmp.holds cd x 0 = false) [Decidable P]
    (k1 : P → Wp p e below PO T (mkF m q' L st)) (k2 : ¬ P → Wp p e below PO T (mkF m q L st)) : Wp p e below PO T (mkF m pc L (.int x :: st)) := by
  subst hq
  by_cases hP : P
  · exact o_st S (fun t X hx hy r => XS.ifYes X hx rfl rfl (hb hy hd) rfl ((if0 _ _).trans (h1 hP)) ho hq' r) (k1 hP)
  · exact o_st S (fun t X hx hy r => XS.ifNo X hx rfl (hb hy hd) rfl ((if0 _ _).trans (h2 hP)) r) (k2 hP)
theorem hs_lt {x y : Int32} {a b : Int} (ha : x.toInt = a) (hb : y.toInt = b) : (a < b → if_icmp.holds .lt x y = true) ∧ (¬ a < b → if_icmp.holds .lt x y = false) := by subst ha hb; exact ⟨fun h => (tlt (Int32.lt_iff_toInt_lt.mpr h)).1, fun h => (flt (fun g => h (Int32.lt_iff_toInt_lt.mp g))).1⟩
theorem hs_ge {x y : Int32} {a b : Int} (ha : x.toInt = a) (hb : y.toInt = b) : (b ≤ a → if_icmp.holds .ge x y = true) ∧ (¬ b ≤ a → if_icmp.holds .ge x y = false) := by subst ha hb; exact ⟨fun h => (flt (fun g => by have := Int32.lt_iff_toInt_lt.mp g; omega)).2.1, fun h => (tlt (Int32.lt_iff_toInt_lt.mpr (by omega))).2.1⟩
theorem hs_gt {x y : Int32} {a b : Int} (ha : x.toInt = a) (hb : y.toInt = b) : (b < a → if_icmp.holds .gt x y = true) ∧ (¬ b < a → if_icmp.holds .gt x y = false) := by subst ha hb; exact ⟨fun h => (tlt (Int32.lt_iff_toInt_lt.mpr h)).2.2.1, fun h => (flt (fun g => h (Int32.lt_iff_toInt_lt.mp g))).2.2.1⟩
theorem hs_le {x y : Int32} {a b : Int} (ha : x.toInt = a) (hb : y.toInt = b) : (a ≤ b → if_icmp.holds .le x y = true) ∧ (¬ a ≤ b → if_icmp.holds .le x y = false) := by subst ha hb; exact ⟨fun h => (flt (fun g => by have := Int32.lt_iff_toInt_lt.mp g; omega)).2.2.2, fun h => (tlt (Int32.lt_iff_toInt_lt.mpr (by omega))).2.2.2⟩
theorem hs_eq {x y : Int32} : (x = y → if_icmp.holds .eq x y = true) ∧ (¬ x = y → if_icmp.holds .eq x y = false) := ⟨fun h => (teq h).1, fun h => (feq h).1⟩
theorem hs_ne {x y : Int32} : (¬ x = y → if_icmp.holds .ne x y = true) ∧ (¬ ¬ x = y → if_icmp.holds .ne x y = false) := ⟨fun h => (feq h).2, fun h => (teq (Decidable.not_not.mp h)).2⟩
theorem hl_eq {x y : Int64} : (x = y → if_icmp.holds .eq (lcmpW x y) 0 = true) ∧ (¬ x = y → if_icmp.holds .eq (lcmpW x y) 0 = false) := ⟨fun h => (teq ((lw_eq x y).mpr h)).1, fun h => (feq (fun g => h ((lw_eq x y).mp g))).1⟩
theorem hl_ne {x y : Int64} : (¬ x = y → if_icmp.holds .ne (lcmpW x y) 0 = true) ∧ (¬ ¬ x = y → if_icmp.holds .ne (lcmpW x y) 0 = false) := ⟨fun h => (feq (fun g => h ((lw_eq x y).mp g))).2, fun h => (teq ((lw_eq x y).mpr (Decidable.not_not.mp h))).2⟩
theorem hl_lt {x y : Int64} {a b : Int} (ha : x.toInt = a) (hb : y.toInt = b) : (a < b → if_icmp.holds .lt (lcmpW x y) 0 = true) ∧ (¬ a < b → if_icmp.holds .lt (lcmpW x y) 0 = false) := by subst ha hb; exact ⟨fun h => (tlt ((lw_lt x y).mpr (Int64.lt_iff_toInt_lt.mpr h))).1, fun h => (flt (fun g => h (Int64.lt_iff_toInt_lt.mp ((lw_lt x y).mp g)))).1⟩
theorem hl_ge {x y : Int64} {a b : Int} (ha : x.toInt = a) (hb : y.toInt = b) : (b ≤ a → if_icmp.holds .ge (lcmpW x y) 0 = true) ∧ (¬ b ≤ a → if_icmp.holds .ge (lcmpW x y) 0 = false) := by subst ha hb; exact ⟨fun h => (flt (fun g => by have := Int64.lt_iff_toInt_lt.mp ((lw_lt x y).mp g); omega)).2.1, fun h => (tlt ((lw_lt x y).mpr (Int64.lt_iff_toInt_lt.mpr (by omega)))).2.1⟩
theorem hl_gt {x y : Int64} {a b : Int} (ha : x.toInt = a) (hb : y.toInt = b) : (b < a → if_icmp.holds .gt (lcmpW x y) 0 = true) ∧ (¬ b < a → if_icmp.holds .gt (lcmpW x y) 0 = false) := by subst ha hb; exact ⟨fun h => (tlt ((lw_gt x y).mpr (Int64.lt_iff_toInt_lt.mpr h))).2.2.1, fun h => (flt (fun g => h (Int64.lt_iff_toInt_lt.mp ((lw_gt x y).mp g)))).2.2.1⟩
theorem hl_le {x y : Int64} {a b : Int} (ha : x.toInt = a) (hb : y.toInt = b) : (a ≤ b → if_icmp.holds .le (lcmpW x y) 0 = true) ∧ (¬ a ≤ b → if_icmp.holds .le (lcmpW x y) 0 = false) := by subst ha hb; exact ⟨fun h => (flt (fun g => by have := Int64.lt_iff_toInt_lt.mp ((lw_gt x y).mp g); omega)).2.2.2, fun h => (tlt ((lw_gt x y).mpr (Int64.lt_iff_toInt_lt.mpr (by omega)))).2.2.2⟩
theorem o_ifnullY (S : St p l e R s m args below meth c Z own bytes ml n0 ret nm T h cells slots) {o : Int} (hd : decode bytes pc = .ok (.ifnull o, 3)) (ho : 0 ≤ (pc : Int) + o) (hq : ((pc : Int) + o).toNat = q) (k : Wp p e below PO T (mkF m q L st)) : Wp p e below PO T (mkF m pc L (.null :: st)) :=
  o_st S (fun t X hx hy r => XS.ifnullYes X hx rfl rfl (hb hy hd) rfl ho hq r) k
theorem o_ifnullN (S : St p l e R s m args below meth c Z own bytes ml n0 ret nm T h cells slots) {o : Int} {b : Addr} (hd : decode bytes pc = .ok (.ifnull o, 3)) (hq : pc + 3 = q) (k : Wp p e below PO T (mkF m q L st)) : Wp p e below PO T (mkF m pc L (.ref b :: st)) := by
  subst hq
  exact o_st S (fun t X hx hy r => XS.ifnullNo X hx rfl (hb hy hd) rfl r) k
theorem o_ifnonnullY (S : St p l e R s m args below meth c Z own bytes ml n0 ret nm T h cells slots) {o : Int} {b : Addr} (hd : decode bytes pc = .ok (.ifnonnull o, 3)) (ho : 0 ≤ (pc : Int) + o) (hq : ((pc : Int) + o).toNat = q) (k : Wp p e below PO T (mkF m q L st)) : Wp p e below PO T (mkF m pc L (.ref b :: st)) :=
  o_st S (fun t X hx hy r => XS.ifnonnullYes X hx rfl rfl (hb hy hd) rfl ho hq r) k
theorem o_ifnonnullN (S : St p l e R s m args below meth c Z own bytes ml n0 ret nm T h cells slots) {o : Int} (hd : decode bytes pc = .ok (.ifnonnull o, 3)) (hq : pc + 3 = q) (k : Wp p e below PO T (mkF m q L st)) : Wp p e below PO T (mkF m pc L (.null :: st)) := by
  subst hq
  exact o_st S (fun t X hx hy r => XS.ifnonnullNo X hx rfl (hb hy hd) rfl r) k
/-! returns -/
theorem o_ret {Q : Option Value → Heap → Prop} {w : Option Value} (S : St p l e R s m args below meth c Z own bytes ml n0 ret nm T h cells slots) {g : JFrame} (hv : meth.sig.returnType = none → w = none) (hc : cells ≤ R.cells) (hs : slots ≤ R.slots) (qq : Q w h)
    (hst : ∀ fs : List Frame, At T m c below → T.vm.method? m = some meth → p.tables.exec = Jvm.exec → c.code = bytes → (∀ locs, Stand p l e R s m args below meth c T locs cells slots → (∀ (f : JFrame) (acts : List Action), f.method = m → f.locked = none → f.entered = [] → (doReturn e (T.setTop f) acts w).1 = T.setFrames fs) → Steps p.tables e below (T.setTop g) (T.setFrames fs))) : Wp p e below (Po s n0 R Q) T g := by
  obtain ⟨locs, X, N, eT, hx, hZ, hown, hby, hml, hlk, hn, hrt, hnm⟩ := S
  obtain ⟨fs, hr, hrun, hended, hW, hsame⟩ := X.leave (v := w) hv hlk
  refine ⟨_, _, hst fs X.here X.method' hx hby locs X hr, hrun, hended, _, _, rfl, ⟨?_, N⟩, ⟨_, rfl⟩, hW, hsame.mono hc hs⟩
  show Q w T.heap
  rw [eT]; exact qq
theorem o_retI {Q : Option Value → Heap → Prop} {z : Int32} (S : St p l e R s m args below meth c Z own bytes ml n0 ret nm T h cells slots) (hret : ret = some .int) (hd : decode bytes pc = .ok (.ireturn, 1)) (hc : cells ≤ R.cells) (hs : slots ≤ R.slots) (qq : Q (some (.int z)) h) : Wp p e below (Po s n0 R Q) T (mkF m pc L (.int z :: st)) := by
  have hrt : meth.sig.returnType = some .int := by obtain ⟨locs, X, N, eT, hx, hZ, hown, hby, hml, hlk, hn, hrt, hnm⟩ := S; rw [hrt, hret]
  refine o_ret S (w := some (.int z)) (fun h => by rw [hrt] at h; cases h) hc hs qq fun fs hA hm hx hby locs X hr => ?_
  exact retOut X hx hrt rfl (Or.inl ⟨rfl, Or.inl rfl, z, rfl⟩) (hb hby hd) hr
theorem o_retN {Q : Option Value → Heap → Prop} {z : Int32} {t : FieldType} (S : St p l e R s m args below meth c Z own bytes ml n0 ret nm T h cells slots) (hret : ret = some t) (ht : t = .boolean ∨ t = .byte ∨ t = .char ∨ t = .short) (hd : decode bytes pc = .ok (.ireturn, 1)) (hc : cells ≤ R.cells) (hs : slots ≤ R.slots) (hn : narrow t (.int z) = .int z) (qq : Q (some (.int z)) h) : Wp p e below (Po s n0 R Q) T (mkF m pc L (.int z :: st)) := by
  have hrt : meth.sig.returnType = some t := by obtain ⟨locs, X, N, eT, hx, hZ, hown, hby, hml, hlk, hn, hrt, hnm⟩ := S; rw [hrt, hret]
  refine o_ret S (w := some (.int z)) (fun h => by rw [hrt] at h; cases h) hc hs qq fun fs hA hm hx hby locs X hr => ?_
  exact retOut X hx hrt hn (Or.inl ⟨rfl, Or.inr ht, z, rfl⟩) (hb hby hd) hr
theorem o_retJ {Q : Option Value → Heap → Prop} {z : Int64} (S : St p l e R s m args below meth c Z own bytes ml n0 ret nm T h cells slots) (hret : ret = some .long) (hd : decode bytes pc = .ok (.lreturn, 1)) (hc : cells ≤ R.cells) (hs : slots ≤ R.slots) (qq : Q (some (.long z)) h) : Wp p e below (Po s n0 R Q) T (mkF m pc L (.long z :: st)) := by
  have hrt : meth.sig.returnType = some .long := by obtain ⟨locs, X, N, eT, hx, hZ, hown, hby, hml, hlk, hn, hrt, hnm⟩ := S; rw [hrt, hret]
  refine o_ret S (w := some (.long z)) (fun h => by rw [hrt] at h; cases h) hc hs qq fun fs hA hm hx hby locs X hr => ?_
  exact retOut X hx hrt rfl (Or.inr (Or.inl ⟨rfl, rfl, z, rfl⟩)) (hb hby hd) hr
theorem o_retR {Q : Option Value → Heap → Prop} {z : Value} {t : FieldType} (S : St p l e R s m args below meth c Z own bytes ml n0 ret nm T h cells slots) (hret : ret = some t) (ht : t.isReference = true) (hz : z.isRef = true) (hn : narrow t z = z) (hd : decode bytes pc = .ok (.areturn, 1)) (hc : cells ≤ R.cells) (hs : slots ≤ R.slots) (qq : Q (some z) h) : Wp p e below (Po s n0 R Q) T (mkF m pc L (z :: st)) := by
  have hrt : meth.sig.returnType = some t := by obtain ⟨locs, X, N, eT, hx, hZ, hown, hby, hml, hlk, hn, hrt, hnm⟩ := S; rw [hrt, hret]
  refine o_ret S (w := some z) (fun h => by rw [hrt] at h; cases h) hc hs qq fun fs hA hm hx hby locs X hr => ?_
  exact retOut X hx hrt hn (Or.inr (Or.inr (Or.inr (Or.inr ⟨rfl, ht, hz⟩)))) (hb hby hd) hr
theorem o_retV {Q : Option Value → Heap → Prop} (S : St p l e R s m args below meth c Z own bytes ml n0 ret nm T h cells slots) (hret : ret = none) (hd : decode bytes pc = .ok (.return_, 1)) (hc : cells ≤ R.cells) (hs : slots ≤ R.slots) (qq : Q none h) : Wp p e below (Po s n0 R Q) T (mkF m pc L []) := by
  have hrt : meth.sig.returnType = none := by obtain ⟨locs, X, N, eT, hx, hZ, hown, hby, hml, hlk, hn, hrt, hnm⟩ := S; rw [hrt, hret]
  exact o_ret S (w := none) (fun _ => rfl) hc hs qq fun fs hA hm hx hby locs X hr => X.returnOut hx hrt (hb hby hd) hr

/-! calls -/
theorem o_cut {A B : Prop} (k2 : A → B) (k1 : A) : B := k2 k1
theorem o_cutS {B : Prop} (S : St p l e R s m args below meth c Z own bytes ml n0 ret nm T h cells slots) {G : State → Prop} (k2 : (∀ T', St p l e R s m args below meth c Z own bytes ml n0 ret nm T' h cells slots → G T') → B) (k1 : ∀ T', St p l e R s m args below meth c Z own bytes ml n0 ret nm T' h cells slots → G T') : B := k2 k1
def Qp (r : Option Value) (h0 : Heap) : Option Value → Heap → Prop := fun v h => v = r ∧ h = h0
theorem o_si {a b : Int32} (h : a = b) : some (Value.int a) = some (Value.int b) := by rw [h]
theorem o_sj {a b : Int64} (h : a = b) : some (Value.long a) = some (Value.long b) := by rw [h]
theorem o_callS (S : St p l e R s m args below meth c Z own bytes ml n0 ret nm T h cells slots) {i : Nat} {y : MethodName} {bytes' : ByteArray} {maxL : Nat} {ret' : Option FieldType} {rm : Room} {W : Nat} {argsL rest : List Value} {Q : Option Value → Heap → Prop} {ps : List FieldType} {r' : Option FieldType}
    (w1 : (Jvm.Cond.methodLink own i y).before a0 Z = true) (w2 : (Jvm.Cond.static y).before a0 Z = true) (w3 : (Jvm.Cond.initialized y.cls).before a0 Z = true) (w4 : (Jvm.Cond.code y bytes' maxL ret').before a0 Z = true) (hy : y.cls ≠ "java/lang/invoke/MethodHandle" ∧ y.cls ≠ "java/lang/invoke/VarHandle")
    (K : Ct l y bytes' maxL ret' [] rm Z h n0 argsL.toArray Q) (hf : rm.frames + 1 ≤ R.frames) (hl : W + (maxL + 11) + rm.locals ≤ R.locals) (hL : L.size = ml) (hst : st = argsL.reverse ++ rest) (hsig : parseMethodDescriptor y.desc = some ⟨ps, r'⟩) (hlen : argsL.length = ps.length) (hW : (rest.map fun v => v.category).sum ≤ W)
    (hd : decode bytes pc = .ok (.invokestatic i, 3)) (hq : pc + 3 = q) (hc : cells + rm.cells ≤ R.cells) (hs : slots + rm.slots ≤ R.slots) (k : ∀ T' h' v, St p l e R s m args below meth c Z own bytes ml n0 ret nm T' h' (cells + rm.cells) (slots + rm.slots) → Q v h' → Wp p e below PO T' (mkF m q L (v.toList ++ rest))) : Wp p e below PO T (mkF m pc L st) := by
  subst hq
  obtain ⟨locs, X, N, eT, hx, hZ, hown, hby, hml, hlk, hn, hrt, hnm⟩ := S
  have hb0 := backOf (R := R) (s := s) (p := p) (e := e) (below := below) (args := args) (len := 3) (W := W) (Q := fun v h L => Q v h ∧ Fr n0 L) K hZ w4 w3 hf hl
  obtain ⟨v, vm, ⟨T', L', k', n'⟩, hwm, X', ⟨Lc, hQ, l1, y1, z1⟩, st1⟩ := Jvm.LawKit.callS X hx (y := y) hown (mvT hZ w1) (mvT hZ w2) (mvT hZ w3) (mvT hZ w4) hy hb0 (g := mkF m pc L st) rfl (by rw [hml]; exact hL) (argsL := argsL) (rest := rest) (lenOf hsig hlen) hst (by show 2 * 0 + _ ≤ _; omega) (hb hby hd) (fun _ _ => ⟨rfl, eT, hc, hs⟩)
  dsimp only [Pt.U, Pt.locs, Pt.cells, Pt.slots] at X' l1 y1 z1 st1 hQ
  subst l1 y1 z1
  exact o_to st1 (k T' T'.heap v ⟨_, X', N.app hQ.2, rfl, hx, hZ, hown, hby, hml, hlk, hn, hrt, hnm⟩ hQ.1)
theorem o_callI (S : St p l e R s m args below meth c Z own bytes ml n0 ret nm T h cells slots) {i : Nat} {y : MethodName} {bytes' : ByteArray} {maxL : Nat} {rm : Room} {W : Nat} {argsL rest : List Value} {Q : Option Value → Heap → Prop} {ps : List FieldType} {r' : Option FieldType} {a : Addr} (hy1 : y.name = "<init>")
    (w1 : (Jvm.Cond.methodLink own i y).before a0 Z = true) (w2 : (Jvm.Cond.instanceMethod y).before a0 Z = true) (w3 : (Jvm.Cond.initialized y.cls).before a0 Z = true) (w4 : (Jvm.Cond.code y bytes' maxL none).before a0 Z = true) (hy : y.cls ≠ "java/lang/invoke/MethodHandle" ∧ y.cls ≠ "java/lang/invoke/VarHandle")
    (K : Ct l y bytes' maxL none [] rm Z h n0 (.ref a :: argsL).toArray Q) (hf : rm.frames + 1 ≤ R.frames) (hl : W + (maxL + 11) + rm.locals ≤ R.locals) (hL : L.size = ml) (hst : st = argsL.reverse ++ .ref a :: rest) (hsig : parseMethodDescriptor y.desc = some ⟨ps, r'⟩) (hlen : argsL.length = ps.length) (hW : (rest.map fun v => v.category).sum ≤ W)
    (hd : decode bytes pc = .ok (.invokespecial i, 3)) (hq : pc + 3 = q) (hc : cells + rm.cells ≤ R.cells) (hs : slots + rm.slots ≤ R.slots) (k : ∀ T' h' v, St p l e R s m args below meth c Z own bytes ml n0 ret nm T' h' (cells + rm.cells) (slots + rm.slots) → Q v h' → Wp p e below PO T' (mkF m q L (v.toList ++ rest))) : Wp p e below PO T (mkF m pc L st) := by
  subst hq
  obtain ⟨locs, X, N, eT, hx, hZ, hown, hby, hml, hlk, hn, hrt, hnm⟩ := S
  have hb0 := backOf (R := R) (s := s) (p := p) (e := e) (below := below) (args := args) (len := 3) (W := W) (Q := fun v h L => Q v h ∧ Fr n0 L) K hZ w4 w3 hf hl
  obtain ⟨v, vm, ⟨T', L', k', n'⟩, hwm, X', ⟨Lc, hQ, l1, y1, z1⟩, st1⟩ := X.specialBack hx (y := y) hy1 hown (mvT hZ w1) (mvT hZ w2) (mvT hZ w4) hy hb0 (g := mkF m pc L st) rfl (by rw [hml]; exact hL) (Steps.refl _) (a := a) (argsL := argsL) (rest := rest) (lenOf hsig hlen) hst (by show 2 * 0 + _ ≤ _; omega) (hb hby hd) (fun _ _ => ⟨rfl, eT, hc, hs⟩)
  dsimp only [Pt.U, Pt.locs, Pt.cells, Pt.slots] at X' l1 y1 z1 st1 hQ
  subst l1 y1 z1
  exact o_to (fun t r => st1.trans r) (k T' T'.heap v ⟨_, X', N.app hQ.2, rfl, hx, hZ, hown, hby, hml, hlk, hn, hrt, hnm⟩ hQ.1)
theorem o_callV (S : St p l e R s m args below meth c Z own bytes ml n0 ret nm T h cells slots) {i : Nat} {y : MethodName} {bytes' : ByteArray} {maxL : Nat} {ret' : Option FieldType} {rm : Room} {W : Nat} {argsL rest : List Value} {Q : Option Value → Heap → Prop} {ps : List FieldType} {r' : Option FieldType} {a : Addr} {z : MethodName} {C : String}
    (w1 : (Jvm.Cond.methodLink own i y).before a0 Z = true) (w2 : (Jvm.Cond.declares y).before a0 Z = true) (w5 : (Jvm.Cond.selects C y z).before a0 Z = true) (w6 : (Jvm.Cond.instanceMethod z).before a0 Z = true) (w3 : (Jvm.Cond.initialized z.cls).before a0 Z = true) (w4 : (Jvm.Cond.code z bytes' maxL ret').before a0 Z = true) (nf : ∀ s' : State, Z.Warmed39 s'.vm → NotFace s' y) (hy : y.cls ≠ "java/lang/invoke/MethodHandle" ∧ y.cls ≠ "java/lang/invoke/VarHandle")
    (E : Exa Z h a C) (K : Ct l z bytes' maxL ret' [] rm Z h n0 (.ref a :: argsL).toArray Q) (hf : rm.frames + 1 ≤ R.frames) (hl : W + (maxL + 11) + rm.locals ≤ R.locals) (hL : L.size = ml) (hst : st = argsL.reverse ++ .ref a :: rest) (hsig : parseMethodDescriptor y.desc = some ⟨ps, r'⟩) (hlen : argsL.length = ps.length) (hW : (rest.map fun v => v.category).sum ≤ W)
    (hd : decode bytes pc = .ok (.invokevirtual i, 3)) (hq : pc + 3 = q) (hc : cells + rm.cells ≤ R.cells) (hs : slots + rm.slots ≤ R.slots) (k : ∀ T' h' v, St p l e R s m args below meth c Z own bytes ml n0 ret nm T' h' (cells + rm.cells) (slots + rm.slots) → Q v h' → Wp p e below PO T' (mkF m q L (v.toList ++ rest))) : Wp p e below PO T (mkF m pc L st) := by
  subst hq
  obtain ⟨locs, X, N, eT, hx, hZ, hown, hby, hml, hlk, hn, hrt, hnm⟩ := S
  have hb0 := backOf (R := R) (s := s) (p := p) (e := e) (below := below) (args := args) (len := 3) (W := W) (Q := fun v h L => Q v h ∧ Fr n0 L) K hZ w4 w3 hf hl
  obtain ⟨cq, kq, qa, qb, qc⟩ := isOf hZ eT E
  obtain ⟨v, vm, ⟨T', L', k', n'⟩, hwm, X', ⟨Lc, hQ, l1, y1, z1⟩, st1⟩ := X.virtualBack hx (y := y) (z := z) hown (mvT hZ w1) (mvT hZ w2) (nf s hZ) (mvT hZ w5) (mvT hZ w6) hy hb0 qa qc (g := mkF m pc L st) rfl (by rw [hml]; exact hL) (Steps.refl _) (argsL := argsL) (rest := rest) (lenOf hsig hlen) hst (by show 2 * 0 + _ ≤ _; omega) (hb hby hd) (fun _ _ => ⟨rfl, eT, hc, hs⟩)
  dsimp only [Pt.U, Pt.locs, Pt.cells, Pt.slots] at X' l1 y1 z1 st1 hQ
  subst l1 y1 z1
  exact o_to (fun t r => st1.trans r) (k T' T'.heap v ⟨_, X', N.app hQ.2, rfl, hx, hZ, hown, hby, hml, hlk, hn, hrt, hnm⟩ hQ.1)
theorem o_nf {y : MethodName} {C : String} (w : (Jvm.Cond.selects C y y).before a0 Z = true) : ∀ s' : State, Z.Warmed39 s'.vm → NotFace s' y := fun s' hZ => notFace_of_selects (args := #[]) (mvT hZ w)
theorem o_callP (S : St p l e R s m args below meth c Z own bytes ml n0 ret nm T h cells slots) {i : Nat} {y : MethodName} {bytes' : ByteArray} {maxL : Nat} {ret' : Option FieldType} {rm : Room} {W : Nat} {argsL rest : List Value} {Q : Option Value → Heap → Prop} {ps : List FieldType} {r' : Option FieldType} {a : Addr}
    (w1 : (Jvm.Cond.methodLink own i y).before a0 Z = true) (w2 : (Jvm.Cond.instanceMethod y).before a0 Z = true) (w5 : (Jvm.Cond.selects y.cls y y).before a0 Z = true) (w6 : (Jvm.Cond.privateMethod y).before a0 Z = true) (w3 : (Jvm.Cond.initialized y.cls).before a0 Z = true) (w4 : (Jvm.Cond.code y bytes' maxL ret').before a0 Z = true) (hy : y.cls ≠ "java/lang/invoke/MethodHandle" ∧ y.cls ≠ "java/lang/invoke/VarHandle")
    (E : Exa Z h a y.cls) (K : Ct l y bytes' maxL ret' [] rm Z h n0 (.ref a :: argsL).toArray Q) (hf : rm.frames + 1 ≤ R.frames) (hl : W + (maxL + 11) + rm.locals ≤ R.locals) (hL : L.size = ml) (hst : st = argsL.reverse ++ .ref a :: rest) (hsig : parseMethodDescriptor y.desc = some ⟨ps, r'⟩) (hlen : argsL.length = ps.length) (hW : (rest.map fun v => v.category).sum ≤ W)
    (hd : decode bytes pc = .ok (.invokevirtual i, 3)) (hq : pc + 3 = q) (hc : cells + rm.cells ≤ R.cells) (hs : slots + rm.slots ≤ R.slots) (k : ∀ T' h' v, St p l e R s m args below meth c Z own bytes ml n0 ret nm T' h' (cells + rm.cells) (slots + rm.slots) → Q v h' → Wp p e below PO T' (mkF m q L (v.toList ++ rest))) : Wp p e below PO T (mkF m pc L st) := by
  subst hq
  obtain ⟨locs, X, N, eT, hx, hZ, hown, hby, hml, hlk, hn, hrt, hnm⟩ := S
  have hb0 := backOf (R := R) (s := s) (p := p) (e := e) (below := below) (args := args) (len := 3) (W := W) (Q := fun v h L => Q v h ∧ Fr n0 L) K hZ w4 w3 hf hl
  obtain ⟨cq, qa, qb⟩ := E.cell
  obtain ⟨v, vm, ⟨T', L', k', n'⟩, hwm, X', ⟨Lc, hQ, l1, y1, z1⟩, st1⟩ := X.privateBack hx (y := y) hown (mvT hZ w1) (mvT hZ w2) (mvT hZ w5) (Cond.privateMethod_at (mvP hZ w6 (args := #[]))) (mvT hZ w4) hy hb0 (g := mkF m pc L st) rfl (by rw [hml]; exact hL) (Steps.refl _) (a := a) (by rw [eT]; exact qa) qb (argsL := argsL) (rest := rest) (lenOf hsig hlen) hst (by show 2 * 0 + _ ≤ _; omega) (hb hby hd) (fun _ _ => ⟨rfl, eT, hc, hs⟩)
  dsimp only [Pt.U, Pt.locs, Pt.cells, Pt.slots] at X' l1 y1 z1 st1 hQ
  subst l1 y1 z1
  exact o_to (fun t r => st1.trans r) (k T' T'.heap v ⟨_, X', N.app hQ.2, rfl, hx, hZ, hown, hby, hml, hlk, hn, hrt, hnm⟩ hQ.1)
theorem o_callS0 (S : St p l e R s m args below meth c Z own bytes ml n0 ret nm T h cells slots) {i : Nat} {y : MethodName} {bytes' : ByteArray} {maxL : Nat} {ret' : Option FieldType} {rm : Room} {W : Nat} {argsL rest : List Value} {ps : List FieldType} {r' : Option FieldType} {st' : List Value} {r : Option Value} 
    (w1 : (Jvm.Cond.methodLink own i y).before a0 Z = true) (w2 : (Jvm.Cond.static y).before a0 Z = true) (w3 : (Jvm.Cond.initialized y.cls).before a0 Z = true) (w4 : (Jvm.Cond.code y bytes' maxL ret').before a0 Z = true) (hy : y.cls ≠ "java/lang/invoke/MethodHandle" ∧ y.cls ≠ "java/lang/invoke/VarHandle")
    (K : Ct l y bytes' maxL ret' [] rm Z h n0 argsL.toArray (Qp r h)) (hf : rm.frames + 1 ≤ R.frames) (hl : W + (maxL + 11) + rm.locals ≤ R.locals) (hL : L.size = ml) (hst : st = argsL.reverse ++ rest) (hsig : parseMethodDescriptor y.desc = some ⟨ps, r'⟩) (hlen : argsL.length = ps.length) (hW : (rest.map fun v => v.category).sum ≤ W)
    (hd : decode bytes pc = .ok (.invokestatic i, 3)) (hq : pc + 3 = q) (hc : cells + rm.cells ≤ R.cells) (hs : slots + rm.slots ≤ R.slots) (hst' : r.toList ++ rest = st') (k : ∀ T', St p l e R s m args below meth c Z own bytes ml n0 ret nm T' h (cells + rm.cells) (slots + rm.slots) → Wp p e below PO T' (mkF m q L st')) : Wp p e below PO T (mkF m pc L st) := by
  subst hst'
  exact o_callS S w1 w2 w3 w4 hy K hf hl hL hst hsig hlen hW hd hq hc hs (fun T' h' v S' hQ => by obtain ⟨hv, hh⟩ := hQ; subst hv; rw [hh] at S'; exact k T' S')
theorem o_callI0 (S : St p l e R s m args below meth c Z own bytes ml n0 ret nm T h cells slots) {i : Nat} {y : MethodName} {bytes' : ByteArray} {maxL : Nat} {rm : Room} {W : Nat} {argsL rest : List Value} {ps : List FieldType} {r' : Option FieldType} {st' : List Value} {r : Option Value} {a : Addr} (hy1 : y.name = "<init>")
    (w1 : (Jvm.Cond.methodLink own i y).before a0 Z = true) (w2 : (Jvm.Cond.instanceMethod y).before a0 Z = true) (w3 : (Jvm.Cond.initialized y.cls).before a0 Z = true) (w4 : (Jvm.Cond.code y bytes' maxL none).before a0 Z = true) (hy : y.cls ≠ "java/lang/invoke/MethodHandle" ∧ y.cls ≠ "java/lang/invoke/VarHandle")
    (K : Ct l y bytes' maxL none [] rm Z h n0 (.ref a :: argsL).toArray (Qp r h)) (hf : rm.frames + 1 ≤ R.frames) (hl : W + (maxL + 11) + rm.locals ≤ R.locals) (hL : L.size = ml) (hst : st = argsL.reverse ++ .ref a :: rest) (hsig : parseMethodDescriptor y.desc = some ⟨ps, r'⟩) (hlen : argsL.length = ps.length) (hW : (rest.map fun v => v.category).sum ≤ W)
    (hd : decode bytes pc = .ok (.invokespecial i, 3)) (hq : pc + 3 = q) (hc : cells + rm.cells ≤ R.cells) (hs : slots + rm.slots ≤ R.slots) (hst' : r.toList ++ rest = st') (k : ∀ T', St p l e R s m args below meth c Z own bytes ml n0 ret nm T' h (cells + rm.cells) (slots + rm.slots) → Wp p e below PO T' (mkF m q L st')) : Wp p e below PO T (mkF m pc L st) := by
  subst hst'
  exact o_callI S hy1 w1 w2 w3 w4 hy K hf hl hL hst hsig hlen hW hd hq hc hs (fun T' h' v S' hQ => by obtain ⟨hv, hh⟩ := hQ; subst hv; rw [hh] at S'; exact k T' S')
theorem o_callV0 (S : St p l e R s m args below meth c Z own bytes ml n0 ret nm T h cells slots) {i : Nat} {y : MethodName} {bytes' : ByteArray} {maxL : Nat} {ret' : Option FieldType} {rm : Room} {W : Nat} {argsL rest : List Value} {ps : List FieldType} {r' : Option FieldType} {st' : List Value} {r : Option Value} {a : Addr} {z : MethodName} {C : String}
    (w1 : (Jvm.Cond.methodLink own i y).before a0 Z = true) (w2 : (Jvm.Cond.declares y).before a0 Z = true) (w5 : (Jvm.Cond.selects C y z).before a0 Z = true) (w6 : (Jvm.Cond.instanceMethod z).before a0 Z = true) (w3 : (Jvm.Cond.initialized z.cls).before a0 Z = true) (w4 : (Jvm.Cond.code z bytes' maxL ret').before a0 Z = true) (nf : ∀ s' : State, Z.Warmed39 s'.vm → NotFace s' y) (hy : y.cls ≠ "java/lang/invoke/MethodHandle" ∧ y.cls ≠ "java/lang/invoke/VarHandle")
    (E : Exa Z h a C) (K : Ct l z bytes' maxL ret' [] rm Z h n0 (.ref a :: argsL).toArray (Qp r h)) (hf : rm.frames + 1 ≤ R.frames) (hl : W + (maxL + 11) + rm.locals ≤ R.locals) (hL : L.size = ml) (hst : st = argsL.reverse ++ .ref a :: rest) (hsig : parseMethodDescriptor y.desc = some ⟨ps, r'⟩) (hlen : argsL.length = ps.length) (hW : (rest.map fun v => v.category).sum ≤ W)
    (hd : decode bytes pc = .ok (.invokevirtual i, 3)) (hq : pc + 3 = q) (hc : cells + rm.cells ≤ R.cells) (hs : slots + rm.slots ≤ R.slots) (hst' : r.toList ++ rest = st') (k : ∀ T', St p l e R s m args below meth c Z own bytes ml n0 ret nm T' h (cells + rm.cells) (slots + rm.slots) → Wp p e below PO T' (mkF m q L st')) : Wp p e below PO T (mkF m pc L st) := by
  subst hst'
  exact o_callV S w1 w2 w5 w6 w3 w4 nf hy E K hf hl hL hst hsig hlen hW hd hq hc hs (fun T' h' v S' hQ => by obtain ⟨hv, hh⟩ := hQ; subst hv; rw [hh] at S'; exact k T' S')
theorem o_callP0 (S : St p l e R s m args below meth c Z own bytes ml n0 ret nm T h cells slots) {i : Nat} {y : MethodName} {bytes' : ByteArray} {maxL : Nat} {ret' : Option FieldType} {rm : Room} {W : Nat} {argsL rest : List Value} {ps : List FieldType} {r' : Option FieldType} {st' : List Value} {r : Option Value} {a : Addr}
    (w1 : (Jvm.Cond.methodLink own i y).before a0 Z = true) (w2 : (Jvm.Cond.instanceMethod y).before a0 Z = true) (w5 : (Jvm.Cond.selects y.cls y y).before a0 Z = true) (w6 : (Jvm.Cond.privateMethod y).before a0 Z = true) (w3 : (Jvm.Cond.initialized y.cls).before a0 Z = true) (w4 : (Jvm.Cond.code y bytes' maxL ret').before a0 Z = true) (hy : y.cls ≠ "java/lang/invoke/MethodHandle" ∧ y.cls ≠ "java/lang/invoke/VarHandle")
    (E : Exa Z h a y.cls) (K : Ct l y bytes' maxL ret' [] rm Z h n0 (.ref a :: argsL).toArray (Qp r h)) (hf : rm.frames + 1 ≤ R.frames) (hl : W + (maxL + 11) + rm.locals ≤ R.locals) (hL : L.size = ml) (hst : st = argsL.reverse ++ .ref a :: rest) (hsig : parseMethodDescriptor y.desc = some ⟨ps, r'⟩) (hlen : argsL.length = ps.length) (hW : (rest.map fun v => v.category).sum ≤ W)
    (hd : decode bytes pc = .ok (.invokevirtual i, 3)) (hq : pc + 3 = q) (hc : cells + rm.cells ≤ R.cells) (hs : slots + rm.slots ≤ R.slots) (hst' : r.toList ++ rest = st') (k : ∀ T', St p l e R s m args below meth c Z own bytes ml n0 ret nm T' h (cells + rm.cells) (slots + rm.slots) → Wp p e below PO T' (mkF m q L st')) : Wp p e below PO T (mkF m pc L st) := by
  subst hst'
  exact o_callP S w1 w2 w5 w6 w3 w4 hy E K hf hl hL hst hsig hlen hW hd hq hc hs (fun T' h' v S' hQ => by obtain ⟨hv, hh⟩ := hQ; subst hv; rw [hh] at S'; exact k T' S')
/-! the heap -/
theorem o_initO (S : St p l e R s m args below meth c Z own bytes ml n0 ret nm T h cells slots) {i W : Nat} {a : Addr} (w1 : (Jvm.Cond.methodLink own i Lib.objectInit).before a0 Z = true) (w2 : (Jvm.Cond.instanceMethod Lib.objectInit).before a0 Z = true) (w3 : (Jvm.Cond.code Lib.objectInit ⟨#[0xb1]⟩ 1 none).before a0 Z = true) (hL : L.size = ml) (hd : decode bytes pc = .ok (.invokespecial i, 3)) (hq : pc + 3 = q) (hf : 1 ≤ R.frames) (hW : (st.map fun v => v.category).sum ≤ W) (hl : W + 12 ≤ R.locals)
    (k : ∀ T', St p l e R s m args below meth c Z own bytes ml n0 ret nm T' h cells slots → Wp p e below PO T' (mkF m q L st)) : Wp p e below PO T (mkF m pc L (.ref a :: st)) := by
  subst hq
  obtain ⟨locs, X, N, eT, hx, hZ, hown, hby, hml, hlk, hn, hrt, hnm⟩ := S
  obtain ⟨T', X', e', st'⟩ := initO X hx hZ hown w1 w2 w3 eT (g := mkF m pc L (.ref a :: st)) rfl (by rw [hml]; exact hL) rfl (hb hby hd) hf (W := W) (by show 2 * 0 + _ ≤ _; omega) hl
  exact o_to st' (k T' ⟨_, X', N, e', hx, hZ, hown, hby, hml, hlk, hn, hrt, hnm⟩)
theorem o_getF (S : St p l e R s m args below meth c Z own bytes ml n0 ret nm T h cells slots) {i : Nat} {R0 O n d : String} {a : Addr} {v : Value} (w : (Jvm.Cond.fieldLink own i R0 n d).before a0 Z = true) (via : Via Z R0 O n d) (F : Fld Z h a O n d v) (hd : decode bytes pc = .ok (.getfield i, 3)) (hq : pc + 3 = q)
    (k : ∀ T', St p l e R s m args below meth c Z own bytes ml n0 ret nm T' h cells slots → Wp p e below PO T' (mkF m q L (v :: st))) : Wp p e below PO T (mkF m pc L (.ref a :: st)) := by
  subst hq
  obtain ⟨locs, X, N, eT, hx, hZ, hown, hby, hml, hlk, hn, hrt, hnm⟩ := S
  obtain ⟨T', X', e', st'⟩ := getF X hx hZ hown (host := "") (Or.inl w) via eT F (g := mkF m pc L (.ref a :: st)) rfl rfl (hb hby hd)
  exact o_to st' (k T' ⟨_, X', N, e', hx, hZ, hown, hby, hml, hlk, hn, hrt, hnm⟩)
theorem o_putF (S : St p l e R s m args below meth c Z own bytes ml n0 ret nm T h cells slots) {i kk : Nat} {R0 O n d C : String} {ty : FieldType} {a : Addr} {v old : Value} (w : (Jvm.Cond.fieldLink own i R0 n d).before a0 Z = true) (via : Via Z R0 O n d) (F : Fld Z h a O n d old) (E : Exa Z h a C) (Lw : (Jvm.Cond.lays C O n d).before a0 Z = true ∨ ((Jvm.Cond.laysFinal C O n d).before a0 Z = true ∧ own = O ∧ nm = "<init>")) (wi : (Jvm.Cond.instantiable C kk).before a0 Z = true) (hty : parseFieldDescriptor d = some ty) (hn' : narrow ty v = v) (hf : fits ty v = true) (ga : n0 ≤ a) (hd : decode bytes pc = .ok (.putfield i, 3)) (hq : pc + 3 = q)
    (k : ∀ T' h', St p l e R s m args below meth c Z own bytes ml n0 ret nm T' h' cells slots → Wr h h' a (Jvm.RoadKit.slotOf Z O n d) v → Fld Z h' a O n d v → Wp p e below PO T' (mkF m q L st)) : Wp p e below PO T (mkF m pc L (v :: .ref a :: st)) := by
  subst hq
  obtain ⟨locs, X, N, eT, hx, hZ, hown, hby, hml, hlk, hn, hrt, hnm⟩ := S
  obtain ⟨T', h', X', e', W', st'⟩ := putF X hx hZ hown (host := "") (Or.inl w) via eT F E (Lw.imp id fun q => ⟨q.1, q.2.1, by rw [hnm]; exact q.2.2⟩) wi hty hn' hf (g := mkF m pc L (v :: .ref a :: st)) rfl rfl (hb hby hd)
  exact o_to st' (k T' h' ⟨_, X', Fr.snoc X' N ga, e', hx, hZ, hown, hby, hml, hlk, hn, hrt, hnm⟩ W' (F.same W'))
theorem o_new (S : St p l e R s m args below meth c Z own bytes ml n0 ret nm T h cells slots) {i n : Nat} {C : String} (w : (Jvm.Cond.classLink own i C).before a0 Z = true) (wi : (Jvm.Cond.instantiable C n).before a0 Z = true) (wz : (Jvm.Cond.initialized C).before a0 Z = true) (hd : decode bytes pc = .ok (.new i, 3)) (hq : pc + 3 = q) (hc : cells + 1 ≤ R.cells) (hl : slots + n ≤ R.slots)
    (k : ∀ T' h' a, St p l e R s m args below meth c Z own bytes ml n0 ret nm T' h' (cells + 1) (slots + n) → a = h.size → n0 ≤ a → Ext h h' → Exa Z h' a C → (∀ {O nm d : String} {ty : FieldType}, Laid Z a0 C O nm d → parseFieldDescriptor d = some ty → Fld Z h' a O nm d (defaultValue ty)) → Wp p e below PO T' (mkF m q L (.ref a :: st))) : Wp p e below PO T (mkF m pc L st) := by
  have g0 := o_n0 S
  subst hq
  obtain ⟨locs, X, N, eT, hx, hZ, hown, hby, hml, hlk, hn, hrt, hnm⟩ := S
  obtain ⟨T', h', X', e', E', A', D', -, st'⟩ := newO X hx hZ hown w wi wz eT (g := mkF m pc L st) rfl (hb hby hd) hc hl
  exact o_to st' (k T' h' h.size ⟨_, X', N, e', hx, hZ, hown, hby, hml, hlk, hn, hrt, hnm⟩ rfl g0 E' A' D')
/-! arrays of ints (bytes, booleans ..): the list of what they hold -/
def IA (Z : State) (h : Heap) (a : Addr) (ty : FieldType) (xs : List Int32) : Prop := ∃ c : Cell, Arr Z h a c ty ∧ c.slots.size = xs.length ∧ xs.length < 2147483648 ∧ (∀ i, i < xs.length → c.slots[i]? = some (.int (xs.getD i 0))) ∧ ∀ i, i < xs.length → fits ty (.int (xs.getD i 0)) = true
theorem IA.lt {a : Addr} {ty : FieldType} {xs : List Int32} (F : IA Z h a ty xs) : a < h.size := by obtain ⟨c, A, -⟩ := F; exact A.lt
theorem IA.ext {h' : Heap} {a : Addr} {ty : FieldType} {xs : List Int32} (F : IA Z h a ty xs) (E : Ext h h') : IA Z h' a ty xs := by obtain ⟨c, A, r⟩ := F; exact ⟨c, A.ext E, r⟩
theorem IA.other {h' : Heap} {a b : Addr} {sl : Nat} {v : Value} {ty : FieldType} {xs : List Int32} (F : IA Z h b ty xs) (W : Wr h h' a sl v) (q : b ≠ a) : IA Z h' b ty xs := by obtain ⟨c, A, r⟩ := F; exact ⟨c, A.other W q, r⟩
theorem IA.keep {h' : Heap} {a : Addr} {ws : List Addr} {ty : FieldType} {xs : List Int32} (F : IA Z h a ty xs) (K : Keep h h' ws) (q : a ∉ ws) : IA Z h' a ty xs := by obtain ⟨c, A, r⟩ := F; exact ⟨c, ⟨K.2.1 a c A.1 q, A.2⟩, r⟩
theorem IA.len {a : Addr} {ty : FieldType} {xs : List Int32} (F : IA Z h a ty xs) : xs.length < 2147483648 := by obtain ⟨c, A, h1, h2, -⟩ := F; exact h2
theorem o_nat {j : Int32} (h0 : 0 ≤ j.toInt) : ¬ j < 0 ∧ (j.toNatClampNeg : Int) = j.toInt := by
  have h1 : ¬ j < 0 := fun q => by have := Int32.lt_iff_toInt_lt.mp q; have : (0 : Int32).toInt = 0 := rfl; omega
  exact ⟨h1, (nat_of h1).symm⟩
theorem o_inb {j : Int32} {n N : Nat} (h0 : 0 ≤ j.toInt) (h1 : j.toInt < n) (hN : N = n) : ¬ (j < 0 ∨ N ≤ j.toNatClampNeg) := by
  obtain ⟨g1, g2⟩ := o_nat h0
  rintro (q | q)
  · exact g1 q
  · omega
theorem IA.set {h' : Heap} {a : Addr} {ty : FieldType} {xs : List Int32} {j x : Int32} (F : IA Z h a ty xs) (W : Wr h h' a j.toNatClampNeg (.int x)) (hf : fits ty (.int x) = true) : IA Z h' a ty (xs.set j.toNatClampNeg x) := by
  obtain ⟨c, A, h1, h2, h3, h4⟩ := F
  refine ⟨c.setSlot j.toNatClampNeg (.int x), A.same W, by rw [sz_set, h1]; simp, by simpa using h2, fun i hi => ?_, fun i hi => ?_⟩
  · rw [List.length_set] at hi
    by_cases q : j.toNatClampNeg = i
    · subst q
      have : j.toNatClampNeg < c.slots.size := by rw [h1]; exact hi
      simp [Cell.setSlot, this, hi, List.getD_eq_getElem?_getD]
    · have := h3 i hi
      simp only [Cell.setSlot, Array.getElem?_setIfInBounds_ne q, this, List.getD_eq_getElem?_getD, List.getElem?_set_ne q]
  · rw [List.length_set] at hi
    by_cases q : j.toNatClampNeg = i
    · subst q; simpa [hi, List.getD_eq_getElem?_getD] using hf
    · have := h4 i hi
      simpa only [List.getD_eq_getElem?_getD, List.getElem?_set_ne q] using this
theorem IA.new {a : Addr} {ty : FieldType} {k : ClassId} {n : Int32} (A : Arr Z h a (newA k ty n) ty) (hn : ¬ n < 0) (hd : defaultValue ty = .int 0) (hf : fits ty (.int 0) = true) : IA Z h a ty (List.replicate n.toNatClampNeg 0) := by
  have := (back32 hn).2
  refine ⟨_, A, by simp [newA], by simpa using this, fun i hi => ?_, fun i hi => ?_⟩
  · have hi' : i < n.toNatClampNeg := by simpa using hi
    simp [newA, hd, hi', List.getD_eq_getElem?_getD]
  · have hi' : i < n.toNatClampNeg := by simpa using hi
    simpa [List.getD_eq_getElem?_getD, hi'] using hf
theorem o_newarr (S : St p l e R s m args below meth c Z own bytes ml n0 ret nm T h cells slots) {aty : ArrayType} {n : Int32} {cap : Nat} (w : (Jvm.Cond.arrayClass (newarray.typeOf aty)).before a0 Z = true) (hd : decode bytes pc = .ok (.newarray aty, 2)) (hq : pc + 2 = q) (hn0 : 0 ≤ n.toInt) (hcap : n.toInt ≤ cap) (hb8 : cap * 8 ≤ 536870912) (hc : cells + 1 ≤ R.cells) (hl : slots + cap ≤ R.slots)
    (k : ∀ T' h' a cA, St p l e R s m args below meth c Z own bytes ml n0 ret nm T' h' (cells + 1) (slots + cap) → a = h.size → n0 ≤ a → Ext h h' → Arr Z h' a (newA cA (newarray.typeOf aty) n) (newarray.typeOf aty) → Wp p e below PO T' (mkF m q L (.ref a :: st))) : Wp p e below PO T (mkF m pc L (.int n :: st)) := by
  have g0 := o_n0 S
  obtain ⟨g1, g2⟩ := o_nat hn0
  subst hq
  obtain ⟨locs, X, N, eT, hx, hZ, hown, hby, hml, hlk, hn, hrt, hnm⟩ := S
  obtain ⟨T', h', cA, X', e', E', A', st'⟩ := newP X hx hZ w eT (g := mkF m pc L (.int n :: st)) rfl (hb hby hd) rfl g1 (cap := cap) (by omega) hb8 hc hl
  exact o_to st' (k T' h' h.size cA ⟨_, X', N, e', hx, hZ, hown, hby, hml, hlk, hn, hrt, hnm⟩ rfl g0 E' A')
theorem o_iaload (S : St p l e R s m args below meth c Z own bytes ml n0 ret nm T h cells slots) {a : Addr} {j v : Int32} {xs : List Int32} (F : IA Z h a .int xs) (h0 : 0 ≤ j.toInt) (h1 : j.toInt < xs.length) (hv : xs.getD j.toNatClampNeg 0 = v) (hd : decode bytes pc = .ok (.iaload, 1)) (hq : pc + 1 = q) (k : Wp p e below PO T (mkF m q L (.int v :: st))) : Wp p e below PO T (mkF m pc L (.int j :: .ref a :: st)) := by
  subst hq hv
  obtain ⟨locs, X, N, eT, hx, hZ, hown, hby, hml, hlk, hn, hrt, hnm⟩ := S
  obtain ⟨cl, A, g1, g2, g3, g4⟩ := F
  have g5 := (o_nat h0).2
  exact o_to (X.iaload hx (j := j) (by rw [eT]; exact A.1) (State.isArrayOf_alike hZ.alike A.2.1) A.2.2 (o_inb h0 h1 g1) (g3 _ (by omega)) (g := mkF m pc L (.int j :: .ref a :: st)) rfl rfl (hb hby hd)) k
theorem o_baload (S : St p l e R s m args below meth c Z own bytes ml n0 ret nm T h cells slots) {a : Addr} {j v : Int32} {xs : List Int32} (F : IA Z h a .byte xs) (h0 : 0 ≤ j.toInt) (h1 : j.toInt < xs.length) (hv : xs.getD j.toNatClampNeg 0 = v) (hd : decode bytes pc = .ok (.baload, 1)) (hq : pc + 1 = q) (k : Wp p e below PO T (mkF m q L (.int v :: st))) : Wp p e below PO T (mkF m pc L (.int j :: .ref a :: st)) := by
  subst hq hv
  obtain ⟨locs, X, N, eT, hx, hZ, hown, hby, hml, hlk, hn, hrt, hnm⟩ := S
  obtain ⟨cl, A, g1, g2, g3, g4⟩ := F
  have g5 := (o_nat h0).2
  exact o_to (X.baloadBytes hx (j := j) (by rw [eT]; exact A.1) (State.isArrayOf_alike hZ.alike A.2.1) A.2.2 (o_inb h0 h1 g1) (g3 _ (by omega)) (g := mkF m pc L (.int j :: .ref a :: st)) rfl rfl (hb hby hd)) k
theorem o_iastore (S : St p l e R s m args below meth c Z own bytes ml n0 ret nm T h cells slots) {a : Addr} {j x y : Int32} {xs ys : List Int32} (F : IA Z h a .int xs) (h0 : 0 ≤ j.toInt) (h1 : j.toInt < xs.length) (ga : n0 ≤ a) (hx' : x = y) (hys : xs.set j.toNatClampNeg y = ys) (hd : decode bytes pc = .ok (.iastore, 1)) (hq : pc + 1 = q) (k : ∀ T' h', St p l e R s m args below meth c Z own bytes ml n0 ret nm T' h' cells slots → Wr h h' a j.toNatClampNeg (.int y) → IA Z h' a .int ys → Wp p e below PO T' (mkF m q L st)) : Wp p e below PO T (mkF m pc L (.int x :: .int j :: .ref a :: st)) := by
  subst hq hys hx'
  obtain ⟨locs, X, N, eT, hx, hZ, hown, hby, hml, hlk, hn, hrt, hnm⟩ := S
  have F' := F
  obtain ⟨cl, A, g1, g2, g3, g4⟩ := F
  obtain ⟨T', h', X', e', W', st'⟩ := stI X hx hZ eT A (j := j) (x := x) (o_inb h0 h1 g1) (g := mkF m pc L (.int x :: .int j :: .ref a :: st)) rfl rfl (hb hby hd)
  exact o_to st' (k T' h' ⟨_, X', Fr.snoc X' N ga, e', hx, hZ, hown, hby, hml, hlk, hn, hrt, hnm⟩ W' (F'.set W' rfl))
theorem o_bastore (S : St p l e R s m args below meth c Z own bytes ml n0 ret nm T h cells slots) {a : Addr} {j x y : Int32} {xs ys : List Int32} (F : IA Z h a .byte xs) (h0 : 0 ≤ j.toInt) (h1 : j.toInt < xs.length) (ga : n0 ≤ a) (hx' : x.toInt8.toInt32 = y) (hys : xs.set j.toNatClampNeg y = ys) (hd : decode bytes pc = .ok (.bastore, 1)) (hq : pc + 1 = q) (k : ∀ T' h', St p l e R s m args below meth c Z own bytes ml n0 ret nm T' h' cells slots → Wr h h' a j.toNatClampNeg (.int y) → IA Z h' a .byte ys → Wp p e below PO T' (mkF m q L st)) : Wp p e below PO T (mkF m pc L (.int x :: .int j :: .ref a :: st)) := by
  subst hq hys hx'
  obtain ⟨locs, X, N, eT, hx, hZ, hown, hby, hml, hlk, hn, hrt, hnm⟩ := S
  have F' := F
  obtain ⟨cl, A, g1, g2, g3, g4⟩ := F
  obtain ⟨T', h', X', e', W', st'⟩ := stB X hx hZ eT A (j := j) (x := x) (o_inb h0 h1 g1) (g := mkF m pc L (.int x :: .int j :: .ref a :: st)) rfl rfl (hb hby hd)
  exact o_to st' (k T' h' ⟨_, X', Fr.snoc X' N ga, e', hx, hZ, hown, hby, hml, hlk, hn, hrt, hnm⟩ W' (F'.set W' (fits_nar_byte x)))
theorem o_arraylength (S : St p l e R s m args below meth c Z own bytes ml n0 ret nm T h cells slots) {a : Addr} {ty : FieldType} {xs : List Int32} {z : Int32} (F : IA Z h a ty xs) (hz : Int32.ofNat xs.length = z) (hd : decode bytes pc = .ok (.arraylength, 1)) (hq : pc + 1 = q) (k : Wp p e below PO T (mkF m q L (.int z :: st))) : Wp p e below PO T (mkF m pc L (.ref a :: st)) := by
  subst hq hz
  obtain ⟨locs, X, N, eT, hx, hZ, hown, hby, hml, hlk, hn, hrt, hnm⟩ := S
  obtain ⟨cl, A, g1, g2, g3, g4⟩ := F
  exact o_to (X.arraylength hx (by rw [eT]; exact A.1) (State.isArrayOf_alike hZ.alike A.2.1) (g := mkF m pc L (.ref a :: st)) rfl rfl (hb hby hd)) (by rw [g1]; exact k)
theorem o_bid {x : Int32} (h1 : -128 ≤ x.toInt) (h2 : x.toInt < 128) : x.toInt8.toInt32 = x := by
  rw [← Int32.toInt_inj]; have := c_i2b x; omega
theorem o_cid {x : Int32} (h1 : 0 ≤ x.toInt) (h2 : x.toInt < 65536) : x.toUInt32.toUInt16.toUInt32.toInt32 = x := by
  rw [← Int32.toInt_inj]; have := c_i2c x; omega
theorem o_i2bb (x : Int32) : x.toInt8.toInt32.toInt8.toInt32 = x.toInt8.toInt32 := o_bid (c_i2b x).2.1 (c_i2b x).2.2
theorem o_narB {x : Int32} (h1 : -128 ≤ x.toInt) (h2 : x.toInt < 128) : narrow .byte (.int x) = .int x := by show Value.int _ = _; rw [o_bid h1 h2]
theorem o_narC {x : Int32} (h1 : 0 ≤ x.toInt) (h2 : x.toInt < 65536) : narrow .char (.int x) = .int x := by show Value.int _ = _; rw [o_cid h1 h2]
theorem o_narZ {x : Int32} (h : x = 0 ∨ x = 1) : narrow .boolean (.int x) = .int x := by rcases h with rfl | rfl <;> rfl
theorem o_split64 (x M m : Int64) (h1 : M ||| m = -1) (h0 : M &&& m = 0) : (x &&& M) ||| (x &&& m) = x ∧ (x &&& M) &&& m = 0 := by
  refine ⟨?_, by rw [Int64.and_assoc, h0, Int64.and_zero]⟩
  have q : x &&& (M ||| m) = (x &&& M) ||| (x &&& m) := Int64.toBitVec_inj.1 BitVec.and_or_distrib_left
  rw [← q, h1, Int64.and_neg_one]
theorem o_ne32 {x y : Int32} (h : x.toInt ≠ y.toInt) : x ≠ y := fun q => h (by rw [q])
theorem o_eq32 {x y : Int32} (h : x.toInt = y.toInt) : x = y := Int32.toInt_inj.mp h
theorem o_newarrE (S : St p l e R s m args below meth c Z own bytes ml n0 ret nm T h cells slots) {aty : ArrayType} {n : Int32} {cap : Nat} {ad : String} (w : (Jvm.Cond.arrayClass (newarray.typeOf aty)).before a0 Z = true) (had : "[" ++ (newarray.typeOf aty).toString = ad) (hd : decode bytes pc = .ok (.newarray aty, 2)) (hq : pc + 2 = q) (hn0 : 0 ≤ n.toInt) (hcap : n.toInt ≤ cap) (hb8 : cap * 8 ≤ 536870912) (hc : cells + 1 ≤ R.cells) (hl : slots + cap ≤ R.slots)
    (k : ∀ T' h' a cA, St p l e R s m args below meth c Z own bytes ml n0 ret nm T' h' (cells + 1) (slots + cap) → a = h.size → n0 ≤ a → Ext h h' → Arr Z h' a (newA cA (newarray.typeOf aty) n) (newarray.typeOf aty) → Exa Z h' a ad → Wp p e below PO T' (mkF m q L (.ref a :: st))) : Wp p e below PO T (mkF m pc L (.int n :: st)) := by
  have g0 := o_n0 S
  obtain ⟨g1, g2⟩ := o_nat hn0
  subst hq
  obtain ⟨locs, X, N, eT, hx, hZ, hown, hby, hml, hlk, hn, hrt, hnm⟩ := S
  obtain ⟨T', h', cA, X', e', E', A', EE, st'⟩ := newPE X hx hZ w eT (g := mkF m pc L (.int n :: st)) rfl (hb hby hd) rfl g1 (cap := cap) (by omega) hb8 hc hl had
  exact o_to st' (k T' h' h.size cA ⟨_, X', N, e', hx, hZ, hown, hby, hml, hlk, hn, hrt, hnm⟩ rfl g0 E' A' EE)
theorem IA.fitC {a : Addr} {ty : FieldType} {xs : List Int32} {c : Cell} (A : Arr Z h a c ty) (h1 : c.slots.size = xs.length) (h3 : ∀ i, i < xs.length → c.slots[i]? = some (.int (xs.getD i 0))) (h4 : ∀ i, i < xs.length → fits ty (.int (xs.getD i 0)) = true) : FitC Z c := fitC_of A fun i hi v hv => by
  rw [h3 i (by omega)] at hv; cases hv; exact h4 i (by omega)
theorem o_clone (S : St p l e R s m args below meth c Z own bytes ml n0 ret nm T h cells slots) {i W cap : Nat} {ad : String} {a : Addr} {ty : FieldType} {xs : List Int32} (w1 : (Jvm.Cond.methodLink own i ⟨ad, "clone", "()Ljava/lang/Object;"⟩).before a0 Z = true) (w2 : (Jvm.Cond.sameMethod ad "java/lang/Object" "clone" "()Ljava/lang/Object;").before a0 Z = true) (w3 : (Jvm.Cond.native ⟨"java/lang/Object", "clone", "()Ljava/lang/Object;"⟩).before a0 Z = true) (w4 : (Jvm.Cond.instanceMethod ⟨"java/lang/Object", "clone", "()Ljava/lang/Object;"⟩).before a0 Z = true) (w5 : (Jvm.Cond.selects ad ⟨ad, "clone", "()Ljava/lang/Object;"⟩ ⟨"java/lang/Object", "clone", "()Ljava/lang/Object;"⟩).before a0 Z = true) (w6 : (Jvm.Cond.castable ad "java/lang/Cloneable").before a0 Z = true)
    (F : IA Z h a ty xs) (E : Exa Z h a ad) (hL : L.size = ml) (hd : decode bytes pc = .ok (.invokevirtual i, 3)) (hq : pc + 3 = q) (hf : 1 ≤ R.frames) (hW : (st.map fun v => v.category).sum ≤ W) (hl : W + 14 ≤ R.locals) (hcap : xs.length ≤ cap) (hc : cells + 1 ≤ R.cells) (hs : slots + cap ≤ R.slots)
    (k : ∀ T' h' b, St p l e R s m args below meth c Z own bytes ml n0 ret nm T' h' (cells + 1) (slots + cap) → b = h.size → n0 ≤ b → Ext h h' → IA Z h' b ty xs → Exa Z h' b ad → Wp p e below PO T' (mkF m q L (.ref b :: st))) : Wp p e below PO T (mkF m pc L (.ref a :: st)) := by
  have g0 := o_n0 S
  subst hq
  obtain ⟨locs, X, N, eT, hx, hZ, hown, hby, hml, hlk, hn, hrt, hnm⟩ := S
  obtain ⟨cl, A, h1, h2, h3, h4⟩ := F
  obtain ⟨T', h', X', e', Ex, A', E', st'⟩ := cloneA X hx hZ hown w1 w2 w3 w4 w5 w6 eT A E (IA.fitC A h1 h3 h4) (g := mkF m pc L (.ref a :: st)) rfl (by rw [hml]; exact hL) rfl (hb hby hd) hf (W := W) (cap := cap) (by show 2 * 0 + _ ≤ _; omega) hl (by omega) hc hs
  exact o_to st' (k T' h' h.size ⟨_, X', N, e', hx, hZ, hown, hby, hml, hlk, hn, hrt, hnm⟩ rfl g0 Ex ⟨_, A', h1, h2, h3, h4⟩ E')
theorem o_castY (S : St p l e R s m args below meth c Z own bytes ml n0 ret nm T h cells slots) {i : Nat} {K : String} {a : Addr} (w : (Jvm.Cond.classLink own i K).before a0 Z = true) (F : Ins Z h a K true) (hd : decode bytes pc = .ok (.checkcast i, 3)) (hq : pc + 3 = q) (k : ∀ T', St p l e R s m args below meth c Z own bytes ml n0 ret nm T' h cells slots → Wp p e below PO T' (mkF m q L (.ref a :: st))) : Wp p e below PO T (mkF m pc L (.ref a :: st)) := by
  subst hq
  obtain ⟨locs, X, N, eT, hx, hZ, hown, hby, hml, hlk, hn, hrt, hnm⟩ := S
  obtain ⟨T', X', e', st'⟩ := castY X hx hZ hown w eT F (g := mkF m pc L (.ref a :: st)) rfl rfl (hb hby hd)
  exact o_to st' (k T' ⟨_, X', N, e', hx, hZ, hown, hby, hml, hlk, hn, hrt, hnm⟩)
theorem o_instY (S : St p l e R s m args below meth c Z own bytes ml n0 ret nm T h cells slots) {i : Nat} {K : String} {a : Addr} (w : (Jvm.Cond.classLink own i K).before a0 Z = true) (F : Ins Z h a K true) (hd : decode bytes pc = .ok (.instanceof i, 3)) (hq : pc + 3 = q) (k : ∀ T', St p l e R s m args below meth c Z own bytes ml n0 ret nm T' h cells slots → Wp p e below PO T' (mkF m q L (.int 1 :: st))) : Wp p e below PO T (mkF m pc L (.ref a :: st)) := by
  subst hq
  obtain ⟨locs, X, N, eT, hx, hZ, hown, hby, hml, hlk, hn, hrt, hnm⟩ := S
  obtain ⟨T', X', e', st'⟩ := instY X hx hZ hown w eT F (g := mkF m pc L (.ref a :: st)) rfl rfl (hb hby hd)
  exact o_to st' (k T' ⟨_, X', N, e', hx, hZ, hown, hby, hml, hlk, hn, hrt, hnm⟩)
theorem o_instN (S : St p l e R s m args below meth c Z own bytes ml n0 ret nm T h cells slots) {i : Nat} {K C : String} {a : Addr} (w : (Jvm.Cond.classLink own i K).before a0 Z = true) (E : Exa Z h a C) (F : ∃ c t, Z.vm.findClass C = some c ∧ Z.vm.findClass K = some t ∧ Z.vm.assignable c t = false) (hd : decode bytes pc = .ok (.instanceof i, 3)) (hq : pc + 3 = q) (k : ∀ T', St p l e R s m args below meth c Z own bytes ml n0 ret nm T' h cells slots → Wp p e below PO T' (mkF m q L (.int 0 :: st))) : Wp p e below PO T (mkF m pc L (.ref a :: st)) := by
  subst hq
  obtain ⟨locs, X, N, eT, hx, hZ, hown, hby, hml, hlk, hn, hrt, hnm⟩ := S
  obtain ⟨T', X', e', st'⟩ := instNo X hx hZ hown w eT E F (g := mkF m pc L (.ref a :: st)) rfl rfl (hb hby hd)
  exact o_to st' (k T' ⟨_, X', N, e', hx, hZ, hown, hby, hml, hlk, hn, hrt, hnm⟩)
theorem o_instNull (S : St p l e R s m args below meth c Z own bytes ml n0 ret nm T h cells slots) {i : Nat} (hd : decode bytes pc = .ok (.instanceof i, 3)) (hq : pc + 3 = q) (k : Wp p e below PO T (mkF m q L (.int 0 :: st))) : Wp p e below PO T (mkF m pc L (.null :: st)) := by
  subst hq
  obtain ⟨locs, X, N, eT, hx, hZ, hown, hby, hml, hlk, hn, hrt, hnm⟩ := S
  exact o_to (X.instanceofNull hx (g := mkF m pc L (.null :: st)) rfl rfl (hb hby hd)) k
theorem o_getS (S : St p l e R s m args below meth c Z own bytes ml n0 ret nm T h cells slots) {i : Nat} {O n d : String} {v : Value} (w : (Jvm.Cond.fieldLink own i O n d).before a0 Z = true) (F : Sta Z h O n d v) (hd : decode bytes pc = .ok (.getstatic i, 3)) (hq : pc + 3 = q) (k : ∀ T', St p l e R s m args below meth c Z own bytes ml n0 ret nm T' h cells slots → Wp p e below PO T' (mkF m q L (v :: st))) : Wp p e below PO T (mkF m pc L st) := by
  subst hq
  obtain ⟨locs, X, N, eT, hx, hZ, hown, hby, hml, hlk, hn, hrt, hnm⟩ := S
  obtain ⟨T', X', e', st'⟩ := getS X hx hZ (host := "") hown w Via.refl eT F (g := mkF m pc L st) rfl (hb hby hd)
  exact o_to st' (k T' ⟨_, X', N, e', hx, hZ, hown, hby, hml, hlk, hn, hrt, hnm⟩)
theorem o_aaloadA (S : St p l e R s m args below meth c Z own bytes ml n0 ret nm T h cells slots) {a : Addr} {cl : Cell} {ty : FieldType} {j : Int32} {v : Value} (A : Arr Z h a cl ty) (hty : ty.isReference = true) (hin : ¬ (j < 0 ∨ cl.slots.size ≤ j.toNatClampNeg)) (hv : cl.slots[j.toNatClampNeg]? = some v) (hd : decode bytes pc = .ok (.aaload, 1)) (hq : pc + 1 = q) (k : Wp p e below PO T (mkF m q L (v :: st))) : Wp p e below PO T (mkF m pc L (.int j :: .ref a :: st)) := by
  subst hq
  obtain ⟨locs, X, N, eT, hx, hZ, hown, hby, hml, hlk, hn, hrt, hnm⟩ := S
  exact o_to (X.aaload hx (j := j) (by rw [eT]; exact A.1) (State.isArrayOf_alike hZ.alike A.2.1) hty A.2.2 hin hv (g := mkF m pc L (.int j :: .ref a :: st)) rfl rfl (hb hby hd)) k
/-! arrays of references -/
def RA (Z : State) (h : Heap) (a : Addr) (C : String) (vs : List Value) : Prop := ∃ c : Cell, Arr Z h a c (.object C) ∧ Ovr Z c.cls C ∧ c.slots.size = vs.length ∧ vs.length < 2147483648 ∧ ∀ i, i < vs.length → c.slots[i]? = some (vs.getD i .null)
theorem RA.lt {a : Addr} {C : String} {vs : List Value} (F : RA Z h a C vs) : a < h.size := by obtain ⟨c, A, -⟩ := F; exact A.lt
theorem RA.ext {h' : Heap} {a : Addr} {C : String} {vs : List Value} (F : RA Z h a C vs) (E : Ext h h') : RA Z h' a C vs := by obtain ⟨c, A, r⟩ := F; exact ⟨c, A.ext E, r⟩
theorem RA.other {h' : Heap} {a b : Addr} {sl : Nat} {v : Value} {C : String} {vs : List Value} (F : RA Z h b C vs) (W : Wr h h' a sl v) (q : b ≠ a) : RA Z h' b C vs := by obtain ⟨c, A, r⟩ := F; exact ⟨c, A.other W q, r⟩
theorem RA.keep {h' : Heap} {a : Addr} {ws : List Addr} {C : String} {vs : List Value} (F : RA Z h a C vs) (K : Keep h h' ws) (q : a ∉ ws) : RA Z h' a C vs := by obtain ⟨c, A, r⟩ := F; exact ⟨c, ⟨K.2.1 a c A.1 q, A.2⟩, r⟩
theorem RA.set {h' : Heap} {a : Addr} {C : String} {vs : List Value} {j : Int32} {x : Value} (F : RA Z h a C vs) (W : Wr h h' a j.toNatClampNeg x) : RA Z h' a C (vs.set j.toNatClampNeg x) := by
  obtain ⟨c, A, O, h1, h2, h3⟩ := F
  refine ⟨c.setSlot j.toNatClampNeg x, A.same W, O, by rw [sz_set, h1]; simp, by simpa using h2, fun i hi => ?_⟩
  rw [List.length_set] at hi
  by_cases q : j.toNatClampNeg = i
  · subst q
    have : j.toNatClampNeg < c.slots.size := by rw [h1]; exact hi
    simp [Cell.setSlot, this, hi, List.getD_eq_getElem?_getD]
  · have := h3 i hi
    simp only [Cell.setSlot, Array.getElem?_setIfInBounds_ne q, this, List.getD_eq_getElem?_getD, List.getElem?_set_ne q]
theorem o_anewarr (S : St p l e R s m args below meth c Z own bytes ml n0 ret nm T h cells slots) {i : Nat} {C : String} {n : Int32} {cap : Nat} (w1 : (Jvm.Cond.classLink own i C).before a0 Z = true) (w2 : (Jvm.Cond.arrayOver (.object C)).before a0 Z = true) (hd : decode bytes pc = .ok (.anewarray i, 3)) (hq : pc + 3 = q) (hn0 : 0 ≤ n.toInt) (hcap : n.toInt ≤ cap) (hb8 : cap * 8 ≤ 536870912) (hc : cells + 1 ≤ R.cells) (hl : slots + cap ≤ R.slots)
    (k : ∀ T' h' a, St p l e R s m args below meth c Z own bytes ml n0 ret nm T' h' (cells + 1) (slots + cap) → a = h.size → n0 ≤ a → Ext h h' → RA Z h' a C (List.replicate n.toNatClampNeg .null) → Wp p e below PO T' (mkF m q L (.ref a :: st))) : Wp p e below PO T (mkF m pc L (.int n :: st)) := by
  have g0 := o_n0 S
  obtain ⟨g1, g2⟩ := o_nat hn0
  subst hq
  obtain ⟨locs, X, N, eT, hx, hZ, hown, hby, hml, hlk, hn, hrt, hnm⟩ := S
  obtain ⟨T', h', cA, X', e', E', A', O', st'⟩ := newR X hx hZ hown w1 w2 eT (g := mkF m pc L (.int n :: st)) rfl (hb hby hd) rfl g1 (cap := cap) (by omega) hb8 hc hl
  refine o_to st' (k T' h' h.size ⟨_, X', N, e', hx, hZ, hown, hby, hml, hlk, hn, hrt, hnm⟩ rfl g0 E' ⟨_, A', O', by simp [newA], by have := (back32 g1).2; simpa using this, fun i hi => ?_⟩)
  have hi' : i < n.toNatClampNeg := by simpa using hi
  simp [newA, defaultValue, hi', List.getD_eq_getElem?_getD]
theorem o_aaload (S : St p l e R s m args below meth c Z own bytes ml n0 ret nm T h cells slots) {a : Addr} {C : String} {j : Int32} {v : Value} {vs : List Value} (F : RA Z h a C vs) (h0 : 0 ≤ j.toInt) (h1 : j.toInt < vs.length) (hv : vs.getD j.toNatClampNeg .null = v) (hd : decode bytes pc = .ok (.aaload, 1)) (hq : pc + 1 = q) (k : Wp p e below PO T (mkF m q L (v :: st))) : Wp p e below PO T (mkF m pc L (.int j :: .ref a :: st)) := by
  obtain ⟨cl, A, O, g1, g2, g3⟩ := F
  subst hv
  have g5 := (o_nat h0).2
  exact o_aaloadA S A rfl (o_inb h0 h1 g1) (g3 _ (by omega)) hd hq k
theorem o_aastore (S : St p l e R s m args below meth c Z own bytes ml n0 ret nm T h cells slots) {a : Addr} {C : String} {j : Int32} {x : Value} {vs ys : List Value} (F : RA Z h a C vs) (h0 : 0 ≤ j.toInt) (h1 : j.toInt < vs.length) (ga : n0 ≤ a) (hst : x = .null ∨ ∃ y, x = .ref y ∧ Ins Z h y C true) (hys : vs.set j.toNatClampNeg x = ys) (hd : decode bytes pc = .ok (.aastore, 1)) (hq : pc + 1 = q) (k : ∀ T' h', St p l e R s m args below meth c Z own bytes ml n0 ret nm T' h' cells slots → Wr h h' a j.toNatClampNeg x → RA Z h' a C ys → Wp p e below PO T' (mkF m q L st)) : Wp p e below PO T (mkF m pc L (x :: .int j :: .ref a :: st)) := by
  subst hq hys
  obtain ⟨locs, X, N, eT, hx, hZ, hown, hby, hml, hlk, hn, hrt, hnm⟩ := S
  have F' := F
  obtain ⟨cl, A, O, g1, g2, g3⟩ := F
  have hS : Sto Z h a x := by
    rcases hst with rfl | ⟨y, rfl, I⟩
    · exact Or.inl rfl
    · exact Sto.of A O I
  obtain ⟨T', h', X', e', W', st'⟩ := stR X hx hZ eT A (j := j) (o_inb h0 h1 g1) rfl hS (g := mkF m pc L (x :: .int j :: .ref a :: st)) rfl rfl (hb hby hd)
  exact o_to st' (k T' h' ⟨_, X', Fr.snoc X' N ga, e', hx, hZ, hown, hby, hml, hlk, hn, hrt, hnm⟩ W' (F'.set W'))
theorem o_acmp (S : St p l e R s m args below meth c Z own bytes ml n0 ret nm T h cells slots) {cd : ACond} {x y : Value} {o : Int} {same : Bool} (h1 : x.isRef = true) (h2 : y.isRef = true) (hs : decide (x = y) = same) (hd : decode bytes pc = .ok (.if_acmp cd o, 3)) (ho : 0 ≤ (pc : Int) + o) (hp : q = if acV cd same = true then ((pc : Int) + o).toNat else pc + 3) (k : Wp p e below PO T (mkF m q L st)) : Wp p e below PO T (mkF m pc L (y :: x :: st)) := by
  obtain ⟨locs, X, N, eT, hx, hZ, hown, hby, hml, hlk, hn, hrt, hnm⟩ := S
  exact o_to (fun t r => Jvm.RoadKit.acmp (g := mkF m pc L (y :: x :: st)) X hx rfl h1 h2 rfl (hb hby hd) rfl hs ho hp r) k
/-! arrays of longs -/
def LA (Z : State) (h : Heap) (a : Addr) (xs : List Int64) : Prop := ∃ c : Cell, Arr Z h a c .long ∧ c.slots.size = xs.length ∧ xs.length < 2147483648 ∧ ∀ i, i < xs.length → c.slots[i]? = some (.long (xs.getD i 0))
theorem LA.lt {a : Addr} {xs : List Int64} (F : LA Z h a xs) : a < h.size := by obtain ⟨c, A, -⟩ := F; exact A.lt
theorem LA.ext {h' : Heap} {a : Addr} {xs : List Int64} (F : LA Z h a xs) (E : Ext h h') : LA Z h' a xs := by obtain ⟨c, A, r⟩ := F; exact ⟨c, A.ext E, r⟩
theorem LA.other {h' : Heap} {a b : Addr} {sl : Nat} {v : Value} {xs : List Int64} (F : LA Z h b xs) (W : Wr h h' a sl v) (q : b ≠ a) : LA Z h' b xs := by obtain ⟨c, A, r⟩ := F; exact ⟨c, A.other W q, r⟩
theorem LA.keep {h' : Heap} {a : Addr} {ws : List Addr} {xs : List Int64} (F : LA Z h a xs) (K : Keep h h' ws) (q : a ∉ ws) : LA Z h' a xs := by obtain ⟨c, A, r⟩ := F; exact ⟨c, ⟨K.2.1 a c A.1 q, A.2⟩, r⟩
theorem LA.new {a : Addr} {k : ClassId} {n : Int32} (A : Arr Z h a (newA k .long n) .long) (hn : ¬ n < 0) : LA Z h a (List.replicate n.toNatClampNeg 0) := by
  have := (back32 hn).2
  refine ⟨_, A, by simp [newA], by simpa using this, fun i hi => ?_⟩
  have hi' : i < n.toNatClampNeg := by simpa using hi
  simp [newA, defaultValue, hi', List.getD_eq_getElem?_getD]
theorem LA.set {h' : Heap} {a : Addr} {xs : List Int64} {j : Int32} {x : Int64} (F : LA Z h a xs) (W : Wr h h' a j.toNatClampNeg (.long x)) : LA Z h' a (xs.set j.toNatClampNeg x) := by
  obtain ⟨c, A, h1, h2, h3⟩ := F
  refine ⟨c.setSlot j.toNatClampNeg (.long x), A.same W, by rw [sz_set, h1]; simp, by simpa using h2, fun i hi => ?_⟩
  rw [List.length_set] at hi
  by_cases q : j.toNatClampNeg = i
  · subst q
    have : j.toNatClampNeg < c.slots.size := by rw [h1]; exact hi
    simp [Cell.setSlot, this, hi, List.getD_eq_getElem?_getD]
  · have := h3 i hi
    simp only [Cell.setSlot, Array.getElem?_setIfInBounds_ne q, this, List.getD_eq_getElem?_getD, List.getElem?_set_ne q]
theorem o_laload (S : St p l e R s m args below meth c Z own bytes ml n0 ret nm T h cells slots) {a : Addr} {j : Int32} {v : Int64} {xs : List Int64} (F : LA Z h a xs) (h0 : 0 ≤ j.toInt) (h1 : j.toInt < xs.length) (hv : xs.getD j.toNatClampNeg 0 = v) (hd : decode bytes pc = .ok (.laload, 1)) (hq : pc + 1 = q) (k : Wp p e below PO T (mkF m q L (.long v :: st))) : Wp p e below PO T (mkF m pc L (.int j :: .ref a :: st)) := by
  subst hq hv
  obtain ⟨locs, X, N, eT, hx, hZ, hown, hby, hml, hlk, hn, hrt, hnm⟩ := S
  obtain ⟨cl, A, g1, g2, g3⟩ := F
  have g5 := (o_nat h0).2
  exact o_to (X.laload hx (j := j) (by rw [eT]; exact A.1) (State.isArrayOf_alike hZ.alike A.2.1) A.2.2 (o_inb h0 h1 g1) (g3 _ (by omega)) (g := mkF m pc L (.int j :: .ref a :: st)) rfl rfl (hb hby hd)) k
theorem o_lastore (S : St p l e R s m args below meth c Z own bytes ml n0 ret nm T h cells slots) {a : Addr} {j : Int32} {x : Int64} {xs ys : List Int64} (F : LA Z h a xs) (h0 : 0 ≤ j.toInt) (h1 : j.toInt < xs.length) (ga : n0 ≤ a) (hys : xs.set j.toNatClampNeg x = ys) (hd : decode bytes pc = .ok (.lastore, 1)) (hq : pc + 1 = q) (k : ∀ T' h', St p l e R s m args below meth c Z own bytes ml n0 ret nm T' h' cells slots → Wr h h' a j.toNatClampNeg (.long x) → LA Z h' a ys → Wp p e below PO T' (mkF m q L st)) : Wp p e below PO T (mkF m pc L (.long x :: .int j :: .ref a :: st)) := by
  subst hq hys
  obtain ⟨locs, X, N, eT, hx, hZ, hown, hby, hml, hlk, hn, hrt, hnm⟩ := S
  have F' := F
  obtain ⟨cl, A, g1, g2, g3⟩ := F
  obtain ⟨T', h', X', e', W', st'⟩ := stJ X hx hZ eT A (j := j) (x := x) (o_inb h0 h1 g1) (g := mkF m pc L (.long x :: .int j :: .ref a :: st)) rfl rfl (hb hby hd)
  exact o_to st' (k T' h' ⟨_, X', Fr.snoc X' N ga, e', hx, hZ, hown, hby, hml, hlk, hn, hrt, hnm⟩ W' (F'.set W'))
/-! arrays of arrays of longs -/
def RJ (Z : State) (h : Heap) (a : Addr) (vs : List Value) : Prop := ∃ c : Cell, Arr Z h a c (.array .long) ∧ OvrA Z c.cls .long "[J" ∧ c.slots.size = vs.length ∧ vs.length < 2147483648 ∧ ∀ i, i < vs.length → c.slots[i]? = some (vs.getD i .null)
theorem RJ.lt {a : Addr} {vs : List Value} (F : RJ Z h a vs) : a < h.size := by obtain ⟨c, A, -⟩ := F; exact A.lt
theorem RJ.ext {h' : Heap} {a : Addr} {vs : List Value} (F : RJ Z h a vs) (E : Ext h h') : RJ Z h' a vs := by obtain ⟨c, A, r⟩ := F; exact ⟨c, A.ext E, r⟩
theorem RJ.other {h' : Heap} {a b : Addr} {sl : Nat} {v : Value} {vs : List Value} (F : RJ Z h b vs) (W : Wr h h' a sl v) (q : b ≠ a) : RJ Z h' b vs := by obtain ⟨c, A, r⟩ := F; exact ⟨c, A.other W q, r⟩
theorem RJ.keep {h' : Heap} {a : Addr} {ws : List Addr} {vs : List Value} (F : RJ Z h a vs) (K : Keep h h' ws) (q : a ∉ ws) : RJ Z h' a vs := by obtain ⟨c, A, r⟩ := F; exact ⟨c, ⟨K.2.1 a c A.1 q, A.2⟩, r⟩
theorem RJ.set {h' : Heap} {a : Addr} {vs : List Value} {j : Int32} {x : Value} (F : RJ Z h a vs) (W : Wr h h' a j.toNatClampNeg x) : RJ Z h' a (vs.set j.toNatClampNeg x) := by
  obtain ⟨c, A, O, h1, h2, h3⟩ := F
  refine ⟨c.setSlot j.toNatClampNeg x, A.same W, O, by rw [sz_set, h1]; simp, by simpa using h2, fun i hi => ?_⟩
  rw [List.length_set] at hi
  by_cases q : j.toNatClampNeg = i
  · subst q
    have : j.toNatClampNeg < c.slots.size := by rw [h1]; exact hi
    simp [Cell.setSlot, this, hi, List.getD_eq_getElem?_getD]
  · have := h3 i hi
    simp only [Cell.setSlot, Array.getElem?_setIfInBounds_ne q, this, List.getD_eq_getElem?_getD, List.getElem?_set_ne q]
theorem o_anewarrJ (S : St p l e R s m args below meth c Z own bytes ml n0 ret nm T h cells slots) {i : Nat} {n : Int32} {cap : Nat} (w1 : (Jvm.Cond.classLink own i "[J").before a0 Z = true) (w2 : (Jvm.Cond.arrayOver (.array .long)).before a0 Z = true) (hd : decode bytes pc = .ok (.anewarray i, 3)) (hq : pc + 3 = q) (hn0 : 0 ≤ n.toInt) (hcap : n.toInt ≤ cap) (hb8 : cap * 8 ≤ 536870912) (hc : cells + 1 ≤ R.cells) (hl : slots + cap ≤ R.slots)
    (k : ∀ T' h' a, St p l e R s m args below meth c Z own bytes ml n0 ret nm T' h' (cells + 1) (slots + cap) → a = h.size → n0 ≤ a → Ext h h' → RJ Z h' a (List.replicate n.toNatClampNeg .null) → Wp p e below PO T' (mkF m q L (.ref a :: st))) : Wp p e below PO T (mkF m pc L (.int n :: st)) := by
  have g0 := o_n0 S
  obtain ⟨g1, g2⟩ := o_nat hn0
  subst hq
  obtain ⟨locs, X, N, eT, hx, hZ, hown, hby, hml, hlk, hn, hrt, hnm⟩ := S
  obtain ⟨T', h', cA, X', e', E', A', EE, O', st'⟩ := newRA X hx hZ hown (ty := .long) (C := "[J") rfl w1 w2 eT (g := mkF m pc L (.int n :: st)) rfl (hb hby hd) rfl g1 (cap := cap) (by omega) hb8 hc hl (ad := "[[J") rfl
  refine o_to st' (k T' h' h.size ⟨_, X', N, e', hx, hZ, hown, hby, hml, hlk, hn, hrt, hnm⟩ rfl g0 E' ⟨_, A', O', by simp [newA], by have := (back32 g1).2; simpa using this, fun i hi => ?_⟩)
  have hi' : i < n.toNatClampNeg := by simpa using hi
  simp [newA, defaultValue, hi', List.getD_eq_getElem?_getD]
theorem o_aaloadJ (S : St p l e R s m args below meth c Z own bytes ml n0 ret nm T h cells slots) {a : Addr} {j : Int32} {v : Value} {vs : List Value} (F : RJ Z h a vs) (h0 : 0 ≤ j.toInt) (h1 : j.toInt < vs.length) (hv : vs.getD j.toNatClampNeg .null = v) (hd : decode bytes pc = .ok (.aaload, 1)) (hq : pc + 1 = q) (k : Wp p e below PO T (mkF m q L (v :: st))) : Wp p e below PO T (mkF m pc L (.int j :: .ref a :: st)) := by
  obtain ⟨cl, A, O, g1, g2, g3⟩ := F
  subst hv
  have g5 := (o_nat h0).2
  exact o_aaloadA S A rfl (o_inb h0 h1 g1) (g3 _ (by omega)) hd hq k
theorem o_aastoreJ (S : St p l e R s m args below meth c Z own bytes ml n0 ret nm T h cells slots) {a y : Addr} {j : Int32} {vs ys : List Value} (F : RJ Z h a vs) (h0 : 0 ≤ j.toInt) (h1 : j.toInt < vs.length) (ga : n0 ≤ a) (I : Exa Z h y "[J") (hys : vs.set j.toNatClampNeg (.ref y) = ys) (hd : decode bytes pc = .ok (.aastore, 1)) (hq : pc + 1 = q) (k : ∀ T' h', St p l e R s m args below meth c Z own bytes ml n0 ret nm T' h' cells slots → Wr h h' a j.toNatClampNeg (.ref y) → RJ Z h' a ys → Wp p e below PO T' (mkF m q L st)) : Wp p e below PO T (mkF m pc L (.ref y :: .int j :: .ref a :: st)) := by
  subst hq hys
  obtain ⟨locs, X, N, eT, hx, hZ, hown, hby, hml, hlk, hn, hrt, hnm⟩ := S
  have F' := F
  obtain ⟨cl, A, O, g1, g2, g3⟩ := F
  obtain ⟨T', h', X', e', W', st'⟩ := stR X hx hZ eT A (j := j) (o_inb h0 h1 g1) rfl (Sto.ofVA A rfl O (Ins.self I)) (g := mkF m pc L (.ref y :: .int j :: .ref a :: st)) rfl rfl (hb hby hd)
  exact o_to st' (k T' h' ⟨_, X', Fr.snoc X' N ga, e', hx, hZ, hown, hby, hml, hlk, hn, hrt, hnm⟩ W' (F'.set W'))
theorem o_selP {y : MethodName} {n : Nat} (wi : (Jvm.Cond.instantiable y.cls n).before a0 Z = true) (w6 : (Jvm.Cond.privateMethod y).before a0 Z = true) (w2 : (Jvm.Cond.instanceMethod y).before a0 Z = true) (hy : y.cls ≠ "java/lang/invoke/MethodHandle" ∧ y.cls ≠ "java/lang/invoke/VarHandle") : (Jvm.Cond.selects y.cls y y).before a0 Z = true := by
  obtain ⟨c, k, h1, h2, h3, h4, -⟩ := Cond.instantiable_spec wi
  simp only [Bool.or_eq_false_iff] at h4
  exact selects_self_of_private h1 h2 h4.1 (Cond.privateMethod_at w6) w2 hy
end OwnPre
def f_max (p0 : Int32) (p1 : Int32) : Int32 := if p0.toInt < p1.toInt then p1 else p0
theorem d3_0 : decode jdk_29_method_65_code 0 = .ok (.iload_n 0, 1) := by decide +kernel
theorem d3_1 : decode jdk_29_method_65_code 1 = .ok (.iload_n 1, 1) := by decide +kernel
theorem d3_2 : decode jdk_29_method_65_code 2 = .ok (.if_icmp .lt 7, 3) := by decide +kernel
theorem d3_5 : decode jdk_29_method_65_code 5 = .ok (.iload_n 0, 1) := by decide +kernel
theorem d3_6 : decode jdk_29_method_65_code 6 = .ok (.goto 4, 3) := by decide +kernel
theorem d3_9 : decode jdk_29_method_65_code 9 = .ok (.iload_n 1, 1) := by decide +kernel
theorem d3_10 : decode jdk_29_method_65_code 10 = .ok (.ireturn, 1) := by decide +kernel
def rm_3 : Room := ({ frames := 0, cells := 0, slots := 0, locals := 0 } : Room)
theorem ef_3 (p0 : Int32) (p1 : Int32) (m : MethodId) : entryFrame m #[(.int p0), (.int p1)] 2 = mkF m 0 #[.val (.int p0), .val (.int p1)] [] := by first | (simp [entryFrame, mkF, argsToLocals, Value.category]; done) | rfl
set_option maxRecDepth 65536 in
set_option maxHeartbeats 40000000 in
theorem ct_3 (l : Launch) (Z : State) (a0 : Array Value) (hw : ∀ d ∈ tables_1, d.before a0 Z = true) (p0 : Int32) (p1 : Int32) (h0 : Heap) (n0 : Nat) (hn : n0 ≤ h0.size) : Ct l (⟨"java/lang/Math", "max", "(II)I"⟩ : MethodName) jdk_29_method_65_code 2 (some .int) [] rm_3 Z h0 n0 #[(.int p0), (.int p1)] (Qp (some (.int (f_max p0 p1))) h0) := by
  refine o_body (Jvm.Free.JP.mathPlain rfl (by decide +kernel)) hn (ef_3 p0 p1) ?_
  intro p e s m below meth c T S
  refine o_iloadN S rfl d3_0 rfl (q := 1) ?_
  refine o_iloadN S rfl d3_1 rfl (q := 2) ?_
  refine o_icmp S d3_2 (by decide) (q' := 9) (by decide) (q := 5) rfl (hs_lt (a := p0.toInt) (b := p1.toInt) rfl rfl).1 (hs_lt (a := p0.toInt) (b := p1.toInt) rfl rfl).2 (fun hc2 => ?_) (fun hc2 => ?_)
  · skip
    refine o_iloadN S rfl d3_9 rfl (q := 10) ?_
    refine o_retI S rfl d3_10 (by decide) (by decide) ?_
    exact ⟨o_si (by rw [f_max, if_pos hc2]), rfl⟩
  · skip
    refine o_iloadN S rfl d3_5 rfl (q := 6) ?_
    refine o_goto S d3_6 (by decide) (q := 10) (by decide) ?_
    refine o_retI S rfl d3_10 (by decide) (by decide) ?_
    exact ⟨o_si (by rw [f_max, if_neg hc2]), rfl⟩
def f_min (q0 : Int64) (q1 : Int64) : Int64 := if q1.toInt < q0.toInt then q1 else q0
theorem d10_0 : decode jdk_29_method_70_code 0 = .ok (.lload_n 0, 1) := by decide +kernel
theorem d10_1 : decode jdk_29_method_70_code 1 = .ok (.lload_n 2, 1) := by decide +kernel
theorem d10_2 : decode jdk_29_method_70_code 2 = .ok (.lcmp, 1) := by decide +kernel
theorem d10_3 : decode jdk_29_method_70_code 3 = .ok (.ifCond .gt 7, 3) := by decide +kernel
theorem d10_6 : decode jdk_29_method_70_code 6 = .ok (.lload_n 0, 1) := by decide +kernel
theorem d10_7 : decode jdk_29_method_70_code 7 = .ok (.goto 4, 3) := by decide +kernel
theorem d10_10 : decode jdk_29_method_70_code 10 = .ok (.lload_n 2, 1) := by decide +kernel
theorem d10_11 : decode jdk_29_method_70_code 11 = .ok (.lreturn, 1) := by decide +kernel
def rm_10 : Room := ({ frames := 0, cells := 0, slots := 0, locals := 0 } : Room)
theorem ef_10 (q0 : Int64) (q1 : Int64) (m : MethodId) : entryFrame m #[(.long q0), (.long q1)] 4 = mkF m 0 #[.val (.long q0), .second, .val (.long q1), .second] [] := by first | (simp [entryFrame, mkF, argsToLocals, Value.category]; done) | rfl
set_option maxRecDepth 65536 in
set_option maxHeartbeats 40000000 in
theorem ct_10 (l : Launch) (Z : State) (a0 : Array Value) (hw : ∀ d ∈ tables_1, d.before a0 Z = true) (q0 : Int64) (q1 : Int64) (h0 : Heap) (n0 : Nat) (hn : n0 ≤ h0.size) : Ct l (⟨"java/lang/Math", "min", "(JJ)J"⟩ : MethodName) jdk_29_method_70_code 4 (some .long) [] rm_10 Z h0 n0 #[(.long q0), (.long q1)] (Qp (some (.long (f_min q0 q1))) h0) := by
  refine o_body (Jvm.Free.JP.mathPlain rfl (by decide +kernel)) hn (ef_10 q0 q1) ?_
  intro p e s m below meth c T S
  refine o_lloadN S rfl d10_0 rfl (q := 1) ?_
  refine o_lloadN S rfl d10_1 rfl (q := 2) ?_
  refine o_lcmp S d10_2 rfl (q := 3) ?_
  refine o_if S d10_3 (by decide) (q' := 10) (by decide) (q := 6) rfl (hl_gt (a := q0.toInt) (b := q1.toInt) rfl rfl).1 (hl_gt (a := q0.toInt) (b := q1.toInt) rfl rfl).2 (fun hc3 => ?_) (fun hc3 => ?_)
  · skip
    refine o_lloadN S rfl d10_10 rfl (q := 11) ?_
    refine o_retJ S rfl d10_11 (by decide) (by decide) ?_
    exact ⟨o_sj (by rw [f_min, if_pos hc3]), rfl⟩
  · skip
    refine o_lloadN S rfl d10_6 rfl (q := 7) ?_
    refine o_goto S d10_7 (by decide) (q := 11) (by decide) ?_
    refine o_retJ S rfl d10_11 (by decide) (by decide) ?_
    exact ⟨o_sj (by rw [f_min, if_neg hc3]), rfl⟩
def Q_1 (Z : State) (r0 : Addr) (p1 : Int32) (p2 : Int32) (u1 : Int32) (u2 : Int32) (u3 : Int32) (h0 : Heap) (n0 : Nat) : Option Value → Heap → Prop := fun v h => v = none ∧ Keep h0 h [r0] ∧ Exa Z h r0 "com/example/mince_trees/mincetrees/xpath/Chunks" ∧ Fld Z h r0 "com/example/mince_trees/mincetrees/xpath/Chunks" "size" "I" (.int p1) ∧ Fld Z h r0 "com/example/mince_trees/mincetrees/xpath/Chunks" "shift" "I" (.int p2)
theorem pd_0 : parseMethodDescriptor "(II)I" = some ⟨[.int, .int], some .int⟩ := by decide +kernel
theorem d1_0 : decode prog_133_method_1_code 0 = .ok (.aload_n 0, 1) := by decide +kernel
theorem d1_1 : decode prog_133_method_1_code 1 = .ok (.invokespecial 1, 3) := by decide +kernel
theorem d1_4 : decode prog_133_method_1_code 4 = .ok (.aload_n 0, 1) := by decide +kernel
theorem d1_5 : decode prog_133_method_1_code 5 = .ok (.iload_n 1, 1) := by decide +kernel
theorem d1_6 : decode prog_133_method_1_code 6 = .ok (.putfield 7, 3) := by decide +kernel
theorem d1_9 : decode prog_133_method_1_code 9 = .ok (.aload_n 0, 1) := by decide +kernel
theorem d1_10 : decode prog_133_method_1_code 10 = .ok (.iload_n 2, 1) := by decide +kernel
theorem d1_11 : decode prog_133_method_1_code 11 = .ok (.putfield 13, 3) := by decide +kernel
theorem d1_14 : decode prog_133_method_1_code 14 = .ok (.aload_n 0, 1) := by decide +kernel
theorem d1_15 : decode prog_133_method_1_code 15 = .ok (.iconst 1, 1) := by decide +kernel
theorem d1_16 : decode prog_133_method_1_code 16 = .ok (.iload_n 1, 1) := by decide +kernel
theorem d1_17 : decode prog_133_method_1_code 17 = .ok (.i2l, 1) := by decide +kernel
theorem d1_18 : decode prog_133_method_1_code 18 = .ok (.lconst 1, 1) := by decide +kernel
theorem d1_19 : decode prog_133_method_1_code 19 = .ok (.iload_n 2, 1) := by decide +kernel
theorem d1_20 : decode prog_133_method_1_code 20 = .ok (.lshl, 1) := by decide +kernel
theorem d1_21 : decode prog_133_method_1_code 21 = .ok (.ladd, 1) := by decide +kernel
theorem d1_22 : decode prog_133_method_1_code 22 = .ok (.lconst 1, 1) := by decide +kernel
theorem d1_23 : decode prog_133_method_1_code 23 = .ok (.lsub, 1) := by decide +kernel
theorem d1_24 : decode prog_133_method_1_code 24 = .ok (.iload_n 2, 1) := by decide +kernel
theorem d1_25 : decode prog_133_method_1_code 25 = .ok (.lushr, 1) := by decide +kernel
theorem d1_26 : decode prog_133_method_1_code 26 = .ok (.l2i, 1) := by decide +kernel
theorem d1_27 : decode prog_133_method_1_code 27 = .ok (.invokestatic 16, 3) := by decide +kernel
theorem d1_30 : decode prog_133_method_1_code 30 = .ok (.putfield 22, 3) := by decide +kernel
theorem d1_33 : decode prog_133_method_1_code 33 = .ok (.return_, 1) := by decide +kernel
def rm_1 : Room := ({ frames := 1, cells := 0, slots := 0, locals := 14 } : Room)
theorem pn_1 : plainFor (⟨"com/example/mince_trees/mincetrees/xpath/Chunks", "<init>", "(II)V"⟩ : MethodName) = true := plainFor_of_name (by first | (simp [plainName, overriddenIn]; done) | (simp [plainName, overriddenIn, x]; done) | decide +kernel)
theorem ef_1 (r0 : Addr) (p1 : Int32) (p2 : Int32) (m : MethodId) : entryFrame m #[(.ref r0), (.int p1), (.int p2)] 3 = mkF m 0 #[.val (.ref r0), .val (.int p1), .val (.int p2)] [] := by first | (simp [entryFrame, mkF, argsToLocals, Value.category]; done) | rfl
set_option maxRecDepth 65536 in
set_option maxHeartbeats 40000000 in
theorem ct_1 (l : Launch) (Z : State) (a0 : Array Value) (hw : ∀ d ∈ tables_1, d.before a0 Z = true) (r0 : Addr) (p1 : Int32) (p2 : Int32) (u1 : Int32) (u2 : Int32) (u3 : Int32) (h0 : Heap) (n0 : Nat) (hn : n0 ≤ h0.size) (E_r0 : Exa Z h0 r0 "com/example/mince_trees/mincetrees/xpath/Chunks") (F_size_r0 : Fld Z h0 r0 "com/example/mince_trees/mincetrees/xpath/Chunks" "size" "I" (.int u1)) (F_shift_r0 : Fld Z h0 r0 "com/example/mince_trees/mincetrees/xpath/Chunks" "shift" "I" (.int u2)) (F_count_r0 : Fld Z h0 r0 "com/example/mince_trees/mincetrees/xpath/Chunks" "count" "I" (.int u3)) (g_r0 : n0 ≤ r0) : Ct l (⟨"com/example/mince_trees/mincetrees/xpath/Chunks", "<init>", "(II)V"⟩ : MethodName) prog_133_method_1_code 3 none [] rm_1 Z h0 n0 #[(.ref r0), (.int p1), (.int p2)] (Q_1 Z r0 p1 p2 u1 u2 u3 h0 n0) := by
  refine o_body pn_1 hn (ef_1 r0 p1 p2) ?_
  intro p e s m below meth c T S
  have K : Keep h0 h0 [r0] := Keep.refl _ _
  refine o_aloadN S rfl rfl d1_0 rfl (q := 1) ?_
  refine o_initO S (W := 0) (o_wd (i := 10) hw rfl) (o_wd (i := 11) hw rfl) (o_wd (i := 12) hw rfl) rfl d1_1 rfl (q := 4) (by decide) (Nat.le_of_eq rfl) (by decide) (fun T S => ?_)
  refine o_aloadN S rfl rfl d1_4 rfl (q := 5) ?_
  refine o_iloadN S rfl d1_5 rfl (q := 6) ?_
  refine o_putF S (o_wd (i := 13) hw rfl) Via.refl F_size_r0 E_r0 (Or.inr ⟨(o_wd (i := 14) hw rfl), rfl, rfl⟩) (o_wd (i := 5) hw rfl) (ty := .int) (by decide) rfl rfl g_r0 d1_6 rfl (q := 9) (fun T h1 S W F_size_r0 => ?_)
  have E_r0 := E_r0.wr W
  have F_shift_r0 := Fld.other W F_shift_r0 (Or.inr (slot_ne (Or.inr (o_wd (i := 16) hw rfl)) (Or.inr (o_wd (i := 14) hw rfl)) (by decide) (t := .int) (t' := .int) (by decide) (by decide)))
  have F_count_r0 := Fld.other W F_count_r0 (Or.inr (slot_ne (Or.inr (o_wd (i := 22) hw rfl)) (Or.inr (o_wd (i := 14) hw rfl)) (by decide) (t := .int) (t' := .int) (by decide) (by decide)))
  have K := K.wr W (Or.inl (List.mem_of_getElem? (i := 0) rfl))
  refine o_aloadN S rfl rfl d1_9 rfl (q := 10) ?_
  refine o_iloadN S rfl d1_10 rfl (q := 11) ?_
  refine o_putF S (o_wd (i := 15) hw rfl) Via.refl F_shift_r0 E_r0 (Or.inr ⟨(o_wd (i := 16) hw rfl), rfl, rfl⟩) (o_wd (i := 5) hw rfl) (ty := .int) (by decide) rfl rfl g_r0 d1_11 rfl (q := 14) (fun T h2 S W F_shift_r0 => ?_)
  have E_r0 := E_r0.wr W
  have F_size_r0 := Fld.other W F_size_r0 (Or.inr (slot_ne (Or.inr (o_wd (i := 14) hw rfl)) (Or.inr (o_wd (i := 16) hw rfl)) (by decide) (t := .int) (t' := .int) (by decide) (by decide)))
  have F_count_r0 := Fld.other W F_count_r0 (Or.inr (slot_ne (Or.inr (o_wd (i := 22) hw rfl)) (Or.inr (o_wd (i := 16) hw rfl)) (by decide) (t := .int) (t' := .int) (by decide) (by decide)))
  have K := K.wr W (Or.inl (List.mem_of_getElem? (i := 0) rfl))
  refine o_aloadN S rfl rfl d1_14 rfl (q := 15) ?_
  refine o_iconst S (z := 1) rfl d1_15 rfl (q := 16) ?_
  refine o_iloadN S rfl d1_16 rfl (q := 17) ?_
  refine o_i2l S d1_17 rfl (q := 18) ?_
  refine o_lconst S (z := 1) rfl d1_18 rfl (q := 19) ?_
  refine o_iloadN S rfl d1_19 rfl (q := 20) ?_
  refine o_lshl S d1_20 rfl (q := 21) ?_
  refine o_ladd S d1_21 rfl (q := 22) ?_
  refine o_lconst S (z := 1) rfl d1_22 rfl (q := 23) ?_
  refine o_lsub S d1_23 rfl (q := 24) ?_
  refine o_iloadN S rfl d1_24 rfl (q := 25) ?_
  refine o_lushr S d1_25 rfl (q := 26) ?_
  refine o_l2i S d1_26 rfl (q := 27) ?_
  refine o_callS0 S (W := 1) (argsL := [(.int (1 : Int32)), (.int ((((((p1.toInt64) + ((1 : Int64) <<< (p2 &&& 0x3f).toInt64)) - (1 : Int64)).toUInt64 >>> (p2 &&& 0x3f).toInt64.toUInt64).toInt64).toInt32))]) (rest := [(.ref r0)]) (o_wd (i := 17) hw rfl) (o_wd (i := 18) hw rfl) (o_wd (i := 19) hw rfl) (o_wd (i := 20) hw rfl) (by decide) (ct_3 l Z a0 hw (1 : Int32) ((((((p1.toInt64) + ((1 : Int64) <<< (p2 &&& 0x3f).toInt64)) - (1 : Int64)).toUInt64 >>> (p2 &&& 0x3f).toInt64.toUInt64).toInt64).toInt32) h2 n0 (o_n0 S)) (by decide) (by decide) rfl rfl pd_0 rfl (Nat.le_of_eq rfl) d1_27 rfl (q := 30) (by decide) (by decide) rfl (st' := [(.int (f_max (1 : Int32) ((((((p1.toInt64) + ((1 : Int64) <<< (p2 &&& 0x3f).toInt64)) - (1 : Int64)).toUInt64 >>> (p2 &&& 0x3f).toInt64.toUInt64).toInt64).toInt32))), (.ref r0)]) (fun T S => ?_)
  refine o_putF S (o_wd (i := 21) hw rfl) Via.refl F_count_r0 E_r0 (Or.inr ⟨(o_wd (i := 22) hw rfl), rfl, rfl⟩) (o_wd (i := 5) hw rfl) (ty := .int) (by decide) rfl rfl g_r0 d1_30 rfl (q := 33) (fun T h3 S W F_count_r0 => ?_)
  have E_r0 := E_r0.wr W
  have F_size_r0 := Fld.other W F_size_r0 (Or.inr (slot_ne (Or.inr (o_wd (i := 14) hw rfl)) (Or.inr (o_wd (i := 22) hw rfl)) (by decide) (t := .int) (t' := .int) (by decide) (by decide)))
  have F_shift_r0 := Fld.other W F_shift_r0 (Or.inr (slot_ne (Or.inr (o_wd (i := 16) hw rfl)) (Or.inr (o_wd (i := 22) hw rfl)) (by decide) (t := .int) (t' := .int) (by decide) (by decide)))
  have K := K.wr W (Or.inl (List.mem_of_getElem? (i := 0) rfl))
  refine o_retV S rfl d1_33 (by decide) (by decide) ?_
  exact ⟨rfl, K, E_r0, F_size_r0, F_shift_r0⟩
theorem d5_0 : decode prog_133_method_3_code 0 = .ok (.aload_n 0, 1) := by decide +kernel
theorem d5_1 : decode prog_133_method_3_code 1 = .ok (.getfield 7, 3) := by decide +kernel
theorem d5_4 : decode prog_133_method_3_code 4 = .ok (.ireturn, 1) := by decide +kernel
def rm_5 : Room := ({ frames := 0, cells := 0, slots := 0, locals := 0 } : Room)
theorem pn_5 : plainFor (⟨"com/example/mince_trees/mincetrees/xpath/Chunks", "size", "()I"⟩ : MethodName) = true := plainFor_of_name (by first | (simp [plainName, overriddenIn]; done) | (simp [plainName, overriddenIn, x]; done) | decide +kernel)
theorem ef_5 (r0 : Addr) (m : MethodId) : entryFrame m #[(.ref r0)] 1 = mkF m 0 #[.val (.ref r0)] [] := by first | (simp [entryFrame, mkF, argsToLocals, Value.category]; done) | rfl
set_option maxRecDepth 65536 in
set_option maxHeartbeats 40000000 in
theorem ct_5 (l : Launch) (Z : State) (a0 : Array Value) (hw : ∀ d ∈ tables_1, d.before a0 Z = true) (r0 : Addr) (u1 : Int32) (h0 : Heap) (n0 : Nat) (hn : n0 ≤ h0.size) (E_r0 : Exa Z h0 r0 "com/example/mince_trees/mincetrees/xpath/Chunks") (F_size_r0 : Fld Z h0 r0 "com/example/mince_trees/mincetrees/xpath/Chunks" "size" "I" (.int u1)) : Ct l (⟨"com/example/mince_trees/mincetrees/xpath/Chunks", "size", "()I"⟩ : MethodName) prog_133_method_3_code 1 (some .int) [] rm_5 Z h0 n0 #[(.ref r0)] (Qp (some (.int u1)) h0) := by
  refine o_body pn_5 hn (ef_5 r0) ?_
  intro p e s m below meth c T S
  refine o_aloadN S rfl rfl d5_0 rfl (q := 1) ?_
  refine o_getF S (o_wd (i := 13) hw rfl) Via.refl F_size_r0 d5_1 rfl (q := 4) (fun T S => ?_)
  refine o_retI S rfl d5_4 (by decide) (by decide) ?_
  exact ⟨rfl, rfl⟩
theorem d6_0 : decode prog_133_method_5_code 0 = .ok (.aload_n 0, 1) := by decide +kernel
theorem d6_1 : decode prog_133_method_5_code 1 = .ok (.getfield 13, 3) := by decide +kernel
theorem d6_4 : decode prog_133_method_5_code 4 = .ok (.ireturn, 1) := by decide +kernel
def rm_6 : Room := ({ frames := 0, cells := 0, slots := 0, locals := 0 } : Room)
theorem pn_6 : plainFor (⟨"com/example/mince_trees/mincetrees/xpath/Chunks", "shift", "()I"⟩ : MethodName) = true := plainFor_of_name (by first | (simp [plainName, overriddenIn]; done) | (simp [plainName, overriddenIn, x]; done) | decide +kernel)
theorem ef_6 (r0 : Addr) (m : MethodId) : entryFrame m #[(.ref r0)] 1 = mkF m 0 #[.val (.ref r0)] [] := by first | (simp [entryFrame, mkF, argsToLocals, Value.category]; done) | rfl
set_option maxRecDepth 65536 in
set_option maxHeartbeats 40000000 in
theorem ct_6 (l : Launch) (Z : State) (a0 : Array Value) (hw : ∀ d ∈ tables_1, d.before a0 Z = true) (r0 : Addr) (u1 : Int32) (h0 : Heap) (n0 : Nat) (hn : n0 ≤ h0.size) (E_r0 : Exa Z h0 r0 "com/example/mince_trees/mincetrees/xpath/Chunks") (F_shift_r0 : Fld Z h0 r0 "com/example/mince_trees/mincetrees/xpath/Chunks" "shift" "I" (.int u1)) : Ct l (⟨"com/example/mince_trees/mincetrees/xpath/Chunks", "shift", "()I"⟩ : MethodName) prog_133_method_5_code 1 (some .int) [] rm_6 Z h0 n0 #[(.ref r0)] (Qp (some (.int u1)) h0) := by
  refine o_body pn_6 hn (ef_6 r0) ?_
  intro p e s m below meth c T S
  refine o_aloadN S rfl rfl d6_0 rfl (q := 1) ?_
  refine o_getF S (o_wd (i := 15) hw rfl) Via.refl F_shift_r0 d6_1 rfl (q := 4) (fun T S => ?_)
  refine o_retI S rfl d6_4 (by decide) (by decide) ?_
  exact ⟨rfl, rfl⟩
def wmF (Sh : Int32) : Int32 := (((1 : Int32) <<< ((Sh - (6 : Int32)) &&& 31)) - (1 : Int32))
def nbF (Sz Sh : Int32) : Int32 := (((((Sz.toInt64) + ((1 : Int64) <<< (Sh &&& 0x3f).toInt64)) - (1 : Int64)).toUInt64 >>> (Sh &&& 0x3f).toInt64.toUInt64).toInt64.toInt32)
def Q_4 (Z : State) (r0 : Addr) (r1 : Addr) (Sz : Int32) (Sh : Int32) (h0 : Heap) (n0 : Nat) : Option Value → Heap → Prop := fun v h => ∃ bl : Addr, n0 ≤ bl ∧ h0.size ≤ bl ∧ v = none ∧ Keep h0 h [r0] ∧ Exa Z h r0 "com/example/mince_trees/mincetrees/xpath/NodeSet" ∧ Fld Z h r0 "com/example/mince_trees/mincetrees/xpath/NodeSet" "size" "I" (.int Sz) ∧ Fld Z h r0 "com/example/mince_trees/mincetrees/xpath/NodeSet" "shift" "I" (.int Sh) ∧ Fld Z h r0 "com/example/mince_trees/mincetrees/xpath/NodeSet" "wordMask" "I" (.int (wmF Sh)) ∧ Fld Z h r0 "com/example/mince_trees/mincetrees/xpath/NodeSet" "blocks" "[[J" (.ref bl) ∧ RJ Z h bl (List.replicate (nbF Sz Sh).toNatClampNeg .null)
theorem pd_1 : parseMethodDescriptor "()I" = some ⟨[], some .int⟩ := by decide +kernel
theorem d4_0 : decode prog_139_method_2_code 0 = .ok (.aload_n 0, 1) := by decide +kernel
theorem d4_1 : decode prog_139_method_2_code 1 = .ok (.invokespecial 13, 3) := by decide +kernel
theorem d4_4 : decode prog_139_method_2_code 4 = .ok (.aload_n 0, 1) := by decide +kernel
theorem d4_5 : decode prog_139_method_2_code 5 = .ok (.aload_n 1, 1) := by decide +kernel
theorem d4_6 : decode prog_139_method_2_code 6 = .ok (.invokevirtual 18, 3) := by decide +kernel
theorem d4_9 : decode prog_139_method_2_code 9 = .ok (.putfield 22, 3) := by decide +kernel
theorem d4_12 : decode prog_139_method_2_code 12 = .ok (.aload_n 0, 1) := by decide +kernel
theorem d4_13 : decode prog_139_method_2_code 13 = .ok (.aload_n 1, 1) := by decide +kernel
theorem d4_14 : decode prog_139_method_2_code 14 = .ok (.invokevirtual 25, 3) := by decide +kernel
theorem d4_17 : decode prog_139_method_2_code 17 = .ok (.putfield 28, 3) := by decide +kernel
theorem d4_20 : decode prog_139_method_2_code 20 = .ok (.aload_n 0, 1) := by decide +kernel
theorem d4_21 : decode prog_139_method_2_code 21 = .ok (.iconst 1, 1) := by decide +kernel
theorem d4_22 : decode prog_139_method_2_code 22 = .ok (.aload_n 0, 1) := by decide +kernel
theorem d4_23 : decode prog_139_method_2_code 23 = .ok (.getfield 28, 3) := by decide +kernel
theorem d4_26 : decode prog_139_method_2_code 26 = .ok (.bipush 6, 2) := by decide +kernel
theorem d4_28 : decode prog_139_method_2_code 28 = .ok (.isub, 1) := by decide +kernel
theorem d4_29 : decode prog_139_method_2_code 29 = .ok (.ishl, 1) := by decide +kernel
theorem d4_30 : decode prog_139_method_2_code 30 = .ok (.iconst 1, 1) := by decide +kernel
theorem d4_31 : decode prog_139_method_2_code 31 = .ok (.isub, 1) := by decide +kernel
theorem d4_32 : decode prog_139_method_2_code 32 = .ok (.putfield 30, 3) := by decide +kernel
theorem d4_35 : decode prog_139_method_2_code 35 = .ok (.aload_n 0, 1) := by decide +kernel
theorem d4_36 : decode prog_139_method_2_code 36 = .ok (.aload_n 0, 1) := by decide +kernel
theorem d4_37 : decode prog_139_method_2_code 37 = .ok (.getfield 22, 3) := by decide +kernel
theorem d4_40 : decode prog_139_method_2_code 40 = .ok (.i2l, 1) := by decide +kernel
theorem d4_41 : decode prog_139_method_2_code 41 = .ok (.lconst 1, 1) := by decide +kernel
theorem d4_42 : decode prog_139_method_2_code 42 = .ok (.aload_n 0, 1) := by decide +kernel
theorem d4_43 : decode prog_139_method_2_code 43 = .ok (.getfield 28, 3) := by decide +kernel
theorem d4_46 : decode prog_139_method_2_code 46 = .ok (.lshl, 1) := by decide +kernel
theorem d4_47 : decode prog_139_method_2_code 47 = .ok (.ladd, 1) := by decide +kernel
theorem d4_48 : decode prog_139_method_2_code 48 = .ok (.lconst 1, 1) := by decide +kernel
theorem d4_49 : decode prog_139_method_2_code 49 = .ok (.lsub, 1) := by decide +kernel
theorem d4_50 : decode prog_139_method_2_code 50 = .ok (.aload_n 0, 1) := by decide +kernel
theorem d4_51 : decode prog_139_method_2_code 51 = .ok (.getfield 28, 3) := by decide +kernel
theorem d4_54 : decode prog_139_method_2_code 54 = .ok (.lushr, 1) := by decide +kernel
theorem d4_55 : decode prog_139_method_2_code 55 = .ok (.l2i, 1) := by decide +kernel
theorem d4_56 : decode prog_139_method_2_code 56 = .ok (.anewarray 33, 3) := by decide +kernel
theorem d4_59 : decode prog_139_method_2_code 59 = .ok (.putfield 35, 3) := by decide +kernel
theorem d4_62 : decode prog_139_method_2_code 62 = .ok (.return_, 1) := by decide +kernel
def rm_4 : Room := ({ frames := 1, cells := 1, slots := 64, locals := 13 } : Room)
theorem pn_4 : plainFor (⟨"com/example/mince_trees/mincetrees/xpath/NodeSet", "<init>", "(Lcom/example/mince_trees/mincetrees/xpath/Chunks;)V"⟩ : MethodName) = true := plainFor_of_name (by first | (simp [plainName, overriddenIn]; done) | (simp [plainName, overriddenIn, x]; done) | decide +kernel)
theorem ef_4 (r0 : Addr) (r1 : Addr) (m : MethodId) : entryFrame m #[(.ref r0), (.ref r1)] 2 = mkF m 0 #[.val (.ref r0), .val (.ref r1)] [] := by first | (simp [entryFrame, mkF, argsToLocals, Value.category]; done) | rfl
set_option maxRecDepth 65536 in
set_option maxHeartbeats 40000000 in
theorem ct_4 (l : Launch) (Z : State) (a0 : Array Value) (hw : ∀ d ∈ tables_1, d.before a0 Z = true) (r0 : Addr) (r1 : Addr) (Sz : Int32) (Sh : Int32) (h0 : Heap) (n0 : Nat) (hn : n0 ≤ h0.size) (E_r0 : Exa Z h0 r0 "com/example/mince_trees/mincetrees/xpath/NodeSet") (F_size_r0 : Fld Z h0 r0 "com/example/mince_trees/mincetrees/xpath/NodeSet" "size" "I" (.int (0 : Int32))) (F_shift_r0 : Fld Z h0 r0 "com/example/mince_trees/mincetrees/xpath/NodeSet" "shift" "I" (.int (0 : Int32))) (F_wordMask_r0 : Fld Z h0 r0 "com/example/mince_trees/mincetrees/xpath/NodeSet" "wordMask" "I" (.int (0 : Int32))) (F_blocks_r0 : Fld Z h0 r0 "com/example/mince_trees/mincetrees/xpath/NodeSet" "blocks" "[[J" .null) (E_r1 : Exa Z h0 r1 "com/example/mince_trees/mincetrees/xpath/Chunks") (F_size_r1 : Fld Z h0 r1 "com/example/mince_trees/mincetrees/xpath/Chunks" "size" "I" (.int Sz)) (F_shift_r1 : Fld Z h0 r1 "com/example/mince_trees/mincetrees/xpath/Chunks" "shift" "I" (.int Sh)) (g_r0 : n0 ≤ r0) (ne_r0_r1 : r0 ≠ r1) (hnb : 0 ≤ (nbF Sz Sh).toInt ∧ (nbF Sz Sh).toInt ≤ 64) : Ct l (⟨"com/example/mince_trees/mincetrees/xpath/NodeSet", "<init>", "(Lcom/example/mince_trees/mincetrees/xpath/Chunks;)V"⟩ : MethodName) prog_139_method_2_code 2 none [] rm_4 Z h0 n0 #[(.ref r0), (.ref r1)] (Q_4 Z r0 r1 Sz Sh h0 n0) := by
  refine o_body pn_4 hn (ef_4 r0 r1) ?_
  intro p e s m below meth c T S
  have K : Keep h0 h0 [r0] := Keep.refl _ _
  refine o_aloadN S rfl rfl d4_0 rfl (q := 1) ?_
  refine o_initO S (W := 0) (o_wd (i := 26) hw rfl) (o_wd (i := 11) hw rfl) (o_wd (i := 12) hw rfl) rfl d4_1 rfl (q := 4) (by decide) (Nat.le_of_eq rfl) (by decide) (fun T S => ?_)
  refine o_aloadN S rfl rfl d4_4 rfl (q := 5) ?_
  refine o_aloadN S rfl rfl d4_5 rfl (q := 6) ?_
  refine o_callV0 S (W := 1) (argsL := []) (rest := [(.ref r0)]) (a := r1) (o_wd (i := 27) hw rfl) (o_wd (i := 28) hw rfl) (o_wd (i := 30) hw rfl) (o_wd (i := 29) hw rfl) (o_wd (i := 6) hw rfl) (o_wd (i := 31) hw rfl) (o_nf (o_wd (i := 30) hw rfl)) (by decide) E_r1 (ct_5 l Z a0 hw r1 Sz h0 n0 (o_n0 S) E_r1 F_size_r1) (by decide) (by decide) rfl rfl pd_1 rfl (Nat.le_of_eq rfl) d4_6 rfl (q := 9) (by decide) (by decide) rfl (st' := [(.int Sz), (.ref r0)]) (fun T S => ?_)
  refine o_putF S (o_wd (i := 32) hw rfl) Via.refl F_size_r0 E_r0 (Or.inr ⟨(o_wd (i := 33) hw rfl), rfl, rfl⟩) (o_wd (i := 2) hw rfl) (ty := .int) (by decide) rfl rfl g_r0 d4_9 rfl (q := 12) (fun T h1 S W F_size_r0 => ?_)
  have E_r0 := E_r0.wr W
  have F_shift_r0 := Fld.other W F_shift_r0 (Or.inr (slot_ne (Or.inr (o_wd (i := 40) hw rfl)) (Or.inr (o_wd (i := 33) hw rfl)) (by decide) (t := .int) (t' := .int) (by decide) (by decide)))
  have F_wordMask_r0 := Fld.other W F_wordMask_r0 (Or.inr (slot_ne (Or.inr (o_wd (i := 42) hw rfl)) (Or.inr (o_wd (i := 33) hw rfl)) (by decide) (t := .int) (t' := .int) (by decide) (by decide)))
  have F_blocks_r0 := Fld.other W F_blocks_r0 (Or.inr (slot_ne (Or.inr (o_wd (i := 46) hw rfl)) (Or.inr (o_wd (i := 33) hw rfl)) (by decide) (t := (.array (.array .long))) (t' := .int) (by decide) (by decide)))
  have E_r1 := E_r1.wr W
  have F_size_r1 := Fld.other W F_size_r1 (Or.inl (Ne.symm ne_r0_r1))
  have F_shift_r1 := Fld.other W F_shift_r1 (Or.inl (Ne.symm ne_r0_r1))
  have K := K.wr W (Or.inl (List.mem_of_getElem? (i := 0) rfl))
  refine o_aloadN S rfl rfl d4_12 rfl (q := 13) ?_
  refine o_aloadN S rfl rfl d4_13 rfl (q := 14) ?_
  refine o_callV0 S (W := 1) (argsL := []) (rest := [(.ref r0)]) (a := r1) (o_wd (i := 34) hw rfl) (o_wd (i := 35) hw rfl) (o_wd (i := 37) hw rfl) (o_wd (i := 36) hw rfl) (o_wd (i := 6) hw rfl) (o_wd (i := 38) hw rfl) (o_nf (o_wd (i := 37) hw rfl)) (by decide) E_r1 (ct_6 l Z a0 hw r1 Sh h1 n0 (o_n0 S) E_r1 F_shift_r1) (by decide) (by decide) rfl rfl pd_1 rfl (Nat.le_of_eq rfl) d4_14 rfl (q := 17) (by decide) (by decide) rfl (st' := [(.int Sh), (.ref r0)]) (fun T S => ?_)
  refine o_putF S (o_wd (i := 39) hw rfl) Via.refl F_shift_r0 E_r0 (Or.inr ⟨(o_wd (i := 40) hw rfl), rfl, rfl⟩) (o_wd (i := 2) hw rfl) (ty := .int) (by decide) rfl rfl g_r0 d4_17 rfl (q := 20) (fun T h2 S W F_shift_r0 => ?_)
  have E_r0 := E_r0.wr W
  have F_size_r0 := Fld.other W F_size_r0 (Or.inr (slot_ne (Or.inr (o_wd (i := 33) hw rfl)) (Or.inr (o_wd (i := 40) hw rfl)) (by decide) (t := .int) (t' := .int) (by decide) (by decide)))
  have F_wordMask_r0 := Fld.other W F_wordMask_r0 (Or.inr (slot_ne (Or.inr (o_wd (i := 42) hw rfl)) (Or.inr (o_wd (i := 40) hw rfl)) (by decide) (t := .int) (t' := .int) (by decide) (by decide)))
  have F_blocks_r0 := Fld.other W F_blocks_r0 (Or.inr (slot_ne (Or.inr (o_wd (i := 46) hw rfl)) (Or.inr (o_wd (i := 40) hw rfl)) (by decide) (t := (.array (.array .long))) (t' := .int) (by decide) (by decide)))
  have E_r1 := E_r1.wr W
  have F_size_r1 := Fld.other W F_size_r1 (Or.inl (Ne.symm ne_r0_r1))
  have F_shift_r1 := Fld.other W F_shift_r1 (Or.inl (Ne.symm ne_r0_r1))
  have K := K.wr W (Or.inl (List.mem_of_getElem? (i := 0) rfl))
  refine o_aloadN S rfl rfl d4_20 rfl (q := 21) ?_
  refine o_iconst S (z := 1) rfl d4_21 rfl (q := 22) ?_
  refine o_aloadN S rfl rfl d4_22 rfl (q := 23) ?_
  refine o_getF S (o_wd (i := 39) hw rfl) Via.refl F_shift_r0 d4_23 rfl (q := 26) (fun T S => ?_)
  refine o_bipush S (z := 6) rfl d4_26 rfl (q := 28) ?_
  refine o_isub S d4_28 rfl (q := 29) ?_
  refine o_ishl S d4_29 rfl (q := 30) ?_
  refine o_iconst S (z := 1) rfl d4_30 rfl (q := 31) ?_
  refine o_isub S d4_31 rfl (q := 32) ?_
  refine o_putF S (o_wd (i := 41) hw rfl) Via.refl F_wordMask_r0 E_r0 (Or.inr ⟨(o_wd (i := 42) hw rfl), rfl, rfl⟩) (o_wd (i := 2) hw rfl) (ty := .int) (by decide) rfl rfl g_r0 d4_32 rfl (q := 35) (fun T h3 S W F_wordMask_r0 => ?_)
  have E_r0 := E_r0.wr W
  have F_size_r0 := Fld.other W F_size_r0 (Or.inr (slot_ne (Or.inr (o_wd (i := 33) hw rfl)) (Or.inr (o_wd (i := 42) hw rfl)) (by decide) (t := .int) (t' := .int) (by decide) (by decide)))
  have F_shift_r0 := Fld.other W F_shift_r0 (Or.inr (slot_ne (Or.inr (o_wd (i := 40) hw rfl)) (Or.inr (o_wd (i := 42) hw rfl)) (by decide) (t := .int) (t' := .int) (by decide) (by decide)))
  have F_blocks_r0 := Fld.other W F_blocks_r0 (Or.inr (slot_ne (Or.inr (o_wd (i := 46) hw rfl)) (Or.inr (o_wd (i := 42) hw rfl)) (by decide) (t := (.array (.array .long))) (t' := .int) (by decide) (by decide)))
  have E_r1 := E_r1.wr W
  have F_size_r1 := Fld.other W F_size_r1 (Or.inl (Ne.symm ne_r0_r1))
  have F_shift_r1 := Fld.other W F_shift_r1 (Or.inl (Ne.symm ne_r0_r1))
  have K := K.wr W (Or.inl (List.mem_of_getElem? (i := 0) rfl))
  refine o_aloadN S rfl rfl d4_35 rfl (q := 36) ?_
  refine o_aloadN S rfl rfl d4_36 rfl (q := 37) ?_
  refine o_getF S (o_wd (i := 32) hw rfl) Via.refl F_size_r0 d4_37 rfl (q := 40) (fun T S => ?_)
  refine o_i2l S d4_40 rfl (q := 41) ?_
  refine o_lconst S (z := 1) rfl d4_41 rfl (q := 42) ?_
  refine o_aloadN S rfl rfl d4_42 rfl (q := 43) ?_
  refine o_getF S (o_wd (i := 39) hw rfl) Via.refl F_shift_r0 d4_43 rfl (q := 46) (fun T S => ?_)
  refine o_lshl S d4_46 rfl (q := 47) ?_
  refine o_ladd S d4_47 rfl (q := 48) ?_
  refine o_lconst S (z := 1) rfl d4_48 rfl (q := 49) ?_
  refine o_lsub S d4_49 rfl (q := 50) ?_
  refine o_aloadN S rfl rfl d4_50 rfl (q := 51) ?_
  refine o_getF S (o_wd (i := 39) hw rfl) Via.refl F_shift_r0 d4_51 rfl (q := 54) (fun T S => ?_)
  refine o_lushr S d4_54 rfl (q := 55) ?_
  refine o_l2i S d4_55 rfl (q := 56) ?_
  refine o_anewarrJ S (cap := 64) (o_wd (i := 43) hw rfl) (o_wd (i := 44) hw rfl) d4_56 rfl (q := 59) hnb.1 hnb.2 (by decide) (by decide) (by decide) (fun T h4 bl S ha_bl g_bl X A_bl => ?_)
  have ne_r0_bl : r0 ≠ bl := by rw [ha_bl]; exact Nat.ne_of_lt E_r0.lt
  have ne_r1_bl : r1 ≠ bl := by rw [ha_bl]; exact Nat.ne_of_lt E_r1.lt
  have sz_bl : h0.size ≤ bl := by rw [ha_bl]; exact K.1
  have E_r0 := Exa.ext X E_r0
  have F_size_r0 := Fld.ext X F_size_r0
  have F_shift_r0 := Fld.ext X F_shift_r0
  have F_wordMask_r0 := Fld.ext X F_wordMask_r0
  have F_blocks_r0 := Fld.ext X F_blocks_r0
  have E_r1 := Exa.ext X E_r1
  have F_size_r1 := Fld.ext X F_size_r1
  have F_shift_r1 := Fld.ext X F_shift_r1
  have K := K.ext X
  refine o_putF S (o_wd (i := 45) hw rfl) Via.refl F_blocks_r0 E_r0 (Or.inr ⟨(o_wd (i := 46) hw rfl), rfl, rfl⟩) (o_wd (i := 2) hw rfl) (ty := (.array (.array .long))) (by decide) rfl rfl g_r0 d4_59 rfl (q := 62) (fun T h5 S W F_blocks_r0 => ?_)
  have E_r0 := E_r0.wr W
  have F_size_r0 := Fld.other W F_size_r0 (Or.inr (slot_ne (Or.inr (o_wd (i := 33) hw rfl)) (Or.inr (o_wd (i := 46) hw rfl)) (by decide) (t := .int) (t' := (.array (.array .long))) (by decide) (by decide)))
  have F_shift_r0 := Fld.other W F_shift_r0 (Or.inr (slot_ne (Or.inr (o_wd (i := 40) hw rfl)) (Or.inr (o_wd (i := 46) hw rfl)) (by decide) (t := .int) (t' := (.array (.array .long))) (by decide) (by decide)))
  have F_wordMask_r0 := Fld.other W F_wordMask_r0 (Or.inr (slot_ne (Or.inr (o_wd (i := 42) hw rfl)) (Or.inr (o_wd (i := 46) hw rfl)) (by decide) (t := .int) (t' := (.array (.array .long))) (by decide) (by decide)))
  have E_r1 := E_r1.wr W
  have F_size_r1 := Fld.other W F_size_r1 (Or.inl (Ne.symm ne_r0_r1))
  have F_shift_r1 := Fld.other W F_shift_r1 (Or.inl (Ne.symm ne_r0_r1))
  have K := K.wr W (Or.inl (List.mem_of_getElem? (i := 0) rfl))
  have A_bl := A_bl.other W (Ne.symm ne_r0_bl)
  refine o_retV S rfl d4_62 (by decide) (by decide) ?_
  exact ⟨bl, g_bl, sz_bl, rfl, K, E_r0, F_size_r0, F_shift_r0, F_wordMask_r0, F_blocks_r0, A_bl⟩
theorem pd_2 : parseMethodDescriptor "(JJ)J" = some ⟨[.long, .long], some .long⟩ := by decide +kernel
def f_wn (p1 : Int32) (Sz : Int32) (Sh : Int32) (Wm : Int32) : Int32 := ((f_min ((Wm.toInt64) + (1 : Int64)) ((((((Sz.toInt64) + (64 : Int64)) - (1 : Int64)).toUInt64 >>> ((6 : Int32) &&& 0x3f).toInt64.toUInt64).toInt64) - ((p1.toInt64) <<< ((Sh - (6 : Int32)) &&& 0x3f).toInt64))).toInt32)
theorem d9_0 : decode prog_139_method_17_code 0 = .ok (.iload_n 1, 1) := by decide +kernel
theorem d9_1 : decode prog_139_method_17_code 1 = .ok (.i2l, 1) := by decide +kernel
theorem d9_2 : decode prog_139_method_17_code 2 = .ok (.aload_n 0, 1) := by decide +kernel
theorem d9_3 : decode prog_139_method_17_code 3 = .ok (.getfield 28, 3) := by decide +kernel
theorem d9_6 : decode prog_139_method_17_code 6 = .ok (.bipush 6, 2) := by decide +kernel
theorem d9_8 : decode prog_139_method_17_code 8 = .ok (.isub, 1) := by decide +kernel
theorem d9_9 : decode prog_139_method_17_code 9 = .ok (.lshl, 1) := by decide +kernel
theorem d9_10 : decode prog_139_method_17_code 10 = .ok (.lstore_n 2, 1) := by decide +kernel
theorem d9_11 : decode prog_139_method_17_code 11 = .ok (.aload_n 0, 1) := by decide +kernel
theorem d9_12 : decode prog_139_method_17_code 12 = .ok (.getfield 30, 3) := by decide +kernel
theorem d9_15 : decode prog_139_method_17_code 15 = .ok (.i2l, 1) := by decide +kernel
theorem d9_16 : decode prog_139_method_17_code 16 = .ok (.lconst 1, 1) := by decide +kernel
theorem d9_17 : decode prog_139_method_17_code 17 = .ok (.ladd, 1) := by decide +kernel
theorem d9_18 : decode prog_139_method_17_code 18 = .ok (.aload_n 0, 1) := by decide +kernel
theorem d9_19 : decode prog_139_method_17_code 19 = .ok (.getfield 22, 3) := by decide +kernel
theorem d9_22 : decode prog_139_method_17_code 22 = .ok (.i2l, 1) := by decide +kernel
theorem d9_23 : decode prog_139_method_17_code 23 = .ok (.ldc2_w 86, 3) := by decide +kernel
theorem d9_26 : decode prog_139_method_17_code 26 = .ok (.ladd, 1) := by decide +kernel
theorem d9_27 : decode prog_139_method_17_code 27 = .ok (.lconst 1, 1) := by decide +kernel
theorem d9_28 : decode prog_139_method_17_code 28 = .ok (.lsub, 1) := by decide +kernel
theorem d9_29 : decode prog_139_method_17_code 29 = .ok (.bipush 6, 2) := by decide +kernel
theorem d9_31 : decode prog_139_method_17_code 31 = .ok (.lushr, 1) := by decide +kernel
theorem d9_32 : decode prog_139_method_17_code 32 = .ok (.lload_n 2, 1) := by decide +kernel
theorem d9_33 : decode prog_139_method_17_code 33 = .ok (.lsub, 1) := by decide +kernel
theorem d9_34 : decode prog_139_method_17_code 34 = .ok (.invokestatic 94, 3) := by decide +kernel
theorem d9_37 : decode prog_139_method_17_code 37 = .ok (.l2i, 1) := by decide +kernel
theorem d9_38 : decode prog_139_method_17_code 38 = .ok (.ireturn, 1) := by decide +kernel
def rm_9 : Room := ({ frames := 1, cells := 0, slots := 0, locals := 15 } : Room)
theorem pn_9 : plainFor (⟨"com/example/mince_trees/mincetrees/xpath/NodeSet", "wordsIn", "(I)I"⟩ : MethodName) = true := plainFor_of_name (by first | (simp [plainName, overriddenIn]; done) | (simp [plainName, overriddenIn, x]; done) | decide +kernel)
theorem ef_9 (r0 : Addr) (p1 : Int32) (m : MethodId) : entryFrame m #[(.ref r0), (.int p1)] 4 = mkF m 0 #[.val (.ref r0), .val (.int p1), .unset, .unset] [] := by first | (simp [entryFrame, mkF, argsToLocals, Value.category]; done) | rfl
set_option maxRecDepth 65536 in
set_option maxHeartbeats 40000000 in
theorem ct_9 (l : Launch) (Z : State) (a0 : Array Value) (hw : ∀ d ∈ tables_1, d.before a0 Z = true) (r0 : Addr) (p1 : Int32) (Sz : Int32) (Sh : Int32) (Wm : Int32) (h0 : Heap) (n0 : Nat) (hn : n0 ≤ h0.size) (E_r0 : Exa Z h0 r0 "com/example/mince_trees/mincetrees/xpath/NodeSet") (F_size_r0 : Fld Z h0 r0 "com/example/mince_trees/mincetrees/xpath/NodeSet" "size" "I" (.int Sz)) (F_shift_r0 : Fld Z h0 r0 "com/example/mince_trees/mincetrees/xpath/NodeSet" "shift" "I" (.int Sh)) (F_wordMask_r0 : Fld Z h0 r0 "com/example/mince_trees/mincetrees/xpath/NodeSet" "wordMask" "I" (.int Wm)) : Ct l (⟨"com/example/mince_trees/mincetrees/xpath/NodeSet", "wordsIn", "(I)I"⟩ : MethodName) prog_139_method_17_code 4 (some .int) [] rm_9 Z h0 n0 #[(.ref r0), (.int p1)] (Qp (some (.int (f_wn p1 Sz Sh Wm))) h0) := by
  refine o_body pn_9 hn (ef_9 r0 p1) ?_
  intro p e s m below meth c T S
  refine o_iloadN S rfl d9_0 rfl (q := 1) ?_
  refine o_i2l S d9_1 rfl (q := 2) ?_
  refine o_aloadN S rfl rfl d9_2 rfl (q := 3) ?_
  refine o_getF S (o_wd (i := 39) hw rfl) Via.refl F_shift_r0 d9_3 rfl (q := 6) (fun T S => ?_)
  refine o_bipush S (z := 6) rfl d9_6 rfl (q := 8) ?_
  refine o_isub S d9_8 rfl (q := 9) ?_
  refine o_lshl S d9_9 rfl (q := 10) ?_
  refine o_lstoreN S (L' := #[.val (.ref r0), .val (.int p1), .val (.long ((p1.toInt64) <<< ((Sh - (6 : Int32)) &&& 0x3f).toInt64)), .second]) rfl d9_10 rfl (q := 11) ?_
  refine o_aloadN S rfl rfl d9_11 rfl (q := 12) ?_
  refine o_getF S (o_wd (i := 41) hw rfl) Via.refl F_wordMask_r0 d9_12 rfl (q := 15) (fun T S => ?_)
  refine o_i2l S d9_15 rfl (q := 16) ?_
  refine o_lconst S (z := 1) rfl d9_16 rfl (q := 17) ?_
  refine o_ladd S d9_17 rfl (q := 18) ?_
  refine o_aloadN S rfl rfl d9_18 rfl (q := 19) ?_
  refine o_getF S (o_wd (i := 32) hw rfl) Via.refl F_size_r0 d9_19 rfl (q := 22) (fun T S => ?_)
  refine o_i2l S d9_22 rfl (q := 23) ?_
  refine o_ldc2 S (o_wd (i := 60) hw rfl) d9_23 rfl (q := 26) ?_
  refine o_ladd S d9_26 rfl (q := 27) ?_
  refine o_lconst S (z := 1) rfl d9_27 rfl (q := 28) ?_
  refine o_lsub S d9_28 rfl (q := 29) ?_
  refine o_bipush S (z := 6) rfl d9_29 rfl (q := 31) ?_
  refine o_lushr S d9_31 rfl (q := 32) ?_
  refine o_lloadN S rfl d9_32 rfl (q := 33) ?_
  refine o_lsub S d9_33 rfl (q := 34) ?_
  refine o_callS0 S (W := 0) (argsL := [(.long ((Wm.toInt64) + (1 : Int64))), (.long ((((((Sz.toInt64) + (64 : Int64)) - (1 : Int64)).toUInt64 >>> ((6 : Int32) &&& 0x3f).toInt64.toUInt64).toInt64) - ((p1.toInt64) <<< ((Sh - (6 : Int32)) &&& 0x3f).toInt64)))]) (rest := []) (o_wd (i := 61) hw rfl) (o_wd (i := 62) hw rfl) (o_wd (i := 19) hw rfl) (o_wd (i := 63) hw rfl) (by decide) (ct_10 l Z a0 hw ((Wm.toInt64) + (1 : Int64)) ((((((Sz.toInt64) + (64 : Int64)) - (1 : Int64)).toUInt64 >>> ((6 : Int32) &&& 0x3f).toInt64.toUInt64).toInt64) - ((p1.toInt64) <<< ((Sh - (6 : Int32)) &&& 0x3f).toInt64)) h0 n0 (o_n0 S)) (by decide) (by decide) rfl rfl pd_2 rfl (Nat.le_of_eq rfl) d9_34 rfl (q := 37) (by decide) (by decide) rfl (st' := [(.long (f_min ((Wm.toInt64) + (1 : Int64)) ((((((Sz.toInt64) + (64 : Int64)) - (1 : Int64)).toUInt64 >>> ((6 : Int32) &&& 0x3f).toInt64.toUInt64).toInt64) - ((p1.toInt64) <<< ((Sh - (6 : Int32)) &&& 0x3f).toInt64))))]) (fun T S => ?_)
  refine o_l2i S d9_37 rfl (q := 38) ?_
  refine o_retI S rfl d9_38 (by decide) (by decide) ?_
  exact ⟨o_si (by rw [f_wn]), rfl⟩
def Q_8n (Z : State) (r0 : Addr) (p1 : Int32) (Sz : Int32) (Sh : Int32) (Wm : Int32) (bl : Addr) (vs : List Value) (h0 : Heap) (n0 : Nat) : Option Value → Heap → Prop := fun v h => ∃ b : Addr, n0 ≤ b ∧ h0.size ≤ b ∧ v = some (.ref b) ∧ Keep h0 h [bl] ∧ RJ Z h bl (vs.set p1.toNatClampNeg (.ref b)) ∧ LA Z h b (List.replicate (f_wn p1 Sz Sh Wm).toNatClampNeg 0)
theorem pd_3 : parseMethodDescriptor "(I)I" = some ⟨[.int], some .int⟩ := by decide +kernel
theorem d8_0 : decode prog_139_method_16_code 0 = .ok (.aload_n 0, 1) := by decide +kernel
theorem d8_1 : decode prog_139_method_16_code 1 = .ok (.getfield 35, 3) := by decide +kernel
theorem d8_4 : decode prog_139_method_16_code 4 = .ok (.iload_n 1, 1) := by decide +kernel
theorem d8_5 : decode prog_139_method_16_code 5 = .ok (.aaload, 1) := by decide +kernel
theorem d8_6 : decode prog_139_method_16_code 6 = .ok (.astore_n 2, 1) := by decide +kernel
theorem d8_7 : decode prog_139_method_16_code 7 = .ok (.aload_n 2, 1) := by decide +kernel
theorem d8_8 : decode prog_139_method_16_code 8 = .ok (.ifnonnull 18, 3) := by decide +kernel
theorem d8_11 : decode prog_139_method_16_code 11 = .ok (.aload_n 0, 1) := by decide +kernel
theorem d8_12 : decode prog_139_method_16_code 12 = .ok (.iload_n 1, 1) := by decide +kernel
theorem d8_13 : decode prog_139_method_16_code 13 = .ok (.invokevirtual 53, 3) := by decide +kernel
theorem d8_16 : decode prog_139_method_16_code 16 = .ok (.newarray .long, 2) := by decide +kernel
theorem d8_18 : decode prog_139_method_16_code 18 = .ok (.astore_n 2, 1) := by decide +kernel
theorem d8_19 : decode prog_139_method_16_code 19 = .ok (.aload_n 0, 1) := by decide +kernel
theorem d8_20 : decode prog_139_method_16_code 20 = .ok (.getfield 35, 3) := by decide +kernel
theorem d8_23 : decode prog_139_method_16_code 23 = .ok (.iload_n 1, 1) := by decide +kernel
theorem d8_24 : decode prog_139_method_16_code 24 = .ok (.aload_n 2, 1) := by decide +kernel
theorem d8_25 : decode prog_139_method_16_code 25 = .ok (.aastore, 1) := by decide +kernel
theorem d8_26 : decode prog_139_method_16_code 26 = .ok (.aload_n 2, 1) := by decide +kernel
theorem d8_27 : decode prog_139_method_16_code 27 = .ok (.areturn, 1) := by decide +kernel
def rm_8n : Room := ({ frames := 2, cells := 1, slots := 8, locals := 30 } : Room)
theorem pn_8 : plainFor (⟨"com/example/mince_trees/mincetrees/xpath/NodeSet", "block", "(I)[J"⟩ : MethodName) = true := plainFor_of_name (by first | (simp [plainName, overriddenIn]; done) | (simp [plainName, overriddenIn, x]; done) | decide +kernel)
theorem ef_8n (r0 : Addr) (p1 : Int32) (m : MethodId) : entryFrame m #[(.ref r0), (.int p1)] 3 = mkF m 0 #[.val (.ref r0), .val (.int p1), .unset] [] := by first | (simp [entryFrame, mkF, argsToLocals, Value.category]; done) | rfl
set_option maxRecDepth 65536 in
set_option maxHeartbeats 40000000 in
theorem ct_8n (l : Launch) (Z : State) (a0 : Array Value) (hw : ∀ d ∈ tables_1, d.before a0 Z = true) (r0 : Addr) (p1 : Int32) (Sz : Int32) (Sh : Int32) (Wm : Int32) (bl : Addr) (vs : List Value) (h0 : Heap) (n0 : Nat) (hn : n0 ≤ h0.size) (E_r0 : Exa Z h0 r0 "com/example/mince_trees/mincetrees/xpath/NodeSet") (F_size_r0 : Fld Z h0 r0 "com/example/mince_trees/mincetrees/xpath/NodeSet" "size" "I" (.int Sz)) (F_shift_r0 : Fld Z h0 r0 "com/example/mince_trees/mincetrees/xpath/NodeSet" "shift" "I" (.int Sh)) (F_wordMask_r0 : Fld Z h0 r0 "com/example/mince_trees/mincetrees/xpath/NodeSet" "wordMask" "I" (.int Wm)) (F_blocks_r0 : Fld Z h0 r0 "com/example/mince_trees/mincetrees/xpath/NodeSet" "blocks" "[[J" (.ref bl)) (A_bl : RJ Z h0 bl (vs)) (g_bl : n0 ≤ bl) (ne_r0_bl : r0 ≠ bl) (hb : 0 ≤ p1.toInt ∧ p1.toInt < vs.length) (hv : vs.getD p1.toNatClampNeg .null = .null) (hwn : 0 ≤ (f_wn p1 Sz Sh Wm).toInt ∧ (f_wn p1 Sz Sh Wm).toInt ≤ 8) : Ct l (⟨"com/example/mince_trees/mincetrees/xpath/NodeSet", "block", "(I)[J"⟩ : MethodName) prog_139_method_16_code 3 (some (.array .long)) [] rm_8n Z h0 n0 #[(.ref r0), (.int p1)] (Q_8n Z r0 p1 Sz Sh Wm bl vs h0 n0) := by
  refine o_body pn_8 hn (ef_8n r0 p1) ?_
  intro p e s m below meth c T S
  have K : Keep h0 h0 [bl] := Keep.refl _ _
  refine o_aloadN S rfl rfl d8_0 rfl (q := 1) ?_
  refine o_getF S (o_wd (i := 45) hw rfl) Via.refl F_blocks_r0 d8_1 rfl (q := 4) (fun T S => ?_)
  refine o_iloadN S rfl d8_4 rfl (q := 5) ?_
  refine o_aaloadJ S A_bl hb.1 hb.2 (v := .null) hv d8_5 rfl (q := 6) ?_
  refine o_astoreN S (L' := #[.val (.ref r0), .val (.int p1), .val .null]) rfl rfl d8_6 rfl (q := 7) ?_
  refine o_aloadN S rfl rfl d8_7 rfl (q := 8) ?_
  refine o_ifnonnullN S d8_8 rfl (q := 11) ?_
  refine o_aloadN S rfl rfl d8_11 rfl (q := 12) ?_
  refine o_iloadN S rfl d8_12 rfl (q := 13) ?_
  refine o_callP0 S (W := 0) (argsL := [(.int p1)]) (rest := []) (a := r0) (o_wd (i := 56) hw rfl) (o_wd (i := 57) hw rfl) (o_selP (o_wd (i := 2) hw rfl) (o_wd (i := 58) hw rfl) (o_wd (i := 57) hw rfl) (by decide)) (o_wd (i := 58) hw rfl) (o_wd (i := 3) hw rfl) (o_wd (i := 59) hw rfl) (by decide) E_r0 (ct_9 l Z a0 hw r0 p1 Sz Sh Wm h0 n0 (o_n0 S) E_r0 F_size_r0 F_shift_r0 F_wordMask_r0) (by decide) (by decide) rfl rfl pd_3 rfl (Nat.le_of_eq rfl) d8_13 rfl (q := 16) (by decide) (by decide) rfl (st' := [(.int (f_wn p1 Sz Sh Wm))]) (fun T S => ?_)
  refine o_newarrE S (cap := 8) (o_wd (i := 64) hw rfl) (ad := "[J") rfl d8_16 rfl (q := 18) hwn.1 hwn.2 (by decide) (by decide) (by decide) (fun T h1 b kA_b S ha_b g_b X A0 E_b => ?_)
  have ne_r0_b : r0 ≠ b := by rw [ha_b]; exact Nat.ne_of_lt E_r0.lt
  have ne_bl_b : bl ≠ b := by rw [ha_b]; exact Nat.ne_of_lt A_bl.lt
  have sz_b : h0.size ≤ b := by rw [ha_b]; exact K.1
  have E_r0 := Exa.ext X E_r0
  have F_size_r0 := Fld.ext X F_size_r0
  have F_shift_r0 := Fld.ext X F_shift_r0
  have F_wordMask_r0 := Fld.ext X F_wordMask_r0
  have F_blocks_r0 := Fld.ext X F_blocks_r0
  have A_bl := A_bl.ext X
  have K := K.ext X
  have A_b : LA Z h1 b (List.replicate (f_wn p1 Sz Sh Wm).toNatClampNeg 0) := LA.new A0 (o_nat (j := (f_wn p1 Sz Sh Wm)) hwn.1).1
  refine o_astoreN S (L' := #[.val (.ref r0), .val (.int p1), .val (.ref b)]) rfl rfl d8_18 rfl (q := 19) ?_
  refine o_aloadN S rfl rfl d8_19 rfl (q := 20) ?_
  refine o_getF S (o_wd (i := 45) hw rfl) Via.refl F_blocks_r0 d8_20 rfl (q := 23) (fun T S => ?_)
  refine o_iloadN S rfl d8_23 rfl (q := 24) ?_
  refine o_aloadN S rfl rfl d8_24 rfl (q := 25) ?_
  refine o_aastoreJ S (ys := (vs.set p1.toNatClampNeg (.ref b))) A_bl hb.1 hb.2 g_bl E_b rfl d8_25 rfl (q := 26) (fun T h2 S W A_bl => ?_)
  have E_r0 := Exa.wr W E_r0
  have F_size_r0 := Fld.other W F_size_r0 (Or.inl ne_r0_bl)
  have F_shift_r0 := Fld.other W F_shift_r0 (Or.inl ne_r0_bl)
  have F_wordMask_r0 := Fld.other W F_wordMask_r0 (Or.inl ne_r0_bl)
  have F_blocks_r0 := Fld.other W F_blocks_r0 (Or.inl ne_r0_bl)
  have K := K.wr W (Or.inl (List.mem_of_getElem? (i := 0) rfl))
  have E_b := Exa.wr W E_b
  have A_b := A_b.other W (Ne.symm ne_bl_b)
  refine o_aloadN S rfl rfl d8_26 rfl (q := 27) ?_
  refine o_retR S (t := (.array .long)) rfl rfl rfl rfl d8_27 (by decide) (by decide) ?_
  exact ⟨b, g_b, sz_b, rfl, K, A_bl, A_b⟩
def rm_8e : Room := ({ frames := 0, cells := 0, slots := 0, locals := 0 } : Room)
theorem ef_8e (r0 : Addr) (p1 : Int32) (m : MethodId) : entryFrame m #[(.ref r0), (.int p1)] 3 = mkF m 0 #[.val (.ref r0), .val (.int p1), .unset] [] := by first | (simp [entryFrame, mkF, argsToLocals, Value.category]; done) | rfl
set_option maxRecDepth 65536 in
set_option maxHeartbeats 40000000 in
theorem ct_8e (l : Launch) (Z : State) (a0 : Array Value) (hw : ∀ d ∈ tables_1, d.before a0 Z = true) (r0 : Addr) (p1 : Int32) (bl : Addr) (vs : List Value) (b : Addr) (h0 : Heap) (n0 : Nat) (hn : n0 ≤ h0.size) (E_r0 : Exa Z h0 r0 "com/example/mince_trees/mincetrees/xpath/NodeSet") (F_blocks_r0 : Fld Z h0 r0 "com/example/mince_trees/mincetrees/xpath/NodeSet" "blocks" "[[J" (.ref bl)) (A_bl : RJ Z h0 bl vs) (hb : 0 ≤ p1.toInt ∧ p1.toInt < vs.length) (hv : vs.getD p1.toNatClampNeg .null = .ref b) : Ct l (⟨"com/example/mince_trees/mincetrees/xpath/NodeSet", "block", "(I)[J"⟩ : MethodName) prog_139_method_16_code 3 (some (.array .long)) [] rm_8e Z h0 n0 #[(.ref r0), (.int p1)] (Qp (some (.ref b)) h0) := by
  refine o_body pn_8 hn (ef_8e r0 p1) ?_
  intro p e s m below meth c T S
  refine o_aloadN S rfl rfl d8_0 rfl (q := 1) ?_
  refine o_getF S (o_wd (i := 45) hw rfl) Via.refl F_blocks_r0 d8_1 rfl (q := 4) (fun T S => ?_)
  refine o_iloadN S rfl d8_4 rfl (q := 5) ?_
  refine o_aaloadJ S A_bl hb.1 hb.2 (v := (.ref b)) hv d8_5 rfl (q := 6) ?_
  refine o_astoreN S (L' := #[.val (.ref r0), .val (.int p1), .val (.ref b)]) rfl rfl d8_6 rfl (q := 7) ?_
  refine o_aloadN S rfl rfl d8_7 rfl (q := 8) ?_
  refine o_ifnonnullY S d8_8 (by decide) (q := 26) (by decide) ?_
  refine o_aloadN S rfl rfl d8_26 rfl (q := 27) ?_
  refine o_retR S (t := (.array .long)) rfl rfl rfl rfl d8_27 (by decide) (by decide) ?_
  exact ⟨rfl, rfl⟩
def Q_7n (Z : State) (r0 : Addr) (p1 : Int32) (Sz : Int32) (Sh : Int32) (Wm : Int32) (bl : Addr) (vs : List Value) (h0 : Heap) (n0 : Nat) : Option Value → Heap → Prop := fun v h => ∃ b : Addr, n0 ≤ b ∧ h0.size ≤ b ∧ v = none ∧ Keep h0 h [bl] ∧ RJ Z h bl (vs.set ((p1.toUInt32 >>> (Sh &&& 31).toUInt32).toInt32).toNatClampNeg (.ref b)) ∧ LA Z h b (((List.replicate (f_wn ((p1.toUInt32 >>> (Sh &&& 31).toUInt32).toInt32) Sz Sh Wm).toNatClampNeg 0) : List Int64).set (((p1.toUInt32 >>> ((6 : Int32) &&& 31).toUInt32).toInt32) &&& Wm).toNatClampNeg ((((List.replicate (f_wn ((p1.toUInt32 >>> (Sh &&& 31).toUInt32).toInt32) Sz Sh Wm).toNatClampNeg 0) : List Int64).getD (((p1.toUInt32 >>> ((6 : Int32) &&& 31).toUInt32).toInt32) &&& Wm).toNatClampNeg 0) ||| ((1 : Int64) <<< (p1 &&& 0x3f).toInt64)))
theorem pd_4 : parseMethodDescriptor "(I)[J" = some ⟨[.int], some (.array .long)⟩ := by decide +kernel
theorem d7_0 : decode prog_139_method_4_code 0 = .ok (.aload_n 0, 1) := by decide +kernel
theorem d7_1 : decode prog_139_method_4_code 1 = .ok (.iload_n 1, 1) := by decide +kernel
theorem d7_2 : decode prog_139_method_4_code 2 = .ok (.aload_n 0, 1) := by decide +kernel
theorem d7_3 : decode prog_139_method_4_code 3 = .ok (.getfield 28, 3) := by decide +kernel
theorem d7_6 : decode prog_139_method_4_code 6 = .ok (.iushr, 1) := by decide +kernel
theorem d7_7 : decode prog_139_method_4_code 7 = .ok (.invokevirtual 39, 3) := by decide +kernel
theorem d7_10 : decode prog_139_method_4_code 10 = .ok (.iload_n 1, 1) := by decide +kernel
theorem d7_11 : decode prog_139_method_4_code 11 = .ok (.bipush 6, 2) := by decide +kernel
theorem d7_13 : decode prog_139_method_4_code 13 = .ok (.iushr, 1) := by decide +kernel
theorem d7_14 : decode prog_139_method_4_code 14 = .ok (.aload_n 0, 1) := by decide +kernel
theorem d7_15 : decode prog_139_method_4_code 15 = .ok (.getfield 30, 3) := by decide +kernel
theorem d7_18 : decode prog_139_method_4_code 18 = .ok (.iand, 1) := by decide +kernel
theorem d7_19 : decode prog_139_method_4_code 19 = .ok (.dup2, 1) := by decide +kernel
theorem d7_20 : decode prog_139_method_4_code 20 = .ok (.laload, 1) := by decide +kernel
theorem d7_21 : decode prog_139_method_4_code 21 = .ok (.lconst 1, 1) := by decide +kernel
theorem d7_22 : decode prog_139_method_4_code 22 = .ok (.iload_n 1, 1) := by decide +kernel
theorem d7_23 : decode prog_139_method_4_code 23 = .ok (.lshl, 1) := by decide +kernel
theorem d7_24 : decode prog_139_method_4_code 24 = .ok (.lor, 1) := by decide +kernel
theorem d7_25 : decode prog_139_method_4_code 25 = .ok (.lastore, 1) := by decide +kernel
theorem d7_26 : decode prog_139_method_4_code 26 = .ok (.return_, 1) := by decide +kernel
def rm_7n : Room := ({ frames := 3, cells := 1, slots := 8, locals := 44 } : Room)
theorem pn_7 : plainFor (⟨"com/example/mince_trees/mincetrees/xpath/NodeSet", "add", "(I)V"⟩ : MethodName) = true := plainFor_of_name (by first | (simp [plainName, overriddenIn]; done) | (simp [plainName, overriddenIn, x]; done) | decide +kernel)
theorem ef_7n (r0 : Addr) (p1 : Int32) (m : MethodId) : entryFrame m #[(.ref r0), (.int p1)] 2 = mkF m 0 #[.val (.ref r0), .val (.int p1)] [] := by first | (simp [entryFrame, mkF, argsToLocals, Value.category]; done) | rfl
set_option maxRecDepth 65536 in
set_option maxHeartbeats 40000000 in
theorem ct_7n (l : Launch) (Z : State) (a0 : Array Value) (hw : ∀ d ∈ tables_1, d.before a0 Z = true) (r0 : Addr) (p1 : Int32) (Sz : Int32) (Sh : Int32) (Wm : Int32) (bl : Addr) (vs : List Value) (h0 : Heap) (n0 : Nat) (hn : n0 ≤ h0.size) (E_r0 : Exa Z h0 r0 "com/example/mince_trees/mincetrees/xpath/NodeSet") (F_size_r0 : Fld Z h0 r0 "com/example/mince_trees/mincetrees/xpath/NodeSet" "size" "I" (.int Sz)) (F_shift_r0 : Fld Z h0 r0 "com/example/mince_trees/mincetrees/xpath/NodeSet" "shift" "I" (.int Sh)) (F_wordMask_r0 : Fld Z h0 r0 "com/example/mince_trees/mincetrees/xpath/NodeSet" "wordMask" "I" (.int Wm)) (F_blocks_r0 : Fld Z h0 r0 "com/example/mince_trees/mincetrees/xpath/NodeSet" "blocks" "[[J" (.ref bl)) (A_bl : RJ Z h0 bl (vs)) (g_bl : n0 ≤ bl) (ne_r0_bl : r0 ≠ bl) (hb : 0 ≤ ((p1.toUInt32 >>> (Sh &&& 31).toUInt32).toInt32).toInt ∧ ((p1.toUInt32 >>> (Sh &&& 31).toUInt32).toInt32).toInt < vs.length) (hv : vs.getD ((p1.toUInt32 >>> (Sh &&& 31).toUInt32).toInt32).toNatClampNeg .null = .null) (hwn : 0 ≤ (f_wn ((p1.toUInt32 >>> (Sh &&& 31).toUInt32).toInt32) Sz Sh Wm).toInt ∧ (f_wn ((p1.toUInt32 >>> (Sh &&& 31).toUInt32).toInt32) Sz Sh Wm).toInt ≤ 8) (hw0 : 0 ≤ (((p1.toUInt32 >>> ((6 : Int32) &&& 31).toUInt32).toInt32) &&& Wm).toInt ∧ (((p1.toUInt32 >>> ((6 : Int32) &&& 31).toUInt32).toInt32) &&& Wm).toInt < (f_wn ((p1.toUInt32 >>> (Sh &&& 31).toUInt32).toInt32) Sz Sh Wm).toInt) : Ct l (⟨"com/example/mince_trees/mincetrees/xpath/NodeSet", "add", "(I)V"⟩ : MethodName) prog_139_method_4_code 2 none [] rm_7n Z h0 n0 #[(.ref r0), (.int p1)] (Q_7n Z r0 p1 Sz Sh Wm bl vs h0 n0) := by
  refine o_body pn_7 hn (ef_7n r0 p1) ?_
  intro p e s m below meth c T S
  have K : Keep h0 h0 [bl] := Keep.refl _ _
  refine o_aloadN S rfl rfl d7_0 rfl (q := 1) ?_
  refine o_iloadN S rfl d7_1 rfl (q := 2) ?_
  refine o_aloadN S rfl rfl d7_2 rfl (q := 3) ?_
  refine o_getF S (o_wd (i := 39) hw rfl) Via.refl F_shift_r0 d7_3 rfl (q := 6) (fun T S => ?_)
  refine o_iushr S d7_6 rfl (q := 7) ?_
  refine o_callP S (W := 0) (argsL := [(.int ((p1.toUInt32 >>> (Sh &&& 31).toUInt32).toInt32))]) (rest := []) (a := r0) (o_wd (i := 52) hw rfl) (o_wd (i := 53) hw rfl) (o_selP (o_wd (i := 2) hw rfl) (o_wd (i := 54) hw rfl) (o_wd (i := 53) hw rfl) (by decide)) (o_wd (i := 54) hw rfl) (o_wd (i := 3) hw rfl) (o_wd (i := 55) hw rfl) (by decide) E_r0 (ct_8n l Z a0 hw r0 ((p1.toUInt32 >>> (Sh &&& 31).toUInt32).toInt32) Sz Sh Wm bl vs h0 n0 (o_n0 S) E_r0 F_size_r0 F_shift_r0 F_wordMask_r0 F_blocks_r0 A_bl g_bl ne_r0_bl hb hv hwn) (by decide) (by decide) rfl rfl pd_4 rfl (Nat.le_of_eq rfl) d7_7 rfl (q := 10) (by decide) (by decide) (fun T h1 rr2 S hQ => ?_)
  obtain ⟨b3, g_b3, sz'_b3, hv, K1, A_bl', A_b3'⟩ := hQ
  subst hv
  have ne_r0_b3 : r0 ≠ b3 := Nat.ne_of_lt (Nat.lt_of_lt_of_le E_r0.lt sz'_b3)
  have ne_bl_b3 : bl ≠ b3 := Nat.ne_of_lt (Nat.lt_of_lt_of_le A_bl.lt sz'_b3)
  have sz_b3 : h0.size ≤ b3 := Nat.le_trans K.1 sz'_b3
  have E_r0 := E_r0.keep K1
  have F_size_r0 := F_size_r0.keep K1 (ninS ne_r0_bl nin0)
  have F_shift_r0 := F_shift_r0.keep K1 (ninS ne_r0_bl nin0)
  have F_wordMask_r0 := F_wordMask_r0.keep K1 (ninS ne_r0_bl nin0)
  have F_blocks_r0 := F_blocks_r0.keep K1 (ninS ne_r0_bl nin0)
  have K := K.trans K1 (allS (Or.inl (List.mem_of_getElem? (i := 0) rfl)) all0)
  have A_bl := A_bl'
  have A_b3 := A_b3'
  show Wp p e below (Po s n0 rm_7n (Q_7n Z r0 p1 Sz Sh Wm bl vs h0 n0)) T (mkF m 10 #[.val (.ref r0), .val (.int p1)] [(.ref b3)])
  refine o_iloadN S rfl d7_10 rfl (q := 11) ?_
  refine o_bipush S (z := 6) rfl d7_11 rfl (q := 13) ?_
  refine o_iushr S d7_13 rfl (q := 14) ?_
  refine o_aloadN S rfl rfl d7_14 rfl (q := 15) ?_
  refine o_getF S (o_wd (i := 41) hw rfl) Via.refl F_wordMask_r0 d7_15 rfl (q := 18) (fun T S => ?_)
  refine o_iand S d7_18 rfl (q := 19) ?_
  refine o_dup2 S rfl rfl d7_19 rfl (q := 20) ?_
  refine o_laload S A_b3 hw0.1 (by simp only [List.length_replicate]; have := (o_nat hwn.1).2; omega) (v := (((List.replicate (f_wn ((p1.toUInt32 >>> (Sh &&& 31).toUInt32).toInt32) Sz Sh Wm).toNatClampNeg 0) : List Int64).getD (((p1.toUInt32 >>> ((6 : Int32) &&& 31).toUInt32).toInt32) &&& Wm).toNatClampNeg 0)) rfl d7_20 rfl (q := 21) ?_
  refine o_lconst S (z := 1) rfl d7_21 rfl (q := 22) ?_
  refine o_iloadN S rfl d7_22 rfl (q := 23) ?_
  refine o_lshl S d7_23 rfl (q := 24) ?_
  refine o_lor S d7_24 rfl (q := 25) ?_
  refine o_lastore S (ys := (((List.replicate (f_wn ((p1.toUInt32 >>> (Sh &&& 31).toUInt32).toInt32) Sz Sh Wm).toNatClampNeg 0) : List Int64).set (((p1.toUInt32 >>> ((6 : Int32) &&& 31).toUInt32).toInt32) &&& Wm).toNatClampNeg ((((List.replicate (f_wn ((p1.toUInt32 >>> (Sh &&& 31).toUInt32).toInt32) Sz Sh Wm).toNatClampNeg 0) : List Int64).getD (((p1.toUInt32 >>> ((6 : Int32) &&& 31).toUInt32).toInt32) &&& Wm).toNatClampNeg 0) ||| ((1 : Int64) <<< (p1 &&& 0x3f).toInt64)))) A_b3 hw0.1 (by simp only [List.length_replicate]; have := (o_nat hwn.1).2; omega) g_b3 rfl d7_25 rfl (q := 26) (fun T h4 S W A_b3 => ?_)
  have E_r0 := Exa.wr W E_r0
  have F_size_r0 := Fld.other W F_size_r0 (Or.inl ne_r0_b3)
  have F_shift_r0 := Fld.other W F_shift_r0 (Or.inl ne_r0_b3)
  have F_wordMask_r0 := Fld.other W F_wordMask_r0 (Or.inl ne_r0_b3)
  have F_blocks_r0 := Fld.other W F_blocks_r0 (Or.inl ne_r0_b3)
  have A_bl := A_bl.other W ne_bl_b3
  have K := K.wr W (Or.inr sz_b3)
  refine o_retV S rfl d7_26 (by decide) (by decide) ?_
  exact ⟨b3, g_b3, sz_b3, rfl, K, A_bl, A_b3⟩
def Q_7e (Z : State) (r0 : Addr) (p1 : Int32) (Sh : Int32) (Wm : Int32) (bl : Addr) (vs : List Value) (ws : List Int64) (b : Addr) (h0 : Heap) (n0 : Nat) : Option Value → Heap → Prop := fun v h => v = none ∧ Keep h0 h [b] ∧ LA Z h b (ws.set (((p1.toUInt32 >>> ((6 : Int32) &&& 31).toUInt32).toInt32) &&& Wm).toNatClampNeg ((ws.getD (((p1.toUInt32 >>> ((6 : Int32) &&& 31).toUInt32).toInt32) &&& Wm).toNatClampNeg 0) ||| ((1 : Int64) <<< (p1 &&& 0x3f).toInt64)))
def rm_7e : Room := ({ frames := 3, cells := 1, slots := 8, locals := 44 } : Room)
theorem ef_7e (r0 : Addr) (p1 : Int32) (m : MethodId) : entryFrame m #[(.ref r0), (.int p1)] 2 = mkF m 0 #[.val (.ref r0), .val (.int p1)] [] := by first | (simp [entryFrame, mkF, argsToLocals, Value.category]; done) | rfl
set_option maxRecDepth 65536 in
set_option maxHeartbeats 40000000 in
theorem ct_7e (l : Launch) (Z : State) (a0 : Array Value) (hw : ∀ d ∈ tables_1, d.before a0 Z = true) (r0 : Addr) (p1 : Int32) (Sh : Int32) (Wm : Int32) (bl : Addr) (vs : List Value) (ws : List Int64) (b : Addr) (h0 : Heap) (n0 : Nat) (hn : n0 ≤ h0.size) (E_r0 : Exa Z h0 r0 "com/example/mince_trees/mincetrees/xpath/NodeSet") (F_shift_r0 : Fld Z h0 r0 "com/example/mince_trees/mincetrees/xpath/NodeSet" "shift" "I" (.int Sh)) (F_wordMask_r0 : Fld Z h0 r0 "com/example/mince_trees/mincetrees/xpath/NodeSet" "wordMask" "I" (.int Wm)) (F_blocks_r0 : Fld Z h0 r0 "com/example/mince_trees/mincetrees/xpath/NodeSet" "blocks" "[[J" (.ref bl)) (A_bl : RJ Z h0 bl (vs)) (A_b : LA Z h0 b (ws)) (g_b : n0 ≤ b) (ne_r0_b : r0 ≠ b) (ne_bl_b : bl ≠ b) (hb : 0 ≤ ((p1.toUInt32 >>> (Sh &&& 31).toUInt32).toInt32).toInt ∧ ((p1.toUInt32 >>> (Sh &&& 31).toUInt32).toInt32).toInt < vs.length) (hv : vs.getD ((p1.toUInt32 >>> (Sh &&& 31).toUInt32).toInt32).toNatClampNeg .null = .ref b) (hw0 : 0 ≤ (((p1.toUInt32 >>> ((6 : Int32) &&& 31).toUInt32).toInt32) &&& Wm).toInt ∧ (((p1.toUInt32 >>> ((6 : Int32) &&& 31).toUInt32).toInt32) &&& Wm).toInt < ws.length) : Ct l (⟨"com/example/mince_trees/mincetrees/xpath/NodeSet", "add", "(I)V"⟩ : MethodName) prog_139_method_4_code 2 none [] rm_7e Z h0 n0 #[(.ref r0), (.int p1)] (Q_7e Z r0 p1 Sh Wm bl vs ws b h0 n0) := by
  refine o_body pn_7 hn (ef_7e r0 p1) ?_
  intro p e s m below meth c T S
  have K : Keep h0 h0 [b] := Keep.refl _ _
  refine o_aloadN S rfl rfl d7_0 rfl (q := 1) ?_
  refine o_iloadN S rfl d7_1 rfl (q := 2) ?_
  refine o_aloadN S rfl rfl d7_2 rfl (q := 3) ?_
  refine o_getF S (o_wd (i := 39) hw rfl) Via.refl F_shift_r0 d7_3 rfl (q := 6) (fun T S => ?_)
  refine o_iushr S d7_6 rfl (q := 7) ?_
  refine o_callP0 S (W := 0) (argsL := [(.int ((p1.toUInt32 >>> (Sh &&& 31).toUInt32).toInt32))]) (rest := []) (a := r0) (o_wd (i := 52) hw rfl) (o_wd (i := 53) hw rfl) (o_selP (o_wd (i := 2) hw rfl) (o_wd (i := 54) hw rfl) (o_wd (i := 53) hw rfl) (by decide)) (o_wd (i := 54) hw rfl) (o_wd (i := 3) hw rfl) (o_wd (i := 55) hw rfl) (by decide) E_r0 (ct_8e l Z a0 hw r0 ((p1.toUInt32 >>> (Sh &&& 31).toUInt32).toInt32) bl vs b h0 n0 (o_n0 S) E_r0 F_blocks_r0 A_bl hb hv) (by decide) (by decide) rfl rfl pd_4 rfl (Nat.le_of_eq rfl) d7_7 rfl (q := 10) (by decide) (by decide) rfl (st' := [(.ref b)]) (fun T S => ?_)
  refine o_iloadN S rfl d7_10 rfl (q := 11) ?_
  refine o_bipush S (z := 6) rfl d7_11 rfl (q := 13) ?_
  refine o_iushr S d7_13 rfl (q := 14) ?_
  refine o_aloadN S rfl rfl d7_14 rfl (q := 15) ?_
  refine o_getF S (o_wd (i := 41) hw rfl) Via.refl F_wordMask_r0 d7_15 rfl (q := 18) (fun T S => ?_)
  refine o_iand S d7_18 rfl (q := 19) ?_
  refine o_dup2 S rfl rfl d7_19 rfl (q := 20) ?_
  refine o_laload S A_b hw0.1 hw0.2 (v := (ws.getD (((p1.toUInt32 >>> ((6 : Int32) &&& 31).toUInt32).toInt32) &&& Wm).toNatClampNeg 0)) rfl d7_20 rfl (q := 21) ?_
  refine o_lconst S (z := 1) rfl d7_21 rfl (q := 22) ?_
  refine o_iloadN S rfl d7_22 rfl (q := 23) ?_
  refine o_lshl S d7_23 rfl (q := 24) ?_
  refine o_lor S d7_24 rfl (q := 25) ?_
  refine o_lastore S (ys := (ws.set (((p1.toUInt32 >>> ((6 : Int32) &&& 31).toUInt32).toInt32) &&& Wm).toNatClampNeg ((ws.getD (((p1.toUInt32 >>> ((6 : Int32) &&& 31).toUInt32).toInt32) &&& Wm).toNatClampNeg 0) ||| ((1 : Int64) <<< (p1 &&& 0x3f).toInt64)))) A_b hw0.1 hw0.2 g_b rfl d7_25 rfl (q := 26) (fun T h1 S W A_b => ?_)
  have E_r0 := Exa.wr W E_r0
  have F_shift_r0 := Fld.other W F_shift_r0 (Or.inl ne_r0_b)
  have F_wordMask_r0 := Fld.other W F_wordMask_r0 (Or.inl ne_r0_b)
  have F_blocks_r0 := Fld.other W F_blocks_r0 (Or.inl ne_r0_b)
  have A_bl := A_bl.other W ne_bl_b
  have K := K.wr W (Or.inl (List.mem_of_getElem? (i := 0) rfl))
  refine o_retV S rfl d7_26 (by decide) (by decide) ?_
  exact ⟨rfl, K, A_b⟩
theorem d11_0 : decode prog_139_method_3_code 0 = .ok (.aload_n 0, 1) := by decide +kernel
theorem d11_1 : decode prog_139_method_3_code 1 = .ok (.getfield 35, 3) := by decide +kernel
theorem d11_4 : decode prog_139_method_3_code 4 = .ok (.iload_n 1, 1) := by decide +kernel
theorem d11_5 : decode prog_139_method_3_code 5 = .ok (.aload_n 0, 1) := by decide +kernel
theorem d11_6 : decode prog_139_method_3_code 6 = .ok (.getfield 28, 3) := by decide +kernel
theorem d11_9 : decode prog_139_method_3_code 9 = .ok (.iushr, 1) := by decide +kernel
theorem d11_10 : decode prog_139_method_3_code 10 = .ok (.aaload, 1) := by decide +kernel
theorem d11_11 : decode prog_139_method_3_code 11 = .ok (.astore_n 2, 1) := by decide +kernel
theorem d11_12 : decode prog_139_method_3_code 12 = .ok (.aload_n 2, 1) := by decide +kernel
theorem d11_13 : decode prog_139_method_3_code 13 = .ok (.ifnull 27, 3) := by decide +kernel
theorem d11_16 : decode prog_139_method_3_code 16 = .ok (.aload_n 2, 1) := by decide +kernel
theorem d11_17 : decode prog_139_method_3_code 17 = .ok (.iload_n 1, 1) := by decide +kernel
theorem d11_18 : decode prog_139_method_3_code 18 = .ok (.bipush 6, 2) := by decide +kernel
theorem d11_20 : decode prog_139_method_3_code 20 = .ok (.iushr, 1) := by decide +kernel
theorem d11_21 : decode prog_139_method_3_code 21 = .ok (.aload_n 0, 1) := by decide +kernel
theorem d11_22 : decode prog_139_method_3_code 22 = .ok (.getfield 30, 3) := by decide +kernel
theorem d11_25 : decode prog_139_method_3_code 25 = .ok (.iand, 1) := by decide +kernel
theorem d11_26 : decode prog_139_method_3_code 26 = .ok (.laload, 1) := by decide +kernel
theorem d11_27 : decode prog_139_method_3_code 27 = .ok (.lconst 1, 1) := by decide +kernel
theorem d11_28 : decode prog_139_method_3_code 28 = .ok (.iload_n 1, 1) := by decide +kernel
theorem d11_29 : decode prog_139_method_3_code 29 = .ok (.lshl, 1) := by decide +kernel
theorem d11_30 : decode prog_139_method_3_code 30 = .ok (.land, 1) := by decide +kernel
theorem d11_31 : decode prog_139_method_3_code 31 = .ok (.lconst 0, 1) := by decide +kernel
theorem d11_32 : decode prog_139_method_3_code 32 = .ok (.lcmp, 1) := by decide +kernel
theorem d11_33 : decode prog_139_method_3_code 33 = .ok (.ifCond .eq 7, 3) := by decide +kernel
theorem d11_36 : decode prog_139_method_3_code 36 = .ok (.iconst 1, 1) := by decide +kernel
theorem d11_37 : decode prog_139_method_3_code 37 = .ok (.goto 4, 3) := by decide +kernel
theorem d11_40 : decode prog_139_method_3_code 40 = .ok (.iconst 0, 1) := by decide +kernel
theorem d11_41 : decode prog_139_method_3_code 41 = .ok (.ireturn, 1) := by decide +kernel
def rm_11n : Room := ({ frames := 0, cells := 0, slots := 0, locals := 0 } : Room)
theorem pn_11 : plainFor (⟨"com/example/mince_trees/mincetrees/xpath/NodeSet", "contains", "(I)Z"⟩ : MethodName) = true := plainFor_of_name (by first | (simp [plainName, overriddenIn]; done) | (simp [plainName, overriddenIn, x]; done) | decide +kernel)
theorem ef_11n (r0 : Addr) (p1 : Int32) (m : MethodId) : entryFrame m #[(.ref r0), (.int p1)] 3 = mkF m 0 #[.val (.ref r0), .val (.int p1), .unset] [] := by first | (simp [entryFrame, mkF, argsToLocals, Value.category]; done) | rfl
set_option maxRecDepth 65536 in
set_option maxHeartbeats 40000000 in
theorem ct_11n (l : Launch) (Z : State) (a0 : Array Value) (hw : ∀ d ∈ tables_1, d.before a0 Z = true) (r0 : Addr) (p1 : Int32) (Sh : Int32) (bl : Addr) (vs : List Value) (h0 : Heap) (n0 : Nat) (hn : n0 ≤ h0.size) (E_r0 : Exa Z h0 r0 "com/example/mince_trees/mincetrees/xpath/NodeSet") (F_shift_r0 : Fld Z h0 r0 "com/example/mince_trees/mincetrees/xpath/NodeSet" "shift" "I" (.int Sh)) (F_blocks_r0 : Fld Z h0 r0 "com/example/mince_trees/mincetrees/xpath/NodeSet" "blocks" "[[J" (.ref bl)) (A_bl : RJ Z h0 bl vs) (hb : 0 ≤ ((p1.toUInt32 >>> (Sh &&& 31).toUInt32).toInt32).toInt ∧ ((p1.toUInt32 >>> (Sh &&& 31).toUInt32).toInt32).toInt < vs.length) (hv : vs.getD ((p1.toUInt32 >>> (Sh &&& 31).toUInt32).toInt32).toNatClampNeg .null = .null) : Ct l (⟨"com/example/mince_trees/mincetrees/xpath/NodeSet", "contains", "(I)Z"⟩ : MethodName) prog_139_method_3_code 3 (some .boolean) [] rm_11n Z h0 n0 #[(.ref r0), (.int p1)] (Qp (some (.int (0 : Int32))) h0) := by
  refine o_body pn_11 hn (ef_11n r0 p1) ?_
  intro p e s m below meth c T S
  refine o_aloadN S rfl rfl d11_0 rfl (q := 1) ?_
  refine o_getF S (o_wd (i := 45) hw rfl) Via.refl F_blocks_r0 d11_1 rfl (q := 4) (fun T S => ?_)
  refine o_iloadN S rfl d11_4 rfl (q := 5) ?_
  refine o_aloadN S rfl rfl d11_5 rfl (q := 6) ?_
  refine o_getF S (o_wd (i := 39) hw rfl) Via.refl F_shift_r0 d11_6 rfl (q := 9) (fun T S => ?_)
  refine o_iushr S d11_9 rfl (q := 10) ?_
  refine o_aaloadJ S A_bl hb.1 hb.2 (v := .null) hv d11_10 rfl (q := 11) ?_
  refine o_astoreN S (L' := #[.val (.ref r0), .val (.int p1), .val .null]) rfl rfl d11_11 rfl (q := 12) ?_
  refine o_aloadN S rfl rfl d11_12 rfl (q := 13) ?_
  refine o_ifnullY S d11_13 (by decide) (q := 40) (by decide) ?_
  refine o_iconst S (z := 0) rfl d11_40 rfl (q := 41) ?_
  refine o_retN S (t := .boolean) rfl (by simp) d11_41 (by decide) (by decide) rfl ?_
  exact ⟨rfl, rfl⟩
def f_con (p1 : Int32) (Sh : Int32) (Wm : Int32) (vs : List Value) (ws : List Int64) : Int32 := if ((ws.getD (((p1.toUInt32 >>> ((6 : Int32) &&& 31).toUInt32).toInt32) &&& Wm).toNatClampNeg 0) &&& ((1 : Int64) <<< (p1 &&& 0x3f).toInt64)) = (0 : Int64) then (0 : Int32) else (1 : Int32)
def rm_11e : Room := ({ frames := 0, cells := 0, slots := 0, locals := 0 } : Room)
theorem ef_11e (r0 : Addr) (p1 : Int32) (m : MethodId) : entryFrame m #[(.ref r0), (.int p1)] 3 = mkF m 0 #[.val (.ref r0), .val (.int p1), .unset] [] := by first | (simp [entryFrame, mkF, argsToLocals, Value.category]; done) | rfl
set_option maxRecDepth 65536 in
set_option maxHeartbeats 40000000 in
theorem ct_11e (l : Launch) (Z : State) (a0 : Array Value) (hw : ∀ d ∈ tables_1, d.before a0 Z = true) (r0 : Addr) (p1 : Int32) (Sh : Int32) (Wm : Int32) (bl : Addr) (vs : List Value) (ws : List Int64) (b : Addr) (h0 : Heap) (n0 : Nat) (hn : n0 ≤ h0.size) (E_r0 : Exa Z h0 r0 "com/example/mince_trees/mincetrees/xpath/NodeSet") (F_shift_r0 : Fld Z h0 r0 "com/example/mince_trees/mincetrees/xpath/NodeSet" "shift" "I" (.int Sh)) (F_wordMask_r0 : Fld Z h0 r0 "com/example/mince_trees/mincetrees/xpath/NodeSet" "wordMask" "I" (.int Wm)) (F_blocks_r0 : Fld Z h0 r0 "com/example/mince_trees/mincetrees/xpath/NodeSet" "blocks" "[[J" (.ref bl)) (A_bl : RJ Z h0 bl vs) (A_b : LA Z h0 b ws) (hb : 0 ≤ ((p1.toUInt32 >>> (Sh &&& 31).toUInt32).toInt32).toInt ∧ ((p1.toUInt32 >>> (Sh &&& 31).toUInt32).toInt32).toInt < vs.length) (hv : vs.getD ((p1.toUInt32 >>> (Sh &&& 31).toUInt32).toInt32).toNatClampNeg .null = .ref b) (hw0 : 0 ≤ (((p1.toUInt32 >>> ((6 : Int32) &&& 31).toUInt32).toInt32) &&& Wm).toInt ∧ (((p1.toUInt32 >>> ((6 : Int32) &&& 31).toUInt32).toInt32) &&& Wm).toInt < ws.length) : Ct l (⟨"com/example/mince_trees/mincetrees/xpath/NodeSet", "contains", "(I)Z"⟩ : MethodName) prog_139_method_3_code 3 (some .boolean) [] rm_11e Z h0 n0 #[(.ref r0), (.int p1)] (Qp (some (.int (f_con p1 Sh Wm vs ws))) h0) := by
  refine o_body pn_11 hn (ef_11e r0 p1) ?_
  intro p e s m below meth c T S
  refine o_aloadN S rfl rfl d11_0 rfl (q := 1) ?_
  refine o_getF S (o_wd (i := 45) hw rfl) Via.refl F_blocks_r0 d11_1 rfl (q := 4) (fun T S => ?_)
  refine o_iloadN S rfl d11_4 rfl (q := 5) ?_
  refine o_aloadN S rfl rfl d11_5 rfl (q := 6) ?_
  refine o_getF S (o_wd (i := 39) hw rfl) Via.refl F_shift_r0 d11_6 rfl (q := 9) (fun T S => ?_)
  refine o_iushr S d11_9 rfl (q := 10) ?_
  refine o_aaloadJ S A_bl hb.1 hb.2 (v := (.ref b)) hv d11_10 rfl (q := 11) ?_
  refine o_astoreN S (L' := #[.val (.ref r0), .val (.int p1), .val (.ref b)]) rfl rfl d11_11 rfl (q := 12) ?_
  refine o_aloadN S rfl rfl d11_12 rfl (q := 13) ?_
  refine o_ifnullN S d11_13 rfl (q := 16) ?_
  refine o_aloadN S rfl rfl d11_16 rfl (q := 17) ?_
  refine o_iloadN S rfl d11_17 rfl (q := 18) ?_
  refine o_bipush S (z := 6) rfl d11_18 rfl (q := 20) ?_
  refine o_iushr S d11_20 rfl (q := 21) ?_
  refine o_aloadN S rfl rfl d11_21 rfl (q := 22) ?_
  refine o_getF S (o_wd (i := 41) hw rfl) Via.refl F_wordMask_r0 d11_22 rfl (q := 25) (fun T S => ?_)
  refine o_iand S d11_25 rfl (q := 26) ?_
  refine o_laload S A_b hw0.1 hw0.2 (v := (ws.getD (((p1.toUInt32 >>> ((6 : Int32) &&& 31).toUInt32).toInt32) &&& Wm).toNatClampNeg 0)) rfl d11_26 rfl (q := 27) ?_
  refine o_lconst S (z := 1) rfl d11_27 rfl (q := 28) ?_
  refine o_iloadN S rfl d11_28 rfl (q := 29) ?_
  refine o_lshl S d11_29 rfl (q := 30) ?_
  refine o_land S d11_30 rfl (q := 31) ?_
  refine o_lconst S (z := 0) rfl d11_31 rfl (q := 32) ?_
  refine o_lcmp S d11_32 rfl (q := 33) ?_
  refine o_if S d11_33 (by decide) (q' := 40) (by decide) (q := 36) rfl hl_eq.1 hl_eq.2 (fun hc33 => ?_) (fun hc33 => ?_)
  · skip
    refine o_iconst S (z := 0) rfl d11_40 rfl (q := 41) ?_
    refine o_retN S (t := .boolean) rfl (by simp) d11_41 (by decide) (by decide) rfl ?_
    exact ⟨o_si (by rw [f_con, if_pos hc33]), rfl⟩
  · skip
    refine o_iconst S (z := 1) rfl d11_36 rfl (q := 37) ?_
    refine o_goto S d11_37 (by decide) (q := 41) (by decide) ?_
    refine o_retN S (t := .boolean) rfl (by simp) d11_41 (by decide) (by decide) rfl ?_
    exact ⟨o_si (by rw [f_con, if_neg hc33]), rfl⟩
theorem bi_6 {x : Int32} (h0 : 0 ≤ x.toInt) : ((x.toUInt32 >>> ((6 : Int32) &&& 31).toUInt32).toInt32).toInt = x.toInt / 64 := by
  have h : ((x.toUInt32 >>> ((6 : Int32) &&& 31).toUInt32).toInt32).toInt = x.toInt % 4294967296 / 64 := c_iushr x 6 6 (by decide) (by decide)
  have := rng32 x
  omega
theorem wi_6 {x : Int32} (h0 : 0 ≤ x.toInt) : (((x.toUInt32 >>> ((6 : Int32) &&& 31).toUInt32).toInt32) &&& (wmF (6 : Int32))).toInt = x.toInt / 64 % 1 := by
  have h : ((x.toUInt32 >>> ((6 : Int32) &&& 31).toUInt32).toInt32).toInt = x.toInt % 4294967296 / 64 := c_iushr x 6 6 (by decide) (by decide)
  have h2 : (((x.toUInt32 >>> ((6 : Int32) &&& 31).toUInt32).toInt32) &&& (wmF (6 : Int32))).toInt = ((x.toUInt32 >>> ((6 : Int32) &&& 31).toUInt32).toInt32).toInt % 1 := c_mask _ (wmF (6 : Int32)) 0 (by decide) (by decide)
  have := rng32 x
  omega
theorem nb_6 {Sz : Int32} (h0 : 1 ≤ Sz.toInt) (h1 : Sz.toInt ≤ 4096) : (nbF Sz (6 : Int32)).toInt = (Sz.toInt + 63) / 64 := by
  unfold nbF
  have e1 := c_i2l Sz
  have e2 : ((1 : Int64) <<< ((6 : Int32) &&& 0x3f).toInt64).toInt = 64 := by decide
  have e3 := c_ladd Sz.toInt64 ((1 : Int64) <<< ((6 : Int32) &&& 0x3f).toInt64)
  have r3 := rng64 (Sz.toInt64 + ((1 : Int64) <<< ((6 : Int32) &&& 0x3f).toInt64))
  generalize (Sz.toInt64 + ((1 : Int64) <<< ((6 : Int32) &&& 0x3f).toInt64)) = A at *
  have e4 := c_lsub A 1
  have w1 : (1 : Int64).toInt = 1 := rfl
  have r4 := rng64 (A - 1)
  generalize A - 1 = B at *
  have e5 : ((B.toUInt64 >>> ((6 : Int32) &&& 0x3f).toInt64.toUInt64).toInt64).toInt = B.toInt % 18446744073709551616 / 64 := c_lushr B 6 6 (by decide) (by decide)
  generalize ((B.toUInt64 >>> ((6 : Int32) &&& 0x3f).toInt64.toUInt64).toInt64) = D at *
  have e6 := c_l2i D
  have r6 := rng32 D.toInt32
  omega
theorem wn_6 {Sz i : Int32} (h0 : 1 ≤ Sz.toInt) (h1 : Sz.toInt ≤ 4096) (hi0 : 0 ≤ i.toInt) (hi1 : i.toInt ≤ 64) : (f_wn i Sz (6 : Int32) (wmF (6 : Int32))).toInt = if (Sz.toInt + 63) / 64 - i.toInt * 1 < 1 then (Sz.toInt + 63) / 64 - i.toInt * 1 else 1 := by
  unfold f_wn f_min
  have w0 : ((wmF (6 : Int32)).toInt64 + (1 : Int64)).toInt = 1 := by decide
  have e1 := c_i2l Sz
  have e2 := c_ladd Sz.toInt64 64; have w64 : (64 : Int64).toInt = 64 := rfl; have w1 : (1 : Int64).toInt = 1 := rfl
  have r2 := rng64 (Sz.toInt64 + 64)
  generalize Sz.toInt64 + 64 = A at *
  have e3 := c_lsub A 1
  have r3 := rng64 (A - 1)
  generalize A - 1 = B at *
  have e4 : ((B.toUInt64 >>> ((6 : Int32) &&& 0x3f).toInt64.toUInt64).toInt64).toInt = B.toInt % 18446744073709551616 / 64 := c_lushr B 6 6 (by decide) (by decide)
  generalize ((B.toUInt64 >>> ((6 : Int32) &&& 0x3f).toInt64.toUInt64).toInt64) = D at *
  have e5 := c_i2l i
  have e6 : ((i.toInt64 <<< (((6 : Int32) - (6 : Int32)) &&& 0x3f).toInt64).toInt - i.toInt64.toInt * 1) % 18446744073709551616 = 0 := c_lshl i.toInt64 ((6 : Int32) - (6 : Int32)) 0 (by decide)
  have r6 := rng64 (i.toInt64 <<< (((6 : Int32) - (6 : Int32)) &&& 0x3f).toInt64)
  generalize (i.toInt64 <<< (((6 : Int32) - (6 : Int32)) &&& 0x3f).toInt64) = F at *
  have e7 := c_lsub D F
  have r7 := rng64 (D - F)
  generalize D - F = G at *
  have e8 : G.toInt = (Sz.toInt + 63) / 64 - i.toInt * 1 := by omega
  rw [w0, e8]
  split
  · have := c_l2i G; have := rng32 G.toInt32; omega
  · have := c_l2i ((wmF (6 : Int32)).toInt64 + (1 : Int64)); have := rng32 ((wmF (6 : Int32)).toInt64 + (1 : Int64)).toInt32; omega
theorem bi_7 {x : Int32} (h0 : 0 ≤ x.toInt) : ((x.toUInt32 >>> ((7 : Int32) &&& 31).toUInt32).toInt32).toInt = x.toInt / 128 := by
  have h : ((x.toUInt32 >>> ((7 : Int32) &&& 31).toUInt32).toInt32).toInt = x.toInt % 4294967296 / 128 := c_iushr x 7 7 (by decide) (by decide)
  have := rng32 x
  omega
theorem wi_7 {x : Int32} (h0 : 0 ≤ x.toInt) : (((x.toUInt32 >>> ((6 : Int32) &&& 31).toUInt32).toInt32) &&& (wmF (7 : Int32))).toInt = x.toInt / 64 % 2 := by
  have h : ((x.toUInt32 >>> ((6 : Int32) &&& 31).toUInt32).toInt32).toInt = x.toInt % 4294967296 / 64 := c_iushr x 6 6 (by decide) (by decide)
  have h2 : (((x.toUInt32 >>> ((6 : Int32) &&& 31).toUInt32).toInt32) &&& (wmF (7 : Int32))).toInt = ((x.toUInt32 >>> ((6 : Int32) &&& 31).toUInt32).toInt32).toInt % 2 := c_mask _ (wmF (7 : Int32)) 1 (by decide) (by decide)
  have := rng32 x
  omega
theorem nb_7 {Sz : Int32} (h0 : 1 ≤ Sz.toInt) (h1 : Sz.toInt ≤ 4096) : (nbF Sz (7 : Int32)).toInt = (Sz.toInt + 127) / 128 := by
  unfold nbF
  have e1 := c_i2l Sz
  have e2 : ((1 : Int64) <<< ((7 : Int32) &&& 0x3f).toInt64).toInt = 128 := by decide
  have e3 := c_ladd Sz.toInt64 ((1 : Int64) <<< ((7 : Int32) &&& 0x3f).toInt64)
  have r3 := rng64 (Sz.toInt64 + ((1 : Int64) <<< ((7 : Int32) &&& 0x3f).toInt64))
  generalize (Sz.toInt64 + ((1 : Int64) <<< ((7 : Int32) &&& 0x3f).toInt64)) = A at *
  have e4 := c_lsub A 1
  have w1 : (1 : Int64).toInt = 1 := rfl
  have r4 := rng64 (A - 1)
  generalize A - 1 = B at *
  have e5 : ((B.toUInt64 >>> ((7 : Int32) &&& 0x3f).toInt64.toUInt64).toInt64).toInt = B.toInt % 18446744073709551616 / 128 := c_lushr B 7 7 (by decide) (by decide)
  generalize ((B.toUInt64 >>> ((7 : Int32) &&& 0x3f).toInt64.toUInt64).toInt64) = D at *
  have e6 := c_l2i D
  have r6 := rng32 D.toInt32
  omega
theorem wn_7 {Sz i : Int32} (h0 : 1 ≤ Sz.toInt) (h1 : Sz.toInt ≤ 4096) (hi0 : 0 ≤ i.toInt) (hi1 : i.toInt ≤ 64) : (f_wn i Sz (7 : Int32) (wmF (7 : Int32))).toInt = if (Sz.toInt + 63) / 64 - i.toInt * 2 < 2 then (Sz.toInt + 63) / 64 - i.toInt * 2 else 2 := by
  unfold f_wn f_min
  have w0 : ((wmF (7 : Int32)).toInt64 + (1 : Int64)).toInt = 2 := by decide
  have e1 := c_i2l Sz
  have e2 := c_ladd Sz.toInt64 64; have w64 : (64 : Int64).toInt = 64 := rfl; have w1 : (1 : Int64).toInt = 1 := rfl
  have r2 := rng64 (Sz.toInt64 + 64)
  generalize Sz.toInt64 + 64 = A at *
  have e3 := c_lsub A 1
  have r3 := rng64 (A - 1)
  generalize A - 1 = B at *
  have e4 : ((B.toUInt64 >>> ((6 : Int32) &&& 0x3f).toInt64.toUInt64).toInt64).toInt = B.toInt % 18446744073709551616 / 64 := c_lushr B 6 6 (by decide) (by decide)
  generalize ((B.toUInt64 >>> ((6 : Int32) &&& 0x3f).toInt64.toUInt64).toInt64) = D at *
  have e5 := c_i2l i
  have e6 : ((i.toInt64 <<< (((7 : Int32) - (6 : Int32)) &&& 0x3f).toInt64).toInt - i.toInt64.toInt * 2) % 18446744073709551616 = 0 := c_lshl i.toInt64 ((7 : Int32) - (6 : Int32)) 1 (by decide)
  have r6 := rng64 (i.toInt64 <<< (((7 : Int32) - (6 : Int32)) &&& 0x3f).toInt64)
  generalize (i.toInt64 <<< (((7 : Int32) - (6 : Int32)) &&& 0x3f).toInt64) = F at *
  have e7 := c_lsub D F
  have r7 := rng64 (D - F)
  generalize D - F = G at *
  have e8 : G.toInt = (Sz.toInt + 63) / 64 - i.toInt * 2 := by omega
  rw [w0, e8]
  split
  · have := c_l2i G; have := rng32 G.toInt32; omega
  · have := c_l2i ((wmF (7 : Int32)).toInt64 + (1 : Int64)); have := rng32 ((wmF (7 : Int32)).toInt64 + (1 : Int64)).toInt32; omega
theorem bi_8 {x : Int32} (h0 : 0 ≤ x.toInt) : ((x.toUInt32 >>> ((8 : Int32) &&& 31).toUInt32).toInt32).toInt = x.toInt / 256 := by
  have h : ((x.toUInt32 >>> ((8 : Int32) &&& 31).toUInt32).toInt32).toInt = x.toInt % 4294967296 / 256 := c_iushr x 8 8 (by decide) (by decide)
  have := rng32 x
  omega
theorem wi_8 {x : Int32} (h0 : 0 ≤ x.toInt) : (((x.toUInt32 >>> ((6 : Int32) &&& 31).toUInt32).toInt32) &&& (wmF (8 : Int32))).toInt = x.toInt / 64 % 4 := by
  have h : ((x.toUInt32 >>> ((6 : Int32) &&& 31).toUInt32).toInt32).toInt = x.toInt % 4294967296 / 64 := c_iushr x 6 6 (by decide) (by decide)
  have h2 : (((x.toUInt32 >>> ((6 : Int32) &&& 31).toUInt32).toInt32) &&& (wmF (8 : Int32))).toInt = ((x.toUInt32 >>> ((6 : Int32) &&& 31).toUInt32).toInt32).toInt % 4 := c_mask _ (wmF (8 : Int32)) 2 (by decide) (by decide)
  have := rng32 x
  omega
theorem nb_8 {Sz : Int32} (h0 : 1 ≤ Sz.toInt) (h1 : Sz.toInt ≤ 4096) : (nbF Sz (8 : Int32)).toInt = (Sz.toInt + 255) / 256 := by
  unfold nbF
  have e1 := c_i2l Sz
  have e2 : ((1 : Int64) <<< ((8 : Int32) &&& 0x3f).toInt64).toInt = 256 := by decide
  have e3 := c_ladd Sz.toInt64 ((1 : Int64) <<< ((8 : Int32) &&& 0x3f).toInt64)
  have r3 := rng64 (Sz.toInt64 + ((1 : Int64) <<< ((8 : Int32) &&& 0x3f).toInt64))
  generalize (Sz.toInt64 + ((1 : Int64) <<< ((8 : Int32) &&& 0x3f).toInt64)) = A at *
  have e4 := c_lsub A 1
  have w1 : (1 : Int64).toInt = 1 := rfl
  have r4 := rng64 (A - 1)
  generalize A - 1 = B at *
  have e5 : ((B.toUInt64 >>> ((8 : Int32) &&& 0x3f).toInt64.toUInt64).toInt64).toInt = B.toInt % 18446744073709551616 / 256 := c_lushr B 8 8 (by decide) (by decide)
  generalize ((B.toUInt64 >>> ((8 : Int32) &&& 0x3f).toInt64.toUInt64).toInt64) = D at *
  have e6 := c_l2i D
  have r6 := rng32 D.toInt32
  omega
theorem wn_8 {Sz i : Int32} (h0 : 1 ≤ Sz.toInt) (h1 : Sz.toInt ≤ 4096) (hi0 : 0 ≤ i.toInt) (hi1 : i.toInt ≤ 64) : (f_wn i Sz (8 : Int32) (wmF (8 : Int32))).toInt = if (Sz.toInt + 63) / 64 - i.toInt * 4 < 4 then (Sz.toInt + 63) / 64 - i.toInt * 4 else 4 := by
  unfold f_wn f_min
  have w0 : ((wmF (8 : Int32)).toInt64 + (1 : Int64)).toInt = 4 := by decide
  have e1 := c_i2l Sz
  have e2 := c_ladd Sz.toInt64 64; have w64 : (64 : Int64).toInt = 64 := rfl; have w1 : (1 : Int64).toInt = 1 := rfl
  have r2 := rng64 (Sz.toInt64 + 64)
  generalize Sz.toInt64 + 64 = A at *
  have e3 := c_lsub A 1
  have r3 := rng64 (A - 1)
  generalize A - 1 = B at *
  have e4 : ((B.toUInt64 >>> ((6 : Int32) &&& 0x3f).toInt64.toUInt64).toInt64).toInt = B.toInt % 18446744073709551616 / 64 := c_lushr B 6 6 (by decide) (by decide)
  generalize ((B.toUInt64 >>> ((6 : Int32) &&& 0x3f).toInt64.toUInt64).toInt64) = D at *
  have e5 := c_i2l i
  have e6 : ((i.toInt64 <<< (((8 : Int32) - (6 : Int32)) &&& 0x3f).toInt64).toInt - i.toInt64.toInt * 4) % 18446744073709551616 = 0 := c_lshl i.toInt64 ((8 : Int32) - (6 : Int32)) 2 (by decide)
  have r6 := rng64 (i.toInt64 <<< (((8 : Int32) - (6 : Int32)) &&& 0x3f).toInt64)
  generalize (i.toInt64 <<< (((8 : Int32) - (6 : Int32)) &&& 0x3f).toInt64) = F at *
  have e7 := c_lsub D F
  have r7 := rng64 (D - F)
  generalize D - F = G at *
  have e8 : G.toInt = (Sz.toInt + 63) / 64 - i.toInt * 4 := by omega
  rw [w0, e8]
  split
  · have := c_l2i G; have := rng32 G.toInt32; omega
  · have := c_l2i ((wmF (8 : Int32)).toInt64 + (1 : Int64)); have := rng32 ((wmF (8 : Int32)).toInt64 + (1 : Int64)).toInt32; omega
theorem bi_9 {x : Int32} (h0 : 0 ≤ x.toInt) : ((x.toUInt32 >>> ((9 : Int32) &&& 31).toUInt32).toInt32).toInt = x.toInt / 512 := by
  have h : ((x.toUInt32 >>> ((9 : Int32) &&& 31).toUInt32).toInt32).toInt = x.toInt % 4294967296 / 512 := c_iushr x 9 9 (by decide) (by decide)
  have := rng32 x
  omega
theorem wi_9 {x : Int32} (h0 : 0 ≤ x.toInt) : (((x.toUInt32 >>> ((6 : Int32) &&& 31).toUInt32).toInt32) &&& (wmF (9 : Int32))).toInt = x.toInt / 64 % 8 := by
  have h : ((x.toUInt32 >>> ((6 : Int32) &&& 31).toUInt32).toInt32).toInt = x.toInt % 4294967296 / 64 := c_iushr x 6 6 (by decide) (by decide)
  have h2 : (((x.toUInt32 >>> ((6 : Int32) &&& 31).toUInt32).toInt32) &&& (wmF (9 : Int32))).toInt = ((x.toUInt32 >>> ((6 : Int32) &&& 31).toUInt32).toInt32).toInt % 8 := c_mask _ (wmF (9 : Int32)) 3 (by decide) (by decide)
  have := rng32 x
  omega
theorem nb_9 {Sz : Int32} (h0 : 1 ≤ Sz.toInt) (h1 : Sz.toInt ≤ 4096) : (nbF Sz (9 : Int32)).toInt = (Sz.toInt + 511) / 512 := by
  unfold nbF
  have e1 := c_i2l Sz
  have e2 : ((1 : Int64) <<< ((9 : Int32) &&& 0x3f).toInt64).toInt = 512 := by decide
  have e3 := c_ladd Sz.toInt64 ((1 : Int64) <<< ((9 : Int32) &&& 0x3f).toInt64)
  have r3 := rng64 (Sz.toInt64 + ((1 : Int64) <<< ((9 : Int32) &&& 0x3f).toInt64))
  generalize (Sz.toInt64 + ((1 : Int64) <<< ((9 : Int32) &&& 0x3f).toInt64)) = A at *
  have e4 := c_lsub A 1
  have w1 : (1 : Int64).toInt = 1 := rfl
  have r4 := rng64 (A - 1)
  generalize A - 1 = B at *
  have e5 : ((B.toUInt64 >>> ((9 : Int32) &&& 0x3f).toInt64.toUInt64).toInt64).toInt = B.toInt % 18446744073709551616 / 512 := c_lushr B 9 9 (by decide) (by decide)
  generalize ((B.toUInt64 >>> ((9 : Int32) &&& 0x3f).toInt64.toUInt64).toInt64) = D at *
  have e6 := c_l2i D
  have r6 := rng32 D.toInt32
  omega
theorem wn_9 {Sz i : Int32} (h0 : 1 ≤ Sz.toInt) (h1 : Sz.toInt ≤ 4096) (hi0 : 0 ≤ i.toInt) (hi1 : i.toInt ≤ 64) : (f_wn i Sz (9 : Int32) (wmF (9 : Int32))).toInt = if (Sz.toInt + 63) / 64 - i.toInt * 8 < 8 then (Sz.toInt + 63) / 64 - i.toInt * 8 else 8 := by
  unfold f_wn f_min
  have w0 : ((wmF (9 : Int32)).toInt64 + (1 : Int64)).toInt = 8 := by decide
  have e1 := c_i2l Sz
  have e2 := c_ladd Sz.toInt64 64; have w64 : (64 : Int64).toInt = 64 := rfl; have w1 : (1 : Int64).toInt = 1 := rfl
  have r2 := rng64 (Sz.toInt64 + 64)
  generalize Sz.toInt64 + 64 = A at *
  have e3 := c_lsub A 1
  have r3 := rng64 (A - 1)
  generalize A - 1 = B at *
  have e4 : ((B.toUInt64 >>> ((6 : Int32) &&& 0x3f).toInt64.toUInt64).toInt64).toInt = B.toInt % 18446744073709551616 / 64 := c_lushr B 6 6 (by decide) (by decide)
  generalize ((B.toUInt64 >>> ((6 : Int32) &&& 0x3f).toInt64.toUInt64).toInt64) = D at *
  have e5 := c_i2l i
  have e6 : ((i.toInt64 <<< (((9 : Int32) - (6 : Int32)) &&& 0x3f).toInt64).toInt - i.toInt64.toInt * 8) % 18446744073709551616 = 0 := c_lshl i.toInt64 ((9 : Int32) - (6 : Int32)) 3 (by decide)
  have r6 := rng64 (i.toInt64 <<< (((9 : Int32) - (6 : Int32)) &&& 0x3f).toInt64)
  generalize (i.toInt64 <<< (((9 : Int32) - (6 : Int32)) &&& 0x3f).toInt64) = F at *
  have e7 := c_lsub D F
  have r7 := rng64 (D - F)
  generalize D - F = G at *
  have e8 : G.toInt = (Sz.toInt + 63) / 64 - i.toInt * 8 := by omega
  rw [w0, e8]
  split
  · have := c_l2i G; have := rng32 G.toInt32; omega
  · have := c_l2i ((wmF (9 : Int32)).toInt64 + (1 : Int64)); have := rng32 ((wmF (9 : Int32)).toInt64 + (1 : Int64)).toInt32; omega
theorem geo {Sz Sh x : Int32} (hS : Sh = 6 ∨ Sh = 7 ∨ Sh = 8 ∨ Sh = 9) (h0 : 1 ≤ Sz.toInt) (h1 : Sz.toInt ≤ 4096) (x0 : 0 ≤ x.toInt) (x1 : x.toInt < Sz.toInt) :
    (0 ≤ ((x.toUInt32 >>> (Sh &&& 31).toUInt32).toInt32).toInt ∧ ((x.toUInt32 >>> (Sh &&& 31).toUInt32).toInt32).toInt < (nbF Sz Sh).toInt) ∧ (0 ≤ (f_wn ((x.toUInt32 >>> (Sh &&& 31).toUInt32).toInt32) Sz Sh (wmF Sh)).toInt ∧ (f_wn ((x.toUInt32 >>> (Sh &&& 31).toUInt32).toInt32) Sz Sh (wmF Sh)).toInt ≤ 8) ∧ (0 ≤ (((x.toUInt32 >>> ((6 : Int32) &&& 31).toUInt32).toInt32) &&& (wmF Sh)).toInt ∧ (((x.toUInt32 >>> ((6 : Int32) &&& 31).toUInt32).toInt32) &&& (wmF Sh)).toInt < (f_wn ((x.toUInt32 >>> (Sh &&& 31).toUInt32).toInt32) Sz Sh (wmF Sh)).toInt) := by
  rcases hS with rfl | rfl | rfl | rfl
  · have a := bi_6 x0; have b := wi_6 x0; have c := nb_6 h0 h1; have d := wn_6 (i := ((x.toUInt32 >>> ((6 : Int32) &&& 31).toUInt32).toInt32)) h0 h1 (by omega) (by omega); rw [a, b, c, d]; rw [a]; split <;> omega
  · have a := bi_7 x0; have b := wi_7 x0; have c := nb_7 h0 h1; have d := wn_7 (i := ((x.toUInt32 >>> ((7 : Int32) &&& 31).toUInt32).toInt32)) h0 h1 (by omega) (by omega); rw [a, b, c, d]; rw [a]; split <;> omega
  · have a := bi_8 x0; have b := wi_8 x0; have c := nb_8 h0 h1; have d := wn_8 (i := ((x.toUInt32 >>> ((8 : Int32) &&& 31).toUInt32).toInt32)) h0 h1 (by omega) (by omega); rw [a, b, c, d]; rw [a]; split <;> omega
  · have a := bi_9 x0; have b := wi_9 x0; have c := nb_9 h0 h1; have d := wn_9 (i := ((x.toUInt32 >>> ((9 : Int32) &&& 31).toUInt32).toInt32)) h0 h1 (by omega) (by omega); rw [a, b, c, d]; rw [a]; split <;> omega
theorem nbr {Sz Sh : Int32} (hS : Sh = 6 ∨ Sh = 7 ∨ Sh = 8 ∨ Sh = 9) (h0 : 1 ≤ Sz.toInt) (h1 : Sz.toInt ≤ 4096) : 0 ≤ (nbF Sz Sh).toInt ∧ (nbF Sz Sh).toInt ≤ 64 := by
  rcases hS with rfl | rfl | rfl | rfl
  · rw [nb_6 h0 h1]; omega
  · rw [nb_7 h0 h1]; omega
  · rw [nb_8 h0 h1]; omega
  · rw [nb_9 h0 h1]; omega
theorem injx {Sh x y : Int32} (hS : Sh = 6 ∨ Sh = 7 ∨ Sh = 8 ∨ Sh = 9) (x0 : 0 ≤ x.toInt) (y0 : 0 ≤ y.toInt) (h1 : ((x.toUInt32 >>> (Sh &&& 31).toUInt32).toInt32) = ((y.toUInt32 >>> (Sh &&& 31).toUInt32).toInt32)) (h2 : (((x.toUInt32 >>> ((6 : Int32) &&& 31).toUInt32).toInt32) &&& (wmF Sh)).toNatClampNeg = (((y.toUInt32 >>> ((6 : Int32) &&& 31).toUInt32).toInt32) &&& (wmF Sh)).toNatClampNeg) (h3 : x.toInt % 64 = y.toInt % 64) : x = y := by
  have h1' := congrArg Int32.toInt h1
  rcases hS with rfl | rfl | rfl | rfl
  · have a := bi_6 x0; have b := wi_6 x0; have c := bi_6 y0; have d := wi_6 y0; have e := (o_nat (j := (((x.toUInt32 >>> ((6 : Int32) &&& 31).toUInt32).toInt32) &&& (wmF (6 : Int32)))) (by omega)).2; have f := (o_nat (j := (((y.toUInt32 >>> ((6 : Int32) &&& 31).toUInt32).toInt32) &&& (wmF (6 : Int32)))) (by omega)).2; exact o_eq32 (by omega)
  · have a := bi_7 x0; have b := wi_7 x0; have c := bi_7 y0; have d := wi_7 y0; have e := (o_nat (j := (((x.toUInt32 >>> ((6 : Int32) &&& 31).toUInt32).toInt32) &&& (wmF (7 : Int32)))) (by omega)).2; have f := (o_nat (j := (((y.toUInt32 >>> ((6 : Int32) &&& 31).toUInt32).toInt32) &&& (wmF (7 : Int32)))) (by omega)).2; exact o_eq32 (by omega)
  · have a := bi_8 x0; have b := wi_8 x0; have c := bi_8 y0; have d := wi_8 y0; have e := (o_nat (j := (((x.toUInt32 >>> ((6 : Int32) &&& 31).toUInt32).toInt32) &&& (wmF (8 : Int32)))) (by omega)).2; have f := (o_nat (j := (((y.toUInt32 >>> ((6 : Int32) &&& 31).toUInt32).toInt32) &&& (wmF (8 : Int32)))) (by omega)).2; exact o_eq32 (by omega)
  · have a := bi_9 x0; have b := wi_9 x0; have c := bi_9 y0; have d := wi_9 y0; have e := (o_nat (j := (((x.toUInt32 >>> ((6 : Int32) &&& 31).toUInt32).toInt32) &&& (wmF (9 : Int32)))) (by omega)).2; have f := (o_nat (j := (((y.toUInt32 >>> ((6 : Int32) &&& 31).toUInt32).toInt32) &&& (wmF (9 : Int32)))) (by omega)).2; exact o_eq32 (by omega)
theorem own_ofN {h : Int32} {N : Nat} (h0 : 0 ≤ h.toInt) (h1 : h.toInt < N) : ∃ i : Fin N, h = Int32.ofNat i.1 := by
  obtain ⟨g1, g2⟩ := o_nat h0
  exact ⟨⟨h.toNatClampNeg, by omega⟩, (back32 g1).1.symm⟩
theorem bit_ne (x y : Int32) : ¬ (((1 : Int64) <<< (x &&& 0x3f).toInt64) &&& ((1 : Int64) <<< (y &&& 0x3f).toInt64)) = 0 ↔ x.toInt % 64 = y.toInt % 64 := by
  have hx : (x &&& (63 : Int32)).toInt = x.toInt % 64 := c_mask x 63 6 (by decide) (by decide)
  have hy : (y &&& (63 : Int32)).toInt = y.toInt % 64 := c_mask y 63 6 (by decide) (by decide)
  rw [← hx, ← hy]
  obtain ⟨i, hi⟩ := own_ofN (h := x &&& (63 : Int32)) (N := 64) (by omega) (by omega)
  obtain ⟨j, hj⟩ := own_ofN (h := y &&& (63 : Int32)) (N := 64) (by omega) (by omega)
  show ¬ (((1 : Int64) <<< (x &&& (63 : Int32)).toInt64) &&& ((1 : Int64) <<< (y &&& (63 : Int32)).toInt64)) = 0 ↔ _
  rw [hi, hj]
  have q : ∀ a b : Fin 64, ¬ (((1 : Int64) <<< (Int32.ofNat a.1).toInt64) &&& ((1 : Int64) <<< (Int32.ofNat b.1).toInt64)) = 0 ↔ (Int32.ofNat a.1).toInt = (Int32.ofNat b.1).toInt := by decide +kernel
  exact q i j
def Rep (Sz Sh Wm : Int32) (ws : List Int64) (i : Int32) (P : Int32 → Prop) : Prop := ∀ y : Int32, 0 ≤ y.toInt → y.toInt < Sz.toInt → ((y.toUInt32 >>> (Sh &&& 31).toUInt32).toInt32) = i → (¬ ((ws.getD (((y.toUInt32 >>> ((6 : Int32) &&& 31).toUInt32).toInt32) &&& Wm).toNatClampNeg 0) &&& ((1 : Int64) <<< (y &&& 0x3f).toInt64)) = 0 ↔ P y)
theorem Rep.zero {Sz Sh Wm : Int32} {n : Nat} {i : Int32} : Rep Sz Sh Wm (List.replicate n 0) i (fun _ => False) := by
  intro y _ _ _
  have : (List.replicate n (0 : Int64)).getD (((y.toUInt32 >>> ((6 : Int32) &&& 31).toUInt32).toInt32) &&& Wm).toNatClampNeg 0 = 0 := by
    rw [List.getD_eq_getElem?_getD, List.getElem?_replicate]; split <;> rfl
  rw [this]; simp
theorem or_and_ne (u v b : Int64) : ¬ ((u ||| v) &&& b) = 0 ↔ ¬ (u &&& b) = 0 ∨ ¬ (v &&& b) = 0 := by
  have e : (u ||| v) &&& b = (u &&& b) ||| (v &&& b) := Int64.toBitVec_inj.1 BitVec.and_or_distrib_right
  rw [e, Int64.or_eq_zero_iff]
  by_cases a : u &&& b = 0
  · by_cases c : v &&& b = 0
    · simp [a, c]
    · simp [a, c]
  · simp [a]
theorem Rep.set {Sz Sh : Int32} {ws : List Int64} {i x : Int32} {P : Int32 → Prop} (hS : Sh = 6 ∨ Sh = 7 ∨ Sh = 8 ∨ Sh = 9) (R : Rep Sz Sh (wmF Sh) ws i P) (x0 : 0 ≤ x.toInt) (hi : ((x.toUInt32 >>> (Sh &&& 31).toUInt32).toInt32) = i) (hl : (((x.toUInt32 >>> ((6 : Int32) &&& 31).toUInt32).toInt32) &&& (wmF Sh)).toNatClampNeg < ws.length) : Rep Sz Sh (wmF Sh) (ws.set (((x.toUInt32 >>> ((6 : Int32) &&& 31).toUInt32).toInt32) &&& (wmF Sh)).toNatClampNeg ((ws.getD (((x.toUInt32 >>> ((6 : Int32) &&& 31).toUInt32).toInt32) &&& (wmF Sh)).toNatClampNeg 0) ||| ((1 : Int64) <<< (x &&& 0x3f).toInt64))) i (fun y => P y ∨ y = x) := by
  intro y y0 y1 yi
  by_cases c : (((x.toUInt32 >>> ((6 : Int32) &&& 31).toUInt32).toInt32) &&& (wmF Sh)).toNatClampNeg = (((y.toUInt32 >>> ((6 : Int32) &&& 31).toUInt32).toInt32) &&& (wmF Sh)).toNatClampNeg
  · have e : (ws.set (((x.toUInt32 >>> ((6 : Int32) &&& 31).toUInt32).toInt32) &&& (wmF Sh)).toNatClampNeg ((ws.getD (((x.toUInt32 >>> ((6 : Int32) &&& 31).toUInt32).toInt32) &&& (wmF Sh)).toNatClampNeg 0) ||| ((1 : Int64) <<< (x &&& 0x3f).toInt64))).getD (((y.toUInt32 >>> ((6 : Int32) &&& 31).toUInt32).toInt32) &&& (wmF Sh)).toNatClampNeg 0 = (ws.getD (((y.toUInt32 >>> ((6 : Int32) &&& 31).toUInt32).toInt32) &&& (wmF Sh)).toNatClampNeg 0) ||| ((1 : Int64) <<< (x &&& 0x3f).toInt64) := by
      rw [← c, List.getD_eq_getElem?_getD, List.getElem?_set_self hl]; rfl
    rw [e, or_and_ne, R y y0 y1 yi, bit_ne]
    constructor
    · rintro (h | h)
      · exact Or.inl h
      · exact Or.inr (injx hS y0 x0 (yi.trans hi.symm) c.symm h.symm)
    · rintro (h | h)
      · exact Or.inl h
      · exact Or.inr (by rw [h])
  · have e : (ws.set (((x.toUInt32 >>> ((6 : Int32) &&& 31).toUInt32).toInt32) &&& (wmF Sh)).toNatClampNeg ((ws.getD (((x.toUInt32 >>> ((6 : Int32) &&& 31).toUInt32).toInt32) &&& (wmF Sh)).toNatClampNeg 0) ||| ((1 : Int64) <<< (x &&& 0x3f).toInt64))).getD (((y.toUInt32 >>> ((6 : Int32) &&& 31).toUInt32).toInt32) &&& (wmF Sh)).toNatClampNeg 0 = ws.getD (((y.toUInt32 >>> ((6 : Int32) &&& 31).toUInt32).toInt32) &&& (wmF Sh)).toNatClampNeg 0 := by
      rw [List.getD_eq_getElem?_getD, List.getElem?_set_ne c, ← List.getD_eq_getElem?_getD]
    rw [e, R y y0 y1 yi]
    exact ⟨Or.inl, fun h => h.elim id (fun q => absurd (by rw [q]) c)⟩
theorem Rep.con1 {Sz Sh Wm q : Int32} {vs : List Value} {ws : List Int64} {i : Int32} {P : Int32 → Prop} (R : Rep Sz Sh Wm ws i P) (q0 : 0 ≤ q.toInt) (q1 : q.toInt < Sz.toInt) (hi : ((q.toUInt32 >>> (Sh &&& 31).toUInt32).toInt32) = i) (h : P q) : f_con q Sh Wm vs ws = 1 := by
  unfold f_con; rw [if_neg ((R q q0 q1 hi).mpr h)]
theorem Rep.con0 {Sz Sh Wm q : Int32} {vs : List Value} {ws : List Int64} {i : Int32} {P : Int32 → Prop} (R : Rep Sz Sh Wm ws i P) (q0 : 0 ≤ q.toInt) (q1 : q.toInt < Sz.toInt) (hi : ((q.toUInt32 >>> (Sh &&& 31).toUInt32).toInt32) = i) (h : ¬ P q) : f_con q Sh Wm vs ws = 0 := by
  unfold f_con; rw [if_pos (Decidable.not_not.mp (fun z => h ((R q q0 q1 hi).mp z)))]
theorem own_he {P : Prop} {a v : Int32} (h1 : P → a = 1) (h0 : ¬ P → a = 0) (e : (P → v = 1) ∧ (¬ P → v = 0)) : a = v := by
  by_cases h : P
  · rw [h1 h, e.1 h]
  · rw [h0 h, e.2 h]
theorem ex_10 {q a b v : Int32} (hv : v = (if q = a then (1 : Int32) else (if (0 : Int32) = (0 : Int32) then (0 : Int32) else (if ¬ q = b then (0 : Int32) else (1 : Int32))))) : (q = a → v = 1) ∧ (¬ q = a → v = 0) := ⟨fun h => by rw [hv, if_pos h], fun h => by rw [hv, if_neg h, if_pos rfl]⟩
theorem ex_01 {q b v : Int32} (hv : v = (if ¬ q = b then (0 : Int32) else (1 : Int32))) : (q = b → v = 1) ∧ (¬ q = b → v = 0) := ⟨fun h => by rw [hv, if_neg (fun z => z h)], fun h => by rw [hv, if_pos h]⟩
theorem ex_11 {q a b v : Int32} (hv : v = (if q = a then (1 : Int32) else (if (1 : Int32) = (0 : Int32) then (0 : Int32) else (if ¬ q = b then (0 : Int32) else (1 : Int32))))) : (q = a ∨ q = b → v = 1) ∧ (¬ (q = a ∨ q = b) → v = 0) := by
  refine ⟨fun h => ?_, fun h => ?_⟩
  · by_cases c : q = a
    · rw [hv, if_pos c]
    · rw [hv, if_neg c, if_neg (by decide), if_neg (fun z => z (h.resolve_left c))]
  · rw [hv, if_neg (fun c => h (Or.inl c)), if_neg (by decide), if_pos (fun c => h (Or.inr c))]
theorem own_m {x : Int32} : 0 ≤ (x &&& (2147483647 : Int32)).toInt := by
  have h1 : (x &&& (2147483647 : Int32)).toInt = x.toInt % 2147483648 := c_mask x 2147483647 31 (by decide) (by decide)
  omega
theorem own_sz {x v : Int32} (hv : v = ((x &&& (4095 : Int32)) + (1 : Int32))) : 1 ≤ v.toInt ∧ v.toInt ≤ 4096 := by
  have h1 : (x &&& (4095 : Int32)).toInt = x.toInt % 4096 := c_mask x 4095 12 (by decide) (by decide)
  have := c_iadd (x &&& (4095 : Int32)) (1 : Int32); have : (1 : Int32).toInt = 1 := rfl; have := rng32 ((x &&& (4095 : Int32)) + (1 : Int32))
  rw [hv]; omega
theorem own_shf {x v : Int32} (hv : v = ((6 : Int32) + (x &&& (3 : Int32)))) : v = 6 ∨ v = 7 ∨ v = 8 ∨ v = 9 := by
  have h1 : (x &&& (3 : Int32)).toInt = x.toInt % 4 := c_mask x 3 2 (by decide) (by decide)
  have := c_iadd (6 : Int32) (x &&& (3 : Int32)); have : (6 : Int32).toInt = 6 := rfl; have := rng32 ((6 : Int32) + (x &&& (3 : Int32)))
  have h3 : v.toInt = 6 ∨ v.toInt = 7 ∨ v.toInt = 8 ∨ v.toInt = 9 := by rw [hv]; omega
  rcases h3 with h | h | h | h
  · exact Or.inl (o_eq32 h)
  · exact Or.inr (Or.inl (o_eq32 h))
  · exact Or.inr (Or.inr (Or.inl (o_eq32 h)))
  · exact Or.inr (Or.inr (Or.inr (o_eq32 h)))
theorem own_nd {x y v : Int32} (hy : 1 ≤ y.toInt) (hv : v = ((x &&& (2147483647 : Int32)) % y)) : 0 ≤ v.toInt ∧ v.toInt < y.toInt := by
  have := (c_iremV (x &&& (2147483647 : Int32)) y).1 own_m (by omega)
  rw [hv]; omega
theorem own_b {P : Prop} [Decidable P] {v : Int32} (hv : v = if P then (0 : Int32) else (1 : Int32)) : v = 0 ∨ v = 1 := by rw [hv]; split <;> simp
theorem own_rl {n : Int32} (h : 0 ≤ n.toInt) : ((List.replicate n.toNatClampNeg Value.null).length : Int) = n.toInt := by rw [List.length_replicate]; exact (o_nat h).2
theorem own_rn {n k : Nat} : (List.replicate n Value.null).getD k .null = .null := by rw [List.getD_eq_getElem?_getD, List.getElem?_replicate]; split <;> rfl
theorem own_in {a b : Int32} (ha : 0 ≤ a.toInt) (hb : 0 ≤ b.toInt) (h : a.toNatClampNeg = b.toNatClampNeg) : a = b := by
  have := (o_nat ha).2; have := (o_nat hb).2; exact o_eq32 (by omega)
theorem own_sg {vs : List Value} {a : Int32} {v : Value} (h0 : 0 ≤ a.toInt) (h : a.toInt < vs.length) : (vs.set a.toNatClampNeg v).getD a.toNatClampNeg .null = v := by
  have := (o_nat h0).2
  rw [List.getD_eq_getElem?_getD, List.getElem?_set_self (by omega)]; rfl
theorem own_so {vs : List Value} {a b : Int32} {v : Value} (ha : 0 ≤ a.toInt) (hb : 0 ≤ b.toInt) (h : ¬ b = a) : (vs.set a.toNatClampNeg v).getD b.toNatClampNeg .null = vs.getD b.toNatClampNeg .null := by
  rw [List.getD_eq_getElem?_getD, List.getElem?_set_ne (fun q => h (own_in hb ha q.symm)), ← List.getD_eq_getElem?_getD]
theorem pd_5 : parseMethodDescriptor "(II)V" = some ⟨[.int, .int], none⟩ := by decide +kernel
theorem pd_6 : parseMethodDescriptor "(Lcom/example/mince_trees/mincetrees/xpath/Chunks;)V" = some ⟨[(.object "com/example/mince_trees/mincetrees/xpath/Chunks")], none⟩ := by decide +kernel
theorem pd_7 : parseMethodDescriptor "(I)Z" = some ⟨[.int], some .boolean⟩ := by decide +kernel
theorem pd_8 : parseMethodDescriptor "(I)V" = some ⟨[.int], none⟩ := by decide +kernel
def Q0 : Option Value → Heap → Prop := fun v _ => v = some (.int 1)
theorem pn_0 : plainFor x = true := plainFor_of_name (by first | (simp [plainName, overriddenIn]; done) | (simp [plainName, overriddenIn, x]; done) | decide +kernel)
theorem ef_0 (p0 : Int32) (p1 : Int32) (p2 : Int32) (p3 : Int32) (p4 : Int32) (p5 : Int32) (m : MethodId) : entryFrame m #[(.int p0), (.int p1), (.int p2), (.int p3), (.int p4), (.int p5)] maxLocals = mkF m 0 #[.val (.int p0), .val (.int p1), .val (.int p2), .val (.int p3), .val (.int p4), .val (.int p5), .unset, .unset, .unset, .unset, .unset, .unset, .unset, .unset, .unset, .unset] [] := by first | (simp [entryFrame, mkF, argsToLocals, Value.category, maxLocals]; done) | rfl
set_option maxRecDepth 65536 in
set_option maxHeartbeats 40000000 in
theorem ct_0 (l : Launch) (Z : State) (a0 : Array Value) (hw : ∀ d ∈ tables_1, d.before a0 Z = true) (ws : List Jvm.Cond) (p0 : Int32) (p1 : Int32) (p2 : Int32) (p3 : Int32) (p4 : Int32) (p5 : Int32) (h0 : Heap) (n0 : Nat) (hn : n0 ≤ h0.size) : Ct l x code maxLocals ret ws room_1 Z h0 n0 #[(.int p0), (.int p1), (.int p2), (.int p3), (.int p4), (.int p5)] (Q0) := by
  refine o_body pn_0 hn (ef_0 p0 p1 p2 p3 p4 p5) ?_
  intro p e s m below meth c T S
  refine o_iloadN S rfl at_0 rfl (q := 1) ?_
  refine o_sipush S (z := 4095) rfl at_1 rfl (q := 4) ?_
  refine o_iand S at_4 rfl (q := 5) ?_
  refine o_iconst S (z := 1) rfl at_5 rfl (q := 6) ?_
  refine o_iadd S at_6 rfl (q := 7) ?_
  refine o_istoreV S (L' := fun Sz => #[.val (.int p0), .val (.int p1), .val (.int p2), .val (.int p3), .val (.int p4), .val (.int p5), .val (.int Sz), .unset, .unset, .unset, .unset, .unset, .unset, .unset, .unset, .unset]) (fun _ => rfl) at_7 rfl (q := 9) (fun Sz hSz => ?_)
  refine o_bipush S (z := 6) rfl at_9 rfl (q := 11) ?_
  refine o_iloadN S rfl at_11 rfl (q := 12) ?_
  refine o_iconst S (z := 3) rfl at_12 rfl (q := 13) ?_
  refine o_iand S at_13 rfl (q := 14) ?_
  refine o_iadd S at_14 rfl (q := 15) ?_
  refine o_istoreV S (L' := fun Sh => #[.val (.int p0), .val (.int p1), .val (.int p2), .val (.int p3), .val (.int p4), .val (.int p5), .val (.int Sz), .val (.int Sh), .unset, .unset, .unset, .unset, .unset, .unset, .unset, .unset]) (fun _ => rfl) at_15 rfl (q := 17) (fun Sh hSh => ?_)
  have hz := own_sz hSz
  have hS := own_shf hSh
  refine o_iloadN S rfl at_17 rfl (q := 18) ?_
  refine o_ldc S (o_wd (i := 0) hw rfl) at_18 rfl (q := 20) ?_
  refine o_iand S at_20 rfl (q := 21) ?_
  refine o_iload S rfl at_21 rfl (q := 23) ?_
  refine o_irem S (o_ne32 (by show _ ≠ (0 : Int); omega)) at_23 rfl (q := 24) ?_
  refine o_istoreV S (L' := fun na => #[.val (.int p0), .val (.int p1), .val (.int p2), .val (.int p3), .val (.int p4), .val (.int p5), .val (.int Sz), .val (.int Sh), .val (.int na), .unset, .unset, .unset, .unset, .unset, .unset, .unset]) (fun _ => rfl) at_24 rfl (q := 26) (fun na hna => ?_)
  refine o_iloadN S rfl at_26 rfl (q := 27) ?_
  refine o_ldc S (o_wd (i := 0) hw rfl) at_27 rfl (q := 29) ?_
  refine o_iand S at_29 rfl (q := 30) ?_
  refine o_iload S rfl at_30 rfl (q := 32) ?_
  refine o_irem S (o_ne32 (by show _ ≠ (0 : Int); omega)) at_32 rfl (q := 33) ?_
  refine o_istoreV S (L' := fun nb => #[.val (.int p0), .val (.int p1), .val (.int p2), .val (.int p3), .val (.int p4), .val (.int p5), .val (.int Sz), .val (.int Sh), .val (.int na), .val (.int nb), .unset, .unset, .unset, .unset, .unset, .unset]) (fun _ => rfl) at_33 rfl (q := 35) (fun nb hnb => ?_)
  refine o_iload S rfl at_35 rfl (q := 37) ?_
  refine o_ldc S (o_wd (i := 0) hw rfl) at_37 rfl (q := 39) ?_
  refine o_iand S at_39 rfl (q := 40) ?_
  refine o_iload S rfl at_40 rfl (q := 42) ?_
  refine o_irem S (o_ne32 (by show _ ≠ (0 : Int); omega)) at_42 rfl (q := 43) ?_
  refine o_istoreV S (L' := fun nq => #[.val (.int p0), .val (.int p1), .val (.int p2), .val (.int p3), .val (.int p4), .val (.int p5), .val (.int Sz), .val (.int Sh), .val (.int na), .val (.int nb), .val (.int nq), .unset, .unset, .unset, .unset, .unset]) (fun _ => rfl) at_43 rfl (q := 45) (fun nq hnq => ?_)
  have rna := own_nd hz.1 hna
  have gna := geo hS hz.1 hz.2 rna.1 rna.2
  have rnb := own_nd hz.1 hnb
  have gnb := geo hS hz.1 hz.2 rnb.1 rnb.2
  have rnq := own_nd hz.1 hnq
  have gnq := geo hS hz.1 hz.2 rnq.1 rnq.2
  have hnb' := nbr hS hz.1 hz.2
  have hnbL := own_rl hnb'.1
  refine o_iload S rfl at_45 rfl (q := 47) ?_
  refine o_iconst S (z := 1) rfl at_47 rfl (q := 48) ?_
  refine o_iand S at_48 rfl (q := 49) ?_
  refine o_cutS S (G := fun T => ∀ (v1 : Int32), v1 = (if (p5 &&& (1 : Int32)) = (0 : Int32) then (0 : Int32) else (1 : Int32)) → Wp p e below (Po s n0 room_1 Q0) T (mkF m 57 #[.val (.int p0), .val (.int p1), .val (.int p2), .val (.int p3), .val (.int p4), .val (.int p5), .val (.int Sz), .val (.int Sh), .val (.int na), .val (.int nb), .val (.int nq), .unset, .unset, .unset, .unset, .unset] [(.int v1)])) (fun k49 => ?_) (fun T S v1 hv1 => ?_)
  · skip
    refine o_if S at_49 (by decide) (q' := 56) (by decide) (q := 52) rfl hs_eq.1 hs_eq.2 (fun hc49 => ?_) (fun hc49 => ?_)
    · skip
      refine o_iconst S (z := 0) rfl at_56 rfl (q := 57) ?_
      exact k49 _ S _ (by rw [if_pos hc49])
    · skip
      refine o_iconst S (z := 1) rfl at_52 rfl (q := 53) ?_
      refine o_goto S at_53 (by decide) (q := 57) (by decide) ?_
      exact k49 _ S _ (by rw [if_neg hc49])
  refine o_istore S (L' := #[.val (.int p0), .val (.int p1), .val (.int p2), .val (.int p3), .val (.int p4), .val (.int p5), .val (.int Sz), .val (.int Sh), .val (.int na), .val (.int nb), .val (.int nq), .val (.int v1), .unset, .unset, .unset, .unset]) rfl at_57 rfl (q := 59) ?_
  refine o_iload S rfl at_59 rfl (q := 61) ?_
  refine o_iconst S (z := 2) rfl at_61 rfl (q := 62) ?_
  refine o_iand S at_62 rfl (q := 63) ?_
  refine o_cutS S (G := fun T => ∀ (v2 : Int32), v2 = (if (p5 &&& (2 : Int32)) = (0 : Int32) then (0 : Int32) else (1 : Int32)) → Wp p e below (Po s n0 room_1 Q0) T (mkF m 71 #[.val (.int p0), .val (.int p1), .val (.int p2), .val (.int p3), .val (.int p4), .val (.int p5), .val (.int Sz), .val (.int Sh), .val (.int na), .val (.int nb), .val (.int nq), .val (.int v1), .unset, .unset, .unset, .unset] [(.int v2)])) (fun k63 => ?_) (fun T S v2 hv2 => ?_)
  · skip
    refine o_if S at_63 (by decide) (q' := 70) (by decide) (q := 66) rfl hs_eq.1 hs_eq.2 (fun hc63 => ?_) (fun hc63 => ?_)
    · skip
      refine o_iconst S (z := 0) rfl at_70 rfl (q := 71) ?_
      exact k63 _ S _ (by rw [if_pos hc63])
    · skip
      refine o_iconst S (z := 1) rfl at_66 rfl (q := 67) ?_
      refine o_goto S at_67 (by decide) (q := 71) (by decide) ?_
      exact k63 _ S _ (by rw [if_neg hc63])
  refine o_istore S (L' := #[.val (.int p0), .val (.int p1), .val (.int p2), .val (.int p3), .val (.int p4), .val (.int p5), .val (.int Sz), .val (.int Sh), .val (.int na), .val (.int nb), .val (.int nq), .val (.int v1), .val (.int v2), .unset, .unset, .unset]) rfl at_71 rfl (q := 73) ?_
  rcases own_b hv1 with ho | ho
  · subst ho
    rcases own_b hv2 with ho | ho
    · subst ho
      refine o_new S (o_wd (i := 1) hw rfl) (o_wd (i := 2) hw rfl) (o_wd (i := 3) hw rfl) at_73 rfl (q := 76) (by decide) (by decide) (fun T h4 b3 S ha_b3 g_b3 X E_b3 D => ?_)
      have F_size_b3 : Fld Z h4 b3 "com/example/mince_trees/mincetrees/xpath/NodeSet" "size" "I" (.int (0 : Int32)) := D (Or.inr (o_wd (i := 33) hw rfl)) (ty := .int) (by decide)
      have F_shift_b3 : Fld Z h4 b3 "com/example/mince_trees/mincetrees/xpath/NodeSet" "shift" "I" (.int (0 : Int32)) := D (Or.inr (o_wd (i := 40) hw rfl)) (ty := .int) (by decide)
      have F_wordMask_b3 : Fld Z h4 b3 "com/example/mince_trees/mincetrees/xpath/NodeSet" "wordMask" "I" (.int (0 : Int32)) := D (Or.inr (o_wd (i := 42) hw rfl)) (ty := .int) (by decide)
      have F_blocks_b3 : Fld Z h4 b3 "com/example/mince_trees/mincetrees/xpath/NodeSet" "blocks" "[[J" .null := D (Or.inr (o_wd (i := 46) hw rfl)) (ty := (.array (.array .long))) (by decide)
      refine o_dup S rfl at_76 rfl (q := 77) ?_
      refine o_new S (o_wd (i := 4) hw rfl) (o_wd (i := 5) hw rfl) (o_wd (i := 6) hw rfl) at_77 rfl (q := 80) (by decide) (by decide) (fun T h6 b5 S ha_b5 g_b5 X E_b5 D => ?_)
      have ne_b3_b5 : b3 ≠ b5 := by rw [ha_b5]; exact Nat.ne_of_lt E_b3.lt
      have E_b3 := Exa.ext X E_b3
      have F_size_b3 := Fld.ext X F_size_b3
      have F_shift_b3 := Fld.ext X F_shift_b3
      have F_wordMask_b3 := Fld.ext X F_wordMask_b3
      have F_blocks_b3 := Fld.ext X F_blocks_b3
      have F_size_b5 : Fld Z h6 b5 "com/example/mince_trees/mincetrees/xpath/Chunks" "size" "I" (.int (0 : Int32)) := D (Or.inr (o_wd (i := 14) hw rfl)) (ty := .int) (by decide)
      have F_shift_b5 : Fld Z h6 b5 "com/example/mince_trees/mincetrees/xpath/Chunks" "shift" "I" (.int (0 : Int32)) := D (Or.inr (o_wd (i := 16) hw rfl)) (ty := .int) (by decide)
      have F_count_b5 : Fld Z h6 b5 "com/example/mince_trees/mincetrees/xpath/Chunks" "count" "I" (.int (0 : Int32)) := D (Or.inr (o_wd (i := 22) hw rfl)) (ty := .int) (by decide)
      refine o_dup S rfl at_80 rfl (q := 81) ?_
      refine o_iload S rfl at_81 rfl (q := 83) ?_
      refine o_iload S rfl at_83 rfl (q := 85) ?_
      refine o_callI S (W := 3) (argsL := [(.int Sz), (.int Sh)]) (rest := [(.ref b5), (.ref b3), (.ref b3)]) (a := b5) rfl (o_wd (i := 7) hw rfl) (o_wd (i := 8) hw rfl) (o_wd (i := 6) hw rfl) (o_wd (i := 9) hw rfl) (by decide) (ct_1 l Z a0 hw b5 Sz Sh (0 : Int32) (0 : Int32) (0 : Int32) h6 n0 (o_n0 S) E_b5 F_size_b5 F_shift_b5 F_count_b5 g_b5) (by decide) (by decide) rfl rfl pd_5 rfl (Nat.le_of_eq rfl) at_85 rfl (q := 88) (by decide) (by decide) (fun T h7 rr8 S hQ => ?_)
      obtain ⟨hv, K1, E_b5', F_size_b5', F_shift_b5'⟩ := hQ
      subst hv
      have E_b3 := E_b3.keep K1
      have F_size_b3 := F_size_b3.keep K1 (ninS ne_b3_b5 nin0)
      have F_shift_b3 := F_shift_b3.keep K1 (ninS ne_b3_b5 nin0)
      have F_wordMask_b3 := F_wordMask_b3.keep K1 (ninS ne_b3_b5 nin0)
      have F_blocks_b3 := F_blocks_b3.keep K1 (ninS ne_b3_b5 nin0)
      have E_b5 := E_b5'
      have F_size_b5 := F_size_b5'
      have F_shift_b5 := F_shift_b5'
      show Wp p e below (Po s n0 room_1 Q0) T (mkF m 88 #[.val (.int p0), .val (.int p1), .val (.int p2), .val (.int p3), .val (.int p4), .val (.int p5), .val (.int Sz), .val (.int Sh), .val (.int na), .val (.int nb), .val (.int nq), .val (.int (0 : Int32)), .val (.int (0 : Int32)), .unset, .unset, .unset] [(.ref b5), (.ref b3), (.ref b3)])
      refine o_callI S (W := 1) (argsL := [(.ref b5)]) (rest := [(.ref b3)]) (a := b3) rfl (o_wd (i := 23) hw rfl) (o_wd (i := 24) hw rfl) (o_wd (i := 3) hw rfl) (o_wd (i := 25) hw rfl) (by decide) (ct_4 l Z a0 hw b3 b5 Sz Sh h7 n0 (o_n0 S) E_b3 F_size_b3 F_shift_b3 F_wordMask_b3 F_blocks_b3 E_b5 F_size_b5 F_shift_b5 g_b3 ne_b3_b5 hnb') (by decide) (by decide) rfl rfl pd_6 rfl (Nat.le_of_eq rfl) at_88 rfl (q := 91) (by decide) (by decide) (fun T h9 rr10 S hQ => ?_)
      obtain ⟨b11, g_b11, sz'_b11, hv, K1, E_b3', F_size_b3', F_shift_b3', F_wordMask_b3', F_blocks_b3', A_b11'⟩ := hQ
      subst hv
      have ne_b3_b11 : b3 ≠ b11 := Nat.ne_of_lt (Nat.lt_of_lt_of_le E_b3.lt sz'_b11)
      have ne_b5_b11 : b5 ≠ b11 := Nat.ne_of_lt (Nat.lt_of_lt_of_le E_b5.lt sz'_b11)
      have E_b5 := E_b5.keep K1
      have F_size_b5 := F_size_b5.keep K1 (ninS (Ne.symm ne_b3_b5) nin0)
      have F_shift_b5 := F_shift_b5.keep K1 (ninS (Ne.symm ne_b3_b5) nin0)
      have E_b3 := E_b3'
      have F_size_b3 := F_size_b3'
      have F_shift_b3 := F_shift_b3'
      have F_wordMask_b3 := F_wordMask_b3'
      have F_blocks_b3 := F_blocks_b3'
      have A_b11 := A_b11'
      show Wp p e below (Po s n0 room_1 Q0) T (mkF m 91 #[.val (.int p0), .val (.int p1), .val (.int p2), .val (.int p3), .val (.int p4), .val (.int p5), .val (.int Sz), .val (.int Sh), .val (.int na), .val (.int nb), .val (.int nq), .val (.int (0 : Int32)), .val (.int (0 : Int32)), .unset, .unset, .unset] [(.ref b3)])
      refine o_astore S (L' := #[.val (.int p0), .val (.int p1), .val (.int p2), .val (.int p3), .val (.int p4), .val (.int p5), .val (.int Sz), .val (.int Sh), .val (.int na), .val (.int nb), .val (.int nq), .val (.int (0 : Int32)), .val (.int (0 : Int32)), .val (.ref b3), .unset, .unset]) rfl rfl at_91 rfl (q := 93) ?_
      refine o_iload S rfl at_93 rfl (q := 95) ?_
      refine o_if S at_95 (by decide) (q' := 105) (by decide) (q := 98) rfl hs_eq.1 hs_eq.2 (fun hc95 => ?_) (fun hc95 => ?_)
      · skip
        refine o_iload S rfl at_105 rfl (q := 107) ?_
        refine o_if S at_107 (by decide) (q' := 117) (by decide) (q := 110) rfl hs_eq.1 hs_eq.2 (fun hc107 => ?_) (fun hc107 => ?_)
        · skip
          refine o_iload S rfl at_117 rfl (q := 119) ?_
          refine o_if S at_119 (by decide) (q' := 129) (by decide) (q := 122) rfl hs_eq.1 hs_eq.2 (fun hc119 => ?_) (fun hc119 => ?_)
          · skip
            refine o_iload S rfl at_129 rfl (q := 131) ?_
            refine o_if S at_131 (by decide) (q' := 145) (by decide) (q := 134) rfl hs_eq.1 hs_eq.2 (fun hc131 => ?_) (fun hc131 => ?_)
            · skip
              refine o_iconst S (z := 0) rfl at_145 rfl (q := 146) ?_
              refine o_istore S (L' := #[.val (.int p0), .val (.int p1), .val (.int p2), .val (.int p3), .val (.int p4), .val (.int p5), .val (.int Sz), .val (.int Sh), .val (.int na), .val (.int nb), .val (.int nq), .val (.int (0 : Int32)), .val (.int (0 : Int32)), .val (.ref b3), .val (.int (0 : Int32)), .unset]) rfl at_146 rfl (q := 148) ?_
              refine o_aload S rfl rfl at_148 rfl (q := 150) ?_
              refine o_iload S rfl at_150 rfl (q := 152) ?_
              refine o_callV0 S (W := 0) (argsL := [(.int nq)]) (rest := []) (a := b3) (o_wd (i := 66) hw rfl) (o_wd (i := 67) hw rfl) (o_wd (i := 69) hw rfl) (o_wd (i := 68) hw rfl) (o_wd (i := 3) hw rfl) (o_wd (i := 70) hw rfl) (o_nf (o_wd (i := 69) hw rfl)) (by decide) E_b3 (ct_11n l Z a0 hw b3 nq Sh b11 (List.replicate (nbF Sz Sh).toNatClampNeg .null) h9 n0 (o_n0 S) E_b3 F_shift_b3 F_blocks_b3 A_b11 ⟨gnq.1.1, by rw [hnbL]; exact gnq.1.2⟩ own_rn) (by decide) (by decide) rfl rfl pd_7 rfl (Nat.le_of_eq rfl) at_152 rfl (q := 155) (by decide) (by decide) rfl (st' := [(.int (0 : Int32))]) (fun T S => ?_)
              refine o_iload S rfl at_155 rfl (q := 157) ?_
              refine o_icmp S at_157 (by decide) (q' := 164) (by decide) (q := 160) rfl hs_ne.1 hs_ne.2 (fun hc157 => ?_) (fun hc157 => ?_)
              · exact absurd hc157 (by decide)
              · skip
                refine o_iconst S (z := 1) rfl at_160 rfl (q := 161) ?_
                refine o_goto S at_161 (by decide) (q := 165) (by decide) ?_
                refine o_istore S (L' := #[.val (.int p0), .val (.int p1), .val (.int p2), .val (.int p3), .val (.int p4), .val (.int p5), .val (.int Sz), .val (.int Sh), .val (.int na), .val (.int nb), .val (.int nq), .val (.int (0 : Int32)), .val (.int (0 : Int32)), .val (.ref b3), .val (.int (0 : Int32)), .val (.int (1 : Int32))]) rfl at_165 rfl (q := 167) ?_
                refine o_iload S rfl at_167 rfl (q := 169) ?_
                refine o_if S at_169 (by decide) (q' := 194) (by decide) (q := 172) rfl hs_eq.1 hs_eq.2 (fun hc169 => ?_) (fun hc169 => ?_)
                · skip
                  refine o_iload S rfl at_194 rfl (q := 196) ?_
                  refine o_if S at_196 (by decide) (q' := 221) (by decide) (q := 199) rfl hs_eq.1 hs_eq.2 (fun hc196 => ?_) (fun hc196 => ?_)
                  · skip
                    refine o_iload S rfl at_221 rfl (q := 223) ?_
                    refine o_retN S (t := .boolean) rfl (by simp) at_223 (by decide) (by decide) rfl ?_
                    rfl
                  · exact absurd hc196 (by decide)
                · exact absurd hc169 (by decide)
            · exact absurd hc131 (by decide)
          · exact absurd hc119 (by decide)
        · exact absurd hc107 (by decide)
      · exact absurd hc95 (by decide)
    · subst ho
      refine o_new S (o_wd (i := 1) hw rfl) (o_wd (i := 2) hw rfl) (o_wd (i := 3) hw rfl) at_73 rfl (q := 76) (by decide) (by decide) (fun T h13 b12 S ha_b12 g_b12 X E_b12 D => ?_)
      have F_size_b12 : Fld Z h13 b12 "com/example/mince_trees/mincetrees/xpath/NodeSet" "size" "I" (.int (0 : Int32)) := D (Or.inr (o_wd (i := 33) hw rfl)) (ty := .int) (by decide)
      have F_shift_b12 : Fld Z h13 b12 "com/example/mince_trees/mincetrees/xpath/NodeSet" "shift" "I" (.int (0 : Int32)) := D (Or.inr (o_wd (i := 40) hw rfl)) (ty := .int) (by decide)
      have F_wordMask_b12 : Fld Z h13 b12 "com/example/mince_trees/mincetrees/xpath/NodeSet" "wordMask" "I" (.int (0 : Int32)) := D (Or.inr (o_wd (i := 42) hw rfl)) (ty := .int) (by decide)
      have F_blocks_b12 : Fld Z h13 b12 "com/example/mince_trees/mincetrees/xpath/NodeSet" "blocks" "[[J" .null := D (Or.inr (o_wd (i := 46) hw rfl)) (ty := (.array (.array .long))) (by decide)
      refine o_dup S rfl at_76 rfl (q := 77) ?_
      refine o_new S (o_wd (i := 4) hw rfl) (o_wd (i := 5) hw rfl) (o_wd (i := 6) hw rfl) at_77 rfl (q := 80) (by decide) (by decide) (fun T h15 b14 S ha_b14 g_b14 X E_b14 D => ?_)
      have ne_b12_b14 : b12 ≠ b14 := by rw [ha_b14]; exact Nat.ne_of_lt E_b12.lt
      have E_b12 := Exa.ext X E_b12
      have F_size_b12 := Fld.ext X F_size_b12
      have F_shift_b12 := Fld.ext X F_shift_b12
      have F_wordMask_b12 := Fld.ext X F_wordMask_b12
      have F_blocks_b12 := Fld.ext X F_blocks_b12
      have F_size_b14 : Fld Z h15 b14 "com/example/mince_trees/mincetrees/xpath/Chunks" "size" "I" (.int (0 : Int32)) := D (Or.inr (o_wd (i := 14) hw rfl)) (ty := .int) (by decide)
      have F_shift_b14 : Fld Z h15 b14 "com/example/mince_trees/mincetrees/xpath/Chunks" "shift" "I" (.int (0 : Int32)) := D (Or.inr (o_wd (i := 16) hw rfl)) (ty := .int) (by decide)
      have F_count_b14 : Fld Z h15 b14 "com/example/mince_trees/mincetrees/xpath/Chunks" "count" "I" (.int (0 : Int32)) := D (Or.inr (o_wd (i := 22) hw rfl)) (ty := .int) (by decide)
      refine o_dup S rfl at_80 rfl (q := 81) ?_
      refine o_iload S rfl at_81 rfl (q := 83) ?_
      refine o_iload S rfl at_83 rfl (q := 85) ?_
      refine o_callI S (W := 3) (argsL := [(.int Sz), (.int Sh)]) (rest := [(.ref b14), (.ref b12), (.ref b12)]) (a := b14) rfl (o_wd (i := 7) hw rfl) (o_wd (i := 8) hw rfl) (o_wd (i := 6) hw rfl) (o_wd (i := 9) hw rfl) (by decide) (ct_1 l Z a0 hw b14 Sz Sh (0 : Int32) (0 : Int32) (0 : Int32) h15 n0 (o_n0 S) E_b14 F_size_b14 F_shift_b14 F_count_b14 g_b14) (by decide) (by decide) rfl rfl pd_5 rfl (Nat.le_of_eq rfl) at_85 rfl (q := 88) (by decide) (by decide) (fun T h16 rr17 S hQ => ?_)
      obtain ⟨hv, K1, E_b14', F_size_b14', F_shift_b14'⟩ := hQ
      subst hv
      have E_b12 := E_b12.keep K1
      have F_size_b12 := F_size_b12.keep K1 (ninS ne_b12_b14 nin0)
      have F_shift_b12 := F_shift_b12.keep K1 (ninS ne_b12_b14 nin0)
      have F_wordMask_b12 := F_wordMask_b12.keep K1 (ninS ne_b12_b14 nin0)
      have F_blocks_b12 := F_blocks_b12.keep K1 (ninS ne_b12_b14 nin0)
      have E_b14 := E_b14'
      have F_size_b14 := F_size_b14'
      have F_shift_b14 := F_shift_b14'
      show Wp p e below (Po s n0 room_1 Q0) T (mkF m 88 #[.val (.int p0), .val (.int p1), .val (.int p2), .val (.int p3), .val (.int p4), .val (.int p5), .val (.int Sz), .val (.int Sh), .val (.int na), .val (.int nb), .val (.int nq), .val (.int (0 : Int32)), .val (.int (1 : Int32)), .unset, .unset, .unset] [(.ref b14), (.ref b12), (.ref b12)])
      refine o_callI S (W := 1) (argsL := [(.ref b14)]) (rest := [(.ref b12)]) (a := b12) rfl (o_wd (i := 23) hw rfl) (o_wd (i := 24) hw rfl) (o_wd (i := 3) hw rfl) (o_wd (i := 25) hw rfl) (by decide) (ct_4 l Z a0 hw b12 b14 Sz Sh h16 n0 (o_n0 S) E_b12 F_size_b12 F_shift_b12 F_wordMask_b12 F_blocks_b12 E_b14 F_size_b14 F_shift_b14 g_b12 ne_b12_b14 hnb') (by decide) (by decide) rfl rfl pd_6 rfl (Nat.le_of_eq rfl) at_88 rfl (q := 91) (by decide) (by decide) (fun T h18 rr19 S hQ => ?_)
      obtain ⟨b20, g_b20, sz'_b20, hv, K1, E_b12', F_size_b12', F_shift_b12', F_wordMask_b12', F_blocks_b12', A_b20'⟩ := hQ
      subst hv
      have ne_b12_b20 : b12 ≠ b20 := Nat.ne_of_lt (Nat.lt_of_lt_of_le E_b12.lt sz'_b20)
      have ne_b14_b20 : b14 ≠ b20 := Nat.ne_of_lt (Nat.lt_of_lt_of_le E_b14.lt sz'_b20)
      have E_b14 := E_b14.keep K1
      have F_size_b14 := F_size_b14.keep K1 (ninS (Ne.symm ne_b12_b14) nin0)
      have F_shift_b14 := F_shift_b14.keep K1 (ninS (Ne.symm ne_b12_b14) nin0)
      have E_b12 := E_b12'
      have F_size_b12 := F_size_b12'
      have F_shift_b12 := F_shift_b12'
      have F_wordMask_b12 := F_wordMask_b12'
      have F_blocks_b12 := F_blocks_b12'
      have A_b20 := A_b20'
      show Wp p e below (Po s n0 room_1 Q0) T (mkF m 91 #[.val (.int p0), .val (.int p1), .val (.int p2), .val (.int p3), .val (.int p4), .val (.int p5), .val (.int Sz), .val (.int Sh), .val (.int na), .val (.int nb), .val (.int nq), .val (.int (0 : Int32)), .val (.int (1 : Int32)), .unset, .unset, .unset] [(.ref b12)])
      refine o_astore S (L' := #[.val (.int p0), .val (.int p1), .val (.int p2), .val (.int p3), .val (.int p4), .val (.int p5), .val (.int Sz), .val (.int Sh), .val (.int na), .val (.int nb), .val (.int nq), .val (.int (0 : Int32)), .val (.int (1 : Int32)), .val (.ref b12), .unset, .unset]) rfl rfl at_91 rfl (q := 93) ?_
      refine o_iload S rfl at_93 rfl (q := 95) ?_
      refine o_if S at_95 (by decide) (q' := 105) (by decide) (q := 98) rfl hs_eq.1 hs_eq.2 (fun hc95 => ?_) (fun hc95 => ?_)
      · skip
        refine o_iload S rfl at_105 rfl (q := 107) ?_
        refine o_if S at_107 (by decide) (q' := 117) (by decide) (q := 110) rfl hs_eq.1 hs_eq.2 (fun hc107 => ?_) (fun hc107 => ?_)
        · exact absurd hc107 (by decide)
        · skip
          refine o_aload S rfl rfl at_110 rfl (q := 112) ?_
          refine o_iload S rfl at_112 rfl (q := 114) ?_
          refine o_callV S (W := 0) (argsL := [(.int nb)]) (rest := []) (a := b12) (o_wd (i := 47) hw rfl) (o_wd (i := 48) hw rfl) (o_wd (i := 50) hw rfl) (o_wd (i := 49) hw rfl) (o_wd (i := 3) hw rfl) (o_wd (i := 51) hw rfl) (o_nf (o_wd (i := 50) hw rfl)) (by decide) E_b12 (ct_7n l Z a0 hw b12 nb Sz Sh (wmF Sh) b20 (List.replicate (nbF Sz Sh).toNatClampNeg .null) h18 n0 (o_n0 S) E_b12 F_size_b12 F_shift_b12 F_wordMask_b12 F_blocks_b12 A_b20 g_b20 ne_b12_b20 ⟨gnb.1.1, by rw [hnbL]; exact gnb.1.2⟩ own_rn gnb.2.1 gnb.2.2) (by decide) (by decide) rfl rfl pd_8 rfl (Nat.le_of_eq rfl) at_114 rfl (q := 117) (by decide) (by decide) (fun T h21 rr22 S hQ => ?_)
          obtain ⟨b23, g_b23, sz'_b23, hv, K1, A_b20', A_b23'⟩ := hQ
          subst hv
          have ne_b12_b23 : b12 ≠ b23 := Nat.ne_of_lt (Nat.lt_of_lt_of_le E_b12.lt sz'_b23)
          have ne_b14_b23 : b14 ≠ b23 := Nat.ne_of_lt (Nat.lt_of_lt_of_le E_b14.lt sz'_b23)
          have ne_b20_b23 : b20 ≠ b23 := Nat.ne_of_lt (Nat.lt_of_lt_of_le A_b20.lt sz'_b23)
          have E_b12 := E_b12.keep K1
          have F_size_b12 := F_size_b12.keep K1 (ninS ne_b12_b20 nin0)
          have F_shift_b12 := F_shift_b12.keep K1 (ninS ne_b12_b20 nin0)
          have F_wordMask_b12 := F_wordMask_b12.keep K1 (ninS ne_b12_b20 nin0)
          have F_blocks_b12 := F_blocks_b12.keep K1 (ninS ne_b12_b20 nin0)
          have E_b14 := E_b14.keep K1
          have F_size_b14 := F_size_b14.keep K1 (ninS ne_b14_b20 nin0)
          have F_shift_b14 := F_shift_b14.keep K1 (ninS ne_b14_b20 nin0)
          have A_b20 := A_b20'
          have A_b23 := A_b23'
          show Wp p e below (Po s n0 room_1 Q0) T (mkF m 117 #[.val (.int p0), .val (.int p1), .val (.int p2), .val (.int p3), .val (.int p4), .val (.int p5), .val (.int Sz), .val (.int Sh), .val (.int na), .val (.int nb), .val (.int nq), .val (.int (0 : Int32)), .val (.int (1 : Int32)), .val (.ref b12), .unset, .unset] [])
          have hat0 : ((List.replicate (nbF Sz Sh).toNatClampNeg .null).set ((nb.toUInt32 >>> (Sh &&& 31).toUInt32).toInt32).toNatClampNeg (.ref b23) : List Value).getD ((nb.toUInt32 >>> (Sh &&& 31).toUInt32).toInt32).toNatClampNeg .null = .ref b23 := own_sg gnb.1.1 (by rw [hnbL]; exact gnb.1.2)
          have hot : ∀ i : Int32, 0 ≤ i.toInt → ¬ i = ((nb.toUInt32 >>> (Sh &&& 31).toUInt32).toInt32) → ((List.replicate (nbF Sz Sh).toNatClampNeg .null).set ((nb.toUInt32 >>> (Sh &&& 31).toUInt32).toInt32).toNatClampNeg (.ref b23) : List Value).getD i.toNatClampNeg .null = .null := fun i h1 h2 => (own_so gnb.1.1 h1 h2).trans own_rn
          have hvl : (((List.replicate (nbF Sz Sh).toNatClampNeg .null).set ((nb.toUInt32 >>> (Sh &&& 31).toUInt32).toInt32).toNatClampNeg (.ref b23) : List Value).length : Int) = (nbF Sz Sh).toInt := by rw [List.length_set]; exact hnbL
          have hwl0 : ((((List.replicate (f_wn ((nb.toUInt32 >>> (Sh &&& 31).toUInt32).toInt32) Sz Sh (wmF Sh)).toNatClampNeg 0) : List Int64).set (((nb.toUInt32 >>> ((6 : Int32) &&& 31).toUInt32).toInt32) &&& (wmF Sh)).toNatClampNeg ((((List.replicate (f_wn ((nb.toUInt32 >>> (Sh &&& 31).toUInt32).toInt32) Sz Sh (wmF Sh)).toNatClampNeg 0) : List Int64).getD (((nb.toUInt32 >>> ((6 : Int32) &&& 31).toUInt32).toInt32) &&& (wmF Sh)).toNatClampNeg 0) ||| ((1 : Int64) <<< (nb &&& 0x3f).toInt64)) : List Int64).length : Int) = (f_wn ((nb.toUInt32 >>> (Sh &&& 31).toUInt32).toInt32) Sz Sh (wmF Sh)).toInt := by rw [List.length_set, List.length_replicate]; exact (o_nat gnb.2.1.1).2
          have R0 : Rep Sz Sh (wmF Sh) (((List.replicate (f_wn ((nb.toUInt32 >>> (Sh &&& 31).toUInt32).toInt32) Sz Sh (wmF Sh)).toNatClampNeg 0) : List Int64).set (((nb.toUInt32 >>> ((6 : Int32) &&& 31).toUInt32).toInt32) &&& (wmF Sh)).toNatClampNeg ((((List.replicate (f_wn ((nb.toUInt32 >>> (Sh &&& 31).toUInt32).toInt32) Sz Sh (wmF Sh)).toNatClampNeg 0) : List Int64).getD (((nb.toUInt32 >>> ((6 : Int32) &&& 31).toUInt32).toInt32) &&& (wmF Sh)).toNatClampNeg 0) ||| ((1 : Int64) <<< (nb &&& 0x3f).toInt64))) ((nb.toUInt32 >>> (Sh &&& 31).toUInt32).toInt32) (fun y => False ∨ y = nb) := Rep.set hS Rep.zero rnb.1 rfl (by rw [List.length_replicate]; have := (o_nat gnb.2.2.1).2; have := (o_nat gnb.2.1.1).2; have := gnb.2.2.2; omega)
          obtain ⟨vs0, qv0⟩ : ∃ z : List Value, z = ((List.replicate (nbF Sz Sh).toNatClampNeg .null).set ((nb.toUInt32 >>> (Sh &&& 31).toUInt32).toInt32).toNatClampNeg (.ref b23)) := ⟨_, rfl⟩
          obtain ⟨ws0, qw0⟩ : ∃ z, z = (((List.replicate (f_wn ((nb.toUInt32 >>> (Sh &&& 31).toUInt32).toInt32) Sz Sh (wmF Sh)).toNatClampNeg 0) : List Int64).set (((nb.toUInt32 >>> ((6 : Int32) &&& 31).toUInt32).toInt32) &&& (wmF Sh)).toNatClampNeg ((((List.replicate (f_wn ((nb.toUInt32 >>> (Sh &&& 31).toUInt32).toInt32) Sz Sh (wmF Sh)).toNatClampNeg 0) : List Int64).getD (((nb.toUInt32 >>> ((6 : Int32) &&& 31).toUInt32).toInt32) &&& (wmF Sh)).toNatClampNeg 0) ||| ((1 : Int64) <<< (nb &&& 0x3f).toInt64))) := ⟨_, rfl⟩
          rw [← qv0] at A_b20 hat0 hot hvl
          rw [← qw0] at A_b23 hwl0 R0
          refine o_iload S rfl at_117 rfl (q := 119) ?_
          refine o_if S at_119 (by decide) (q' := 129) (by decide) (q := 122) rfl hs_eq.1 hs_eq.2 (fun hc119 => ?_) (fun hc119 => ?_)
          · skip
            refine o_iload S rfl at_129 rfl (q := 131) ?_
            refine o_if S at_131 (by decide) (q' := 145) (by decide) (q := 134) rfl hs_eq.1 hs_eq.2 (fun hc131 => ?_) (fun hc131 => ?_)
            · exact absurd hc131 (by decide)
            · skip
              refine o_iload S rfl at_134 rfl (q := 136) ?_
              refine o_iload S rfl at_136 rfl (q := 138) ?_
              refine o_cutS S (G := fun T => ∀ (v24 : Int32), v24 = (if ¬ nq = nb then (0 : Int32) else (1 : Int32)) → Wp p e below (Po s n0 room_1 Q0) T (mkF m 146 #[.val (.int p0), .val (.int p1), .val (.int p2), .val (.int p3), .val (.int p4), .val (.int p5), .val (.int Sz), .val (.int Sh), .val (.int na), .val (.int nb), .val (.int nq), .val (.int (0 : Int32)), .val (.int (1 : Int32)), .val (.ref b12), .unset, .unset] [(.int v24)])) (fun k138 => ?_) (fun T S v24 hv24 => ?_)
              · skip
                refine o_icmp S at_138 (by decide) (q' := 145) (by decide) (q := 141) rfl hs_ne.1 hs_ne.2 (fun hc138 => ?_) (fun hc138 => ?_)
                · skip
                  refine o_iconst S (z := 0) rfl at_145 rfl (q := 146) ?_
                  exact k138 _ S _ (by rw [if_pos hc138])
                · skip
                  refine o_iconst S (z := 1) rfl at_141 rfl (q := 142) ?_
                  refine o_goto S at_142 (by decide) (q := 146) (by decide) ?_
                  exact k138 _ S _ (by rw [if_neg hc138])
              refine o_istore S (L' := #[.val (.int p0), .val (.int p1), .val (.int p2), .val (.int p3), .val (.int p4), .val (.int p5), .val (.int Sz), .val (.int Sh), .val (.int na), .val (.int nb), .val (.int nq), .val (.int (0 : Int32)), .val (.int (1 : Int32)), .val (.ref b12), .val (.int v24), .unset]) rfl at_146 rfl (q := 148) ?_
              by_cases hq0 : ((nq.toUInt32 >>> (Sh &&& 31).toUInt32).toInt32) = ((nb.toUInt32 >>> (Sh &&& 31).toUInt32).toInt32)
              · skip
                refine o_aload S rfl rfl at_148 rfl (q := 150) ?_
                refine o_iload S rfl at_150 rfl (q := 152) ?_
                refine o_callV0 S (W := 0) (argsL := [(.int nq)]) (rest := []) (a := b12) (o_wd (i := 66) hw rfl) (o_wd (i := 67) hw rfl) (o_wd (i := 69) hw rfl) (o_wd (i := 68) hw rfl) (o_wd (i := 3) hw rfl) (o_wd (i := 70) hw rfl) (o_nf (o_wd (i := 69) hw rfl)) (by decide) E_b12 (ct_11e l Z a0 hw b12 nq Sh (wmF Sh) b20 vs0 ws0 b23 h21 n0 (o_n0 S) E_b12 F_shift_b12 F_wordMask_b12 F_blocks_b12 A_b20 A_b23 ⟨gnq.1.1, by rw [hvl]; exact gnq.1.2⟩ (by rw [hq0]; exact hat0) ⟨gnq.2.2.1, by have q := gnq.2.2.2; rw [hq0] at q; rw [hwl0]; exact q⟩) (by decide) (by decide) rfl rfl pd_7 rfl (Nat.le_of_eq rfl) at_152 rfl (q := 155) (by decide) (by decide) rfl (st' := [(.int (f_con nq Sh (wmF Sh) vs0 ws0))]) (fun T S => ?_)
                refine o_iload S rfl at_155 rfl (q := 157) ?_
                refine o_icmp S at_157 (by decide) (q' := 164) (by decide) (q := 160) rfl hs_ne.1 hs_ne.2 (fun hc157 => ?_) (fun hc157 => ?_)
                · exact absurd (own_he (fun h => (Rep.con1 R0 rnq.1 rnq.2 hq0 (Or.inr h))) (fun h => (Rep.con0 R0 rnq.1 rnq.2 hq0 (fun q => h (q.elim False.elim id)))) (ex_01 hv24)) hc157
                · skip
                  refine o_iconst S (z := 1) rfl at_160 rfl (q := 161) ?_
                  refine o_goto S at_161 (by decide) (q := 165) (by decide) ?_
                  refine o_istore S (L' := #[.val (.int p0), .val (.int p1), .val (.int p2), .val (.int p3), .val (.int p4), .val (.int p5), .val (.int Sz), .val (.int Sh), .val (.int na), .val (.int nb), .val (.int nq), .val (.int (0 : Int32)), .val (.int (1 : Int32)), .val (.ref b12), .val (.int v24), .val (.int (1 : Int32))]) rfl at_165 rfl (q := 167) ?_
                  refine o_iload S rfl at_167 rfl (q := 169) ?_
                  refine o_if S at_169 (by decide) (q' := 194) (by decide) (q := 172) rfl hs_eq.1 hs_eq.2 (fun hc169 => ?_) (fun hc169 => ?_)
                  · skip
                    refine o_iload S rfl at_194 rfl (q := 196) ?_
                    refine o_if S at_196 (by decide) (q' := 221) (by decide) (q := 199) rfl hs_eq.1 hs_eq.2 (fun hc196 => ?_) (fun hc196 => ?_)
                    · exact absurd hc196 (by decide)
                    · skip
                      refine o_iload S rfl at_199 rfl (q := 201) ?_
                      refine o_if S at_201 (by decide) (q' := 218) (by decide) (q := 204) rfl hs_eq.1 hs_eq.2 (fun hc201 => ?_) (fun hc201 => ?_)
                      · exact absurd hc201 (by decide)
                      · skip
                        refine o_aload S rfl rfl at_204 rfl (q := 206) ?_
                        refine o_iload S rfl at_206 rfl (q := 208) ?_
                        refine o_callV0 S (W := 0) (argsL := [(.int nb)]) (rest := []) (a := b12) (o_wd (i := 66) hw rfl) (o_wd (i := 67) hw rfl) (o_wd (i := 69) hw rfl) (o_wd (i := 68) hw rfl) (o_wd (i := 3) hw rfl) (o_wd (i := 70) hw rfl) (o_nf (o_wd (i := 69) hw rfl)) (by decide) E_b12 (ct_11e l Z a0 hw b12 nb Sh (wmF Sh) b20 vs0 ws0 b23 h21 n0 (o_n0 S) E_b12 F_shift_b12 F_wordMask_b12 F_blocks_b12 A_b20 A_b23 ⟨gnb.1.1, by rw [hvl]; exact gnb.1.2⟩ hat0 ⟨gnb.2.2.1, by rw [hwl0]; exact gnb.2.2.2⟩) (by decide) (by decide) rfl rfl pd_7 rfl (Nat.le_of_eq rfl) at_208 rfl (q := 211) (by decide) (by decide) rfl (st' := [(.int (f_con nb Sh (wmF Sh) vs0 ws0))]) (fun T S => ?_)
                        refine o_if S at_211 (by decide) (q' := 218) (by decide) (q := 214) rfl hs_eq.1 hs_eq.2 (fun hc211 => ?_) (fun hc211 => ?_)
                        · exact absurd (hc211.symm.trans (Rep.con1 R0 rnb.1 rnb.2 rfl (Or.inr rfl))) (by decide)
                        · skip
                          refine o_iconst S (z := 1) rfl at_214 rfl (q := 215) ?_
                          refine o_goto S at_215 (by decide) (q := 219) (by decide) ?_
                          refine o_istore S (L' := #[.val (.int p0), .val (.int p1), .val (.int p2), .val (.int p3), .val (.int p4), .val (.int p5), .val (.int Sz), .val (.int Sh), .val (.int na), .val (.int nb), .val (.int nq), .val (.int (0 : Int32)), .val (.int (1 : Int32)), .val (.ref b12), .val (.int v24), .val (.int (1 : Int32))]) rfl at_219 rfl (q := 221) ?_
                          refine o_iload S rfl at_221 rfl (q := 223) ?_
                          refine o_retN S (t := .boolean) rfl (by simp) at_223 (by decide) (by decide) rfl ?_
                          rfl
                  · exact absurd hc169 (by decide)
              · skip
                refine o_aload S rfl rfl at_148 rfl (q := 150) ?_
                refine o_iload S rfl at_150 rfl (q := 152) ?_
                refine o_callV0 S (W := 0) (argsL := [(.int nq)]) (rest := []) (a := b12) (o_wd (i := 66) hw rfl) (o_wd (i := 67) hw rfl) (o_wd (i := 69) hw rfl) (o_wd (i := 68) hw rfl) (o_wd (i := 3) hw rfl) (o_wd (i := 70) hw rfl) (o_nf (o_wd (i := 69) hw rfl)) (by decide) E_b12 (ct_11n l Z a0 hw b12 nq Sh b20 vs0 h21 n0 (o_n0 S) E_b12 F_shift_b12 F_blocks_b12 A_b20 ⟨gnq.1.1, by rw [hvl]; exact gnq.1.2⟩ (hot _ gnq.1.1 hq0)) (by decide) (by decide) rfl rfl pd_7 rfl (Nat.le_of_eq rfl) at_152 rfl (q := 155) (by decide) (by decide) rfl (st' := [(.int (0 : Int32))]) (fun T S => ?_)
                refine o_iload S rfl at_155 rfl (q := 157) ?_
                refine o_icmp S at_157 (by decide) (q' := 164) (by decide) (q := 160) rfl hs_ne.1 hs_ne.2 (fun hc157 => ?_) (fun hc157 => ?_)
                · exact absurd (own_he (fun h => absurd h (fun h => hq0 (by rw [h]))) (fun _ => rfl) (ex_01 hv24)) hc157
                · skip
                  refine o_iconst S (z := 1) rfl at_160 rfl (q := 161) ?_
                  refine o_goto S at_161 (by decide) (q := 165) (by decide) ?_
                  refine o_istore S (L' := #[.val (.int p0), .val (.int p1), .val (.int p2), .val (.int p3), .val (.int p4), .val (.int p5), .val (.int Sz), .val (.int Sh), .val (.int na), .val (.int nb), .val (.int nq), .val (.int (0 : Int32)), .val (.int (1 : Int32)), .val (.ref b12), .val (.int v24), .val (.int (1 : Int32))]) rfl at_165 rfl (q := 167) ?_
                  refine o_iload S rfl at_167 rfl (q := 169) ?_
                  refine o_if S at_169 (by decide) (q' := 194) (by decide) (q := 172) rfl hs_eq.1 hs_eq.2 (fun hc169 => ?_) (fun hc169 => ?_)
                  · skip
                    refine o_iload S rfl at_194 rfl (q := 196) ?_
                    refine o_if S at_196 (by decide) (q' := 221) (by decide) (q := 199) rfl hs_eq.1 hs_eq.2 (fun hc196 => ?_) (fun hc196 => ?_)
                    · exact absurd hc196 (by decide)
                    · skip
                      refine o_iload S rfl at_199 rfl (q := 201) ?_
                      refine o_if S at_201 (by decide) (q' := 218) (by decide) (q := 204) rfl hs_eq.1 hs_eq.2 (fun hc201 => ?_) (fun hc201 => ?_)
                      · exact absurd hc201 (by decide)
                      · skip
                        refine o_aload S rfl rfl at_204 rfl (q := 206) ?_
                        refine o_iload S rfl at_206 rfl (q := 208) ?_
                        refine o_callV0 S (W := 0) (argsL := [(.int nb)]) (rest := []) (a := b12) (o_wd (i := 66) hw rfl) (o_wd (i := 67) hw rfl) (o_wd (i := 69) hw rfl) (o_wd (i := 68) hw rfl) (o_wd (i := 3) hw rfl) (o_wd (i := 70) hw rfl) (o_nf (o_wd (i := 69) hw rfl)) (by decide) E_b12 (ct_11e l Z a0 hw b12 nb Sh (wmF Sh) b20 vs0 ws0 b23 h21 n0 (o_n0 S) E_b12 F_shift_b12 F_wordMask_b12 F_blocks_b12 A_b20 A_b23 ⟨gnb.1.1, by rw [hvl]; exact gnb.1.2⟩ hat0 ⟨gnb.2.2.1, by rw [hwl0]; exact gnb.2.2.2⟩) (by decide) (by decide) rfl rfl pd_7 rfl (Nat.le_of_eq rfl) at_208 rfl (q := 211) (by decide) (by decide) rfl (st' := [(.int (f_con nb Sh (wmF Sh) vs0 ws0))]) (fun T S => ?_)
                        refine o_if S at_211 (by decide) (q' := 218) (by decide) (q := 214) rfl hs_eq.1 hs_eq.2 (fun hc211 => ?_) (fun hc211 => ?_)
                        · exact absurd (hc211.symm.trans (Rep.con1 R0 rnb.1 rnb.2 rfl (Or.inr rfl))) (by decide)
                        · skip
                          refine o_iconst S (z := 1) rfl at_214 rfl (q := 215) ?_
                          refine o_goto S at_215 (by decide) (q := 219) (by decide) ?_
                          refine o_istore S (L' := #[.val (.int p0), .val (.int p1), .val (.int p2), .val (.int p3), .val (.int p4), .val (.int p5), .val (.int Sz), .val (.int Sh), .val (.int na), .val (.int nb), .val (.int nq), .val (.int (0 : Int32)), .val (.int (1 : Int32)), .val (.ref b12), .val (.int v24), .val (.int (1 : Int32))]) rfl at_219 rfl (q := 221) ?_
                          refine o_iload S rfl at_221 rfl (q := 223) ?_
                          refine o_retN S (t := .boolean) rfl (by simp) at_223 (by decide) (by decide) rfl ?_
                          rfl
                  · exact absurd hc169 (by decide)
          · exact absurd hc119 (by decide)
      · exact absurd hc95 (by decide)
  · subst ho
    rcases own_b hv2 with ho | ho
    · subst ho
      refine o_new S (o_wd (i := 1) hw rfl) (o_wd (i := 2) hw rfl) (o_wd (i := 3) hw rfl) at_73 rfl (q := 76) (by decide) (by decide) (fun T h26 b25 S ha_b25 g_b25 X E_b25 D => ?_)
      have F_size_b25 : Fld Z h26 b25 "com/example/mince_trees/mincetrees/xpath/NodeSet" "size" "I" (.int (0 : Int32)) := D (Or.inr (o_wd (i := 33) hw rfl)) (ty := .int) (by decide)
      have F_shift_b25 : Fld Z h26 b25 "com/example/mince_trees/mincetrees/xpath/NodeSet" "shift" "I" (.int (0 : Int32)) := D (Or.inr (o_wd (i := 40) hw rfl)) (ty := .int) (by decide)
      have F_wordMask_b25 : Fld Z h26 b25 "com/example/mince_trees/mincetrees/xpath/NodeSet" "wordMask" "I" (.int (0 : Int32)) := D (Or.inr (o_wd (i := 42) hw rfl)) (ty := .int) (by decide)
      have F_blocks_b25 : Fld Z h26 b25 "com/example/mince_trees/mincetrees/xpath/NodeSet" "blocks" "[[J" .null := D (Or.inr (o_wd (i := 46) hw rfl)) (ty := (.array (.array .long))) (by decide)
      refine o_dup S rfl at_76 rfl (q := 77) ?_
      refine o_new S (o_wd (i := 4) hw rfl) (o_wd (i := 5) hw rfl) (o_wd (i := 6) hw rfl) at_77 rfl (q := 80) (by decide) (by decide) (fun T h28 b27 S ha_b27 g_b27 X E_b27 D => ?_)
      have ne_b25_b27 : b25 ≠ b27 := by rw [ha_b27]; exact Nat.ne_of_lt E_b25.lt
      have E_b25 := Exa.ext X E_b25
      have F_size_b25 := Fld.ext X F_size_b25
      have F_shift_b25 := Fld.ext X F_shift_b25
      have F_wordMask_b25 := Fld.ext X F_wordMask_b25
      have F_blocks_b25 := Fld.ext X F_blocks_b25
      have F_size_b27 : Fld Z h28 b27 "com/example/mince_trees/mincetrees/xpath/Chunks" "size" "I" (.int (0 : Int32)) := D (Or.inr (o_wd (i := 14) hw rfl)) (ty := .int) (by decide)
      have F_shift_b27 : Fld Z h28 b27 "com/example/mince_trees/mincetrees/xpath/Chunks" "shift" "I" (.int (0 : Int32)) := D (Or.inr (o_wd (i := 16) hw rfl)) (ty := .int) (by decide)
      have F_count_b27 : Fld Z h28 b27 "com/example/mince_trees/mincetrees/xpath/Chunks" "count" "I" (.int (0 : Int32)) := D (Or.inr (o_wd (i := 22) hw rfl)) (ty := .int) (by decide)
      refine o_dup S rfl at_80 rfl (q := 81) ?_
      refine o_iload S rfl at_81 rfl (q := 83) ?_
      refine o_iload S rfl at_83 rfl (q := 85) ?_
      refine o_callI S (W := 3) (argsL := [(.int Sz), (.int Sh)]) (rest := [(.ref b27), (.ref b25), (.ref b25)]) (a := b27) rfl (o_wd (i := 7) hw rfl) (o_wd (i := 8) hw rfl) (o_wd (i := 6) hw rfl) (o_wd (i := 9) hw rfl) (by decide) (ct_1 l Z a0 hw b27 Sz Sh (0 : Int32) (0 : Int32) (0 : Int32) h28 n0 (o_n0 S) E_b27 F_size_b27 F_shift_b27 F_count_b27 g_b27) (by decide) (by decide) rfl rfl pd_5 rfl (Nat.le_of_eq rfl) at_85 rfl (q := 88) (by decide) (by decide) (fun T h29 rr30 S hQ => ?_)
      obtain ⟨hv, K1, E_b27', F_size_b27', F_shift_b27'⟩ := hQ
      subst hv
      have E_b25 := E_b25.keep K1
      have F_size_b25 := F_size_b25.keep K1 (ninS ne_b25_b27 nin0)
      have F_shift_b25 := F_shift_b25.keep K1 (ninS ne_b25_b27 nin0)
      have F_wordMask_b25 := F_wordMask_b25.keep K1 (ninS ne_b25_b27 nin0)
      have F_blocks_b25 := F_blocks_b25.keep K1 (ninS ne_b25_b27 nin0)
      have E_b27 := E_b27'
      have F_size_b27 := F_size_b27'
      have F_shift_b27 := F_shift_b27'
      show Wp p e below (Po s n0 room_1 Q0) T (mkF m 88 #[.val (.int p0), .val (.int p1), .val (.int p2), .val (.int p3), .val (.int p4), .val (.int p5), .val (.int Sz), .val (.int Sh), .val (.int na), .val (.int nb), .val (.int nq), .val (.int (1 : Int32)), .val (.int (0 : Int32)), .unset, .unset, .unset] [(.ref b27), (.ref b25), (.ref b25)])
      refine o_callI S (W := 1) (argsL := [(.ref b27)]) (rest := [(.ref b25)]) (a := b25) rfl (o_wd (i := 23) hw rfl) (o_wd (i := 24) hw rfl) (o_wd (i := 3) hw rfl) (o_wd (i := 25) hw rfl) (by decide) (ct_4 l Z a0 hw b25 b27 Sz Sh h29 n0 (o_n0 S) E_b25 F_size_b25 F_shift_b25 F_wordMask_b25 F_blocks_b25 E_b27 F_size_b27 F_shift_b27 g_b25 ne_b25_b27 hnb') (by decide) (by decide) rfl rfl pd_6 rfl (Nat.le_of_eq rfl) at_88 rfl (q := 91) (by decide) (by decide) (fun T h31 rr32 S hQ => ?_)
      obtain ⟨b33, g_b33, sz'_b33, hv, K1, E_b25', F_size_b25', F_shift_b25', F_wordMask_b25', F_blocks_b25', A_b33'⟩ := hQ
      subst hv
      have ne_b25_b33 : b25 ≠ b33 := Nat.ne_of_lt (Nat.lt_of_lt_of_le E_b25.lt sz'_b33)
      have ne_b27_b33 : b27 ≠ b33 := Nat.ne_of_lt (Nat.lt_of_lt_of_le E_b27.lt sz'_b33)
      have E_b27 := E_b27.keep K1
      have F_size_b27 := F_size_b27.keep K1 (ninS (Ne.symm ne_b25_b27) nin0)
      have F_shift_b27 := F_shift_b27.keep K1 (ninS (Ne.symm ne_b25_b27) nin0)
      have E_b25 := E_b25'
      have F_size_b25 := F_size_b25'
      have F_shift_b25 := F_shift_b25'
      have F_wordMask_b25 := F_wordMask_b25'
      have F_blocks_b25 := F_blocks_b25'
      have A_b33 := A_b33'
      show Wp p e below (Po s n0 room_1 Q0) T (mkF m 91 #[.val (.int p0), .val (.int p1), .val (.int p2), .val (.int p3), .val (.int p4), .val (.int p5), .val (.int Sz), .val (.int Sh), .val (.int na), .val (.int nb), .val (.int nq), .val (.int (1 : Int32)), .val (.int (0 : Int32)), .unset, .unset, .unset] [(.ref b25)])
      refine o_astore S (L' := #[.val (.int p0), .val (.int p1), .val (.int p2), .val (.int p3), .val (.int p4), .val (.int p5), .val (.int Sz), .val (.int Sh), .val (.int na), .val (.int nb), .val (.int nq), .val (.int (1 : Int32)), .val (.int (0 : Int32)), .val (.ref b25), .unset, .unset]) rfl rfl at_91 rfl (q := 93) ?_
      refine o_iload S rfl at_93 rfl (q := 95) ?_
      refine o_if S at_95 (by decide) (q' := 105) (by decide) (q := 98) rfl hs_eq.1 hs_eq.2 (fun hc95 => ?_) (fun hc95 => ?_)
      · exact absurd hc95 (by decide)
      · skip
        refine o_aload S rfl rfl at_98 rfl (q := 100) ?_
        refine o_iload S rfl at_100 rfl (q := 102) ?_
        refine o_callV S (W := 0) (argsL := [(.int na)]) (rest := []) (a := b25) (o_wd (i := 47) hw rfl) (o_wd (i := 48) hw rfl) (o_wd (i := 50) hw rfl) (o_wd (i := 49) hw rfl) (o_wd (i := 3) hw rfl) (o_wd (i := 51) hw rfl) (o_nf (o_wd (i := 50) hw rfl)) (by decide) E_b25 (ct_7n l Z a0 hw b25 na Sz Sh (wmF Sh) b33 (List.replicate (nbF Sz Sh).toNatClampNeg .null) h31 n0 (o_n0 S) E_b25 F_size_b25 F_shift_b25 F_wordMask_b25 F_blocks_b25 A_b33 g_b33 ne_b25_b33 ⟨gna.1.1, by rw [hnbL]; exact gna.1.2⟩ own_rn gna.2.1 gna.2.2) (by decide) (by decide) rfl rfl pd_8 rfl (Nat.le_of_eq rfl) at_102 rfl (q := 105) (by decide) (by decide) (fun T h34 rr35 S hQ => ?_)
        obtain ⟨b36, g_b36, sz'_b36, hv, K1, A_b33', A_b36'⟩ := hQ
        subst hv
        have ne_b25_b36 : b25 ≠ b36 := Nat.ne_of_lt (Nat.lt_of_lt_of_le E_b25.lt sz'_b36)
        have ne_b27_b36 : b27 ≠ b36 := Nat.ne_of_lt (Nat.lt_of_lt_of_le E_b27.lt sz'_b36)
        have ne_b33_b36 : b33 ≠ b36 := Nat.ne_of_lt (Nat.lt_of_lt_of_le A_b33.lt sz'_b36)
        have E_b25 := E_b25.keep K1
        have F_size_b25 := F_size_b25.keep K1 (ninS ne_b25_b33 nin0)
        have F_shift_b25 := F_shift_b25.keep K1 (ninS ne_b25_b33 nin0)
        have F_wordMask_b25 := F_wordMask_b25.keep K1 (ninS ne_b25_b33 nin0)
        have F_blocks_b25 := F_blocks_b25.keep K1 (ninS ne_b25_b33 nin0)
        have E_b27 := E_b27.keep K1
        have F_size_b27 := F_size_b27.keep K1 (ninS ne_b27_b33 nin0)
        have F_shift_b27 := F_shift_b27.keep K1 (ninS ne_b27_b33 nin0)
        have A_b33 := A_b33'
        have A_b36 := A_b36'
        show Wp p e below (Po s n0 room_1 Q0) T (mkF m 105 #[.val (.int p0), .val (.int p1), .val (.int p2), .val (.int p3), .val (.int p4), .val (.int p5), .val (.int Sz), .val (.int Sh), .val (.int na), .val (.int nb), .val (.int nq), .val (.int (1 : Int32)), .val (.int (0 : Int32)), .val (.ref b25), .unset, .unset] [])
        have hat0 : ((List.replicate (nbF Sz Sh).toNatClampNeg .null).set ((na.toUInt32 >>> (Sh &&& 31).toUInt32).toInt32).toNatClampNeg (.ref b36) : List Value).getD ((na.toUInt32 >>> (Sh &&& 31).toUInt32).toInt32).toNatClampNeg .null = .ref b36 := own_sg gna.1.1 (by rw [hnbL]; exact gna.1.2)
        have hot : ∀ i : Int32, 0 ≤ i.toInt → ¬ i = ((na.toUInt32 >>> (Sh &&& 31).toUInt32).toInt32) → ((List.replicate (nbF Sz Sh).toNatClampNeg .null).set ((na.toUInt32 >>> (Sh &&& 31).toUInt32).toInt32).toNatClampNeg (.ref b36) : List Value).getD i.toNatClampNeg .null = .null := fun i h1 h2 => (own_so gna.1.1 h1 h2).trans own_rn
        have hvl : (((List.replicate (nbF Sz Sh).toNatClampNeg .null).set ((na.toUInt32 >>> (Sh &&& 31).toUInt32).toInt32).toNatClampNeg (.ref b36) : List Value).length : Int) = (nbF Sz Sh).toInt := by rw [List.length_set]; exact hnbL
        have hwl0 : ((((List.replicate (f_wn ((na.toUInt32 >>> (Sh &&& 31).toUInt32).toInt32) Sz Sh (wmF Sh)).toNatClampNeg 0) : List Int64).set (((na.toUInt32 >>> ((6 : Int32) &&& 31).toUInt32).toInt32) &&& (wmF Sh)).toNatClampNeg ((((List.replicate (f_wn ((na.toUInt32 >>> (Sh &&& 31).toUInt32).toInt32) Sz Sh (wmF Sh)).toNatClampNeg 0) : List Int64).getD (((na.toUInt32 >>> ((6 : Int32) &&& 31).toUInt32).toInt32) &&& (wmF Sh)).toNatClampNeg 0) ||| ((1 : Int64) <<< (na &&& 0x3f).toInt64)) : List Int64).length : Int) = (f_wn ((na.toUInt32 >>> (Sh &&& 31).toUInt32).toInt32) Sz Sh (wmF Sh)).toInt := by rw [List.length_set, List.length_replicate]; exact (o_nat gna.2.1.1).2
        have R0 : Rep Sz Sh (wmF Sh) (((List.replicate (f_wn ((na.toUInt32 >>> (Sh &&& 31).toUInt32).toInt32) Sz Sh (wmF Sh)).toNatClampNeg 0) : List Int64).set (((na.toUInt32 >>> ((6 : Int32) &&& 31).toUInt32).toInt32) &&& (wmF Sh)).toNatClampNeg ((((List.replicate (f_wn ((na.toUInt32 >>> (Sh &&& 31).toUInt32).toInt32) Sz Sh (wmF Sh)).toNatClampNeg 0) : List Int64).getD (((na.toUInt32 >>> ((6 : Int32) &&& 31).toUInt32).toInt32) &&& (wmF Sh)).toNatClampNeg 0) ||| ((1 : Int64) <<< (na &&& 0x3f).toInt64))) ((na.toUInt32 >>> (Sh &&& 31).toUInt32).toInt32) (fun y => False ∨ y = na) := Rep.set hS Rep.zero rna.1 rfl (by rw [List.length_replicate]; have := (o_nat gna.2.2.1).2; have := (o_nat gna.2.1.1).2; have := gna.2.2.2; omega)
        obtain ⟨vs0, qv0⟩ : ∃ z : List Value, z = ((List.replicate (nbF Sz Sh).toNatClampNeg .null).set ((na.toUInt32 >>> (Sh &&& 31).toUInt32).toInt32).toNatClampNeg (.ref b36)) := ⟨_, rfl⟩
        obtain ⟨ws0, qw0⟩ : ∃ z, z = (((List.replicate (f_wn ((na.toUInt32 >>> (Sh &&& 31).toUInt32).toInt32) Sz Sh (wmF Sh)).toNatClampNeg 0) : List Int64).set (((na.toUInt32 >>> ((6 : Int32) &&& 31).toUInt32).toInt32) &&& (wmF Sh)).toNatClampNeg ((((List.replicate (f_wn ((na.toUInt32 >>> (Sh &&& 31).toUInt32).toInt32) Sz Sh (wmF Sh)).toNatClampNeg 0) : List Int64).getD (((na.toUInt32 >>> ((6 : Int32) &&& 31).toUInt32).toInt32) &&& (wmF Sh)).toNatClampNeg 0) ||| ((1 : Int64) <<< (na &&& 0x3f).toInt64))) := ⟨_, rfl⟩
        rw [← qv0] at A_b33 hat0 hot hvl
        rw [← qw0] at A_b36 hwl0 R0
        refine o_iload S rfl at_105 rfl (q := 107) ?_
        refine o_if S at_107 (by decide) (q' := 117) (by decide) (q := 110) rfl hs_eq.1 hs_eq.2 (fun hc107 => ?_) (fun hc107 => ?_)
        · skip
          refine o_iload S rfl at_117 rfl (q := 119) ?_
          refine o_if S at_119 (by decide) (q' := 129) (by decide) (q := 122) rfl hs_eq.1 hs_eq.2 (fun hc119 => ?_) (fun hc119 => ?_)
          · exact absurd hc119 (by decide)
          · skip
            refine o_iload S rfl at_122 rfl (q := 124) ?_
            refine o_iload S rfl at_124 rfl (q := 126) ?_
            refine o_cutS S (G := fun T => ∀ (v37 : Int32), v37 = (if nq = na then (1 : Int32) else (if (0 : Int32) = (0 : Int32) then (0 : Int32) else (if ¬ nq = nb then (0 : Int32) else (1 : Int32)))) → Wp p e below (Po s n0 room_1 Q0) T (mkF m 146 #[.val (.int p0), .val (.int p1), .val (.int p2), .val (.int p3), .val (.int p4), .val (.int p5), .val (.int Sz), .val (.int Sh), .val (.int na), .val (.int nb), .val (.int nq), .val (.int (1 : Int32)), .val (.int (0 : Int32)), .val (.ref b25), .unset, .unset] [(.int v37)])) (fun k126 => ?_) (fun T S v37 hv37 => ?_)
            · skip
              refine o_icmp S at_126 (by decide) (q' := 141) (by decide) (q := 129) rfl hs_eq.1 hs_eq.2 (fun hc126 => ?_) (fun hc126 => ?_)
              · skip
                refine o_iconst S (z := 1) rfl at_141 rfl (q := 142) ?_
                refine o_goto S at_142 (by decide) (q := 146) (by decide) ?_
                exact k126 _ S _ (by rw [if_pos hc126])
              · skip
                refine o_iload S rfl at_129 rfl (q := 131) ?_
                refine o_if S at_131 (by decide) (q' := 145) (by decide) (q := 134) rfl hs_eq.1 hs_eq.2 (fun hc131 => ?_) (fun hc131 => ?_)
                · skip
                  refine o_iconst S (z := 0) rfl at_145 rfl (q := 146) ?_
                  exact k126 _ S _ (by rw [if_neg hc126, if_pos hc131])
                · skip
                  refine o_iload S rfl at_134 rfl (q := 136) ?_
                  refine o_iload S rfl at_136 rfl (q := 138) ?_
                  refine o_icmp S at_138 (by decide) (q' := 145) (by decide) (q := 141) rfl hs_ne.1 hs_ne.2 (fun hc138 => ?_) (fun hc138 => ?_)
                  · skip
                    refine o_iconst S (z := 0) rfl at_145 rfl (q := 146) ?_
                    exact k126 _ S _ (by rw [if_neg hc126, if_neg hc131, if_pos hc138])
                  · skip
                    refine o_iconst S (z := 1) rfl at_141 rfl (q := 142) ?_
                    refine o_goto S at_142 (by decide) (q := 146) (by decide) ?_
                    exact k126 _ S _ (by rw [if_neg hc126, if_neg hc131, if_neg hc138])
            refine o_istore S (L' := #[.val (.int p0), .val (.int p1), .val (.int p2), .val (.int p3), .val (.int p4), .val (.int p5), .val (.int Sz), .val (.int Sh), .val (.int na), .val (.int nb), .val (.int nq), .val (.int (1 : Int32)), .val (.int (0 : Int32)), .val (.ref b25), .val (.int v37), .unset]) rfl at_146 rfl (q := 148) ?_
            by_cases hq0 : ((nq.toUInt32 >>> (Sh &&& 31).toUInt32).toInt32) = ((na.toUInt32 >>> (Sh &&& 31).toUInt32).toInt32)
            · skip
              refine o_aload S rfl rfl at_148 rfl (q := 150) ?_
              refine o_iload S rfl at_150 rfl (q := 152) ?_
              refine o_callV0 S (W := 0) (argsL := [(.int nq)]) (rest := []) (a := b25) (o_wd (i := 66) hw rfl) (o_wd (i := 67) hw rfl) (o_wd (i := 69) hw rfl) (o_wd (i := 68) hw rfl) (o_wd (i := 3) hw rfl) (o_wd (i := 70) hw rfl) (o_nf (o_wd (i := 69) hw rfl)) (by decide) E_b25 (ct_11e l Z a0 hw b25 nq Sh (wmF Sh) b33 vs0 ws0 b36 h34 n0 (o_n0 S) E_b25 F_shift_b25 F_wordMask_b25 F_blocks_b25 A_b33 A_b36 ⟨gnq.1.1, by rw [hvl]; exact gnq.1.2⟩ (by rw [hq0]; exact hat0) ⟨gnq.2.2.1, by have q := gnq.2.2.2; rw [hq0] at q; rw [hwl0]; exact q⟩) (by decide) (by decide) rfl rfl pd_7 rfl (Nat.le_of_eq rfl) at_152 rfl (q := 155) (by decide) (by decide) rfl (st' := [(.int (f_con nq Sh (wmF Sh) vs0 ws0))]) (fun T S => ?_)
              refine o_iload S rfl at_155 rfl (q := 157) ?_
              refine o_icmp S at_157 (by decide) (q' := 164) (by decide) (q := 160) rfl hs_ne.1 hs_ne.2 (fun hc157 => ?_) (fun hc157 => ?_)
              · exact absurd (own_he (fun h => (Rep.con1 R0 rnq.1 rnq.2 hq0 (Or.inr h))) (fun h => (Rep.con0 R0 rnq.1 rnq.2 hq0 (fun q => h (q.elim False.elim id)))) (ex_10 hv37)) hc157
              · skip
                refine o_iconst S (z := 1) rfl at_160 rfl (q := 161) ?_
                refine o_goto S at_161 (by decide) (q := 165) (by decide) ?_
                refine o_istore S (L' := #[.val (.int p0), .val (.int p1), .val (.int p2), .val (.int p3), .val (.int p4), .val (.int p5), .val (.int Sz), .val (.int Sh), .val (.int na), .val (.int nb), .val (.int nq), .val (.int (1 : Int32)), .val (.int (0 : Int32)), .val (.ref b25), .val (.int v37), .val (.int (1 : Int32))]) rfl at_165 rfl (q := 167) ?_
                refine o_iload S rfl at_167 rfl (q := 169) ?_
                refine o_if S at_169 (by decide) (q' := 194) (by decide) (q := 172) rfl hs_eq.1 hs_eq.2 (fun hc169 => ?_) (fun hc169 => ?_)
                · exact absurd hc169 (by decide)
                · skip
                  refine o_iload S rfl at_172 rfl (q := 174) ?_
                  refine o_if S at_174 (by decide) (q' := 191) (by decide) (q := 177) rfl hs_eq.1 hs_eq.2 (fun hc174 => ?_) (fun hc174 => ?_)
                  · exact absurd hc174 (by decide)
                  · skip
                    refine o_aload S rfl rfl at_177 rfl (q := 179) ?_
                    refine o_iload S rfl at_179 rfl (q := 181) ?_
                    refine o_callV0 S (W := 0) (argsL := [(.int na)]) (rest := []) (a := b25) (o_wd (i := 66) hw rfl) (o_wd (i := 67) hw rfl) (o_wd (i := 69) hw rfl) (o_wd (i := 68) hw rfl) (o_wd (i := 3) hw rfl) (o_wd (i := 70) hw rfl) (o_nf (o_wd (i := 69) hw rfl)) (by decide) E_b25 (ct_11e l Z a0 hw b25 na Sh (wmF Sh) b33 vs0 ws0 b36 h34 n0 (o_n0 S) E_b25 F_shift_b25 F_wordMask_b25 F_blocks_b25 A_b33 A_b36 ⟨gna.1.1, by rw [hvl]; exact gna.1.2⟩ hat0 ⟨gna.2.2.1, by rw [hwl0]; exact gna.2.2.2⟩) (by decide) (by decide) rfl rfl pd_7 rfl (Nat.le_of_eq rfl) at_181 rfl (q := 184) (by decide) (by decide) rfl (st' := [(.int (f_con na Sh (wmF Sh) vs0 ws0))]) (fun T S => ?_)
                    refine o_if S at_184 (by decide) (q' := 191) (by decide) (q := 187) rfl hs_eq.1 hs_eq.2 (fun hc184 => ?_) (fun hc184 => ?_)
                    · exact absurd (hc184.symm.trans (Rep.con1 R0 rna.1 rna.2 rfl (Or.inr rfl))) (by decide)
                    · skip
                      refine o_iconst S (z := 1) rfl at_187 rfl (q := 188) ?_
                      refine o_goto S at_188 (by decide) (q := 192) (by decide) ?_
                      refine o_istore S (L' := #[.val (.int p0), .val (.int p1), .val (.int p2), .val (.int p3), .val (.int p4), .val (.int p5), .val (.int Sz), .val (.int Sh), .val (.int na), .val (.int nb), .val (.int nq), .val (.int (1 : Int32)), .val (.int (0 : Int32)), .val (.ref b25), .val (.int v37), .val (.int (1 : Int32))]) rfl at_192 rfl (q := 194) ?_
                      refine o_iload S rfl at_194 rfl (q := 196) ?_
                      refine o_if S at_196 (by decide) (q' := 221) (by decide) (q := 199) rfl hs_eq.1 hs_eq.2 (fun hc196 => ?_) (fun hc196 => ?_)
                      · skip
                        refine o_iload S rfl at_221 rfl (q := 223) ?_
                        refine o_retN S (t := .boolean) rfl (by simp) at_223 (by decide) (by decide) rfl ?_
                        rfl
                      · exact absurd hc196 (by decide)
            · skip
              refine o_aload S rfl rfl at_148 rfl (q := 150) ?_
              refine o_iload S rfl at_150 rfl (q := 152) ?_
              refine o_callV0 S (W := 0) (argsL := [(.int nq)]) (rest := []) (a := b25) (o_wd (i := 66) hw rfl) (o_wd (i := 67) hw rfl) (o_wd (i := 69) hw rfl) (o_wd (i := 68) hw rfl) (o_wd (i := 3) hw rfl) (o_wd (i := 70) hw rfl) (o_nf (o_wd (i := 69) hw rfl)) (by decide) E_b25 (ct_11n l Z a0 hw b25 nq Sh b33 vs0 h34 n0 (o_n0 S) E_b25 F_shift_b25 F_blocks_b25 A_b33 ⟨gnq.1.1, by rw [hvl]; exact gnq.1.2⟩ (hot _ gnq.1.1 hq0)) (by decide) (by decide) rfl rfl pd_7 rfl (Nat.le_of_eq rfl) at_152 rfl (q := 155) (by decide) (by decide) rfl (st' := [(.int (0 : Int32))]) (fun T S => ?_)
              refine o_iload S rfl at_155 rfl (q := 157) ?_
              refine o_icmp S at_157 (by decide) (q' := 164) (by decide) (q := 160) rfl hs_ne.1 hs_ne.2 (fun hc157 => ?_) (fun hc157 => ?_)
              · exact absurd (own_he (fun h => absurd h (fun h => hq0 (by rw [h]))) (fun _ => rfl) (ex_10 hv37)) hc157
              · skip
                refine o_iconst S (z := 1) rfl at_160 rfl (q := 161) ?_
                refine o_goto S at_161 (by decide) (q := 165) (by decide) ?_
                refine o_istore S (L' := #[.val (.int p0), .val (.int p1), .val (.int p2), .val (.int p3), .val (.int p4), .val (.int p5), .val (.int Sz), .val (.int Sh), .val (.int na), .val (.int nb), .val (.int nq), .val (.int (1 : Int32)), .val (.int (0 : Int32)), .val (.ref b25), .val (.int v37), .val (.int (1 : Int32))]) rfl at_165 rfl (q := 167) ?_
                refine o_iload S rfl at_167 rfl (q := 169) ?_
                refine o_if S at_169 (by decide) (q' := 194) (by decide) (q := 172) rfl hs_eq.1 hs_eq.2 (fun hc169 => ?_) (fun hc169 => ?_)
                · exact absurd hc169 (by decide)
                · skip
                  refine o_iload S rfl at_172 rfl (q := 174) ?_
                  refine o_if S at_174 (by decide) (q' := 191) (by decide) (q := 177) rfl hs_eq.1 hs_eq.2 (fun hc174 => ?_) (fun hc174 => ?_)
                  · exact absurd hc174 (by decide)
                  · skip
                    refine o_aload S rfl rfl at_177 rfl (q := 179) ?_
                    refine o_iload S rfl at_179 rfl (q := 181) ?_
                    refine o_callV0 S (W := 0) (argsL := [(.int na)]) (rest := []) (a := b25) (o_wd (i := 66) hw rfl) (o_wd (i := 67) hw rfl) (o_wd (i := 69) hw rfl) (o_wd (i := 68) hw rfl) (o_wd (i := 3) hw rfl) (o_wd (i := 70) hw rfl) (o_nf (o_wd (i := 69) hw rfl)) (by decide) E_b25 (ct_11e l Z a0 hw b25 na Sh (wmF Sh) b33 vs0 ws0 b36 h34 n0 (o_n0 S) E_b25 F_shift_b25 F_wordMask_b25 F_blocks_b25 A_b33 A_b36 ⟨gna.1.1, by rw [hvl]; exact gna.1.2⟩ hat0 ⟨gna.2.2.1, by rw [hwl0]; exact gna.2.2.2⟩) (by decide) (by decide) rfl rfl pd_7 rfl (Nat.le_of_eq rfl) at_181 rfl (q := 184) (by decide) (by decide) rfl (st' := [(.int (f_con na Sh (wmF Sh) vs0 ws0))]) (fun T S => ?_)
                    refine o_if S at_184 (by decide) (q' := 191) (by decide) (q := 187) rfl hs_eq.1 hs_eq.2 (fun hc184 => ?_) (fun hc184 => ?_)
                    · exact absurd (hc184.symm.trans (Rep.con1 R0 rna.1 rna.2 rfl (Or.inr rfl))) (by decide)
                    · skip
                      refine o_iconst S (z := 1) rfl at_187 rfl (q := 188) ?_
                      refine o_goto S at_188 (by decide) (q := 192) (by decide) ?_
                      refine o_istore S (L' := #[.val (.int p0), .val (.int p1), .val (.int p2), .val (.int p3), .val (.int p4), .val (.int p5), .val (.int Sz), .val (.int Sh), .val (.int na), .val (.int nb), .val (.int nq), .val (.int (1 : Int32)), .val (.int (0 : Int32)), .val (.ref b25), .val (.int v37), .val (.int (1 : Int32))]) rfl at_192 rfl (q := 194) ?_
                      refine o_iload S rfl at_194 rfl (q := 196) ?_
                      refine o_if S at_196 (by decide) (q' := 221) (by decide) (q := 199) rfl hs_eq.1 hs_eq.2 (fun hc196 => ?_) (fun hc196 => ?_)
                      · skip
                        refine o_iload S rfl at_221 rfl (q := 223) ?_
                        refine o_retN S (t := .boolean) rfl (by simp) at_223 (by decide) (by decide) rfl ?_
                        rfl
                      · exact absurd hc196 (by decide)
        · exact absurd hc107 (by decide)
    · subst ho
      refine o_new S (o_wd (i := 1) hw rfl) (o_wd (i := 2) hw rfl) (o_wd (i := 3) hw rfl) at_73 rfl (q := 76) (by decide) (by decide) (fun T h39 b38 S ha_b38 g_b38 X E_b38 D => ?_)
      have F_size_b38 : Fld Z h39 b38 "com/example/mince_trees/mincetrees/xpath/NodeSet" "size" "I" (.int (0 : Int32)) := D (Or.inr (o_wd (i := 33) hw rfl)) (ty := .int) (by decide)
      have F_shift_b38 : Fld Z h39 b38 "com/example/mince_trees/mincetrees/xpath/NodeSet" "shift" "I" (.int (0 : Int32)) := D (Or.inr (o_wd (i := 40) hw rfl)) (ty := .int) (by decide)
      have F_wordMask_b38 : Fld Z h39 b38 "com/example/mince_trees/mincetrees/xpath/NodeSet" "wordMask" "I" (.int (0 : Int32)) := D (Or.inr (o_wd (i := 42) hw rfl)) (ty := .int) (by decide)
      have F_blocks_b38 : Fld Z h39 b38 "com/example/mince_trees/mincetrees/xpath/NodeSet" "blocks" "[[J" .null := D (Or.inr (o_wd (i := 46) hw rfl)) (ty := (.array (.array .long))) (by decide)
      refine o_dup S rfl at_76 rfl (q := 77) ?_
      refine o_new S (o_wd (i := 4) hw rfl) (o_wd (i := 5) hw rfl) (o_wd (i := 6) hw rfl) at_77 rfl (q := 80) (by decide) (by decide) (fun T h41 b40 S ha_b40 g_b40 X E_b40 D => ?_)
      have ne_b38_b40 : b38 ≠ b40 := by rw [ha_b40]; exact Nat.ne_of_lt E_b38.lt
      have E_b38 := Exa.ext X E_b38
      have F_size_b38 := Fld.ext X F_size_b38
      have F_shift_b38 := Fld.ext X F_shift_b38
      have F_wordMask_b38 := Fld.ext X F_wordMask_b38
      have F_blocks_b38 := Fld.ext X F_blocks_b38
      have F_size_b40 : Fld Z h41 b40 "com/example/mince_trees/mincetrees/xpath/Chunks" "size" "I" (.int (0 : Int32)) := D (Or.inr (o_wd (i := 14) hw rfl)) (ty := .int) (by decide)
      have F_shift_b40 : Fld Z h41 b40 "com/example/mince_trees/mincetrees/xpath/Chunks" "shift" "I" (.int (0 : Int32)) := D (Or.inr (o_wd (i := 16) hw rfl)) (ty := .int) (by decide)
      have F_count_b40 : Fld Z h41 b40 "com/example/mince_trees/mincetrees/xpath/Chunks" "count" "I" (.int (0 : Int32)) := D (Or.inr (o_wd (i := 22) hw rfl)) (ty := .int) (by decide)
      refine o_dup S rfl at_80 rfl (q := 81) ?_
      refine o_iload S rfl at_81 rfl (q := 83) ?_
      refine o_iload S rfl at_83 rfl (q := 85) ?_
      refine o_callI S (W := 3) (argsL := [(.int Sz), (.int Sh)]) (rest := [(.ref b40), (.ref b38), (.ref b38)]) (a := b40) rfl (o_wd (i := 7) hw rfl) (o_wd (i := 8) hw rfl) (o_wd (i := 6) hw rfl) (o_wd (i := 9) hw rfl) (by decide) (ct_1 l Z a0 hw b40 Sz Sh (0 : Int32) (0 : Int32) (0 : Int32) h41 n0 (o_n0 S) E_b40 F_size_b40 F_shift_b40 F_count_b40 g_b40) (by decide) (by decide) rfl rfl pd_5 rfl (Nat.le_of_eq rfl) at_85 rfl (q := 88) (by decide) (by decide) (fun T h42 rr43 S hQ => ?_)
      obtain ⟨hv, K1, E_b40', F_size_b40', F_shift_b40'⟩ := hQ
      subst hv
      have E_b38 := E_b38.keep K1
      have F_size_b38 := F_size_b38.keep K1 (ninS ne_b38_b40 nin0)
      have F_shift_b38 := F_shift_b38.keep K1 (ninS ne_b38_b40 nin0)
      have F_wordMask_b38 := F_wordMask_b38.keep K1 (ninS ne_b38_b40 nin0)
      have F_blocks_b38 := F_blocks_b38.keep K1 (ninS ne_b38_b40 nin0)
      have E_b40 := E_b40'
      have F_size_b40 := F_size_b40'
      have F_shift_b40 := F_shift_b40'
      show Wp p e below (Po s n0 room_1 Q0) T (mkF m 88 #[.val (.int p0), .val (.int p1), .val (.int p2), .val (.int p3), .val (.int p4), .val (.int p5), .val (.int Sz), .val (.int Sh), .val (.int na), .val (.int nb), .val (.int nq), .val (.int (1 : Int32)), .val (.int (1 : Int32)), .unset, .unset, .unset] [(.ref b40), (.ref b38), (.ref b38)])
      refine o_callI S (W := 1) (argsL := [(.ref b40)]) (rest := [(.ref b38)]) (a := b38) rfl (o_wd (i := 23) hw rfl) (o_wd (i := 24) hw rfl) (o_wd (i := 3) hw rfl) (o_wd (i := 25) hw rfl) (by decide) (ct_4 l Z a0 hw b38 b40 Sz Sh h42 n0 (o_n0 S) E_b38 F_size_b38 F_shift_b38 F_wordMask_b38 F_blocks_b38 E_b40 F_size_b40 F_shift_b40 g_b38 ne_b38_b40 hnb') (by decide) (by decide) rfl rfl pd_6 rfl (Nat.le_of_eq rfl) at_88 rfl (q := 91) (by decide) (by decide) (fun T h44 rr45 S hQ => ?_)
      obtain ⟨b46, g_b46, sz'_b46, hv, K1, E_b38', F_size_b38', F_shift_b38', F_wordMask_b38', F_blocks_b38', A_b46'⟩ := hQ
      subst hv
      have ne_b38_b46 : b38 ≠ b46 := Nat.ne_of_lt (Nat.lt_of_lt_of_le E_b38.lt sz'_b46)
      have ne_b40_b46 : b40 ≠ b46 := Nat.ne_of_lt (Nat.lt_of_lt_of_le E_b40.lt sz'_b46)
      have E_b40 := E_b40.keep K1
      have F_size_b40 := F_size_b40.keep K1 (ninS (Ne.symm ne_b38_b40) nin0)
      have F_shift_b40 := F_shift_b40.keep K1 (ninS (Ne.symm ne_b38_b40) nin0)
      have E_b38 := E_b38'
      have F_size_b38 := F_size_b38'
      have F_shift_b38 := F_shift_b38'
      have F_wordMask_b38 := F_wordMask_b38'
      have F_blocks_b38 := F_blocks_b38'
      have A_b46 := A_b46'
      show Wp p e below (Po s n0 room_1 Q0) T (mkF m 91 #[.val (.int p0), .val (.int p1), .val (.int p2), .val (.int p3), .val (.int p4), .val (.int p5), .val (.int Sz), .val (.int Sh), .val (.int na), .val (.int nb), .val (.int nq), .val (.int (1 : Int32)), .val (.int (1 : Int32)), .unset, .unset, .unset] [(.ref b38)])
      refine o_astore S (L' := #[.val (.int p0), .val (.int p1), .val (.int p2), .val (.int p3), .val (.int p4), .val (.int p5), .val (.int Sz), .val (.int Sh), .val (.int na), .val (.int nb), .val (.int nq), .val (.int (1 : Int32)), .val (.int (1 : Int32)), .val (.ref b38), .unset, .unset]) rfl rfl at_91 rfl (q := 93) ?_
      refine o_iload S rfl at_93 rfl (q := 95) ?_
      refine o_if S at_95 (by decide) (q' := 105) (by decide) (q := 98) rfl hs_eq.1 hs_eq.2 (fun hc95 => ?_) (fun hc95 => ?_)
      · exact absurd hc95 (by decide)
      · skip
        refine o_aload S rfl rfl at_98 rfl (q := 100) ?_
        refine o_iload S rfl at_100 rfl (q := 102) ?_
        refine o_callV S (W := 0) (argsL := [(.int na)]) (rest := []) (a := b38) (o_wd (i := 47) hw rfl) (o_wd (i := 48) hw rfl) (o_wd (i := 50) hw rfl) (o_wd (i := 49) hw rfl) (o_wd (i := 3) hw rfl) (o_wd (i := 51) hw rfl) (o_nf (o_wd (i := 50) hw rfl)) (by decide) E_b38 (ct_7n l Z a0 hw b38 na Sz Sh (wmF Sh) b46 (List.replicate (nbF Sz Sh).toNatClampNeg .null) h44 n0 (o_n0 S) E_b38 F_size_b38 F_shift_b38 F_wordMask_b38 F_blocks_b38 A_b46 g_b46 ne_b38_b46 ⟨gna.1.1, by rw [hnbL]; exact gna.1.2⟩ own_rn gna.2.1 gna.2.2) (by decide) (by decide) rfl rfl pd_8 rfl (Nat.le_of_eq rfl) at_102 rfl (q := 105) (by decide) (by decide) (fun T h47 rr48 S hQ => ?_)
        obtain ⟨b49, g_b49, sz'_b49, hv, K1, A_b46', A_b49'⟩ := hQ
        subst hv
        have ne_b38_b49 : b38 ≠ b49 := Nat.ne_of_lt (Nat.lt_of_lt_of_le E_b38.lt sz'_b49)
        have ne_b40_b49 : b40 ≠ b49 := Nat.ne_of_lt (Nat.lt_of_lt_of_le E_b40.lt sz'_b49)
        have ne_b46_b49 : b46 ≠ b49 := Nat.ne_of_lt (Nat.lt_of_lt_of_le A_b46.lt sz'_b49)
        have E_b38 := E_b38.keep K1
        have F_size_b38 := F_size_b38.keep K1 (ninS ne_b38_b46 nin0)
        have F_shift_b38 := F_shift_b38.keep K1 (ninS ne_b38_b46 nin0)
        have F_wordMask_b38 := F_wordMask_b38.keep K1 (ninS ne_b38_b46 nin0)
        have F_blocks_b38 := F_blocks_b38.keep K1 (ninS ne_b38_b46 nin0)
        have E_b40 := E_b40.keep K1
        have F_size_b40 := F_size_b40.keep K1 (ninS ne_b40_b46 nin0)
        have F_shift_b40 := F_shift_b40.keep K1 (ninS ne_b40_b46 nin0)
        have A_b46 := A_b46'
        have A_b49 := A_b49'
        show Wp p e below (Po s n0 room_1 Q0) T (mkF m 105 #[.val (.int p0), .val (.int p1), .val (.int p2), .val (.int p3), .val (.int p4), .val (.int p5), .val (.int Sz), .val (.int Sh), .val (.int na), .val (.int nb), .val (.int nq), .val (.int (1 : Int32)), .val (.int (1 : Int32)), .val (.ref b38), .unset, .unset] [])
        have hat0 : ((List.replicate (nbF Sz Sh).toNatClampNeg .null).set ((na.toUInt32 >>> (Sh &&& 31).toUInt32).toInt32).toNatClampNeg (.ref b49) : List Value).getD ((na.toUInt32 >>> (Sh &&& 31).toUInt32).toInt32).toNatClampNeg .null = .ref b49 := own_sg gna.1.1 (by rw [hnbL]; exact gna.1.2)
        have hot : ∀ i : Int32, 0 ≤ i.toInt → ¬ i = ((na.toUInt32 >>> (Sh &&& 31).toUInt32).toInt32) → ((List.replicate (nbF Sz Sh).toNatClampNeg .null).set ((na.toUInt32 >>> (Sh &&& 31).toUInt32).toInt32).toNatClampNeg (.ref b49) : List Value).getD i.toNatClampNeg .null = .null := fun i h1 h2 => (own_so gna.1.1 h1 h2).trans own_rn
        have hvl : (((List.replicate (nbF Sz Sh).toNatClampNeg .null).set ((na.toUInt32 >>> (Sh &&& 31).toUInt32).toInt32).toNatClampNeg (.ref b49) : List Value).length : Int) = (nbF Sz Sh).toInt := by rw [List.length_set]; exact hnbL
        have hwl0 : ((((List.replicate (f_wn ((na.toUInt32 >>> (Sh &&& 31).toUInt32).toInt32) Sz Sh (wmF Sh)).toNatClampNeg 0) : List Int64).set (((na.toUInt32 >>> ((6 : Int32) &&& 31).toUInt32).toInt32) &&& (wmF Sh)).toNatClampNeg ((((List.replicate (f_wn ((na.toUInt32 >>> (Sh &&& 31).toUInt32).toInt32) Sz Sh (wmF Sh)).toNatClampNeg 0) : List Int64).getD (((na.toUInt32 >>> ((6 : Int32) &&& 31).toUInt32).toInt32) &&& (wmF Sh)).toNatClampNeg 0) ||| ((1 : Int64) <<< (na &&& 0x3f).toInt64)) : List Int64).length : Int) = (f_wn ((na.toUInt32 >>> (Sh &&& 31).toUInt32).toInt32) Sz Sh (wmF Sh)).toInt := by rw [List.length_set, List.length_replicate]; exact (o_nat gna.2.1.1).2
        have R0 : Rep Sz Sh (wmF Sh) (((List.replicate (f_wn ((na.toUInt32 >>> (Sh &&& 31).toUInt32).toInt32) Sz Sh (wmF Sh)).toNatClampNeg 0) : List Int64).set (((na.toUInt32 >>> ((6 : Int32) &&& 31).toUInt32).toInt32) &&& (wmF Sh)).toNatClampNeg ((((List.replicate (f_wn ((na.toUInt32 >>> (Sh &&& 31).toUInt32).toInt32) Sz Sh (wmF Sh)).toNatClampNeg 0) : List Int64).getD (((na.toUInt32 >>> ((6 : Int32) &&& 31).toUInt32).toInt32) &&& (wmF Sh)).toNatClampNeg 0) ||| ((1 : Int64) <<< (na &&& 0x3f).toInt64))) ((na.toUInt32 >>> (Sh &&& 31).toUInt32).toInt32) (fun y => False ∨ y = na) := Rep.set hS Rep.zero rna.1 rfl (by rw [List.length_replicate]; have := (o_nat gna.2.2.1).2; have := (o_nat gna.2.1.1).2; have := gna.2.2.2; omega)
        obtain ⟨vs0, qv0⟩ : ∃ z : List Value, z = ((List.replicate (nbF Sz Sh).toNatClampNeg .null).set ((na.toUInt32 >>> (Sh &&& 31).toUInt32).toInt32).toNatClampNeg (.ref b49)) := ⟨_, rfl⟩
        obtain ⟨ws0, qw0⟩ : ∃ z, z = (((List.replicate (f_wn ((na.toUInt32 >>> (Sh &&& 31).toUInt32).toInt32) Sz Sh (wmF Sh)).toNatClampNeg 0) : List Int64).set (((na.toUInt32 >>> ((6 : Int32) &&& 31).toUInt32).toInt32) &&& (wmF Sh)).toNatClampNeg ((((List.replicate (f_wn ((na.toUInt32 >>> (Sh &&& 31).toUInt32).toInt32) Sz Sh (wmF Sh)).toNatClampNeg 0) : List Int64).getD (((na.toUInt32 >>> ((6 : Int32) &&& 31).toUInt32).toInt32) &&& (wmF Sh)).toNatClampNeg 0) ||| ((1 : Int64) <<< (na &&& 0x3f).toInt64))) := ⟨_, rfl⟩
        rw [← qv0] at A_b46 hat0 hot hvl
        rw [← qw0] at A_b49 hwl0 R0
        refine o_iload S rfl at_105 rfl (q := 107) ?_
        refine o_if S at_107 (by decide) (q' := 117) (by decide) (q := 110) rfl hs_eq.1 hs_eq.2 (fun hc107 => ?_) (fun hc107 => ?_)
        · exact absurd hc107 (by decide)
        · skip
          by_cases hab : ((nb.toUInt32 >>> (Sh &&& 31).toUInt32).toInt32) = ((na.toUInt32 >>> (Sh &&& 31).toUInt32).toInt32)
          · skip
            refine o_aload S rfl rfl at_110 rfl (q := 112) ?_
            refine o_iload S rfl at_112 rfl (q := 114) ?_
            refine o_callV S (W := 0) (argsL := [(.int nb)]) (rest := []) (a := b38) (o_wd (i := 47) hw rfl) (o_wd (i := 48) hw rfl) (o_wd (i := 50) hw rfl) (o_wd (i := 49) hw rfl) (o_wd (i := 3) hw rfl) (o_wd (i := 51) hw rfl) (o_nf (o_wd (i := 50) hw rfl)) (by decide) E_b38 (ct_7e l Z a0 hw b38 nb Sh (wmF Sh) b46 vs0 ws0 b49 h47 n0 (o_n0 S) E_b38 F_shift_b38 F_wordMask_b38 F_blocks_b38 A_b46 A_b49 g_b49 ne_b38_b49 ne_b46_b49 ⟨gnb.1.1, by rw [hvl]; exact gnb.1.2⟩ (by rw [hab]; exact hat0) ⟨gnb.2.2.1, by have q := gnb.2.2.2; rw [hab] at q; rw [hwl0]; exact q⟩) (by decide) (by decide) rfl rfl pd_8 rfl (Nat.le_of_eq rfl) at_114 rfl (q := 117) (by decide) (by decide) (fun T h50 rr51 S hQ => ?_)
            obtain ⟨hv, K1, A_b49'⟩ := hQ
            subst hv
            have E_b38 := E_b38.keep K1
            have F_size_b38 := F_size_b38.keep K1 (ninS ne_b38_b49 nin0)
            have F_shift_b38 := F_shift_b38.keep K1 (ninS ne_b38_b49 nin0)
            have F_wordMask_b38 := F_wordMask_b38.keep K1 (ninS ne_b38_b49 nin0)
            have F_blocks_b38 := F_blocks_b38.keep K1 (ninS ne_b38_b49 nin0)
            have E_b40 := E_b40.keep K1
            have F_size_b40 := F_size_b40.keep K1 (ninS ne_b40_b49 nin0)
            have F_shift_b40 := F_shift_b40.keep K1 (ninS ne_b40_b49 nin0)
            have A_b46 := A_b46.keep K1 (ninS ne_b46_b49 nin0)
            have A_b49 := A_b49'
            show Wp p e below (Po s n0 room_1 Q0) T (mkF m 117 #[.val (.int p0), .val (.int p1), .val (.int p2), .val (.int p3), .val (.int p4), .val (.int p5), .val (.int Sz), .val (.int Sh), .val (.int na), .val (.int nb), .val (.int nq), .val (.int (1 : Int32)), .val (.int (1 : Int32)), .val (.ref b38), .unset, .unset] [])
            have R0 : Rep Sz Sh (wmF Sh) (ws0.set (((nb.toUInt32 >>> ((6 : Int32) &&& 31).toUInt32).toInt32) &&& (wmF Sh)).toNatClampNeg ((ws0.getD (((nb.toUInt32 >>> ((6 : Int32) &&& 31).toUInt32).toInt32) &&& (wmF Sh)).toNatClampNeg 0) ||| ((1 : Int64) <<< (nb &&& 0x3f).toInt64))) ((na.toUInt32 >>> (Sh &&& 31).toUInt32).toInt32) (fun y => (False ∨ y = na) ∨ y = nb) := Rep.set hS R0 rnb.1 hab (by have := (o_nat gnb.2.2.1).2; have q := gnb.2.2.2; rw [hab] at q; omega)
            have hwl0 : ((ws0.set (((nb.toUInt32 >>> ((6 : Int32) &&& 31).toUInt32).toInt32) &&& (wmF Sh)).toNatClampNeg ((ws0.getD (((nb.toUInt32 >>> ((6 : Int32) &&& 31).toUInt32).toInt32) &&& (wmF Sh)).toNatClampNeg 0) ||| ((1 : Int64) <<< (nb &&& 0x3f).toInt64)) : List Int64).length : Int) = (f_wn ((na.toUInt32 >>> (Sh &&& 31).toUInt32).toInt32) Sz Sh (wmF Sh)).toInt := by rw [List.length_set]; exact hwl0
            obtain ⟨ws9, qw9⟩ : ∃ z, z = (ws0.set (((nb.toUInt32 >>> ((6 : Int32) &&& 31).toUInt32).toInt32) &&& (wmF Sh)).toNatClampNeg ((ws0.getD (((nb.toUInt32 >>> ((6 : Int32) &&& 31).toUInt32).toInt32) &&& (wmF Sh)).toNatClampNeg 0) ||| ((1 : Int64) <<< (nb &&& 0x3f).toInt64))) := ⟨_, rfl⟩
            rw [← qw9] at A_b49 hwl0 R0
            refine o_iload S rfl at_117 rfl (q := 119) ?_
            refine o_if S at_119 (by decide) (q' := 129) (by decide) (q := 122) rfl hs_eq.1 hs_eq.2 (fun hc119 => ?_) (fun hc119 => ?_)
            · exact absurd hc119 (by decide)
            · skip
              refine o_iload S rfl at_122 rfl (q := 124) ?_
              refine o_iload S rfl at_124 rfl (q := 126) ?_
              refine o_cutS S (G := fun T => ∀ (v52 : Int32), v52 = (if nq = na then (1 : Int32) else (if (1 : Int32) = (0 : Int32) then (0 : Int32) else (if ¬ nq = nb then (0 : Int32) else (1 : Int32)))) → Wp p e below (Po s n0 room_1 Q0) T (mkF m 146 #[.val (.int p0), .val (.int p1), .val (.int p2), .val (.int p3), .val (.int p4), .val (.int p5), .val (.int Sz), .val (.int Sh), .val (.int na), .val (.int nb), .val (.int nq), .val (.int (1 : Int32)), .val (.int (1 : Int32)), .val (.ref b38), .unset, .unset] [(.int v52)])) (fun k126 => ?_) (fun T S v52 hv52 => ?_)
              · skip
                refine o_icmp S at_126 (by decide) (q' := 141) (by decide) (q := 129) rfl hs_eq.1 hs_eq.2 (fun hc126 => ?_) (fun hc126 => ?_)
                · skip
                  refine o_iconst S (z := 1) rfl at_141 rfl (q := 142) ?_
                  refine o_goto S at_142 (by decide) (q := 146) (by decide) ?_
                  exact k126 _ S _ (by rw [if_pos hc126])
                · skip
                  refine o_iload S rfl at_129 rfl (q := 131) ?_
                  refine o_if S at_131 (by decide) (q' := 145) (by decide) (q := 134) rfl hs_eq.1 hs_eq.2 (fun hc131 => ?_) (fun hc131 => ?_)
                  · skip
                    refine o_iconst S (z := 0) rfl at_145 rfl (q := 146) ?_
                    exact k126 _ S _ (by rw [if_neg hc126, if_pos hc131])
                  · skip
                    refine o_iload S rfl at_134 rfl (q := 136) ?_
                    refine o_iload S rfl at_136 rfl (q := 138) ?_
                    refine o_icmp S at_138 (by decide) (q' := 145) (by decide) (q := 141) rfl hs_ne.1 hs_ne.2 (fun hc138 => ?_) (fun hc138 => ?_)
                    · skip
                      refine o_iconst S (z := 0) rfl at_145 rfl (q := 146) ?_
                      exact k126 _ S _ (by rw [if_neg hc126, if_neg hc131, if_pos hc138])
                    · skip
                      refine o_iconst S (z := 1) rfl at_141 rfl (q := 142) ?_
                      refine o_goto S at_142 (by decide) (q := 146) (by decide) ?_
                      exact k126 _ S _ (by rw [if_neg hc126, if_neg hc131, if_neg hc138])
              refine o_istore S (L' := #[.val (.int p0), .val (.int p1), .val (.int p2), .val (.int p3), .val (.int p4), .val (.int p5), .val (.int Sz), .val (.int Sh), .val (.int na), .val (.int nb), .val (.int nq), .val (.int (1 : Int32)), .val (.int (1 : Int32)), .val (.ref b38), .val (.int v52), .unset]) rfl at_146 rfl (q := 148) ?_
              by_cases hq0 : ((nq.toUInt32 >>> (Sh &&& 31).toUInt32).toInt32) = ((na.toUInt32 >>> (Sh &&& 31).toUInt32).toInt32)
              · skip
                refine o_aload S rfl rfl at_148 rfl (q := 150) ?_
                refine o_iload S rfl at_150 rfl (q := 152) ?_
                refine o_callV0 S (W := 0) (argsL := [(.int nq)]) (rest := []) (a := b38) (o_wd (i := 66) hw rfl) (o_wd (i := 67) hw rfl) (o_wd (i := 69) hw rfl) (o_wd (i := 68) hw rfl) (o_wd (i := 3) hw rfl) (o_wd (i := 70) hw rfl) (o_nf (o_wd (i := 69) hw rfl)) (by decide) E_b38 (ct_11e l Z a0 hw b38 nq Sh (wmF Sh) b46 vs0 ws9 b49 h50 n0 (o_n0 S) E_b38 F_shift_b38 F_wordMask_b38 F_blocks_b38 A_b46 A_b49 ⟨gnq.1.1, by rw [hvl]; exact gnq.1.2⟩ (by rw [hq0]; exact hat0) ⟨gnq.2.2.1, by have q := gnq.2.2.2; rw [hq0] at q; rw [hwl0]; exact q⟩) (by decide) (by decide) rfl rfl pd_7 rfl (Nat.le_of_eq rfl) at_152 rfl (q := 155) (by decide) (by decide) rfl (st' := [(.int (f_con nq Sh (wmF Sh) vs0 ws9))]) (fun T S => ?_)
                refine o_iload S rfl at_155 rfl (q := 157) ?_
                refine o_icmp S at_157 (by decide) (q' := 164) (by decide) (q := 160) rfl hs_ne.1 hs_ne.2 (fun hc157 => ?_) (fun hc157 => ?_)
                · exact absurd (own_he (fun h => (Rep.con1 R0 rnq.1 rnq.2 hq0 (h.elim (fun h => Or.inl (Or.inr h)) (fun h => Or.inr h)))) (fun h => (Rep.con0 R0 rnq.1 rnq.2 hq0 (fun q => h (q.elim (fun q => Or.inl (q.elim False.elim id)) Or.inr)))) (ex_11 hv52)) hc157
                · skip
                  refine o_iconst S (z := 1) rfl at_160 rfl (q := 161) ?_
                  refine o_goto S at_161 (by decide) (q := 165) (by decide) ?_
                  refine o_istore S (L' := #[.val (.int p0), .val (.int p1), .val (.int p2), .val (.int p3), .val (.int p4), .val (.int p5), .val (.int Sz), .val (.int Sh), .val (.int na), .val (.int nb), .val (.int nq), .val (.int (1 : Int32)), .val (.int (1 : Int32)), .val (.ref b38), .val (.int v52), .val (.int (1 : Int32))]) rfl at_165 rfl (q := 167) ?_
                  refine o_iload S rfl at_167 rfl (q := 169) ?_
                  refine o_if S at_169 (by decide) (q' := 194) (by decide) (q := 172) rfl hs_eq.1 hs_eq.2 (fun hc169 => ?_) (fun hc169 => ?_)
                  · exact absurd hc169 (by decide)
                  · skip
                    refine o_iload S rfl at_172 rfl (q := 174) ?_
                    refine o_if S at_174 (by decide) (q' := 191) (by decide) (q := 177) rfl hs_eq.1 hs_eq.2 (fun hc174 => ?_) (fun hc174 => ?_)
                    · exact absurd hc174 (by decide)
                    · skip
                      refine o_aload S rfl rfl at_177 rfl (q := 179) ?_
                      refine o_iload S rfl at_179 rfl (q := 181) ?_
                      refine o_callV0 S (W := 0) (argsL := [(.int na)]) (rest := []) (a := b38) (o_wd (i := 66) hw rfl) (o_wd (i := 67) hw rfl) (o_wd (i := 69) hw rfl) (o_wd (i := 68) hw rfl) (o_wd (i := 3) hw rfl) (o_wd (i := 70) hw rfl) (o_nf (o_wd (i := 69) hw rfl)) (by decide) E_b38 (ct_11e l Z a0 hw b38 na Sh (wmF Sh) b46 vs0 ws9 b49 h50 n0 (o_n0 S) E_b38 F_shift_b38 F_wordMask_b38 F_blocks_b38 A_b46 A_b49 ⟨gna.1.1, by rw [hvl]; exact gna.1.2⟩ hat0 ⟨gna.2.2.1, by rw [hwl0]; exact gna.2.2.2⟩) (by decide) (by decide) rfl rfl pd_7 rfl (Nat.le_of_eq rfl) at_181 rfl (q := 184) (by decide) (by decide) rfl (st' := [(.int (f_con na Sh (wmF Sh) vs0 ws9))]) (fun T S => ?_)
                      refine o_if S at_184 (by decide) (q' := 191) (by decide) (q := 187) rfl hs_eq.1 hs_eq.2 (fun hc184 => ?_) (fun hc184 => ?_)
                      · exact absurd (hc184.symm.trans (Rep.con1 R0 rna.1 rna.2 rfl (Or.inl (Or.inr rfl)))) (by decide)
                      · skip
                        refine o_iconst S (z := 1) rfl at_187 rfl (q := 188) ?_
                        refine o_goto S at_188 (by decide) (q := 192) (by decide) ?_
                        refine o_istore S (L' := #[.val (.int p0), .val (.int p1), .val (.int p2), .val (.int p3), .val (.int p4), .val (.int p5), .val (.int Sz), .val (.int Sh), .val (.int na), .val (.int nb), .val (.int nq), .val (.int (1 : Int32)), .val (.int (1 : Int32)), .val (.ref b38), .val (.int v52), .val (.int (1 : Int32))]) rfl at_192 rfl (q := 194) ?_
                        refine o_iload S rfl at_194 rfl (q := 196) ?_
                        refine o_if S at_196 (by decide) (q' := 221) (by decide) (q := 199) rfl hs_eq.1 hs_eq.2 (fun hc196 => ?_) (fun hc196 => ?_)
                        · exact absurd hc196 (by decide)
                        · skip
                          refine o_iload S rfl at_199 rfl (q := 201) ?_
                          refine o_if S at_201 (by decide) (q' := 218) (by decide) (q := 204) rfl hs_eq.1 hs_eq.2 (fun hc201 => ?_) (fun hc201 => ?_)
                          · exact absurd hc201 (by decide)
                          · skip
                            refine o_aload S rfl rfl at_204 rfl (q := 206) ?_
                            refine o_iload S rfl at_206 rfl (q := 208) ?_
                            refine o_callV0 S (W := 0) (argsL := [(.int nb)]) (rest := []) (a := b38) (o_wd (i := 66) hw rfl) (o_wd (i := 67) hw rfl) (o_wd (i := 69) hw rfl) (o_wd (i := 68) hw rfl) (o_wd (i := 3) hw rfl) (o_wd (i := 70) hw rfl) (o_nf (o_wd (i := 69) hw rfl)) (by decide) E_b38 (ct_11e l Z a0 hw b38 nb Sh (wmF Sh) b46 vs0 ws9 b49 h50 n0 (o_n0 S) E_b38 F_shift_b38 F_wordMask_b38 F_blocks_b38 A_b46 A_b49 ⟨gnb.1.1, by rw [hvl]; exact gnb.1.2⟩ (by rw [hab]; exact hat0) ⟨gnb.2.2.1, by have q := gnb.2.2.2; rw [hab] at q; rw [hwl0]; exact q⟩) (by decide) (by decide) rfl rfl pd_7 rfl (Nat.le_of_eq rfl) at_208 rfl (q := 211) (by decide) (by decide) rfl (st' := [(.int (f_con nb Sh (wmF Sh) vs0 ws9))]) (fun T S => ?_)
                            refine o_if S at_211 (by decide) (q' := 218) (by decide) (q := 214) rfl hs_eq.1 hs_eq.2 (fun hc211 => ?_) (fun hc211 => ?_)
                            · exact absurd (hc211.symm.trans (Rep.con1 R0 rnb.1 rnb.2 hab (Or.inr rfl))) (by decide)
                            · skip
                              refine o_iconst S (z := 1) rfl at_214 rfl (q := 215) ?_
                              refine o_goto S at_215 (by decide) (q := 219) (by decide) ?_
                              refine o_istore S (L' := #[.val (.int p0), .val (.int p1), .val (.int p2), .val (.int p3), .val (.int p4), .val (.int p5), .val (.int Sz), .val (.int Sh), .val (.int na), .val (.int nb), .val (.int nq), .val (.int (1 : Int32)), .val (.int (1 : Int32)), .val (.ref b38), .val (.int v52), .val (.int (1 : Int32))]) rfl at_219 rfl (q := 221) ?_
                              refine o_iload S rfl at_221 rfl (q := 223) ?_
                              refine o_retN S (t := .boolean) rfl (by simp) at_223 (by decide) (by decide) rfl ?_
                              rfl
              · skip
                refine o_aload S rfl rfl at_148 rfl (q := 150) ?_
                refine o_iload S rfl at_150 rfl (q := 152) ?_
                refine o_callV0 S (W := 0) (argsL := [(.int nq)]) (rest := []) (a := b38) (o_wd (i := 66) hw rfl) (o_wd (i := 67) hw rfl) (o_wd (i := 69) hw rfl) (o_wd (i := 68) hw rfl) (o_wd (i := 3) hw rfl) (o_wd (i := 70) hw rfl) (o_nf (o_wd (i := 69) hw rfl)) (by decide) E_b38 (ct_11n l Z a0 hw b38 nq Sh b46 vs0 h50 n0 (o_n0 S) E_b38 F_shift_b38 F_blocks_b38 A_b46 ⟨gnq.1.1, by rw [hvl]; exact gnq.1.2⟩ (hot _ gnq.1.1 hq0)) (by decide) (by decide) rfl rfl pd_7 rfl (Nat.le_of_eq rfl) at_152 rfl (q := 155) (by decide) (by decide) rfl (st' := [(.int (0 : Int32))]) (fun T S => ?_)
                refine o_iload S rfl at_155 rfl (q := 157) ?_
                refine o_icmp S at_157 (by decide) (q' := 164) (by decide) (q := 160) rfl hs_ne.1 hs_ne.2 (fun hc157 => ?_) (fun hc157 => ?_)
                · exact absurd (own_he (fun h => h.elim (fun h => absurd h (fun h => hq0 (by rw [h]))) (fun h => absurd h (fun h => hq0 (by rw [h]; exact hab)))) (fun _ => rfl) (ex_11 hv52)) hc157
                · skip
                  refine o_iconst S (z := 1) rfl at_160 rfl (q := 161) ?_
                  refine o_goto S at_161 (by decide) (q := 165) (by decide) ?_
                  refine o_istore S (L' := #[.val (.int p0), .val (.int p1), .val (.int p2), .val (.int p3), .val (.int p4), .val (.int p5), .val (.int Sz), .val (.int Sh), .val (.int na), .val (.int nb), .val (.int nq), .val (.int (1 : Int32)), .val (.int (1 : Int32)), .val (.ref b38), .val (.int v52), .val (.int (1 : Int32))]) rfl at_165 rfl (q := 167) ?_
                  refine o_iload S rfl at_167 rfl (q := 169) ?_
                  refine o_if S at_169 (by decide) (q' := 194) (by decide) (q := 172) rfl hs_eq.1 hs_eq.2 (fun hc169 => ?_) (fun hc169 => ?_)
                  · exact absurd hc169 (by decide)
                  · skip
                    refine o_iload S rfl at_172 rfl (q := 174) ?_
                    refine o_if S at_174 (by decide) (q' := 191) (by decide) (q := 177) rfl hs_eq.1 hs_eq.2 (fun hc174 => ?_) (fun hc174 => ?_)
                    · exact absurd hc174 (by decide)
                    · skip
                      refine o_aload S rfl rfl at_177 rfl (q := 179) ?_
                      refine o_iload S rfl at_179 rfl (q := 181) ?_
                      refine o_callV0 S (W := 0) (argsL := [(.int na)]) (rest := []) (a := b38) (o_wd (i := 66) hw rfl) (o_wd (i := 67) hw rfl) (o_wd (i := 69) hw rfl) (o_wd (i := 68) hw rfl) (o_wd (i := 3) hw rfl) (o_wd (i := 70) hw rfl) (o_nf (o_wd (i := 69) hw rfl)) (by decide) E_b38 (ct_11e l Z a0 hw b38 na Sh (wmF Sh) b46 vs0 ws9 b49 h50 n0 (o_n0 S) E_b38 F_shift_b38 F_wordMask_b38 F_blocks_b38 A_b46 A_b49 ⟨gna.1.1, by rw [hvl]; exact gna.1.2⟩ hat0 ⟨gna.2.2.1, by rw [hwl0]; exact gna.2.2.2⟩) (by decide) (by decide) rfl rfl pd_7 rfl (Nat.le_of_eq rfl) at_181 rfl (q := 184) (by decide) (by decide) rfl (st' := [(.int (f_con na Sh (wmF Sh) vs0 ws9))]) (fun T S => ?_)
                      refine o_if S at_184 (by decide) (q' := 191) (by decide) (q := 187) rfl hs_eq.1 hs_eq.2 (fun hc184 => ?_) (fun hc184 => ?_)
                      · exact absurd (hc184.symm.trans (Rep.con1 R0 rna.1 rna.2 rfl (Or.inl (Or.inr rfl)))) (by decide)
                      · skip
                        refine o_iconst S (z := 1) rfl at_187 rfl (q := 188) ?_
                        refine o_goto S at_188 (by decide) (q := 192) (by decide) ?_
                        refine o_istore S (L' := #[.val (.int p0), .val (.int p1), .val (.int p2), .val (.int p3), .val (.int p4), .val (.int p5), .val (.int Sz), .val (.int Sh), .val (.int na), .val (.int nb), .val (.int nq), .val (.int (1 : Int32)), .val (.int (1 : Int32)), .val (.ref b38), .val (.int v52), .val (.int (1 : Int32))]) rfl at_192 rfl (q := 194) ?_
                        refine o_iload S rfl at_194 rfl (q := 196) ?_
                        refine o_if S at_196 (by decide) (q' := 221) (by decide) (q := 199) rfl hs_eq.1 hs_eq.2 (fun hc196 => ?_) (fun hc196 => ?_)
                        · exact absurd hc196 (by decide)
                        · skip
                          refine o_iload S rfl at_199 rfl (q := 201) ?_
                          refine o_if S at_201 (by decide) (q' := 218) (by decide) (q := 204) rfl hs_eq.1 hs_eq.2 (fun hc201 => ?_) (fun hc201 => ?_)
                          · exact absurd hc201 (by decide)
                          · skip
                            refine o_aload S rfl rfl at_204 rfl (q := 206) ?_
                            refine o_iload S rfl at_206 rfl (q := 208) ?_
                            refine o_callV0 S (W := 0) (argsL := [(.int nb)]) (rest := []) (a := b38) (o_wd (i := 66) hw rfl) (o_wd (i := 67) hw rfl) (o_wd (i := 69) hw rfl) (o_wd (i := 68) hw rfl) (o_wd (i := 3) hw rfl) (o_wd (i := 70) hw rfl) (o_nf (o_wd (i := 69) hw rfl)) (by decide) E_b38 (ct_11e l Z a0 hw b38 nb Sh (wmF Sh) b46 vs0 ws9 b49 h50 n0 (o_n0 S) E_b38 F_shift_b38 F_wordMask_b38 F_blocks_b38 A_b46 A_b49 ⟨gnb.1.1, by rw [hvl]; exact gnb.1.2⟩ (by rw [hab]; exact hat0) ⟨gnb.2.2.1, by have q := gnb.2.2.2; rw [hab] at q; rw [hwl0]; exact q⟩) (by decide) (by decide) rfl rfl pd_7 rfl (Nat.le_of_eq rfl) at_208 rfl (q := 211) (by decide) (by decide) rfl (st' := [(.int (f_con nb Sh (wmF Sh) vs0 ws9))]) (fun T S => ?_)
                            refine o_if S at_211 (by decide) (q' := 218) (by decide) (q := 214) rfl hs_eq.1 hs_eq.2 (fun hc211 => ?_) (fun hc211 => ?_)
                            · exact absurd (hc211.symm.trans (Rep.con1 R0 rnb.1 rnb.2 hab (Or.inr rfl))) (by decide)
                            · skip
                              refine o_iconst S (z := 1) rfl at_214 rfl (q := 215) ?_
                              refine o_goto S at_215 (by decide) (q := 219) (by decide) ?_
                              refine o_istore S (L' := #[.val (.int p0), .val (.int p1), .val (.int p2), .val (.int p3), .val (.int p4), .val (.int p5), .val (.int Sz), .val (.int Sh), .val (.int na), .val (.int nb), .val (.int nq), .val (.int (1 : Int32)), .val (.int (1 : Int32)), .val (.ref b38), .val (.int v52), .val (.int (1 : Int32))]) rfl at_219 rfl (q := 221) ?_
                              refine o_iload S rfl at_221 rfl (q := 223) ?_
                              refine o_retN S (t := .boolean) rfl (by simp) at_223 (by decide) (by decide) rfl ?_
                              rfl
          · skip
            refine o_aload S rfl rfl at_110 rfl (q := 112) ?_
            refine o_iload S rfl at_112 rfl (q := 114) ?_
            refine o_callV S (W := 0) (argsL := [(.int nb)]) (rest := []) (a := b38) (o_wd (i := 47) hw rfl) (o_wd (i := 48) hw rfl) (o_wd (i := 50) hw rfl) (o_wd (i := 49) hw rfl) (o_wd (i := 3) hw rfl) (o_wd (i := 51) hw rfl) (o_nf (o_wd (i := 50) hw rfl)) (by decide) E_b38 (ct_7n l Z a0 hw b38 nb Sz Sh (wmF Sh) b46 vs0 h47 n0 (o_n0 S) E_b38 F_size_b38 F_shift_b38 F_wordMask_b38 F_blocks_b38 A_b46 g_b46 ne_b38_b46 ⟨gnb.1.1, by rw [hvl]; exact gnb.1.2⟩ (hot ((nb.toUInt32 >>> (Sh &&& 31).toUInt32).toInt32) gnb.1.1 hab) gnb.2.1 gnb.2.2) (by decide) (by decide) rfl rfl pd_8 rfl (Nat.le_of_eq rfl) at_114 rfl (q := 117) (by decide) (by decide) (fun T h53 rr54 S hQ => ?_)
            obtain ⟨b55, g_b55, sz'_b55, hv, K1, A_b46', A_b55'⟩ := hQ
            subst hv
            have ne_b38_b55 : b38 ≠ b55 := Nat.ne_of_lt (Nat.lt_of_lt_of_le E_b38.lt sz'_b55)
            have ne_b40_b55 : b40 ≠ b55 := Nat.ne_of_lt (Nat.lt_of_lt_of_le E_b40.lt sz'_b55)
            have ne_b46_b55 : b46 ≠ b55 := Nat.ne_of_lt (Nat.lt_of_lt_of_le A_b46.lt sz'_b55)
            have ne_b49_b55 : b49 ≠ b55 := Nat.ne_of_lt (Nat.lt_of_lt_of_le A_b49.lt sz'_b55)
            have E_b38 := E_b38.keep K1
            have F_size_b38 := F_size_b38.keep K1 (ninS ne_b38_b46 nin0)
            have F_shift_b38 := F_shift_b38.keep K1 (ninS ne_b38_b46 nin0)
            have F_wordMask_b38 := F_wordMask_b38.keep K1 (ninS ne_b38_b46 nin0)
            have F_blocks_b38 := F_blocks_b38.keep K1 (ninS ne_b38_b46 nin0)
            have E_b40 := E_b40.keep K1
            have F_size_b40 := F_size_b40.keep K1 (ninS ne_b40_b46 nin0)
            have F_shift_b40 := F_shift_b40.keep K1 (ninS ne_b40_b46 nin0)
            have A_b49 := A_b49.keep K1 (ninS (Ne.symm ne_b46_b49) nin0)
            have A_b46 := A_b46'
            have A_b55 := A_b55'
            show Wp p e below (Po s n0 room_1 Q0) T (mkF m 117 #[.val (.int p0), .val (.int p1), .val (.int p2), .val (.int p3), .val (.int p4), .val (.int p5), .val (.int Sz), .val (.int Sh), .val (.int na), .val (.int nb), .val (.int nq), .val (.int (1 : Int32)), .val (.int (1 : Int32)), .val (.ref b38), .unset, .unset] [])
            have hat1 : (vs0.set ((nb.toUInt32 >>> (Sh &&& 31).toUInt32).toInt32).toNatClampNeg (.ref b55) : List Value).getD ((nb.toUInt32 >>> (Sh &&& 31).toUInt32).toInt32).toNatClampNeg .null = .ref b55 := own_sg gnb.1.1 (by rw [hvl]; exact gnb.1.2)
            have hat0 : (vs0.set ((nb.toUInt32 >>> (Sh &&& 31).toUInt32).toInt32).toNatClampNeg (.ref b55) : List Value).getD ((na.toUInt32 >>> (Sh &&& 31).toUInt32).toInt32).toNatClampNeg .null = .ref b49 := (own_so gnb.1.1 gna.1.1 (fun q => hab q.symm)).trans hat0
            have hot : ∀ i : Int32, 0 ≤ i.toInt → ¬ i = ((na.toUInt32 >>> (Sh &&& 31).toUInt32).toInt32) → ¬ i = ((nb.toUInt32 >>> (Sh &&& 31).toUInt32).toInt32) → (vs0.set ((nb.toUInt32 >>> (Sh &&& 31).toUInt32).toInt32).toNatClampNeg (.ref b55) : List Value).getD i.toNatClampNeg .null = .null := fun i h1 h2 h3 => (own_so gnb.1.1 h1 h3).trans (hot i h1 h2)
            have hvl : ((vs0.set ((nb.toUInt32 >>> (Sh &&& 31).toUInt32).toInt32).toNatClampNeg (.ref b55) : List Value).length : Int) = (nbF Sz Sh).toInt := by rw [List.length_set]; exact hvl
            have hwl1 : ((((List.replicate (f_wn ((nb.toUInt32 >>> (Sh &&& 31).toUInt32).toInt32) Sz Sh (wmF Sh)).toNatClampNeg 0) : List Int64).set (((nb.toUInt32 >>> ((6 : Int32) &&& 31).toUInt32).toInt32) &&& (wmF Sh)).toNatClampNeg ((((List.replicate (f_wn ((nb.toUInt32 >>> (Sh &&& 31).toUInt32).toInt32) Sz Sh (wmF Sh)).toNatClampNeg 0) : List Int64).getD (((nb.toUInt32 >>> ((6 : Int32) &&& 31).toUInt32).toInt32) &&& (wmF Sh)).toNatClampNeg 0) ||| ((1 : Int64) <<< (nb &&& 0x3f).toInt64)) : List Int64).length : Int) = (f_wn ((nb.toUInt32 >>> (Sh &&& 31).toUInt32).toInt32) Sz Sh (wmF Sh)).toInt := by rw [List.length_set, List.length_replicate]; exact (o_nat gnb.2.1.1).2
            have R1 : Rep Sz Sh (wmF Sh) (((List.replicate (f_wn ((nb.toUInt32 >>> (Sh &&& 31).toUInt32).toInt32) Sz Sh (wmF Sh)).toNatClampNeg 0) : List Int64).set (((nb.toUInt32 >>> ((6 : Int32) &&& 31).toUInt32).toInt32) &&& (wmF Sh)).toNatClampNeg ((((List.replicate (f_wn ((nb.toUInt32 >>> (Sh &&& 31).toUInt32).toInt32) Sz Sh (wmF Sh)).toNatClampNeg 0) : List Int64).getD (((nb.toUInt32 >>> ((6 : Int32) &&& 31).toUInt32).toInt32) &&& (wmF Sh)).toNatClampNeg 0) ||| ((1 : Int64) <<< (nb &&& 0x3f).toInt64))) ((nb.toUInt32 >>> (Sh &&& 31).toUInt32).toInt32) (fun y => False ∨ y = nb) := Rep.set hS Rep.zero rnb.1 rfl (by rw [List.length_replicate]; have := (o_nat gnb.2.2.1).2; have := (o_nat gnb.2.1.1).2; have := gnb.2.2.2; omega)
            obtain ⟨vs1, qv1⟩ : ∃ z : List Value, z = (vs0.set ((nb.toUInt32 >>> (Sh &&& 31).toUInt32).toInt32).toNatClampNeg (.ref b55)) := ⟨_, rfl⟩
            obtain ⟨ws1, qw1⟩ : ∃ z, z = (((List.replicate (f_wn ((nb.toUInt32 >>> (Sh &&& 31).toUInt32).toInt32) Sz Sh (wmF Sh)).toNatClampNeg 0) : List Int64).set (((nb.toUInt32 >>> ((6 : Int32) &&& 31).toUInt32).toInt32) &&& (wmF Sh)).toNatClampNeg ((((List.replicate (f_wn ((nb.toUInt32 >>> (Sh &&& 31).toUInt32).toInt32) Sz Sh (wmF Sh)).toNatClampNeg 0) : List Int64).getD (((nb.toUInt32 >>> ((6 : Int32) &&& 31).toUInt32).toInt32) &&& (wmF Sh)).toNatClampNeg 0) ||| ((1 : Int64) <<< (nb &&& 0x3f).toInt64))) := ⟨_, rfl⟩
            rw [← qv1] at A_b46 hat1 hot hvl hat0
            rw [← qw1] at A_b55 hwl1 R1
            refine o_iload S rfl at_117 rfl (q := 119) ?_
            refine o_if S at_119 (by decide) (q' := 129) (by decide) (q := 122) rfl hs_eq.1 hs_eq.2 (fun hc119 => ?_) (fun hc119 => ?_)
            · exact absurd hc119 (by decide)
            · skip
              refine o_iload S rfl at_122 rfl (q := 124) ?_
              refine o_iload S rfl at_124 rfl (q := 126) ?_
              refine o_cutS S (G := fun T => ∀ (v56 : Int32), v56 = (if nq = na then (1 : Int32) else (if (1 : Int32) = (0 : Int32) then (0 : Int32) else (if ¬ nq = nb then (0 : Int32) else (1 : Int32)))) → Wp p e below (Po s n0 room_1 Q0) T (mkF m 146 #[.val (.int p0), .val (.int p1), .val (.int p2), .val (.int p3), .val (.int p4), .val (.int p5), .val (.int Sz), .val (.int Sh), .val (.int na), .val (.int nb), .val (.int nq), .val (.int (1 : Int32)), .val (.int (1 : Int32)), .val (.ref b38), .unset, .unset] [(.int v56)])) (fun k126 => ?_) (fun T S v56 hv56 => ?_)
              · skip
                refine o_icmp S at_126 (by decide) (q' := 141) (by decide) (q := 129) rfl hs_eq.1 hs_eq.2 (fun hc126 => ?_) (fun hc126 => ?_)
                · skip
                  refine o_iconst S (z := 1) rfl at_141 rfl (q := 142) ?_
                  refine o_goto S at_142 (by decide) (q := 146) (by decide) ?_
                  exact k126 _ S _ (by rw [if_pos hc126])
                · skip
                  refine o_iload S rfl at_129 rfl (q := 131) ?_
                  refine o_if S at_131 (by decide) (q' := 145) (by decide) (q := 134) rfl hs_eq.1 hs_eq.2 (fun hc131 => ?_) (fun hc131 => ?_)
                  · skip
                    refine o_iconst S (z := 0) rfl at_145 rfl (q := 146) ?_
                    exact k126 _ S _ (by rw [if_neg hc126, if_pos hc131])
                  · skip
                    refine o_iload S rfl at_134 rfl (q := 136) ?_
                    refine o_iload S rfl at_136 rfl (q := 138) ?_
                    refine o_icmp S at_138 (by decide) (q' := 145) (by decide) (q := 141) rfl hs_ne.1 hs_ne.2 (fun hc138 => ?_) (fun hc138 => ?_)
                    · skip
                      refine o_iconst S (z := 0) rfl at_145 rfl (q := 146) ?_
                      exact k126 _ S _ (by rw [if_neg hc126, if_neg hc131, if_pos hc138])
                    · skip
                      refine o_iconst S (z := 1) rfl at_141 rfl (q := 142) ?_
                      refine o_goto S at_142 (by decide) (q := 146) (by decide) ?_
                      exact k126 _ S _ (by rw [if_neg hc126, if_neg hc131, if_neg hc138])
              refine o_istore S (L' := #[.val (.int p0), .val (.int p1), .val (.int p2), .val (.int p3), .val (.int p4), .val (.int p5), .val (.int Sz), .val (.int Sh), .val (.int na), .val (.int nb), .val (.int nq), .val (.int (1 : Int32)), .val (.int (1 : Int32)), .val (.ref b38), .val (.int v56), .unset]) rfl at_146 rfl (q := 148) ?_
              by_cases hq0 : ((nq.toUInt32 >>> (Sh &&& 31).toUInt32).toInt32) = ((na.toUInt32 >>> (Sh &&& 31).toUInt32).toInt32)
              · skip
                refine o_aload S rfl rfl at_148 rfl (q := 150) ?_
                refine o_iload S rfl at_150 rfl (q := 152) ?_
                refine o_callV0 S (W := 0) (argsL := [(.int nq)]) (rest := []) (a := b38) (o_wd (i := 66) hw rfl) (o_wd (i := 67) hw rfl) (o_wd (i := 69) hw rfl) (o_wd (i := 68) hw rfl) (o_wd (i := 3) hw rfl) (o_wd (i := 70) hw rfl) (o_nf (o_wd (i := 69) hw rfl)) (by decide) E_b38 (ct_11e l Z a0 hw b38 nq Sh (wmF Sh) b46 vs1 ws0 b49 h53 n0 (o_n0 S) E_b38 F_shift_b38 F_wordMask_b38 F_blocks_b38 A_b46 A_b49 ⟨gnq.1.1, by rw [hvl]; exact gnq.1.2⟩ (by rw [hq0]; exact hat0) ⟨gnq.2.2.1, by have q := gnq.2.2.2; rw [hq0] at q; rw [hwl0]; exact q⟩) (by decide) (by decide) rfl rfl pd_7 rfl (Nat.le_of_eq rfl) at_152 rfl (q := 155) (by decide) (by decide) rfl (st' := [(.int (f_con nq Sh (wmF Sh) vs1 ws0))]) (fun T S => ?_)
                refine o_iload S rfl at_155 rfl (q := 157) ?_
                refine o_icmp S at_157 (by decide) (q' := 164) (by decide) (q := 160) rfl hs_ne.1 hs_ne.2 (fun hc157 => ?_) (fun hc157 => ?_)
                · exact absurd (own_he (fun h => (Rep.con1 R0 rnq.1 rnq.2 hq0 (h.elim (fun h => Or.inr h) (fun h => absurd (by rw [← h]; exact hq0) hab)))) (fun h => (Rep.con0 R0 rnq.1 rnq.2 hq0 (fun q => h (Or.inl (q.elim False.elim id))))) (ex_11 hv56)) hc157
                · skip
                  refine o_iconst S (z := 1) rfl at_160 rfl (q := 161) ?_
                  refine o_goto S at_161 (by decide) (q := 165) (by decide) ?_
                  refine o_istore S (L' := #[.val (.int p0), .val (.int p1), .val (.int p2), .val (.int p3), .val (.int p4), .val (.int p5), .val (.int Sz), .val (.int Sh), .val (.int na), .val (.int nb), .val (.int nq), .val (.int (1 : Int32)), .val (.int (1 : Int32)), .val (.ref b38), .val (.int v56), .val (.int (1 : Int32))]) rfl at_165 rfl (q := 167) ?_
                  refine o_iload S rfl at_167 rfl (q := 169) ?_
                  refine o_if S at_169 (by decide) (q' := 194) (by decide) (q := 172) rfl hs_eq.1 hs_eq.2 (fun hc169 => ?_) (fun hc169 => ?_)
                  · exact absurd hc169 (by decide)
                  · skip
                    refine o_iload S rfl at_172 rfl (q := 174) ?_
                    refine o_if S at_174 (by decide) (q' := 191) (by decide) (q := 177) rfl hs_eq.1 hs_eq.2 (fun hc174 => ?_) (fun hc174 => ?_)
                    · exact absurd hc174 (by decide)
                    · skip
                      refine o_aload S rfl rfl at_177 rfl (q := 179) ?_
                      refine o_iload S rfl at_179 rfl (q := 181) ?_
                      refine o_callV0 S (W := 0) (argsL := [(.int na)]) (rest := []) (a := b38) (o_wd (i := 66) hw rfl) (o_wd (i := 67) hw rfl) (o_wd (i := 69) hw rfl) (o_wd (i := 68) hw rfl) (o_wd (i := 3) hw rfl) (o_wd (i := 70) hw rfl) (o_nf (o_wd (i := 69) hw rfl)) (by decide) E_b38 (ct_11e l Z a0 hw b38 na Sh (wmF Sh) b46 vs1 ws0 b49 h53 n0 (o_n0 S) E_b38 F_shift_b38 F_wordMask_b38 F_blocks_b38 A_b46 A_b49 ⟨gna.1.1, by rw [hvl]; exact gna.1.2⟩ hat0 ⟨gna.2.2.1, by rw [hwl0]; exact gna.2.2.2⟩) (by decide) (by decide) rfl rfl pd_7 rfl (Nat.le_of_eq rfl) at_181 rfl (q := 184) (by decide) (by decide) rfl (st' := [(.int (f_con na Sh (wmF Sh) vs1 ws0))]) (fun T S => ?_)
                      refine o_if S at_184 (by decide) (q' := 191) (by decide) (q := 187) rfl hs_eq.1 hs_eq.2 (fun hc184 => ?_) (fun hc184 => ?_)
                      · exact absurd (hc184.symm.trans (Rep.con1 R0 rna.1 rna.2 rfl (Or.inr rfl))) (by decide)
                      · skip
                        refine o_iconst S (z := 1) rfl at_187 rfl (q := 188) ?_
                        refine o_goto S at_188 (by decide) (q := 192) (by decide) ?_
                        refine o_istore S (L' := #[.val (.int p0), .val (.int p1), .val (.int p2), .val (.int p3), .val (.int p4), .val (.int p5), .val (.int Sz), .val (.int Sh), .val (.int na), .val (.int nb), .val (.int nq), .val (.int (1 : Int32)), .val (.int (1 : Int32)), .val (.ref b38), .val (.int v56), .val (.int (1 : Int32))]) rfl at_192 rfl (q := 194) ?_
                        refine o_iload S rfl at_194 rfl (q := 196) ?_
                        refine o_if S at_196 (by decide) (q' := 221) (by decide) (q := 199) rfl hs_eq.1 hs_eq.2 (fun hc196 => ?_) (fun hc196 => ?_)
                        · exact absurd hc196 (by decide)
                        · skip
                          refine o_iload S rfl at_199 rfl (q := 201) ?_
                          refine o_if S at_201 (by decide) (q' := 218) (by decide) (q := 204) rfl hs_eq.1 hs_eq.2 (fun hc201 => ?_) (fun hc201 => ?_)
                          · exact absurd hc201 (by decide)
                          · skip
                            refine o_aload S rfl rfl at_204 rfl (q := 206) ?_
                            refine o_iload S rfl at_206 rfl (q := 208) ?_
                            refine o_callV0 S (W := 0) (argsL := [(.int nb)]) (rest := []) (a := b38) (o_wd (i := 66) hw rfl) (o_wd (i := 67) hw rfl) (o_wd (i := 69) hw rfl) (o_wd (i := 68) hw rfl) (o_wd (i := 3) hw rfl) (o_wd (i := 70) hw rfl) (o_nf (o_wd (i := 69) hw rfl)) (by decide) E_b38 (ct_11e l Z a0 hw b38 nb Sh (wmF Sh) b46 vs1 ws1 b55 h53 n0 (o_n0 S) E_b38 F_shift_b38 F_wordMask_b38 F_blocks_b38 A_b46 A_b55 ⟨gnb.1.1, by rw [hvl]; exact gnb.1.2⟩ hat1 ⟨gnb.2.2.1, by rw [hwl1]; exact gnb.2.2.2⟩) (by decide) (by decide) rfl rfl pd_7 rfl (Nat.le_of_eq rfl) at_208 rfl (q := 211) (by decide) (by decide) rfl (st' := [(.int (f_con nb Sh (wmF Sh) vs1 ws1))]) (fun T S => ?_)
                            refine o_if S at_211 (by decide) (q' := 218) (by decide) (q := 214) rfl hs_eq.1 hs_eq.2 (fun hc211 => ?_) (fun hc211 => ?_)
                            · exact absurd (hc211.symm.trans (Rep.con1 R1 rnb.1 rnb.2 rfl (Or.inr rfl))) (by decide)
                            · skip
                              refine o_iconst S (z := 1) rfl at_214 rfl (q := 215) ?_
                              refine o_goto S at_215 (by decide) (q := 219) (by decide) ?_
                              refine o_istore S (L' := #[.val (.int p0), .val (.int p1), .val (.int p2), .val (.int p3), .val (.int p4), .val (.int p5), .val (.int Sz), .val (.int Sh), .val (.int na), .val (.int nb), .val (.int nq), .val (.int (1 : Int32)), .val (.int (1 : Int32)), .val (.ref b38), .val (.int v56), .val (.int (1 : Int32))]) rfl at_219 rfl (q := 221) ?_
                              refine o_iload S rfl at_221 rfl (q := 223) ?_
                              refine o_retN S (t := .boolean) rfl (by simp) at_223 (by decide) (by decide) rfl ?_
                              rfl
              · skip
                by_cases hq1 : ((nq.toUInt32 >>> (Sh &&& 31).toUInt32).toInt32) = ((nb.toUInt32 >>> (Sh &&& 31).toUInt32).toInt32)
                · skip
                  refine o_aload S rfl rfl at_148 rfl (q := 150) ?_
                  refine o_iload S rfl at_150 rfl (q := 152) ?_
                  refine o_callV0 S (W := 0) (argsL := [(.int nq)]) (rest := []) (a := b38) (o_wd (i := 66) hw rfl) (o_wd (i := 67) hw rfl) (o_wd (i := 69) hw rfl) (o_wd (i := 68) hw rfl) (o_wd (i := 3) hw rfl) (o_wd (i := 70) hw rfl) (o_nf (o_wd (i := 69) hw rfl)) (by decide) E_b38 (ct_11e l Z a0 hw b38 nq Sh (wmF Sh) b46 vs1 ws1 b55 h53 n0 (o_n0 S) E_b38 F_shift_b38 F_wordMask_b38 F_blocks_b38 A_b46 A_b55 ⟨gnq.1.1, by rw [hvl]; exact gnq.1.2⟩ (by rw [hq1]; exact hat1) ⟨gnq.2.2.1, by have q := gnq.2.2.2; rw [hq1] at q; rw [hwl1]; exact q⟩) (by decide) (by decide) rfl rfl pd_7 rfl (Nat.le_of_eq rfl) at_152 rfl (q := 155) (by decide) (by decide) rfl (st' := [(.int (f_con nq Sh (wmF Sh) vs1 ws1))]) (fun T S => ?_)
                  refine o_iload S rfl at_155 rfl (q := 157) ?_
                  refine o_icmp S at_157 (by decide) (q' := 164) (by decide) (q := 160) rfl hs_ne.1 hs_ne.2 (fun hc157 => ?_) (fun hc157 => ?_)
                  · exact absurd (own_he (fun h => (Rep.con1 R1 rnq.1 rnq.2 hq1 (h.elim (fun h => absurd (by rw [h]) hq0) (fun h => Or.inr h)))) (fun h => (Rep.con0 R1 rnq.1 rnq.2 hq1 (fun q => h (Or.inr (q.elim False.elim id))))) (ex_11 hv56)) hc157
                  · skip
                    refine o_iconst S (z := 1) rfl at_160 rfl (q := 161) ?_
                    refine o_goto S at_161 (by decide) (q := 165) (by decide) ?_
                    refine o_istore S (L' := #[.val (.int p0), .val (.int p1), .val (.int p2), .val (.int p3), .val (.int p4), .val (.int p5), .val (.int Sz), .val (.int Sh), .val (.int na), .val (.int nb), .val (.int nq), .val (.int (1 : Int32)), .val (.int (1 : Int32)), .val (.ref b38), .val (.int v56), .val (.int (1 : Int32))]) rfl at_165 rfl (q := 167) ?_
                    refine o_iload S rfl at_167 rfl (q := 169) ?_
                    refine o_if S at_169 (by decide) (q' := 194) (by decide) (q := 172) rfl hs_eq.1 hs_eq.2 (fun hc169 => ?_) (fun hc169 => ?_)
                    · exact absurd hc169 (by decide)
                    · skip
                      refine o_iload S rfl at_172 rfl (q := 174) ?_
                      refine o_if S at_174 (by decide) (q' := 191) (by decide) (q := 177) rfl hs_eq.1 hs_eq.2 (fun hc174 => ?_) (fun hc174 => ?_)
                      · exact absurd hc174 (by decide)
                      · skip
                        refine o_aload S rfl rfl at_177 rfl (q := 179) ?_
                        refine o_iload S rfl at_179 rfl (q := 181) ?_
                        refine o_callV0 S (W := 0) (argsL := [(.int na)]) (rest := []) (a := b38) (o_wd (i := 66) hw rfl) (o_wd (i := 67) hw rfl) (o_wd (i := 69) hw rfl) (o_wd (i := 68) hw rfl) (o_wd (i := 3) hw rfl) (o_wd (i := 70) hw rfl) (o_nf (o_wd (i := 69) hw rfl)) (by decide) E_b38 (ct_11e l Z a0 hw b38 na Sh (wmF Sh) b46 vs1 ws0 b49 h53 n0 (o_n0 S) E_b38 F_shift_b38 F_wordMask_b38 F_blocks_b38 A_b46 A_b49 ⟨gna.1.1, by rw [hvl]; exact gna.1.2⟩ hat0 ⟨gna.2.2.1, by rw [hwl0]; exact gna.2.2.2⟩) (by decide) (by decide) rfl rfl pd_7 rfl (Nat.le_of_eq rfl) at_181 rfl (q := 184) (by decide) (by decide) rfl (st' := [(.int (f_con na Sh (wmF Sh) vs1 ws0))]) (fun T S => ?_)
                        refine o_if S at_184 (by decide) (q' := 191) (by decide) (q := 187) rfl hs_eq.1 hs_eq.2 (fun hc184 => ?_) (fun hc184 => ?_)
                        · exact absurd (hc184.symm.trans (Rep.con1 R0 rna.1 rna.2 rfl (Or.inr rfl))) (by decide)
                        · skip
                          refine o_iconst S (z := 1) rfl at_187 rfl (q := 188) ?_
                          refine o_goto S at_188 (by decide) (q := 192) (by decide) ?_
                          refine o_istore S (L' := #[.val (.int p0), .val (.int p1), .val (.int p2), .val (.int p3), .val (.int p4), .val (.int p5), .val (.int Sz), .val (.int Sh), .val (.int na), .val (.int nb), .val (.int nq), .val (.int (1 : Int32)), .val (.int (1 : Int32)), .val (.ref b38), .val (.int v56), .val (.int (1 : Int32))]) rfl at_192 rfl (q := 194) ?_
                          refine o_iload S rfl at_194 rfl (q := 196) ?_
                          refine o_if S at_196 (by decide) (q' := 221) (by decide) (q := 199) rfl hs_eq.1 hs_eq.2 (fun hc196 => ?_) (fun hc196 => ?_)
                          · exact absurd hc196 (by decide)
                          · skip
                            refine o_iload S rfl at_199 rfl (q := 201) ?_
                            refine o_if S at_201 (by decide) (q' := 218) (by decide) (q := 204) rfl hs_eq.1 hs_eq.2 (fun hc201 => ?_) (fun hc201 => ?_)
                            · exact absurd hc201 (by decide)
                            · skip
                              refine o_aload S rfl rfl at_204 rfl (q := 206) ?_
                              refine o_iload S rfl at_206 rfl (q := 208) ?_
                              refine o_callV0 S (W := 0) (argsL := [(.int nb)]) (rest := []) (a := b38) (o_wd (i := 66) hw rfl) (o_wd (i := 67) hw rfl) (o_wd (i := 69) hw rfl) (o_wd (i := 68) hw rfl) (o_wd (i := 3) hw rfl) (o_wd (i := 70) hw rfl) (o_nf (o_wd (i := 69) hw rfl)) (by decide) E_b38 (ct_11e l Z a0 hw b38 nb Sh (wmF Sh) b46 vs1 ws1 b55 h53 n0 (o_n0 S) E_b38 F_shift_b38 F_wordMask_b38 F_blocks_b38 A_b46 A_b55 ⟨gnb.1.1, by rw [hvl]; exact gnb.1.2⟩ hat1 ⟨gnb.2.2.1, by rw [hwl1]; exact gnb.2.2.2⟩) (by decide) (by decide) rfl rfl pd_7 rfl (Nat.le_of_eq rfl) at_208 rfl (q := 211) (by decide) (by decide) rfl (st' := [(.int (f_con nb Sh (wmF Sh) vs1 ws1))]) (fun T S => ?_)
                              refine o_if S at_211 (by decide) (q' := 218) (by decide) (q := 214) rfl hs_eq.1 hs_eq.2 (fun hc211 => ?_) (fun hc211 => ?_)
                              · exact absurd (hc211.symm.trans (Rep.con1 R1 rnb.1 rnb.2 rfl (Or.inr rfl))) (by decide)
                              · skip
                                refine o_iconst S (z := 1) rfl at_214 rfl (q := 215) ?_
                                refine o_goto S at_215 (by decide) (q := 219) (by decide) ?_
                                refine o_istore S (L' := #[.val (.int p0), .val (.int p1), .val (.int p2), .val (.int p3), .val (.int p4), .val (.int p5), .val (.int Sz), .val (.int Sh), .val (.int na), .val (.int nb), .val (.int nq), .val (.int (1 : Int32)), .val (.int (1 : Int32)), .val (.ref b38), .val (.int v56), .val (.int (1 : Int32))]) rfl at_219 rfl (q := 221) ?_
                                refine o_iload S rfl at_221 rfl (q := 223) ?_
                                refine o_retN S (t := .boolean) rfl (by simp) at_223 (by decide) (by decide) rfl ?_
                                rfl
                · skip
                  refine o_aload S rfl rfl at_148 rfl (q := 150) ?_
                  refine o_iload S rfl at_150 rfl (q := 152) ?_
                  refine o_callV0 S (W := 0) (argsL := [(.int nq)]) (rest := []) (a := b38) (o_wd (i := 66) hw rfl) (o_wd (i := 67) hw rfl) (o_wd (i := 69) hw rfl) (o_wd (i := 68) hw rfl) (o_wd (i := 3) hw rfl) (o_wd (i := 70) hw rfl) (o_nf (o_wd (i := 69) hw rfl)) (by decide) E_b38 (ct_11n l Z a0 hw b38 nq Sh b46 vs1 h53 n0 (o_n0 S) E_b38 F_shift_b38 F_blocks_b38 A_b46 ⟨gnq.1.1, by rw [hvl]; exact gnq.1.2⟩ (hot _ gnq.1.1 hq0 hq1)) (by decide) (by decide) rfl rfl pd_7 rfl (Nat.le_of_eq rfl) at_152 rfl (q := 155) (by decide) (by decide) rfl (st' := [(.int (0 : Int32))]) (fun T S => ?_)
                  refine o_iload S rfl at_155 rfl (q := 157) ?_
                  refine o_icmp S at_157 (by decide) (q' := 164) (by decide) (q := 160) rfl hs_ne.1 hs_ne.2 (fun hc157 => ?_) (fun hc157 => ?_)
                  · exact absurd (own_he (fun h => h.elim (fun h => absurd h (fun h => hq0 (by rw [h]))) (fun h => absurd h (fun h => hq1 (by rw [h])))) (fun _ => rfl) (ex_11 hv56)) hc157
                  · skip
                    refine o_iconst S (z := 1) rfl at_160 rfl (q := 161) ?_
                    refine o_goto S at_161 (by decide) (q := 165) (by decide) ?_
                    refine o_istore S (L' := #[.val (.int p0), .val (.int p1), .val (.int p2), .val (.int p3), .val (.int p4), .val (.int p5), .val (.int Sz), .val (.int Sh), .val (.int na), .val (.int nb), .val (.int nq), .val (.int (1 : Int32)), .val (.int (1 : Int32)), .val (.ref b38), .val (.int v56), .val (.int (1 : Int32))]) rfl at_165 rfl (q := 167) ?_
                    refine o_iload S rfl at_167 rfl (q := 169) ?_
                    refine o_if S at_169 (by decide) (q' := 194) (by decide) (q := 172) rfl hs_eq.1 hs_eq.2 (fun hc169 => ?_) (fun hc169 => ?_)
                    · exact absurd hc169 (by decide)
                    · skip
                      refine o_iload S rfl at_172 rfl (q := 174) ?_
                      refine o_if S at_174 (by decide) (q' := 191) (by decide) (q := 177) rfl hs_eq.1 hs_eq.2 (fun hc174 => ?_) (fun hc174 => ?_)
                      · exact absurd hc174 (by decide)
                      · skip
                        refine o_aload S rfl rfl at_177 rfl (q := 179) ?_
                        refine o_iload S rfl at_179 rfl (q := 181) ?_
                        refine o_callV0 S (W := 0) (argsL := [(.int na)]) (rest := []) (a := b38) (o_wd (i := 66) hw rfl) (o_wd (i := 67) hw rfl) (o_wd (i := 69) hw rfl) (o_wd (i := 68) hw rfl) (o_wd (i := 3) hw rfl) (o_wd (i := 70) hw rfl) (o_nf (o_wd (i := 69) hw rfl)) (by decide) E_b38 (ct_11e l Z a0 hw b38 na Sh (wmF Sh) b46 vs1 ws0 b49 h53 n0 (o_n0 S) E_b38 F_shift_b38 F_wordMask_b38 F_blocks_b38 A_b46 A_b49 ⟨gna.1.1, by rw [hvl]; exact gna.1.2⟩ hat0 ⟨gna.2.2.1, by rw [hwl0]; exact gna.2.2.2⟩) (by decide) (by decide) rfl rfl pd_7 rfl (Nat.le_of_eq rfl) at_181 rfl (q := 184) (by decide) (by decide) rfl (st' := [(.int (f_con na Sh (wmF Sh) vs1 ws0))]) (fun T S => ?_)
                        refine o_if S at_184 (by decide) (q' := 191) (by decide) (q := 187) rfl hs_eq.1 hs_eq.2 (fun hc184 => ?_) (fun hc184 => ?_)
                        · exact absurd (hc184.symm.trans (Rep.con1 R0 rna.1 rna.2 rfl (Or.inr rfl))) (by decide)
                        · skip
                          refine o_iconst S (z := 1) rfl at_187 rfl (q := 188) ?_
                          refine o_goto S at_188 (by decide) (q := 192) (by decide) ?_
                          refine o_istore S (L' := #[.val (.int p0), .val (.int p1), .val (.int p2), .val (.int p3), .val (.int p4), .val (.int p5), .val (.int Sz), .val (.int Sh), .val (.int na), .val (.int nb), .val (.int nq), .val (.int (1 : Int32)), .val (.int (1 : Int32)), .val (.ref b38), .val (.int v56), .val (.int (1 : Int32))]) rfl at_192 rfl (q := 194) ?_
                          refine o_iload S rfl at_194 rfl (q := 196) ?_
                          refine o_if S at_196 (by decide) (q' := 221) (by decide) (q := 199) rfl hs_eq.1 hs_eq.2 (fun hc196 => ?_) (fun hc196 => ?_)
                          · exact absurd hc196 (by decide)
                          · skip
                            refine o_iload S rfl at_199 rfl (q := 201) ?_
                            refine o_if S at_201 (by decide) (q' := 218) (by decide) (q := 204) rfl hs_eq.1 hs_eq.2 (fun hc201 => ?_) (fun hc201 => ?_)
                            · exact absurd hc201 (by decide)
                            · skip
                              refine o_aload S rfl rfl at_204 rfl (q := 206) ?_
                              refine o_iload S rfl at_206 rfl (q := 208) ?_
                              refine o_callV0 S (W := 0) (argsL := [(.int nb)]) (rest := []) (a := b38) (o_wd (i := 66) hw rfl) (o_wd (i := 67) hw rfl) (o_wd (i := 69) hw rfl) (o_wd (i := 68) hw rfl) (o_wd (i := 3) hw rfl) (o_wd (i := 70) hw rfl) (o_nf (o_wd (i := 69) hw rfl)) (by decide) E_b38 (ct_11e l Z a0 hw b38 nb Sh (wmF Sh) b46 vs1 ws1 b55 h53 n0 (o_n0 S) E_b38 F_shift_b38 F_wordMask_b38 F_blocks_b38 A_b46 A_b55 ⟨gnb.1.1, by rw [hvl]; exact gnb.1.2⟩ hat1 ⟨gnb.2.2.1, by rw [hwl1]; exact gnb.2.2.2⟩) (by decide) (by decide) rfl rfl pd_7 rfl (Nat.le_of_eq rfl) at_208 rfl (q := 211) (by decide) (by decide) rfl (st' := [(.int (f_con nb Sh (wmF Sh) vs1 ws1))]) (fun T S => ?_)
                              refine o_if S at_211 (by decide) (q' := 218) (by decide) (q := 214) rfl hs_eq.1 hs_eq.2 (fun hc211 => ?_) (fun hc211 => ?_)
                              · exact absurd (hc211.symm.trans (Rep.con1 R1 rnb.1 rnb.2 rfl (Or.inr rfl))) (by decide)
                              · skip
                                refine o_iconst S (z := 1) rfl at_214 rfl (q := 215) ?_
                                refine o_goto S at_215 (by decide) (q := 219) (by decide) ?_
                                refine o_istore S (L' := #[.val (.int p0), .val (.int p1), .val (.int p2), .val (.int p3), .val (.int p4), .val (.int p5), .val (.int Sz), .val (.int Sh), .val (.int na), .val (.int nb), .val (.int nq), .val (.int (1 : Int32)), .val (.int (1 : Int32)), .val (.ref b38), .val (.int v56), .val (.int (1 : Int32))]) rfl at_219 rfl (q := 221) ?_
                                refine o_iload S rfl at_221 rfl (q := 223) ?_
                                refine o_retN S (t := .boolean) rfl (by simp) at_223 (by decide) (by decide) rfl ?_
                                rfl
set_option maxRecDepth 65536 in
set_option maxHeartbeats 40000000 in
theorem comes_1 {Post : Tables → Env → Array Value → State → Outcome → State → Prop} (hpost : ∀ tb e args s v u, (limb_1_1.after args s (.returned v) u = true ∧ limb_1_2.after args s (.returned v) u = true ∧ True) → FrameEnd s (.returned v) u (Jvm.fieldLocs frame_1_writes args s ++ Jvm.arrayLocs frame_1_arrays args s ++ Jvm.staticLocs frame_1_statics s) 24 256 → Post tb e args s (.returned v) u) :
    ArmFor flags0 classFile x code maxLocals ret World_1 tables_1 room_1 Calls_1 rest_1 Pre_1 Post := by
  intro l hfl _ _ p e ha hc hk s m args below hf hA hF happ hP
  obtain ⟨hcalls, hrest, hpre⟩ := hP
  obtain ⟨-, -, -, hnamed, -, -, -, hat⟩ := (Spec.applies_iff hf).mp happ
  obtain ⟨hg, hn⟩ := and_e (Cond.before_iff.mp (show (Jvm.Cond.and given_1 narrow_1).before args s = true from hpre))
  obtain ⟨g0, g⟩ := and_e hg
  obtain ⟨w0, w1, w2, w3, w4, w5, rfl⟩ : ∃ w0 w1 w2 w3 w4 w5 : Value, args = #[w0, w1, w2, w3, w4, w5] := by
    have hs : args.size = 6 := by simpa [Cond.value, given_1] using g0
    obtain ⟨L⟩ := args
    match L, hs with
    | [w0, w1, w2, w3, w4, w5], _ => exact ⟨w0, w1, w2, w3, w4, w5, rfl⟩
  have hw := fun d (hd : d ∈ tables_1) => atoms_spec (ws := Jvm.Cond.code x code maxLocals ret :: tables_1) hat d (List.mem_cons_of_mem _ hd)
  obtain ⟨g1, gr1⟩ := and_e g
  obtain ⟨i0, ei0⟩ := is_v g1
  obtain rfl : w0 = (.int i0) := Option.some.inj ei0
  obtain ⟨g2, gr2⟩ := and_e gr1
  obtain ⟨i1, ei1⟩ := is_v g2
  obtain rfl : w1 = (.int i1) := Option.some.inj ei1
  obtain ⟨g3, gr3⟩ := and_e gr2
  obtain ⟨i2, ei2⟩ := is_v g3
  obtain rfl : w2 = (.int i2) := Option.some.inj ei2
  obtain ⟨g4, gr4⟩ := and_e gr3
  obtain ⟨i3, ei3⟩ := is_v g4
  obtain rfl : w3 = (.int i3) := Option.some.inj ei3
  obtain ⟨g5, gr5⟩ := and_e gr4
  obtain ⟨i4, ei4⟩ := is_v g5
  obtain rfl : w4 = (.int i4) := Option.some.inj ei4
  obtain ⟨i5, ei5⟩ := is_v gr5
  obtain rfl : w5 = (.int i5) := Option.some.inj ei5
  obtain ⟨n, o, h1, h2, h3, _, L, rfl, ⟨rfl, N⟩, hq⟩ := ct_0 l s _ hw tables_1 i0 i1 i2 i3 i4 i5 s.heap s.heap.size (Nat.le_refl _) p e ha hc hk s m _ below hf ((Spec.applies_iff_loose hf).mp happ).1 ⟨rfl, State.Warmed39.refl s, rfl⟩ trivial
  refine ⟨n, _, h1, h2, h3, hpost _ _ _ _ _ _ ⟨Cond.after_iff.mpr rfl, Cond.after_iff.mpr (eq_i res_at (Term.int_eval (1)) rfl), trivial⟩ ⟨hq.1, hq.2.1, (hq.2.2.sift fun y hy => Or.inr (N y hy)).mono (by decide) (by decide)⟩⟩
theorem main_1_1 : Claimed_1_1 := comes_1 fun _ _ _ _ _ _ h hF => ⟨h.1, hF⟩
theorem main_1_2 : Claimed_1_2 := comes_1 fun _ _ _ _ _ _ h hF => ⟨h.2.1, hF⟩
end Jvm.Pilot.@@N@@
namespace Jvm.Pilot.@@N@@
open Jvm Jvm.ClassFile Sem Op Lib Jvm.Free Jvm.Stand Jvm.Pilot.@@N@@.Jvm.D
/-! MADE BY PROGRAM (witnessworld.py) out of the Statement's table words and the real class files: 13 classes; the members and pool entries that the words name. The judged class is class 1, her method 1. -/
namespace start1
open Jvm.ClassFile
def u (s : String) : CpInfo := .utf8 (stringToUtf16 s)
/-- a pool by its gaps: so many unusable entries, then the entry; so many at the end -/
def gap : Nat → List CpInfo → List CpInfo
  | 0, r => r
  | n + 1, r => .unusable :: gap n r
def poolList (es : List (Nat × CpInfo)) (last : Nat) : List CpInfo := es.foldr (fun e r => gap e.1 (e.2 :: r)) (gap last [])
def pool (es : List (Nat × CpInfo)) (last : Nat) : Array CpInfo := ⟨poolList es last⟩
def fileOf (pool : Array CpInfo) (this : Nat) (attrs : Array Attribute := #[]) (ms : Array MethodInfo := #[]) (fl : Nat := 33) (sup : Nat := 0) (ifs : Array Nat := #[]) (fds : Array FieldInfo := #[]) : ClassFile where
  minorVersion := 0
  majorVersion := 65
  constantPool := pool
  accessFlags := fl
  thisClass := this
  superClass := sup
  interfaces := ifs
  fields := fds
  methods := ms
  attributes := attrs
def plain (name : String) (sup : Option ClassId) : Class where
  name := name
  kind := .ordinary
  loader := none
  accessFlags := 33
  super := sup
  interfaces := #[]
  cf := none
  fields := #[]
  methods := #[]
  instanceTypes := #[]
  staticTypes := #[]
  resolved := #[]
  callSites := []
  init := .initialized
  statics := none
  mirror := none

def pool0 : Array CpInfo := pool [(5, u "<init>"), (0, u "()V"), (1, .class_ 10), (1, u "java/lang/Object")] 113

def k0c0 : Code := { maxStack := 0, maxLocals := 1, code := object_method_1_code, exceptionTable := #[], attributes := #[] }
def k0m0 : Method := { name := "<init>", desc := "()V", sig := { parameters := [], returnType := none }, accessFlags := 1, code := some k0c0 }
/-- java/lang/Object -/
def k0 : Class := { plain "java/lang/Object" none with
  accessFlags := 33
  interfaces := #[]
  cf := some (fileOf pool0 8 #[] #[{ accessFlags := 1, nameIndex := 5, descriptorIndex := 6, attributes := #[] }] 33 0 #[] #[])
  fields := #[]
  methods := #[k0m0]
  instanceTypes := #[]
  staticTypes := #[]
  resolved := Array.replicate 124 none
  statics := none }

def pool1 : Array CpInfo := pool [(2, .class_ 4), (1, u "java/lang/Object"), (0, u "<init>"), (0, u "()V"), (0, .integer 2147483647), (0, .class_ 9), (0, u "com/example/mince_trees/mincetrees/xpath/NodeSet"), (0, .class_ 11), (0, u "com/example/mince_trees/mincetrees/xpath/Chunks"), (0, .methodref 10 13), (0, .nameAndType 5 14), (0, u "(II)V"), (0, .methodref 8 16), (0, .nameAndType 5 17), (0, u "(Lcom/example/mince_trees/mincetrees/xpath/Chunks;)V"), (0, .methodref 8 19), (0, .nameAndType 20 21), (0, u "add"), (0, u "(I)V"), (0, .methodref 8 23), (0, .nameAndType 24 25), (0, u "contains"), (0, u "(I)Z"), (0, .class_ 27), (0, u "com/example/mince_trees/mincetrees/xpath/NodeSetContainsPinLaw"), (2, u "law"), (0, u "(IIIIII)Z")] 3

def k1m0 : Method := { name := "<init>", desc := "()V", sig := { parameters := [], returnType := none }, accessFlags := 1, code := none }
def k1c1 : Code := { maxStack := 6, maxLocals := 16, code := code, exceptionTable := #[], attributes := #[] }
def k1m1 : Method := { name := "law", desc := "(IIIIII)Z", sig := { parameters := [.int, .int, .int, .int, .int, .int], returnType := some .boolean }, accessFlags := 9, code := some k1c1 }
/-- com/example/mince_trees/mincetrees/xpath/NodeSetContainsPinLaw -/
def k1 : Class := { plain "com/example/mince_trees/mincetrees/xpath/NodeSetContainsPinLaw" (some 0) with
  accessFlags := 49
  interfaces := #[]
  cf := some (fileOf pool1 26 #[] #[{ accessFlags := 1, nameIndex := 5, descriptorIndex := 6, attributes := #[] }, { accessFlags := 9, nameIndex := 30, descriptorIndex := 31, attributes := #[] }] 49 2 #[] #[])
  fields := #[]
  methods := #[k1m0, k1m1]
  instanceTypes := #[]
  staticTypes := #[]
  resolved := Array.replicate 35 none
  statics := none }

def pool2 : Array CpInfo := pool [(2, .class_ 4), (1, u "com/example/mince_trees/mincetrees/xpath/Chunks"), (3, .class_ 10), (1, u "com/example/mince_trees/mincetrees/xpath/NodeSet"), (0, u "<init>"), (0, u "(Lcom/example/mince_trees/mincetrees/xpath/Chunks;)V"), (0, .methodref 14 15), (0, .class_ 16), (0, .nameAndType 11 17), (0, u "java/lang/Object"), (0, u "()V"), (0, .methodref 2 19), (0, .nameAndType 20 21), (0, u "size"), (0, u "()I"), (0, .fieldref 8 23), (0, .nameAndType 20 24), (0, u "I"), (0, .methodref 2 26), (0, .nameAndType 27 21), (0, u "shift"), (0, .fieldref 8 29), (0, .nameAndType 27 24), (0, .fieldref 8 31), (0, .nameAndType 32 24), (0, u "wordMask"), (0, .class_ 34), (0, u "[J"), (0, .fieldref 8 36), (0, .nameAndType 37 38), (0, u "blocks"), (0, u "[[J"), (0, .methodref 8 40), (0, .nameAndType 41 42), (0, u "block"), (0, u "(I)[J"), (10, .methodref 8 54), (0, .nameAndType 55 56), (0, u "wordsIn"), (0, u "(I)I"), (2, u "BLOCKS"), (0, u "Ljava/lang/invoke/VarHandle;"), (8, u "WORDS"), (5, .class_ 77), (1, u "java/lang/Math"), (0, u "min"), (7, .long 64), (7, .methodref 75 95), (0, .nameAndType 78 96), (0, u "(JJ)J"), (7, u "WORD_SHIFT"), (2, u "(I)V"), (2, u "contains"), (0, u "(I)Z"), (1, u "add")] 14

def k2c0 : Code := { maxStack := 6, maxLocals := 2, code := prog_139_method_2_code, exceptionTable := #[], attributes := #[] }
def k2m0 : Method := { name := "<init>", desc := "(Lcom/example/mince_trees/mincetrees/xpath/Chunks;)V", sig := { parameters := [(.object "com/example/mince_trees/mincetrees/xpath/Chunks")], returnType := none }, accessFlags := 0, code := some k2c0 }
def k2c1 : Code := { maxStack := 5, maxLocals := 3, code := prog_139_method_3_code, exceptionTable := #[], attributes := #[] }
def k2m1 : Method := { name := "contains", desc := "(I)Z", sig := { parameters := [.int], returnType := some .boolean }, accessFlags := 0, code := some k2c1 }
def k2c2 : Code := { maxStack := 7, maxLocals := 2, code := prog_139_method_4_code, exceptionTable := #[], attributes := #[] }
def k2m2 : Method := { name := "add", desc := "(I)V", sig := { parameters := [.int], returnType := none }, accessFlags := 0, code := some k2c2 }
def k2c3 : Code := { maxStack := 3, maxLocals := 3, code := prog_139_method_16_code, exceptionTable := #[], attributes := #[] }
def k2m3 : Method := { name := "block", desc := "(I)[J", sig := { parameters := [.int], returnType := some (.array .long) }, accessFlags := 2, code := some k2c3 }
def k2c4 : Code := { maxStack := 6, maxLocals := 4, code := prog_139_method_17_code, exceptionTable := #[], attributes := #[] }
def k2m4 : Method := { name := "wordsIn", desc := "(I)I", sig := { parameters := [.int], returnType := some .int }, accessFlags := 2, code := some k2c4 }
/-- com/example/mince_trees/mincetrees/xpath/NodeSet -/
def k2 : Class := { plain "com/example/mince_trees/mincetrees/xpath/NodeSet" (some 0) with
  accessFlags := 48
  interfaces := #[]
  cf := some (fileOf pool2 8 #[] #[{ accessFlags := 0, nameIndex := 11, descriptorIndex := 12, attributes := #[] }, { accessFlags := 0, nameIndex := 110, descriptorIndex := 111, attributes := #[] }, { accessFlags := 0, nameIndex := 113, descriptorIndex := 107, attributes := #[] }, { accessFlags := 2, nameIndex := 41, descriptorIndex := 42, attributes := #[] }, { accessFlags := 2, nameIndex := 55, descriptorIndex := 56, attributes := #[] }] 48 14 #[] #[{ accessFlags := 26, nameIndex := 59, descriptorIndex := 60, attributes := #[] }, { accessFlags := 26, nameIndex := 69, descriptorIndex := 60, attributes := #[] }, { accessFlags := 26, nameIndex := 104, descriptorIndex := 24, attributes := #[] }, { accessFlags := 18, nameIndex := 20, descriptorIndex := 24, attributes := #[] }, { accessFlags := 18, nameIndex := 27, descriptorIndex := 24, attributes := #[] }, { accessFlags := 18, nameIndex := 32, descriptorIndex := 24, attributes := #[] }, { accessFlags := 18, nameIndex := 37, descriptorIndex := 38, attributes := #[] }])
  fields := #[{ name := "BLOCKS", type := (.object "java/lang/invoke/VarHandle"), accessFlags := 26, slot := 0, constantValue := 0 }, { name := "WORDS", type := (.object "java/lang/invoke/VarHandle"), accessFlags := 26, slot := 1, constantValue := 0 }, { name := "WORD_SHIFT", type := .int, accessFlags := 26, slot := 2, constantValue := 0 }, { name := "size", type := .int, accessFlags := 18, slot := 0, constantValue := 0 }, { name := "shift", type := .int, accessFlags := 18, slot := 1, constantValue := 0 }, { name := "wordMask", type := .int, accessFlags := 18, slot := 2, constantValue := 0 }, { name := "blocks", type := (.array (.array .long)), accessFlags := 18, slot := 3, constantValue := 0 }]
  methods := #[k2m0, k2m1, k2m2, k2m3, k2m4]
  instanceTypes := #[.int, .int, .int, (.array (.array .long))]
  staticTypes := #[(.object "java/lang/invoke/VarHandle"), (.object "java/lang/invoke/VarHandle"), .int]
  resolved := Array.replicate 128 none
  statics := none }

def pool3 : Array CpInfo := pool [(1, .methodref 2 3), (0, .class_ 4), (0, .nameAndType 5 6), (0, u "java/lang/Object"), (0, u "<init>"), (0, u "()V"), (0, .fieldref 8 9), (0, .class_ 10), (0, .nameAndType 11 12), (0, u "com/example/mince_trees/mincetrees/xpath/Chunks"), (0, u "size"), (0, u "I"), (0, .fieldref 8 14), (0, .nameAndType 15 12), (0, u "shift"), (0, .methodref 17 18), (0, .class_ 19), (0, .nameAndType 20 21), (0, u "java/lang/Math"), (0, u "max"), (0, u "(II)I"), (0, .fieldref 8 23), (0, .nameAndType 24 12), (0, u "count"), (8, u "(II)V"), (4, u "FEWEST"), (7, u "()I")] 5

def k3c0 : Code := { maxStack := 7, maxLocals := 3, code := prog_133_method_1_code, exceptionTable := #[], attributes := #[] }
def k3m0 : Method := { name := "<init>", desc := "(II)V", sig := { parameters := [.int, .int], returnType := none }, accessFlags := 0, code := some k3c0 }
def k3c1 : Code := { maxStack := 1, maxLocals := 1, code := prog_133_method_3_code, exceptionTable := #[], attributes := #[] }
def k3m1 : Method := { name := "size", desc := "()I", sig := { parameters := [], returnType := some .int }, accessFlags := 0, code := some k3c1 }
def k3c2 : Code := { maxStack := 1, maxLocals := 1, code := prog_133_method_5_code, exceptionTable := #[], attributes := #[] }
def k3m2 : Method := { name := "shift", desc := "()I", sig := { parameters := [], returnType := some .int }, accessFlags := 0, code := some k3c2 }
/-- com/example/mince_trees/mincetrees/xpath/Chunks -/
def k3 : Class := { plain "com/example/mince_trees/mincetrees/xpath/Chunks" (some 0) with
  accessFlags := 48
  interfaces := #[]
  cf := some (fileOf pool3 8 #[] #[{ accessFlags := 0, nameIndex := 5, descriptorIndex := 33, attributes := #[] }, { accessFlags := 0, nameIndex := 11, descriptorIndex := 46, attributes := #[] }, { accessFlags := 0, nameIndex := 15, descriptorIndex := 46, attributes := #[] }] 48 2 #[] #[{ accessFlags := 24, nameIndex := 38, descriptorIndex := 12, attributes := #[] }, { accessFlags := 18, nameIndex := 11, descriptorIndex := 12, attributes := #[] }, { accessFlags := 18, nameIndex := 15, descriptorIndex := 12, attributes := #[] }, { accessFlags := 18, nameIndex := 24, descriptorIndex := 12, attributes := #[] }])
  fields := #[{ name := "FEWEST", type := .int, accessFlags := 24, slot := 0, constantValue := 0 }, { name := "size", type := .int, accessFlags := 18, slot := 0, constantValue := 0 }, { name := "shift", type := .int, accessFlags := 18, slot := 1, constantValue := 0 }, { name := "count", type := .int, accessFlags := 18, slot := 2, constantValue := 0 }]
  methods := #[k3m0, k3m1, k3m2]
  instanceTypes := #[.int, .int, .int]
  staticTypes := #[.int]
  resolved := Array.replicate 52 none
  statics := none }

def pool4 : Array CpInfo := pool [(1, .class_ 2), (0, u "java/lang/Math"), (1, .class_ 6), (1, u "java/lang/Object"), (0, u "<init>"), (0, u "()V"), (89, .class_ 100), (1, u "java/lang/Math$RandomNumberGeneratorHolder"), (20, u "(JJ)J"), (50, u "negativeZeroFloatBits"), (0, u "J"), (2, u "negativeZeroDoubleBits"), (21, u "max"), (2, u "min"), (43, u "$assertionsDisabled"), (0, u "Z"), (88, u "(II)I"), (2, u "twoToTheDoubleScaleDown"), (0, u "D"), (4, u "twoToTheDoubleScaleUp"), (9, u "E"), (3, u "PI"), (2, u "TAU"), (2, u "DEGREES_TO_RADIANS"), (0, u "RADIANS_TO_DEGREES")] 94

def k4m0 : Method := { name := "<init>", desc := "()V", sig := { parameters := [], returnType := none }, accessFlags := 2, code := none }
def k4c1 : Code := { maxStack := 2, maxLocals := 2, code := jdk_29_method_65_code, exceptionTable := #[], attributes := #[] }
def k4m1 : Method := { name := "max", desc := "(II)I", sig := { parameters := [.int, .int], returnType := some .int }, accessFlags := 9, code := some k4c1 }
def k4c2 : Code := { maxStack := 4, maxLocals := 4, code := jdk_29_method_70_code, exceptionTable := #[], attributes := #[] }
def k4m2 : Method := { name := "min", desc := "(JJ)J", sig := { parameters := [.long, .long], returnType := some .long }, accessFlags := 9, code := some k4c2 }
/-- java/lang/Math -/
def k4 : Class := { plain "java/lang/Math" (some 0) with
  accessFlags := 49
  interfaces := #[]
  cf := some (fileOf pool4 1 #[.nestMembers #[98]] #[{ accessFlags := 2, nameIndex := 7, descriptorIndex := 8, attributes := #[] }, { accessFlags := 9, nameIndex := 198, descriptorIndex := 335, attributes := #[] }, { accessFlags := 9, nameIndex := 201, descriptorIndex := 121, attributes := #[] }] 49 4 #[] #[{ accessFlags := 25, nameIndex := 354, descriptorIndex := 339, attributes := #[] }, { accessFlags := 25, nameIndex := 358, descriptorIndex := 339, attributes := #[] }, { accessFlags := 25, nameIndex := 361, descriptorIndex := 339, attributes := #[] }, { accessFlags := 26, nameIndex := 364, descriptorIndex := 339, attributes := #[] }, { accessFlags := 26, nameIndex := 365, descriptorIndex := 339, attributes := #[] }, { accessFlags := 26, nameIndex := 172, descriptorIndex := 173, attributes := #[] }, { accessFlags := 26, nameIndex := 176, descriptorIndex := 173, attributes := #[] }, { accessFlags := 8, nameIndex := 344, descriptorIndex := 339, attributes := #[] }, { accessFlags := 8, nameIndex := 338, descriptorIndex := 339, attributes := #[] }, { accessFlags := 4120, nameIndex := 245, descriptorIndex := 246, attributes := #[] }])
  fields := #[{ name := "E", type := .double, accessFlags := 25, slot := 0, constantValue := 0 }, { name := "PI", type := .double, accessFlags := 25, slot := 1, constantValue := 0 }, { name := "TAU", type := .double, accessFlags := 25, slot := 2, constantValue := 0 }, { name := "DEGREES_TO_RADIANS", type := .double, accessFlags := 26, slot := 3, constantValue := 0 }, { name := "RADIANS_TO_DEGREES", type := .double, accessFlags := 26, slot := 4, constantValue := 0 }, { name := "negativeZeroFloatBits", type := .long, accessFlags := 26, slot := 5, constantValue := 0 }, { name := "negativeZeroDoubleBits", type := .long, accessFlags := 26, slot := 6, constantValue := 0 }, { name := "twoToTheDoubleScaleUp", type := .double, accessFlags := 8, slot := 7, constantValue := 0 }, { name := "twoToTheDoubleScaleDown", type := .double, accessFlags := 8, slot := 8, constantValue := 0 }, { name := "$assertionsDisabled", type := .boolean, accessFlags := 4120, slot := 9, constantValue := 0 }]
  methods := #[k4m0, k4m1, k4m2]
  instanceTypes := #[]
  staticTypes := #[.double, .double, .double, .double, .double, .long, .long, .double, .double, .boolean]
  resolved := Array.replicate 460 none
  statics := none }

def pool5 : Array CpInfo := pool [(1, u "java/lang/Cloneable"), (0, .class_ 1), (0, u "java/lang/Object"), (0, .class_ 3)] 3

/-- java/lang/Cloneable -/
def k5 : Class := { plain "java/lang/Cloneable" (some 0) with
  accessFlags := 1537
  interfaces := #[]
  cf := some (fileOf pool5 2 #[] #[] 1537 4 #[] #[])
  fields := #[]
  methods := #[]
  instanceTypes := #[]
  staticTypes := #[]
  resolved := Array.replicate 8 none
  statics := none }

def pool6 : Array CpInfo := pool [(1, u "java/io/Serializable"), (0, .class_ 1), (0, u "java/lang/Object"), (0, .class_ 3)] 3

/-- java/io/Serializable -/
def k6 : Class := { plain "java/io/Serializable" (some 0) with
  accessFlags := 1537
  interfaces := #[]
  cf := some (fileOf pool6 2 #[] #[] 1537 4 #[] #[])
  fields := #[]
  methods := #[]
  instanceTypes := #[]
  staticTypes := #[]
  resolved := Array.replicate 8 none
  statics := none }

/-- the primitive byte -/
def k7 : Class := { plain "byte" none with kind := .primitive 'B', accessFlags := 0x411 }
/-- [B -/
def k8 : Class := { plain "[B" (some 0) with kind := .array 7 .byte, interfaces := #[5, 6], accessFlags := 1041 }

/-- the primitive int -/
def k9 : Class := { plain "int" none with kind := .primitive 'I', accessFlags := 0x411 }
/-- [I -/
def k10 : Class := { plain "[I" (some 0) with kind := .array 9 .int, interfaces := #[5, 6], accessFlags := 1041 }

/-- the primitive long -/
def k11 : Class := { plain "long" none with kind := .primitive 'J', accessFlags := 0x411 }
/-- [J -/
def k12 : Class := { plain "[J" (some 0) with kind := .array 11 .long, interfaces := #[5, 6], accessFlags := 1041 }

/-- [[J -/
def k13 : Class := { plain "[[J" (some 0) with kind := .array 12 (.array .long), interfaces := #[5, 6], accessFlags := 1041 }

def heap : Heap := #[]
def classes : Array Class := #[k0, k1, k2, k3, k4, k5, k6, k7, k8, k9, k10, k11, k12, k13]
def interned : List (Array UInt16 × Addr) := []
def slotsUsed : Nat := 0
def theMethod : MethodId := ⟨1, 1⟩
def args0 : Array Value := #[.int 5, .int 6, .int 7, .int 8, .int 9, .int 3]
def aboutOver (below : List Frame) : State where
  vm := { classes := classes, interned := interned.toArray }
  heap := heap
  slotsUsed := slotsUsed
  threads := #[{ frames := .invoking theMethod args0 :: below }]
def below0 : List Frame := [.native { method := ⟨0, 0⟩, args := #[] }]
def about1 : State := aboutOver below0
def p0 : Program := .bare "" "" ""
def e0 : Env := launch0.env 0 0 0
theorem w_frames : about1.frames = Frame.invoking theMethod args0 :: below0 := rfl
set_option maxRecDepth 65536 in
theorem w_args : argsFit about1.vm theMethod args0 = true := by decide +kernel
set_option maxRecDepth 65536 in
theorem w_heap : heapFits about1 = true := by decide +kernel
set_option maxRecDepth 65536 in
theorem w_runnable : about1.curStatus? = some .runnable := by decide +kernel
set_option maxRecDepth 65536 in
theorem w_alone : about1.alone = true := by decide +kernel
set_option maxRecDepth 65536 in
theorem w_named : about1.methodNamed? x = some theMethod := by decide +kernel
set_option maxRecDepth 65536 in
theorem w_hears : about1.hears theMethod below0 = true := by decide +kernel
set_option maxRecDepth 65536 in
theorem w_ripe : about1.ripe theMethod args0 below0 = true := by decide +kernel
theorem w_running : about1.status = .running := rfl
set_option maxRecDepth 65536 in
theorem w_room : about1.hasRoom e0.platform room_1 = true :=
  launch0.hasRoom_least _ room_1 (by decide +kernel) (by decide +kernel) (by decide +kernel) (by decide +kernel) (by decide +kernel) (by decide +kernel)
theorem allAtoms_all (ts : List Jvm.Cond) (a : Array Jvm.Value) (st : Jvm.State) : (allAtoms ts).before a st = ts.all (fun c => c.before a st) := by
  induction ts with
  | nil => rfl
  | cons c t ih =>
    show (Jvm.Cond.and c (allAtoms t)).before a st = _
    rw [Jvm.Cond.before_and, ih, List.all_cons]
def words1 : List Jvm.Cond := Jvm.Cond.code x code maxLocals ret :: tables_1
/-- a 'code' word, met by the world's own term for the bytes: nothing is compared byte by byte -/
theorem code_word {y : MethodName} {bytes : ByteArray} {mx : Nat} {rt : Option FieldType} {a : Array Value} {s : State} {m : MethodId} {meth : Method} {c : Code} (h1 : s.methodNamed? y = some m) (h2 : s.vm.method? m = some meth) (h3 : meth.code = some c) (h4 : c.code = bytes)
    (h5 : (c.maxLocals == mx && c.exceptionTable.isEmpty && decide (c.maxStack ≤ mostOperands) && decide (meth.sig.returnType = rt) && !meth.locks && decide (parseMethodDescriptor y.desc = some meth.sig)) = true) : (Jvm.Cond.code y bytes mx rt).before a s = true := by
  simp only [Bool.and_eq_true, beq_iff_eq, Bool.not_eq_true', decide_eq_true_eq] at h5
  obtain ⟨⟨⟨⟨⟨g1, g2⟩, g3⟩, g4⟩, g5⟩, g6⟩ := h5
  simp [Cond.before, Cond.holds, Cond.value, h1, h2, h3, h4, g1, g2, g3, g4, g5, g6]
def isCode : Jvm.Cond → Bool
  | .code _ _ _ _ => true
  | _ => false
theorem all_split {L : List Jvm.Cond} {P : Jvm.Cond → Bool} (h1 : L.all (fun c => isCode c || P c) = true) (h2 : ∀ c ∈ L.filter isCode, P c = true) : L.all P = true := by
  refine List.all_eq_true.mpr fun c hc => ?_
  have h := List.all_eq_true.mp h1 c hc
  rcases Bool.eq_false_or_eq_true (isCode c) with hi | hi
  · exact h2 c (List.mem_filter.mpr ⟨hc, hi⟩)
  · simpa [hi] using h
set_option maxRecDepth 65536 in
theorem w_c0 : (Jvm.Cond.code x code maxLocals ret).before args0 about1 = true := code_word (m := ⟨1, 1⟩) (meth := k1m1) (c := k1c1) (by decide +kernel) rfl rfl rfl (by decide +kernel)
set_option maxRecDepth 65536 in
theorem w_c1 : (Jvm.Cond.code ({ cls := "com/example/mince_trees/mincetrees/xpath/Chunks", name := "<init>", desc := "(II)V" } : Jvm.MethodName) prog_133_method_1_code (3 : Nat) (Option.none : Option Jvm.ClassFile.FieldType)).before args0 about1 = true := code_word (m := ⟨3, 0⟩) (meth := k3m0) (c := k3c0) (by decide +kernel) rfl rfl rfl (by decide +kernel)
set_option maxRecDepth 65536 in
theorem w_c2 : (Jvm.Cond.code ({ cls := "java/lang/Object", name := "<init>", desc := "()V" } : Jvm.MethodName) object_method_1_code (1 : Nat) (Option.none : Option Jvm.ClassFile.FieldType)).before args0 about1 = true := code_word (m := ⟨0, 0⟩) (meth := k0m0) (c := k0c0) (by decide +kernel) rfl rfl rfl (by decide +kernel)
set_option maxRecDepth 65536 in
theorem w_c3 : (Jvm.Cond.code ({ cls := "java/lang/Math", name := "max", desc := "(II)I" } : Jvm.MethodName) jdk_29_method_65_code (2 : Nat) (Option.some Jvm.ClassFile.FieldType.int)).before args0 about1 = true := code_word (m := ⟨4, 1⟩) (meth := k4m1) (c := k4c1) (by decide +kernel) rfl rfl rfl (by decide +kernel)
set_option maxRecDepth 65536 in
theorem w_c4 : (Jvm.Cond.code ({ cls := "com/example/mince_trees/mincetrees/xpath/NodeSet", name := "<init>", desc := "(Lcom/example/mince_trees/mincetrees/xpath/Chunks;)V" } : Jvm.MethodName) prog_139_method_2_code (2 : Nat) (Option.none : Option Jvm.ClassFile.FieldType)).before args0 about1 = true := code_word (m := ⟨2, 0⟩) (meth := k2m0) (c := k2c0) (by decide +kernel) rfl rfl rfl (by decide +kernel)
set_option maxRecDepth 65536 in
theorem w_c5 : (Jvm.Cond.code ({ cls := "com/example/mince_trees/mincetrees/xpath/Chunks", name := "size", desc := "()I" } : Jvm.MethodName) prog_133_method_3_code (1 : Nat) (Option.some Jvm.ClassFile.FieldType.int)).before args0 about1 = true := code_word (m := ⟨3, 1⟩) (meth := k3m1) (c := k3c1) (by decide +kernel) rfl rfl rfl (by decide +kernel)
set_option maxRecDepth 65536 in
theorem w_c6 : (Jvm.Cond.code ({ cls := "com/example/mince_trees/mincetrees/xpath/Chunks", name := "shift", desc := "()I" } : Jvm.MethodName) prog_133_method_5_code (1 : Nat) (Option.some Jvm.ClassFile.FieldType.int)).before args0 about1 = true := code_word (m := ⟨3, 2⟩) (meth := k3m2) (c := k3c2) (by decide +kernel) rfl rfl rfl (by decide +kernel)
set_option maxRecDepth 65536 in
theorem w_c7 : (Jvm.Cond.code ({ cls := "com/example/mince_trees/mincetrees/xpath/NodeSet", name := "add", desc := "(I)V" } : Jvm.MethodName) prog_139_method_4_code (2 : Nat) (Option.none : Option Jvm.ClassFile.FieldType)).before args0 about1 = true := code_word (m := ⟨2, 2⟩) (meth := k2m2) (c := k2c2) (by decide +kernel) rfl rfl rfl (by decide +kernel)
set_option maxRecDepth 65536 in
theorem w_c8 : (Jvm.Cond.code ({ cls := "com/example/mince_trees/mincetrees/xpath/NodeSet", name := "block", desc := "(I)[J" } : Jvm.MethodName) prog_139_method_16_code (3 : Nat) (Option.some (Jvm.ClassFile.FieldType.array Jvm.ClassFile.FieldType.long))).before args0 about1 = true := code_word (m := ⟨2, 3⟩) (meth := k2m3) (c := k2c3) (by decide +kernel) rfl rfl rfl (by decide +kernel)
set_option maxRecDepth 65536 in
theorem w_c9 : (Jvm.Cond.code ({ cls := "com/example/mince_trees/mincetrees/xpath/NodeSet", name := "wordsIn", desc := "(I)I" } : Jvm.MethodName) prog_139_method_17_code (4 : Nat) (Option.some Jvm.ClassFile.FieldType.int)).before args0 about1 = true := code_word (m := ⟨2, 4⟩) (meth := k2m4) (c := k2c4) (by decide +kernel) rfl rfl rfl (by decide +kernel)
set_option maxRecDepth 65536 in
theorem w_c10 : (Jvm.Cond.code ({ cls := "java/lang/Math", name := "min", desc := "(JJ)J" } : Jvm.MethodName) jdk_29_method_70_code (4 : Nat) (Option.some Jvm.ClassFile.FieldType.long)).before args0 about1 = true := code_word (m := ⟨4, 2⟩) (meth := k4m2) (c := k4c2) (by decide +kernel) rfl rfl rfl (by decide +kernel)
set_option maxRecDepth 65536 in
theorem w_c11 : (Jvm.Cond.code ({ cls := "com/example/mince_trees/mincetrees/xpath/NodeSet", name := "contains", desc := "(I)Z" } : Jvm.MethodName) prog_139_method_3_code (3 : Nat) (Option.some Jvm.ClassFile.FieldType.boolean)).before args0 about1 = true := code_word (m := ⟨2, 1⟩) (meth := k2m1) (c := k2c1) (by decide +kernel) rfl rfl rfl (by decide +kernel)
def codes1 : List Jvm.Cond := [Jvm.Cond.code x code maxLocals ret, Jvm.Cond.code ({ cls := "com/example/mince_trees/mincetrees/xpath/Chunks", name := "<init>", desc := "(II)V" } : Jvm.MethodName) prog_133_method_1_code (3 : Nat) (Option.none : Option Jvm.ClassFile.FieldType), Jvm.Cond.code ({ cls := "java/lang/Object", name := "<init>", desc := "()V" } : Jvm.MethodName) object_method_1_code (1 : Nat) (Option.none : Option Jvm.ClassFile.FieldType), Jvm.Cond.code ({ cls := "java/lang/Math", name := "max", desc := "(II)I" } : Jvm.MethodName) jdk_29_method_65_code (2 : Nat) (Option.some Jvm.ClassFile.FieldType.int), Jvm.Cond.code ({ cls := "com/example/mince_trees/mincetrees/xpath/NodeSet", name := "<init>", desc := "(Lcom/example/mince_trees/mincetrees/xpath/Chunks;)V" } : Jvm.MethodName) prog_139_method_2_code (2 : Nat) (Option.none : Option Jvm.ClassFile.FieldType), Jvm.Cond.code ({ cls := "com/example/mince_trees/mincetrees/xpath/Chunks", name := "size", desc := "()I" } : Jvm.MethodName) prog_133_method_3_code (1 : Nat) (Option.some Jvm.ClassFile.FieldType.int), Jvm.Cond.code ({ cls := "com/example/mince_trees/mincetrees/xpath/Chunks", name := "shift", desc := "()I" } : Jvm.MethodName) prog_133_method_5_code (1 : Nat) (Option.some Jvm.ClassFile.FieldType.int), Jvm.Cond.code ({ cls := "com/example/mince_trees/mincetrees/xpath/NodeSet", name := "add", desc := "(I)V" } : Jvm.MethodName) prog_139_method_4_code (2 : Nat) (Option.none : Option Jvm.ClassFile.FieldType), Jvm.Cond.code ({ cls := "com/example/mince_trees/mincetrees/xpath/NodeSet", name := "block", desc := "(I)[J" } : Jvm.MethodName) prog_139_method_16_code (3 : Nat) (Option.some (Jvm.ClassFile.FieldType.array Jvm.ClassFile.FieldType.long)), Jvm.Cond.code ({ cls := "com/example/mince_trees/mincetrees/xpath/NodeSet", name := "wordsIn", desc := "(I)I" } : Jvm.MethodName) prog_139_method_17_code (4 : Nat) (Option.some Jvm.ClassFile.FieldType.int), Jvm.Cond.code ({ cls := "java/lang/Math", name := "min", desc := "(JJ)J" } : Jvm.MethodName) jdk_29_method_70_code (4 : Nat) (Option.some Jvm.ClassFile.FieldType.long), Jvm.Cond.code ({ cls := "com/example/mince_trees/mincetrees/xpath/NodeSet", name := "contains", desc := "(I)Z" } : Jvm.MethodName) prog_139_method_3_code (3 : Nat) (Option.some Jvm.ClassFile.FieldType.boolean)]
set_option maxRecDepth 65536 in
theorem codes_eq : words1.filter isCode = codes1 := rfl
theorem w_codes : ∀ c ∈ words1.filter isCode, c.before args0 about1 = true := by
  rw [codes_eq]
  intro c hc
  simp only [codes1, List.mem_cons, List.not_mem_nil, or_false] at hc
  rcases hc with rfl | rfl | rfl | rfl | rfl | rfl | rfl | rfl | rfl | rfl | rfl | rfl
  · exact w_c0
  · exact w_c1
  · exact w_c2
  · exact w_c3
  · exact w_c4
  · exact w_c5
  · exact w_c6
  · exact w_c7
  · exact w_c8
  · exact w_c9
  · exact w_c10
  · exact w_c11
set_option maxRecDepth 65536 in
theorem w_t1 : (words1.take 24).all (fun c => isCode c || c.before args0 about1) = true := by decide +kernel
set_option maxRecDepth 65536 in
theorem w_t2 : ((words1.drop 24).take 24).all (fun c => isCode c || c.before args0 about1) = true := by decide +kernel
set_option maxRecDepth 65536 in
theorem w_t3 : ((words1.drop 24).drop 24).all (fun c => isCode c || c.before args0 about1) = true := by decide +kernel
theorem w_tables : (allAtoms (Jvm.Cond.code x code maxLocals ret :: tables_1)).before args0 about1 = true := by
  rw [allAtoms_all]
  show words1.all (fun c => c.before args0 about1) = true
  refine all_split ?_ w_codes
  rw [← List.take_append_drop 24 words1, List.all_append, w_t1, ← List.take_append_drop 24 (words1.drop 24), List.all_append, w_t2, w_t3]
  rfl
set_option maxRecDepth 65536 in
theorem w_case : (Jvm.Cond.and given_1 narrow_1).before args0 about1 = true := by decide +kernel
theorem w_applies : (headSpec (Jvm.Cond.code x code maxLocals ret :: tables_1) room_1).applies x e0.platform about1 = true :=
  (Spec.applies_iff w_frames).mpr ⟨w_running, w_runnable, w_alone, w_named, w_hears, w_ripe, w_room, w_tables⟩
theorem atStart : AtStart classFile x code maxLocals ret World_1 tables_1 room_1 Calls_1 rest_1 Pre_1 launch0 p0 e0 about1 theMethod args0 below0 :=
  ⟨lists_1, trivial, launch0.admits_env _ _ _, launch0.least_env, fairChoices_fair.cas, fairChoices_fair.clock, w_frames, w_args, w_heap, w_applies, trivial, trivial, w_case⟩
end start1
theorem witness_1 : WitnessClaimed_1 := ⟨start1.p0, start1.e0, start1.about1, start1.theMethod, start1.args0, start1.below0, start1.atStart⟩
end Jvm.Pilot.@@N@@
