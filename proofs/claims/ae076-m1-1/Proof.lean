import JvmDerived
import JvmDerived.Pilot.@@N@@Statement
import JvmDerived.Pilot.@@N@@Code
set_option linter.unusedVariables false
set_option linter.unusedSimpArgs false
namespace Jvm.Pilot.@@N@@
open Jvm Jvm.ClassFile Sem Op Lib Jvm.Free Jvm.Stand Jvm.LawKit Jvm.RoadKit Bundle Jvm.Pilot.@@N@@.Jvm.D
section OwnPre
/-- where the run stands, with all that stays true of the body -/
def St (p : Program) (l : Launch) (e : Env) (R : Room) (s : State) (m : MethodId) (args : Array Value) (below : List Frame) (meth : Method) (c : Code) (Z : State) (own : String) (bytes : ByteArray) (ml n0 : Nat) (ret : Option FieldType) (nm : String) (T : State) (h : Heap) (cells slots : Nat) : Prop :=
  ∃ locs, Stand p l e R s m args below meth c T locs cells slots ∧ Fr n0 locs ∧ T.heap = h ∧ p.tables.exec = Jvm.exec ∧ Z.Warmed39 s.vm ∧ s.vm.findClass own = some m.cls ∧ c.code = bytes ∧ c.maxLocals = ml ∧ meth.locks = false ∧ n0 ≤ s.heap.size ∧ meth.sig.returnType = ret ∧ meth.name = nm
def Wp (p : Program) (e : Env) (below : List Frame) (PO : Outcome → State → Prop) (T : State) (g : JFrame) : Prop := ∃ t o, Steps p.tables e below (T.setTop g) t ∧ t.status = .running ∧ Ended t below o ∧ PO o t
def Po (s : State) (n0 : Nat) (R : Room) (Q : Option Value → Heap → Prop) (o : Outcome) (t : State) : Prop := ∃ v L, o = .returned v ∧ (Q v t.heap ∧ Fr n0 L) ∧ FrameEnd s o t L R.cells R.slots
def Ct (l : Launch) (y : MethodName) (bytes : ByteArray) (ml : Nat) (ret : Option FieldType) (ws : List Jvm.Cond) (R : Room) (Z : State) (h0 : Heap) (n0 : Nat) (as : Array Value) (Q : Option Value → Heap → Prop) : Prop :=
  MetFree l y (head1 (Jvm.Cond.code y bytes ml ret :: ws) R) (fun a U => a = as ∧ Z.Warmed39 U.vm ∧ U.heap = h0) (fun _ _ _ _ _ => True) (fun _ U o U' => Po U n0 R Q o U')
variable {p : Program} {l : Launch} {e : Env} {R : Room} {s : State} {m : MethodId} {args : Array Value} {below : List Frame} {meth : Method} {c : Code} {Z : State} {own : String} {bytes : ByteArray} {ml n0 : Nat} {ret : Option FieldType} {nm : String} {T : State} {h : Heap} {cells slots : Nat} {PO : Outcome → State → Prop} {a0 : Array Value} {pc q : Nat} {L : Array Slot} {st : List Value}
theorem o_body {y : MethodName} {ws : List Jvm.Cond} {h0 : Heap} {as : Array Value} {Q : Option Value → Heap → Prop} {L0 : Array Slot} (hpl : plainFor y = true) (hn : n0 ≤ h0.size) (hef : ∀ m, entryFrame m as ml = mkF m 0 L0 [])
    (k : ∀ (p : Program) (e : Env) (s : State) (m : MethodId) (below : List Frame) (meth : Method) (c : Code) (T : State), St p l e R s m as below meth c Z y.cls bytes ml n0 ret y.name T h0 0 0 → Wp p e below (Po s n0 R Q) T (mkF m 0 L0 [])) :
    Ct l y bytes ml ret ws R Z h0 n0 as Q := by
  refine MetFree.of_bodySF hpl hisR ?_
  intro p e s m args below meth c s₁ Bd hml0 hP hK
  obtain ⟨rfl, hZ, hh⟩ := hP
  have X0 : Stand p l e R s m args below meth c s₁ [] 0 0 := Stand.of_body Bd
  have e0 : s₁.heap = h0 := by rw [← hh, Bd.state]; rfl
  obtain ⟨t, o, h1, h2, h3, h4⟩ := k p e s m below meth c s₁ ⟨[], X0, Fr.nil n0, e0, Bd.exec, hZ, findClass_of_methodNamed Bd.named, Bd.bytes, hml0, BodyLoose.notSynchronized Bd, (by rw [hh]; exact hn), Bd.returns, (name_of_methodNamed Bd.named Bd.method).1⟩
  exact ⟨t, o, castTop (hef m) h1, h2, h3, h4⟩
theorem o_st (S : St p l e R s m args below meth c Z own bytes ml n0 ret nm T h cells slots) {g g' : JFrame} (hs : ∀ t, At T m c below → p.tables.exec = Jvm.exec → c.code = bytes → Steps p.tables e below (T.setTop g') t → Steps p.tables e below (T.setTop g) t) (k : Wp p e below PO T g') : Wp p e below PO T g := by
  obtain ⟨locs, X, N, eT, hx, hZ, hown, hby, hml, hlk, hn, hrt, hnm⟩ := S
  obtain ⟨t, o, h1, h2⟩ := k
  exact ⟨t, o, hs t X.here hx hby h1, h2⟩
theorem o_to {T' : State} {g g' : JFrame} (hs : ∀ t, Steps p.tables e below (T'.setTop g') t → Steps p.tables e below (T.setTop g) t) (k : Wp p e below PO T' g') : Wp p e below PO T g := by
  obtain ⟨t, o, h1, h2⟩ := k
  exact ⟨t, o, hs t h1, h2⟩
theorem o_heap (S : St p l e R s m args below meth c Z own bytes ml n0 ret nm T h cells slots) : T.heap = h := by obtain ⟨locs, X, N, eT, -⟩ := S; exact eT
theorem o_n0 (S : St p l e R s m args below meth c Z own bytes ml n0 ret nm T h cells slots) : n0 ≤ h.size := by
  obtain ⟨locs, X, N, eT, hx, hZ, hown, hby, hml, hlk, hn, -⟩ := S
  have := X.same.2.1
  rw [← eT]; exact Nat.le_trans hn this
theorem o_wd {i : Nat} {d : Jvm.Cond} (hw : ∀ d ∈ tables_1, d.before a0 Z = true) (hi : tables_1[i]? = some d) : d.before a0 Z = true := hw _ (List.mem_of_getElem? hi)

theorem o_iloadN (S : St p l e R s m args below meth c Z own bytes ml n0 ret nm T h cells slots) {k : Fin 4} {v : Int32} (hl : L[k.val]? = some (.val (.int v))) (hd : decode bytes pc = .ok (.iload_n k, 1)) (hq : pc + 1 = q) (k : Wp p e below PO T (mkF m q L (.int v :: st))) : Wp p e below PO T (mkF m pc L (st)) := by
  subst hq
  exact o_st S (fun t X hx hy r => XS.iloadN X hx rfl (hb hy hd) hl r) k
theorem o_lloadN (S : St p l e R s m args below meth c Z own bytes ml n0 ret nm T h cells slots) {k : Fin 4} {v : Int64} (hl : L[k.val]? = some (.val (.long v))) (hd : decode bytes pc = .ok (.lload_n k, 1)) (hq : pc + 1 = q) (k : Wp p e below PO T (mkF m q L (.long v :: st))) : Wp p e below PO T (mkF m pc L (st)) := by
  subst hq
  exact o_st S (fun t X hx hy r => XS.lloadN X hx rfl (hb hy hd) hl r) k
theorem o_aloadN (S : St p l e R s m args below meth c Z own bytes ml n0 ret nm T h cells slots) {k : Fin 4} {v : Value} (hl : L[k.val]? = some (.val v)) (hv : v.isRef = true) (hd : decode bytes pc = .ok (.aload_n k, 1)) (hq : pc + 1 = q) (k : Wp p e below PO T (mkF m q L (v :: st))) : Wp p e below PO T (mkF m pc L (st)) := by
  subst hq
  exact o_st S (fun t X hx hy r => XS.aloadN X hx rfl (hb hy hd) hl hv r) k
theorem o_istoreN (S : St p l e R s m args below meth c Z own bytes ml n0 ret nm T h cells slots) {k : Fin 4} {x : Int32} {L' : Array Slot} (hl : storeLocals L k.val (.int x) = some L') (hd : decode bytes pc = .ok (.istore_n k, 1)) (hq : pc + 1 = q) (k : Wp p e below PO T (mkF m q L' (st))) : Wp p e below PO T (mkF m pc L (.int x :: st)) := by
  subst hq
  exact o_st S (fun t X hx hy r => XS.istoreN X hx rfl (hb hy hd) rfl hl r) k
theorem o_istoreVN (S : St p l e R s m args below meth c Z own bytes ml n0 ret nm T h cells slots) {k : Fin 4} {x : Int32} {L' : Int32 → Array Slot} (hl : ∀ v, storeLocals L k.val (.int v) = some (L' v)) (hd : decode bytes pc = .ok (.istore_n k, 1)) (hq : pc + 1 = q) (k : ∀ v, v = x → Wp p e below PO T (mkF m q (L' v) st)) : Wp p e below PO T (mkF m pc L (.int x :: st)) :=
  o_istoreN S (hl x) hd hq (k x rfl)
theorem o_lstoreN (S : St p l e R s m args below meth c Z own bytes ml n0 ret nm T h cells slots) {k : Fin 4} {x : Int64} {L' : Array Slot} (hl : storeLocals L k.val (.long x) = some L') (hd : decode bytes pc = .ok (.lstore_n k, 1)) (hq : pc + 1 = q) (k : Wp p e below PO T (mkF m q L' (st))) : Wp p e below PO T (mkF m pc L (.long x :: st)) := by
  subst hq
  exact o_st S (fun t X hx hy r => XS.lstoreN X hx rfl (hb hy hd) rfl hl r) k
theorem o_lstoreVN (S : St p l e R s m args below meth c Z own bytes ml n0 ret nm T h cells slots) {k : Fin 4} {x : Int64} {L' : Int64 → Array Slot} (hl : ∀ v, storeLocals L k.val (.long v) = some (L' v)) (hd : decode bytes pc = .ok (.lstore_n k, 1)) (hq : pc + 1 = q) (k : ∀ v, v = x → Wp p e below PO T (mkF m q (L' v) st)) : Wp p e below PO T (mkF m pc L (.long x :: st)) :=
  o_lstoreN S (hl x) hd hq (k x rfl)
theorem o_astoreN (S : St p l e R s m args below meth c Z own bytes ml n0 ret nm T h cells slots) {k : Fin 4} {x : Value} {L' : Array Slot} (hv : x.isRef = true) (hl : storeLocals L k.val x = some L') (hd : decode bytes pc = .ok (.astore_n k, 1)) (hq : pc + 1 = q) (k : Wp p e below PO T (mkF m q L' (st))) : Wp p e below PO T (mkF m pc L (x :: st)) := by
  subst hq
  exact o_st S (fun t X hx hy r => XS.astoreN X hx rfl (hb hy hd) rfl hv hl r) k
theorem o_iload (S : St p l e R s m args below meth c Z own bytes ml n0 ret nm T h cells slots) {k : Nat} {v : Int32} (hl : L[k]? = some (.val (.int v))) (hd : decode bytes pc = .ok (.iload k, 2)) (hq : pc + 2 = q) (k : Wp p e below PO T (mkF m q L (.int v :: st))) : Wp p e below PO T (mkF m pc L (st)) := by
  subst hq
  exact o_st S (fun t X hx hy r => XS.iload X hx rfl (hb hy hd) hl r) k
theorem o_lload (S : St p l e R s m args below meth c Z own bytes ml n0 ret nm T h cells slots) {k : Nat} {v : Int64} (hl : L[k]? = some (.val (.long v))) (hd : decode bytes pc = .ok (.lload k, 2)) (hq : pc + 2 = q) (k : Wp p e below PO T (mkF m q L (.long v :: st))) : Wp p e below PO T (mkF m pc L (st)) := by
  subst hq
  exact o_st S (fun t X hx hy r => XS.lload X hx rfl (hb hy hd) hl r) k
theorem o_aload (S : St p l e R s m args below meth c Z own bytes ml n0 ret nm T h cells slots) {k : Nat} {v : Value} (hl : L[k]? = some (.val v)) (hv : v.isRef = true) (hd : decode bytes pc = .ok (.aload k, 2)) (hq : pc + 2 = q) (k : Wp p e below PO T (mkF m q L (v :: st))) : Wp p e below PO T (mkF m pc L (st)) := by
  subst hq
  exact o_st S (fun t X hx hy r => XS.aload X hx rfl (hb hy hd) hl hv r) k
theorem o_istore (S : St p l e R s m args below meth c Z own bytes ml n0 ret nm T h cells slots) {k : Nat} {x : Int32} {L' : Array Slot} (hl : storeLocals L k (.int x) = some L') (hd : decode bytes pc = .ok (.istore k, 2)) (hq : pc + 2 = q) (k : Wp p e below PO T (mkF m q L' (st))) : Wp p e below PO T (mkF m pc L (.int x :: st)) := by
  subst hq
  exact o_st S (fun t X hx hy r => XS.istore X hx rfl (hb hy hd) rfl hl r) k
theorem o_istoreV (S : St p l e R s m args below meth c Z own bytes ml n0 ret nm T h cells slots) {k : Nat} {x : Int32} {L' : Int32 → Array Slot} (hl : ∀ v, storeLocals L k (.int v) = some (L' v)) (hd : decode bytes pc = .ok (.istore k, 2)) (hq : pc + 2 = q) (k : ∀ v, v = x → Wp p e below PO T (mkF m q (L' v) st)) : Wp p e below PO T (mkF m pc L (.int x :: st)) :=
  o_istore S (hl x) hd hq (k x rfl)
theorem o_lstore (S : St p l e R s m args below meth c Z own bytes ml n0 ret nm T h cells slots) {k : Nat} {x : Int64} {L' : Array Slot} (hl : storeLocals L k (.long x) = some L') (hd : decode bytes pc = .ok (.lstore k, 2)) (hq : pc + 2 = q) (k : Wp p e below PO T (mkF m q L' (st))) : Wp p e below PO T (mkF m pc L (.long x :: st)) := by
  subst hq
  exact o_st S (fun t X hx hy r => XS.lstore X hx rfl (hb hy hd) rfl hl r) k
theorem o_lstoreV (S : St p l e R s m args below meth c Z own bytes ml n0 ret nm T h cells slots) {k : Nat} {x : Int64} {L' : Int64 → Array Slot} (hl : ∀ v, storeLocals L k (.long v) = some (L' v)) (hd : decode bytes pc = .ok (.lstore k, 2)) (hq : pc + 2 = q) (k : ∀ v, v = x → Wp p e below PO T (mkF m q (L' v) st)) : Wp p e below PO T (mkF m pc L (.long x :: st)) :=
  o_lstore S (hl x) hd hq (k x rfl)
theorem o_astore (S : St p l e R s m args below meth c Z own bytes ml n0 ret nm T h cells slots) {k : Nat} {x : Value} {L' : Array Slot} (hv : x.isRef = true) (hl : storeLocals L k x = some L') (hd : decode bytes pc = .ok (.astore k, 2)) (hq : pc + 2 = q) (k : Wp p e below PO T (mkF m q L' (st))) : Wp p e below PO T (mkF m pc L (x :: st)) := by
  subst hq
  exact o_st S (fun t X hx hy r => XS.astore X hx rfl (hb hy hd) rfl hv hl r) k
theorem o_iconst (S : St p l e R s m args below meth c Z own bytes ml n0 ret nm T h cells slots) {i : Int} {z : Int32} (hz : Int32.ofInt i = z) (hd : decode bytes pc = .ok (.iconst i, 1)) (hq : pc + 1 = q) (k : Wp p e below PO T (mkF m q L (.int z :: st))) : Wp p e below PO T (mkF m pc L (st)) := by
  subst hq
  exact o_st S (fun t X hx hy r => XS.iconst X hx rfl (hb hy hd) (hz ▸ r)) k
theorem o_bipush (S : St p l e R s m args below meth c Z own bytes ml n0 ret nm T h cells slots) {i : Int} {z : Int32} (hz : (Int8.ofInt i).toInt32 = z) (hd : decode bytes pc = .ok (.bipush i, 2)) (hq : pc + 2 = q) (k : Wp p e below PO T (mkF m q L (.int z :: st))) : Wp p e below PO T (mkF m pc L (st)) := by
  subst hq
  exact o_st S (fun t X hx hy r => XS.bipush X hx rfl (hb hy hd) (hz ▸ r)) k
theorem o_sipush (S : St p l e R s m args below meth c Z own bytes ml n0 ret nm T h cells slots) {i : Int} {z : Int32} (hz : (Int16.ofInt i).toInt32 = z) (hd : decode bytes pc = .ok (.sipush i, 3)) (hq : pc + 3 = q) (k : Wp p e below PO T (mkF m q L (.int z :: st))) : Wp p e below PO T (mkF m pc L (st)) := by
  subst hq
  exact o_st S (fun t X hx hy r => XS.sipush X hx rfl (hb hy hd) (hz ▸ r)) k
theorem o_lconst (S : St p l e R s m args below meth c Z own bytes ml n0 ret nm T h cells slots) {i : Fin 2} {z : Int64} (hz : Int64.ofNat i = z) (hd : decode bytes pc = .ok (.lconst i, 1)) (hq : pc + 1 = q) (k : Wp p e below PO T (mkF m q L (.long z :: st))) : Wp p e below PO T (mkF m pc L (st)) := by
  subst hq
  exact o_st S (fun t X hx hy r => XS.lconst X hx rfl (hb hy hd) (hz ▸ r)) k
theorem o_aconstNull (S : St p l e R s m args below meth c Z own bytes ml n0 ret nm T h cells slots)  (hd : decode bytes pc = .ok (.aconst_null, 1)) (hq : pc + 1 = q) (k : Wp p e below PO T (mkF m q L (.null :: st))) : Wp p e below PO T (mkF m pc L (st)) := by
  subst hq
  exact o_st S (fun t X hx hy r => XS.aconstNull X hx rfl (hb hy hd) r) k
theorem o_iadd (S : St p l e R s m args below meth c Z own bytes ml n0 ret nm T h cells slots) {x y : Int32} (hd : decode bytes pc = .ok (.iadd, 1)) (hq : pc + 1 = q) (k : Wp p e below PO T (mkF m q L (.int (x + y) :: st))) : Wp p e below PO T (mkF m pc L (.int y :: .int x :: st)) := by
  subst hq
  exact o_st S (fun t X hx hy r => XS.iadd X hx rfl (hb hy hd) rfl r) k
theorem o_ladd (S : St p l e R s m args below meth c Z own bytes ml n0 ret nm T h cells slots) {x y : Int64} (hd : decode bytes pc = .ok (.ladd, 1)) (hq : pc + 1 = q) (k : Wp p e below PO T (mkF m q L (.long (x + y) :: st))) : Wp p e below PO T (mkF m pc L (.long y :: .long x :: st)) := by
  subst hq
  exact o_st S (fun t X hx hy r => XS.ladd X hx rfl (hb hy hd) rfl r) k
theorem o_isub (S : St p l e R s m args below meth c Z own bytes ml n0 ret nm T h cells slots) {x y : Int32} (hd : decode bytes pc = .ok (.isub, 1)) (hq : pc + 1 = q) (k : Wp p e below PO T (mkF m q L (.int (x - y) :: st))) : Wp p e below PO T (mkF m pc L (.int y :: .int x :: st)) := by
  subst hq
  exact o_st S (fun t X hx hy r => XS.isub X hx rfl (hb hy hd) rfl r) k
theorem o_lsub (S : St p l e R s m args below meth c Z own bytes ml n0 ret nm T h cells slots) {x y : Int64} (hd : decode bytes pc = .ok (.lsub, 1)) (hq : pc + 1 = q) (k : Wp p e below PO T (mkF m q L (.long (x - y) :: st))) : Wp p e below PO T (mkF m pc L (.long y :: .long x :: st)) := by
  subst hq
  exact o_st S (fun t X hx hy r => XS.lsub X hx rfl (hb hy hd) rfl r) k
theorem o_imul (S : St p l e R s m args below meth c Z own bytes ml n0 ret nm T h cells slots) {x y : Int32} (hd : decode bytes pc = .ok (.imul, 1)) (hq : pc + 1 = q) (k : Wp p e below PO T (mkF m q L (.int (x * y) :: st))) : Wp p e below PO T (mkF m pc L (.int y :: .int x :: st)) := by
  subst hq
  exact o_st S (fun t X hx hy r => XS.imul X hx rfl (hb hy hd) rfl r) k
theorem o_lmul (S : St p l e R s m args below meth c Z own bytes ml n0 ret nm T h cells slots) {x y : Int64} (hd : decode bytes pc = .ok (.lmul, 1)) (hq : pc + 1 = q) (k : Wp p e below PO T (mkF m q L (.long (x * y) :: st))) : Wp p e below PO T (mkF m pc L (.long y :: .long x :: st)) := by
  subst hq
  exact o_st S (fun t X hx hy r => XS.lmul X hx rfl (hb hy hd) rfl r) k
theorem o_iand (S : St p l e R s m args below meth c Z own bytes ml n0 ret nm T h cells slots) {x y : Int32} (hd : decode bytes pc = .ok (.iand, 1)) (hq : pc + 1 = q) (k : Wp p e below PO T (mkF m q L (.int (x &&& y) :: st))) : Wp p e below PO T (mkF m pc L (.int y :: .int x :: st)) := by
  subst hq
  exact o_st S (fun t X hx hy r => XS.iand X hx rfl (hb hy hd) rfl r) k
theorem o_land (S : St p l e R s m args below meth c Z own bytes ml n0 ret nm T h cells slots) {x y : Int64} (hd : decode bytes pc = .ok (.land, 1)) (hq : pc + 1 = q) (k : Wp p e below PO T (mkF m q L (.long (x &&& y) :: st))) : Wp p e below PO T (mkF m pc L (.long y :: .long x :: st)) := by
  subst hq
  exact o_st S (fun t X hx hy r => XS.land X hx rfl (hb hy hd) rfl r) k
theorem o_ior (S : St p l e R s m args below meth c Z own bytes ml n0 ret nm T h cells slots) {x y : Int32} (hd : decode bytes pc = .ok (.ior, 1)) (hq : pc + 1 = q) (k : Wp p e below PO T (mkF m q L (.int (x ||| y) :: st))) : Wp p e below PO T (mkF m pc L (.int y :: .int x :: st)) := by
  subst hq
  exact o_st S (fun t X hx hy r => XS.ior X hx rfl (hb hy hd) rfl r) k
theorem o_lor (S : St p l e R s m args below meth c Z own bytes ml n0 ret nm T h cells slots) {x y : Int64} (hd : decode bytes pc = .ok (.lor, 1)) (hq : pc + 1 = q) (k : Wp p e below PO T (mkF m q L (.long (x ||| y) :: st))) : Wp p e below PO T (mkF m pc L (.long y :: .long x :: st)) := by
  subst hq
  exact o_st S (fun t X hx hy r => XS.lor X hx rfl (hb hy hd) rfl r) k
theorem o_ixor (S : St p l e R s m args below meth c Z own bytes ml n0 ret nm T h cells slots) {x y : Int32} (hd : decode bytes pc = .ok (.ixor, 1)) (hq : pc + 1 = q) (k : Wp p e below PO T (mkF m q L (.int (x ^^^ y) :: st))) : Wp p e below PO T (mkF m pc L (.int y :: .int x :: st)) := by
  subst hq
  exact o_st S (fun t X hx hy r => XS.ixor X hx rfl (hb hy hd) rfl r) k
theorem o_lxor (S : St p l e R s m args below meth c Z own bytes ml n0 ret nm T h cells slots) {x y : Int64} (hd : decode bytes pc = .ok (.lxor, 1)) (hq : pc + 1 = q) (k : Wp p e below PO T (mkF m q L (.long (x ^^^ y) :: st))) : Wp p e below PO T (mkF m pc L (.long y :: .long x :: st)) := by
  subst hq
  exact o_st S (fun t X hx hy r => XS.lxor X hx rfl (hb hy hd) rfl r) k
theorem o_irem (S : St p l e R s m args below meth c Z own bytes ml n0 ret nm T h cells slots) {x y : Int32} (hy0 : y ≠ 0) (hd : decode bytes pc = .ok (.irem, 1)) (hq : pc + 1 = q) (k : Wp p e below PO T (mkF m q L (.int (x % y) :: st))) : Wp p e below PO T (mkF m pc L (.int y :: .int x :: st)) := by
  subst hq
  exact o_st S (fun t X hx hy r => XS.irem X hx rfl (hb hy hd) rfl hy0 (by have q : x - x / y * y = x % y := irem_eq_mod x y; rw [q]; exact r)) k
theorem o_idiv (S : St p l e R s m args below meth c Z own bytes ml n0 ret nm T h cells slots) {x y : Int32} (hy0 : y ≠ 0) (hd : decode bytes pc = .ok (.idiv, 1)) (hq : pc + 1 = q) (k : Wp p e below PO T (mkF m q L (.int (x / y) :: st))) : Wp p e below PO T (mkF m pc L (.int y :: .int x :: st)) := by
  subst hq
  exact o_st S (fun t X hx hy r => XS.idiv X hx rfl (hb hy hd) rfl hy0 r) k
theorem o_ineg (S : St p l e R s m args below meth c Z own bytes ml n0 ret nm T h cells slots) {x : Int32} (hd : decode bytes pc = .ok (.ineg, 1)) (hq : pc + 1 = q) (k : Wp p e below PO T (mkF m q L (.int (-x) :: st))) : Wp p e below PO T (mkF m pc L (.int x :: st)) := by
  subst hq
  exact o_st S (fun t X hx hy r => XS.ineg X hx rfl (hb hy hd) rfl r) k
theorem o_lneg (S : St p l e R s m args below meth c Z own bytes ml n0 ret nm T h cells slots) {x : Int64} (hd : decode bytes pc = .ok (.lneg, 1)) (hq : pc + 1 = q) (k : Wp p e below PO T (mkF m q L (.long (-x) :: st))) : Wp p e below PO T (mkF m pc L (.long x :: st)) := by
  subst hq
  exact o_st S (fun t X hx hy r => XS.lneg X hx rfl (hb hy hd) rfl r) k
theorem o_i2l (S : St p l e R s m args below meth c Z own bytes ml n0 ret nm T h cells slots) {x : Int32} (hd : decode bytes pc = .ok (.i2l, 1)) (hq : pc + 1 = q) (k : Wp p e below PO T (mkF m q L (.long x.toInt64 :: st))) : Wp p e below PO T (mkF m pc L (.int x :: st)) := by
  subst hq
  exact o_st S (fun t X hx hy r => XS.i2l X hx rfl (hb hy hd) rfl r) k
theorem o_l2i (S : St p l e R s m args below meth c Z own bytes ml n0 ret nm T h cells slots) {x : Int64} (hd : decode bytes pc = .ok (.l2i, 1)) (hq : pc + 1 = q) (k : Wp p e below PO T (mkF m q L (.int x.toInt32 :: st))) : Wp p e below PO T (mkF m pc L (.long x :: st)) := by
  subst hq
  exact o_st S (fun t X hx hy r => XS.l2i X hx rfl (hb hy hd) rfl r) k
theorem o_i2b (S : St p l e R s m args below meth c Z own bytes ml n0 ret nm T h cells slots) {x : Int32} (hd : decode bytes pc = .ok (.i2b, 1)) (hq : pc + 1 = q) (k : Wp p e below PO T (mkF m q L (.int x.toInt8.toInt32 :: st))) : Wp p e below PO T (mkF m pc L (.int x :: st)) := by
  subst hq
  exact o_st S (fun t X hx hy r => XS.i2b X hx rfl (hb hy hd) rfl r) k
theorem o_i2s (S : St p l e R s m args below meth c Z own bytes ml n0 ret nm T h cells slots) {x : Int32} (hd : decode bytes pc = .ok (.i2s, 1)) (hq : pc + 1 = q) (k : Wp p e below PO T (mkF m q L (.int x.toInt16.toInt32 :: st))) : Wp p e below PO T (mkF m pc L (.int x :: st)) := by
  subst hq
  exact o_st S (fun t X hx hy r => XS.i2s X hx rfl (hb hy hd) rfl r) k
theorem o_i2c (S : St p l e R s m args below meth c Z own bytes ml n0 ret nm T h cells slots) {x : Int32} (hd : decode bytes pc = .ok (.i2c, 1)) (hq : pc + 1 = q) (k : Wp p e below PO T (mkF m q L (.int x.toUInt32.toUInt16.toUInt32.toInt32 :: st))) : Wp p e below PO T (mkF m pc L (.int x :: st)) := by
  subst hq
  exact o_st S (fun t X hx hy r => XS.i2c X hx rfl (hb hy hd) rfl r) k
theorem o_ishl (S : St p l e R s m args below meth c Z own bytes ml n0 ret nm T h cells slots) {x y : Int32} (hd : decode bytes pc = .ok (.ishl, 1)) (hq : pc + 1 = q) (k : Wp p e below PO T (mkF m q L (.int (x <<< (y &&& 31)) :: st))) : Wp p e below PO T (mkF m pc L (.int y :: .int x :: st)) := by
  subst hq
  exact o_st S (fun t X hx hy r => XS.ishl X hx rfl (hb hy hd) rfl r) k
theorem o_ishr (S : St p l e R s m args below meth c Z own bytes ml n0 ret nm T h cells slots) {x y : Int32} (hd : decode bytes pc = .ok (.ishr, 1)) (hq : pc + 1 = q) (k : Wp p e below PO T (mkF m q L (.int (x >>> (y &&& 31)) :: st))) : Wp p e below PO T (mkF m pc L (.int y :: .int x :: st)) := by
  subst hq
  exact o_st S (fun t X hx hy r => XS.ishr X hx rfl (hb hy hd) rfl r) k
theorem o_iushr (S : St p l e R s m args below meth c Z own bytes ml n0 ret nm T h cells slots) {x y : Int32} (hd : decode bytes pc = .ok (.iushr, 1)) (hq : pc + 1 = q) (k : Wp p e below PO T (mkF m q L (.int ((x.toUInt32 >>> (y &&& 31).toUInt32).toInt32) :: st))) : Wp p e below PO T (mkF m pc L (.int y :: .int x :: st)) := by
  subst hq
  exact o_st S (fun t X hx hy r => XS.iushr X hx rfl (hb hy hd) rfl r) k
theorem o_lshl (S : St p l e R s m args below meth c Z own bytes ml n0 ret nm T h cells slots) {x : Int64} {y : Int32} (hd : decode bytes pc = .ok (.lshl, 1)) (hq : pc + 1 = q) (k : Wp p e below PO T (mkF m q L (.long (x <<< (y &&& 0x3f).toInt64) :: st))) : Wp p e below PO T (mkF m pc L (.int y :: .long x :: st)) := by
  subst hq
  exact o_st S (fun t X hx hy r => XS.lshl X hx rfl (hb hy hd) rfl r) k
theorem o_lshr (S : St p l e R s m args below meth c Z own bytes ml n0 ret nm T h cells slots) {x : Int64} {y : Int32} (hd : decode bytes pc = .ok (.lshr, 1)) (hq : pc + 1 = q) (k : Wp p e below PO T (mkF m q L (.long (x >>> (y &&& 0x3f).toInt64) :: st))) : Wp p e below PO T (mkF m pc L (.int y :: .long x :: st)) := by
  subst hq
  exact o_st S (fun t X hx hy r => XS.lshr X hx rfl (hb hy hd) rfl r) k
theorem o_lushr (S : St p l e R s m args below meth c Z own bytes ml n0 ret nm T h cells slots) {x : Int64} {y : Int32} (hd : decode bytes pc = .ok (.lushr, 1)) (hq : pc + 1 = q) (k : Wp p e below PO T (mkF m q L (.long ((x.toUInt64 >>> (y &&& 0x3f).toInt64.toUInt64).toInt64) :: st))) : Wp p e below PO T (mkF m pc L (.int y :: .long x :: st)) := by
  subst hq
  exact o_st S (fun t X hx hy r => XS.lushr X hx rfl (hb hy hd) rfl r) k
theorem o_lcmp (S : St p l e R s m args below meth c Z own bytes ml n0 ret nm T h cells slots) {x y : Int64} (hd : decode bytes pc = .ok (.lcmp, 1)) (hq : pc + 1 = q) (k : Wp p e below PO T (mkF m q L (.int (lcmpW x y) :: st))) : Wp p e below PO T (mkF m pc L (.long y :: .long x :: st)) := by
  subst hq
  exact o_st S (fun t X hx hy r => XS.lcmp X hx rfl (hb hy hd) rfl r) k
theorem o_dup (S : St p l e R s m args below meth c Z own bytes ml n0 ret nm T h cells slots) {x : Value} (hc : x.category = 1) (hd : decode bytes pc = .ok (.dup, 1)) (hq : pc + 1 = q) (k : Wp p e below PO T (mkF m q L (x :: x :: st))) : Wp p e below PO T (mkF m pc L (x :: st)) := by
  subst hq
  exact o_st S (fun t X hx hy r => XS.dup X hx rfl (hb hy hd) rfl hc r) k
theorem o_pop (S : St p l e R s m args below meth c Z own bytes ml n0 ret nm T h cells slots) {x : Value} (hc : x.category = 1) (hd : decode bytes pc = .ok (.pop, 1)) (hq : pc + 1 = q) (k : Wp p e below PO T (mkF m q L (st))) : Wp p e below PO T (mkF m pc L (x :: st)) := by
  subst hq
  exact o_st S (fun t X hx hy r => XS.pop X hx rfl (hb hy hd) rfl hc r) k
theorem o_dupX1 (S : St p l e R s m args below meth c Z own bytes ml n0 ret nm T h cells slots) {x y : Value} (hc : x.category = 1) (hc' : y.category = 1) (hd : decode bytes pc = .ok (.dup_x1, 1)) (hq : pc + 1 = q) (k : Wp p e below PO T (mkF m q L (x :: y :: x :: st))) : Wp p e below PO T (mkF m pc L (x :: y :: st)) := by
  subst hq
  exact o_st S (fun t X hx hy r => XS.dupX1 X hx rfl (hb hy hd) rfl hc hc' r) k
theorem o_dup2 (S : St p l e R s m args below meth c Z own bytes ml n0 ret nm T h cells slots) {x y : Value} (hc : x.category = 1) (hc' : y.category = 1) (hd : decode bytes pc = .ok (.dup2, 1)) (hq : pc + 1 = q) (k : Wp p e below PO T (mkF m q L (x :: y :: x :: y :: st))) : Wp p e below PO T (mkF m pc L (x :: y :: st)) := by
  subst hq
  exact o_st S (fun t X hx hy r => XT.dup2 X hx rfl (hb hy hd) rfl hc hc' r) k
theorem o_iinc (S : St p l e R s m args below meth c Z own bytes ml n0 ret nm T h cells slots) {k : Nat} {i : Int} {x : Int32} {L' : Array Slot} (hl : L[k]? = some (.val (.int x))) (hl' : storeLocals L k (.int (x + Int32.ofInt i)) = some L') (hd : decode bytes pc = .ok (.iinc k i, 3)) (hq : pc + 3 = q) (kk : Wp p e below PO T (mkF m q L' st)) : Wp p e below PO T (mkF m pc L st) := by
  subst hq
  exact o_st S (fun t X hx hy r => XS.iinc X hx rfl (hb hy hd) hl hl' r) kk
theorem o_goto (S : St p l e R s m args below meth c Z own bytes ml n0 ret nm T h cells slots) {o : Int} (hd : decode bytes pc = .ok (.goto o, 3)) (ho : 0 ≤ (pc : Int) + o) (hq : ((pc : Int) + o).toNat = q) (k : Wp p e below PO T (mkF m q L st)) : Wp p e below PO T (mkF m pc L st) :=
  o_st S (fun t X hx hy r => XS.goto X hx rfl rfl (hb hy hd) ho hq r) k
theorem o_ldc (S : St p l e R s m args below meth c Z own bytes ml n0 ret nm T h cells slots) {i : Nat} {z : Int32} (w : (Jvm.Cond.constant own i z).before a0 Z = true) (hd : decode bytes pc = .ok (.ldc i, 2)) (hq : pc + 2 = q) (k : Wp p e below PO T (mkF m q L (.int z :: st))) : Wp p e below PO T (mkF m pc L st) := by
  subst hq
  obtain ⟨locs, X, N, eT, hx, hZ, hown, hby, hml, hlk, hn, hrt, hnm⟩ := S
  exact o_to (X.ldcInt hx hown (mvT hZ w) (g := mkF m pc L st) rfl (hb hby hd)) k
theorem o_ldc2 (S : St p l e R s m args below meth c Z own bytes ml n0 ret nm T h cells slots) {i : Nat} {z : Int64} (w : (Jvm.Cond.constantLong own i z).before a0 Z = true) (hd : decode bytes pc = .ok (.ldc2_w i, 3)) (hq : pc + 3 = q) (k : Wp p e below PO T (mkF m q L (.long z :: st))) : Wp p e below PO T (mkF m pc L st) := by
  subst hq
  obtain ⟨locs, X, N, eT, hx, hZ, hown, hby, hml, hlk, hn, hrt, hnm⟩ := S
  exact o_to (X.ldc2Long hx hown (mvT hZ w) (g := mkF m pc L st) rfl (hb hby hd)) k
/-! branches: base conditions x < y (as integers) and x = y -/
theorem o_icmp (S : St p l e R s m args below meth c Z own bytes ml n0 ret nm T h cells slots) {cd : ClassFile.Cond} {x y : Int32} {o : Int} {q' : Nat} {P : Prop} (hd : decode bytes pc = .ok (.if_icmp cd o, 3)) (ho : 0 ≤ (pc : Int) + o) (hq' : ((pc : Int) + o).toNat = q') (hq : pc + 3 = q) (h1 : P → if_icmp.holds cd x y = true) (h2 : ¬ P → if_icmp.holds cd x y = false) [Decidable P]
    (k1 : P → Wp p e below PO T (mkF m q' L st)) (k2 : ¬ P → Wp p e below PO T (mkF m q L st)) : Wp p e below PO T (mkF m pc L (.int y :: .int x :: st)) := by
  subst hq
  by_cases hP : P
  · exact o_st S (fun t X hx hy r => XS.icmpYes X hx rfl rfl (hb hy hd) rfl (h1 hP) ho hq' r) (k1 hP)
  · exact o_st S (fun t X hx hy r => XS.icmpNo X hx rfl (hb hy hd) rfl (h2 hP) r) (k2 hP)
theorem o_if (S : St p l e R s m args below meth c Z own bytes ml n0 ret nm T h cells slots) {cd : ClassFile.Cond} {x : Int32} {o : Int} {q' : Nat} {P : Prop} (hd : decode bytes pc = .ok (.ifCond cd o, 3)) (ho : 0 ≤ (pc : Int) + o) (hq' : ((pc : Int) + o).toNat = q') (hq : pc + 3 = q) (h1 : P → if_icmp.holds cd x 0 = true) (h2 : ¬ P → if_icmp.holds cd x 0 = false) [Decidable P]
    (k1 : P → Wp p e below PO T (mkF m q' L st)) (k2 : ¬ P → Wp p e below PO T (mkF m q L st)) : Wp p e below PO T (mkF m pc L (.int x :: st)) := by
  subst hq
  by_cases hP : P
  · exact o_st S (fun t X hx hy r => XS.ifYes X hx rfl rfl (hb hy hd) rfl ((if0 _ _).trans (h1 hP)) ho hq' r) (k1 hP)
  · exact o_st S (fun t X hx hy r => XS.ifNo X hx rfl (hb hy hd) rfl ((if0 _ _).trans (h2 hP)) r) (k2 hP)
theorem hs_lt {x y : Int32} {a b : Int} (ha : x.toInt = a) (hb : y.toInt = b) : (a < b → if_icmp.holds .lt x y = true) ∧ (¬ a < b → if_icmp.holds .lt x y = false) := by subst ha hb; exact ⟨fun h => (tlt (Int32.lt_iff_toInt_lt.mpr h)).1, fun h => (flt (fun g => h (Int32.lt_iff_toInt_lt.mp g))).1⟩
theorem hs_ge {x y : Int32} {a b : Int} (ha : x.toInt = a) (hb : y.toInt = b) : (b ≤ a → if_icmp.holds .ge x y = true) ∧ (¬ b ≤ a → if_icmp.holds .ge x y = false) := by subst ha hb; exact ⟨fun h => (flt (fun g => by have := Int32.lt_iff_toInt_lt.mp g; omega)).2.1, fun h => (tlt (Int32.lt_iff_toInt_lt.mpr (by omega))).2.1⟩
theorem hs_gt {x y : Int32} {a b : Int} (ha : x.toInt = a) (hb : y.toInt = b) : (b < a → if_icmp.holds .gt x y = true) ∧ (¬ b < a → if_icmp.holds .gt x y = false) := by subst ha hb; exact ⟨fun h => (tlt (Int32.lt_iff_toInt_lt.mpr h)).2.2.1, fun h => (flt (fun g => h (Int32.lt_iff_toInt_lt.mp g))).2.2.1⟩
theorem hs_le {x y : Int32} {a b : Int} (ha : x.toInt = a) (hb : y.toInt = b) : (a ≤ b → if_icmp.holds .le x y = true) ∧ (¬ a ≤ b → if_icmp.holds .le x y = false) := by subst ha hb; exact ⟨fun h => (flt (fun g => by have := Int32.lt_iff_toInt_lt.mp g; omega)).2.2.2, fun h => (tlt (Int32.lt_iff_toInt_lt.mpr (by omega))).2.2.2⟩
theorem hs_eq {x y : Int32} : (x = y → if_icmp.holds .eq x y = true) ∧ (¬ x = y → if_icmp.holds .eq x y = false) := ⟨fun h => (teq h).1, fun h => (feq h).1⟩
theorem hs_ne {x y : Int32} : (¬ x = y → if_icmp.holds .ne x y = true) ∧ (¬ ¬ x = y → if_icmp.holds .ne x y = false) := ⟨fun h => (feq h).2, fun h => (teq (Decidable.not_not.mp h)).2⟩
theorem hl_eq {x y : Int64} : (x = y → if_icmp.holds .eq (lcmpW x y) 0 = true) ∧ (¬ x = y → if_icmp.holds .eq (lcmpW x y) 0 = false) := ⟨fun h => (teq ((lw_eq x y).mpr h)).1, fun h => (feq (fun g => h ((lw_eq x y).mp g))).1⟩
theorem hl_ne {x y : Int64} : (¬ x = y → if_icmp.holds .ne (lcmpW x y) 0 = true) ∧ (¬ ¬ x = y → if_icmp.holds .ne (lcmpW x y) 0 = false) := ⟨fun h => (feq (fun g => h ((lw_eq x y).mp g))).2, fun h => (teq ((lw_eq x y).mpr (Decidable.not_not.mp h))).2⟩
theorem hl_lt {x y : Int64} {a b : Int} (ha : x.toInt = a) (hb : y.toInt = b) : (a < b → if_icmp.holds .lt (lcmpW x y) 0 = true) ∧ (¬ a < b → if_icmp.holds .lt (lcmpW x y) 0 = false) := by subst ha hb; exact ⟨fun h => (tlt ((lw_lt x y).mpr (Int64.lt_iff_toInt_lt.mpr h))).1, fun h => (flt (fun g => h (Int64.lt_iff_toInt_lt.mp ((lw_lt x y).mp g)))).1⟩
theorem hl_ge {x y : Int64} {a b : Int} (ha : x.toInt = a) (hb : y.toInt = b) : (b ≤ a → if_icmp.holds .ge (lcmpW x y) 0 = true) ∧ (¬ b ≤ a → if_icmp.holds .ge (lcmpW x y) 0 = false) := by subst ha hb; exact ⟨fun h => (flt (fun g => by have := Int64.lt_iff_toInt_lt.mp ((lw_lt x y).mp g); omega)).2.1, fun h => (tlt ((lw_lt x y).mpr (Int64.lt_iff_toInt_lt.mpr (by omega)))).2.1⟩
theorem hl_gt {x y : Int64} {a b : Int} (ha : x.toInt = a) (hb : y.toInt = b) : (b < a → if_icmp.holds .gt (lcmpW x y) 0 = true) ∧ (¬ b < a → if_icmp.holds .gt (lcmpW x y) 0 = false) := by subst ha hb; exact ⟨fun h => (tlt ((lw_gt x y).mpr (Int64.lt_iff_toInt_lt.mpr h))).2.2.1, fun h => (flt (fun g => h (Int64.lt_iff_toInt_lt.mp ((lw_gt x y).mp g)))).2.2.1⟩
theorem hl_le {x y : Int64} {a b : Int} (ha : x.toInt = a) (hb : y.toInt = b) : (a ≤ b → if_icmp.holds .le (lcmpW x y) 0 = true) ∧ (¬ a ≤ b → if_icmp.holds .le (lcmpW x y) 0 = false) := by subst ha hb; exact ⟨fun h => (flt (fun g => by have := Int64.lt_iff_toInt_lt.mp ((lw_gt x y).mp g); omega)).2.2.2, fun h => (tlt ((lw_gt x y).mpr (Int64.lt_iff_toInt_lt.mpr (by omega)))).2.2.2⟩
theorem o_ifnullY (S : St p l e R s m args below meth c Z own bytes ml n0 ret nm T h cells slots) {o : Int} (hd : decode bytes pc = .ok (.ifnull o, 3)) (ho : 0 ≤ (pc : Int) + o) (hq : ((pc : Int) + o).toNat = q) (k : Wp p e below PO T (mkF m q L st)) : Wp p e below PO T (mkF m pc L (.null :: st)) :=
  o_st S (fun t X hx hy r => XS.ifnullYes X hx rfl rfl (hb hy hd) rfl ho hq r) k
theorem o_ifnullN (S : St p l e R s m args below meth c Z own bytes ml n0 ret nm T h cells slots) {o : Int} {b : Addr} (hd : decode bytes pc = .ok (.ifnull o, 3)) (hq : pc + 3 = q) (k : Wp p e below PO T (mkF m q L st)) : Wp p e below PO T (mkF m pc L (.ref b :: st)) := by
  subst hq
  exact o_st S (fun t X hx hy r => XS.ifnullNo X hx rfl (hb hy hd) rfl r) k
theorem o_ifnonnullY (S : St p l e R s m args below meth c Z own bytes ml n0 ret nm T h cells slots) {o : Int} {b : Addr} (hd : decode bytes pc = .ok (.ifnonnull o, 3)) (ho : 0 ≤ (pc : Int) + o) (hq : ((pc : Int) + o).toNat = q) (k : Wp p e below PO T (mkF m q L st)) : Wp p e below PO T (mkF m pc L (.ref b :: st)) :=
  o_st S (fun t X hx hy r => XS.ifnonnullYes X hx rfl rfl (hb hy hd) rfl ho hq r) k
theorem o_ifnonnullN (S : St p l e R s m args below meth c Z own bytes ml n0 ret nm T h cells slots) {o : Int} (hd : decode bytes pc = .ok (.ifnonnull o, 3)) (hq : pc + 3 = q) (k : Wp p e below PO T (mkF m q L st)) : Wp p e below PO T (mkF m pc L (.null :: st)) := by
  subst hq
  exact o_st S (fun t X hx hy r => XS.ifnonnullNo X hx rfl (hb hy hd) rfl r) k
/-! returns -/
theorem o_ret {Q : Option Value → Heap → Prop} {w : Option Value} (S : St p l e R s m args below meth c Z own bytes ml n0 ret nm T h cells slots) {g : JFrame} (hv : meth.sig.returnType = none → w = none) (hc : cells ≤ R.cells) (hs : slots ≤ R.slots) (qq : Q w h)
    (hst : ∀ fs : List Frame, At T m c below → T.vm.method? m = some meth → p.tables.exec = Jvm.exec → c.code = bytes → (∀ locs, Stand p l e R s m args below meth c T locs cells slots → (∀ (f : JFrame) (acts : List Action), f.method = m → f.locked = none → f.entered = [] → (doReturn e (T.setTop f) acts w).1 = T.setFrames fs) → Steps p.tables e below (T.setTop g) (T.setFrames fs))) : Wp p e below (Po s n0 R Q) T g := by
  obtain ⟨locs, X, N, eT, hx, hZ, hown, hby, hml, hlk, hn, hrt, hnm⟩ := S
  obtain ⟨fs, hr, hrun, hended, hW, hsame⟩ := X.leave (v := w) hv hlk
  refine ⟨_, _, hst fs X.here X.method' hx hby locs X hr, hrun, hended, _, _, rfl, ⟨?_, N⟩, ⟨_, rfl⟩, hW, hsame.mono hc hs⟩
  show Q w T.heap
  rw [eT]; exact qq
theorem o_retI {Q : Option Value → Heap → Prop} {z : Int32} (S : St p l e R s m args below meth c Z own bytes ml n0 ret nm T h cells slots) (hret : ret = some .int) (hd : decode bytes pc = .ok (.ireturn, 1)) (hc : cells ≤ R.cells) (hs : slots ≤ R.slots) (qq : Q (some (.int z)) h) : Wp p e below (Po s n0 R Q) T (mkF m pc L (.int z :: st)) := by
  have hrt : meth.sig.returnType = some .int := by obtain ⟨locs, X, N, eT, hx, hZ, hown, hby, hml, hlk, hn, hrt, hnm⟩ := S; rw [hrt, hret]
  refine o_ret S (w := some (.int z)) (fun h => by rw [hrt] at h; cases h) hc hs qq fun fs hA hm hx hby locs X hr => ?_
  exact retOut X hx hrt rfl (Or.inl ⟨rfl, Or.inl rfl, z, rfl⟩) (hb hby hd) hr
theorem o_retN {Q : Option Value → Heap → Prop} {z : Int32} {t : FieldType} (S : St p l e R s m args below meth c Z own bytes ml n0 ret nm T h cells slots) (hret : ret = some t) (ht : t = .boolean ∨ t = .byte ∨ t = .char ∨ t = .short) (hd : decode bytes pc = .ok (.ireturn, 1)) (hc : cells ≤ R.cells) (hs : slots ≤ R.slots) (hn : narrow t (.int z) = .int z) (qq : Q (some (.int z)) h) : Wp p e below (Po s n0 R Q) T (mkF m pc L (.int z :: st)) := by
  have hrt : meth.sig.returnType = some t := by obtain ⟨locs, X, N, eT, hx, hZ, hown, hby, hml, hlk, hn, hrt, hnm⟩ := S; rw [hrt, hret]
  refine o_ret S (w := some (.int z)) (fun h => by rw [hrt] at h; cases h) hc hs qq fun fs hA hm hx hby locs X hr => ?_
  exact retOut X hx hrt hn (Or.inl ⟨rfl, Or.inr ht, z, rfl⟩) (hb hby hd) hr
theorem o_retJ {Q : Option Value → Heap → Prop} {z : Int64} (S : St p l e R s m args below meth c Z own bytes ml n0 ret nm T h cells slots) (hret : ret = some .long) (hd : decode bytes pc = .ok (.lreturn, 1)) (hc : cells ≤ R.cells) (hs : slots ≤ R.slots) (qq : Q (some (.long z)) h) : Wp p e below (Po s n0 R Q) T (mkF m pc L (.long z :: st)) := by
  have hrt : meth.sig.returnType = some .long := by obtain ⟨locs, X, N, eT, hx, hZ, hown, hby, hml, hlk, hn, hrt, hnm⟩ := S; rw [hrt, hret]
  refine o_ret S (w := some (.long z)) (fun h => by rw [hrt] at h; cases h) hc hs qq fun fs hA hm hx hby locs X hr => ?_
  exact retOut X hx hrt rfl (Or.inr (Or.inl ⟨rfl, rfl, z, rfl⟩)) (hb hby hd) hr
theorem o_retR {Q : Option Value → Heap → Prop} {z : Value} {t : FieldType} (S : St p l e R s m args below meth c Z own bytes ml n0 ret nm T h cells slots) (hret : ret = some t) (ht : t.isReference = true) (hz : z.isRef = true) (hn : narrow t z = z) (hd : decode bytes pc = .ok (.areturn, 1)) (hc : cells ≤ R.cells) (hs : slots ≤ R.slots) (qq : Q (some z) h) : Wp p e below (Po s n0 R Q) T (mkF m pc L (z :: st)) := by
  have hrt : meth.sig.returnType = some t := by obtain ⟨locs, X, N, eT, hx, hZ, hown, hby, hml, hlk, hn, hrt, hnm⟩ := S; rw [hrt, hret]
  refine o_ret S (w := some z) (fun h => by rw [hrt] at h; cases h) hc hs qq fun fs hA hm hx hby locs X hr => ?_
  exact retOut X hx hrt hn (Or.inr (Or.inr (Or.inr (Or.inr ⟨rfl, ht, hz⟩)))) (hb hby hd) hr
theorem o_retV {Q : Option Value → Heap → Prop} (S : St p l e R s m args below meth c Z own bytes ml n0 ret nm T h cells slots) (hret : ret = none) (hd : decode bytes pc = .ok (.return_, 1)) (hc : cells ≤ R.cells) (hs : slots ≤ R.slots) (qq : Q none h) : Wp p e below (Po s n0 R Q) T (mkF m pc L []) := by
  have hrt : meth.sig.returnType = none := by obtain ⟨locs, X, N, eT, hx, hZ, hown, hby, hml, hlk, hn, hrt, hnm⟩ := S; rw [hrt, hret]
  exact o_ret S (w := none) (fun _ => rfl) hc hs qq fun fs hA hm hx hby locs X hr => X.returnOut hx hrt (hb hby hd) hr

/-! calls -/
theorem o_cut {A B : Prop} (k2 : A → B) (k1 : A) : B := k2 k1
theorem o_cutS {B : Prop} (S : St p l e R s m args below meth c Z own bytes ml n0 ret nm T h cells slots) {G : State → Prop} (k2 : (∀ T', St p l e R s m args below meth c Z own bytes ml n0 ret nm T' h cells slots → G T') → B) (k1 : ∀ T', St p l e R s m args below meth c Z own bytes ml n0 ret nm T' h cells slots → G T') : B := k2 k1
def Qp (r : Option Value) (h0 : Heap) : Option Value → Heap → Prop := fun v h => v = r ∧ h = h0
theorem o_si {a b : Int32} (h : a = b) : some (Value.int a) = some (Value.int b) := by rw [h]
theorem o_sj {a b : Int64} (h : a = b) : some (Value.long a) = some (Value.long b) := by rw [h]
theorem o_callS (S : St p l e R s m args below meth c Z own bytes ml n0 ret nm T h cells slots) {i : Nat} {y : MethodName} {bytes' : ByteArray} {maxL : Nat} {ret' : Option FieldType} {rm : Room} {W : Nat} {argsL rest : List Value} {Q : Option Value → Heap → Prop} {ps : List FieldType} {r' : Option FieldType}
    (w1 : (Jvm.Cond.methodLink own i y).before a0 Z = true) (w2 : (Jvm.Cond.static y).before a0 Z = true) (w3 : (Jvm.Cond.initialized y.cls).before a0 Z = true) (w4 : (Jvm.Cond.code y bytes' maxL ret').before a0 Z = true) (hy : y.cls ≠ "java/lang/invoke/MethodHandle" ∧ y.cls ≠ "java/lang/invoke/VarHandle")
    (K : Ct l y bytes' maxL ret' [] rm Z h n0 argsL.toArray Q) (hf : rm.frames + 1 ≤ R.frames) (hl : W + (maxL + 11) + rm.locals ≤ R.locals) (hL : L.size = ml) (hst : st = argsL.reverse ++ rest) (hsig : parseMethodDescriptor y.desc = some ⟨ps, r'⟩) (hlen : argsL.length = ps.length) (hW : (rest.map fun v => v.category).sum ≤ W)
    (hd : decode bytes pc = .ok (.invokestatic i, 3)) (hq : pc + 3 = q) (hc : cells + rm.cells ≤ R.cells) (hs : slots + rm.slots ≤ R.slots) (k : ∀ T' h' v, St p l e R s m args below meth c Z own bytes ml n0 ret nm T' h' (cells + rm.cells) (slots + rm.slots) → Q v h' → Wp p e below PO T' (mkF m q L (v.toList ++ rest))) : Wp p e below PO T (mkF m pc L st) := by
  subst hq
  obtain ⟨locs, X, N, eT, hx, hZ, hown, hby, hml, hlk, hn, hrt, hnm⟩ := S
  have hb0 := backOf (R := R) (s := s) (p := p) (e := e) (below := below) (args := args) (len := 3) (W := W) (Q := fun v h L => Q v h ∧ Fr n0 L) K hZ w4 w3 hf hl
  obtain ⟨v, vm, ⟨T', L', k', n'⟩, hwm, X', ⟨Lc, hQ, l1, y1, z1⟩, st1⟩ := Jvm.LawKit.callS X hx (y := y) hown (mvT hZ w1) (mvT hZ w2) (mvT hZ w3) (mvT hZ w4) hy hb0 (g := mkF m pc L st) rfl (by rw [hml]; exact hL) (argsL := argsL) (rest := rest) (lenOf hsig hlen) hst (by show 2 * 0 + _ ≤ _; omega) (hb hby hd) (fun _ _ => ⟨rfl, eT, hc, hs⟩)
  dsimp only [Pt.U, Pt.locs, Pt.cells, Pt.slots] at X' l1 y1 z1 st1 hQ
  subst l1 y1 z1
  exact o_to st1 (k T' T'.heap v ⟨_, X', N.app hQ.2, rfl, hx, hZ, hown, hby, hml, hlk, hn, hrt, hnm⟩ hQ.1)
theorem o_callI (S : St p l e R s m args below meth c Z own bytes ml n0 ret nm T h cells slots) {i : Nat} {y : MethodName} {bytes' : ByteArray} {maxL : Nat} {rm : Room} {W : Nat} {argsL rest : List Value} {Q : Option Value → Heap → Prop} {ps : List FieldType} {r' : Option FieldType} {a : Addr} (hy1 : y.name = "<init>")
    (w1 : (Jvm.Cond.methodLink own i y).before a0 Z = true) (w2 : (Jvm.Cond.instanceMethod y).before a0 Z = true) (w3 : (Jvm.Cond.initialized y.cls).before a0 Z = true) (w4 : (Jvm.Cond.code y bytes' maxL none).before a0 Z = true) (hy : y.cls ≠ "java/lang/invoke/MethodHandle" ∧ y.cls ≠ "java/lang/invoke/VarHandle")
    (K : Ct l y bytes' maxL none [] rm Z h n0 (.ref a :: argsL).toArray Q) (hf : rm.frames + 1 ≤ R.frames) (hl : W + (maxL + 11) + rm.locals ≤ R.locals) (hL : L.size = ml) (hst : st = argsL.reverse ++ .ref a :: rest) (hsig : parseMethodDescriptor y.desc = some ⟨ps, r'⟩) (hlen : argsL.length = ps.length) (hW : (rest.map fun v => v.category).sum ≤ W)
    (hd : decode bytes pc = .ok (.invokespecial i, 3)) (hq : pc + 3 = q) (hc : cells + rm.cells ≤ R.cells) (hs : slots + rm.slots ≤ R.slots) (k : ∀ T' h' v, St p l e R s m args below meth c Z own bytes ml n0 ret nm T' h' (cells + rm.cells) (slots + rm.slots) → Q v h' → Wp p e below PO T' (mkF m q L (v.toList ++ rest))) : Wp p e below PO T (mkF m pc L st) := by
  subst hq
  obtain ⟨locs, X, N, eT, hx, hZ, hown, hby, hml, hlk, hn, hrt, hnm⟩ := S
  have hb0 := backOf (R := R) (s := s) (p := p) (e := e) (below := below) (args := args) (len := 3) (W := W) (Q := fun v h L => Q v h ∧ Fr n0 L) K hZ w4 w3 hf hl
  obtain ⟨v, vm, ⟨T', L', k', n'⟩, hwm, X', ⟨Lc, hQ, l1, y1, z1⟩, st1⟩ := X.specialBack hx (y := y) hy1 hown (mvT hZ w1) (mvT hZ w2) (mvT hZ w4) hy hb0 (g := mkF m pc L st) rfl (by rw [hml]; exact hL) (Steps.refl _) (a := a) (argsL := argsL) (rest := rest) (lenOf hsig hlen) hst (by show 2 * 0 + _ ≤ _; omega) (hb hby hd) (fun _ _ => ⟨rfl, eT, hc, hs⟩)
  dsimp only [Pt.U, Pt.locs, Pt.cells, Pt.slots] at X' l1 y1 z1 st1 hQ
  subst l1 y1 z1
  exact o_to (fun t r => st1.trans r) (k T' T'.heap v ⟨_, X', N.app hQ.2, rfl, hx, hZ, hown, hby, hml, hlk, hn, hrt, hnm⟩ hQ.1)
theorem o_callV (S : St p l e R s m args below meth c Z own bytes ml n0 ret nm T h cells slots) {i : Nat} {y : MethodName} {bytes' : ByteArray} {maxL : Nat} {ret' : Option FieldType} {rm : Room} {W : Nat} {argsL rest : List Value} {Q : Option Value → Heap → Prop} {ps : List FieldType} {r' : Option FieldType} {a : Addr} {z : MethodName} {C : String}
    (w1 : (Jvm.Cond.methodLink own i y).before a0 Z = true) (w2 : (Jvm.Cond.declares y).before a0 Z = true) (w5 : (Jvm.Cond.selects C y z).before a0 Z = true) (w6 : (Jvm.Cond.instanceMethod z).before a0 Z = true) (w3 : (Jvm.Cond.initialized z.cls).before a0 Z = true) (w4 : (Jvm.Cond.code z bytes' maxL ret').before a0 Z = true) (nf : ∀ s' : State, Z.Warmed39 s'.vm → NotFace s' y) (hy : y.cls ≠ "java/lang/invoke/MethodHandle" ∧ y.cls ≠ "java/lang/invoke/VarHandle")
    (E : Exa Z h a C) (K : Ct l z bytes' maxL ret' [] rm Z h n0 (.ref a :: argsL).toArray Q) (hf : rm.frames + 1 ≤ R.frames) (hl : W + (maxL + 11) + rm.locals ≤ R.locals) (hL : L.size = ml) (hst : st = argsL.reverse ++ .ref a :: rest) (hsig : parseMethodDescriptor y.desc = some ⟨ps, r'⟩) (hlen : argsL.length = ps.length) (hW : (rest.map fun v => v.category).sum ≤ W)
    (hd : decode bytes pc = .ok (.invokevirtual i, 3)) (hq : pc + 3 = q) (hc : cells + rm.cells ≤ R.cells) (hs : slots + rm.slots ≤ R.slots) (k : ∀ T' h' v, St p l e R s m args below meth c Z own bytes ml n0 ret nm T' h' (cells + rm.cells) (slots + rm.slots) → Q v h' → Wp p e below PO T' (mkF m q L (v.toList ++ rest))) : Wp p e below PO T (mkF m pc L st) := by
  subst hq
  obtain ⟨locs, X, N, eT, hx, hZ, hown, hby, hml, hlk, hn, hrt, hnm⟩ := S
  have hb0 := backOf (R := R) (s := s) (p := p) (e := e) (below := below) (args := args) (len := 3) (W := W) (Q := fun v h L => Q v h ∧ Fr n0 L) K hZ w4 w3 hf hl
  obtain ⟨cq, kq, qa, qb, qc⟩ := isOf hZ eT E
  obtain ⟨v, vm, ⟨T', L', k', n'⟩, hwm, X', ⟨Lc, hQ, l1, y1, z1⟩, st1⟩ := X.virtualBack hx (y := y) (z := z) hown (mvT hZ w1) (mvT hZ w2) (nf s hZ) (mvT hZ w5) (mvT hZ w6) hy hb0 qa qc (g := mkF m pc L st) rfl (by rw [hml]; exact hL) (Steps.refl _) (argsL := argsL) (rest := rest) (lenOf hsig hlen) hst (by show 2 * 0 + _ ≤ _; omega) (hb hby hd) (fun _ _ => ⟨rfl, eT, hc, hs⟩)
  dsimp only [Pt.U, Pt.locs, Pt.cells, Pt.slots] at X' l1 y1 z1 st1 hQ
  subst l1 y1 z1
  exact o_to (fun t r => st1.trans r) (k T' T'.heap v ⟨_, X', N.app hQ.2, rfl, hx, hZ, hown, hby, hml, hlk, hn, hrt, hnm⟩ hQ.1)
theorem o_nf {y : MethodName} {C : String} (w : (Jvm.Cond.selects C y y).before a0 Z = true) : ∀ s' : State, Z.Warmed39 s'.vm → NotFace s' y := fun s' hZ => notFace_of_selects (args := #[]) (mvT hZ w)
theorem o_callP (S : St p l e R s m args below meth c Z own bytes ml n0 ret nm T h cells slots) {i : Nat} {y : MethodName} {bytes' : ByteArray} {maxL : Nat} {ret' : Option FieldType} {rm : Room} {W : Nat} {argsL rest : List Value} {Q : Option Value → Heap → Prop} {ps : List FieldType} {r' : Option FieldType} {a : Addr}
    (w1 : (Jvm.Cond.methodLink own i y).before a0 Z = true) (w2 : (Jvm.Cond.instanceMethod y).before a0 Z = true) (w5 : (Jvm.Cond.selects y.cls y y).before a0 Z = true) (w6 : (Jvm.Cond.privateMethod y).before a0 Z = true) (w3 : (Jvm.Cond.initialized y.cls).before a0 Z = true) (w4 : (Jvm.Cond.code y bytes' maxL ret').before a0 Z = true) (hy : y.cls ≠ "java/lang/invoke/MethodHandle" ∧ y.cls ≠ "java/lang/invoke/VarHandle")
    (E : Exa Z h a y.cls) (K : Ct l y bytes' maxL ret' [] rm Z h n0 (.ref a :: argsL).toArray Q) (hf : rm.frames + 1 ≤ R.frames) (hl : W + (maxL + 11) + rm.locals ≤ R.locals) (hL : L.size = ml) (hst : st = argsL.reverse ++ .ref a :: rest) (hsig : parseMethodDescriptor y.desc = some ⟨ps, r'⟩) (hlen : argsL.length = ps.length) (hW : (rest.map fun v => v.category).sum ≤ W)
    (hd : decode bytes pc = .ok (.invokevirtual i, 3)) (hq : pc + 3 = q) (hc : cells + rm.cells ≤ R.cells) (hs : slots + rm.slots ≤ R.slots) (k : ∀ T' h' v, St p l e R s m args below meth c Z own bytes ml n0 ret nm T' h' (cells + rm.cells) (slots + rm.slots) → Q v h' → Wp p e below PO T' (mkF m q L (v.toList ++ rest))) : Wp p e below PO T (mkF m pc L st) := by
  subst hq
  obtain ⟨locs, X, N, eT, hx, hZ, hown, hby, hml, hlk, hn, hrt, hnm⟩ := S
  have hb0 := backOf (R := R) (s := s) (p := p) (e := e) (below := below) (args := args) (len := 3) (W := W) (Q := fun v h L => Q v h ∧ Fr n0 L) K hZ w4 w3 hf hl
  obtain ⟨cq, qa, qb⟩ := E.cell
  obtain ⟨v, vm, ⟨T', L', k', n'⟩, hwm, X', ⟨Lc, hQ, l1, y1, z1⟩, st1⟩ := X.privateBack hx (y := y) hown (mvT hZ w1) (mvT hZ w2) (mvT hZ w5) (Cond.privateMethod_at (mvP hZ w6 (args := #[]))) (mvT hZ w4) hy hb0 (g := mkF m pc L st) rfl (by rw [hml]; exact hL) (Steps.refl _) (a := a) (by rw [eT]; exact qa) qb (argsL := argsL) (rest := rest) (lenOf hsig hlen) hst (by show 2 * 0 + _ ≤ _; omega) (hb hby hd) (fun _ _ => ⟨rfl, eT, hc, hs⟩)
  dsimp only [Pt.U, Pt.locs, Pt.cells, Pt.slots] at X' l1 y1 z1 st1 hQ
  subst l1 y1 z1
  exact o_to (fun t r => st1.trans r) (k T' T'.heap v ⟨_, X', N.app hQ.2, rfl, hx, hZ, hown, hby, hml, hlk, hn, hrt, hnm⟩ hQ.1)
theorem o_callS0 (S : St p l e R s m args below meth c Z own bytes ml n0 ret nm T h cells slots) {i : Nat} {y : MethodName} {bytes' : ByteArray} {maxL : Nat} {ret' : Option FieldType} {rm : Room} {W : Nat} {argsL rest : List Value} {ps : List FieldType} {r' : Option FieldType} {st' : List Value} {r : Option Value} 
    (w1 : (Jvm.Cond.methodLink own i y).before a0 Z = true) (w2 : (Jvm.Cond.static y).before a0 Z = true) (w3 : (Jvm.Cond.initialized y.cls).before a0 Z = true) (w4 : (Jvm.Cond.code y bytes' maxL ret').before a0 Z = true) (hy : y.cls ≠ "java/lang/invoke/MethodHandle" ∧ y.cls ≠ "java/lang/invoke/VarHandle")
    (K : Ct l y bytes' maxL ret' [] rm Z h n0 argsL.toArray (Qp r h)) (hf : rm.frames + 1 ≤ R.frames) (hl : W + (maxL + 11) + rm.locals ≤ R.locals) (hL : L.size = ml) (hst : st = argsL.reverse ++ rest) (hsig : parseMethodDescriptor y.desc = some ⟨ps, r'⟩) (hlen : argsL.length = ps.length) (hW : (rest.map fun v => v.category).sum ≤ W)
    (hd : decode bytes pc = .ok (.invokestatic i, 3)) (hq : pc + 3 = q) (hc : cells + rm.cells ≤ R.cells) (hs : slots + rm.slots ≤ R.slots) (hst' : r.toList ++ rest = st') (k : ∀ T', St p l e R s m args below meth c Z own bytes ml n0 ret nm T' h (cells + rm.cells) (slots + rm.slots) → Wp p e below PO T' (mkF m q L st')) : Wp p e below PO T (mkF m pc L st) := by
  subst hst'
  exact o_callS S w1 w2 w3 w4 hy K hf hl hL hst hsig hlen hW hd hq hc hs (fun T' h' v S' hQ => by obtain ⟨hv, hh⟩ := hQ; subst hv; rw [hh] at S'; exact k T' S')
theorem o_callI0 (S : St p l e R s m args below meth c Z own bytes ml n0 ret nm T h cells slots) {i : Nat} {y : MethodName} {bytes' : ByteArray} {maxL : Nat} {rm : Room} {W : Nat} {argsL rest : List Value} {ps : List FieldType} {r' : Option FieldType} {st' : List Value} {r : Option Value} {a : Addr} (hy1 : y.name = "<init>")
    (w1 : (Jvm.Cond.methodLink own i y).before a0 Z = true) (w2 : (Jvm.Cond.instanceMethod y).before a0 Z = true) (w3 : (Jvm.Cond.initialized y.cls).before a0 Z = true) (w4 : (Jvm.Cond.code y bytes' maxL none).before a0 Z = true) (hy : y.cls ≠ "java/lang/invoke/MethodHandle" ∧ y.cls ≠ "java/lang/invoke/VarHandle")
    (K : Ct l y bytes' maxL none [] rm Z h n0 (.ref a :: argsL).toArray (Qp r h)) (hf : rm.frames + 1 ≤ R.frames) (hl : W + (maxL + 11) + rm.locals ≤ R.locals) (hL : L.size = ml) (hst : st = argsL.reverse ++ .ref a :: rest) (hsig : parseMethodDescriptor y.desc = some ⟨ps, r'⟩) (hlen : argsL.length = ps.length) (hW : (rest.map fun v => v.category).sum ≤ W)
    (hd : decode bytes pc = .ok (.invokespecial i, 3)) (hq : pc + 3 = q) (hc : cells + rm.cells ≤ R.cells) (hs : slots + rm.slots ≤ R.slots) (hst' : r.toList ++ rest = st') (k : ∀ T', St p l e R s m args below meth c Z own bytes ml n0 ret nm T' h (cells + rm.cells) (slots + rm.slots) → Wp p e below PO T' (mkF m q L st')) : Wp p e below PO T (mkF m pc L st) := by
  subst hst'
  exact o_callI S hy1 w1 w2 w3 w4 hy K hf hl hL hst hsig hlen hW hd hq hc hs (fun T' h' v S' hQ => by obtain ⟨hv, hh⟩ := hQ; subst hv; rw [hh] at S'; exact k T' S')
theorem o_callV0 (S : St p l e R s m args below meth c Z own bytes ml n0 ret nm T h cells slots) {i : Nat} {y : MethodName} {bytes' : ByteArray} {maxL : Nat} {ret' : Option FieldType} {rm : Room} {W : Nat} {argsL rest : List Value} {ps : List FieldType} {r' : Option FieldType} {st' : List Value} {r : Option Value} {a : Addr} {z : MethodName} {C : String}
    (w1 : (Jvm.Cond.methodLink own i y).before a0 Z = true) (w2 : (Jvm.Cond.declares y).before a0 Z = true) (w5 : (Jvm.Cond.selects C y z).before a0 Z = true) (w6 : (Jvm.Cond.instanceMethod z).before a0 Z = true) (w3 : (Jvm.Cond.initialized z.cls).before a0 Z = true) (w4 : (Jvm.Cond.code z bytes' maxL ret').before a0 Z = true) (nf : ∀ s' : State, Z.Warmed39 s'.vm → NotFace s' y) (hy : y.cls ≠ "java/lang/invoke/MethodHandle" ∧ y.cls ≠ "java/lang/invoke/VarHandle")
    (E : Exa Z h a C) (K : Ct l z bytes' maxL ret' [] rm Z h n0 (.ref a :: argsL).toArray (Qp r h)) (hf : rm.frames + 1 ≤ R.frames) (hl : W + (maxL + 11) + rm.locals ≤ R.locals) (hL : L.size = ml) (hst : st = argsL.reverse ++ .ref a :: rest) (hsig : parseMethodDescriptor y.desc = some ⟨ps, r'⟩) (hlen : argsL.length = ps.length) (hW : (rest.map fun v => v.category).sum ≤ W)
    (hd : decode bytes pc = .ok (.invokevirtual i, 3)) (hq : pc + 3 = q) (hc : cells + rm.cells ≤ R.cells) (hs : slots + rm.slots ≤ R.slots) (hst' : r.toList ++ rest = st') (k : ∀ T', St p l e R s m args below meth c Z own bytes ml n0 ret nm T' h (cells + rm.cells) (slots + rm.slots) → Wp p e below PO T' (mkF m q L st')) : Wp p e below PO T (mkF m pc L st) := by
  subst hst'
  exact o_callV S w1 w2 w5 w6 w3 w4 nf hy E K hf hl hL hst hsig hlen hW hd hq hc hs (fun T' h' v S' hQ => by obtain ⟨hv, hh⟩ := hQ; subst hv; rw [hh] at S'; exact k T' S')
theorem o_callP0 (S : St p l e R s m args below meth c Z own bytes ml n0 ret nm T h cells slots) {i : Nat} {y : MethodName} {bytes' : ByteArray} {maxL : Nat} {ret' : Option FieldType} {rm : Room} {W : Nat} {argsL rest : List Value} {ps : List FieldType} {r' : Option FieldType} {st' : List Value} {r : Option Value} {a : Addr}
    (w1 : (Jvm.Cond.methodLink own i y).before a0 Z = true) (w2 : (Jvm.Cond.instanceMethod y).before a0 Z = true) (w5 : (Jvm.Cond.selects y.cls y y).before a0 Z = true) (w6 : (Jvm.Cond.privateMethod y).before a0 Z = true) (w3 : (Jvm.Cond.initialized y.cls).before a0 Z = true) (w4 : (Jvm.Cond.code y bytes' maxL ret').before a0 Z = true) (hy : y.cls ≠ "java/lang/invoke/MethodHandle" ∧ y.cls ≠ "java/lang/invoke/VarHandle")
    (E : Exa Z h a y.cls) (K : Ct l y bytes' maxL ret' [] rm Z h n0 (.ref a :: argsL).toArray (Qp r h)) (hf : rm.frames + 1 ≤ R.frames) (hl : W + (maxL + 11) + rm.locals ≤ R.locals) (hL : L.size = ml) (hst : st = argsL.reverse ++ .ref a :: rest) (hsig : parseMethodDescriptor y.desc = some ⟨ps, r'⟩) (hlen : argsL.length = ps.length) (hW : (rest.map fun v => v.category).sum ≤ W)
    (hd : decode bytes pc = .ok (.invokevirtual i, 3)) (hq : pc + 3 = q) (hc : cells + rm.cells ≤ R.cells) (hs : slots + rm.slots ≤ R.slots) (hst' : r.toList ++ rest = st') (k : ∀ T', St p l e R s m args below meth c Z own bytes ml n0 ret nm T' h (cells + rm.cells) (slots + rm.slots) → Wp p e below PO T' (mkF m q L st')) : Wp p e below PO T (mkF m pc L st) := by
  subst hst'
  exact o_callP S w1 w2 w5 w6 w3 w4 hy E K hf hl hL hst hsig hlen hW hd hq hc hs (fun T' h' v S' hQ => by obtain ⟨hv, hh⟩ := hQ; subst hv; rw [hh] at S'; exact k T' S')
/-! the heap -/
theorem o_initO (S : St p l e R s m args below meth c Z own bytes ml n0 ret nm T h cells slots) {i W : Nat} {a : Addr} (w1 : (Jvm.Cond.methodLink own i Lib.objectInit).before a0 Z = true) (w2 : (Jvm.Cond.instanceMethod Lib.objectInit).before a0 Z = true) (w3 : (Jvm.Cond.code Lib.objectInit ⟨#[0xb1]⟩ 1 none).before a0 Z = true) (hL : L.size = ml) (hd : decode bytes pc = .ok (.invokespecial i, 3)) (hq : pc + 3 = q) (hf : 1 ≤ R.frames) (hW : (st.map fun v => v.category).sum ≤ W) (hl : W + 12 ≤ R.locals)
    (k : ∀ T', St p l e R s m args below meth c Z own bytes ml n0 ret nm T' h cells slots → Wp p e below PO T' (mkF m q L st)) : Wp p e below PO T (mkF m pc L (.ref a :: st)) := by
  subst hq
  obtain ⟨locs, X, N, eT, hx, hZ, hown, hby, hml, hlk, hn, hrt, hnm⟩ := S
  obtain ⟨T', X', e', st'⟩ := initO X hx hZ hown w1 w2 w3 eT (g := mkF m pc L (.ref a :: st)) rfl (by rw [hml]; exact hL) rfl (hb hby hd) hf (W := W) (by show 2 * 0 + _ ≤ _; omega) hl
  exact o_to st' (k T' ⟨_, X', N, e', hx, hZ, hown, hby, hml, hlk, hn, hrt, hnm⟩)
theorem o_getF (S : St p l e R s m args below meth c Z own bytes ml n0 ret nm T h cells slots) {i : Nat} {R0 O n d : String} {a : Addr} {v : Value} (w : (Jvm.Cond.fieldLink own i R0 n d).before a0 Z = true) (via : Via Z R0 O n d) (F : Fld Z h a O n d v) (hd : decode bytes pc = .ok (.getfield i, 3)) (hq : pc + 3 = q)
    (k : ∀ T', St p l e R s m args below meth c Z own bytes ml n0 ret nm T' h cells slots → Wp p e below PO T' (mkF m q L (v :: st))) : Wp p e below PO T (mkF m pc L (.ref a :: st)) := by
  subst hq
  obtain ⟨locs, X, N, eT, hx, hZ, hown, hby, hml, hlk, hn, hrt, hnm⟩ := S
  obtain ⟨T', X', e', st'⟩ := getF X hx hZ hown (host := "") (Or.inl w) via eT F (g := mkF m pc L (.ref a :: st)) rfl rfl (hb hby hd)
  exact o_to st' (k T' ⟨_, X', N, e', hx, hZ, hown, hby, hml, hlk, hn, hrt, hnm⟩)
theorem o_putF (S : St p l e R s m args below meth c Z own bytes ml n0 ret nm T h cells slots) {i kk : Nat} {R0 O n d C : String} {ty : FieldType} {a : Addr} {v old : Value} (w : (Jvm.Cond.fieldLink own i R0 n d).before a0 Z = true) (via : Via Z R0 O n d) (F : Fld Z h a O n d old) (E : Exa Z h a C) (Lw : (Jvm.Cond.lays C O n d).before a0 Z = true ∨ ((Jvm.Cond.laysFinal C O n d).before a0 Z = true ∧ own = O ∧ nm = "<init>")) (wi : (Jvm.Cond.instantiable C kk).before a0 Z = true) (hty : parseFieldDescriptor d = some ty) (hn' : narrow ty v = v) (hf : fits ty v = true) (ga : n0 ≤ a) (hd : decode bytes pc = .ok (.putfield i, 3)) (hq : pc + 3 = q)
    (k : ∀ T' h', St p l e R s m args below meth c Z own bytes ml n0 ret nm T' h' cells slots → Wr h h' a (Jvm.RoadKit.slotOf Z O n d) v → Fld Z h' a O n d v → Wp p e below PO T' (mkF m q L st)) : Wp p e below PO T (mkF m pc L (v :: .ref a :: st)) := by
  subst hq
  obtain ⟨locs, X, N, eT, hx, hZ, hown, hby, hml, hlk, hn, hrt, hnm⟩ := S
  obtain ⟨T', h', X', e', W', st'⟩ := putF X hx hZ hown (host := "") (Or.inl w) via eT F E (Lw.imp id fun q => ⟨q.1, q.2.1, by rw [hnm]; exact q.2.2⟩) wi hty hn' hf (g := mkF m pc L (v :: .ref a :: st)) rfl rfl (hb hby hd)
  exact o_to st' (k T' h' ⟨_, X', Fr.snoc X' N ga, e', hx, hZ, hown, hby, hml, hlk, hn, hrt, hnm⟩ W' (F.same W'))
theorem o_new (S : St p l e R s m args below meth c Z own bytes ml n0 ret nm T h cells slots) {i n : Nat} {C : String} (w : (Jvm.Cond.classLink own i C).before a0 Z = true) (wi : (Jvm.Cond.instantiable C n).before a0 Z = true) (wz : (Jvm.Cond.initialized C).before a0 Z = true) (hd : decode bytes pc = .ok (.new i, 3)) (hq : pc + 3 = q) (hc : cells + 1 ≤ R.cells) (hl : slots + n ≤ R.slots)
    (k : ∀ T' h' a, St p l e R s m args below meth c Z own bytes ml n0 ret nm T' h' (cells + 1) (slots + n) → a = h.size → n0 ≤ a → Ext h h' → Exa Z h' a C → (∀ {O nm d : String} {ty : FieldType}, Laid Z a0 C O nm d → parseFieldDescriptor d = some ty → Fld Z h' a O nm d (defaultValue ty)) → Wp p e below PO T' (mkF m q L (.ref a :: st))) : Wp p e below PO T (mkF m pc L st) := by
  have g0 := o_n0 S
  subst hq
  obtain ⟨locs, X, N, eT, hx, hZ, hown, hby, hml, hlk, hn, hrt, hnm⟩ := S
  obtain ⟨T', h', X', e', E', A', D', -, st'⟩ := newO X hx hZ hown w wi wz eT (g := mkF m pc L st) rfl (hb hby hd) hc hl
  exact o_to st' (k T' h' h.size ⟨_, X', N, e', hx, hZ, hown, hby, hml, hlk, hn, hrt, hnm⟩ rfl g0 E' A' D')
/-! arrays of ints (bytes, booleans ..): the list of what they hold -/
def IA (Z : State) (h : Heap) (a : Addr) (ty : FieldType) (xs : List Int32) : Prop := ∃ c : Cell, Arr Z h a c ty ∧ c.slots.size = xs.length ∧ xs.length < 2147483648 ∧ (∀ i, i < xs.length → c.slots[i]? = some (.int (xs.getD i 0))) ∧ ∀ i, i < xs.length → fits ty (.int (xs.getD i 0)) = true
theorem IA.lt {a : Addr} {ty : FieldType} {xs : List Int32} (F : IA Z h a ty xs) : a < h.size := by obtain ⟨c, A, -⟩ := F; exact A.lt
theorem IA.ext {h' : Heap} {a : Addr} {ty : FieldType} {xs : List Int32} (F : IA Z h a ty xs) (E : Ext h h') : IA Z h' a ty xs := by obtain ⟨c, A, r⟩ := F; exact ⟨c, A.ext E, r⟩
theorem IA.other {h' : Heap} {a b : Addr} {sl : Nat} {v : Value} {ty : FieldType} {xs : List Int32} (F : IA Z h b ty xs) (W : Wr h h' a sl v) (q : b ≠ a) : IA Z h' b ty xs := by obtain ⟨c, A, r⟩ := F; exact ⟨c, A.other W q, r⟩
theorem IA.keep {h' : Heap} {a : Addr} {ws : List Addr} {ty : FieldType} {xs : List Int32} (F : IA Z h a ty xs) (K : Keep h h' ws) (q : a ∉ ws) : IA Z h' a ty xs := by obtain ⟨c, A, r⟩ := F; exact ⟨c, ⟨K.2.1 a c A.1 q, A.2⟩, r⟩
theorem IA.len {a : Addr} {ty : FieldType} {xs : List Int32} (F : IA Z h a ty xs) : xs.length < 2147483648 := by obtain ⟨c, A, h1, h2, -⟩ := F; exact h2
theorem o_nat {j : Int32} (h0 : 0 ≤ j.toInt) : ¬ j < 0 ∧ (j.toNatClampNeg : Int) = j.toInt := by
  have h1 : ¬ j < 0 := fun q => by have := Int32.lt_iff_toInt_lt.mp q; have : (0 : Int32).toInt = 0 := rfl; omega
  exact ⟨h1, (nat_of h1).symm⟩
theorem o_inb {j : Int32} {n N : Nat} (h0 : 0 ≤ j.toInt) (h1 : j.toInt < n) (hN : N = n) : ¬ (j < 0 ∨ N ≤ j.toNatClampNeg) := by
  obtain ⟨g1, g2⟩ := o_nat h0
  rintro (q | q)
  · exact g1 q
  · omega
theorem IA.set {h' : Heap} {a : Addr} {ty : FieldType} {xs : List Int32} {j x : Int32} (F : IA Z h a ty xs) (W : Wr h h' a j.toNatClampNeg (.int x)) (hf : fits ty (.int x) = true) : IA Z h' a ty (xs.set j.toNatClampNeg x) := by
  obtain ⟨c, A, h1, h2, h3, h4⟩ := F
  refine ⟨c.setSlot j.toNatClampNeg (.int x), A.same W, by rw [sz_set, h1]; simp, by simpa using h2, fun i hi => ?_, fun i hi => ?_⟩
  · rw [List.length_set] at hi
    by_cases q : j.toNatClampNeg = i
    · subst q
      have : j.toNatClampNeg < c.slots.size := by rw [h1]; exact hi
      simp [Cell.setSlot, this, hi, List.getD_eq_getElem?_getD]
    · have := h3 i hi
      simp only [Cell.setSlot, Array.getElem?_setIfInBounds_ne q, this, List.getD_eq_getElem?_getD, List.getElem?_set_ne q]
  · rw [List.length_set] at hi
    by_cases q : j.toNatClampNeg = i
    · subst q; simpa [hi, List.getD_eq_getElem?_getD] using hf
    · have := h4 i hi
      simpa only [List.getD_eq_getElem?_getD, List.getElem?_set_ne q] using this
theorem IA.new {a : Addr} {ty : FieldType} {k : ClassId} {n : Int32} (A : Arr Z h a (newA k ty n) ty) (hn : ¬ n < 0) (hd : defaultValue ty = .int 0) (hf : fits ty (.int 0) = true) : IA Z h a ty (List.replicate n.toNatClampNeg 0) := by
  have := (back32 hn).2
  refine ⟨_, A, by simp [newA], by simpa using this, fun i hi => ?_, fun i hi => ?_⟩
  · have hi' : i < n.toNatClampNeg := by simpa using hi
    simp [newA, hd, hi', List.getD_eq_getElem?_getD]
  · have hi' : i < n.toNatClampNeg := by simpa using hi
    simpa [List.getD_eq_getElem?_getD, hi'] using hf
theorem o_newarr (S : St p l e R s m args below meth c Z own bytes ml n0 ret nm T h cells slots) {aty : ArrayType} {n : Int32} {cap : Nat} (w : (Jvm.Cond.arrayClass (newarray.typeOf aty)).before a0 Z = true) (hd : decode bytes pc = .ok (.newarray aty, 2)) (hq : pc + 2 = q) (hn0 : 0 ≤ n.toInt) (hcap : n.toInt ≤ cap) (hb8 : cap * 8 ≤ 536870912) (hc : cells + 1 ≤ R.cells) (hl : slots + cap ≤ R.slots)
    (k : ∀ T' h' a cA, St p l e R s m args below meth c Z own bytes ml n0 ret nm T' h' (cells + 1) (slots + cap) → a = h.size → n0 ≤ a → Ext h h' → Arr Z h' a (newA cA (newarray.typeOf aty) n) (newarray.typeOf aty) → Wp p e below PO T' (mkF m q L (.ref a :: st))) : Wp p e below PO T (mkF m pc L (.int n :: st)) := by
  have g0 := o_n0 S
  obtain ⟨g1, g2⟩ := o_nat hn0
  subst hq
  obtain ⟨locs, X, N, eT, hx, hZ, hown, hby, hml, hlk, hn, hrt, hnm⟩ := S
  obtain ⟨T', h', cA, X', e', E', A', st'⟩ := newP X hx hZ w eT (g := mkF m pc L (.int n :: st)) rfl (hb hby hd) rfl g1 (cap := cap) (by omega) hb8 hc hl
  exact o_to st' (k T' h' h.size cA ⟨_, X', N, e', hx, hZ, hown, hby, hml, hlk, hn, hrt, hnm⟩ rfl g0 E' A')
theorem o_iaload (S : St p l e R s m args below meth c Z own bytes ml n0 ret nm T h cells slots) {a : Addr} {j v : Int32} {xs : List Int32} (F : IA Z h a .int xs) (h0 : 0 ≤ j.toInt) (h1 : j.toInt < xs.length) (hv : xs.getD j.toNatClampNeg 0 = v) (hd : decode bytes pc = .ok (.iaload, 1)) (hq : pc + 1 = q) (k : Wp p e below PO T (mkF m q L (.int v :: st))) : Wp p e below PO T (mkF m pc L (.int j :: .ref a :: st)) := by
  subst hq hv
  obtain ⟨locs, X, N, eT, hx, hZ, hown, hby, hml, hlk, hn, hrt, hnm⟩ := S
  obtain ⟨cl, A, g1, g2, g3, g4⟩ := F
  have g5 := (o_nat h0).2
  exact o_to (X.iaload hx (j := j) (by rw [eT]; exact A.1) (State.isArrayOf_alike hZ.alike A.2.1) A.2.2 (o_inb h0 h1 g1) (g3 _ (by omega)) (g := mkF m pc L (.int j :: .ref a :: st)) rfl rfl (hb hby hd)) k
theorem o_baload (S : St p l e R s m args below meth c Z own bytes ml n0 ret nm T h cells slots) {a : Addr} {j v : Int32} {xs : List Int32} (F : IA Z h a .byte xs) (h0 : 0 ≤ j.toInt) (h1 : j.toInt < xs.length) (hv : xs.getD j.toNatClampNeg 0 = v) (hd : decode bytes pc = .ok (.baload, 1)) (hq : pc + 1 = q) (k : Wp p e below PO T (mkF m q L (.int v :: st))) : Wp p e below PO T (mkF m pc L (.int j :: .ref a :: st)) := by
  subst hq hv
  obtain ⟨locs, X, N, eT, hx, hZ, hown, hby, hml, hlk, hn, hrt, hnm⟩ := S
  obtain ⟨cl, A, g1, g2, g3, g4⟩ := F
  have g5 := (o_nat h0).2
  exact o_to (X.baloadBytes hx (j := j) (by rw [eT]; exact A.1) (State.isArrayOf_alike hZ.alike A.2.1) A.2.2 (o_inb h0 h1 g1) (g3 _ (by omega)) (g := mkF m pc L (.int j :: .ref a :: st)) rfl rfl (hb hby hd)) k
theorem o_iastore (S : St p l e R s m args below meth c Z own bytes ml n0 ret nm T h cells slots) {a : Addr} {j x y : Int32} {xs ys : List Int32} (F : IA Z h a .int xs) (h0 : 0 ≤ j.toInt) (h1 : j.toInt < xs.length) (ga : n0 ≤ a) (hx' : x = y) (hys : xs.set j.toNatClampNeg y = ys) (hd : decode bytes pc = .ok (.iastore, 1)) (hq : pc + 1 = q) (k : ∀ T' h', St p l e R s m args below meth c Z own bytes ml n0 ret nm T' h' cells slots → Wr h h' a j.toNatClampNeg (.int y) → IA Z h' a .int ys → Wp p e below PO T' (mkF m q L st)) : Wp p e below PO T (mkF m pc L (.int x :: .int j :: .ref a :: st)) := by
  subst hq hys hx'
  obtain ⟨locs, X, N, eT, hx, hZ, hown, hby, hml, hlk, hn, hrt, hnm⟩ := S
  have F' := F
  obtain ⟨cl, A, g1, g2, g3, g4⟩ := F
  obtain ⟨T', h', X', e', W', st'⟩ := stI X hx hZ eT A (j := j) (x := x) (o_inb h0 h1 g1) (g := mkF m pc L (.int x :: .int j :: .ref a :: st)) rfl rfl (hb hby hd)
  exact o_to st' (k T' h' ⟨_, X', Fr.snoc X' N ga, e', hx, hZ, hown, hby, hml, hlk, hn, hrt, hnm⟩ W' (F'.set W' rfl))
theorem o_bastore (S : St p l e R s m args below meth c Z own bytes ml n0 ret nm T h cells slots) {a : Addr} {j x y : Int32} {xs ys : List Int32} (F : IA Z h a .byte xs) (h0 : 0 ≤ j.toInt) (h1 : j.toInt < xs.length) (ga : n0 ≤ a) (hx' : x.toInt8.toInt32 = y) (hys : xs.set j.toNatClampNeg y = ys) (hd : decode bytes pc = .ok (.bastore, 1)) (hq : pc + 1 = q) (k : ∀ T' h', St p l e R s m args below meth c Z own bytes ml n0 ret nm T' h' cells slots → Wr h h' a j.toNatClampNeg (.int y) → IA Z h' a .byte ys → Wp p e below PO T' (mkF m q L st)) : Wp p e below PO T (mkF m pc L (.int x :: .int j :: .ref a :: st)) := by
  subst hq hys hx'
  obtain ⟨locs, X, N, eT, hx, hZ, hown, hby, hml, hlk, hn, hrt, hnm⟩ := S
  have F' := F
  obtain ⟨cl, A, g1, g2, g3, g4⟩ := F
  obtain ⟨T', h', X', e', W', st'⟩ := stB X hx hZ eT A (j := j) (x := x) (o_inb h0 h1 g1) (g := mkF m pc L (.int x :: .int j :: .ref a :: st)) rfl rfl (hb hby hd)
  exact o_to st' (k T' h' ⟨_, X', Fr.snoc X' N ga, e', hx, hZ, hown, hby, hml, hlk, hn, hrt, hnm⟩ W' (F'.set W' (fits_nar_byte x)))
theorem o_arraylength (S : St p l e R s m args below meth c Z own bytes ml n0 ret nm T h cells slots) {a : Addr} {ty : FieldType} {xs : List Int32} {z : Int32} (F : IA Z h a ty xs) (hz : Int32.ofNat xs.length = z) (hd : decode bytes pc = .ok (.arraylength, 1)) (hq : pc + 1 = q) (k : Wp p e below PO T (mkF m q L (.int z :: st))) : Wp p e below PO T (mkF m pc L (.ref a :: st)) := by
  subst hq hz
  obtain ⟨locs, X, N, eT, hx, hZ, hown, hby, hml, hlk, hn, hrt, hnm⟩ := S
  obtain ⟨cl, A, g1, g2, g3, g4⟩ := F
  exact o_to (X.arraylength hx (by rw [eT]; exact A.1) (State.isArrayOf_alike hZ.alike A.2.1) (g := mkF m pc L (.ref a :: st)) rfl rfl (hb hby hd)) (by rw [g1]; exact k)
theorem o_bid {x : Int32} (h1 : -128 ≤ x.toInt) (h2 : x.toInt < 128) : x.toInt8.toInt32 = x := by
  rw [← Int32.toInt_inj]; have := c_i2b x; omega
theorem o_cid {x : Int32} (h1 : 0 ≤ x.toInt) (h2 : x.toInt < 65536) : x.toUInt32.toUInt16.toUInt32.toInt32 = x := by
  rw [← Int32.toInt_inj]; have := c_i2c x; omega
theorem o_i2bb (x : Int32) : x.toInt8.toInt32.toInt8.toInt32 = x.toInt8.toInt32 := o_bid (c_i2b x).2.1 (c_i2b x).2.2
theorem o_narB {x : Int32} (h1 : -128 ≤ x.toInt) (h2 : x.toInt < 128) : narrow .byte (.int x) = .int x := by show Value.int _ = _; rw [o_bid h1 h2]
theorem o_narC {x : Int32} (h1 : 0 ≤ x.toInt) (h2 : x.toInt < 65536) : narrow .char (.int x) = .int x := by show Value.int _ = _; rw [o_cid h1 h2]
theorem o_narZ {x : Int32} (h : x = 0 ∨ x = 1) : narrow .boolean (.int x) = .int x := by rcases h with rfl | rfl <;> rfl
theorem o_split64 (x M m : Int64) (h1 : M ||| m = -1) (h0 : M &&& m = 0) : (x &&& M) ||| (x &&& m) = x ∧ (x &&& M) &&& m = 0 := by
  refine ⟨?_, by rw [Int64.and_assoc, h0, Int64.and_zero]⟩
  have q : x &&& (M ||| m) = (x &&& M) ||| (x &&& m) := Int64.toBitVec_inj.1 BitVec.and_or_distrib_left
  rw [← q, h1, Int64.and_neg_one]
theorem o_ne32 {x y : Int32} (h : x.toInt ≠ y.toInt) : x ≠ y := fun q => h (by rw [q])
theorem o_eq32 {x y : Int32} (h : x.toInt = y.toInt) : x = y := Int32.toInt_inj.mp h
theorem o_newarrE (S : St p l e R s m args below meth c Z own bytes ml n0 ret nm T h cells slots) {aty : ArrayType} {n : Int32} {cap : Nat} {ad : String} (w : (Jvm.Cond.arrayClass (newarray.typeOf aty)).before a0 Z = true) (had : "[" ++ (newarray.typeOf aty).toString = ad) (hd : decode bytes pc = .ok (.newarray aty, 2)) (hq : pc + 2 = q) (hn0 : 0 ≤ n.toInt) (hcap : n.toInt ≤ cap) (hb8 : cap * 8 ≤ 536870912) (hc : cells + 1 ≤ R.cells) (hl : slots + cap ≤ R.slots)
    (k : ∀ T' h' a cA, St p l e R s m args below meth c Z own bytes ml n0 ret nm T' h' (cells + 1) (slots + cap) → a = h.size → n0 ≤ a → Ext h h' → Arr Z h' a (newA cA (newarray.typeOf aty) n) (newarray.typeOf aty) → Exa Z h' a ad → Wp p e below PO T' (mkF m q L (.ref a :: st))) : Wp p e below PO T (mkF m pc L (.int n :: st)) := by
  have g0 := o_n0 S
  obtain ⟨g1, g2⟩ := o_nat hn0
  subst hq
  obtain ⟨locs, X, N, eT, hx, hZ, hown, hby, hml, hlk, hn, hrt, hnm⟩ := S
  obtain ⟨T', h', cA, X', e', E', A', EE, st'⟩ := newPE X hx hZ w eT (g := mkF m pc L (.int n :: st)) rfl (hb hby hd) rfl g1 (cap := cap) (by omega) hb8 hc hl had
  exact o_to st' (k T' h' h.size cA ⟨_, X', N, e', hx, hZ, hown, hby, hml, hlk, hn, hrt, hnm⟩ rfl g0 E' A' EE)
theorem IA.fitC {a : Addr} {ty : FieldType} {xs : List Int32} {c : Cell} (A : Arr Z h a c ty) (h1 : c.slots.size = xs.length) (h3 : ∀ i, i < xs.length → c.slots[i]? = some (.int (xs.getD i 0))) (h4 : ∀ i, i < xs.length → fits ty (.int (xs.getD i 0)) = true) : FitC Z c := fitC_of A fun i hi v hv => by
  rw [h3 i (by omega)] at hv; cases hv; exact h4 i (by omega)
theorem o_clone (S : St p l e R s m args below meth c Z own bytes ml n0 ret nm T h cells slots) {i W cap : Nat} {ad : String} {a : Addr} {ty : FieldType} {xs : List Int32} (w1 : (Jvm.Cond.methodLink own i ⟨ad, "clone", "()Ljava/lang/Object;"⟩).before a0 Z = true) (w2 : (Jvm.Cond.sameMethod ad "java/lang/Object" "clone" "()Ljava/lang/Object;").before a0 Z = true) (w3 : (Jvm.Cond.native ⟨"java/lang/Object", "clone", "()Ljava/lang/Object;"⟩).before a0 Z = true) (w4 : (Jvm.Cond.instanceMethod ⟨"java/lang/Object", "clone", "()Ljava/lang/Object;"⟩).before a0 Z = true) (w5 : (Jvm.Cond.selects ad ⟨ad, "clone", "()Ljava/lang/Object;"⟩ ⟨"java/lang/Object", "clone", "()Ljava/lang/Object;"⟩).before a0 Z = true) (w6 : (Jvm.Cond.castable ad "java/lang/Cloneable").before a0 Z = true)
    (F : IA Z h a ty xs) (E : Exa Z h a ad) (hL : L.size = ml) (hd : decode bytes pc = .ok (.invokevirtual i, 3)) (hq : pc + 3 = q) (hf : 1 ≤ R.frames) (hW : (st.map fun v => v.category).sum ≤ W) (hl : W + 14 ≤ R.locals) (hcap : xs.length ≤ cap) (hc : cells + 1 ≤ R.cells) (hs : slots + cap ≤ R.slots)
    (k : ∀ T' h' b, St p l e R s m args below meth c Z own bytes ml n0 ret nm T' h' (cells + 1) (slots + cap) → b = h.size → n0 ≤ b → Ext h h' → IA Z h' b ty xs → Exa Z h' b ad → Wp p e below PO T' (mkF m q L (.ref b :: st))) : Wp p e below PO T (mkF m pc L (.ref a :: st)) := by
  have g0 := o_n0 S
  subst hq
  obtain ⟨locs, X, N, eT, hx, hZ, hown, hby, hml, hlk, hn, hrt, hnm⟩ := S
  obtain ⟨cl, A, h1, h2, h3, h4⟩ := F
  obtain ⟨T', h', X', e', Ex, A', E', st'⟩ := cloneA X hx hZ hown w1 w2 w3 w4 w5 w6 eT A E (IA.fitC A h1 h3 h4) (g := mkF m pc L (.ref a :: st)) rfl (by rw [hml]; exact hL) rfl (hb hby hd) hf (W := W) (cap := cap) (by show 2 * 0 + _ ≤ _; omega) hl (by omega) hc hs
  exact o_to st' (k T' h' h.size ⟨_, X', N, e', hx, hZ, hown, hby, hml, hlk, hn, hrt, hnm⟩ rfl g0 Ex ⟨_, A', h1, h2, h3, h4⟩ E')
theorem o_castY (S : St p l e R s m args below meth c Z own bytes ml n0 ret nm T h cells slots) {i : Nat} {K : String} {a : Addr} (w : (Jvm.Cond.classLink own i K).before a0 Z = true) (F : Ins Z h a K true) (hd : decode bytes pc = .ok (.checkcast i, 3)) (hq : pc + 3 = q) (k : ∀ T', St p l e R s m args below meth c Z own bytes ml n0 ret nm T' h cells slots → Wp p e below PO T' (mkF m q L (.ref a :: st))) : Wp p e below PO T (mkF m pc L (.ref a :: st)) := by
  subst hq
  obtain ⟨locs, X, N, eT, hx, hZ, hown, hby, hml, hlk, hn, hrt, hnm⟩ := S
  obtain ⟨T', X', e', st'⟩ := castY X hx hZ hown w eT F (g := mkF m pc L (.ref a :: st)) rfl rfl (hb hby hd)
  exact o_to st' (k T' ⟨_, X', N, e', hx, hZ, hown, hby, hml, hlk, hn, hrt, hnm⟩)
theorem o_instY (S : St p l e R s m args below meth c Z own bytes ml n0 ret nm T h cells slots) {i : Nat} {K : String} {a : Addr} (w : (Jvm.Cond.classLink own i K).before a0 Z = true) (F : Ins Z h a K true) (hd : decode bytes pc = .ok (.instanceof i, 3)) (hq : pc + 3 = q) (k : ∀ T', St p l e R s m args below meth c Z own bytes ml n0 ret nm T' h cells slots → Wp p e below PO T' (mkF m q L (.int 1 :: st))) : Wp p e below PO T (mkF m pc L (.ref a :: st)) := by
  subst hq
  obtain ⟨locs, X, N, eT, hx, hZ, hown, hby, hml, hlk, hn, hrt, hnm⟩ := S
  obtain ⟨T', X', e', st'⟩ := instY X hx hZ hown w eT F (g := mkF m pc L (.ref a :: st)) rfl rfl (hb hby hd)
  exact o_to st' (k T' ⟨_, X', N, e', hx, hZ, hown, hby, hml, hlk, hn, hrt, hnm⟩)
theorem o_instN (S : St p l e R s m args below meth c Z own bytes ml n0 ret nm T h cells slots) {i : Nat} {K C : String} {a : Addr} (w : (Jvm.Cond.classLink own i K).before a0 Z = true) (E : Exa Z h a C) (F : ∃ c t, Z.vm.findClass C = some c ∧ Z.vm.findClass K = some t ∧ Z.vm.assignable c t = false) (hd : decode bytes pc = .ok (.instanceof i, 3)) (hq : pc + 3 = q) (k : ∀ T', St p l e R s m args below meth c Z own bytes ml n0 ret nm T' h cells slots → Wp p e below PO T' (mkF m q L (.int 0 :: st))) : Wp p e below PO T (mkF m pc L (.ref a :: st)) := by
  subst hq
  obtain ⟨locs, X, N, eT, hx, hZ, hown, hby, hml, hlk, hn, hrt, hnm⟩ := S
  obtain ⟨T', X', e', st'⟩ := instNo X hx hZ hown w eT E F (g := mkF m pc L (.ref a :: st)) rfl rfl (hb hby hd)
  exact o_to st' (k T' ⟨_, X', N, e', hx, hZ, hown, hby, hml, hlk, hn, hrt, hnm⟩)
theorem o_instNull (S : St p l e R s m args below meth c Z own bytes ml n0 ret nm T h cells slots) {i : Nat} (hd : decode bytes pc = .ok (.instanceof i, 3)) (hq : pc + 3 = q) (k : Wp p e below PO T (mkF m q L (.int 0 :: st))) : Wp p e below PO T (mkF m pc L (.null :: st)) := by
  subst hq
  obtain ⟨locs, X, N, eT, hx, hZ, hown, hby, hml, hlk, hn, hrt, hnm⟩ := S
  exact o_to (X.instanceofNull hx (g := mkF m pc L (.null :: st)) rfl rfl (hb hby hd)) k
theorem o_getS (S : St p l e R s m args below meth c Z own bytes ml n0 ret nm T h cells slots) {i : Nat} {O n d : String} {v : Value} (w : (Jvm.Cond.fieldLink own i O n d).before a0 Z = true) (F : Sta Z h O n d v) (hd : decode bytes pc = .ok (.getstatic i, 3)) (hq : pc + 3 = q) (k : ∀ T', St p l e R s m args below meth c Z own bytes ml n0 ret nm T' h cells slots → Wp p e below PO T' (mkF m q L (v :: st))) : Wp p e below PO T (mkF m pc L st) := by
  subst hq
  obtain ⟨locs, X, N, eT, hx, hZ, hown, hby, hml, hlk, hn, hrt, hnm⟩ := S
  obtain ⟨T', X', e', st'⟩ := getS X hx hZ (host := "") hown w Via.refl eT F (g := mkF m pc L st) rfl (hb hby hd)
  exact o_to st' (k T' ⟨_, X', N, e', hx, hZ, hown, hby, hml, hlk, hn, hrt, hnm⟩)
end OwnPre
def posI (xs : List Int32) : Nat → List Int32
  | 0 => List.replicate xs.length 0
  | i + 1 => (posI xs i).set (xs.getD i 0).toNatClampNeg (Int32.ofNat i)
theorem posI_len (xs : List Int32) : ∀ i, (posI xs i).length = xs.length := by
  intro i
  induction i with
  | zero => simp [posI]
  | succ i ih => rw [posI, List.length_set, ih]
theorem own_pos {xs : List Int32} {i : Int32} (h : 0 ≤ i.toInt) : (posI xs i.toNatClampNeg).set (xs.getD i.toNatClampNeg 0).toNatClampNeg i = posI xs (i.toNatClampNeg + 1) := by
  rw [posI]
  have q : Int32.ofNat i.toNatClampNeg = i := (back32 (o_nat h).1).1
  rw [q]
def Q_3 (Z : State) (r0 : Addr) (r1 : Addr) (xs : List Int32) (N : Int32) (h0 : Heap) (n0 : Nat) : Option Value → Heap → Prop := fun v h => ∃ b1 : Addr, n0 ≤ b1 ∧ h0.size ≤ b1 ∧ ∃ b2 : Addr, n0 ≤ b2 ∧ h0.size ≤ b2 ∧ v = none ∧ Keep h0 h [r0] ∧ Exa Z h r0 "com/example/ladentour/ladentour/solve/ArrayTour" ∧ Fld Z h r0 "com/example/ladentour/ladentour/solve/ArrayTour" "order" "[I" (.ref b1) ∧ Fld Z h r0 "com/example/ladentour/ladentour/solve/ArrayTour" "n" "I" (.int N) ∧ Fld Z h r0 "com/example/ladentour/ladentour/solve/ArrayTour" "position" "[I" (.ref b2) ∧ IA Z h b1 .int (xs) ∧ IA Z h b2 .int (posI xs xs.length)
theorem d3_0 : decode prog_41_method_1_code 0 = .ok (.aload_n 0, 1) := by decide +kernel
theorem d3_1 : decode prog_41_method_1_code 1 = .ok (.invokespecial 3, 3) := by decide +kernel
theorem d3_4 : decode prog_41_method_1_code 4 = .ok (.aload_n 0, 1) := by decide +kernel
theorem d3_5 : decode prog_41_method_1_code 5 = .ok (.bipush 64, 2) := by decide +kernel
theorem d3_7 : decode prog_41_method_1_code 7 = .ok (.newarray .int, 2) := by decide +kernel
theorem d3_9 : decode prog_41_method_1_code 9 = .ok (.putfield 9, 3) := by decide +kernel
theorem d3_12 : decode prog_41_method_1_code 12 = .ok (.aload_n 0, 1) := by decide +kernel
theorem d3_13 : decode prog_41_method_1_code 13 = .ok (.aload_n 1, 1) := by decide +kernel
theorem d3_14 : decode prog_41_method_1_code 14 = .ok (.invokevirtual 13, 3) := by decide +kernel
theorem d3_17 : decode prog_41_method_1_code 17 = .ok (.checkcast 14, 3) := by decide +kernel
theorem d3_20 : decode prog_41_method_1_code 20 = .ok (.putfield 18, 3) := by decide +kernel
theorem d3_23 : decode prog_41_method_1_code 23 = .ok (.aload_n 0, 1) := by decide +kernel
theorem d3_24 : decode prog_41_method_1_code 24 = .ok (.aload_n 1, 1) := by decide +kernel
theorem d3_25 : decode prog_41_method_1_code 25 = .ok (.arraylength, 1) := by decide +kernel
theorem d3_26 : decode prog_41_method_1_code 26 = .ok (.putfield 21, 3) := by decide +kernel
theorem d3_29 : decode prog_41_method_1_code 29 = .ok (.aload_n 0, 1) := by decide +kernel
theorem d3_30 : decode prog_41_method_1_code 30 = .ok (.aload_n 0, 1) := by decide +kernel
theorem d3_31 : decode prog_41_method_1_code 31 = .ok (.getfield 21, 3) := by decide +kernel
theorem d3_34 : decode prog_41_method_1_code 34 = .ok (.newarray .int, 2) := by decide +kernel
theorem d3_36 : decode prog_41_method_1_code 36 = .ok (.putfield 25, 3) := by decide +kernel
theorem d3_39 : decode prog_41_method_1_code 39 = .ok (.iconst 0, 1) := by decide +kernel
theorem d3_40 : decode prog_41_method_1_code 40 = .ok (.istore_n 2, 1) := by decide +kernel
theorem d3_41 : decode prog_41_method_1_code 41 = .ok (.iload_n 2, 1) := by decide +kernel
theorem d3_42 : decode prog_41_method_1_code 42 = .ok (.aload_n 0, 1) := by decide +kernel
theorem d3_43 : decode prog_41_method_1_code 43 = .ok (.getfield 21, 3) := by decide +kernel
theorem d3_46 : decode prog_41_method_1_code 46 = .ok (.if_icmp .ge 18, 3) := by decide +kernel
theorem d3_49 : decode prog_41_method_1_code 49 = .ok (.aload_n 0, 1) := by decide +kernel
theorem d3_50 : decode prog_41_method_1_code 50 = .ok (.getfield 25, 3) := by decide +kernel
theorem d3_53 : decode prog_41_method_1_code 53 = .ok (.aload_n 1, 1) := by decide +kernel
theorem d3_54 : decode prog_41_method_1_code 54 = .ok (.iload_n 2, 1) := by decide +kernel
theorem d3_55 : decode prog_41_method_1_code 55 = .ok (.iaload, 1) := by decide +kernel
theorem d3_56 : decode prog_41_method_1_code 56 = .ok (.iload_n 2, 1) := by decide +kernel
theorem d3_57 : decode prog_41_method_1_code 57 = .ok (.iastore, 1) := by decide +kernel
theorem d3_58 : decode prog_41_method_1_code 58 = .ok (.iinc 2 1, 3) := by decide +kernel
theorem d3_61 : decode prog_41_method_1_code 61 = .ok (.goto (-20), 3) := by decide +kernel
theorem d3_64 : decode prog_41_method_1_code 64 = .ok (.return_, 1) := by decide +kernel
def rm_3 : Room := ({ frames := 1, cells := 3, slots := 74, locals := 15 } : Room)
theorem pn_3 : plainFor (⟨"com/example/ladentour/ladentour/solve/ArrayTour", "<init>", "([I)V"⟩ : MethodName) = true := plainFor_of_name (by first | (simp [plainName, overriddenIn]; done) | (simp [plainName, overriddenIn, x]; done) | decide +kernel)
theorem ef_3 (r0 : Addr) (r1 : Addr) (m : MethodId) : entryFrame m #[(.ref r0), (.ref r1)] 3 = mkF m 0 #[.val (.ref r0), .val (.ref r1), .unset] [] := by first | (simp [entryFrame, mkF, argsToLocals, Value.category]; done) | rfl
set_option maxRecDepth 65536 in
set_option maxHeartbeats 40000000 in
theorem lp_ctor (l : Launch) (Z : State) (a0 : Array Value) (hw : ∀ d ∈ tables_1, d.before a0 Z = true) (r0 : Addr) (r1 : Addr) (xs : List Int32) (N : Int32) (h0 : Heap) (n0 : Nat) (hn : n0 ≤ h0.size) (hN : Int32.ofNat xs.length = N) (hNl : N.toInt = xs.length) (hN1 : 1 ≤ N.toInt ∧ N.toInt ≤ 5) (hbd : ∀ i, i < xs.length → 0 ≤ (xs.getD i 0).toInt ∧ (xs.getD i 0).toInt < xs.length) {p : Program} {e : Env} {s : State} {m : MethodId} {below : List Frame} {meth : Method} {c : Code} :
    ∀ (k : Nat) (T : State) (h : Heap) (b1 : Addr) (b2 : Addr) (i : Int32) (S : St p l e rm_3 s m #[(.ref r0), (.ref r1)] below meth c Z "com/example/ladentour/ladentour/solve/ArrayTour" prog_41_method_1_code 3 n0 none "<init>" T h (0 + 1 + 1 + 1) (0 + 64 + 5 + 5)) (g_b1 : n0 ≤ b1) (sz_b1 : h0.size ≤ b1) (g_b2 : n0 ≤ b2) (sz_b2 : h0.size ≤ b2) (ne_r0_b2 : r0 ≠ b2) (ne_r1_b2 : r1 ≠ b2) (ne_b1_b2 : b1 ≠ b2) (K : Keep h0 h [r0]) (E_r0 : Exa Z h r0 "com/example/ladentour/ladentour/solve/ArrayTour") (F_order_r0 : Fld Z h r0 "com/example/ladentour/ladentour/solve/ArrayTour" "order" "[I" (.ref b1)) (F_n_r0 : Fld Z h r0 "com/example/ladentour/ladentour/solve/ArrayTour" "n" "I" (.int N)) (F_position_r0 : Fld Z h r0 "com/example/ladentour/ladentour/solve/ArrayTour" "position" "[I" (.ref b2)) (A_b1 : IA Z h b1 .int xs) (A_r1 : IA Z h r1 .int xs) (A_b2 : IA Z h b2 .int (posI xs i.toNatClampNeg)) (hi0 : 0 ≤ i.toInt) (hik : i.toInt + k = N.toInt), Wp p e below (Po s n0 rm_3 (Q_3 Z r0 r1 xs N h0 n0)) T (mkF m 41 #[.val (.ref r0), .val (.ref r1), .val (.int i)] []) := by
  intro k
  induction k with
  | zero =>
    intro T h b1 b2 i S g_b1 sz_b1 g_b2 sz_b2 ne_r0_b2 ne_r1_b2 ne_b1_b2 K E_r0 F_order_r0 F_n_r0 F_position_r0 A_b1 A_r1 A_b2 hi0 hik
    have hin0 := (o_nat hi0).2
    refine o_iloadN S rfl d3_41 rfl (q := 42) ?_
    refine o_aloadN S rfl rfl d3_42 rfl (q := 43) ?_
    refine o_getF S (o_wd (i := 32) hw rfl) Via.refl F_n_r0 d3_43 rfl (q := 46) (fun T S => ?_)
    refine o_icmp S d3_46 (by decide) (q' := 64) (by decide) (q := 49) rfl (hs_ge (a := i.toInt) (b := N.toInt) rfl rfl).1 (hs_ge (a := i.toInt) (b := N.toInt) rfl rfl).2 (fun hc46 => ?_) (fun hc46 => ?_)
    · skip
      refine o_retV S rfl d3_64 (by decide) (by decide) ?_
      exact ⟨b1, g_b1, sz_b1, b2, g_b2, sz_b2, rfl, K, E_r0, F_order_r0, F_n_r0, F_position_r0, A_b1, by rw [show xs.length = i.toNatClampNeg by omega]; exact A_b2⟩
    · exact absurd hc46 (by omega)
  | succ k ih =>
    intro T h b1 b2 i S g_b1 sz_b1 g_b2 sz_b2 ne_r0_b2 ne_r1_b2 ne_b1_b2 K E_r0 F_order_r0 F_n_r0 F_position_r0 A_b1 A_r1 A_b2 hi0 hik
    have hin0 := (o_nat hi0).2
    refine o_iloadN S rfl d3_41 rfl (q := 42) ?_
    refine o_aloadN S rfl rfl d3_42 rfl (q := 43) ?_
    refine o_getF S (o_wd (i := 32) hw rfl) Via.refl F_n_r0 d3_43 rfl (q := 46) (fun T S => ?_)
    refine o_icmp S d3_46 (by decide) (q' := 64) (by decide) (q := 49) rfl (hs_ge (a := i.toInt) (b := N.toInt) rfl rfl).1 (hs_ge (a := i.toInt) (b := N.toInt) rfl rfl).2 (fun hc46 => ?_) (fun hc46 => ?_)
    · exact absurd hc46 (by omega)
    · skip
      refine o_aloadN S rfl rfl d3_49 rfl (q := 50) ?_
      refine o_getF S (o_wd (i := 34) hw rfl) Via.refl F_position_r0 d3_50 rfl (q := 53) (fun T S => ?_)
      refine o_aloadN S rfl rfl d3_53 rfl (q := 54) ?_
      refine o_iloadN S rfl d3_54 rfl (q := 55) ?_
      refine o_iaload S A_r1 hi0 (by omega) (v := (xs.getD i.toNatClampNeg 0)) rfl d3_55 rfl (q := 56) ?_
      refine o_iloadN S rfl d3_56 rfl (q := 57) ?_
      refine o_iastore S (y := i) (ys := (posI xs (i.toNatClampNeg + 1))) A_b2 (hbd _ (by omega)).1 (by rw [posI_len]; exact (hbd _ (by omega)).2) g_b2 rfl (own_pos hi0) d3_57 rfl (q := 58) (fun T h1 S W A_b2 => ?_)
      have K := K.wr W (Or.inr sz_b2)
      have E_r0 := Exa.wr W E_r0
      have F_order_r0 := Fld.other W F_order_r0 (Or.inl ne_r0_b2)
      have F_n_r0 := Fld.other W F_n_r0 (Or.inl ne_r0_b2)
      have F_position_r0 := Fld.other W F_position_r0 (Or.inl ne_r0_b2)
      have A_b1 := A_b1.other W ne_b1_b2
      have A_r1 := A_r1.other W ne_r1_b2
      have hi1 : (i + (1 : Int32)).toInt = i.toInt + 1 := by have := c_iadd i 1; have := rng32 (i + (1 : Int32)); have := rng32 N; have : (1 : Int32).toInt = 1 := rfl; omega
      have hin : (i + (1 : Int32)).toNatClampNeg = i.toNatClampNeg + 1 := by have := (o_nat hi0).2; have := (o_nat (j := i + (1 : Int32)) (by omega)).2; omega
      refine o_iinc S rfl (L' := #[.val (.ref r0), .val (.ref r1), .val (.int (i + (1 : Int32)))]) rfl d3_58 rfl (q := 61) ?_
      refine o_goto S d3_61 (by decide) (q := 41) (by decide) ?_
      exact ih T h1 b1 b2 (i + (1 : Int32)) S g_b1 sz_b1 g_b2 sz_b2 ne_r0_b2 ne_r1_b2 ne_b1_b2 K E_r0 F_order_r0 F_n_r0 F_position_r0 A_b1 A_r1 (by rw [hin]; exact A_b2) (by omega) (by omega)
set_option maxRecDepth 65536 in
set_option maxHeartbeats 40000000 in
theorem ct_3 (l : Launch) (Z : State) (a0 : Array Value) (hw : ∀ d ∈ tables_1, d.before a0 Z = true) (r0 : Addr) (r1 : Addr) (xs : List Int32) (N : Int32) (h0 : Heap) (n0 : Nat) (hn : n0 ≤ h0.size) (E_r0 : Exa Z h0 r0 "com/example/ladentour/ladentour/solve/ArrayTour") (F_journal_r0 : Fld Z h0 r0 "com/example/ladentour/ladentour/solve/ArrayTour" "journal" "[I" .null) (F_order_r0 : Fld Z h0 r0 "com/example/ladentour/ladentour/solve/ArrayTour" "order" "[I" .null) (F_n_r0 : Fld Z h0 r0 "com/example/ladentour/ladentour/solve/ArrayTour" "n" "I" (.int (0 : Int32))) (F_position_r0 : Fld Z h0 r0 "com/example/ladentour/ladentour/solve/ArrayTour" "position" "[I" .null) (A_r1 : IA Z h0 r1 .int (xs)) (E_r1 : Exa Z h0 r1 "[I") (g_r0 : n0 ≤ r0) (ne_r0_r1 : r0 ≠ r1) (hN : Int32.ofNat xs.length = N) (hNl : N.toInt = xs.length) (hN1 : 1 ≤ N.toInt ∧ N.toInt ≤ 5) (hbd : ∀ i, i < xs.length → 0 ≤ (xs.getD i 0).toInt ∧ (xs.getD i 0).toInt < xs.length) : Ct l (⟨"com/example/ladentour/ladentour/solve/ArrayTour", "<init>", "([I)V"⟩ : MethodName) prog_41_method_1_code 3 none [] rm_3 Z h0 n0 #[(.ref r0), (.ref r1)] (Q_3 Z r0 r1 xs N h0 n0) := by
  refine o_body pn_3 hn (ef_3 r0 r1) ?_
  intro p e s m below meth c T S
  have hNn : N.toNatClampNeg = xs.length := by have := (o_nat (j := N) (by omega)).2; omega
  have K : Keep h0 h0 [r0] := Keep.refl _ _
  refine o_aloadN S rfl rfl d3_0 rfl (q := 1) ?_
  refine o_initO S (W := 0) (o_wd (i := 16) hw rfl) (o_wd (i := 17) hw rfl) (o_wd (i := 18) hw rfl) rfl d3_1 rfl (q := 4) (by decide) (Nat.le_of_eq rfl) (by decide) (fun T S => ?_)
  refine o_aloadN S rfl rfl d3_4 rfl (q := 5) ?_
  refine o_bipush S (z := 64) rfl d3_5 rfl (q := 7) ?_
  refine o_newarrE S (cap := 64) (o_wd (i := 1) hw rfl) (ad := "[I") rfl d3_7 rfl (q := 9) (by decide) (by decide) (by decide) (by decide) (by decide) (fun T h1 bj kA_bj S ha_bj g_bj X A0 E_bj => ?_)
  have ne_r0_bj : r0 ≠ bj := by rw [ha_bj]; exact Nat.ne_of_lt E_r0.lt
  have ne_r1_bj : r1 ≠ bj := by rw [ha_bj]; exact Nat.ne_of_lt A_r1.lt
  have sz_bj : h0.size ≤ bj := by rw [ha_bj]; exact K.1
  have E_r0 := Exa.ext X E_r0
  have F_journal_r0 := Fld.ext X F_journal_r0
  have F_order_r0 := Fld.ext X F_order_r0
  have F_n_r0 := Fld.ext X F_n_r0
  have F_position_r0 := Fld.ext X F_position_r0
  have A_r1 := A_r1.ext X
  have E_r1 := Exa.ext X E_r1
  have K := K.ext X
  have A_bj : IA Z h1 bj .int ([0, 0, 0, 0, 0, 0, 0, 0, 0, 0, 0, 0, 0, 0, 0, 0, 0, 0, 0, 0, 0, 0, 0, 0, 0, 0, 0, 0, 0, 0, 0, 0, 0, 0, 0, 0, 0, 0, 0, 0, 0, 0, 0, 0, 0, 0, 0, 0, 0, 0, 0, 0, 0, 0, 0, 0, 0, 0, 0, 0, 0, 0, 0, 0]) := IA.new A0 (by decide) rfl rfl
  refine o_putF S (o_wd (i := 19) hw rfl) Via.refl F_journal_r0 E_r0 (Or.inl (o_wd (i := 20) hw rfl)) (o_wd (i := 11) hw rfl) (ty := (.array .int)) (by decide) rfl rfl g_r0 d3_9 rfl (q := 12) (fun T h2 S W F_journal_r0 => ?_)
  have E_r0 := E_r0.wr W
  have F_order_r0 := Fld.other W F_order_r0 (Or.inr (slot_ne (Or.inr (o_wd (i := 31) hw rfl)) (Or.inl (o_wd (i := 20) hw rfl)) (by decide) (t := (.array .int)) (t' := (.array .int)) (by decide) (by decide)))
  have F_n_r0 := Fld.other W F_n_r0 (Or.inr (slot_ne (Or.inr (o_wd (i := 33) hw rfl)) (Or.inl (o_wd (i := 20) hw rfl)) (by decide) (t := .int) (t' := (.array .int)) (by decide) (by decide)))
  have F_position_r0 := Fld.other W F_position_r0 (Or.inr (slot_ne (Or.inr (o_wd (i := 35) hw rfl)) (Or.inl (o_wd (i := 20) hw rfl)) (by decide) (t := (.array .int)) (t' := (.array .int)) (by decide) (by decide)))
  have A_r1 := A_r1.other W (Ne.symm ne_r0_r1)
  have E_r1 := E_r1.wr W
  have K := K.wr W (Or.inl (List.mem_of_getElem? (i := 0) rfl))
  have E_bj := E_bj.wr W
  have A_bj := A_bj.other W (Ne.symm ne_r0_bj)
  refine o_aloadN S rfl rfl d3_12 rfl (q := 13) ?_
  refine o_aloadN S rfl rfl d3_13 rfl (q := 14) ?_
  refine o_clone S (W := 1) (cap := 5) (o_wd (i := 21) hw rfl) (o_wd (i := 22) hw rfl) (o_wd (i := 26) hw rfl) (o_wd (i := 24) hw rfl) (o_wd (i := 25) hw rfl) (o_wd (i := 27) hw rfl) A_r1 E_r1 rfl d3_14 rfl (q := 17) (by decide) (Nat.le_of_eq rfl) (by decide) (by omega) (by decide) (by decide) (fun T h3 b1 S ha_b1 g_b1 X A_b1 E_b1 => ?_)
  have ne_r0_b1 : r0 ≠ b1 := by rw [ha_b1]; exact Nat.ne_of_lt E_r0.lt
  have ne_r1_b1 : r1 ≠ b1 := by rw [ha_b1]; exact Nat.ne_of_lt A_r1.lt
  have sz_b1 : h0.size ≤ b1 := by rw [ha_b1]; exact K.1
  have E_r0 := Exa.ext X E_r0
  have F_journal_r0 := Fld.ext X F_journal_r0
  have F_order_r0 := Fld.ext X F_order_r0
  have F_n_r0 := Fld.ext X F_n_r0
  have F_position_r0 := Fld.ext X F_position_r0
  have A_r1 := A_r1.ext X
  have E_r1 := Exa.ext X E_r1
  have K := K.ext X
  refine o_castY S (o_wd (i := 28) hw rfl) (Ins.self E_b1) d3_17 rfl (q := 20) (fun T S => ?_)
  refine o_putF S (o_wd (i := 30) hw rfl) Via.refl F_order_r0 E_r0 (Or.inr ⟨(o_wd (i := 31) hw rfl), rfl, rfl⟩) (o_wd (i := 11) hw rfl) (ty := (.array .int)) (by decide) rfl rfl g_r0 d3_20 rfl (q := 23) (fun T h4 S W F_order_r0 => ?_)
  have E_r0 := E_r0.wr W
  have F_journal_r0 := Fld.other W F_journal_r0 (Or.inr (slot_ne (Or.inl (o_wd (i := 20) hw rfl)) (Or.inr (o_wd (i := 31) hw rfl)) (by decide) (t := (.array .int)) (t' := (.array .int)) (by decide) (by decide)))
  have F_n_r0 := Fld.other W F_n_r0 (Or.inr (slot_ne (Or.inr (o_wd (i := 33) hw rfl)) (Or.inr (o_wd (i := 31) hw rfl)) (by decide) (t := .int) (t' := (.array .int)) (by decide) (by decide)))
  have F_position_r0 := Fld.other W F_position_r0 (Or.inr (slot_ne (Or.inr (o_wd (i := 35) hw rfl)) (Or.inr (o_wd (i := 31) hw rfl)) (by decide) (t := (.array .int)) (t' := (.array .int)) (by decide) (by decide)))
  have A_r1 := A_r1.other W (Ne.symm ne_r0_r1)
  have E_r1 := E_r1.wr W
  have K := K.wr W (Or.inl (List.mem_of_getElem? (i := 0) rfl))
  have A_b1 := A_b1.other W (Ne.symm ne_r0_b1)
  have E_b1 := E_b1.wr W
  refine o_aloadN S rfl rfl d3_23 rfl (q := 24) ?_
  refine o_aloadN S rfl rfl d3_24 rfl (q := 25) ?_
  refine o_arraylength S A_r1 (z := N) hN d3_25 rfl (q := 26) ?_
  refine o_putF S (o_wd (i := 32) hw rfl) Via.refl F_n_r0 E_r0 (Or.inr ⟨(o_wd (i := 33) hw rfl), rfl, rfl⟩) (o_wd (i := 11) hw rfl) (ty := .int) (by decide) rfl rfl g_r0 d3_26 rfl (q := 29) (fun T h5 S W F_n_r0 => ?_)
  have E_r0 := E_r0.wr W
  have F_journal_r0 := Fld.other W F_journal_r0 (Or.inr (slot_ne (Or.inl (o_wd (i := 20) hw rfl)) (Or.inr (o_wd (i := 33) hw rfl)) (by decide) (t := (.array .int)) (t' := .int) (by decide) (by decide)))
  have F_order_r0 := Fld.other W F_order_r0 (Or.inr (slot_ne (Or.inr (o_wd (i := 31) hw rfl)) (Or.inr (o_wd (i := 33) hw rfl)) (by decide) (t := (.array .int)) (t' := .int) (by decide) (by decide)))
  have F_position_r0 := Fld.other W F_position_r0 (Or.inr (slot_ne (Or.inr (o_wd (i := 35) hw rfl)) (Or.inr (o_wd (i := 33) hw rfl)) (by decide) (t := (.array .int)) (t' := .int) (by decide) (by decide)))
  have A_r1 := A_r1.other W (Ne.symm ne_r0_r1)
  have E_r1 := E_r1.wr W
  have K := K.wr W (Or.inl (List.mem_of_getElem? (i := 0) rfl))
  have A_b1 := A_b1.other W (Ne.symm ne_r0_b1)
  have E_b1 := E_b1.wr W
  refine o_aloadN S rfl rfl d3_29 rfl (q := 30) ?_
  refine o_aloadN S rfl rfl d3_30 rfl (q := 31) ?_
  refine o_getF S (o_wd (i := 32) hw rfl) Via.refl F_n_r0 d3_31 rfl (q := 34) (fun T S => ?_)
  refine o_newarrE S (cap := 5) (o_wd (i := 1) hw rfl) (ad := "[I") rfl d3_34 rfl (q := 36) (by omega) (by omega) (by decide) (by decide) (by decide) (fun T h6 b2 kA_b2 S ha_b2 g_b2 X A0 E_b2 => ?_)
  have ne_r0_b2 : r0 ≠ b2 := by rw [ha_b2]; exact Nat.ne_of_lt E_r0.lt
  have ne_r1_b2 : r1 ≠ b2 := by rw [ha_b2]; exact Nat.ne_of_lt A_r1.lt
  have ne_b1_b2 : b1 ≠ b2 := by rw [ha_b2]; exact Nat.ne_of_lt A_b1.lt
  have sz_b2 : h0.size ≤ b2 := by rw [ha_b2]; exact K.1
  have E_r0 := Exa.ext X E_r0
  have F_journal_r0 := Fld.ext X F_journal_r0
  have F_order_r0 := Fld.ext X F_order_r0
  have F_n_r0 := Fld.ext X F_n_r0
  have F_position_r0 := Fld.ext X F_position_r0
  have A_r1 := A_r1.ext X
  have E_r1 := Exa.ext X E_r1
  have K := K.ext X
  have A_b1 := A_b1.ext X
  have E_b1 := Exa.ext X E_b1
  have A_b2 : IA Z h6 b2 .int (List.replicate N.toNatClampNeg 0) := IA.new A0 (o_nat (by omega)).1 rfl rfl
  refine o_putF S (o_wd (i := 34) hw rfl) Via.refl F_position_r0 E_r0 (Or.inr ⟨(o_wd (i := 35) hw rfl), rfl, rfl⟩) (o_wd (i := 11) hw rfl) (ty := (.array .int)) (by decide) rfl rfl g_r0 d3_36 rfl (q := 39) (fun T h7 S W F_position_r0 => ?_)
  have E_r0 := E_r0.wr W
  have F_journal_r0 := Fld.other W F_journal_r0 (Or.inr (slot_ne (Or.inl (o_wd (i := 20) hw rfl)) (Or.inr (o_wd (i := 35) hw rfl)) (by decide) (t := (.array .int)) (t' := (.array .int)) (by decide) (by decide)))
  have F_order_r0 := Fld.other W F_order_r0 (Or.inr (slot_ne (Or.inr (o_wd (i := 31) hw rfl)) (Or.inr (o_wd (i := 35) hw rfl)) (by decide) (t := (.array .int)) (t' := (.array .int)) (by decide) (by decide)))
  have F_n_r0 := Fld.other W F_n_r0 (Or.inr (slot_ne (Or.inr (o_wd (i := 33) hw rfl)) (Or.inr (o_wd (i := 35) hw rfl)) (by decide) (t := .int) (t' := (.array .int)) (by decide) (by decide)))
  have A_r1 := A_r1.other W (Ne.symm ne_r0_r1)
  have E_r1 := E_r1.wr W
  have K := K.wr W (Or.inl (List.mem_of_getElem? (i := 0) rfl))
  have A_b1 := A_b1.other W (Ne.symm ne_r0_b1)
  have E_b1 := E_b1.wr W
  have E_b2 := E_b2.wr W
  have A_b2 := A_b2.other W (Ne.symm ne_r0_b2)
  refine o_iconst S (z := 0) rfl d3_39 rfl (q := 40) ?_
  refine o_istoreN S (L' := #[.val (.ref r0), .val (.ref r1), .val (.int (0 : Int32))]) rfl d3_40 rfl (q := 41) ?_
  exact lp_ctor l Z a0 hw r0 r1 xs N h0 n0 hn hN hNl hN1 hbd xs.length T h7 b1 b2 (0 : Int32) S g_b1 sz_b1 g_b2 sz_b2 ne_r0_b2 ne_r1_b2 ne_b1_b2 K E_r0 F_order_r0 F_n_r0 F_position_r0 A_b1 A_r1 (by show IA _ _ _ _ (posI xs 0); rw [posI, ← hNn]; exact A_b2) (by decide) (by show (0 : Int) + _ = _; omega)
def swL (xs : List Int32) (p1 p2 : Int32) : List Int32 := (xs.set p1.toNatClampNeg (xs.getD p2.toNatClampNeg 0)).set p2.toNatClampNeg (xs.getD p1.toNatClampNeg 0)
def ixF (n : Int32) (s : Int64) (sh : Int32) : Int32 := ((((s.toUInt64 >>> (sh &&& 0x3f).toInt64.toUInt64).toInt64) &&& (7 : Int64)).toInt32) % n
theorem ix_ok {n : Int32} {s : Int64} {sh : Int32} {L : Nat} (h : 1 ≤ n.toInt) (hl : n.toInt = L) : 0 ≤ (ixF n s sh).toInt ∧ (ixF n s sh).toInt < L := by
  unfold ixF
  generalize ((s.toUInt64 >>> (sh &&& 0x3f).toInt64.toUInt64).toInt64) = y
  have h1 : (y &&& (7 : Int64)).toInt = y.toInt % 8 := c_maskL y 7 3 (by decide) (by decide)
  have h2 := c_l2i (y &&& (7 : Int64))
  have h3 := rng32 (y &&& (7 : Int64)).toInt32
  have h4 := (c_iremV (y &&& (7 : Int64)).toInt32 n).1 (by omega) (by omega)
  omega
def PermL (n : Nat) (xs : List Int32) : Prop := xs.length = n ∧ (∀ i, i < n → 0 ≤ (xs.getD i 0).toInt ∧ (xs.getD i 0).toInt < n) ∧ ∀ i j, i < n → j < n → i ≠ j → xs.getD i 0 ≠ xs.getD j 0
theorem swL_at (xs : List Int32) (a b : Int32) (k : Nat) (ha : a.toNatClampNeg < xs.length) (hb : b.toNatClampNeg < xs.length) : (swL xs a b).getD k 0 = xs.getD (if k = b.toNatClampNeg then a.toNatClampNeg else if k = a.toNatClampNeg then b.toNatClampNeg else k) 0 := by
  unfold swL
  simp only [List.getD_eq_getElem?_getD, List.getElem?_set, List.length_set]
  by_cases c1 : k = b.toNatClampNeg
  · subst c1; simp [hb]
  · by_cases c2 : k = a.toNatClampNeg
    · subst c2; simp [ha, c1, Ne.symm c1]
    · simp [c1, c2, Ne.symm c1, Ne.symm c2]
theorem PermL.sw {n : Nat} {xs : List Int32} {a b : Int32} (h : PermL n xs) (ha : 0 ≤ a.toInt ∧ a.toInt < n) (hb : 0 ≤ b.toInt ∧ b.toInt < n) : PermL n (swL xs a b) := by
  obtain ⟨h1, h2, h3⟩ := h
  have a1 := (o_nat ha.1).2; have b1 := (o_nat hb.1).2
  have a2 : a.toNatClampNeg < xs.length := by omega
  have b2 : b.toNatClampNeg < xs.length := by omega
  refine ⟨by simp [swL, h1], fun i hi => ?_, fun i j hi hj hij => ?_⟩
  · rw [swL_at _ _ _ _ a2 b2]
    refine h2 _ ?_
    split
    · omega
    · split <;> omega
  · rw [swL_at _ _ _ _ a2 b2, swL_at _ _ _ _ a2 b2]
    refine h3 _ _ ?_ ?_ ?_
    · split
      · omega
      · split <;> omega
    · split
      · omega
      · split <;> omega
    · repeat' split
      all_goals omega
def Q_1 (Z : State) (r0 : Addr) (p1 : Int32) (q2 : Int64) (p3 : Int32) (xs : List Int32) (h0 : Heap) (n0 : Nat) : Option Value → Heap → Prop := fun v h => v = none ∧ Keep h0 h [r0] ∧ IA Z h r0 .int (swL xs (ixF p1 q2 p3) (ixF p1 q2 (p3 + (3 : Int32))))
theorem d1_0 : decode method_3_code 0 = .ok (.lload_n 2, 1) := by decide +kernel
theorem d1_1 : decode method_3_code 1 = .ok (.iload 4, 2) := by decide +kernel
theorem d1_3 : decode method_3_code 3 = .ok (.lushr, 1) := by decide +kernel
theorem d1_4 : decode method_3_code 4 = .ok (.ldc2_w 27, 3) := by decide +kernel
theorem d1_7 : decode method_3_code 7 = .ok (.land, 1) := by decide +kernel
theorem d1_8 : decode method_3_code 8 = .ok (.l2i, 1) := by decide +kernel
theorem d1_9 : decode method_3_code 9 = .ok (.iload_n 1, 1) := by decide +kernel
theorem d1_10 : decode method_3_code 10 = .ok (.irem, 1) := by decide +kernel
theorem d1_11 : decode method_3_code 11 = .ok (.istore 5, 2) := by decide +kernel
theorem d1_13 : decode method_3_code 13 = .ok (.lload_n 2, 1) := by decide +kernel
theorem d1_14 : decode method_3_code 14 = .ok (.iload 4, 2) := by decide +kernel
theorem d1_16 : decode method_3_code 16 = .ok (.iconst 3, 1) := by decide +kernel
theorem d1_17 : decode method_3_code 17 = .ok (.iadd, 1) := by decide +kernel
theorem d1_18 : decode method_3_code 18 = .ok (.lushr, 1) := by decide +kernel
theorem d1_19 : decode method_3_code 19 = .ok (.ldc2_w 27, 3) := by decide +kernel
theorem d1_22 : decode method_3_code 22 = .ok (.land, 1) := by decide +kernel
theorem d1_23 : decode method_3_code 23 = .ok (.l2i, 1) := by decide +kernel
theorem d1_24 : decode method_3_code 24 = .ok (.iload_n 1, 1) := by decide +kernel
theorem d1_25 : decode method_3_code 25 = .ok (.irem, 1) := by decide +kernel
theorem d1_26 : decode method_3_code 26 = .ok (.istore 6, 2) := by decide +kernel
theorem d1_28 : decode method_3_code 28 = .ok (.aload_n 0, 1) := by decide +kernel
theorem d1_29 : decode method_3_code 29 = .ok (.iload 5, 2) := by decide +kernel
theorem d1_31 : decode method_3_code 31 = .ok (.iaload, 1) := by decide +kernel
theorem d1_32 : decode method_3_code 32 = .ok (.istore 7, 2) := by decide +kernel
theorem d1_34 : decode method_3_code 34 = .ok (.aload_n 0, 1) := by decide +kernel
theorem d1_35 : decode method_3_code 35 = .ok (.iload 5, 2) := by decide +kernel
theorem d1_37 : decode method_3_code 37 = .ok (.aload_n 0, 1) := by decide +kernel
theorem d1_38 : decode method_3_code 38 = .ok (.iload 6, 2) := by decide +kernel
theorem d1_40 : decode method_3_code 40 = .ok (.iaload, 1) := by decide +kernel
theorem d1_41 : decode method_3_code 41 = .ok (.iastore, 1) := by decide +kernel
theorem d1_42 : decode method_3_code 42 = .ok (.aload_n 0, 1) := by decide +kernel
theorem d1_43 : decode method_3_code 43 = .ok (.iload 6, 2) := by decide +kernel
theorem d1_45 : decode method_3_code 45 = .ok (.iload 7, 2) := by decide +kernel
theorem d1_47 : decode method_3_code 47 = .ok (.iastore, 1) := by decide +kernel
theorem d1_48 : decode method_3_code 48 = .ok (.return_, 1) := by decide +kernel
def rm_1 : Room := ({ frames := 0, cells := 0, slots := 0, locals := 0 } : Room)
theorem pn_1 : plainFor (⟨"com/example/ladentour/ladentour/solve/ArrayTourPreviousPinLaw", "swap", "([IIJI)V"⟩ : MethodName) = true := plainFor_of_name (by first | (simp [plainName, overriddenIn]; done) | (simp [plainName, overriddenIn, x]; done) | decide +kernel)
theorem ef_1 (r0 : Addr) (p1 : Int32) (q2 : Int64) (p3 : Int32) (m : MethodId) : entryFrame m #[(.ref r0), (.int p1), (.long q2), (.int p3)] 8 = mkF m 0 #[.val (.ref r0), .val (.int p1), .val (.long q2), .second, .val (.int p3), .unset, .unset, .unset] [] := by first | (simp [entryFrame, mkF, argsToLocals, Value.category]; done) | rfl
set_option maxRecDepth 65536 in
set_option maxHeartbeats 40000000 in
theorem ct_1 (l : Launch) (Z : State) (a0 : Array Value) (hw : ∀ d ∈ tables_1, d.before a0 Z = true) (r0 : Addr) (p1 : Int32) (q2 : Int64) (p3 : Int32) (xs : List Int32) (h0 : Heap) (n0 : Nat) (hn : n0 ≤ h0.size) (A_r0 : IA Z h0 r0 .int (xs)) (g_r0 : n0 ≤ r0) (hn1 : 1 ≤ p1.toInt) (hl : p1.toInt = xs.length) : Ct l (⟨"com/example/ladentour/ladentour/solve/ArrayTourPreviousPinLaw", "swap", "([IIJI)V"⟩ : MethodName) method_3_code 8 none [] rm_1 Z h0 n0 #[(.ref r0), (.int p1), (.long q2), (.int p3)] (Q_1 Z r0 p1 q2 p3 xs h0 n0) := by
  refine o_body pn_1 hn (ef_1 r0 p1 q2 p3) ?_
  intro p e s m below meth c T S
  have K : Keep h0 h0 [r0] := Keep.refl _ _
  refine o_lloadN S rfl d1_0 rfl (q := 1) ?_
  refine o_iload S rfl d1_1 rfl (q := 3) ?_
  refine o_lushr S d1_3 rfl (q := 4) ?_
  refine o_ldc2 S (o_wd (i := 6) hw rfl) d1_4 rfl (q := 7) ?_
  refine o_land S d1_7 rfl (q := 8) ?_
  refine o_l2i S d1_8 rfl (q := 9) ?_
  refine o_iloadN S rfl d1_9 rfl (q := 10) ?_
  refine o_irem S (o_ne32 (by show _ ≠ (0 : Int); omega)) d1_10 rfl (q := 11) ?_
  refine o_istoreV S (L' := fun ii => #[.val (.ref r0), .val (.int p1), .val (.long q2), .second, .val (.int p3), .val (.int ii), .unset, .unset]) (fun _ => rfl) d1_11 rfl (q := 13) (fun ii hii => ?_)
  refine o_lloadN S rfl d1_13 rfl (q := 14) ?_
  refine o_iload S rfl d1_14 rfl (q := 16) ?_
  refine o_iconst S (z := 3) rfl d1_16 rfl (q := 17) ?_
  refine o_iadd S d1_17 rfl (q := 18) ?_
  refine o_lushr S d1_18 rfl (q := 19) ?_
  refine o_ldc2 S (o_wd (i := 6) hw rfl) d1_19 rfl (q := 22) ?_
  refine o_land S d1_22 rfl (q := 23) ?_
  refine o_l2i S d1_23 rfl (q := 24) ?_
  refine o_iloadN S rfl d1_24 rfl (q := 25) ?_
  refine o_irem S (o_ne32 (by show _ ≠ (0 : Int); omega)) d1_25 rfl (q := 26) ?_
  refine o_istoreV S (L' := fun jj => #[.val (.ref r0), .val (.int p1), .val (.long q2), .second, .val (.int p3), .val (.int ii), .val (.int jj), .unset]) (fun _ => rfl) d1_26 rfl (q := 28) (fun jj hjj => ?_)
  have hi : 0 ≤ ii.toInt ∧ ii.toInt < xs.length := by rw [hii]; exact ix_ok hn1 hl
  have hj : 0 ≤ jj.toInt ∧ jj.toInt < xs.length := by rw [hjj]; exact ix_ok hn1 hl
  refine o_aloadN S rfl rfl d1_28 rfl (q := 29) ?_
  refine o_iload S rfl d1_29 rfl (q := 31) ?_
  refine o_iaload S A_r0 hi.1 hi.2 (v := (xs.getD ii.toNatClampNeg 0)) rfl d1_31 rfl (q := 32) ?_
  refine o_istore S (L' := #[.val (.ref r0), .val (.int p1), .val (.long q2), .second, .val (.int p3), .val (.int ii), .val (.int jj), .val (.int (xs.getD ii.toNatClampNeg 0))]) rfl d1_32 rfl (q := 34) ?_
  refine o_aloadN S rfl rfl d1_34 rfl (q := 35) ?_
  refine o_iload S rfl d1_35 rfl (q := 37) ?_
  refine o_aloadN S rfl rfl d1_37 rfl (q := 38) ?_
  refine o_iload S rfl d1_38 rfl (q := 40) ?_
  refine o_iaload S A_r0 hj.1 hj.2 (v := (xs.getD jj.toNatClampNeg 0)) rfl d1_40 rfl (q := 41) ?_
  refine o_iastore S (y := (xs.getD jj.toNatClampNeg 0)) (ys := (xs.set ii.toNatClampNeg (xs.getD jj.toNatClampNeg 0))) A_r0 hi.1 hi.2 g_r0 rfl rfl d1_41 rfl (q := 42) (fun T h1 S W A_r0 => ?_)
  have K := K.wr W (Or.inl (List.mem_of_getElem? (i := 0) rfl))
  refine o_aloadN S rfl rfl d1_42 rfl (q := 43) ?_
  refine o_iload S rfl d1_43 rfl (q := 45) ?_
  refine o_iload S rfl d1_45 rfl (q := 47) ?_
  refine o_iastore S (y := (xs.getD ii.toNatClampNeg 0)) (ys := (swL xs ii jj)) A_r0 hj.1 (by rw [List.length_set]; exact hj.2) g_r0 rfl rfl d1_47 rfl (q := 48) (fun T h2 S W A_r0 => ?_)
  have K := K.wr W (Or.inl (List.mem_of_getElem? (i := 0) rfl))
  refine o_retV S rfl d1_48 (by decide) (by decide) ?_
  exact ⟨rfl, K, by rw [show (ixF p1 q2 p3) = ii from hii.symm, show (ixF p1 q2 (p3 + (3 : Int32))) = jj from hjj.symm]; exact A_r0⟩
def f_idx (p1 : Int32) (p2 : Int32) (xs : List Int32) : Int32 := if p1.toInt ≤ 4 then (if p1.toInt ≤ 3 then (if p1.toInt ≤ 2 then (if p1.toInt ≤ 1 then (0 : Int32) else (if ¬ (xs.getD 1 0) = p2 then (0 : Int32) else (1 : Int32))) else (if ¬ (xs.getD 2 0) = p2 then (if p1.toInt ≤ 1 then (0 : Int32) else (if ¬ (xs.getD 1 0) = p2 then (0 : Int32) else (1 : Int32))) else (2 : Int32))) else (if ¬ (xs.getD 3 0) = p2 then (if p1.toInt ≤ 2 then (if p1.toInt ≤ 1 then (0 : Int32) else (if ¬ (xs.getD 1 0) = p2 then (0 : Int32) else (1 : Int32))) else (if ¬ (xs.getD 2 0) = p2 then (if p1.toInt ≤ 1 then (0 : Int32) else (if ¬ (xs.getD 1 0) = p2 then (0 : Int32) else (1 : Int32))) else (2 : Int32))) else (3 : Int32))) else (if ¬ (xs.getD 4 0) = p2 then (if p1.toInt ≤ 3 then (if p1.toInt ≤ 2 then (if p1.toInt ≤ 1 then (0 : Int32) else (if ¬ (xs.getD 1 0) = p2 then (0 : Int32) else (1 : Int32))) else (if ¬ (xs.getD 2 0) = p2 then (if p1.toInt ≤ 1 then (0 : Int32) else (if ¬ (xs.getD 1 0) = p2 then (0 : Int32) else (1 : Int32))) else (2 : Int32))) else (if ¬ (xs.getD 3 0) = p2 then (if p1.toInt ≤ 2 then (if p1.toInt ≤ 1 then (0 : Int32) else (if ¬ (xs.getD 1 0) = p2 then (0 : Int32) else (1 : Int32))) else (if ¬ (xs.getD 2 0) = p2 then (if p1.toInt ≤ 1 then (0 : Int32) else (if ¬ (xs.getD 1 0) = p2 then (0 : Int32) else (1 : Int32))) else (2 : Int32))) else (3 : Int32))) else (4 : Int32))
theorem d2_0 : decode method_4_code 0 = .ok (.iload_n 1, 1) := by decide +kernel
theorem d2_1 : decode method_4_code 1 = .ok (.iconst 4, 1) := by decide +kernel
theorem d2_2 : decode method_4_code 2 = .ok (.if_icmp .le 12, 3) := by decide +kernel
theorem d2_5 : decode method_4_code 5 = .ok (.aload_n 0, 1) := by decide +kernel
theorem d2_6 : decode method_4_code 6 = .ok (.iconst 4, 1) := by decide +kernel
theorem d2_7 : decode method_4_code 7 = .ok (.iaload, 1) := by decide +kernel
theorem d2_8 : decode method_4_code 8 = .ok (.iload_n 2, 1) := by decide +kernel
theorem d2_9 : decode method_4_code 9 = .ok (.if_icmp .ne 5, 3) := by decide +kernel
theorem d2_12 : decode method_4_code 12 = .ok (.iconst 4, 1) := by decide +kernel
theorem d2_13 : decode method_4_code 13 = .ok (.ireturn, 1) := by decide +kernel
theorem d2_14 : decode method_4_code 14 = .ok (.iload_n 1, 1) := by decide +kernel
theorem d2_15 : decode method_4_code 15 = .ok (.iconst 3, 1) := by decide +kernel
theorem d2_16 : decode method_4_code 16 = .ok (.if_icmp .le 12, 3) := by decide +kernel
theorem d2_19 : decode method_4_code 19 = .ok (.aload_n 0, 1) := by decide +kernel
theorem d2_20 : decode method_4_code 20 = .ok (.iconst 3, 1) := by decide +kernel
theorem d2_21 : decode method_4_code 21 = .ok (.iaload, 1) := by decide +kernel
theorem d2_22 : decode method_4_code 22 = .ok (.iload_n 2, 1) := by decide +kernel
theorem d2_23 : decode method_4_code 23 = .ok (.if_icmp .ne 5, 3) := by decide +kernel
theorem d2_26 : decode method_4_code 26 = .ok (.iconst 3, 1) := by decide +kernel
theorem d2_27 : decode method_4_code 27 = .ok (.ireturn, 1) := by decide +kernel
theorem d2_28 : decode method_4_code 28 = .ok (.iload_n 1, 1) := by decide +kernel
theorem d2_29 : decode method_4_code 29 = .ok (.iconst 2, 1) := by decide +kernel
theorem d2_30 : decode method_4_code 30 = .ok (.if_icmp .le 12, 3) := by decide +kernel
theorem d2_33 : decode method_4_code 33 = .ok (.aload_n 0, 1) := by decide +kernel
theorem d2_34 : decode method_4_code 34 = .ok (.iconst 2, 1) := by decide +kernel
theorem d2_35 : decode method_4_code 35 = .ok (.iaload, 1) := by decide +kernel
theorem d2_36 : decode method_4_code 36 = .ok (.iload_n 2, 1) := by decide +kernel
theorem d2_37 : decode method_4_code 37 = .ok (.if_icmp .ne 5, 3) := by decide +kernel
theorem d2_40 : decode method_4_code 40 = .ok (.iconst 2, 1) := by decide +kernel
theorem d2_41 : decode method_4_code 41 = .ok (.ireturn, 1) := by decide +kernel
theorem d2_42 : decode method_4_code 42 = .ok (.iload_n 1, 1) := by decide +kernel
theorem d2_43 : decode method_4_code 43 = .ok (.iconst 1, 1) := by decide +kernel
theorem d2_44 : decode method_4_code 44 = .ok (.if_icmp .le 12, 3) := by decide +kernel
theorem d2_47 : decode method_4_code 47 = .ok (.aload_n 0, 1) := by decide +kernel
theorem d2_48 : decode method_4_code 48 = .ok (.iconst 1, 1) := by decide +kernel
theorem d2_49 : decode method_4_code 49 = .ok (.iaload, 1) := by decide +kernel
theorem d2_50 : decode method_4_code 50 = .ok (.iload_n 2, 1) := by decide +kernel
theorem d2_51 : decode method_4_code 51 = .ok (.if_icmp .ne 5, 3) := by decide +kernel
theorem d2_54 : decode method_4_code 54 = .ok (.iconst 1, 1) := by decide +kernel
theorem d2_55 : decode method_4_code 55 = .ok (.ireturn, 1) := by decide +kernel
theorem d2_56 : decode method_4_code 56 = .ok (.iconst 0, 1) := by decide +kernel
theorem d2_57 : decode method_4_code 57 = .ok (.ireturn, 1) := by decide +kernel
def rm_2 : Room := ({ frames := 0, cells := 0, slots := 0, locals := 0 } : Room)
theorem pn_2 : plainFor (⟨"com/example/ladentour/ladentour/solve/ArrayTourPreviousPinLaw", "indexOf", "([III)I"⟩ : MethodName) = true := plainFor_of_name (by first | (simp [plainName, overriddenIn]; done) | (simp [plainName, overriddenIn, x]; done) | decide +kernel)
theorem ef_2 (r0 : Addr) (p1 : Int32) (p2 : Int32) (m : MethodId) : entryFrame m #[(.ref r0), (.int p1), (.int p2)] 3 = mkF m 0 #[.val (.ref r0), .val (.int p1), .val (.int p2)] [] := by first | (simp [entryFrame, mkF, argsToLocals, Value.category]; done) | rfl
set_option maxRecDepth 65536 in
set_option maxHeartbeats 40000000 in
theorem ct_2 (l : Launch) (Z : State) (a0 : Array Value) (hw : ∀ d ∈ tables_1, d.before a0 Z = true) (r0 : Addr) (p1 : Int32) (p2 : Int32) (xs : List Int32) (h0 : Heap) (n0 : Nat) (hn : n0 ≤ h0.size) (A_r0 : IA Z h0 r0 .int xs) (hl : p1.toInt = xs.length) : Ct l (⟨"com/example/ladentour/ladentour/solve/ArrayTourPreviousPinLaw", "indexOf", "([III)I"⟩ : MethodName) method_4_code 3 (some .int) [] rm_2 Z h0 n0 #[(.ref r0), (.int p1), (.int p2)] (Qp (some (.int (f_idx p1 p2 xs))) h0) := by
  refine o_body pn_2 hn (ef_2 r0 p1 p2) ?_
  intro p e s m below meth c T S
  refine o_iloadN S rfl d2_0 rfl (q := 1) ?_
  refine o_iconst S (z := 4) rfl d2_1 rfl (q := 2) ?_
  refine o_icmp S d2_2 (by decide) (q' := 14) (by decide) (q := 5) rfl (hs_le (a := p1.toInt) (b := 4) rfl rfl).1 (hs_le (a := p1.toInt) (b := 4) rfl rfl).2 (fun hc2 => ?_) (fun hc2 => ?_)
  · skip
    refine o_iloadN S rfl d2_14 rfl (q := 15) ?_
    refine o_iconst S (z := 3) rfl d2_15 rfl (q := 16) ?_
    refine o_icmp S d2_16 (by decide) (q' := 28) (by decide) (q := 19) rfl (hs_le (a := p1.toInt) (b := 3) rfl rfl).1 (hs_le (a := p1.toInt) (b := 3) rfl rfl).2 (fun hc16 => ?_) (fun hc16 => ?_)
    · skip
      refine o_iloadN S rfl d2_28 rfl (q := 29) ?_
      refine o_iconst S (z := 2) rfl d2_29 rfl (q := 30) ?_
      refine o_icmp S d2_30 (by decide) (q' := 42) (by decide) (q := 33) rfl (hs_le (a := p1.toInt) (b := 2) rfl rfl).1 (hs_le (a := p1.toInt) (b := 2) rfl rfl).2 (fun hc30 => ?_) (fun hc30 => ?_)
      · skip
        refine o_iloadN S rfl d2_42 rfl (q := 43) ?_
        refine o_iconst S (z := 1) rfl d2_43 rfl (q := 44) ?_
        refine o_icmp S d2_44 (by decide) (q' := 56) (by decide) (q := 47) rfl (hs_le (a := p1.toInt) (b := 1) rfl rfl).1 (hs_le (a := p1.toInt) (b := 1) rfl rfl).2 (fun hc44 => ?_) (fun hc44 => ?_)
        · skip
          refine o_iconst S (z := 0) rfl d2_56 rfl (q := 57) ?_
          refine o_retI S rfl d2_57 (by decide) (by decide) ?_
          exact ⟨o_si (by rw [f_idx, if_pos hc2, if_pos hc16, if_pos hc30, if_pos hc44]), rfl⟩
        · skip
          refine o_aloadN S rfl rfl d2_47 rfl (q := 48) ?_
          refine o_iconst S (z := 1) rfl d2_48 rfl (q := 49) ?_
          refine o_iaload S A_r0 (by decide) (by show (1 : Int) < _; omega) (v := (xs.getD 1 0)) rfl d2_49 rfl (q := 50) ?_
          refine o_iloadN S rfl d2_50 rfl (q := 51) ?_
          refine o_icmp S d2_51 (by decide) (q' := 56) (by decide) (q := 54) rfl hs_ne.1 hs_ne.2 (fun hc51 => ?_) (fun hc51 => ?_)
          · skip
            refine o_iconst S (z := 0) rfl d2_56 rfl (q := 57) ?_
            refine o_retI S rfl d2_57 (by decide) (by decide) ?_
            exact ⟨o_si (by rw [f_idx, if_pos hc2, if_pos hc16, if_pos hc30, if_neg hc44, if_pos hc51]), rfl⟩
          · skip
            refine o_iconst S (z := 1) rfl d2_54 rfl (q := 55) ?_
            refine o_retI S rfl d2_55 (by decide) (by decide) ?_
            exact ⟨o_si (by rw [f_idx, if_pos hc2, if_pos hc16, if_pos hc30, if_neg hc44, if_neg hc51]), rfl⟩
      · skip
        refine o_aloadN S rfl rfl d2_33 rfl (q := 34) ?_
        refine o_iconst S (z := 2) rfl d2_34 rfl (q := 35) ?_
        refine o_iaload S A_r0 (by decide) (by show (2 : Int) < _; omega) (v := (xs.getD 2 0)) rfl d2_35 rfl (q := 36) ?_
        refine o_iloadN S rfl d2_36 rfl (q := 37) ?_
        refine o_icmp S d2_37 (by decide) (q' := 42) (by decide) (q := 40) rfl hs_ne.1 hs_ne.2 (fun hc37 => ?_) (fun hc37 => ?_)
        · skip
          refine o_iloadN S rfl d2_42 rfl (q := 43) ?_
          refine o_iconst S (z := 1) rfl d2_43 rfl (q := 44) ?_
          refine o_icmp S d2_44 (by decide) (q' := 56) (by decide) (q := 47) rfl (hs_le (a := p1.toInt) (b := 1) rfl rfl).1 (hs_le (a := p1.toInt) (b := 1) rfl rfl).2 (fun hc44 => ?_) (fun hc44 => ?_)
          · skip
            refine o_iconst S (z := 0) rfl d2_56 rfl (q := 57) ?_
            refine o_retI S rfl d2_57 (by decide) (by decide) ?_
            exact ⟨o_si (by rw [f_idx, if_pos hc2, if_pos hc16, if_neg hc30, if_pos hc37, if_pos hc44]), rfl⟩
          · skip
            refine o_aloadN S rfl rfl d2_47 rfl (q := 48) ?_
            refine o_iconst S (z := 1) rfl d2_48 rfl (q := 49) ?_
            refine o_iaload S A_r0 (by decide) (by show (1 : Int) < _; omega) (v := (xs.getD 1 0)) rfl d2_49 rfl (q := 50) ?_
            refine o_iloadN S rfl d2_50 rfl (q := 51) ?_
            refine o_icmp S d2_51 (by decide) (q' := 56) (by decide) (q := 54) rfl hs_ne.1 hs_ne.2 (fun hc51 => ?_) (fun hc51 => ?_)
            · skip
              refine o_iconst S (z := 0) rfl d2_56 rfl (q := 57) ?_
              refine o_retI S rfl d2_57 (by decide) (by decide) ?_
              exact ⟨o_si (by rw [f_idx, if_pos hc2, if_pos hc16, if_neg hc30, if_pos hc37, if_neg hc44, if_pos hc51]), rfl⟩
            · skip
              refine o_iconst S (z := 1) rfl d2_54 rfl (q := 55) ?_
              refine o_retI S rfl d2_55 (by decide) (by decide) ?_
              exact ⟨o_si (by rw [f_idx, if_pos hc2, if_pos hc16, if_neg hc30, if_pos hc37, if_neg hc44, if_neg hc51]), rfl⟩
        · skip
          refine o_iconst S (z := 2) rfl d2_40 rfl (q := 41) ?_
          refine o_retI S rfl d2_41 (by decide) (by decide) ?_
          exact ⟨o_si (by rw [f_idx, if_pos hc2, if_pos hc16, if_neg hc30, if_neg hc37]), rfl⟩
    · skip
      refine o_aloadN S rfl rfl d2_19 rfl (q := 20) ?_
      refine o_iconst S (z := 3) rfl d2_20 rfl (q := 21) ?_
      refine o_iaload S A_r0 (by decide) (by show (3 : Int) < _; omega) (v := (xs.getD 3 0)) rfl d2_21 rfl (q := 22) ?_
      refine o_iloadN S rfl d2_22 rfl (q := 23) ?_
      refine o_icmp S d2_23 (by decide) (q' := 28) (by decide) (q := 26) rfl hs_ne.1 hs_ne.2 (fun hc23 => ?_) (fun hc23 => ?_)
      · skip
        refine o_iloadN S rfl d2_28 rfl (q := 29) ?_
        refine o_iconst S (z := 2) rfl d2_29 rfl (q := 30) ?_
        refine o_icmp S d2_30 (by decide) (q' := 42) (by decide) (q := 33) rfl (hs_le (a := p1.toInt) (b := 2) rfl rfl).1 (hs_le (a := p1.toInt) (b := 2) rfl rfl).2 (fun hc30 => ?_) (fun hc30 => ?_)
        · skip
          refine o_iloadN S rfl d2_42 rfl (q := 43) ?_
          refine o_iconst S (z := 1) rfl d2_43 rfl (q := 44) ?_
          refine o_icmp S d2_44 (by decide) (q' := 56) (by decide) (q := 47) rfl (hs_le (a := p1.toInt) (b := 1) rfl rfl).1 (hs_le (a := p1.toInt) (b := 1) rfl rfl).2 (fun hc44 => ?_) (fun hc44 => ?_)
          · skip
            refine o_iconst S (z := 0) rfl d2_56 rfl (q := 57) ?_
            refine o_retI S rfl d2_57 (by decide) (by decide) ?_
            exact ⟨o_si (by rw [f_idx, if_pos hc2, if_neg hc16, if_pos hc23, if_pos hc30, if_pos hc44]), rfl⟩
          · skip
            refine o_aloadN S rfl rfl d2_47 rfl (q := 48) ?_
            refine o_iconst S (z := 1) rfl d2_48 rfl (q := 49) ?_
            refine o_iaload S A_r0 (by decide) (by show (1 : Int) < _; omega) (v := (xs.getD 1 0)) rfl d2_49 rfl (q := 50) ?_
            refine o_iloadN S rfl d2_50 rfl (q := 51) ?_
            refine o_icmp S d2_51 (by decide) (q' := 56) (by decide) (q := 54) rfl hs_ne.1 hs_ne.2 (fun hc51 => ?_) (fun hc51 => ?_)
            · skip
              refine o_iconst S (z := 0) rfl d2_56 rfl (q := 57) ?_
              refine o_retI S rfl d2_57 (by decide) (by decide) ?_
              exact ⟨o_si (by rw [f_idx, if_pos hc2, if_neg hc16, if_pos hc23, if_pos hc30, if_neg hc44, if_pos hc51]), rfl⟩
            · skip
              refine o_iconst S (z := 1) rfl d2_54 rfl (q := 55) ?_
              refine o_retI S rfl d2_55 (by decide) (by decide) ?_
              exact ⟨o_si (by rw [f_idx, if_pos hc2, if_neg hc16, if_pos hc23, if_pos hc30, if_neg hc44, if_neg hc51]), rfl⟩
        · skip
          refine o_aloadN S rfl rfl d2_33 rfl (q := 34) ?_
          refine o_iconst S (z := 2) rfl d2_34 rfl (q := 35) ?_
          refine o_iaload S A_r0 (by decide) (by show (2 : Int) < _; omega) (v := (xs.getD 2 0)) rfl d2_35 rfl (q := 36) ?_
          refine o_iloadN S rfl d2_36 rfl (q := 37) ?_
          refine o_icmp S d2_37 (by decide) (q' := 42) (by decide) (q := 40) rfl hs_ne.1 hs_ne.2 (fun hc37 => ?_) (fun hc37 => ?_)
          · skip
            refine o_iloadN S rfl d2_42 rfl (q := 43) ?_
            refine o_iconst S (z := 1) rfl d2_43 rfl (q := 44) ?_
            refine o_icmp S d2_44 (by decide) (q' := 56) (by decide) (q := 47) rfl (hs_le (a := p1.toInt) (b := 1) rfl rfl).1 (hs_le (a := p1.toInt) (b := 1) rfl rfl).2 (fun hc44 => ?_) (fun hc44 => ?_)
            · skip
              refine o_iconst S (z := 0) rfl d2_56 rfl (q := 57) ?_
              refine o_retI S rfl d2_57 (by decide) (by decide) ?_
              exact ⟨o_si (by rw [f_idx, if_pos hc2, if_neg hc16, if_pos hc23, if_neg hc30, if_pos hc37, if_pos hc44]), rfl⟩
            · skip
              refine o_aloadN S rfl rfl d2_47 rfl (q := 48) ?_
              refine o_iconst S (z := 1) rfl d2_48 rfl (q := 49) ?_
              refine o_iaload S A_r0 (by decide) (by show (1 : Int) < _; omega) (v := (xs.getD 1 0)) rfl d2_49 rfl (q := 50) ?_
              refine o_iloadN S rfl d2_50 rfl (q := 51) ?_
              refine o_icmp S d2_51 (by decide) (q' := 56) (by decide) (q := 54) rfl hs_ne.1 hs_ne.2 (fun hc51 => ?_) (fun hc51 => ?_)
              · skip
                refine o_iconst S (z := 0) rfl d2_56 rfl (q := 57) ?_
                refine o_retI S rfl d2_57 (by decide) (by decide) ?_
                exact ⟨o_si (by rw [f_idx, if_pos hc2, if_neg hc16, if_pos hc23, if_neg hc30, if_pos hc37, if_neg hc44, if_pos hc51]), rfl⟩
              · skip
                refine o_iconst S (z := 1) rfl d2_54 rfl (q := 55) ?_
                refine o_retI S rfl d2_55 (by decide) (by decide) ?_
                exact ⟨o_si (by rw [f_idx, if_pos hc2, if_neg hc16, if_pos hc23, if_neg hc30, if_pos hc37, if_neg hc44, if_neg hc51]), rfl⟩
          · skip
            refine o_iconst S (z := 2) rfl d2_40 rfl (q := 41) ?_
            refine o_retI S rfl d2_41 (by decide) (by decide) ?_
            exact ⟨o_si (by rw [f_idx, if_pos hc2, if_neg hc16, if_pos hc23, if_neg hc30, if_neg hc37]), rfl⟩
      · skip
        refine o_iconst S (z := 3) rfl d2_26 rfl (q := 27) ?_
        refine o_retI S rfl d2_27 (by decide) (by decide) ?_
        exact ⟨o_si (by rw [f_idx, if_pos hc2, if_neg hc16, if_neg hc23]), rfl⟩
  · skip
    refine o_aloadN S rfl rfl d2_5 rfl (q := 6) ?_
    refine o_iconst S (z := 4) rfl d2_6 rfl (q := 7) ?_
    refine o_iaload S A_r0 (by decide) (by show (4 : Int) < _; omega) (v := (xs.getD 4 0)) rfl d2_7 rfl (q := 8) ?_
    refine o_iloadN S rfl d2_8 rfl (q := 9) ?_
    refine o_icmp S d2_9 (by decide) (q' := 14) (by decide) (q := 12) rfl hs_ne.1 hs_ne.2 (fun hc9 => ?_) (fun hc9 => ?_)
    · skip
      refine o_iloadN S rfl d2_14 rfl (q := 15) ?_
      refine o_iconst S (z := 3) rfl d2_15 rfl (q := 16) ?_
      refine o_icmp S d2_16 (by decide) (q' := 28) (by decide) (q := 19) rfl (hs_le (a := p1.toInt) (b := 3) rfl rfl).1 (hs_le (a := p1.toInt) (b := 3) rfl rfl).2 (fun hc16 => ?_) (fun hc16 => ?_)
      · skip
        refine o_iloadN S rfl d2_28 rfl (q := 29) ?_
        refine o_iconst S (z := 2) rfl d2_29 rfl (q := 30) ?_
        refine o_icmp S d2_30 (by decide) (q' := 42) (by decide) (q := 33) rfl (hs_le (a := p1.toInt) (b := 2) rfl rfl).1 (hs_le (a := p1.toInt) (b := 2) rfl rfl).2 (fun hc30 => ?_) (fun hc30 => ?_)
        · skip
          refine o_iloadN S rfl d2_42 rfl (q := 43) ?_
          refine o_iconst S (z := 1) rfl d2_43 rfl (q := 44) ?_
          refine o_icmp S d2_44 (by decide) (q' := 56) (by decide) (q := 47) rfl (hs_le (a := p1.toInt) (b := 1) rfl rfl).1 (hs_le (a := p1.toInt) (b := 1) rfl rfl).2 (fun hc44 => ?_) (fun hc44 => ?_)
          · skip
            refine o_iconst S (z := 0) rfl d2_56 rfl (q := 57) ?_
            refine o_retI S rfl d2_57 (by decide) (by decide) ?_
            exact ⟨o_si (by rw [f_idx, if_neg hc2, if_pos hc9, if_pos hc16, if_pos hc30, if_pos hc44]), rfl⟩
          · skip
            refine o_aloadN S rfl rfl d2_47 rfl (q := 48) ?_
            refine o_iconst S (z := 1) rfl d2_48 rfl (q := 49) ?_
            refine o_iaload S A_r0 (by decide) (by show (1 : Int) < _; omega) (v := (xs.getD 1 0)) rfl d2_49 rfl (q := 50) ?_
            refine o_iloadN S rfl d2_50 rfl (q := 51) ?_
            refine o_icmp S d2_51 (by decide) (q' := 56) (by decide) (q := 54) rfl hs_ne.1 hs_ne.2 (fun hc51 => ?_) (fun hc51 => ?_)
            · skip
              refine o_iconst S (z := 0) rfl d2_56 rfl (q := 57) ?_
              refine o_retI S rfl d2_57 (by decide) (by decide) ?_
              exact ⟨o_si (by rw [f_idx, if_neg hc2, if_pos hc9, if_pos hc16, if_pos hc30, if_neg hc44, if_pos hc51]), rfl⟩
            · skip
              refine o_iconst S (z := 1) rfl d2_54 rfl (q := 55) ?_
              refine o_retI S rfl d2_55 (by decide) (by decide) ?_
              exact ⟨o_si (by rw [f_idx, if_neg hc2, if_pos hc9, if_pos hc16, if_pos hc30, if_neg hc44, if_neg hc51]), rfl⟩
        · skip
          refine o_aloadN S rfl rfl d2_33 rfl (q := 34) ?_
          refine o_iconst S (z := 2) rfl d2_34 rfl (q := 35) ?_
          refine o_iaload S A_r0 (by decide) (by show (2 : Int) < _; omega) (v := (xs.getD 2 0)) rfl d2_35 rfl (q := 36) ?_
          refine o_iloadN S rfl d2_36 rfl (q := 37) ?_
          refine o_icmp S d2_37 (by decide) (q' := 42) (by decide) (q := 40) rfl hs_ne.1 hs_ne.2 (fun hc37 => ?_) (fun hc37 => ?_)
          · skip
            refine o_iloadN S rfl d2_42 rfl (q := 43) ?_
            refine o_iconst S (z := 1) rfl d2_43 rfl (q := 44) ?_
            refine o_icmp S d2_44 (by decide) (q' := 56) (by decide) (q := 47) rfl (hs_le (a := p1.toInt) (b := 1) rfl rfl).1 (hs_le (a := p1.toInt) (b := 1) rfl rfl).2 (fun hc44 => ?_) (fun hc44 => ?_)
            · skip
              refine o_iconst S (z := 0) rfl d2_56 rfl (q := 57) ?_
              refine o_retI S rfl d2_57 (by decide) (by decide) ?_
              exact ⟨o_si (by rw [f_idx, if_neg hc2, if_pos hc9, if_pos hc16, if_neg hc30, if_pos hc37, if_pos hc44]), rfl⟩
            · skip
              refine o_aloadN S rfl rfl d2_47 rfl (q := 48) ?_
              refine o_iconst S (z := 1) rfl d2_48 rfl (q := 49) ?_
              refine o_iaload S A_r0 (by decide) (by show (1 : Int) < _; omega) (v := (xs.getD 1 0)) rfl d2_49 rfl (q := 50) ?_
              refine o_iloadN S rfl d2_50 rfl (q := 51) ?_
              refine o_icmp S d2_51 (by decide) (q' := 56) (by decide) (q := 54) rfl hs_ne.1 hs_ne.2 (fun hc51 => ?_) (fun hc51 => ?_)
              · skip
                refine o_iconst S (z := 0) rfl d2_56 rfl (q := 57) ?_
                refine o_retI S rfl d2_57 (by decide) (by decide) ?_
                exact ⟨o_si (by rw [f_idx, if_neg hc2, if_pos hc9, if_pos hc16, if_neg hc30, if_pos hc37, if_neg hc44, if_pos hc51]), rfl⟩
              · skip
                refine o_iconst S (z := 1) rfl d2_54 rfl (q := 55) ?_
                refine o_retI S rfl d2_55 (by decide) (by decide) ?_
                exact ⟨o_si (by rw [f_idx, if_neg hc2, if_pos hc9, if_pos hc16, if_neg hc30, if_pos hc37, if_neg hc44, if_neg hc51]), rfl⟩
          · skip
            refine o_iconst S (z := 2) rfl d2_40 rfl (q := 41) ?_
            refine o_retI S rfl d2_41 (by decide) (by decide) ?_
            exact ⟨o_si (by rw [f_idx, if_neg hc2, if_pos hc9, if_pos hc16, if_neg hc30, if_neg hc37]), rfl⟩
      · skip
        refine o_aloadN S rfl rfl d2_19 rfl (q := 20) ?_
        refine o_iconst S (z := 3) rfl d2_20 rfl (q := 21) ?_
        refine o_iaload S A_r0 (by decide) (by show (3 : Int) < _; omega) (v := (xs.getD 3 0)) rfl d2_21 rfl (q := 22) ?_
        refine o_iloadN S rfl d2_22 rfl (q := 23) ?_
        refine o_icmp S d2_23 (by decide) (q' := 28) (by decide) (q := 26) rfl hs_ne.1 hs_ne.2 (fun hc23 => ?_) (fun hc23 => ?_)
        · skip
          refine o_iloadN S rfl d2_28 rfl (q := 29) ?_
          refine o_iconst S (z := 2) rfl d2_29 rfl (q := 30) ?_
          refine o_icmp S d2_30 (by decide) (q' := 42) (by decide) (q := 33) rfl (hs_le (a := p1.toInt) (b := 2) rfl rfl).1 (hs_le (a := p1.toInt) (b := 2) rfl rfl).2 (fun hc30 => ?_) (fun hc30 => ?_)
          · skip
            refine o_iloadN S rfl d2_42 rfl (q := 43) ?_
            refine o_iconst S (z := 1) rfl d2_43 rfl (q := 44) ?_
            refine o_icmp S d2_44 (by decide) (q' := 56) (by decide) (q := 47) rfl (hs_le (a := p1.toInt) (b := 1) rfl rfl).1 (hs_le (a := p1.toInt) (b := 1) rfl rfl).2 (fun hc44 => ?_) (fun hc44 => ?_)
            · skip
              refine o_iconst S (z := 0) rfl d2_56 rfl (q := 57) ?_
              refine o_retI S rfl d2_57 (by decide) (by decide) ?_
              exact ⟨o_si (by rw [f_idx, if_neg hc2, if_pos hc9, if_neg hc16, if_pos hc23, if_pos hc30, if_pos hc44]), rfl⟩
            · skip
              refine o_aloadN S rfl rfl d2_47 rfl (q := 48) ?_
              refine o_iconst S (z := 1) rfl d2_48 rfl (q := 49) ?_
              refine o_iaload S A_r0 (by decide) (by show (1 : Int) < _; omega) (v := (xs.getD 1 0)) rfl d2_49 rfl (q := 50) ?_
              refine o_iloadN S rfl d2_50 rfl (q := 51) ?_
              refine o_icmp S d2_51 (by decide) (q' := 56) (by decide) (q := 54) rfl hs_ne.1 hs_ne.2 (fun hc51 => ?_) (fun hc51 => ?_)
              · skip
                refine o_iconst S (z := 0) rfl d2_56 rfl (q := 57) ?_
                refine o_retI S rfl d2_57 (by decide) (by decide) ?_
                exact ⟨o_si (by rw [f_idx, if_neg hc2, if_pos hc9, if_neg hc16, if_pos hc23, if_pos hc30, if_neg hc44, if_pos hc51]), rfl⟩
              · skip
                refine o_iconst S (z := 1) rfl d2_54 rfl (q := 55) ?_
                refine o_retI S rfl d2_55 (by decide) (by decide) ?_
                exact ⟨o_si (by rw [f_idx, if_neg hc2, if_pos hc9, if_neg hc16, if_pos hc23, if_pos hc30, if_neg hc44, if_neg hc51]), rfl⟩
          · skip
            refine o_aloadN S rfl rfl d2_33 rfl (q := 34) ?_
            refine o_iconst S (z := 2) rfl d2_34 rfl (q := 35) ?_
            refine o_iaload S A_r0 (by decide) (by show (2 : Int) < _; omega) (v := (xs.getD 2 0)) rfl d2_35 rfl (q := 36) ?_
            refine o_iloadN S rfl d2_36 rfl (q := 37) ?_
            refine o_icmp S d2_37 (by decide) (q' := 42) (by decide) (q := 40) rfl hs_ne.1 hs_ne.2 (fun hc37 => ?_) (fun hc37 => ?_)
            · skip
              refine o_iloadN S rfl d2_42 rfl (q := 43) ?_
              refine o_iconst S (z := 1) rfl d2_43 rfl (q := 44) ?_
              refine o_icmp S d2_44 (by decide) (q' := 56) (by decide) (q := 47) rfl (hs_le (a := p1.toInt) (b := 1) rfl rfl).1 (hs_le (a := p1.toInt) (b := 1) rfl rfl).2 (fun hc44 => ?_) (fun hc44 => ?_)
              · skip
                refine o_iconst S (z := 0) rfl d2_56 rfl (q := 57) ?_
                refine o_retI S rfl d2_57 (by decide) (by decide) ?_
                exact ⟨o_si (by rw [f_idx, if_neg hc2, if_pos hc9, if_neg hc16, if_pos hc23, if_neg hc30, if_pos hc37, if_pos hc44]), rfl⟩
              · skip
                refine o_aloadN S rfl rfl d2_47 rfl (q := 48) ?_
                refine o_iconst S (z := 1) rfl d2_48 rfl (q := 49) ?_
                refine o_iaload S A_r0 (by decide) (by show (1 : Int) < _; omega) (v := (xs.getD 1 0)) rfl d2_49 rfl (q := 50) ?_
                refine o_iloadN S rfl d2_50 rfl (q := 51) ?_
                refine o_icmp S d2_51 (by decide) (q' := 56) (by decide) (q := 54) rfl hs_ne.1 hs_ne.2 (fun hc51 => ?_) (fun hc51 => ?_)
                · skip
                  refine o_iconst S (z := 0) rfl d2_56 rfl (q := 57) ?_
                  refine o_retI S rfl d2_57 (by decide) (by decide) ?_
                  exact ⟨o_si (by rw [f_idx, if_neg hc2, if_pos hc9, if_neg hc16, if_pos hc23, if_neg hc30, if_pos hc37, if_neg hc44, if_pos hc51]), rfl⟩
                · skip
                  refine o_iconst S (z := 1) rfl d2_54 rfl (q := 55) ?_
                  refine o_retI S rfl d2_55 (by decide) (by decide) ?_
                  exact ⟨o_si (by rw [f_idx, if_neg hc2, if_pos hc9, if_neg hc16, if_pos hc23, if_neg hc30, if_pos hc37, if_neg hc44, if_neg hc51]), rfl⟩
            · skip
              refine o_iconst S (z := 2) rfl d2_40 rfl (q := 41) ?_
              refine o_retI S rfl d2_41 (by decide) (by decide) ?_
              exact ⟨o_si (by rw [f_idx, if_neg hc2, if_pos hc9, if_neg hc16, if_pos hc23, if_neg hc30, if_neg hc37]), rfl⟩
        · skip
          refine o_iconst S (z := 3) rfl d2_26 rfl (q := 27) ?_
          refine o_retI S rfl d2_27 (by decide) (by decide) ?_
          exact ⟨o_si (by rw [f_idx, if_neg hc2, if_pos hc9, if_neg hc16, if_neg hc23]), rfl⟩
    · skip
      refine o_iconst S (z := 4) rfl d2_12 rfl (q := 13) ?_
      refine o_retI S rfl d2_13 (by decide) (by decide) ?_
      exact ⟨o_si (by rw [f_idx, if_neg hc2, if_neg hc9]), rfl⟩
def f_prev (p1 : Int32) (N : Int32) (ps : List Int32) (xs : List Int32) : Int32 := if 0 ≤ ((ps.getD p1.toNatClampNeg 0) - (1 : Int32)).toInt then (xs.getD ((ps.getD p1.toNatClampNeg 0) - (1 : Int32)).toNatClampNeg 0) else (xs.getD (N - (1 : Int32)).toNatClampNeg 0)
theorem d5_0 : decode prog_41_method_5_code 0 = .ok (.aload_n 0, 1) := by decide +kernel
theorem d5_1 : decode prog_41_method_5_code 1 = .ok (.getfield 25, 3) := by decide +kernel
theorem d5_4 : decode prog_41_method_5_code 4 = .ok (.iload_n 1, 1) := by decide +kernel
theorem d5_5 : decode prog_41_method_5_code 5 = .ok (.iaload, 1) := by decide +kernel
theorem d5_6 : decode prog_41_method_5_code 6 = .ok (.iconst 1, 1) := by decide +kernel
theorem d5_7 : decode prog_41_method_5_code 7 = .ok (.isub, 1) := by decide +kernel
theorem d5_8 : decode prog_41_method_5_code 8 = .ok (.istore_n 2, 1) := by decide +kernel
theorem d5_9 : decode prog_41_method_5_code 9 = .ok (.aload_n 0, 1) := by decide +kernel
theorem d5_10 : decode prog_41_method_5_code 10 = .ok (.getfield 18, 3) := by decide +kernel
theorem d5_13 : decode prog_41_method_5_code 13 = .ok (.iload_n 2, 1) := by decide +kernel
theorem d5_14 : decode prog_41_method_5_code 14 = .ok (.ifCond .ge 12, 3) := by decide +kernel
theorem d5_17 : decode prog_41_method_5_code 17 = .ok (.aload_n 0, 1) := by decide +kernel
theorem d5_18 : decode prog_41_method_5_code 18 = .ok (.getfield 21, 3) := by decide +kernel
theorem d5_21 : decode prog_41_method_5_code 21 = .ok (.iconst 1, 1) := by decide +kernel
theorem d5_22 : decode prog_41_method_5_code 22 = .ok (.isub, 1) := by decide +kernel
theorem d5_23 : decode prog_41_method_5_code 23 = .ok (.goto 4, 3) := by decide +kernel
theorem d5_26 : decode prog_41_method_5_code 26 = .ok (.iload_n 2, 1) := by decide +kernel
theorem d5_27 : decode prog_41_method_5_code 27 = .ok (.iaload, 1) := by decide +kernel
theorem d5_28 : decode prog_41_method_5_code 28 = .ok (.ireturn, 1) := by decide +kernel
def rm_5 : Room := ({ frames := 0, cells := 0, slots := 0, locals := 0 } : Room)
theorem pn_5 : plainFor (⟨"com/example/ladentour/ladentour/solve/ArrayTour", "previous", "(I)I"⟩ : MethodName) = true := plainFor_of_name (by first | (simp [plainName, overriddenIn]; done) | (simp [plainName, overriddenIn, x]; done) | decide +kernel)
theorem ef_5 (r0 : Addr) (p1 : Int32) (m : MethodId) : entryFrame m #[(.ref r0), (.int p1)] 3 = mkF m 0 #[.val (.ref r0), .val (.int p1), .unset] [] := by first | (simp [entryFrame, mkF, argsToLocals, Value.category]; done) | rfl
set_option maxRecDepth 65536 in
set_option maxHeartbeats 40000000 in
theorem ct_5 (l : Launch) (Z : State) (a0 : Array Value) (hw : ∀ d ∈ tables_1, d.before a0 Z = true) (r0 : Addr) (p1 : Int32) (b2 : Addr) (b1 : Addr) (N : Int32) (ps : List Int32) (xs : List Int32) (h0 : Heap) (n0 : Nat) (hn : n0 ≤ h0.size) (E_r0 : Exa Z h0 r0 "com/example/ladentour/ladentour/solve/ArrayTour") (F_position_r0 : Fld Z h0 r0 "com/example/ladentour/ladentour/solve/ArrayTour" "position" "[I" (.ref b2)) (F_order_r0 : Fld Z h0 r0 "com/example/ladentour/ladentour/solve/ArrayTour" "order" "[I" (.ref b1)) (F_n_r0 : Fld Z h0 r0 "com/example/ladentour/ladentour/solve/ArrayTour" "n" "I" (.int N)) (A_b2 : IA Z h0 b2 .int ps) (A_b1 : IA Z h0 b1 .int xs) (hp : 0 ≤ p1.toInt ∧ p1.toInt < ps.length) (hq : ((ps.getD p1.toNatClampNeg 0) - (1 : Int32)).toInt < xs.length ∧ 0 ≤ (N - (1 : Int32)).toInt ∧ (N - (1 : Int32)).toInt < xs.length) : Ct l (⟨"com/example/ladentour/ladentour/solve/ArrayTour", "previous", "(I)I"⟩ : MethodName) prog_41_method_5_code 3 (some .int) [] rm_5 Z h0 n0 #[(.ref r0), (.int p1)] (Qp (some (.int (f_prev p1 N ps xs))) h0) := by
  refine o_body pn_5 hn (ef_5 r0 p1) ?_
  intro p e s m below meth c T S
  refine o_aloadN S rfl rfl d5_0 rfl (q := 1) ?_
  refine o_getF S (o_wd (i := 34) hw rfl) Via.refl F_position_r0 d5_1 rfl (q := 4) (fun T S => ?_)
  refine o_iloadN S rfl d5_4 rfl (q := 5) ?_
  refine o_iaload S A_b2 hp.1 hp.2 (v := (ps.getD p1.toNatClampNeg 0)) rfl d5_5 rfl (q := 6) ?_
  refine o_iconst S (z := 1) rfl d5_6 rfl (q := 7) ?_
  refine o_isub S d5_7 rfl (q := 8) ?_
  refine o_istoreN S (L' := #[.val (.ref r0), .val (.int p1), .val (.int ((ps.getD p1.toNatClampNeg 0) - (1 : Int32)))]) rfl d5_8 rfl (q := 9) ?_
  refine o_aloadN S rfl rfl d5_9 rfl (q := 10) ?_
  refine o_getF S (o_wd (i := 30) hw rfl) Via.refl F_order_r0 d5_10 rfl (q := 13) (fun T S => ?_)
  refine o_iloadN S rfl d5_13 rfl (q := 14) ?_
  refine o_if S d5_14 (by decide) (q' := 26) (by decide) (q := 17) rfl (hs_ge (a := ((ps.getD p1.toNatClampNeg 0) - (1 : Int32)).toInt) (b := 0) rfl rfl).1 (hs_ge (a := ((ps.getD p1.toNatClampNeg 0) - (1 : Int32)).toInt) (b := 0) rfl rfl).2 (fun hc14 => ?_) (fun hc14 => ?_)
  · skip
    refine o_iloadN S rfl d5_26 rfl (q := 27) ?_
    refine o_iaload S A_b1 hc14 hq.1 (v := (xs.getD ((ps.getD p1.toNatClampNeg 0) - (1 : Int32)).toNatClampNeg 0)) rfl d5_27 rfl (q := 28) ?_
    refine o_retI S rfl d5_28 (by decide) (by decide) ?_
    exact ⟨o_si (by rw [f_prev, if_pos hc14]), rfl⟩
  · skip
    refine o_aloadN S rfl rfl d5_17 rfl (q := 18) ?_
    refine o_getF S (o_wd (i := 32) hw rfl) Via.refl F_n_r0 d5_18 rfl (q := 21) (fun T S => ?_)
    refine o_iconst S (z := 1) rfl d5_21 rfl (q := 22) ?_
    refine o_isub S d5_22 rfl (q := 23) ?_
    refine o_goto S d5_23 (by decide) (q := 27) (by decide) ?_
    refine o_iaload S A_b1 hq.2.1 hq.2.2 (v := (xs.getD (N - (1 : Int32)).toNatClampNeg 0)) rfl d5_27 rfl (q := 28) ?_
    refine o_retI S rfl d5_28 (by decide) (by decide) ?_
    exact ⟨o_si (by rw [f_prev, if_neg hc14]), rfl⟩
theorem own_ofN {h : Int32} {N : Nat} (h0 : 0 ≤ h.toInt) (h1 : h.toInt < N) : ∃ i : Fin N, h = Int32.ofNat i.1 := by
  obtain ⟨g1, g2⟩ := o_nat h0
  exact ⟨⟨h.toNatClampNeg, by omega⟩, (back32 g1).1.symm⟩
set_option maxHeartbeats 8000000 in
set_option maxRecDepth 65536 in
theorem pos_1 {x0 c : Int32} (hr : (0 ≤ x0.toInt ∧ x0.toInt < 1)) (hd : True) (h0 : 0 ≤ c.toInt) (h1 : c.toInt < 1) : (0 ≤ (((f_idx (1 : Int32) c [x0] + (1 : Int32)) - (1 : Int32)) % (1 : Int32)).toInt ∧ (((f_idx (1 : Int32) c [x0] + (1 : Int32)) - (1 : Int32)) % (1 : Int32)).toInt < 1) ∧ (((posI [x0] 1).getD c.toNatClampNeg 0 - (1 : Int32)).toInt < 1 ∧ 0 ≤ ((1 : Int32) - (1 : Int32)).toInt ∧ ((1 : Int32) - (1 : Int32)).toInt < 1) ∧ f_prev c (1 : Int32) (posI [x0] 1) [x0] = ([x0] : List Int32).getD (((f_idx (1 : Int32) c [x0] + (1 : Int32)) - (1 : Int32)) % (1 : Int32)).toNatClampNeg 0 := by
  obtain ⟨a0, rfl⟩ := own_ofN (N := 1) hr.1 hr.2
  obtain ⟨b, rfl⟩ := own_ofN (N := 1) h0 h1
  have q : ∀ a0 : Fin 1, ∀ b : Fin 1, (0 ≤ (((f_idx (1 : Int32) (Int32.ofNat b.1) [(Int32.ofNat a0.1)] + (1 : Int32)) - (1 : Int32)) % (1 : Int32)).toInt ∧ (((f_idx (1 : Int32) (Int32.ofNat b.1) [(Int32.ofNat a0.1)] + (1 : Int32)) - (1 : Int32)) % (1 : Int32)).toInt < 1) ∧ (((posI [(Int32.ofNat a0.1)] 1).getD (Int32.ofNat b.1).toNatClampNeg 0 - (1 : Int32)).toInt < 1 ∧ 0 ≤ ((1 : Int32) - (1 : Int32)).toInt ∧ ((1 : Int32) - (1 : Int32)).toInt < 1) ∧ f_prev (Int32.ofNat b.1) (1 : Int32) (posI [(Int32.ofNat a0.1)] 1) [(Int32.ofNat a0.1)] = ([(Int32.ofNat a0.1)] : List Int32).getD (((f_idx (1 : Int32) (Int32.ofNat b.1) [(Int32.ofNat a0.1)] + (1 : Int32)) - (1 : Int32)) % (1 : Int32)).toNatClampNeg 0 := by decide +kernel
  exact q a0 b
theorem open_1 {xs : List Int32} (h : PermL 1 xs) : ∃ x0 : Int32, xs = [x0] ∧ ((0 ≤ x0.toInt ∧ x0.toInt < 1)) ∧ (True) := by
  obtain ⟨h1, h2, h3⟩ := h
  match xs, h1 with
  | [x0], _ => exact ⟨x0, rfl, h2 0 (by decide), trivial⟩
theorem own_bd1 {x0 : Int32} (hr : (0 ≤ x0.toInt ∧ x0.toInt < 1)) (i : Nat) (hi : i < 1) : 0 ≤ (([x0] : List Int32).getD i 0).toInt ∧ (([x0] : List Int32).getD i 0).toInt < (([x0] : List Int32).length : Nat) := by
  have : i = 0 := by omega
  rcases this with rfl
  · exact hr
theorem perm0_1 : PermL 1 [(0 : Int32)] := by
  refine ⟨rfl, ?_, ?_⟩
  · intro i hi
    have q : ∀ i : Fin 1, 0 ≤ (([(0 : Int32)] : List Int32).getD i.1 0).toInt ∧ (([(0 : Int32)] : List Int32).getD i.1 0).toInt < ((1 : Nat) : Int) := by decide +kernel
    exact q ⟨i, hi⟩
  · intro i j hi hj hij
    have q : ∀ i j : Fin 1, i ≠ j → ([(0 : Int32)] : List Int32).getD i.1 0 ≠ ([(0 : Int32)] : List Int32).getD j.1 0 := by decide +kernel
    exact q ⟨i, hi⟩ ⟨j, hj⟩ (fun z => hij (congrArg Fin.val z))
set_option maxHeartbeats 8000000 in
set_option maxRecDepth 65536 in
theorem pos_2 {x0 x1 c : Int32} (hr : (0 ≤ x0.toInt ∧ x0.toInt < 2) ∧ (0 ≤ x1.toInt ∧ x1.toInt < 2)) (hd : x0 ≠ x1) (h0 : 0 ≤ c.toInt) (h1 : c.toInt < 2) : (0 ≤ (((f_idx (2 : Int32) c [x0, x1] + (2 : Int32)) - (1 : Int32)) % (2 : Int32)).toInt ∧ (((f_idx (2 : Int32) c [x0, x1] + (2 : Int32)) - (1 : Int32)) % (2 : Int32)).toInt < 2) ∧ (((posI [x0, x1] 2).getD c.toNatClampNeg 0 - (1 : Int32)).toInt < 2 ∧ 0 ≤ ((2 : Int32) - (1 : Int32)).toInt ∧ ((2 : Int32) - (1 : Int32)).toInt < 2) ∧ f_prev c (2 : Int32) (posI [x0, x1] 2) [x0, x1] = ([x0, x1] : List Int32).getD (((f_idx (2 : Int32) c [x0, x1] + (2 : Int32)) - (1 : Int32)) % (2 : Int32)).toNatClampNeg 0 := by
  obtain ⟨a0, rfl⟩ := own_ofN (N := 2) hr.1.1 hr.1.2
  obtain ⟨a1, rfl⟩ := own_ofN (N := 2) hr.2.1 hr.2.2
  obtain ⟨b, rfl⟩ := own_ofN (N := 2) h0 h1
  have q : ∀ a0 : Fin 2, ∀ a1 : Fin 2, a0 ≠ a1 → ∀ b : Fin 2, (0 ≤ (((f_idx (2 : Int32) (Int32.ofNat b.1) [(Int32.ofNat a0.1), (Int32.ofNat a1.1)] + (2 : Int32)) - (1 : Int32)) % (2 : Int32)).toInt ∧ (((f_idx (2 : Int32) (Int32.ofNat b.1) [(Int32.ofNat a0.1), (Int32.ofNat a1.1)] + (2 : Int32)) - (1 : Int32)) % (2 : Int32)).toInt < 2) ∧ (((posI [(Int32.ofNat a0.1), (Int32.ofNat a1.1)] 2).getD (Int32.ofNat b.1).toNatClampNeg 0 - (1 : Int32)).toInt < 2 ∧ 0 ≤ ((2 : Int32) - (1 : Int32)).toInt ∧ ((2 : Int32) - (1 : Int32)).toInt < 2) ∧ f_prev (Int32.ofNat b.1) (2 : Int32) (posI [(Int32.ofNat a0.1), (Int32.ofNat a1.1)] 2) [(Int32.ofNat a0.1), (Int32.ofNat a1.1)] = ([(Int32.ofNat a0.1), (Int32.ofNat a1.1)] : List Int32).getD (((f_idx (2 : Int32) (Int32.ofNat b.1) [(Int32.ofNat a0.1), (Int32.ofNat a1.1)] + (2 : Int32)) - (1 : Int32)) % (2 : Int32)).toNatClampNeg 0 := by decide +kernel
  exact q a0 a1 (fun z => hd (by rw [z])) b
theorem open_2 {xs : List Int32} (h : PermL 2 xs) : ∃ x0 x1 : Int32, xs = [x0, x1] ∧ ((0 ≤ x0.toInt ∧ x0.toInt < 2) ∧ (0 ≤ x1.toInt ∧ x1.toInt < 2)) ∧ (x0 ≠ x1) := by
  obtain ⟨h1, h2, h3⟩ := h
  match xs, h1 with
  | [x0, x1], _ => exact ⟨x0, x1, rfl, ⟨h2 0 (by decide), h2 1 (by decide)⟩, h3 0 1 (by decide) (by decide) (by decide)⟩
theorem own_bd2 {x0 x1 : Int32} (hr : (0 ≤ x0.toInt ∧ x0.toInt < 2) ∧ (0 ≤ x1.toInt ∧ x1.toInt < 2)) (i : Nat) (hi : i < 2) : 0 ≤ (([x0, x1] : List Int32).getD i 0).toInt ∧ (([x0, x1] : List Int32).getD i 0).toInt < (([x0, x1] : List Int32).length : Nat) := by
  have : i = 0 ∨ i = 1 := by omega
  rcases this with rfl | rfl
  · exact hr.1
  · exact hr.2
theorem perm0_2 : PermL 2 [(0 : Int32), (1 : Int32)] := by
  refine ⟨rfl, ?_, ?_⟩
  · intro i hi
    have q : ∀ i : Fin 2, 0 ≤ (([(0 : Int32), (1 : Int32)] : List Int32).getD i.1 0).toInt ∧ (([(0 : Int32), (1 : Int32)] : List Int32).getD i.1 0).toInt < ((2 : Nat) : Int) := by decide +kernel
    exact q ⟨i, hi⟩
  · intro i j hi hj hij
    have q : ∀ i j : Fin 2, i ≠ j → ([(0 : Int32), (1 : Int32)] : List Int32).getD i.1 0 ≠ ([(0 : Int32), (1 : Int32)] : List Int32).getD j.1 0 := by decide +kernel
    exact q ⟨i, hi⟩ ⟨j, hj⟩ (fun z => hij (congrArg Fin.val z))
set_option maxHeartbeats 8000000 in
set_option maxRecDepth 65536 in
theorem pos_3 {x0 x1 x2 c : Int32} (hr : (0 ≤ x0.toInt ∧ x0.toInt < 3) ∧ (0 ≤ x1.toInt ∧ x1.toInt < 3) ∧ (0 ≤ x2.toInt ∧ x2.toInt < 3)) (hd : x0 ≠ x1 ∧ x0 ≠ x2 ∧ x1 ≠ x2) (h0 : 0 ≤ c.toInt) (h1 : c.toInt < 3) : (0 ≤ (((f_idx (3 : Int32) c [x0, x1, x2] + (3 : Int32)) - (1 : Int32)) % (3 : Int32)).toInt ∧ (((f_idx (3 : Int32) c [x0, x1, x2] + (3 : Int32)) - (1 : Int32)) % (3 : Int32)).toInt < 3) ∧ (((posI [x0, x1, x2] 3).getD c.toNatClampNeg 0 - (1 : Int32)).toInt < 3 ∧ 0 ≤ ((3 : Int32) - (1 : Int32)).toInt ∧ ((3 : Int32) - (1 : Int32)).toInt < 3) ∧ f_prev c (3 : Int32) (posI [x0, x1, x2] 3) [x0, x1, x2] = ([x0, x1, x2] : List Int32).getD (((f_idx (3 : Int32) c [x0, x1, x2] + (3 : Int32)) - (1 : Int32)) % (3 : Int32)).toNatClampNeg 0 := by
  obtain ⟨a0, rfl⟩ := own_ofN (N := 3) hr.1.1 hr.1.2
  obtain ⟨a1, rfl⟩ := own_ofN (N := 3) hr.2.1.1 hr.2.1.2
  obtain ⟨a2, rfl⟩ := own_ofN (N := 3) hr.2.2.1 hr.2.2.2
  obtain ⟨b, rfl⟩ := own_ofN (N := 3) h0 h1
  have q : ∀ a0 : Fin 3, ∀ a1 : Fin 3, a0 ≠ a1 → ∀ a2 : Fin 3, a0 ≠ a2 → a1 ≠ a2 → ∀ b : Fin 3, (0 ≤ (((f_idx (3 : Int32) (Int32.ofNat b.1) [(Int32.ofNat a0.1), (Int32.ofNat a1.1), (Int32.ofNat a2.1)] + (3 : Int32)) - (1 : Int32)) % (3 : Int32)).toInt ∧ (((f_idx (3 : Int32) (Int32.ofNat b.1) [(Int32.ofNat a0.1), (Int32.ofNat a1.1), (Int32.ofNat a2.1)] + (3 : Int32)) - (1 : Int32)) % (3 : Int32)).toInt < 3) ∧ (((posI [(Int32.ofNat a0.1), (Int32.ofNat a1.1), (Int32.ofNat a2.1)] 3).getD (Int32.ofNat b.1).toNatClampNeg 0 - (1 : Int32)).toInt < 3 ∧ 0 ≤ ((3 : Int32) - (1 : Int32)).toInt ∧ ((3 : Int32) - (1 : Int32)).toInt < 3) ∧ f_prev (Int32.ofNat b.1) (3 : Int32) (posI [(Int32.ofNat a0.1), (Int32.ofNat a1.1), (Int32.ofNat a2.1)] 3) [(Int32.ofNat a0.1), (Int32.ofNat a1.1), (Int32.ofNat a2.1)] = ([(Int32.ofNat a0.1), (Int32.ofNat a1.1), (Int32.ofNat a2.1)] : List Int32).getD (((f_idx (3 : Int32) (Int32.ofNat b.1) [(Int32.ofNat a0.1), (Int32.ofNat a1.1), (Int32.ofNat a2.1)] + (3 : Int32)) - (1 : Int32)) % (3 : Int32)).toNatClampNeg 0 := by decide +kernel
  exact q a0 a1 (fun z => hd.1 (by rw [z])) a2 (fun z => hd.2.1 (by rw [z])) (fun z => hd.2.2 (by rw [z])) b
theorem open_3 {xs : List Int32} (h : PermL 3 xs) : ∃ x0 x1 x2 : Int32, xs = [x0, x1, x2] ∧ ((0 ≤ x0.toInt ∧ x0.toInt < 3) ∧ (0 ≤ x1.toInt ∧ x1.toInt < 3) ∧ (0 ≤ x2.toInt ∧ x2.toInt < 3)) ∧ (x0 ≠ x1 ∧ x0 ≠ x2 ∧ x1 ≠ x2) := by
  obtain ⟨h1, h2, h3⟩ := h
  match xs, h1 with
  | [x0, x1, x2], _ => exact ⟨x0, x1, x2, rfl, ⟨h2 0 (by decide), h2 1 (by decide), h2 2 (by decide)⟩, ⟨h3 0 1 (by decide) (by decide) (by decide), h3 0 2 (by decide) (by decide) (by decide), h3 1 2 (by decide) (by decide) (by decide)⟩⟩
theorem own_bd3 {x0 x1 x2 : Int32} (hr : (0 ≤ x0.toInt ∧ x0.toInt < 3) ∧ (0 ≤ x1.toInt ∧ x1.toInt < 3) ∧ (0 ≤ x2.toInt ∧ x2.toInt < 3)) (i : Nat) (hi : i < 3) : 0 ≤ (([x0, x1, x2] : List Int32).getD i 0).toInt ∧ (([x0, x1, x2] : List Int32).getD i 0).toInt < (([x0, x1, x2] : List Int32).length : Nat) := by
  have : i = 0 ∨ i = 1 ∨ i = 2 := by omega
  rcases this with rfl | rfl | rfl
  · exact hr.1
  · exact hr.2.1
  · exact hr.2.2
theorem perm0_3 : PermL 3 [(0 : Int32), (1 : Int32), (2 : Int32)] := by
  refine ⟨rfl, ?_, ?_⟩
  · intro i hi
    have q : ∀ i : Fin 3, 0 ≤ (([(0 : Int32), (1 : Int32), (2 : Int32)] : List Int32).getD i.1 0).toInt ∧ (([(0 : Int32), (1 : Int32), (2 : Int32)] : List Int32).getD i.1 0).toInt < ((3 : Nat) : Int) := by decide +kernel
    exact q ⟨i, hi⟩
  · intro i j hi hj hij
    have q : ∀ i j : Fin 3, i ≠ j → ([(0 : Int32), (1 : Int32), (2 : Int32)] : List Int32).getD i.1 0 ≠ ([(0 : Int32), (1 : Int32), (2 : Int32)] : List Int32).getD j.1 0 := by decide +kernel
    exact q ⟨i, hi⟩ ⟨j, hj⟩ (fun z => hij (congrArg Fin.val z))
set_option maxHeartbeats 8000000 in
set_option maxRecDepth 65536 in
theorem pos_4 {x0 x1 x2 x3 c : Int32} (hr : (0 ≤ x0.toInt ∧ x0.toInt < 4) ∧ (0 ≤ x1.toInt ∧ x1.toInt < 4) ∧ (0 ≤ x2.toInt ∧ x2.toInt < 4) ∧ (0 ≤ x3.toInt ∧ x3.toInt < 4)) (hd : x0 ≠ x1 ∧ x0 ≠ x2 ∧ x0 ≠ x3 ∧ x1 ≠ x2 ∧ x1 ≠ x3 ∧ x2 ≠ x3) (h0 : 0 ≤ c.toInt) (h1 : c.toInt < 4) : (0 ≤ (((f_idx (4 : Int32) c [x0, x1, x2, x3] + (4 : Int32)) - (1 : Int32)) % (4 : Int32)).toInt ∧ (((f_idx (4 : Int32) c [x0, x1, x2, x3] + (4 : Int32)) - (1 : Int32)) % (4 : Int32)).toInt < 4) ∧ (((posI [x0, x1, x2, x3] 4).getD c.toNatClampNeg 0 - (1 : Int32)).toInt < 4 ∧ 0 ≤ ((4 : Int32) - (1 : Int32)).toInt ∧ ((4 : Int32) - (1 : Int32)).toInt < 4) ∧ f_prev c (4 : Int32) (posI [x0, x1, x2, x3] 4) [x0, x1, x2, x3] = ([x0, x1, x2, x3] : List Int32).getD (((f_idx (4 : Int32) c [x0, x1, x2, x3] + (4 : Int32)) - (1 : Int32)) % (4 : Int32)).toNatClampNeg 0 := by
  obtain ⟨a0, rfl⟩ := own_ofN (N := 4) hr.1.1 hr.1.2
  obtain ⟨a1, rfl⟩ := own_ofN (N := 4) hr.2.1.1 hr.2.1.2
  obtain ⟨a2, rfl⟩ := own_ofN (N := 4) hr.2.2.1.1 hr.2.2.1.2
  obtain ⟨a3, rfl⟩ := own_ofN (N := 4) hr.2.2.2.1 hr.2.2.2.2
  obtain ⟨b, rfl⟩ := own_ofN (N := 4) h0 h1
  have q : ∀ a0 : Fin 4, ∀ a1 : Fin 4, a0 ≠ a1 → ∀ a2 : Fin 4, a0 ≠ a2 → a1 ≠ a2 → ∀ a3 : Fin 4, a0 ≠ a3 → a1 ≠ a3 → a2 ≠ a3 → ∀ b : Fin 4, (0 ≤ (((f_idx (4 : Int32) (Int32.ofNat b.1) [(Int32.ofNat a0.1), (Int32.ofNat a1.1), (Int32.ofNat a2.1), (Int32.ofNat a3.1)] + (4 : Int32)) - (1 : Int32)) % (4 : Int32)).toInt ∧ (((f_idx (4 : Int32) (Int32.ofNat b.1) [(Int32.ofNat a0.1), (Int32.ofNat a1.1), (Int32.ofNat a2.1), (Int32.ofNat a3.1)] + (4 : Int32)) - (1 : Int32)) % (4 : Int32)).toInt < 4) ∧ (((posI [(Int32.ofNat a0.1), (Int32.ofNat a1.1), (Int32.ofNat a2.1), (Int32.ofNat a3.1)] 4).getD (Int32.ofNat b.1).toNatClampNeg 0 - (1 : Int32)).toInt < 4 ∧ 0 ≤ ((4 : Int32) - (1 : Int32)).toInt ∧ ((4 : Int32) - (1 : Int32)).toInt < 4) ∧ f_prev (Int32.ofNat b.1) (4 : Int32) (posI [(Int32.ofNat a0.1), (Int32.ofNat a1.1), (Int32.ofNat a2.1), (Int32.ofNat a3.1)] 4) [(Int32.ofNat a0.1), (Int32.ofNat a1.1), (Int32.ofNat a2.1), (Int32.ofNat a3.1)] = ([(Int32.ofNat a0.1), (Int32.ofNat a1.1), (Int32.ofNat a2.1), (Int32.ofNat a3.1)] : List Int32).getD (((f_idx (4 : Int32) (Int32.ofNat b.1) [(Int32.ofNat a0.1), (Int32.ofNat a1.1), (Int32.ofNat a2.1), (Int32.ofNat a3.1)] + (4 : Int32)) - (1 : Int32)) % (4 : Int32)).toNatClampNeg 0 := by decide +kernel
  exact q a0 a1 (fun z => hd.1 (by rw [z])) a2 (fun z => hd.2.1 (by rw [z])) (fun z => hd.2.2.2.1 (by rw [z])) a3 (fun z => hd.2.2.1 (by rw [z])) (fun z => hd.2.2.2.2.1 (by rw [z])) (fun z => hd.2.2.2.2.2 (by rw [z])) b
theorem open_4 {xs : List Int32} (h : PermL 4 xs) : ∃ x0 x1 x2 x3 : Int32, xs = [x0, x1, x2, x3] ∧ ((0 ≤ x0.toInt ∧ x0.toInt < 4) ∧ (0 ≤ x1.toInt ∧ x1.toInt < 4) ∧ (0 ≤ x2.toInt ∧ x2.toInt < 4) ∧ (0 ≤ x3.toInt ∧ x3.toInt < 4)) ∧ (x0 ≠ x1 ∧ x0 ≠ x2 ∧ x0 ≠ x3 ∧ x1 ≠ x2 ∧ x1 ≠ x3 ∧ x2 ≠ x3) := by
  obtain ⟨h1, h2, h3⟩ := h
  match xs, h1 with
  | [x0, x1, x2, x3], _ => exact ⟨x0, x1, x2, x3, rfl, ⟨h2 0 (by decide), h2 1 (by decide), h2 2 (by decide), h2 3 (by decide)⟩, ⟨h3 0 1 (by decide) (by decide) (by decide), h3 0 2 (by decide) (by decide) (by decide), h3 0 3 (by decide) (by decide) (by decide), h3 1 2 (by decide) (by decide) (by decide), h3 1 3 (by decide) (by decide) (by decide), h3 2 3 (by decide) (by decide) (by decide)⟩⟩
theorem own_bd4 {x0 x1 x2 x3 : Int32} (hr : (0 ≤ x0.toInt ∧ x0.toInt < 4) ∧ (0 ≤ x1.toInt ∧ x1.toInt < 4) ∧ (0 ≤ x2.toInt ∧ x2.toInt < 4) ∧ (0 ≤ x3.toInt ∧ x3.toInt < 4)) (i : Nat) (hi : i < 4) : 0 ≤ (([x0, x1, x2, x3] : List Int32).getD i 0).toInt ∧ (([x0, x1, x2, x3] : List Int32).getD i 0).toInt < (([x0, x1, x2, x3] : List Int32).length : Nat) := by
  have : i = 0 ∨ i = 1 ∨ i = 2 ∨ i = 3 := by omega
  rcases this with rfl | rfl | rfl | rfl
  · exact hr.1
  · exact hr.2.1
  · exact hr.2.2.1
  · exact hr.2.2.2
theorem perm0_4 : PermL 4 [(0 : Int32), (1 : Int32), (2 : Int32), (3 : Int32)] := by
  refine ⟨rfl, ?_, ?_⟩
  · intro i hi
    have q : ∀ i : Fin 4, 0 ≤ (([(0 : Int32), (1 : Int32), (2 : Int32), (3 : Int32)] : List Int32).getD i.1 0).toInt ∧ (([(0 : Int32), (1 : Int32), (2 : Int32), (3 : Int32)] : List Int32).getD i.1 0).toInt < ((4 : Nat) : Int) := by decide +kernel
    exact q ⟨i, hi⟩
  · intro i j hi hj hij
    have q : ∀ i j : Fin 4, i ≠ j → ([(0 : Int32), (1 : Int32), (2 : Int32), (3 : Int32)] : List Int32).getD i.1 0 ≠ ([(0 : Int32), (1 : Int32), (2 : Int32), (3 : Int32)] : List Int32).getD j.1 0 := by decide +kernel
    exact q ⟨i, hi⟩ ⟨j, hj⟩ (fun z => hij (congrArg Fin.val z))
set_option maxHeartbeats 8000000 in
set_option maxRecDepth 65536 in
theorem pos_5 {x0 x1 x2 x3 x4 c : Int32} (hr : (0 ≤ x0.toInt ∧ x0.toInt < 5) ∧ (0 ≤ x1.toInt ∧ x1.toInt < 5) ∧ (0 ≤ x2.toInt ∧ x2.toInt < 5) ∧ (0 ≤ x3.toInt ∧ x3.toInt < 5) ∧ (0 ≤ x4.toInt ∧ x4.toInt < 5)) (hd : x0 ≠ x1 ∧ x0 ≠ x2 ∧ x0 ≠ x3 ∧ x0 ≠ x4 ∧ x1 ≠ x2 ∧ x1 ≠ x3 ∧ x1 ≠ x4 ∧ x2 ≠ x3 ∧ x2 ≠ x4 ∧ x3 ≠ x4) (h0 : 0 ≤ c.toInt) (h1 : c.toInt < 5) : (0 ≤ (((f_idx (5 : Int32) c [x0, x1, x2, x3, x4] + (5 : Int32)) - (1 : Int32)) % (5 : Int32)).toInt ∧ (((f_idx (5 : Int32) c [x0, x1, x2, x3, x4] + (5 : Int32)) - (1 : Int32)) % (5 : Int32)).toInt < 5) ∧ (((posI [x0, x1, x2, x3, x4] 5).getD c.toNatClampNeg 0 - (1 : Int32)).toInt < 5 ∧ 0 ≤ ((5 : Int32) - (1 : Int32)).toInt ∧ ((5 : Int32) - (1 : Int32)).toInt < 5) ∧ f_prev c (5 : Int32) (posI [x0, x1, x2, x3, x4] 5) [x0, x1, x2, x3, x4] = ([x0, x1, x2, x3, x4] : List Int32).getD (((f_idx (5 : Int32) c [x0, x1, x2, x3, x4] + (5 : Int32)) - (1 : Int32)) % (5 : Int32)).toNatClampNeg 0 := by
  obtain ⟨a0, rfl⟩ := own_ofN (N := 5) hr.1.1 hr.1.2
  obtain ⟨a1, rfl⟩ := own_ofN (N := 5) hr.2.1.1 hr.2.1.2
  obtain ⟨a2, rfl⟩ := own_ofN (N := 5) hr.2.2.1.1 hr.2.2.1.2
  obtain ⟨a3, rfl⟩ := own_ofN (N := 5) hr.2.2.2.1.1 hr.2.2.2.1.2
  obtain ⟨a4, rfl⟩ := own_ofN (N := 5) hr.2.2.2.2.1 hr.2.2.2.2.2
  obtain ⟨b, rfl⟩ := own_ofN (N := 5) h0 h1
  have q : ∀ a0 : Fin 5, ∀ a1 : Fin 5, a0 ≠ a1 → ∀ a2 : Fin 5, a0 ≠ a2 → a1 ≠ a2 → ∀ a3 : Fin 5, a0 ≠ a3 → a1 ≠ a3 → a2 ≠ a3 → ∀ a4 : Fin 5, a0 ≠ a4 → a1 ≠ a4 → a2 ≠ a4 → a3 ≠ a4 → ∀ b : Fin 5, (0 ≤ (((f_idx (5 : Int32) (Int32.ofNat b.1) [(Int32.ofNat a0.1), (Int32.ofNat a1.1), (Int32.ofNat a2.1), (Int32.ofNat a3.1), (Int32.ofNat a4.1)] + (5 : Int32)) - (1 : Int32)) % (5 : Int32)).toInt ∧ (((f_idx (5 : Int32) (Int32.ofNat b.1) [(Int32.ofNat a0.1), (Int32.ofNat a1.1), (Int32.ofNat a2.1), (Int32.ofNat a3.1), (Int32.ofNat a4.1)] + (5 : Int32)) - (1 : Int32)) % (5 : Int32)).toInt < 5) ∧ (((posI [(Int32.ofNat a0.1), (Int32.ofNat a1.1), (Int32.ofNat a2.1), (Int32.ofNat a3.1), (Int32.ofNat a4.1)] 5).getD (Int32.ofNat b.1).toNatClampNeg 0 - (1 : Int32)).toInt < 5 ∧ 0 ≤ ((5 : Int32) - (1 : Int32)).toInt ∧ ((5 : Int32) - (1 : Int32)).toInt < 5) ∧ f_prev (Int32.ofNat b.1) (5 : Int32) (posI [(Int32.ofNat a0.1), (Int32.ofNat a1.1), (Int32.ofNat a2.1), (Int32.ofNat a3.1), (Int32.ofNat a4.1)] 5) [(Int32.ofNat a0.1), (Int32.ofNat a1.1), (Int32.ofNat a2.1), (Int32.ofNat a3.1), (Int32.ofNat a4.1)] = ([(Int32.ofNat a0.1), (Int32.ofNat a1.1), (Int32.ofNat a2.1), (Int32.ofNat a3.1), (Int32.ofNat a4.1)] : List Int32).getD (((f_idx (5 : Int32) (Int32.ofNat b.1) [(Int32.ofNat a0.1), (Int32.ofNat a1.1), (Int32.ofNat a2.1), (Int32.ofNat a3.1), (Int32.ofNat a4.1)] + (5 : Int32)) - (1 : Int32)) % (5 : Int32)).toNatClampNeg 0 := by decide +kernel
  exact q a0 a1 (fun z => hd.1 (by rw [z])) a2 (fun z => hd.2.1 (by rw [z])) (fun z => hd.2.2.2.2.1 (by rw [z])) a3 (fun z => hd.2.2.1 (by rw [z])) (fun z => hd.2.2.2.2.2.1 (by rw [z])) (fun z => hd.2.2.2.2.2.2.2.1 (by rw [z])) a4 (fun z => hd.2.2.2.1 (by rw [z])) (fun z => hd.2.2.2.2.2.2.1 (by rw [z])) (fun z => hd.2.2.2.2.2.2.2.2.1 (by rw [z])) (fun z => hd.2.2.2.2.2.2.2.2.2 (by rw [z])) b
theorem open_5 {xs : List Int32} (h : PermL 5 xs) : ∃ x0 x1 x2 x3 x4 : Int32, xs = [x0, x1, x2, x3, x4] ∧ ((0 ≤ x0.toInt ∧ x0.toInt < 5) ∧ (0 ≤ x1.toInt ∧ x1.toInt < 5) ∧ (0 ≤ x2.toInt ∧ x2.toInt < 5) ∧ (0 ≤ x3.toInt ∧ x3.toInt < 5) ∧ (0 ≤ x4.toInt ∧ x4.toInt < 5)) ∧ (x0 ≠ x1 ∧ x0 ≠ x2 ∧ x0 ≠ x3 ∧ x0 ≠ x4 ∧ x1 ≠ x2 ∧ x1 ≠ x3 ∧ x1 ≠ x4 ∧ x2 ≠ x3 ∧ x2 ≠ x4 ∧ x3 ≠ x4) := by
  obtain ⟨h1, h2, h3⟩ := h
  match xs, h1 with
  | [x0, x1, x2, x3, x4], _ => exact ⟨x0, x1, x2, x3, x4, rfl, ⟨h2 0 (by decide), h2 1 (by decide), h2 2 (by decide), h2 3 (by decide), h2 4 (by decide)⟩, ⟨h3 0 1 (by decide) (by decide) (by decide), h3 0 2 (by decide) (by decide) (by decide), h3 0 3 (by decide) (by decide) (by decide), h3 0 4 (by decide) (by decide) (by decide), h3 1 2 (by decide) (by decide) (by decide), h3 1 3 (by decide) (by decide) (by decide), h3 1 4 (by decide) (by decide) (by decide), h3 2 3 (by decide) (by decide) (by decide), h3 2 4 (by decide) (by decide) (by decide), h3 3 4 (by decide) (by decide) (by decide)⟩⟩
theorem own_bd5 {x0 x1 x2 x3 x4 : Int32} (hr : (0 ≤ x0.toInt ∧ x0.toInt < 5) ∧ (0 ≤ x1.toInt ∧ x1.toInt < 5) ∧ (0 ≤ x2.toInt ∧ x2.toInt < 5) ∧ (0 ≤ x3.toInt ∧ x3.toInt < 5) ∧ (0 ≤ x4.toInt ∧ x4.toInt < 5)) (i : Nat) (hi : i < 5) : 0 ≤ (([x0, x1, x2, x3, x4] : List Int32).getD i 0).toInt ∧ (([x0, x1, x2, x3, x4] : List Int32).getD i 0).toInt < (([x0, x1, x2, x3, x4] : List Int32).length : Nat) := by
  have : i = 0 ∨ i = 1 ∨ i = 2 ∨ i = 3 ∨ i = 4 := by omega
  rcases this with rfl | rfl | rfl | rfl | rfl
  · exact hr.1
  · exact hr.2.1
  · exact hr.2.2.1
  · exact hr.2.2.2.1
  · exact hr.2.2.2.2
theorem perm0_5 : PermL 5 [(0 : Int32), (1 : Int32), (2 : Int32), (3 : Int32), (4 : Int32)] := by
  refine ⟨rfl, ?_, ?_⟩
  · intro i hi
    have q : ∀ i : Fin 5, 0 ≤ (([(0 : Int32), (1 : Int32), (2 : Int32), (3 : Int32), (4 : Int32)] : List Int32).getD i.1 0).toInt ∧ (([(0 : Int32), (1 : Int32), (2 : Int32), (3 : Int32), (4 : Int32)] : List Int32).getD i.1 0).toInt < ((5 : Nat) : Int) := by decide +kernel
    exact q ⟨i, hi⟩
  · intro i j hi hj hij
    have q : ∀ i j : Fin 5, i ≠ j → ([(0 : Int32), (1 : Int32), (2 : Int32), (3 : Int32), (4 : Int32)] : List Int32).getD i.1 0 ≠ ([(0 : Int32), (1 : Int32), (2 : Int32), (3 : Int32), (4 : Int32)] : List Int32).getD j.1 0 := by decide +kernel
    exact q ⟨i, hi⟩ ⟨j, hj⟩ (fun z => hij (congrArg Fin.val z))
theorem own_m {x : Int32} : 0 ≤ (x &&& (2147483647 : Int32)).toInt := by
  have h1 : (x &&& (2147483647 : Int32)).toInt = x.toInt % 2147483648 := c_mask x 2147483647 31 (by decide) (by decide)
  omega
theorem own_rem {x y : Int32} (n : Int) (hy : y.toInt = n) (hn : 0 < n) (h : 0 ≤ x.toInt) : 0 ≤ (x % y).toInt ∧ (x % y).toInt < n := by
  have q := (c_irem x y n hy).1 h
  have := Int.emod_nonneg x.toInt (b := n) (by omega); have := Int.emod_lt_of_pos x.toInt hn
  omega
theorem own_n {x v : Int32} (hv : v = ((1 : Int32) + ((x &&& (2147483647 : Int32)) % (5 : Int32)))) : v = 1 ∨ v = 2 ∨ v = 3 ∨ v = 4 ∨ v = 5 := by
  have h1 := own_rem (x := x &&& (2147483647 : Int32)) (y := 5) 5 rfl (by decide) own_m
  have h2 := c_iadd (1 : Int32) ((x &&& (2147483647 : Int32)) % (5 : Int32)); have : (1 : Int32).toInt = 1 := rfl; have := rng32 ((1 : Int32) + ((x &&& (2147483647 : Int32)) % (5 : Int32)))
  rw [← hv] at *
  have h3 : v.toInt = 1 ∨ v.toInt = 2 ∨ v.toInt = 3 ∨ v.toInt = 4 ∨ v.toInt = 5 := by omega
  rcases h3 with h | h | h | h | h
  · exact Or.inl (o_eq32 h)
  · exact Or.inr (Or.inl (o_eq32 h))
  · exact Or.inr (Or.inr (Or.inl (o_eq32 h)))
  · exact Or.inr (Or.inr (Or.inr (Or.inl (o_eq32 h))))
  · exact Or.inr (Or.inr (Or.inr (Or.inr (o_eq32 h))))
theorem pd_0 : parseMethodDescriptor "([IIJI)V" = some ⟨[(.array .int), .int, .long, .int], none⟩ := by decide +kernel
theorem pd_1 : parseMethodDescriptor "([III)I" = some ⟨[(.array .int), .int, .int], some .int⟩ := by decide +kernel
theorem pd_2 : parseMethodDescriptor "([I)V" = some ⟨[(.array .int)], none⟩ := by decide +kernel
theorem pd_3 : parseMethodDescriptor "(I)I" = some ⟨[.int], some .int⟩ := by decide +kernel
def Q0 : Option Value → Heap → Prop := fun v _ => v = some (.int 1)
theorem pn_0 : plainFor x = true := plainFor_of_name (by first | (simp [plainName, overriddenIn]; done) | (simp [plainName, overriddenIn, x]; done) | decide +kernel)
theorem ef_0 (p0 : Int32) (q1 : Int64) (p2 : Int32) (m : MethodId) : entryFrame m #[(.int p0), (.long q1), (.int p2)] maxLocals = mkF m 0 #[.val (.int p0), .val (.long q1), .second, .val (.int p2), .unset, .unset, .unset, .unset, .unset, .unset] [] := by first | (simp [entryFrame, mkF, argsToLocals, Value.category, maxLocals]; done) | rfl
set_option maxRecDepth 65536 in
set_option maxHeartbeats 40000000 in
theorem ct_0 (l : Launch) (Z : State) (a0 : Array Value) (hw : ∀ d ∈ tables_1, d.before a0 Z = true) (ws : List Jvm.Cond) (p0 : Int32) (q1 : Int64) (p2 : Int32) (h0 : Heap) (n0 : Nat) (hn : n0 ≤ h0.size) : Ct l x code maxLocals ret ws room_1 Z h0 n0 #[(.int p0), (.long q1), (.int p2)] (Q0) := by
  refine o_body pn_0 hn (ef_0 p0 q1 p2) ?_
  intro p e s m below meth c T S
  refine o_iconst S (z := 1) rfl at_0 rfl (q := 1) ?_
  refine o_iloadN S rfl at_1 rfl (q := 2) ?_
  refine o_ldc S (o_wd (i := 0) hw rfl) at_2 rfl (q := 4) ?_
  refine o_iand S at_4 rfl (q := 5) ?_
  refine o_iconst S (z := 5) rfl at_5 rfl (q := 6) ?_
  refine o_irem S (by decide) at_6 rfl (q := 7) ?_
  refine o_iadd S at_7 rfl (q := 8) ?_
  refine o_istoreV S (L' := fun v1 => #[.val (.int p0), .val (.long q1), .second, .val (.int p2), .val (.int v1), .unset, .unset, .unset, .unset, .unset]) (fun _ => rfl) at_8 rfl (q := 10) (fun v1 hv1 => ?_)
  rcases own_n hv1 with ho | ho | ho | ho | ho
  · subst ho
    refine o_iload S rfl at_10 rfl (q := 12) ?_
    refine o_newarrE S (cap := 1) (o_wd (i := 1) hw rfl) (ad := "[I") rfl at_12 rfl (q := 14) (by decide) (by decide) (by decide) (by decide) (by decide) (fun T h3 b2 kA_b2 S ha_b2 g_b2 X A0 E_b2 => ?_)
    have A_b2 : IA Z h3 b2 .int ([0]) := IA.new A0 (by decide) rfl rfl
    refine o_astore S (L' := #[.val (.int p0), .val (.long q1), .second, .val (.int p2), .val (.int (1 : Int32)), .val (.ref b2), .unset, .unset, .unset, .unset]) rfl rfl at_14 rfl (q := 16) ?_
    refine o_iload S rfl at_16 rfl (q := 18) ?_
    refine o_if S at_18 (by decide) (q' := 26) (by decide) (q := 21) rfl (hs_le (a := 1) (b := 0) rfl rfl).1 (hs_le (a := 1) (b := 0) rfl rfl).2 (fun hc18 => ?_) (fun hc18 => ?_)
    · exact absurd hc18 (by decide)
    · skip
      refine o_aload S rfl rfl at_21 rfl (q := 23) ?_
      refine o_iconst S (z := 0) rfl at_23 rfl (q := 24) ?_
      refine o_iconst S (z := 0) rfl at_24 rfl (q := 25) ?_
      refine o_iastore S (y := (0 : Int32)) (ys := [(0 : Int32)]) A_b2 (by decide) (by show (0 : Int) < 1; decide) g_b2 rfl rfl at_25 rfl (q := 26) (fun T h4 S W A_b2 => ?_)
      have E_b2 := Exa.wr W E_b2
      refine o_iload S rfl at_26 rfl (q := 28) ?_
      refine o_iconst S (z := 1) rfl at_28 rfl (q := 29) ?_
      refine o_icmp S at_29 (by decide) (q' := 37) (by decide) (q := 32) rfl (hs_le (a := 1) (b := 1) rfl rfl).1 (hs_le (a := 1) (b := 1) rfl rfl).2 (fun hc29 => ?_) (fun hc29 => ?_)
      · skip
        refine o_iload S rfl at_37 rfl (q := 39) ?_
        refine o_iconst S (z := 2) rfl at_39 rfl (q := 40) ?_
        refine o_icmp S at_40 (by decide) (q' := 48) (by decide) (q := 43) rfl (hs_le (a := 1) (b := 2) rfl rfl).1 (hs_le (a := 1) (b := 2) rfl rfl).2 (fun hc40 => ?_) (fun hc40 => ?_)
        · skip
          refine o_iload S rfl at_48 rfl (q := 50) ?_
          refine o_iconst S (z := 3) rfl at_50 rfl (q := 51) ?_
          refine o_icmp S at_51 (by decide) (q' := 59) (by decide) (q := 54) rfl (hs_le (a := 1) (b := 3) rfl rfl).1 (hs_le (a := 1) (b := 3) rfl rfl).2 (fun hc51 => ?_) (fun hc51 => ?_)
          · skip
            refine o_iload S rfl at_59 rfl (q := 61) ?_
            refine o_iconst S (z := 4) rfl at_61 rfl (q := 62) ?_
            refine o_icmp S at_62 (by decide) (q' := 70) (by decide) (q := 65) rfl (hs_le (a := 1) (b := 4) rfl rfl).1 (hs_le (a := 1) (b := 4) rfl rfl).2 (fun hc62 => ?_) (fun hc62 => ?_)
            · skip
              have hP := perm0_1
              refine o_aload S rfl rfl at_70 rfl (q := 72) ?_
              refine o_iload S rfl at_72 rfl (q := 74) ?_
              refine o_lloadN S rfl at_74 rfl (q := 75) ?_
              refine o_iconst S (z := 0) rfl at_75 rfl (q := 76) ?_
              refine o_callS S (W := 0) (argsL := [(.ref b2), (.int (1 : Int32)), (.long q1), (.int (0 : Int32))]) (rest := []) (o_wd (i := 2) hw rfl) (o_wd (i := 3) hw rfl) (o_wd (i := 4) hw rfl) (o_wd (i := 5) hw rfl) (by decide) (ct_1 l Z a0 hw b2 (1 : Int32) q1 (0 : Int32) ([(0 : Int32)]) h4 n0 (o_n0 S) A_b2 g_b2 (by decide) (by rw [hP.1]; rfl)) (by decide) (by decide) rfl rfl pd_0 rfl (Nat.le_of_eq rfl) at_76 rfl (q := 79) (by decide) (by decide) (fun T h5 rr6 S hQ => ?_)
              obtain ⟨hv, K1, A_b2'⟩ := hQ
              subst hv
              have E_b2 := E_b2.keep K1
              have A_b2 := A_b2'
              show Wp p e below (Po s n0 room_1 Q0) T (mkF m 79 #[.val (.int p0), .val (.long q1), .second, .val (.int p2), .val (.int (1 : Int32)), .val (.ref b2), .unset, .unset, .unset, .unset] [])
              have hP := hP.sw (ix_ok (n := (1 : Int32)) (s := q1) (sh := (0 : Int32)) (by decide) (L := 1) rfl) (ix_ok (n := (1 : Int32)) (s := q1) (sh := (0 : Int32) + (3 : Int32)) (by decide) (L := 1) rfl)
              refine o_aload S rfl rfl at_79 rfl (q := 81) ?_
              refine o_iload S rfl at_81 rfl (q := 83) ?_
              refine o_lloadN S rfl at_83 rfl (q := 84) ?_
              refine o_bipush S (z := 6) rfl at_84 rfl (q := 86) ?_
              refine o_callS S (W := 0) (argsL := [(.ref b2), (.int (1 : Int32)), (.long q1), (.int (6 : Int32))]) (rest := []) (o_wd (i := 2) hw rfl) (o_wd (i := 3) hw rfl) (o_wd (i := 4) hw rfl) (o_wd (i := 5) hw rfl) (by decide) (ct_1 l Z a0 hw b2 (1 : Int32) q1 (6 : Int32) (swL ([(0 : Int32)]) (ixF (1 : Int32) q1 (0 : Int32)) (ixF (1 : Int32) q1 ((0 : Int32) + (3 : Int32)))) h5 n0 (o_n0 S) A_b2 g_b2 (by decide) (by rw [hP.1]; rfl)) (by decide) (by decide) rfl rfl pd_0 rfl (Nat.le_of_eq rfl) at_86 rfl (q := 89) (by decide) (by decide) (fun T h7 rr8 S hQ => ?_)
              obtain ⟨hv, K1, A_b2'⟩ := hQ
              subst hv
              have E_b2 := E_b2.keep K1
              have A_b2 := A_b2'
              show Wp p e below (Po s n0 room_1 Q0) T (mkF m 89 #[.val (.int p0), .val (.long q1), .second, .val (.int p2), .val (.int (1 : Int32)), .val (.ref b2), .unset, .unset, .unset, .unset] [])
              have hP := hP.sw (ix_ok (n := (1 : Int32)) (s := q1) (sh := (6 : Int32)) (by decide) (L := 1) rfl) (ix_ok (n := (1 : Int32)) (s := q1) (sh := (6 : Int32) + (3 : Int32)) (by decide) (L := 1) rfl)
              refine o_aload S rfl rfl at_89 rfl (q := 91) ?_
              refine o_iload S rfl at_91 rfl (q := 93) ?_
              refine o_lloadN S rfl at_93 rfl (q := 94) ?_
              refine o_bipush S (z := 12) rfl at_94 rfl (q := 96) ?_
              refine o_callS S (W := 0) (argsL := [(.ref b2), (.int (1 : Int32)), (.long q1), (.int (12 : Int32))]) (rest := []) (o_wd (i := 2) hw rfl) (o_wd (i := 3) hw rfl) (o_wd (i := 4) hw rfl) (o_wd (i := 5) hw rfl) (by decide) (ct_1 l Z a0 hw b2 (1 : Int32) q1 (12 : Int32) (swL (swL ([(0 : Int32)]) (ixF (1 : Int32) q1 (0 : Int32)) (ixF (1 : Int32) q1 ((0 : Int32) + (3 : Int32)))) (ixF (1 : Int32) q1 (6 : Int32)) (ixF (1 : Int32) q1 ((6 : Int32) + (3 : Int32)))) h7 n0 (o_n0 S) A_b2 g_b2 (by decide) (by rw [hP.1]; rfl)) (by decide) (by decide) rfl rfl pd_0 rfl (Nat.le_of_eq rfl) at_96 rfl (q := 99) (by decide) (by decide) (fun T h9 rr10 S hQ => ?_)
              obtain ⟨hv, K1, A_b2'⟩ := hQ
              subst hv
              have E_b2 := E_b2.keep K1
              have A_b2 := A_b2'
              show Wp p e below (Po s n0 room_1 Q0) T (mkF m 99 #[.val (.int p0), .val (.long q1), .second, .val (.int p2), .val (.int (1 : Int32)), .val (.ref b2), .unset, .unset, .unset, .unset] [])
              have hP := hP.sw (ix_ok (n := (1 : Int32)) (s := q1) (sh := (12 : Int32)) (by decide) (L := 1) rfl) (ix_ok (n := (1 : Int32)) (s := q1) (sh := (12 : Int32) + (3 : Int32)) (by decide) (L := 1) rfl)
              refine o_aload S rfl rfl at_99 rfl (q := 101) ?_
              refine o_iload S rfl at_101 rfl (q := 103) ?_
              refine o_lloadN S rfl at_103 rfl (q := 104) ?_
              refine o_bipush S (z := 18) rfl at_104 rfl (q := 106) ?_
              refine o_callS S (W := 0) (argsL := [(.ref b2), (.int (1 : Int32)), (.long q1), (.int (18 : Int32))]) (rest := []) (o_wd (i := 2) hw rfl) (o_wd (i := 3) hw rfl) (o_wd (i := 4) hw rfl) (o_wd (i := 5) hw rfl) (by decide) (ct_1 l Z a0 hw b2 (1 : Int32) q1 (18 : Int32) (swL (swL (swL ([(0 : Int32)]) (ixF (1 : Int32) q1 (0 : Int32)) (ixF (1 : Int32) q1 ((0 : Int32) + (3 : Int32)))) (ixF (1 : Int32) q1 (6 : Int32)) (ixF (1 : Int32) q1 ((6 : Int32) + (3 : Int32)))) (ixF (1 : Int32) q1 (12 : Int32)) (ixF (1 : Int32) q1 ((12 : Int32) + (3 : Int32)))) h9 n0 (o_n0 S) A_b2 g_b2 (by decide) (by rw [hP.1]; rfl)) (by decide) (by decide) rfl rfl pd_0 rfl (Nat.le_of_eq rfl) at_106 rfl (q := 109) (by decide) (by decide) (fun T h11 rr12 S hQ => ?_)
              obtain ⟨hv, K1, A_b2'⟩ := hQ
              subst hv
              have E_b2 := E_b2.keep K1
              have A_b2 := A_b2'
              show Wp p e below (Po s n0 room_1 Q0) T (mkF m 109 #[.val (.int p0), .val (.long q1), .second, .val (.int p2), .val (.int (1 : Int32)), .val (.ref b2), .unset, .unset, .unset, .unset] [])
              have hP := hP.sw (ix_ok (n := (1 : Int32)) (s := q1) (sh := (18 : Int32)) (by decide) (L := 1) rfl) (ix_ok (n := (1 : Int32)) (s := q1) (sh := (18 : Int32) + (3 : Int32)) (by decide) (L := 1) rfl)
              obtain ⟨x0, hxe, hxr, hxd⟩ := open_1 hP
              have A_b2 : IA Z h11 b2 .int [x0] := by rw [← hxe]; exact A_b2
              refine o_iloadN S rfl at_109 rfl (q := 110) ?_
              refine o_ldc S (o_wd (i := 0) hw rfl) at_110 rfl (q := 112) ?_
              refine o_iand S at_112 rfl (q := 113) ?_
              refine o_iload S rfl at_113 rfl (q := 115) ?_
              refine o_irem S (by decide) at_115 rfl (q := 116) ?_
              refine o_istoreV S (L' := fun v13 => #[.val (.int p0), .val (.long q1), .second, .val (.int p2), .val (.int (1 : Int32)), .val (.ref b2), .val (.int v13), .unset, .unset, .unset]) (fun _ => rfl) at_116 rfl (q := 118) (fun v13 hv13 => ?_)
              have hcb : 0 ≤ v13.toInt ∧ v13.toInt < 1 := by rw [hv13]; exact own_rem 1 rfl (by decide) own_m
              have hpp := pos_1 hxr hxd hcb.1 hcb.2
              refine o_aload S rfl rfl at_118 rfl (q := 120) ?_
              refine o_iload S rfl at_120 rfl (q := 122) ?_
              refine o_iload S rfl at_122 rfl (q := 124) ?_
              refine o_callS0 S (W := 0) (argsL := [(.ref b2), (.int (1 : Int32)), (.int v13)]) (rest := []) (o_wd (i := 7) hw rfl) (o_wd (i := 8) hw rfl) (o_wd (i := 4) hw rfl) (o_wd (i := 9) hw rfl) (by decide) (ct_2 l Z a0 hw b2 (1 : Int32) v13 ([x0]) h11 n0 (o_n0 S) A_b2 rfl) (by decide) (by decide) rfl rfl pd_1 rfl (Nat.le_of_eq rfl) at_124 rfl (q := 127) (by decide) (by decide) rfl (st' := [(.int (f_idx (1 : Int32) v13 ([x0])))]) (fun T S => ?_)
              refine o_istoreV S (L' := fun pq => #[.val (.int p0), .val (.long q1), .second, .val (.int p2), .val (.int (1 : Int32)), .val (.ref b2), .val (.int v13), .val (.int pq), .unset, .unset]) (fun _ => rfl) at_127 rfl (q := 129) (fun pq hpq => ?_)
              have hpi := hpp
              rw [show f_idx (1 : Int32) v13 [x0] = pq from hpq.symm] at hpi
              refine o_aload S rfl rfl at_129 rfl (q := 131) ?_
              refine o_iload S rfl at_131 rfl (q := 133) ?_
              refine o_iload S rfl at_133 rfl (q := 135) ?_
              refine o_iadd S at_135 rfl (q := 136) ?_
              refine o_iconst S (z := 1) rfl at_136 rfl (q := 137) ?_
              refine o_isub S at_137 rfl (q := 138) ?_
              refine o_iload S rfl at_138 rfl (q := 140) ?_
              refine o_irem S (by decide) at_140 rfl (q := 141) ?_
              refine o_iaload S A_b2 hpi.1.1 hpi.1.2 (v := (([x0] : List Int32).getD (((pq + (1 : Int32)) - (1 : Int32)) % (1 : Int32)).toNatClampNeg 0)) rfl at_141 rfl (q := 142) ?_
              refine o_istoreV S (L' := fun ee => #[.val (.int p0), .val (.long q1), .second, .val (.int p2), .val (.int (1 : Int32)), .val (.ref b2), .val (.int v13), .val (.int pq), .val (.int ee), .unset]) (fun _ => rfl) at_142 rfl (q := 144) (fun ee hee => ?_)
              refine o_new S (o_wd (i := 10) hw rfl) (o_wd (i := 11) hw rfl) (o_wd (i := 12) hw rfl) at_144 rfl (q := 147) (by decide) (by decide) (fun T h15 b14 S ha_b14 g_b14 X E_b14 D => ?_)
              have ne_b2_b14 : b2 ≠ b14 := by rw [ha_b14]; exact Nat.ne_of_lt E_b2.lt
              have E_b2 := Exa.ext X E_b2
              have A_b2 := A_b2.ext X
              have F_journal_b14 : Fld Z h15 b14 "com/example/ladentour/ladentour/solve/ArrayTour" "journal" "[I" .null := D (Or.inl (o_wd (i := 20) hw rfl)) (ty := (.array .int)) (by decide)
              have F_order_b14 : Fld Z h15 b14 "com/example/ladentour/ladentour/solve/ArrayTour" "order" "[I" .null := D (Or.inr (o_wd (i := 31) hw rfl)) (ty := (.array .int)) (by decide)
              have F_n_b14 : Fld Z h15 b14 "com/example/ladentour/ladentour/solve/ArrayTour" "n" "I" (.int (0 : Int32)) := D (Or.inr (o_wd (i := 33) hw rfl)) (ty := .int) (by decide)
              have F_position_b14 : Fld Z h15 b14 "com/example/ladentour/ladentour/solve/ArrayTour" "position" "[I" .null := D (Or.inr (o_wd (i := 35) hw rfl)) (ty := (.array .int)) (by decide)
              refine o_dup S rfl at_147 rfl (q := 148) ?_
              refine o_aload S rfl rfl at_148 rfl (q := 150) ?_
              refine o_callI S (W := 1) (argsL := [(.ref b2)]) (rest := [(.ref b14)]) (a := b14) rfl (o_wd (i := 13) hw rfl) (o_wd (i := 14) hw rfl) (o_wd (i := 12) hw rfl) (o_wd (i := 15) hw rfl) (by decide) (ct_3 l Z a0 hw b14 b2 ([x0]) (1 : Int32) h15 n0 (o_n0 S) E_b14 F_journal_b14 F_order_b14 F_n_b14 F_position_b14 A_b2 E_b2 g_b14 (Ne.symm ne_b2_b14) rfl rfl (by decide) (fun i hi => own_bd1 hxr i hi)) (by decide) (by decide) rfl rfl pd_2 rfl (Nat.le_of_eq rfl) at_150 rfl (q := 153) (by decide) (by decide) (fun T h16 rr17 S hQ => ?_)
              obtain ⟨b18, g_b18, sz'_b18, b19, g_b19, sz'_b19, hv, K1, E_b14', F_order_b14', F_n_b14', F_position_b14', A_b18', A_b19'⟩ := hQ
              subst hv
              have ne_b2_b18 : b2 ≠ b18 := Nat.ne_of_lt (Nat.lt_of_lt_of_le E_b2.lt sz'_b18)
              have ne_b14_b18 : b14 ≠ b18 := Nat.ne_of_lt (Nat.lt_of_lt_of_le E_b14.lt sz'_b18)
              have ne_b2_b19 : b2 ≠ b19 := Nat.ne_of_lt (Nat.lt_of_lt_of_le E_b2.lt sz'_b19)
              have ne_b14_b19 : b14 ≠ b19 := Nat.ne_of_lt (Nat.lt_of_lt_of_le E_b14.lt sz'_b19)
              have E_b2 := E_b2.keep K1
              have A_b2 := A_b2.keep K1 (ninS ne_b2_b14 nin0)
              have E_b14 := E_b14'
              have F_order_b14 := F_order_b14'
              have F_n_b14 := F_n_b14'
              have F_position_b14 := F_position_b14'
              have A_b18 := A_b18'
              have A_b19 := A_b19'
              show Wp p e below (Po s n0 room_1 Q0) T (mkF m 153 #[.val (.int p0), .val (.long q1), .second, .val (.int p2), .val (.int (1 : Int32)), .val (.ref b2), .val (.int v13), .val (.int pq), .val (.int ee), .unset] [(.ref b14)])
              refine o_astore S (L' := #[.val (.int p0), .val (.long q1), .second, .val (.int p2), .val (.int (1 : Int32)), .val (.ref b2), .val (.int v13), .val (.int pq), .val (.int ee), .val (.ref b14)]) rfl rfl at_153 rfl (q := 155) ?_
              have hcp : 0 ≤ v13.toInt ∧ v13.toInt < (posI [x0] 1).length := ⟨hcb.1, by rw [posI_len]; exact hcb.2⟩
              have hcq := hpi.2.1
              refine o_aload S rfl rfl at_155 rfl (q := 157) ?_
              refine o_iload S rfl at_157 rfl (q := 159) ?_
              refine o_callV0 S (W := 0) (argsL := [(.int v13)]) (rest := []) (a := b14) (o_wd (i := 36) hw rfl) (o_wd (i := 37) hw rfl) (o_wd (i := 39) hw rfl) (o_wd (i := 38) hw rfl) (o_wd (i := 12) hw rfl) (o_wd (i := 40) hw rfl) (o_nf (o_wd (i := 39) hw rfl)) (by decide) E_b14 (ct_5 l Z a0 hw b14 v13 b19 b18 (1 : Int32) (posI [x0] 1) (([x0])) h16 n0 (o_n0 S) E_b14 F_position_b14 F_order_b14 F_n_b14 A_b19 A_b18 hcp hcq) (by decide) (by decide) rfl rfl pd_3 rfl (Nat.le_of_eq rfl) at_159 rfl (q := 162) (by decide) (by decide) rfl (st' := [(.int (f_prev v13 (1 : Int32) (posI [x0] 1) (([x0]))))]) (fun T S => ?_)
              refine o_iload S rfl at_162 rfl (q := 164) ?_
              refine o_icmp S at_164 (by decide) (q' := 171) (by decide) (q := 167) rfl hs_ne.1 hs_ne.2 (fun hc164 => ?_) (fun hc164 => ?_)
              · exact absurd (by rw [hee]; exact hpi.2.2) hc164
              · skip
                refine o_iconst S (z := 1) rfl at_167 rfl (q := 168) ?_
                refine o_goto S at_168 (by decide) (q := 172) (by decide) ?_
                refine o_retN S (t := .boolean) rfl (by simp) at_172 (by decide) (by decide) rfl ?_
                rfl
            · exact absurd hc62 (by decide)
          · exact absurd hc51 (by decide)
        · exact absurd hc40 (by decide)
      · exact absurd hc29 (by decide)
  · subst ho
    refine o_iload S rfl at_10 rfl (q := 12) ?_
    refine o_newarrE S (cap := 2) (o_wd (i := 1) hw rfl) (ad := "[I") rfl at_12 rfl (q := 14) (by decide) (by decide) (by decide) (by decide) (by decide) (fun T h21 b20 kA_b20 S ha_b20 g_b20 X A0 E_b20 => ?_)
    have A_b20 : IA Z h21 b20 .int ([0, 0]) := IA.new A0 (by decide) rfl rfl
    refine o_astore S (L' := #[.val (.int p0), .val (.long q1), .second, .val (.int p2), .val (.int (2 : Int32)), .val (.ref b20), .unset, .unset, .unset, .unset]) rfl rfl at_14 rfl (q := 16) ?_
    refine o_iload S rfl at_16 rfl (q := 18) ?_
    refine o_if S at_18 (by decide) (q' := 26) (by decide) (q := 21) rfl (hs_le (a := 2) (b := 0) rfl rfl).1 (hs_le (a := 2) (b := 0) rfl rfl).2 (fun hc18 => ?_) (fun hc18 => ?_)
    · exact absurd hc18 (by decide)
    · skip
      refine o_aload S rfl rfl at_21 rfl (q := 23) ?_
      refine o_iconst S (z := 0) rfl at_23 rfl (q := 24) ?_
      refine o_iconst S (z := 0) rfl at_24 rfl (q := 25) ?_
      refine o_iastore S (y := (0 : Int32)) (ys := [(0 : Int32), 0]) A_b20 (by decide) (by show (0 : Int) < 2; decide) g_b20 rfl rfl at_25 rfl (q := 26) (fun T h22 S W A_b20 => ?_)
      have E_b20 := Exa.wr W E_b20
      refine o_iload S rfl at_26 rfl (q := 28) ?_
      refine o_iconst S (z := 1) rfl at_28 rfl (q := 29) ?_
      refine o_icmp S at_29 (by decide) (q' := 37) (by decide) (q := 32) rfl (hs_le (a := 2) (b := 1) rfl rfl).1 (hs_le (a := 2) (b := 1) rfl rfl).2 (fun hc29 => ?_) (fun hc29 => ?_)
      · exact absurd hc29 (by decide)
      · skip
        refine o_aload S rfl rfl at_32 rfl (q := 34) ?_
        refine o_iconst S (z := 1) rfl at_34 rfl (q := 35) ?_
        refine o_iconst S (z := 1) rfl at_35 rfl (q := 36) ?_
        refine o_iastore S (y := (1 : Int32)) (ys := [(0 : Int32), (1 : Int32)]) A_b20 (by decide) (by show (1 : Int) < 2; decide) g_b20 rfl rfl at_36 rfl (q := 37) (fun T h23 S W A_b20 => ?_)
        have E_b20 := Exa.wr W E_b20
        refine o_iload S rfl at_37 rfl (q := 39) ?_
        refine o_iconst S (z := 2) rfl at_39 rfl (q := 40) ?_
        refine o_icmp S at_40 (by decide) (q' := 48) (by decide) (q := 43) rfl (hs_le (a := 2) (b := 2) rfl rfl).1 (hs_le (a := 2) (b := 2) rfl rfl).2 (fun hc40 => ?_) (fun hc40 => ?_)
        · skip
          refine o_iload S rfl at_48 rfl (q := 50) ?_
          refine o_iconst S (z := 3) rfl at_50 rfl (q := 51) ?_
          refine o_icmp S at_51 (by decide) (q' := 59) (by decide) (q := 54) rfl (hs_le (a := 2) (b := 3) rfl rfl).1 (hs_le (a := 2) (b := 3) rfl rfl).2 (fun hc51 => ?_) (fun hc51 => ?_)
          · skip
            refine o_iload S rfl at_59 rfl (q := 61) ?_
            refine o_iconst S (z := 4) rfl at_61 rfl (q := 62) ?_
            refine o_icmp S at_62 (by decide) (q' := 70) (by decide) (q := 65) rfl (hs_le (a := 2) (b := 4) rfl rfl).1 (hs_le (a := 2) (b := 4) rfl rfl).2 (fun hc62 => ?_) (fun hc62 => ?_)
            · skip
              have hP := perm0_2
              refine o_aload S rfl rfl at_70 rfl (q := 72) ?_
              refine o_iload S rfl at_72 rfl (q := 74) ?_
              refine o_lloadN S rfl at_74 rfl (q := 75) ?_
              refine o_iconst S (z := 0) rfl at_75 rfl (q := 76) ?_
              refine o_callS S (W := 0) (argsL := [(.ref b20), (.int (2 : Int32)), (.long q1), (.int (0 : Int32))]) (rest := []) (o_wd (i := 2) hw rfl) (o_wd (i := 3) hw rfl) (o_wd (i := 4) hw rfl) (o_wd (i := 5) hw rfl) (by decide) (ct_1 l Z a0 hw b20 (2 : Int32) q1 (0 : Int32) ([(0 : Int32), (1 : Int32)]) h23 n0 (o_n0 S) A_b20 g_b20 (by decide) (by rw [hP.1]; rfl)) (by decide) (by decide) rfl rfl pd_0 rfl (Nat.le_of_eq rfl) at_76 rfl (q := 79) (by decide) (by decide) (fun T h24 rr25 S hQ => ?_)
              obtain ⟨hv, K1, A_b20'⟩ := hQ
              subst hv
              have E_b20 := E_b20.keep K1
              have A_b20 := A_b20'
              show Wp p e below (Po s n0 room_1 Q0) T (mkF m 79 #[.val (.int p0), .val (.long q1), .second, .val (.int p2), .val (.int (2 : Int32)), .val (.ref b20), .unset, .unset, .unset, .unset] [])
              have hP := hP.sw (ix_ok (n := (2 : Int32)) (s := q1) (sh := (0 : Int32)) (by decide) (L := 2) rfl) (ix_ok (n := (2 : Int32)) (s := q1) (sh := (0 : Int32) + (3 : Int32)) (by decide) (L := 2) rfl)
              refine o_aload S rfl rfl at_79 rfl (q := 81) ?_
              refine o_iload S rfl at_81 rfl (q := 83) ?_
              refine o_lloadN S rfl at_83 rfl (q := 84) ?_
              refine o_bipush S (z := 6) rfl at_84 rfl (q := 86) ?_
              refine o_callS S (W := 0) (argsL := [(.ref b20), (.int (2 : Int32)), (.long q1), (.int (6 : Int32))]) (rest := []) (o_wd (i := 2) hw rfl) (o_wd (i := 3) hw rfl) (o_wd (i := 4) hw rfl) (o_wd (i := 5) hw rfl) (by decide) (ct_1 l Z a0 hw b20 (2 : Int32) q1 (6 : Int32) (swL ([(0 : Int32), (1 : Int32)]) (ixF (2 : Int32) q1 (0 : Int32)) (ixF (2 : Int32) q1 ((0 : Int32) + (3 : Int32)))) h24 n0 (o_n0 S) A_b20 g_b20 (by decide) (by rw [hP.1]; rfl)) (by decide) (by decide) rfl rfl pd_0 rfl (Nat.le_of_eq rfl) at_86 rfl (q := 89) (by decide) (by decide) (fun T h26 rr27 S hQ => ?_)
              obtain ⟨hv, K1, A_b20'⟩ := hQ
              subst hv
              have E_b20 := E_b20.keep K1
              have A_b20 := A_b20'
              show Wp p e below (Po s n0 room_1 Q0) T (mkF m 89 #[.val (.int p0), .val (.long q1), .second, .val (.int p2), .val (.int (2 : Int32)), .val (.ref b20), .unset, .unset, .unset, .unset] [])
              have hP := hP.sw (ix_ok (n := (2 : Int32)) (s := q1) (sh := (6 : Int32)) (by decide) (L := 2) rfl) (ix_ok (n := (2 : Int32)) (s := q1) (sh := (6 : Int32) + (3 : Int32)) (by decide) (L := 2) rfl)
              refine o_aload S rfl rfl at_89 rfl (q := 91) ?_
              refine o_iload S rfl at_91 rfl (q := 93) ?_
              refine o_lloadN S rfl at_93 rfl (q := 94) ?_
              refine o_bipush S (z := 12) rfl at_94 rfl (q := 96) ?_
              refine o_callS S (W := 0) (argsL := [(.ref b20), (.int (2 : Int32)), (.long q1), (.int (12 : Int32))]) (rest := []) (o_wd (i := 2) hw rfl) (o_wd (i := 3) hw rfl) (o_wd (i := 4) hw rfl) (o_wd (i := 5) hw rfl) (by decide) (ct_1 l Z a0 hw b20 (2 : Int32) q1 (12 : Int32) (swL (swL ([(0 : Int32), (1 : Int32)]) (ixF (2 : Int32) q1 (0 : Int32)) (ixF (2 : Int32) q1 ((0 : Int32) + (3 : Int32)))) (ixF (2 : Int32) q1 (6 : Int32)) (ixF (2 : Int32) q1 ((6 : Int32) + (3 : Int32)))) h26 n0 (o_n0 S) A_b20 g_b20 (by decide) (by rw [hP.1]; rfl)) (by decide) (by decide) rfl rfl pd_0 rfl (Nat.le_of_eq rfl) at_96 rfl (q := 99) (by decide) (by decide) (fun T h28 rr29 S hQ => ?_)
              obtain ⟨hv, K1, A_b20'⟩ := hQ
              subst hv
              have E_b20 := E_b20.keep K1
              have A_b20 := A_b20'
              show Wp p e below (Po s n0 room_1 Q0) T (mkF m 99 #[.val (.int p0), .val (.long q1), .second, .val (.int p2), .val (.int (2 : Int32)), .val (.ref b20), .unset, .unset, .unset, .unset] [])
              have hP := hP.sw (ix_ok (n := (2 : Int32)) (s := q1) (sh := (12 : Int32)) (by decide) (L := 2) rfl) (ix_ok (n := (2 : Int32)) (s := q1) (sh := (12 : Int32) + (3 : Int32)) (by decide) (L := 2) rfl)
              refine o_aload S rfl rfl at_99 rfl (q := 101) ?_
              refine o_iload S rfl at_101 rfl (q := 103) ?_
              refine o_lloadN S rfl at_103 rfl (q := 104) ?_
              refine o_bipush S (z := 18) rfl at_104 rfl (q := 106) ?_
              refine o_callS S (W := 0) (argsL := [(.ref b20), (.int (2 : Int32)), (.long q1), (.int (18 : Int32))]) (rest := []) (o_wd (i := 2) hw rfl) (o_wd (i := 3) hw rfl) (o_wd (i := 4) hw rfl) (o_wd (i := 5) hw rfl) (by decide) (ct_1 l Z a0 hw b20 (2 : Int32) q1 (18 : Int32) (swL (swL (swL ([(0 : Int32), (1 : Int32)]) (ixF (2 : Int32) q1 (0 : Int32)) (ixF (2 : Int32) q1 ((0 : Int32) + (3 : Int32)))) (ixF (2 : Int32) q1 (6 : Int32)) (ixF (2 : Int32) q1 ((6 : Int32) + (3 : Int32)))) (ixF (2 : Int32) q1 (12 : Int32)) (ixF (2 : Int32) q1 ((12 : Int32) + (3 : Int32)))) h28 n0 (o_n0 S) A_b20 g_b20 (by decide) (by rw [hP.1]; rfl)) (by decide) (by decide) rfl rfl pd_0 rfl (Nat.le_of_eq rfl) at_106 rfl (q := 109) (by decide) (by decide) (fun T h30 rr31 S hQ => ?_)
              obtain ⟨hv, K1, A_b20'⟩ := hQ
              subst hv
              have E_b20 := E_b20.keep K1
              have A_b20 := A_b20'
              show Wp p e below (Po s n0 room_1 Q0) T (mkF m 109 #[.val (.int p0), .val (.long q1), .second, .val (.int p2), .val (.int (2 : Int32)), .val (.ref b20), .unset, .unset, .unset, .unset] [])
              have hP := hP.sw (ix_ok (n := (2 : Int32)) (s := q1) (sh := (18 : Int32)) (by decide) (L := 2) rfl) (ix_ok (n := (2 : Int32)) (s := q1) (sh := (18 : Int32) + (3 : Int32)) (by decide) (L := 2) rfl)
              obtain ⟨x0, x1, hxe, hxr, hxd⟩ := open_2 hP
              have A_b20 : IA Z h30 b20 .int [x0, x1] := by rw [← hxe]; exact A_b20
              refine o_iloadN S rfl at_109 rfl (q := 110) ?_
              refine o_ldc S (o_wd (i := 0) hw rfl) at_110 rfl (q := 112) ?_
              refine o_iand S at_112 rfl (q := 113) ?_
              refine o_iload S rfl at_113 rfl (q := 115) ?_
              refine o_irem S (by decide) at_115 rfl (q := 116) ?_
              refine o_istoreV S (L' := fun v32 => #[.val (.int p0), .val (.long q1), .second, .val (.int p2), .val (.int (2 : Int32)), .val (.ref b20), .val (.int v32), .unset, .unset, .unset]) (fun _ => rfl) at_116 rfl (q := 118) (fun v32 hv32 => ?_)
              have hcb : 0 ≤ v32.toInt ∧ v32.toInt < 2 := by rw [hv32]; exact own_rem 2 rfl (by decide) own_m
              have hpp := pos_2 hxr hxd hcb.1 hcb.2
              refine o_aload S rfl rfl at_118 rfl (q := 120) ?_
              refine o_iload S rfl at_120 rfl (q := 122) ?_
              refine o_iload S rfl at_122 rfl (q := 124) ?_
              refine o_callS0 S (W := 0) (argsL := [(.ref b20), (.int (2 : Int32)), (.int v32)]) (rest := []) (o_wd (i := 7) hw rfl) (o_wd (i := 8) hw rfl) (o_wd (i := 4) hw rfl) (o_wd (i := 9) hw rfl) (by decide) (ct_2 l Z a0 hw b20 (2 : Int32) v32 ([x0, x1]) h30 n0 (o_n0 S) A_b20 rfl) (by decide) (by decide) rfl rfl pd_1 rfl (Nat.le_of_eq rfl) at_124 rfl (q := 127) (by decide) (by decide) rfl (st' := [(.int (f_idx (2 : Int32) v32 ([x0, x1])))]) (fun T S => ?_)
              refine o_istoreV S (L' := fun pq => #[.val (.int p0), .val (.long q1), .second, .val (.int p2), .val (.int (2 : Int32)), .val (.ref b20), .val (.int v32), .val (.int pq), .unset, .unset]) (fun _ => rfl) at_127 rfl (q := 129) (fun pq hpq => ?_)
              have hpi := hpp
              rw [show f_idx (2 : Int32) v32 [x0, x1] = pq from hpq.symm] at hpi
              refine o_aload S rfl rfl at_129 rfl (q := 131) ?_
              refine o_iload S rfl at_131 rfl (q := 133) ?_
              refine o_iload S rfl at_133 rfl (q := 135) ?_
              refine o_iadd S at_135 rfl (q := 136) ?_
              refine o_iconst S (z := 1) rfl at_136 rfl (q := 137) ?_
              refine o_isub S at_137 rfl (q := 138) ?_
              refine o_iload S rfl at_138 rfl (q := 140) ?_
              refine o_irem S (by decide) at_140 rfl (q := 141) ?_
              refine o_iaload S A_b20 hpi.1.1 hpi.1.2 (v := (([x0, x1] : List Int32).getD (((pq + (2 : Int32)) - (1 : Int32)) % (2 : Int32)).toNatClampNeg 0)) rfl at_141 rfl (q := 142) ?_
              refine o_istoreV S (L' := fun ee => #[.val (.int p0), .val (.long q1), .second, .val (.int p2), .val (.int (2 : Int32)), .val (.ref b20), .val (.int v32), .val (.int pq), .val (.int ee), .unset]) (fun _ => rfl) at_142 rfl (q := 144) (fun ee hee => ?_)
              refine o_new S (o_wd (i := 10) hw rfl) (o_wd (i := 11) hw rfl) (o_wd (i := 12) hw rfl) at_144 rfl (q := 147) (by decide) (by decide) (fun T h34 b33 S ha_b33 g_b33 X E_b33 D => ?_)
              have ne_b20_b33 : b20 ≠ b33 := by rw [ha_b33]; exact Nat.ne_of_lt E_b20.lt
              have E_b20 := Exa.ext X E_b20
              have A_b20 := A_b20.ext X
              have F_journal_b33 : Fld Z h34 b33 "com/example/ladentour/ladentour/solve/ArrayTour" "journal" "[I" .null := D (Or.inl (o_wd (i := 20) hw rfl)) (ty := (.array .int)) (by decide)
              have F_order_b33 : Fld Z h34 b33 "com/example/ladentour/ladentour/solve/ArrayTour" "order" "[I" .null := D (Or.inr (o_wd (i := 31) hw rfl)) (ty := (.array .int)) (by decide)
              have F_n_b33 : Fld Z h34 b33 "com/example/ladentour/ladentour/solve/ArrayTour" "n" "I" (.int (0 : Int32)) := D (Or.inr (o_wd (i := 33) hw rfl)) (ty := .int) (by decide)
              have F_position_b33 : Fld Z h34 b33 "com/example/ladentour/ladentour/solve/ArrayTour" "position" "[I" .null := D (Or.inr (o_wd (i := 35) hw rfl)) (ty := (.array .int)) (by decide)
              refine o_dup S rfl at_147 rfl (q := 148) ?_
              refine o_aload S rfl rfl at_148 rfl (q := 150) ?_
              refine o_callI S (W := 1) (argsL := [(.ref b20)]) (rest := [(.ref b33)]) (a := b33) rfl (o_wd (i := 13) hw rfl) (o_wd (i := 14) hw rfl) (o_wd (i := 12) hw rfl) (o_wd (i := 15) hw rfl) (by decide) (ct_3 l Z a0 hw b33 b20 ([x0, x1]) (2 : Int32) h34 n0 (o_n0 S) E_b33 F_journal_b33 F_order_b33 F_n_b33 F_position_b33 A_b20 E_b20 g_b33 (Ne.symm ne_b20_b33) rfl rfl (by decide) (fun i hi => own_bd2 hxr i hi)) (by decide) (by decide) rfl rfl pd_2 rfl (Nat.le_of_eq rfl) at_150 rfl (q := 153) (by decide) (by decide) (fun T h35 rr36 S hQ => ?_)
              obtain ⟨b37, g_b37, sz'_b37, b38, g_b38, sz'_b38, hv, K1, E_b33', F_order_b33', F_n_b33', F_position_b33', A_b37', A_b38'⟩ := hQ
              subst hv
              have ne_b20_b37 : b20 ≠ b37 := Nat.ne_of_lt (Nat.lt_of_lt_of_le E_b20.lt sz'_b37)
              have ne_b33_b37 : b33 ≠ b37 := Nat.ne_of_lt (Nat.lt_of_lt_of_le E_b33.lt sz'_b37)
              have ne_b20_b38 : b20 ≠ b38 := Nat.ne_of_lt (Nat.lt_of_lt_of_le E_b20.lt sz'_b38)
              have ne_b33_b38 : b33 ≠ b38 := Nat.ne_of_lt (Nat.lt_of_lt_of_le E_b33.lt sz'_b38)
              have E_b20 := E_b20.keep K1
              have A_b20 := A_b20.keep K1 (ninS ne_b20_b33 nin0)
              have E_b33 := E_b33'
              have F_order_b33 := F_order_b33'
              have F_n_b33 := F_n_b33'
              have F_position_b33 := F_position_b33'
              have A_b37 := A_b37'
              have A_b38 := A_b38'
              show Wp p e below (Po s n0 room_1 Q0) T (mkF m 153 #[.val (.int p0), .val (.long q1), .second, .val (.int p2), .val (.int (2 : Int32)), .val (.ref b20), .val (.int v32), .val (.int pq), .val (.int ee), .unset] [(.ref b33)])
              refine o_astore S (L' := #[.val (.int p0), .val (.long q1), .second, .val (.int p2), .val (.int (2 : Int32)), .val (.ref b20), .val (.int v32), .val (.int pq), .val (.int ee), .val (.ref b33)]) rfl rfl at_153 rfl (q := 155) ?_
              have hcp : 0 ≤ v32.toInt ∧ v32.toInt < (posI [x0, x1] 2).length := ⟨hcb.1, by rw [posI_len]; exact hcb.2⟩
              have hcq := hpi.2.1
              refine o_aload S rfl rfl at_155 rfl (q := 157) ?_
              refine o_iload S rfl at_157 rfl (q := 159) ?_
              refine o_callV0 S (W := 0) (argsL := [(.int v32)]) (rest := []) (a := b33) (o_wd (i := 36) hw rfl) (o_wd (i := 37) hw rfl) (o_wd (i := 39) hw rfl) (o_wd (i := 38) hw rfl) (o_wd (i := 12) hw rfl) (o_wd (i := 40) hw rfl) (o_nf (o_wd (i := 39) hw rfl)) (by decide) E_b33 (ct_5 l Z a0 hw b33 v32 b38 b37 (2 : Int32) (posI [x0, x1] 2) (([x0, x1])) h35 n0 (o_n0 S) E_b33 F_position_b33 F_order_b33 F_n_b33 A_b38 A_b37 hcp hcq) (by decide) (by decide) rfl rfl pd_3 rfl (Nat.le_of_eq rfl) at_159 rfl (q := 162) (by decide) (by decide) rfl (st' := [(.int (f_prev v32 (2 : Int32) (posI [x0, x1] 2) (([x0, x1]))))]) (fun T S => ?_)
              refine o_iload S rfl at_162 rfl (q := 164) ?_
              refine o_icmp S at_164 (by decide) (q' := 171) (by decide) (q := 167) rfl hs_ne.1 hs_ne.2 (fun hc164 => ?_) (fun hc164 => ?_)
              · exact absurd (by rw [hee]; exact hpi.2.2) hc164
              · skip
                refine o_iconst S (z := 1) rfl at_167 rfl (q := 168) ?_
                refine o_goto S at_168 (by decide) (q := 172) (by decide) ?_
                refine o_retN S (t := .boolean) rfl (by simp) at_172 (by decide) (by decide) rfl ?_
                rfl
            · exact absurd hc62 (by decide)
          · exact absurd hc51 (by decide)
        · exact absurd hc40 (by decide)
  · subst ho
    refine o_iload S rfl at_10 rfl (q := 12) ?_
    refine o_newarrE S (cap := 3) (o_wd (i := 1) hw rfl) (ad := "[I") rfl at_12 rfl (q := 14) (by decide) (by decide) (by decide) (by decide) (by decide) (fun T h40 b39 kA_b39 S ha_b39 g_b39 X A0 E_b39 => ?_)
    have A_b39 : IA Z h40 b39 .int ([0, 0, 0]) := IA.new A0 (by decide) rfl rfl
    refine o_astore S (L' := #[.val (.int p0), .val (.long q1), .second, .val (.int p2), .val (.int (3 : Int32)), .val (.ref b39), .unset, .unset, .unset, .unset]) rfl rfl at_14 rfl (q := 16) ?_
    refine o_iload S rfl at_16 rfl (q := 18) ?_
    refine o_if S at_18 (by decide) (q' := 26) (by decide) (q := 21) rfl (hs_le (a := 3) (b := 0) rfl rfl).1 (hs_le (a := 3) (b := 0) rfl rfl).2 (fun hc18 => ?_) (fun hc18 => ?_)
    · exact absurd hc18 (by decide)
    · skip
      refine o_aload S rfl rfl at_21 rfl (q := 23) ?_
      refine o_iconst S (z := 0) rfl at_23 rfl (q := 24) ?_
      refine o_iconst S (z := 0) rfl at_24 rfl (q := 25) ?_
      refine o_iastore S (y := (0 : Int32)) (ys := [(0 : Int32), 0, 0]) A_b39 (by decide) (by show (0 : Int) < 3; decide) g_b39 rfl rfl at_25 rfl (q := 26) (fun T h41 S W A_b39 => ?_)
      have E_b39 := Exa.wr W E_b39
      refine o_iload S rfl at_26 rfl (q := 28) ?_
      refine o_iconst S (z := 1) rfl at_28 rfl (q := 29) ?_
      refine o_icmp S at_29 (by decide) (q' := 37) (by decide) (q := 32) rfl (hs_le (a := 3) (b := 1) rfl rfl).1 (hs_le (a := 3) (b := 1) rfl rfl).2 (fun hc29 => ?_) (fun hc29 => ?_)
      · exact absurd hc29 (by decide)
      · skip
        refine o_aload S rfl rfl at_32 rfl (q := 34) ?_
        refine o_iconst S (z := 1) rfl at_34 rfl (q := 35) ?_
        refine o_iconst S (z := 1) rfl at_35 rfl (q := 36) ?_
        refine o_iastore S (y := (1 : Int32)) (ys := [(0 : Int32), (1 : Int32), 0]) A_b39 (by decide) (by show (1 : Int) < 3; decide) g_b39 rfl rfl at_36 rfl (q := 37) (fun T h42 S W A_b39 => ?_)
        have E_b39 := Exa.wr W E_b39
        refine o_iload S rfl at_37 rfl (q := 39) ?_
        refine o_iconst S (z := 2) rfl at_39 rfl (q := 40) ?_
        refine o_icmp S at_40 (by decide) (q' := 48) (by decide) (q := 43) rfl (hs_le (a := 3) (b := 2) rfl rfl).1 (hs_le (a := 3) (b := 2) rfl rfl).2 (fun hc40 => ?_) (fun hc40 => ?_)
        · exact absurd hc40 (by decide)
        · skip
          refine o_aload S rfl rfl at_43 rfl (q := 45) ?_
          refine o_iconst S (z := 2) rfl at_45 rfl (q := 46) ?_
          refine o_iconst S (z := 2) rfl at_46 rfl (q := 47) ?_
          refine o_iastore S (y := (2 : Int32)) (ys := [(0 : Int32), (1 : Int32), (2 : Int32)]) A_b39 (by decide) (by show (2 : Int) < 3; decide) g_b39 rfl rfl at_47 rfl (q := 48) (fun T h43 S W A_b39 => ?_)
          have E_b39 := Exa.wr W E_b39
          refine o_iload S rfl at_48 rfl (q := 50) ?_
          refine o_iconst S (z := 3) rfl at_50 rfl (q := 51) ?_
          refine o_icmp S at_51 (by decide) (q' := 59) (by decide) (q := 54) rfl (hs_le (a := 3) (b := 3) rfl rfl).1 (hs_le (a := 3) (b := 3) rfl rfl).2 (fun hc51 => ?_) (fun hc51 => ?_)
          · skip
            refine o_iload S rfl at_59 rfl (q := 61) ?_
            refine o_iconst S (z := 4) rfl at_61 rfl (q := 62) ?_
            refine o_icmp S at_62 (by decide) (q' := 70) (by decide) (q := 65) rfl (hs_le (a := 3) (b := 4) rfl rfl).1 (hs_le (a := 3) (b := 4) rfl rfl).2 (fun hc62 => ?_) (fun hc62 => ?_)
            · skip
              have hP := perm0_3
              refine o_aload S rfl rfl at_70 rfl (q := 72) ?_
              refine o_iload S rfl at_72 rfl (q := 74) ?_
              refine o_lloadN S rfl at_74 rfl (q := 75) ?_
              refine o_iconst S (z := 0) rfl at_75 rfl (q := 76) ?_
              refine o_callS S (W := 0) (argsL := [(.ref b39), (.int (3 : Int32)), (.long q1), (.int (0 : Int32))]) (rest := []) (o_wd (i := 2) hw rfl) (o_wd (i := 3) hw rfl) (o_wd (i := 4) hw rfl) (o_wd (i := 5) hw rfl) (by decide) (ct_1 l Z a0 hw b39 (3 : Int32) q1 (0 : Int32) ([(0 : Int32), (1 : Int32), (2 : Int32)]) h43 n0 (o_n0 S) A_b39 g_b39 (by decide) (by rw [hP.1]; rfl)) (by decide) (by decide) rfl rfl pd_0 rfl (Nat.le_of_eq rfl) at_76 rfl (q := 79) (by decide) (by decide) (fun T h44 rr45 S hQ => ?_)
              obtain ⟨hv, K1, A_b39'⟩ := hQ
              subst hv
              have E_b39 := E_b39.keep K1
              have A_b39 := A_b39'
              show Wp p e below (Po s n0 room_1 Q0) T (mkF m 79 #[.val (.int p0), .val (.long q1), .second, .val (.int p2), .val (.int (3 : Int32)), .val (.ref b39), .unset, .unset, .unset, .unset] [])
              have hP := hP.sw (ix_ok (n := (3 : Int32)) (s := q1) (sh := (0 : Int32)) (by decide) (L := 3) rfl) (ix_ok (n := (3 : Int32)) (s := q1) (sh := (0 : Int32) + (3 : Int32)) (by decide) (L := 3) rfl)
              refine o_aload S rfl rfl at_79 rfl (q := 81) ?_
              refine o_iload S rfl at_81 rfl (q := 83) ?_
              refine o_lloadN S rfl at_83 rfl (q := 84) ?_
              refine o_bipush S (z := 6) rfl at_84 rfl (q := 86) ?_
              refine o_callS S (W := 0) (argsL := [(.ref b39), (.int (3 : Int32)), (.long q1), (.int (6 : Int32))]) (rest := []) (o_wd (i := 2) hw rfl) (o_wd (i := 3) hw rfl) (o_wd (i := 4) hw rfl) (o_wd (i := 5) hw rfl) (by decide) (ct_1 l Z a0 hw b39 (3 : Int32) q1 (6 : Int32) (swL ([(0 : Int32), (1 : Int32), (2 : Int32)]) (ixF (3 : Int32) q1 (0 : Int32)) (ixF (3 : Int32) q1 ((0 : Int32) + (3 : Int32)))) h44 n0 (o_n0 S) A_b39 g_b39 (by decide) (by rw [hP.1]; rfl)) (by decide) (by decide) rfl rfl pd_0 rfl (Nat.le_of_eq rfl) at_86 rfl (q := 89) (by decide) (by decide) (fun T h46 rr47 S hQ => ?_)
              obtain ⟨hv, K1, A_b39'⟩ := hQ
              subst hv
              have E_b39 := E_b39.keep K1
              have A_b39 := A_b39'
              show Wp p e below (Po s n0 room_1 Q0) T (mkF m 89 #[.val (.int p0), .val (.long q1), .second, .val (.int p2), .val (.int (3 : Int32)), .val (.ref b39), .unset, .unset, .unset, .unset] [])
              have hP := hP.sw (ix_ok (n := (3 : Int32)) (s := q1) (sh := (6 : Int32)) (by decide) (L := 3) rfl) (ix_ok (n := (3 : Int32)) (s := q1) (sh := (6 : Int32) + (3 : Int32)) (by decide) (L := 3) rfl)
              refine o_aload S rfl rfl at_89 rfl (q := 91) ?_
              refine o_iload S rfl at_91 rfl (q := 93) ?_
              refine o_lloadN S rfl at_93 rfl (q := 94) ?_
              refine o_bipush S (z := 12) rfl at_94 rfl (q := 96) ?_
              refine o_callS S (W := 0) (argsL := [(.ref b39), (.int (3 : Int32)), (.long q1), (.int (12 : Int32))]) (rest := []) (o_wd (i := 2) hw rfl) (o_wd (i := 3) hw rfl) (o_wd (i := 4) hw rfl) (o_wd (i := 5) hw rfl) (by decide) (ct_1 l Z a0 hw b39 (3 : Int32) q1 (12 : Int32) (swL (swL ([(0 : Int32), (1 : Int32), (2 : Int32)]) (ixF (3 : Int32) q1 (0 : Int32)) (ixF (3 : Int32) q1 ((0 : Int32) + (3 : Int32)))) (ixF (3 : Int32) q1 (6 : Int32)) (ixF (3 : Int32) q1 ((6 : Int32) + (3 : Int32)))) h46 n0 (o_n0 S) A_b39 g_b39 (by decide) (by rw [hP.1]; rfl)) (by decide) (by decide) rfl rfl pd_0 rfl (Nat.le_of_eq rfl) at_96 rfl (q := 99) (by decide) (by decide) (fun T h48 rr49 S hQ => ?_)
              obtain ⟨hv, K1, A_b39'⟩ := hQ
              subst hv
              have E_b39 := E_b39.keep K1
              have A_b39 := A_b39'
              show Wp p e below (Po s n0 room_1 Q0) T (mkF m 99 #[.val (.int p0), .val (.long q1), .second, .val (.int p2), .val (.int (3 : Int32)), .val (.ref b39), .unset, .unset, .unset, .unset] [])
              have hP := hP.sw (ix_ok (n := (3 : Int32)) (s := q1) (sh := (12 : Int32)) (by decide) (L := 3) rfl) (ix_ok (n := (3 : Int32)) (s := q1) (sh := (12 : Int32) + (3 : Int32)) (by decide) (L := 3) rfl)
              refine o_aload S rfl rfl at_99 rfl (q := 101) ?_
              refine o_iload S rfl at_101 rfl (q := 103) ?_
              refine o_lloadN S rfl at_103 rfl (q := 104) ?_
              refine o_bipush S (z := 18) rfl at_104 rfl (q := 106) ?_
              refine o_callS S (W := 0) (argsL := [(.ref b39), (.int (3 : Int32)), (.long q1), (.int (18 : Int32))]) (rest := []) (o_wd (i := 2) hw rfl) (o_wd (i := 3) hw rfl) (o_wd (i := 4) hw rfl) (o_wd (i := 5) hw rfl) (by decide) (ct_1 l Z a0 hw b39 (3 : Int32) q1 (18 : Int32) (swL (swL (swL ([(0 : Int32), (1 : Int32), (2 : Int32)]) (ixF (3 : Int32) q1 (0 : Int32)) (ixF (3 : Int32) q1 ((0 : Int32) + (3 : Int32)))) (ixF (3 : Int32) q1 (6 : Int32)) (ixF (3 : Int32) q1 ((6 : Int32) + (3 : Int32)))) (ixF (3 : Int32) q1 (12 : Int32)) (ixF (3 : Int32) q1 ((12 : Int32) + (3 : Int32)))) h48 n0 (o_n0 S) A_b39 g_b39 (by decide) (by rw [hP.1]; rfl)) (by decide) (by decide) rfl rfl pd_0 rfl (Nat.le_of_eq rfl) at_106 rfl (q := 109) (by decide) (by decide) (fun T h50 rr51 S hQ => ?_)
              obtain ⟨hv, K1, A_b39'⟩ := hQ
              subst hv
              have E_b39 := E_b39.keep K1
              have A_b39 := A_b39'
              show Wp p e below (Po s n0 room_1 Q0) T (mkF m 109 #[.val (.int p0), .val (.long q1), .second, .val (.int p2), .val (.int (3 : Int32)), .val (.ref b39), .unset, .unset, .unset, .unset] [])
              have hP := hP.sw (ix_ok (n := (3 : Int32)) (s := q1) (sh := (18 : Int32)) (by decide) (L := 3) rfl) (ix_ok (n := (3 : Int32)) (s := q1) (sh := (18 : Int32) + (3 : Int32)) (by decide) (L := 3) rfl)
              obtain ⟨x0, x1, x2, hxe, hxr, hxd⟩ := open_3 hP
              have A_b39 : IA Z h50 b39 .int [x0, x1, x2] := by rw [← hxe]; exact A_b39
              refine o_iloadN S rfl at_109 rfl (q := 110) ?_
              refine o_ldc S (o_wd (i := 0) hw rfl) at_110 rfl (q := 112) ?_
              refine o_iand S at_112 rfl (q := 113) ?_
              refine o_iload S rfl at_113 rfl (q := 115) ?_
              refine o_irem S (by decide) at_115 rfl (q := 116) ?_
              refine o_istoreV S (L' := fun v52 => #[.val (.int p0), .val (.long q1), .second, .val (.int p2), .val (.int (3 : Int32)), .val (.ref b39), .val (.int v52), .unset, .unset, .unset]) (fun _ => rfl) at_116 rfl (q := 118) (fun v52 hv52 => ?_)
              have hcb : 0 ≤ v52.toInt ∧ v52.toInt < 3 := by rw [hv52]; exact own_rem 3 rfl (by decide) own_m
              have hpp := pos_3 hxr hxd hcb.1 hcb.2
              refine o_aload S rfl rfl at_118 rfl (q := 120) ?_
              refine o_iload S rfl at_120 rfl (q := 122) ?_
              refine o_iload S rfl at_122 rfl (q := 124) ?_
              refine o_callS0 S (W := 0) (argsL := [(.ref b39), (.int (3 : Int32)), (.int v52)]) (rest := []) (o_wd (i := 7) hw rfl) (o_wd (i := 8) hw rfl) (o_wd (i := 4) hw rfl) (o_wd (i := 9) hw rfl) (by decide) (ct_2 l Z a0 hw b39 (3 : Int32) v52 ([x0, x1, x2]) h50 n0 (o_n0 S) A_b39 rfl) (by decide) (by decide) rfl rfl pd_1 rfl (Nat.le_of_eq rfl) at_124 rfl (q := 127) (by decide) (by decide) rfl (st' := [(.int (f_idx (3 : Int32) v52 ([x0, x1, x2])))]) (fun T S => ?_)
              refine o_istoreV S (L' := fun pq => #[.val (.int p0), .val (.long q1), .second, .val (.int p2), .val (.int (3 : Int32)), .val (.ref b39), .val (.int v52), .val (.int pq), .unset, .unset]) (fun _ => rfl) at_127 rfl (q := 129) (fun pq hpq => ?_)
              have hpi := hpp
              rw [show f_idx (3 : Int32) v52 [x0, x1, x2] = pq from hpq.symm] at hpi
              refine o_aload S rfl rfl at_129 rfl (q := 131) ?_
              refine o_iload S rfl at_131 rfl (q := 133) ?_
              refine o_iload S rfl at_133 rfl (q := 135) ?_
              refine o_iadd S at_135 rfl (q := 136) ?_
              refine o_iconst S (z := 1) rfl at_136 rfl (q := 137) ?_
              refine o_isub S at_137 rfl (q := 138) ?_
              refine o_iload S rfl at_138 rfl (q := 140) ?_
              refine o_irem S (by decide) at_140 rfl (q := 141) ?_
              refine o_iaload S A_b39 hpi.1.1 hpi.1.2 (v := (([x0, x1, x2] : List Int32).getD (((pq + (3 : Int32)) - (1 : Int32)) % (3 : Int32)).toNatClampNeg 0)) rfl at_141 rfl (q := 142) ?_
              refine o_istoreV S (L' := fun ee => #[.val (.int p0), .val (.long q1), .second, .val (.int p2), .val (.int (3 : Int32)), .val (.ref b39), .val (.int v52), .val (.int pq), .val (.int ee), .unset]) (fun _ => rfl) at_142 rfl (q := 144) (fun ee hee => ?_)
              refine o_new S (o_wd (i := 10) hw rfl) (o_wd (i := 11) hw rfl) (o_wd (i := 12) hw rfl) at_144 rfl (q := 147) (by decide) (by decide) (fun T h54 b53 S ha_b53 g_b53 X E_b53 D => ?_)
              have ne_b39_b53 : b39 ≠ b53 := by rw [ha_b53]; exact Nat.ne_of_lt E_b39.lt
              have E_b39 := Exa.ext X E_b39
              have A_b39 := A_b39.ext X
              have F_journal_b53 : Fld Z h54 b53 "com/example/ladentour/ladentour/solve/ArrayTour" "journal" "[I" .null := D (Or.inl (o_wd (i := 20) hw rfl)) (ty := (.array .int)) (by decide)
              have F_order_b53 : Fld Z h54 b53 "com/example/ladentour/ladentour/solve/ArrayTour" "order" "[I" .null := D (Or.inr (o_wd (i := 31) hw rfl)) (ty := (.array .int)) (by decide)
              have F_n_b53 : Fld Z h54 b53 "com/example/ladentour/ladentour/solve/ArrayTour" "n" "I" (.int (0 : Int32)) := D (Or.inr (o_wd (i := 33) hw rfl)) (ty := .int) (by decide)
              have F_position_b53 : Fld Z h54 b53 "com/example/ladentour/ladentour/solve/ArrayTour" "position" "[I" .null := D (Or.inr (o_wd (i := 35) hw rfl)) (ty := (.array .int)) (by decide)
              refine o_dup S rfl at_147 rfl (q := 148) ?_
              refine o_aload S rfl rfl at_148 rfl (q := 150) ?_
              refine o_callI S (W := 1) (argsL := [(.ref b39)]) (rest := [(.ref b53)]) (a := b53) rfl (o_wd (i := 13) hw rfl) (o_wd (i := 14) hw rfl) (o_wd (i := 12) hw rfl) (o_wd (i := 15) hw rfl) (by decide) (ct_3 l Z a0 hw b53 b39 ([x0, x1, x2]) (3 : Int32) h54 n0 (o_n0 S) E_b53 F_journal_b53 F_order_b53 F_n_b53 F_position_b53 A_b39 E_b39 g_b53 (Ne.symm ne_b39_b53) rfl rfl (by decide) (fun i hi => own_bd3 hxr i hi)) (by decide) (by decide) rfl rfl pd_2 rfl (Nat.le_of_eq rfl) at_150 rfl (q := 153) (by decide) (by decide) (fun T h55 rr56 S hQ => ?_)
              obtain ⟨b57, g_b57, sz'_b57, b58, g_b58, sz'_b58, hv, K1, E_b53', F_order_b53', F_n_b53', F_position_b53', A_b57', A_b58'⟩ := hQ
              subst hv
              have ne_b39_b57 : b39 ≠ b57 := Nat.ne_of_lt (Nat.lt_of_lt_of_le E_b39.lt sz'_b57)
              have ne_b53_b57 : b53 ≠ b57 := Nat.ne_of_lt (Nat.lt_of_lt_of_le E_b53.lt sz'_b57)
              have ne_b39_b58 : b39 ≠ b58 := Nat.ne_of_lt (Nat.lt_of_lt_of_le E_b39.lt sz'_b58)
              have ne_b53_b58 : b53 ≠ b58 := Nat.ne_of_lt (Nat.lt_of_lt_of_le E_b53.lt sz'_b58)
              have E_b39 := E_b39.keep K1
              have A_b39 := A_b39.keep K1 (ninS ne_b39_b53 nin0)
              have E_b53 := E_b53'
              have F_order_b53 := F_order_b53'
              have F_n_b53 := F_n_b53'
              have F_position_b53 := F_position_b53'
              have A_b57 := A_b57'
              have A_b58 := A_b58'
              show Wp p e below (Po s n0 room_1 Q0) T (mkF m 153 #[.val (.int p0), .val (.long q1), .second, .val (.int p2), .val (.int (3 : Int32)), .val (.ref b39), .val (.int v52), .val (.int pq), .val (.int ee), .unset] [(.ref b53)])
              refine o_astore S (L' := #[.val (.int p0), .val (.long q1), .second, .val (.int p2), .val (.int (3 : Int32)), .val (.ref b39), .val (.int v52), .val (.int pq), .val (.int ee), .val (.ref b53)]) rfl rfl at_153 rfl (q := 155) ?_
              have hcp : 0 ≤ v52.toInt ∧ v52.toInt < (posI [x0, x1, x2] 3).length := ⟨hcb.1, by rw [posI_len]; exact hcb.2⟩
              have hcq := hpi.2.1
              refine o_aload S rfl rfl at_155 rfl (q := 157) ?_
              refine o_iload S rfl at_157 rfl (q := 159) ?_
              refine o_callV0 S (W := 0) (argsL := [(.int v52)]) (rest := []) (a := b53) (o_wd (i := 36) hw rfl) (o_wd (i := 37) hw rfl) (o_wd (i := 39) hw rfl) (o_wd (i := 38) hw rfl) (o_wd (i := 12) hw rfl) (o_wd (i := 40) hw rfl) (o_nf (o_wd (i := 39) hw rfl)) (by decide) E_b53 (ct_5 l Z a0 hw b53 v52 b58 b57 (3 : Int32) (posI [x0, x1, x2] 3) (([x0, x1, x2])) h55 n0 (o_n0 S) E_b53 F_position_b53 F_order_b53 F_n_b53 A_b58 A_b57 hcp hcq) (by decide) (by decide) rfl rfl pd_3 rfl (Nat.le_of_eq rfl) at_159 rfl (q := 162) (by decide) (by decide) rfl (st' := [(.int (f_prev v52 (3 : Int32) (posI [x0, x1, x2] 3) (([x0, x1, x2]))))]) (fun T S => ?_)
              refine o_iload S rfl at_162 rfl (q := 164) ?_
              refine o_icmp S at_164 (by decide) (q' := 171) (by decide) (q := 167) rfl hs_ne.1 hs_ne.2 (fun hc164 => ?_) (fun hc164 => ?_)
              · exact absurd (by rw [hee]; exact hpi.2.2) hc164
              · skip
                refine o_iconst S (z := 1) rfl at_167 rfl (q := 168) ?_
                refine o_goto S at_168 (by decide) (q := 172) (by decide) ?_
                refine o_retN S (t := .boolean) rfl (by simp) at_172 (by decide) (by decide) rfl ?_
                rfl
            · exact absurd hc62 (by decide)
          · exact absurd hc51 (by decide)
  · subst ho
    refine o_iload S rfl at_10 rfl (q := 12) ?_
    refine o_newarrE S (cap := 4) (o_wd (i := 1) hw rfl) (ad := "[I") rfl at_12 rfl (q := 14) (by decide) (by decide) (by decide) (by decide) (by decide) (fun T h60 b59 kA_b59 S ha_b59 g_b59 X A0 E_b59 => ?_)
    have A_b59 : IA Z h60 b59 .int ([0, 0, 0, 0]) := IA.new A0 (by decide) rfl rfl
    refine o_astore S (L' := #[.val (.int p0), .val (.long q1), .second, .val (.int p2), .val (.int (4 : Int32)), .val (.ref b59), .unset, .unset, .unset, .unset]) rfl rfl at_14 rfl (q := 16) ?_
    refine o_iload S rfl at_16 rfl (q := 18) ?_
    refine o_if S at_18 (by decide) (q' := 26) (by decide) (q := 21) rfl (hs_le (a := 4) (b := 0) rfl rfl).1 (hs_le (a := 4) (b := 0) rfl rfl).2 (fun hc18 => ?_) (fun hc18 => ?_)
    · exact absurd hc18 (by decide)
    · skip
      refine o_aload S rfl rfl at_21 rfl (q := 23) ?_
      refine o_iconst S (z := 0) rfl at_23 rfl (q := 24) ?_
      refine o_iconst S (z := 0) rfl at_24 rfl (q := 25) ?_
      refine o_iastore S (y := (0 : Int32)) (ys := [(0 : Int32), 0, 0, 0]) A_b59 (by decide) (by show (0 : Int) < 4; decide) g_b59 rfl rfl at_25 rfl (q := 26) (fun T h61 S W A_b59 => ?_)
      have E_b59 := Exa.wr W E_b59
      refine o_iload S rfl at_26 rfl (q := 28) ?_
      refine o_iconst S (z := 1) rfl at_28 rfl (q := 29) ?_
      refine o_icmp S at_29 (by decide) (q' := 37) (by decide) (q := 32) rfl (hs_le (a := 4) (b := 1) rfl rfl).1 (hs_le (a := 4) (b := 1) rfl rfl).2 (fun hc29 => ?_) (fun hc29 => ?_)
      · exact absurd hc29 (by decide)
      · skip
        refine o_aload S rfl rfl at_32 rfl (q := 34) ?_
        refine o_iconst S (z := 1) rfl at_34 rfl (q := 35) ?_
        refine o_iconst S (z := 1) rfl at_35 rfl (q := 36) ?_
        refine o_iastore S (y := (1 : Int32)) (ys := [(0 : Int32), (1 : Int32), 0, 0]) A_b59 (by decide) (by show (1 : Int) < 4; decide) g_b59 rfl rfl at_36 rfl (q := 37) (fun T h62 S W A_b59 => ?_)
        have E_b59 := Exa.wr W E_b59
        refine o_iload S rfl at_37 rfl (q := 39) ?_
        refine o_iconst S (z := 2) rfl at_39 rfl (q := 40) ?_
        refine o_icmp S at_40 (by decide) (q' := 48) (by decide) (q := 43) rfl (hs_le (a := 4) (b := 2) rfl rfl).1 (hs_le (a := 4) (b := 2) rfl rfl).2 (fun hc40 => ?_) (fun hc40 => ?_)
        · exact absurd hc40 (by decide)
        · skip
          refine o_aload S rfl rfl at_43 rfl (q := 45) ?_
          refine o_iconst S (z := 2) rfl at_45 rfl (q := 46) ?_
          refine o_iconst S (z := 2) rfl at_46 rfl (q := 47) ?_
          refine o_iastore S (y := (2 : Int32)) (ys := [(0 : Int32), (1 : Int32), (2 : Int32), 0]) A_b59 (by decide) (by show (2 : Int) < 4; decide) g_b59 rfl rfl at_47 rfl (q := 48) (fun T h63 S W A_b59 => ?_)
          have E_b59 := Exa.wr W E_b59
          refine o_iload S rfl at_48 rfl (q := 50) ?_
          refine o_iconst S (z := 3) rfl at_50 rfl (q := 51) ?_
          refine o_icmp S at_51 (by decide) (q' := 59) (by decide) (q := 54) rfl (hs_le (a := 4) (b := 3) rfl rfl).1 (hs_le (a := 4) (b := 3) rfl rfl).2 (fun hc51 => ?_) (fun hc51 => ?_)
          · exact absurd hc51 (by decide)
          · skip
            refine o_aload S rfl rfl at_54 rfl (q := 56) ?_
            refine o_iconst S (z := 3) rfl at_56 rfl (q := 57) ?_
            refine o_iconst S (z := 3) rfl at_57 rfl (q := 58) ?_
            refine o_iastore S (y := (3 : Int32)) (ys := [(0 : Int32), (1 : Int32), (2 : Int32), (3 : Int32)]) A_b59 (by decide) (by show (3 : Int) < 4; decide) g_b59 rfl rfl at_58 rfl (q := 59) (fun T h64 S W A_b59 => ?_)
            have E_b59 := Exa.wr W E_b59
            refine o_iload S rfl at_59 rfl (q := 61) ?_
            refine o_iconst S (z := 4) rfl at_61 rfl (q := 62) ?_
            refine o_icmp S at_62 (by decide) (q' := 70) (by decide) (q := 65) rfl (hs_le (a := 4) (b := 4) rfl rfl).1 (hs_le (a := 4) (b := 4) rfl rfl).2 (fun hc62 => ?_) (fun hc62 => ?_)
            · skip
              have hP := perm0_4
              refine o_aload S rfl rfl at_70 rfl (q := 72) ?_
              refine o_iload S rfl at_72 rfl (q := 74) ?_
              refine o_lloadN S rfl at_74 rfl (q := 75) ?_
              refine o_iconst S (z := 0) rfl at_75 rfl (q := 76) ?_
              refine o_callS S (W := 0) (argsL := [(.ref b59), (.int (4 : Int32)), (.long q1), (.int (0 : Int32))]) (rest := []) (o_wd (i := 2) hw rfl) (o_wd (i := 3) hw rfl) (o_wd (i := 4) hw rfl) (o_wd (i := 5) hw rfl) (by decide) (ct_1 l Z a0 hw b59 (4 : Int32) q1 (0 : Int32) ([(0 : Int32), (1 : Int32), (2 : Int32), (3 : Int32)]) h64 n0 (o_n0 S) A_b59 g_b59 (by decide) (by rw [hP.1]; rfl)) (by decide) (by decide) rfl rfl pd_0 rfl (Nat.le_of_eq rfl) at_76 rfl (q := 79) (by decide) (by decide) (fun T h65 rr66 S hQ => ?_)
              obtain ⟨hv, K1, A_b59'⟩ := hQ
              subst hv
              have E_b59 := E_b59.keep K1
              have A_b59 := A_b59'
              show Wp p e below (Po s n0 room_1 Q0) T (mkF m 79 #[.val (.int p0), .val (.long q1), .second, .val (.int p2), .val (.int (4 : Int32)), .val (.ref b59), .unset, .unset, .unset, .unset] [])
              have hP := hP.sw (ix_ok (n := (4 : Int32)) (s := q1) (sh := (0 : Int32)) (by decide) (L := 4) rfl) (ix_ok (n := (4 : Int32)) (s := q1) (sh := (0 : Int32) + (3 : Int32)) (by decide) (L := 4) rfl)
              refine o_aload S rfl rfl at_79 rfl (q := 81) ?_
              refine o_iload S rfl at_81 rfl (q := 83) ?_
              refine o_lloadN S rfl at_83 rfl (q := 84) ?_
              refine o_bipush S (z := 6) rfl at_84 rfl (q := 86) ?_
              refine o_callS S (W := 0) (argsL := [(.ref b59), (.int (4 : Int32)), (.long q1), (.int (6 : Int32))]) (rest := []) (o_wd (i := 2) hw rfl) (o_wd (i := 3) hw rfl) (o_wd (i := 4) hw rfl) (o_wd (i := 5) hw rfl) (by decide) (ct_1 l Z a0 hw b59 (4 : Int32) q1 (6 : Int32) (swL ([(0 : Int32), (1 : Int32), (2 : Int32), (3 : Int32)]) (ixF (4 : Int32) q1 (0 : Int32)) (ixF (4 : Int32) q1 ((0 : Int32) + (3 : Int32)))) h65 n0 (o_n0 S) A_b59 g_b59 (by decide) (by rw [hP.1]; rfl)) (by decide) (by decide) rfl rfl pd_0 rfl (Nat.le_of_eq rfl) at_86 rfl (q := 89) (by decide) (by decide) (fun T h67 rr68 S hQ => ?_)
              obtain ⟨hv, K1, A_b59'⟩ := hQ
              subst hv
              have E_b59 := E_b59.keep K1
              have A_b59 := A_b59'
              show Wp p e below (Po s n0 room_1 Q0) T (mkF m 89 #[.val (.int p0), .val (.long q1), .second, .val (.int p2), .val (.int (4 : Int32)), .val (.ref b59), .unset, .unset, .unset, .unset] [])
              have hP := hP.sw (ix_ok (n := (4 : Int32)) (s := q1) (sh := (6 : Int32)) (by decide) (L := 4) rfl) (ix_ok (n := (4 : Int32)) (s := q1) (sh := (6 : Int32) + (3 : Int32)) (by decide) (L := 4) rfl)
              refine o_aload S rfl rfl at_89 rfl (q := 91) ?_
              refine o_iload S rfl at_91 rfl (q := 93) ?_
              refine o_lloadN S rfl at_93 rfl (q := 94) ?_
              refine o_bipush S (z := 12) rfl at_94 rfl (q := 96) ?_
              refine o_callS S (W := 0) (argsL := [(.ref b59), (.int (4 : Int32)), (.long q1), (.int (12 : Int32))]) (rest := []) (o_wd (i := 2) hw rfl) (o_wd (i := 3) hw rfl) (o_wd (i := 4) hw rfl) (o_wd (i := 5) hw rfl) (by decide) (ct_1 l Z a0 hw b59 (4 : Int32) q1 (12 : Int32) (swL (swL ([(0 : Int32), (1 : Int32), (2 : Int32), (3 : Int32)]) (ixF (4 : Int32) q1 (0 : Int32)) (ixF (4 : Int32) q1 ((0 : Int32) + (3 : Int32)))) (ixF (4 : Int32) q1 (6 : Int32)) (ixF (4 : Int32) q1 ((6 : Int32) + (3 : Int32)))) h67 n0 (o_n0 S) A_b59 g_b59 (by decide) (by rw [hP.1]; rfl)) (by decide) (by decide) rfl rfl pd_0 rfl (Nat.le_of_eq rfl) at_96 rfl (q := 99) (by decide) (by decide) (fun T h69 rr70 S hQ => ?_)
              obtain ⟨hv, K1, A_b59'⟩ := hQ
              subst hv
              have E_b59 := E_b59.keep K1
              have A_b59 := A_b59'
              show Wp p e below (Po s n0 room_1 Q0) T (mkF m 99 #[.val (.int p0), .val (.long q1), .second, .val (.int p2), .val (.int (4 : Int32)), .val (.ref b59), .unset, .unset, .unset, .unset] [])
              have hP := hP.sw (ix_ok (n := (4 : Int32)) (s := q1) (sh := (12 : Int32)) (by decide) (L := 4) rfl) (ix_ok (n := (4 : Int32)) (s := q1) (sh := (12 : Int32) + (3 : Int32)) (by decide) (L := 4) rfl)
              refine o_aload S rfl rfl at_99 rfl (q := 101) ?_
              refine o_iload S rfl at_101 rfl (q := 103) ?_
              refine o_lloadN S rfl at_103 rfl (q := 104) ?_
              refine o_bipush S (z := 18) rfl at_104 rfl (q := 106) ?_
              refine o_callS S (W := 0) (argsL := [(.ref b59), (.int (4 : Int32)), (.long q1), (.int (18 : Int32))]) (rest := []) (o_wd (i := 2) hw rfl) (o_wd (i := 3) hw rfl) (o_wd (i := 4) hw rfl) (o_wd (i := 5) hw rfl) (by decide) (ct_1 l Z a0 hw b59 (4 : Int32) q1 (18 : Int32) (swL (swL (swL ([(0 : Int32), (1 : Int32), (2 : Int32), (3 : Int32)]) (ixF (4 : Int32) q1 (0 : Int32)) (ixF (4 : Int32) q1 ((0 : Int32) + (3 : Int32)))) (ixF (4 : Int32) q1 (6 : Int32)) (ixF (4 : Int32) q1 ((6 : Int32) + (3 : Int32)))) (ixF (4 : Int32) q1 (12 : Int32)) (ixF (4 : Int32) q1 ((12 : Int32) + (3 : Int32)))) h69 n0 (o_n0 S) A_b59 g_b59 (by decide) (by rw [hP.1]; rfl)) (by decide) (by decide) rfl rfl pd_0 rfl (Nat.le_of_eq rfl) at_106 rfl (q := 109) (by decide) (by decide) (fun T h71 rr72 S hQ => ?_)
              obtain ⟨hv, K1, A_b59'⟩ := hQ
              subst hv
              have E_b59 := E_b59.keep K1
              have A_b59 := A_b59'
              show Wp p e below (Po s n0 room_1 Q0) T (mkF m 109 #[.val (.int p0), .val (.long q1), .second, .val (.int p2), .val (.int (4 : Int32)), .val (.ref b59), .unset, .unset, .unset, .unset] [])
              have hP := hP.sw (ix_ok (n := (4 : Int32)) (s := q1) (sh := (18 : Int32)) (by decide) (L := 4) rfl) (ix_ok (n := (4 : Int32)) (s := q1) (sh := (18 : Int32) + (3 : Int32)) (by decide) (L := 4) rfl)
              obtain ⟨x0, x1, x2, x3, hxe, hxr, hxd⟩ := open_4 hP
              have A_b59 : IA Z h71 b59 .int [x0, x1, x2, x3] := by rw [← hxe]; exact A_b59
              refine o_iloadN S rfl at_109 rfl (q := 110) ?_
              refine o_ldc S (o_wd (i := 0) hw rfl) at_110 rfl (q := 112) ?_
              refine o_iand S at_112 rfl (q := 113) ?_
              refine o_iload S rfl at_113 rfl (q := 115) ?_
              refine o_irem S (by decide) at_115 rfl (q := 116) ?_
              refine o_istoreV S (L' := fun v73 => #[.val (.int p0), .val (.long q1), .second, .val (.int p2), .val (.int (4 : Int32)), .val (.ref b59), .val (.int v73), .unset, .unset, .unset]) (fun _ => rfl) at_116 rfl (q := 118) (fun v73 hv73 => ?_)
              have hcb : 0 ≤ v73.toInt ∧ v73.toInt < 4 := by rw [hv73]; exact own_rem 4 rfl (by decide) own_m
              have hpp := pos_4 hxr hxd hcb.1 hcb.2
              refine o_aload S rfl rfl at_118 rfl (q := 120) ?_
              refine o_iload S rfl at_120 rfl (q := 122) ?_
              refine o_iload S rfl at_122 rfl (q := 124) ?_
              refine o_callS0 S (W := 0) (argsL := [(.ref b59), (.int (4 : Int32)), (.int v73)]) (rest := []) (o_wd (i := 7) hw rfl) (o_wd (i := 8) hw rfl) (o_wd (i := 4) hw rfl) (o_wd (i := 9) hw rfl) (by decide) (ct_2 l Z a0 hw b59 (4 : Int32) v73 ([x0, x1, x2, x3]) h71 n0 (o_n0 S) A_b59 rfl) (by decide) (by decide) rfl rfl pd_1 rfl (Nat.le_of_eq rfl) at_124 rfl (q := 127) (by decide) (by decide) rfl (st' := [(.int (f_idx (4 : Int32) v73 ([x0, x1, x2, x3])))]) (fun T S => ?_)
              refine o_istoreV S (L' := fun pq => #[.val (.int p0), .val (.long q1), .second, .val (.int p2), .val (.int (4 : Int32)), .val (.ref b59), .val (.int v73), .val (.int pq), .unset, .unset]) (fun _ => rfl) at_127 rfl (q := 129) (fun pq hpq => ?_)
              have hpi := hpp
              rw [show f_idx (4 : Int32) v73 [x0, x1, x2, x3] = pq from hpq.symm] at hpi
              refine o_aload S rfl rfl at_129 rfl (q := 131) ?_
              refine o_iload S rfl at_131 rfl (q := 133) ?_
              refine o_iload S rfl at_133 rfl (q := 135) ?_
              refine o_iadd S at_135 rfl (q := 136) ?_
              refine o_iconst S (z := 1) rfl at_136 rfl (q := 137) ?_
              refine o_isub S at_137 rfl (q := 138) ?_
              refine o_iload S rfl at_138 rfl (q := 140) ?_
              refine o_irem S (by decide) at_140 rfl (q := 141) ?_
              refine o_iaload S A_b59 hpi.1.1 hpi.1.2 (v := (([x0, x1, x2, x3] : List Int32).getD (((pq + (4 : Int32)) - (1 : Int32)) % (4 : Int32)).toNatClampNeg 0)) rfl at_141 rfl (q := 142) ?_
              refine o_istoreV S (L' := fun ee => #[.val (.int p0), .val (.long q1), .second, .val (.int p2), .val (.int (4 : Int32)), .val (.ref b59), .val (.int v73), .val (.int pq), .val (.int ee), .unset]) (fun _ => rfl) at_142 rfl (q := 144) (fun ee hee => ?_)
              refine o_new S (o_wd (i := 10) hw rfl) (o_wd (i := 11) hw rfl) (o_wd (i := 12) hw rfl) at_144 rfl (q := 147) (by decide) (by decide) (fun T h75 b74 S ha_b74 g_b74 X E_b74 D => ?_)
              have ne_b59_b74 : b59 ≠ b74 := by rw [ha_b74]; exact Nat.ne_of_lt E_b59.lt
              have E_b59 := Exa.ext X E_b59
              have A_b59 := A_b59.ext X
              have F_journal_b74 : Fld Z h75 b74 "com/example/ladentour/ladentour/solve/ArrayTour" "journal" "[I" .null := D (Or.inl (o_wd (i := 20) hw rfl)) (ty := (.array .int)) (by decide)
              have F_order_b74 : Fld Z h75 b74 "com/example/ladentour/ladentour/solve/ArrayTour" "order" "[I" .null := D (Or.inr (o_wd (i := 31) hw rfl)) (ty := (.array .int)) (by decide)
              have F_n_b74 : Fld Z h75 b74 "com/example/ladentour/ladentour/solve/ArrayTour" "n" "I" (.int (0 : Int32)) := D (Or.inr (o_wd (i := 33) hw rfl)) (ty := .int) (by decide)
              have F_position_b74 : Fld Z h75 b74 "com/example/ladentour/ladentour/solve/ArrayTour" "position" "[I" .null := D (Or.inr (o_wd (i := 35) hw rfl)) (ty := (.array .int)) (by decide)
              refine o_dup S rfl at_147 rfl (q := 148) ?_
              refine o_aload S rfl rfl at_148 rfl (q := 150) ?_
              refine o_callI S (W := 1) (argsL := [(.ref b59)]) (rest := [(.ref b74)]) (a := b74) rfl (o_wd (i := 13) hw rfl) (o_wd (i := 14) hw rfl) (o_wd (i := 12) hw rfl) (o_wd (i := 15) hw rfl) (by decide) (ct_3 l Z a0 hw b74 b59 ([x0, x1, x2, x3]) (4 : Int32) h75 n0 (o_n0 S) E_b74 F_journal_b74 F_order_b74 F_n_b74 F_position_b74 A_b59 E_b59 g_b74 (Ne.symm ne_b59_b74) rfl rfl (by decide) (fun i hi => own_bd4 hxr i hi)) (by decide) (by decide) rfl rfl pd_2 rfl (Nat.le_of_eq rfl) at_150 rfl (q := 153) (by decide) (by decide) (fun T h76 rr77 S hQ => ?_)
              obtain ⟨b78, g_b78, sz'_b78, b79, g_b79, sz'_b79, hv, K1, E_b74', F_order_b74', F_n_b74', F_position_b74', A_b78', A_b79'⟩ := hQ
              subst hv
              have ne_b59_b78 : b59 ≠ b78 := Nat.ne_of_lt (Nat.lt_of_lt_of_le E_b59.lt sz'_b78)
              have ne_b74_b78 : b74 ≠ b78 := Nat.ne_of_lt (Nat.lt_of_lt_of_le E_b74.lt sz'_b78)
              have ne_b59_b79 : b59 ≠ b79 := Nat.ne_of_lt (Nat.lt_of_lt_of_le E_b59.lt sz'_b79)
              have ne_b74_b79 : b74 ≠ b79 := Nat.ne_of_lt (Nat.lt_of_lt_of_le E_b74.lt sz'_b79)
              have E_b59 := E_b59.keep K1
              have A_b59 := A_b59.keep K1 (ninS ne_b59_b74 nin0)
              have E_b74 := E_b74'
              have F_order_b74 := F_order_b74'
              have F_n_b74 := F_n_b74'
              have F_position_b74 := F_position_b74'
              have A_b78 := A_b78'
              have A_b79 := A_b79'
              show Wp p e below (Po s n0 room_1 Q0) T (mkF m 153 #[.val (.int p0), .val (.long q1), .second, .val (.int p2), .val (.int (4 : Int32)), .val (.ref b59), .val (.int v73), .val (.int pq), .val (.int ee), .unset] [(.ref b74)])
              refine o_astore S (L' := #[.val (.int p0), .val (.long q1), .second, .val (.int p2), .val (.int (4 : Int32)), .val (.ref b59), .val (.int v73), .val (.int pq), .val (.int ee), .val (.ref b74)]) rfl rfl at_153 rfl (q := 155) ?_
              have hcp : 0 ≤ v73.toInt ∧ v73.toInt < (posI [x0, x1, x2, x3] 4).length := ⟨hcb.1, by rw [posI_len]; exact hcb.2⟩
              have hcq := hpi.2.1
              refine o_aload S rfl rfl at_155 rfl (q := 157) ?_
              refine o_iload S rfl at_157 rfl (q := 159) ?_
              refine o_callV0 S (W := 0) (argsL := [(.int v73)]) (rest := []) (a := b74) (o_wd (i := 36) hw rfl) (o_wd (i := 37) hw rfl) (o_wd (i := 39) hw rfl) (o_wd (i := 38) hw rfl) (o_wd (i := 12) hw rfl) (o_wd (i := 40) hw rfl) (o_nf (o_wd (i := 39) hw rfl)) (by decide) E_b74 (ct_5 l Z a0 hw b74 v73 b79 b78 (4 : Int32) (posI [x0, x1, x2, x3] 4) (([x0, x1, x2, x3])) h76 n0 (o_n0 S) E_b74 F_position_b74 F_order_b74 F_n_b74 A_b79 A_b78 hcp hcq) (by decide) (by decide) rfl rfl pd_3 rfl (Nat.le_of_eq rfl) at_159 rfl (q := 162) (by decide) (by decide) rfl (st' := [(.int (f_prev v73 (4 : Int32) (posI [x0, x1, x2, x3] 4) (([x0, x1, x2, x3]))))]) (fun T S => ?_)
              refine o_iload S rfl at_162 rfl (q := 164) ?_
              refine o_icmp S at_164 (by decide) (q' := 171) (by decide) (q := 167) rfl hs_ne.1 hs_ne.2 (fun hc164 => ?_) (fun hc164 => ?_)
              · exact absurd (by rw [hee]; exact hpi.2.2) hc164
              · skip
                refine o_iconst S (z := 1) rfl at_167 rfl (q := 168) ?_
                refine o_goto S at_168 (by decide) (q := 172) (by decide) ?_
                refine o_retN S (t := .boolean) rfl (by simp) at_172 (by decide) (by decide) rfl ?_
                rfl
            · exact absurd hc62 (by decide)
  · subst ho
    refine o_iload S rfl at_10 rfl (q := 12) ?_
    refine o_newarrE S (cap := 5) (o_wd (i := 1) hw rfl) (ad := "[I") rfl at_12 rfl (q := 14) (by decide) (by decide) (by decide) (by decide) (by decide) (fun T h81 b80 kA_b80 S ha_b80 g_b80 X A0 E_b80 => ?_)
    have A_b80 : IA Z h81 b80 .int ([0, 0, 0, 0, 0]) := IA.new A0 (by decide) rfl rfl
    refine o_astore S (L' := #[.val (.int p0), .val (.long q1), .second, .val (.int p2), .val (.int (5 : Int32)), .val (.ref b80), .unset, .unset, .unset, .unset]) rfl rfl at_14 rfl (q := 16) ?_
    refine o_iload S rfl at_16 rfl (q := 18) ?_
    refine o_if S at_18 (by decide) (q' := 26) (by decide) (q := 21) rfl (hs_le (a := 5) (b := 0) rfl rfl).1 (hs_le (a := 5) (b := 0) rfl rfl).2 (fun hc18 => ?_) (fun hc18 => ?_)
    · exact absurd hc18 (by decide)
    · skip
      refine o_aload S rfl rfl at_21 rfl (q := 23) ?_
      refine o_iconst S (z := 0) rfl at_23 rfl (q := 24) ?_
      refine o_iconst S (z := 0) rfl at_24 rfl (q := 25) ?_
      refine o_iastore S (y := (0 : Int32)) (ys := [(0 : Int32), 0, 0, 0, 0]) A_b80 (by decide) (by show (0 : Int) < 5; decide) g_b80 rfl rfl at_25 rfl (q := 26) (fun T h82 S W A_b80 => ?_)
      have E_b80 := Exa.wr W E_b80
      refine o_iload S rfl at_26 rfl (q := 28) ?_
      refine o_iconst S (z := 1) rfl at_28 rfl (q := 29) ?_
      refine o_icmp S at_29 (by decide) (q' := 37) (by decide) (q := 32) rfl (hs_le (a := 5) (b := 1) rfl rfl).1 (hs_le (a := 5) (b := 1) rfl rfl).2 (fun hc29 => ?_) (fun hc29 => ?_)
      · exact absurd hc29 (by decide)
      · skip
        refine o_aload S rfl rfl at_32 rfl (q := 34) ?_
        refine o_iconst S (z := 1) rfl at_34 rfl (q := 35) ?_
        refine o_iconst S (z := 1) rfl at_35 rfl (q := 36) ?_
        refine o_iastore S (y := (1 : Int32)) (ys := [(0 : Int32), (1 : Int32), 0, 0, 0]) A_b80 (by decide) (by show (1 : Int) < 5; decide) g_b80 rfl rfl at_36 rfl (q := 37) (fun T h83 S W A_b80 => ?_)
        have E_b80 := Exa.wr W E_b80
        refine o_iload S rfl at_37 rfl (q := 39) ?_
        refine o_iconst S (z := 2) rfl at_39 rfl (q := 40) ?_
        refine o_icmp S at_40 (by decide) (q' := 48) (by decide) (q := 43) rfl (hs_le (a := 5) (b := 2) rfl rfl).1 (hs_le (a := 5) (b := 2) rfl rfl).2 (fun hc40 => ?_) (fun hc40 => ?_)
        · exact absurd hc40 (by decide)
        · skip
          refine o_aload S rfl rfl at_43 rfl (q := 45) ?_
          refine o_iconst S (z := 2) rfl at_45 rfl (q := 46) ?_
          refine o_iconst S (z := 2) rfl at_46 rfl (q := 47) ?_
          refine o_iastore S (y := (2 : Int32)) (ys := [(0 : Int32), (1 : Int32), (2 : Int32), 0, 0]) A_b80 (by decide) (by show (2 : Int) < 5; decide) g_b80 rfl rfl at_47 rfl (q := 48) (fun T h84 S W A_b80 => ?_)
          have E_b80 := Exa.wr W E_b80
          refine o_iload S rfl at_48 rfl (q := 50) ?_
          refine o_iconst S (z := 3) rfl at_50 rfl (q := 51) ?_
          refine o_icmp S at_51 (by decide) (q' := 59) (by decide) (q := 54) rfl (hs_le (a := 5) (b := 3) rfl rfl).1 (hs_le (a := 5) (b := 3) rfl rfl).2 (fun hc51 => ?_) (fun hc51 => ?_)
          · exact absurd hc51 (by decide)
          · skip
            refine o_aload S rfl rfl at_54 rfl (q := 56) ?_
            refine o_iconst S (z := 3) rfl at_56 rfl (q := 57) ?_
            refine o_iconst S (z := 3) rfl at_57 rfl (q := 58) ?_
            refine o_iastore S (y := (3 : Int32)) (ys := [(0 : Int32), (1 : Int32), (2 : Int32), (3 : Int32), 0]) A_b80 (by decide) (by show (3 : Int) < 5; decide) g_b80 rfl rfl at_58 rfl (q := 59) (fun T h85 S W A_b80 => ?_)
            have E_b80 := Exa.wr W E_b80
            refine o_iload S rfl at_59 rfl (q := 61) ?_
            refine o_iconst S (z := 4) rfl at_61 rfl (q := 62) ?_
            refine o_icmp S at_62 (by decide) (q' := 70) (by decide) (q := 65) rfl (hs_le (a := 5) (b := 4) rfl rfl).1 (hs_le (a := 5) (b := 4) rfl rfl).2 (fun hc62 => ?_) (fun hc62 => ?_)
            · exact absurd hc62 (by decide)
            · skip
              refine o_aload S rfl rfl at_65 rfl (q := 67) ?_
              refine o_iconst S (z := 4) rfl at_67 rfl (q := 68) ?_
              refine o_iconst S (z := 4) rfl at_68 rfl (q := 69) ?_
              refine o_iastore S (y := (4 : Int32)) (ys := [(0 : Int32), (1 : Int32), (2 : Int32), (3 : Int32), (4 : Int32)]) A_b80 (by decide) (by show (4 : Int) < 5; decide) g_b80 rfl rfl at_69 rfl (q := 70) (fun T h86 S W A_b80 => ?_)
              have E_b80 := Exa.wr W E_b80
              have hP := perm0_5
              refine o_aload S rfl rfl at_70 rfl (q := 72) ?_
              refine o_iload S rfl at_72 rfl (q := 74) ?_
              refine o_lloadN S rfl at_74 rfl (q := 75) ?_
              refine o_iconst S (z := 0) rfl at_75 rfl (q := 76) ?_
              refine o_callS S (W := 0) (argsL := [(.ref b80), (.int (5 : Int32)), (.long q1), (.int (0 : Int32))]) (rest := []) (o_wd (i := 2) hw rfl) (o_wd (i := 3) hw rfl) (o_wd (i := 4) hw rfl) (o_wd (i := 5) hw rfl) (by decide) (ct_1 l Z a0 hw b80 (5 : Int32) q1 (0 : Int32) ([(0 : Int32), (1 : Int32), (2 : Int32), (3 : Int32), (4 : Int32)]) h86 n0 (o_n0 S) A_b80 g_b80 (by decide) (by rw [hP.1]; rfl)) (by decide) (by decide) rfl rfl pd_0 rfl (Nat.le_of_eq rfl) at_76 rfl (q := 79) (by decide) (by decide) (fun T h87 rr88 S hQ => ?_)
              obtain ⟨hv, K1, A_b80'⟩ := hQ
              subst hv
              have E_b80 := E_b80.keep K1
              have A_b80 := A_b80'
              show Wp p e below (Po s n0 room_1 Q0) T (mkF m 79 #[.val (.int p0), .val (.long q1), .second, .val (.int p2), .val (.int (5 : Int32)), .val (.ref b80), .unset, .unset, .unset, .unset] [])
              have hP := hP.sw (ix_ok (n := (5 : Int32)) (s := q1) (sh := (0 : Int32)) (by decide) (L := 5) rfl) (ix_ok (n := (5 : Int32)) (s := q1) (sh := (0 : Int32) + (3 : Int32)) (by decide) (L := 5) rfl)
              refine o_aload S rfl rfl at_79 rfl (q := 81) ?_
              refine o_iload S rfl at_81 rfl (q := 83) ?_
              refine o_lloadN S rfl at_83 rfl (q := 84) ?_
              refine o_bipush S (z := 6) rfl at_84 rfl (q := 86) ?_
              refine o_callS S (W := 0) (argsL := [(.ref b80), (.int (5 : Int32)), (.long q1), (.int (6 : Int32))]) (rest := []) (o_wd (i := 2) hw rfl) (o_wd (i := 3) hw rfl) (o_wd (i := 4) hw rfl) (o_wd (i := 5) hw rfl) (by decide) (ct_1 l Z a0 hw b80 (5 : Int32) q1 (6 : Int32) (swL ([(0 : Int32), (1 : Int32), (2 : Int32), (3 : Int32), (4 : Int32)]) (ixF (5 : Int32) q1 (0 : Int32)) (ixF (5 : Int32) q1 ((0 : Int32) + (3 : Int32)))) h87 n0 (o_n0 S) A_b80 g_b80 (by decide) (by rw [hP.1]; rfl)) (by decide) (by decide) rfl rfl pd_0 rfl (Nat.le_of_eq rfl) at_86 rfl (q := 89) (by decide) (by decide) (fun T h89 rr90 S hQ => ?_)
              obtain ⟨hv, K1, A_b80'⟩ := hQ
              subst hv
              have E_b80 := E_b80.keep K1
              have A_b80 := A_b80'
              show Wp p e below (Po s n0 room_1 Q0) T (mkF m 89 #[.val (.int p0), .val (.long q1), .second, .val (.int p2), .val (.int (5 : Int32)), .val (.ref b80), .unset, .unset, .unset, .unset] [])
              have hP := hP.sw (ix_ok (n := (5 : Int32)) (s := q1) (sh := (6 : Int32)) (by decide) (L := 5) rfl) (ix_ok (n := (5 : Int32)) (s := q1) (sh := (6 : Int32) + (3 : Int32)) (by decide) (L := 5) rfl)
              refine o_aload S rfl rfl at_89 rfl (q := 91) ?_
              refine o_iload S rfl at_91 rfl (q := 93) ?_
              refine o_lloadN S rfl at_93 rfl (q := 94) ?_
              refine o_bipush S (z := 12) rfl at_94 rfl (q := 96) ?_
              refine o_callS S (W := 0) (argsL := [(.ref b80), (.int (5 : Int32)), (.long q1), (.int (12 : Int32))]) (rest := []) (o_wd (i := 2) hw rfl) (o_wd (i := 3) hw rfl) (o_wd (i := 4) hw rfl) (o_wd (i := 5) hw rfl) (by decide) (ct_1 l Z a0 hw b80 (5 : Int32) q1 (12 : Int32) (swL (swL ([(0 : Int32), (1 : Int32), (2 : Int32), (3 : Int32), (4 : Int32)]) (ixF (5 : Int32) q1 (0 : Int32)) (ixF (5 : Int32) q1 ((0 : Int32) + (3 : Int32)))) (ixF (5 : Int32) q1 (6 : Int32)) (ixF (5 : Int32) q1 ((6 : Int32) + (3 : Int32)))) h89 n0 (o_n0 S) A_b80 g_b80 (by decide) (by rw [hP.1]; rfl)) (by decide) (by decide) rfl rfl pd_0 rfl (Nat.le_of_eq rfl) at_96 rfl (q := 99) (by decide) (by decide) (fun T h91 rr92 S hQ => ?_)
              obtain ⟨hv, K1, A_b80'⟩ := hQ
              subst hv
              have E_b80 := E_b80.keep K1
              have A_b80 := A_b80'
              show Wp p e below (Po s n0 room_1 Q0) T (mkF m 99 #[.val (.int p0), .val (.long q1), .second, .val (.int p2), .val (.int (5 : Int32)), .val (.ref b80), .unset, .unset, .unset, .unset] [])
              have hP := hP.sw (ix_ok (n := (5 : Int32)) (s := q1) (sh := (12 : Int32)) (by decide) (L := 5) rfl) (ix_ok (n := (5 : Int32)) (s := q1) (sh := (12 : Int32) + (3 : Int32)) (by decide) (L := 5) rfl)
              refine o_aload S rfl rfl at_99 rfl (q := 101) ?_
              refine o_iload S rfl at_101 rfl (q := 103) ?_
              refine o_lloadN S rfl at_103 rfl (q := 104) ?_
              refine o_bipush S (z := 18) rfl at_104 rfl (q := 106) ?_
              refine o_callS S (W := 0) (argsL := [(.ref b80), (.int (5 : Int32)), (.long q1), (.int (18 : Int32))]) (rest := []) (o_wd (i := 2) hw rfl) (o_wd (i := 3) hw rfl) (o_wd (i := 4) hw rfl) (o_wd (i := 5) hw rfl) (by decide) (ct_1 l Z a0 hw b80 (5 : Int32) q1 (18 : Int32) (swL (swL (swL ([(0 : Int32), (1 : Int32), (2 : Int32), (3 : Int32), (4 : Int32)]) (ixF (5 : Int32) q1 (0 : Int32)) (ixF (5 : Int32) q1 ((0 : Int32) + (3 : Int32)))) (ixF (5 : Int32) q1 (6 : Int32)) (ixF (5 : Int32) q1 ((6 : Int32) + (3 : Int32)))) (ixF (5 : Int32) q1 (12 : Int32)) (ixF (5 : Int32) q1 ((12 : Int32) + (3 : Int32)))) h91 n0 (o_n0 S) A_b80 g_b80 (by decide) (by rw [hP.1]; rfl)) (by decide) (by decide) rfl rfl pd_0 rfl (Nat.le_of_eq rfl) at_106 rfl (q := 109) (by decide) (by decide) (fun T h93 rr94 S hQ => ?_)
              obtain ⟨hv, K1, A_b80'⟩ := hQ
              subst hv
              have E_b80 := E_b80.keep K1
              have A_b80 := A_b80'
              show Wp p e below (Po s n0 room_1 Q0) T (mkF m 109 #[.val (.int p0), .val (.long q1), .second, .val (.int p2), .val (.int (5 : Int32)), .val (.ref b80), .unset, .unset, .unset, .unset] [])
              have hP := hP.sw (ix_ok (n := (5 : Int32)) (s := q1) (sh := (18 : Int32)) (by decide) (L := 5) rfl) (ix_ok (n := (5 : Int32)) (s := q1) (sh := (18 : Int32) + (3 : Int32)) (by decide) (L := 5) rfl)
              obtain ⟨x0, x1, x2, x3, x4, hxe, hxr, hxd⟩ := open_5 hP
              have A_b80 : IA Z h93 b80 .int [x0, x1, x2, x3, x4] := by rw [← hxe]; exact A_b80
              refine o_iloadN S rfl at_109 rfl (q := 110) ?_
              refine o_ldc S (o_wd (i := 0) hw rfl) at_110 rfl (q := 112) ?_
              refine o_iand S at_112 rfl (q := 113) ?_
              refine o_iload S rfl at_113 rfl (q := 115) ?_
              refine o_irem S (by decide) at_115 rfl (q := 116) ?_
              refine o_istoreV S (L' := fun v95 => #[.val (.int p0), .val (.long q1), .second, .val (.int p2), .val (.int (5 : Int32)), .val (.ref b80), .val (.int v95), .unset, .unset, .unset]) (fun _ => rfl) at_116 rfl (q := 118) (fun v95 hv95 => ?_)
              have hcb : 0 ≤ v95.toInt ∧ v95.toInt < 5 := by rw [hv95]; exact own_rem 5 rfl (by decide) own_m
              have hpp := pos_5 hxr hxd hcb.1 hcb.2
              refine o_aload S rfl rfl at_118 rfl (q := 120) ?_
              refine o_iload S rfl at_120 rfl (q := 122) ?_
              refine o_iload S rfl at_122 rfl (q := 124) ?_
              refine o_callS0 S (W := 0) (argsL := [(.ref b80), (.int (5 : Int32)), (.int v95)]) (rest := []) (o_wd (i := 7) hw rfl) (o_wd (i := 8) hw rfl) (o_wd (i := 4) hw rfl) (o_wd (i := 9) hw rfl) (by decide) (ct_2 l Z a0 hw b80 (5 : Int32) v95 ([x0, x1, x2, x3, x4]) h93 n0 (o_n0 S) A_b80 rfl) (by decide) (by decide) rfl rfl pd_1 rfl (Nat.le_of_eq rfl) at_124 rfl (q := 127) (by decide) (by decide) rfl (st' := [(.int (f_idx (5 : Int32) v95 ([x0, x1, x2, x3, x4])))]) (fun T S => ?_)
              refine o_istoreV S (L' := fun pq => #[.val (.int p0), .val (.long q1), .second, .val (.int p2), .val (.int (5 : Int32)), .val (.ref b80), .val (.int v95), .val (.int pq), .unset, .unset]) (fun _ => rfl) at_127 rfl (q := 129) (fun pq hpq => ?_)
              have hpi := hpp
              rw [show f_idx (5 : Int32) v95 [x0, x1, x2, x3, x4] = pq from hpq.symm] at hpi
              refine o_aload S rfl rfl at_129 rfl (q := 131) ?_
              refine o_iload S rfl at_131 rfl (q := 133) ?_
              refine o_iload S rfl at_133 rfl (q := 135) ?_
              refine o_iadd S at_135 rfl (q := 136) ?_
              refine o_iconst S (z := 1) rfl at_136 rfl (q := 137) ?_
              refine o_isub S at_137 rfl (q := 138) ?_
              refine o_iload S rfl at_138 rfl (q := 140) ?_
              refine o_irem S (by decide) at_140 rfl (q := 141) ?_
              refine o_iaload S A_b80 hpi.1.1 hpi.1.2 (v := (([x0, x1, x2, x3, x4] : List Int32).getD (((pq + (5 : Int32)) - (1 : Int32)) % (5 : Int32)).toNatClampNeg 0)) rfl at_141 rfl (q := 142) ?_
              refine o_istoreV S (L' := fun ee => #[.val (.int p0), .val (.long q1), .second, .val (.int p2), .val (.int (5 : Int32)), .val (.ref b80), .val (.int v95), .val (.int pq), .val (.int ee), .unset]) (fun _ => rfl) at_142 rfl (q := 144) (fun ee hee => ?_)
              refine o_new S (o_wd (i := 10) hw rfl) (o_wd (i := 11) hw rfl) (o_wd (i := 12) hw rfl) at_144 rfl (q := 147) (by decide) (by decide) (fun T h97 b96 S ha_b96 g_b96 X E_b96 D => ?_)
              have ne_b80_b96 : b80 ≠ b96 := by rw [ha_b96]; exact Nat.ne_of_lt E_b80.lt
              have E_b80 := Exa.ext X E_b80
              have A_b80 := A_b80.ext X
              have F_journal_b96 : Fld Z h97 b96 "com/example/ladentour/ladentour/solve/ArrayTour" "journal" "[I" .null := D (Or.inl (o_wd (i := 20) hw rfl)) (ty := (.array .int)) (by decide)
              have F_order_b96 : Fld Z h97 b96 "com/example/ladentour/ladentour/solve/ArrayTour" "order" "[I" .null := D (Or.inr (o_wd (i := 31) hw rfl)) (ty := (.array .int)) (by decide)
              have F_n_b96 : Fld Z h97 b96 "com/example/ladentour/ladentour/solve/ArrayTour" "n" "I" (.int (0 : Int32)) := D (Or.inr (o_wd (i := 33) hw rfl)) (ty := .int) (by decide)
              have F_position_b96 : Fld Z h97 b96 "com/example/ladentour/ladentour/solve/ArrayTour" "position" "[I" .null := D (Or.inr (o_wd (i := 35) hw rfl)) (ty := (.array .int)) (by decide)
              refine o_dup S rfl at_147 rfl (q := 148) ?_
              refine o_aload S rfl rfl at_148 rfl (q := 150) ?_
              refine o_callI S (W := 1) (argsL := [(.ref b80)]) (rest := [(.ref b96)]) (a := b96) rfl (o_wd (i := 13) hw rfl) (o_wd (i := 14) hw rfl) (o_wd (i := 12) hw rfl) (o_wd (i := 15) hw rfl) (by decide) (ct_3 l Z a0 hw b96 b80 ([x0, x1, x2, x3, x4]) (5 : Int32) h97 n0 (o_n0 S) E_b96 F_journal_b96 F_order_b96 F_n_b96 F_position_b96 A_b80 E_b80 g_b96 (Ne.symm ne_b80_b96) rfl rfl (by decide) (fun i hi => own_bd5 hxr i hi)) (by decide) (by decide) rfl rfl pd_2 rfl (Nat.le_of_eq rfl) at_150 rfl (q := 153) (by decide) (by decide) (fun T h98 rr99 S hQ => ?_)
              obtain ⟨b100, g_b100, sz'_b100, b101, g_b101, sz'_b101, hv, K1, E_b96', F_order_b96', F_n_b96', F_position_b96', A_b100', A_b101'⟩ := hQ
              subst hv
              have ne_b80_b100 : b80 ≠ b100 := Nat.ne_of_lt (Nat.lt_of_lt_of_le E_b80.lt sz'_b100)
              have ne_b96_b100 : b96 ≠ b100 := Nat.ne_of_lt (Nat.lt_of_lt_of_le E_b96.lt sz'_b100)
              have ne_b80_b101 : b80 ≠ b101 := Nat.ne_of_lt (Nat.lt_of_lt_of_le E_b80.lt sz'_b101)
              have ne_b96_b101 : b96 ≠ b101 := Nat.ne_of_lt (Nat.lt_of_lt_of_le E_b96.lt sz'_b101)
              have E_b80 := E_b80.keep K1
              have A_b80 := A_b80.keep K1 (ninS ne_b80_b96 nin0)
              have E_b96 := E_b96'
              have F_order_b96 := F_order_b96'
              have F_n_b96 := F_n_b96'
              have F_position_b96 := F_position_b96'
              have A_b100 := A_b100'
              have A_b101 := A_b101'
              show Wp p e below (Po s n0 room_1 Q0) T (mkF m 153 #[.val (.int p0), .val (.long q1), .second, .val (.int p2), .val (.int (5 : Int32)), .val (.ref b80), .val (.int v95), .val (.int pq), .val (.int ee), .unset] [(.ref b96)])
              refine o_astore S (L' := #[.val (.int p0), .val (.long q1), .second, .val (.int p2), .val (.int (5 : Int32)), .val (.ref b80), .val (.int v95), .val (.int pq), .val (.int ee), .val (.ref b96)]) rfl rfl at_153 rfl (q := 155) ?_
              have hcp : 0 ≤ v95.toInt ∧ v95.toInt < (posI [x0, x1, x2, x3, x4] 5).length := ⟨hcb.1, by rw [posI_len]; exact hcb.2⟩
              have hcq := hpi.2.1
              refine o_aload S rfl rfl at_155 rfl (q := 157) ?_
              refine o_iload S rfl at_157 rfl (q := 159) ?_
              refine o_callV0 S (W := 0) (argsL := [(.int v95)]) (rest := []) (a := b96) (o_wd (i := 36) hw rfl) (o_wd (i := 37) hw rfl) (o_wd (i := 39) hw rfl) (o_wd (i := 38) hw rfl) (o_wd (i := 12) hw rfl) (o_wd (i := 40) hw rfl) (o_nf (o_wd (i := 39) hw rfl)) (by decide) E_b96 (ct_5 l Z a0 hw b96 v95 b101 b100 (5 : Int32) (posI [x0, x1, x2, x3, x4] 5) (([x0, x1, x2, x3, x4])) h98 n0 (o_n0 S) E_b96 F_position_b96 F_order_b96 F_n_b96 A_b101 A_b100 hcp hcq) (by decide) (by decide) rfl rfl pd_3 rfl (Nat.le_of_eq rfl) at_159 rfl (q := 162) (by decide) (by decide) rfl (st' := [(.int (f_prev v95 (5 : Int32) (posI [x0, x1, x2, x3, x4] 5) (([x0, x1, x2, x3, x4]))))]) (fun T S => ?_)
              refine o_iload S rfl at_162 rfl (q := 164) ?_
              refine o_icmp S at_164 (by decide) (q' := 171) (by decide) (q := 167) rfl hs_ne.1 hs_ne.2 (fun hc164 => ?_) (fun hc164 => ?_)
              · exact absurd (by rw [hee]; exact hpi.2.2) hc164
              · skip
                refine o_iconst S (z := 1) rfl at_167 rfl (q := 168) ?_
                refine o_goto S at_168 (by decide) (q := 172) (by decide) ?_
                refine o_retN S (t := .boolean) rfl (by simp) at_172 (by decide) (by decide) rfl ?_
                rfl
set_option maxRecDepth 65536 in
set_option maxHeartbeats 40000000 in
theorem comes_1 {Post : Tables → Env → Array Value → State → Outcome → State → Prop} (hpost : ∀ tb e args s v u, (limb_1_1.after args s (.returned v) u = true ∧ limb_1_2.after args s (.returned v) u = true ∧ True) → FrameEnd s (.returned v) u (Jvm.fieldLocs frame_1_writes args s ++ Jvm.arrayLocs frame_1_arrays args s ++ Jvm.staticLocs frame_1_statics s) 24 256 → Post tb e args s (.returned v) u) :
    ArmFor flags0 classFile x code maxLocals ret World_1 tables_1 room_1 Calls_1 rest_1 Pre_1 Post := by
  intro l hfl _ _ p e ha hc hk s m args below hf hA hF happ hP
  obtain ⟨hcalls, hrest, hpre⟩ := hP
  obtain ⟨-, -, -, hnamed, -, -, -, hat⟩ := (Spec.applies_iff hf).mp happ
  obtain ⟨hg, hn⟩ := and_e (Cond.before_iff.mp (show (Jvm.Cond.and given_1 narrow_1).before args s = true from hpre))
  obtain ⟨g0, g⟩ := and_e hg
  obtain ⟨w0, w1, w2, rfl⟩ : ∃ w0 w1 w2 : Value, args = #[w0, w1, w2] := by
    have hs : args.size = 3 := by simpa [Cond.value, given_1] using g0
    obtain ⟨L⟩ := args
    match L, hs with
    | [w0, w1, w2], _ => exact ⟨w0, w1, w2, rfl⟩
  have hw := fun d (hd : d ∈ tables_1) => atoms_spec (ws := Jvm.Cond.code x code maxLocals ret :: tables_1) hat d (List.mem_cons_of_mem _ hd)
  obtain ⟨g1, gr1⟩ := and_e g
  obtain ⟨i0, ei0⟩ := is_v g1
  obtain rfl : w0 = (.int i0) := Option.some.inj ei0
  obtain ⟨g2, gr2⟩ := and_e gr1
  obtain ⟨i1, ei1⟩ := isL_v g2
  obtain rfl : w1 = (.long i1) := Option.some.inj ei1
  obtain ⟨i2, ei2⟩ := is_v gr2
  obtain rfl : w2 = (.int i2) := Option.some.inj ei2
  obtain ⟨n, o, h1, h2, h3, _, L, rfl, ⟨rfl, N⟩, hq⟩ := ct_0 l s _ hw tables_1 i0 i1 i2 s.heap s.heap.size (Nat.le_refl _) p e ha hc hk s m _ below hf ((Spec.applies_iff_loose hf).mp happ).1 ⟨rfl, State.Warmed39.refl s, rfl⟩ trivial
  refine ⟨n, _, h1, h2, h3, hpost _ _ _ _ _ _ ⟨Cond.after_iff.mpr rfl, Cond.after_iff.mpr (eq_i res_at (Term.int_eval (1)) rfl), trivial⟩ ⟨hq.1, hq.2.1, (hq.2.2.sift fun y hy => Or.inr (N y hy)).mono (by decide) (by decide)⟩⟩
theorem main_1_1 : Claimed_1_1 := comes_1 fun _ _ _ _ _ _ h hF => ⟨h.1, hF⟩
theorem main_1_2 : Claimed_1_2 := comes_1 fun _ _ _ _ _ _ h hF => ⟨h.2.1, hF⟩
end Jvm.Pilot.@@N@@
namespace Jvm.Pilot.@@N@@
open Jvm Jvm.ClassFile Sem Op Lib Jvm.Free Jvm.Stand Jvm.Pilot.@@N@@.Jvm.D
/-! MADE BY PROGRAM (witnessworld.py) out of the Statement's table words and the real class files: 9 classes; the members and pool entries that the words name. The judged class is class 1, her method 1. -/
namespace start1
open Jvm.ClassFile
def u (s : String) : CpInfo := .utf8 (stringToUtf16 s)
/-- a pool by its gaps: so many unusable entries, then the entry; so many at the end -/
def gap : Nat → List CpInfo → List CpInfo
  | 0, r => r
  | n + 1, r => .unusable :: gap n r
def poolList (es : List (Nat × CpInfo)) (last : Nat) : List CpInfo := es.foldr (fun e r => gap e.1 (e.2 :: r)) (gap last [])
def pool (es : List (Nat × CpInfo)) (last : Nat) : Array CpInfo := ⟨poolList es last⟩
def fileOf (pool : Array CpInfo) (this : Nat) (attrs : Array Attribute := #[]) (ms : Array MethodInfo := #[]) (fl : Nat := 33) (sup : Nat := 0) (ifs : Array Nat := #[]) (fds : Array FieldInfo := #[]) : ClassFile where
  minorVersion := 0
  majorVersion := 65
  constantPool := pool
  accessFlags := fl
  thisClass := this
  superClass := sup
  interfaces := ifs
  fields := fds
  methods := ms
  attributes := attrs
def plain (name : String) (sup : Option ClassId) : Class where
  name := name
  kind := .ordinary
  loader := none
  accessFlags := 33
  super := sup
  interfaces := #[]
  cf := none
  fields := #[]
  methods := #[]
  instanceTypes := #[]
  staticTypes := #[]
  resolved := #[]
  callSites := []
  init := .initialized
  statics := none
  mirror := none

def pool0 : Array CpInfo := pool [(5, u "<init>"), (0, u "()V"), (1, .class_ 10), (1, u "java/lang/Object"), (85, u "clone"), (0, u "()Ljava/lang/Object;")] 26

def k0c0 : Code := { maxStack := 0, maxLocals := 1, code := object_method_1_code, exceptionTable := #[], attributes := #[] }
def k0m0 : Method := { name := "<init>", desc := "()V", sig := { parameters := [], returnType := none }, accessFlags := 1, code := some k0c0 }
def k0m1 : Method := { name := "clone", desc := "()Ljava/lang/Object;", sig := { parameters := [], returnType := some (.object "java/lang/Object") }, accessFlags := 260, code := none }
/-- java/lang/Object -/
def k0 : Class := { plain "java/lang/Object" none with
  accessFlags := 33
  interfaces := #[]
  cf := some (fileOf pool0 8 #[] #[{ accessFlags := 1, nameIndex := 5, descriptorIndex := 6, attributes := #[] }, { accessFlags := 260, nameIndex := 96, descriptorIndex := 97, attributes := #[] }] 33 0 #[] #[])
  fields := #[]
  methods := #[k0m0, k0m1]
  instanceTypes := #[]
  staticTypes := #[]
  resolved := Array.replicate 124 none
  statics := none }

def pool1 : Array CpInfo := pool [(2, .class_ 4), (1, u "java/lang/Object"), (0, u "<init>"), (0, u "()V"), (0, .integer 2147483647), (0, .methodref 9 10), (0, .class_ 11), (0, .nameAndType 12 13), (0, u "com/example/ladentour/ladentour/solve/ArrayTourPreviousPinLaw"), (0, u "swap"), (0, u "([IIJI)V"), (0, .methodref 9 15), (0, .nameAndType 16 17), (0, u "indexOf"), (0, u "([III)I"), (0, .class_ 19), (0, u "com/example/ladentour/ladentour/solve/ArrayTour"), (0, .methodref 18 21), (0, .nameAndType 5 22), (0, u "([I)V"), (0, .methodref 18 24), (0, .nameAndType 25 26), (0, u "previous"), (0, u "(I)I"), (0, .long 7), (3, u "law"), (0, u "(IJI)Z")] 5

def k1m0 : Method := { name := "<init>", desc := "()V", sig := { parameters := [], returnType := none }, accessFlags := 1, code := none }
def k1c1 : Code := { maxStack := 5, maxLocals := 10, code := code, exceptionTable := #[], attributes := #[] }
def k1m1 : Method := { name := "law", desc := "(IJI)Z", sig := { parameters := [.int, .long, .int], returnType := some .boolean }, accessFlags := 9, code := some k1c1 }
def k1c2 : Code := { maxStack := 4, maxLocals := 8, code := method_3_code, exceptionTable := #[], attributes := #[] }
def k1m2 : Method := { name := "swap", desc := "([IIJI)V", sig := { parameters := [(.array .int), .int, .long, .int], returnType := none }, accessFlags := 10, code := some k1c2 }
def k1c3 : Code := { maxStack := 2, maxLocals := 3, code := method_4_code, exceptionTable := #[], attributes := #[] }
def k1m3 : Method := { name := "indexOf", desc := "([III)I", sig := { parameters := [(.array .int), .int, .int], returnType := some .int }, accessFlags := 10, code := some k1c3 }
/-- com/example/ladentour/ladentour/solve/ArrayTourPreviousPinLaw -/
def k1 : Class := { plain "com/example/ladentour/ladentour/solve/ArrayTourPreviousPinLaw" (some 0) with
  accessFlags := 49
  interfaces := #[]
  cf := some (fileOf pool1 9 #[] #[{ accessFlags := 1, nameIndex := 5, descriptorIndex := 6, attributes := #[] }, { accessFlags := 9, nameIndex := 31, descriptorIndex := 32, attributes := #[] }, { accessFlags := 10, nameIndex := 12, descriptorIndex := 13, attributes := #[] }, { accessFlags := 10, nameIndex := 16, descriptorIndex := 17, attributes := #[] }] 49 2 #[] #[])
  fields := #[]
  methods := #[k1m0, k1m1, k1m2, k1m3]
  instanceTypes := #[]
  staticTypes := #[]
  resolved := Array.replicate 38 none
  statics := none }

def pool2 : Array CpInfo := pool [(1, .class_ 2), (0, u "com/example/ladentour/ladentour/solve/ArrayTour"), (0, .methodref 4 5), (0, .class_ 6), (0, .nameAndType 7 8), (0, u "java/lang/Object"), (0, u "<init>"), (0, u "()V"), (0, .fieldref 1 10), (0, .nameAndType 11 12), (0, u "journal"), (0, u "[I"), (0, .methodref 14 15), (0, .class_ 12), (0, .nameAndType 16 17), (0, u "clone"), (0, u "()Ljava/lang/Object;"), (0, .fieldref 1 19), (0, .nameAndType 20 12), (0, u "order"), (0, .fieldref 1 22), (0, .nameAndType 23 24), (0, u "n"), (0, u "I"), (0, .fieldref 1 26), (0, .nameAndType 27 12), (0, u "position"), (6, u "journalLength"), (9, u "(I)I"), (2, u "previous"), (10, u "CITIES_PER_MOVE"), (2, u "FIRST_JOURNAL_LENGTH"), (1, u "([I)V")] 16

def k2c0 : Code := { maxStack := 3, maxLocals := 3, code := prog_41_method_1_code, exceptionTable := #[], attributes := #[] }
def k2m0 : Method := { name := "<init>", desc := "([I)V", sig := { parameters := [(.array .int)], returnType := none }, accessFlags := 0, code := some k2c0 }
def k2c1 : Code := { maxStack := 3, maxLocals := 3, code := prog_41_method_5_code, exceptionTable := #[], attributes := #[] }
def k2m1 : Method := { name := "previous", desc := "(I)I", sig := { parameters := [.int], returnType := some .int }, accessFlags := 0, code := some k2c1 }
/-- com/example/ladentour/ladentour/solve/ArrayTour -/
def k2 : Class := { plain "com/example/ladentour/ladentour/solve/ArrayTour" (some 0) with
  accessFlags := 48
  interfaces := #[]
  cf := some (fileOf pool2 1 #[] #[{ accessFlags := 0, nameIndex := 7, descriptorIndex := 63, attributes := #[] }, { accessFlags := 0, nameIndex := 47, descriptorIndex := 44, attributes := #[] }] 48 4 #[] #[{ accessFlags := 26, nameIndex := 58, descriptorIndex := 24, attributes := #[] }, { accessFlags := 26, nameIndex := 61, descriptorIndex := 24, attributes := #[] }, { accessFlags := 18, nameIndex := 20, descriptorIndex := 12, attributes := #[] }, { accessFlags := 18, nameIndex := 27, descriptorIndex := 12, attributes := #[] }, { accessFlags := 18, nameIndex := 23, descriptorIndex := 24, attributes := #[] }, { accessFlags := 2, nameIndex := 11, descriptorIndex := 12, attributes := #[] }, { accessFlags := 2, nameIndex := 34, descriptorIndex := 24, attributes := #[] }])
  fields := #[{ name := "CITIES_PER_MOVE", type := .int, accessFlags := 26, slot := 0, constantValue := 0 }, { name := "FIRST_JOURNAL_LENGTH", type := .int, accessFlags := 26, slot := 1, constantValue := 0 }, { name := "order", type := (.array .int), accessFlags := 18, slot := 0, constantValue := 0 }, { name := "position", type := (.array .int), accessFlags := 18, slot := 1, constantValue := 0 }, { name := "n", type := .int, accessFlags := 18, slot := 2, constantValue := 0 }, { name := "journal", type := (.array .int), accessFlags := 2, slot := 3, constantValue := 0 }, { name := "journalLength", type := .int, accessFlags := 2, slot := 4, constantValue := 0 }]
  methods := #[k2m0, k2m1]
  instanceTypes := #[(.array .int), (.array .int), .int, (.array .int), .int]
  staticTypes := #[.int, .int]
  resolved := Array.replicate 80 none
  statics := none }

def pool3 : Array CpInfo := pool [(1, .class_ 2), (0, u "java/lang/Cloneable"), (0, .class_ 4), (0, u "java/lang/Object")] 2

/-- java/lang/Cloneable -/
def k3 : Class := { plain "java/lang/Cloneable" (some 0) with
  accessFlags := 1537
  interfaces := #[]
  cf := some (fileOf pool3 1 #[] #[] 1537 3 #[] #[])
  fields := #[]
  methods := #[]
  instanceTypes := #[]
  staticTypes := #[]
  resolved := Array.replicate 7 none
  statics := none }

def pool4 : Array CpInfo := pool [(1, u "java/io/Serializable"), (0, .class_ 1), (0, u "java/lang/Object"), (0, .class_ 3)] 3

/-- java/io/Serializable -/
def k4 : Class := { plain "java/io/Serializable" (some 0) with
  accessFlags := 1537
  interfaces := #[]
  cf := some (fileOf pool4 2 #[] #[] 1537 4 #[] #[])
  fields := #[]
  methods := #[]
  instanceTypes := #[]
  staticTypes := #[]
  resolved := Array.replicate 8 none
  statics := none }

/-- the primitive byte -/
def k5 : Class := { plain "byte" none with kind := .primitive 'B', accessFlags := 0x411 }
/-- [B -/
def k6 : Class := { plain "[B" (some 0) with kind := .array 5 .byte, interfaces := #[3, 4], accessFlags := 1041 }

/-- the primitive int -/
def k7 : Class := { plain "int" none with kind := .primitive 'I', accessFlags := 0x411 }
/-- [I -/
def k8 : Class := { plain "[I" (some 0) with kind := .array 7 .int, interfaces := #[3, 4], accessFlags := 1041 }

def heap : Heap := #[]
def classes : Array Class := #[k0, k1, k2, k3, k4, k5, k6, k7, k8]
def interned : List (Array UInt16 × Addr) := []
def slotsUsed : Nat := 0
def theMethod : MethodId := ⟨1, 1⟩
def args0 : Array Value := #[.int 5, .long 6, .int 7]
def aboutOver (below : List Frame) : State where
  vm := { classes := classes, interned := interned.toArray }
  heap := heap
  slotsUsed := slotsUsed
  threads := #[{ frames := .invoking theMethod args0 :: below }]
def below0 : List Frame := [.native { method := ⟨0, 0⟩, args := #[] }]
def about1 : State := aboutOver below0
def p0 : Program := .bare "" "" ""
def e0 : Env := launch0.env 0 0 0
theorem w_frames : about1.frames = Frame.invoking theMethod args0 :: below0 := rfl
set_option maxRecDepth 65536 in
theorem w_args : argsFit about1.vm theMethod args0 = true := by decide +kernel
set_option maxRecDepth 65536 in
theorem w_heap : heapFits about1 = true := by decide +kernel
set_option maxRecDepth 65536 in
theorem w_runnable : about1.curStatus? = some .runnable := by decide +kernel
set_option maxRecDepth 65536 in
theorem w_alone : about1.alone = true := by decide +kernel
set_option maxRecDepth 65536 in
theorem w_named : about1.methodNamed? x = some theMethod := by decide +kernel
set_option maxRecDepth 65536 in
theorem w_hears : about1.hears theMethod below0 = true := by decide +kernel
set_option maxRecDepth 65536 in
theorem w_ripe : about1.ripe theMethod args0 below0 = true := by decide +kernel
theorem w_running : about1.status = .running := rfl
set_option maxRecDepth 65536 in
theorem w_room : about1.hasRoom e0.platform room_1 = true :=
  launch0.hasRoom_least _ room_1 (by decide +kernel) (by decide +kernel) (by decide +kernel) (by decide +kernel) (by decide +kernel) (by decide +kernel)
theorem allAtoms_all (ts : List Jvm.Cond) (a : Array Jvm.Value) (st : Jvm.State) : (allAtoms ts).before a st = ts.all (fun c => c.before a st) := by
  induction ts with
  | nil => rfl
  | cons c t ih =>
    show (Jvm.Cond.and c (allAtoms t)).before a st = _
    rw [Jvm.Cond.before_and, ih, List.all_cons]
def words1 : List Jvm.Cond := Jvm.Cond.code x code maxLocals ret :: tables_1
/-- a 'code' word, met by the world's own term for the bytes: nothing is compared byte by byte -/
theorem code_word {y : MethodName} {bytes : ByteArray} {mx : Nat} {rt : Option FieldType} {a : Array Value} {s : State} {m : MethodId} {meth : Method} {c : Code} (h1 : s.methodNamed? y = some m) (h2 : s.vm.method? m = some meth) (h3 : meth.code = some c) (h4 : c.code = bytes)
    (h5 : (c.maxLocals == mx && c.exceptionTable.isEmpty && decide (c.maxStack ≤ mostOperands) && decide (meth.sig.returnType = rt) && !meth.locks && decide (parseMethodDescriptor y.desc = some meth.sig)) = true) : (Jvm.Cond.code y bytes mx rt).before a s = true := by
  simp only [Bool.and_eq_true, beq_iff_eq, Bool.not_eq_true', decide_eq_true_eq] at h5
  obtain ⟨⟨⟨⟨⟨g1, g2⟩, g3⟩, g4⟩, g5⟩, g6⟩ := h5
  simp [Cond.before, Cond.holds, Cond.value, h1, h2, h3, h4, g1, g2, g3, g4, g5, g6]
def isCode : Jvm.Cond → Bool
  | .code _ _ _ _ => true
  | _ => false
theorem all_split {L : List Jvm.Cond} {P : Jvm.Cond → Bool} (h1 : L.all (fun c => isCode c || P c) = true) (h2 : ∀ c ∈ L.filter isCode, P c = true) : L.all P = true := by
  refine List.all_eq_true.mpr fun c hc => ?_
  have h := List.all_eq_true.mp h1 c hc
  rcases Bool.eq_false_or_eq_true (isCode c) with hi | hi
  · exact h2 c (List.mem_filter.mpr ⟨hc, hi⟩)
  · simpa [hi] using h
set_option maxRecDepth 65536 in
theorem w_c0 : (Jvm.Cond.code x code maxLocals ret).before args0 about1 = true := code_word (m := ⟨1, 1⟩) (meth := k1m1) (c := k1c1) (by decide +kernel) rfl rfl rfl (by decide +kernel)
set_option maxRecDepth 65536 in
theorem w_c1 : (Jvm.Cond.code ({ cls := "com/example/ladentour/ladentour/solve/ArrayTourPreviousPinLaw", name := "swap", desc := "([IIJI)V" } : Jvm.MethodName) method_3_code (8 : Nat) (Option.none : Option Jvm.ClassFile.FieldType)).before args0 about1 = true := code_word (m := ⟨1, 2⟩) (meth := k1m2) (c := k1c2) (by decide +kernel) rfl rfl rfl (by decide +kernel)
set_option maxRecDepth 65536 in
theorem w_c2 : (Jvm.Cond.code ({ cls := "com/example/ladentour/ladentour/solve/ArrayTourPreviousPinLaw", name := "indexOf", desc := "([III)I" } : Jvm.MethodName) method_4_code (3 : Nat) (Option.some Jvm.ClassFile.FieldType.int)).before args0 about1 = true := code_word (m := ⟨1, 3⟩) (meth := k1m3) (c := k1c3) (by decide +kernel) rfl rfl rfl (by decide +kernel)
set_option maxRecDepth 65536 in
theorem w_c3 : (Jvm.Cond.code ({ cls := "com/example/ladentour/ladentour/solve/ArrayTour", name := "<init>", desc := "([I)V" } : Jvm.MethodName) prog_41_method_1_code (3 : Nat) (Option.none : Option Jvm.ClassFile.FieldType)).before args0 about1 = true := code_word (m := ⟨2, 0⟩) (meth := k2m0) (c := k2c0) (by decide +kernel) rfl rfl rfl (by decide +kernel)
set_option maxRecDepth 65536 in
theorem w_c4 : (Jvm.Cond.code ({ cls := "java/lang/Object", name := "<init>", desc := "()V" } : Jvm.MethodName) object_method_1_code (1 : Nat) (Option.none : Option Jvm.ClassFile.FieldType)).before args0 about1 = true := code_word (m := ⟨0, 0⟩) (meth := k0m0) (c := k0c0) (by decide +kernel) rfl rfl rfl (by decide +kernel)
set_option maxRecDepth 65536 in
theorem w_c5 : (Jvm.Cond.code ({ cls := "com/example/ladentour/ladentour/solve/ArrayTour", name := "previous", desc := "(I)I" } : Jvm.MethodName) prog_41_method_5_code (3 : Nat) (Option.some Jvm.ClassFile.FieldType.int)).before args0 about1 = true := code_word (m := ⟨2, 1⟩) (meth := k2m1) (c := k2c1) (by decide +kernel) rfl rfl rfl (by decide +kernel)
def codes1 : List Jvm.Cond := [Jvm.Cond.code x code maxLocals ret, Jvm.Cond.code ({ cls := "com/example/ladentour/ladentour/solve/ArrayTourPreviousPinLaw", name := "swap", desc := "([IIJI)V" } : Jvm.MethodName) method_3_code (8 : Nat) (Option.none : Option Jvm.ClassFile.FieldType), Jvm.Cond.code ({ cls := "com/example/ladentour/ladentour/solve/ArrayTourPreviousPinLaw", name := "indexOf", desc := "([III)I" } : Jvm.MethodName) method_4_code (3 : Nat) (Option.some Jvm.ClassFile.FieldType.int), Jvm.Cond.code ({ cls := "com/example/ladentour/ladentour/solve/ArrayTour", name := "<init>", desc := "([I)V" } : Jvm.MethodName) prog_41_method_1_code (3 : Nat) (Option.none : Option Jvm.ClassFile.FieldType), Jvm.Cond.code ({ cls := "java/lang/Object", name := "<init>", desc := "()V" } : Jvm.MethodName) object_method_1_code (1 : Nat) (Option.none : Option Jvm.ClassFile.FieldType), Jvm.Cond.code ({ cls := "com/example/ladentour/ladentour/solve/ArrayTour", name := "previous", desc := "(I)I" } : Jvm.MethodName) prog_41_method_5_code (3 : Nat) (Option.some Jvm.ClassFile.FieldType.int)]
set_option maxRecDepth 65536 in
theorem codes_eq : words1.filter isCode = codes1 := rfl
theorem w_codes : ∀ c ∈ words1.filter isCode, c.before args0 about1 = true := by
  rw [codes_eq]
  intro c hc
  simp only [codes1, List.mem_cons, List.not_mem_nil, or_false] at hc
  rcases hc with rfl | rfl | rfl | rfl | rfl | rfl
  · exact w_c0
  · exact w_c1
  · exact w_c2
  · exact w_c3
  · exact w_c4
  · exact w_c5
set_option maxRecDepth 65536 in
theorem w_t1 : (words1.take 24).all (fun c => isCode c || c.before args0 about1) = true := by decide +kernel
set_option maxRecDepth 65536 in
theorem w_t2 : (words1.drop 24).all (fun c => isCode c || c.before args0 about1) = true := by decide +kernel
theorem w_tables : (allAtoms (Jvm.Cond.code x code maxLocals ret :: tables_1)).before args0 about1 = true := by
  rw [allAtoms_all]
  show words1.all (fun c => c.before args0 about1) = true
  refine all_split ?_ w_codes
  rw [← List.take_append_drop 24 words1, List.all_append, w_t1, w_t2]
  rfl
set_option maxRecDepth 65536 in
theorem w_case : (Jvm.Cond.and given_1 narrow_1).before args0 about1 = true := by decide +kernel
theorem w_applies : (headSpec (Jvm.Cond.code x code maxLocals ret :: tables_1) room_1).applies x e0.platform about1 = true :=
  (Spec.applies_iff w_frames).mpr ⟨w_running, w_runnable, w_alone, w_named, w_hears, w_ripe, w_room, w_tables⟩
theorem atStart : AtStart classFile x code maxLocals ret World_1 tables_1 room_1 Calls_1 rest_1 Pre_1 launch0 p0 e0 about1 theMethod args0 below0 :=
  ⟨lists_1, trivial, launch0.admits_env _ _ _, launch0.least_env, fairChoices_fair.cas, fairChoices_fair.clock, w_frames, w_args, w_heap, w_applies, trivial, trivial, w_case⟩
end start1
theorem witness_1 : WitnessClaimed_1 := ⟨start1.p0, start1.e0, start1.about1, start1.theMethod, start1.args0, start1.below0, start1.atStart⟩
end Jvm.Pilot.@@N@@
