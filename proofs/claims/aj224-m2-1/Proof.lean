import JvmDerived
import JvmDerived.Pilot.@@N@@Statement
import JvmDerived.Pilot.@@N@@Code
set_option linter.unusedVariables false
set_option linter.unusedSimpArgs false
@@BLOCK:NumsL.lean.txt@@
namespace Jvm.Pilot.@@N@@
open Jvm Jvm.ClassFile Sem Op Lib Jvm.Free Jvm.Stand Jvm.LawKit Jvm.RoadKit Bundle Jvm.Pilot.@@N@@.Jvm.D
/-! ## The walk layer: where a walk stands (On), what is fixed in it (Cx), the goal (Gl), a method's contract (Con) -/
def Sf (Z : State) (EL : List (String × Nat)) (vm : Vm) (h : Heap) (PS : List Addr) : Prop := ∀ x ∈ PS, x < h.size ∧ Safe Z EL vm h x
def On (p : Program) (l : Launch) (e : Env) (R : Room) (s : State) (m : MethodId) (args : Array Value) (below : List Frame) (meth : Method) (c : Code) (Z : State) (EL : List (String × Nat)) (own : String) (n0 : Nat) (T : State) (h : Heap) (PS : List Addr) (k n : Nat) : Prop :=
  ∃ locs vm0 k1, Stand p l e R (s.setVm vm0) m args below meth c T locs k n ∧ Fr n0 locs ∧ T.heap = h ∧ s.Since vm0 k1 ∧ k1 ≤ h.size ∧ Z.Warmed39 vm0 ∧ vm0.findClass own = some m.cls ∧ CHr Z EL s.vm s.heap vm0 h ∧ Sf Z EL vm0 h PS
def Cx (p : Program) (m : MethodId) (meth : Method) (c : Code) (Z : State) (EL : List (String × Nat)) (a0 : Array Value) (own name : String) (cod : ByteArray) (maxL : Nat) (ret : Option FieldType) : Prop :=
  p.tables.exec = Jvm.exec ∧ (EW Z a0 EL ∧ ∀ a ∈ Bundle.stringAtoms, a.before a0 Z = true) ∧ c.code = cod ∧ c.maxLocals = maxL ∧ True ∧ meth.name = name ∧ meth.sig.returnType = ret ∧ meth.locks = false
def Gl (p : Program) (e : Env) (below : List Frame) (s : State) (Z : State) (EL : List (String × Nat)) (R : Room) (n0 : Nat) (Q : Option Value → Heap → List Addr → Prop) (T : State) (g : JFrame) : Prop :=
  ∃ s₂ o, Steps p.tables e below (T.setTop g) s₂ ∧ s₂.status = .running ∧ Ended s₂ below o ∧ ∃ v L, o = .returned v ∧ (∃ PS, Q v s₂.heap PS ∧ Fr n0 L ∧ Sf Z EL s₂.vm s₂.heap PS) ∧ CHr Z EL s.vm s.heap s₂.vm s₂.heap ∧ ReturnedEndW s o s₂ L R.cells R.slots
def Con (l : Launch) (Z : State) (EL : List (String × Nat)) (P0 : List Addr) (y : MethodName) (cod : ByteArray) (maxL : Nat) (ret : Option FieldType) (rm : Room) (as : Array Value) (h0 : Heap) (n0 : Nat) (Q : Option Value → Heap → List Addr → Prop) : Prop :=
  ∀ ws, MetFree l y (head1 (Jvm.Cond.code y cod maxL ret :: ws) rm) (fun a U => a = as ∧ Z.Warmed39 U.vm ∧ U.heap = h0 ∧ CHv Z EL U.vm h0 ∧ Sf Z EL U.vm h0 P0) (fun _ _ _ _ _ => True) (fun _ U o U' => ∃ v L, o = .returned v ∧ (∃ PS, Q v U'.heap PS ∧ Fr n0 L ∧ Sf Z EL U'.vm U'.heap PS) ∧ CHr Z EL U.vm U.heap U'.vm U'.heap ∧ ReturnedEndW U o U' L rm.cells rm.slots)
section OwnKit
variable {EL : List (String × Nat)} {PS : List Addr} {p : Program} {l : Launch} {e : Env} {R : Room} {s : State} {m : MethodId} {args : Array Value} {below : List Frame} {meth : Method} {c : Code} {Z : State} {a0 : Array Value} {n0 : Nat} {T : State} {h h' h0 : Heap} {k n : Nat} {own name : String} {cod : ByteArray} {maxL : Nat} {ret : Option FieldType} {Q : Option Value → Heap → List Addr → Prop} {pc pc' pf : Nat} {L L' : Array Slot} {r : List Value} {a b : Addr}
theorem Sf.chr {vm vm1 : Vm} {P : List Addr} (F : Sf Z EL vm h P) (A : CHr Z EL vm h vm1 h') : Sf Z EL vm1 h' P := fun x q => ⟨Nat.lt_of_lt_of_le (F x q).1 A.2.1, A.safe (F x q).1 (F x q).2⟩
theorem Sf.cons {vm : Vm} {P : List Addr} {a : Addr} (F : Sf Z EL vm h P) (h1 : a < h.size) (h2 : Safe Z EL vm h a) : Sf Z EL vm h (a :: P) := fun x q => by
  rcases List.mem_cons.mp q with rfl | q
  · exact ⟨h1, h2⟩
  · exact F x q
theorem Sf.app {vm : Vm} {P P' : List Addr} (F : Sf Z EL vm h P) (F' : Sf Z EL vm h P') : Sf Z EL vm h (P ++ P') := fun x q => (List.mem_append.mp q).elim (F x) (F' x)
theorem Sf.sub {vm : Vm} {P P' : List Addr} (F : Sf Z EL vm h P) (q : ∀ x ∈ P', x ∈ P) : Sf Z EL vm h P' := fun x z => F x (q x z)
theorem Gl.st {T' : State} {g g' : JFrame} (kk : Gl p e below s Z EL R n0 Q T' g') (hs : ∀ t, Steps p.tables e below (T'.setTop g') t → Steps p.tables e below (T.setTop g) t) : Gl p e below s Z EL R n0 Q T g := by
  obtain ⟨s2, o, h1, q⟩ := kk; exact ⟨s2, o, hs _ h1, q⟩
theorem since_refl (s : State) : s.Since s.vm s.heap.size := (State.WarmedH.refl s).since _
theorem Con.of {y : MethodName} {rm : Room} {as : Array Value} {P0 : List Addr} (hpl : plainFor y = true) (hEL : EW Z a0 EL ∧ ∀ a ∈ Bundle.stringAtoms, a.before a0 Z = true) {L0 : Array Slot} (hef : ∀ m, entryFrame m as maxL = mkF m 0 L0 [])
    (body : ∀ (p : Program) (e : Env) (s : State) (m : MethodId) (below : List Frame) (meth : Method) (c : Code) (T : State), Cx p m meth c Z EL a0 y.cls y.name cod maxL ret → On p l e rm s m as below meth c Z EL y.cls n0 T h0 P0 0 0 → Gl p e below s Z EL rm n0 Q T (mkF m 0 L0 [])) :
    Con l Z EL P0 y cod maxL ret rm as h0 n0 Q := by
  intro ws
  refine MetFree.of_bodySF hpl hisR ?_
  intro p e s m args below meth c s₁ Bd hml0 hP hK
  obtain ⟨rfl, hZ, hh, hC, hF⟩ := hP
  have e0 : s₁.heap = h0 := by rw [← hh, Bd.state]; rfl
  have q := body p e s m below meth c s₁ ⟨Bd.exec, hEL, Bd.bytes, hml0, trivial, (name_of_methodNamed Bd.named Bd.method).1, Bd.returns, Bd.notSynchronized⟩ ⟨[], s.vm, s.heap.size, Stand.of_body Bd, Fr.nil n0, e0, since_refl s, Nat.le_of_eq (by rw [hh]), hZ, findClass_of_methodNamed Bd.named, by rw [hh]; exact CHr.refl hC, hF⟩
  rw [← hef m] at q
  exact q
theorem Con.imp {y : MethodName} {rm : Room} {as : Array Value} {P0 : List Addr} {Q' : Option Value → Heap → List Addr → Prop} (K : Con l Z EL P0 y cod maxL ret rm as h0 n0 Q) (hq : ∀ v h P, Q v h P → Q' v h P) : Con l Z EL P0 y cod maxL ret rm as h0 n0 Q' := by
  intro ws p e ha hc hk s m args below hf happ hP hK
  obtain ⟨n, o, h1, h2, h3, v, L, h4, ⟨PS, h5, h6⟩, h7⟩ := K ws p e ha hc hk s m args below hf happ hP hK
  exact ⟨n, o, h1, h2, h3, v, L, h4, ⟨PS, hq _ _ _ h5, h6⟩, h7⟩
theorem backW {vm0 : Vm} {y : MethodName} {bytes : ByteArray} {rm : Room} {len W : Nat} {as' : Array Value} {P0 : List Addr} {s : State} {args : Array Value}
    (hM : MetFree l y (head1 [Jvm.Cond.code y bytes maxL ret] rm) (fun a U => a = as' ∧ Z.Warmed39 U.vm ∧ U.heap = h ∧ CHv Z EL U.vm h ∧ Sf Z EL U.vm h P0) (fun _ _ _ _ _ => True) (fun _ U o U' => ∃ v L, o = .returned v ∧ (∃ PS, Q v U'.heap PS ∧ Fr n0 L ∧ Sf Z EL U'.vm U'.heap PS) ∧ CHr Z EL U.vm U.heap U'.vm U'.heap ∧ ReturnedEndW U o U' L rm.cells rm.slots))
    (hZ : Z.Warmed39 vm0) (wc : (Jvm.Cond.code y bytes maxL ret).before a0 Z = true) (wz : (Jvm.Cond.initialized y.cls).before a0 Z = true) (hf : rm.frames + 1 ≤ R.frames) (hl : W + (maxL + 11) + rm.locals ≤ R.locals) (hEL : EW Z a0 EL) (H : CHv Z EL vm0 h) (F : Sf Z EL vm0 h P0) :
    BackS l R p e below (s.setVm vm0) args y len W (fun A a => a = as' ∧ A.U.heap = h ∧ A.cells + rm.cells ≤ R.cells ∧ A.slots + rm.slots ≤ R.slots)
      (fun A _ v B => ∃ L, (∃ PS, Q v B.U.heap PS ∧ Fr n0 L ∧ Sf Z EL B.U.vm B.U.heap PS) ∧ B.locs = A.locs ++ L ∧ B.cells = A.cells + rm.cells ∧ B.slots = A.slots + rm.slots ∧ CHr Z EL vm0 h B.U.vm B.U.heap) :=
  BackS.of_freeW (bytes := bytes) (maxL := maxL) (ret := ret) (E := fun _ first o t L k n => k = rm.cells ∧ n = rm.slots ∧ (∃ v, o = .returned v ∧ (∃ PS, Q v t.heap PS ∧ Fr n0 L ∧ Sf Z EL t.vm t.heap PS)) ∧ CHr Z EL first.vm first.heap t.vm t.heap) hM hf hl
    (fun m meth c A a Y hp => have hU : Z.Warmed39 A.U.vm := wtrans (s := s.setVm vm0) hZ Y.warmed
      ⟨by show (Jvm.Cond.and _ .tt).before a A.U = true; rw [Jvm.Cond.before_and, mv hU wc]; rfl, mv hU wc, mv hU wz, hp.2.2.1, hp.2.2.2⟩)
    (fun m meth c A a g mk Y hp => ⟨hp.1, wtrans (s := s.setVm vm0) hZ Y.warmed, hp.2.1, (CHv.at Y hZ hEL H).1, show Sf Z EL A.U.vm h P0 from F.chr (CHv.at (T := A.U) Y hZ hEL H)⟩) (fun _ _ _ _ _ _ _ _ _ => trivial)
    (fun _ _ _ _ ⟨v, L, h1, h2, h3, h4⟩ => ⟨L, _, _, h4, rfl, rfl, ⟨v, h1, h2⟩, h3⟩)
    (fun m meth c A a g mk v t L k n Y hp _ _ ⟨e1, e2, ⟨v', e3, e4⟩, e5⟩ => by
      cases e3; subst e1 e2
      refine ⟨L, e4, rfl, rfl, rfl, (CHv.at Y hZ hEL H).trans ?_⟩
      rw [← hp.2.1]; exact e5)
theorem g_iload (C : Cx p m meth c Z EL a0 own name cod maxL ret) (S : On p l e R s m args below meth c Z EL own n0 T h PS k n) {i : Nat} {v : Int32} (hd : decode cod pc = .ok (.iload i, 2)) (hp : pc + 2 = pc') (hl : L[i]? = some (.val (.int v))) (kk : Gl p e below s Z EL R n0 Q T (mkF m pc' L (.int v :: r))) : Gl p e below s Z EL R n0 Q T (mkF m pc L r) := by
  obtain ⟨locs, vm0, k1, X, -⟩ := S; subst hp
  exact kk.st fun _ q => XS.iload X.here C.1 rfl (hb C.2.2.1 hd) hl q
theorem g_iloadN (C : Cx p m meth c Z EL a0 own name cod maxL ret) (S : On p l e R s m args below meth c Z EL own n0 T h PS k n) {i : Fin 4} {v : Int32} (hd : decode cod pc = .ok (.iload_n i, 1)) (hp : pc + 1 = pc') (hl : L[i.val]? = some (.val (.int v))) (kk : Gl p e below s Z EL R n0 Q T (mkF m pc' L (.int v :: r))) : Gl p e below s Z EL R n0 Q T (mkF m pc L r) := by
  obtain ⟨locs, vm0, k1, X, -⟩ := S; subst hp
  exact kk.st fun _ q => XS.iloadN X.here C.1 rfl (hb C.2.2.1 hd) hl q
theorem g_istore (C : Cx p m meth c Z EL a0 own name cod maxL ret) (S : On p l e R s m args below meth c Z EL own n0 T h PS k n) {i : Nat} {v : Int32} (hd : decode cod pc = .ok (.istore i, 2)) (hp : pc + 2 = pc') (hl : storeLocals L i (.int v) = some L') (kk : Gl p e below s Z EL R n0 Q T (mkF m pc' L' r)) : Gl p e below s Z EL R n0 Q T (mkF m pc L (.int v :: r)) := by
  obtain ⟨locs, vm0, k1, X, -⟩ := S; subst hp
  exact kk.st fun _ q => XS.istore X.here C.1 rfl (hb C.2.2.1 hd) rfl hl q
theorem g_istoreN (C : Cx p m meth c Z EL a0 own name cod maxL ret) (S : On p l e R s m args below meth c Z EL own n0 T h PS k n) {i : Fin 4} {v : Int32} (hd : decode cod pc = .ok (.istore_n i, 1)) (hp : pc + 1 = pc') (hl : storeLocals L i.val (.int v) = some L') (kk : Gl p e below s Z EL R n0 Q T (mkF m pc' L' r)) : Gl p e below s Z EL R n0 Q T (mkF m pc L (.int v :: r)) := by
  obtain ⟨locs, vm0, k1, X, -⟩ := S; subst hp
  exact kk.st fun _ q => XS.istoreN X.here C.1 rfl (hb C.2.2.1 hd) rfl hl q
theorem g_lload (C : Cx p m meth c Z EL a0 own name cod maxL ret) (S : On p l e R s m args below meth c Z EL own n0 T h PS k n) {i : Nat} {v : Int64} (hd : decode cod pc = .ok (.lload i, 2)) (hp : pc + 2 = pc') (hl : L[i]? = some (.val (.long v))) (kk : Gl p e below s Z EL R n0 Q T (mkF m pc' L (.long v :: r))) : Gl p e below s Z EL R n0 Q T (mkF m pc L r) := by
  obtain ⟨locs, vm0, k1, X, -⟩ := S; subst hp
  exact kk.st fun _ q => XS.lload X.here C.1 rfl (hb C.2.2.1 hd) hl q
theorem g_lloadN (C : Cx p m meth c Z EL a0 own name cod maxL ret) (S : On p l e R s m args below meth c Z EL own n0 T h PS k n) {i : Fin 4} {v : Int64} (hd : decode cod pc = .ok (.lload_n i, 1)) (hp : pc + 1 = pc') (hl : L[i.val]? = some (.val (.long v))) (kk : Gl p e below s Z EL R n0 Q T (mkF m pc' L (.long v :: r))) : Gl p e below s Z EL R n0 Q T (mkF m pc L r) := by
  obtain ⟨locs, vm0, k1, X, -⟩ := S; subst hp
  exact kk.st fun _ q => XS.lloadN X.here C.1 rfl (hb C.2.2.1 hd) hl q
theorem g_lstore (C : Cx p m meth c Z EL a0 own name cod maxL ret) (S : On p l e R s m args below meth c Z EL own n0 T h PS k n) {i : Nat} {v : Int64} (hd : decode cod pc = .ok (.lstore i, 2)) (hp : pc + 2 = pc') (hl : storeLocals L i (.long v) = some L') (kk : Gl p e below s Z EL R n0 Q T (mkF m pc' L' r)) : Gl p e below s Z EL R n0 Q T (mkF m pc L (.long v :: r)) := by
  obtain ⟨locs, vm0, k1, X, -⟩ := S; subst hp
  exact kk.st fun _ q => XS.lstore X.here C.1 rfl (hb C.2.2.1 hd) rfl hl q
theorem g_lstoreN (C : Cx p m meth c Z EL a0 own name cod maxL ret) (S : On p l e R s m args below meth c Z EL own n0 T h PS k n) {i : Fin 4} {v : Int64} (hd : decode cod pc = .ok (.lstore_n i, 1)) (hp : pc + 1 = pc') (hl : storeLocals L i.val (.long v) = some L') (kk : Gl p e below s Z EL R n0 Q T (mkF m pc' L' r)) : Gl p e below s Z EL R n0 Q T (mkF m pc L (.long v :: r)) := by
  obtain ⟨locs, vm0, k1, X, -⟩ := S; subst hp
  exact kk.st fun _ q => XS.lstoreN X.here C.1 rfl (hb C.2.2.1 hd) rfl hl q
theorem g_aload (C : Cx p m meth c Z EL a0 own name cod maxL ret) (S : On p l e R s m args below meth c Z EL own n0 T h PS k n) {i : Nat} {v : Value} (hd : decode cod pc = .ok (.aload i, 2)) (hp : pc + 2 = pc') (hl : L[i]? = some (.val v)) (hv : v.isRef = true) (kk : Gl p e below s Z EL R n0 Q T (mkF m pc' L (v :: r))) : Gl p e below s Z EL R n0 Q T (mkF m pc L r) := by
  obtain ⟨locs, vm0, k1, X, -⟩ := S; subst hp
  exact kk.st fun _ q => XS.aload X.here C.1 rfl (hb C.2.2.1 hd) hl hv q
theorem g_aloadN (C : Cx p m meth c Z EL a0 own name cod maxL ret) (S : On p l e R s m args below meth c Z EL own n0 T h PS k n) {i : Fin 4} {v : Value} (hd : decode cod pc = .ok (.aload_n i, 1)) (hp : pc + 1 = pc') (hl : L[i.val]? = some (.val v)) (hv : v.isRef = true) (kk : Gl p e below s Z EL R n0 Q T (mkF m pc' L (v :: r))) : Gl p e below s Z EL R n0 Q T (mkF m pc L r) := by
  obtain ⟨locs, vm0, k1, X, -⟩ := S; subst hp
  exact kk.st fun _ q => XS.aloadN X.here C.1 rfl (hb C.2.2.1 hd) hl hv q
theorem g_astore (C : Cx p m meth c Z EL a0 own name cod maxL ret) (S : On p l e R s m args below meth c Z EL own n0 T h PS k n) {i : Nat} {v : Value} (hd : decode cod pc = .ok (.astore i, 2)) (hp : pc + 2 = pc') (hv : v.isRef = true) (hl : storeLocals L i v = some L') (kk : Gl p e below s Z EL R n0 Q T (mkF m pc' L' r)) : Gl p e below s Z EL R n0 Q T (mkF m pc L (v :: r)) := by
  obtain ⟨locs, vm0, k1, X, -⟩ := S; subst hp
  exact kk.st fun _ q => XS.astore X.here C.1 rfl (hb C.2.2.1 hd) rfl hv hl q
theorem g_astoreN (C : Cx p m meth c Z EL a0 own name cod maxL ret) (S : On p l e R s m args below meth c Z EL own n0 T h PS k n) {i : Fin 4} {v : Value} (hd : decode cod pc = .ok (.astore_n i, 1)) (hp : pc + 1 = pc') (hv : v.isRef = true) (hl : storeLocals L i.val v = some L') (kk : Gl p e below s Z EL R n0 Q T (mkF m pc' L' r)) : Gl p e below s Z EL R n0 Q T (mkF m pc L (v :: r)) := by
  obtain ⟨locs, vm0, k1, X, -⟩ := S; subst hp
  exact kk.st fun _ q => XS.astoreN X.here C.1 rfl (hb C.2.2.1 hd) rfl hv hl q
theorem g_iconst (C : Cx p m meth c Z EL a0 own name cod maxL ret) (S : On p l e R s m args below meth c Z EL own n0 T h PS k n) {i : Int} (v : Int32) (hd : decode cod pc = .ok (.iconst i, 1)) (hp : pc + 1 = pc') (hv : Int32.ofInt i = v) (kk : Gl p e below s Z EL R n0 Q T (mkF m pc' L (.int v :: r))) : Gl p e below s Z EL R n0 Q T (mkF m pc L r) := by
  obtain ⟨locs, vm0, k1, X, -⟩ := S; subst hp hv
  exact kk.st fun _ q => XS.iconst X.here C.1 rfl (hb C.2.2.1 hd) q
theorem g_bipush (C : Cx p m meth c Z EL a0 own name cod maxL ret) (S : On p l e R s m args below meth c Z EL own n0 T h PS k n) {i : Int} (v : Int32) (hd : decode cod pc = .ok (.bipush i, 2)) (hp : pc + 2 = pc') (hv : (Int8.ofInt i).toInt32 = v) (kk : Gl p e below s Z EL R n0 Q T (mkF m pc' L (.int v :: r))) : Gl p e below s Z EL R n0 Q T (mkF m pc L r) := by
  obtain ⟨locs, vm0, k1, X, -⟩ := S; subst hp hv
  exact kk.st fun _ q => XS.bipush X.here C.1 rfl (hb C.2.2.1 hd) q
theorem g_sipush (C : Cx p m meth c Z EL a0 own name cod maxL ret) (S : On p l e R s m args below meth c Z EL own n0 T h PS k n) {i : Int} (v : Int32) (hd : decode cod pc = .ok (.sipush i, 3)) (hp : pc + 3 = pc') (hv : (Int16.ofInt i).toInt32 = v) (kk : Gl p e below s Z EL R n0 Q T (mkF m pc' L (.int v :: r))) : Gl p e below s Z EL R n0 Q T (mkF m pc L r) := by
  obtain ⟨locs, vm0, k1, X, -⟩ := S; subst hp hv
  exact kk.st fun _ q => XS.sipush X.here C.1 rfl (hb C.2.2.1 hd) q
theorem g_lconst (C : Cx p m meth c Z EL a0 own name cod maxL ret) (S : On p l e R s m args below meth c Z EL own n0 T h PS k n) {i : Fin 2} (v : Int64) (hd : decode cod pc = .ok (.lconst i, 1)) (hp : pc + 1 = pc') (hv : Int64.ofNat i = v) (kk : Gl p e below s Z EL R n0 Q T (mkF m pc' L (.long v :: r))) : Gl p e below s Z EL R n0 Q T (mkF m pc L r) := by
  obtain ⟨locs, vm0, k1, X, -⟩ := S; subst hp hv
  exact kk.st fun _ q => XS.lconst X.here C.1 rfl (hb C.2.2.1 hd) q
theorem g_aconst_null (C : Cx p m meth c Z EL a0 own name cod maxL ret) (S : On p l e R s m args below meth c Z EL own n0 T h PS k n) (hd : decode cod pc = .ok (.aconst_null, 1)) (hp : pc + 1 = pc') (kk : Gl p e below s Z EL R n0 Q T (mkF m pc' L (.null :: r))) : Gl p e below s Z EL R n0 Q T (mkF m pc L r) := by
  obtain ⟨locs, vm0, k1, X, -⟩ := S; subst hp
  exact kk.st fun _ q => XS.aconstNull X.here C.1 rfl (hb C.2.2.1 hd) q
theorem g_iadd (C : Cx p m meth c Z EL a0 own name cod maxL ret) (S : On p l e R s m args below meth c Z EL own n0 T h PS k n) {x y : Int32} (hd : decode cod pc = .ok (.iadd, 1)) (hp : pc + 1 = pc') (kk : Gl p e below s Z EL R n0 Q T (mkF m pc' L (.int (x + y) :: r))) : Gl p e below s Z EL R n0 Q T (mkF m pc L (.int y :: .int x :: r)) := by
  obtain ⟨locs, vm0, k1, X, -⟩ := S; subst hp
  exact kk.st fun _ q => XS.iadd X.here C.1 rfl (hb C.2.2.1 hd) rfl q
theorem g_isub (C : Cx p m meth c Z EL a0 own name cod maxL ret) (S : On p l e R s m args below meth c Z EL own n0 T h PS k n) {x y : Int32} (hd : decode cod pc = .ok (.isub, 1)) (hp : pc + 1 = pc') (kk : Gl p e below s Z EL R n0 Q T (mkF m pc' L (.int (x - y) :: r))) : Gl p e below s Z EL R n0 Q T (mkF m pc L (.int y :: .int x :: r)) := by
  obtain ⟨locs, vm0, k1, X, -⟩ := S; subst hp
  exact kk.st fun _ q => XS.isub X.here C.1 rfl (hb C.2.2.1 hd) rfl q
theorem g_imul (C : Cx p m meth c Z EL a0 own name cod maxL ret) (S : On p l e R s m args below meth c Z EL own n0 T h PS k n) {x y : Int32} (hd : decode cod pc = .ok (.imul, 1)) (hp : pc + 1 = pc') (kk : Gl p e below s Z EL R n0 Q T (mkF m pc' L (.int (x * y) :: r))) : Gl p e below s Z EL R n0 Q T (mkF m pc L (.int y :: .int x :: r)) := by
  obtain ⟨locs, vm0, k1, X, -⟩ := S; subst hp
  exact kk.st fun _ q => XS.imul X.here C.1 rfl (hb C.2.2.1 hd) rfl q
theorem g_iand (C : Cx p m meth c Z EL a0 own name cod maxL ret) (S : On p l e R s m args below meth c Z EL own n0 T h PS k n) {x y : Int32} (hd : decode cod pc = .ok (.iand, 1)) (hp : pc + 1 = pc') (kk : Gl p e below s Z EL R n0 Q T (mkF m pc' L (.int (x &&& y) :: r))) : Gl p e below s Z EL R n0 Q T (mkF m pc L (.int y :: .int x :: r)) := by
  obtain ⟨locs, vm0, k1, X, -⟩ := S; subst hp
  exact kk.st fun _ q => XS.iand X.here C.1 rfl (hb C.2.2.1 hd) rfl q
theorem g_ior (C : Cx p m meth c Z EL a0 own name cod maxL ret) (S : On p l e R s m args below meth c Z EL own n0 T h PS k n) {x y : Int32} (hd : decode cod pc = .ok (.ior, 1)) (hp : pc + 1 = pc') (kk : Gl p e below s Z EL R n0 Q T (mkF m pc' L (.int (x ||| y) :: r))) : Gl p e below s Z EL R n0 Q T (mkF m pc L (.int y :: .int x :: r)) := by
  obtain ⟨locs, vm0, k1, X, -⟩ := S; subst hp
  exact kk.st fun _ q => XS.ior X.here C.1 rfl (hb C.2.2.1 hd) rfl q
theorem g_ixor (C : Cx p m meth c Z EL a0 own name cod maxL ret) (S : On p l e R s m args below meth c Z EL own n0 T h PS k n) {x y : Int32} (hd : decode cod pc = .ok (.ixor, 1)) (hp : pc + 1 = pc') (kk : Gl p e below s Z EL R n0 Q T (mkF m pc' L (.int (x ^^^ y) :: r))) : Gl p e below s Z EL R n0 Q T (mkF m pc L (.int y :: .int x :: r)) := by
  obtain ⟨locs, vm0, k1, X, -⟩ := S; subst hp
  exact kk.st fun _ q => XS.ixor X.here C.1 rfl (hb C.2.2.1 hd) rfl q
theorem g_ladd (C : Cx p m meth c Z EL a0 own name cod maxL ret) (S : On p l e R s m args below meth c Z EL own n0 T h PS k n) {x y : Int64} (hd : decode cod pc = .ok (.ladd, 1)) (hp : pc + 1 = pc') (kk : Gl p e below s Z EL R n0 Q T (mkF m pc' L (.long (x + y) :: r))) : Gl p e below s Z EL R n0 Q T (mkF m pc L (.long y :: .long x :: r)) := by
  obtain ⟨locs, vm0, k1, X, -⟩ := S; subst hp
  exact kk.st fun _ q => XS.ladd X.here C.1 rfl (hb C.2.2.1 hd) rfl q
theorem g_lsub (C : Cx p m meth c Z EL a0 own name cod maxL ret) (S : On p l e R s m args below meth c Z EL own n0 T h PS k n) {x y : Int64} (hd : decode cod pc = .ok (.lsub, 1)) (hp : pc + 1 = pc') (kk : Gl p e below s Z EL R n0 Q T (mkF m pc' L (.long (x - y) :: r))) : Gl p e below s Z EL R n0 Q T (mkF m pc L (.long y :: .long x :: r)) := by
  obtain ⟨locs, vm0, k1, X, -⟩ := S; subst hp
  exact kk.st fun _ q => XS.lsub X.here C.1 rfl (hb C.2.2.1 hd) rfl q
theorem g_lmul (C : Cx p m meth c Z EL a0 own name cod maxL ret) (S : On p l e R s m args below meth c Z EL own n0 T h PS k n) {x y : Int64} (hd : decode cod pc = .ok (.lmul, 1)) (hp : pc + 1 = pc') (kk : Gl p e below s Z EL R n0 Q T (mkF m pc' L (.long (x * y) :: r))) : Gl p e below s Z EL R n0 Q T (mkF m pc L (.long y :: .long x :: r)) := by
  obtain ⟨locs, vm0, k1, X, -⟩ := S; subst hp
  exact kk.st fun _ q => XS.lmul X.here C.1 rfl (hb C.2.2.1 hd) rfl q
theorem g_land (C : Cx p m meth c Z EL a0 own name cod maxL ret) (S : On p l e R s m args below meth c Z EL own n0 T h PS k n) {x y : Int64} (hd : decode cod pc = .ok (.land, 1)) (hp : pc + 1 = pc') (kk : Gl p e below s Z EL R n0 Q T (mkF m pc' L (.long (x &&& y) :: r))) : Gl p e below s Z EL R n0 Q T (mkF m pc L (.long y :: .long x :: r)) := by
  obtain ⟨locs, vm0, k1, X, -⟩ := S; subst hp
  exact kk.st fun _ q => XS.land X.here C.1 rfl (hb C.2.2.1 hd) rfl q
theorem g_lor (C : Cx p m meth c Z EL a0 own name cod maxL ret) (S : On p l e R s m args below meth c Z EL own n0 T h PS k n) {x y : Int64} (hd : decode cod pc = .ok (.lor, 1)) (hp : pc + 1 = pc') (kk : Gl p e below s Z EL R n0 Q T (mkF m pc' L (.long (x ||| y) :: r))) : Gl p e below s Z EL R n0 Q T (mkF m pc L (.long y :: .long x :: r)) := by
  obtain ⟨locs, vm0, k1, X, -⟩ := S; subst hp
  exact kk.st fun _ q => XS.lor X.here C.1 rfl (hb C.2.2.1 hd) rfl q
theorem g_lxor (C : Cx p m meth c Z EL a0 own name cod maxL ret) (S : On p l e R s m args below meth c Z EL own n0 T h PS k n) {x y : Int64} (hd : decode cod pc = .ok (.lxor, 1)) (hp : pc + 1 = pc') (kk : Gl p e below s Z EL R n0 Q T (mkF m pc' L (.long (x ^^^ y) :: r))) : Gl p e below s Z EL R n0 Q T (mkF m pc L (.long y :: .long x :: r)) := by
  obtain ⟨locs, vm0, k1, X, -⟩ := S; subst hp
  exact kk.st fun _ q => XS.lxor X.here C.1 rfl (hb C.2.2.1 hd) rfl q
theorem g_ishl (C : Cx p m meth c Z EL a0 own name cod maxL ret) (S : On p l e R s m args below meth c Z EL own n0 T h PS k n) {x y : Int32} (hd : decode cod pc = .ok (.ishl, 1)) (hp : pc + 1 = pc') (kk : Gl p e below s Z EL R n0 Q T (mkF m pc' L (.int (x <<< (y &&& 31)) :: r))) : Gl p e below s Z EL R n0 Q T (mkF m pc L (.int y :: .int x :: r)) := by
  obtain ⟨locs, vm0, k1, X, -⟩ := S; subst hp
  exact kk.st fun _ q => XS.ishl X.here C.1 rfl (hb C.2.2.1 hd) rfl q
theorem g_ishr (C : Cx p m meth c Z EL a0 own name cod maxL ret) (S : On p l e R s m args below meth c Z EL own n0 T h PS k n) {x y : Int32} (hd : decode cod pc = .ok (.ishr, 1)) (hp : pc + 1 = pc') (kk : Gl p e below s Z EL R n0 Q T (mkF m pc' L (.int (x >>> (y &&& 31)) :: r))) : Gl p e below s Z EL R n0 Q T (mkF m pc L (.int y :: .int x :: r)) := by
  obtain ⟨locs, vm0, k1, X, -⟩ := S; subst hp
  exact kk.st fun _ q => XS.ishr X.here C.1 rfl (hb C.2.2.1 hd) rfl q
theorem g_iushr (C : Cx p m meth c Z EL a0 own name cod maxL ret) (S : On p l e R s m args below meth c Z EL own n0 T h PS k n) {x y : Int32} (hd : decode cod pc = .ok (.iushr, 1)) (hp : pc + 1 = pc') (kk : Gl p e below s Z EL R n0 Q T (mkF m pc' L (.int ((x.toUInt32 >>> (y &&& 31).toUInt32).toInt32) :: r))) : Gl p e below s Z EL R n0 Q T (mkF m pc L (.int y :: .int x :: r)) := by
  obtain ⟨locs, vm0, k1, X, -⟩ := S; subst hp
  exact kk.st fun _ q => XS.iushr X.here C.1 rfl (hb C.2.2.1 hd) rfl q
theorem g_lshl (C : Cx p m meth c Z EL a0 own name cod maxL ret) (S : On p l e R s m args below meth c Z EL own n0 T h PS k n) {x : Int64} {y : Int32} (hd : decode cod pc = .ok (.lshl, 1)) (hp : pc + 1 = pc') (kk : Gl p e below s Z EL R n0 Q T (mkF m pc' L (.long (x <<< (y &&& 0x3f).toInt64) :: r))) : Gl p e below s Z EL R n0 Q T (mkF m pc L (.int y :: .long x :: r)) := by
  obtain ⟨locs, vm0, k1, X, -⟩ := S; subst hp
  exact kk.st fun _ q => XS.lshl X.here C.1 rfl (hb C.2.2.1 hd) rfl q
theorem g_lshr (C : Cx p m meth c Z EL a0 own name cod maxL ret) (S : On p l e R s m args below meth c Z EL own n0 T h PS k n) {x : Int64} {y : Int32} (hd : decode cod pc = .ok (.lshr, 1)) (hp : pc + 1 = pc') (kk : Gl p e below s Z EL R n0 Q T (mkF m pc' L (.long (x >>> (y &&& 0x3f).toInt64) :: r))) : Gl p e below s Z EL R n0 Q T (mkF m pc L (.int y :: .long x :: r)) := by
  obtain ⟨locs, vm0, k1, X, -⟩ := S; subst hp
  exact kk.st fun _ q => XS.lshr X.here C.1 rfl (hb C.2.2.1 hd) rfl q
theorem g_lushr (C : Cx p m meth c Z EL a0 own name cod maxL ret) (S : On p l e R s m args below meth c Z EL own n0 T h PS k n) {x : Int64} {y : Int32} (hd : decode cod pc = .ok (.lushr, 1)) (hp : pc + 1 = pc') (kk : Gl p e below s Z EL R n0 Q T (mkF m pc' L (.long ((x.toUInt64 >>> (y &&& 0x3f).toInt64.toUInt64).toInt64) :: r))) : Gl p e below s Z EL R n0 Q T (mkF m pc L (.int y :: .long x :: r)) := by
  obtain ⟨locs, vm0, k1, X, -⟩ := S; subst hp
  exact kk.st fun _ q => XS.lushr X.here C.1 rfl (hb C.2.2.1 hd) rfl q
theorem g_i2l (C : Cx p m meth c Z EL a0 own name cod maxL ret) (S : On p l e R s m args below meth c Z EL own n0 T h PS k n) {x : Int32} (hd : decode cod pc = .ok (.i2l, 1)) (hp : pc + 1 = pc') (kk : Gl p e below s Z EL R n0 Q T (mkF m pc' L (.long (x.toInt64) :: r))) : Gl p e below s Z EL R n0 Q T (mkF m pc L (.int x :: r)) := by
  obtain ⟨locs, vm0, k1, X, -⟩ := S; subst hp
  exact kk.st fun _ q => XS.i2l X.here C.1 rfl (hb C.2.2.1 hd) rfl q
theorem g_l2i (C : Cx p m meth c Z EL a0 own name cod maxL ret) (S : On p l e R s m args below meth c Z EL own n0 T h PS k n) {x : Int64} (hd : decode cod pc = .ok (.l2i, 1)) (hp : pc + 1 = pc') (kk : Gl p e below s Z EL R n0 Q T (mkF m pc' L (.int (x.toInt32) :: r))) : Gl p e below s Z EL R n0 Q T (mkF m pc L (.long x :: r)) := by
  obtain ⟨locs, vm0, k1, X, -⟩ := S; subst hp
  exact kk.st fun _ q => XS.l2i X.here C.1 rfl (hb C.2.2.1 hd) rfl q
theorem g_i2b (C : Cx p m meth c Z EL a0 own name cod maxL ret) (S : On p l e R s m args below meth c Z EL own n0 T h PS k n) {x : Int32} (hd : decode cod pc = .ok (.i2b, 1)) (hp : pc + 1 = pc') (kk : Gl p e below s Z EL R n0 Q T (mkF m pc' L (.int (x.toInt8.toInt32) :: r))) : Gl p e below s Z EL R n0 Q T (mkF m pc L (.int x :: r)) := by
  obtain ⟨locs, vm0, k1, X, -⟩ := S; subst hp
  exact kk.st fun _ q => XS.i2b X.here C.1 rfl (hb C.2.2.1 hd) rfl q
theorem g_i2c (C : Cx p m meth c Z EL a0 own name cod maxL ret) (S : On p l e R s m args below meth c Z EL own n0 T h PS k n) {x : Int32} (hd : decode cod pc = .ok (.i2c, 1)) (hp : pc + 1 = pc') (kk : Gl p e below s Z EL R n0 Q T (mkF m pc' L (.int (x.toUInt32.toUInt16.toUInt32.toInt32) :: r))) : Gl p e below s Z EL R n0 Q T (mkF m pc L (.int x :: r)) := by
  obtain ⟨locs, vm0, k1, X, -⟩ := S; subst hp
  exact kk.st fun _ q => XS.i2c X.here C.1 rfl (hb C.2.2.1 hd) rfl q
theorem g_i2s (C : Cx p m meth c Z EL a0 own name cod maxL ret) (S : On p l e R s m args below meth c Z EL own n0 T h PS k n) {x : Int32} (hd : decode cod pc = .ok (.i2s, 1)) (hp : pc + 1 = pc') (kk : Gl p e below s Z EL R n0 Q T (mkF m pc' L (.int (x.toInt16.toInt32) :: r))) : Gl p e below s Z EL R n0 Q T (mkF m pc L (.int x :: r)) := by
  obtain ⟨locs, vm0, k1, X, -⟩ := S; subst hp
  exact kk.st fun _ q => XS.i2s X.here C.1 rfl (hb C.2.2.1 hd) rfl q
theorem g_lneg (C : Cx p m meth c Z EL a0 own name cod maxL ret) (S : On p l e R s m args below meth c Z EL own n0 T h PS k n) {x : Int64} (hd : decode cod pc = .ok (.lneg, 1)) (hp : pc + 1 = pc') (kk : Gl p e below s Z EL R n0 Q T (mkF m pc' L (.long (-x) :: r))) : Gl p e below s Z EL R n0 Q T (mkF m pc L (.long x :: r)) := by
  obtain ⟨locs, vm0, k1, X, -⟩ := S; subst hp
  exact kk.st fun _ q => XS.lneg X.here C.1 rfl (hb C.2.2.1 hd) rfl q
theorem g_ineg (C : Cx p m meth c Z EL a0 own name cod maxL ret) (S : On p l e R s m args below meth c Z EL own n0 T h PS k n) {x : Int32} (hd : decode cod pc = .ok (.ineg, 1)) (hp : pc + 1 = pc') (kk : Gl p e below s Z EL R n0 Q T (mkF m pc' L (.int (-x) :: r))) : Gl p e below s Z EL R n0 Q T (mkF m pc L (.int x :: r)) := by
  obtain ⟨locs, vm0, k1, X, -⟩ := S; subst hp
  exact kk.st fun _ q => XS.ineg X.here C.1 rfl (hb C.2.2.1 hd) rfl q
theorem g_irem (C : Cx p m meth c Z EL a0 own name cod maxL ret) (S : On p l e R s m args below meth c Z EL own n0 T h PS k n) {x y : Int32} (hd : decode cod pc = .ok (.irem, 1)) (hp : pc + 1 = pc') (hy : y ≠ 0) (kk : Gl p e below s Z EL R n0 Q T (mkF m pc' L (.int (x % y) :: r))) : Gl p e below s Z EL R n0 Q T (mkF m pc L (.int y :: .int x :: r)) := by
  obtain ⟨locs, vm0, k1, X, -⟩ := S; subst hp
  exact kk.st fun _ q => iremM X C.1 rfl (hb C.2.2.1 hd) rfl hy q
theorem g_idiv (C : Cx p m meth c Z EL a0 own name cod maxL ret) (S : On p l e R s m args below meth c Z EL own n0 T h PS k n) {x y : Int32} (hd : decode cod pc = .ok (.idiv, 1)) (hp : pc + 1 = pc') (hy : y ≠ 0) (kk : Gl p e below s Z EL R n0 Q T (mkF m pc' L (.int (x / y) :: r))) : Gl p e below s Z EL R n0 Q T (mkF m pc L (.int y :: .int x :: r)) := by
  obtain ⟨locs, vm0, k1, X, -⟩ := S; subst hp
  exact kk.st fun _ q => XS.idiv X.here C.1 rfl (hb C.2.2.1 hd) rfl hy q
theorem g_lcmp (C : Cx p m meth c Z EL a0 own name cod maxL ret) (S : On p l e R s m args below meth c Z EL own n0 T h PS k n) {x y : Int64} (hd : decode cod pc = .ok (.lcmp, 1)) (hp : pc + 1 = pc') (kk : Gl p e below s Z EL R n0 Q T (mkF m pc' L (.int (lcmpW x y) :: r))) : Gl p e below s Z EL R n0 Q T (mkF m pc L (.long y :: .long x :: r)) := by
  obtain ⟨locs, vm0, k1, X, -⟩ := S; subst hp
  exact kk.st fun _ q => XS.lcmp X.here C.1 rfl (hb C.2.2.1 hd) rfl q
theorem g_dup (C : Cx p m meth c Z EL a0 own name cod maxL ret) (S : On p l e R s m args below meth c Z EL own n0 T h PS k n) {x : Value} (hd : decode cod pc = .ok (.dup, 1)) (hp : pc + 1 = pc') (hc : x.category = 1) (kk : Gl p e below s Z EL R n0 Q T (mkF m pc' L (x :: x :: r))) : Gl p e below s Z EL R n0 Q T (mkF m pc L (x :: r)) := by
  obtain ⟨locs, vm0, k1, X, -⟩ := S; subst hp
  exact kk.st fun _ q => XS.dup X.here C.1 rfl (hb C.2.2.1 hd) rfl hc q
theorem g_pop (C : Cx p m meth c Z EL a0 own name cod maxL ret) (S : On p l e R s m args below meth c Z EL own n0 T h PS k n) {x : Value} (hd : decode cod pc = .ok (.pop, 1)) (hp : pc + 1 = pc') (hc : x.category = 1) (kk : Gl p e below s Z EL R n0 Q T (mkF m pc' L r)) : Gl p e below s Z EL R n0 Q T (mkF m pc L (x :: r)) := by
  obtain ⟨locs, vm0, k1, X, -⟩ := S; subst hp
  exact kk.st fun _ q => XS.pop X.here C.1 rfl (hb C.2.2.1 hd) rfl hc q
theorem g_dup_x1 (C : Cx p m meth c Z EL a0 own name cod maxL ret) (S : On p l e R s m args below meth c Z EL own n0 T h PS k n) {x y : Value} (hd : decode cod pc = .ok (.dup_x1, 1)) (hp : pc + 1 = pc') (hc : x.category = 1) (hc2 : y.category = 1) (kk : Gl p e below s Z EL R n0 Q T (mkF m pc' L (x :: y :: x :: r))) : Gl p e below s Z EL R n0 Q T (mkF m pc L (x :: y :: r)) := by
  obtain ⟨locs, vm0, k1, X, -⟩ := S; subst hp
  exact kk.st fun _ q => XS.dupX1 X.here C.1 rfl (hb C.2.2.1 hd) rfl hc hc2 q
theorem g_dup2 (C : Cx p m meth c Z EL a0 own name cod maxL ret) (S : On p l e R s m args below meth c Z EL own n0 T h PS k n) {x y : Value} (hd : decode cod pc = .ok (.dup2, 1)) (hp : pc + 1 = pc') (hc : x.category = 1) (hc2 : y.category = 1) (kk : Gl p e below s Z EL R n0 Q T (mkF m pc' L (x :: y :: x :: y :: r))) : Gl p e below s Z EL R n0 Q T (mkF m pc L (x :: y :: r)) := by
  obtain ⟨locs, vm0, k1, X, -⟩ := S; subst hp
  exact kk.st fun _ q => XT.dup2 X.here C.1 rfl (hb C.2.2.1 hd) rfl hc hc2 q
theorem g_dup_x2 (C : Cx p m meth c Z EL a0 own name cod maxL ret) (S : On p l e R s m args below meth c Z EL own n0 T h PS k n) {x y z : Value} (hd : decode cod pc = .ok (.dup_x2, 1)) (hp : pc + 1 = pc') (hc : x.category = 1) (hc2 : y.category = 1) (hc3 : z.category = 1) (kk : Gl p e below s Z EL R n0 Q T (mkF m pc' L (x :: y :: z :: x :: r))) : Gl p e below s Z EL R n0 Q T (mkF m pc L (x :: y :: z :: r)) := by
  obtain ⟨locs, vm0, k1, X, -⟩ := S; subst hp
  refine kk.st fun _ q => ?_
  have hx := C.1; have hd' := hb C.2.2.1 hd
  jvm_step X.here [X.here.top, hx, hd', hc, hc2, hc3]
  exact q
theorem g_iinc (C : Cx p m meth c Z EL a0 own name cod maxL ret) (S : On p l e R s m args below meth c Z EL own n0 T h PS k n) {i : Nat} {cst : Int} {x : Int32} (v : Int32) (hd : decode cod pc = .ok (.iinc i cst, 3)) (hp : pc + 3 = pc') (hv : Int32.ofInt cst = v) (hl : L[i]? = some (.val (.int x))) (hl' : storeLocals L i (.int (x + v)) = some L') (kk : Gl p e below s Z EL R n0 Q T (mkF m pc' L' r)) : Gl p e below s Z EL R n0 Q T (mkF m pc L r) := by
  obtain ⟨locs, vm0, k1, X, -⟩ := S; subst hp hv
  exact kk.st fun _ q => XS.iinc X.here C.1 rfl (hb C.2.2.1 hd) hl hl' q
theorem g_goto (C : Cx p m meth c Z EL a0 own name cod maxL ret) (S : On p l e R s m args below meth c Z EL own n0 T h PS k n) {o : Int} (hd : decode cod pc = .ok (.goto o, 3)) (ho : 0 ≤ (pc : Int) + o) (hp : ((pc : Int) + o).toNat = pc') (kk : Gl p e below s Z EL R n0 Q T (mkF m pc' L r)) : Gl p e below s Z EL R n0 Q T (mkF m pc L r) := by
  obtain ⟨locs, vm0, k1, X, -⟩ := S
  exact kk.st fun _ q => XS.goto X.here C.1 rfl rfl (hb C.2.2.1 hd) ho hp q
theorem g_dload (C : Cx p m meth c Z EL a0 own name cod maxL ret) (S : On p l e R s m args below meth c Z EL own n0 T h PS k n) {i : Nat} {v : UInt64} (hd : decode cod pc = .ok (.dload i, 2)) (hp : pc + 2 = pc') (hl : L[i]? = some (.val (.double v))) (kk : Gl p e below s Z EL R n0 Q T (mkF m pc' L (.double v :: r))) : Gl p e below s Z EL R n0 Q T (mkF m pc L r) := by
  obtain ⟨locs, vm0, k1, X, -⟩ := S; subst hp
  exact kk.st fun _ q => XS.dload X.here C.1 rfl (hb C.2.2.1 hd) hl q
theorem g_dloadN (C : Cx p m meth c Z EL a0 own name cod maxL ret) (S : On p l e R s m args below meth c Z EL own n0 T h PS k n) {i : Fin 4} {v : UInt64} (hd : decode cod pc = .ok (.dload_n i, 1)) (hp : pc + 1 = pc') (hl : L[i.val]? = some (.val (.double v))) (kk : Gl p e below s Z EL R n0 Q T (mkF m pc' L (.double v :: r))) : Gl p e below s Z EL R n0 Q T (mkF m pc L r) := by
  obtain ⟨locs, vm0, k1, X, -⟩ := S; subst hp
  exact kk.st fun _ q => XS.dloadN X.here C.1 rfl (hb C.2.2.1 hd) hl q
theorem g_dstore (C : Cx p m meth c Z EL a0 own name cod maxL ret) (S : On p l e R s m args below meth c Z EL own n0 T h PS k n) {i : Nat} {v : UInt64} (hd : decode cod pc = .ok (.dstore i, 2)) (hp : pc + 2 = pc') (hl : storeLocals L i (.double v) = some L') (kk : Gl p e below s Z EL R n0 Q T (mkF m pc' L' r)) : Gl p e below s Z EL R n0 Q T (mkF m pc L (.double v :: r)) := by
  obtain ⟨locs, vm0, k1, X, -⟩ := S; subst hp
  exact kk.st fun _ q => XS.dstore X.here C.1 rfl (hb C.2.2.1 hd) rfl hl q
theorem g_dstoreN (C : Cx p m meth c Z EL a0 own name cod maxL ret) (S : On p l e R s m args below meth c Z EL own n0 T h PS k n) {i : Fin 4} {v : UInt64} (hd : decode cod pc = .ok (.dstore_n i, 1)) (hp : pc + 1 = pc') (hl : storeLocals L i.val (.double v) = some L') (kk : Gl p e below s Z EL R n0 Q T (mkF m pc' L' r)) : Gl p e below s Z EL R n0 Q T (mkF m pc L (.double v :: r)) := by
  obtain ⟨locs, vm0, k1, X, -⟩ := S; subst hp
  exact kk.st fun _ q => XS.dstoreN X.here C.1 rfl (hb C.2.2.1 hd) rfl hl q
theorem g_dconst0 (C : Cx p m meth c Z EL a0 own name cod maxL ret) (S : On p l e R s m args below meth c Z EL own n0 T h PS k n) (hd : decode cod pc = .ok (.dconst 0, 1)) (hp : pc + 1 = pc') (kk : Gl p e below s Z EL R n0 Q T (mkF m pc' L (.double FP.dconst0 :: r))) : Gl p e below s Z EL R n0 Q T (mkF m pc L r) := by
  obtain ⟨locs, vm0, k1, X, -⟩ := S; subst hp
  exact kk.st fun _ q => XS.dconst0 X.here C.1 rfl (hb C.2.2.1 hd) rfl q
theorem g_dconst1 (C : Cx p m meth c Z EL a0 own name cod maxL ret) (S : On p l e R s m args below meth c Z EL own n0 T h PS k n) (hd : decode cod pc = .ok (.dconst 1, 1)) (hp : pc + 1 = pc') (kk : Gl p e below s Z EL R n0 Q T (mkF m pc' L (.double FP.dconst1 :: r))) : Gl p e below s Z EL R n0 Q T (mkF m pc L r) := by
  obtain ⟨locs, vm0, k1, X, -⟩ := S; subst hp
  exact kk.st fun _ q => XS.dconst1 X.here C.1 rfl (hb C.2.2.1 hd) rfl q
theorem g_i2d (C : Cx p m meth c Z EL a0 own name cod maxL ret) (S : On p l e R s m args below meth c Z EL own n0 T h PS k n) {x : Int32} (hd : decode cod pc = .ok (.i2d, 1)) (hp : pc + 1 = pc') (kk : Gl p e below s Z EL R n0 Q T (mkF m pc' L (.double (FP.i2d x) :: r))) : Gl p e below s Z EL R n0 Q T (mkF m pc L (.int x :: r)) := by
  obtain ⟨locs, vm0, k1, X, -⟩ := S; subst hp
  exact kk.st fun _ q => XS.i2dS X.here C.1 rfl (hb C.2.2.1 hd) rfl rfl q
theorem g_l2d (C : Cx p m meth c Z EL a0 own name cod maxL ret) (S : On p l e R s m args below meth c Z EL own n0 T h PS k n) {x : Int64} (hd : decode cod pc = .ok (.l2d, 1)) (hp : pc + 1 = pc') (kk : Gl p e below s Z EL R n0 Q T (mkF m pc' L (.double (FP.l2d x) :: r))) : Gl p e below s Z EL R n0 Q T (mkF m pc L (.long x :: r)) := by
  obtain ⟨locs, vm0, k1, X, -⟩ := S; subst hp
  exact kk.st fun _ q => XS.l2dS X.here C.1 rfl (hb C.2.2.1 hd) rfl rfl q
theorem g_dadd (C : Cx p m meth c Z EL a0 own name cod maxL ret) (S : On p l e R s m args below meth c Z EL own n0 T h PS k n) {x y : UInt64} (hd : decode cod pc = .ok (.dadd, 1)) (hp : pc + 1 = pc') (hn : Jvm.Free.Fl.NoNaN64 (FP.dadd x y)) (kk : Gl p e below s Z EL R n0 Q T (mkF m pc' L (.double (FP.dadd x y) :: r))) : Gl p e below s Z EL R n0 Q T (mkF m pc L (.double y :: .double x :: r)) := by
  obtain ⟨locs, vm0, k1, X, -⟩ := S; subst hp
  exact kk.st fun _ q => XS.daddS X.here C.1 rfl (hb C.2.2.1 hd) rfl hn rfl q
theorem g_dmul (C : Cx p m meth c Z EL a0 own name cod maxL ret) (S : On p l e R s m args below meth c Z EL own n0 T h PS k n) {x y : UInt64} (hd : decode cod pc = .ok (.dmul, 1)) (hp : pc + 1 = pc') (hn : Jvm.Free.Fl.NoNaN64 (FP.dmul x y)) (kk : Gl p e below s Z EL R n0 Q T (mkF m pc' L (.double (FP.dmul x y) :: r))) : Gl p e below s Z EL R n0 Q T (mkF m pc L (.double y :: .double x :: r)) := by
  obtain ⟨locs, vm0, k1, X, -⟩ := S; subst hp
  exact kk.st fun _ q => XS.dmulS X.here C.1 rfl (hb C.2.2.1 hd) rfl hn rfl q
theorem g_ddiv (C : Cx p m meth c Z EL a0 own name cod maxL ret) (S : On p l e R s m args below meth c Z EL own n0 T h PS k n) {x y : UInt64} (hd : decode cod pc = .ok (.ddiv, 1)) (hp : pc + 1 = pc') (hn : Jvm.Free.Fl.NoNaN64 (FP.ddiv x y)) (kk : Gl p e below s Z EL R n0 Q T (mkF m pc' L (.double (FP.ddiv x y) :: r))) : Gl p e below s Z EL R n0 Q T (mkF m pc L (.double y :: .double x :: r)) := by
  obtain ⟨locs, vm0, k1, X, -⟩ := S; subst hp
  exact kk.st fun _ q => XS.ddivS X.here C.1 rfl (hb C.2.2.1 hd) rfl hn rfl q
theorem g_dsub (C : Cx p m meth c Z EL a0 own name cod maxL ret) (S : On p l e R s m args below meth c Z EL own n0 T h PS k n) {x y : UInt64} (hd : decode cod pc = .ok (.dsub, 1)) (hp : pc + 1 = pc') (hn : Jvm.Free.Fl.NoNaN64 (FP.dsub x y)) (kk : Gl p e below s Z EL R n0 Q T (mkF m pc' L (.double (FP.dsub x y) :: r))) : Gl p e below s Z EL R n0 Q T (mkF m pc L (.double y :: .double x :: r)) := by
  obtain ⟨locs, vm0, k1, X, -⟩ := S; subst hp
  exact kk.st fun _ q => XS.dsubS X.here C.1 rfl (hb C.2.2.1 hd) rfl hn rfl q
theorem g_dcmp (C : Cx p m meth c Z EL a0 own name cod maxL ret) (S : On p l e R s m args below meth c Z EL own n0 T h PS k n) {o : CmpOp} {x y : UInt64} {v : Int32} (hd : decode cod pc = .ok (.dcmp o, 1)) (hp : pc + 1 = pc') (hv : cmpValue (FP.dcmp x y) o = v) (kk : Gl p e below s Z EL R n0 Q T (mkF m pc' L (.int v :: r))) : Gl p e below s Z EL R n0 Q T (mkF m pc L (.double y :: .double x :: r)) := by
  obtain ⟨locs, vm0, k1, X, -⟩ := S; subst hp
  exact kk.st fun _ q => XS.dcmpS X.here C.1 rfl (hb C.2.2.1 hd) rfl hv q
theorem g_iincL (C : Cx p m meth c Z EL a0 own name cod maxL ret) (S : On p l e R s m args below meth c Z EL own n0 T h PS k n) {i : Nat} {cst : Int} {x : Int32} (v y : Int32) (hd : decode cod pc = .ok (.iinc i cst, 3)) (hp : pc + 3 = pc') (hv : Int32.ofInt cst = v) (hy : x + v = y) (hl : L[i]? = some (.val (.int x))) (hl' : storeLocals L i (.int y) = some L') (kk : Gl p e below s Z EL R n0 Q T (mkF m pc' L' r)) : Gl p e below s Z EL R n0 Q T (mkF m pc L r) := by subst hy; exact g_iinc C S v hd hp hv hl hl' kk
theorem g_icmp_lt (C : Cx p m meth c Z EL a0 own name cod maxL ret) (S : On p l e R s m args below meth c Z EL own n0 T h PS k n) {x y : Int32} {o : Int} (hd : decode cod pc = .ok (.if_icmp .lt o, 3)) (ho : 0 ≤ (pc : Int) + o) (hp : ((pc : Int) + o).toNat = pc') (hq : pc + 3 = pf) (ht : x < y → Gl p e below s Z EL R n0 Q T (mkF m pc' L r)) (hf : ¬ x < y → Gl p e below s Z EL R n0 Q T (mkF m pf L r)) : Gl p e below s Z EL R n0 Q T (mkF m pc L (.int y :: .int x :: r)) := by
  obtain ⟨locs, vm0, k1, X, -⟩ := S; subst hq
  by_cases q : x < y
  · exact (ht q).st fun _ z => XS.icmpYes X.here C.1 rfl rfl (hb C.2.2.1 hd) rfl ((tlt q).1) ho hp z
  · exact (hf q).st fun _ z => XS.icmpNo X.here C.1 rfl (hb C.2.2.1 hd) rfl ((flt q).1) z
theorem g_if_lt (C : Cx p m meth c Z EL a0 own name cod maxL ret) (S : On p l e R s m args below meth c Z EL own n0 T h PS k n) {x : Int32} {o : Int} (hd : decode cod pc = .ok (.ifCond .lt o, 3)) (ho : 0 ≤ (pc : Int) + o) (hp : ((pc : Int) + o).toNat = pc') (hq : pc + 3 = pf) (ht : x < (0 : Int32) → Gl p e below s Z EL R n0 Q T (mkF m pc' L r)) (hf : ¬ x < (0 : Int32) → Gl p e below s Z EL R n0 Q T (mkF m pf L r)) : Gl p e below s Z EL R n0 Q T (mkF m pc L (.int x :: r)) := by
  obtain ⟨locs, vm0, k1, X, -⟩ := S; subst hq
  by_cases q : x < (0 : Int32)
  · exact (ht q).st fun _ z => XS.ifYes X.here C.1 rfl rfl (hb C.2.2.1 hd) rfl ((if0 _ _).trans (tlt q).1) ho hp z
  · exact (hf q).st fun _ z => XS.ifNo X.here C.1 rfl (hb C.2.2.1 hd) rfl ((if0 _ _).trans (flt q).1) z
theorem g_lif_lt (C : Cx p m meth c Z EL a0 own name cod maxL ret) (S : On p l e R s m args below meth c Z EL own n0 T h PS k n) {x y : Int64} {o : Int} (hd : decode cod pc = .ok (.ifCond .lt o, 3)) (ho : 0 ≤ (pc : Int) + o) (hp : ((pc : Int) + o).toNat = pc') (hq : pc + 3 = pf) (ht : x < y → Gl p e below s Z EL R n0 Q T (mkF m pc' L r)) (hf : ¬ x < y → Gl p e below s Z EL R n0 Q T (mkF m pf L r)) : Gl p e below s Z EL R n0 Q T (mkF m pc L (.int (lcmpW x y) :: r)) := by
  obtain ⟨locs, vm0, k1, X, -⟩ := S; subst hq
  by_cases q : x < y
  · exact (ht q).st fun _ z => XS.ifYes X.here C.1 rfl rfl (hb C.2.2.1 hd) rfl ((if0 _ _).trans (tlt ((lw_lt x y).mpr q)).1) ho hp z
  · exact (hf q).st fun _ z => XS.ifNo X.here C.1 rfl (hb C.2.2.1 hd) rfl ((if0 _ _).trans (flt (fun z => q ((lw_lt x y).mp z))).1) z
theorem g_icmp_ge (C : Cx p m meth c Z EL a0 own name cod maxL ret) (S : On p l e R s m args below meth c Z EL own n0 T h PS k n) {x y : Int32} {o : Int} (hd : decode cod pc = .ok (.if_icmp .ge o, 3)) (ho : 0 ≤ (pc : Int) + o) (hp : ((pc : Int) + o).toNat = pc') (hq : pc + 3 = pf) (ht : ¬ x < y → Gl p e below s Z EL R n0 Q T (mkF m pc' L r)) (hf : x < y → Gl p e below s Z EL R n0 Q T (mkF m pf L r)) : Gl p e below s Z EL R n0 Q T (mkF m pc L (.int y :: .int x :: r)) := by
  obtain ⟨locs, vm0, k1, X, -⟩ := S; subst hq
  by_cases q : x < y
  · exact (hf q).st fun _ z => XS.icmpNo X.here C.1 rfl (hb C.2.2.1 hd) rfl ((tlt q).2.1) z
  · exact (ht q).st fun _ z => XS.icmpYes X.here C.1 rfl rfl (hb C.2.2.1 hd) rfl ((flt q).2.1) ho hp z
theorem g_if_ge (C : Cx p m meth c Z EL a0 own name cod maxL ret) (S : On p l e R s m args below meth c Z EL own n0 T h PS k n) {x : Int32} {o : Int} (hd : decode cod pc = .ok (.ifCond .ge o, 3)) (ho : 0 ≤ (pc : Int) + o) (hp : ((pc : Int) + o).toNat = pc') (hq : pc + 3 = pf) (ht : ¬ x < (0 : Int32) → Gl p e below s Z EL R n0 Q T (mkF m pc' L r)) (hf : x < (0 : Int32) → Gl p e below s Z EL R n0 Q T (mkF m pf L r)) : Gl p e below s Z EL R n0 Q T (mkF m pc L (.int x :: r)) := by
  obtain ⟨locs, vm0, k1, X, -⟩ := S; subst hq
  by_cases q : x < (0 : Int32)
  · exact (hf q).st fun _ z => XS.ifNo X.here C.1 rfl (hb C.2.2.1 hd) rfl ((if0 _ _).trans (tlt q).2.1) z
  · exact (ht q).st fun _ z => XS.ifYes X.here C.1 rfl rfl (hb C.2.2.1 hd) rfl ((if0 _ _).trans (flt q).2.1) ho hp z
theorem g_lif_ge (C : Cx p m meth c Z EL a0 own name cod maxL ret) (S : On p l e R s m args below meth c Z EL own n0 T h PS k n) {x y : Int64} {o : Int} (hd : decode cod pc = .ok (.ifCond .ge o, 3)) (ho : 0 ≤ (pc : Int) + o) (hp : ((pc : Int) + o).toNat = pc') (hq : pc + 3 = pf) (ht : ¬ x < y → Gl p e below s Z EL R n0 Q T (mkF m pc' L r)) (hf : x < y → Gl p e below s Z EL R n0 Q T (mkF m pf L r)) : Gl p e below s Z EL R n0 Q T (mkF m pc L (.int (lcmpW x y) :: r)) := by
  obtain ⟨locs, vm0, k1, X, -⟩ := S; subst hq
  by_cases q : x < y
  · exact (hf q).st fun _ z => XS.ifNo X.here C.1 rfl (hb C.2.2.1 hd) rfl ((if0 _ _).trans (tlt ((lw_lt x y).mpr q)).2.1) z
  · exact (ht q).st fun _ z => XS.ifYes X.here C.1 rfl rfl (hb C.2.2.1 hd) rfl ((if0 _ _).trans (flt (fun z => q ((lw_lt x y).mp z))).2.1) ho hp z
theorem g_icmp_gt (C : Cx p m meth c Z EL a0 own name cod maxL ret) (S : On p l e R s m args below meth c Z EL own n0 T h PS k n) {x y : Int32} {o : Int} (hd : decode cod pc = .ok (.if_icmp .gt o, 3)) (ho : 0 ≤ (pc : Int) + o) (hp : ((pc : Int) + o).toNat = pc') (hq : pc + 3 = pf) (ht : y < x → Gl p e below s Z EL R n0 Q T (mkF m pc' L r)) (hf : ¬ y < x → Gl p e below s Z EL R n0 Q T (mkF m pf L r)) : Gl p e below s Z EL R n0 Q T (mkF m pc L (.int y :: .int x :: r)) := by
  obtain ⟨locs, vm0, k1, X, -⟩ := S; subst hq
  by_cases q : y < x
  · exact (ht q).st fun _ z => XS.icmpYes X.here C.1 rfl rfl (hb C.2.2.1 hd) rfl ((tlt q).2.2.1) ho hp z
  · exact (hf q).st fun _ z => XS.icmpNo X.here C.1 rfl (hb C.2.2.1 hd) rfl ((flt q).2.2.1) z
theorem g_if_gt (C : Cx p m meth c Z EL a0 own name cod maxL ret) (S : On p l e R s m args below meth c Z EL own n0 T h PS k n) {x : Int32} {o : Int} (hd : decode cod pc = .ok (.ifCond .gt o, 3)) (ho : 0 ≤ (pc : Int) + o) (hp : ((pc : Int) + o).toNat = pc') (hq : pc + 3 = pf) (ht : (0 : Int32) < x → Gl p e below s Z EL R n0 Q T (mkF m pc' L r)) (hf : ¬ (0 : Int32) < x → Gl p e below s Z EL R n0 Q T (mkF m pf L r)) : Gl p e below s Z EL R n0 Q T (mkF m pc L (.int x :: r)) := by
  obtain ⟨locs, vm0, k1, X, -⟩ := S; subst hq
  by_cases q : (0 : Int32) < x
  · exact (ht q).st fun _ z => XS.ifYes X.here C.1 rfl rfl (hb C.2.2.1 hd) rfl ((if0 _ _).trans (tlt q).2.2.1) ho hp z
  · exact (hf q).st fun _ z => XS.ifNo X.here C.1 rfl (hb C.2.2.1 hd) rfl ((if0 _ _).trans (flt q).2.2.1) z
theorem g_lif_gt (C : Cx p m meth c Z EL a0 own name cod maxL ret) (S : On p l e R s m args below meth c Z EL own n0 T h PS k n) {x y : Int64} {o : Int} (hd : decode cod pc = .ok (.ifCond .gt o, 3)) (ho : 0 ≤ (pc : Int) + o) (hp : ((pc : Int) + o).toNat = pc') (hq : pc + 3 = pf) (ht : y < x → Gl p e below s Z EL R n0 Q T (mkF m pc' L r)) (hf : ¬ y < x → Gl p e below s Z EL R n0 Q T (mkF m pf L r)) : Gl p e below s Z EL R n0 Q T (mkF m pc L (.int (lcmpW x y) :: r)) := by
  obtain ⟨locs, vm0, k1, X, -⟩ := S; subst hq
  by_cases q : y < x
  · exact (ht q).st fun _ z => XS.ifYes X.here C.1 rfl rfl (hb C.2.2.1 hd) rfl ((if0 _ _).trans (tlt ((lw_gt x y).mpr q)).2.2.1) ho hp z
  · exact (hf q).st fun _ z => XS.ifNo X.here C.1 rfl (hb C.2.2.1 hd) rfl ((if0 _ _).trans (flt (fun z => q ((lw_gt x y).mp z))).2.2.1) z
theorem g_icmp_le (C : Cx p m meth c Z EL a0 own name cod maxL ret) (S : On p l e R s m args below meth c Z EL own n0 T h PS k n) {x y : Int32} {o : Int} (hd : decode cod pc = .ok (.if_icmp .le o, 3)) (ho : 0 ≤ (pc : Int) + o) (hp : ((pc : Int) + o).toNat = pc') (hq : pc + 3 = pf) (ht : ¬ y < x → Gl p e below s Z EL R n0 Q T (mkF m pc' L r)) (hf : y < x → Gl p e below s Z EL R n0 Q T (mkF m pf L r)) : Gl p e below s Z EL R n0 Q T (mkF m pc L (.int y :: .int x :: r)) := by
  obtain ⟨locs, vm0, k1, X, -⟩ := S; subst hq
  by_cases q : y < x
  · exact (hf q).st fun _ z => XS.icmpNo X.here C.1 rfl (hb C.2.2.1 hd) rfl ((tlt q).2.2.2) z
  · exact (ht q).st fun _ z => XS.icmpYes X.here C.1 rfl rfl (hb C.2.2.1 hd) rfl ((flt q).2.2.2) ho hp z
theorem g_if_le (C : Cx p m meth c Z EL a0 own name cod maxL ret) (S : On p l e R s m args below meth c Z EL own n0 T h PS k n) {x : Int32} {o : Int} (hd : decode cod pc = .ok (.ifCond .le o, 3)) (ho : 0 ≤ (pc : Int) + o) (hp : ((pc : Int) + o).toNat = pc') (hq : pc + 3 = pf) (ht : ¬ (0 : Int32) < x → Gl p e below s Z EL R n0 Q T (mkF m pc' L r)) (hf : (0 : Int32) < x → Gl p e below s Z EL R n0 Q T (mkF m pf L r)) : Gl p e below s Z EL R n0 Q T (mkF m pc L (.int x :: r)) := by
  obtain ⟨locs, vm0, k1, X, -⟩ := S; subst hq
  by_cases q : (0 : Int32) < x
  · exact (hf q).st fun _ z => XS.ifNo X.here C.1 rfl (hb C.2.2.1 hd) rfl ((if0 _ _).trans (tlt q).2.2.2) z
  · exact (ht q).st fun _ z => XS.ifYes X.here C.1 rfl rfl (hb C.2.2.1 hd) rfl ((if0 _ _).trans (flt q).2.2.2) ho hp z
theorem g_lif_le (C : Cx p m meth c Z EL a0 own name cod maxL ret) (S : On p l e R s m args below meth c Z EL own n0 T h PS k n) {x y : Int64} {o : Int} (hd : decode cod pc = .ok (.ifCond .le o, 3)) (ho : 0 ≤ (pc : Int) + o) (hp : ((pc : Int) + o).toNat = pc') (hq : pc + 3 = pf) (ht : ¬ y < x → Gl p e below s Z EL R n0 Q T (mkF m pc' L r)) (hf : y < x → Gl p e below s Z EL R n0 Q T (mkF m pf L r)) : Gl p e below s Z EL R n0 Q T (mkF m pc L (.int (lcmpW x y) :: r)) := by
  obtain ⟨locs, vm0, k1, X, -⟩ := S; subst hq
  by_cases q : y < x
  · exact (hf q).st fun _ z => XS.ifNo X.here C.1 rfl (hb C.2.2.1 hd) rfl ((if0 _ _).trans (tlt ((lw_gt x y).mpr q)).2.2.2) z
  · exact (ht q).st fun _ z => XS.ifYes X.here C.1 rfl rfl (hb C.2.2.1 hd) rfl ((if0 _ _).trans (flt (fun z => q ((lw_gt x y).mp z))).2.2.2) ho hp z
theorem g_icmp_eq (C : Cx p m meth c Z EL a0 own name cod maxL ret) (S : On p l e R s m args below meth c Z EL own n0 T h PS k n) {x y : Int32} {o : Int} (hd : decode cod pc = .ok (.if_icmp .eq o, 3)) (ho : 0 ≤ (pc : Int) + o) (hp : ((pc : Int) + o).toNat = pc') (hq : pc + 3 = pf) (ht : x = y → Gl p e below s Z EL R n0 Q T (mkF m pc' L r)) (hf : ¬ x = y → Gl p e below s Z EL R n0 Q T (mkF m pf L r)) : Gl p e below s Z EL R n0 Q T (mkF m pc L (.int y :: .int x :: r)) := by
  obtain ⟨locs, vm0, k1, X, -⟩ := S; subst hq
  by_cases q : x = y
  · exact (ht q).st fun _ z => XS.icmpYes X.here C.1 rfl rfl (hb C.2.2.1 hd) rfl ((teq q).1) ho hp z
  · exact (hf q).st fun _ z => XS.icmpNo X.here C.1 rfl (hb C.2.2.1 hd) rfl ((feq q).1) z
theorem g_if_eq (C : Cx p m meth c Z EL a0 own name cod maxL ret) (S : On p l e R s m args below meth c Z EL own n0 T h PS k n) {x : Int32} {o : Int} (hd : decode cod pc = .ok (.ifCond .eq o, 3)) (ho : 0 ≤ (pc : Int) + o) (hp : ((pc : Int) + o).toNat = pc') (hq : pc + 3 = pf) (ht : x = (0 : Int32) → Gl p e below s Z EL R n0 Q T (mkF m pc' L r)) (hf : ¬ x = (0 : Int32) → Gl p e below s Z EL R n0 Q T (mkF m pf L r)) : Gl p e below s Z EL R n0 Q T (mkF m pc L (.int x :: r)) := by
  obtain ⟨locs, vm0, k1, X, -⟩ := S; subst hq
  by_cases q : x = (0 : Int32)
  · exact (ht q).st fun _ z => XS.ifYes X.here C.1 rfl rfl (hb C.2.2.1 hd) rfl ((if0 _ _).trans (teq q).1) ho hp z
  · exact (hf q).st fun _ z => XS.ifNo X.here C.1 rfl (hb C.2.2.1 hd) rfl ((if0 _ _).trans (feq q).1) z
theorem g_lif_eq (C : Cx p m meth c Z EL a0 own name cod maxL ret) (S : On p l e R s m args below meth c Z EL own n0 T h PS k n) {x y : Int64} {o : Int} (hd : decode cod pc = .ok (.ifCond .eq o, 3)) (ho : 0 ≤ (pc : Int) + o) (hp : ((pc : Int) + o).toNat = pc') (hq : pc + 3 = pf) (ht : x = y → Gl p e below s Z EL R n0 Q T (mkF m pc' L r)) (hf : ¬ x = y → Gl p e below s Z EL R n0 Q T (mkF m pf L r)) : Gl p e below s Z EL R n0 Q T (mkF m pc L (.int (lcmpW x y) :: r)) := by
  obtain ⟨locs, vm0, k1, X, -⟩ := S; subst hq
  by_cases q : x = y
  · exact (ht q).st fun _ z => XS.ifYes X.here C.1 rfl rfl (hb C.2.2.1 hd) rfl ((if0 _ _).trans (teq ((lw_eq x y).mpr q)).1) ho hp z
  · exact (hf q).st fun _ z => XS.ifNo X.here C.1 rfl (hb C.2.2.1 hd) rfl ((if0 _ _).trans (feq (fun z => q ((lw_eq x y).mp z))).1) z
theorem g_icmp_ne (C : Cx p m meth c Z EL a0 own name cod maxL ret) (S : On p l e R s m args below meth c Z EL own n0 T h PS k n) {x y : Int32} {o : Int} (hd : decode cod pc = .ok (.if_icmp .ne o, 3)) (ho : 0 ≤ (pc : Int) + o) (hp : ((pc : Int) + o).toNat = pc') (hq : pc + 3 = pf) (ht : ¬ x = y → Gl p e below s Z EL R n0 Q T (mkF m pc' L r)) (hf : x = y → Gl p e below s Z EL R n0 Q T (mkF m pf L r)) : Gl p e below s Z EL R n0 Q T (mkF m pc L (.int y :: .int x :: r)) := by
  obtain ⟨locs, vm0, k1, X, -⟩ := S; subst hq
  by_cases q : x = y
  · exact (hf q).st fun _ z => XS.icmpNo X.here C.1 rfl (hb C.2.2.1 hd) rfl ((teq q).2) z
  · exact (ht q).st fun _ z => XS.icmpYes X.here C.1 rfl rfl (hb C.2.2.1 hd) rfl ((feq q).2) ho hp z
theorem g_if_ne (C : Cx p m meth c Z EL a0 own name cod maxL ret) (S : On p l e R s m args below meth c Z EL own n0 T h PS k n) {x : Int32} {o : Int} (hd : decode cod pc = .ok (.ifCond .ne o, 3)) (ho : 0 ≤ (pc : Int) + o) (hp : ((pc : Int) + o).toNat = pc') (hq : pc + 3 = pf) (ht : ¬ x = (0 : Int32) → Gl p e below s Z EL R n0 Q T (mkF m pc' L r)) (hf : x = (0 : Int32) → Gl p e below s Z EL R n0 Q T (mkF m pf L r)) : Gl p e below s Z EL R n0 Q T (mkF m pc L (.int x :: r)) := by
  obtain ⟨locs, vm0, k1, X, -⟩ := S; subst hq
  by_cases q : x = (0 : Int32)
  · exact (hf q).st fun _ z => XS.ifNo X.here C.1 rfl (hb C.2.2.1 hd) rfl ((if0 _ _).trans (teq q).2) z
  · exact (ht q).st fun _ z => XS.ifYes X.here C.1 rfl rfl (hb C.2.2.1 hd) rfl ((if0 _ _).trans (feq q).2) ho hp z
theorem g_lif_ne (C : Cx p m meth c Z EL a0 own name cod maxL ret) (S : On p l e R s m args below meth c Z EL own n0 T h PS k n) {x y : Int64} {o : Int} (hd : decode cod pc = .ok (.ifCond .ne o, 3)) (ho : 0 ≤ (pc : Int) + o) (hp : ((pc : Int) + o).toNat = pc') (hq : pc + 3 = pf) (ht : ¬ x = y → Gl p e below s Z EL R n0 Q T (mkF m pc' L r)) (hf : x = y → Gl p e below s Z EL R n0 Q T (mkF m pf L r)) : Gl p e below s Z EL R n0 Q T (mkF m pc L (.int (lcmpW x y) :: r)) := by
  obtain ⟨locs, vm0, k1, X, -⟩ := S; subst hq
  by_cases q : x = y
  · exact (hf q).st fun _ z => XS.ifNo X.here C.1 rfl (hb C.2.2.1 hd) rfl ((if0 _ _).trans (teq ((lw_eq x y).mpr q)).2) z
  · exact (ht q).st fun _ z => XS.ifYes X.here C.1 rfl rfl (hb C.2.2.1 hd) rfl ((if0 _ _).trans (feq (fun z => q ((lw_eq x y).mp z))).2) ho hp z
theorem g_ifnonnull_ref (C : Cx p m meth c Z EL a0 own name cod maxL ret) (S : On p l e R s m args below meth c Z EL own n0 T h PS k n) {o : Int} (hd : decode cod pc = .ok (.ifnonnull o, 3)) (ho : 0 ≤ (pc : Int) + o) (hp : ((pc : Int) + o).toNat = pc') (kk : Gl p e below s Z EL R n0 Q T (mkF m pc' L r)) : Gl p e below s Z EL R n0 Q T (mkF m pc L (.ref a :: r)) := by
  obtain ⟨locs, vm0, k1, X, -⟩ := S
  exact kk.st fun _ q => XS.ifnonnullYes X.here C.1 rfl rfl (hb C.2.2.1 hd) rfl ho hp q
theorem g_ifnonnull_null (C : Cx p m meth c Z EL a0 own name cod maxL ret) (S : On p l e R s m args below meth c Z EL own n0 T h PS k n) {o : Int} (hd : decode cod pc = .ok (.ifnonnull o, 3)) (hq : pc + 3 = pf) (kk : Gl p e below s Z EL R n0 Q T (mkF m pf L r)) : Gl p e below s Z EL R n0 Q T (mkF m pc L (.null :: r)) := by
  obtain ⟨locs, vm0, k1, X, -⟩ := S; subst hq
  exact kk.st fun _ q => XS.ifnonnullNo X.here C.1 rfl (hb C.2.2.1 hd) rfl q
theorem g_ifnull_null (C : Cx p m meth c Z EL a0 own name cod maxL ret) (S : On p l e R s m args below meth c Z EL own n0 T h PS k n) {o : Int} (hd : decode cod pc = .ok (.ifnull o, 3)) (ho : 0 ≤ (pc : Int) + o) (hp : ((pc : Int) + o).toNat = pc') (kk : Gl p e below s Z EL R n0 Q T (mkF m pc' L r)) : Gl p e below s Z EL R n0 Q T (mkF m pc L (.null :: r)) := by
  obtain ⟨locs, vm0, k1, X, -⟩ := S
  exact kk.st fun _ q => XS.ifnullYes X.here C.1 rfl rfl (hb C.2.2.1 hd) rfl ho hp q
theorem g_ifnull_ref (C : Cx p m meth c Z EL a0 own name cod maxL ret) (S : On p l e R s m args below meth c Z EL own n0 T h PS k n) {o : Int} (hd : decode cod pc = .ok (.ifnull o, 3)) (hq : pc + 3 = pf) (kk : Gl p e below s Z EL R n0 Q T (mkF m pf L r)) : Gl p e below s Z EL R n0 Q T (mkF m pc L (.ref a :: r)) := by
  obtain ⟨locs, vm0, k1, X, -⟩ := S; subst hq
  exact kk.st fun _ q => XS.ifnullNo X.here C.1 rfl (hb C.2.2.1 hd) rfl q
theorem g_acmp_eq (C : Cx p m meth c Z EL a0 own name cod maxL ret) (S : On p l e R s m args below meth c Z EL own n0 T h PS k n) {x y : Value} (hx : x.isRef = true) (hy : y.isRef = true) {o : Int} (hd : decode cod pc = .ok (.if_acmp .eq o, 3)) (ho : 0 ≤ (pc : Int) + o) (hp : ((pc : Int) + o).toNat = pc') (hq : pc + 3 = pf) (ht : x = y → Gl p e below s Z EL R n0 Q T (mkF m pc' L r)) (hf : ¬ x = y → Gl p e below s Z EL R n0 Q T (mkF m pf L r)) : Gl p e below s Z EL R n0 Q T (mkF m pc L (y :: x :: r)) := by
  obtain ⟨locs, vm0, k1, X, -⟩ := S; subst hq hp
  by_cases q : x = y
  · exact (ht q).st fun _ z => Jvm.RoadKit.acmp X C.1 rfl hx hy (same := true) rfl (hb C.2.2.1 hd) rfl (decide_eq_true q) ho (by simp [acV]) z
  · exact (hf q).st fun _ z => Jvm.RoadKit.acmp X C.1 rfl hx hy (same := false) rfl (hb C.2.2.1 hd) rfl (decide_eq_false q) ho (by simp [acV]) z
theorem g_acmp_ne (C : Cx p m meth c Z EL a0 own name cod maxL ret) (S : On p l e R s m args below meth c Z EL own n0 T h PS k n) {x y : Value} (hx : x.isRef = true) (hy : y.isRef = true) {o : Int} (hd : decode cod pc = .ok (.if_acmp .ne o, 3)) (ho : 0 ≤ (pc : Int) + o) (hp : ((pc : Int) + o).toNat = pc') (hq : pc + 3 = pf) (ht : ¬ x = y → Gl p e below s Z EL R n0 Q T (mkF m pc' L r)) (hf : x = y → Gl p e below s Z EL R n0 Q T (mkF m pf L r)) : Gl p e below s Z EL R n0 Q T (mkF m pc L (y :: x :: r)) := by
  obtain ⟨locs, vm0, k1, X, -⟩ := S; subst hq hp
  by_cases q : x = y
  · exact (hf q).st fun _ z => Jvm.RoadKit.acmp X C.1 rfl hx hy (same := true) rfl (hb C.2.2.1 hd) rfl (decide_eq_true q) ho (by simp [acV]) z
  · exact (ht q).st fun _ z => Jvm.RoadKit.acmp X C.1 rfl hx hy (same := false) rfl (hb C.2.2.1 hd) rfl (decide_eq_false q) ho (by simp [acV]) z
theorem g_ldc (C : Cx p m meth c Z EL a0 own name cod maxL ret) (S : On p l e R s m args below meth c Z EL own n0 T h PS k n) {v : Int32} {i : Nat} (hd : decode cod pc = .ok (.ldc i, 2)) (w : (Jvm.Cond.constant own i v).before a0 Z = true) (hp : pc + 2 = pc') (kk : Gl p e below s Z EL R n0 Q T (mkF m pc' L (.int v :: r))) : Gl p e below s Z EL R n0 Q T (mkF m pc L r) := by
  obtain ⟨locs, vm0, k1, X, N0, eh, hSi, hk1, hWm, hown, hCH, hF⟩ := S; subst hp
  exact kk.st fun t q => X.ldcInt (g := mkF m pc L r) C.1 hown (mvT hWm w) rfl (hb C.2.2.1 hd) t q
theorem g_ldc2 (C : Cx p m meth c Z EL a0 own name cod maxL ret) (S : On p l e R s m args below meth c Z EL own n0 T h PS k n) {v : Int64} {i : Nat} (hd : decode cod pc = .ok (.ldc2_w i, 3)) (w : (Jvm.Cond.constantLong own i v).before a0 Z = true) (hp : pc + 3 = pc') (kk : Gl p e below s Z EL R n0 Q T (mkF m pc' L (.long v :: r))) : Gl p e below s Z EL R n0 Q T (mkF m pc L r) := by
  obtain ⟨locs, vm0, k1, X, N0, eh, hSi, hk1, hWm, hown, hCH, hF⟩ := S; subst hp
  exact kk.st fun t q => X.ldc2Long (g := mkF m pc L r) C.1 hown (mvT hWm w) rfl (hb C.2.2.1 hd) t q
theorem g_leave (C : Cx p m meth c Z EL a0 own name cod maxL ret) (S : On p l e R s m args below meth c Z EL own n0 T h PS k n) {v : Option Value} (hk : k ≤ R.cells) (hn : n ≤ R.slots) (hv : meth.sig.returnType = none → v = none) (q : Q v h PS)
    (hst : ∀ fs, (∀ (f : JFrame) (acts : List Action), f.method = m → f.locked = none → f.entered = [] → (doReturn e (T.setTop f) acts v).1 = T.setFrames fs) → ∀ s' locs, Stand p l e R s' m args below meth c T locs k n → Steps p.tables e below (T.setTop (mkF m pc L r)) (T.setFrames fs)) : Gl p e below s Z EL R n0 Q T (mkF m pc L r) := by
  obtain ⟨locs, vm0, k1, X, N, eh, hSi, hk1, hWm, hown, hCH, hF⟩ := S
  obtain ⟨fs, hr, hrun, hended, hE1, hE2, hE3, hE4⟩ := X.leaveW hSi (by rw [eh]; exact hk1) (v := v) hv C.2.2.2.2.2.2.2
  have q' : Q v (T.setFrames fs).heap PS := by show Q v T.heap PS; rw [eh]; exact q
  have hA := CHv.at X hWm C.2.1.1 hCH.1
  have hB : CHr Z EL s.vm s.heap (T.setFrames fs).vm (T.setFrames fs).heap := by show CHr Z EL s.vm s.heap T.vm T.heap; rw [eh]; exact hCH.trans hA
  have hD : Sf Z EL (T.setFrames fs).vm (T.setFrames fs).heap PS := by show Sf Z EL T.vm T.heap PS; rw [eh]; exact hF.chr hA
  exact ⟨_, _, hst fs hr _ locs X, hrun, hended, _, _, rfl, ⟨PS, q', N, hD⟩, hB, hE1, hE2, hE3, hE4.mono hk hn⟩
theorem g_return (C : Cx p m meth c Z EL a0 own name cod maxL none) (S : On p l e R s m args below meth c Z EL own n0 T h PS k n) (hd : decode cod pc = .ok (.return_, 1)) (hk : k ≤ R.cells) (hn : n ≤ R.slots) (q : Q none h PS) : Gl p e below s Z EL R n0 Q T (mkF m pc L []) :=
  g_leave C S (v := none) hk hn (fun _ => rfl) q fun fs hr _ locs X => X.returnOut C.1 C.2.2.2.2.2.2.1 (hb C.2.2.1 hd) hr
theorem g_retv {t : FieldType} {w : Value} {i : Instr} (C : Cx p m meth c Z EL a0 own name cod maxL (some t)) (S : On p l e R s m args below meth c Z EL own n0 T h PS k n) (hd : decode cod pc = .ok (i, 1)) (hn' : narrow t w = w) (hi : (i = .ireturn ∧ (t = .int ∨ t = .boolean ∨ t = .byte ∨ t = .char ∨ t = .short) ∧ ∃ z, w = .int z) ∨ (i = .lreturn ∧ t = .long ∧ ∃ z, w = .long z) ∨ (i = .dreturn ∧ t = .double ∧ ∃ z, w = .double z) ∨ (i = .freturn ∧ t = .float ∧ ∃ z, w = .float z) ∨ (i = .areturn ∧ t.isReference = true ∧ w.isRef = true)) (hk : k ≤ R.cells) (hn : n ≤ R.slots) (q : Q (some w) h PS) : Gl p e below s Z EL R n0 Q T (mkF m pc L (w :: r)) :=
  g_leave C S (v := some w) hk hn (fun z => by rw [C.2.2.2.2.2.2.1] at z; cases z) q fun fs hr _ locs X => retOut X C.1 C.2.2.2.2.2.2.1 hn' hi (hb C.2.2.1 hd) hr
theorem g_retI {z : Int32} (C : Cx p m meth c Z EL a0 own name cod maxL (some .int)) (S : On p l e R s m args below meth c Z EL own n0 T h PS k n) (hd : decode cod pc = .ok (.ireturn, 1)) (hk : k ≤ R.cells) (hn : n ≤ R.slots) (q : Q (some (.int z)) h PS) : Gl p e below s Z EL R n0 Q T (mkF m pc L (.int z :: r)) := g_retv C S hd rfl (Or.inl ⟨rfl, Or.inl rfl, z, rfl⟩) hk hn q
theorem g_retZ {z : Int32} (C : Cx p m meth c Z EL a0 own name cod maxL (some .boolean)) (S : On p l e R s m args below meth c Z EL own n0 T h PS k n) (hd : decode cod pc = .ok (.ireturn, 1)) (hz : z &&& 1 = z) (hk : k ≤ R.cells) (hn : n ≤ R.slots) (q : Q (some (.int z)) h PS) : Gl p e below s Z EL R n0 Q T (mkF m pc L (.int z :: r)) := g_retv C S hd (congrArg Value.int hz) (Or.inl ⟨rfl, Or.inr (Or.inl rfl), z, rfl⟩) hk hn q
theorem g_retJ {z : Int64} (C : Cx p m meth c Z EL a0 own name cod maxL (some .long)) (S : On p l e R s m args below meth c Z EL own n0 T h PS k n) (hd : decode cod pc = .ok (.lreturn, 1)) (hk : k ≤ R.cells) (hn : n ≤ R.slots) (q : Q (some (.long z)) h PS) : Gl p e below s Z EL R n0 Q T (mkF m pc L (.long z :: r)) := g_retv C S hd rfl (Or.inr (Or.inl ⟨rfl, rfl, z, rfl⟩)) hk hn q
theorem g_retA {t : FieldType} {w : Value} (C : Cx p m meth c Z EL a0 own name cod maxL (some t)) (S : On p l e R s m args below meth c Z EL own n0 T h PS k n) (hd : decode cod pc = .ok (.areturn, 1)) (ht : t.isReference = true) (hw : w.isRef = true) (hnw : narrow t w = w) (hk : k ≤ R.cells) (hn : n ≤ R.slots) (q : Q (some w) h PS) : Gl p e below s Z EL R n0 Q T (mkF m pc L (w :: r)) := g_retv C S hd hnw (Or.inr (Or.inr (Or.inr (Or.inr ⟨rfl, ht, hw⟩)))) hk hn q
theorem g_getF (C : Cx p m meth c Z EL a0 own name cod maxL ret) (S : On p l e R s m args below meth c Z EL own n0 T h PS k n) {R0 O nm d host : String} {i : Nat} {v : Value} (hd : decode cod pc = .ok (.getfield i, 3)) (w : (Jvm.Cond.fieldLink own i R0 nm d).before a0 Z = true ∨ (Jvm.Cond.fieldLinkNest own i R0 nm d host).before a0 Z = true) (via : Via Z R0 O nm d) (F : Fld Z h a O nm d v) (hp : pc + 3 = pc') (kk : ∀ T', On p l e R s m args below meth c Z EL own n0 T' h PS k n → Gl p e below s Z EL R n0 Q T' (mkF m pc' L (v :: r))) : Gl p e below s Z EL R n0 Q T (mkF m pc L (.ref a :: r)) := by
  obtain ⟨locs, vm0, k1, X, N, eh, hSi, hk1, hWm, hown, hCH, hF⟩ := S; subst hp
  obtain ⟨T', X', eT, st⟩ := getF X C.1 hWm hown w via eh F (g := mkF m pc L (.ref a :: r)) rfl rfl (hb C.2.2.1 hd)
  exact (kk T' ⟨locs, vm0, k1, X', N, eT, hSi, hk1, hWm, hown, hCH, hF⟩).st st
theorem g_getS (C : Cx p m meth c Z EL a0 own name cod maxL ret) (S : On p l e R s m args below meth c Z EL own n0 T h PS k n) {R0 O nm d host : String} {i : Nat} {v : Value} (hd : decode cod pc = .ok (.getstatic i, 3)) (w : (Jvm.Cond.fieldLink own i R0 nm d).before a0 Z = true ∨ (Jvm.Cond.fieldLinkNest own i R0 nm d host).before a0 Z = true) (via : Via Z R0 O nm d) (F : Sta Z h O nm d v) (hp : pc + 3 = pc') (kk : ∀ T', On p l e R s m args below meth c Z EL own n0 T' h PS k n → Gl p e below s Z EL R n0 Q T' (mkF m pc' L (v :: r))) : Gl p e below s Z EL R n0 Q T (mkF m pc L r) := by
  obtain ⟨locs, vm0, k1, X, N, eh, hSi, hk1, hWm, hown, hCH, hF⟩ := S; subst hp
  obtain ⟨T', X', eT, st⟩ := getS2 X C.1 hWm hown w via eh F (g := mkF m pc L r) rfl (hb C.2.2.1 hd)
  exact (kk T' ⟨locs, vm0, k1, X', N, eT, hSi, hk1, hWm, hown, hCH, hF⟩).st st
theorem g_putF (C : Cx p m meth c Z EL a0 own name cod maxL ret) (S : On p l e R s m args below meth c Z EL own n0 T h PS k n) {R0 O nm d host K : String} {i kk0 : Nat} {ty : FieldType} {v old : Value} (hd : decode cod pc = .ok (.putfield i, 3)) (w : (Jvm.Cond.fieldLink own i R0 nm d).before a0 Z = true ∨ (Jvm.Cond.fieldLinkNest own i R0 nm d host).before a0 Z = true) (via : Via Z R0 O nm d) (F : Fld Z h a O nm d old) (E : Exa Z h a K) (Ly : (Jvm.Cond.lays K O nm d).before a0 Z = true ∨ ((Jvm.Cond.laysFinal K O nm d).before a0 Z = true ∧ own = O ∧ name = "<init>")) (wi : (Jvm.Cond.instantiable K kk0).before a0 Z = true) (hty : parseFieldDescriptor d = some ty) (hnr : narrow ty v = v) (hft : fits ty v = true) (ga : n0 ≤ a) (sf : a ∈ PS ∨ (K ≠ "java/lang/String" ∧ K ≠ "[B")) (hp : pc + 3 = pc') (kk : ∀ T' h', On p l e R s m args below meth c Z EL own n0 T' h' PS k n → Wr h h' a (Jvm.RoadKit.slotOf Z O nm d) v → Gl p e below s Z EL R n0 Q T' (mkF m pc' L r)) : Gl p e below s Z EL R n0 Q T (mkF m pc L (v :: .ref a :: r)) := by
  obtain ⟨locs, vm0, k1, X, N, eh, hSi, hk1, hWm, hown, hCH, hF⟩ := S; subst hp
  obtain ⟨T', h', X', eT, W, st⟩ := putF X C.1 hWm hown w via eh F E (Ly.imp id fun q => ⟨q.1, q.2.1, C.2.2.2.2.2.1.trans q.2.2⟩) wi hty hnr hft (g := mkF m pc L (v :: .ref a :: r)) rfl rfl (hb C.2.2.1 hd)
  have hsf : Safe Z EL vm0 h a := sf.elim (fun q => (hF a q).2) fun q => Safe.exa hWm.alike E q.1 q.2
  exact (kk T' h' ⟨_, vm0, k1, X', Fr.snoc X' N ga, eT, hSi, Nat.le_trans hk1 (CHr.wr W hsf hCH.1).2.1, hWm, hown, hCH.trans (CHr.wr W hsf hCH.1), hF.chr (CHr.wr W hsf hCH.1)⟩ W).st st
theorem g_new (C : Cx p m meth c Z EL a0 own name cod maxL ret) (S : On p l e R s m args below meth c Z EL own n0 T h PS k n) {K : String} {i sz : Nat} (hd : decode cod pc = .ok (.new i, 3)) (w : (Jvm.Cond.classLink own i K).before a0 Z = true) (wi : (Jvm.Cond.instantiable K sz).before a0 Z = true) (wz : (Jvm.Cond.initialized K).before a0 Z = true) (hc : k + 1 ≤ R.cells) (hl : n + sz ≤ R.slots) (hp : pc + 3 = pc') (kk : ∀ T' h' a, On p l e R s m args below meth c Z EL own n0 T' h' (a :: PS) (k + 1) (n + sz) → a = h.size → Ext h h' → Exa Z h' a K → (∀ {O nm d : String} {ty : FieldType}, Laid Z a0 K O nm d → parseFieldDescriptor d = some ty → Fld Z h' a O nm d (defaultValue ty)) → Gl p e below s Z EL R n0 Q T' (mkF m pc' L (.ref a :: r))) : Gl p e below s Z EL R n0 Q T (mkF m pc L r) := by
  obtain ⟨locs, vm0, k1, X, N, eh, hSi, hk1, hWm, hown, hCH, hF⟩ := S; subst hp
  obtain ⟨T', h', X', eT, E, A, D, -, st⟩ := newO X C.1 hWm hown w wi wz eh (g := mkF m pc L r) rfl (hb C.2.2.1 hd) hc hl
  exact (kk T' h' h.size ⟨_, vm0, k1, X', N, eT, hSi, Nat.le_trans hk1 E.1, hWm, hown, hCH.trans (CHr.ext E hCH.1), (hF.chr (CHr.ext E hCH.1)).cons A.lt (Safe.ext E hCH.1 (Safe.new (Nat.le_refl _)))⟩ rfl E A D).st st
theorem g_initO (C : Cx p m meth c Z EL a0 own name cod maxL ret) (S : On p l e R s m args below meth c Z EL own n0 T h PS k n) {i W : Nat} (hd : decode cod pc = .ok (.invokespecial i, 3)) (w1 : (Jvm.Cond.methodLink own i Lib.objectInit).before a0 Z = true) (w2 : (Jvm.Cond.instanceMethod Lib.objectInit).before a0 Z = true) (w3 : (Jvm.Cond.code Lib.objectInit ⟨#[0xb1]⟩ 1 none).before a0 Z = true) (hsz : L.size = maxL) (hf : 1 ≤ R.frames) (hW : (r.map fun v => v.category).sum ≤ W) (hl : W + 12 ≤ R.locals) (hp : pc + 3 = pc') (kk : ∀ T', On p l e R s m args below meth c Z EL own n0 T' h PS k n → Gl p e below s Z EL R n0 Q T' (mkF m pc' L r)) : Gl p e below s Z EL R n0 Q T (mkF m pc L (.ref a :: r)) := by
  obtain ⟨locs, vm0, k1, X, N, eh, hSi, hk1, hWm, hown, hCH, hF⟩ := S; subst hp
  obtain ⟨T', X', eT, st⟩ := initO X C.1 hWm hown w1 w2 w3 eh (g := mkF m pc L (.ref a :: r)) rfl (hsz.trans C.2.2.2.1.symm) rfl (hb C.2.2.1 hd) hf (W := W) (by simpa using hW) hl
  exact (kk T' ⟨locs, vm0, k1, X', N, eT, hSi, hk1, hWm, hown, hCH, hF⟩).st st
theorem notFace_of_inst {y : MethodName} {sz : Nat} (hZ : Z.Warmed39 s.vm) (wi : (Jvm.Cond.instantiable y.cls sz).before a0 Z = true) : NotFace s y := fun r0 h0 => by
  obtain ⟨c0, k0, i1, i2, -, i4, -⟩ := Cond.instantiable_spec (mvT (s := s) (args := #[]) hZ wi)
  have q := findClass_of_methodNamed h0
  rw [i1] at q; cases q
  exact ⟨k0, i2, (Bool.or_eq_false_iff.mp i4).1⟩
theorem g_callS (C : Cx p m meth c Z EL a0 own name cod maxL ret) (S : On p l e R s m args below meth c Z EL own n0 T h PS k n) {y : MethodName} {bytes : ByteArray} {mx i W : Nat} {rt : Option FieldType} {rm : Room} {P0 : List Addr} {Q' : Option Value → Heap → List Addr → Prop} {argsL stk : List Value} (hd : decode cod pc = .ok (.invokestatic i, 3)) (w1 : (Jvm.Cond.methodLink own i y).before a0 Z = true) (w2 : (Jvm.Cond.static y).before a0 Z = true) (w3 : (Jvm.Cond.initialized y.cls).before a0 Z = true) (w4 : (Jvm.Cond.code y bytes mx rt).before a0 Z = true) (hy : y.cls ≠ "java/lang/invoke/MethodHandle" ∧ y.cls ≠ "java/lang/invoke/VarHandle") (K : Con l Z EL P0 y bytes mx rt rm argsL.toArray h n0 Q') (hst : stk = argsL.reverse ++ r) (hP0 : ∀ x ∈ P0, x ∈ PS) (hlen : ∀ sig, parseMethodDescriptor y.desc = some sig → argsL.length = sig.parameters.length) (hsz : L.size = maxL) (hW : (r.map fun v => v.category).sum ≤ W) (hf : rm.frames + 1 ≤ R.frames) (hlo : W + (mx + 11) + rm.locals ≤ R.locals) (hce : k + rm.cells ≤ R.cells) (hsl : n + rm.slots ≤ R.slots) (hp : pc + 3 = pc') (kk : ∀ T' h' v P1, Q' v h' P1 → On p l e R s m args below meth c Z EL own n0 T' h' (P1 ++ PS) (k + rm.cells) (n + rm.slots) → Gl p e below s Z EL R n0 Q T' (mkF m pc' L (v.toList ++ r))) : Gl p e below s Z EL R n0 Q T (mkF m pc L stk) := by
  obtain ⟨locs, vm0, k1, X, N, eh, hSi, hk1, hWm, hown, hCH, hF⟩ := S; subst hp
  obtain ⟨v, vm1, ⟨T', L1, k2, n1⟩, -, X', hS2, hgr, ⟨Lc, hQ, l', y', z', hC2⟩, st⟩ := callSS X C.1 (y := y) hown (mvT hWm w1) (mvT hWm w2) (mvT hWm w3) (mvT hWm w4) hy (backW (W := W) (Q := Q') (n0 := n0) (K []) hWm w4 w3 hf hlo C.2.1.1 hCH.1 (hF.sub hP0)) (g := mkF m pc L stk) rfl (hsz.trans C.2.2.2.1.symm) (argsL := argsL) (rest := r) hlen hst (by simpa using hW) (hb C.2.2.1 hd) (fun _ _ => ⟨rfl, eh, hce, hsl⟩)
  dsimp only [Pt.U, Pt.locs, Pt.cells, Pt.slots] at X' st hQ l' y' z' hC2 hS2 hgr
  subst l' y' z'
  obtain ⟨P1, hQ, hFr, hSf⟩ := hQ
  exact (kk T' T'.heap v P1 hQ ⟨_, T'.vm, _, X', N.app hFr, rfl, foldS hSi (by rw [eh]; exact hk1) hS2 hgr, Nat.le_refl _, State.Warmed39.trans (t := s.setVm vm0) hWm hS2.1, (show T'.vm.findClass own = some m.cls by rw [hS2.1.alike.findClass]; exact hown), hCH.trans hC2, hSf.app (hF.chr hC2)⟩).st fun _ q => st.trans q
theorem g_callI (C : Cx p m meth c Z EL a0 own name cod maxL ret) (S : On p l e R s m args below meth c Z EL own n0 T h PS k n) {y : MethodName} {bytes : ByteArray} {mx i W : Nat} {rm : Room} {P0 : List Addr} {Q' : Option Value → Heap → List Addr → Prop} {argsL stk : List Value} (hd : decode cod pc = .ok (.invokespecial i, 3)) (hy1 : y.name = "<init>") (w1 : (Jvm.Cond.methodLink own i y).before a0 Z = true) (w2 : (Jvm.Cond.instanceMethod y).before a0 Z = true) (w3 : (Jvm.Cond.initialized y.cls).before a0 Z = true) (w4 : (Jvm.Cond.code y bytes mx none).before a0 Z = true) (hy : y.cls ≠ "java/lang/invoke/MethodHandle" ∧ y.cls ≠ "java/lang/invoke/VarHandle") (K : Con l Z EL P0 y bytes mx none rm (.ref a :: argsL).toArray h n0 Q') (hst : stk = argsL.reverse ++ .ref a :: r) (hP0 : ∀ x ∈ P0, x ∈ PS) (hlen : ∀ sig, parseMethodDescriptor y.desc = some sig → argsL.length = sig.parameters.length) (hsz : L.size = maxL) (hW : (r.map fun v => v.category).sum ≤ W) (hf : rm.frames + 1 ≤ R.frames) (hlo : W + (mx + 11) + rm.locals ≤ R.locals) (hce : k + rm.cells ≤ R.cells) (hsl : n + rm.slots ≤ R.slots) (hp : pc + 3 = pc') (kk : ∀ T' h' v P1, Q' v h' P1 → On p l e R s m args below meth c Z EL own n0 T' h' (P1 ++ PS) (k + rm.cells) (n + rm.slots) → Gl p e below s Z EL R n0 Q T' (mkF m pc' L (v.toList ++ r))) : Gl p e below s Z EL R n0 Q T (mkF m pc L stk) := by
  obtain ⟨locs, vm0, k1, X, N, eh, hSi, hk1, hWm, hown, hCH, hF⟩ := S; subst hp
  obtain ⟨v, vm1, ⟨T', L1, k2, n1⟩, -, X', hS2, hgr, ⟨Lc, hQ, l', y', z', hC2⟩, st⟩ := X.specialBackS C.1 (y := y) hy1 hown (mvT hWm w1) (mvT hWm w2) (mvT hWm w4) hy (backW (W := W) (Q := Q') (n0 := n0) (K []) hWm w4 w3 hf hlo C.2.1.1 hCH.1 (hF.sub hP0)) (g := mkF m pc L stk) rfl (hsz.trans C.2.2.2.1.symm) (Steps.refl _) (a := a) (argsL := argsL) (rest := r) hlen hst (by simpa using hW) (hb C.2.2.1 hd) (fun _ _ => ⟨rfl, eh, hce, hsl⟩)
  dsimp only [Pt.U, Pt.locs, Pt.cells, Pt.slots] at X' st hQ l' y' z' hC2 hS2 hgr
  subst l' y' z'
  obtain ⟨P1, hQ, hFr, hSf⟩ := hQ
  exact (kk T' T'.heap v P1 hQ ⟨_, T'.vm, _, X', N.app hFr, rfl, foldS hSi (by rw [eh]; exact hk1) hS2 hgr, Nat.le_refl _, State.Warmed39.trans (t := s.setVm vm0) hWm hS2.1, (show T'.vm.findClass own = some m.cls by rw [hS2.1.alike.findClass]; exact hown), hCH.trans hC2, hSf.app (hF.chr hC2)⟩).st fun _ q => st.trans q
theorem g_callV (C : Cx p m meth c Z EL a0 own name cod maxL ret) (S : On p l e R s m args below meth c Z EL own n0 T h PS k n) {K : String} {y z : MethodName} {bytes : ByteArray} {mx i W : Nat} {rt : Option FieldType} {rm : Room} {P0 : List Addr} {Q' : Option Value → Heap → List Addr → Prop} {argsL stk : List Value} (hd : decode cod pc = .ok (.invokevirtual i, 3)) (w1 : (Jvm.Cond.methodLink own i y).before a0 Z = true) (w2 : (Jvm.Cond.declares y).before a0 Z = true) (hnf : ∀ s' : State, Z.Warmed39 s'.vm → NotFace s' y) (w5 : (Jvm.Cond.selects K y z).before a0 Z = true) (w6 : (Jvm.Cond.instanceMethod z).before a0 Z = true) (w3 : (Jvm.Cond.initialized z.cls).before a0 Z = true) (w4 : (Jvm.Cond.code z bytes mx rt).before a0 Z = true) (hy : y.cls ≠ "java/lang/invoke/MethodHandle" ∧ y.cls ≠ "java/lang/invoke/VarHandle") (hyK : y.cls = K) (E : Exa Z h a K) (Kc : Con l Z EL P0 z bytes mx rt rm (.ref a :: argsL).toArray h n0 Q') (hst : stk = argsL.reverse ++ .ref a :: r) (hP0 : ∀ x ∈ P0, x ∈ PS) (hlen : ∀ sig, parseMethodDescriptor y.desc = some sig → argsL.length = sig.parameters.length) (hsz : L.size = maxL) (hW : (r.map fun v => v.category).sum ≤ W) (hf : rm.frames + 1 ≤ R.frames) (hlo : W + (mx + 11) + rm.locals ≤ R.locals) (hce : k + rm.cells ≤ R.cells) (hsl : n + rm.slots ≤ R.slots) (hp : pc + 3 = pc') (kk : ∀ T' h' v P1, Q' v h' P1 → On p l e R s m args below meth c Z EL own n0 T' h' (P1 ++ PS) (k + rm.cells) (n + rm.slots) → Gl p e below s Z EL R n0 Q T' (mkF m pc' L (v.toList ++ r))) : Gl p e below s Z EL R n0 Q T (mkF m pc L stk) := by
  obtain ⟨locs, vm0, k1, X, N, eh, hSi, hk1, hWm, hown, hCH, hF⟩ := S; subst hp hyK
  obtain ⟨cq, kq, qa, qb, qc⟩ := isOf (s := s.setVm vm0) hWm eh E
  obtain ⟨v, vm1, ⟨T', L1, k2, n1⟩, -, X', hS2, hgr, ⟨Lc, hQ, l', y', z', hC2⟩, st⟩ := X.virtualBackS C.1 (y := y) (z := z) hown (mvT hWm w1) (mvT hWm w2) (hnf (s.setVm vm0) hWm) (mvT hWm w5) (mvT hWm w6) hy (backW (W := W) (Q := Q') (n0 := n0) (Kc []) hWm w4 w3 hf hlo C.2.1.1 hCH.1 (hF.sub hP0)) qa qc (g := mkF m pc L stk) rfl (hsz.trans C.2.2.2.1.symm) (Steps.refl _) (argsL := argsL) (rest := r) hlen hst (by simpa using hW) (hb C.2.2.1 hd) (fun _ _ => ⟨rfl, eh, hce, hsl⟩)
  dsimp only [Pt.U, Pt.locs, Pt.cells, Pt.slots] at X' st hQ l' y' z' hC2 hS2 hgr
  subst l' y' z'
  obtain ⟨P1, hQ, hFr, hSf⟩ := hQ
  exact (kk T' T'.heap v P1 hQ ⟨_, T'.vm, _, X', N.app hFr, rfl, foldS hSi (by rw [eh]; exact hk1) hS2 hgr, Nat.le_refl _, State.Warmed39.trans (t := s.setVm vm0) hWm hS2.1, (show T'.vm.findClass own = some m.cls by rw [hS2.1.alike.findClass]; exact hown), hCH.trans hC2, hSf.app (hF.chr hC2)⟩).st fun _ q => st.trans q
theorem g_callP (C : Cx p m meth c Z EL a0 own name cod maxL ret) (S : On p l e R s m args below meth c Z EL own n0 T h PS k n) {y : MethodName} {bytes : ByteArray} {mx i W sz : Nat} {rt : Option FieldType} {rm : Room} {P0 : List Addr} {Q' : Option Value → Heap → List Addr → Prop} {argsL stk : List Value} (hd : decode cod pc = .ok (.invokevirtual i, 3)) (w1 : (Jvm.Cond.methodLink own i y).before a0 Z = true) (w2 : (Jvm.Cond.instanceMethod y).before a0 Z = true) (wp : (Jvm.Cond.privateMethod y).before a0 Z = true) (wi : (Jvm.Cond.instantiable y.cls sz).before a0 Z = true) (w3 : (Jvm.Cond.initialized y.cls).before a0 Z = true) (w4 : (Jvm.Cond.code y bytes mx rt).before a0 Z = true) (hy : y.cls ≠ "java/lang/invoke/MethodHandle" ∧ y.cls ≠ "java/lang/invoke/VarHandle") (E : Exa Z h a y.cls) (Kc : Con l Z EL P0 y bytes mx rt rm (.ref a :: argsL).toArray h n0 Q') (hst : stk = argsL.reverse ++ .ref a :: r) (hP0 : ∀ x ∈ P0, x ∈ PS) (hlen : ∀ sig, parseMethodDescriptor y.desc = some sig → argsL.length = sig.parameters.length) (hsz : L.size = maxL) (hW : (r.map fun v => v.category).sum ≤ W) (hf : rm.frames + 1 ≤ R.frames) (hlo : W + (mx + 11) + rm.locals ≤ R.locals) (hce : k + rm.cells ≤ R.cells) (hsl : n + rm.slots ≤ R.slots) (hp : pc + 3 = pc') (kk : ∀ T' h' v P1, Q' v h' P1 → On p l e R s m args below meth c Z EL own n0 T' h' (P1 ++ PS) (k + rm.cells) (n + rm.slots) → Gl p e below s Z EL R n0 Q T' (mkF m pc' L (v.toList ++ r))) : Gl p e below s Z EL R n0 Q T (mkF m pc L stk) := by
  obtain ⟨locs, vm0, k1, X, N, eh, hSi, hk1, hWm, hown, hCH, hF⟩ := S; subst hp
  obtain ⟨cq, q1, q2⟩ := E.cell
  obtain ⟨c0, k0, i1, i2, i3, i4, -⟩ := Cond.instantiable_spec (mvT (s := s.setVm vm0) (args := args) hWm wi)
  have hpr := Cond.privateMethod_at (mvP (s := s.setVm vm0) (args := args) hWm wp)
  have hs := selects_self_of_private (args := args) i1 i2 (Bool.or_eq_false_iff.mp i4).1 hpr (mvT hWm w2) hy
  obtain ⟨v, vm1, ⟨T', L1, k2, n1⟩, -, X', hS2, hgr, ⟨Lc, hQ, l', y', z', hC2⟩, st⟩ := X.privateBackS C.1 (y := y) hown (mvT hWm w1) (mvT hWm w2) hs hpr (mvT hWm w4) hy (backW (W := W) (Q := Q') (n0 := n0) (Kc []) hWm w4 w3 hf hlo C.2.1.1 hCH.1 (hF.sub hP0)) (g := mkF m pc L stk) rfl (hsz.trans C.2.2.2.1.symm) (Steps.refl _) (a := a) (by rw [eh]; exact q1) q2 (argsL := argsL) (rest := r) hlen hst (by simpa using hW) (hb C.2.2.1 hd) (fun _ _ => ⟨rfl, eh, hce, hsl⟩)
  dsimp only [Pt.U, Pt.locs, Pt.cells, Pt.slots] at X' st hQ l' y' z' hC2 hS2 hgr
  subst l' y' z'
  obtain ⟨P1, hQ, hFr, hSf⟩ := hQ
  exact (kk T' T'.heap v P1 hQ ⟨_, T'.vm, _, X', N.app hFr, rfl, foldS hSi (by rw [eh]; exact hk1) hS2 hgr, Nat.le_refl _, State.Warmed39.trans (t := s.setVm vm0) hWm hS2.1, (show T'.vm.findClass own = some m.cls by rw [hS2.1.alike.findClass]; exact hown), hCH.trans hC2, hSf.app (hF.chr hC2)⟩).st fun _ q => st.trans q
/-- an array: its length and what each place holds -/
def Ary (Z : State) (h : Heap) (a : Addr) (ty : FieldType) (n : Nat) (f : Nat → Value) : Prop := ∃ c : Cell, Arr Z h a c ty ∧ c.slots.size = n ∧ ∀ i, i < n → c.slots[i]? = some (f i)
variable {ty : FieldType} {N i : Nat} {f : Nat → Value} {v : Value} {sl : Nat} {j x : Int32} {ws : List Addr}
theorem Ary.lt (A : Ary Z h a ty N f) : a < h.size := by obtain ⟨c, A, -⟩ := A; exact A.lt
theorem Ary.ext (A : Ary Z h a ty N f) (E : Ext h h') : Ary Z h' a ty N f := by obtain ⟨c, A, q⟩ := A; exact ⟨c, A.ext E, q⟩
theorem Ary.other (A : Ary Z h a ty N f) (W : Wr h h' b sl v) (q : a ≠ b) : Ary Z h' a ty N f := by obtain ⟨c, A, z⟩ := A; exact ⟨c, A.other W q, z⟩
theorem Ary.keep (A : Ary Z h a ty N f) (K : Keep h h' ws) (q : a ∉ ws) : Ary Z h' a ty N f := by obtain ⟨c, A, z⟩ := A; exact ⟨c, ⟨K.2.1 a c A.1 q, A.2⟩, z⟩
theorem Ary.cg {f' : Nat → Value} (A : Ary Z h a ty N f) (q : ∀ i, i < N → f i = f' i) : Ary Z h a ty N f' := by obtain ⟨c, A, s, z⟩ := A; exact ⟨c, A, s, fun i hi => by rw [← q i hi]; exact z i hi⟩
theorem Ary.same (A : Ary Z h a ty N f) (W : Wr h h' a i v) : Ary Z h' a ty N (fun q => if q = i then v else f q) := by
  obtain ⟨c, A, s, z⟩ := A
  refine ⟨_, A.same W, by rw [sz_set]; exact s, fun q hq => ?_⟩
  by_cases u : q = i
  · subst u; simp [Cell.setSlot, s, hq]
  · simp only [u, if_false]; simp only [Cell.setSlot]; rw [Array.getElem?_setIfInBounds_ne (fun w => u w.symm)]; exact z q hq
theorem idx_nat {c : Cell} (hj : j.toInt = (i : Int)) (hi : i < c.slots.size) : ¬ (j < 0 ∨ c.slots.size ≤ j.toNatClampNeg) ∧ j.toNatClampNeg = i := by
  have e : j.toNatClampNeg = i := by simp only [Int32.toNatClampNeg, hj]; omega
  refine ⟨?_, e⟩
  rw [e, Int32.lt_iff_toInt_lt, hj]
  have : (0 : Int32).toInt = 0 := rfl
  omega
theorem g_iaload (C : Cx p m meth c Z EL a0 own name cod maxL ret) (S : On p l e R s m args below meth c Z EL own n0 T h PS k n) (hd : decode cod pc = .ok (.iaload, 1)) (A : Ary Z h a .int N f) (hj : j.toInt = (i : Int)) (hi : i < N) (hv : f i = v) (hp : pc + 1 = pc') (kk : Gl p e below s Z EL R n0 Q T (mkF m pc' L (v :: r))) : Gl p e below s Z EL R n0 Q T (mkF m pc L (.int j :: .ref a :: r)) := by
  obtain ⟨locs, vm0, k1, X, N, eh, hSi, hk1, hWm, hown, hCH, hF⟩ := S; subst hp
  obtain ⟨cl, A, sz, z⟩ := A
  obtain ⟨q1, q2⟩ := idx_nat (c := cl) hj (by rw [sz]; exact hi)
  exact kk.st fun t q => X.iaload (g := mkF m pc L (.int j :: .ref a :: r)) C.1 (by rw [eh]; exact A.1) (State.isArrayOf_alike hWm.alike A.2.1) A.2.2 q1 (by rw [q2, ← hv]; exact z i hi) rfl rfl (hb C.2.2.1 hd) t q
theorem g_laload (C : Cx p m meth c Z EL a0 own name cod maxL ret) (S : On p l e R s m args below meth c Z EL own n0 T h PS k n) (hd : decode cod pc = .ok (.laload, 1)) (A : Ary Z h a .long N f) (hj : j.toInt = (i : Int)) (hi : i < N) (hv : f i = v) (hp : pc + 1 = pc') (kk : Gl p e below s Z EL R n0 Q T (mkF m pc' L (v :: r))) : Gl p e below s Z EL R n0 Q T (mkF m pc L (.int j :: .ref a :: r)) := by
  obtain ⟨locs, vm0, k1, X, N, eh, hSi, hk1, hWm, hown, hCH, hF⟩ := S; subst hp
  obtain ⟨cl, A, sz, z⟩ := A
  obtain ⟨q1, q2⟩ := idx_nat (c := cl) hj (by rw [sz]; exact hi)
  exact kk.st fun t q => X.laload (g := mkF m pc L (.int j :: .ref a :: r)) C.1 (by rw [eh]; exact A.1) (State.isArrayOf_alike hWm.alike A.2.1) A.2.2 q1 (by rw [q2, ← hv]; exact z i hi) rfl rfl (hb C.2.2.1 hd) t q
theorem g_caload (C : Cx p m meth c Z EL a0 own name cod maxL ret) (S : On p l e R s m args below meth c Z EL own n0 T h PS k n) (hd : decode cod pc = .ok (.caload, 1)) (A : Ary Z h a .char N f) (hj : j.toInt = (i : Int)) (hi : i < N) (hv : f i = v) (hp : pc + 1 = pc') (kk : Gl p e below s Z EL R n0 Q T (mkF m pc' L (v :: r))) : Gl p e below s Z EL R n0 Q T (mkF m pc L (.int j :: .ref a :: r)) := by
  obtain ⟨locs, vm0, k1, X, N, eh, hSi, hk1, hWm, hown, hCH, hF⟩ := S; subst hp
  obtain ⟨cl, A, sz, z⟩ := A
  obtain ⟨q1, q2⟩ := idx_nat (c := cl) hj (by rw [sz]; exact hi)
  exact kk.st fun t q => X.caload (g := mkF m pc L (.int j :: .ref a :: r)) C.1 (by rw [eh]; exact A.1) (State.isArrayOf_alike hWm.alike A.2.1) A.2.2 q1 (by rw [q2, ← hv]; exact z i hi) rfl rfl (hb C.2.2.1 hd) t q
theorem g_saload (C : Cx p m meth c Z EL a0 own name cod maxL ret) (S : On p l e R s m args below meth c Z EL own n0 T h PS k n) (hd : decode cod pc = .ok (.saload, 1)) (A : Ary Z h a .short N f) (hj : j.toInt = (i : Int)) (hi : i < N) (hv : f i = v) (hp : pc + 1 = pc') (kk : Gl p e below s Z EL R n0 Q T (mkF m pc' L (v :: r))) : Gl p e below s Z EL R n0 Q T (mkF m pc L (.int j :: .ref a :: r)) := by
  obtain ⟨locs, vm0, k1, X, N, eh, hSi, hk1, hWm, hown, hCH, hF⟩ := S; subst hp
  obtain ⟨cl, A, sz, z⟩ := A
  obtain ⟨q1, q2⟩ := idx_nat (c := cl) hj (by rw [sz]; exact hi)
  exact kk.st fun t q => X.saload (g := mkF m pc L (.int j :: .ref a :: r)) C.1 (by rw [eh]; exact A.1) (State.isArrayOf_alike hWm.alike A.2.1) A.2.2 q1 (by rw [q2, ← hv]; exact z i hi) rfl rfl (hb C.2.2.1 hd) t q
theorem g_baloadB (C : Cx p m meth c Z EL a0 own name cod maxL ret) (S : On p l e R s m args below meth c Z EL own n0 T h PS k n) (hd : decode cod pc = .ok (.baload, 1)) (A : Ary Z h a .byte N f) (hj : j.toInt = (i : Int)) (hi : i < N) (hv : f i = v) (hp : pc + 1 = pc') (kk : Gl p e below s Z EL R n0 Q T (mkF m pc' L (v :: r))) : Gl p e below s Z EL R n0 Q T (mkF m pc L (.int j :: .ref a :: r)) := by
  obtain ⟨locs, vm0, k1, X, N, eh, hSi, hk1, hWm, hown, hCH, hF⟩ := S; subst hp
  obtain ⟨cl, A, sz, z⟩ := A
  obtain ⟨q1, q2⟩ := idx_nat (c := cl) hj (by rw [sz]; exact hi)
  exact kk.st fun t q => X.baloadBytes (g := mkF m pc L (.int j :: .ref a :: r)) C.1 (by rw [eh]; exact A.1) (State.isArrayOf_alike hWm.alike A.2.1) A.2.2 q1 (by rw [q2, ← hv]; exact z i hi) rfl rfl (hb C.2.2.1 hd) t q
theorem g_baloadZ (C : Cx p m meth c Z EL a0 own name cod maxL ret) (S : On p l e R s m args below meth c Z EL own n0 T h PS k n) (hd : decode cod pc = .ok (.baload, 1)) (A : Ary Z h a .boolean N f) (hj : j.toInt = (i : Int)) (hi : i < N) (hv : f i = v) (hp : pc + 1 = pc') (kk : Gl p e below s Z EL R n0 Q T (mkF m pc' L (v :: r))) : Gl p e below s Z EL R n0 Q T (mkF m pc L (.int j :: .ref a :: r)) := by
  obtain ⟨locs, vm0, k1, X, N, eh, hSi, hk1, hWm, hown, hCH, hF⟩ := S; subst hp
  obtain ⟨cl, A, sz, z⟩ := A
  obtain ⟨q1, q2⟩ := idx_nat (c := cl) hj (by rw [sz]; exact hi)
  exact kk.st fun t q => X.baloadBooleans (g := mkF m pc L (.int j :: .ref a :: r)) C.1 (by rw [eh]; exact A.1) (State.isArrayOf_alike hWm.alike A.2.1) A.2.2 q1 (by rw [q2, ← hv]; exact z i hi) rfl rfl (hb C.2.2.1 hd) t q
theorem g_daload (C : Cx p m meth c Z EL a0 own name cod maxL ret) (S : On p l e R s m args below meth c Z EL own n0 T h PS k n) (hd : decode cod pc = .ok (.daload, 1)) (A : Ary Z h a .double N f) (hj : j.toInt = (i : Int)) (hi : i < N) (hv : f i = v) (hp : pc + 1 = pc') (kk : Gl p e below s Z EL R n0 Q T (mkF m pc' L (v :: r))) : Gl p e below s Z EL R n0 Q T (mkF m pc L (.int j :: .ref a :: r)) := by
  obtain ⟨locs, vm0, k1, X, N, eh, hSi, hk1, hWm, hown, hCH, hF⟩ := S; subst hp
  obtain ⟨cl, A, sz, z⟩ := A
  obtain ⟨q1, q2⟩ := idx_nat (c := cl) hj (by rw [sz]; exact hi)
  exact kk.st fun t q => X.daload (g := mkF m pc L (.int j :: .ref a :: r)) C.1 (by rw [eh]; exact A.1) (State.isArrayOf_alike hWm.alike A.2.1) A.2.2 q1 (by rw [q2, ← hv]; exact z i hi) rfl rfl (hb C.2.2.1 hd) t q
theorem g_aaload (C : Cx p m meth c Z EL a0 own name cod maxL ret) (S : On p l e R s m args below meth c Z EL own n0 T h PS k n) (hd : decode cod pc = .ok (.aaload, 1)) (A : Ary Z h a ty N f) (hty : ty.isReference = true) (hj : j.toInt = (i : Int)) (hi : i < N) (hv : f i = v) (hp : pc + 1 = pc') (kk : Gl p e below s Z EL R n0 Q T (mkF m pc' L (v :: r))) : Gl p e below s Z EL R n0 Q T (mkF m pc L (.int j :: .ref a :: r)) := by
  obtain ⟨locs, vm0, k1, X, N, eh, hSi, hk1, hWm, hown, hCH, hF⟩ := S; subst hp
  obtain ⟨cl, A, sz, z⟩ := A
  obtain ⟨q1, q2⟩ := idx_nat (c := cl) hj (by rw [sz]; exact hi)
  exact kk.st fun t q => X.aaload (g := mkF m pc L (.int j :: .ref a :: r)) C.1 (by rw [eh]; exact A.1) (State.isArrayOf_alike hWm.alike A.2.1) hty A.2.2 q1 (by rw [q2, ← hv]; exact z i hi) rfl rfl (hb C.2.2.1 hd) t q
theorem g_arraylength (C : Cx p m meth c Z EL a0 own name cod maxL ret) (S : On p l e R s m args below meth c Z EL own n0 T h PS k n) (hd : decode cod pc = .ok (.arraylength, 1)) (A : Ary Z h a ty N f) (hx : N.toInt32 = x) (hp : pc + 1 = pc') (kk : Gl p e below s Z EL R n0 Q T (mkF m pc' L (.int x :: r))) : Gl p e below s Z EL R n0 Q T (mkF m pc L (.ref a :: r)) := by
  obtain ⟨locs, vm0, k1, X, _, eh, hSi, hk1, hWm, hown, hCH, hF⟩ := S; subst hp
  obtain ⟨cl, A, sz, z⟩ := A
  subst hx
  rw [← sz] at kk
  exact kk.st fun t q => X.arraylength (g := mkF m pc L (.ref a :: r)) C.1 (by rw [eh]; exact A.1) (State.isArrayOf_alike hWm.alike A.2.1) rfl rfl (hb C.2.2.1 hd) t q
theorem g_iastore (C : Cx p m meth c Z EL a0 own name cod maxL ret) (S : On p l e R s m args below meth c Z EL own n0 T h PS k n) {y : Int32} (hd : decode cod pc = .ok (.iastore, 1)) (A : Ary Z h a .int N f) (hj : j.toInt = (i : Int)) (hi : i < N) (ga : n0 ≤ a) (hp : pc + 1 = pc') (kk : ∀ T' h', On p l e R s m args below meth c Z EL own n0 T' h' PS k n → Wr h h' a i (.int y) → Ary Z h' a .int N (fun q => if q = i then .int y else f q) → Gl p e below s Z EL R n0 Q T' (mkF m pc' L r)) : Gl p e below s Z EL R n0 Q T (mkF m pc L (.int y :: .int j :: .ref a :: r)) := by
  obtain ⟨locs, vm0, k1, X, N, eh, hSi, hk1, hWm, hown, hCH, hF⟩ := S; subst hp
  have A0 := A
  obtain ⟨cl, A, sz, z⟩ := A
  obtain ⟨q1, q2⟩ := idx_nat (c := cl) hj (by rw [sz]; exact hi)
  obtain ⟨T', h', X', eT, W, st⟩ := stI X C.1 hWm eh A q1 (g := mkF m pc L (.int y :: .int j :: .ref a :: r)) rfl rfl (hb C.2.2.1 hd)
  have N' := Fr.snoc X' N ga
  rw [q2] at W
  have hsf : Safe Z EL vm0 h a := Safe.arr hWm.alike A (by decide)
  exact (kk T' h' ⟨_, vm0, k1, X', N', eT, hSi, Nat.le_trans hk1 (CHr.wr W hsf hCH.1).2.1, hWm, hown, hCH.trans (CHr.wr W hsf hCH.1), hF.chr (CHr.wr W hsf hCH.1)⟩ W (A0.same W)).st st
theorem g_lastore (C : Cx p m meth c Z EL a0 own name cod maxL ret) (S : On p l e R s m args below meth c Z EL own n0 T h PS k n) {y : Int64} (hd : decode cod pc = .ok (.lastore, 1)) (A : Ary Z h a .long N f) (hj : j.toInt = (i : Int)) (hi : i < N) (ga : n0 ≤ a) (hp : pc + 1 = pc') (kk : ∀ T' h', On p l e R s m args below meth c Z EL own n0 T' h' PS k n → Wr h h' a i (.long y) → Ary Z h' a .long N (fun q => if q = i then .long y else f q) → Gl p e below s Z EL R n0 Q T' (mkF m pc' L r)) : Gl p e below s Z EL R n0 Q T (mkF m pc L (.long y :: .int j :: .ref a :: r)) := by
  obtain ⟨locs, vm0, k1, X, N, eh, hSi, hk1, hWm, hown, hCH, hF⟩ := S; subst hp
  have A0 := A
  obtain ⟨cl, A, sz, z⟩ := A
  obtain ⟨q1, q2⟩ := idx_nat (c := cl) hj (by rw [sz]; exact hi)
  obtain ⟨T', h', X', eT, W, st⟩ := stJ X C.1 hWm eh A q1 (g := mkF m pc L (.long y :: .int j :: .ref a :: r)) rfl rfl (hb C.2.2.1 hd)
  have N' := Fr.snoc X' N ga
  rw [q2] at W
  have hsf : Safe Z EL vm0 h a := Safe.arr hWm.alike A (by decide)
  exact (kk T' h' ⟨_, vm0, k1, X', N', eT, hSi, Nat.le_trans hk1 (CHr.wr W hsf hCH.1).2.1, hWm, hown, hCH.trans (CHr.wr W hsf hCH.1), hF.chr (CHr.wr W hsf hCH.1)⟩ W (A0.same W)).st st
theorem g_castore (C : Cx p m meth c Z EL a0 own name cod maxL ret) (S : On p l e R s m args below meth c Z EL own n0 T h PS k n) {y : Int32} (hd : decode cod pc = .ok (.castore, 1)) (A : Ary Z h a .char N f) (hj : j.toInt = (i : Int)) (hi : i < N) (ga : n0 ≤ a) (hp : pc + 1 = pc') (kk : ∀ T' h', On p l e R s m args below meth c Z EL own n0 T' h' PS k n → Wr h h' a i (.int (nar .char y)) → Ary Z h' a .char N (fun q => if q = i then .int (nar .char y) else f q) → Gl p e below s Z EL R n0 Q T' (mkF m pc' L r)) : Gl p e below s Z EL R n0 Q T (mkF m pc L (.int y :: .int j :: .ref a :: r)) := by
  obtain ⟨locs, vm0, k1, X, N, eh, hSi, hk1, hWm, hown, hCH, hF⟩ := S; subst hp
  have A0 := A
  obtain ⟨cl, A, sz, z⟩ := A
  obtain ⟨q1, q2⟩ := idx_nat (c := cl) hj (by rw [sz]; exact hi)
  obtain ⟨T', h', X', eT, W, st⟩ := stC X C.1 hWm eh A q1 (g := mkF m pc L (.int y :: .int j :: .ref a :: r)) rfl rfl (hb C.2.2.1 hd)
  have N' := Fr.snoc X' N ga
  rw [q2] at W
  have hsf : Safe Z EL vm0 h a := Safe.arr hWm.alike A (by decide)
  exact (kk T' h' ⟨_, vm0, k1, X', N', eT, hSi, Nat.le_trans hk1 (CHr.wr W hsf hCH.1).2.1, hWm, hown, hCH.trans (CHr.wr W hsf hCH.1), hF.chr (CHr.wr W hsf hCH.1)⟩ W (A0.same W)).st st
theorem g_bastoreB (C : Cx p m meth c Z EL a0 own name cod maxL ret) (S : On p l e R s m args below meth c Z EL own n0 T h PS k n) {y : Int32} (hd : decode cod pc = .ok (.bastore, 1)) (A : Ary Z h a .byte N f) (hj : j.toInt = (i : Int)) (hi : i < N) (ga : n0 ≤ a) (sf : a ∈ PS) (hp : pc + 1 = pc') (kk : ∀ T' h', On p l e R s m args below meth c Z EL own n0 T' h' PS k n → Wr h h' a i (.int (nar .byte y)) → Ary Z h' a .byte N (fun q => if q = i then .int (nar .byte y) else f q) → Gl p e below s Z EL R n0 Q T' (mkF m pc' L r)) : Gl p e below s Z EL R n0 Q T (mkF m pc L (.int y :: .int j :: .ref a :: r)) := by
  obtain ⟨locs, vm0, k1, X, N, eh, hSi, hk1, hWm, hown, hCH, hF⟩ := S; subst hp
  have A0 := A
  obtain ⟨cl, A, sz, z⟩ := A
  obtain ⟨q1, q2⟩ := idx_nat (c := cl) hj (by rw [sz]; exact hi)
  obtain ⟨T', h', X', eT, W, st⟩ := stB X C.1 hWm eh A q1 (g := mkF m pc L (.int y :: .int j :: .ref a :: r)) rfl rfl (hb C.2.2.1 hd)
  have N' := Fr.snoc X' N ga
  rw [q2] at W
  have hsf : Safe Z EL vm0 h a := (hF a sf).2
  exact (kk T' h' ⟨_, vm0, k1, X', N', eT, hSi, Nat.le_trans hk1 (CHr.wr W hsf hCH.1).2.1, hWm, hown, hCH.trans (CHr.wr W hsf hCH.1), hF.chr (CHr.wr W hsf hCH.1)⟩ W (A0.same W)).st st
theorem g_bastoreZ (C : Cx p m meth c Z EL a0 own name cod maxL ret) (S : On p l e R s m args below meth c Z EL own n0 T h PS k n) {y : Int32} (hd : decode cod pc = .ok (.bastore, 1)) (A : Ary Z h a .boolean N f) (hj : j.toInt = (i : Int)) (hi : i < N) (ga : n0 ≤ a) (hp : pc + 1 = pc') (kk : ∀ T' h', On p l e R s m args below meth c Z EL own n0 T' h' PS k n → Wr h h' a i (.int (nar .boolean y)) → Ary Z h' a .boolean N (fun q => if q = i then .int (nar .boolean y) else f q) → Gl p e below s Z EL R n0 Q T' (mkF m pc' L r)) : Gl p e below s Z EL R n0 Q T (mkF m pc L (.int y :: .int j :: .ref a :: r)) := by
  obtain ⟨locs, vm0, k1, X, N, eh, hSi, hk1, hWm, hown, hCH, hF⟩ := S; subst hp
  have A0 := A
  obtain ⟨cl, A, sz, z⟩ := A
  obtain ⟨q1, q2⟩ := idx_nat (c := cl) hj (by rw [sz]; exact hi)
  obtain ⟨T', h', X', eT, W, st⟩ := stZ X C.1 hWm eh A q1 (g := mkF m pc L (.int y :: .int j :: .ref a :: r)) rfl rfl (hb C.2.2.1 hd)
  have N' := Fr.snoc X' N ga
  rw [q2] at W
  have hsf : Safe Z EL vm0 h a := Safe.arr hWm.alike A (by decide)
  exact (kk T' h' ⟨_, vm0, k1, X', N', eT, hSi, Nat.le_trans hk1 (CHr.wr W hsf hCH.1).2.1, hWm, hown, hCH.trans (CHr.wr W hsf hCH.1), hF.chr (CHr.wr W hsf hCH.1)⟩ W (A0.same W)).st st
theorem g_dastore (C : Cx p m meth c Z EL a0 own name cod maxL ret) (S : On p l e R s m args below meth c Z EL own n0 T h PS k n) {y : UInt64} (hd : decode cod pc = .ok (.dastore, 1)) (A : Ary Z h a .double N f) (hj : j.toInt = (i : Int)) (hi : i < N) (ga : n0 ≤ a) (hp : pc + 1 = pc') (kk : ∀ T' h', On p l e R s m args below meth c Z EL own n0 T' h' PS k n → Wr h h' a i (.double y) → Ary Z h' a .double N (fun q => if q = i then .double y else f q) → Gl p e below s Z EL R n0 Q T' (mkF m pc' L r)) : Gl p e below s Z EL R n0 Q T (mkF m pc L (.double y :: .int j :: .ref a :: r)) := by
  obtain ⟨locs, vm0, k1, X, N, eh, hSi, hk1, hWm, hown, hCH, hF⟩ := S; subst hp
  have A0 := A
  obtain ⟨cl, A, sz, z⟩ := A
  obtain ⟨q1, q2⟩ := idx_nat (c := cl) hj (by rw [sz]; exact hi)
  obtain ⟨T', h', X', eT, W, st⟩ := stD X C.1 hWm eh A q1 (g := mkF m pc L (.double y :: .int j :: .ref a :: r)) rfl rfl (hb C.2.2.1 hd)
  have N' := Fr.snoc X' N ga
  rw [q2] at W
  have hsf : Safe Z EL vm0 h a := Safe.arr hWm.alike A (by decide)
  exact (kk T' h' ⟨_, vm0, k1, X', N', eT, hSi, Nat.le_trans hk1 (CHr.wr W hsf hCH.1).2.1, hWm, hown, hCH.trans (CHr.wr W hsf hCH.1), hF.chr (CHr.wr W hsf hCH.1)⟩ W (A0.same W)).st st
theorem g_newarray (C : Cx p m meth c Z EL a0 own name cod maxL ret) (S : On p l e R s m args below meth c Z EL own n0 T h PS k n) {aty : ArrayType} {cap : Nat} (hd : decode cod pc = .ok (.newarray aty, 2)) (w : (Jvm.Cond.arrayClass (newarray.typeOf aty)).before a0 Z = true) (hj : j.toInt = (N : Int)) (hcap : N ≤ cap) (hbig : cap * 8 ≤ 536870912) (hc : k + 1 ≤ R.cells) (hl : n + cap ≤ R.slots) (hp : pc + 2 = pc') (kk : ∀ T' h' a, On p l e R s m args below meth c Z EL own n0 T' h' (a :: PS) (k + 1) (n + cap) → a = h.size → Ext h h' → Ary Z h' a (newarray.typeOf aty) N (fun _ => defaultValue (newarray.typeOf aty)) → Gl p e below s Z EL R n0 Q T' (mkF m pc' L (.ref a :: r))) : Gl p e below s Z EL R n0 Q T (mkF m pc L (.int j :: r)) := by
  obtain ⟨locs, vm0, k1, X, Nn, eh, hSi, hk1, hWm, hown, hCH, hF⟩ := S; subst hp
  have e1 : j.toNatClampNeg = N := by simp only [Int32.toNatClampNeg, hj]; omega
  have e2 : ¬ j < 0 := by rw [Int32.lt_iff_toInt_lt, hj]; have : (0 : Int32).toInt = 0 := rfl; omega
  obtain ⟨T', h', cA, X', eT, E, A, st⟩ := newP X C.1 hWm w eh (g := mkF m pc L (.int j :: r)) rfl (hb C.2.2.1 hd) rfl e2 (cap := cap) (by rw [e1]; exact hcap) hbig hc hl
  refine (kk T' h' h.size ⟨_, vm0, k1, X', Nn, eT, hSi, Nat.le_trans hk1 E.1, hWm, hown, hCH.trans (CHr.ext E hCH.1), (hF.chr (CHr.ext E hCH.1)).cons A.lt (Safe.ext E hCH.1 (Safe.new (Nat.le_refl _)))⟩ rfl E ⟨_, A, by rw [sz_new]; exact e1, fun i hi => ?_⟩).st st
  simp [newA, e1, hi]
def OvH (Z : State) (h : Heap) (a : Addr) (ty : FieldType) (K : String) : Prop := ∃ cl t0, Arr Z h a cl t0 ∧ OvrA Z cl.cls ty K
theorem OvH.ext {K : String} (F : OvH Z h a ty K) (E : Ext h h') : OvH Z h' a ty K := by obtain ⟨cl, t0, A, o⟩ := F; exact ⟨cl, t0, A.ext E, o⟩
theorem OvH.wr {K : String} (F : OvH Z h a ty K) (W : Wr h h' b sl v) : OvH Z h' a ty K := by
  obtain ⟨cl, t0, A, o⟩ := F
  by_cases e : a = b
  · subst e; exact ⟨_, t0, A.same W, o⟩
  · exact ⟨cl, t0, A.other W e, o⟩
theorem OvH.sto {K : String} {y : Addr} (F : OvH Z h a ty K) (I : Exa Z h y K) : Sto Z h a (.ref y) := by obtain ⟨cl, t0, A, o⟩ := F; exact Sto.ofVA A rfl o (Ins.self I)
theorem g_newarrayX (C : Cx p m meth c Z EL a0 own name cod maxL ret) (S : On p l e R s m args below meth c Z EL own n0 T h PS k n) {aty : ArrayType} {cap : Nat} (hd : decode cod pc = .ok (.newarray aty, 2)) (w : (Jvm.Cond.arrayClass (newarray.typeOf aty)).before a0 Z = true) (hj : j.toInt = (N : Int)) (hcap : N ≤ cap) (hbig : cap * 8 ≤ 536870912) (hc : k + 1 ≤ R.cells) (hl : n + cap ≤ R.slots) (hp : pc + 2 = pc') (kk : ∀ T' h' a, On p l e R s m args below meth c Z EL own n0 T' h' (a :: PS) (k + 1) (n + cap) → a = h.size → Ext h h' → Ary Z h' a (newarray.typeOf aty) N (fun _ => defaultValue (newarray.typeOf aty)) → Exa Z h' a ("[" ++ (newarray.typeOf aty).toString) → Gl p e below s Z EL R n0 Q T' (mkF m pc' L (.ref a :: r))) : Gl p e below s Z EL R n0 Q T (mkF m pc L (.int j :: r)) := by
  obtain ⟨locs, vm0, k1, X, Nn, eh, hSi, hk1, hWm, hown, hCH, hF⟩ := S; subst hp
  have e1 : j.toNatClampNeg = N := by simp only [Int32.toNatClampNeg, hj]; omega
  have e2 : ¬ j < 0 := by rw [Int32.lt_iff_toInt_lt, hj]; have : (0 : Int32).toInt = 0 := rfl; omega
  obtain ⟨T', h', cA, X', eT, E, A, B, st⟩ := newPE X C.1 hWm w eh (g := mkF m pc L (.int j :: r)) rfl (hb C.2.2.1 hd) rfl e2 (cap := cap) (by rw [e1]; exact hcap) hbig hc hl rfl
  refine (kk T' h' h.size ⟨_, vm0, k1, X', Nn, eT, hSi, Nat.le_trans hk1 E.1, hWm, hown, hCH.trans (CHr.ext E hCH.1), (hF.chr (CHr.ext E hCH.1)).cons A.lt (Safe.ext E hCH.1 (Safe.new (Nat.le_refl _)))⟩ rfl E ⟨_, A, by rw [sz_new]; exact e1, fun i hi => ?_⟩ B).st st
  simp [newA, e1, hi]
theorem g_anewarrayA (C : Cx p m meth c Z EL a0 own name cod maxL ret) (S : On p l e R s m args below meth c Z EL own n0 T h PS k n) {K : String} {q cap : Nat} (hd : decode cod pc = .ok (.anewarray q, 3)) (hK : (FieldType.array ty).toString = K) (w : (Jvm.Cond.classLink own q K).before a0 Z = true) (w2 : (Jvm.Cond.arrayOver (.array ty)).before a0 Z = true) (hj : j.toInt = (N : Int)) (hcap : N ≤ cap) (hbig : cap * 8 ≤ 536870912) (hc : k + 1 ≤ R.cells) (hl : n + cap ≤ R.slots) (hp : pc + 3 = pc') (kk : ∀ T' h' a, On p l e R s m args below meth c Z EL own n0 T' h' (a :: PS) (k + 1) (n + cap) → a = h.size → Ext h h' → Ary Z h' a (.array ty) N (fun _ => .null) → OvH Z h' a ty K → Gl p e below s Z EL R n0 Q T' (mkF m pc' L (.ref a :: r))) : Gl p e below s Z EL R n0 Q T (mkF m pc L (.int j :: r)) := by
  obtain ⟨locs, vm0, k1, X, Nn, eh, hSi, hk1, hWm, hown, hCH, hF⟩ := S; subst hp
  have e1 : j.toNatClampNeg = N := by simp only [Int32.toNatClampNeg, hj]; omega
  have e2 : ¬ j < 0 := by rw [Int32.lt_iff_toInt_lt, hj]; have : (0 : Int32).toInt = 0 := rfl; omega
  obtain ⟨T', h', cA, X', eT, E, A, -, o, st⟩ := newRA X C.1 hWm hown hK w w2 eh (g := mkF m pc L (.int j :: r)) rfl (hb C.2.2.1 hd) rfl e2 (cap := cap) (by rw [e1]; exact hcap) hbig hc hl rfl
  refine (kk T' h' h.size ⟨_, vm0, k1, X', Nn, eT, hSi, Nat.le_trans hk1 E.1, hWm, hown, hCH.trans (CHr.ext E hCH.1), (hF.chr (CHr.ext E hCH.1)).cons A.lt (Safe.ext E hCH.1 (Safe.new (Nat.le_refl _)))⟩ rfl E ⟨_, A, by rw [sz_new]; exact e1, fun i hi => ?_⟩ ⟨_, _, A, o⟩).st st
  simp [newA, e1, hi, defaultValue]
theorem g_aastore (C : Cx p m meth c Z EL a0 own name cod maxL ret) (S : On p l e R s m args below meth c Z EL own n0 T h PS k n) (hd : decode cod pc = .ok (.aastore, 1)) (A : Ary Z h a ty N f) (hty : ty.isReference = true) (F : Sto Z h a v) (hj : j.toInt = (i : Int)) (hi : i < N) (ga : n0 ≤ a) (hp : pc + 1 = pc') (kk : ∀ T' h', On p l e R s m args below meth c Z EL own n0 T' h' PS k n → Wr h h' a i v → Ary Z h' a ty N (fun q => if q = i then v else f q) → Gl p e below s Z EL R n0 Q T' (mkF m pc' L r)) : Gl p e below s Z EL R n0 Q T (mkF m pc L (v :: .int j :: .ref a :: r)) := by
  obtain ⟨locs, vm0, k1, X, N, eh, hSi, hk1, hWm, hown, hCH, hF⟩ := S; subst hp
  have A0 := A
  obtain ⟨cl, A, sz, z⟩ := A
  obtain ⟨q1, q2⟩ := idx_nat (c := cl) hj (by rw [sz]; exact hi)
  obtain ⟨T', h', X', eT, W, st⟩ := stR X C.1 hWm eh A q1 hty F (g := mkF m pc L (v :: .int j :: .ref a :: r)) rfl rfl (hb C.2.2.1 hd)
  have N' := Fr.snoc X' N ga
  rw [q2] at W
  have hsf : Safe Z EL vm0 h a := Safe.arr hWm.alike A (fun q => by subst q; cases hty)
  exact (kk T' h' ⟨_, vm0, k1, X', N', eT, hSi, Nat.le_trans hk1 (CHr.wr W hsf hCH.1).2.1, hWm, hown, hCH.trans (CHr.wr W hsf hCH.1), hF.chr (CHr.wr W hsf hCH.1)⟩ W (A0.same W)).st st
theorem g_ldcS (C : Cx p m meth c Z EL a0 own name cod maxL ret) (S : On p l e R s m args below meth c Z EL own n0 T h PS k n) {text : String} {i nn N : Nat} {zz : Int32} {vs : List Value} (hd : decode cod pc = .ok (.ldc i, 2)) (w : (Jvm.Cond.stringLink own i text).before a0 Z = true) (hmem : (own, i) ∈ EL) (ht : (∀ c ∈ text.toList, c.toNat < 256) ∧ text.toList.map (fun c => Value.int (Jvm.Lit.byteI c.toNat.toUInt16)) = vs) (hz : ¬ zz < 0) (hzl : zz.toNatClampNeg = vs.length) (hN : vs.length = N) (hn : 4 * text.toList.length ≤ nn) (hbig : nn ≤ 536870912) (hc : k + 2 ≤ R.cells) (hl : n + (nn + 4) ≤ R.slots) (hp : pc + 2 = pc')
    (kk : ∀ T' h' a b, On p l e R s m args below meth c Z EL own n0 T' h' PS (k + 2) (n + (nn + 4)) → Ext h h' → Exa Z h' a "java/lang/String" → Fld Z h' a "java/lang/String" "coder" "B" (.int 0) → Fld Z h' a "java/lang/String" "value" "[B" (.ref b) → Ary Z h' b .byte N (fun q => vs.getD q (.int 0)) → (∀ x ∈ PS, x ≠ a ∧ x ≠ b) → Gl p e below s Z EL R n0 Q T' (mkF m pc' L (.ref a :: r))) : Gl p e below s Z EL R n0 Q T (mkF m pc L r) := by
  obtain ⟨locs, vm0, k1, X, Nf, eh, hSi, hk1, hWm, hown, hCH, hF⟩ := S; subst hp
  obtain ⟨a, T', h', k2, b, kc, X', eT, E, hS2, hk2, hW2, hown2, x1, x2, x3, x4, x5, x6, hC2, -, hne, st⟩ := ldcCH (g := mkF m pc L r) X C.1 hWm hown w C.2.1.2 eh hSi hk1 C.2.1.1 hmem hCH.1 ht hz hzl rfl (hb C.2.2.1 hd) hn hbig hc hl
  have hF2 := hF.chr hC2
  obtain ⟨cl, A, -, z1, -, z2, -⟩ := x4
  subst hN
  refine (kk T' h' a b ⟨locs, T'.vm, k2, X', Nf, eT, hS2, hk2, hW2, hown2, hCH.trans hC2, hF2⟩ E x1 x2 x3 ⟨cl, A, z1.trans hzl, fun q hq => z2 q (by rw [z1, hzl]; exact hq)⟩ (fun x q => hne x (hF2 x q).2)).st st
theorem g_retB {z : Int32} (C : Cx p m meth c Z EL a0 own name cod maxL (some .byte)) (S : On p l e R s m args below meth c Z EL own n0 T h PS k n) (hd : decode cod pc = .ok (.ireturn, 1)) (hz : narrow .byte (.int z) = .int z) (hk : k ≤ R.cells) (hn : n ≤ R.slots) (q : Q (some (.int z)) h PS) : Gl p e below s Z EL R n0 Q T (mkF m pc L (.int z :: r)) := g_retv C S hd hz (Or.inl ⟨rfl, Or.inr (Or.inr (Or.inl rfl)), z, rfl⟩) hk hn q
theorem g_retC {z : Int32} (C : Cx p m meth c Z EL a0 own name cod maxL (some .char)) (S : On p l e R s m args below meth c Z EL own n0 T h PS k n) (hd : decode cod pc = .ok (.ireturn, 1)) (hz : narrow .char (.int z) = .int z) (hk : k ≤ R.cells) (hn : n ≤ R.slots) (q : Q (some (.int z)) h PS) : Gl p e below s Z EL R n0 Q T (mkF m pc L (.int z :: r)) := g_retv C S hd hz (Or.inl ⟨rfl, Or.inr (Or.inr (Or.inr (Or.inl rfl))), z, rfl⟩) hk hn q
theorem g_inst (C : Cx p m meth c Z EL a0 own name cod maxL ret) (S : On p l e R s m args below meth c Z EL own n0 T h PS k n) {K : String} {i : Nat} (hd : decode cod pc = .ok (.instanceof i, 3)) (w : (Jvm.Cond.classLink own i K).before a0 Z = true) (E : Exa Z h a K) (hp : pc + 3 = pc') (kk : ∀ T', On p l e R s m args below meth c Z EL own n0 T' h PS k n → Gl p e below s Z EL R n0 Q T' (mkF m pc' L (.int 1 :: r))) : Gl p e below s Z EL R n0 Q T (mkF m pc L (.ref a :: r)) := by
  obtain ⟨locs, vm0, k1, X, N, eh, hSi, hk1, hWm, hown, hCH, hF⟩ := S; subst hp
  obtain ⟨T', X', eT, st⟩ := instY X C.1 hWm hown w eh (Ins.self E) (g := mkF m pc L (.ref a :: r)) rfl rfl (hb C.2.2.1 hd)
  exact (kk T' ⟨locs, vm0, k1, X', N, eT, hSi, hk1, hWm, hown, hCH, hF⟩).st st
theorem g_cast (C : Cx p m meth c Z EL a0 own name cod maxL ret) (S : On p l e R s m args below meth c Z EL own n0 T h PS k n) {K : String} {i : Nat} (hd : decode cod pc = .ok (.checkcast i, 3)) (w : (Jvm.Cond.classLink own i K).before a0 Z = true) (E : Exa Z h a K) (hp : pc + 3 = pc') (kk : ∀ T', On p l e R s m args below meth c Z EL own n0 T' h PS k n → Gl p e below s Z EL R n0 Q T' (mkF m pc' L (.ref a :: r))) : Gl p e below s Z EL R n0 Q T (mkF m pc L (.ref a :: r)) := by
  obtain ⟨locs, vm0, k1, X, N, eh, hSi, hk1, hWm, hown, hCH, hF⟩ := S; subst hp
  obtain ⟨T', X', eT, st⟩ := castY X C.1 hWm hown w eh (Ins.self E) (g := mkF m pc L (.ref a :: r)) rfl rfl (hb C.2.2.1 hd)
  exact (kk T' ⟨locs, vm0, k1, X', N, eT, hSi, hk1, hWm, hown, hCH, hF⟩).st st
theorem clamp_of {x : Int32} {i : Nat} (hx : x.toInt = (i : Int)) : ¬ x < 0 ∧ x.toNatClampNeg = i := by
  refine ⟨?_, by simp only [Int32.toNatClampNeg, hx]; omega⟩
  rw [Int32.lt_iff_toInt_lt, hx]
  have : (0 : Int32).toInt = 0 := rfl
  omega
theorem Ary.arv (A : Ary Z h a ty N f) (hN : N < 2147483648) (hf : ∀ i, i < N → fits ty (f i) = true) : ∃ kc, Arv Z h a kc ty (Int32.ofNat N) ((List.range N).map f) (.int 0) := by
  obtain ⟨cl, A, sz, z⟩ := A
  have e : (Int32.ofNat N).toInt = (N : Int) := Int32.toInt_ofNat_small hN
  obtain ⟨e1, e2⟩ := clamp_of e
  have g : ∀ i, i < N → ((List.range N).map f).getD i (.int 0) = f i := fun i hi => by simp [List.getD_eq_getElem?_getD, hi]
  exact ⟨cl.cls, cl, A, rfl, by rw [e2]; exact sz, e1, fun i hi => by rw [sz] at hi; rw [g i hi]; exact z i hi, fun i hi => by rw [sz] at hi; rw [g i hi]; exact hf i hi⟩
theorem g_acopy (C : Cx p m meth c Z EL a0 own name cod maxL ret) (S : On p l e R s m args below meth c Z EL own n0 T h PS k n) {x y z : Int32} {i1 i2 i3 M i W : Nat} {f2 : Nat → Value} (hd : decode cod pc = .ok (.invokestatic i, 3)) (w1 : (Jvm.Cond.methodLink own i Jvm.Stand.acN).before a0 Z = true) (w2 : (Jvm.Cond.native Jvm.Stand.acN).before a0 Z = true) (w3 : (Jvm.Cond.static Jvm.Stand.acN).before a0 Z = true) (w4 : (Jvm.Cond.initialized "java/lang/System").before a0 Z = true)
    (A : Ary Z h a .byte N f) (B : Ary Z h b .byte M f2) (fA : ∀ i, i < N → fits .byte (f i) = true) (fB : ∀ i, i < M → fits .byte (f2 i) = true) (hN : N < 2147483648) (hM : M < 2147483648) (hx : x.toInt = (i1 : Int)) (hy : y.toInt = (i2 : Int)) (hz : z.toInt = (i3 : Int)) (h4 : i1 + i3 ≤ N) (h5 : i2 + i3 ≤ M) (ge : n0 ≤ b) (sf : b ∈ PS)
    (hsz : L.size = maxL) (hf : 1 ≤ R.frames) (hW : (r.map fun v => v.category).sum ≤ W) (hlo : W + 18 ≤ R.locals) (hp : pc + 3 = pc')
    (kk : ∀ T' h', On p l e R s m args below meth c Z EL own n0 T' h' PS k n → Keep h h' [b] → Ary Z h' b .byte M (fun q => if i2 ≤ q ∧ q < i2 + i3 then f (i1 + (q - i2)) else f2 q) → Gl p e below s Z EL R n0 Q T' (mkF m pc' L r)) : Gl p e below s Z EL R n0 Q T (mkF m pc L (.int z :: .int y :: .ref b :: .int x :: .ref a :: r)) := by
  obtain ⟨locs, vm0, k1, X, N0, eh, hSi, hk1, hWm, hown, hCH, hF⟩ := S; subst hp
  obtain ⟨ka, A'⟩ := A.arv hN fA
  obtain ⟨kb, B'⟩ := B.arv hM fB
  obtain ⟨x1, x2⟩ := clamp_of hx
  obtain ⟨y1, y2⟩ := clamp_of hy
  obtain ⟨z1, z2⟩ := clamp_of hz
  obtain ⟨-, n2⟩ := clamp_of (Int32.toInt_ofNat_small hN)
  obtain ⟨-, m2⟩ := clamp_of (Int32.toInt_ofNat_small hM)
  obtain ⟨T', h', L', X', eT, N', K, V, st⟩ := cpA X C.1 hWm hown w1 w2 w3 w4 eh A' B' (Or.inl ⟨rfl, rfl⟩) x1 y1 z1 (by rw [x2, z2, n2]; exact h4) (by rw [y2, z2, m2]; exact h5) rfl (by rw [y2, z2]; simpa using h5) N0 ge (g := mkF m pc L (.int z :: .int y :: .ref b :: .int x :: .ref a :: r)) rfl (hsz.trans C.2.2.2.1.symm) rfl (hb C.2.2.1 hd) hf (W := W) (by simpa using hW) (by rw [nativeFrameWords_plain 5 (by decide)]; omega)
  have hsf : ∀ x ∈ [b], Safe Z EL vm0 h x := fun x q => by rw [List.mem_singleton.mp q]; exact (hF b sf).2
  refine (kk T' h' ⟨L', vm0, k1, X', N', eT, hSi, Nat.le_trans hk1 K.1, hWm, hown, hCH.trans (CHr.keep K hsf hCH.1), hF.chr (CHr.keep K hsf hCH.1)⟩ K ?_).st st
  obtain ⟨cl, Q1, -, Q2, -, Q3, -⟩ := V
  rw [m2] at Q2
  refine ⟨cl, Q1, Q2, fun q hq => ?_⟩
  rw [Q3 q (by rw [Q2]; exact hq), x2, y2, z2]
  congr 1
  simp only [List.getD_eq_getElem?_getD]
  have ltk : (((List.range M).map f2).take i2).length = i2 := by simp; omega
  by_cases c1 : q < i2
  · rw [if_neg (by omega), List.append_assoc, List.getElem?_append_left (by omega), List.getElem?_take_of_lt c1]; simp [hq]
  · by_cases c2 : q < i2 + i3
    · rw [if_pos ⟨by omega, c2⟩, List.getElem?_append_left (by rw [List.length_append, ltk]; simp; omega), List.getElem?_append_right (by omega), ltk]
      simp [show q - i2 < i3 by omega, show i1 + (q - i2) < N by omega]
    · rw [if_neg (by omega), List.getElem?_append_right (by rw [List.length_append, ltk]; simp; omega), List.length_append, ltk]
      simp [show i2 + i3 + (q - (i2 + i3)) = q by omega, hq]
theorem fld_uniq {C nm d : String} {v v' : Value} (F : Fld Z h a C nm d v) (F' : Fld Z h a C nm d v') : v = v' := by
  obtain ⟨cell, cf, kf, i, fd, h1, h2, h3, h4, h5, h6, h7⟩ := F
  obtain ⟨cell', cf', kf', i', fd', g1, g2, g3, g4, g5, g6, g7⟩ := F'
  cases h1.symm.trans g1
  cases h2.symm.trans g2
  exact Option.some.inj (h7.symm.trans g7)
theorem Ary.uniq {ty' : FieldType} {M : Nat} {f2 : Nat → Value} (A : Ary Z h a ty N f) (B : Ary Z h a ty' M f2) : N = M ∧ ∀ i, i < N → f i = f2 i := by
  obtain ⟨c, A, s, z⟩ := A
  obtain ⟨c', B, s', z'⟩ := B
  cases A.1.symm.trans B.1
  exact ⟨s.symm.trans s', fun i hi => Option.some.inj ((z i hi).symm.trans (z' i (by omega)))⟩
theorem On.hd (S : On p l e R s m args below meth c Z EL own n0 T h (a :: PS) k n) : a ∈ a :: PS := List.mem_cons_self
theorem Ary.nostat (A : Ary Z h a ty N f) : ∀ cell : Cell, h[a]? = some cell → cell.vm.isStatics = false := fun cell q => by
  obtain ⟨c, A, -⟩ := A
  have e := Option.some.inj (A.1.symm.trans q)
  subst e
  have := A.2.1.1
  cases hv : c.vm <;> simp_all [VmData.isStatics]
theorem Sta.keep0 {C nm d : String} (F : Sta Z h C nm d v) (K : Keep h h' []) : Sta Z h' C nm d v := by
  obtain ⟨cf, i, k, f, st, cell, h1, h2, h3, h4, h5, r⟩ := F; exact ⟨cf, i, k, f, st, cell, h1, h2, h3, h4, K.2.1 _ _ h5 nin0, r⟩
theorem Sta.keep1 {C nm d : String} (F : Sta Z h C nm d v) (K : Keep h h' [a]) (q : ∀ cell : Cell, h[a]? = some cell → cell.vm.isStatics = false) : Sta Z h' C nm d v := by
  obtain ⟨cf, i, k, f, st, cell, h1, h2, h3, h4, h5, h6, r⟩ := F; exact ⟨cf, i, k, f, st, cell, h1, h2, h3, h4, K.2.1 _ _ h5 (ninS (fun e => by subst e; rw [q _ h5] at h6; cases h6) nin0), h6, r⟩
theorem ge_of {z : Nat} (e1 : a = z) (q : n0 ≤ z) : n0 ≤ a := e1 ▸ q
theorem ne_new (e1 : b = h.size) (q : a < h.size) : a ≠ b := fun e => by rw [e, e1] at q; exact Nat.lt_irrefl _ q
end OwnKit
theorem elw {Z : State} {a0 : Array Value} (hw : ∀ d ∈ tables_1, d.before a0 Z = true) : EW Z a0 consts_1 ∧ ∀ a ∈ Bundle.stringAtoms, a.before a0 Z = true := by
  refine ⟨(EW.cons (hw _ (List.mem_of_getElem? (i := 22) rfl)) (by decide) (EW.cons (hw _ (List.mem_of_getElem? (i := 131) rfl)) (by decide) EW.nil)), fun a ha => ?_⟩
  simp only [Bundle.stringAtoms, Bundle.sN, List.mem_cons, List.not_mem_nil, or_false] at ha
  rcases ha with rfl | rfl | rfl | rfl | rfl | rfl | rfl
  · exact (hw _ (List.mem_of_getElem? (i := 10) rfl))
  · exact (hw _ (List.mem_of_getElem? (i := 9) rfl))
  · exact (hw _ (List.mem_of_getElem? (i := 23) rfl))
  · exact (hw _ (List.mem_of_getElem? (i := 24) rfl))
  · exact (hw _ (List.mem_of_getElem? (i := 25) rfl))
  · exact (hw _ (List.mem_of_getElem? (i := 26) rfl))
  · exact (hw _ (List.mem_of_getElem? (i := 27) rfl))
/-! ## bytes and chars in plain numbers -/
theorem o32 {k : Nat} (h : k < 2 ^ 31) : (Int32.ofNat k).toInt = (k : Int) := Int32.toInt_ofNat_small h
theorem o32_succ (k : Nat) : Int32.ofNat k + 1 = Int32.ofNat (k + 1) := (Int32.ofNat_add k 1).symm
theorem o32_sub (j k : Nat) : Int32.ofNat (j + k) - Int32.ofNat k = Int32.ofNat j := by rw [Int32.ofNat_add, Int32.add_sub_cancel]
theorem o32_lt {j k : Nat} (hj : j < 2 ^ 31) (hk : k < 2 ^ 31) : (Int32.ofNat j < Int32.ofNat k) ↔ j < k := by rw [Int32.lt_iff_toInt_lt, o32 hj, o32 hk]; omega
theorem o32_inj {j k : Nat} (hj : j < 2 ^ 31) (hk : k < 2 ^ 31) : (Int32.ofNat j = Int32.ofNat k) ↔ j = k := by rw [← Int32.toInt_inj, o32 hj, o32 hk]; omega
theorem o32_neg {k : Nat} (h : k < 2 ^ 31) : ¬ Int32.ofNat k < 0 := fun z => by
  rw [Int32.lt_iff_toInt_lt, o32 h] at z
  have : (0 : Int32).toInt = 0 := rfl
  omega
def bt (c : Int32) : Int32 := c.toInt8.toInt32
theorem bt_idem (c : Int32) : (bt c).toInt8.toInt32 = bt c := by unfold bt; rw [Int8.toInt8_toInt32]
theorem bt_toInt (c : Int32) : (bt c).toInt = c.toInt.bmod 256 := by unfold bt; rw [Int8.toInt_toInt32, Int32.toInt_toInt8]
theorem bt_fits (c : Int32) : fits .byte (.int (bt c)) = true := Jvm.Free.SBG.fits_of_int8 _
def Lat (cf : Nat → Int32) (N : Nat) : Prop := ∀ i, i < N → 0 ≤ (cf i).toInt ∧ (cf i).toInt ≤ 255
theorem bt_inj {c d : Int32} (hc : 0 ≤ c.toInt ∧ c.toInt ≤ 255) (hd : 0 ≤ d.toInt ∧ d.toInt ≤ 255) (h : bt c = bt d) : c = d := by
  have e := congrArg Int32.toInt h
  rw [bt_toInt, bt_toInt, Int.bmod_def, Int.bmod_def] at e
  rw [← Int32.toInt_inj]
  split at e <;> split at e <;> omega
theorem lat_255 {c : Int32} (h : c.toInt ≤ 255) : ¬ (255 : Int32) < c := fun z => by
  rw [Int32.lt_iff_toInt_lt] at z
  have : (255 : Int32).toInt = 255 := by decide
  omega
theorem cm_set {cf : Nat → Int32} (N i : Nat) : ∀ q, q < N → (if q = i then Value.int (nar .byte ((cf i).toInt8.toInt32)) else if q < i then .int (bt (cf q)) else .int 0) = (if q < i + 1 then .int (bt (cf q)) else .int 0) := fun q hq => by
  by_cases u : q = i
  · subst u; rw [if_pos rfl, if_pos (Nat.lt_succ_self _)]; exact congrArg Value.int (bt_idem (cf q))
  · rw [if_neg u]
    by_cases w : q < i
    · rw [if_pos w, if_pos (by omega)]
    · rw [if_neg w, if_neg (by omega)]
theorem sub_self_b (x : Int32) : (((x - x).toUInt32 >>> ((31 : Int32) &&& 31).toUInt32).toInt32.toInt8.toInt32) = 0 := by rw [Int32.sub_self]; decide
theorem z32_of {k : Nat} (h : k < 2 ^ 31) (e : Int32.ofNat k = 0) : k = 0 := (o32_inj h (by decide)).mp e
theorem mask_lat (x : Int32) : 0 ≤ (x &&& 255).toInt ∧ (x &&& 255).toInt ≤ 255 := by
  have e := Jvm.Kit.i32_mask x 255 (k := 8) (by decide) (by decide)
  omega
theorem draw_lat (x : Int32) : 0 ≤ ((x &&& 255).toUInt32.toUInt16.toUInt32.toInt32).toInt ∧ ((x &&& 255).toUInt32.toUInt16.toUInt32.toInt32).toInt ≤ 255 := by rw [i2c_mask]; exact mask_lat x
theorem char_nar {c : Int32} (h : 0 ≤ c.toInt ∧ c.toInt ≤ 255) : narrow .char (.int c) = .int c := by
  have e : c = c &&& 255 := by
    have e := Jvm.Kit.i32_mask c 255 (k := 8) (by decide) (by decide)
    rw [← Int32.toInt_inj]; omega
  rw [e]
  exact congrArg Value.int (i2c_mask c)
theorem nar_char {c : Int32} (h : 0 ≤ c.toInt ∧ c.toInt ≤ 255) : nar .char c = c := by
  have e := char_nar h
  exact Value.int.inj e
theorem exa_ary {Z : State} {h : Heap} {x b : Addr} {K : String} {ty : FieldType} {N : Nat} {f : Nat → Value} {a0 : Array Value} {n : Nat} (E : Exa Z h x K) (A : Ary Z h b ty N f) (w : (Jvm.Cond.instantiable K n).before a0 Z = true) : x ≠ b := fun e => by
  subst e
  obtain ⟨c, k, e1, e2, e3, -, -⟩ := E
  obtain ⟨c', A, -⟩ := A
  have q := Option.some.inj (A.1.symm.trans e1)
  subst q
  obtain ⟨-, kA, hkA, comp, hkind⟩ := A.2.1
  obtain ⟨cI, kI, hfI, hkI, hkindI, -⟩ := Cond.instantiable_spec w
  have q := Option.some.inj (hfI.symm.trans e2)
  subst q
  have q := Option.some.inj (hkA.symm.trans hkI)
  subst q
  rw [hkindI] at hkind; cases hkind
theorem of_not_ne {x y : Int32} (h : x = y) : x = y := h
theorem shr0 (x : Int32) : x >>> ((0 : Int32) &&& 31) = x := by
  rw [show ((0 : Int32) &&& 31) = 0 by decide]
  exact Int32.shiftRight_zero
def Byt (g : Nat → Int32) (N : Nat) : Prop := ∀ i, i < N → fits .byte (.int (g i)) = true
theorem Byt.of (cf : Nat → Int32) (N : Nat) : Byt (fun q => bt (cf q)) N := fun i _ => bt_fits _
/-- what indexOf(' ') finds -/
def IxAt (g : Nat → Int32) (N : Nat) (v : Option Value) : Prop := (∃ i, i < N ∧ v = some (.int (Int32.ofNat i)) ∧ g i = 32 ∧ ∀ j, j < i → ¬ g j = 32) ∨ (v = some (.int (-1)) ∧ ∀ j, j < N → ¬ g j = 32)
def EqAt (g g' : Nat → Int32) (N M : Nat) (v : Option Value) : Prop := (v = some (.int 1) ∧ N = M ∧ ∀ i, i < N → g i = g' i) ∨ (v = some (.int 0) ∧ ¬ (N = M ∧ ∀ i, i < N → g i = g' i))
theorem eq_step {g g' : Nat → Int32} {i : Nat} (h : ∀ j, j < i → g j = g' j) (e : g i = g' i) : ∀ j, j < i + 1 → g j = g' j := fun j hj => by
  rcases Nat.lt_or_ge j i with q | q
  · exact h j q
  · have : j = i := by omega
    rw [this]; exact e
theorem ne_step {g : Nat → Int32} {i : Nat} {c : Int32} (h : ∀ j, j < i → ¬ g j = c) (e : ¬ g i = c) : ∀ j, j < i + 1 → ¬ g j = c := fun j hj => by
  rcases Nat.lt_or_ge j i with q | q
  · exact h j q
  · have : j = i := by omega
    rw [this]; exact e
theorem b32 : ((32 : Int32).toInt8.toInt32) = 32 := by decide
theorem vint_inj {x y : Int32} (h : Value.int x = .int y) : x = y := Value.int.inj h
theorem IxAt.val {g : Nat → Int32} {N : Nat} {v : Option Value} (h : IxAt g N v) : ∃ z, v = some (.int z) ∧ IxAt g N (some (.int z)) := by
  rcases h with ⟨i, q, rfl, r⟩ | ⟨rfl, q⟩
  · exact ⟨_, rfl, Or.inl ⟨i, q, rfl, r⟩⟩
  · exact ⟨_, rfl, Or.inr ⟨rfl, q⟩⟩
theorem IxAt.pos {g : Nat → Int32} {N : Nat} {z : Int32} (h : IxAt g N (some (.int z))) (q : ¬ z < 0) : ∃ E, z = Int32.ofNat E ∧ E < N ∧ g E = 32 ∧ ∀ j, j < E → ¬ g j = 32 := by
  rcases h with ⟨i, h1, h2, r⟩ | ⟨e, r⟩
  · exact ⟨i, Value.int.inj (Option.some.inj h2), h1, r⟩
  · rw [Value.int.inj (Option.some.inj e)] at q; exact absurd (by decide) q
theorem IxAt.neg {g : Nat → Int32} {N : Nat} {z : Int32} (hN : N < 2 ^ 31) (h : IxAt g N (some (.int z))) (q : z < 0) : ∀ j, j < N → ¬ g j = 32 := by
  rcases h with ⟨i, h1, h2, r⟩ | ⟨e, r⟩
  · rw [Value.int.inj (Option.some.inj h2)] at q; exact absurd q (o32_neg (by omega))
  · exact r
theorem pos32 {N : Nat} (h : N < 2 ^ 31) : ((0 : Int32) < Int32.ofNat N) ↔ 0 < N := o32_lt (j := 0) (by decide) h
/-- the part before the first space, or the whole -/
def TokAt (g : Nat → Int32) (N E : Nat) : Prop := (E < N ∧ g E = 32 ∧ ∀ j, j < E → ¬ g j = 32) ∨ (E = N ∧ ∀ j, j < N → ¬ g j = 32)
theorem TokAt.uniq {g : Nat → Int32} {N E E' : Nat} (h : TokAt g N E) (h' : TokAt g N E') : E = E' := by
  rcases h with ⟨a, b, c⟩ | ⟨rfl, c⟩ <;> rcases h' with ⟨a', b', c'⟩ | ⟨rfl, c'⟩
  · rcases Nat.lt_trichotomy E E' with q | q | q
    · exact absurd b (c' _ q)
    · exact q
    · exact absurd b' (c _ q)
  · exact absurd b (c' _ a)
  · exact absurd b' (c _ a')
  · rfl
theorem TokAt.le {g : Nat → Int32} {N E : Nat} (h : TokAt g N E) : E ≤ N := by rcases h with ⟨a, -⟩ | ⟨rfl, -⟩ <;> omega
theorem dc2_0 : decode jdk_52_method_21_code 0 = .ok (.iconst 0, 1) := by decide +kernel
theorem dc2_1 : decode jdk_52_method_21_code 1 = .ok (.istore 5, 2) := by decide +kernel
theorem dc2_3 : decode jdk_52_method_21_code 3 = .ok (.iload 5, 2) := by decide +kernel
theorem dc2_5 : decode jdk_52_method_21_code 5 = .ok (.iload 4, 2) := by decide +kernel
theorem dc2_7 : decode jdk_52_method_21_code 7 = .ok (.if_icmp .ge 37, 3) := by decide +kernel
theorem dc2_10 : decode jdk_52_method_21_code 10 = .ok (.aload_n 0, 1) := by decide +kernel
theorem dc2_11 : decode jdk_52_method_21_code 11 = .ok (.iload_n 1, 1) := by decide +kernel
theorem dc2_12 : decode jdk_52_method_21_code 12 = .ok (.caload, 1) := by decide +kernel
theorem dc2_13 : decode jdk_52_method_21_code 13 = .ok (.istore 6, 2) := by decide +kernel
theorem dc2_15 : decode jdk_52_method_21_code 15 = .ok (.iload 6, 2) := by decide +kernel
theorem dc2_17 : decode jdk_52_method_21_code 17 = .ok (.sipush 255, 3) := by decide +kernel
theorem dc2_20 : decode jdk_52_method_21_code 20 = .ok (.if_icmp .le 6, 3) := by decide +kernel
theorem dc2_26 : decode jdk_52_method_21_code 26 = .ok (.aload_n 2, 1) := by decide +kernel
theorem dc2_27 : decode jdk_52_method_21_code 27 = .ok (.iload_n 3, 1) := by decide +kernel
theorem dc2_28 : decode jdk_52_method_21_code 28 = .ok (.iload 6, 2) := by decide +kernel
theorem dc2_30 : decode jdk_52_method_21_code 30 = .ok (.i2b, 1) := by decide +kernel
theorem dc2_31 : decode jdk_52_method_21_code 31 = .ok (.bastore, 1) := by decide +kernel
theorem dc2_32 : decode jdk_52_method_21_code 32 = .ok (.iinc 1 1, 3) := by decide +kernel
theorem dc2_35 : decode jdk_52_method_21_code 35 = .ok (.iinc 3 1, 3) := by decide +kernel
theorem dc2_38 : decode jdk_52_method_21_code 38 = .ok (.iinc 5 1, 3) := by decide +kernel
theorem dc2_41 : decode jdk_52_method_21_code 41 = .ok (.goto (-38), 3) := by decide +kernel
theorem dc2_44 : decode jdk_52_method_21_code 44 = .ok (.iload 4, 2) := by decide +kernel
theorem dc2_46 : decode jdk_52_method_21_code 46 = .ok (.ireturn, 1) := by decide +kernel
set_option maxRecDepth 65536 in
set_option maxHeartbeats 40000000 in
theorem c_cm2 (l : Launch) (Z : State) (a0 : Array Value) (hw : ∀ d ∈ tables_1, d.before a0 Z = true) (a1 : Addr) (a3 : Addr) (h0 : Heap) (n0 : Nat) (N : Nat) (cf : Nat → Int32) (hN : N ≤ 8) (hL : Lat cf N) (ga : n0 ≤ a3) (ne : a1 ≠ a3) (A_a1 : Ary Z h0 a1 .char N (fun q => .int (cf q))) (A_a3 : Ary Z h0 a3 .byte N (fun _ => .int (0 : Int32))) :
    Con l Z consts_1 [a3] (⟨"java/lang/StringUTF16", "compress", "([CI[BII)I"⟩ : MethodName) jdk_52_method_21_code 7 (some .int) ({ frames := 0, cells := 0, slots := 0, locals := 0 } : Room) #[(.ref a1), (.int (0 : Int32)), (.ref a3), (.int (0 : Int32)), (.int (Int32.ofNat N))] h0 n0 (fun v h _ => v = some (.int (Int32.ofNat N)) ∧ Keep h0 h [a3] ∧ Ary Z h a3 .byte N (fun q => .int (bt (cf q)))) := by
  refine Con.of (plainFor_of_name (by first | (simp [plainName, overriddenIn]; done) | decide +kernel)) (elw hw) (L0 := #[.val (.ref a1), .val (.int (0 : Int32)), .val (.ref a3), .val (.int (0 : Int32)), .val (.int (Int32.ofNat N)), .unset, .unset]) (fun m => by first | (simp [entryFrame, mkF, argsToLocals, Value.category]; done) | rfl) ?_
  intro p e s m below meth c T C S
  have pm_a3 : a3 ∈ [a3] := List.mem_of_getElem? (i := 0) rfl
  have LP : ∀ (d : Nat) (i : Nat) (s6 : Slot), i + d = N → (s6 = .unset ∨ ∃ w, s6 = .val w ∧ w.category = 1) → ∀ (T : State) (h : Heap) (PS : List Addr), On p l e ({ frames := 0, cells := 0, slots := 0, locals := 0 } : Room) s m #[(.ref a1), (.int (0 : Int32)), (.ref a3), (.int (0 : Int32)), (.int (Int32.ofNat N))] below meth c Z consts_1 "java/lang/StringUTF16" n0 T h PS 0 0 → a3 ∈ PS → Ary Z h a1 .char N (fun q => .int (cf q)) → Ary Z h a3 .byte N (fun q => if q < i then .int (bt (cf q)) else .int 0) → Keep h0 h [a3] → Gl p e below s Z consts_1 ({ frames := 0, cells := 0, slots := 0, locals := 0 } : Room) n0 (fun v h _ => v = some (.int (Int32.ofNat N)) ∧ Keep h0 h [a3] ∧ Ary Z h a3 .byte N (fun q => .int (bt (cf q)))) T (mkF m 3 #[.val (.ref a1), .val (.int (Int32.ofNat i)), .val (.ref a3), .val (.int (Int32.ofNat i)), .val (.int (Int32.ofNat N)), .val (.int (Int32.ofNat i)), s6] []) := by
    intro d
    induction d with
    | zero =>
      intro i s6 hd hs6 T h PS S pm_a3 A_a1 A_a3 Kp
      refine g_iload C S dc2_3 (pc' := 5) rfl rfl ?_
      refine g_iload C S dc2_5 (pc' := 7) rfl rfl ?_
      refine g_icmp_ge C S dc2_7 (pc' := 44) (pf := 10) (by decide) (by decide) rfl (fun hc7 => ?_) (fun hc7 => absurd hc7 (by rw [o32_lt (by omega) (by omega)]; omega))
      refine g_iload C S dc2_44 (pc' := 46) rfl rfl ?_
      exact g_retI C S dc2_46 (by decide) (by decide) (⟨rfl, Kp, A_a3.cg fun q hq => if_pos (by omega)⟩)
    | succ d ih =>
      intro i s6 hd hs6 T h PS S pm_a3 A_a1 A_a3 Kp
      refine g_iload C S dc2_3 (pc' := 5) rfl rfl ?_
      refine g_iload C S dc2_5 (pc' := 7) rfl rfl ?_
      refine g_icmp_ge C S dc2_7 (pc' := 44) (pf := 10) (by decide) (by decide) rfl (fun hc7 => absurd ((o32_lt (by omega) (by omega)).mpr (by omega)) hc7) (fun hc7 => ?_)
      refine g_aloadN C S dc2_10 (pc' := 11) rfl rfl rfl ?_
      refine g_iloadN C S dc2_11 (pc' := 12) rfl rfl ?_
      refine g_caload C S (i := i) (v := (.int (cf i))) dc2_12 A_a1 (o32 (by omega)) (by omega) rfl (pc' := 13) rfl ?_
      refine g_istore C S dc2_13 (pc' := 15) rfl (L' := #[.val (.ref a1), .val (.int (Int32.ofNat i)), .val (.ref a3), .val (.int (Int32.ofNat i)), .val (.int (Int32.ofNat N)), .val (.int (Int32.ofNat i)), .val (.int (cf i))]) (XS.store1 rfl hs6 rfl) ?_
      refine g_iload C S dc2_15 (pc' := 17) rfl rfl ?_
      refine g_sipush C S (255 : Int32) dc2_17 (pc' := 20) rfl rfl ?_
      refine g_icmp_le C S dc2_20 (pc' := 26) (pf := 23) (by decide) (by decide) rfl (fun hc20 => ?_) (fun hc20 => absurd hc20 (lat_255 (hL i (by omega)).2))
      refine g_aloadN C S dc2_26 (pc' := 27) rfl rfl rfl ?_
      refine g_iloadN C S dc2_27 (pc' := 28) rfl rfl ?_
      refine g_iload C S dc2_28 (pc' := 30) rfl rfl ?_
      refine g_i2b C S dc2_30 (pc' := 31) rfl ?_
      refine g_bastoreB C S (i := i) dc2_31 A_a3 (o32 (by omega)) (by omega) ga pm_a3 (pc' := 32) rfl (fun T21 h21 S W21 B21 => ?_)
      have A_a1 := A_a1.other W21 ne
      have A_a3 := B21
      have Kp := Kp.wr W21 (Or.inl (List.mem_of_getElem? (i := 0) rfl))
      refine g_iinc C S (1 : Int32) dc2_32 (pc' := 35) rfl rfl rfl (L' := #[.val (.ref a1), .val (.int ((Int32.ofNat i) + (1 : Int32))), .val (.ref a3), .val (.int (Int32.ofNat i)), .val (.int (Int32.ofNat N)), .val (.int (Int32.ofNat i)), .val (.int (cf i))]) rfl ?_
      refine g_iinc C S (1 : Int32) dc2_35 (pc' := 38) rfl rfl rfl (L' := #[.val (.ref a1), .val (.int ((Int32.ofNat i) + (1 : Int32))), .val (.ref a3), .val (.int ((Int32.ofNat i) + (1 : Int32))), .val (.int (Int32.ofNat N)), .val (.int (Int32.ofNat i)), .val (.int (cf i))]) rfl ?_
      refine g_iinc C S (1 : Int32) dc2_38 (pc' := 41) rfl rfl rfl (L' := #[.val (.ref a1), .val (.int ((Int32.ofNat i) + (1 : Int32))), .val (.ref a3), .val (.int ((Int32.ofNat i) + (1 : Int32))), .val (.int (Int32.ofNat N)), .val (.int ((Int32.ofNat i) + (1 : Int32))), .val (.int (cf i))]) rfl ?_
      refine g_goto C S dc2_41 (pc' := 3) (by decide) (by decide) ?_
      rw [o32_succ]
      exact ih (i + 1) _ (by omega) (Or.inr ⟨_, rfl, rfl⟩) _ _ _ S pm_a3 A_a1 (A_a3.cg (cm_set N i)) Kp
  refine g_iconst C S (0 : Int32) dc2_0 (pc' := 1) rfl rfl ?_
  refine g_istore C S dc2_1 (pc' := 3) rfl (L' := #[.val (.ref a1), .val (.int (0 : Int32)), .val (.ref a3), .val (.int (0 : Int32)), .val (.int (Int32.ofNat N)), .val (.int (0 : Int32)), .unset]) rfl ?_
  exact LP N 0 _ (by omega) (Or.inl rfl) _ _ _ S pm_a3 A_a1 (A_a3.cg fun q hq => (if_neg (Nat.not_lt_zero q)).symm) (Keep.refl _ _)
theorem pd_0 : parseMethodDescriptor "([CI[BII)I" = some ⟨[(.array .char), .int, (.array .byte), .int, .int], some .int⟩ := by decide +kernel
theorem dc1_0 : decode jdk_52_method_16_code 0 = .ok (.iload_n 2, 1) := by decide +kernel
theorem dc1_1 : decode jdk_52_method_16_code 1 = .ok (.newarray .byte, 2) := by decide +kernel
theorem dc1_3 : decode jdk_52_method_16_code 3 = .ok (.astore_n 3, 1) := by decide +kernel
theorem dc1_4 : decode jdk_52_method_16_code 4 = .ok (.aload_n 0, 1) := by decide +kernel
theorem dc1_5 : decode jdk_52_method_16_code 5 = .ok (.iload_n 1, 1) := by decide +kernel
theorem dc1_6 : decode jdk_52_method_16_code 6 = .ok (.aload_n 3, 1) := by decide +kernel
theorem dc1_7 : decode jdk_52_method_16_code 7 = .ok (.iconst 0, 1) := by decide +kernel
theorem dc1_8 : decode jdk_52_method_16_code 8 = .ok (.iload_n 2, 1) := by decide +kernel
theorem dc1_9 : decode jdk_52_method_16_code 9 = .ok (.invokestatic 115, 3) := by decide +kernel
theorem dc1_12 : decode jdk_52_method_16_code 12 = .ok (.istore 4, 2) := by decide +kernel
theorem dc1_14 : decode jdk_52_method_16_code 14 = .ok (.iload 4, 2) := by decide +kernel
theorem dc1_16 : decode jdk_52_method_16_code 16 = .ok (.iload_n 2, 1) := by decide +kernel
theorem dc1_17 : decode jdk_52_method_16_code 17 = .ok (.if_icmp .eq 40, 3) := by decide +kernel
theorem dc1_57 : decode jdk_52_method_16_code 57 = .ok (.aload_n 3, 1) := by decide +kernel
theorem dc1_58 : decode jdk_52_method_16_code 58 = .ok (.areturn, 1) := by decide +kernel
set_option maxRecDepth 65536 in
set_option maxHeartbeats 40000000 in
theorem c_cm1 (l : Launch) (Z : State) (a0 : Array Value) (hw : ∀ d ∈ tables_1, d.before a0 Z = true) (a1 : Addr) (h0 : Heap) (n0 : Nat) (N : Nat) (cf : Nat → Int32) (hN : N ≤ 8) (hL : Lat cf N) (Zn : n0 ≤ h0.size) (A_a1 : Ary Z h0 a1 .char N (fun q => .int (cf q))) :
    Con l Z consts_1 [] (⟨"java/lang/StringUTF16", "compress", "([CII)[B"⟩ : MethodName) jdk_52_method_16_code 6 (some (.array .byte)) ({ frames := 1, cells := 1, slots := 8, locals := 18 } : Room) #[(.ref a1), (.int (0 : Int32)), (.int (Int32.ofNat N))] h0 n0 (fun v h _ => ∃ b, v = some (.ref b) ∧ Keep h0 h [] ∧ Ary Z h b .byte N (fun q => .int (bt (cf q)))) := by
  refine Con.of (plainFor_of_name (by first | (simp [plainName, overriddenIn]; done) | decide +kernel)) (elw hw) (L0 := #[.val (.ref a1), .val (.int (0 : Int32)), .val (.int (Int32.ofNat N)), .unset, .unset, .unset]) (fun m => by first | (simp [entryFrame, mkF, argsToLocals, Value.category]; done) | rfl) ?_
  intro p e s m below meth c T C S
  have Kp := Keep.refl h0 []
  refine g_iloadN C S dc1_0 (pc' := 1) rfl rfl ?_
  refine g_newarray C S (N := N) (cap := 8) dc1_1 (hw _ (List.mem_of_getElem? (i := 23) rfl)) (o32 (by omega)) (by omega) (by decide) (by decide) (by decide) (pc' := 3) rfl (fun T22 h22 a22 S g22 E22 A_a22 => ?_)
  have ne_a1_a22 : a1 ≠ a22 := ne_new g22 A_a1.lt
  have sz_a22 : h0.size ≤ a22 := ge_of g22 Kp.1
  have ge_a22 : n0 ≤ a22 := ge_of g22 Zn
  have pm_a22 := On.hd S
  have Kp := Kp.ext E22
  have A_a1 := A_a1.ext E22
  have Zn := Nat.le_trans Zn E22.1
  have A_a22 : Ary Z h22 a22 .byte N (fun _ => (.int (0 : Int32))) := A_a22
  refine g_astoreN C S dc1_3 (pc' := 4) rfl rfl (L' := #[.val (.ref a1), .val (.int (0 : Int32)), .val (.int (Int32.ofNat N)), .val (.ref a22), .unset, .unset]) rfl ?_
  refine g_aloadN C S dc1_4 (pc' := 5) rfl rfl rfl ?_
  refine g_iloadN C S dc1_5 (pc' := 6) rfl rfl ?_
  refine g_aloadN C S dc1_6 (pc' := 7) rfl rfl rfl ?_
  refine g_iconst C S (0 : Int32) dc1_7 (pc' := 8) rfl rfl ?_
  refine g_iloadN C S dc1_8 (pc' := 9) rfl rfl ?_
  refine g_callS C S (rm := ({ frames := 0, cells := 0, slots := 0, locals := 0 } : Room)) (W := 0) dc1_9 (hw _ (List.mem_of_getElem? (i := 87) rfl)) (hw _ (List.mem_of_getElem? (i := 88) rfl)) (hw _ (List.mem_of_getElem? (i := 85) rfl)) (hw _ (List.mem_of_getElem? (i := 89) rfl)) (by decide) (c_cm2 l Z a0 hw a1 a22 h22 n0 N cf hN hL ge_a22 ne_a1_a22 A_a1 A_a22) (argsL := [(.ref a1), (.int (0 : Int32)), (.ref a22), (.int (0 : Int32)), (.int (Int32.ofNat N))]) (r := []) rfl (allS pm_a22 all0) (lenOf pd_0 rfl) rfl (Nat.le_of_eq rfl) (by decide) (by decide) (by decide) (by decide) (pc' := 12) rfl (fun T23 h23 v23 P23 q23 S => ?_)
  have pm_a22 := List.mem_append_right P23 pm_a22
  obtain ⟨rfl, K23, B23⟩ := q23
  have Kp := Kp.trans K23 (allS (Or.inr sz_a22) all0)
  have A_a1 := A_a1.keep K23 (ninS ne_a1_a22 nin0)
  have Zn := Nat.le_trans Zn K23.1
  have A_a22 := B23
  show Gl p e below s Z consts_1 _ n0 _ T23 (mkF m 12 #[.val (.ref a1), .val (.int (0 : Int32)), .val (.int (Int32.ofNat N)), .val (.ref a22), .unset, .unset] [(.int (Int32.ofNat N))])
  refine g_istore C S dc1_12 (pc' := 14) rfl (L' := #[.val (.ref a1), .val (.int (0 : Int32)), .val (.int (Int32.ofNat N)), .val (.ref a22), .val (.int (Int32.ofNat N)), .unset]) rfl ?_
  refine g_iload C S dc1_14 (pc' := 16) rfl rfl ?_
  refine g_iloadN C S dc1_16 (pc' := 17) rfl rfl ?_
  refine g_icmp_eq C S dc1_17 (pc' := 57) (pf := 20) (by decide) (by decide) rfl (fun hc17 => ?_) (fun hc17 => absurd rfl hc17)
  refine g_aloadN C S dc1_57 (pc' := 58) rfl rfl rfl ?_
  exact g_retA C S dc1_58 rfl rfl rfl (by decide) (by decide) (⟨_, rfl, Kp, A_a22⟩)
theorem dca_0 : decode jdk_52_method_15_code 0 = .ok (.iload_n 1, 1) := by decide +kernel
theorem dca_1 : decode jdk_52_method_15_code 1 = .ok (.aload_n 0, 1) := by decide +kernel
theorem dca_2 : decode jdk_52_method_15_code 2 = .ok (.arraylength, 1) := by decide +kernel
theorem dca_3 : decode jdk_52_method_15_code 3 = .ok (.isub, 1) := by decide +kernel
theorem dca_4 : decode jdk_52_method_15_code 4 = .ok (.bipush 31, 2) := by decide +kernel
theorem dca_6 : decode jdk_52_method_15_code 6 = .ok (.iushr, 1) := by decide +kernel
theorem dca_7 : decode jdk_52_method_15_code 7 = .ok (.i2b, 1) := by decide +kernel
theorem dca_8 : decode jdk_52_method_15_code 8 = .ok (.ireturn, 1) := by decide +kernel
set_option maxRecDepth 65536 in
set_option maxHeartbeats 40000000 in
theorem c_cfa (l : Launch) (Z : State) (a0 : Array Value) (hw : ∀ d ∈ tables_1, d.before a0 Z = true) (a1 : Addr) (h0 : Heap) (n0 : Nat) (N : Nat) (f : Nat → Value) (A_a1 : Ary Z h0 a1 .byte N f) :
    Con l Z consts_1 [] (⟨"java/lang/StringUTF16", "coderFromArrayLen", "([BI)B"⟩ : MethodName) jdk_52_method_15_code 2 (some .byte) ({ frames := 0, cells := 0, slots := 0, locals := 0 } : Room) #[(.ref a1), (.int (Int32.ofNat N))] h0 n0 (fun v h _ => v = some (.int 0) ∧ h = h0) := by
  refine Con.of (plainFor_of_name (by first | (simp [plainName, overriddenIn]; done) | decide +kernel)) (elw hw) (L0 := #[.val (.ref a1), .val (.int (Int32.ofNat N))]) (fun m => by first | (simp [entryFrame, mkF, argsToLocals, Value.category]; done) | rfl) ?_
  intro p e s m below meth c T C S
  refine g_iloadN C S dca_0 (pc' := 1) rfl rfl ?_
  refine g_aloadN C S dca_1 (pc' := 2) rfl rfl rfl ?_
  refine g_arraylength C S (x := (Int32.ofNat N)) dca_2 A_a1 rfl (pc' := 3) rfl ?_
  refine g_isub C S dca_3 (pc' := 4) rfl ?_
  refine g_bipush C S (31 : Int32) dca_4 (pc' := 6) rfl rfl ?_
  refine g_iushr C S dca_6 (pc' := 7) rfl ?_
  refine g_i2b C S dca_7 (pc' := 8) rfl ?_
  exact g_retB C S dca_8 (by rw [sub_self_b]; rfl) (by decide) (by decide) (⟨by rw [sub_self_b], rfl⟩)
theorem pd_1 : parseMethodDescriptor "([CII)[B" = some ⟨[(.array .char), .int, .int], some (.array .byte)⟩ := by decide +kernel
theorem pd_2 : parseMethodDescriptor "([BI)B" = some ⟨[(.array .byte), .int], some .byte⟩ := by decide +kernel
theorem di4_0 : decode jdk_42_method_149_code 0 = .ok (.aload_n 0, 1) := by decide +kernel
theorem di4_1 : decode jdk_42_method_149_code 1 = .ok (.invokespecial 1, 3) := by decide +kernel
theorem di4_4 : decode jdk_42_method_149_code 4 = .ok (.iload_n 3, 1) := by decide +kernel
theorem di4_5 : decode jdk_42_method_149_code 5 = .ok (.ifCond .ne 22, 3) := by decide +kernel
theorem di4_8 : decode jdk_42_method_149_code 8 = .ok (.aload_n 0, 1) := by decide +kernel
theorem di4_9 : decode jdk_42_method_149_code 9 = .ok (.ldc 7, 2) := by decide +kernel
theorem di4_11 : decode jdk_42_method_149_code 11 = .ok (.getfield 9, 3) := by decide +kernel
theorem di4_14 : decode jdk_42_method_149_code 14 = .ok (.putfield 9, 3) := by decide +kernel
theorem di4_17 : decode jdk_42_method_149_code 17 = .ok (.aload_n 0, 1) := by decide +kernel
theorem di4_18 : decode jdk_42_method_149_code 18 = .ok (.ldc 7, 2) := by decide +kernel
theorem di4_20 : decode jdk_42_method_149_code 20 = .ok (.getfield 15, 3) := by decide +kernel
theorem di4_23 : decode jdk_42_method_149_code 23 = .ok (.putfield 15, 3) := by decide +kernel
theorem di4_26 : decode jdk_42_method_149_code 26 = .ok (.return_, 1) := by decide +kernel
theorem di4_27 : decode jdk_42_method_149_code 27 = .ok (.getstatic 38, 3) := by decide +kernel
theorem di4_30 : decode jdk_42_method_149_code 30 = .ok (.ifCond .eq 28, 3) := by decide +kernel
theorem di4_33 : decode jdk_42_method_149_code 33 = .ok (.aload_n 1, 1) := by decide +kernel
theorem di4_34 : decode jdk_42_method_149_code 34 = .ok (.iload_n 2, 1) := by decide +kernel
theorem di4_35 : decode jdk_42_method_149_code 35 = .ok (.iload_n 3, 1) := by decide +kernel
theorem di4_36 : decode jdk_42_method_149_code 36 = .ok (.invokestatic 177, 3) := by decide +kernel
theorem di4_39 : decode jdk_42_method_149_code 39 = .ok (.astore 5, 2) := by decide +kernel
theorem di4_41 : decode jdk_42_method_149_code 41 = .ok (.aload_n 0, 1) := by decide +kernel
theorem di4_42 : decode jdk_42_method_149_code 42 = .ok (.aload 5, 2) := by decide +kernel
theorem di4_44 : decode jdk_42_method_149_code 44 = .ok (.iload_n 3, 1) := by decide +kernel
theorem di4_45 : decode jdk_42_method_149_code 45 = .ok (.invokestatic 47, 3) := by decide +kernel
theorem di4_48 : decode jdk_42_method_149_code 48 = .ok (.putfield 15, 3) := by decide +kernel
theorem di4_51 : decode jdk_42_method_149_code 51 = .ok (.aload_n 0, 1) := by decide +kernel
theorem di4_52 : decode jdk_42_method_149_code 52 = .ok (.aload 5, 2) := by decide +kernel
theorem di4_54 : decode jdk_42_method_149_code 54 = .ok (.putfield 9, 3) := by decide +kernel
theorem di4_57 : decode jdk_42_method_149_code 57 = .ok (.return_, 1) := by decide +kernel
set_option maxRecDepth 65536 in
set_option maxHeartbeats 40000000 in
theorem c_in4 (l : Launch) (Z : State) (a0 : Array Value) (hw : ∀ d ∈ tables_1, d.before a0 Z = true) (a1 : Addr) (a2 : Addr) (h0 : Heap) (n0 : Nat) (u1 u2 : Value) (N : Nat) (cf : Nat → Int32) (hN : N ≤ 8) (hL : Lat cf N) (ga : n0 ≤ a1) (ne : a1 ≠ a2) (Zn : n0 ≤ h0.size) (cs : Int32) (hcs : ¬ cs = 0) (S_COMPACT_STRINGS : Sta Z h0 "java/lang/String" "COMPACT_STRINGS" "Z" (.int cs)) (X_a1 : Exa Z h0 a1 "java/lang/String") (F_value_a1 : Fld Z h0 a1 "java/lang/String" "value" "[B" u1) (F_coder_a1 : Fld Z h0 a1 "java/lang/String" "coder" "B" u2) (A_a2 : Ary Z h0 a2 .char N (fun q => .int (cf q))) :
    Con l Z consts_1 [a1] (⟨"java/lang/String", "<init>", "([CIILjava/lang/Void;)V"⟩ : MethodName) jdk_42_method_149_code 6 none ({ frames := 2, cells := 4, slots := 8, locals := 36 } : Room) #[(.ref a1), (.ref a2), (.int (0 : Int32)), (.int (Int32.ofNat N)), .null] h0 n0 (fun v h _ => v = none ∧ Keep h0 h [a1] ∧ ∃ b, Exa Z h a1 "java/lang/String" ∧ Fld Z h a1 "java/lang/String" "coder" "B" (.int (0 : Int32)) ∧ Fld Z h a1 "java/lang/String" "value" "[B" (.ref b) ∧ Ary Z h b .byte N (fun q => .int (bt (cf q)))) := by
  refine Con.of (plainFor_of_name (by first | (simp [plainName, overriddenIn]; done) | decide +kernel)) (elw hw) (L0 := #[.val (.ref a1), .val (.ref a2), .val (.int (0 : Int32)), .val (.int (Int32.ofNat N)), .val .null, .unset]) (fun m => by first | (simp [entryFrame, mkF, argsToLocals, Value.category]; done) | rfl) ?_
  intro p e s m below meth c T C S
  have pm_a1 : a1 ∈ [a1] := List.mem_of_getElem? (i := 0) rfl
  have Kp := Keep.refl h0 [a1]
  refine g_aloadN C S di4_0 (pc' := 1) rfl rfl rfl ?_
  refine g_initO C S (W := 0) di4_1 (hw _ (List.mem_of_getElem? (i := 19) rfl)) (hw _ (List.mem_of_getElem? (i := 20) rfl)) (hw _ (List.mem_of_getElem? (i := 21) rfl)) rfl (by decide) (Nat.le_of_eq rfl) (by decide) (pc' := 4) rfl (fun T24 S => ?_)
  refine g_iloadN C S di4_4 (pc' := 5) rfl rfl ?_
  refine g_if_ne C S di4_5 (pc' := 27) (pf := 8) (by decide) (by decide) rfl (fun hc5 => ?_) (fun hc5 => ?_)
  · refine g_getS C S di4_27 (host := "") (Or.inl (hw _ (List.mem_of_getElem? (i := 49) rfl))) Via.refl S_COMPACT_STRINGS (pc' := 30) rfl (fun T25 S => ?_)
    refine g_if_eq C S di4_30 (pc' := 58) (pf := 33) (by decide) (by decide) rfl (fun hc30 => absurd hc30 hcs) (fun hc30 => ?_)
    refine g_aloadN C S di4_33 (pc' := 34) rfl rfl rfl ?_
    refine g_iloadN C S di4_34 (pc' := 35) rfl rfl ?_
    refine g_iloadN C S di4_35 (pc' := 36) rfl rfl ?_
    refine g_callS C S (rm := ({ frames := 1, cells := 1, slots := 8, locals := 18 } : Room)) (W := 0) di4_36 (hw _ (List.mem_of_getElem? (i := 83) rfl)) (hw _ (List.mem_of_getElem? (i := 84) rfl)) (hw _ (List.mem_of_getElem? (i := 85) rfl)) (hw _ (List.mem_of_getElem? (i := 86) rfl)) (by decide) (c_cm1 l Z a0 hw a2 h0 n0 N cf hN hL Zn A_a2) (argsL := [(.ref a2), (.int (0 : Int32)), (.int (Int32.ofNat N))]) (r := []) rfl all0 (lenOf pd_1 rfl) rfl (Nat.le_of_eq rfl) (by decide) (by decide) (by decide) (by decide) (pc' := 39) rfl (fun T26 h26 v26 P26 q26 S => ?_)
    have pm_a1 := List.mem_append_right P26 pm_a1
    obtain ⟨b26, rfl, K26, A_b26⟩ := q26
    have Kp := Kp.trans K26 all0
    have S_COMPACT_STRINGS := Sta.keep0 S_COMPACT_STRINGS K26
    have X_a1 := X_a1.keep K26
    have F_value_a1 := F_value_a1.keep K26 nin0
    have F_coder_a1 := F_coder_a1.keep K26 nin0
    have A_a2 := A_a2.keep K26 nin0
    have Zn := Nat.le_trans Zn K26.1
    have ne_a1_b26 := (exa_ary X_a1 A_b26 (hw _ (List.mem_of_getElem? (i := 9) rfl)))
    show Gl p e below s Z consts_1 _ n0 _ T26 (mkF m 39 #[.val (.ref a1), .val (.ref a2), .val (.int (0 : Int32)), .val (.int (Int32.ofNat N)), .val .null, .unset] [(.ref b26)])
    refine g_astore C S di4_39 (pc' := 41) rfl rfl (L' := #[.val (.ref a1), .val (.ref a2), .val (.int (0 : Int32)), .val (.int (Int32.ofNat N)), .val .null, .val (.ref b26)]) rfl ?_
    refine g_aloadN C S di4_41 (pc' := 42) rfl rfl rfl ?_
    refine g_aload C S di4_42 (pc' := 44) rfl rfl rfl ?_
    refine g_iloadN C S di4_44 (pc' := 45) rfl rfl ?_
    refine g_callS C S (rm := ({ frames := 0, cells := 0, slots := 0, locals := 0 } : Room)) (W := 1) di4_45 (hw _ (List.mem_of_getElem? (i := 90) rfl)) (hw _ (List.mem_of_getElem? (i := 91) rfl)) (hw _ (List.mem_of_getElem? (i := 85) rfl)) (hw _ (List.mem_of_getElem? (i := 92) rfl)) (by decide) (c_cfa l Z a0 hw b26 h26 n0 N _ A_b26) (argsL := [(.ref b26), (.int (Int32.ofNat N))]) (r := [(.ref a1)]) rfl all0 (lenOf pd_2 rfl) rfl (Nat.le_of_eq rfl) (by decide) (by decide) (by decide) (by decide) (pc' := 48) rfl (fun T27 h27 v27 P27 q27 S => ?_)
    have pm_a1 := List.mem_append_right P27 pm_a1
    obtain ⟨rfl, e27⟩ := q27; rw [e27] at S
    show Gl p e below s Z consts_1 _ n0 _ T27 (mkF m 48 #[.val (.ref a1), .val (.ref a2), .val (.int (0 : Int32)), .val (.int (Int32.ofNat N)), .val .null, .val (.ref b26)] [(.int (0 : Int32)), (.ref a1)])
    refine g_putF C S di4_48 (host := "") (Or.inl (hw _ (List.mem_of_getElem? (i := 29) rfl))) Via.refl F_coder_a1 X_a1 (Or.inr ⟨(hw _ (List.mem_of_getElem? (i := 25) rfl)), rfl, rfl⟩) (hw _ (List.mem_of_getElem? (i := 9) rfl)) (ty := .byte) (by decide) rfl rfl ga (Or.inl pm_a1) (pc' := 51) rfl (fun T28 h28 S W28 => ?_)
    have X_a1 := X_a1.wr W28
    have F_value_a1 := F_value_a1.other W28 (Or.inr (slot_ne (a0 := a0) (t := (.array .byte)) (t' := .byte) (Or.inr (hw _ (List.mem_of_getElem? (i := 24) rfl))) (Or.inr (hw _ (List.mem_of_getElem? (i := 25) rfl))) (by decide) (by decide) (by decide)))
    have F_coder_a1 := F_coder_a1.same W28
    have A_a2 := A_a2.other W28 (Ne.symm ne)
    have S_COMPACT_STRINGS := S_COMPACT_STRINGS.wr W28
    have Zn := Nat.le_trans Zn (Nat.le_of_eq W28.size.symm)
    have A_b26 := A_b26.other W28 (Ne.symm ne_a1_b26)
    have Kp := Kp.wr W28 (Or.inl (List.mem_of_getElem? (i := 0) rfl))
    refine g_aloadN C S di4_51 (pc' := 52) rfl rfl rfl ?_
    refine g_aload C S di4_52 (pc' := 54) rfl rfl rfl ?_
    refine g_putF C S di4_54 (host := "") (Or.inl (hw _ (List.mem_of_getElem? (i := 28) rfl))) Via.refl F_value_a1 X_a1 (Or.inr ⟨(hw _ (List.mem_of_getElem? (i := 24) rfl)), rfl, rfl⟩) (hw _ (List.mem_of_getElem? (i := 9) rfl)) (ty := (.array .byte)) (by decide) rfl rfl ga (Or.inl pm_a1) (pc' := 57) rfl (fun T29 h29 S W29 => ?_)
    have X_a1 := X_a1.wr W29
    have F_value_a1 := F_value_a1.same W29
    have F_coder_a1 := F_coder_a1.other W29 (Or.inr (slot_ne (a0 := a0) (t := .byte) (t' := (.array .byte)) (Or.inr (hw _ (List.mem_of_getElem? (i := 25) rfl))) (Or.inr (hw _ (List.mem_of_getElem? (i := 24) rfl))) (by decide) (by decide) (by decide)))
    have A_a2 := A_a2.other W29 (Ne.symm ne)
    have S_COMPACT_STRINGS := S_COMPACT_STRINGS.wr W29
    have Zn := Nat.le_trans Zn (Nat.le_of_eq W29.size.symm)
    have A_b26 := A_b26.other W29 (Ne.symm ne_a1_b26)
    have Kp := Kp.wr W29 (Or.inl (List.mem_of_getElem? (i := 0) rfl))
    exact g_return C S di4_57 (by decide) (by decide) (⟨rfl, Kp, b26, X_a1, F_coder_a1, F_value_a1, A_b26⟩)
  · refine g_aloadN C S di4_8 (pc' := 9) rfl rfl rfl ?_
    refine g_ldcS C S (vs := []) (zz := 0) (N := 0) (nn := 0) di4_9 (hw _ (List.mem_of_getElem? (i := 22) rfl)) (List.mem_of_getElem? (i := 0) rfl) ⟨(by decide), rfl⟩ (by decide) (by decide) rfl (by decide) (by decide) (by decide) (by decide) (pc' := 11) rfl (fun T30 h30 a30 b30 S E30 X_a30 F_coder_a30 F_value_a30 A_b30 ns30 => ?_)
    have Kp := Kp.ext E30
    have X_a1 := X_a1.ext E30
    have F_value_a1 := F_value_a1.ext E30
    have F_coder_a1 := F_coder_a1.ext E30
    have A_a2 := A_a2.ext E30
    have S_COMPACT_STRINGS := S_COMPACT_STRINGS.ext E30
    have Zn := Nat.le_trans Zn E30.1
    have ne_a1_a30 := (ns30 _ pm_a1).1
    have ne_a1_b30 := (ns30 _ pm_a1).2
    refine g_getF C S di4_11 (host := "") (Or.inl (hw _ (List.mem_of_getElem? (i := 28) rfl))) Via.refl F_value_a30 (pc' := 14) rfl (fun T31 S => ?_)
    refine g_putF C S di4_14 (host := "") (Or.inl (hw _ (List.mem_of_getElem? (i := 28) rfl))) Via.refl F_value_a1 X_a1 (Or.inr ⟨(hw _ (List.mem_of_getElem? (i := 24) rfl)), rfl, rfl⟩) (hw _ (List.mem_of_getElem? (i := 9) rfl)) (ty := (.array .byte)) (by decide) rfl rfl ga (Or.inl pm_a1) (pc' := 17) rfl (fun T32 h32 S W32 => ?_)
    have X_a1 := X_a1.wr W32
    have F_value_a1 := F_value_a1.same W32
    have F_coder_a1 := F_coder_a1.other W32 (Or.inr (slot_ne (a0 := a0) (t := .byte) (t' := (.array .byte)) (Or.inr (hw _ (List.mem_of_getElem? (i := 25) rfl))) (Or.inr (hw _ (List.mem_of_getElem? (i := 24) rfl))) (by decide) (by decide) (by decide)))
    have A_a2 := A_a2.other W32 (Ne.symm ne)
    have S_COMPACT_STRINGS := S_COMPACT_STRINGS.wr W32
    have Zn := Nat.le_trans Zn (Nat.le_of_eq W32.size.symm)
    have X_a30 := X_a30.wr W32
    have F_coder_a30 := F_coder_a30.other W32 (Or.inl (Ne.symm ne_a1_a30))
    have F_value_a30 := F_value_a30.other W32 (Or.inl (Ne.symm ne_a1_a30))
    have A_b30 := A_b30.other W32 (Ne.symm ne_a1_b30)
    have Kp := Kp.wr W32 (Or.inl (List.mem_of_getElem? (i := 0) rfl))
    refine g_aloadN C S di4_17 (pc' := 18) rfl rfl rfl ?_
    refine g_ldcS C S (vs := []) (zz := 0) (N := 0) (nn := 0) di4_18 (hw _ (List.mem_of_getElem? (i := 22) rfl)) (List.mem_of_getElem? (i := 0) rfl) ⟨(by decide), rfl⟩ (by decide) (by decide) rfl (by decide) (by decide) (by decide) (by decide) (pc' := 20) rfl (fun T33 h33 a33 b33 S E33 X_a33 F_coder_a33 F_value_a33 A_b33 ns33 => ?_)
    have Kp := Kp.ext E33
    have X_a1 := X_a1.ext E33
    have F_value_a1 := F_value_a1.ext E33
    have F_coder_a1 := F_coder_a1.ext E33
    have A_a2 := A_a2.ext E33
    have S_COMPACT_STRINGS := S_COMPACT_STRINGS.ext E33
    have Zn := Nat.le_trans Zn E33.1
    have X_a30 := X_a30.ext E33
    have F_coder_a30 := F_coder_a30.ext E33
    have F_value_a30 := F_value_a30.ext E33
    have A_b30 := A_b30.ext E33
    have ne_a1_a33 := (ns33 _ pm_a1).1
    have ne_a1_b33 := (ns33 _ pm_a1).2
    refine g_getF C S di4_20 (host := "") (Or.inl (hw _ (List.mem_of_getElem? (i := 29) rfl))) Via.refl F_coder_a33 (pc' := 23) rfl (fun T34 S => ?_)
    refine g_putF C S di4_23 (host := "") (Or.inl (hw _ (List.mem_of_getElem? (i := 29) rfl))) Via.refl F_coder_a1 X_a1 (Or.inr ⟨(hw _ (List.mem_of_getElem? (i := 25) rfl)), rfl, rfl⟩) (hw _ (List.mem_of_getElem? (i := 9) rfl)) (ty := .byte) (by decide) rfl rfl ga (Or.inl pm_a1) (pc' := 26) rfl (fun T35 h35 S W35 => ?_)
    have X_a1 := X_a1.wr W35
    have F_value_a1 := F_value_a1.other W35 (Or.inr (slot_ne (a0 := a0) (t := (.array .byte)) (t' := .byte) (Or.inr (hw _ (List.mem_of_getElem? (i := 24) rfl))) (Or.inr (hw _ (List.mem_of_getElem? (i := 25) rfl))) (by decide) (by decide) (by decide)))
    have F_coder_a1 := F_coder_a1.same W35
    have A_a2 := A_a2.other W35 (Ne.symm ne)
    have S_COMPACT_STRINGS := S_COMPACT_STRINGS.wr W35
    have Zn := Nat.le_trans Zn (Nat.le_of_eq W35.size.symm)
    have X_a30 := X_a30.wr W35
    have F_coder_a30 := F_coder_a30.other W35 (Or.inl (Ne.symm ne_a1_a30))
    have F_value_a30 := F_value_a30.other W35 (Or.inl (Ne.symm ne_a1_a30))
    have A_b30 := A_b30.other W35 (Ne.symm ne_a1_b30)
    have X_a33 := X_a33.wr W35
    have F_coder_a33 := F_coder_a33.other W35 (Or.inl (Ne.symm ne_a1_a33))
    have F_value_a33 := F_value_a33.other W35 (Or.inl (Ne.symm ne_a1_a33))
    have A_b33 := A_b33.other W35 (Ne.symm ne_a1_b33)
    have Kp := Kp.wr W35 (Or.inl (List.mem_of_getElem? (i := 0) rfl))
    exact g_return C S di4_26 (by decide) (by decide) (⟨rfl, Kp, b30, X_a1, F_coder_a1, F_value_a1, (show Ary Z _ b30 .byte N (fun q => .int (bt (cf q))) from (z32_of (by omega) (of_not_ne hc5)) ▸ A_b30.cg (fun q hq => absurd hq (Nat.not_lt_zero q)))⟩)
theorem pd_3 : parseMethodDescriptor "([CIILjava/lang/Void;)V" = some ⟨[(.array .char), .int, .int, (.object "java/lang/Void")], none⟩ := by decide +kernel
theorem di1_0 : decode jdk_42_method_3_code 0 = .ok (.aload_n 0, 1) := by decide +kernel
theorem di1_1 : decode jdk_42_method_3_code 1 = .ok (.aload_n 1, 1) := by decide +kernel
theorem di1_2 : decode jdk_42_method_3_code 2 = .ok (.iconst 0, 1) := by decide +kernel
theorem di1_3 : decode jdk_42_method_3_code 3 = .ok (.aload_n 1, 1) := by decide +kernel
theorem di1_4 : decode jdk_42_method_3_code 4 = .ok (.arraylength, 1) := by decide +kernel
theorem di1_5 : decode jdk_42_method_3_code 5 = .ok (.aconst_null, 1) := by decide +kernel
theorem di1_6 : decode jdk_42_method_3_code 6 = .ok (.invokespecial 27, 3) := by decide +kernel
theorem di1_9 : decode jdk_42_method_3_code 9 = .ok (.return_, 1) := by decide +kernel
set_option maxRecDepth 65536 in
set_option maxHeartbeats 40000000 in
theorem c_ini (l : Launch) (Z : State) (a0 : Array Value) (hw : ∀ d ∈ tables_1, d.before a0 Z = true) (a1 : Addr) (a2 : Addr) (h0 : Heap) (n0 : Nat) (u1 u2 : Value) (N : Nat) (cf : Nat → Int32) (hN : N ≤ 8) (hL : Lat cf N) (ga : n0 ≤ a1) (ne : a1 ≠ a2) (Zn : n0 ≤ h0.size) (cs : Int32) (hcs : ¬ cs = 0) (S_COMPACT_STRINGS : Sta Z h0 "java/lang/String" "COMPACT_STRINGS" "Z" (.int cs)) (X_a1 : Exa Z h0 a1 "java/lang/String") (F_value_a1 : Fld Z h0 a1 "java/lang/String" "value" "[B" u1) (F_coder_a1 : Fld Z h0 a1 "java/lang/String" "coder" "B" u2) (A_a2 : Ary Z h0 a2 .char N (fun q => .int (cf q))) :
    Con l Z consts_1 [a1] (⟨"java/lang/String", "<init>", "([C)V"⟩ : MethodName) jdk_42_method_3_code 2 none ({ frames := 3, cells := 4, slots := 8, locals := 53 } : Room) #[(.ref a1), (.ref a2)] h0 n0 (fun v h _ => v = none ∧ Keep h0 h [a1] ∧ ∃ b, Exa Z h a1 "java/lang/String" ∧ Fld Z h a1 "java/lang/String" "coder" "B" (.int (0 : Int32)) ∧ Fld Z h a1 "java/lang/String" "value" "[B" (.ref b) ∧ Ary Z h b .byte N (fun q => .int (bt (cf q)))) := by
  refine Con.of (plainFor_of_name (by first | (simp [plainName, overriddenIn]; done) | decide +kernel)) (elw hw) (L0 := #[.val (.ref a1), .val (.ref a2)]) (fun m => by first | (simp [entryFrame, mkF, argsToLocals, Value.category]; done) | rfl) ?_
  intro p e s m below meth c T C S
  have pm_a1 : a1 ∈ [a1] := List.mem_of_getElem? (i := 0) rfl
  refine g_aloadN C S di1_0 (pc' := 1) rfl rfl rfl ?_
  refine g_aloadN C S di1_1 (pc' := 2) rfl rfl rfl ?_
  refine g_iconst C S (0 : Int32) di1_2 (pc' := 3) rfl rfl ?_
  refine g_aloadN C S di1_3 (pc' := 4) rfl rfl rfl ?_
  refine g_arraylength C S (x := (Int32.ofNat N)) di1_4 A_a2 rfl (pc' := 5) rfl ?_
  refine g_aconst_null C S di1_5 (pc' := 6) rfl ?_
  refine g_callI C S (rm := ({ frames := 2, cells := 4, slots := 8, locals := 36 } : Room)) (W := 0) di1_6 rfl (hw _ (List.mem_of_getElem? (i := 15) rfl)) (hw _ (List.mem_of_getElem? (i := 16) rfl)) (hw _ (List.mem_of_getElem? (i := 10) rfl)) (hw _ (List.mem_of_getElem? (i := 18) rfl)) (by decide) (c_in4 l Z a0 hw a1 a2 h0 n0 u1 u2 N cf hN hL ga ne Zn cs hcs S_COMPACT_STRINGS X_a1 F_value_a1 F_coder_a1 A_a2) (argsL := [(.ref a2), (.int (0 : Int32)), (.int (Int32.ofNat N)), .null]) (r := []) rfl (allS pm_a1 all0) (lenOf pd_3 rfl) rfl (Nat.le_of_eq rfl) (by decide) (by decide) (by decide) (by decide) (pc' := 9) rfl (fun T36 h36 v36 P36 q36 S => ?_)
  have pm_a1 := List.mem_append_right P36 pm_a1
  obtain ⟨rfl, q36⟩ := q36
  show Gl p e below s Z consts_1 _ n0 _ T36 (mkF m 9 #[.val (.ref a1), .val (.ref a2)] [])
  exact g_return C S di1_9 (by decide) (by decide) (⟨rfl, q36⟩)
theorem dco_0 : decode jdk_42_method_152_code 0 = .ok (.getstatic 38, 3) := by decide +kernel
theorem dco_3 : decode jdk_42_method_152_code 3 = .ok (.ifCond .eq 10, 3) := by decide +kernel
theorem dco_6 : decode jdk_42_method_152_code 6 = .ok (.aload_n 0, 1) := by decide +kernel
theorem dco_7 : decode jdk_42_method_152_code 7 = .ok (.getfield 15, 3) := by decide +kernel
theorem dco_10 : decode jdk_42_method_152_code 10 = .ok (.goto 4, 3) := by decide +kernel
theorem dco_14 : decode jdk_42_method_152_code 14 = .ok (.ireturn, 1) := by decide +kernel
set_option maxRecDepth 65536 in
set_option maxHeartbeats 40000000 in
theorem c_cod (l : Launch) (Z : State) (a0 : Array Value) (hw : ∀ d ∈ tables_1, d.before a0 Z = true) (a1 : Addr) (h0 : Heap) (n0 : Nat) (cs : Int32) (hcs : ¬ cs = 0) (S_COMPACT_STRINGS : Sta Z h0 "java/lang/String" "COMPACT_STRINGS" "Z" (.int cs)) (F_coder_a1 : Fld Z h0 a1 "java/lang/String" "coder" "B" (.int (0 : Int32))) :
    Con l Z consts_1 [] (⟨"java/lang/String", "coder", "()B"⟩ : MethodName) jdk_42_method_152_code 1 (some .byte) ({ frames := 0, cells := 0, slots := 0, locals := 0 } : Room) #[(.ref a1)] h0 n0 (fun v h _ => v = some (.int 0) ∧ h = h0) := by
  refine Con.of (plainFor_of_name (by first | (simp [plainName, overriddenIn]; done) | decide +kernel)) (elw hw) (L0 := #[.val (.ref a1)]) (fun m => by first | (simp [entryFrame, mkF, argsToLocals, Value.category]; done) | rfl) ?_
  intro p e s m below meth c T C S
  refine g_getS C S dco_0 (host := "") (Or.inl (hw _ (List.mem_of_getElem? (i := 49) rfl))) Via.refl S_COMPACT_STRINGS (pc' := 3) rfl (fun T37 S => ?_)
  refine g_if_eq C S dco_3 (pc' := 13) (pf := 6) (by decide) (by decide) rfl (fun hc3 => absurd hc3 hcs) (fun hc3 => ?_)
  refine g_aloadN C S dco_6 (pc' := 7) rfl rfl rfl ?_
  refine g_getF C S dco_7 (host := "") (Or.inl (hw _ (List.mem_of_getElem? (i := 29) rfl))) Via.refl F_coder_a1 (pc' := 10) rfl (fun T38 S => ?_)
  refine g_goto C S dco_10 (pc' := 14) (by decide) (by decide) ?_
  exact g_retB C S dco_14 rfl (by decide) (by decide) (⟨rfl, rfl⟩)
theorem pd_4 : parseMethodDescriptor "()B" = some ⟨[], some .byte⟩ := by decide +kernel
theorem dle_0 : decode jdk_42_method_54_code 0 = .ok (.aload_n 0, 1) := by decide +kernel
theorem dle_1 : decode jdk_42_method_54_code 1 = .ok (.getfield 9, 3) := by decide +kernel
theorem dle_4 : decode jdk_42_method_54_code 4 = .ok (.arraylength, 1) := by decide +kernel
theorem dle_5 : decode jdk_42_method_54_code 5 = .ok (.aload_n 0, 1) := by decide +kernel
theorem dle_6 : decode jdk_42_method_54_code 6 = .ok (.invokevirtual 335, 3) := by decide +kernel
theorem dle_9 : decode jdk_42_method_54_code 9 = .ok (.ishr, 1) := by decide +kernel
theorem dle_10 : decode jdk_42_method_54_code 10 = .ok (.ireturn, 1) := by decide +kernel
set_option maxRecDepth 65536 in
set_option maxHeartbeats 40000000 in
theorem c_len (l : Launch) (Z : State) (a0 : Array Value) (hw : ∀ d ∈ tables_1, d.before a0 Z = true) (a1 : Addr) (h0 : Heap) (n0 : Nat) (b1 : Addr) (N : Nat) (f : Nat → Value) (cs : Int32) (hcs : ¬ cs = 0) (S_COMPACT_STRINGS : Sta Z h0 "java/lang/String" "COMPACT_STRINGS" "Z" (.int cs)) (X_a1 : Exa Z h0 a1 "java/lang/String") (F_coder_a1 : Fld Z h0 a1 "java/lang/String" "coder" "B" (.int (0 : Int32))) (F_value_a1 : Fld Z h0 a1 "java/lang/String" "value" "[B" (.ref b1)) (A_b1 : Ary Z h0 b1 .byte N f) :
    Con l Z consts_1 [] (⟨"java/lang/String", "length", "()I"⟩ : MethodName) jdk_42_method_54_code 1 (some .int) ({ frames := 1, cells := 0, slots := 0, locals := 13 } : Room) #[(.ref a1)] h0 n0 (fun v h _ => v = some (.int (Int32.ofNat N)) ∧ h = h0) := by
  refine Con.of (plainFor_of_name (by first | (simp [plainName, overriddenIn]; done) | decide +kernel)) (elw hw) (L0 := #[.val (.ref a1)]) (fun m => by first | (simp [entryFrame, mkF, argsToLocals, Value.category]; done) | rfl) ?_
  intro p e s m below meth c T C S
  refine g_aloadN C S dle_0 (pc' := 1) rfl rfl rfl ?_
  refine g_getF C S dle_1 (host := "") (Or.inl (hw _ (List.mem_of_getElem? (i := 28) rfl))) Via.refl F_value_a1 (pc' := 4) rfl (fun T39 S => ?_)
  refine g_arraylength C S (x := (Int32.ofNat N)) dle_4 A_b1 rfl (pc' := 5) rfl ?_
  refine g_aloadN C S dle_5 (pc' := 6) rfl rfl rfl ?_
  refine g_callV C S (rm := ({ frames := 0, cells := 0, slots := 0, locals := 0 } : Room)) (W := 1) dle_6 (hw _ (List.mem_of_getElem? (i := 55) rfl)) (hw _ (List.mem_of_getElem? (i := 56) rfl)) (fun _ hZ => notFace_of_selects (args := #[]) (mvT hZ (hw _ (List.mem_of_getElem? (i := 58) rfl)))) (hw _ (List.mem_of_getElem? (i := 58) rfl)) (hw _ (List.mem_of_getElem? (i := 57) rfl)) (hw _ (List.mem_of_getElem? (i := 10) rfl)) (hw _ (List.mem_of_getElem? (i := 59) rfl)) (by decide) rfl X_a1 (c_cod l Z a0 hw a1 h0 n0 cs hcs S_COMPACT_STRINGS F_coder_a1) (argsL := []) (r := [(.int (Int32.ofNat N))]) rfl all0 (lenOf pd_4 rfl) rfl (Nat.le_of_eq rfl) (by decide) (by decide) (by decide) (by decide) (pc' := 9) rfl (fun T40 h40 v40 P40 q40 S => ?_)
  obtain ⟨rfl, e40⟩ := q40; rw [e40] at S
  show Gl p e below s Z consts_1 _ n0 _ T40 (mkF m 9 #[.val (.ref a1)] [(.int (0 : Int32)), (.int (Int32.ofNat N))])
  refine g_ishr C S dle_9 (pc' := 10) rfl ?_
  exact g_retI C S dle_10 (by decide) (by decide) (⟨by rw [shr0], rfl⟩)
theorem dil_0 : decode jdk_42_method_154_code 0 = .ok (.getstatic 38, 3) := by decide +kernel
theorem dil_3 : decode jdk_42_method_154_code 3 = .ok (.ifCond .eq 14, 3) := by decide +kernel
theorem dil_6 : decode jdk_42_method_154_code 6 = .ok (.aload_n 0, 1) := by decide +kernel
theorem dil_7 : decode jdk_42_method_154_code 7 = .ok (.getfield 15, 3) := by decide +kernel
theorem dil_10 : decode jdk_42_method_154_code 10 = .ok (.ifCond .ne 7, 3) := by decide +kernel
theorem dil_13 : decode jdk_42_method_154_code 13 = .ok (.iconst 1, 1) := by decide +kernel
theorem dil_14 : decode jdk_42_method_154_code 14 = .ok (.goto 4, 3) := by decide +kernel
theorem dil_18 : decode jdk_42_method_154_code 18 = .ok (.ireturn, 1) := by decide +kernel
set_option maxRecDepth 65536 in
set_option maxHeartbeats 40000000 in
theorem c_lat (l : Launch) (Z : State) (a0 : Array Value) (hw : ∀ d ∈ tables_1, d.before a0 Z = true) (a1 : Addr) (h0 : Heap) (n0 : Nat) (cs : Int32) (hcs : ¬ cs = 0) (S_COMPACT_STRINGS : Sta Z h0 "java/lang/String" "COMPACT_STRINGS" "Z" (.int cs)) (F_coder_a1 : Fld Z h0 a1 "java/lang/String" "coder" "B" (.int (0 : Int32))) :
    Con l Z consts_1 [] (⟨"java/lang/String", "isLatin1", "()Z"⟩ : MethodName) jdk_42_method_154_code 1 (some .boolean) ({ frames := 0, cells := 0, slots := 0, locals := 0 } : Room) #[(.ref a1)] h0 n0 (fun v h _ => v = some (.int 1) ∧ h = h0) := by
  refine Con.of (plainFor_of_name (by first | (simp [plainName, overriddenIn]; done) | decide +kernel)) (elw hw) (L0 := #[.val (.ref a1)]) (fun m => by first | (simp [entryFrame, mkF, argsToLocals, Value.category]; done) | rfl) ?_
  intro p e s m below meth c T C S
  refine g_getS C S dil_0 (host := "") (Or.inl (hw _ (List.mem_of_getElem? (i := 49) rfl))) Via.refl S_COMPACT_STRINGS (pc' := 3) rfl (fun T41 S => ?_)
  refine g_if_eq C S dil_3 (pc' := 17) (pf := 6) (by decide) (by decide) rfl (fun hc3 => absurd hc3 hcs) (fun hc3 => ?_)
  refine g_aloadN C S dil_6 (pc' := 7) rfl rfl rfl ?_
  refine g_getF C S dil_7 (host := "") (Or.inl (hw _ (List.mem_of_getElem? (i := 29) rfl))) Via.refl F_coder_a1 (pc' := 10) rfl (fun T42 S => ?_)
  refine g_if_ne C S dil_10 (pc' := 17) (pf := 13) (by decide) (by decide) rfl (fun hc10 => absurd rfl hc10) (fun hc10 => ?_)
  refine g_iconst C S (1 : Int32) dil_13 (pc' := 14) rfl rfl ?_
  refine g_goto C S dil_14 (pc' := 18) (by decide) (by decide) ?_
  exact g_retZ C S dil_18 (by decide) (by decide) (by decide) (⟨rfl, rfl⟩)
theorem del_0 : decode jdk_43_method_13_code 0 = .ok (.aload_n 0, 1) := by decide +kernel
theorem del_1 : decode jdk_43_method_13_code 1 = .ok (.arraylength, 1) := by decide +kernel
theorem del_2 : decode jdk_43_method_13_code 2 = .ok (.aload_n 1, 1) := by decide +kernel
theorem del_3 : decode jdk_43_method_13_code 3 = .ok (.arraylength, 1) := by decide +kernel
theorem del_4 : decode jdk_43_method_13_code 4 = .ok (.if_icmp .ne 30, 3) := by decide +kernel
theorem del_7 : decode jdk_43_method_13_code 7 = .ok (.iconst 0, 1) := by decide +kernel
theorem del_8 : decode jdk_43_method_13_code 8 = .ok (.istore_n 2, 1) := by decide +kernel
theorem del_9 : decode jdk_43_method_13_code 9 = .ok (.iload_n 2, 1) := by decide +kernel
theorem del_10 : decode jdk_43_method_13_code 10 = .ok (.aload_n 0, 1) := by decide +kernel
theorem del_11 : decode jdk_43_method_13_code 11 = .ok (.arraylength, 1) := by decide +kernel
theorem del_12 : decode jdk_43_method_13_code 12 = .ok (.if_icmp .ge 20, 3) := by decide +kernel
theorem del_15 : decode jdk_43_method_13_code 15 = .ok (.aload_n 0, 1) := by decide +kernel
theorem del_16 : decode jdk_43_method_13_code 16 = .ok (.iload_n 2, 1) := by decide +kernel
theorem del_17 : decode jdk_43_method_13_code 17 = .ok (.baload, 1) := by decide +kernel
theorem del_18 : decode jdk_43_method_13_code 18 = .ok (.aload_n 1, 1) := by decide +kernel
theorem del_19 : decode jdk_43_method_13_code 19 = .ok (.iload_n 2, 1) := by decide +kernel
theorem del_20 : decode jdk_43_method_13_code 20 = .ok (.baload, 1) := by decide +kernel
theorem del_21 : decode jdk_43_method_13_code 21 = .ok (.if_icmp .eq 5, 3) := by decide +kernel
theorem del_24 : decode jdk_43_method_13_code 24 = .ok (.iconst 0, 1) := by decide +kernel
theorem del_25 : decode jdk_43_method_13_code 25 = .ok (.ireturn, 1) := by decide +kernel
theorem del_26 : decode jdk_43_method_13_code 26 = .ok (.iinc 2 1, 3) := by decide +kernel
theorem del_29 : decode jdk_43_method_13_code 29 = .ok (.goto (-20), 3) := by decide +kernel
theorem del_32 : decode jdk_43_method_13_code 32 = .ok (.iconst 1, 1) := by decide +kernel
theorem del_33 : decode jdk_43_method_13_code 33 = .ok (.ireturn, 1) := by decide +kernel
theorem del_34 : decode jdk_43_method_13_code 34 = .ok (.iconst 0, 1) := by decide +kernel
theorem del_35 : decode jdk_43_method_13_code 35 = .ok (.ireturn, 1) := by decide +kernel
set_option maxRecDepth 65536 in
set_option maxHeartbeats 40000000 in
theorem c_eqB (l : Launch) (Z : State) (a0 : Array Value) (hw : ∀ d ∈ tables_1, d.before a0 Z = true) (a1 : Addr) (a2 : Addr) (h0 : Heap) (n0 : Nat) (N M : Nat) (g g' : Nat → Int32) (hN : N < 2 ^ 30) (hM : M < 2 ^ 30) (A_a1 : Ary Z h0 a1 .byte N (fun q => .int (g q))) (A_a2 : Ary Z h0 a2 .byte M (fun q => .int (g' q))) :
    Con l Z consts_1 [] (⟨"java/lang/StringLatin1", "equals", "([B[B)Z"⟩ : MethodName) jdk_43_method_13_code 3 (some .boolean) ({ frames := 0, cells := 0, slots := 0, locals := 0 } : Room) #[(.ref a1), (.ref a2)] h0 n0 (fun v h _ => h = h0 ∧ EqAt g g' N M v) := by
  refine Con.of (plainFor_of_name (by first | (simp [plainName, overriddenIn]; done) | decide +kernel)) (elw hw) (L0 := #[.val (.ref a1), .val (.ref a2), .unset]) (fun m => by first | (simp [entryFrame, mkF, argsToLocals, Value.category]; done) | rfl) ?_
  intro p e s m below meth c T C S
  refine g_aloadN C S del_0 (pc' := 1) rfl rfl rfl ?_
  refine g_arraylength C S (x := (Int32.ofNat N)) del_1 A_a1 rfl (pc' := 2) rfl ?_
  refine g_aloadN C S del_2 (pc' := 3) rfl rfl rfl ?_
  refine g_arraylength C S (x := (Int32.ofNat M)) del_3 A_a2 rfl (pc' := 4) rfl ?_
  refine g_icmp_ne C S del_4 (pc' := 34) (pf := 7) (by decide) (by decide) rfl (fun hc4 => ?_) (fun hc4 => ?_)
  · refine g_iconst C S (0 : Int32) del_34 (pc' := 35) rfl rfl ?_
    exact g_retZ C S del_35 (by decide) (by decide) (by decide) (⟨rfl, Or.inr ⟨rfl, fun q => hc4 (congrArg Int32.ofNat q.1)⟩⟩)
  · have eNM : N = M := (o32_inj (by omega) (by omega)).mp hc4
    have LP : ∀ (d : Nat) (i : Nat), i + d = N → (∀ j, j < i → g j = g' j) → Gl p e below s Z consts_1 ({ frames := 0, cells := 0, slots := 0, locals := 0 } : Room) n0 (fun v h _ => h = h0 ∧ EqAt g g' N M v) T (mkF m 9 #[.val (.ref a1), .val (.ref a2), .val (.int (Int32.ofNat i))] []) := by
      intro d
      induction d with
      | zero =>
        intro i hd hE
        refine g_iloadN C S del_9 (pc' := 10) rfl rfl ?_
        refine g_aloadN C S del_10 (pc' := 11) rfl rfl rfl ?_
        refine g_arraylength C S (x := (Int32.ofNat N)) del_11 A_a1 rfl (pc' := 12) rfl ?_
        refine g_icmp_ge C S del_12 (pc' := 32) (pf := 15) (by decide) (by decide) rfl (fun hc12 => ?_) (fun hc12 => absurd hc12 (by rw [o32_lt (by omega) (by omega)]; omega))
        refine g_iconst C S (1 : Int32) del_32 (pc' := 33) rfl rfl ?_
        exact g_retZ C S del_33 (by decide) (by decide) (by decide) (⟨rfl, Or.inl ⟨rfl, eNM, fun j hj => hE j (by omega)⟩⟩)
      | succ d ih =>
        intro i hd hE
        refine g_iloadN C S del_9 (pc' := 10) rfl rfl ?_
        refine g_aloadN C S del_10 (pc' := 11) rfl rfl rfl ?_
        refine g_arraylength C S (x := (Int32.ofNat N)) del_11 A_a1 rfl (pc' := 12) rfl ?_
        refine g_icmp_ge C S del_12 (pc' := 32) (pf := 15) (by decide) (by decide) rfl (fun hc12 => absurd ((o32_lt (by omega) (by omega)).mpr (by omega)) hc12) (fun hc12 => ?_)
        refine g_aloadN C S del_15 (pc' := 16) rfl rfl rfl ?_
        refine g_iloadN C S del_16 (pc' := 17) rfl rfl ?_
        refine g_baloadB C S (i := i) (v := (.int (g i))) del_17 A_a1 (o32 (by omega)) (by omega) rfl (pc' := 18) rfl ?_
        refine g_aloadN C S del_18 (pc' := 19) rfl rfl rfl ?_
        refine g_iloadN C S del_19 (pc' := 20) rfl rfl ?_
        refine g_baloadB C S (i := i) (v := (.int (g' i))) del_20 A_a2 (o32 (by omega)) (by omega) rfl (pc' := 21) rfl ?_
        refine g_icmp_eq C S del_21 (pc' := 26) (pf := 24) (by decide) (by decide) rfl (fun hc21 => ?_) (fun hc21 => ?_)
        · refine g_iinc C S (1 : Int32) del_26 (pc' := 29) rfl rfl rfl (L' := #[.val (.ref a1), .val (.ref a2), .val (.int ((Int32.ofNat i) + (1 : Int32)))]) rfl ?_
          refine g_goto C S del_29 (pc' := 9) (by decide) (by decide) ?_
          rw [o32_succ]
          exact ih (i + 1) (by omega) (eq_step hE hc21)
        · refine g_iconst C S (0 : Int32) del_24 (pc' := 25) rfl rfl ?_
          exact g_retZ C S del_25 (by decide) (by decide) (by decide) (⟨rfl, Or.inr ⟨rfl, fun q => hc21 (q.2 i (by omega))⟩⟩)
    refine g_iconst C S (0 : Int32) del_7 (pc' := 8) rfl rfl ?_
    refine g_istoreN C S del_8 (pc' := 9) rfl (L' := #[.val (.ref a1), .val (.ref a2), .val (.int (0 : Int32))]) rfl ?_
    exact LP N 0 (by omega) (fun j hj => absurd hj (Nat.not_lt_zero j))
theorem EqAt.val {g g' : Nat → Int32} {N M : Nat} {v : Option Value} (h : EqAt g g' N M v) : ∃ z, v = some (.int z) ∧ EqAt g g' N M (some (.int z)) := by
  rcases h with ⟨rfl, q⟩ | ⟨rfl, q⟩
  · exact ⟨1, rfl, Or.inl ⟨rfl, q⟩⟩
  · exact ⟨0, rfl, Or.inr ⟨rfl, q⟩⟩
theorem EqAt.one {g g' : Nat → Int32} {N M : Nat} {z : Int32} (h : EqAt g g' N M (some (.int z))) (q : ¬ z = 0) : EqAt g g' N M (some (.int 1)) := by
  rcases h with ⟨e, r⟩ | ⟨e, r⟩
  · exact Or.inl ⟨rfl, r⟩
  · exact absurd (Value.int.inj (Option.some.inj e)) q
theorem EqAt.zero {g g' : Nat → Int32} {N M : Nat} {z : Int32} (h : EqAt g g' N M (some (.int z))) (q : z = 0) : EqAt g g' N M (some (.int 0)) := by
  rcases h with ⟨e, r⟩ | ⟨e, r⟩
  · exact absurd ((Value.int.inj (Option.some.inj e)).symm.trans q) (by decide)
  · exact Or.inr ⟨rfl, r⟩
theorem same_bytes {Z : State} {h : Heap} {a1 a2 b1 b2 : Addr} {N M : Nat} {g g' : Nat → Int32} (e : Value.ref a1 = .ref a2) (F1 : Fld Z h a1 "java/lang/String" "value" "[B" (.ref b1)) (F2 : Fld Z h a2 "java/lang/String" "value" "[B" (.ref b2)) (A1 : Ary Z h b1 .byte N (fun q => .int (g q))) (A2 : Ary Z h b2 .byte M (fun q => .int (g' q))) : N = M ∧ ∀ i, i < N → g i = g' i := by
  have e' := Value.ref.inj e
  subst e'
  have eb := Value.ref.inj (fld_uniq F1 F2)
  subst eb
  obtain ⟨q1, q2⟩ := A1.uniq A2
  exact ⟨q1, fun i hi => Value.int.inj (q2 i hi)⟩
theorem pd_5 : parseMethodDescriptor "([B[B)Z" = some ⟨[(.array .byte), (.array .byte)], some .boolean⟩ := by decide +kernel
theorem deq_0 : decode jdk_42_method_66_code 0 = .ok (.aload_n 0, 1) := by decide +kernel
theorem deq_1 : decode jdk_42_method_66_code 1 = .ok (.aload_n 1, 1) := by decide +kernel
theorem deq_2 : decode jdk_42_method_66_code 2 = .ok (.if_acmp .ne 5, 3) := by decide +kernel
theorem deq_5 : decode jdk_42_method_66_code 5 = .ok (.iconst 1, 1) := by decide +kernel
theorem deq_6 : decode jdk_42_method_66_code 6 = .ok (.ireturn, 1) := by decide +kernel
theorem deq_7 : decode jdk_42_method_66_code 7 = .ok (.aload_n 1, 1) := by decide +kernel
theorem deq_8 : decode jdk_42_method_66_code 8 = .ok (.instanceof 10, 3) := by decide +kernel
theorem deq_11 : decode jdk_42_method_66_code 11 = .ok (.ifCond .eq 43, 3) := by decide +kernel
theorem deq_14 : decode jdk_42_method_66_code 14 = .ok (.aload_n 1, 1) := by decide +kernel
theorem deq_15 : decode jdk_42_method_66_code 15 = .ok (.checkcast 10, 3) := by decide +kernel
theorem deq_18 : decode jdk_42_method_66_code 18 = .ok (.astore_n 2, 1) := by decide +kernel
theorem deq_19 : decode jdk_42_method_66_code 19 = .ok (.getstatic 38, 3) := by decide +kernel
theorem deq_22 : decode jdk_42_method_66_code 22 = .ok (.ifCond .eq 14, 3) := by decide +kernel
theorem deq_25 : decode jdk_42_method_66_code 25 = .ok (.aload_n 0, 1) := by decide +kernel
theorem deq_26 : decode jdk_42_method_66_code 26 = .ok (.getfield 15, 3) := by decide +kernel
theorem deq_29 : decode jdk_42_method_66_code 29 = .ok (.aload_n 2, 1) := by decide +kernel
theorem deq_30 : decode jdk_42_method_66_code 30 = .ok (.getfield 15, 3) := by decide +kernel
theorem deq_33 : decode jdk_42_method_66_code 33 = .ok (.if_icmp .ne 21, 3) := by decide +kernel
theorem deq_36 : decode jdk_42_method_66_code 36 = .ok (.aload_n 0, 1) := by decide +kernel
theorem deq_37 : decode jdk_42_method_66_code 37 = .ok (.getfield 9, 3) := by decide +kernel
theorem deq_40 : decode jdk_42_method_66_code 40 = .ok (.aload_n 2, 1) := by decide +kernel
theorem deq_41 : decode jdk_42_method_66_code 41 = .ok (.getfield 9, 3) := by decide +kernel
theorem deq_44 : decode jdk_42_method_66_code 44 = .ok (.invokestatic 541, 3) := by decide +kernel
theorem deq_47 : decode jdk_42_method_66_code 47 = .ok (.ifCond .eq 7, 3) := by decide +kernel
theorem deq_50 : decode jdk_42_method_66_code 50 = .ok (.iconst 1, 1) := by decide +kernel
theorem deq_51 : decode jdk_42_method_66_code 51 = .ok (.goto 4, 3) := by decide +kernel
theorem deq_54 : decode jdk_42_method_66_code 54 = .ok (.iconst 0, 1) := by decide +kernel
theorem deq_55 : decode jdk_42_method_66_code 55 = .ok (.ireturn, 1) := by decide +kernel
set_option maxRecDepth 65536 in
set_option maxHeartbeats 40000000 in
theorem c_eqS (l : Launch) (Z : State) (a0 : Array Value) (hw : ∀ d ∈ tables_1, d.before a0 Z = true) (a1 : Addr) (a2 : Addr) (h0 : Heap) (n0 : Nat) (b1 b2 : Addr) (N M : Nat) (g g' : Nat → Int32) (hN : N < 2 ^ 30) (hM : M < 2 ^ 30) (cs : Int32) (hcs : ¬ cs = 0) (S_COMPACT_STRINGS : Sta Z h0 "java/lang/String" "COMPACT_STRINGS" "Z" (.int cs)) (X_a1 : Exa Z h0 a1 "java/lang/String") (F_coder_a1 : Fld Z h0 a1 "java/lang/String" "coder" "B" (.int (0 : Int32))) (F_value_a1 : Fld Z h0 a1 "java/lang/String" "value" "[B" (.ref b1)) (A_b1 : Ary Z h0 b1 .byte N (fun q => .int (g q))) (X_a2 : Exa Z h0 a2 "java/lang/String") (F_coder_a2 : Fld Z h0 a2 "java/lang/String" "coder" "B" (.int (0 : Int32))) (F_value_a2 : Fld Z h0 a2 "java/lang/String" "value" "[B" (.ref b2)) (A_b2 : Ary Z h0 b2 .byte M (fun q => .int (g' q))) :
    Con l Z consts_1 [] (⟨"java/lang/String", "equals", "(Ljava/lang/Object;)Z"⟩ : MethodName) jdk_42_method_66_code 3 (some .boolean) ({ frames := 1, cells := 0, slots := 0, locals := 14 } : Room) #[(.ref a1), (.ref a2)] h0 n0 (fun v h _ => h = h0 ∧ EqAt g g' N M v) := by
  refine Con.of (plainFor_of_name (by first | (simp [plainName, overriddenIn]; done) | decide +kernel)) (elw hw) (L0 := #[.val (.ref a1), .val (.ref a2), .unset]) (fun m => by first | (simp [entryFrame, mkF, argsToLocals, Value.category]; done) | rfl) ?_
  intro p e s m below meth c T C S
  refine g_aloadN C S deq_0 (pc' := 1) rfl rfl rfl ?_
  refine g_aloadN C S deq_1 (pc' := 2) rfl rfl rfl ?_
  refine g_acmp_ne C S rfl rfl deq_2 (pc' := 7) (pf := 5) (by decide) (by decide) rfl (fun hc2 => ?_) (fun hc2 => ?_)
  · refine g_aloadN C S deq_7 (pc' := 8) rfl rfl rfl ?_
    refine g_inst C S deq_8 (hw _ (List.mem_of_getElem? (i := 79) rfl)) X_a2 (pc' := 11) rfl (fun T43 S => ?_)
    refine g_if_eq C S deq_11 (pc' := 54) (pf := 14) (by decide) (by decide) rfl (fun hc11 => absurd hc11 (by decide)) (fun hc11 => ?_)
    refine g_aloadN C S deq_14 (pc' := 15) rfl rfl rfl ?_
    refine g_cast C S deq_15 (hw _ (List.mem_of_getElem? (i := 79) rfl)) X_a2 (pc' := 18) rfl (fun T44 S => ?_)
    refine g_astoreN C S deq_18 (pc' := 19) rfl rfl (L' := #[.val (.ref a1), .val (.ref a2), .val (.ref a2)]) rfl ?_
    refine g_getS C S deq_19 (host := "") (Or.inl (hw _ (List.mem_of_getElem? (i := 49) rfl))) Via.refl S_COMPACT_STRINGS (pc' := 22) rfl (fun T45 S => ?_)
    refine g_if_eq C S deq_22 (pc' := 36) (pf := 25) (by decide) (by decide) rfl (fun hc22 => absurd hc22 hcs) (fun hc22 => ?_)
    refine g_aloadN C S deq_25 (pc' := 26) rfl rfl rfl ?_
    refine g_getF C S deq_26 (host := "") (Or.inl (hw _ (List.mem_of_getElem? (i := 29) rfl))) Via.refl F_coder_a1 (pc' := 29) rfl (fun T46 S => ?_)
    refine g_aloadN C S deq_29 (pc' := 30) rfl rfl rfl ?_
    refine g_getF C S deq_30 (host := "") (Or.inl (hw _ (List.mem_of_getElem? (i := 29) rfl))) Via.refl F_coder_a2 (pc' := 33) rfl (fun T47 S => ?_)
    refine g_icmp_ne C S deq_33 (pc' := 54) (pf := 36) (by decide) (by decide) rfl (fun hc33 => absurd rfl hc33) (fun hc33 => ?_)
    refine g_aloadN C S deq_36 (pc' := 37) rfl rfl rfl ?_
    refine g_getF C S deq_37 (host := "") (Or.inl (hw _ (List.mem_of_getElem? (i := 28) rfl))) Via.refl F_value_a1 (pc' := 40) rfl (fun T48 S => ?_)
    refine g_aloadN C S deq_40 (pc' := 41) rfl rfl rfl ?_
    refine g_getF C S deq_41 (host := "") (Or.inl (hw _ (List.mem_of_getElem? (i := 28) rfl))) Via.refl F_value_a2 (pc' := 44) rfl (fun T49 S => ?_)
    refine g_callS C S (rm := ({ frames := 0, cells := 0, slots := 0, locals := 0 } : Room)) (W := 0) deq_44 (hw _ (List.mem_of_getElem? (i := 80) rfl)) (hw _ (List.mem_of_getElem? (i := 81) rfl)) (hw _ (List.mem_of_getElem? (i := 62) rfl)) (hw _ (List.mem_of_getElem? (i := 82) rfl)) (by decide) (c_eqB l Z a0 hw b1 b2 h0 n0 N M g g' hN hM A_b1 A_b2) (argsL := [(.ref b1), (.ref b2)]) (r := []) rfl all0 (lenOf pd_5 rfl) rfl (Nat.le_of_eq rfl) (by decide) (by decide) (by decide) (by decide) (pc' := 47) rfl (fun T50 h50 v50 P50 q50 S => ?_)
    obtain ⟨e50, q50⟩ := q50; rw [e50] at S
    obtain ⟨z50, rfl, hz50⟩ := EqAt.val q50
    show Gl p e below s Z consts_1 _ n0 _ T50 (mkF m 47 #[.val (.ref a1), .val (.ref a2), .val (.ref a2)] [(.int z50)])
    have hzz := hz50
    refine g_if_eq C S deq_47 (pc' := 54) (pf := 50) (by decide) (by decide) rfl (fun hc47 => ?_) (fun hc47 => ?_)
    · refine g_iconst C S (0 : Int32) deq_54 (pc' := 55) rfl rfl ?_
      exact g_retZ C S deq_55 (by decide) (by decide) (by decide) (⟨rfl, EqAt.zero hzz hc47⟩)
    · refine g_iconst C S (1 : Int32) deq_50 (pc' := 51) rfl rfl ?_
      refine g_goto C S deq_51 (pc' := 55) (by decide) (by decide) ?_
      exact g_retZ C S deq_55 (by decide) (by decide) (by decide) (⟨rfl, EqAt.one hzz hc47⟩)
  · refine g_iconst C S (1 : Int32) deq_5 (pc' := 6) rfl rfl ?_
    exact g_retZ C S deq_6 (by decide) (by decide) (by decide) (⟨rfl, Or.inl ⟨rfl, same_bytes hc2 F_value_a1 F_value_a2 A_b1 A_b2⟩⟩)
theorem dce_0 : decode jdk_43_method_4_code 0 = .ok (.iload_n 0, 1) := by decide +kernel
theorem dce_1 : decode jdk_43_method_4_code 1 = .ok (.ifCond .lt 14, 3) := by decide +kernel
theorem dce_4 : decode jdk_43_method_4_code 4 = .ok (.iload_n 0, 1) := by decide +kernel
theorem dce_5 : decode jdk_43_method_4_code 5 = .ok (.sipush 255, 3) := by decide +kernel
theorem dce_8 : decode jdk_43_method_4_code 8 = .ok (.if_icmp .gt 7, 3) := by decide +kernel
theorem dce_11 : decode jdk_43_method_4_code 11 = .ok (.iconst 1, 1) := by decide +kernel
theorem dce_12 : decode jdk_43_method_4_code 12 = .ok (.goto 4, 3) := by decide +kernel
theorem dce_16 : decode jdk_43_method_4_code 16 = .ok (.ireturn, 1) := by decide +kernel
set_option maxRecDepth 65536 in
set_option maxHeartbeats 40000000 in
theorem c_can (l : Launch) (Z : State) (a0 : Array Value) (hw : ∀ d ∈ tables_1, d.before a0 Z = true)  (h0 : Heap) (n0 : Nat) :
    Con l Z consts_1 [] (⟨"java/lang/StringLatin1", "canEncode", "(I)Z"⟩ : MethodName) jdk_43_method_4_code 1 (some .boolean) ({ frames := 0, cells := 0, slots := 0, locals := 0 } : Room) #[(.int (32 : Int32))] h0 n0 (fun v h _ => v = some (.int 1) ∧ h = h0) := by
  refine Con.of (plainFor_of_name (by first | (simp [plainName, overriddenIn]; done) | decide +kernel)) (elw hw) (L0 := #[.val (.int (32 : Int32))]) (fun m => by first | (simp [entryFrame, mkF, argsToLocals, Value.category]; done) | rfl) ?_
  intro p e s m below meth c T C S
  refine g_iloadN C S dce_0 (pc' := 1) rfl rfl ?_
  refine g_if_lt C S dce_1 (pc' := 15) (pf := 4) (by decide) (by decide) rfl (fun hc1 => absurd hc1 (by decide)) (fun hc1 => ?_)
  refine g_iloadN C S dce_4 (pc' := 5) rfl rfl ?_
  refine g_sipush C S (255 : Int32) dce_5 (pc' := 8) rfl rfl ?_
  refine g_icmp_gt C S dce_8 (pc' := 15) (pf := 11) (by decide) (by decide) rfl (fun hc8 => absurd hc8 (by decide)) (fun hc8 => ?_)
  refine g_iconst C S (1 : Int32) dce_11 (pc' := 12) rfl rfl ?_
  refine g_goto C S dce_12 (pc' := 16) (by decide) (by decide) ?_
  exact g_retZ C S dce_16 (by decide) (by decide) (by decide) (⟨rfl, rfl⟩)
theorem dmmax_0 : decode jdk_29_method_65_code 0 = .ok (.iload_n 0, 1) := by decide +kernel
theorem dmmax_1 : decode jdk_29_method_65_code 1 = .ok (.iload_n 1, 1) := by decide +kernel
theorem dmmax_2 : decode jdk_29_method_65_code 2 = .ok (.if_icmp .lt 7, 3) := by decide +kernel
theorem dmmax_5 : decode jdk_29_method_65_code 5 = .ok (.iload_n 0, 1) := by decide +kernel
theorem dmmax_6 : decode jdk_29_method_65_code 6 = .ok (.goto 4, 3) := by decide +kernel
theorem dmmax_9 : decode jdk_29_method_65_code 9 = .ok (.iload_n 1, 1) := by decide +kernel
theorem dmmax_10 : decode jdk_29_method_65_code 10 = .ok (.ireturn, 1) := by decide +kernel
set_option maxRecDepth 65536 in
set_option maxHeartbeats 40000000 in
theorem c_max (l : Launch) (Z : State) (a0 : Array Value) (hw : ∀ d ∈ tables_1, d.before a0 Z = true) (p1 : Int32) (p2 : Int32) (h0 : Heap) (n0 : Nat) (r : Int32) (hr : (if p1 < p2 then p2 else p1) = r) :
    Con l Z consts_1 [] (⟨"java/lang/Math", "max", "(II)I"⟩ : MethodName) jdk_29_method_65_code 2 (some .int) ({ frames := 0, cells := 0, slots := 0, locals := 0 } : Room) #[(.int p1), (.int p2)] h0 n0 (fun v h _ => v = some (.int r) ∧ h = h0) := by
  refine Con.of (Jvm.Free.JP.mathPlain rfl (by decide +kernel)) (elw hw) (L0 := #[.val (.int p1), .val (.int p2)]) (fun m => by first | (simp [entryFrame, mkF, argsToLocals, Value.category]; done) | rfl) ?_
  intro p e s m below meth c T C S
  refine g_iloadN C S dmmax_0 (pc' := 1) rfl rfl ?_
  refine g_iloadN C S dmmax_1 (pc' := 2) rfl rfl ?_
  refine g_icmp_lt C S dmmax_2 (pc' := 9) (pf := 5) (by decide) (by decide) rfl (fun hc2 => ?_) (fun hc2 => ?_)
  · refine g_iloadN C S dmmax_9 (pc' := 10) rfl rfl ?_
    exact g_retI C S dmmax_10 (by decide) (by decide) (⟨by rw [← hr, if_pos hc2], rfl⟩)
  · refine g_iloadN C S dmmax_5 (pc' := 6) rfl rfl ?_
    refine g_goto C S dmmax_6 (pc' := 10) (by decide) (by decide) ?_
    exact g_retI C S dmmax_10 (by decide) (by decide) (⟨by rw [← hr, if_neg hc2], rfl⟩)
theorem dmmin_0 : decode jdk_29_method_69_code 0 = .ok (.iload_n 0, 1) := by decide +kernel
theorem dmmin_1 : decode jdk_29_method_69_code 1 = .ok (.iload_n 1, 1) := by decide +kernel
theorem dmmin_2 : decode jdk_29_method_69_code 2 = .ok (.if_icmp .gt 7, 3) := by decide +kernel
theorem dmmin_5 : decode jdk_29_method_69_code 5 = .ok (.iload_n 0, 1) := by decide +kernel
theorem dmmin_6 : decode jdk_29_method_69_code 6 = .ok (.goto 4, 3) := by decide +kernel
theorem dmmin_9 : decode jdk_29_method_69_code 9 = .ok (.iload_n 1, 1) := by decide +kernel
theorem dmmin_10 : decode jdk_29_method_69_code 10 = .ok (.ireturn, 1) := by decide +kernel
set_option maxRecDepth 65536 in
set_option maxHeartbeats 40000000 in
theorem c_min (l : Launch) (Z : State) (a0 : Array Value) (hw : ∀ d ∈ tables_1, d.before a0 Z = true) (p1 : Int32) (p2 : Int32) (h0 : Heap) (n0 : Nat) (r : Int32) (hr : (if p2 < p1 then p2 else p1) = r) :
    Con l Z consts_1 [] (⟨"java/lang/Math", "min", "(II)I"⟩ : MethodName) jdk_29_method_69_code 2 (some .int) ({ frames := 0, cells := 0, slots := 0, locals := 0 } : Room) #[(.int p1), (.int p2)] h0 n0 (fun v h _ => v = some (.int r) ∧ h = h0) := by
  refine Con.of (Jvm.Free.JP.mathPlain rfl (by decide +kernel)) (elw hw) (L0 := #[.val (.int p1), .val (.int p2)]) (fun m => by first | (simp [entryFrame, mkF, argsToLocals, Value.category]; done) | rfl) ?_
  intro p e s m below meth c T C S
  refine g_iloadN C S dmmin_0 (pc' := 1) rfl rfl ?_
  refine g_iloadN C S dmmin_1 (pc' := 2) rfl rfl ?_
  refine g_icmp_gt C S dmmin_2 (pc' := 9) (pf := 5) (by decide) (by decide) rfl (fun hc2 => ?_) (fun hc2 => ?_)
  · refine g_iloadN C S dmmin_9 (pc' := 10) rfl rfl ?_
    exact g_retI C S dmmin_10 (by decide) (by decide) (⟨by rw [← hr, if_pos hc2], rfl⟩)
  · refine g_iloadN C S dmmin_5 (pc' := 6) rfl rfl ?_
    refine g_goto C S dmmin_6 (pc' := 10) (by decide) (by decide) ?_
    exact g_retI C S dmmin_10 (by decide) (by decide) (⟨by rw [← hr, if_neg hc2], rfl⟩)
theorem dic_0 : decode jdk_43_method_23_code 0 = .ok (.iload_n 1, 1) := by decide +kernel
theorem dic_1 : decode jdk_43_method_23_code 1 = .ok (.i2b, 1) := by decide +kernel
theorem dic_2 : decode jdk_43_method_23_code 2 = .ok (.istore 4, 2) := by decide +kernel
theorem dic_4 : decode jdk_43_method_23_code 4 = .ok (.iload_n 2, 1) := by decide +kernel
theorem dic_5 : decode jdk_43_method_23_code 5 = .ok (.istore 5, 2) := by decide +kernel
theorem dic_7 : decode jdk_43_method_23_code 7 = .ok (.iload 5, 2) := by decide +kernel
theorem dic_9 : decode jdk_43_method_23_code 9 = .ok (.iload_n 3, 1) := by decide +kernel
theorem dic_10 : decode jdk_43_method_23_code 10 = .ok (.if_icmp .ge 21, 3) := by decide +kernel
theorem dic_13 : decode jdk_43_method_23_code 13 = .ok (.aload_n 0, 1) := by decide +kernel
theorem dic_14 : decode jdk_43_method_23_code 14 = .ok (.iload 5, 2) := by decide +kernel
theorem dic_16 : decode jdk_43_method_23_code 16 = .ok (.baload, 1) := by decide +kernel
theorem dic_17 : decode jdk_43_method_23_code 17 = .ok (.iload 4, 2) := by decide +kernel
theorem dic_19 : decode jdk_43_method_23_code 19 = .ok (.if_icmp .ne 6, 3) := by decide +kernel
theorem dic_22 : decode jdk_43_method_23_code 22 = .ok (.iload 5, 2) := by decide +kernel
theorem dic_24 : decode jdk_43_method_23_code 24 = .ok (.ireturn, 1) := by decide +kernel
theorem dic_25 : decode jdk_43_method_23_code 25 = .ok (.iinc 5 1, 3) := by decide +kernel
theorem dic_28 : decode jdk_43_method_23_code 28 = .ok (.goto (-21), 3) := by decide +kernel
theorem dic_31 : decode jdk_43_method_23_code 31 = .ok (.iconst (-1), 1) := by decide +kernel
theorem dic_32 : decode jdk_43_method_23_code 32 = .ok (.ireturn, 1) := by decide +kernel
set_option maxRecDepth 65536 in
set_option maxHeartbeats 40000000 in
theorem c_ich (l : Launch) (Z : State) (a0 : Array Value) (hw : ∀ d ∈ tables_1, d.before a0 Z = true) (a1 : Addr) (h0 : Heap) (n0 : Nat) (N : Nat) (g : Nat → Int32) (hN : N < 2 ^ 30) (A_a1 : Ary Z h0 a1 .byte N (fun q => .int (g q))) :
    Con l Z consts_1 [] (⟨"java/lang/StringLatin1", "indexOfChar", "([BIII)I"⟩ : MethodName) jdk_43_method_23_code 6 (some .int) ({ frames := 0, cells := 0, slots := 0, locals := 0 } : Room) #[(.ref a1), (.int (32 : Int32)), (.int (0 : Int32)), (.int (Int32.ofNat N))] h0 n0 (fun v h _ => h = h0 ∧ IxAt g N v) := by
  refine Con.of (plainFor_of_name (by first | (simp [plainName, overriddenIn]; done) | decide +kernel)) (elw hw) (L0 := #[.val (.ref a1), .val (.int (32 : Int32)), .val (.int (0 : Int32)), .val (.int (Int32.ofNat N)), .unset, .unset]) (fun m => by first | (simp [entryFrame, mkF, argsToLocals, Value.category]; done) | rfl) ?_
  intro p e s m below meth c T C S
  refine g_iloadN C S dic_0 (pc' := 1) rfl rfl ?_
  refine g_i2b C S dic_1 (pc' := 2) rfl ?_
  refine g_istore C S dic_2 (pc' := 4) rfl (L' := #[.val (.ref a1), .val (.int (32 : Int32)), .val (.int (0 : Int32)), .val (.int (Int32.ofNat N)), .val (.int ((32 : Int32).toInt8.toInt32)), .unset]) rfl ?_
  refine g_iloadN C S dic_4 (pc' := 5) rfl rfl ?_
  refine g_istore C S dic_5 (pc' := 7) rfl (L' := #[.val (.ref a1), .val (.int (32 : Int32)), .val (.int (0 : Int32)), .val (.int (Int32.ofNat N)), .val (.int ((32 : Int32).toInt8.toInt32)), .val (.int (0 : Int32))]) rfl ?_
  have LP : ∀ (d : Nat) (i : Nat), i + d = N → (∀ j, j < i → ¬ g j = 32) → Gl p e below s Z consts_1 ({ frames := 0, cells := 0, slots := 0, locals := 0 } : Room) n0 (fun v h _ => h = h0 ∧ IxAt g N v) T (mkF m 7 #[.val (.ref a1), .val (.int (32 : Int32)), .val (.int (0 : Int32)), .val (.int (Int32.ofNat N)), .val (.int ((32 : Int32).toInt8.toInt32)), .val (.int (Int32.ofNat i))] []) := by
    intro d
    induction d with
    | zero =>
      intro i hd hE
      refine g_iload C S dic_7 (pc' := 9) rfl rfl ?_
      refine g_iloadN C S dic_9 (pc' := 10) rfl rfl ?_
      refine g_icmp_ge C S dic_10 (pc' := 31) (pf := 13) (by decide) (by decide) rfl (fun hc10 => ?_) (fun hc10 => absurd hc10 (by rw [o32_lt (by omega) (by omega)]; omega))
      refine g_iconst C S (-1 : Int32) dic_31 (pc' := 32) rfl rfl ?_
      exact g_retI C S dic_32 (by decide) (by decide) (⟨rfl, Or.inr ⟨rfl, fun j hj => hE j (by omega)⟩⟩)
    | succ d ih =>
      intro i hd hE
      refine g_iload C S dic_7 (pc' := 9) rfl rfl ?_
      refine g_iloadN C S dic_9 (pc' := 10) rfl rfl ?_
      refine g_icmp_ge C S dic_10 (pc' := 31) (pf := 13) (by decide) (by decide) rfl (fun hc10 => absurd ((o32_lt (by omega) (by omega)).mpr (by omega)) hc10) (fun hc10 => ?_)
      refine g_aloadN C S dic_13 (pc' := 14) rfl rfl rfl ?_
      refine g_iload C S dic_14 (pc' := 16) rfl rfl ?_
      refine g_baloadB C S (i := i) (v := (.int (g i))) dic_16 A_a1 (o32 (by omega)) (by omega) rfl (pc' := 17) rfl ?_
      refine g_iload C S dic_17 (pc' := 19) rfl rfl ?_
      refine g_icmp_ne C S dic_19 (pc' := 25) (pf := 22) (by decide) (by decide) rfl (fun hc19 => ?_) (fun hc19 => ?_)
      · refine g_iinc C S (1 : Int32) dic_25 (pc' := 28) rfl rfl rfl (L' := #[.val (.ref a1), .val (.int (32 : Int32)), .val (.int (0 : Int32)), .val (.int (Int32.ofNat N)), .val (.int ((32 : Int32).toInt8.toInt32)), .val (.int ((Int32.ofNat i) + (1 : Int32)))]) rfl ?_
        refine g_goto C S dic_28 (pc' := 7) (by decide) (by decide) ?_
        rw [o32_succ]
        exact ih (i + 1) (by omega) (ne_step hE (fun z => hc19 (z.trans b32.symm)))
      · refine g_iload C S dic_22 (pc' := 24) rfl rfl ?_
        exact g_retI C S dic_24 (by decide) (by decide) (⟨rfl, Or.inl ⟨i, by omega, rfl, hc19.trans b32, hE⟩⟩)
  exact LP N 0 (by omega) (fun j hj => absurd hj (Nat.not_lt_zero j))
theorem pd_6 : parseMethodDescriptor "(I)Z" = some ⟨[.int], some .boolean⟩ := by decide +kernel
theorem pd_7 : parseMethodDescriptor "(II)I" = some ⟨[.int, .int], some .int⟩ := by decide +kernel
theorem pd_8 : parseMethodDescriptor "([BIII)I" = some ⟨[(.array .byte), .int, .int, .int], some .int⟩ := by decide +kernel
theorem dix_0 : decode jdk_43_method_22_code 0 = .ok (.iload_n 1, 1) := by decide +kernel
theorem dix_1 : decode jdk_43_method_22_code 1 = .ok (.invokestatic 88, 3) := by decide +kernel
theorem dix_4 : decode jdk_43_method_22_code 4 = .ok (.ifCond .ne 5, 3) := by decide +kernel
theorem dix_9 : decode jdk_43_method_22_code 9 = .ok (.iload_n 2, 1) := by decide +kernel
theorem dix_10 : decode jdk_43_method_22_code 10 = .ok (.iconst 0, 1) := by decide +kernel
theorem dix_11 : decode jdk_43_method_22_code 11 = .ok (.invokestatic 92, 3) := by decide +kernel
theorem dix_14 : decode jdk_43_method_22_code 14 = .ok (.istore_n 2, 1) := by decide +kernel
theorem dix_15 : decode jdk_43_method_22_code 15 = .ok (.iload_n 3, 1) := by decide +kernel
theorem dix_16 : decode jdk_43_method_22_code 16 = .ok (.aload_n 0, 1) := by decide +kernel
theorem dix_17 : decode jdk_43_method_22_code 17 = .ok (.arraylength, 1) := by decide +kernel
theorem dix_18 : decode jdk_43_method_22_code 18 = .ok (.invokestatic 38, 3) := by decide +kernel
theorem dix_21 : decode jdk_43_method_22_code 21 = .ok (.istore_n 3, 1) := by decide +kernel
theorem dix_22 : decode jdk_43_method_22_code 22 = .ok (.iload_n 2, 1) := by decide +kernel
theorem dix_23 : decode jdk_43_method_22_code 23 = .ok (.iload_n 3, 1) := by decide +kernel
theorem dix_24 : decode jdk_43_method_22_code 24 = .ok (.if_icmp .lt 5, 3) := by decide +kernel
theorem dix_27 : decode jdk_43_method_22_code 27 = .ok (.iconst (-1), 1) := by decide +kernel
theorem dix_28 : decode jdk_43_method_22_code 28 = .ok (.ireturn, 1) := by decide +kernel
theorem dix_29 : decode jdk_43_method_22_code 29 = .ok (.aload_n 0, 1) := by decide +kernel
theorem dix_30 : decode jdk_43_method_22_code 30 = .ok (.iload_n 1, 1) := by decide +kernel
theorem dix_31 : decode jdk_43_method_22_code 31 = .ok (.iload_n 2, 1) := by decide +kernel
theorem dix_32 : decode jdk_43_method_22_code 32 = .ok (.iload_n 3, 1) := by decide +kernel
theorem dix_33 : decode jdk_43_method_22_code 33 = .ok (.invokestatic 95, 3) := by decide +kernel
theorem dix_36 : decode jdk_43_method_22_code 36 = .ok (.ireturn, 1) := by decide +kernel
set_option maxRecDepth 65536 in
set_option maxHeartbeats 40000000 in
theorem c_ixL (l : Launch) (Z : State) (a0 : Array Value) (hw : ∀ d ∈ tables_1, d.before a0 Z = true) (a1 : Addr) (h0 : Heap) (n0 : Nat) (N : Nat) (g : Nat → Int32) (hN : N < 2 ^ 30) (A_a1 : Ary Z h0 a1 .byte N (fun q => .int (g q))) :
    Con l Z consts_1 [] (⟨"java/lang/StringLatin1", "indexOf", "([BIII)I"⟩ : MethodName) jdk_43_method_22_code 4 (some .int) ({ frames := 1, cells := 0, slots := 0, locals := 17 } : Room) #[(.ref a1), (.int (32 : Int32)), (.int (0 : Int32)), (.int (Int32.ofNat N))] h0 n0 (fun v h _ => h = h0 ∧ IxAt g N v) := by
  refine Con.of (plainFor_of_name (by first | (simp [plainName, overriddenIn]; done) | decide +kernel)) (elw hw) (L0 := #[.val (.ref a1), .val (.int (32 : Int32)), .val (.int (0 : Int32)), .val (.int (Int32.ofNat N))]) (fun m => by first | (simp [entryFrame, mkF, argsToLocals, Value.category]; done) | rfl) ?_
  intro p e s m below meth c T C S
  refine g_iloadN C S dix_0 (pc' := 1) rfl rfl ?_
  refine g_callS C S (rm := ({ frames := 0, cells := 0, slots := 0, locals := 0 } : Room)) (W := 0) dix_1 (hw _ (List.mem_of_getElem? (i := 64) rfl)) (hw _ (List.mem_of_getElem? (i := 65) rfl)) (hw _ (List.mem_of_getElem? (i := 62) rfl)) (hw _ (List.mem_of_getElem? (i := 66) rfl)) (by decide) (c_can l Z a0 hw h0 n0) (argsL := [(.int (32 : Int32))]) (r := []) rfl all0 (lenOf pd_6 rfl) rfl (Nat.le_of_eq rfl) (by decide) (by decide) (by decide) (by decide) (pc' := 4) rfl (fun T51 h51 v51 P51 q51 S => ?_)
  obtain ⟨rfl, e51⟩ := q51; rw [e51] at S
  show Gl p e below s Z consts_1 _ n0 _ T51 (mkF m 4 #[.val (.ref a1), .val (.int (32 : Int32)), .val (.int (0 : Int32)), .val (.int (Int32.ofNat N))] [(.int (1 : Int32))])
  refine g_if_ne C S dix_4 (pc' := 9) (pf := 7) (by decide) (by decide) rfl (fun hc4 => ?_) (fun hc4 => absurd hc4 (by decide))
  refine g_iloadN C S dix_9 (pc' := 10) rfl rfl ?_
  refine g_iconst C S (0 : Int32) dix_10 (pc' := 11) rfl rfl ?_
  refine g_callS C S (rm := ({ frames := 0, cells := 0, slots := 0, locals := 0 } : Room)) (W := 0) dix_11 (hw _ (List.mem_of_getElem? (i := 67) rfl)) (hw _ (List.mem_of_getElem? (i := 68) rfl)) (hw _ (List.mem_of_getElem? (i := 69) rfl)) (hw _ (List.mem_of_getElem? (i := 70) rfl)) (by decide) (c_max l Z a0 hw 0 0 h0 n0 0 (by decide)) (argsL := [(.int (0 : Int32)), (.int (0 : Int32))]) (r := []) rfl all0 (lenOf pd_7 rfl) rfl (Nat.le_of_eq rfl) (by decide) (by decide) (by decide) (by decide) (pc' := 14) rfl (fun T52 h52 v52 P52 q52 S => ?_)
  obtain ⟨rfl, e52⟩ := q52; rw [e52] at S
  show Gl p e below s Z consts_1 _ n0 _ T52 (mkF m 14 #[.val (.ref a1), .val (.int (32 : Int32)), .val (.int (0 : Int32)), .val (.int (Int32.ofNat N))] [(.int (0 : Int32))])
  refine g_istoreN C S dix_14 (pc' := 15) rfl (L' := #[.val (.ref a1), .val (.int (32 : Int32)), .val (.int (0 : Int32)), .val (.int (Int32.ofNat N))]) rfl ?_
  refine g_iloadN C S dix_15 (pc' := 16) rfl rfl ?_
  refine g_aloadN C S dix_16 (pc' := 17) rfl rfl rfl ?_
  refine g_arraylength C S (x := (Int32.ofNat N)) dix_17 A_a1 rfl (pc' := 18) rfl ?_
  refine g_callS C S (rm := ({ frames := 0, cells := 0, slots := 0, locals := 0 } : Room)) (W := 0) dix_18 (hw _ (List.mem_of_getElem? (i := 71) rfl)) (hw _ (List.mem_of_getElem? (i := 72) rfl)) (hw _ (List.mem_of_getElem? (i := 69) rfl)) (hw _ (List.mem_of_getElem? (i := 73) rfl)) (by decide) (c_min l Z a0 hw (Int32.ofNat N) (Int32.ofNat N) h0 n0 (Int32.ofNat N) (if_neg (fun z => Int32.lt_irrefl z))) (argsL := [(.int (Int32.ofNat N)), (.int (Int32.ofNat N))]) (r := []) rfl all0 (lenOf pd_7 rfl) rfl (Nat.le_of_eq rfl) (by decide) (by decide) (by decide) (by decide) (pc' := 21) rfl (fun T53 h53 v53 P53 q53 S => ?_)
  obtain ⟨rfl, e53⟩ := q53; rw [e53] at S
  show Gl p e below s Z consts_1 _ n0 _ T53 (mkF m 21 #[.val (.ref a1), .val (.int (32 : Int32)), .val (.int (0 : Int32)), .val (.int (Int32.ofNat N))] [(.int (Int32.ofNat N))])
  refine g_istoreN C S dix_21 (pc' := 22) rfl (L' := #[.val (.ref a1), .val (.int (32 : Int32)), .val (.int (0 : Int32)), .val (.int (Int32.ofNat N))]) rfl ?_
  refine g_iloadN C S dix_22 (pc' := 23) rfl rfl ?_
  refine g_iloadN C S dix_23 (pc' := 24) rfl rfl ?_
  refine g_icmp_lt C S dix_24 (pc' := 29) (pf := 27) (by decide) (by decide) rfl (fun hc24 => ?_) (fun hc24 => ?_)
  · refine g_aloadN C S dix_29 (pc' := 30) rfl rfl rfl ?_
    refine g_iloadN C S dix_30 (pc' := 31) rfl rfl ?_
    refine g_iloadN C S dix_31 (pc' := 32) rfl rfl ?_
    refine g_iloadN C S dix_32 (pc' := 33) rfl rfl ?_
    refine g_callS C S (rm := ({ frames := 0, cells := 0, slots := 0, locals := 0 } : Room)) (W := 0) dix_33 (hw _ (List.mem_of_getElem? (i := 93) rfl)) (hw _ (List.mem_of_getElem? (i := 94) rfl)) (hw _ (List.mem_of_getElem? (i := 62) rfl)) (hw _ (List.mem_of_getElem? (i := 95) rfl)) (by decide) (c_ich l Z a0 hw a1 h0 n0 N g hN A_a1) (argsL := [(.ref a1), (.int (32 : Int32)), (.int (0 : Int32)), (.int (Int32.ofNat N))]) (r := []) rfl all0 (lenOf pd_8 rfl) rfl (Nat.le_of_eq rfl) (by decide) (by decide) (by decide) (by decide) (pc' := 36) rfl (fun T54 h54 v54 P54 q54 S => ?_)
    obtain ⟨e54, q54⟩ := q54; rw [e54] at S
    obtain ⟨z54, rfl, hz54⟩ := IxAt.val q54
    show Gl p e below s Z consts_1 _ n0 _ T54 (mkF m 36 #[.val (.ref a1), .val (.int (32 : Int32)), .val (.int (0 : Int32)), .val (.int (Int32.ofNat N))] [(.int z54)])
    exact g_retI C S dix_36 (by decide) (by decide) (⟨rfl, hz54⟩)
  · refine g_iconst C S (-1 : Int32) dix_27 (pc' := 28) rfl rfl ?_
    exact g_retI C S dix_28 (by decide) (by decide) (⟨rfl, Or.inr ⟨rfl, fun j hj => absurd ((pos32 (by omega)).mpr (by omega)) hc24⟩⟩)
theorem pd_9 : parseMethodDescriptor "()Z" = some ⟨[], some .boolean⟩ := by decide +kernel
theorem pd_10 : parseMethodDescriptor "()I" = some ⟨[], some .int⟩ := by decide +kernel
theorem di2_0 : decode jdk_42_method_80_code 0 = .ok (.aload_n 0, 1) := by decide +kernel
theorem di2_1 : decode jdk_42_method_80_code 1 = .ok (.invokevirtual 492, 3) := by decide +kernel
theorem di2_4 : decode jdk_42_method_80_code 4 = .ok (.ifCond .eq 19, 3) := by decide +kernel
theorem di2_7 : decode jdk_42_method_80_code 7 = .ok (.aload_n 0, 1) := by decide +kernel
theorem di2_8 : decode jdk_42_method_80_code 8 = .ok (.getfield 9, 3) := by decide +kernel
theorem di2_11 : decode jdk_42_method_80_code 11 = .ok (.iload_n 1, 1) := by decide +kernel
theorem di2_12 : decode jdk_42_method_80_code 12 = .ok (.iload_n 2, 1) := by decide +kernel
theorem di2_13 : decode jdk_42_method_80_code 13 = .ok (.aload_n 0, 1) := by decide +kernel
theorem di2_14 : decode jdk_42_method_80_code 14 = .ok (.invokevirtual 505, 3) := by decide +kernel
theorem di2_17 : decode jdk_42_method_80_code 17 = .ok (.invokestatic 637, 3) := by decide +kernel
theorem di2_20 : decode jdk_42_method_80_code 20 = .ok (.goto 16, 3) := by decide +kernel
theorem di2_36 : decode jdk_42_method_80_code 36 = .ok (.ireturn, 1) := by decide +kernel
set_option maxRecDepth 65536 in
set_option maxHeartbeats 40000000 in
theorem c_ix2 (l : Launch) (Z : State) (a0 : Array Value) (hw : ∀ d ∈ tables_1, d.before a0 Z = true) (a1 : Addr) (h0 : Heap) (n0 : Nat) (b1 : Addr) (N : Nat) (g : Nat → Int32) (hN : N < 2 ^ 30) (cs : Int32) (hcs : ¬ cs = 0) (S_COMPACT_STRINGS : Sta Z h0 "java/lang/String" "COMPACT_STRINGS" "Z" (.int cs)) (X_a1 : Exa Z h0 a1 "java/lang/String") (F_coder_a1 : Fld Z h0 a1 "java/lang/String" "coder" "B" (.int (0 : Int32))) (F_value_a1 : Fld Z h0 a1 "java/lang/String" "value" "[B" (.ref b1)) (A_b1 : Ary Z h0 b1 .byte N (fun q => .int (g q))) :
    Con l Z consts_1 [] (⟨"java/lang/String", "indexOf", "(II)I"⟩ : MethodName) jdk_42_method_80_code 3 (some .int) ({ frames := 2, cells := 0, slots := 0, locals := 36 } : Room) #[(.ref a1), (.int (32 : Int32)), (.int (0 : Int32))] h0 n0 (fun v h _ => h = h0 ∧ IxAt g N v) := by
  refine Con.of (plainFor_of_name (by first | (simp [plainName, overriddenIn]; done) | decide +kernel)) (elw hw) (L0 := #[.val (.ref a1), .val (.int (32 : Int32)), .val (.int (0 : Int32))]) (fun m => by first | (simp [entryFrame, mkF, argsToLocals, Value.category]; done) | rfl) ?_
  intro p e s m below meth c T C S
  refine g_aloadN C S di2_0 (pc' := 1) rfl rfl rfl ?_
  refine g_callV C S (rm := ({ frames := 0, cells := 0, slots := 0, locals := 0 } : Room)) (W := 0) di2_1 (hw _ (List.mem_of_getElem? (i := 44) rfl)) (hw _ (List.mem_of_getElem? (i := 45) rfl)) (fun _ hZ => notFace_of_selects (args := #[]) (mvT hZ (hw _ (List.mem_of_getElem? (i := 47) rfl)))) (hw _ (List.mem_of_getElem? (i := 47) rfl)) (hw _ (List.mem_of_getElem? (i := 46) rfl)) (hw _ (List.mem_of_getElem? (i := 10) rfl)) (hw _ (List.mem_of_getElem? (i := 48) rfl)) (by decide) rfl X_a1 (c_lat l Z a0 hw a1 h0 n0 cs hcs S_COMPACT_STRINGS F_coder_a1) (argsL := []) (r := []) rfl all0 (lenOf pd_9 rfl) rfl (Nat.le_of_eq rfl) (by decide) (by decide) (by decide) (by decide) (pc' := 4) rfl (fun T55 h55 v55 P55 q55 S => ?_)
  obtain ⟨rfl, e55⟩ := q55; rw [e55] at S
  show Gl p e below s Z consts_1 _ n0 _ T55 (mkF m 4 #[.val (.ref a1), .val (.int (32 : Int32)), .val (.int (0 : Int32))] [(.int (1 : Int32))])
  refine g_if_eq C S di2_4 (pc' := 23) (pf := 7) (by decide) (by decide) rfl (fun hc4 => absurd hc4 (by decide)) (fun hc4 => ?_)
  refine g_aloadN C S di2_7 (pc' := 8) rfl rfl rfl ?_
  refine g_getF C S di2_8 (host := "") (Or.inl (hw _ (List.mem_of_getElem? (i := 28) rfl))) Via.refl F_value_a1 (pc' := 11) rfl (fun T56 S => ?_)
  refine g_iloadN C S di2_11 (pc' := 12) rfl rfl ?_
  refine g_iloadN C S di2_12 (pc' := 13) rfl rfl ?_
  refine g_aloadN C S di2_13 (pc' := 14) rfl rfl rfl ?_
  refine g_callV C S (rm := ({ frames := 1, cells := 0, slots := 0, locals := 13 } : Room)) (W := 3) di2_14 (hw _ (List.mem_of_getElem? (i := 50) rfl)) (hw _ (List.mem_of_getElem? (i := 51) rfl)) (fun _ hZ => notFace_of_selects (args := #[]) (mvT hZ (hw _ (List.mem_of_getElem? (i := 53) rfl)))) (hw _ (List.mem_of_getElem? (i := 53) rfl)) (hw _ (List.mem_of_getElem? (i := 52) rfl)) (hw _ (List.mem_of_getElem? (i := 10) rfl)) (hw _ (List.mem_of_getElem? (i := 54) rfl)) (by decide) rfl X_a1 (c_len l Z a0 hw a1 h0 n0 b1 N _ cs hcs S_COMPACT_STRINGS X_a1 F_coder_a1 F_value_a1 A_b1) (argsL := []) (r := [(.int (0 : Int32)), (.int (32 : Int32)), (.ref b1)]) rfl all0 (lenOf pd_10 rfl) rfl (Nat.le_of_eq rfl) (by decide) (by decide) (by decide) (by decide) (pc' := 17) rfl (fun T57 h57 v57 P57 q57 S => ?_)
  obtain ⟨rfl, e57⟩ := q57; rw [e57] at S
  show Gl p e below s Z consts_1 _ n0 _ T57 (mkF m 17 #[.val (.ref a1), .val (.int (32 : Int32)), .val (.int (0 : Int32))] [(.int (Int32.ofNat N)), (.int (0 : Int32)), (.int (32 : Int32)), (.ref b1)])
  refine g_callS C S (rm := ({ frames := 1, cells := 0, slots := 0, locals := 17 } : Room)) (W := 0) di2_17 (hw _ (List.mem_of_getElem? (i := 60) rfl)) (hw _ (List.mem_of_getElem? (i := 61) rfl)) (hw _ (List.mem_of_getElem? (i := 62) rfl)) (hw _ (List.mem_of_getElem? (i := 63) rfl)) (by decide) (c_ixL l Z a0 hw b1 h0 n0 N g hN A_b1) (argsL := [(.ref b1), (.int (32 : Int32)), (.int (0 : Int32)), (.int (Int32.ofNat N))]) (r := []) rfl all0 (lenOf pd_8 rfl) rfl (Nat.le_of_eq rfl) (by decide) (by decide) (by decide) (by decide) (pc' := 20) rfl (fun T58 h58 v58 P58 q58 S => ?_)
  obtain ⟨e58, q58⟩ := q58; rw [e58] at S
  obtain ⟨z58, rfl, hz58⟩ := IxAt.val q58
  show Gl p e below s Z consts_1 _ n0 _ T58 (mkF m 20 #[.val (.ref a1), .val (.int (32 : Int32)), .val (.int (0 : Int32))] [(.int z58)])
  refine g_goto C S di2_20 (pc' := 36) (by decide) (by decide) ?_
  exact g_retI C S di2_36 (by decide) (by decide) (⟨rfl, hz58⟩)
theorem dixa_0 : decode jdk_42_method_79_code 0 = .ok (.aload_n 0, 1) := by decide +kernel
theorem dixa_1 : decode jdk_42_method_79_code 1 = .ok (.iload_n 1, 1) := by decide +kernel
theorem dixa_2 : decode jdk_42_method_79_code 2 = .ok (.iconst 0, 1) := by decide +kernel
theorem dixa_3 : decode jdk_42_method_79_code 3 = .ok (.invokevirtual 633, 3) := by decide +kernel
theorem dixa_6 : decode jdk_42_method_79_code 6 = .ok (.ireturn, 1) := by decide +kernel
set_option maxRecDepth 65536 in
set_option maxHeartbeats 40000000 in
theorem c_ix1 (l : Launch) (Z : State) (a0 : Array Value) (hw : ∀ d ∈ tables_1, d.before a0 Z = true) (a1 : Addr) (h0 : Heap) (n0 : Nat) (b1 : Addr) (N : Nat) (g : Nat → Int32) (hN : N < 2 ^ 30) (cs : Int32) (hcs : ¬ cs = 0) (S_COMPACT_STRINGS : Sta Z h0 "java/lang/String" "COMPACT_STRINGS" "Z" (.int cs)) (X_a1 : Exa Z h0 a1 "java/lang/String") (F_coder_a1 : Fld Z h0 a1 "java/lang/String" "coder" "B" (.int (0 : Int32))) (F_value_a1 : Fld Z h0 a1 "java/lang/String" "value" "[B" (.ref b1)) (A_b1 : Ary Z h0 b1 .byte N (fun q => .int (g q))) :
    Con l Z consts_1 [] (⟨"java/lang/String", "indexOf", "(I)I"⟩ : MethodName) jdk_42_method_79_code 2 (some .int) ({ frames := 3, cells := 0, slots := 0, locals := 50 } : Room) #[(.ref a1), (.int (32 : Int32))] h0 n0 (fun v h _ => h = h0 ∧ IxAt g N v) := by
  refine Con.of (plainFor_of_name (by first | (simp [plainName, overriddenIn]; done) | decide +kernel)) (elw hw) (L0 := #[.val (.ref a1), .val (.int (32 : Int32))]) (fun m => by first | (simp [entryFrame, mkF, argsToLocals, Value.category]; done) | rfl) ?_
  intro p e s m below meth c T C S
  refine g_aloadN C S dixa_0 (pc' := 1) rfl rfl rfl ?_
  refine g_iloadN C S dixa_1 (pc' := 2) rfl rfl ?_
  refine g_iconst C S (0 : Int32) dixa_2 (pc' := 3) rfl rfl ?_
  refine g_callV C S (rm := ({ frames := 2, cells := 0, slots := 0, locals := 36 } : Room)) (W := 0) dixa_3 (hw _ (List.mem_of_getElem? (i := 39) rfl)) (hw _ (List.mem_of_getElem? (i := 40) rfl)) (fun _ hZ => notFace_of_selects (args := #[]) (mvT hZ (hw _ (List.mem_of_getElem? (i := 42) rfl)))) (hw _ (List.mem_of_getElem? (i := 42) rfl)) (hw _ (List.mem_of_getElem? (i := 41) rfl)) (hw _ (List.mem_of_getElem? (i := 10) rfl)) (hw _ (List.mem_of_getElem? (i := 43) rfl)) (by decide) rfl X_a1 (c_ix2 l Z a0 hw a1 h0 n0 b1 N g hN cs hcs S_COMPACT_STRINGS X_a1 F_coder_a1 F_value_a1 A_b1) (argsL := [(.int (32 : Int32)), (.int (0 : Int32))]) (r := []) rfl all0 (lenOf pd_7 rfl) rfl (Nat.le_of_eq rfl) (by decide) (by decide) (by decide) (by decide) (pc' := 6) rfl (fun T59 h59 v59 P59 q59 S => ?_)
  obtain ⟨e59, q59⟩ := q59; rw [e59] at S
  obtain ⟨z59, rfl, hz59⟩ := IxAt.val q59
  show Gl p e below s Z consts_1 _ n0 _ T59 (mkF m 6 #[.val (.ref a1), .val (.int (32 : Int32))] [(.int z59)])
  exact g_retI C S dixa_6 (by decide) (by decide) (⟨rfl, hz59⟩)
theorem dpf_0 : decode jdk_41_method_12_code 0 = .ok (.iload_n 0, 1) := by decide +kernel
theorem dpf_1 : decode jdk_41_method_12_code 1 = .ok (.ifCond .lt 13, 3) := by decide +kernel
theorem dpf_4 : decode jdk_41_method_12_code 4 = .ok (.iload_n 0, 1) := by decide +kernel
theorem dpf_5 : decode jdk_41_method_12_code 5 = .ok (.iload_n 1, 1) := by decide +kernel
theorem dpf_6 : decode jdk_41_method_12_code 6 = .ok (.if_icmp .gt 8, 3) := by decide +kernel
theorem dpf_9 : decode jdk_41_method_12_code 9 = .ok (.iload_n 1, 1) := by decide +kernel
theorem dpf_10 : decode jdk_41_method_12_code 10 = .ok (.iload_n 2, 1) := by decide +kernel
theorem dpf_11 : decode jdk_41_method_12_code 11 = .ok (.if_icmp .le 11, 3) := by decide +kernel
theorem dpf_22 : decode jdk_41_method_12_code 22 = .ok (.iload_n 0, 1) := by decide +kernel
theorem dpf_23 : decode jdk_41_method_12_code 23 = .ok (.ireturn, 1) := by decide +kernel
set_option maxRecDepth 65536 in
set_option maxHeartbeats 40000000 in
theorem c_cft (l : Launch) (Z : State) (a0 : Array Value) (hw : ∀ d ∈ tables_1, d.before a0 Z = true) (fm : Value) (h0 : Heap) (n0 : Nat) (E N : Nat) (hE : E ≤ N) (hN : N < 2 ^ 30) (hfm : fm.isRef = true) :
    Con l Z consts_1 [] (⟨"jdk/internal/util/Preconditions", "checkFromToIndex", "(IIILjava/util/function/BiFunction;)I"⟩ : MethodName) jdk_41_method_12_code 4 (some .int) ({ frames := 0, cells := 0, slots := 0, locals := 0 } : Room) #[(.int (0 : Int32)), (.int (Int32.ofNat E)), (.int (Int32.ofNat N)), fm] h0 n0 (fun v h _ => v = some (.int 0) ∧ h = h0) := by
  refine Con.of (plainFor_of_name (by first | (simp [plainName, overriddenIn]; done) | decide +kernel)) (elw hw) (L0 := #[.val (.int (0 : Int32)), .val (.int (Int32.ofNat E)), .val (.int (Int32.ofNat N)), .val fm]) (fun m => by first | (simp [entryFrame, mkF, argsToLocals, Value.category]; done) | rfl | (cases fm <;> first | rfl | (simp [Value.isRef] at hfm; done))) ?_
  intro p e s m below meth c T C S
  refine g_iloadN C S dpf_0 (pc' := 1) rfl rfl ?_
  refine g_if_lt C S dpf_1 (pc' := 14) (pf := 4) (by decide) (by decide) rfl (fun hc1 => absurd hc1 (by decide)) (fun hc1 => ?_)
  refine g_iloadN C S dpf_4 (pc' := 5) rfl rfl ?_
  refine g_iloadN C S dpf_5 (pc' := 6) rfl rfl ?_
  refine g_icmp_gt C S dpf_6 (pc' := 14) (pf := 9) (by decide) (by decide) rfl (fun hc6 => absurd hc6 (o32_neg (by omega))) (fun hc6 => ?_)
  refine g_iloadN C S dpf_9 (pc' := 10) rfl rfl ?_
  refine g_iloadN C S dpf_10 (pc' := 11) rfl rfl ?_
  refine g_icmp_le C S dpf_11 (pc' := 22) (pf := 14) (by decide) (by decide) rfl (fun hc11 => ?_) (fun hc11 => absurd ((o32_lt (by omega) (by omega)).mp hc11) (by omega))
  refine g_iloadN C S dpf_22 (pc' := 23) rfl rfl ?_
  exact g_retI C S dpf_23 (by decide) (by decide) (⟨rfl, rfl⟩)
theorem pd_11 : parseMethodDescriptor "(IIILjava/util/function/BiFunction;)I" = some ⟨[.int, .int, .int, (.object "java/util/function/BiFunction")], some .int⟩ := by decide +kernel
theorem dcb_0 : decode jdk_42_method_158_code 0 = .ok (.iload_n 0, 1) := by decide +kernel
theorem dcb_1 : decode jdk_42_method_158_code 1 = .ok (.iload_n 1, 1) := by decide +kernel
theorem dcb_2 : decode jdk_42_method_158_code 2 = .ok (.iload_n 2, 1) := by decide +kernel
theorem dcb_3 : decode jdk_42_method_158_code 3 = .ok (.getstatic 1053, 3) := by decide +kernel
theorem dcb_6 : decode jdk_42_method_158_code 6 = .ok (.invokestatic 1062, 3) := by decide +kernel
theorem dcb_9 : decode jdk_42_method_158_code 9 = .ok (.pop, 1) := by decide +kernel
theorem dcb_10 : decode jdk_42_method_158_code 10 = .ok (.return_, 1) := by decide +kernel
set_option maxRecDepth 65536 in
set_option maxHeartbeats 40000000 in
theorem c_cbe (l : Launch) (Z : State) (a0 : Array Value) (hw : ∀ d ∈ tables_1, d.before a0 Z = true)  (h0 : Heap) (n0 : Nat) (E N : Nat) (hE : E ≤ N) (hN : N < 2 ^ 30) (fm : Value) (hfm : fm.isRef = true) (S_SIOOBE_FORMATTER : Sta Z h0 "jdk/internal/util/Preconditions" "SIOOBE_FORMATTER" "Ljava/util/function/BiFunction;" fm) :
    Con l Z consts_1 [] (⟨"java/lang/String", "checkBoundsBeginEnd", "(III)V"⟩ : MethodName) jdk_42_method_158_code 3 none ({ frames := 1, cells := 0, slots := 0, locals := 15 } : Room) #[(.int (0 : Int32)), (.int (Int32.ofNat E)), (.int (Int32.ofNat N))] h0 n0 (fun v h _ => v = none ∧ h = h0) := by
  refine Con.of (plainFor_of_name (by first | (simp [plainName, overriddenIn]; done) | decide +kernel)) (elw hw) (L0 := #[.val (.int (0 : Int32)), .val (.int (Int32.ofNat E)), .val (.int (Int32.ofNat N))]) (fun m => by first | (simp [entryFrame, mkF, argsToLocals, Value.category]; done) | rfl) ?_
  intro p e s m below meth c T C S
  refine g_iloadN C S dcb_0 (pc' := 1) rfl rfl ?_
  refine g_iloadN C S dcb_1 (pc' := 2) rfl rfl ?_
  refine g_iloadN C S dcb_2 (pc' := 3) rfl rfl ?_
  refine g_getS C S dcb_3 (host := "") (Or.inl (hw _ (List.mem_of_getElem? (i := 104) rfl))) Via.refl S_SIOOBE_FORMATTER (pc' := 6) rfl (fun T60 S => ?_)
  refine g_callS C S (rm := ({ frames := 0, cells := 0, slots := 0, locals := 0 } : Room)) (W := 0) dcb_6 (hw _ (List.mem_of_getElem? (i := 106) rfl)) (hw _ (List.mem_of_getElem? (i := 107) rfl)) (hw _ (List.mem_of_getElem? (i := 105) rfl)) (hw _ (List.mem_of_getElem? (i := 108) rfl)) (by decide) (c_cft l Z a0 hw fm h0 n0 E N hE hN hfm) (argsL := [(.int (0 : Int32)), (.int (Int32.ofNat E)), (.int (Int32.ofNat N)), fm]) (r := []) rfl all0 (lenOf pd_11 rfl) rfl (Nat.le_of_eq rfl) (by decide) (by decide) (by decide) (by decide) (pc' := 9) rfl (fun T61 h61 v61 P61 q61 S => ?_)
  obtain ⟨rfl, e61⟩ := q61; rw [e61] at S
  show Gl p e below s Z consts_1 _ n0 _ T61 (mkF m 9 #[.val (.int (0 : Int32)), .val (.int (Int32.ofNat E)), .val (.int (Int32.ofNat N))] [(.int (0 : Int32))])
  refine g_pop C S dcb_9 (pc' := 10) rfl rfl ?_
  exact g_return C S dcb_10 (by decide) (by decide) (⟨rfl, rfl⟩)
theorem dck_0 : decode jdk_65_method_131_code 0 = .ok (.iload_n 1, 1) := by decide +kernel
theorem dck_1 : decode jdk_65_method_131_code 1 = .ok (.iload_n 0, 1) := by decide +kernel
theorem dck_2 : decode jdk_65_method_131_code 2 = .ok (.if_icmp .ge 35, 3) := by decide +kernel
theorem dck_37 : decode jdk_65_method_131_code 37 = .ok (.return_, 1) := by decide +kernel
set_option maxRecDepth 65536 in
set_option maxHeartbeats 40000000 in
theorem c_ckl (l : Launch) (Z : State) (a0 : Array Value) (hw : ∀ d ∈ tables_1, d.before a0 Z = true)  (h0 : Heap) (n0 : Nat) (E : Nat) (hE : E < 2 ^ 30) :
    Con l Z consts_1 [] (⟨"java/util/Arrays", "checkLength", "(II)V"⟩ : MethodName) jdk_65_method_131_code 2 none ({ frames := 0, cells := 0, slots := 0, locals := 0 } : Room) #[(.int (0 : Int32)), (.int (Int32.ofNat E))] h0 n0 (fun v h _ => v = none ∧ h = h0) := by
  refine Con.of (plainFor_of_name (by first | (simp [plainName, overriddenIn]; done) | decide +kernel)) (elw hw) (L0 := #[.val (.int (0 : Int32)), .val (.int (Int32.ofNat E))]) (fun m => by first | (simp [entryFrame, mkF, argsToLocals, Value.category]; done) | rfl) ?_
  intro p e s m below meth c T C S
  refine g_iloadN C S dck_0 (pc' := 1) rfl rfl ?_
  refine g_iloadN C S dck_1 (pc' := 2) rfl rfl ?_
  refine g_icmp_ge C S dck_2 (pc' := 37) (pf := 5) (by decide) (by decide) rfl (fun hc2 => ?_) (fun hc2 => absurd hc2 (o32_neg (by omega)))
  exact g_return C S dck_37 (by decide) (by decide) (⟨rfl, rfl⟩)
theorem pd_12 : parseMethodDescriptor "(II)V" = some ⟨[.int, .int], none⟩ := by decide +kernel
theorem dcr_0 : decode jdk_65_method_133_code 0 = .ok (.iload_n 1, 1) := by decide +kernel
theorem dcr_1 : decode jdk_65_method_133_code 1 = .ok (.iload_n 2, 1) := by decide +kernel
theorem dcr_2 : decode jdk_65_method_133_code 2 = .ok (.invokestatic 343, 3) := by decide +kernel
theorem dcr_5 : decode jdk_65_method_133_code 5 = .ok (.iload_n 2, 1) := by decide +kernel
theorem dcr_6 : decode jdk_65_method_133_code 6 = .ok (.iload_n 1, 1) := by decide +kernel
theorem dcr_7 : decode jdk_65_method_133_code 7 = .ok (.isub, 1) := by decide +kernel
theorem dcr_8 : decode jdk_65_method_133_code 8 = .ok (.istore_n 3, 1) := by decide +kernel
theorem dcr_9 : decode jdk_65_method_133_code 9 = .ok (.iload_n 3, 1) := by decide +kernel
theorem dcr_10 : decode jdk_65_method_133_code 10 = .ok (.newarray .byte, 2) := by decide +kernel
theorem dcr_12 : decode jdk_65_method_133_code 12 = .ok (.astore 4, 2) := by decide +kernel
theorem dcr_14 : decode jdk_65_method_133_code 14 = .ok (.aload_n 0, 1) := by decide +kernel
theorem dcr_15 : decode jdk_65_method_133_code 15 = .ok (.iload_n 1, 1) := by decide +kernel
theorem dcr_16 : decode jdk_65_method_133_code 16 = .ok (.aload 4, 2) := by decide +kernel
theorem dcr_18 : decode jdk_65_method_133_code 18 = .ok (.iconst 0, 1) := by decide +kernel
theorem dcr_19 : decode jdk_65_method_133_code 19 = .ok (.aload_n 0, 1) := by decide +kernel
theorem dcr_20 : decode jdk_65_method_133_code 20 = .ok (.arraylength, 1) := by decide +kernel
theorem dcr_21 : decode jdk_65_method_133_code 21 = .ok (.iload_n 1, 1) := by decide +kernel
theorem dcr_22 : decode jdk_65_method_133_code 22 = .ok (.isub, 1) := by decide +kernel
theorem dcr_23 : decode jdk_65_method_133_code 23 = .ok (.iload_n 3, 1) := by decide +kernel
theorem dcr_24 : decode jdk_65_method_133_code 24 = .ok (.invokestatic 304, 3) := by decide +kernel
theorem dcr_27 : decode jdk_65_method_133_code 27 = .ok (.invokestatic 150, 3) := by decide +kernel
theorem dcr_30 : decode jdk_65_method_133_code 30 = .ok (.aload 4, 2) := by decide +kernel
theorem dcr_32 : decode jdk_65_method_133_code 32 = .ok (.areturn, 1) := by decide +kernel
set_option maxRecDepth 65536 in
set_option maxHeartbeats 40000000 in
theorem c_crb (l : Launch) (Z : State) (a0 : Array Value) (hw : ∀ d ∈ tables_1, d.before a0 Z = true) (a1 : Addr) (h0 : Heap) (n0 : Nat) (N E : Nat) (g : Nat → Int32) (hN : N ≤ 8) (hE : E < N) (hB : Byt g N) (Zn : n0 ≤ h0.size) (A_a1 : Ary Z h0 a1 .byte N (fun q => .int (g q))) :
    Con l Z consts_1 [] (⟨"java/util/Arrays", "copyOfRangeByte", "([BII)[B"⟩ : MethodName) jdk_65_method_133_code 5 (some (.array .byte)) ({ frames := 1, cells := 1, slots := 8, locals := 22 } : Room) #[(.ref a1), (.int (0 : Int32)), (.int (Int32.ofNat E))] h0 n0 (fun v h _ => ∃ b, v = some (.ref b) ∧ Keep h0 h [] ∧ Ary Z h b .byte E (fun q => .int (g q))) := by
  refine Con.of (plainFor_of_name (by first | (simp [plainName, overriddenIn]; done) | decide +kernel)) (elw hw) (L0 := #[.val (.ref a1), .val (.int (0 : Int32)), .val (.int (Int32.ofNat E)), .unset, .unset]) (fun m => by first | (simp [entryFrame, mkF, argsToLocals, Value.category]; done) | rfl) ?_
  intro p e s m below meth c T C S
  have Kp := Keep.refl h0 []
  refine g_iloadN C S dcr_0 (pc' := 1) rfl rfl ?_
  refine g_iloadN C S dcr_1 (pc' := 2) rfl rfl ?_
  refine g_callS C S (rm := ({ frames := 0, cells := 0, slots := 0, locals := 0 } : Room)) (W := 0) dcr_2 (hw _ (List.mem_of_getElem? (i := 120) rfl)) (hw _ (List.mem_of_getElem? (i := 121) rfl)) (hw _ (List.mem_of_getElem? (i := 115) rfl)) (hw _ (List.mem_of_getElem? (i := 122) rfl)) (by decide) (c_ckl l Z a0 hw h0 n0 E (by omega)) (argsL := [(.int (0 : Int32)), (.int (Int32.ofNat E))]) (r := []) rfl all0 (lenOf pd_12 rfl) rfl (Nat.le_of_eq rfl) (by decide) (by decide) (by decide) (by decide) (pc' := 5) rfl (fun T62 h62 v62 P62 q62 S => ?_)
  obtain ⟨rfl, e62⟩ := q62; rw [e62] at S
  show Gl p e below s Z consts_1 _ n0 _ T62 (mkF m 5 #[.val (.ref a1), .val (.int (0 : Int32)), .val (.int (Int32.ofNat E)), .unset, .unset] [])
  refine g_iloadN C S dcr_5 (pc' := 6) rfl rfl ?_
  refine g_iloadN C S dcr_6 (pc' := 7) rfl rfl ?_
  refine g_isub C S dcr_7 (pc' := 8) rfl ?_
  rw [Int32.sub_zero]
  refine g_istoreN C S dcr_8 (pc' := 9) rfl (L' := #[.val (.ref a1), .val (.int (0 : Int32)), .val (.int (Int32.ofNat E)), .val (.int (Int32.ofNat E)), .unset]) rfl ?_
  refine g_iloadN C S dcr_9 (pc' := 10) rfl rfl ?_
  refine g_newarray C S (N := E) (cap := 8) dcr_10 (hw _ (List.mem_of_getElem? (i := 23) rfl)) (o32 (by omega)) (by omega) (by decide) (by decide) (by decide) (pc' := 12) rfl (fun T63 h63 a63 S g63 E63 A_a63 => ?_)
  have ne_a1_a63 : a1 ≠ a63 := ne_new g63 A_a1.lt
  have sz_a63 : h0.size ≤ a63 := ge_of g63 Kp.1
  have ge_a63 : n0 ≤ a63 := ge_of g63 Zn
  have pm_a63 := On.hd S
  have Kp := Kp.ext E63
  have A_a1 := A_a1.ext E63
  have Zn := Nat.le_trans Zn E63.1
  have A_a63 : Ary Z h63 a63 .byte E (fun _ => (.int (0 : Int32))) := A_a63
  refine g_astore C S dcr_12 (pc' := 14) rfl rfl (L' := #[.val (.ref a1), .val (.int (0 : Int32)), .val (.int (Int32.ofNat E)), .val (.int (Int32.ofNat E)), .val (.ref a63)]) rfl ?_
  refine g_aloadN C S dcr_14 (pc' := 15) rfl rfl rfl ?_
  refine g_iloadN C S dcr_15 (pc' := 16) rfl rfl ?_
  refine g_aload C S dcr_16 (pc' := 18) rfl rfl rfl ?_
  refine g_iconst C S (0 : Int32) dcr_18 (pc' := 19) rfl rfl ?_
  refine g_aloadN C S dcr_19 (pc' := 20) rfl rfl rfl ?_
  refine g_arraylength C S (x := (Int32.ofNat N)) dcr_20 A_a1 rfl (pc' := 21) rfl ?_
  refine g_iloadN C S dcr_21 (pc' := 22) rfl rfl ?_
  refine g_isub C S dcr_22 (pc' := 23) rfl ?_
  rw [Int32.sub_zero]
  refine g_iloadN C S dcr_23 (pc' := 24) rfl rfl ?_
  refine g_callS C S (rm := ({ frames := 0, cells := 0, slots := 0, locals := 0 } : Room)) (W := 4) dcr_24 (hw _ (List.mem_of_getElem? (i := 123) rfl)) (hw _ (List.mem_of_getElem? (i := 72) rfl)) (hw _ (List.mem_of_getElem? (i := 69) rfl)) (hw _ (List.mem_of_getElem? (i := 73) rfl)) (by decide) (c_min l Z a0 hw (Int32.ofNat N) (Int32.ofNat E) h63 n0 (Int32.ofNat E) (if_pos ((o32_lt (by omega) (by omega)).mpr hE))) (argsL := [(.int (Int32.ofNat N)), (.int (Int32.ofNat E))]) (r := [(.int (0 : Int32)), (.ref a63), (.int (0 : Int32)), (.ref a1)]) rfl all0 (lenOf pd_7 rfl) rfl (Nat.le_of_eq rfl) (by decide) (by decide) (by decide) (by decide) (pc' := 27) rfl (fun T64 h64 v64 P64 q64 S => ?_)
  have pm_a63 := List.mem_append_right P64 pm_a63
  obtain ⟨rfl, e64⟩ := q64; rw [e64] at S
  show Gl p e below s Z consts_1 _ n0 _ T64 (mkF m 27 #[.val (.ref a1), .val (.int (0 : Int32)), .val (.int (Int32.ofNat E)), .val (.int (Int32.ofNat E)), .val (.ref a63)] [(.int (Int32.ofNat E)), (.int (0 : Int32)), (.ref a63), (.int (0 : Int32)), (.ref a1)])
  refine g_acopy C S (W := 0) dcr_27 (hw _ (List.mem_of_getElem? (i := 124) rfl)) (hw _ (List.mem_of_getElem? (i := 127) rfl)) (hw _ (List.mem_of_getElem? (i := 125) rfl)) (hw _ (List.mem_of_getElem? (i := 126) rfl)) A_a1 A_a63 hB (fun _ _ => rfl) (by omega) (by omega) (i1 := 0) (i2 := 0) (i3 := E) (by decide) (by decide) (o32 (by omega)) (by omega) (by omega) ge_a63 pm_a63 rfl (by decide) (Nat.le_of_eq rfl) (by decide) (pc' := 30) rfl (fun T65 h65 S K65 B65 => ?_)
  have Kp := Kp.trans K65 (allS (Or.inr sz_a63) all0)
  have A_a1 := A_a1.keep K65 (ninS ne_a1_a63 nin0)
  have Zn := Nat.le_trans Zn K65.1
  have A_a63 := B65
  refine g_aload C S dcr_30 (pc' := 32) rfl rfl rfl ?_
  exact g_retA C S dcr_32 rfl rfl rfl (by decide) (by decide) (⟨_, rfl, Kp, A_a63.cg fun q hq => by simp [hq]⟩)
theorem pd_13 : parseMethodDescriptor "([BII)[B" = some ⟨[(.array .byte), .int, .int], some (.array .byte)⟩ := by decide +kernel
theorem dcp_0 : decode jdk_65_method_132_code 0 = .ok (.iload_n 1, 1) := by decide +kernel
theorem dcp_1 : decode jdk_65_method_132_code 1 = .ok (.ifCond .ne 9, 3) := by decide +kernel
theorem dcp_4 : decode jdk_65_method_132_code 4 = .ok (.iload_n 2, 1) := by decide +kernel
theorem dcp_5 : decode jdk_65_method_132_code 5 = .ok (.aload_n 0, 1) := by decide +kernel
theorem dcp_6 : decode jdk_65_method_132_code 6 = .ok (.arraylength, 1) := by decide +kernel
theorem dcp_7 : decode jdk_65_method_132_code 7 = .ok (.if_icmp .eq 10, 3) := by decide +kernel
theorem dcp_10 : decode jdk_65_method_132_code 10 = .ok (.aload_n 0, 1) := by decide +kernel
theorem dcp_11 : decode jdk_65_method_132_code 11 = .ok (.iload_n 1, 1) := by decide +kernel
theorem dcp_12 : decode jdk_65_method_132_code 12 = .ok (.iload_n 2, 1) := by decide +kernel
theorem dcp_13 : decode jdk_65_method_132_code 13 = .ok (.invokestatic 339, 3) := by decide +kernel
theorem dcp_16 : decode jdk_65_method_132_code 16 = .ok (.areturn, 1) := by decide +kernel
set_option maxRecDepth 65536 in
set_option maxHeartbeats 40000000 in
theorem c_cpr (l : Launch) (Z : State) (a0 : Array Value) (hw : ∀ d ∈ tables_1, d.before a0 Z = true) (a1 : Addr) (h0 : Heap) (n0 : Nat) (N E : Nat) (g : Nat → Int32) (hN : N ≤ 8) (hE : E < N) (hB : Byt g N) (Zn : n0 ≤ h0.size) (A_a1 : Ary Z h0 a1 .byte N (fun q => .int (g q))) :
    Con l Z consts_1 [] (⟨"java/util/Arrays", "copyOfRange", "([BII)[B"⟩ : MethodName) jdk_65_method_132_code 3 (some (.array .byte)) ({ frames := 2, cells := 1, slots := 8, locals := 38 } : Room) #[(.ref a1), (.int (0 : Int32)), (.int (Int32.ofNat E))] h0 n0 (fun v h _ => ∃ b, v = some (.ref b) ∧ Keep h0 h [] ∧ Ary Z h b .byte E (fun q => .int (g q))) := by
  refine Con.of (plainFor_of_name (by first | (simp [plainName, overriddenIn]; done) | decide +kernel)) (elw hw) (L0 := #[.val (.ref a1), .val (.int (0 : Int32)), .val (.int (Int32.ofNat E))]) (fun m => by first | (simp [entryFrame, mkF, argsToLocals, Value.category]; done) | rfl) ?_
  intro p e s m below meth c T C S
  refine g_iloadN C S dcp_0 (pc' := 1) rfl rfl ?_
  refine g_if_ne C S dcp_1 (pc' := 10) (pf := 4) (by decide) (by decide) rfl (fun hc1 => absurd rfl hc1) (fun hc1 => ?_)
  refine g_iloadN C S dcp_4 (pc' := 5) rfl rfl ?_
  refine g_aloadN C S dcp_5 (pc' := 6) rfl rfl rfl ?_
  refine g_arraylength C S (x := (Int32.ofNat N)) dcp_6 A_a1 rfl (pc' := 7) rfl ?_
  refine g_icmp_eq C S dcp_7 (pc' := 17) (pf := 10) (by decide) (by decide) rfl (fun hc7 => absurd ((o32_inj (by omega) (by omega)).mp hc7) (by omega)) (fun hc7 => ?_)
  refine g_aloadN C S dcp_10 (pc' := 11) rfl rfl rfl ?_
  refine g_iloadN C S dcp_11 (pc' := 12) rfl rfl ?_
  refine g_iloadN C S dcp_12 (pc' := 13) rfl rfl ?_
  refine g_callS C S (rm := ({ frames := 1, cells := 1, slots := 8, locals := 22 } : Room)) (W := 0) dcp_13 (hw _ (List.mem_of_getElem? (i := 117) rfl)) (hw _ (List.mem_of_getElem? (i := 118) rfl)) (hw _ (List.mem_of_getElem? (i := 115) rfl)) (hw _ (List.mem_of_getElem? (i := 119) rfl)) (by decide) (c_crb l Z a0 hw a1 h0 n0 N E g hN hE hB Zn A_a1) (argsL := [(.ref a1), (.int (0 : Int32)), (.int (Int32.ofNat E))]) (r := []) rfl all0 (lenOf pd_13 rfl) rfl (Nat.le_of_eq rfl) (by decide) (by decide) (by decide) (by decide) (pc' := 16) rfl (fun T66 h66 v66 P66 q66 S => ?_)
  obtain ⟨b66, rfl, q66⟩ := q66
  show Gl p e below s Z consts_1 _ n0 _ T66 (mkF m 16 #[.val (.ref a1), .val (.int (0 : Int32)), .val (.int (Int32.ofNat E))] [(.ref b66)])
  exact g_retA C S dcp_16 rfl rfl rfl (by decide) (by decide) (⟨_, rfl, q66⟩)
theorem dib_0 : decode jdk_42_method_151_code 0 = .ok (.aload_n 0, 1) := by decide +kernel
theorem dib_1 : decode jdk_42_method_151_code 1 = .ok (.invokespecial 1, 3) := by decide +kernel
theorem dib_4 : decode jdk_42_method_151_code 4 = .ok (.aload_n 0, 1) := by decide +kernel
theorem dib_5 : decode jdk_42_method_151_code 5 = .ok (.aload_n 1, 1) := by decide +kernel
theorem dib_6 : decode jdk_42_method_151_code 6 = .ok (.putfield 9, 3) := by decide +kernel
theorem dib_9 : decode jdk_42_method_151_code 9 = .ok (.aload_n 0, 1) := by decide +kernel
theorem dib_10 : decode jdk_42_method_151_code 10 = .ok (.iload_n 2, 1) := by decide +kernel
theorem dib_11 : decode jdk_42_method_151_code 11 = .ok (.putfield 15, 3) := by decide +kernel
theorem dib_14 : decode jdk_42_method_151_code 14 = .ok (.return_, 1) := by decide +kernel
set_option maxRecDepth 65536 in
set_option maxHeartbeats 40000000 in
theorem c_inb (l : Launch) (Z : State) (a0 : Array Value) (hw : ∀ d ∈ tables_1, d.before a0 Z = true) (a1 : Addr) (a2 : Addr) (h0 : Heap) (n0 : Nat) (u1 u2 : Value) (ga : n0 ≤ a1) (X_a1 : Exa Z h0 a1 "java/lang/String") (F_value_a1 : Fld Z h0 a1 "java/lang/String" "value" "[B" u1) (F_coder_a1 : Fld Z h0 a1 "java/lang/String" "coder" "B" u2) :
    Con l Z consts_1 [a1] (⟨"java/lang/String", "<init>", "([BB)V"⟩ : MethodName) jdk_42_method_151_code 3 none ({ frames := 1, cells := 0, slots := 0, locals := 12 } : Room) #[(.ref a1), (.ref a2), (.int (0 : Int32))] h0 n0 (fun v h _ => v = none ∧ Keep h0 h [a1] ∧ Exa Z h a1 "java/lang/String" ∧ Fld Z h a1 "java/lang/String" "coder" "B" (.int (0 : Int32)) ∧ Fld Z h a1 "java/lang/String" "value" "[B" (.ref a2)) := by
  refine Con.of (plainFor_of_name (by first | (simp [plainName, overriddenIn]; done) | decide +kernel)) (elw hw) (L0 := #[.val (.ref a1), .val (.ref a2), .val (.int (0 : Int32))]) (fun m => by first | (simp [entryFrame, mkF, argsToLocals, Value.category]; done) | rfl) ?_
  intro p e s m below meth c T C S
  have pm_a1 : a1 ∈ [a1] := List.mem_of_getElem? (i := 0) rfl
  have Kp := Keep.refl h0 [a1]
  refine g_aloadN C S dib_0 (pc' := 1) rfl rfl rfl ?_
  refine g_initO C S (W := 0) dib_1 (hw _ (List.mem_of_getElem? (i := 19) rfl)) (hw _ (List.mem_of_getElem? (i := 20) rfl)) (hw _ (List.mem_of_getElem? (i := 21) rfl)) rfl (by decide) (Nat.le_of_eq rfl) (by decide) (pc' := 4) rfl (fun T67 S => ?_)
  refine g_aloadN C S dib_4 (pc' := 5) rfl rfl rfl ?_
  refine g_aloadN C S dib_5 (pc' := 6) rfl rfl rfl ?_
  refine g_putF C S dib_6 (host := "") (Or.inl (hw _ (List.mem_of_getElem? (i := 28) rfl))) Via.refl F_value_a1 X_a1 (Or.inr ⟨(hw _ (List.mem_of_getElem? (i := 24) rfl)), rfl, rfl⟩) (hw _ (List.mem_of_getElem? (i := 9) rfl)) (ty := (.array .byte)) (by decide) rfl rfl ga (Or.inl pm_a1) (pc' := 9) rfl (fun T68 h68 S W68 => ?_)
  have X_a1 := X_a1.wr W68
  have F_value_a1 := F_value_a1.same W68
  have F_coder_a1 := F_coder_a1.other W68 (Or.inr (slot_ne (a0 := a0) (t := .byte) (t' := (.array .byte)) (Or.inr (hw _ (List.mem_of_getElem? (i := 25) rfl))) (Or.inr (hw _ (List.mem_of_getElem? (i := 24) rfl))) (by decide) (by decide) (by decide)))
  have Kp := Kp.wr W68 (Or.inl (List.mem_of_getElem? (i := 0) rfl))
  refine g_aloadN C S dib_9 (pc' := 10) rfl rfl rfl ?_
  refine g_iloadN C S dib_10 (pc' := 11) rfl rfl ?_
  refine g_putF C S dib_11 (host := "") (Or.inl (hw _ (List.mem_of_getElem? (i := 29) rfl))) Via.refl F_coder_a1 X_a1 (Or.inr ⟨(hw _ (List.mem_of_getElem? (i := 25) rfl)), rfl, rfl⟩) (hw _ (List.mem_of_getElem? (i := 9) rfl)) (ty := .byte) (by decide) rfl rfl ga (Or.inl pm_a1) (pc' := 14) rfl (fun T69 h69 S W69 => ?_)
  have X_a1 := X_a1.wr W69
  have F_value_a1 := F_value_a1.other W69 (Or.inr (slot_ne (a0 := a0) (t := (.array .byte)) (t' := .byte) (Or.inr (hw _ (List.mem_of_getElem? (i := 24) rfl))) (Or.inr (hw _ (List.mem_of_getElem? (i := 25) rfl))) (by decide) (by decide) (by decide)))
  have F_coder_a1 := F_coder_a1.same W69
  have Kp := Kp.wr W69 (Or.inl (List.mem_of_getElem? (i := 0) rfl))
  exact g_return C S dib_14 (by decide) (by decide) (⟨rfl, Kp, X_a1, F_coder_a1, F_value_a1⟩)
theorem pd_14 : parseMethodDescriptor "([BB)V" = some ⟨[(.array .byte), .byte], none⟩ := by decide +kernel
theorem dns_0 : decode jdk_43_method_47_code 0 = .ok (.iload_n 2, 1) := by decide +kernel
theorem dns_1 : decode jdk_43_method_47_code 1 = .ok (.ifCond .ne 6, 3) := by decide +kernel
theorem dns_4 : decode jdk_43_method_47_code 4 = .ok (.ldc 151, 2) := by decide +kernel
theorem dns_6 : decode jdk_43_method_47_code 6 = .ok (.areturn, 1) := by decide +kernel
theorem dns_7 : decode jdk_43_method_47_code 7 = .ok (.new 1, 3) := by decide +kernel
theorem dns_10 : decode jdk_43_method_47_code 10 = .ok (.dup, 1) := by decide +kernel
theorem dns_11 : decode jdk_43_method_47_code 11 = .ok (.aload_n 0, 1) := by decide +kernel
theorem dns_12 : decode jdk_43_method_47_code 12 = .ok (.iload_n 1, 1) := by decide +kernel
theorem dns_13 : decode jdk_43_method_47_code 13 = .ok (.iload_n 1, 1) := by decide +kernel
theorem dns_14 : decode jdk_43_method_47_code 14 = .ok (.iload_n 2, 1) := by decide +kernel
theorem dns_15 : decode jdk_43_method_47_code 15 = .ok (.iadd, 1) := by decide +kernel
theorem dns_16 : decode jdk_43_method_47_code 16 = .ok (.invokestatic 232, 3) := by decide +kernel
theorem dns_19 : decode jdk_43_method_47_code 19 = .ok (.iconst 0, 1) := by decide +kernel
theorem dns_20 : decode jdk_43_method_47_code 20 = .ok (.invokespecial 112, 3) := by decide +kernel
theorem dns_23 : decode jdk_43_method_47_code 23 = .ok (.areturn, 1) := by decide +kernel
set_option maxRecDepth 65536 in
set_option maxHeartbeats 40000000 in
theorem c_nst (l : Launch) (Z : State) (a0 : Array Value) (hw : ∀ d ∈ tables_1, d.before a0 Z = true) (a1 : Addr) (h0 : Heap) (n0 : Nat) (N E : Nat) (g : Nat → Int32) (hN : N ≤ 8) (hE : E < N) (hB : Byt g N) (Zn : n0 ≤ h0.size) (A_a1 : Ary Z h0 a1 .byte N (fun q => .int (g q))) :
    Con l Z consts_1 [] (⟨"java/lang/StringLatin1", "newString", "([BII)Ljava/lang/String;"⟩ : MethodName) jdk_43_method_47_code 3 (some (.object "java/lang/String")) ({ frames := 3, cells := 2, slots := 12, locals := 54 } : Room) #[(.ref a1), (.int (0 : Int32)), (.int (Int32.ofNat E))] h0 n0 (fun v h _ => ∃ a b, v = some (.ref a) ∧ Keep h0 h [] ∧ Exa Z h a "java/lang/String" ∧ Fld Z h a "java/lang/String" "coder" "B" (.int (0 : Int32)) ∧ Fld Z h a "java/lang/String" "value" "[B" (.ref b) ∧ Ary Z h b .byte E (fun q => .int (g q))) := by
  refine Con.of (plainFor_of_name (by first | (simp [plainName, overriddenIn]; done) | decide +kernel)) (elw hw) (L0 := #[.val (.ref a1), .val (.int (0 : Int32)), .val (.int (Int32.ofNat E))]) (fun m => by first | (simp [entryFrame, mkF, argsToLocals, Value.category]; done) | rfl) ?_
  intro p e s m below meth c T C S
  have Kp := Keep.refl h0 []
  refine g_iloadN C S dns_0 (pc' := 1) rfl rfl ?_
  refine g_if_ne C S dns_1 (pc' := 7) (pf := 4) (by decide) (by decide) rfl (fun hc1 => ?_) (fun hc1 => ?_)
  · refine g_new C S dns_7 (hw _ (List.mem_of_getElem? (i := 112) rfl)) (hw _ (List.mem_of_getElem? (i := 9) rfl)) (hw _ (List.mem_of_getElem? (i := 10) rfl)) (by decide) (by decide) (pc' := 10) rfl (fun T70 h70 a70 S g70 E70 X70 D70 => ?_)
    have ne_a1_a70 : a1 ≠ a70 := ne_new g70 A_a1.lt
    have sz_a70 : h0.size ≤ a70 := ge_of g70 Kp.1
    have ge_a70 : n0 ≤ a70 := ge_of g70 Zn
    have pm_a70 := On.hd S
    have Kp := Kp.ext E70
    have A_a1 := A_a1.ext E70
    have Zn := Nat.le_trans Zn E70.1
    have F_value_a70 : Fld Z h70 a70 "java/lang/String" "value" "[B" .null := D70 (Or.inr (hw _ (List.mem_of_getElem? (i := 24) rfl))) (ty := (.array .byte)) (by decide)
    have F_coder_a70 : Fld Z h70 a70 "java/lang/String" "coder" "B" (.int (0 : Int32)) := D70 (Or.inr (hw _ (List.mem_of_getElem? (i := 25) rfl))) (ty := .byte) (by decide)
    refine g_dup C S dns_10 (pc' := 11) rfl rfl ?_
    refine g_aloadN C S dns_11 (pc' := 12) rfl rfl rfl ?_
    refine g_iloadN C S dns_12 (pc' := 13) rfl rfl ?_
    refine g_iloadN C S dns_13 (pc' := 14) rfl rfl ?_
    refine g_iloadN C S dns_14 (pc' := 15) rfl rfl ?_
    refine g_iadd C S dns_15 (pc' := 16) rfl ?_
    rw [Int32.zero_add]
    refine g_callS C S (rm := ({ frames := 2, cells := 1, slots := 8, locals := 38 } : Room)) (W := 2) dns_16 (hw _ (List.mem_of_getElem? (i := 113) rfl)) (hw _ (List.mem_of_getElem? (i := 114) rfl)) (hw _ (List.mem_of_getElem? (i := 115) rfl)) (hw _ (List.mem_of_getElem? (i := 116) rfl)) (by decide) (c_cpr l Z a0 hw a1 h70 n0 N E g hN hE hB Zn A_a1) (argsL := [(.ref a1), (.int (0 : Int32)), (.int (Int32.ofNat E))]) (r := [(.ref a70), (.ref a70)]) rfl all0 (lenOf pd_13 rfl) rfl (Nat.le_of_eq rfl) (by decide) (by decide) (by decide) (by decide) (pc' := 19) rfl (fun T71 h71 v71 P71 q71 S => ?_)
    have pm_a70 := List.mem_append_right P71 pm_a70
    obtain ⟨b71, rfl, K71, A_b71⟩ := q71
    have Kp := Kp.trans K71 all0
    have A_a1 := A_a1.keep K71 nin0
    have Zn := Nat.le_trans Zn K71.1
    have X70 := X70.keep K71
    have F_value_a70 := F_value_a70.keep K71 nin0
    have F_coder_a70 := F_coder_a70.keep K71 nin0
    have ne_a70_b71 := (exa_ary X70 A_b71 (hw _ (List.mem_of_getElem? (i := 9) rfl)))
    show Gl p e below s Z consts_1 _ n0 _ T71 (mkF m 19 #[.val (.ref a1), .val (.int (0 : Int32)), .val (.int (Int32.ofNat E))] [(.ref b71), (.ref a70), (.ref a70)])
    refine g_iconst C S (0 : Int32) dns_19 (pc' := 20) rfl rfl ?_
    refine g_callI C S (rm := ({ frames := 1, cells := 0, slots := 0, locals := 12 } : Room)) (W := 1) dns_20 rfl (hw _ (List.mem_of_getElem? (i := 128) rfl)) (hw _ (List.mem_of_getElem? (i := 129) rfl)) (hw _ (List.mem_of_getElem? (i := 10) rfl)) (hw _ (List.mem_of_getElem? (i := 130) rfl)) (by decide) (c_inb l Z a0 hw a70 b71 h71 n0 _ _ ge_a70 X70 F_value_a70 F_coder_a70) (argsL := [(.ref b71), (.int (0 : Int32))]) (r := [(.ref a70)]) rfl (allS pm_a70 all0) (lenOf pd_14 rfl) rfl (Nat.le_of_eq rfl) (by decide) (by decide) (by decide) (by decide) (pc' := 23) rfl (fun T72 h72 v72 P72 q72 S => ?_)
    have pm_a70 := List.mem_append_right P72 pm_a70
    obtain ⟨rfl, K72, X_a70, G_coder, G_value⟩ := q72
    have Kp := Kp.trans K72 (allS (Or.inr sz_a70) all0)
    have A_a1 := A_a1.keep K72 (ninS ne_a1_a70 nin0)
    have Zn := Nat.le_trans Zn K72.1
    have A_b71 := A_b71.keep K72 (ninS (Ne.symm ne_a70_b71) nin0)
    show Gl p e below s Z consts_1 _ n0 _ T72 (mkF m 23 #[.val (.ref a1), .val (.int (0 : Int32)), .val (.int (Int32.ofNat E))] [(.ref a70)])
    exact g_retA C S dns_23 rfl rfl rfl (by decide) (by decide) (⟨_, _, rfl, Kp, X_a70, G_coder, G_value, A_b71⟩)
  · refine g_ldcS C S (vs := []) (zz := 0) (N := 0) (nn := 0) dns_4 (hw _ (List.mem_of_getElem? (i := 131) rfl)) (List.mem_of_getElem? (i := 1) rfl) ⟨(by decide), rfl⟩ (by decide) (by decide) rfl (by decide) (by decide) (by decide) (by decide) (pc' := 6) rfl (fun T73 h73 a73 b73 S E73 X_a73 F_coder_a73 F_value_a73 A_b73 ns73 => ?_)
    have Kp := Kp.ext E73
    have A_a1 := A_a1.ext E73
    have Zn := Nat.le_trans Zn E73.1
    exact g_retA C S dns_6 rfl rfl rfl (by decide) (by decide) (⟨_, _, rfl, Kp, X_a73, F_coder_a73, F_value_a73, (z32_of (by omega) hc1).symm ▸ A_b73.cg (fun q hq => absurd hq (Nat.not_lt_zero q))⟩)
theorem pd_15 : parseMethodDescriptor "(III)V" = some ⟨[.int, .int, .int], none⟩ := by decide +kernel
theorem pd_16 : parseMethodDescriptor "([BII)Ljava/lang/String;" = some ⟨[(.array .byte), .int, .int], some (.object "java/lang/String")⟩ := by decide +kernel
theorem dsb_0 : decode jdk_42_method_92_code 0 = .ok (.aload_n 0, 1) := by decide +kernel
theorem dsb_1 : decode jdk_42_method_92_code 1 = .ok (.invokevirtual 505, 3) := by decide +kernel
theorem dsb_4 : decode jdk_42_method_92_code 4 = .ok (.istore_n 3, 1) := by decide +kernel
theorem dsb_5 : decode jdk_42_method_92_code 5 = .ok (.iload_n 1, 1) := by decide +kernel
theorem dsb_6 : decode jdk_42_method_92_code 6 = .ok (.iload_n 2, 1) := by decide +kernel
theorem dsb_7 : decode jdk_42_method_92_code 7 = .ok (.iload_n 3, 1) := by decide +kernel
theorem dsb_8 : decode jdk_42_method_92_code 8 = .ok (.invokestatic 521, 3) := by decide +kernel
theorem dsb_11 : decode jdk_42_method_92_code 11 = .ok (.iload_n 1, 1) := by decide +kernel
theorem dsb_12 : decode jdk_42_method_92_code 12 = .ok (.ifCond .ne 10, 3) := by decide +kernel
theorem dsb_15 : decode jdk_42_method_92_code 15 = .ok (.iload_n 2, 1) := by decide +kernel
theorem dsb_16 : decode jdk_42_method_92_code 16 = .ok (.iload_n 3, 1) := by decide +kernel
theorem dsb_17 : decode jdk_42_method_92_code 17 = .ok (.if_icmp .ne 5, 3) := by decide +kernel
theorem dsb_22 : decode jdk_42_method_92_code 22 = .ok (.iload_n 2, 1) := by decide +kernel
theorem dsb_23 : decode jdk_42_method_92_code 23 = .ok (.iload_n 1, 1) := by decide +kernel
theorem dsb_24 : decode jdk_42_method_92_code 24 = .ok (.isub, 1) := by decide +kernel
theorem dsb_25 : decode jdk_42_method_92_code 25 = .ok (.istore 4, 2) := by decide +kernel
theorem dsb_27 : decode jdk_42_method_92_code 27 = .ok (.aload_n 0, 1) := by decide +kernel
theorem dsb_28 : decode jdk_42_method_92_code 28 = .ok (.invokevirtual 492, 3) := by decide +kernel
theorem dsb_31 : decode jdk_42_method_92_code 31 = .ok (.ifCond .eq 16, 3) := by decide +kernel
theorem dsb_34 : decode jdk_42_method_92_code 34 = .ok (.aload_n 0, 1) := by decide +kernel
theorem dsb_35 : decode jdk_42_method_92_code 35 = .ok (.getfield 9, 3) := by decide +kernel
theorem dsb_38 : decode jdk_42_method_92_code 38 = .ok (.iload_n 1, 1) := by decide +kernel
theorem dsb_39 : decode jdk_42_method_92_code 39 = .ok (.iload 4, 2) := by decide +kernel
theorem dsb_41 : decode jdk_42_method_92_code 41 = .ok (.invokestatic 685, 3) := by decide +kernel
theorem dsb_44 : decode jdk_42_method_92_code 44 = .ok (.goto 13, 3) := by decide +kernel
theorem dsb_57 : decode jdk_42_method_92_code 57 = .ok (.areturn, 1) := by decide +kernel
set_option maxRecDepth 65536 in
set_option maxHeartbeats 40000000 in
theorem c_sub (l : Launch) (Z : State) (a0 : Array Value) (hw : ∀ d ∈ tables_1, d.before a0 Z = true) (a1 : Addr) (h0 : Heap) (n0 : Nat) (b1 : Addr) (N E : Nat) (g : Nat → Int32) (hN : N ≤ 8) (hE : E < N) (hB : Byt g N) (Zn : n0 ≤ h0.size) (cs : Int32) (hcs : ¬ cs = 0) (S_COMPACT_STRINGS : Sta Z h0 "java/lang/String" "COMPACT_STRINGS" "Z" (.int cs)) (fm : Value) (hfm : fm.isRef = true) (S_SIOOBE_FORMATTER : Sta Z h0 "jdk/internal/util/Preconditions" "SIOOBE_FORMATTER" "Ljava/util/function/BiFunction;" fm) (X_a1 : Exa Z h0 a1 "java/lang/String") (F_coder_a1 : Fld Z h0 a1 "java/lang/String" "coder" "B" (.int (0 : Int32))) (F_value_a1 : Fld Z h0 a1 "java/lang/String" "value" "[B" (.ref b1)) (A_b1 : Ary Z h0 b1 .byte N (fun q => .int (g q))) :
    Con l Z consts_1 [] (⟨"java/lang/String", "substring", "(II)Ljava/lang/String;"⟩ : MethodName) jdk_42_method_92_code 5 (some (.object "java/lang/String")) ({ frames := 4, cells := 2, slots := 12, locals := 68 } : Room) #[(.ref a1), (.int (0 : Int32)), (.int (Int32.ofNat E))] h0 n0 (fun v h _ => ∃ a b, v = some (.ref a) ∧ Keep h0 h [] ∧ Exa Z h a "java/lang/String" ∧ Fld Z h a "java/lang/String" "coder" "B" (.int (0 : Int32)) ∧ Fld Z h a "java/lang/String" "value" "[B" (.ref b) ∧ Ary Z h b .byte E (fun q => .int (g q))) := by
  refine Con.of (plainFor_of_name (by first | (simp [plainName, overriddenIn]; done) | decide +kernel)) (elw hw) (L0 := #[.val (.ref a1), .val (.int (0 : Int32)), .val (.int (Int32.ofNat E)), .unset, .unset]) (fun m => by first | (simp [entryFrame, mkF, argsToLocals, Value.category]; done) | rfl) ?_
  intro p e s m below meth c T C S
  refine g_aloadN C S dsb_0 (pc' := 1) rfl rfl rfl ?_
  refine g_callV C S (rm := ({ frames := 1, cells := 0, slots := 0, locals := 13 } : Room)) (W := 0) dsb_1 (hw _ (List.mem_of_getElem? (i := 50) rfl)) (hw _ (List.mem_of_getElem? (i := 51) rfl)) (fun _ hZ => notFace_of_selects (args := #[]) (mvT hZ (hw _ (List.mem_of_getElem? (i := 53) rfl)))) (hw _ (List.mem_of_getElem? (i := 53) rfl)) (hw _ (List.mem_of_getElem? (i := 52) rfl)) (hw _ (List.mem_of_getElem? (i := 10) rfl)) (hw _ (List.mem_of_getElem? (i := 54) rfl)) (by decide) rfl X_a1 (c_len l Z a0 hw a1 h0 n0 b1 N _ cs hcs S_COMPACT_STRINGS X_a1 F_coder_a1 F_value_a1 A_b1) (argsL := []) (r := []) rfl all0 (lenOf pd_10 rfl) rfl (Nat.le_of_eq rfl) (by decide) (by decide) (by decide) (by decide) (pc' := 4) rfl (fun T74 h74 v74 P74 q74 S => ?_)
  obtain ⟨rfl, e74⟩ := q74; rw [e74] at S
  show Gl p e below s Z consts_1 _ n0 _ T74 (mkF m 4 #[.val (.ref a1), .val (.int (0 : Int32)), .val (.int (Int32.ofNat E)), .unset, .unset] [(.int (Int32.ofNat N))])
  refine g_istoreN C S dsb_4 (pc' := 5) rfl (L' := #[.val (.ref a1), .val (.int (0 : Int32)), .val (.int (Int32.ofNat E)), .val (.int (Int32.ofNat N)), .unset]) rfl ?_
  refine g_iloadN C S dsb_5 (pc' := 6) rfl rfl ?_
  refine g_iloadN C S dsb_6 (pc' := 7) rfl rfl ?_
  refine g_iloadN C S dsb_7 (pc' := 8) rfl rfl ?_
  refine g_callS C S (rm := ({ frames := 1, cells := 0, slots := 0, locals := 15 } : Room)) (W := 0) dsb_8 (hw _ (List.mem_of_getElem? (i := 101) rfl)) (hw _ (List.mem_of_getElem? (i := 102) rfl)) (hw _ (List.mem_of_getElem? (i := 10) rfl)) (hw _ (List.mem_of_getElem? (i := 103) rfl)) (by decide) (c_cbe l Z a0 hw h0 n0 E N (Nat.le_of_lt hE) (by omega) fm hfm S_SIOOBE_FORMATTER) (argsL := [(.int (0 : Int32)), (.int (Int32.ofNat E)), (.int (Int32.ofNat N))]) (r := []) rfl all0 (lenOf pd_15 rfl) rfl (Nat.le_of_eq rfl) (by decide) (by decide) (by decide) (by decide) (pc' := 11) rfl (fun T75 h75 v75 P75 q75 S => ?_)
  obtain ⟨rfl, e75⟩ := q75; rw [e75] at S
  show Gl p e below s Z consts_1 _ n0 _ T75 (mkF m 11 #[.val (.ref a1), .val (.int (0 : Int32)), .val (.int (Int32.ofNat E)), .val (.int (Int32.ofNat N)), .unset] [])
  refine g_iloadN C S dsb_11 (pc' := 12) rfl rfl ?_
  refine g_if_ne C S dsb_12 (pc' := 22) (pf := 15) (by decide) (by decide) rfl (fun hc12 => absurd rfl hc12) (fun hc12 => ?_)
  refine g_iloadN C S dsb_15 (pc' := 16) rfl rfl ?_
  refine g_iloadN C S dsb_16 (pc' := 17) rfl rfl ?_
  refine g_icmp_ne C S dsb_17 (pc' := 22) (pf := 20) (by decide) (by decide) rfl (fun hc17 => ?_) (fun hc17 => absurd ((o32_inj (by omega) (by omega)).mp hc17) (by omega))
  refine g_iloadN C S dsb_22 (pc' := 23) rfl rfl ?_
  refine g_iloadN C S dsb_23 (pc' := 24) rfl rfl ?_
  refine g_isub C S dsb_24 (pc' := 25) rfl ?_
  rw [Int32.sub_zero]
  refine g_istore C S dsb_25 (pc' := 27) rfl (L' := #[.val (.ref a1), .val (.int (0 : Int32)), .val (.int (Int32.ofNat E)), .val (.int (Int32.ofNat N)), .val (.int (Int32.ofNat E))]) rfl ?_
  refine g_aloadN C S dsb_27 (pc' := 28) rfl rfl rfl ?_
  refine g_callV C S (rm := ({ frames := 0, cells := 0, slots := 0, locals := 0 } : Room)) (W := 0) dsb_28 (hw _ (List.mem_of_getElem? (i := 44) rfl)) (hw _ (List.mem_of_getElem? (i := 45) rfl)) (fun _ hZ => notFace_of_selects (args := #[]) (mvT hZ (hw _ (List.mem_of_getElem? (i := 47) rfl)))) (hw _ (List.mem_of_getElem? (i := 47) rfl)) (hw _ (List.mem_of_getElem? (i := 46) rfl)) (hw _ (List.mem_of_getElem? (i := 10) rfl)) (hw _ (List.mem_of_getElem? (i := 48) rfl)) (by decide) rfl X_a1 (c_lat l Z a0 hw a1 h0 n0 cs hcs S_COMPACT_STRINGS F_coder_a1) (argsL := []) (r := []) rfl all0 (lenOf pd_9 rfl) rfl (Nat.le_of_eq rfl) (by decide) (by decide) (by decide) (by decide) (pc' := 31) rfl (fun T76 h76 v76 P76 q76 S => ?_)
  obtain ⟨rfl, e76⟩ := q76; rw [e76] at S
  show Gl p e below s Z consts_1 _ n0 _ T76 (mkF m 31 #[.val (.ref a1), .val (.int (0 : Int32)), .val (.int (Int32.ofNat E)), .val (.int (Int32.ofNat N)), .val (.int (Int32.ofNat E))] [(.int (1 : Int32))])
  refine g_if_eq C S dsb_31 (pc' := 47) (pf := 34) (by decide) (by decide) rfl (fun hc31 => absurd hc31 (by decide)) (fun hc31 => ?_)
  refine g_aloadN C S dsb_34 (pc' := 35) rfl rfl rfl ?_
  refine g_getF C S dsb_35 (host := "") (Or.inl (hw _ (List.mem_of_getElem? (i := 28) rfl))) Via.refl F_value_a1 (pc' := 38) rfl (fun T77 S => ?_)
  refine g_iloadN C S dsb_38 (pc' := 39) rfl rfl ?_
  refine g_iload C S dsb_39 (pc' := 41) rfl rfl ?_
  refine g_callS C S (rm := ({ frames := 3, cells := 2, slots := 12, locals := 54 } : Room)) (W := 0) dsb_41 (hw _ (List.mem_of_getElem? (i := 109) rfl)) (hw _ (List.mem_of_getElem? (i := 110) rfl)) (hw _ (List.mem_of_getElem? (i := 62) rfl)) (hw _ (List.mem_of_getElem? (i := 111) rfl)) (by decide) (c_nst l Z a0 hw b1 h0 n0 N E g hN hE hB Zn A_b1) (argsL := [(.ref b1), (.int (0 : Int32)), (.int (Int32.ofNat E))]) (r := []) rfl all0 (lenOf pd_16 rfl) rfl (Nat.le_of_eq rfl) (by decide) (by decide) (by decide) (by decide) (pc' := 44) rfl (fun T78 h78 v78 P78 q78 S => ?_)
  obtain ⟨a78, b78, rfl, q78⟩ := q78
  show Gl p e below s Z consts_1 _ n0 _ T78 (mkF m 44 #[.val (.ref a1), .val (.int (0 : Int32)), .val (.int (Int32.ofNat E)), .val (.int (Int32.ofNat N)), .val (.int (Int32.ofNat E))] [(.ref a78)])
  refine g_goto C S dsb_44 (pc' := 57) (by decide) (by decide) ?_
  exact g_retA C S dsb_57 rfl rfl rfl (by decide) (by decide) (⟨_, _, rfl, q78⟩)
def c4 (c0 c1 c2 c3 : Int32) : Nat → Int32
  | 0 => c0
  | 1 => c1
  | 2 => c2
  | _ => c3
theorem c4_lat {c0 c1 c2 c3 : Int32} (h0 : 0 ≤ c0.toInt ∧ c0.toInt ≤ 255) (h1 : 0 ≤ c1.toInt ∧ c1.toInt ≤ 255) (h2 : 0 ≤ c2.toInt ∧ c2.toInt ≤ 255) (h3 : 0 ≤ c3.toInt ∧ c3.toInt ≤ 255) (N : Nat) : Lat (c4 c0 c1 c2 c3) N := fun i _ => by
  match i with
  | 0 => exact h0
  | 1 => exact h1
  | 2 => exact h2
  | n + 3 => exact h3
theorem mod5 (x : Int32) : ∃ k, (x &&& 2147483647) % 5 = Int32.ofNat k ∧ k ≤ 4 := by
  have e := Jvm.Kit.i32_mask x 2147483647 (k := 31) (by decide) (by decide)
  have e1 : 0 ≤ (x &&& 2147483647).toInt := by omega
  have e2 := Jvm.Kit.i32_rem_nonneg (y := 5) e1
  have e5 : (5 : Int32).toInt = 5 := by decide
  rw [e5] at e2
  refine ⟨((x &&& 2147483647).toInt % 5).toNat, ?_, by omega⟩
  rw [← Int32.toInt_inj, e2, o32 (by omega)]; omega
/-- the least place from j on (below n) that holds a space, or n -/
def FI (j n : Nat) (c : Nat → Int32) (I : Nat) : Prop := I ≤ n ∧ (I = n ∨ (I < n ∧ c I = 32)) ∧ ∀ q, j ≤ q → q < n → q < I → ¬ c q = 32
theorem FI.start {n : Nat} {c : Nat → Int32} (h : n ≤ 4) : FI 4 n c n := ⟨Nat.le_refl _, Or.inl rfl, fun q h1 h2 _ => by omega⟩
theorem FI.hit {j n : Nat} {c : Nat → Int32} (h : j < n) (e : c j = 32) : FI j n c j := ⟨Nat.le_of_lt h, Or.inr ⟨h, e⟩, fun q h1 _ h2 => by omega⟩
theorem FI.low {j n I : Nat} {c : Nat → Int32} (F : FI (j + 1) n c I) (h : n ≤ j) : FI j n c I := ⟨F.1, F.2.1, fun q h1 h2 _ => by omega⟩
theorem FI.miss {j n I : Nat} {c : Nat → Int32} (F : FI (j + 1) n c I) (e : ¬ c j = 32) : FI j n c I := ⟨F.1, F.2.1, fun q h1 h2 h3 => by
  rcases Nat.lt_or_ge j q with w | w
  · exact F.2.2 q w h2 h3
  · have : q = j := by omega
    rw [this]; exact e⟩
theorem lat32 {c : Int32} (h : 0 ≤ c.toInt ∧ c.toInt ≤ 255) : bt c = 32 ↔ c = 32 := ⟨fun e => bt_inj h (by decide) (e.trans (show (32 : Int32) = bt 32 by decide)), fun e => by rw [e]; decide⟩
theorem FI.tok {n I : Nat} {c : Nat → Int32} (hc : Lat c n) (F : FI 0 n c I) : TokAt (fun q => bt (c q)) n I := by
  obtain ⟨h1, h2, h3⟩ := F
  rcases h2 with rfl | ⟨h2, e⟩
  · exact Or.inr ⟨rfl, fun j hj q => h3 j (Nat.zero_le _) hj hj ((lat32 (hc j hj)).mp q)⟩
  · exact Or.inl ⟨h2, (lat32 (hc I h2)).mpr e, fun j hj q => h3 j (Nat.zero_le _) (by omega) hj ((lat32 (hc j (by omega))).mp q)⟩
theorem K_le {K : Nat} (hK : K ≤ 4) (h : ¬ (0 : Int32) < Int32.ofNat K) : K = 0 := by have := mt (pos32 (N := K) (by omega)).mpr h; omega
theorem K_ne {K k : Nat} (hK : K ≤ 4) (hk : k ≤ 4) (h : ¬ Int32.ofNat K = Int32.ofNat k) : K ≠ k := fun e => h (congrArg _ e)
theorem K_eq {K k : Nat} (hK : K ≤ 4) (hk : k ≤ 4) (h : Int32.ofNat K = Int32.ofNat k) : K = k := (o32_inj (by omega) (by omega)).mp h
theorem ddr_0 : decode method_2_code 0 = .ok (.iload_n 0, 1) := by decide +kernel
theorem ddr_1 : decode method_2_code 1 = .ok (.iconst 3, 1) := by decide +kernel
theorem ddr_2 : decode method_2_code 2 = .ok (.iand, 1) := by decide +kernel
theorem ddr_3 : decode method_2_code 3 = .ok (.ifCond .ne 6, 3) := by decide +kernel
theorem ddr_6 : decode method_2_code 6 = .ok (.bipush 32, 2) := by decide +kernel
theorem ddr_8 : decode method_2_code 8 = .ok (.ireturn, 1) := by decide +kernel
theorem ddr_9 : decode method_2_code 9 = .ok (.iload_n 0, 1) := by decide +kernel
theorem ddr_10 : decode method_2_code 10 = .ok (.iconst 2, 1) := by decide +kernel
theorem ddr_11 : decode method_2_code 11 = .ok (.iushr, 1) := by decide +kernel
theorem ddr_12 : decode method_2_code 12 = .ok (.sipush 255, 3) := by decide +kernel
theorem ddr_15 : decode method_2_code 15 = .ok (.iand, 1) := by decide +kernel
theorem ddr_16 : decode method_2_code 16 = .ok (.i2c, 1) := by decide +kernel
theorem ddr_17 : decode method_2_code 17 = .ok (.ireturn, 1) := by decide +kernel
set_option maxRecDepth 65536 in
set_option maxHeartbeats 40000000 in
theorem c_drw (l : Launch) (Z : State) (a0 : Array Value) (hw : ∀ d ∈ tables_1, d.before a0 Z = true) (p1 : Int32) (h0 : Heap) (n0 : Nat) :
    Con l Z consts_1 [] (⟨"com/example/inverness/inverness/HandOverTokenPinLaw", "draw", "(I)C"⟩ : MethodName) method_2_code 1 (some .char) ({ frames := 0, cells := 0, slots := 0, locals := 0 } : Room) #[(.int p1)] h0 n0 (fun v h _ => ∃ c : Int32, v = some (.int c) ∧ (0 ≤ c.toInt ∧ c.toInt ≤ 255) ∧ h = h0) := by
  refine Con.of (plainFor_of_name (by first | (simp [plainName, overriddenIn]; done) | decide +kernel)) (elw hw) (L0 := #[.val (.int p1)]) (fun m => by first | (simp [entryFrame, mkF, argsToLocals, Value.category]; done) | rfl) ?_
  intro p e s m below meth c T C S
  refine g_iloadN C S ddr_0 (pc' := 1) rfl rfl ?_
  refine g_iconst C S (3 : Int32) ddr_1 (pc' := 2) rfl rfl ?_
  refine g_iand C S ddr_2 (pc' := 3) rfl ?_
  refine g_if_ne C S ddr_3 (pc' := 9) (pf := 6) (by decide) (by decide) rfl (fun hc3 => ?_) (fun hc3 => ?_)
  · refine g_iloadN C S ddr_9 (pc' := 10) rfl rfl ?_
    refine g_iconst C S (2 : Int32) ddr_10 (pc' := 11) rfl rfl ?_
    refine g_iushr C S ddr_11 (pc' := 12) rfl ?_
    refine g_sipush C S (255 : Int32) ddr_12 (pc' := 15) rfl rfl ?_
    refine g_iand C S ddr_15 (pc' := 16) rfl ?_
    refine g_i2c C S ddr_16 (pc' := 17) rfl ?_
    exact g_retC C S ddr_17 (char_nar (draw_lat _)) (by decide) (by decide) (⟨_, rfl, draw_lat _, rfl⟩)
  · refine g_bipush C S (32 : Int32) ddr_6 (pc' := 8) rfl rfl ?_
    exact g_retC C S ddr_8 rfl (by decide) (by decide) (⟨_, rfl, by decide, rfl⟩)
theorem pd_17 : parseMethodDescriptor "(I)I" = some ⟨[.int], some .int⟩ := by decide +kernel
theorem pd_18 : parseMethodDescriptor "(II)Ljava/lang/String;" = some ⟨[.int, .int], some (.object "java/lang/String")⟩ := by decide +kernel
theorem dtk_0 : decode prog_3_method_2_code 0 = .ok (.aload_n 0, 1) := by decide +kernel
theorem dtk_1 : decode prog_3_method_2_code 1 = .ok (.bipush 32, 2) := by decide +kernel
theorem dtk_3 : decode prog_3_method_2_code 3 = .ok (.invokevirtual 16, 3) := by decide +kernel
theorem dtk_6 : decode prog_3_method_2_code 6 = .ok (.istore_n 1, 1) := by decide +kernel
theorem dtk_7 : decode prog_3_method_2_code 7 = .ok (.iload_n 1, 1) := by decide +kernel
theorem dtk_8 : decode prog_3_method_2_code 8 = .ok (.ifCond .ge 7, 3) := by decide +kernel
theorem dtk_11 : decode prog_3_method_2_code 11 = .ok (.aload_n 0, 1) := by decide +kernel
theorem dtk_12 : decode prog_3_method_2_code 12 = .ok (.goto 9, 3) := by decide +kernel
theorem dtk_15 : decode prog_3_method_2_code 15 = .ok (.aload_n 0, 1) := by decide +kernel
theorem dtk_16 : decode prog_3_method_2_code 16 = .ok (.iconst 0, 1) := by decide +kernel
theorem dtk_17 : decode prog_3_method_2_code 17 = .ok (.iload_n 1, 1) := by decide +kernel
theorem dtk_18 : decode prog_3_method_2_code 18 = .ok (.invokevirtual 22, 3) := by decide +kernel
theorem dtk_21 : decode prog_3_method_2_code 21 = .ok (.areturn, 1) := by decide +kernel
set_option maxRecDepth 65536 in
set_option maxHeartbeats 40000000 in
theorem c_tok (l : Launch) (Z : State) (a0 : Array Value) (hw : ∀ d ∈ tables_1, d.before a0 Z = true) (a1 : Addr) (h0 : Heap) (n0 : Nat) (b1 : Addr) (N : Nat) (g : Nat → Int32) (hN : N ≤ 8) (hB : Byt g N) (Zn : n0 ≤ h0.size) (cs : Int32) (hcs : ¬ cs = 0) (S_COMPACT_STRINGS : Sta Z h0 "java/lang/String" "COMPACT_STRINGS" "Z" (.int cs)) (fm : Value) (hfm : fm.isRef = true) (S_SIOOBE_FORMATTER : Sta Z h0 "jdk/internal/util/Preconditions" "SIOOBE_FORMATTER" "Ljava/util/function/BiFunction;" fm) (X_a1 : Exa Z h0 a1 "java/lang/String") (F_coder_a1 : Fld Z h0 a1 "java/lang/String" "coder" "B" (.int (0 : Int32))) (F_value_a1 : Fld Z h0 a1 "java/lang/String" "value" "[B" (.ref b1)) (A_b1 : Ary Z h0 b1 .byte N (fun q => .int (g q))) :
    Con l Z consts_1 [] (⟨"com/example/inverness/inverness/HandOver", "token", "(Ljava/lang/String;)Ljava/lang/String;"⟩ : MethodName) prog_3_method_2_code 2 (some (.object "java/lang/String")) ({ frames := 5, cells := 2, slots := 12, locals := 84 } : Room) #[(.ref a1)] h0 n0 (fun v h _ => ∃ a b, v = some (.ref a) ∧ Keep h0 h [] ∧ ∃ E, (Exa Z h a "java/lang/String" ∧ Fld Z h a "java/lang/String" "coder" "B" (.int (0 : Int32)) ∧ Fld Z h a "java/lang/String" "value" "[B" (.ref b) ∧ Ary Z h b .byte E (fun q => .int (g q))) ∧ TokAt g N E) := by
  refine Con.of (plainFor_of_name (by first | (simp [plainName, overriddenIn]; done) | decide +kernel)) (elw hw) (L0 := #[.val (.ref a1), .unset]) (fun m => by first | (simp [entryFrame, mkF, argsToLocals, Value.category]; done) | rfl) ?_
  intro p e s m below meth c T C S
  refine g_aloadN C S dtk_0 (pc' := 1) rfl rfl rfl ?_
  refine g_bipush C S (32 : Int32) dtk_1 (pc' := 3) rfl rfl ?_
  refine g_callV C S (rm := ({ frames := 3, cells := 0, slots := 0, locals := 50 } : Room)) (W := 0) dtk_3 (hw _ (List.mem_of_getElem? (i := 34) rfl)) (hw _ (List.mem_of_getElem? (i := 35) rfl)) (fun _ hZ => notFace_of_selects (args := #[]) (mvT hZ (hw _ (List.mem_of_getElem? (i := 37) rfl)))) (hw _ (List.mem_of_getElem? (i := 37) rfl)) (hw _ (List.mem_of_getElem? (i := 36) rfl)) (hw _ (List.mem_of_getElem? (i := 10) rfl)) (hw _ (List.mem_of_getElem? (i := 38) rfl)) (by decide) rfl X_a1 (c_ix1 l Z a0 hw a1 h0 n0 b1 N g (by omega) cs hcs S_COMPACT_STRINGS X_a1 F_coder_a1 F_value_a1 A_b1) (argsL := [(.int (32 : Int32))]) (r := []) rfl all0 (lenOf pd_17 rfl) rfl (Nat.le_of_eq rfl) (by decide) (by decide) (by decide) (by decide) (pc' := 6) rfl (fun T79 h79 v79 P79 q79 S => ?_)
  obtain ⟨e79, q79⟩ := q79; rw [e79] at S
  obtain ⟨z79, rfl, hz79⟩ := IxAt.val q79
  show Gl p e below s Z consts_1 _ n0 _ T79 (mkF m 6 #[.val (.ref a1), .unset] [(.int z79)])
  refine g_istoreN C S dtk_6 (pc' := 7) rfl (L' := #[.val (.ref a1), .val (.int z79)]) rfl ?_
  refine g_iloadN C S dtk_7 (pc' := 8) rfl rfl ?_
  refine g_if_ge C S dtk_8 (pc' := 15) (pf := 11) (by decide) (by decide) rfl (fun hc8 => ?_) (fun hc8 => ?_)
  · obtain ⟨E, rfl, hE1, hE2, hE3⟩ := IxAt.pos hz79 hc8
    refine g_aloadN C S dtk_15 (pc' := 16) rfl rfl rfl ?_
    refine g_iconst C S (0 : Int32) dtk_16 (pc' := 17) rfl rfl ?_
    refine g_iloadN C S dtk_17 (pc' := 18) rfl rfl ?_
    refine g_callV C S (rm := ({ frames := 4, cells := 2, slots := 12, locals := 68 } : Room)) (W := 0) dtk_18 (hw _ (List.mem_of_getElem? (i := 96) rfl)) (hw _ (List.mem_of_getElem? (i := 97) rfl)) (fun _ hZ => notFace_of_selects (args := #[]) (mvT hZ (hw _ (List.mem_of_getElem? (i := 99) rfl)))) (hw _ (List.mem_of_getElem? (i := 99) rfl)) (hw _ (List.mem_of_getElem? (i := 98) rfl)) (hw _ (List.mem_of_getElem? (i := 10) rfl)) (hw _ (List.mem_of_getElem? (i := 100) rfl)) (by decide) rfl X_a1 (c_sub l Z a0 hw a1 h0 n0 b1 N E g hN hE1 hB Zn cs hcs S_COMPACT_STRINGS fm hfm S_SIOOBE_FORMATTER X_a1 F_coder_a1 F_value_a1 A_b1) (argsL := [(.int (0 : Int32)), (.int (Int32.ofNat E))]) (r := []) rfl all0 (lenOf pd_18 rfl) rfl (Nat.le_of_eq rfl) (by decide) (by decide) (by decide) (by decide) (pc' := 21) rfl (fun T80 h80 v80 P80 q80 S => ?_)
    obtain ⟨a80, b80, rfl, K80, q80⟩ := q80
    show Gl p e below s Z consts_1 _ n0 _ T80 (mkF m 21 #[.val (.ref a1), .val (.int (Int32.ofNat E))] [(.ref a80)])
    exact g_retA C S dtk_21 rfl rfl rfl (by decide) (by decide) (⟨_, _, rfl, K80, E, q80, Or.inl ⟨hE1, hE2, hE3⟩⟩)
  · refine g_aloadN C S dtk_11 (pc' := 12) rfl rfl rfl ?_
    refine g_goto C S dtk_12 (pc' := 21) (by decide) (by decide) ?_
    exact g_retA C S dtk_21 rfl rfl rfl (by decide) (by decide) (⟨_, _, rfl, Keep.refl _ _, N, ⟨X_a1, F_coder_a1, F_value_a1, A_b1⟩, Or.inr ⟨rfl, IxAt.neg (by omega) hz79 hc8⟩⟩)
theorem EqAt.must {g : Nat → Int32} {N M : Nat} {z : Int32} (h : EqAt g g N M (some (.int z))) (e : N = M) : ¬ z = 0 := by
  rcases h with ⟨q, -⟩ | ⟨-, q⟩
  · rw [Value.int.inj (Option.some.inj q)]; decide
  · exact absurd ⟨e, fun _ _ => rfl⟩ q
theorem kfour {K : Nat} (hK : K ≤ 4) (h0 : (0 : Int32) < Int32.ofNat K) (h1 : ¬ Int32.ofNat K = 1) (h2 : ¬ Int32.ofNat K = 2) (h3 : ¬ Int32.ofNat K = 3) : K = 4 := by
  have a0 := (pos32 (N := K) (by omega)).mp h0
  have a1 := K_ne (k := 1) hK (by decide) h1
  have a2 := K_ne (k := 2) hK (by decide) h2
  have a3 := K_ne (k := 3) hK (by decide) h3
  omega
theorem pd_19 : parseMethodDescriptor "([C)V" = some ⟨[(.array .char)], none⟩ := by decide +kernel
theorem dpr_0 : decode method_3_code 0 = .ok (.iload 4, 2) := by decide +kernel
theorem dpr_2 : decode method_3_code 2 = .ok (.ifCond .gt 14, 3) := by decide +kernel
theorem dpr_5 : decode method_3_code 5 = .ok (.new 7, 3) := by decide +kernel
theorem dpr_8 : decode method_3_code 8 = .ok (.dup, 1) := by decide +kernel
theorem dpr_9 : decode method_3_code 9 = .ok (.iconst 0, 1) := by decide +kernel
theorem dpr_10 : decode method_3_code 10 = .ok (.newarray .char, 2) := by decide +kernel
theorem dpr_12 : decode method_3_code 12 = .ok (.invokespecial 9, 3) := by decide +kernel
theorem dpr_15 : decode method_3_code 15 = .ok (.areturn, 1) := by decide +kernel
theorem dpr_16 : decode method_3_code 16 = .ok (.iload 4, 2) := by decide +kernel
theorem dpr_18 : decode method_3_code 18 = .ok (.iconst 1, 1) := by decide +kernel
theorem dpr_19 : decode method_3_code 19 = .ok (.if_icmp .ne 18, 3) := by decide +kernel
theorem dpr_22 : decode method_3_code 22 = .ok (.new 7, 3) := by decide +kernel
theorem dpr_25 : decode method_3_code 25 = .ok (.dup, 1) := by decide +kernel
theorem dpr_26 : decode method_3_code 26 = .ok (.iconst 1, 1) := by decide +kernel
theorem dpr_27 : decode method_3_code 27 = .ok (.newarray .char, 2) := by decide +kernel
theorem dpr_29 : decode method_3_code 29 = .ok (.dup, 1) := by decide +kernel
theorem dpr_30 : decode method_3_code 30 = .ok (.iconst 0, 1) := by decide +kernel
theorem dpr_31 : decode method_3_code 31 = .ok (.iload_n 0, 1) := by decide +kernel
theorem dpr_32 : decode method_3_code 32 = .ok (.castore, 1) := by decide +kernel
theorem dpr_33 : decode method_3_code 33 = .ok (.invokespecial 9, 3) := by decide +kernel
theorem dpr_36 : decode method_3_code 36 = .ok (.areturn, 1) := by decide +kernel
theorem dpr_37 : decode method_3_code 37 = .ok (.iload 4, 2) := by decide +kernel
theorem dpr_39 : decode method_3_code 39 = .ok (.iconst 2, 1) := by decide +kernel
theorem dpr_40 : decode method_3_code 40 = .ok (.if_icmp .ne 22, 3) := by decide +kernel
theorem dpr_43 : decode method_3_code 43 = .ok (.new 7, 3) := by decide +kernel
theorem dpr_46 : decode method_3_code 46 = .ok (.dup, 1) := by decide +kernel
theorem dpr_47 : decode method_3_code 47 = .ok (.iconst 2, 1) := by decide +kernel
theorem dpr_48 : decode method_3_code 48 = .ok (.newarray .char, 2) := by decide +kernel
theorem dpr_50 : decode method_3_code 50 = .ok (.dup, 1) := by decide +kernel
theorem dpr_51 : decode method_3_code 51 = .ok (.iconst 0, 1) := by decide +kernel
theorem dpr_52 : decode method_3_code 52 = .ok (.iload_n 0, 1) := by decide +kernel
theorem dpr_53 : decode method_3_code 53 = .ok (.castore, 1) := by decide +kernel
theorem dpr_54 : decode method_3_code 54 = .ok (.dup, 1) := by decide +kernel
theorem dpr_55 : decode method_3_code 55 = .ok (.iconst 1, 1) := by decide +kernel
theorem dpr_56 : decode method_3_code 56 = .ok (.iload_n 1, 1) := by decide +kernel
theorem dpr_57 : decode method_3_code 57 = .ok (.castore, 1) := by decide +kernel
theorem dpr_58 : decode method_3_code 58 = .ok (.invokespecial 9, 3) := by decide +kernel
theorem dpr_61 : decode method_3_code 61 = .ok (.areturn, 1) := by decide +kernel
theorem dpr_62 : decode method_3_code 62 = .ok (.iload 4, 2) := by decide +kernel
theorem dpr_64 : decode method_3_code 64 = .ok (.iconst 3, 1) := by decide +kernel
theorem dpr_65 : decode method_3_code 65 = .ok (.if_icmp .ne 26, 3) := by decide +kernel
theorem dpr_68 : decode method_3_code 68 = .ok (.new 7, 3) := by decide +kernel
theorem dpr_71 : decode method_3_code 71 = .ok (.dup, 1) := by decide +kernel
theorem dpr_72 : decode method_3_code 72 = .ok (.iconst 3, 1) := by decide +kernel
theorem dpr_73 : decode method_3_code 73 = .ok (.newarray .char, 2) := by decide +kernel
theorem dpr_75 : decode method_3_code 75 = .ok (.dup, 1) := by decide +kernel
theorem dpr_76 : decode method_3_code 76 = .ok (.iconst 0, 1) := by decide +kernel
theorem dpr_77 : decode method_3_code 77 = .ok (.iload_n 0, 1) := by decide +kernel
theorem dpr_78 : decode method_3_code 78 = .ok (.castore, 1) := by decide +kernel
theorem dpr_79 : decode method_3_code 79 = .ok (.dup, 1) := by decide +kernel
theorem dpr_80 : decode method_3_code 80 = .ok (.iconst 1, 1) := by decide +kernel
theorem dpr_81 : decode method_3_code 81 = .ok (.iload_n 1, 1) := by decide +kernel
theorem dpr_82 : decode method_3_code 82 = .ok (.castore, 1) := by decide +kernel
theorem dpr_83 : decode method_3_code 83 = .ok (.dup, 1) := by decide +kernel
theorem dpr_84 : decode method_3_code 84 = .ok (.iconst 2, 1) := by decide +kernel
theorem dpr_85 : decode method_3_code 85 = .ok (.iload_n 2, 1) := by decide +kernel
theorem dpr_86 : decode method_3_code 86 = .ok (.castore, 1) := by decide +kernel
theorem dpr_87 : decode method_3_code 87 = .ok (.invokespecial 9, 3) := by decide +kernel
theorem dpr_90 : decode method_3_code 90 = .ok (.areturn, 1) := by decide +kernel
theorem dpr_91 : decode method_3_code 91 = .ok (.new 7, 3) := by decide +kernel
theorem dpr_94 : decode method_3_code 94 = .ok (.dup, 1) := by decide +kernel
theorem dpr_95 : decode method_3_code 95 = .ok (.iconst 4, 1) := by decide +kernel
theorem dpr_96 : decode method_3_code 96 = .ok (.newarray .char, 2) := by decide +kernel
theorem dpr_98 : decode method_3_code 98 = .ok (.dup, 1) := by decide +kernel
theorem dpr_99 : decode method_3_code 99 = .ok (.iconst 0, 1) := by decide +kernel
theorem dpr_100 : decode method_3_code 100 = .ok (.iload_n 0, 1) := by decide +kernel
theorem dpr_101 : decode method_3_code 101 = .ok (.castore, 1) := by decide +kernel
theorem dpr_102 : decode method_3_code 102 = .ok (.dup, 1) := by decide +kernel
theorem dpr_103 : decode method_3_code 103 = .ok (.iconst 1, 1) := by decide +kernel
theorem dpr_104 : decode method_3_code 104 = .ok (.iload_n 1, 1) := by decide +kernel
theorem dpr_105 : decode method_3_code 105 = .ok (.castore, 1) := by decide +kernel
theorem dpr_106 : decode method_3_code 106 = .ok (.dup, 1) := by decide +kernel
theorem dpr_107 : decode method_3_code 107 = .ok (.iconst 2, 1) := by decide +kernel
theorem dpr_108 : decode method_3_code 108 = .ok (.iload_n 2, 1) := by decide +kernel
theorem dpr_109 : decode method_3_code 109 = .ok (.castore, 1) := by decide +kernel
theorem dpr_110 : decode method_3_code 110 = .ok (.dup, 1) := by decide +kernel
theorem dpr_111 : decode method_3_code 111 = .ok (.iconst 3, 1) := by decide +kernel
theorem dpr_112 : decode method_3_code 112 = .ok (.iload_n 3, 1) := by decide +kernel
theorem dpr_113 : decode method_3_code 113 = .ok (.castore, 1) := by decide +kernel
theorem dpr_114 : decode method_3_code 114 = .ok (.invokespecial 9, 3) := by decide +kernel
theorem dpr_117 : decode method_3_code 117 = .ok (.areturn, 1) := by decide +kernel
set_option maxRecDepth 65536 in
set_option maxHeartbeats 40000000 in
theorem c_pre (l : Launch) (Z : State) (a0 : Array Value) (hw : ∀ d ∈ tables_1, d.before a0 Z = true) (p1 : Int32) (p2 : Int32) (p3 : Int32) (p4 : Int32) (h0 : Heap) (n0 : Nat) (K : Nat) (hK : K ≤ 4) (hl1 : 0 ≤ p1.toInt ∧ p1.toInt ≤ 255) (hl2 : 0 ≤ p2.toInt ∧ p2.toInt ≤ 255) (hl3 : 0 ≤ p3.toInt ∧ p3.toInt ≤ 255) (hl4 : 0 ≤ p4.toInt ∧ p4.toInt ≤ 255) (Zn : n0 ≤ h0.size) (cs : Int32) (hcs : ¬ cs = 0) (S_COMPACT_STRINGS : Sta Z h0 "java/lang/String" "COMPACT_STRINGS" "Z" (.int cs)) :
    Con l Z consts_1 [] (⟨"com/example/inverness/inverness/HandOverTokenPinLaw", "pre", "(CCCCI)Ljava/lang/String;"⟩ : MethodName) method_3_code 5 (some (.object "java/lang/String")) ({ frames := 4, cells := 6, slots := 16, locals := 67 } : Room) #[(.int p1), (.int p2), (.int p3), (.int p4), (.int (Int32.ofNat K))] h0 n0 (fun v h _ => ∃ a b, v = some (.ref a) ∧ Keep h0 h [] ∧ Exa Z h a "java/lang/String" ∧ Fld Z h a "java/lang/String" "coder" "B" (.int (0 : Int32)) ∧ Fld Z h a "java/lang/String" "value" "[B" (.ref b) ∧ Ary Z h b .byte K (fun q => .int (bt (c4 p1 p2 p3 p4 q)))) := by
  refine Con.of (plainFor_of_name (by first | (simp [plainName, overriddenIn]; done) | decide +kernel)) (elw hw) (L0 := #[.val (.int p1), .val (.int p2), .val (.int p3), .val (.int p4), .val (.int (Int32.ofNat K))]) (fun m => by first | (simp [entryFrame, mkF, argsToLocals, Value.category]; done) | rfl) ?_
  intro p e s m below meth c T C S
  have Kp := Keep.refl h0 []
  refine g_iload C S dpr_0 (pc' := 2) rfl rfl ?_
  refine g_if_gt C S dpr_2 (pc' := 16) (pf := 5) (by decide) (by decide) rfl (fun hc2 => ?_) (fun hc2 => ?_)
  · refine g_iload C S dpr_16 (pc' := 18) rfl rfl ?_
    refine g_iconst C S (1 : Int32) dpr_18 (pc' := 19) rfl rfl ?_
    refine g_icmp_ne C S dpr_19 (pc' := 37) (pf := 22) (by decide) (by decide) rfl (fun hc19 => ?_) (fun hc19 => ?_)
    · refine g_iload C S dpr_37 (pc' := 39) rfl rfl ?_
      refine g_iconst C S (2 : Int32) dpr_39 (pc' := 40) rfl rfl ?_
      refine g_icmp_ne C S dpr_40 (pc' := 62) (pf := 43) (by decide) (by decide) rfl (fun hc40 => ?_) (fun hc40 => ?_)
      · refine g_iload C S dpr_62 (pc' := 64) rfl rfl ?_
        refine g_iconst C S (3 : Int32) dpr_64 (pc' := 65) rfl rfl ?_
        refine g_icmp_ne C S dpr_65 (pc' := 91) (pf := 68) (by decide) (by decide) rfl (fun hc65 => ?_) (fun hc65 => ?_)
        · refine g_new C S dpr_91 (hw _ (List.mem_of_getElem? (i := 8) rfl)) (hw _ (List.mem_of_getElem? (i := 9) rfl)) (hw _ (List.mem_of_getElem? (i := 10) rfl)) (by decide) (by decide) (pc' := 94) rfl (fun T81 h81 a81 S g81 E81 X81 D81 => ?_)
          have sz_a81 : h0.size ≤ a81 := ge_of g81 Kp.1
          have ge_a81 : n0 ≤ a81 := ge_of g81 Zn
          have pm_a81 := On.hd S
          have Kp := Kp.ext E81
          have Zn := Nat.le_trans Zn E81.1
          have S_COMPACT_STRINGS := S_COMPACT_STRINGS.ext E81
          have F_value_a81 : Fld Z h81 a81 "java/lang/String" "value" "[B" .null := D81 (Or.inr (hw _ (List.mem_of_getElem? (i := 24) rfl))) (ty := (.array .byte)) (by decide)
          have F_coder_a81 : Fld Z h81 a81 "java/lang/String" "coder" "B" (.int (0 : Int32)) := D81 (Or.inr (hw _ (List.mem_of_getElem? (i := 25) rfl))) (ty := .byte) (by decide)
          refine g_dup C S dpr_94 (pc' := 95) rfl rfl ?_
          refine g_iconst C S (4 : Int32) dpr_95 (pc' := 96) rfl rfl ?_
          refine g_newarray C S (N := 4) (cap := 4) dpr_96 (hw _ (List.mem_of_getElem? (i := 11) rfl)) (by decide) (by decide) (by decide) (by decide) (by decide) (pc' := 98) rfl (fun T82 h82 a82 S g82 E82 A_a82 => ?_)
          have ne_a81_a82 : a81 ≠ a82 := ne_new g82 X81.lt
          have sz_a82 : h0.size ≤ a82 := ge_of g82 Kp.1
          have ge_a82 : n0 ≤ a82 := ge_of g82 Zn
          have pm_a81 := List.mem_cons_of_mem a82 pm_a81
          have pm_a82 := On.hd S
          have Kp := Kp.ext E82
          have Zn := Nat.le_trans Zn E82.1
          have S_COMPACT_STRINGS := S_COMPACT_STRINGS.ext E82
          have X81 := X81.ext E82
          have F_value_a81 := F_value_a81.ext E82
          have F_coder_a81 := F_coder_a81.ext E82
          have A_a82 : Ary Z h82 a82 .char 4 (fun _ => (.int (0 : Int32))) := A_a82
          refine g_dup C S dpr_98 (pc' := 99) rfl rfl ?_
          refine g_iconst C S (0 : Int32) dpr_99 (pc' := 100) rfl rfl ?_
          refine g_iloadN C S dpr_100 (pc' := 101) rfl rfl ?_
          refine g_castore C S (i := 0) dpr_101 A_a82 (by decide) (by decide) ge_a82 (pc' := 102) rfl (fun T83 h83 S W83 B83 => ?_)
          have Zn := Nat.le_trans Zn (Nat.le_of_eq W83.size.symm)
          have S_COMPACT_STRINGS := S_COMPACT_STRINGS.wr W83
          have X81 := X81.wr W83
          have F_value_a81 := F_value_a81.other W83 (Or.inl ne_a81_a82)
          have F_coder_a81 := F_coder_a81.other W83 (Or.inl ne_a81_a82)
          have A_a82 := B83
          have Kp := Kp.wr W83 (Or.inr sz_a82)
          refine g_dup C S dpr_102 (pc' := 103) rfl rfl ?_
          refine g_iconst C S (1 : Int32) dpr_103 (pc' := 104) rfl rfl ?_
          refine g_iloadN C S dpr_104 (pc' := 105) rfl rfl ?_
          refine g_castore C S (i := 1) dpr_105 A_a82 (by decide) (by decide) ge_a82 (pc' := 106) rfl (fun T84 h84 S W84 B84 => ?_)
          have Zn := Nat.le_trans Zn (Nat.le_of_eq W84.size.symm)
          have S_COMPACT_STRINGS := S_COMPACT_STRINGS.wr W84
          have X81 := X81.wr W84
          have F_value_a81 := F_value_a81.other W84 (Or.inl ne_a81_a82)
          have F_coder_a81 := F_coder_a81.other W84 (Or.inl ne_a81_a82)
          have A_a82 := B84
          have Kp := Kp.wr W84 (Or.inr sz_a82)
          refine g_dup C S dpr_106 (pc' := 107) rfl rfl ?_
          refine g_iconst C S (2 : Int32) dpr_107 (pc' := 108) rfl rfl ?_
          refine g_iloadN C S dpr_108 (pc' := 109) rfl rfl ?_
          refine g_castore C S (i := 2) dpr_109 A_a82 (by decide) (by decide) ge_a82 (pc' := 110) rfl (fun T85 h85 S W85 B85 => ?_)
          have Zn := Nat.le_trans Zn (Nat.le_of_eq W85.size.symm)
          have S_COMPACT_STRINGS := S_COMPACT_STRINGS.wr W85
          have X81 := X81.wr W85
          have F_value_a81 := F_value_a81.other W85 (Or.inl ne_a81_a82)
          have F_coder_a81 := F_coder_a81.other W85 (Or.inl ne_a81_a82)
          have A_a82 := B85
          have Kp := Kp.wr W85 (Or.inr sz_a82)
          refine g_dup C S dpr_110 (pc' := 111) rfl rfl ?_
          refine g_iconst C S (3 : Int32) dpr_111 (pc' := 112) rfl rfl ?_
          refine g_iloadN C S dpr_112 (pc' := 113) rfl rfl ?_
          refine g_castore C S (i := 3) dpr_113 A_a82 (by decide) (by decide) ge_a82 (pc' := 114) rfl (fun T86 h86 S W86 B86 => ?_)
          have Zn := Nat.le_trans Zn (Nat.le_of_eq W86.size.symm)
          have S_COMPACT_STRINGS := S_COMPACT_STRINGS.wr W86
          have X81 := X81.wr W86
          have F_value_a81 := F_value_a81.other W86 (Or.inl ne_a81_a82)
          have F_coder_a81 := F_coder_a81.other W86 (Or.inl ne_a81_a82)
          have A_a82 := B86
          have Kp := Kp.wr W86 (Or.inr sz_a82)
          have eK : K = 4 := kfour hK hc2 hc19 hc40 hc65
          have A_a82 : Ary Z h86 a82 .char 4 (fun q => .int (c4 p1 p2 p3 p4 q)) := A_a82.cg (fun q hq => by match q, hq with | 0, _ => simp [c4, nar_char hl1] | 1, _ => simp [c4, nar_char hl2] | 2, _ => simp [c4, nar_char hl3] | 3, _ => simp [c4, nar_char hl4] | q + 4, hq => exact absurd hq (by omega))
          refine g_callI C S (rm := ({ frames := 3, cells := 4, slots := 8, locals := 53 } : Room)) (W := 1) dpr_114 rfl (hw _ (List.mem_of_getElem? (i := 12) rfl)) (hw _ (List.mem_of_getElem? (i := 13) rfl)) (hw _ (List.mem_of_getElem? (i := 10) rfl)) (hw _ (List.mem_of_getElem? (i := 14) rfl)) (by decide) (c_ini l Z a0 hw a81 a82 h86 n0 _ _ 4 (c4 p1 p2 p3 p4) (by decide) (c4_lat hl1 hl2 hl3 hl4 _) ge_a81 ne_a81_a82 Zn cs hcs S_COMPACT_STRINGS X81 F_value_a81 F_coder_a81 A_a82) (argsL := [(.ref a82)]) (r := [(.ref a81)]) rfl (allS pm_a81 all0) (lenOf pd_19 rfl) rfl (Nat.le_of_eq rfl) (by decide) (by decide) (by decide) (by decide) (pc' := 117) rfl (fun T87 h87 v87 P87 q87 S => ?_)
          have pm_a81 := List.mem_append_right P87 pm_a81
          have pm_a82 := List.mem_append_right P87 pm_a82
          obtain ⟨rfl, K87, b87, Y, G_coder, G_value, A_b87⟩ := q87
          have Kp := Kp.trans K87 (allS (Or.inr sz_a81) all0)
          have S_COMPACT_STRINGS := Sta.keep1 S_COMPACT_STRINGS K87 (X81.nostat)
          have Zn := Nat.le_trans Zn K87.1
          have X81 := X81.keep K87
          have A_a82 := A_a82.keep K87 (ninS (Ne.symm ne_a81_a82) nin0)
          show Gl p e below s Z consts_1 _ n0 _ T87 (mkF m 117 #[.val (.int p1), .val (.int p2), .val (.int p3), .val (.int p4), .val (.int (Int32.ofNat K))] [(.ref a81)])
          exact g_retA C S dpr_117 rfl rfl rfl (by decide) (by decide) (⟨_, _, rfl, Kp, Y, G_coder, G_value, by rw [eK]; exact A_b87⟩)
        · refine g_new C S dpr_68 (hw _ (List.mem_of_getElem? (i := 8) rfl)) (hw _ (List.mem_of_getElem? (i := 9) rfl)) (hw _ (List.mem_of_getElem? (i := 10) rfl)) (by decide) (by decide) (pc' := 71) rfl (fun T88 h88 a88 S g88 E88 X88 D88 => ?_)
          have sz_a88 : h0.size ≤ a88 := ge_of g88 Kp.1
          have ge_a88 : n0 ≤ a88 := ge_of g88 Zn
          have pm_a88 := On.hd S
          have Kp := Kp.ext E88
          have Zn := Nat.le_trans Zn E88.1
          have S_COMPACT_STRINGS := S_COMPACT_STRINGS.ext E88
          have F_value_a88 : Fld Z h88 a88 "java/lang/String" "value" "[B" .null := D88 (Or.inr (hw _ (List.mem_of_getElem? (i := 24) rfl))) (ty := (.array .byte)) (by decide)
          have F_coder_a88 : Fld Z h88 a88 "java/lang/String" "coder" "B" (.int (0 : Int32)) := D88 (Or.inr (hw _ (List.mem_of_getElem? (i := 25) rfl))) (ty := .byte) (by decide)
          refine g_dup C S dpr_71 (pc' := 72) rfl rfl ?_
          refine g_iconst C S (3 : Int32) dpr_72 (pc' := 73) rfl rfl ?_
          refine g_newarray C S (N := 3) (cap := 3) dpr_73 (hw _ (List.mem_of_getElem? (i := 11) rfl)) (by decide) (by decide) (by decide) (by decide) (by decide) (pc' := 75) rfl (fun T89 h89 a89 S g89 E89 A_a89 => ?_)
          have ne_a88_a89 : a88 ≠ a89 := ne_new g89 X88.lt
          have sz_a89 : h0.size ≤ a89 := ge_of g89 Kp.1
          have ge_a89 : n0 ≤ a89 := ge_of g89 Zn
          have pm_a88 := List.mem_cons_of_mem a89 pm_a88
          have pm_a89 := On.hd S
          have Kp := Kp.ext E89
          have Zn := Nat.le_trans Zn E89.1
          have S_COMPACT_STRINGS := S_COMPACT_STRINGS.ext E89
          have X88 := X88.ext E89
          have F_value_a88 := F_value_a88.ext E89
          have F_coder_a88 := F_coder_a88.ext E89
          have A_a89 : Ary Z h89 a89 .char 3 (fun _ => (.int (0 : Int32))) := A_a89
          refine g_dup C S dpr_75 (pc' := 76) rfl rfl ?_
          refine g_iconst C S (0 : Int32) dpr_76 (pc' := 77) rfl rfl ?_
          refine g_iloadN C S dpr_77 (pc' := 78) rfl rfl ?_
          refine g_castore C S (i := 0) dpr_78 A_a89 (by decide) (by decide) ge_a89 (pc' := 79) rfl (fun T90 h90 S W90 B90 => ?_)
          have Zn := Nat.le_trans Zn (Nat.le_of_eq W90.size.symm)
          have S_COMPACT_STRINGS := S_COMPACT_STRINGS.wr W90
          have X88 := X88.wr W90
          have F_value_a88 := F_value_a88.other W90 (Or.inl ne_a88_a89)
          have F_coder_a88 := F_coder_a88.other W90 (Or.inl ne_a88_a89)
          have A_a89 := B90
          have Kp := Kp.wr W90 (Or.inr sz_a89)
          refine g_dup C S dpr_79 (pc' := 80) rfl rfl ?_
          refine g_iconst C S (1 : Int32) dpr_80 (pc' := 81) rfl rfl ?_
          refine g_iloadN C S dpr_81 (pc' := 82) rfl rfl ?_
          refine g_castore C S (i := 1) dpr_82 A_a89 (by decide) (by decide) ge_a89 (pc' := 83) rfl (fun T91 h91 S W91 B91 => ?_)
          have Zn := Nat.le_trans Zn (Nat.le_of_eq W91.size.symm)
          have S_COMPACT_STRINGS := S_COMPACT_STRINGS.wr W91
          have X88 := X88.wr W91
          have F_value_a88 := F_value_a88.other W91 (Or.inl ne_a88_a89)
          have F_coder_a88 := F_coder_a88.other W91 (Or.inl ne_a88_a89)
          have A_a89 := B91
          have Kp := Kp.wr W91 (Or.inr sz_a89)
          refine g_dup C S dpr_83 (pc' := 84) rfl rfl ?_
          refine g_iconst C S (2 : Int32) dpr_84 (pc' := 85) rfl rfl ?_
          refine g_iloadN C S dpr_85 (pc' := 86) rfl rfl ?_
          refine g_castore C S (i := 2) dpr_86 A_a89 (by decide) (by decide) ge_a89 (pc' := 87) rfl (fun T92 h92 S W92 B92 => ?_)
          have Zn := Nat.le_trans Zn (Nat.le_of_eq W92.size.symm)
          have S_COMPACT_STRINGS := S_COMPACT_STRINGS.wr W92
          have X88 := X88.wr W92
          have F_value_a88 := F_value_a88.other W92 (Or.inl ne_a88_a89)
          have F_coder_a88 := F_coder_a88.other W92 (Or.inl ne_a88_a89)
          have A_a89 := B92
          have Kp := Kp.wr W92 (Or.inr sz_a89)
          have eK : K = 3 := K_eq hK (by decide) hc65
          have A_a89 : Ary Z h92 a89 .char 3 (fun q => .int (c4 p1 p2 p3 p4 q)) := A_a89.cg (fun q hq => by match q, hq with | 0, _ => simp [c4, nar_char hl1] | 1, _ => simp [c4, nar_char hl2] | 2, _ => simp [c4, nar_char hl3] | q + 3, hq => exact absurd hq (by omega))
          refine g_callI C S (rm := ({ frames := 3, cells := 4, slots := 8, locals := 53 } : Room)) (W := 1) dpr_87 rfl (hw _ (List.mem_of_getElem? (i := 12) rfl)) (hw _ (List.mem_of_getElem? (i := 13) rfl)) (hw _ (List.mem_of_getElem? (i := 10) rfl)) (hw _ (List.mem_of_getElem? (i := 14) rfl)) (by decide) (c_ini l Z a0 hw a88 a89 h92 n0 _ _ 3 (c4 p1 p2 p3 p4) (by decide) (c4_lat hl1 hl2 hl3 hl4 _) ge_a88 ne_a88_a89 Zn cs hcs S_COMPACT_STRINGS X88 F_value_a88 F_coder_a88 A_a89) (argsL := [(.ref a89)]) (r := [(.ref a88)]) rfl (allS pm_a88 all0) (lenOf pd_19 rfl) rfl (Nat.le_of_eq rfl) (by decide) (by decide) (by decide) (by decide) (pc' := 90) rfl (fun T93 h93 v93 P93 q93 S => ?_)
          have pm_a88 := List.mem_append_right P93 pm_a88
          have pm_a89 := List.mem_append_right P93 pm_a89
          obtain ⟨rfl, K93, b93, Y, G_coder, G_value, A_b93⟩ := q93
          have Kp := Kp.trans K93 (allS (Or.inr sz_a88) all0)
          have S_COMPACT_STRINGS := Sta.keep1 S_COMPACT_STRINGS K93 (X88.nostat)
          have Zn := Nat.le_trans Zn K93.1
          have X88 := X88.keep K93
          have A_a89 := A_a89.keep K93 (ninS (Ne.symm ne_a88_a89) nin0)
          show Gl p e below s Z consts_1 _ n0 _ T93 (mkF m 90 #[.val (.int p1), .val (.int p2), .val (.int p3), .val (.int p4), .val (.int (Int32.ofNat K))] [(.ref a88)])
          exact g_retA C S dpr_90 rfl rfl rfl (by decide) (by decide) (⟨_, _, rfl, Kp, Y, G_coder, G_value, by rw [eK]; exact A_b93⟩)
      · refine g_new C S dpr_43 (hw _ (List.mem_of_getElem? (i := 8) rfl)) (hw _ (List.mem_of_getElem? (i := 9) rfl)) (hw _ (List.mem_of_getElem? (i := 10) rfl)) (by decide) (by decide) (pc' := 46) rfl (fun T94 h94 a94 S g94 E94 X94 D94 => ?_)
        have sz_a94 : h0.size ≤ a94 := ge_of g94 Kp.1
        have ge_a94 : n0 ≤ a94 := ge_of g94 Zn
        have pm_a94 := On.hd S
        have Kp := Kp.ext E94
        have Zn := Nat.le_trans Zn E94.1
        have S_COMPACT_STRINGS := S_COMPACT_STRINGS.ext E94
        have F_value_a94 : Fld Z h94 a94 "java/lang/String" "value" "[B" .null := D94 (Or.inr (hw _ (List.mem_of_getElem? (i := 24) rfl))) (ty := (.array .byte)) (by decide)
        have F_coder_a94 : Fld Z h94 a94 "java/lang/String" "coder" "B" (.int (0 : Int32)) := D94 (Or.inr (hw _ (List.mem_of_getElem? (i := 25) rfl))) (ty := .byte) (by decide)
        refine g_dup C S dpr_46 (pc' := 47) rfl rfl ?_
        refine g_iconst C S (2 : Int32) dpr_47 (pc' := 48) rfl rfl ?_
        refine g_newarray C S (N := 2) (cap := 2) dpr_48 (hw _ (List.mem_of_getElem? (i := 11) rfl)) (by decide) (by decide) (by decide) (by decide) (by decide) (pc' := 50) rfl (fun T95 h95 a95 S g95 E95 A_a95 => ?_)
        have ne_a94_a95 : a94 ≠ a95 := ne_new g95 X94.lt
        have sz_a95 : h0.size ≤ a95 := ge_of g95 Kp.1
        have ge_a95 : n0 ≤ a95 := ge_of g95 Zn
        have pm_a94 := List.mem_cons_of_mem a95 pm_a94
        have pm_a95 := On.hd S
        have Kp := Kp.ext E95
        have Zn := Nat.le_trans Zn E95.1
        have S_COMPACT_STRINGS := S_COMPACT_STRINGS.ext E95
        have X94 := X94.ext E95
        have F_value_a94 := F_value_a94.ext E95
        have F_coder_a94 := F_coder_a94.ext E95
        have A_a95 : Ary Z h95 a95 .char 2 (fun _ => (.int (0 : Int32))) := A_a95
        refine g_dup C S dpr_50 (pc' := 51) rfl rfl ?_
        refine g_iconst C S (0 : Int32) dpr_51 (pc' := 52) rfl rfl ?_
        refine g_iloadN C S dpr_52 (pc' := 53) rfl rfl ?_
        refine g_castore C S (i := 0) dpr_53 A_a95 (by decide) (by decide) ge_a95 (pc' := 54) rfl (fun T96 h96 S W96 B96 => ?_)
        have Zn := Nat.le_trans Zn (Nat.le_of_eq W96.size.symm)
        have S_COMPACT_STRINGS := S_COMPACT_STRINGS.wr W96
        have X94 := X94.wr W96
        have F_value_a94 := F_value_a94.other W96 (Or.inl ne_a94_a95)
        have F_coder_a94 := F_coder_a94.other W96 (Or.inl ne_a94_a95)
        have A_a95 := B96
        have Kp := Kp.wr W96 (Or.inr sz_a95)
        refine g_dup C S dpr_54 (pc' := 55) rfl rfl ?_
        refine g_iconst C S (1 : Int32) dpr_55 (pc' := 56) rfl rfl ?_
        refine g_iloadN C S dpr_56 (pc' := 57) rfl rfl ?_
        refine g_castore C S (i := 1) dpr_57 A_a95 (by decide) (by decide) ge_a95 (pc' := 58) rfl (fun T97 h97 S W97 B97 => ?_)
        have Zn := Nat.le_trans Zn (Nat.le_of_eq W97.size.symm)
        have S_COMPACT_STRINGS := S_COMPACT_STRINGS.wr W97
        have X94 := X94.wr W97
        have F_value_a94 := F_value_a94.other W97 (Or.inl ne_a94_a95)
        have F_coder_a94 := F_coder_a94.other W97 (Or.inl ne_a94_a95)
        have A_a95 := B97
        have Kp := Kp.wr W97 (Or.inr sz_a95)
        have eK : K = 2 := K_eq hK (by decide) hc40
        have A_a95 : Ary Z h97 a95 .char 2 (fun q => .int (c4 p1 p2 p3 p4 q)) := A_a95.cg (fun q hq => by match q, hq with | 0, _ => simp [c4, nar_char hl1] | 1, _ => simp [c4, nar_char hl2] | q + 2, hq => exact absurd hq (by omega))
        refine g_callI C S (rm := ({ frames := 3, cells := 4, slots := 8, locals := 53 } : Room)) (W := 1) dpr_58 rfl (hw _ (List.mem_of_getElem? (i := 12) rfl)) (hw _ (List.mem_of_getElem? (i := 13) rfl)) (hw _ (List.mem_of_getElem? (i := 10) rfl)) (hw _ (List.mem_of_getElem? (i := 14) rfl)) (by decide) (c_ini l Z a0 hw a94 a95 h97 n0 _ _ 2 (c4 p1 p2 p3 p4) (by decide) (c4_lat hl1 hl2 hl3 hl4 _) ge_a94 ne_a94_a95 Zn cs hcs S_COMPACT_STRINGS X94 F_value_a94 F_coder_a94 A_a95) (argsL := [(.ref a95)]) (r := [(.ref a94)]) rfl (allS pm_a94 all0) (lenOf pd_19 rfl) rfl (Nat.le_of_eq rfl) (by decide) (by decide) (by decide) (by decide) (pc' := 61) rfl (fun T98 h98 v98 P98 q98 S => ?_)
        have pm_a94 := List.mem_append_right P98 pm_a94
        have pm_a95 := List.mem_append_right P98 pm_a95
        obtain ⟨rfl, K98, b98, Y, G_coder, G_value, A_b98⟩ := q98
        have Kp := Kp.trans K98 (allS (Or.inr sz_a94) all0)
        have S_COMPACT_STRINGS := Sta.keep1 S_COMPACT_STRINGS K98 (X94.nostat)
        have Zn := Nat.le_trans Zn K98.1
        have X94 := X94.keep K98
        have A_a95 := A_a95.keep K98 (ninS (Ne.symm ne_a94_a95) nin0)
        show Gl p e below s Z consts_1 _ n0 _ T98 (mkF m 61 #[.val (.int p1), .val (.int p2), .val (.int p3), .val (.int p4), .val (.int (Int32.ofNat K))] [(.ref a94)])
        exact g_retA C S dpr_61 rfl rfl rfl (by decide) (by decide) (⟨_, _, rfl, Kp, Y, G_coder, G_value, by rw [eK]; exact A_b98⟩)
    · refine g_new C S dpr_22 (hw _ (List.mem_of_getElem? (i := 8) rfl)) (hw _ (List.mem_of_getElem? (i := 9) rfl)) (hw _ (List.mem_of_getElem? (i := 10) rfl)) (by decide) (by decide) (pc' := 25) rfl (fun T99 h99 a99 S g99 E99 X99 D99 => ?_)
      have sz_a99 : h0.size ≤ a99 := ge_of g99 Kp.1
      have ge_a99 : n0 ≤ a99 := ge_of g99 Zn
      have pm_a99 := On.hd S
      have Kp := Kp.ext E99
      have Zn := Nat.le_trans Zn E99.1
      have S_COMPACT_STRINGS := S_COMPACT_STRINGS.ext E99
      have F_value_a99 : Fld Z h99 a99 "java/lang/String" "value" "[B" .null := D99 (Or.inr (hw _ (List.mem_of_getElem? (i := 24) rfl))) (ty := (.array .byte)) (by decide)
      have F_coder_a99 : Fld Z h99 a99 "java/lang/String" "coder" "B" (.int (0 : Int32)) := D99 (Or.inr (hw _ (List.mem_of_getElem? (i := 25) rfl))) (ty := .byte) (by decide)
      refine g_dup C S dpr_25 (pc' := 26) rfl rfl ?_
      refine g_iconst C S (1 : Int32) dpr_26 (pc' := 27) rfl rfl ?_
      refine g_newarray C S (N := 1) (cap := 1) dpr_27 (hw _ (List.mem_of_getElem? (i := 11) rfl)) (by decide) (by decide) (by decide) (by decide) (by decide) (pc' := 29) rfl (fun T100 h100 a100 S g100 E100 A_a100 => ?_)
      have ne_a99_a100 : a99 ≠ a100 := ne_new g100 X99.lt
      have sz_a100 : h0.size ≤ a100 := ge_of g100 Kp.1
      have ge_a100 : n0 ≤ a100 := ge_of g100 Zn
      have pm_a99 := List.mem_cons_of_mem a100 pm_a99
      have pm_a100 := On.hd S
      have Kp := Kp.ext E100
      have Zn := Nat.le_trans Zn E100.1
      have S_COMPACT_STRINGS := S_COMPACT_STRINGS.ext E100
      have X99 := X99.ext E100
      have F_value_a99 := F_value_a99.ext E100
      have F_coder_a99 := F_coder_a99.ext E100
      have A_a100 : Ary Z h100 a100 .char 1 (fun _ => (.int (0 : Int32))) := A_a100
      refine g_dup C S dpr_29 (pc' := 30) rfl rfl ?_
      refine g_iconst C S (0 : Int32) dpr_30 (pc' := 31) rfl rfl ?_
      refine g_iloadN C S dpr_31 (pc' := 32) rfl rfl ?_
      refine g_castore C S (i := 0) dpr_32 A_a100 (by decide) (by decide) ge_a100 (pc' := 33) rfl (fun T101 h101 S W101 B101 => ?_)
      have Zn := Nat.le_trans Zn (Nat.le_of_eq W101.size.symm)
      have S_COMPACT_STRINGS := S_COMPACT_STRINGS.wr W101
      have X99 := X99.wr W101
      have F_value_a99 := F_value_a99.other W101 (Or.inl ne_a99_a100)
      have F_coder_a99 := F_coder_a99.other W101 (Or.inl ne_a99_a100)
      have A_a100 := B101
      have Kp := Kp.wr W101 (Or.inr sz_a100)
      have eK : K = 1 := K_eq hK (by decide) hc19
      have A_a100 : Ary Z h101 a100 .char 1 (fun q => .int (c4 p1 p2 p3 p4 q)) := A_a100.cg (fun q hq => by match q, hq with | 0, _ => simp [c4, nar_char hl1] | q + 1, hq => exact absurd hq (by omega))
      refine g_callI C S (rm := ({ frames := 3, cells := 4, slots := 8, locals := 53 } : Room)) (W := 1) dpr_33 rfl (hw _ (List.mem_of_getElem? (i := 12) rfl)) (hw _ (List.mem_of_getElem? (i := 13) rfl)) (hw _ (List.mem_of_getElem? (i := 10) rfl)) (hw _ (List.mem_of_getElem? (i := 14) rfl)) (by decide) (c_ini l Z a0 hw a99 a100 h101 n0 _ _ 1 (c4 p1 p2 p3 p4) (by decide) (c4_lat hl1 hl2 hl3 hl4 _) ge_a99 ne_a99_a100 Zn cs hcs S_COMPACT_STRINGS X99 F_value_a99 F_coder_a99 A_a100) (argsL := [(.ref a100)]) (r := [(.ref a99)]) rfl (allS pm_a99 all0) (lenOf pd_19 rfl) rfl (Nat.le_of_eq rfl) (by decide) (by decide) (by decide) (by decide) (pc' := 36) rfl (fun T102 h102 v102 P102 q102 S => ?_)
      have pm_a99 := List.mem_append_right P102 pm_a99
      have pm_a100 := List.mem_append_right P102 pm_a100
      obtain ⟨rfl, K102, b102, Y, G_coder, G_value, A_b102⟩ := q102
      have Kp := Kp.trans K102 (allS (Or.inr sz_a99) all0)
      have S_COMPACT_STRINGS := Sta.keep1 S_COMPACT_STRINGS K102 (X99.nostat)
      have Zn := Nat.le_trans Zn K102.1
      have X99 := X99.keep K102
      have A_a100 := A_a100.keep K102 (ninS (Ne.symm ne_a99_a100) nin0)
      show Gl p e below s Z consts_1 _ n0 _ T102 (mkF m 36 #[.val (.int p1), .val (.int p2), .val (.int p3), .val (.int p4), .val (.int (Int32.ofNat K))] [(.ref a99)])
      exact g_retA C S dpr_36 rfl rfl rfl (by decide) (by decide) (⟨_, _, rfl, Kp, Y, G_coder, G_value, by rw [eK]; exact A_b102⟩)
  · refine g_new C S dpr_5 (hw _ (List.mem_of_getElem? (i := 8) rfl)) (hw _ (List.mem_of_getElem? (i := 9) rfl)) (hw _ (List.mem_of_getElem? (i := 10) rfl)) (by decide) (by decide) (pc' := 8) rfl (fun T103 h103 a103 S g103 E103 X103 D103 => ?_)
    have sz_a103 : h0.size ≤ a103 := ge_of g103 Kp.1
    have ge_a103 : n0 ≤ a103 := ge_of g103 Zn
    have pm_a103 := On.hd S
    have Kp := Kp.ext E103
    have Zn := Nat.le_trans Zn E103.1
    have S_COMPACT_STRINGS := S_COMPACT_STRINGS.ext E103
    have F_value_a103 : Fld Z h103 a103 "java/lang/String" "value" "[B" .null := D103 (Or.inr (hw _ (List.mem_of_getElem? (i := 24) rfl))) (ty := (.array .byte)) (by decide)
    have F_coder_a103 : Fld Z h103 a103 "java/lang/String" "coder" "B" (.int (0 : Int32)) := D103 (Or.inr (hw _ (List.mem_of_getElem? (i := 25) rfl))) (ty := .byte) (by decide)
    refine g_dup C S dpr_8 (pc' := 9) rfl rfl ?_
    refine g_iconst C S (0 : Int32) dpr_9 (pc' := 10) rfl rfl ?_
    refine g_newarray C S (N := 0) (cap := 0) dpr_10 (hw _ (List.mem_of_getElem? (i := 11) rfl)) (by decide) (by decide) (by decide) (by decide) (by decide) (pc' := 12) rfl (fun T104 h104 a104 S g104 E104 A_a104 => ?_)
    have ne_a103_a104 : a103 ≠ a104 := ne_new g104 X103.lt
    have sz_a104 : h0.size ≤ a104 := ge_of g104 Kp.1
    have ge_a104 : n0 ≤ a104 := ge_of g104 Zn
    have pm_a103 := List.mem_cons_of_mem a104 pm_a103
    have pm_a104 := On.hd S
    have Kp := Kp.ext E104
    have Zn := Nat.le_trans Zn E104.1
    have S_COMPACT_STRINGS := S_COMPACT_STRINGS.ext E104
    have X103 := X103.ext E104
    have F_value_a103 := F_value_a103.ext E104
    have F_coder_a103 := F_coder_a103.ext E104
    have A_a104 : Ary Z h104 a104 .char 0 (fun _ => (.int (0 : Int32))) := A_a104
    have eK : K = 0 := K_le hK hc2
    have A_a104 : Ary Z h104 a104 .char 0 (fun q => .int (c4 p1 p2 p3 p4 q)) := A_a104.cg (fun q hq => by match q, hq with  | q + 0, hq => exact absurd hq (by omega))
    refine g_callI C S (rm := ({ frames := 3, cells := 4, slots := 8, locals := 53 } : Room)) (W := 1) dpr_12 rfl (hw _ (List.mem_of_getElem? (i := 12) rfl)) (hw _ (List.mem_of_getElem? (i := 13) rfl)) (hw _ (List.mem_of_getElem? (i := 10) rfl)) (hw _ (List.mem_of_getElem? (i := 14) rfl)) (by decide) (c_ini l Z a0 hw a103 a104 h104 n0 _ _ 0 (c4 p1 p2 p3 p4) (by decide) (c4_lat hl1 hl2 hl3 hl4 _) ge_a103 ne_a103_a104 Zn cs hcs S_COMPACT_STRINGS X103 F_value_a103 F_coder_a103 A_a104) (argsL := [(.ref a104)]) (r := [(.ref a103)]) rfl (allS pm_a103 all0) (lenOf pd_19 rfl) rfl (Nat.le_of_eq rfl) (by decide) (by decide) (by decide) (by decide) (pc' := 15) rfl (fun T105 h105 v105 P105 q105 S => ?_)
    have pm_a103 := List.mem_append_right P105 pm_a103
    have pm_a104 := List.mem_append_right P105 pm_a104
    obtain ⟨rfl, K105, b105, Y, G_coder, G_value, A_b105⟩ := q105
    have Kp := Kp.trans K105 (allS (Or.inr sz_a103) all0)
    have S_COMPACT_STRINGS := Sta.keep1 S_COMPACT_STRINGS K105 (X103.nostat)
    have Zn := Nat.le_trans Zn K105.1
    have X103 := X103.keep K105
    have A_a104 := A_a104.keep K105 (ninS (Ne.symm ne_a103_a104) nin0)
    show Gl p e below s Z consts_1 _ n0 _ T105 (mkF m 15 #[.val (.int p1), .val (.int p2), .val (.int p3), .val (.int p4), .val (.int (Int32.ofNat K))] [(.ref a103)])
    exact g_retA C S dpr_15 rfl rfl rfl (by decide) (by decide) (⟨_, _, rfl, Kp, Y, G_coder, G_value, by rw [eK]; exact A_b105⟩)
theorem pd_20 : parseMethodDescriptor "(I)C" = some ⟨[.int], some .char⟩ := by decide +kernel
theorem pd_21 : parseMethodDescriptor "(CCCCI)Ljava/lang/String;" = some ⟨[.char, .char, .char, .char, .int], some (.object "java/lang/String")⟩ := by decide +kernel
theorem pd_22 : parseMethodDescriptor "(Ljava/lang/String;)Ljava/lang/String;" = some ⟨[(.object "java/lang/String")], some (.object "java/lang/String")⟩ := by decide +kernel
theorem pd_23 : parseMethodDescriptor "(Ljava/lang/Object;)Z" = some ⟨[(.object "java/lang/Object")], some .boolean⟩ := by decide +kernel
set_option maxRecDepth 65536 in
set_option maxHeartbeats 40000000 in
theorem c_law (l : Launch) (Z : State) (a0 : Array Value) (hw : ∀ d ∈ tables_1, d.before a0 Z = true) (p1 : Int32) (p2 : Int32) (p3 : Int32) (p4 : Int32) (p5 : Int32) (h0 : Heap) (n0 : Nat) (Zn : n0 ≤ h0.size) (cs : Int32) (hcs : ¬ cs = 0) (S_COMPACT_STRINGS : Sta Z h0 "java/lang/String" "COMPACT_STRINGS" "Z" (.int cs)) (fm : Value) (hfm : fm.isRef = true) (S_SIOOBE_FORMATTER : Sta Z h0 "jdk/internal/util/Preconditions" "SIOOBE_FORMATTER" "Ljava/util/function/BiFunction;" fm) :
    Con l Z consts_1 [] x code maxLocals ret room_1 #[(.int p1), (.int p2), (.int p3), (.int p4), (.int p5)] h0 n0 (fun v h _ => v = some (.int 1)) := by
  refine Con.of (plainFor_of_name (by first | (simp [plainName, overriddenIn, x]; done) | decide +kernel)) (elw hw) (L0 := #[.val (.int p1), .val (.int p2), .val (.int p3), .val (.int p4), .val (.int p5), .unset, .unset, .unset, .unset, .unset, .unset, .unset, .unset, .unset]) (fun m => by first | (simp [entryFrame, mkF, argsToLocals, Value.category, maxLocals]; done) | rfl) ?_
  intro p e s m below meth c T C S
  refine g_iloadN C S at_0 (pc' := 1) rfl rfl ?_
  refine g_callS C S (rm := ({ frames := 0, cells := 0, slots := 0, locals := 0 } : Room)) (W := 0) at_1 (hw _ (List.mem_of_getElem? (i := 0) rfl)) (hw _ (List.mem_of_getElem? (i := 1) rfl)) (hw _ (List.mem_of_getElem? (i := 2) rfl)) (hw _ (List.mem_of_getElem? (i := 3) rfl)) (by decide) (c_drw l Z a0 hw p1 h0 n0) (argsL := [(.int p1)]) (r := []) rfl all0 (lenOf pd_20 rfl) rfl (Nat.le_of_eq rfl) (by decide) (by decide) (by decide) (by decide) (pc' := 4) rfl (fun T106 h106 v106 P106 q106 S => ?_)
  obtain ⟨k106, rfl, hk106, e106⟩ := q106; rw [e106] at S
  show Gl p e below s Z consts_1 _ n0 _ T106 (mkF m 4 #[.val (.int p1), .val (.int p2), .val (.int p3), .val (.int p4), .val (.int p5), .unset, .unset, .unset, .unset, .unset, .unset, .unset, .unset, .unset] [(.int k106)])
  refine g_istore C S at_4 (pc' := 6) rfl (L' := #[.val (.int p1), .val (.int p2), .val (.int p3), .val (.int p4), .val (.int p5), .val (.int k106), .unset, .unset, .unset, .unset, .unset, .unset, .unset, .unset]) rfl ?_
  refine g_iloadN C S at_6 (pc' := 7) rfl rfl ?_
  refine g_callS C S (rm := ({ frames := 0, cells := 0, slots := 0, locals := 0 } : Room)) (W := 0) at_7 (hw _ (List.mem_of_getElem? (i := 0) rfl)) (hw _ (List.mem_of_getElem? (i := 1) rfl)) (hw _ (List.mem_of_getElem? (i := 2) rfl)) (hw _ (List.mem_of_getElem? (i := 3) rfl)) (by decide) (c_drw l Z a0 hw p2 h0 n0) (argsL := [(.int p2)]) (r := []) rfl all0 (lenOf pd_20 rfl) rfl (Nat.le_of_eq rfl) (by decide) (by decide) (by decide) (by decide) (pc' := 10) rfl (fun T107 h107 v107 P107 q107 S => ?_)
  obtain ⟨k107, rfl, hk107, e107⟩ := q107; rw [e107] at S
  show Gl p e below s Z consts_1 _ n0 _ T107 (mkF m 10 #[.val (.int p1), .val (.int p2), .val (.int p3), .val (.int p4), .val (.int p5), .val (.int k106), .unset, .unset, .unset, .unset, .unset, .unset, .unset, .unset] [(.int k107)])
  refine g_istore C S at_10 (pc' := 12) rfl (L' := #[.val (.int p1), .val (.int p2), .val (.int p3), .val (.int p4), .val (.int p5), .val (.int k106), .val (.int k107), .unset, .unset, .unset, .unset, .unset, .unset, .unset]) rfl ?_
  refine g_iloadN C S at_12 (pc' := 13) rfl rfl ?_
  refine g_callS C S (rm := ({ frames := 0, cells := 0, slots := 0, locals := 0 } : Room)) (W := 0) at_13 (hw _ (List.mem_of_getElem? (i := 0) rfl)) (hw _ (List.mem_of_getElem? (i := 1) rfl)) (hw _ (List.mem_of_getElem? (i := 2) rfl)) (hw _ (List.mem_of_getElem? (i := 3) rfl)) (by decide) (c_drw l Z a0 hw p3 h0 n0) (argsL := [(.int p3)]) (r := []) rfl all0 (lenOf pd_20 rfl) rfl (Nat.le_of_eq rfl) (by decide) (by decide) (by decide) (by decide) (pc' := 16) rfl (fun T108 h108 v108 P108 q108 S => ?_)
  obtain ⟨k108, rfl, hk108, e108⟩ := q108; rw [e108] at S
  show Gl p e below s Z consts_1 _ n0 _ T108 (mkF m 16 #[.val (.int p1), .val (.int p2), .val (.int p3), .val (.int p4), .val (.int p5), .val (.int k106), .val (.int k107), .unset, .unset, .unset, .unset, .unset, .unset, .unset] [(.int k108)])
  refine g_istore C S at_16 (pc' := 18) rfl (L' := #[.val (.int p1), .val (.int p2), .val (.int p3), .val (.int p4), .val (.int p5), .val (.int k106), .val (.int k107), .val (.int k108), .unset, .unset, .unset, .unset, .unset, .unset]) rfl ?_
  refine g_iloadN C S at_18 (pc' := 19) rfl rfl ?_
  refine g_callS C S (rm := ({ frames := 0, cells := 0, slots := 0, locals := 0 } : Room)) (W := 0) at_19 (hw _ (List.mem_of_getElem? (i := 0) rfl)) (hw _ (List.mem_of_getElem? (i := 1) rfl)) (hw _ (List.mem_of_getElem? (i := 2) rfl)) (hw _ (List.mem_of_getElem? (i := 3) rfl)) (by decide) (c_drw l Z a0 hw p4 h0 n0) (argsL := [(.int p4)]) (r := []) rfl all0 (lenOf pd_20 rfl) rfl (Nat.le_of_eq rfl) (by decide) (by decide) (by decide) (by decide) (pc' := 22) rfl (fun T109 h109 v109 P109 q109 S => ?_)
  obtain ⟨k109, rfl, hk109, e109⟩ := q109; rw [e109] at S
  show Gl p e below s Z consts_1 _ n0 _ T109 (mkF m 22 #[.val (.int p1), .val (.int p2), .val (.int p3), .val (.int p4), .val (.int p5), .val (.int k106), .val (.int k107), .val (.int k108), .unset, .unset, .unset, .unset, .unset, .unset] [(.int k109)])
  refine g_istore C S at_22 (pc' := 24) rfl (L' := #[.val (.int p1), .val (.int p2), .val (.int p3), .val (.int p4), .val (.int p5), .val (.int k106), .val (.int k107), .val (.int k108), .val (.int k109), .unset, .unset, .unset, .unset, .unset]) rfl ?_
  refine g_iload C S at_24 (pc' := 26) rfl rfl ?_
  refine g_ldc C S at_26 (hw _ (List.mem_of_getElem? (i := 4) rfl)) (pc' := 28) rfl ?_
  refine g_iand C S at_28 (pc' := 29) rfl ?_
  refine g_iconst C S (5 : Int32) at_29 (pc' := 30) rfl rfl ?_
  refine g_irem C S at_30 (pc' := 31) rfl (by decide) ?_
  obtain ⟨n5, e5, hn5⟩ := mod5 p5; rw [e5]
  refine g_istore C S at_31 (pc' := 33) rfl (L' := #[.val (.int p1), .val (.int p2), .val (.int p3), .val (.int p4), .val (.int p5), .val (.int k106), .val (.int k107), .val (.int k108), .val (.int k109), .val (.int (Int32.ofNat n5)), .unset, .unset, .unset, .unset]) rfl ?_
  refine g_iload C S at_33 (pc' := 35) rfl rfl ?_
  refine g_iload C S at_35 (pc' := 37) rfl rfl ?_
  refine g_iload C S at_37 (pc' := 39) rfl rfl ?_
  refine g_iload C S at_39 (pc' := 41) rfl rfl ?_
  refine g_iload C S at_41 (pc' := 43) rfl rfl ?_
  refine g_callS C S (rm := ({ frames := 4, cells := 6, slots := 16, locals := 67 } : Room)) (W := 0) at_43 (hw _ (List.mem_of_getElem? (i := 5) rfl)) (hw _ (List.mem_of_getElem? (i := 6) rfl)) (hw _ (List.mem_of_getElem? (i := 2) rfl)) (hw _ (List.mem_of_getElem? (i := 7) rfl)) (by decide) (c_pre l Z a0 hw k106 k107 k108 k109 h0 n0 n5 hn5 hk106 hk107 hk108 hk109 Zn cs hcs S_COMPACT_STRINGS) (argsL := [(.int k106), (.int k107), (.int k108), (.int k109), (.int (Int32.ofNat n5))]) (r := []) rfl all0 (lenOf pd_21 rfl) rfl (Nat.le_of_eq rfl) (by decide) (by decide) (by decide) (by decide) (pc' := 46) rfl (fun T110 h110 v110 P110 q110 S => ?_)
  obtain ⟨a110, b110, rfl, K110, X_a110, F_coder_a110, F_value_a110, A_b110⟩ := q110
  have S_COMPACT_STRINGS := Sta.keep0 S_COMPACT_STRINGS K110
  have S_SIOOBE_FORMATTER := Sta.keep0 S_SIOOBE_FORMATTER K110
  have Zn := Nat.le_trans Zn K110.1
  show Gl p e below s Z consts_1 _ n0 _ T110 (mkF m 46 #[.val (.int p1), .val (.int p2), .val (.int p3), .val (.int p4), .val (.int p5), .val (.int k106), .val (.int k107), .val (.int k108), .val (.int k109), .val (.int (Int32.ofNat n5)), .unset, .unset, .unset, .unset] [(.ref a110)])
  refine g_astore C S at_46 (pc' := 48) rfl rfl (L' := #[.val (.int p1), .val (.int p2), .val (.int p3), .val (.int p4), .val (.int p5), .val (.int k106), .val (.int k107), .val (.int k108), .val (.int k109), .val (.int (Int32.ofNat n5)), .val (.ref a110), .unset, .unset, .unset]) rfl ?_
  refine g_iload C S at_48 (pc' := 50) rfl rfl ?_
  refine g_istore C S at_50 (pc' := 52) rfl (L' := #[.val (.int p1), .val (.int p2), .val (.int p3), .val (.int p4), .val (.int p5), .val (.int k106), .val (.int k107), .val (.int k108), .val (.int k109), .val (.int (Int32.ofNat n5)), .val (.ref a110), .val (.int (Int32.ofNat n5)), .unset, .unset]) rfl ?_
  have J115 : ∀ (I : Nat), FI 0 n5 (c4 k106 k107 k108 k109) I → Gl p e below s Z consts_1 room_1 n0 (fun v h _ => v = some (.int 1)) T110 (mkF m 115 #[.val (.int p1), .val (.int p2), .val (.int p3), .val (.int p4), .val (.int p5), .val (.int k106), .val (.int k107), .val (.int k108), .val (.int k109), .val (.int (Int32.ofNat n5)), .val (.ref a110), .val (.int (Int32.ofNat I)), .unset, .unset] []) := by
    intro I hF
    refine g_iload C S at_115 (pc' := 117) rfl rfl ?_
    refine g_iload C S at_117 (pc' := 119) rfl rfl ?_
    refine g_iload C S at_119 (pc' := 121) rfl rfl ?_
    refine g_iload C S at_121 (pc' := 123) rfl rfl ?_
    refine g_iload C S at_123 (pc' := 125) rfl rfl ?_
    refine g_callS C S (rm := ({ frames := 4, cells := 6, slots := 16, locals := 67 } : Room)) (W := 0) at_125 (hw _ (List.mem_of_getElem? (i := 5) rfl)) (hw _ (List.mem_of_getElem? (i := 6) rfl)) (hw _ (List.mem_of_getElem? (i := 2) rfl)) (hw _ (List.mem_of_getElem? (i := 7) rfl)) (by decide) (c_pre l Z a0 hw k106 k107 k108 k109 h110 n0 I (Nat.le_trans hF.1 hn5) hk106 hk107 hk108 hk109 Zn cs hcs S_COMPACT_STRINGS) (argsL := [(.int k106), (.int k107), (.int k108), (.int k109), (.int (Int32.ofNat I))]) (r := []) rfl all0 (lenOf pd_21 rfl) rfl (Nat.le_of_eq rfl) (by decide) (by decide) (by decide) (by decide) (pc' := 128) rfl (fun T111 h111 v111 P111 q111 S => ?_)
    obtain ⟨a111, b111, rfl, K111, X_a111, F_coder_a111, F_value_a111, A_b111⟩ := q111
    have S_COMPACT_STRINGS := Sta.keep0 S_COMPACT_STRINGS K111
    have S_SIOOBE_FORMATTER := Sta.keep0 S_SIOOBE_FORMATTER K111
    have Zn := Nat.le_trans Zn K111.1
    have X_a110 := X_a110.keep K111
    have F_coder_a110 := F_coder_a110.keep K111 nin0
    have F_value_a110 := F_value_a110.keep K111 nin0
    have A_b110 := A_b110.keep K111 nin0
    show Gl p e below s Z consts_1 _ n0 _ T111 (mkF m 128 #[.val (.int p1), .val (.int p2), .val (.int p3), .val (.int p4), .val (.int p5), .val (.int k106), .val (.int k107), .val (.int k108), .val (.int k109), .val (.int (Int32.ofNat n5)), .val (.ref a110), .val (.int (Int32.ofNat I)), .unset, .unset] [(.ref a111)])
    refine g_astore C S at_128 (pc' := 130) rfl rfl (L' := #[.val (.int p1), .val (.int p2), .val (.int p3), .val (.int p4), .val (.int p5), .val (.int k106), .val (.int k107), .val (.int k108), .val (.int k109), .val (.int (Int32.ofNat n5)), .val (.ref a110), .val (.int (Int32.ofNat I)), .val (.ref a111), .unset]) rfl ?_
    refine g_aload C S at_130 (pc' := 132) rfl rfl rfl ?_
    refine g_callS C S (rm := ({ frames := 5, cells := 2, slots := 12, locals := 84 } : Room)) (W := 0) at_132 (hw _ (List.mem_of_getElem? (i := 30) rfl)) (hw _ (List.mem_of_getElem? (i := 31) rfl)) (hw _ (List.mem_of_getElem? (i := 32) rfl)) (hw _ (List.mem_of_getElem? (i := 33) rfl)) (by decide) (c_tok l Z a0 hw a110 h111 n0 b110 n5 (fun q => bt ((c4 k106 k107 k108 k109) q)) (by omega) (Byt.of _ _) Zn cs hcs S_COMPACT_STRINGS fm hfm S_SIOOBE_FORMATTER X_a110 F_coder_a110 F_value_a110 A_b110) (argsL := [(.ref a110)]) (r := []) rfl all0 (lenOf pd_22 rfl) rfl (Nat.le_of_eq rfl) (by decide) (by decide) (by decide) (by decide) (pc' := 135) rfl (fun T112 h112 v112 P112 q112 S => ?_)
    obtain ⟨a112, b112, rfl, K112, E112, ⟨X_a112, F_coder_a112, F_value_a112, A_b112⟩, hT⟩ := q112
    have S_COMPACT_STRINGS := Sta.keep0 S_COMPACT_STRINGS K112
    have S_SIOOBE_FORMATTER := Sta.keep0 S_SIOOBE_FORMATTER K112
    have Zn := Nat.le_trans Zn K112.1
    have X_a110 := X_a110.keep K112
    have F_coder_a110 := F_coder_a110.keep K112 nin0
    have F_value_a110 := F_value_a110.keep K112 nin0
    have A_b110 := A_b110.keep K112 nin0
    have X_a111 := X_a111.keep K112
    have F_coder_a111 := F_coder_a111.keep K112 nin0
    have F_value_a111 := F_value_a111.keep K112 nin0
    have A_b111 := A_b111.keep K112 nin0
    show Gl p e below s Z consts_1 _ n0 _ T112 (mkF m 135 #[.val (.int p1), .val (.int p2), .val (.int p3), .val (.int p4), .val (.int p5), .val (.int k106), .val (.int k107), .val (.int k108), .val (.int k109), .val (.int (Int32.ofNat n5)), .val (.ref a110), .val (.int (Int32.ofNat I)), .val (.ref a111), .unset] [(.ref a112)])
    refine g_astore C S at_135 (pc' := 137) rfl rfl (L' := #[.val (.int p1), .val (.int p2), .val (.int p3), .val (.int p4), .val (.int p5), .val (.int k106), .val (.int k107), .val (.int k108), .val (.int k109), .val (.int (Int32.ofNat n5)), .val (.ref a110), .val (.int (Int32.ofNat I)), .val (.ref a111), .val (.ref a112)]) rfl ?_
    refine g_aload C S at_137 (pc' := 139) rfl rfl rfl ?_
    refine g_ifnull_ref C S at_139 (pf := 142) rfl ?_
    refine g_aload C S at_142 (pc' := 144) rfl rfl rfl ?_
    refine g_aload C S at_144 (pc' := 146) rfl rfl rfl ?_
    refine g_callV C S (rm := ({ frames := 1, cells := 0, slots := 0, locals := 14 } : Room)) (W := 0) at_146 (hw _ (List.mem_of_getElem? (i := 74) rfl)) (hw _ (List.mem_of_getElem? (i := 75) rfl)) (fun _ hZ => notFace_of_selects (args := #[]) (mvT hZ (hw _ (List.mem_of_getElem? (i := 77) rfl)))) (hw _ (List.mem_of_getElem? (i := 77) rfl)) (hw _ (List.mem_of_getElem? (i := 76) rfl)) (hw _ (List.mem_of_getElem? (i := 10) rfl)) (hw _ (List.mem_of_getElem? (i := 78) rfl)) (by decide) rfl X_a112 (c_eqS l Z a0 hw a112 a111 h112 n0 b112 b111 E112 I (fun q => bt ((c4 k106 k107 k108 k109) q)) (fun q => bt ((c4 k106 k107 k108 k109) q)) (by have := hT.le; omega) (by have := hF.1; omega) cs hcs S_COMPACT_STRINGS X_a112 F_coder_a112 F_value_a112 A_b112 X_a111 F_coder_a111 F_value_a111 A_b111) (argsL := [(.ref a111)]) (r := []) rfl all0 (lenOf pd_23 rfl) rfl (Nat.le_of_eq rfl) (by decide) (by decide) (by decide) (by decide) (pc' := 149) rfl (fun T113 h113 v113 P113 q113 S => ?_)
    obtain ⟨e113, q113⟩ := q113; rw [e113] at S
    obtain ⟨z113, rfl, hz113⟩ := EqAt.val q113
    show Gl p e below s Z consts_1 _ n0 _ T113 (mkF m 149 #[.val (.int p1), .val (.int p2), .val (.int p3), .val (.int p4), .val (.int p5), .val (.int k106), .val (.int k107), .val (.int k108), .val (.int k109), .val (.int (Int32.ofNat n5)), .val (.ref a110), .val (.int (Int32.ofNat I)), .val (.ref a111), .val (.ref a112)] [(.int z113)])
    refine g_if_eq C S at_149 (pc' := 156) (pf := 152) (by decide) (by decide) rfl (fun hc149 => absurd hc149 (EqAt.must hz113 (hT.uniq (hF.tok (c4_lat hk106 hk107 hk108 hk109 _))))) (fun hc149 => ?_)
    refine g_iconst C S (1 : Int32) at_152 (pc' := 153) rfl rfl ?_
    refine g_goto C S at_153 (pc' := 157) (by decide) (by decide) ?_
    exact g_retZ C S at_157 (by decide) (by decide) (by decide) (rfl)
  have J100 : ∀ (I : Nat), FI 1 n5 (c4 k106 k107 k108 k109) I → Gl p e below s Z consts_1 room_1 n0 (fun v h _ => v = some (.int 1)) T110 (mkF m 100 #[.val (.int p1), .val (.int p2), .val (.int p3), .val (.int p4), .val (.int p5), .val (.int k106), .val (.int k107), .val (.int k108), .val (.int k109), .val (.int (Int32.ofNat n5)), .val (.ref a110), .val (.int (Int32.ofNat I)), .unset, .unset] []) := by
    intro I hF
    refine g_iload C S at_100 (pc' := 102) rfl rfl ?_
    refine g_if_le C S at_102 (pc' := 115) (pf := 105) (by decide) (by decide) rfl (fun hc102 => ?_) (fun hc102 => ?_)
    · exact J115 I (FI.low hF (Nat.not_lt.mp (fun z => hc102 ((o32_lt (j := 0) (by decide) (by omega)).mpr z))))
    · refine g_iload C S at_105 (pc' := 107) rfl rfl ?_
      refine g_bipush C S (32 : Int32) at_107 (pc' := 109) rfl rfl ?_
      refine g_icmp_ne C S at_109 (pc' := 115) (pf := 112) (by decide) (by decide) rfl (fun hc109 => ?_) (fun hc109 => ?_)
      · exact J115 I (FI.miss hF hc109)
      · refine g_iconst C S (0 : Int32) at_112 (pc' := 113) rfl rfl ?_
        refine g_istore C S at_113 (pc' := 115) rfl (L' := #[.val (.int p1), .val (.int p2), .val (.int p3), .val (.int p4), .val (.int p5), .val (.int k106), .val (.int k107), .val (.int k108), .val (.int k109), .val (.int (Int32.ofNat n5)), .val (.ref a110), .val (.int (0 : Int32)), .unset, .unset]) rfl ?_
        exact J115 0 (FI.hit ((o32_lt (j := 0) (by decide) (by omega)).mp (by simpa using hc102)) hc109)
  have J84 : ∀ (I : Nat), FI 2 n5 (c4 k106 k107 k108 k109) I → Gl p e below s Z consts_1 room_1 n0 (fun v h _ => v = some (.int 1)) T110 (mkF m 84 #[.val (.int p1), .val (.int p2), .val (.int p3), .val (.int p4), .val (.int p5), .val (.int k106), .val (.int k107), .val (.int k108), .val (.int k109), .val (.int (Int32.ofNat n5)), .val (.ref a110), .val (.int (Int32.ofNat I)), .unset, .unset] []) := by
    intro I hF
    refine g_iload C S at_84 (pc' := 86) rfl rfl ?_
    refine g_iconst C S (1 : Int32) at_86 (pc' := 87) rfl rfl ?_
    refine g_icmp_le C S at_87 (pc' := 100) (pf := 90) (by decide) (by decide) rfl (fun hc87 => ?_) (fun hc87 => ?_)
    · exact J100 I (FI.low hF (Nat.not_lt.mp (fun z => hc87 ((o32_lt (j := 1) (by decide) (by omega)).mpr z))))
    · refine g_iload C S at_90 (pc' := 92) rfl rfl ?_
      refine g_bipush C S (32 : Int32) at_92 (pc' := 94) rfl rfl ?_
      refine g_icmp_ne C S at_94 (pc' := 100) (pf := 97) (by decide) (by decide) rfl (fun hc94 => ?_) (fun hc94 => ?_)
      · exact J100 I (FI.miss hF hc94)
      · refine g_iconst C S (1 : Int32) at_97 (pc' := 98) rfl rfl ?_
        refine g_istore C S at_98 (pc' := 100) rfl (L' := #[.val (.int p1), .val (.int p2), .val (.int p3), .val (.int p4), .val (.int p5), .val (.int k106), .val (.int k107), .val (.int k108), .val (.int k109), .val (.int (Int32.ofNat n5)), .val (.ref a110), .val (.int (1 : Int32)), .unset, .unset]) rfl ?_
        exact J100 1 (FI.hit ((o32_lt (j := 1) (by decide) (by omega)).mp (by simpa using hc87)) hc94)
  have J68 : ∀ (I : Nat), FI 3 n5 (c4 k106 k107 k108 k109) I → Gl p e below s Z consts_1 room_1 n0 (fun v h _ => v = some (.int 1)) T110 (mkF m 68 #[.val (.int p1), .val (.int p2), .val (.int p3), .val (.int p4), .val (.int p5), .val (.int k106), .val (.int k107), .val (.int k108), .val (.int k109), .val (.int (Int32.ofNat n5)), .val (.ref a110), .val (.int (Int32.ofNat I)), .unset, .unset] []) := by
    intro I hF
    refine g_iload C S at_68 (pc' := 70) rfl rfl ?_
    refine g_iconst C S (2 : Int32) at_70 (pc' := 71) rfl rfl ?_
    refine g_icmp_le C S at_71 (pc' := 84) (pf := 74) (by decide) (by decide) rfl (fun hc71 => ?_) (fun hc71 => ?_)
    · exact J84 I (FI.low hF (Nat.not_lt.mp (fun z => hc71 ((o32_lt (j := 2) (by decide) (by omega)).mpr z))))
    · refine g_iload C S at_74 (pc' := 76) rfl rfl ?_
      refine g_bipush C S (32 : Int32) at_76 (pc' := 78) rfl rfl ?_
      refine g_icmp_ne C S at_78 (pc' := 84) (pf := 81) (by decide) (by decide) rfl (fun hc78 => ?_) (fun hc78 => ?_)
      · exact J84 I (FI.miss hF hc78)
      · refine g_iconst C S (2 : Int32) at_81 (pc' := 82) rfl rfl ?_
        refine g_istore C S at_82 (pc' := 84) rfl (L' := #[.val (.int p1), .val (.int p2), .val (.int p3), .val (.int p4), .val (.int p5), .val (.int k106), .val (.int k107), .val (.int k108), .val (.int k109), .val (.int (Int32.ofNat n5)), .val (.ref a110), .val (.int (2 : Int32)), .unset, .unset]) rfl ?_
        exact J84 2 (FI.hit ((o32_lt (j := 2) (by decide) (by omega)).mp (by simpa using hc71)) hc78)
  have hF := FI.start (c := (c4 k106 k107 k108 k109)) hn5
  refine g_iload C S at_52 (pc' := 54) rfl rfl ?_
  refine g_iconst C S (3 : Int32) at_54 (pc' := 55) rfl rfl ?_
  refine g_icmp_le C S at_55 (pc' := 68) (pf := 58) (by decide) (by decide) rfl (fun hc55 => ?_) (fun hc55 => ?_)
  · exact J68 n5 (FI.low hF (Nat.not_lt.mp (fun z => hc55 ((o32_lt (j := 3) (by decide) (by omega)).mpr z))))
  · refine g_iload C S at_58 (pc' := 60) rfl rfl ?_
    refine g_bipush C S (32 : Int32) at_60 (pc' := 62) rfl rfl ?_
    refine g_icmp_ne C S at_62 (pc' := 68) (pf := 65) (by decide) (by decide) rfl (fun hc62 => ?_) (fun hc62 => ?_)
    · exact J68 n5 (FI.miss hF hc62)
    · refine g_iconst C S (3 : Int32) at_65 (pc' := 66) rfl rfl ?_
      refine g_istore C S at_66 (pc' := 68) rfl (L' := #[.val (.int p1), .val (.int p2), .val (.int p3), .val (.int p4), .val (.int p5), .val (.int k106), .val (.int k107), .val (.int k108), .val (.int k109), .val (.int (Int32.ofNat n5)), .val (.ref a110), .val (.int (3 : Int32)), .unset, .unset]) rfl ?_
      exact J68 3 (FI.hit ((o32_lt (j := 3) (by decide) (by omega)).mp (by simpa using hc55)) hc62)
set_option maxRecDepth 65536 in
set_option maxHeartbeats 40000000 in
theorem comes_1 {Post : Tables → Env → Array Value → State → Outcome → State → Prop} (hpost : ∀ tb e args s v u, (limb_1_1.after args s (.returned v) u = true ∧ limb_1_2.after args s (.returned v) u = true ∧ True) → FramedW s (.returned v) u (Jvm.fieldLocs frame_1_writes args s ++ Jvm.arrayLocs frame_1_arrays args s ++ Jvm.staticLocs frame_1_statics s) 32 2240 → Post tb e args s (.returned v) u) :
    ArmFor flags0 classFile x code maxLocals ret World_1 tables_1 room_1 Calls_1 rest_1 Pre_1 Post := by
  intro l hfl _ _ p e ha hc hk s m args below hf hA hF happ hP
  obtain ⟨hcalls, hrest, hpre⟩ := hP
  obtain ⟨-, -, -, hnamed, -, -, -, hat⟩ := (Spec.applies_iff hf).mp happ
  obtain ⟨hg, hn⟩ := and_e (Cond.before_iff.mp (show (Jvm.Cond.and given_1 narrow_1).before args s = true from hpre))
  obtain ⟨hcount, hg0⟩ := and_e hg
  obtain ⟨ha0, hg1⟩ := and_e hg0
  obtain ⟨ha1, hg2⟩ := and_e hg1
  obtain ⟨ha2, hg3⟩ := and_e hg2
  obtain ⟨ha3, hg4⟩ := and_e hg3
  have ha4 := hg4
  obtain ⟨w0, w1, w2, w3, w4, rfl⟩ : ∃ w0 w1 w2 w3 w4 : Value, args = #[w0, w1, w2, w3, w4] := by
    have hs : args.size = 5 := by simpa [Cond.value, given_1] using hcount
    obtain ⟨L⟩ := args
    match L, hs with
    | [w0, w1, w2, w3, w4], _ => exact ⟨w0, w1, w2, w3, w4, rfl⟩
  have hw := fun d (hd : d ∈ tables_1) => atoms_spec (ws := Jvm.Cond.code x code maxLocals ret :: tables_1) hat d (List.mem_cons_of_mem _ hd)
  have hsets := (atoms_of _ (rest_1_c_eq ▸ (show rest_1_c.before _ s = true from hrest))).1
  have hcst : ∀ q ∈ consts_1, Jvm.Lit.constHeld s q.1 q.2 := fun q hq => hcalls.1 q hq
  have hCH : CHv s consts_1 s.vm s.heap := CHv.start (elw hw).1 hcst (hsets _ (List.mem_of_getElem? (i := 2) rfl)) (hw _ (List.mem_of_getElem? (i := 23) rfl)) (hw _ (List.mem_of_getElem? (i := 9) rfl))
  obtain ⟨i0, ei0⟩ := is_v ha0
  obtain rfl : w0 = (.int i0) := Option.some.inj ei0
  obtain ⟨i1, ei1⟩ := is_v ha1
  obtain rfl : w1 = (.int i1) := Option.some.inj ei1
  obtain ⟨i2, ei2⟩ := is_v ha2
  obtain rfl : w2 = (.int i2) := Option.some.inj ei2
  obtain ⟨i3, ei3⟩ := is_v ha3
  obtain rfl : w3 = (.int i3) := Option.some.inj ei3
  obtain ⟨i4, ei4⟩ := is_v ha4
  obtain rfl : w4 = (.int i4) := Option.some.inj ei4
  obtain ⟨cs, ecs⟩ := is_v (Cond.before_iff.mp (hsets _ (List.mem_of_getElem? (i := 1) rfl)))
  have S_CS := Sta.start ecs (Or.inl (hsets _ (List.mem_of_getElem? (i := 0) rfl)))
  have hcs : ¬ cs = 0 := fun z => by
    have q := (hsets _ (List.mem_of_getElem? (i := 2) rfl))
    rw [z] at ecs
    simp [Cond.before, Cond.holds, Cond.value, ecs, Term.int_eval] at q
  obtain ⟨fm, efm, hfm⟩ := isR_v (Cond.before_iff.mp (hsets _ (List.mem_of_getElem? (i := 8) rfl)))
  have S_FM := Sta.start efm (Or.inl (hsets _ (List.mem_of_getElem? (i := 7) rfl)))
  obtain ⟨n, o, h1, h2, h3, _, L, rfl, ⟨_, rfl, N, -⟩, -, hq⟩ := c_law l s _ hw i0 i1 i2 i3 i4 s.heap s.heap.size (Nat.le_refl _) cs hcs S_CS fm hfm S_FM tables_1 p e ha hc hk s m _ below hf ((Spec.applies_iff_loose hf).mp happ).1 ⟨rfl, State.Warmed39.refl s, rfl, hCH, all0⟩ trivial
  refine ⟨n, _, h1, h2, h3, hpost _ _ _ _ _ _ ⟨Cond.after_iff.mpr rfl, Cond.after_iff.mpr (eq_i res_at (Term.int_eval (1)) rfl), trivial⟩ ⟨hq.1, hq.2.1, hq.2.2.1, (hq.2.2.2.sift fun y hy => Or.inr (N y hy)).mono (by decide) (by decide)⟩⟩
theorem main_1_1 : Claimed_1_1 := comes_1 fun _ _ _ _ _ _ h hF => ⟨h.1, hF⟩
theorem main_1_2 : Claimed_1_2 := comes_1 fun _ _ _ _ _ _ h hF => ⟨h.2.1, hF⟩
end Jvm.Pilot.@@N@@
namespace Jvm.Pilot.@@N@@
open Jvm Jvm.ClassFile Sem Op Lib Jvm.Free Jvm.Stand Jvm.Pilot.@@N@@.Jvm.D
/-! MADE BY PROGRAM (witnessworld.py) out of the Statement's table words and the real class files: 23 classes; the members and pool entries that the words name. The judged class is class 1, her method 3. -/
namespace start1
open Jvm.ClassFile
def u (s : String) : CpInfo := .utf8 (stringToUtf16 s)
/-- a pool by its gaps: so many unusable entries, then the entry; so many at the end -/
def gap : Nat → List CpInfo → List CpInfo
  | 0, r => r
  | n + 1, r => .unusable :: gap n r
def poolList (es : List (Nat × CpInfo)) (last : Nat) : List CpInfo := es.foldr (fun e r => gap e.1 (e.2 :: r)) (gap last [])
def pool (es : List (Nat × CpInfo)) (last : Nat) : Array CpInfo := ⟨poolList es last⟩
def fileOf (pool : Array CpInfo) (this : Nat) (attrs : Array Attribute := #[]) (ms : Array MethodInfo := #[]) (fl : Nat := 33) (sup : Nat := 0) (ifs : Array Nat := #[]) (fds : Array FieldInfo := #[]) : ClassFile where
  minorVersion := 0
  majorVersion := 65
  constantPool := pool
  accessFlags := fl
  thisClass := this
  superClass := sup
  interfaces := ifs
  fields := fds
  methods := ms
  attributes := attrs
def plain (name : String) (sup : Option ClassId) : Class where
  name := name
  kind := .ordinary
  loader := none
  accessFlags := 33
  super := sup
  interfaces := #[]
  cf := none
  fields := #[]
  methods := #[]
  instanceTypes := #[]
  staticTypes := #[]
  resolved := #[]
  callSites := []
  init := .initialized
  statics := none
  mirror := none

def pool0 : Array CpInfo := pool [(5, u "<init>"), (0, u "()V"), (1, .class_ 10), (1, u "java/lang/Object")] 113

def k0c0 : Code := { maxStack := 0, maxLocals := 1, code := object_method_1_code, exceptionTable := #[], attributes := #[] }
def k0m0 : Method := { name := "<init>", desc := "()V", sig := { parameters := [], returnType := none }, accessFlags := 1, code := some k0c0 }
/-- java/lang/Object -/
def k0 : Class := { plain "java/lang/Object" none with
  accessFlags := 33
  interfaces := #[]
  cf := some (fileOf pool0 8 #[] #[{ accessFlags := 1, nameIndex := 5, descriptorIndex := 6, attributes := #[] }] 33 0 #[] #[])
  fields := #[]
  methods := #[k0m0]
  instanceTypes := #[]
  staticTypes := #[]
  resolved := Array.replicate 124 none
  statics := none }

def pool1 : Array CpInfo := pool [(2, .class_ 4), (1, u "java/lang/Object"), (0, u "<init>"), (0, u "()V"), (0, .class_ 8), (0, u "java/lang/String"), (0, .methodref 7 10), (0, .nameAndType 5 11), (0, u "([C)V"), (0, .methodref 13 14), (0, .class_ 15), (0, .nameAndType 16 17), (0, u "com/example/inverness/inverness/HandOverTokenPinLaw"), (0, u "draw"), (0, u "(I)C"), (0, .integer 2147483647), (0, .methodref 13 20), (0, .nameAndType 21 22), (0, u "pre"), (0, u "(CCCCI)Ljava/lang/String;"), (0, .methodref 24 25), (0, .class_ 26), (0, .nameAndType 27 28), (0, u "com/example/inverness/inverness/HandOver"), (0, u "token"), (0, u "(Ljava/lang/String;)Ljava/lang/String;"), (0, .methodref 7 30), (0, .nameAndType 31 32), (0, u "equals"), (0, u "(Ljava/lang/Object;)Z"), (3, u "law"), (0, u "(IIIII)Z")] 2

def k1m0 : Method := { name := "<init>", desc := "()V", sig := { parameters := [], returnType := none }, accessFlags := 1, code := none }
def k1c1 : Code := { maxStack := 2, maxLocals := 1, code := method_2_code, exceptionTable := #[], attributes := #[] }
def k1m1 : Method := { name := "draw", desc := "(I)C", sig := { parameters := [.int], returnType := some .char }, accessFlags := 10, code := some k1c1 }
def k1c2 : Code := { maxStack := 6, maxLocals := 5, code := method_3_code, exceptionTable := #[], attributes := #[] }
def k1m2 : Method := { name := "pre", desc := "(CCCCI)Ljava/lang/String;", sig := { parameters := [.char, .char, .char, .char, .int], returnType := some (.object "java/lang/String") }, accessFlags := 10, code := some k1c2 }
def k1c3 : Code := { maxStack := 5, maxLocals := 14, code := code, exceptionTable := #[], attributes := #[] }
def k1m3 : Method := { name := "law", desc := "(IIIII)Z", sig := { parameters := [.int, .int, .int, .int, .int], returnType := some .boolean }, accessFlags := 9, code := some k1c3 }
/-- com/example/inverness/inverness/HandOverTokenPinLaw -/
def k1 : Class := { plain "com/example/inverness/inverness/HandOverTokenPinLaw" (some 0) with
  accessFlags := 49
  interfaces := #[]
  cf := some (fileOf pool1 13 #[] #[{ accessFlags := 1, nameIndex := 5, descriptorIndex := 6, attributes := #[] }, { accessFlags := 10, nameIndex := 16, descriptorIndex := 17, attributes := #[] }, { accessFlags := 10, nameIndex := 21, descriptorIndex := 22, attributes := #[] }, { accessFlags := 9, nameIndex := 36, descriptorIndex := 37, attributes := #[] }] 49 2 #[] #[])
  fields := #[]
  methods := #[k1m0, k1m1, k1m2, k1m3]
  instanceTypes := #[]
  staticTypes := #[]
  resolved := Array.replicate 40 none
  statics := none }

def pool2 : Array CpInfo := pool [(1, .class_ 2), (0, u "java/io/Serializable"), (0, .class_ 4), (0, u "java/lang/Object")] 2

/-- java/io/Serializable -/
def k2 : Class := { plain "java/io/Serializable" (some 0) with
  accessFlags := 1537
  interfaces := #[]
  cf := some (fileOf pool2 1 #[] #[] 1537 3 #[] #[])
  fields := #[]
  methods := #[]
  instanceTypes := #[]
  staticTypes := #[]
  resolved := Array.replicate 7 none
  statics := none }

def pool3 : Array CpInfo := pool [(1, .class_ 2), (0, u "java/lang/Comparable"), (0, .class_ 4), (0, u "java/lang/Object")] 7

/-- java/lang/Comparable -/
def k3 : Class := { plain "java/lang/Comparable" (some 0) with
  accessFlags := 1537
  interfaces := #[]
  cf := some (fileOf pool3 1 #[] #[] 1537 3 #[] #[])
  fields := #[]
  methods := #[]
  instanceTypes := #[]
  staticTypes := #[]
  resolved := Array.replicate 12 none
  statics := none }

def pool4 : Array CpInfo := pool [(2, .class_ 4), (1, u "java/lang/CharSequence"), (42, .class_ 48), (0, u "java/lang/CharSequence$1CodePointIterator"), (10, .class_ 60), (0, u "java/lang/CharSequence$1CharIterator"), (5, .class_ 67), (0, u "java/lang/Object")] 63

/-- java/lang/CharSequence -/
def k4 : Class := { plain "java/lang/CharSequence" (some 0) with
  accessFlags := 1537
  interfaces := #[]
  cf := some (fileOf pool4 2 #[.nestMembers #[47, 59]] #[] 1537 66 #[] #[])
  fields := #[]
  methods := #[]
  instanceTypes := #[]
  staticTypes := #[]
  resolved := Array.replicate 131 none
  statics := none }

def pool5 : Array CpInfo := pool [(1, .class_ 2), (0, u "java/lang/constant/Constable"), (0, .class_ 4), (0, u "java/lang/Object")] 6

/-- java/lang/constant/Constable -/
def k5 : Class := { plain "java/lang/constant/Constable" (some 0) with
  accessFlags := 1537
  interfaces := #[]
  cf := some (fileOf pool5 1 #[] #[] 1537 3 #[] #[])
  fields := #[]
  methods := #[]
  instanceTypes := #[]
  staticTypes := #[]
  resolved := Array.replicate 11 none
  statics := none }

def pool6 : Array CpInfo := pool [(1, .class_ 2), (0, u "java/lang/constant/ConstantDesc"), (0, .class_ 4), (0, u "java/lang/Object")] 32

/-- java/lang/constant/ConstantDesc -/
def k6 : Class := { plain "java/lang/constant/ConstantDesc" (some 0) with
  accessFlags := 1537
  interfaces := #[]
  cf := some (fileOf pool6 1 #[] #[] 1537 3 #[] #[])
  fields := #[]
  methods := #[]
  instanceTypes := #[]
  staticTypes := #[]
  resolved := Array.replicate 37 none
  statics := none }

def pool7 : Array CpInfo := pool [(1, .methodref 2 3), (0, .class_ 4), (0, .nameAndType 5 6), (0, u "java/lang/Object"), (0, u "<init>"), (0, u "()V"), (0, .string 8), (0, u ""), (0, .fieldref 10 11), (0, .class_ 12), (0, .nameAndType 13 14), (0, u "java/lang/String"), (0, u "value"), (0, u "[B"), (0, .fieldref 10 16), (0, .nameAndType 17 18), (0, u "coder"), (0, u "B"), (2, u "hash"), (0, u "I"), (2, u "hashIsZero"), (0, u "Z"), (0, .methodref 10 28), (0, .nameAndType 5 29), (0, u "([CIILjava/lang/Void;)V"), (8, .fieldref 10 39), (0, .nameAndType 40 26), (0, u "COMPACT_STRINGS"), (1, .class_ 44), (1, u "java/lang/StringUTF16"), (0, u "compress"), (1, .methodref 42 48), (0, .nameAndType 49 50), (0, u "coderFromArrayLen"), (0, u "([BI)B"), (56, .class_ 109), (1, u "java/lang/StringLatin1"), (32, u "()Z"), (34, .methodref 42 178), (0, .nameAndType 45 179), (0, u "([CII)[B"), (31, u "([BB)V"), (122, u "()I"), (0, .methodref 10 336), (0, .nameAndType 17 337), (0, u "()B"), (154, .methodref 10 493), (0, .nameAndType 494 142), (0, u "isLatin1"), (10, .methodref 10 506), (0, .nameAndType 507 334), (0, u "length"), (5, u "checkFromToIndex"), (7, .methodref 10 522), (0, .nameAndType 523 524), (0, u "checkBoundsBeginEnd"), (0, u "(III)V"), (16, .methodref 107 542), (0, .nameAndType 543 544), (0, u "equals"), (0, u "([B[B)Z"), (28, u "(Ljava/lang/Object;)Z"), (1, .class_ 576), (0, u "java/lang/CharSequence"), (22, u "CASE_INSENSITIVE_ORDER"), (0, u "Ljava/util/Comparator;"), (32, .methodref 10 634), (0, .nameAndType 635 636), (0, u "indexOf"), (0, u "(II)I"), (0, .methodref 107 638), (0, .nameAndType 635 639), (0, u "([BIII)I"), (43, u "substring"), (0, u "(II)Ljava/lang/String;"), (0, .methodref 107 686), (0, .nameAndType 687 688), (0, u "newString"), (0, u "([BII)Ljava/lang/String;"), (76, u "(I)I"), (244, u "([C)V"), (42, .fieldref 1054 1055), (0, .class_ 1056), (0, .nameAndType 1057 1058), (0, u "jdk/internal/util/Preconditions"), (0, u "SIOOBE_FORMATTER"), (0, u "Ljava/util/function/BiFunction;"), (3, .methodref 1054 1063), (0, .nameAndType 513 1064), (0, u "(IIILjava/util/function/BiFunction;)I"), (36, u "serialPersistentFields"), (0, u "[Ljava/io/ObjectStreamField;"), (0, .class_ 1104), (0, u "java/lang/String$CaseInsensitiveComparator"), (1, .class_ 1107), (0, u "java/io/Serializable"), (0, .class_ 1109), (0, u "java/lang/Comparable"), (0, .class_ 1111), (0, u "java/lang/constant/Constable"), (0, .class_ 1113), (0, u "java/lang/constant/ConstantDesc"), (2, u "serialVersionUID"), (0, u "J"), (3, u "REPL"), (0, u "C"), (2, u "LATIN1"), (1, u "UTF16")] 323

def k7m0 : Method := { name := "<init>", desc := "()V", sig := { parameters := [], returnType := none }, accessFlags := 1, code := none }
def k7c1 : Code := { maxStack := 5, maxLocals := 2, code := jdk_42_method_3_code, exceptionTable := #[], attributes := #[] }
def k7m1 : Method := { name := "<init>", desc := "([C)V", sig := { parameters := [(.array .char)], returnType := none }, accessFlags := 1, code := some k7c1 }
def k7c2 : Code := { maxStack := 2, maxLocals := 1, code := jdk_42_method_54_code, exceptionTable := #[], attributes := #[] }
def k7m2 : Method := { name := "length", desc := "()I", sig := { parameters := [], returnType := some .int }, accessFlags := 1, code := some k7c2 }
def k7c3 : Code := { maxStack := 2, maxLocals := 3, code := jdk_42_method_66_code, exceptionTable := #[], attributes := #[] }
def k7m3 : Method := { name := "equals", desc := "(Ljava/lang/Object;)Z", sig := { parameters := [(.object "java/lang/Object")], returnType := some .boolean }, accessFlags := 1, code := some k7c3 }
def k7c4 : Code := { maxStack := 3, maxLocals := 2, code := jdk_42_method_79_code, exceptionTable := #[], attributes := #[] }
def k7m4 : Method := { name := "indexOf", desc := "(I)I", sig := { parameters := [.int], returnType := some .int }, accessFlags := 1, code := some k7c4 }
def k7c5 : Code := { maxStack := 4, maxLocals := 3, code := jdk_42_method_80_code, exceptionTable := #[], attributes := #[] }
def k7m5 : Method := { name := "indexOf", desc := "(II)I", sig := { parameters := [.int, .int], returnType := some .int }, accessFlags := 1, code := some k7c5 }
def k7c6 : Code := { maxStack := 3, maxLocals := 5, code := jdk_42_method_92_code, exceptionTable := #[], attributes := #[] }
def k7m6 : Method := { name := "substring", desc := "(II)Ljava/lang/String;", sig := { parameters := [.int, .int], returnType := some (.object "java/lang/String") }, accessFlags := 1, code := some k7c6 }
def k7c7 : Code := { maxStack := 4, maxLocals := 6, code := jdk_42_method_149_code, exceptionTable := #[], attributes := #[] }
def k7m7 : Method := { name := "<init>", desc := "([CIILjava/lang/Void;)V", sig := { parameters := [(.array .char), .int, .int, (.object "java/lang/Void")], returnType := none }, accessFlags := 2, code := some k7c7 }
def k7c8 : Code := { maxStack := 2, maxLocals := 3, code := jdk_42_method_151_code, exceptionTable := #[], attributes := #[] }
def k7m8 : Method := { name := "<init>", desc := "([BB)V", sig := { parameters := [(.array .byte), .byte], returnType := none }, accessFlags := 0, code := some k7c8 }
def k7c9 : Code := { maxStack := 1, maxLocals := 1, code := jdk_42_method_152_code, exceptionTable := #[], attributes := #[] }
def k7m9 : Method := { name := "coder", desc := "()B", sig := { parameters := [], returnType := some .byte }, accessFlags := 0, code := some k7c9 }
def k7c10 : Code := { maxStack := 1, maxLocals := 1, code := jdk_42_method_154_code, exceptionTable := #[], attributes := #[] }
def k7m10 : Method := { name := "isLatin1", desc := "()Z", sig := { parameters := [], returnType := some .boolean }, accessFlags := 0, code := some k7c10 }
def k7c11 : Code := { maxStack := 4, maxLocals := 3, code := jdk_42_method_158_code, exceptionTable := #[], attributes := #[] }
def k7m11 : Method := { name := "checkBoundsBeginEnd", desc := "(III)V", sig := { parameters := [.int, .int, .int], returnType := none }, accessFlags := 8, code := some k7c11 }
/-- java/lang/String -/
def k7 : Class := { plain "java/lang/String" (some 0) with
  accessFlags := 49
  interfaces := #[2, 3, 4, 5, 6]
  cf := some (fileOf pool7 10 #[.nestMembers #[1103]] #[{ accessFlags := 1, nameIndex := 5, descriptorIndex := 6, attributes := #[] }, { accessFlags := 1, nameIndex := 5, descriptorIndex := 1010, attributes := #[] }, { accessFlags := 1, nameIndex := 507, descriptorIndex := 334, attributes := #[] }, { accessFlags := 1, nameIndex := 543, descriptorIndex := 573, attributes := #[] }, { accessFlags := 1, nameIndex := 635, descriptorIndex := 765, attributes := #[] }, { accessFlags := 1, nameIndex := 635, descriptorIndex := 636, attributes := #[] }, { accessFlags := 1, nameIndex := 683, descriptorIndex := 684, attributes := #[] }, { accessFlags := 2, nameIndex := 5, descriptorIndex := 29, attributes := #[] }, { accessFlags := 0, nameIndex := 5, descriptorIndex := 211, attributes := #[] }, { accessFlags := 0, nameIndex := 17, descriptorIndex := 337, attributes := #[] }, { accessFlags := 0, nameIndex := 494, descriptorIndex := 142, attributes := #[] }, { accessFlags := 8, nameIndex := 523, descriptorIndex := 524, attributes := #[] }] 49 2 #[1106, 1108, 575, 1110, 1112] #[{ accessFlags := 18, nameIndex := 13, descriptorIndex := 14, attributes := #[] }, { accessFlags := 18, nameIndex := 17, descriptorIndex := 18, attributes := #[] }, { accessFlags := 2, nameIndex := 21, descriptorIndex := 22, attributes := #[] }, { accessFlags := 2, nameIndex := 25, descriptorIndex := 26, attributes := #[] }, { accessFlags := 26, nameIndex := 1116, descriptorIndex := 1117, attributes := #[] }, { accessFlags := 24, nameIndex := 40, descriptorIndex := 26, attributes := #[] }, { accessFlags := 26, nameIndex := 1101, descriptorIndex := 1102, attributes := #[] }, { accessFlags := 26, nameIndex := 1121, descriptorIndex := 1122, attributes := #[] }, { accessFlags := 25, nameIndex := 599, descriptorIndex := 600, attributes := #[] }, { accessFlags := 24, nameIndex := 1125, descriptorIndex := 18, attributes := #[] }, { accessFlags := 24, nameIndex := 1127, descriptorIndex := 18, attributes := #[] }])
  fields := #[{ name := "value", type := (.array .byte), accessFlags := 18, slot := 0, constantValue := 0 }, { name := "coder", type := .byte, accessFlags := 18, slot := 1, constantValue := 0 }, { name := "hash", type := .int, accessFlags := 2, slot := 2, constantValue := 0 }, { name := "hashIsZero", type := .boolean, accessFlags := 2, slot := 3, constantValue := 0 }, { name := "serialVersionUID", type := .long, accessFlags := 26, slot := 0, constantValue := 0 }, { name := "COMPACT_STRINGS", type := .boolean, accessFlags := 24, slot := 1, constantValue := 0 }, { name := "serialPersistentFields", type := (.array (.object "java/io/ObjectStreamField")), accessFlags := 26, slot := 2, constantValue := 0 }, { name := "REPL", type := .char, accessFlags := 26, slot := 3, constantValue := 0 }, { name := "CASE_INSENSITIVE_ORDER", type := (.object "java/util/Comparator"), accessFlags := 25, slot := 4, constantValue := 0 }, { name := "LATIN1", type := .byte, accessFlags := 24, slot := 5, constantValue := 0 }, { name := "UTF16", type := .byte, accessFlags := 24, slot := 6, constantValue := 0 }]
  methods := #[k7m0, k7m1, k7m2, k7m3, k7m4, k7m5, k7m6, k7m7, k7m8, k7m9, k7m10, k7m11]
  instanceTypes := #[(.array .byte), .byte, .int, .boolean]
  staticTypes := #[.long, .boolean, (.array (.object "java/io/ObjectStreamField")), .char, (.object "java/util/Comparator"), .byte, .byte]
  resolved := Array.replicate 1451 none
  statics := some 0 }

def pool8 : Array CpInfo := pool [(2, .class_ 4), (1, u "java/lang/Object"), (3, .class_ 10), (1, u "com/example/inverness/inverness/HandOver"), (0, u "attempt"), (0, u "J"), (2, u "fence"), (0, .methodref 17 18), (0, .class_ 19), (0, .nameAndType 20 21), (0, u "java/lang/String"), (0, u "indexOf"), (0, u "(I)I"), (0, .methodref 17 23), (0, .nameAndType 24 25), (0, u "substring"), (0, u "(II)Ljava/lang/String;"), (19, u "token"), (0, u "(Ljava/lang/String;)Ljava/lang/String;")] 10

def k8c0 : Code := { maxStack := 3, maxLocals := 2, code := prog_3_method_2_code, exceptionTable := #[], attributes := #[] }
def k8m0 : Method := { name := "token", desc := "(Ljava/lang/String;)Ljava/lang/String;", sig := { parameters := [(.object "java/lang/String")], returnType := some (.object "java/lang/String") }, accessFlags := 8, code := some k8c0 }
/-- com/example/inverness/inverness/HandOver -/
def k8 : Class := { plain "com/example/inverness/inverness/HandOver" (some 0) with
  accessFlags := 32
  interfaces := #[]
  cf := some (fileOf pool8 8 #[] #[{ accessFlags := 8, nameIndex := 45, descriptorIndex := 46, attributes := #[] }] 32 2 #[] #[{ accessFlags := 18, nameIndex := 11, descriptorIndex := 12, attributes := #[] }, { accessFlags := 18, nameIndex := 15, descriptorIndex := 12, attributes := #[] }])
  fields := #[{ name := "attempt", type := .long, accessFlags := 18, slot := 0, constantValue := 0 }, { name := "fence", type := .long, accessFlags := 18, slot := 1, constantValue := 0 }]
  methods := #[k8m0]
  instanceTypes := #[.long, .long]
  staticTypes := #[]
  resolved := Array.replicate 57 none
  statics := none }

def pool9 : Array CpInfo := pool [(1, .class_ 2), (0, u "java/lang/String"), (1, .class_ 6), (1, u "java/lang/Object"), (0, u "<init>"), (0, u "()V"), (5, .class_ 16), (1, u "java/lang/StringLatin1"), (21, .methodref 39 40), (0, .class_ 41), (0, .nameAndType 42 43), (0, u "java/lang/Math"), (0, u "min"), (0, u "(II)I"), (44, .methodref 14 89), (0, .nameAndType 90 91), (0, u "canEncode"), (0, u "(I)Z"), (0, .methodref 39 93), (0, .nameAndType 94 43), (0, u "max"), (0, .methodref 14 96), (0, .nameAndType 97 98), (0, u "indexOfChar"), (0, u "([BIII)I"), (2, u "indexOf"), (10, .methodref 1 113), (0, .nameAndType 7 114), (0, u "([BB)V"), (6, u "$assertionsDisabled"), (0, u "Z"), (8, .class_ 133), (1, u "java/util/Arrays"), (17, .string 152), (0, u ""), (43, u "newString"), (0, u "([BII)Ljava/lang/String;"), (23, .class_ 223), (1, u "java/lang/StringLatin1$LinesSpliterator"), (8, .methodref 131 233), (0, .nameAndType 234 235), (0, u "copyOfRange"), (0, u "([BII)[B"), (45, u "equals"), (0, u "([B[B)Z"), (107, .class_ 391), (0, u "java/lang/StringLatin1$CharsSpliterator")] 3

def k9m0 : Method := { name := "<init>", desc := "()V", sig := { parameters := [], returnType := none }, accessFlags := 0, code := none }
def k9c1 : Code := { maxStack := 2, maxLocals := 1, code := jdk_43_method_4_code, exceptionTable := #[], attributes := #[] }
def k9m1 : Method := { name := "canEncode", desc := "(I)Z", sig := { parameters := [.int], returnType := some .boolean }, accessFlags := 9, code := some k9c1 }
def k9c2 : Code := { maxStack := 3, maxLocals := 3, code := jdk_43_method_13_code, exceptionTable := #[], attributes := #[] }
def k9m2 : Method := { name := "equals", desc := "([B[B)Z", sig := { parameters := [(.array .byte), (.array .byte)], returnType := some .boolean }, accessFlags := 9, code := some k9c2 }
def k9c3 : Code := { maxStack := 4, maxLocals := 4, code := jdk_43_method_22_code, exceptionTable := #[], attributes := #[] }
def k9m3 : Method := { name := "indexOf", desc := "([BIII)I", sig := { parameters := [(.array .byte), .int, .int, .int], returnType := some .int }, accessFlags := 9, code := some k9c3 }
def k9c4 : Code := { maxStack := 2, maxLocals := 6, code := jdk_43_method_23_code, exceptionTable := #[], attributes := #[] }
def k9m4 : Method := { name := "indexOfChar", desc := "([BIII)I", sig := { parameters := [(.array .byte), .int, .int, .int], returnType := some .int }, accessFlags := 10, code := some k9c4 }
def k9c5 : Code := { maxStack := 6, maxLocals := 3, code := jdk_43_method_47_code, exceptionTable := #[], attributes := #[] }
def k9m5 : Method := { name := "newString", desc := "([BII)Ljava/lang/String;", sig := { parameters := [(.array .byte), .int, .int], returnType := some (.object "java/lang/String") }, accessFlags := 9, code := some k9c5 }
/-- java/lang/StringLatin1 -/
def k9 : Class := { plain "java/lang/StringLatin1" (some 0) with
  accessFlags := 48
  interfaces := #[]
  cf := some (fileOf pool9 14 #[.nestMembers #[390, 221]] #[{ accessFlags := 0, nameIndex := 7, descriptorIndex := 8, attributes := #[] }, { accessFlags := 9, nameIndex := 90, descriptorIndex := 91, attributes := #[] }, { accessFlags := 9, nameIndex := 281, descriptorIndex := 282, attributes := #[] }, { accessFlags := 9, nameIndex := 101, descriptorIndex := 98, attributes := #[] }, { accessFlags := 10, nameIndex := 97, descriptorIndex := 98, attributes := #[] }, { accessFlags := 9, nameIndex := 196, descriptorIndex := 197, attributes := #[] }] 48 4 #[] #[{ accessFlags := 4120, nameIndex := 121, descriptorIndex := 122, attributes := #[] }])
  fields := #[{ name := "$assertionsDisabled", type := .boolean, accessFlags := 4120, slot := 0, constantValue := 0 }]
  methods := #[k9m0, k9m1, k9m2, k9m3, k9m4, k9m5]
  instanceTypes := #[]
  staticTypes := #[.boolean]
  resolved := Array.replicate 395 none
  statics := none }

def pool10 : Array CpInfo := pool [(1, .class_ 2), (0, u "java/lang/Math"), (1, .class_ 6), (1, u "java/lang/Object"), (0, u "<init>"), (0, u "()V"), (89, .class_ 100), (1, u "java/lang/Math$RandomNumberGeneratorHolder"), (71, u "negativeZeroFloatBits"), (0, u "J"), (2, u "negativeZeroDoubleBits"), (21, u "max"), (2, u "min"), (43, u "$assertionsDisabled"), (0, u "Z"), (88, u "(II)I"), (2, u "twoToTheDoubleScaleDown"), (0, u "D"), (4, u "twoToTheDoubleScaleUp"), (9, u "E"), (3, u "PI"), (2, u "TAU"), (2, u "DEGREES_TO_RADIANS"), (0, u "RADIANS_TO_DEGREES")] 94

def k10m0 : Method := { name := "<init>", desc := "()V", sig := { parameters := [], returnType := none }, accessFlags := 2, code := none }
def k10c1 : Code := { maxStack := 2, maxLocals := 2, code := jdk_29_method_65_code, exceptionTable := #[], attributes := #[] }
def k10m1 : Method := { name := "max", desc := "(II)I", sig := { parameters := [.int, .int], returnType := some .int }, accessFlags := 9, code := some k10c1 }
def k10c2 : Code := { maxStack := 2, maxLocals := 2, code := jdk_29_method_69_code, exceptionTable := #[], attributes := #[] }
def k10m2 : Method := { name := "min", desc := "(II)I", sig := { parameters := [.int, .int], returnType := some .int }, accessFlags := 9, code := some k10c2 }
/-- java/lang/Math -/
def k10 : Class := { plain "java/lang/Math" (some 0) with
  accessFlags := 49
  interfaces := #[]
  cf := some (fileOf pool10 1 #[.nestMembers #[98]] #[{ accessFlags := 2, nameIndex := 7, descriptorIndex := 8, attributes := #[] }, { accessFlags := 9, nameIndex := 198, descriptorIndex := 335, attributes := #[] }, { accessFlags := 9, nameIndex := 201, descriptorIndex := 335, attributes := #[] }] 49 4 #[] #[{ accessFlags := 25, nameIndex := 354, descriptorIndex := 339, attributes := #[] }, { accessFlags := 25, nameIndex := 358, descriptorIndex := 339, attributes := #[] }, { accessFlags := 25, nameIndex := 361, descriptorIndex := 339, attributes := #[] }, { accessFlags := 26, nameIndex := 364, descriptorIndex := 339, attributes := #[] }, { accessFlags := 26, nameIndex := 365, descriptorIndex := 339, attributes := #[] }, { accessFlags := 26, nameIndex := 172, descriptorIndex := 173, attributes := #[] }, { accessFlags := 26, nameIndex := 176, descriptorIndex := 173, attributes := #[] }, { accessFlags := 8, nameIndex := 344, descriptorIndex := 339, attributes := #[] }, { accessFlags := 8, nameIndex := 338, descriptorIndex := 339, attributes := #[] }, { accessFlags := 4120, nameIndex := 245, descriptorIndex := 246, attributes := #[] }])
  fields := #[{ name := "E", type := .double, accessFlags := 25, slot := 0, constantValue := 0 }, { name := "PI", type := .double, accessFlags := 25, slot := 1, constantValue := 0 }, { name := "TAU", type := .double, accessFlags := 25, slot := 2, constantValue := 0 }, { name := "DEGREES_TO_RADIANS", type := .double, accessFlags := 26, slot := 3, constantValue := 0 }, { name := "RADIANS_TO_DEGREES", type := .double, accessFlags := 26, slot := 4, constantValue := 0 }, { name := "negativeZeroFloatBits", type := .long, accessFlags := 26, slot := 5, constantValue := 0 }, { name := "negativeZeroDoubleBits", type := .long, accessFlags := 26, slot := 6, constantValue := 0 }, { name := "twoToTheDoubleScaleUp", type := .double, accessFlags := 8, slot := 7, constantValue := 0 }, { name := "twoToTheDoubleScaleDown", type := .double, accessFlags := 8, slot := 8, constantValue := 0 }, { name := "$assertionsDisabled", type := .boolean, accessFlags := 4120, slot := 9, constantValue := 0 }]
  methods := #[k10m0, k10m1, k10m2]
  instanceTypes := #[]
  staticTypes := #[.double, .double, .double, .double, .double, .long, .long, .double, .double, .boolean]
  resolved := Array.replicate 460 none
  statics := none }

def pool11 : Array CpInfo := pool [(6, .class_ 8), (1, u "java/lang/Object"), (0, u "<init>"), (0, u "()V"), (1, .class_ 14), (1, u "java/lang/StringUTF16"), (31, u "$assertionsDisabled"), (0, u "Z"), (13, u "HI_BYTE_SHIFT"), (0, u "I"), (2, u "LO_BYTE_SHIFT"), (49, .methodref 12 116), (0, .nameAndType 117 118), (0, u "compress"), (0, u "([CI[BII)I"), (3, u "([CII)[B"), (138, u "coderFromArrayLen"), (0, u "([BI)B"), (106, .class_ 371), (1, u "java/lang/StringUTF16$LinesSpliterator"), (58, u "MAX_LENGTH"), (196, .class_ 628), (0, u "java/lang/StringUTF16$CodePointsSpliterator"), (0, .class_ 630), (0, u "java/lang/StringUTF16$CharsSpliterator")] 4

def k11m0 : Method := { name := "<init>", desc := "()V", sig := { parameters := [], returnType := none }, accessFlags := 0, code := none }
def k11c1 : Code := { maxStack := 2, maxLocals := 2, code := jdk_52_method_15_code, exceptionTable := #[], attributes := #[] }
def k11m1 : Method := { name := "coderFromArrayLen", desc := "([BI)B", sig := { parameters := [(.array .byte), .int], returnType := some .byte }, accessFlags := 8, code := some k11c1 }
def k11c2 : Code := { maxStack := 5, maxLocals := 6, code := jdk_52_method_16_code, exceptionTable := #[], attributes := #[] }
def k11m2 : Method := { name := "compress", desc := "([CII)[B", sig := { parameters := [(.array .char), .int, .int], returnType := some (.array .byte) }, accessFlags := 9, code := some k11c2 }
def k11c3 : Code := { maxStack := 3, maxLocals := 7, code := jdk_52_method_21_code, exceptionTable := #[], attributes := #[] }
def k11m3 : Method := { name := "compress", desc := "([CI[BII)I", sig := { parameters := [(.array .char), .int, (.array .byte), .int, .int], returnType := some .int }, accessFlags := 9, code := some k11c3 }
/-- java/lang/StringUTF16 -/
def k11 : Class := { plain "java/lang/StringUTF16" (some 0) with
  accessFlags := 48
  interfaces := #[]
  cf := some (fileOf pool11 12 #[.nestMembers #[627, 629, 369]] #[{ accessFlags := 0, nameIndex := 9, descriptorIndex := 10, attributes := #[] }, { accessFlags := 8, nameIndex := 261, descriptorIndex := 262, attributes := #[] }, { accessFlags := 9, nameIndex := 117, descriptorIndex := 122, attributes := #[] }, { accessFlags := 9, nameIndex := 117, descriptorIndex := 118, attributes := #[] }] 48 6 #[] #[{ accessFlags := 26, nameIndex := 61, descriptorIndex := 62, attributes := #[] }, { accessFlags := 26, nameIndex := 65, descriptorIndex := 62, attributes := #[] }, { accessFlags := 24, nameIndex := 430, descriptorIndex := 62, attributes := #[] }, { accessFlags := 4120, nameIndex := 46, descriptorIndex := 47, attributes := #[] }])
  fields := #[{ name := "HI_BYTE_SHIFT", type := .int, accessFlags := 26, slot := 0, constantValue := 0 }, { name := "LO_BYTE_SHIFT", type := .int, accessFlags := 26, slot := 1, constantValue := 0 }, { name := "MAX_LENGTH", type := .int, accessFlags := 24, slot := 2, constantValue := 0 }, { name := "$assertionsDisabled", type := .boolean, accessFlags := 4120, slot := 3, constantValue := 0 }]
  methods := #[k11m0, k11m1, k11m2, k11m3]
  instanceTypes := #[]
  staticTypes := #[.int, .int, .int, .boolean]
  resolved := Array.replicate 635 none
  statics := none }

def pool12 : Array CpInfo := pool [(2, .class_ 4), (1, u "java/lang/Object"), (0, u "<init>"), (0, u "()V"), (17, .class_ 26), (1, u "jdk/internal/util/Preconditions"), (20, u "checkFromToIndex"), (7, .class_ 56), (0, u "jdk/internal/util/Preconditions$4"), (57, .class_ 115), (0, u "jdk/internal/util/Preconditions$1"), (7, u "SIOOBE_FORMATTER"), (0, u "Ljava/util/function/BiFunction;"), (0, .class_ 126), (0, u "jdk/internal/util/Preconditions$2"), (3, u "AIOOBE_FORMATTER"), (0, .class_ 132), (0, u "jdk/internal/util/Preconditions$3"), (3, u "IOOBE_FORMATTER"), (46, u "(IIILjava/util/function/BiFunction;)I")] 10

def k12m0 : Method := { name := "<init>", desc := "()V", sig := { parameters := [], returnType := none }, accessFlags := 1, code := none }
def k12c1 : Code := { maxStack := 4, maxLocals := 4, code := jdk_41_method_12_code, exceptionTable := #[], attributes := #[] }
def k12m1 : Method := { name := "checkFromToIndex", desc := "(IIILjava/util/function/BiFunction;)I", sig := { parameters := [.int, .int, .int, (.object "java/util/function/BiFunction")], returnType := some .int }, accessFlags := 9, code := some k12c1 }
/-- jdk/internal/util/Preconditions -/
def k12 : Class := { plain "jdk/internal/util/Preconditions" (some 0) with
  accessFlags := 33
  interfaces := #[]
  cf := some (fileOf pool12 24 #[.nestMembers #[55, 131, 125, 114]] #[{ accessFlags := 1, nameIndex := 5, descriptorIndex := 6, attributes := #[] }, { accessFlags := 9, nameIndex := 47, descriptorIndex := 183, attributes := #[] }] 33 2 #[] #[{ accessFlags := 25, nameIndex := 123, descriptorIndex := 124, attributes := #[] }, { accessFlags := 25, nameIndex := 130, descriptorIndex := 124, attributes := #[] }, { accessFlags := 25, nameIndex := 136, descriptorIndex := 124, attributes := #[] }])
  fields := #[{ name := "SIOOBE_FORMATTER", type := (.object "java/util/function/BiFunction"), accessFlags := 25, slot := 0, constantValue := 0 }, { name := "AIOOBE_FORMATTER", type := (.object "java/util/function/BiFunction"), accessFlags := 25, slot := 1, constantValue := 0 }, { name := "IOOBE_FORMATTER", type := (.object "java/util/function/BiFunction"), accessFlags := 25, slot := 2, constantValue := 0 }]
  methods := #[k12m0, k12m1]
  instanceTypes := #[]
  staticTypes := #[(.object "java/util/function/BiFunction"), (.object "java/util/function/BiFunction"), (.object "java/util/function/BiFunction")]
  resolved := Array.replicate 194 none
  statics := some 1 }

def pool13 : Array CpInfo := pool [(2, .class_ 4), (1, u "java/lang/Object"), (0, u "<init>"), (0, u "()V"), (7, .class_ 16), (1, u "java/util/Arrays"), (57, .class_ 76), (1, u "java/util/Arrays$NaturalOrder"), (36, .class_ 115), (1, u "java/util/Arrays$LegacyMergeSort"), (1, u "Z"), (21, u "copyOfRange"), (10, .methodref 151 152), (0, .class_ 153), (0, .nameAndType 154 155), (0, u "java/lang/System"), (0, u "arraycopy"), (0, u "(Ljava/lang/Object;ILjava/lang/Object;II)V"), (148, .methodref 305 306), (0, .class_ 307), (0, .nameAndType 308 309), (0, u "java/lang/Math"), (0, u "min"), (0, u "(II)I"), (29, .methodref 14 340), (0, .nameAndType 341 342), (0, u "copyOfRangeByte"), (0, u "([BII)[B"), (0, .methodref 14 344), (0, .nameAndType 345 346), (0, u "checkLength"), (0, u "(II)V"), (28, .class_ 376), (0, u "java/util/Arrays$ArrayList"), (68, u "$assertionsDisabled"), (269, u "MIN_ARRAY_SORT_GRAN"), (0, u "I"), (2, u "INSERTIONSORT_THRESHOLD"), (255, .class_ 976), (0, u "java/util/Arrays$ArrayItr")] 52

def k13m0 : Method := { name := "<init>", desc := "()V", sig := { parameters := [], returnType := none }, accessFlags := 2, code := none }
def k13c1 : Code := { maxStack := 4, maxLocals := 2, code := jdk_65_method_131_code, exceptionTable := #[], attributes := #[] }
def k13m1 : Method := { name := "checkLength", desc := "(II)V", sig := { parameters := [.int, .int], returnType := none }, accessFlags := 10, code := some k13c1 }
def k13c2 : Code := { maxStack := 3, maxLocals := 3, code := jdk_65_method_132_code, exceptionTable := #[], attributes := #[] }
def k13m2 : Method := { name := "copyOfRange", desc := "([BII)[B", sig := { parameters := [(.array .byte), .int, .int], returnType := some (.array .byte) }, accessFlags := 9, code := some k13c2 }
def k13c3 : Code := { maxStack := 6, maxLocals := 5, code := jdk_65_method_133_code, exceptionTable := #[], attributes := #[] }
def k13m3 : Method := { name := "copyOfRangeByte", desc := "([BII)[B", sig := { parameters := [(.array .byte), .int, .int], returnType := some (.array .byte) }, accessFlags := 10, code := some k13c3 }
/-- java/util/Arrays -/
def k13 : Class := { plain "java/util/Arrays" (some 0) with
  accessFlags := 49
  interfaces := #[]
  cf := some (fileOf pool13 14 #[.nestMembers #[975, 375, 113, 74]] #[{ accessFlags := 2, nameIndex := 5, descriptorIndex := 6, attributes := #[] }, { accessFlags := 10, nameIndex := 345, descriptorIndex := 346, attributes := #[] }, { accessFlags := 9, nameIndex := 139, descriptorIndex := 342, attributes := #[] }, { accessFlags := 10, nameIndex := 341, descriptorIndex := 342, attributes := #[] }] 49 2 #[] #[{ accessFlags := 26, nameIndex := 715, descriptorIndex := 716, attributes := #[] }, { accessFlags := 26, nameIndex := 719, descriptorIndex := 716, attributes := #[] }, { accessFlags := 4120, nameIndex := 445, descriptorIndex := 117, attributes := #[] }])
  fields := #[{ name := "MIN_ARRAY_SORT_GRAN", type := .int, accessFlags := 26, slot := 0, constantValue := 0 }, { name := "INSERTIONSORT_THRESHOLD", type := .int, accessFlags := 26, slot := 1, constantValue := 0 }, { name := "$assertionsDisabled", type := .boolean, accessFlags := 4120, slot := 2, constantValue := 0 }]
  methods := #[k13m0, k13m1, k13m2, k13m3]
  instanceTypes := #[]
  staticTypes := #[.int, .int, .boolean]
  resolved := Array.replicate 1029 none
  statics := none }

def pool14 : Array CpInfo := pool [(2, .class_ 4), (1, u "java/lang/Object"), (0, u "<init>"), (0, u "()V"), (1, .class_ 10), (1, u "java/lang/System"), (0, u "allowSecurityManager"), (0, u "I"), (16, u "cons"), (0, u "Ljava/io/Console;"), (77, .class_ 110), (1, u "java/lang/System$CallersHolder"), (43, u "initialErrStream"), (0, u "Ljava/io/PrintStream;"), (19, u "security"), (0, u "Ljava/lang/SecurityManager;"), (31, .class_ 209), (0, u "java/lang/System$1"), (7, u "props"), (0, u "Ljava/util/Properties;"), (2, u "lineSeparator"), (0, u "Ljava/lang/String;"), (96, .class_ 321), (1, u "java/lang/System$LoggerFinder"), (5, .class_ 328), (0, u "java/lang/System$Logger"), (67, u "err"), (2, u "out"), (91, u "notSupportedJnuEncoding"), (15, u "in"), (17, u "initialIn"), (0, u "Ljava/io/InputStream;"), (35, u "bootLayer"), (0, u "Ljava/lang/ModuleLayer;"), (99, .class_ 664), (0, u "java/lang/System$2"), (9, u "NEVER"), (2, u "MAYBE"), (49, u "arraycopy"), (0, u "(Ljava/lang/Object;ILjava/lang/Object;II)V"), (72, .class_ 802), (0, u "java/lang/System$Logger$Level")] 31

def k14m0 : Method := { name := "<init>", desc := "()V", sig := { parameters := [], returnType := none }, accessFlags := 2, code := none }
def k14m1 : Method := { name := "arraycopy", desc := "(Ljava/lang/Object;ILjava/lang/Object;II)V", sig := { parameters := [(.object "java/lang/Object"), .int, (.object "java/lang/Object"), .int, .int], returnType := none }, accessFlags := 265, code := none }
/-- java/lang/System -/
def k14 : Class := { plain "java/lang/System" (some 0) with
  accessFlags := 49
  interfaces := #[]
  cf := some (fileOf pool14 8 #[.nestMembers #[319, 327, 801, 108, 663, 208]] #[{ accessFlags := 2, nameIndex := 5, descriptorIndex := 6, attributes := #[] }, { accessFlags := 265, nameIndex := 727, descriptorIndex := 728, attributes := #[] }] 49 2 #[] #[{ accessFlags := 25, nameIndex := 507, descriptorIndex := 526, attributes := #[] }, { accessFlags := 25, nameIndex := 399, descriptorIndex := 155, attributes := #[] }, { accessFlags := 25, nameIndex := 396, descriptorIndex := 155, attributes := #[] }, { accessFlags := 10, nameIndex := 525, descriptorIndex := 526, attributes := #[] }, { accessFlags := 26, nameIndex := 674, descriptorIndex := 12, attributes := #[] }, { accessFlags := 26, nameIndex := 677, descriptorIndex := 12, attributes := #[] }, { accessFlags := 10, nameIndex := 11, descriptorIndex := 12, attributes := #[] }, { accessFlags := 74, nameIndex := 175, descriptorIndex := 176, attributes := #[] }, { accessFlags := 10, nameIndex := 491, descriptorIndex := 222, attributes := #[] }, { accessFlags := 74, nameIndex := 29, descriptorIndex := 30, attributes := #[] }, { accessFlags := 74, nameIndex := 154, descriptorIndex := 155, attributes := #[] }, { accessFlags := 10, nameIndex := 217, descriptorIndex := 218, attributes := #[] }, { accessFlags := 10, nameIndex := 221, descriptorIndex := 222, attributes := #[] }, { accessFlags := 8, nameIndex := 562, descriptorIndex := 563, attributes := #[] }])
  fields := #[{ name := "in", type := (.object "java/io/InputStream"), accessFlags := 25, slot := 0, constantValue := 0 }, { name := "out", type := (.object "java/io/PrintStream"), accessFlags := 25, slot := 1, constantValue := 0 }, { name := "err", type := (.object "java/io/PrintStream"), accessFlags := 25, slot := 2, constantValue := 0 }, { name := "initialIn", type := (.object "java/io/InputStream"), accessFlags := 10, slot := 3, constantValue := 0 }, { name := "NEVER", type := .int, accessFlags := 26, slot := 4, constantValue := 0 }, { name := "MAYBE", type := .int, accessFlags := 26, slot := 5, constantValue := 0 }, { name := "allowSecurityManager", type := .int, accessFlags := 10, slot := 6, constantValue := 0 }, { name := "security", type := (.object "java/lang/SecurityManager"), accessFlags := 74, slot := 7, constantValue := 0 }, { name := "notSupportedJnuEncoding", type := (.object "java/lang/String"), accessFlags := 10, slot := 8, constantValue := 0 }, { name := "cons", type := (.object "java/io/Console"), accessFlags := 74, slot := 9, constantValue := 0 }, { name := "initialErrStream", type := (.object "java/io/PrintStream"), accessFlags := 74, slot := 10, constantValue := 0 }, { name := "props", type := (.object "java/util/Properties"), accessFlags := 10, slot := 11, constantValue := 0 }, { name := "lineSeparator", type := (.object "java/lang/String"), accessFlags := 10, slot := 12, constantValue := 0 }, { name := "bootLayer", type := (.object "java/lang/ModuleLayer"), accessFlags := 8, slot := 13, constantValue := 0 }]
  methods := #[k14m0, k14m1]
  instanceTypes := #[]
  staticTypes := #[(.object "java/io/InputStream"), (.object "java/io/PrintStream"), (.object "java/io/PrintStream"), (.object "java/io/InputStream"), .int, .int, .int, (.object "java/lang/SecurityManager"), (.object "java/lang/String"), (.object "java/io/Console"), (.object "java/io/PrintStream"), (.object "java/util/Properties"), (.object "java/lang/String"), (.object "java/lang/ModuleLayer")]
  resolved := Array.replicate 834 none
  statics := none }

def pool15 : Array CpInfo := pool [(9, u "<init>"), (6, .class_ 18), (1, u "java/lang/Object"), (0, u "()V"), (1, .class_ 23), (1, u "jdk/internal/util/ArraysSupport"), (0, u "LOG2_ARRAY_LONG_INDEX_SCALE"), (0, u "I"), (2, u "U"), (0, u "Ljdk/internal/misc/Unsafe;"), (8, u "BIG_ENDIAN"), (0, u "Z"), (8, u "LOG2_BYTE_BIT_SIZE"), (4, u "LOG2_ARRAY_INT_INDEX_SCALE"), (54, u "JLA"), (0, u "Ljdk/internal/access/JavaLangAccess;"), (11, u "LOG2_ARRAY_BOOLEAN_INDEX_SCALE"), (9, u "LOG2_ARRAY_BYTE_INDEX_SCALE"), (5, u "LOG2_ARRAY_CHAR_INDEX_SCALE"), (5, u "LOG2_ARRAY_SHORT_INDEX_SCALE"), (18, u "LOG2_ARRAY_FLOAT_INDEX_SCALE"), (24, u "LOG2_ARRAY_DOUBLE_INDEX_SCALE"), (89, u "T_BOOLEAN"), (2, u "T_CHAR"), (1, u "T_FLOAT"), (1, u "T_DOUBLE"), (1, u "T_BYTE"), (1, u "T_SHORT"), (1, u "T_INT"), (1, u "T_LONG"), (1, u "SOFT_MAX_ARRAY_LENGTH")] 83

def k15m0 : Method := { name := "<init>", desc := "()V", sig := { parameters := [], returnType := none }, accessFlags := 2, code := none }
/-- jdk/internal/util/ArraysSupport -/
def k15 : Class := { plain "jdk/internal/util/ArraysSupport" (some 0) with
  accessFlags := 33
  interfaces := #[]
  cf := some (fileOf pool15 21 #[] #[{ accessFlags := 2, nameIndex := 9, descriptorIndex := 19, attributes := #[] }] 33 16 #[] #[{ accessFlags := 24, nameIndex := 28, descriptorIndex := 29, attributes := #[] }, { accessFlags := 26, nameIndex := 38, descriptorIndex := 39, attributes := #[] }, { accessFlags := 25, nameIndex := 121, descriptorIndex := 25, attributes := #[] }, { accessFlags := 25, nameIndex := 131, descriptorIndex := 25, attributes := #[] }, { accessFlags := 25, nameIndex := 137, descriptorIndex := 25, attributes := #[] }, { accessFlags := 25, nameIndex := 143, descriptorIndex := 25, attributes := #[] }, { accessFlags := 25, nameIndex := 53, descriptorIndex := 25, attributes := #[] }, { accessFlags := 25, nameIndex := 24, descriptorIndex := 25, attributes := #[] }, { accessFlags := 25, nameIndex := 162, descriptorIndex := 25, attributes := #[] }, { accessFlags := 25, nameIndex := 187, descriptorIndex := 25, attributes := #[] }, { accessFlags := 26, nameIndex := 48, descriptorIndex := 25, attributes := #[] }, { accessFlags := 25, nameIndex := 277, descriptorIndex := 25, attributes := #[] }, { accessFlags := 25, nameIndex := 280, descriptorIndex := 25, attributes := #[] }, { accessFlags := 25, nameIndex := 282, descriptorIndex := 25, attributes := #[] }, { accessFlags := 25, nameIndex := 284, descriptorIndex := 25, attributes := #[] }, { accessFlags := 25, nameIndex := 286, descriptorIndex := 25, attributes := #[] }, { accessFlags := 25, nameIndex := 288, descriptorIndex := 25, attributes := #[] }, { accessFlags := 25, nameIndex := 290, descriptorIndex := 25, attributes := #[] }, { accessFlags := 25, nameIndex := 292, descriptorIndex := 25, attributes := #[] }, { accessFlags := 26, nameIndex := 108, descriptorIndex := 109, attributes := #[] }, { accessFlags := 25, nameIndex := 294, descriptorIndex := 25, attributes := #[] }])
  fields := #[{ name := "U", type := (.object "jdk/internal/misc/Unsafe"), accessFlags := 24, slot := 0, constantValue := 0 }, { name := "BIG_ENDIAN", type := .boolean, accessFlags := 26, slot := 1, constantValue := 0 }, { name := "LOG2_ARRAY_BOOLEAN_INDEX_SCALE", type := .int, accessFlags := 25, slot := 2, constantValue := 0 }, { name := "LOG2_ARRAY_BYTE_INDEX_SCALE", type := .int, accessFlags := 25, slot := 3, constantValue := 0 }, { name := "LOG2_ARRAY_CHAR_INDEX_SCALE", type := .int, accessFlags := 25, slot := 4, constantValue := 0 }, { name := "LOG2_ARRAY_SHORT_INDEX_SCALE", type := .int, accessFlags := 25, slot := 5, constantValue := 0 }, { name := "LOG2_ARRAY_INT_INDEX_SCALE", type := .int, accessFlags := 25, slot := 6, constantValue := 0 }, { name := "LOG2_ARRAY_LONG_INDEX_SCALE", type := .int, accessFlags := 25, slot := 7, constantValue := 0 }, { name := "LOG2_ARRAY_FLOAT_INDEX_SCALE", type := .int, accessFlags := 25, slot := 8, constantValue := 0 }, { name := "LOG2_ARRAY_DOUBLE_INDEX_SCALE", type := .int, accessFlags := 25, slot := 9, constantValue := 0 }, { name := "LOG2_BYTE_BIT_SIZE", type := .int, accessFlags := 26, slot := 10, constantValue := 0 }, { name := "T_BOOLEAN", type := .int, accessFlags := 25, slot := 11, constantValue := 0 }, { name := "T_CHAR", type := .int, accessFlags := 25, slot := 12, constantValue := 0 }, { name := "T_FLOAT", type := .int, accessFlags := 25, slot := 13, constantValue := 0 }, { name := "T_DOUBLE", type := .int, accessFlags := 25, slot := 14, constantValue := 0 }, { name := "T_BYTE", type := .int, accessFlags := 25, slot := 15, constantValue := 0 }, { name := "T_SHORT", type := .int, accessFlags := 25, slot := 16, constantValue := 0 }, { name := "T_INT", type := .int, accessFlags := 25, slot := 17, constantValue := 0 }, { name := "T_LONG", type := .int, accessFlags := 25, slot := 18, constantValue := 0 }, { name := "JLA", type := (.object "jdk/internal/access/JavaLangAccess"), accessFlags := 26, slot := 19, constantValue := 0 }, { name := "SOFT_MAX_ARRAY_LENGTH", type := .int, accessFlags := 25, slot := 20, constantValue := 0 }]
  methods := #[k15m0]
  instanceTypes := #[]
  staticTypes := #[(.object "jdk/internal/misc/Unsafe"), .boolean, .int, .int, .int, .int, .int, .int, .int, .int, .int, .int, .int, .int, .int, .int, .int, .int, .int, (.object "jdk/internal/access/JavaLangAccess"), .int]
  resolved := Array.replicate 378 none
  statics := none }

def pool16 : Array CpInfo := pool [(1, u "java/lang/Cloneable"), (0, .class_ 1), (0, u "java/lang/Object"), (0, .class_ 3)] 3

/-- java/lang/Cloneable -/
def k16 : Class := { plain "java/lang/Cloneable" (some 0) with
  accessFlags := 1537
  interfaces := #[]
  cf := some (fileOf pool16 2 #[] #[] 1537 4 #[] #[])
  fields := #[]
  methods := #[]
  instanceTypes := #[]
  staticTypes := #[]
  resolved := Array.replicate 8 none
  statics := none }

/-- the primitive byte -/
def k17 : Class := { plain "byte" none with kind := .primitive 'B', accessFlags := 0x411 }
/-- [B -/
def k18 : Class := { plain "[B" (some 0) with kind := .array 17 .byte, interfaces := #[16, 2], accessFlags := 1041 }

/-- the primitive char -/
def k19 : Class := { plain "char" none with kind := .primitive 'C', accessFlags := 0x411 }
/-- [C -/
def k20 : Class := { plain "[C" (some 0) with kind := .array 19 .char, interfaces := #[16, 2], accessFlags := 1041 }

/-- the primitive int -/
def k21 : Class := { plain "int" none with kind := .primitive 'I', accessFlags := 0x411 }
/-- [I -/
def k22 : Class := { plain "[I" (some 0) with kind := .array 21 .int, interfaces := #[16, 2], accessFlags := 1041 }

def heap : Heap := #[{ cls := 7, slots := #[.long 0, .int 1, .null, .int 0, .null, .int 0, .int 0], vm := .statics 7 },
  { cls := 12, slots := #[.null, .null, .null], vm := .statics 12 }]
def classes : Array Class := #[k0, k1, k2, k3, k4, k5, k6, k7, k8, k9, k10, k11, k12, k13, k14, k15, k16, k17, k18, k19, k20, k21, k22]
def interned : List (Array UInt16 × Addr) := []
def slotsUsed : Nat := 10
def theMethod : MethodId := ⟨1, 3⟩
def args0 : Array Value := #[.int 3, .int 130, .int 7, .int 0, .int 4]
def aboutOver (below : List Frame) : State where
  vm := { classes := classes, interned := interned.toArray }
  heap := heap
  slotsUsed := slotsUsed
  threads := #[{ frames := .invoking theMethod args0 :: below }]
def below0 : List Frame := [.native { method := ⟨0, 0⟩, args := #[] }]
def about1 : State := aboutOver below0
def p0 : Program := .bare "" "" ""
def e0 : Env := launch0.env 0 0 0
theorem w_frames : about1.frames = Frame.invoking theMethod args0 :: below0 := rfl
set_option maxRecDepth 65536 in
theorem w_args : argsFit about1.vm theMethod args0 = true := by decide +kernel
set_option maxRecDepth 65536 in
theorem w_heap : heapFits about1 = true := by decide +kernel
set_option maxRecDepth 65536 in
theorem w_runnable : about1.curStatus? = some .runnable := by decide +kernel
set_option maxRecDepth 65536 in
theorem w_alone : about1.alone = true := by decide +kernel
set_option maxRecDepth 65536 in
theorem w_named : about1.methodNamed? x = some theMethod := by decide +kernel
set_option maxRecDepth 65536 in
theorem w_hears : about1.hears theMethod below0 = true := by decide +kernel
set_option maxRecDepth 65536 in
theorem w_ripe : about1.ripe theMethod args0 below0 = true := by decide +kernel
theorem w_running : about1.status = .running := rfl
set_option maxRecDepth 65536 in
theorem w_room : about1.hasRoom e0.platform room_1 = true :=
  launch0.hasRoom_least _ room_1 (by decide +kernel) (by decide +kernel) (by decide +kernel) (by decide +kernel) (by decide +kernel) (by decide +kernel)
theorem allAtoms_all (ts : List Jvm.Cond) (a : Array Jvm.Value) (st : Jvm.State) : (allAtoms ts).before a st = ts.all (fun c => c.before a st) := by
  induction ts with
  | nil => rfl
  | cons c t ih =>
    show (Jvm.Cond.and c (allAtoms t)).before a st = _
    rw [Jvm.Cond.before_and, ih, List.all_cons]
def words1 : List Jvm.Cond := Jvm.Cond.code x code maxLocals ret :: tables_1
/-- a 'code' word, met by the world's own term for the bytes: nothing is compared byte by byte -/
theorem code_word {y : MethodName} {bytes : ByteArray} {mx : Nat} {rt : Option FieldType} {a : Array Value} {s : State} {m : MethodId} {meth : Method} {c : Code} (h1 : s.methodNamed? y = some m) (h2 : s.vm.method? m = some meth) (h3 : meth.code = some c) (h4 : c.code = bytes)
    (h5 : (c.maxLocals == mx && c.exceptionTable.isEmpty && decide (c.maxStack ≤ mostOperands) && decide (meth.sig.returnType = rt) && !meth.locks && decide (parseMethodDescriptor y.desc = some meth.sig)) = true) : (Jvm.Cond.code y bytes mx rt).before a s = true := by
  simp only [Bool.and_eq_true, beq_iff_eq, Bool.not_eq_true', decide_eq_true_eq] at h5
  obtain ⟨⟨⟨⟨⟨g1, g2⟩, g3⟩, g4⟩, g5⟩, g6⟩ := h5
  simp [Cond.before, Cond.holds, Cond.value, h1, h2, h3, h4, g1, g2, g3, g4, g5, g6]
def isCode : Jvm.Cond → Bool
  | .code _ _ _ _ => true
  | _ => false
theorem all_split {L : List Jvm.Cond} {P : Jvm.Cond → Bool} (h1 : L.all (fun c => isCode c || P c) = true) (h2 : ∀ c ∈ L.filter isCode, P c = true) : L.all P = true := by
  refine List.all_eq_true.mpr fun c hc => ?_
  have h := List.all_eq_true.mp h1 c hc
  rcases Bool.eq_false_or_eq_true (isCode c) with hi | hi
  · exact h2 c (List.mem_filter.mpr ⟨hc, hi⟩)
  · simpa [hi] using h
set_option maxRecDepth 65536 in
theorem w_c0 : (Jvm.Cond.code x code maxLocals ret).before args0 about1 = true := code_word (m := ⟨1, 3⟩) (meth := k1m3) (c := k1c3) (by decide +kernel) rfl rfl rfl (by decide +kernel)
set_option maxRecDepth 65536 in
theorem w_c1 : (Jvm.Cond.code ({ cls := "com/example/inverness/inverness/HandOverTokenPinLaw", name := "draw", desc := "(I)C" } : Jvm.MethodName) method_2_code (1 : Nat) (Option.some Jvm.ClassFile.FieldType.char)).before args0 about1 = true := code_word (m := ⟨1, 1⟩) (meth := k1m1) (c := k1c1) (by decide +kernel) rfl rfl rfl (by decide +kernel)
set_option maxRecDepth 65536 in
theorem w_c2 : (Jvm.Cond.code ({ cls := "com/example/inverness/inverness/HandOverTokenPinLaw", name := "pre", desc := "(CCCCI)Ljava/lang/String;" } : Jvm.MethodName) method_3_code (5 : Nat) (Option.some (Jvm.ClassFile.FieldType.object "java/lang/String"))).before args0 about1 = true := code_word (m := ⟨1, 2⟩) (meth := k1m2) (c := k1c2) (by decide +kernel) rfl rfl rfl (by decide +kernel)
set_option maxRecDepth 65536 in
theorem w_c3 : (Jvm.Cond.code ({ cls := "java/lang/String", name := "<init>", desc := "([C)V" } : Jvm.MethodName) jdk_42_method_3_code (2 : Nat) (Option.none : Option Jvm.ClassFile.FieldType)).before args0 about1 = true := code_word (m := ⟨7, 1⟩) (meth := k7m1) (c := k7c1) (by decide +kernel) rfl rfl rfl (by decide +kernel)
set_option maxRecDepth 65536 in
theorem w_c4 : (Jvm.Cond.code ({ cls := "java/lang/String", name := "<init>", desc := "([CIILjava/lang/Void;)V" } : Jvm.MethodName) jdk_42_method_149_code (6 : Nat) (Option.none : Option Jvm.ClassFile.FieldType)).before args0 about1 = true := code_word (m := ⟨7, 7⟩) (meth := k7m7) (c := k7c7) (by decide +kernel) rfl rfl rfl (by decide +kernel)
set_option maxRecDepth 65536 in
theorem w_c5 : (Jvm.Cond.code ({ cls := "java/lang/Object", name := "<init>", desc := "()V" } : Jvm.MethodName) object_method_1_code (1 : Nat) (Option.none : Option Jvm.ClassFile.FieldType)).before args0 about1 = true := code_word (m := ⟨0, 0⟩) (meth := k0m0) (c := k0c0) (by decide +kernel) rfl rfl rfl (by decide +kernel)
set_option maxRecDepth 65536 in
theorem w_c6 : (Jvm.Cond.code ({ cls := "com/example/inverness/inverness/HandOver", name := "token", desc := "(Ljava/lang/String;)Ljava/lang/String;" } : Jvm.MethodName) prog_3_method_2_code (2 : Nat) (Option.some (Jvm.ClassFile.FieldType.object "java/lang/String"))).before args0 about1 = true := code_word (m := ⟨8, 0⟩) (meth := k8m0) (c := k8c0) (by decide +kernel) rfl rfl rfl (by decide +kernel)
set_option maxRecDepth 65536 in
theorem w_c7 : (Jvm.Cond.code ({ cls := "java/lang/String", name := "indexOf", desc := "(I)I" } : Jvm.MethodName) jdk_42_method_79_code (2 : Nat) (Option.some Jvm.ClassFile.FieldType.int)).before args0 about1 = true := code_word (m := ⟨7, 4⟩) (meth := k7m4) (c := k7c4) (by decide +kernel) rfl rfl rfl (by decide +kernel)
set_option maxRecDepth 65536 in
theorem w_c8 : (Jvm.Cond.code ({ cls := "java/lang/String", name := "indexOf", desc := "(II)I" } : Jvm.MethodName) jdk_42_method_80_code (3 : Nat) (Option.some Jvm.ClassFile.FieldType.int)).before args0 about1 = true := code_word (m := ⟨7, 5⟩) (meth := k7m5) (c := k7c5) (by decide +kernel) rfl rfl rfl (by decide +kernel)
set_option maxRecDepth 65536 in
theorem w_c9 : (Jvm.Cond.code ({ cls := "java/lang/String", name := "isLatin1", desc := "()Z" } : Jvm.MethodName) jdk_42_method_154_code (1 : Nat) (Option.some Jvm.ClassFile.FieldType.boolean)).before args0 about1 = true := code_word (m := ⟨7, 10⟩) (meth := k7m10) (c := k7c10) (by decide +kernel) rfl rfl rfl (by decide +kernel)
set_option maxRecDepth 65536 in
theorem w_c10 : (Jvm.Cond.code ({ cls := "java/lang/String", name := "length", desc := "()I" } : Jvm.MethodName) jdk_42_method_54_code (1 : Nat) (Option.some Jvm.ClassFile.FieldType.int)).before args0 about1 = true := code_word (m := ⟨7, 2⟩) (meth := k7m2) (c := k7c2) (by decide +kernel) rfl rfl rfl (by decide +kernel)
set_option maxRecDepth 65536 in
theorem w_c11 : (Jvm.Cond.code ({ cls := "java/lang/String", name := "coder", desc := "()B" } : Jvm.MethodName) jdk_42_method_152_code (1 : Nat) (Option.some Jvm.ClassFile.FieldType.byte)).before args0 about1 = true := code_word (m := ⟨7, 9⟩) (meth := k7m9) (c := k7c9) (by decide +kernel) rfl rfl rfl (by decide +kernel)
set_option maxRecDepth 65536 in
theorem w_c12 : (Jvm.Cond.code ({ cls := "java/lang/StringLatin1", name := "indexOf", desc := "([BIII)I" } : Jvm.MethodName) jdk_43_method_22_code (4 : Nat) (Option.some Jvm.ClassFile.FieldType.int)).before args0 about1 = true := code_word (m := ⟨9, 3⟩) (meth := k9m3) (c := k9c3) (by decide +kernel) rfl rfl rfl (by decide +kernel)
set_option maxRecDepth 65536 in
theorem w_c13 : (Jvm.Cond.code ({ cls := "java/lang/StringLatin1", name := "canEncode", desc := "(I)Z" } : Jvm.MethodName) jdk_43_method_4_code (1 : Nat) (Option.some Jvm.ClassFile.FieldType.boolean)).before args0 about1 = true := code_word (m := ⟨9, 1⟩) (meth := k9m1) (c := k9c1) (by decide +kernel) rfl rfl rfl (by decide +kernel)
set_option maxRecDepth 65536 in
theorem w_c14 : (Jvm.Cond.code ({ cls := "java/lang/Math", name := "max", desc := "(II)I" } : Jvm.MethodName) jdk_29_method_65_code (2 : Nat) (Option.some Jvm.ClassFile.FieldType.int)).before args0 about1 = true := code_word (m := ⟨10, 1⟩) (meth := k10m1) (c := k10c1) (by decide +kernel) rfl rfl rfl (by decide +kernel)
set_option maxRecDepth 65536 in
theorem w_c15 : (Jvm.Cond.code ({ cls := "java/lang/Math", name := "min", desc := "(II)I" } : Jvm.MethodName) jdk_29_method_69_code (2 : Nat) (Option.some Jvm.ClassFile.FieldType.int)).before args0 about1 = true := code_word (m := ⟨10, 2⟩) (meth := k10m2) (c := k10c2) (by decide +kernel) rfl rfl rfl (by decide +kernel)
set_option maxRecDepth 65536 in
theorem w_c16 : (Jvm.Cond.code ({ cls := "java/lang/String", name := "equals", desc := "(Ljava/lang/Object;)Z" } : Jvm.MethodName) jdk_42_method_66_code (3 : Nat) (Option.some Jvm.ClassFile.FieldType.boolean)).before args0 about1 = true := code_word (m := ⟨7, 3⟩) (meth := k7m3) (c := k7c3) (by decide +kernel) rfl rfl rfl (by decide +kernel)
set_option maxRecDepth 65536 in
theorem w_c17 : (Jvm.Cond.code ({ cls := "java/lang/StringLatin1", name := "equals", desc := "([B[B)Z" } : Jvm.MethodName) jdk_43_method_13_code (3 : Nat) (Option.some Jvm.ClassFile.FieldType.boolean)).before args0 about1 = true := code_word (m := ⟨9, 2⟩) (meth := k9m2) (c := k9c2) (by decide +kernel) rfl rfl rfl (by decide +kernel)
set_option maxRecDepth 65536 in
theorem w_c18 : (Jvm.Cond.code ({ cls := "java/lang/StringUTF16", name := "compress", desc := "([CII)[B" } : Jvm.MethodName) jdk_52_method_16_code (6 : Nat) (Option.some (Jvm.ClassFile.FieldType.array Jvm.ClassFile.FieldType.byte))).before args0 about1 = true := code_word (m := ⟨11, 2⟩) (meth := k11m2) (c := k11c2) (by decide +kernel) rfl rfl rfl (by decide +kernel)
set_option maxRecDepth 65536 in
theorem w_c19 : (Jvm.Cond.code ({ cls := "java/lang/StringUTF16", name := "compress", desc := "([CI[BII)I" } : Jvm.MethodName) jdk_52_method_21_code (7 : Nat) (Option.some Jvm.ClassFile.FieldType.int)).before args0 about1 = true := code_word (m := ⟨11, 3⟩) (meth := k11m3) (c := k11c3) (by decide +kernel) rfl rfl rfl (by decide +kernel)
set_option maxRecDepth 65536 in
theorem w_c20 : (Jvm.Cond.code ({ cls := "java/lang/StringUTF16", name := "coderFromArrayLen", desc := "([BI)B" } : Jvm.MethodName) jdk_52_method_15_code (2 : Nat) (Option.some Jvm.ClassFile.FieldType.byte)).before args0 about1 = true := code_word (m := ⟨11, 1⟩) (meth := k11m1) (c := k11c1) (by decide +kernel) rfl rfl rfl (by decide +kernel)
set_option maxRecDepth 65536 in
theorem w_c21 : (Jvm.Cond.code ({ cls := "java/lang/StringLatin1", name := "indexOfChar", desc := "([BIII)I" } : Jvm.MethodName) jdk_43_method_23_code (6 : Nat) (Option.some Jvm.ClassFile.FieldType.int)).before args0 about1 = true := code_word (m := ⟨9, 4⟩) (meth := k9m4) (c := k9c4) (by decide +kernel) rfl rfl rfl (by decide +kernel)
set_option maxRecDepth 65536 in
theorem w_c22 : (Jvm.Cond.code ({ cls := "java/lang/String", name := "substring", desc := "(II)Ljava/lang/String;" } : Jvm.MethodName) jdk_42_method_92_code (5 : Nat) (Option.some (Jvm.ClassFile.FieldType.object "java/lang/String"))).before args0 about1 = true := code_word (m := ⟨7, 6⟩) (meth := k7m6) (c := k7c6) (by decide +kernel) rfl rfl rfl (by decide +kernel)
set_option maxRecDepth 65536 in
theorem w_c23 : (Jvm.Cond.code ({ cls := "java/lang/String", name := "checkBoundsBeginEnd", desc := "(III)V" } : Jvm.MethodName) jdk_42_method_158_code (3 : Nat) (Option.none : Option Jvm.ClassFile.FieldType)).before args0 about1 = true := code_word (m := ⟨7, 11⟩) (meth := k7m11) (c := k7c11) (by decide +kernel) rfl rfl rfl (by decide +kernel)
set_option maxRecDepth 65536 in
theorem w_c24 : (Jvm.Cond.code ({ cls := "jdk/internal/util/Preconditions", name := "checkFromToIndex", desc := "(IIILjava/util/function/BiFunction;)I" } : Jvm.MethodName) jdk_41_method_12_code (4 : Nat) (Option.some Jvm.ClassFile.FieldType.int)).before args0 about1 = true := code_word (m := ⟨12, 1⟩) (meth := k12m1) (c := k12c1) (by decide +kernel) rfl rfl rfl (by decide +kernel)
set_option maxRecDepth 65536 in
theorem w_c25 : (Jvm.Cond.code ({ cls := "java/lang/StringLatin1", name := "newString", desc := "([BII)Ljava/lang/String;" } : Jvm.MethodName) jdk_43_method_47_code (3 : Nat) (Option.some (Jvm.ClassFile.FieldType.object "java/lang/String"))).before args0 about1 = true := code_word (m := ⟨9, 5⟩) (meth := k9m5) (c := k9c5) (by decide +kernel) rfl rfl rfl (by decide +kernel)
set_option maxRecDepth 65536 in
theorem w_c26 : (Jvm.Cond.code ({ cls := "java/util/Arrays", name := "copyOfRange", desc := "([BII)[B" } : Jvm.MethodName) jdk_65_method_132_code (3 : Nat) (Option.some (Jvm.ClassFile.FieldType.array Jvm.ClassFile.FieldType.byte))).before args0 about1 = true := code_word (m := ⟨13, 2⟩) (meth := k13m2) (c := k13c2) (by decide +kernel) rfl rfl rfl (by decide +kernel)
set_option maxRecDepth 65536 in
theorem w_c27 : (Jvm.Cond.code ({ cls := "java/util/Arrays", name := "copyOfRangeByte", desc := "([BII)[B" } : Jvm.MethodName) jdk_65_method_133_code (5 : Nat) (Option.some (Jvm.ClassFile.FieldType.array Jvm.ClassFile.FieldType.byte))).before args0 about1 = true := code_word (m := ⟨13, 3⟩) (meth := k13m3) (c := k13c3) (by decide +kernel) rfl rfl rfl (by decide +kernel)
set_option maxRecDepth 65536 in
theorem w_c28 : (Jvm.Cond.code ({ cls := "java/util/Arrays", name := "checkLength", desc := "(II)V" } : Jvm.MethodName) jdk_65_method_131_code (2 : Nat) (Option.none : Option Jvm.ClassFile.FieldType)).before args0 about1 = true := code_word (m := ⟨13, 1⟩) (meth := k13m1) (c := k13c1) (by decide +kernel) rfl rfl rfl (by decide +kernel)
set_option maxRecDepth 65536 in
theorem w_c29 : (Jvm.Cond.code ({ cls := "java/lang/String", name := "<init>", desc := "([BB)V" } : Jvm.MethodName) jdk_42_method_151_code (3 : Nat) (Option.none : Option Jvm.ClassFile.FieldType)).before args0 about1 = true := code_word (m := ⟨7, 8⟩) (meth := k7m8) (c := k7c8) (by decide +kernel) rfl rfl rfl (by decide +kernel)
def codes1 : List Jvm.Cond := [Jvm.Cond.code x code maxLocals ret, Jvm.Cond.code ({ cls := "com/example/inverness/inverness/HandOverTokenPinLaw", name := "draw", desc := "(I)C" } : Jvm.MethodName) method_2_code (1 : Nat) (Option.some Jvm.ClassFile.FieldType.char), Jvm.Cond.code ({ cls := "com/example/inverness/inverness/HandOverTokenPinLaw", name := "pre", desc := "(CCCCI)Ljava/lang/String;" } : Jvm.MethodName) method_3_code (5 : Nat) (Option.some (Jvm.ClassFile.FieldType.object "java/lang/String")), Jvm.Cond.code ({ cls := "java/lang/String", name := "<init>", desc := "([C)V" } : Jvm.MethodName) jdk_42_method_3_code (2 : Nat) (Option.none : Option Jvm.ClassFile.FieldType), Jvm.Cond.code ({ cls := "java/lang/String", name := "<init>", desc := "([CIILjava/lang/Void;)V" } : Jvm.MethodName) jdk_42_method_149_code (6 : Nat) (Option.none : Option Jvm.ClassFile.FieldType), Jvm.Cond.code ({ cls := "java/lang/Object", name := "<init>", desc := "()V" } : Jvm.MethodName) object_method_1_code (1 : Nat) (Option.none : Option Jvm.ClassFile.FieldType), Jvm.Cond.code ({ cls := "com/example/inverness/inverness/HandOver", name := "token", desc := "(Ljava/lang/String;)Ljava/lang/String;" } : Jvm.MethodName) prog_3_method_2_code (2 : Nat) (Option.some (Jvm.ClassFile.FieldType.object "java/lang/String")), Jvm.Cond.code ({ cls := "java/lang/String", name := "indexOf", desc := "(I)I" } : Jvm.MethodName) jdk_42_method_79_code (2 : Nat) (Option.some Jvm.ClassFile.FieldType.int), Jvm.Cond.code ({ cls := "java/lang/String", name := "indexOf", desc := "(II)I" } : Jvm.MethodName) jdk_42_method_80_code (3 : Nat) (Option.some Jvm.ClassFile.FieldType.int), Jvm.Cond.code ({ cls := "java/lang/String", name := "isLatin1", desc := "()Z" } : Jvm.MethodName) jdk_42_method_154_code (1 : Nat) (Option.some Jvm.ClassFile.FieldType.boolean), Jvm.Cond.code ({ cls := "java/lang/String", name := "length", desc := "()I" } : Jvm.MethodName) jdk_42_method_54_code (1 : Nat) (Option.some Jvm.ClassFile.FieldType.int), Jvm.Cond.code ({ cls := "java/lang/String", name := "coder", desc := "()B" } : Jvm.MethodName) jdk_42_method_152_code (1 : Nat) (Option.some Jvm.ClassFile.FieldType.byte), Jvm.Cond.code ({ cls := "java/lang/StringLatin1", name := "indexOf", desc := "([BIII)I" } : Jvm.MethodName) jdk_43_method_22_code (4 : Nat) (Option.some Jvm.ClassFile.FieldType.int), Jvm.Cond.code ({ cls := "java/lang/StringLatin1", name := "canEncode", desc := "(I)Z" } : Jvm.MethodName) jdk_43_method_4_code (1 : Nat) (Option.some Jvm.ClassFile.FieldType.boolean), Jvm.Cond.code ({ cls := "java/lang/Math", name := "max", desc := "(II)I" } : Jvm.MethodName) jdk_29_method_65_code (2 : Nat) (Option.some Jvm.ClassFile.FieldType.int), Jvm.Cond.code ({ cls := "java/lang/Math", name := "min", desc := "(II)I" } : Jvm.MethodName) jdk_29_method_69_code (2 : Nat) (Option.some Jvm.ClassFile.FieldType.int), Jvm.Cond.code ({ cls := "java/lang/String", name := "equals", desc := "(Ljava/lang/Object;)Z" } : Jvm.MethodName) jdk_42_method_66_code (3 : Nat) (Option.some Jvm.ClassFile.FieldType.boolean), Jvm.Cond.code ({ cls := "java/lang/StringLatin1", name := "equals", desc := "([B[B)Z" } : Jvm.MethodName) jdk_43_method_13_code (3 : Nat) (Option.some Jvm.ClassFile.FieldType.boolean), Jvm.Cond.code ({ cls := "java/lang/StringUTF16", name := "compress", desc := "([CII)[B" } : Jvm.MethodName) jdk_52_method_16_code (6 : Nat) (Option.some (Jvm.ClassFile.FieldType.array Jvm.ClassFile.FieldType.byte)), Jvm.Cond.code ({ cls := "java/lang/StringUTF16", name := "compress", desc := "([CI[BII)I" } : Jvm.MethodName) jdk_52_method_21_code (7 : Nat) (Option.some Jvm.ClassFile.FieldType.int), Jvm.Cond.code ({ cls := "java/lang/StringUTF16", name := "coderFromArrayLen", desc := "([BI)B" } : Jvm.MethodName) jdk_52_method_15_code (2 : Nat) (Option.some Jvm.ClassFile.FieldType.byte), Jvm.Cond.code ({ cls := "java/lang/StringLatin1", name := "indexOfChar", desc := "([BIII)I" } : Jvm.MethodName) jdk_43_method_23_code (6 : Nat) (Option.some Jvm.ClassFile.FieldType.int), Jvm.Cond.code ({ cls := "java/lang/String", name := "substring", desc := "(II)Ljava/lang/String;" } : Jvm.MethodName) jdk_42_method_92_code (5 : Nat) (Option.some (Jvm.ClassFile.FieldType.object "java/lang/String")), Jvm.Cond.code ({ cls := "java/lang/String", name := "checkBoundsBeginEnd", desc := "(III)V" } : Jvm.MethodName) jdk_42_method_158_code (3 : Nat) (Option.none : Option Jvm.ClassFile.FieldType), Jvm.Cond.code ({ cls := "jdk/internal/util/Preconditions", name := "checkFromToIndex", desc := "(IIILjava/util/function/BiFunction;)I" } : Jvm.MethodName) jdk_41_method_12_code (4 : Nat) (Option.some Jvm.ClassFile.FieldType.int), Jvm.Cond.code ({ cls := "java/lang/StringLatin1", name := "newString", desc := "([BII)Ljava/lang/String;" } : Jvm.MethodName) jdk_43_method_47_code (3 : Nat) (Option.some (Jvm.ClassFile.FieldType.object "java/lang/String")), Jvm.Cond.code ({ cls := "java/util/Arrays", name := "copyOfRange", desc := "([BII)[B" } : Jvm.MethodName) jdk_65_method_132_code (3 : Nat) (Option.some (Jvm.ClassFile.FieldType.array Jvm.ClassFile.FieldType.byte)), Jvm.Cond.code ({ cls := "java/util/Arrays", name := "copyOfRangeByte", desc := "([BII)[B" } : Jvm.MethodName) jdk_65_method_133_code (5 : Nat) (Option.some (Jvm.ClassFile.FieldType.array Jvm.ClassFile.FieldType.byte)), Jvm.Cond.code ({ cls := "java/util/Arrays", name := "checkLength", desc := "(II)V" } : Jvm.MethodName) jdk_65_method_131_code (2 : Nat) (Option.none : Option Jvm.ClassFile.FieldType), Jvm.Cond.code ({ cls := "java/lang/String", name := "<init>", desc := "([BB)V" } : Jvm.MethodName) jdk_42_method_151_code (3 : Nat) (Option.none : Option Jvm.ClassFile.FieldType)]
set_option maxRecDepth 65536 in
theorem codes_eq : words1.filter isCode = codes1 := rfl
theorem w_codes : ∀ c ∈ words1.filter isCode, c.before args0 about1 = true := by
  rw [codes_eq]
  intro c hc
  simp only [codes1, List.mem_cons, List.not_mem_nil, or_false] at hc
  rcases hc with rfl | rfl | rfl | rfl | rfl | rfl | rfl | rfl | rfl | rfl | rfl | rfl | rfl | rfl | rfl | rfl | rfl | rfl | rfl | rfl | rfl | rfl | rfl | rfl | rfl | rfl | rfl | rfl | rfl | rfl
  · exact w_c0
  · exact w_c1
  · exact w_c2
  · exact w_c3
  · exact w_c4
  · exact w_c5
  · exact w_c6
  · exact w_c7
  · exact w_c8
  · exact w_c9
  · exact w_c10
  · exact w_c11
  · exact w_c12
  · exact w_c13
  · exact w_c14
  · exact w_c15
  · exact w_c16
  · exact w_c17
  · exact w_c18
  · exact w_c19
  · exact w_c20
  · exact w_c21
  · exact w_c22
  · exact w_c23
  · exact w_c24
  · exact w_c25
  · exact w_c26
  · exact w_c27
  · exact w_c28
  · exact w_c29
set_option maxRecDepth 65536 in
theorem w_t1 : (words1.take 24).all (fun c => isCode c || c.before args0 about1) = true := by decide +kernel
set_option maxRecDepth 65536 in
theorem w_t2 : ((words1.drop 24).take 24).all (fun c => isCode c || c.before args0 about1) = true := by decide +kernel
set_option maxRecDepth 65536 in
theorem w_t3 : (((words1.drop 24).drop 24).take 24).all (fun c => isCode c || c.before args0 about1) = true := by decide +kernel
set_option maxRecDepth 65536 in
theorem w_t4 : ((((words1.drop 24).drop 24).drop 24).take 24).all (fun c => isCode c || c.before args0 about1) = true := by decide +kernel
set_option maxRecDepth 65536 in
theorem w_t5 : (((((words1.drop 24).drop 24).drop 24).drop 24).take 24).all (fun c => isCode c || c.before args0 about1) = true := by decide +kernel
set_option maxRecDepth 65536 in
theorem w_t6 : (((((words1.drop 24).drop 24).drop 24).drop 24).drop 24).all (fun c => isCode c || c.before args0 about1) = true := by decide +kernel
theorem w_tables : (allAtoms (Jvm.Cond.code x code maxLocals ret :: tables_1)).before args0 about1 = true := by
  rw [allAtoms_all]
  show words1.all (fun c => c.before args0 about1) = true
  refine all_split ?_ w_codes
  rw [← List.take_append_drop 24 words1, List.all_append, w_t1, ← List.take_append_drop 24 (words1.drop 24), List.all_append, w_t2, ← List.take_append_drop 24 ((words1.drop 24).drop 24), List.all_append, w_t3, ← List.take_append_drop 24 (((words1.drop 24).drop 24).drop 24), List.all_append, w_t4, ← List.take_append_drop 24 ((((words1.drop 24).drop 24).drop 24).drop 24), List.all_append, w_t5, w_t6]
  rfl
set_option maxRecDepth 65536 in
theorem w_rest : rest_1_c.before args0 about1 = true := by decide +kernel
set_option maxRecDepth 65536 in
theorem w_case : (Jvm.Cond.and given_1 narrow_1).before args0 about1 = true := by decide +kernel
set_option maxRecDepth 65536 in
theorem w_consts : constsHeld consts_1 about1 := Jvm.Lit.constsHeldB_iff.mp (by decide +kernel)
theorem w_applies : (headSpec (Jvm.Cond.code x code maxLocals ret :: tables_1) room_1).applies x e0.platform about1 = true :=
  (Spec.applies_iff w_frames).mpr ⟨w_running, w_runnable, w_alone, w_named, w_hears, w_ripe, w_room, w_tables⟩
theorem atStart : AtStart classFile x code maxLocals ret World_1 tables_1 room_1 Calls_1 rest_1 Pre_1 launch0 p0 e0 about1 theMethod args0 below0 :=
  ⟨lists_1, trivial, launch0.admits_env _ _ _, launch0.least_env, fairChoices_fair.cas, fairChoices_fair.clock, w_frames, w_args, w_heap, w_applies, ⟨w_consts, trivial⟩, w_rest, w_case⟩
end start1
theorem witness_1 : WitnessClaimed_1 := ⟨start1.p0, start1.e0, start1.about1, start1.theMethod, start1.args0, start1.below0, start1.atStart⟩
end Jvm.Pilot.@@N@@
