import JvmDerived
import JvmDerived.Pilot.@@N@@Statement
import JvmDerived.Pilot.@@N@@Code
set_option linter.unusedVariables false
set_option linter.unusedSimpArgs false
@@BLOCK:NumsL.lean.txt@@
namespace Jvm.Pilot.@@N@@
open Jvm Jvm.ClassFile Sem Op Lib Jvm.Free Jvm.Stand Jvm.LawKit Jvm.RoadKit Bundle Jvm.Pilot.@@N@@.Jvm.D
/-! ## The walk layer: where a walk stands (On), what is fixed in it (Cx), the goal (Gl), a method's contract (Con) -/
def Sf (Z : State) (EL : List (String × Nat)) (vm : Vm) (h : Heap) (PS : List Addr) : Prop := ∀ x ∈ PS, x < h.size ∧ Safe Z EL vm h x
def On (p : Program) (l : Launch) (e : Env) (R : Room) (s : State) (m : MethodId) (args : Array Value) (below : List Frame) (meth : Method) (c : Code) (Z : State) (EL : List (String × Nat)) (own : String) (n0 : Nat) (T : State) (h : Heap) (PS : List Addr) (k n : Nat) : Prop :=
  ∃ locs vm0 k1, Stand p l e R (s.setVm vm0) m args below meth c T locs k n ∧ Fr n0 locs ∧ T.heap = h ∧ s.Since vm0 k1 ∧ k1 ≤ h.size ∧ Z.Warmed39 vm0 ∧ vm0.findClass own = some m.cls ∧ CHr Z EL s.vm s.heap vm0 h ∧ Sf Z EL vm0 h PS
def Cx (p : Program) (m : MethodId) (meth : Method) (c : Code) (Z : State) (EL : List (String × Nat)) (a0 : Array Value) (own name : String) (cod : ByteArray) (maxL : Nat) (ret : Option FieldType) : Prop :=
  p.tables.exec = Jvm.exec ∧ (EW Z a0 EL ∧ ∀ a ∈ Bundle.stringAtoms, a.before a0 Z = true) ∧ c.code = cod ∧ c.maxLocals = maxL ∧ True ∧ meth.name = name ∧ meth.sig.returnType = ret ∧ meth.locks = false
def Gl (p : Program) (e : Env) (below : List Frame) (s : State) (Z : State) (EL : List (String × Nat)) (R : Room) (n0 : Nat) (Q : Option Value → Heap → List Addr → Prop) (T : State) (g : JFrame) : Prop :=
  ∃ s₂ o, Steps p.tables e below (T.setTop g) s₂ ∧ s₂.status = .running ∧ Ended s₂ below o ∧ ∃ v L, o = .returned v ∧ (∃ PS, Q v s₂.heap PS ∧ Fr n0 L ∧ Sf Z EL s₂.vm s₂.heap PS) ∧ CHr Z EL s.vm s.heap s₂.vm s₂.heap ∧ ReturnedEndW s o s₂ L R.cells R.slots
def Con (l : Launch) (Z : State) (EL : List (String × Nat)) (P0 : List Addr) (y : MethodName) (cod : ByteArray) (maxL : Nat) (ret : Option FieldType) (rm : Room) (as : Array Value) (h0 : Heap) (n0 : Nat) (Q : Option Value → Heap → List Addr → Prop) : Prop :=
  ∀ ws, MetFree l y (head1 (Jvm.Cond.code y cod maxL ret :: ws) rm) (fun a U => a = as ∧ Z.Warmed39 U.vm ∧ U.heap = h0 ∧ CHv Z EL U.vm h0 ∧ Sf Z EL U.vm h0 P0) (fun _ _ _ _ _ => True) (fun _ U o U' => ∃ v L, o = .returned v ∧ (∃ PS, Q v U'.heap PS ∧ Fr n0 L ∧ Sf Z EL U'.vm U'.heap PS) ∧ CHr Z EL U.vm U.heap U'.vm U'.heap ∧ ReturnedEndW U o U' L rm.cells rm.slots)
section OwnKit
variable {EL : List (String × Nat)} {PS : List Addr} {p : Program} {l : Launch} {e : Env} {R : Room} {s : State} {m : MethodId} {args : Array Value} {below : List Frame} {meth : Method} {c : Code} {Z : State} {a0 : Array Value} {n0 : Nat} {T : State} {h h' h0 : Heap} {k n : Nat} {own name : String} {cod : ByteArray} {maxL : Nat} {ret : Option FieldType} {Q : Option Value → Heap → List Addr → Prop} {pc pc' pf : Nat} {L L' : Array Slot} {r : List Value} {a b : Addr}
theorem Sf.chr {vm vm1 : Vm} {P : List Addr} (F : Sf Z EL vm h P) (A : CHr Z EL vm h vm1 h') : Sf Z EL vm1 h' P := fun x q => ⟨Nat.lt_of_lt_of_le (F x q).1 A.2.1, A.safe (F x q).1 (F x q).2⟩
theorem Sf.cons {vm : Vm} {P : List Addr} {a : Addr} (F : Sf Z EL vm h P) (h1 : a < h.size) (h2 : Safe Z EL vm h a) : Sf Z EL vm h (a :: P) := fun x q => by
  rcases List.mem_cons.mp q with rfl | q
  · exact ⟨h1, h2⟩
  · exact F x q
theorem Sf.app {vm : Vm} {P P' : List Addr} (F : Sf Z EL vm h P) (F' : Sf Z EL vm h P') : Sf Z EL vm h (P ++ P') := fun x q => (List.mem_append.mp q).elim (F x) (F' x)
theorem Sf.sub {vm : Vm} {P P' : List Addr} (F : Sf Z EL vm h P) (q : ∀ x ∈ P', x ∈ P) : Sf Z EL vm h P' := fun x z => F x (q x z)
theorem Gl.st {T' : State} {g g' : JFrame} (kk : Gl p e below s Z EL R n0 Q T' g') (hs : ∀ t, Steps p.tables e below (T'.setTop g') t → Steps p.tables e below (T.setTop g) t) : Gl p e below s Z EL R n0 Q T g := by
  obtain ⟨s2, o, h1, q⟩ := kk; exact ⟨s2, o, hs _ h1, q⟩
theorem since_refl (s : State) : s.Since s.vm s.heap.size := (State.WarmedH.refl s).since _
theorem Con.of {y : MethodName} {rm : Room} {as : Array Value} {P0 : List Addr} (hpl : plainFor y = true) (hEL : EW Z a0 EL ∧ ∀ a ∈ Bundle.stringAtoms, a.before a0 Z = true) {L0 : Array Slot} (hef : ∀ m, entryFrame m as maxL = mkF m 0 L0 [])
    (body : ∀ (p : Program) (e : Env) (s : State) (m : MethodId) (below : List Frame) (meth : Method) (c : Code) (T : State), Cx p m meth c Z EL a0 y.cls y.name cod maxL ret → On p l e rm s m as below meth c Z EL y.cls n0 T h0 P0 0 0 → Gl p e below s Z EL rm n0 Q T (mkF m 0 L0 [])) :
    Con l Z EL P0 y cod maxL ret rm as h0 n0 Q := by
  intro ws
  refine MetFree.of_bodySF hpl hisR ?_
  intro p e s m args below meth c s₁ Bd hml0 hP hK
  obtain ⟨rfl, hZ, hh, hC, hF⟩ := hP
  have e0 : s₁.heap = h0 := by rw [← hh, Bd.state]; rfl
  have q := body p e s m below meth c s₁ ⟨Bd.exec, hEL, Bd.bytes, hml0, trivial, (name_of_methodNamed Bd.named Bd.method).1, Bd.returns, Bd.notSynchronized⟩ ⟨[], s.vm, s.heap.size, Stand.of_body Bd, Fr.nil n0, e0, since_refl s, Nat.le_of_eq (by rw [hh]), hZ, findClass_of_methodNamed Bd.named, by rw [hh]; exact CHr.refl hC, hF⟩
  rw [← hef m] at q
  exact q
theorem Con.imp {y : MethodName} {rm : Room} {as : Array Value} {P0 : List Addr} {Q' : Option Value → Heap → List Addr → Prop} (K : Con l Z EL P0 y cod maxL ret rm as h0 n0 Q) (hq : ∀ v h P, Q v h P → Q' v h P) : Con l Z EL P0 y cod maxL ret rm as h0 n0 Q' := by
  intro ws p e ha hc hk s m args below hf happ hP hK
  obtain ⟨n, o, h1, h2, h3, v, L, h4, ⟨PS, h5, h6⟩, h7⟩ := K ws p e ha hc hk s m args below hf happ hP hK
  exact ⟨n, o, h1, h2, h3, v, L, h4, ⟨PS, hq _ _ _ h5, h6⟩, h7⟩
theorem backW {vm0 : Vm} {y : MethodName} {bytes : ByteArray} {rm : Room} {len W : Nat} {as' : Array Value} {P0 : List Addr} {s : State} {args : Array Value}
    (hM : MetFree l y (head1 [Jvm.Cond.code y bytes maxL ret] rm) (fun a U => a = as' ∧ Z.Warmed39 U.vm ∧ U.heap = h ∧ CHv Z EL U.vm h ∧ Sf Z EL U.vm h P0) (fun _ _ _ _ _ => True) (fun _ U o U' => ∃ v L, o = .returned v ∧ (∃ PS, Q v U'.heap PS ∧ Fr n0 L ∧ Sf Z EL U'.vm U'.heap PS) ∧ CHr Z EL U.vm U.heap U'.vm U'.heap ∧ ReturnedEndW U o U' L rm.cells rm.slots))
    (hZ : Z.Warmed39 vm0) (wc : (Jvm.Cond.code y bytes maxL ret).before a0 Z = true) (wz : (Jvm.Cond.initialized y.cls).before a0 Z = true) (hf : rm.frames + 1 ≤ R.frames) (hl : W + (maxL + 11) + rm.locals ≤ R.locals) (hEL : EW Z a0 EL) (H : CHv Z EL vm0 h) (F : Sf Z EL vm0 h P0) :
    BackS l R p e below (s.setVm vm0) args y len W (fun A a => a = as' ∧ A.U.heap = h ∧ A.cells + rm.cells ≤ R.cells ∧ A.slots + rm.slots ≤ R.slots)
      (fun A _ v B => ∃ L, (∃ PS, Q v B.U.heap PS ∧ Fr n0 L ∧ Sf Z EL B.U.vm B.U.heap PS) ∧ B.locs = A.locs ++ L ∧ B.cells = A.cells + rm.cells ∧ B.slots = A.slots + rm.slots ∧ CHr Z EL vm0 h B.U.vm B.U.heap) :=
  BackS.of_freeW (bytes := bytes) (maxL := maxL) (ret := ret) (E := fun _ first o t L k n => k = rm.cells ∧ n = rm.slots ∧ (∃ v, o = .returned v ∧ (∃ PS, Q v t.heap PS ∧ Fr n0 L ∧ Sf Z EL t.vm t.heap PS)) ∧ CHr Z EL first.vm first.heap t.vm t.heap) hM hf hl
    (fun m meth c A a Y hp => have hU : Z.Warmed39 A.U.vm := wtrans (s := s.setVm vm0) hZ Y.warmed
      ⟨by show (Jvm.Cond.and _ .tt).before a A.U = true; rw [Jvm.Cond.before_and, mv hU wc]; rfl, mv hU wc, mv hU wz, hp.2.2.1, hp.2.2.2⟩)
    (fun m meth c A a g mk Y hp => ⟨hp.1, wtrans (s := s.setVm vm0) hZ Y.warmed, hp.2.1, (CHv.at Y hZ hEL H).1, show Sf Z EL A.U.vm h P0 from F.chr (CHv.at (T := A.U) Y hZ hEL H)⟩) (fun _ _ _ _ _ _ _ _ _ => trivial)
    (fun _ _ _ _ ⟨v, L, h1, h2, h3, h4⟩ => ⟨L, _, _, h4, rfl, rfl, ⟨v, h1, h2⟩, h3⟩)
    (fun m meth c A a g mk v t L k n Y hp _ _ ⟨e1, e2, ⟨v', e3, e4⟩, e5⟩ => by
      cases e3; subst e1 e2
      refine ⟨L, e4, rfl, rfl, rfl, (CHv.at Y hZ hEL H).trans ?_⟩
      rw [← hp.2.1]; exact e5)
theorem g_iload (C : Cx p m meth c Z EL a0 own name cod maxL ret) (S : On p l e R s m args below meth c Z EL own n0 T h PS k n) {i : Nat} {v : Int32} (hd : decode cod pc = .ok (.iload i, 2)) (hp : pc + 2 = pc') (hl : L[i]? = some (.val (.int v))) (kk : Gl p e below s Z EL R n0 Q T (mkF m pc' L (.int v :: r))) : Gl p e below s Z EL R n0 Q T (mkF m pc L r) := by
  obtain ⟨locs, vm0, k1, X, -⟩ := S; subst hp
  exact kk.st fun _ q => XS.iload X.here C.1 rfl (hb C.2.2.1 hd) hl q
theorem g_iloadN (C : Cx p m meth c Z EL a0 own name cod maxL ret) (S : On p l e R s m args below meth c Z EL own n0 T h PS k n) {i : Fin 4} {v : Int32} (hd : decode cod pc = .ok (.iload_n i, 1)) (hp : pc + 1 = pc') (hl : L[i.val]? = some (.val (.int v))) (kk : Gl p e below s Z EL R n0 Q T (mkF m pc' L (.int v :: r))) : Gl p e below s Z EL R n0 Q T (mkF m pc L r) := by
  obtain ⟨locs, vm0, k1, X, -⟩ := S; subst hp
  exact kk.st fun _ q => XS.iloadN X.here C.1 rfl (hb C.2.2.1 hd) hl q
theorem g_istore (C : Cx p m meth c Z EL a0 own name cod maxL ret) (S : On p l e R s m args below meth c Z EL own n0 T h PS k n) {i : Nat} {v : Int32} (hd : decode cod pc = .ok (.istore i, 2)) (hp : pc + 2 = pc') (hl : storeLocals L i (.int v) = some L') (kk : Gl p e below s Z EL R n0 Q T (mkF m pc' L' r)) : Gl p e below s Z EL R n0 Q T (mkF m pc L (.int v :: r)) := by
  obtain ⟨locs, vm0, k1, X, -⟩ := S; subst hp
  exact kk.st fun _ q => XS.istore X.here C.1 rfl (hb C.2.2.1 hd) rfl hl q
theorem g_istoreN (C : Cx p m meth c Z EL a0 own name cod maxL ret) (S : On p l e R s m args below meth c Z EL own n0 T h PS k n) {i : Fin 4} {v : Int32} (hd : decode cod pc = .ok (.istore_n i, 1)) (hp : pc + 1 = pc') (hl : storeLocals L i.val (.int v) = some L') (kk : Gl p e below s Z EL R n0 Q T (mkF m pc' L' r)) : Gl p e below s Z EL R n0 Q T (mkF m pc L (.int v :: r)) := by
  obtain ⟨locs, vm0, k1, X, -⟩ := S; subst hp
  exact kk.st fun _ q => XS.istoreN X.here C.1 rfl (hb C.2.2.1 hd) rfl hl q
theorem g_lload (C : Cx p m meth c Z EL a0 own name cod maxL ret) (S : On p l e R s m args below meth c Z EL own n0 T h PS k n) {i : Nat} {v : Int64} (hd : decode cod pc = .ok (.lload i, 2)) (hp : pc + 2 = pc') (hl : L[i]? = some (.val (.long v))) (kk : Gl p e below s Z EL R n0 Q T (mkF m pc' L (.long v :: r))) : Gl p e below s Z EL R n0 Q T (mkF m pc L r) := by
  obtain ⟨locs, vm0, k1, X, -⟩ := S; subst hp
  exact kk.st fun _ q => XS.lload X.here C.1 rfl (hb C.2.2.1 hd) hl q
theorem g_lloadN (C : Cx p m meth c Z EL a0 own name cod maxL ret) (S : On p l e R s m args below meth c Z EL own n0 T h PS k n) {i : Fin 4} {v : Int64} (hd : decode cod pc = .ok (.lload_n i, 1)) (hp : pc + 1 = pc') (hl : L[i.val]? = some (.val (.long v))) (kk : Gl p e below s Z EL R n0 Q T (mkF m pc' L (.long v :: r))) : Gl p e below s Z EL R n0 Q T (mkF m pc L r) := by
  obtain ⟨locs, vm0, k1, X, -⟩ := S; subst hp
  exact kk.st fun _ q => XS.lloadN X.here C.1 rfl (hb C.2.2.1 hd) hl q
theorem g_lstore (C : Cx p m meth c Z EL a0 own name cod maxL ret) (S : On p l e R s m args below meth c Z EL own n0 T h PS k n) {i : Nat} {v : Int64} (hd : decode cod pc = .ok (.lstore i, 2)) (hp : pc + 2 = pc') (hl : storeLocals L i (.long v) = some L') (kk : Gl p e below s Z EL R n0 Q T (mkF m pc' L' r)) : Gl p e below s Z EL R n0 Q T (mkF m pc L (.long v :: r)) := by
  obtain ⟨locs, vm0, k1, X, -⟩ := S; subst hp
  exact kk.st fun _ q => XS.lstore X.here C.1 rfl (hb C.2.2.1 hd) rfl hl q
theorem g_lstoreN (C : Cx p m meth c Z EL a0 own name cod maxL ret) (S : On p l e R s m args below meth c Z EL own n0 T h PS k n) {i : Fin 4} {v : Int64} (hd : decode cod pc = .ok (.lstore_n i, 1)) (hp : pc + 1 = pc') (hl : storeLocals L i.val (.long v) = some L') (kk : Gl p e below s Z EL R n0 Q T (mkF m pc' L' r)) : Gl p e below s Z EL R n0 Q T (mkF m pc L (.long v :: r)) := by
  obtain ⟨locs, vm0, k1, X, -⟩ := S; subst hp
  exact kk.st fun _ q => XS.lstoreN X.here C.1 rfl (hb C.2.2.1 hd) rfl hl q
theorem g_aload (C : Cx p m meth c Z EL a0 own name cod maxL ret) (S : On p l e R s m args below meth c Z EL own n0 T h PS k n) {i : Nat} {v : Value} (hd : decode cod pc = .ok (.aload i, 2)) (hp : pc + 2 = pc') (hl : L[i]? = some (.val v)) (hv : v.isRef = true) (kk : Gl p e below s Z EL R n0 Q T (mkF m pc' L (v :: r))) : Gl p e below s Z EL R n0 Q T (mkF m pc L r) := by
  obtain ⟨locs, vm0, k1, X, -⟩ := S; subst hp
  exact kk.st fun _ q => XS.aload X.here C.1 rfl (hb C.2.2.1 hd) hl hv q
theorem g_aloadN (C : Cx p m meth c Z EL a0 own name cod maxL ret) (S : On p l e R s m args below meth c Z EL own n0 T h PS k n) {i : Fin 4} {v : Value} (hd : decode cod pc = .ok (.aload_n i, 1)) (hp : pc + 1 = pc') (hl : L[i.val]? = some (.val v)) (hv : v.isRef = true) (kk : Gl p e below s Z EL R n0 Q T (mkF m pc' L (v :: r))) : Gl p e below s Z EL R n0 Q T (mkF m pc L r) := by
  obtain ⟨locs, vm0, k1, X, -⟩ := S; subst hp
  exact kk.st fun _ q => XS.aloadN X.here C.1 rfl (hb C.2.2.1 hd) hl hv q
theorem g_astore (C : Cx p m meth c Z EL a0 own name cod maxL ret) (S : On p l e R s m args below meth c Z EL own n0 T h PS k n) {i : Nat} {v : Value} (hd : decode cod pc = .ok (.astore i, 2)) (hp : pc + 2 = pc') (hv : v.isRef = true) (hl : storeLocals L i v = some L') (kk : Gl p e below s Z EL R n0 Q T (mkF m pc' L' r)) : Gl p e below s Z EL R n0 Q T (mkF m pc L (v :: r)) := by
  obtain ⟨locs, vm0, k1, X, -⟩ := S; subst hp
  exact kk.st fun _ q => XS.astore X.here C.1 rfl (hb C.2.2.1 hd) rfl hv hl q
theorem g_astoreN (C : Cx p m meth c Z EL a0 own name cod maxL ret) (S : On p l e R s m args below meth c Z EL own n0 T h PS k n) {i : Fin 4} {v : Value} (hd : decode cod pc = .ok (.astore_n i, 1)) (hp : pc + 1 = pc') (hv : v.isRef = true) (hl : storeLocals L i.val v = some L') (kk : Gl p e below s Z EL R n0 Q T (mkF m pc' L' r)) : Gl p e below s Z EL R n0 Q T (mkF m pc L (v :: r)) := by
  obtain ⟨locs, vm0, k1, X, -⟩ := S; subst hp
  exact kk.st fun _ q => XS.astoreN X.here C.1 rfl (hb C.2.2.1 hd) rfl hv hl q
theorem g_iconst (C : Cx p m meth c Z EL a0 own name cod maxL ret) (S : On p l e R s m args below meth c Z EL own n0 T h PS k n) {i : Int} (v : Int32) (hd : decode cod pc = .ok (.iconst i, 1)) (hp : pc + 1 = pc') (hv : Int32.ofInt i = v) (kk : Gl p e below s Z EL R n0 Q T (mkF m pc' L (.int v :: r))) : Gl p e below s Z EL R n0 Q T (mkF m pc L r) := by
  obtain ⟨locs, vm0, k1, X, -⟩ := S; subst hp hv
  exact kk.st fun _ q => XS.iconst X.here C.1 rfl (hb C.2.2.1 hd) q
theorem g_bipush (C : Cx p m meth c Z EL a0 own name cod maxL ret) (S : On p l e R s m args below meth c Z EL own n0 T h PS k n) {i : Int} (v : Int32) (hd : decode cod pc = .ok (.bipush i, 2)) (hp : pc + 2 = pc') (hv : (Int8.ofInt i).toInt32 = v) (kk : Gl p e below s Z EL R n0 Q T (mkF m pc' L (.int v :: r))) : Gl p e below s Z EL R n0 Q T (mkF m pc L r) := by
  obtain ⟨locs, vm0, k1, X, -⟩ := S; subst hp hv
  exact kk.st fun _ q => XS.bipush X.here C.1 rfl (hb C.2.2.1 hd) q
theorem g_sipush (C : Cx p m meth c Z EL a0 own name cod maxL ret) (S : On p l e R s m args below meth c Z EL own n0 T h PS k n) {i : Int} (v : Int32) (hd : decode cod pc = .ok (.sipush i, 3)) (hp : pc + 3 = pc') (hv : (Int16.ofInt i).toInt32 = v) (kk : Gl p e below s Z EL R n0 Q T (mkF m pc' L (.int v :: r))) : Gl p e below s Z EL R n0 Q T (mkF m pc L r) := by
  obtain ⟨locs, vm0, k1, X, -⟩ := S; subst hp hv
  exact kk.st fun _ q => XS.sipush X.here C.1 rfl (hb C.2.2.1 hd) q
theorem g_lconst (C : Cx p m meth c Z EL a0 own name cod maxL ret) (S : On p l e R s m args below meth c Z EL own n0 T h PS k n) {i : Fin 2} (v : Int64) (hd : decode cod pc = .ok (.lconst i, 1)) (hp : pc + 1 = pc') (hv : Int64.ofNat i = v) (kk : Gl p e below s Z EL R n0 Q T (mkF m pc' L (.long v :: r))) : Gl p e below s Z EL R n0 Q T (mkF m pc L r) := by
  obtain ⟨locs, vm0, k1, X, -⟩ := S; subst hp hv
  exact kk.st fun _ q => XS.lconst X.here C.1 rfl (hb C.2.2.1 hd) q
theorem g_aconst_null (C : Cx p m meth c Z EL a0 own name cod maxL ret) (S : On p l e R s m args below meth c Z EL own n0 T h PS k n) (hd : decode cod pc = .ok (.aconst_null, 1)) (hp : pc + 1 = pc') (kk : Gl p e below s Z EL R n0 Q T (mkF m pc' L (.null :: r))) : Gl p e below s Z EL R n0 Q T (mkF m pc L r) := by
  obtain ⟨locs, vm0, k1, X, -⟩ := S; subst hp
  exact kk.st fun _ q => XS.aconstNull X.here C.1 rfl (hb C.2.2.1 hd) q
theorem g_iadd (C : Cx p m meth c Z EL a0 own name cod maxL ret) (S : On p l e R s m args below meth c Z EL own n0 T h PS k n) {x y : Int32} (hd : decode cod pc = .ok (.iadd, 1)) (hp : pc + 1 = pc') (kk : Gl p e below s Z EL R n0 Q T (mkF m pc' L (.int (x + y) :: r))) : Gl p e below s Z EL R n0 Q T (mkF m pc L (.int y :: .int x :: r)) := by
  obtain ⟨locs, vm0, k1, X, -⟩ := S; subst hp
  exact kk.st fun _ q => XS.iadd X.here C.1 rfl (hb C.2.2.1 hd) rfl q
theorem g_isub (C : Cx p m meth c Z EL a0 own name cod maxL ret) (S : On p l e R s m args below meth c Z EL own n0 T h PS k n) {x y : Int32} (hd : decode cod pc = .ok (.isub, 1)) (hp : pc + 1 = pc') (kk : Gl p e below s Z EL R n0 Q T (mkF m pc' L (.int (x - y) :: r))) : Gl p e below s Z EL R n0 Q T (mkF m pc L (.int y :: .int x :: r)) := by
  obtain ⟨locs, vm0, k1, X, -⟩ := S; subst hp
  exact kk.st fun _ q => XS.isub X.here C.1 rfl (hb C.2.2.1 hd) rfl q
theorem g_imul (C : Cx p m meth c Z EL a0 own name cod maxL ret) (S : On p l e R s m args below meth c Z EL own n0 T h PS k n) {x y : Int32} (hd : decode cod pc = .ok (.imul, 1)) (hp : pc + 1 = pc') (kk : Gl p e below s Z EL R n0 Q T (mkF m pc' L (.int (x * y) :: r))) : Gl p e below s Z EL R n0 Q T (mkF m pc L (.int y :: .int x :: r)) := by
  obtain ⟨locs, vm0, k1, X, -⟩ := S; subst hp
  exact kk.st fun _ q => XS.imul X.here C.1 rfl (hb C.2.2.1 hd) rfl q
theorem g_iand (C : Cx p m meth c Z EL a0 own name cod maxL ret) (S : On p l e R s m args below meth c Z EL own n0 T h PS k n) {x y : Int32} (hd : decode cod pc = .ok (.iand, 1)) (hp : pc + 1 = pc') (kk : Gl p e below s Z EL R n0 Q T (mkF m pc' L (.int (x &&& y) :: r))) : Gl p e below s Z EL R n0 Q T (mkF m pc L (.int y :: .int x :: r)) := by
  obtain ⟨locs, vm0, k1, X, -⟩ := S; subst hp
  exact kk.st fun _ q => XS.iand X.here C.1 rfl (hb C.2.2.1 hd) rfl q
theorem g_ior (C : Cx p m meth c Z EL a0 own name cod maxL ret) (S : On p l e R s m args below meth c Z EL own n0 T h PS k n) {x y : Int32} (hd : decode cod pc = .ok (.ior, 1)) (hp : pc + 1 = pc') (kk : Gl p e below s Z EL R n0 Q T (mkF m pc' L (.int (x ||| y) :: r))) : Gl p e below s Z EL R n0 Q T (mkF m pc L (.int y :: .int x :: r)) := by
  obtain ⟨locs, vm0, k1, X, -⟩ := S; subst hp
  exact kk.st fun _ q => XS.ior X.here C.1 rfl (hb C.2.2.1 hd) rfl q
theorem g_ixor (C : Cx p m meth c Z EL a0 own name cod maxL ret) (S : On p l e R s m args below meth c Z EL own n0 T h PS k n) {x y : Int32} (hd : decode cod pc = .ok (.ixor, 1)) (hp : pc + 1 = pc') (kk : Gl p e below s Z EL R n0 Q T (mkF m pc' L (.int (x ^^^ y) :: r))) : Gl p e below s Z EL R n0 Q T (mkF m pc L (.int y :: .int x :: r)) := by
  obtain ⟨locs, vm0, k1, X, -⟩ := S; subst hp
  exact kk.st fun _ q => XS.ixor X.here C.1 rfl (hb C.2.2.1 hd) rfl q
theorem g_ladd (C : Cx p m meth c Z EL a0 own name cod maxL ret) (S : On p l e R s m args below meth c Z EL own n0 T h PS k n) {x y : Int64} (hd : decode cod pc = .ok (.ladd, 1)) (hp : pc + 1 = pc') (kk : Gl p e below s Z EL R n0 Q T (mkF m pc' L (.long (x + y) :: r))) : Gl p e below s Z EL R n0 Q T (mkF m pc L (.long y :: .long x :: r)) := by
  obtain ⟨locs, vm0, k1, X, -⟩ := S; subst hp
  exact kk.st fun _ q => XS.ladd X.here C.1 rfl (hb C.2.2.1 hd) rfl q
theorem g_lsub (C : Cx p m meth c Z EL a0 own name cod maxL ret) (S : On p l e R s m args below meth c Z EL own n0 T h PS k n) {x y : Int64} (hd : decode cod pc = .ok (.lsub, 1)) (hp : pc + 1 = pc') (kk : Gl p e below s Z EL R n0 Q T (mkF m pc' L (.long (x - y) :: r))) : Gl p e below s Z EL R n0 Q T (mkF m pc L (.long y :: .long x :: r)) := by
  obtain ⟨locs, vm0, k1, X, -⟩ := S; subst hp
  exact kk.st fun _ q => XS.lsub X.here C.1 rfl (hb C.2.2.1 hd) rfl q
theorem g_lmul (C : Cx p m meth c Z EL a0 own name cod maxL ret) (S : On p l e R s m args below meth c Z EL own n0 T h PS k n) {x y : Int64} (hd : decode cod pc = .ok (.lmul, 1)) (hp : pc + 1 = pc') (kk : Gl p e below s Z EL R n0 Q T (mkF m pc' L (.long (x * y) :: r))) : Gl p e below s Z EL R n0 Q T (mkF m pc L (.long y :: .long x :: r)) := by
  obtain ⟨locs, vm0, k1, X, -⟩ := S; subst hp
  exact kk.st fun _ q => XS.lmul X.here C.1 rfl (hb C.2.2.1 hd) rfl q
theorem g_land (C : Cx p m meth c Z EL a0 own name cod maxL ret) (S : On p l e R s m args below meth c Z EL own n0 T h PS k n) {x y : Int64} (hd : decode cod pc = .ok (.land, 1)) (hp : pc + 1 = pc') (kk : Gl p e below s Z EL R n0 Q T (mkF m pc' L (.long (x &&& y) :: r))) : Gl p e below s Z EL R n0 Q T (mkF m pc L (.long y :: .long x :: r)) := by
  obtain ⟨locs, vm0, k1, X, -⟩ := S; subst hp
  exact kk.st fun _ q => XS.land X.here C.1 rfl (hb C.2.2.1 hd) rfl q
theorem g_lor (C : Cx p m meth c Z EL a0 own name cod maxL ret) (S : On p l e R s m args below meth c Z EL own n0 T h PS k n) {x y : Int64} (hd : decode cod pc = .ok (.lor, 1)) (hp : pc + 1 = pc') (kk : Gl p e below s Z EL R n0 Q T (mkF m pc' L (.long (x ||| y) :: r))) : Gl p e below s Z EL R n0 Q T (mkF m pc L (.long y :: .long x :: r)) := by
  obtain ⟨locs, vm0, k1, X, -⟩ := S; subst hp
  exact kk.st fun _ q => XS.lor X.here C.1 rfl (hb C.2.2.1 hd) rfl q
theorem g_lxor (C : Cx p m meth c Z EL a0 own name cod maxL ret) (S : On p l e R s m args below meth c Z EL own n0 T h PS k n) {x y : Int64} (hd : decode cod pc = .ok (.lxor, 1)) (hp : pc + 1 = pc') (kk : Gl p e below s Z EL R n0 Q T (mkF m pc' L (.long (x ^^^ y) :: r))) : Gl p e below s Z EL R n0 Q T (mkF m pc L (.long y :: .long x :: r)) := by
  obtain ⟨locs, vm0, k1, X, -⟩ := S; subst hp
  exact kk.st fun _ q => XS.lxor X.here C.1 rfl (hb C.2.2.1 hd) rfl q
theorem g_ishl (C : Cx p m meth c Z EL a0 own name cod maxL ret) (S : On p l e R s m args below meth c Z EL own n0 T h PS k n) {x y : Int32} (hd : decode cod pc = .ok (.ishl, 1)) (hp : pc + 1 = pc') (kk : Gl p e below s Z EL R n0 Q T (mkF m pc' L (.int (x <<< (y &&& 31)) :: r))) : Gl p e below s Z EL R n0 Q T (mkF m pc L (.int y :: .int x :: r)) := by
  obtain ⟨locs, vm0, k1, X, -⟩ := S; subst hp
  exact kk.st fun _ q => XS.ishl X.here C.1 rfl (hb C.2.2.1 hd) rfl q
theorem g_ishr (C : Cx p m meth c Z EL a0 own name cod maxL ret) (S : On p l e R s m args below meth c Z EL own n0 T h PS k n) {x y : Int32} (hd : decode cod pc = .ok (.ishr, 1)) (hp : pc + 1 = pc') (kk : Gl p e below s Z EL R n0 Q T (mkF m pc' L (.int (x >>> (y &&& 31)) :: r))) : Gl p e below s Z EL R n0 Q T (mkF m pc L (.int y :: .int x :: r)) := by
  obtain ⟨locs, vm0, k1, X, -⟩ := S; subst hp
  exact kk.st fun _ q => XS.ishr X.here C.1 rfl (hb C.2.2.1 hd) rfl q
theorem g_iushr (C : Cx p m meth c Z EL a0 own name cod maxL ret) (S : On p l e R s m args below meth c Z EL own n0 T h PS k n) {x y : Int32} (hd : decode cod pc = .ok (.iushr, 1)) (hp : pc + 1 = pc') (kk : Gl p e below s Z EL R n0 Q T (mkF m pc' L (.int ((x.toUInt32 >>> (y &&& 31).toUInt32).toInt32) :: r))) : Gl p e below s Z EL R n0 Q T (mkF m pc L (.int y :: .int x :: r)) := by
  obtain ⟨locs, vm0, k1, X, -⟩ := S; subst hp
  exact kk.st fun _ q => XS.iushr X.here C.1 rfl (hb C.2.2.1 hd) rfl q
theorem g_lshl (C : Cx p m meth c Z EL a0 own name cod maxL ret) (S : On p l e R s m args below meth c Z EL own n0 T h PS k n) {x : Int64} {y : Int32} (hd : decode cod pc = .ok (.lshl, 1)) (hp : pc + 1 = pc') (kk : Gl p e below s Z EL R n0 Q T (mkF m pc' L (.long (x <<< (y &&& 0x3f).toInt64) :: r))) : Gl p e below s Z EL R n0 Q T (mkF m pc L (.int y :: .long x :: r)) := by
  obtain ⟨locs, vm0, k1, X, -⟩ := S; subst hp
  exact kk.st fun _ q => XS.lshl X.here C.1 rfl (hb C.2.2.1 hd) rfl q
theorem g_lshr (C : Cx p m meth c Z EL a0 own name cod maxL ret) (S : On p l e R s m args below meth c Z EL own n0 T h PS k n) {x : Int64} {y : Int32} (hd : decode cod pc = .ok (.lshr, 1)) (hp : pc + 1 = pc') (kk : Gl p e below s Z EL R n0 Q T (mkF m pc' L (.long (x >>> (y &&& 0x3f).toInt64) :: r))) : Gl p e below s Z EL R n0 Q T (mkF m pc L (.int y :: .long x :: r)) := by
  obtain ⟨locs, vm0, k1, X, -⟩ := S; subst hp
  exact kk.st fun _ q => XS.lshr X.here C.1 rfl (hb C.2.2.1 hd) rfl q
theorem g_lushr (C : Cx p m meth c Z EL a0 own name cod maxL ret) (S : On p l e R s m args below meth c Z EL own n0 T h PS k n) {x : Int64} {y : Int32} (hd : decode cod pc = .ok (.lushr, 1)) (hp : pc + 1 = pc') (kk : Gl p e below s Z EL R n0 Q T (mkF m pc' L (.long ((x.toUInt64 >>> (y &&& 0x3f).toInt64.toUInt64).toInt64) :: r))) : Gl p e below s Z EL R n0 Q T (mkF m pc L (.int y :: .long x :: r)) := by
  obtain ⟨locs, vm0, k1, X, -⟩ := S; subst hp
  exact kk.st fun _ q => XS.lushr X.here C.1 rfl (hb C.2.2.1 hd) rfl q
theorem g_i2l (C : Cx p m meth c Z EL a0 own name cod maxL ret) (S : On p l e R s m args below meth c Z EL own n0 T h PS k n) {x : Int32} (hd : decode cod pc = .ok (.i2l, 1)) (hp : pc + 1 = pc') (kk : Gl p e below s Z EL R n0 Q T (mkF m pc' L (.long (x.toInt64) :: r))) : Gl p e below s Z EL R n0 Q T (mkF m pc L (.int x :: r)) := by
  obtain ⟨locs, vm0, k1, X, -⟩ := S; subst hp
  exact kk.st fun _ q => XS.i2l X.here C.1 rfl (hb C.2.2.1 hd) rfl q
theorem g_l2i (C : Cx p m meth c Z EL a0 own name cod maxL ret) (S : On p l e R s m args below meth c Z EL own n0 T h PS k n) {x : Int64} (hd : decode cod pc = .ok (.l2i, 1)) (hp : pc + 1 = pc') (kk : Gl p e below s Z EL R n0 Q T (mkF m pc' L (.int (x.toInt32) :: r))) : Gl p e below s Z EL R n0 Q T (mkF m pc L (.long x :: r)) := by
  obtain ⟨locs, vm0, k1, X, -⟩ := S; subst hp
  exact kk.st fun _ q => XS.l2i X.here C.1 rfl (hb C.2.2.1 hd) rfl q
theorem g_i2b (C : Cx p m meth c Z EL a0 own name cod maxL ret) (S : On p l e R s m args below meth c Z EL own n0 T h PS k n) {x : Int32} (hd : decode cod pc = .ok (.i2b, 1)) (hp : pc + 1 = pc') (kk : Gl p e below s Z EL R n0 Q T (mkF m pc' L (.int (x.toInt8.toInt32) :: r))) : Gl p e below s Z EL R n0 Q T (mkF m pc L (.int x :: r)) := by
  obtain ⟨locs, vm0, k1, X, -⟩ := S; subst hp
  exact kk.st fun _ q => XS.i2b X.here C.1 rfl (hb C.2.2.1 hd) rfl q
theorem g_i2c (C : Cx p m meth c Z EL a0 own name cod maxL ret) (S : On p l e R s m args below meth c Z EL own n0 T h PS k n) {x : Int32} (hd : decode cod pc = .ok (.i2c, 1)) (hp : pc + 1 = pc') (kk : Gl p e below s Z EL R n0 Q T (mkF m pc' L (.int (x.toUInt32.toUInt16.toUInt32.toInt32) :: r))) : Gl p e below s Z EL R n0 Q T (mkF m pc L (.int x :: r)) := by
  obtain ⟨locs, vm0, k1, X, -⟩ := S; subst hp
  exact kk.st fun _ q => XS.i2c X.here C.1 rfl (hb C.2.2.1 hd) rfl q
theorem g_i2s (C : Cx p m meth c Z EL a0 own name cod maxL ret) (S : On p l e R s m args below meth c Z EL own n0 T h PS k n) {x : Int32} (hd : decode cod pc = .ok (.i2s, 1)) (hp : pc + 1 = pc') (kk : Gl p e below s Z EL R n0 Q T (mkF m pc' L (.int (x.toInt16.toInt32) :: r))) : Gl p e below s Z EL R n0 Q T (mkF m pc L (.int x :: r)) := by
  obtain ⟨locs, vm0, k1, X, -⟩ := S; subst hp
  exact kk.st fun _ q => XS.i2s X.here C.1 rfl (hb C.2.2.1 hd) rfl q
theorem g_lneg (C : Cx p m meth c Z EL a0 own name cod maxL ret) (S : On p l e R s m args below meth c Z EL own n0 T h PS k n) {x : Int64} (hd : decode cod pc = .ok (.lneg, 1)) (hp : pc + 1 = pc') (kk : Gl p e below s Z EL R n0 Q T (mkF m pc' L (.long (-x) :: r))) : Gl p e below s Z EL R n0 Q T (mkF m pc L (.long x :: r)) := by
  obtain ⟨locs, vm0, k1, X, -⟩ := S; subst hp
  exact kk.st fun _ q => XS.lneg X.here C.1 rfl (hb C.2.2.1 hd) rfl q
theorem g_ineg (C : Cx p m meth c Z EL a0 own name cod maxL ret) (S : On p l e R s m args below meth c Z EL own n0 T h PS k n) {x : Int32} (hd : decode cod pc = .ok (.ineg, 1)) (hp : pc + 1 = pc') (kk : Gl p e below s Z EL R n0 Q T (mkF m pc' L (.int (-x) :: r))) : Gl p e below s Z EL R n0 Q T (mkF m pc L (.int x :: r)) := by
  obtain ⟨locs, vm0, k1, X, -⟩ := S; subst hp
  exact kk.st fun _ q => XS.ineg X.here C.1 rfl (hb C.2.2.1 hd) rfl q
theorem g_irem (C : Cx p m meth c Z EL a0 own name cod maxL ret) (S : On p l e R s m args below meth c Z EL own n0 T h PS k n) {x y : Int32} (hd : decode cod pc = .ok (.irem, 1)) (hp : pc + 1 = pc') (hy : y ≠ 0) (kk : Gl p e below s Z EL R n0 Q T (mkF m pc' L (.int (x % y) :: r))) : Gl p e below s Z EL R n0 Q T (mkF m pc L (.int y :: .int x :: r)) := by
  obtain ⟨locs, vm0, k1, X, -⟩ := S; subst hp
  exact kk.st fun _ q => iremM X C.1 rfl (hb C.2.2.1 hd) rfl hy q
theorem g_idiv (C : Cx p m meth c Z EL a0 own name cod maxL ret) (S : On p l e R s m args below meth c Z EL own n0 T h PS k n) {x y : Int32} (hd : decode cod pc = .ok (.idiv, 1)) (hp : pc + 1 = pc') (hy : y ≠ 0) (kk : Gl p e below s Z EL R n0 Q T (mkF m pc' L (.int (x / y) :: r))) : Gl p e below s Z EL R n0 Q T (mkF m pc L (.int y :: .int x :: r)) := by
  obtain ⟨locs, vm0, k1, X, -⟩ := S; subst hp
  exact kk.st fun _ q => XS.idiv X.here C.1 rfl (hb C.2.2.1 hd) rfl hy q
theorem g_lcmp (C : Cx p m meth c Z EL a0 own name cod maxL ret) (S : On p l e R s m args below meth c Z EL own n0 T h PS k n) {x y : Int64} (hd : decode cod pc = .ok (.lcmp, 1)) (hp : pc + 1 = pc') (kk : Gl p e below s Z EL R n0 Q T (mkF m pc' L (.int (lcmpW x y) :: r))) : Gl p e below s Z EL R n0 Q T (mkF m pc L (.long y :: .long x :: r)) := by
  obtain ⟨locs, vm0, k1, X, -⟩ := S; subst hp
  exact kk.st fun _ q => XS.lcmp X.here C.1 rfl (hb C.2.2.1 hd) rfl q
theorem g_dup (C : Cx p m meth c Z EL a0 own name cod maxL ret) (S : On p l e R s m args below meth c Z EL own n0 T h PS k n) {x : Value} (hd : decode cod pc = .ok (.dup, 1)) (hp : pc + 1 = pc') (hc : x.category = 1) (kk : Gl p e below s Z EL R n0 Q T (mkF m pc' L (x :: x :: r))) : Gl p e below s Z EL R n0 Q T (mkF m pc L (x :: r)) := by
  obtain ⟨locs, vm0, k1, X, -⟩ := S; subst hp
  exact kk.st fun _ q => XS.dup X.here C.1 rfl (hb C.2.2.1 hd) rfl hc q
theorem g_pop (C : Cx p m meth c Z EL a0 own name cod maxL ret) (S : On p l e R s m args below meth c Z EL own n0 T h PS k n) {x : Value} (hd : decode cod pc = .ok (.pop, 1)) (hp : pc + 1 = pc') (hc : x.category = 1) (kk : Gl p e below s Z EL R n0 Q T (mkF m pc' L r)) : Gl p e below s Z EL R n0 Q T (mkF m pc L (x :: r)) := by
  obtain ⟨locs, vm0, k1, X, -⟩ := S; subst hp
  exact kk.st fun _ q => XS.pop X.here C.1 rfl (hb C.2.2.1 hd) rfl hc q
theorem g_dup_x1 (C : Cx p m meth c Z EL a0 own name cod maxL ret) (S : On p l e R s m args below meth c Z EL own n0 T h PS k n) {x y : Value} (hd : decode cod pc = .ok (.dup_x1, 1)) (hp : pc + 1 = pc') (hc : x.category = 1) (hc2 : y.category = 1) (kk : Gl p e below s Z EL R n0 Q T (mkF m pc' L (x :: y :: x :: r))) : Gl p e below s Z EL R n0 Q T (mkF m pc L (x :: y :: r)) := by
  obtain ⟨locs, vm0, k1, X, -⟩ := S; subst hp
  exact kk.st fun _ q => XS.dupX1 X.here C.1 rfl (hb C.2.2.1 hd) rfl hc hc2 q
theorem g_dup2 (C : Cx p m meth c Z EL a0 own name cod maxL ret) (S : On p l e R s m args below meth c Z EL own n0 T h PS k n) {x y : Value} (hd : decode cod pc = .ok (.dup2, 1)) (hp : pc + 1 = pc') (hc : x.category = 1) (hc2 : y.category = 1) (kk : Gl p e below s Z EL R n0 Q T (mkF m pc' L (x :: y :: x :: y :: r))) : Gl p e below s Z EL R n0 Q T (mkF m pc L (x :: y :: r)) := by
  obtain ⟨locs, vm0, k1, X, -⟩ := S; subst hp
  exact kk.st fun _ q => XT.dup2 X.here C.1 rfl (hb C.2.2.1 hd) rfl hc hc2 q
theorem g_dup_x2 (C : Cx p m meth c Z EL a0 own name cod maxL ret) (S : On p l e R s m args below meth c Z EL own n0 T h PS k n) {x y z : Value} (hd : decode cod pc = .ok (.dup_x2, 1)) (hp : pc + 1 = pc') (hc : x.category = 1) (hc2 : y.category = 1) (hc3 : z.category = 1) (kk : Gl p e below s Z EL R n0 Q T (mkF m pc' L (x :: y :: z :: x :: r))) : Gl p e below s Z EL R n0 Q T (mkF m pc L (x :: y :: z :: r)) := by
  obtain ⟨locs, vm0, k1, X, -⟩ := S; subst hp
  refine kk.st fun _ q => ?_
  have hx := C.1; have hd' := hb C.2.2.1 hd
  jvm_step X.here [X.here.top, hx, hd', hc, hc2, hc3]
  exact q
theorem g_iinc (C : Cx p m meth c Z EL a0 own name cod maxL ret) (S : On p l e R s m args below meth c Z EL own n0 T h PS k n) {i : Nat} {cst : Int} {x : Int32} (v : Int32) (hd : decode cod pc = .ok (.iinc i cst, 3)) (hp : pc + 3 = pc') (hv : Int32.ofInt cst = v) (hl : L[i]? = some (.val (.int x))) (hl' : storeLocals L i (.int (x + v)) = some L') (kk : Gl p e below s Z EL R n0 Q T (mkF m pc' L' r)) : Gl p e below s Z EL R n0 Q T (mkF m pc L r) := by
  obtain ⟨locs, vm0, k1, X, -⟩ := S; subst hp hv
  exact kk.st fun _ q => XS.iinc X.here C.1 rfl (hb C.2.2.1 hd) hl hl' q
theorem g_goto (C : Cx p m meth c Z EL a0 own name cod maxL ret) (S : On p l e R s m args below meth c Z EL own n0 T h PS k n) {o : Int} (hd : decode cod pc = .ok (.goto o, 3)) (ho : 0 ≤ (pc : Int) + o) (hp : ((pc : Int) + o).toNat = pc') (kk : Gl p e below s Z EL R n0 Q T (mkF m pc' L r)) : Gl p e below s Z EL R n0 Q T (mkF m pc L r) := by
  obtain ⟨locs, vm0, k1, X, -⟩ := S
  exact kk.st fun _ q => XS.goto X.here C.1 rfl rfl (hb C.2.2.1 hd) ho hp q
theorem g_dload (C : Cx p m meth c Z EL a0 own name cod maxL ret) (S : On p l e R s m args below meth c Z EL own n0 T h PS k n) {i : Nat} {v : UInt64} (hd : decode cod pc = .ok (.dload i, 2)) (hp : pc + 2 = pc') (hl : L[i]? = some (.val (.double v))) (kk : Gl p e below s Z EL R n0 Q T (mkF m pc' L (.double v :: r))) : Gl p e below s Z EL R n0 Q T (mkF m pc L r) := by
  obtain ⟨locs, vm0, k1, X, -⟩ := S; subst hp
  exact kk.st fun _ q => XS.dload X.here C.1 rfl (hb C.2.2.1 hd) hl q
theorem g_dloadN (C : Cx p m meth c Z EL a0 own name cod maxL ret) (S : On p l e R s m args below meth c Z EL own n0 T h PS k n) {i : Fin 4} {v : UInt64} (hd : decode cod pc = .ok (.dload_n i, 1)) (hp : pc + 1 = pc') (hl : L[i.val]? = some (.val (.double v))) (kk : Gl p e below s Z EL R n0 Q T (mkF m pc' L (.double v :: r))) : Gl p e below s Z EL R n0 Q T (mkF m pc L r) := by
  obtain ⟨locs, vm0, k1, X, -⟩ := S; subst hp
  exact kk.st fun _ q => XS.dloadN X.here C.1 rfl (hb C.2.2.1 hd) hl q
theorem g_dstore (C : Cx p m meth c Z EL a0 own name cod maxL ret) (S : On p l e R s m args below meth c Z EL own n0 T h PS k n) {i : Nat} {v : UInt64} (hd : decode cod pc = .ok (.dstore i, 2)) (hp : pc + 2 = pc') (hl : storeLocals L i (.double v) = some L') (kk : Gl p e below s Z EL R n0 Q T (mkF m pc' L' r)) : Gl p e below s Z EL R n0 Q T (mkF m pc L (.double v :: r)) := by
  obtain ⟨locs, vm0, k1, X, -⟩ := S; subst hp
  exact kk.st fun _ q => XS.dstore X.here C.1 rfl (hb C.2.2.1 hd) rfl hl q
theorem g_dstoreN (C : Cx p m meth c Z EL a0 own name cod maxL ret) (S : On p l e R s m args below meth c Z EL own n0 T h PS k n) {i : Fin 4} {v : UInt64} (hd : decode cod pc = .ok (.dstore_n i, 1)) (hp : pc + 1 = pc') (hl : storeLocals L i.val (.double v) = some L') (kk : Gl p e below s Z EL R n0 Q T (mkF m pc' L' r)) : Gl p e below s Z EL R n0 Q T (mkF m pc L (.double v :: r)) := by
  obtain ⟨locs, vm0, k1, X, -⟩ := S; subst hp
  exact kk.st fun _ q => XS.dstoreN X.here C.1 rfl (hb C.2.2.1 hd) rfl hl q
theorem g_dconst0 (C : Cx p m meth c Z EL a0 own name cod maxL ret) (S : On p l e R s m args below meth c Z EL own n0 T h PS k n) (hd : decode cod pc = .ok (.dconst 0, 1)) (hp : pc + 1 = pc') (kk : Gl p e below s Z EL R n0 Q T (mkF m pc' L (.double FP.dconst0 :: r))) : Gl p e below s Z EL R n0 Q T (mkF m pc L r) := by
  obtain ⟨locs, vm0, k1, X, -⟩ := S; subst hp
  exact kk.st fun _ q => XS.dconst0 X.here C.1 rfl (hb C.2.2.1 hd) rfl q
theorem g_dconst1 (C : Cx p m meth c Z EL a0 own name cod maxL ret) (S : On p l e R s m args below meth c Z EL own n0 T h PS k n) (hd : decode cod pc = .ok (.dconst 1, 1)) (hp : pc + 1 = pc') (kk : Gl p e below s Z EL R n0 Q T (mkF m pc' L (.double FP.dconst1 :: r))) : Gl p e below s Z EL R n0 Q T (mkF m pc L r) := by
  obtain ⟨locs, vm0, k1, X, -⟩ := S; subst hp
  exact kk.st fun _ q => XS.dconst1 X.here C.1 rfl (hb C.2.2.1 hd) rfl q
theorem g_i2d (C : Cx p m meth c Z EL a0 own name cod maxL ret) (S : On p l e R s m args below meth c Z EL own n0 T h PS k n) {x : Int32} (hd : decode cod pc = .ok (.i2d, 1)) (hp : pc + 1 = pc') (kk : Gl p e below s Z EL R n0 Q T (mkF m pc' L (.double (FP.i2d x) :: r))) : Gl p e below s Z EL R n0 Q T (mkF m pc L (.int x :: r)) := by
  obtain ⟨locs, vm0, k1, X, -⟩ := S; subst hp
  exact kk.st fun _ q => XS.i2dS X.here C.1 rfl (hb C.2.2.1 hd) rfl rfl q
theorem g_l2d (C : Cx p m meth c Z EL a0 own name cod maxL ret) (S : On p l e R s m args below meth c Z EL own n0 T h PS k n) {x : Int64} (hd : decode cod pc = .ok (.l2d, 1)) (hp : pc + 1 = pc') (kk : Gl p e below s Z EL R n0 Q T (mkF m pc' L (.double (FP.l2d x) :: r))) : Gl p e below s Z EL R n0 Q T (mkF m pc L (.long x :: r)) := by
  obtain ⟨locs, vm0, k1, X, -⟩ := S; subst hp
  exact kk.st fun _ q => XS.l2dS X.here C.1 rfl (hb C.2.2.1 hd) rfl rfl q
theorem g_dadd (C : Cx p m meth c Z EL a0 own name cod maxL ret) (S : On p l e R s m args below meth c Z EL own n0 T h PS k n) {x y : UInt64} (hd : decode cod pc = .ok (.dadd, 1)) (hp : pc + 1 = pc') (hn : Jvm.Free.Fl.NoNaN64 (FP.dadd x y)) (kk : Gl p e below s Z EL R n0 Q T (mkF m pc' L (.double (FP.dadd x y) :: r))) : Gl p e below s Z EL R n0 Q T (mkF m pc L (.double y :: .double x :: r)) := by
  obtain ⟨locs, vm0, k1, X, -⟩ := S; subst hp
  exact kk.st fun _ q => XS.daddS X.here C.1 rfl (hb C.2.2.1 hd) rfl hn rfl q
theorem g_dmul (C : Cx p m meth c Z EL a0 own name cod maxL ret) (S : On p l e R s m args below meth c Z EL own n0 T h PS k n) {x y : UInt64} (hd : decode cod pc = .ok (.dmul, 1)) (hp : pc + 1 = pc') (hn : Jvm.Free.Fl.NoNaN64 (FP.dmul x y)) (kk : Gl p e below s Z EL R n0 Q T (mkF m pc' L (.double (FP.dmul x y) :: r))) : Gl p e below s Z EL R n0 Q T (mkF m pc L (.double y :: .double x :: r)) := by
  obtain ⟨locs, vm0, k1, X, -⟩ := S; subst hp
  exact kk.st fun _ q => XS.dmulS X.here C.1 rfl (hb C.2.2.1 hd) rfl hn rfl q
theorem g_ddiv (C : Cx p m meth c Z EL a0 own name cod maxL ret) (S : On p l e R s m args below meth c Z EL own n0 T h PS k n) {x y : UInt64} (hd : decode cod pc = .ok (.ddiv, 1)) (hp : pc + 1 = pc') (hn : Jvm.Free.Fl.NoNaN64 (FP.ddiv x y)) (kk : Gl p e below s Z EL R n0 Q T (mkF m pc' L (.double (FP.ddiv x y) :: r))) : Gl p e below s Z EL R n0 Q T (mkF m pc L (.double y :: .double x :: r)) := by
  obtain ⟨locs, vm0, k1, X, -⟩ := S; subst hp
  exact kk.st fun _ q => XS.ddivS X.here C.1 rfl (hb C.2.2.1 hd) rfl hn rfl q
theorem g_dsub (C : Cx p m meth c Z EL a0 own name cod maxL ret) (S : On p l e R s m args below meth c Z EL own n0 T h PS k n) {x y : UInt64} (hd : decode cod pc = .ok (.dsub, 1)) (hp : pc + 1 = pc') (hn : Jvm.Free.Fl.NoNaN64 (FP.dsub x y)) (kk : Gl p e below s Z EL R n0 Q T (mkF m pc' L (.double (FP.dsub x y) :: r))) : Gl p e below s Z EL R n0 Q T (mkF m pc L (.double y :: .double x :: r)) := by
  obtain ⟨locs, vm0, k1, X, -⟩ := S; subst hp
  exact kk.st fun _ q => XS.dsubS X.here C.1 rfl (hb C.2.2.1 hd) rfl hn rfl q
theorem g_dcmp (C : Cx p m meth c Z EL a0 own name cod maxL ret) (S : On p l e R s m args below meth c Z EL own n0 T h PS k n) {o : CmpOp} {x y : UInt64} {v : Int32} (hd : decode cod pc = .ok (.dcmp o, 1)) (hp : pc + 1 = pc') (hv : cmpValue (FP.dcmp x y) o = v) (kk : Gl p e below s Z EL R n0 Q T (mkF m pc' L (.int v :: r))) : Gl p e below s Z EL R n0 Q T (mkF m pc L (.double y :: .double x :: r)) := by
  obtain ⟨locs, vm0, k1, X, -⟩ := S; subst hp
  exact kk.st fun _ q => XS.dcmpS X.here C.1 rfl (hb C.2.2.1 hd) rfl hv q
theorem g_iincL (C : Cx p m meth c Z EL a0 own name cod maxL ret) (S : On p l e R s m args below meth c Z EL own n0 T h PS k n) {i : Nat} {cst : Int} {x : Int32} (v y : Int32) (hd : decode cod pc = .ok (.iinc i cst, 3)) (hp : pc + 3 = pc') (hv : Int32.ofInt cst = v) (hy : x + v = y) (hl : L[i]? = some (.val (.int x))) (hl' : storeLocals L i (.int y) = some L') (kk : Gl p e below s Z EL R n0 Q T (mkF m pc' L' r)) : Gl p e below s Z EL R n0 Q T (mkF m pc L r) := by subst hy; exact g_iinc C S v hd hp hv hl hl' kk
theorem g_icmp_lt (C : Cx p m meth c Z EL a0 own name cod maxL ret) (S : On p l e R s m args below meth c Z EL own n0 T h PS k n) {x y : Int32} {o : Int} (hd : decode cod pc = .ok (.if_icmp .lt o, 3)) (ho : 0 ≤ (pc : Int) + o) (hp : ((pc : Int) + o).toNat = pc') (hq : pc + 3 = pf) (ht : x < y → Gl p e below s Z EL R n0 Q T (mkF m pc' L r)) (hf : ¬ x < y → Gl p e below s Z EL R n0 Q T (mkF m pf L r)) : Gl p e below s Z EL R n0 Q T (mkF m pc L (.int y :: .int x :: r)) := by
  obtain ⟨locs, vm0, k1, X, -⟩ := S; subst hq
  by_cases q : x < y
  · exact (ht q).st fun _ z => XS.icmpYes X.here C.1 rfl rfl (hb C.2.2.1 hd) rfl ((tlt q).1) ho hp z
  · exact (hf q).st fun _ z => XS.icmpNo X.here C.1 rfl (hb C.2.2.1 hd) rfl ((flt q).1) z
theorem g_if_lt (C : Cx p m meth c Z EL a0 own name cod maxL ret) (S : On p l e R s m args below meth c Z EL own n0 T h PS k n) {x : Int32} {o : Int} (hd : decode cod pc = .ok (.ifCond .lt o, 3)) (ho : 0 ≤ (pc : Int) + o) (hp : ((pc : Int) + o).toNat = pc') (hq : pc + 3 = pf) (ht : x < (0 : Int32) → Gl p e below s Z EL R n0 Q T (mkF m pc' L r)) (hf : ¬ x < (0 : Int32) → Gl p e below s Z EL R n0 Q T (mkF m pf L r)) : Gl p e below s Z EL R n0 Q T (mkF m pc L (.int x :: r)) := by
  obtain ⟨locs, vm0, k1, X, -⟩ := S; subst hq
  by_cases q : x < (0 : Int32)
  · exact (ht q).st fun _ z => XS.ifYes X.here C.1 rfl rfl (hb C.2.2.1 hd) rfl ((if0 _ _).trans (tlt q).1) ho hp z
  · exact (hf q).st fun _ z => XS.ifNo X.here C.1 rfl (hb C.2.2.1 hd) rfl ((if0 _ _).trans (flt q).1) z
theorem g_lif_lt (C : Cx p m meth c Z EL a0 own name cod maxL ret) (S : On p l e R s m args below meth c Z EL own n0 T h PS k n) {x y : Int64} {o : Int} (hd : decode cod pc = .ok (.ifCond .lt o, 3)) (ho : 0 ≤ (pc : Int) + o) (hp : ((pc : Int) + o).toNat = pc') (hq : pc + 3 = pf) (ht : x < y → Gl p e below s Z EL R n0 Q T (mkF m pc' L r)) (hf : ¬ x < y → Gl p e below s Z EL R n0 Q T (mkF m pf L r)) : Gl p e below s Z EL R n0 Q T (mkF m pc L (.int (lcmpW x y) :: r)) := by
  obtain ⟨locs, vm0, k1, X, -⟩ := S; subst hq
  by_cases q : x < y
  · exact (ht q).st fun _ z => XS.ifYes X.here C.1 rfl rfl (hb C.2.2.1 hd) rfl ((if0 _ _).trans (tlt ((lw_lt x y).mpr q)).1) ho hp z
  · exact (hf q).st fun _ z => XS.ifNo X.here C.1 rfl (hb C.2.2.1 hd) rfl ((if0 _ _).trans (flt (fun z => q ((lw_lt x y).mp z))).1) z
theorem g_icmp_ge (C : Cx p m meth c Z EL a0 own name cod maxL ret) (S : On p l e R s m args below meth c Z EL own n0 T h PS k n) {x y : Int32} {o : Int} (hd : decode cod pc = .ok (.if_icmp .ge o, 3)) (ho : 0 ≤ (pc : Int) + o) (hp : ((pc : Int) + o).toNat = pc') (hq : pc + 3 = pf) (ht : ¬ x < y → Gl p e below s Z EL R n0 Q T (mkF m pc' L r)) (hf : x < y → Gl p e below s Z EL R n0 Q T (mkF m pf L r)) : Gl p e below s Z EL R n0 Q T (mkF m pc L (.int y :: .int x :: r)) := by
  obtain ⟨locs, vm0, k1, X, -⟩ := S; subst hq
  by_cases q : x < y
  · exact (hf q).st fun _ z => XS.icmpNo X.here C.1 rfl (hb C.2.2.1 hd) rfl ((tlt q).2.1) z
  · exact (ht q).st fun _ z => XS.icmpYes X.here C.1 rfl rfl (hb C.2.2.1 hd) rfl ((flt q).2.1) ho hp z
theorem g_if_ge (C : Cx p m meth c Z EL a0 own name cod maxL ret) (S : On p l e R s m args below meth c Z EL own n0 T h PS k n) {x : Int32} {o : Int} (hd : decode cod pc = .ok (.ifCond .ge o, 3)) (ho : 0 ≤ (pc : Int) + o) (hp : ((pc : Int) + o).toNat = pc') (hq : pc + 3 = pf) (ht : ¬ x < (0 : Int32) → Gl p e below s Z EL R n0 Q T (mkF m pc' L r)) (hf : x < (0 : Int32) → Gl p e below s Z EL R n0 Q T (mkF m pf L r)) : Gl p e below s Z EL R n0 Q T (mkF m pc L (.int x :: r)) := by
  obtain ⟨locs, vm0, k1, X, -⟩ := S; subst hq
  by_cases q : x < (0 : Int32)
  · exact (hf q).st fun _ z => XS.ifNo X.here C.1 rfl (hb C.2.2.1 hd) rfl ((if0 _ _).trans (tlt q).2.1) z
  · exact (ht q).st fun _ z => XS.ifYes X.here C.1 rfl rfl (hb C.2.2.1 hd) rfl ((if0 _ _).trans (flt q).2.1) ho hp z
theorem g_lif_ge (C : Cx p m meth c Z EL a0 own name cod maxL ret) (S : On p l e R s m args below meth c Z EL own n0 T h PS k n) {x y : Int64} {o : Int} (hd : decode cod pc = .ok (.ifCond .ge o, 3)) (ho : 0 ≤ (pc : Int) + o) (hp : ((pc : Int) + o).toNat = pc') (hq : pc + 3 = pf) (ht : ¬ x < y → Gl p e below s Z EL R n0 Q T (mkF m pc' L r)) (hf : x < y → Gl p e below s Z EL R n0 Q T (mkF m pf L r)) : Gl p e below s Z EL R n0 Q T (mkF m pc L (.int (lcmpW x y) :: r)) := by
  obtain ⟨locs, vm0, k1, X, -⟩ := S; subst hq
  by_cases q : x < y
  · exact (hf q).st fun _ z => XS.ifNo X.here C.1 rfl (hb C.2.2.1 hd) rfl ((if0 _ _).trans (tlt ((lw_lt x y).mpr q)).2.1) z
  · exact (ht q).st fun _ z => XS.ifYes X.here C.1 rfl rfl (hb C.2.2.1 hd) rfl ((if0 _ _).trans (flt (fun z => q ((lw_lt x y).mp z))).2.1) ho hp z
theorem g_icmp_gt (C : Cx p m meth c Z EL a0 own name cod maxL ret) (S : On p l e R s m args below meth c Z EL own n0 T h PS k n) {x y : Int32} {o : Int} (hd : decode cod pc = .ok (.if_icmp .gt o, 3)) (ho : 0 ≤ (pc : Int) + o) (hp : ((pc : Int) + o).toNat = pc') (hq : pc + 3 = pf) (ht : y < x → Gl p e below s Z EL R n0 Q T (mkF m pc' L r)) (hf : ¬ y < x → Gl p e below s Z EL R n0 Q T (mkF m pf L r)) : Gl p e below s Z EL R n0 Q T (mkF m pc L (.int y :: .int x :: r)) := by
  obtain ⟨locs, vm0, k1, X, -⟩ := S; subst hq
  by_cases q : y < x
  · exact (ht q).st fun _ z => XS.icmpYes X.here C.1 rfl rfl (hb C.2.2.1 hd) rfl ((tlt q).2.2.1) ho hp z
  · exact (hf q).st fun _ z => XS.icmpNo X.here C.1 rfl (hb C.2.2.1 hd) rfl ((flt q).2.2.1) z
theorem g_if_gt (C : Cx p m meth c Z EL a0 own name cod maxL ret) (S : On p l e R s m args below meth c Z EL own n0 T h PS k n) {x : Int32} {o : Int} (hd : decode cod pc = .ok (.ifCond .gt o, 3)) (ho : 0 ≤ (pc : Int) + o) (hp : ((pc : Int) + o).toNat = pc') (hq : pc + 3 = pf) (ht : (0 : Int32) < x → Gl p e below s Z EL R n0 Q T (mkF m pc' L r)) (hf : ¬ (0 : Int32) < x → Gl p e below s Z EL R n0 Q T (mkF m pf L r)) : Gl p e below s Z EL R n0 Q T (mkF m pc L (.int x :: r)) := by
  obtain ⟨locs, vm0, k1, X, -⟩ := S; subst hq
  by_cases q : (0 : Int32) < x
  · exact (ht q).st fun _ z => XS.ifYes X.here C.1 rfl rfl (hb C.2.2.1 hd) rfl ((if0 _ _).trans (tlt q).2.2.1) ho hp z
  · exact (hf q).st fun _ z => XS.ifNo X.here C.1 rfl (hb C.2.2.1 hd) rfl ((if0 _ _).trans (flt q).2.2.1) z
theorem g_lif_gt (C : Cx p m meth c Z EL a0 own name cod maxL ret) (S : On p l e R s m args below meth c Z EL own n0 T h PS k n) {x y : Int64} {o : Int} (hd : decode cod pc = .ok (.ifCond .gt o, 3)) (ho : 0 ≤ (pc : Int) + o) (hp : ((pc : Int) + o).toNat = pc') (hq : pc + 3 = pf) (ht : y < x → Gl p e below s Z EL R n0 Q T (mkF m pc' L r)) (hf : ¬ y < x → Gl p e below s Z EL R n0 Q T (mkF m pf L r)) : Gl p e below s Z EL R n0 Q T (mkF m pc L (.int (lcmpW x y) :: r)) := by
  obtain ⟨locs, vm0, k1, X, -⟩ := S; subst hq
  by_cases q : y < x
  · exact (ht q).st fun _ z => XS.ifYes X.here C.1 rfl rfl (hb C.2.2.1 hd) rfl ((if0 _ _).trans (tlt ((lw_gt x y).mpr q)).2.2.1) ho hp z
  · exact (hf q).st fun _ z => XS.ifNo X.here C.1 rfl (hb C.2.2.1 hd) rfl ((if0 _ _).trans (flt (fun z => q ((lw_gt x y).mp z))).2.2.1) z
theorem g_icmp_le (C : Cx p m meth c Z EL a0 own name cod maxL ret) (S : On p l e R s m args below meth c Z EL own n0 T h PS k n) {x y : Int32} {o : Int} (hd : decode cod pc = .ok (.if_icmp .le o, 3)) (ho : 0 ≤ (pc : Int) + o) (hp : ((pc : Int) + o).toNat = pc') (hq : pc + 3 = pf) (ht : ¬ y < x → Gl p e below s Z EL R n0 Q T (mkF m pc' L r)) (hf : y < x → Gl p e below s Z EL R n0 Q T (mkF m pf L r)) : Gl p e below s Z EL R n0 Q T (mkF m pc L (.int y :: .int x :: r)) := by
  obtain ⟨locs, vm0, k1, X, -⟩ := S; subst hq
  by_cases q : y < x
  · exact (hf q).st fun _ z => XS.icmpNo X.here C.1 rfl (hb C.2.2.1 hd) rfl ((tlt q).2.2.2) z
  · exact (ht q).st fun _ z => XS.icmpYes X.here C.1 rfl rfl (hb C.2.2.1 hd) rfl ((flt q).2.2.2) ho hp z
theorem g_if_le (C : Cx p m meth c Z EL a0 own name cod maxL ret) (S : On p l e R s m args below meth c Z EL own n0 T h PS k n) {x : Int32} {o : Int} (hd : decode cod pc = .ok (.ifCond .le o, 3)) (ho : 0 ≤ (pc : Int) + o) (hp : ((pc : Int) + o).toNat = pc') (hq : pc + 3 = pf) (ht : ¬ (0 : Int32) < x → Gl p e below s Z EL R n0 Q T (mkF m pc' L r)) (hf : (0 : Int32) < x → Gl p e below s Z EL R n0 Q T (mkF m pf L r)) : Gl p e below s Z EL R n0 Q T (mkF m pc L (.int x :: r)) := by
  obtain ⟨locs, vm0, k1, X, -⟩ := S; subst hq
  by_cases q : (0 : Int32) < x
  · exact (hf q).st fun _ z => XS.ifNo X.here C.1 rfl (hb C.2.2.1 hd) rfl ((if0 _ _).trans (tlt q).2.2.2) z
  · exact (ht q).st fun _ z => XS.ifYes X.here C.1 rfl rfl (hb C.2.2.1 hd) rfl ((if0 _ _).trans (flt q).2.2.2) ho hp z
theorem g_lif_le (C : Cx p m meth c Z EL a0 own name cod maxL ret) (S : On p l e R s m args below meth c Z EL own n0 T h PS k n) {x y : Int64} {o : Int} (hd : decode cod pc = .ok (.ifCond .le o, 3)) (ho : 0 ≤ (pc : Int) + o) (hp : ((pc : Int) + o).toNat = pc') (hq : pc + 3 = pf) (ht : ¬ y < x → Gl p e below s Z EL R n0 Q T (mkF m pc' L r)) (hf : y < x → Gl p e below s Z EL R n0 Q T (mkF m pf L r)) : Gl p e below s Z EL R n0 Q T (mkF m pc L (.int (lcmpW x y) :: r)) := by
  obtain ⟨locs, vm0, k1, X, -⟩ := S; subst hq
  by_cases q : y < x
  · exact (hf q).st fun _ z => XS.ifNo X.here C.1 rfl (hb C.2.2.1 hd) rfl ((if0 _ _).trans (tlt ((lw_gt x y).mpr q)).2.2.2) z
  · exact (ht q).st fun _ z => XS.ifYes X.here C.1 rfl rfl (hb C.2.2.1 hd) rfl ((if0 _ _).trans (flt (fun z => q ((lw_gt x y).mp z))).2.2.2) ho hp z
theorem g_icmp_eq (C : Cx p m meth c Z EL a0 own name cod maxL ret) (S : On p l e R s m args below meth c Z EL own n0 T h PS k n) {x y : Int32} {o : Int} (hd : decode cod pc = .ok (.if_icmp .eq o, 3)) (ho : 0 ≤ (pc : Int) + o) (hp : ((pc : Int) + o).toNat = pc') (hq : pc + 3 = pf) (ht : x = y → Gl p e below s Z EL R n0 Q T (mkF m pc' L r)) (hf : ¬ x = y → Gl p e below s Z EL R n0 Q T (mkF m pf L r)) : Gl p e below s Z EL R n0 Q T (mkF m pc L (.int y :: .int x :: r)) := by
  obtain ⟨locs, vm0, k1, X, -⟩ := S; subst hq
  by_cases q : x = y
  · exact (ht q).st fun _ z => XS.icmpYes X.here C.1 rfl rfl (hb C.2.2.1 hd) rfl ((teq q).1) ho hp z
  · exact (hf q).st fun _ z => XS.icmpNo X.here C.1 rfl (hb C.2.2.1 hd) rfl ((feq q).1) z
theorem g_if_eq (C : Cx p m meth c Z EL a0 own name cod maxL ret) (S : On p l e R s m args below meth c Z EL own n0 T h PS k n) {x : Int32} {o : Int} (hd : decode cod pc = .ok (.ifCond .eq o, 3)) (ho : 0 ≤ (pc : Int) + o) (hp : ((pc : Int) + o).toNat = pc') (hq : pc + 3 = pf) (ht : x = (0 : Int32) → Gl p e below s Z EL R n0 Q T (mkF m pc' L r)) (hf : ¬ x = (0 : Int32) → Gl p e below s Z EL R n0 Q T (mkF m pf L r)) : Gl p e below s Z EL R n0 Q T (mkF m pc L (.int x :: r)) := by
  obtain ⟨locs, vm0, k1, X, -⟩ := S; subst hq
  by_cases q : x = (0 : Int32)
  · exact (ht q).st fun _ z => XS.ifYes X.here C.1 rfl rfl (hb C.2.2.1 hd) rfl ((if0 _ _).trans (teq q).1) ho hp z
  · exact (hf q).st fun _ z => XS.ifNo X.here C.1 rfl (hb C.2.2.1 hd) rfl ((if0 _ _).trans (feq q).1) z
theorem g_lif_eq (C : Cx p m meth c Z EL a0 own name cod maxL ret) (S : On p l e R s m args below meth c Z EL own n0 T h PS k n) {x y : Int64} {o : Int} (hd : decode cod pc = .ok (.ifCond .eq o, 3)) (ho : 0 ≤ (pc : Int) + o) (hp : ((pc : Int) + o).toNat = pc') (hq : pc + 3 = pf) (ht : x = y → Gl p e below s Z EL R n0 Q T (mkF m pc' L r)) (hf : ¬ x = y → Gl p e below s Z EL R n0 Q T (mkF m pf L r)) : Gl p e below s Z EL R n0 Q T (mkF m pc L (.int (lcmpW x y) :: r)) := by
  obtain ⟨locs, vm0, k1, X, -⟩ := S; subst hq
  by_cases q : x = y
  · exact (ht q).st fun _ z => XS.ifYes X.here C.1 rfl rfl (hb C.2.2.1 hd) rfl ((if0 _ _).trans (teq ((lw_eq x y).mpr q)).1) ho hp z
  · exact (hf q).st fun _ z => XS.ifNo X.here C.1 rfl (hb C.2.2.1 hd) rfl ((if0 _ _).trans (feq (fun z => q ((lw_eq x y).mp z))).1) z
theorem g_icmp_ne (C : Cx p m meth c Z EL a0 own name cod maxL ret) (S : On p l e R s m args below meth c Z EL own n0 T h PS k n) {x y : Int32} {o : Int} (hd : decode cod pc = .ok (.if_icmp .ne o, 3)) (ho : 0 ≤ (pc : Int) + o) (hp : ((pc : Int) + o).toNat = pc') (hq : pc + 3 = pf) (ht : ¬ x = y → Gl p e below s Z EL R n0 Q T (mkF m pc' L r)) (hf : x = y → Gl p e below s Z EL R n0 Q T (mkF m pf L r)) : Gl p e below s Z EL R n0 Q T (mkF m pc L (.int y :: .int x :: r)) := by
  obtain ⟨locs, vm0, k1, X, -⟩ := S; subst hq
  by_cases q : x = y
  · exact (hf q).st fun _ z => XS.icmpNo X.here C.1 rfl (hb C.2.2.1 hd) rfl ((teq q).2) z
  · exact (ht q).st fun _ z => XS.icmpYes X.here C.1 rfl rfl (hb C.2.2.1 hd) rfl ((feq q).2) ho hp z
theorem g_if_ne (C : Cx p m meth c Z EL a0 own name cod maxL ret) (S : On p l e R s m args below meth c Z EL own n0 T h PS k n) {x : Int32} {o : Int} (hd : decode cod pc = .ok (.ifCond .ne o, 3)) (ho : 0 ≤ (pc : Int) + o) (hp : ((pc : Int) + o).toNat = pc') (hq : pc + 3 = pf) (ht : ¬ x = (0 : Int32) → Gl p e below s Z EL R n0 Q T (mkF m pc' L r)) (hf : x = (0 : Int32) → Gl p e below s Z EL R n0 Q T (mkF m pf L r)) : Gl p e below s Z EL R n0 Q T (mkF m pc L (.int x :: r)) := by
  obtain ⟨locs, vm0, k1, X, -⟩ := S; subst hq
  by_cases q : x = (0 : Int32)
  · exact (hf q).st fun _ z => XS.ifNo X.here C.1 rfl (hb C.2.2.1 hd) rfl ((if0 _ _).trans (teq q).2) z
  · exact (ht q).st fun _ z => XS.ifYes X.here C.1 rfl rfl (hb C.2.2.1 hd) rfl ((if0 _ _).trans (feq q).2) ho hp z
theorem g_lif_ne (C : Cx p m meth c Z EL a0 own name cod maxL ret) (S : On p l e R s m args below meth c Z EL own n0 T h PS k n) {x y : Int64} {o : Int} (hd : decode cod pc = .ok (.ifCond .ne o, 3)) (ho : 0 ≤ (pc : Int) + o) (hp : ((pc : Int) + o).toNat = pc') (hq : pc + 3 = pf) (ht : ¬ x = y → Gl p e below s Z EL R n0 Q T (mkF m pc' L r)) (hf : x = y → Gl p e below s Z EL R n0 Q T (mkF m pf L r)) : Gl p e below s Z EL R n0 Q T (mkF m pc L (.int (lcmpW x y) :: r)) := by
  obtain ⟨locs, vm0, k1, X, -⟩ := S; subst hq
  by_cases q : x = y
  · exact (hf q).st fun _ z => XS.ifNo X.here C.1 rfl (hb C.2.2.1 hd) rfl ((if0 _ _).trans (teq ((lw_eq x y).mpr q)).2) z
  · exact (ht q).st fun _ z => XS.ifYes X.here C.1 rfl rfl (hb C.2.2.1 hd) rfl ((if0 _ _).trans (feq (fun z => q ((lw_eq x y).mp z))).2) ho hp z
theorem g_ifnonnull_ref (C : Cx p m meth c Z EL a0 own name cod maxL ret) (S : On p l e R s m args below meth c Z EL own n0 T h PS k n) {o : Int} (hd : decode cod pc = .ok (.ifnonnull o, 3)) (ho : 0 ≤ (pc : Int) + o) (hp : ((pc : Int) + o).toNat = pc') (kk : Gl p e below s Z EL R n0 Q T (mkF m pc' L r)) : Gl p e below s Z EL R n0 Q T (mkF m pc L (.ref a :: r)) := by
  obtain ⟨locs, vm0, k1, X, -⟩ := S
  exact kk.st fun _ q => XS.ifnonnullYes X.here C.1 rfl rfl (hb C.2.2.1 hd) rfl ho hp q
theorem g_ifnonnull_null (C : Cx p m meth c Z EL a0 own name cod maxL ret) (S : On p l e R s m args below meth c Z EL own n0 T h PS k n) {o : Int} (hd : decode cod pc = .ok (.ifnonnull o, 3)) (hq : pc + 3 = pf) (kk : Gl p e below s Z EL R n0 Q T (mkF m pf L r)) : Gl p e below s Z EL R n0 Q T (mkF m pc L (.null :: r)) := by
  obtain ⟨locs, vm0, k1, X, -⟩ := S; subst hq
  exact kk.st fun _ q => XS.ifnonnullNo X.here C.1 rfl (hb C.2.2.1 hd) rfl q
theorem g_ifnull_null (C : Cx p m meth c Z EL a0 own name cod maxL ret) (S : On p l e R s m args below meth c Z EL own n0 T h PS k n) {o : Int} (hd : decode cod pc = .ok (.ifnull o, 3)) (ho : 0 ≤ (pc : Int) + o) (hp : ((pc : Int) + o).toNat = pc') (kk : Gl p e below s Z EL R n0 Q T (mkF m pc' L r)) : Gl p e below s Z EL R n0 Q T (mkF m pc L (.null :: r)) := by
  obtain ⟨locs, vm0, k1, X, -⟩ := S
  exact kk.st fun _ q => XS.ifnullYes X.here C.1 rfl rfl (hb C.2.2.1 hd) rfl ho hp q
theorem g_ifnull_ref (C : Cx p m meth c Z EL a0 own name cod maxL ret) (S : On p l e R s m args below meth c Z EL own n0 T h PS k n) {o : Int} (hd : decode cod pc = .ok (.ifnull o, 3)) (hq : pc + 3 = pf) (kk : Gl p e below s Z EL R n0 Q T (mkF m pf L r)) : Gl p e below s Z EL R n0 Q T (mkF m pc L (.ref a :: r)) := by
  obtain ⟨locs, vm0, k1, X, -⟩ := S; subst hq
  exact kk.st fun _ q => XS.ifnullNo X.here C.1 rfl (hb C.2.2.1 hd) rfl q
theorem g_acmp_eq (C : Cx p m meth c Z EL a0 own name cod maxL ret) (S : On p l e R s m args below meth c Z EL own n0 T h PS k n) {x y : Value} (hx : x.isRef = true) (hy : y.isRef = true) {o : Int} (hd : decode cod pc = .ok (.if_acmp .eq o, 3)) (ho : 0 ≤ (pc : Int) + o) (hp : ((pc : Int) + o).toNat = pc') (hq : pc + 3 = pf) (ht : x = y → Gl p e below s Z EL R n0 Q T (mkF m pc' L r)) (hf : ¬ x = y → Gl p e below s Z EL R n0 Q T (mkF m pf L r)) : Gl p e below s Z EL R n0 Q T (mkF m pc L (y :: x :: r)) := by
  obtain ⟨locs, vm0, k1, X, -⟩ := S; subst hq hp
  by_cases q : x = y
  · exact (ht q).st fun _ z => Jvm.RoadKit.acmp X C.1 rfl hx hy (same := true) rfl (hb C.2.2.1 hd) rfl (decide_eq_true q) ho (by simp [acV]) z
  · exact (hf q).st fun _ z => Jvm.RoadKit.acmp X C.1 rfl hx hy (same := false) rfl (hb C.2.2.1 hd) rfl (decide_eq_false q) ho (by simp [acV]) z
theorem g_acmp_ne (C : Cx p m meth c Z EL a0 own name cod maxL ret) (S : On p l e R s m args below meth c Z EL own n0 T h PS k n) {x y : Value} (hx : x.isRef = true) (hy : y.isRef = true) {o : Int} (hd : decode cod pc = .ok (.if_acmp .ne o, 3)) (ho : 0 ≤ (pc : Int) + o) (hp : ((pc : Int) + o).toNat = pc') (hq : pc + 3 = pf) (ht : ¬ x = y → Gl p e below s Z EL R n0 Q T (mkF m pc' L r)) (hf : x = y → Gl p e below s Z EL R n0 Q T (mkF m pf L r)) : Gl p e below s Z EL R n0 Q T (mkF m pc L (y :: x :: r)) := by
  obtain ⟨locs, vm0, k1, X, -⟩ := S; subst hq hp
  by_cases q : x = y
  · exact (hf q).st fun _ z => Jvm.RoadKit.acmp X C.1 rfl hx hy (same := true) rfl (hb C.2.2.1 hd) rfl (decide_eq_true q) ho (by simp [acV]) z
  · exact (ht q).st fun _ z => Jvm.RoadKit.acmp X C.1 rfl hx hy (same := false) rfl (hb C.2.2.1 hd) rfl (decide_eq_false q) ho (by simp [acV]) z
theorem g_ldc (C : Cx p m meth c Z EL a0 own name cod maxL ret) (S : On p l e R s m args below meth c Z EL own n0 T h PS k n) {v : Int32} {i : Nat} (hd : decode cod pc = .ok (.ldc i, 2)) (w : (Jvm.Cond.constant own i v).before a0 Z = true) (hp : pc + 2 = pc') (kk : Gl p e below s Z EL R n0 Q T (mkF m pc' L (.int v :: r))) : Gl p e below s Z EL R n0 Q T (mkF m pc L r) := by
  obtain ⟨locs, vm0, k1, X, N0, eh, hSi, hk1, hWm, hown, hCH, hF⟩ := S; subst hp
  exact kk.st fun t q => X.ldcInt (g := mkF m pc L r) C.1 hown (mvT hWm w) rfl (hb C.2.2.1 hd) t q
theorem g_ldc2 (C : Cx p m meth c Z EL a0 own name cod maxL ret) (S : On p l e R s m args below meth c Z EL own n0 T h PS k n) {v : Int64} {i : Nat} (hd : decode cod pc = .ok (.ldc2_w i, 3)) (w : (Jvm.Cond.constantLong own i v).before a0 Z = true) (hp : pc + 3 = pc') (kk : Gl p e below s Z EL R n0 Q T (mkF m pc' L (.long v :: r))) : Gl p e below s Z EL R n0 Q T (mkF m pc L r) := by
  obtain ⟨locs, vm0, k1, X, N0, eh, hSi, hk1, hWm, hown, hCH, hF⟩ := S; subst hp
  exact kk.st fun t q => X.ldc2Long (g := mkF m pc L r) C.1 hown (mvT hWm w) rfl (hb C.2.2.1 hd) t q
theorem g_leave (C : Cx p m meth c Z EL a0 own name cod maxL ret) (S : On p l e R s m args below meth c Z EL own n0 T h PS k n) {v : Option Value} (hk : k ≤ R.cells) (hn : n ≤ R.slots) (hv : meth.sig.returnType = none → v = none) (q : Q v h PS)
    (hst : ∀ fs, (∀ (f : JFrame) (acts : List Action), f.method = m → f.locked = none → f.entered = [] → (doReturn e (T.setTop f) acts v).1 = T.setFrames fs) → ∀ s' locs, Stand p l e R s' m args below meth c T locs k n → Steps p.tables e below (T.setTop (mkF m pc L r)) (T.setFrames fs)) : Gl p e below s Z EL R n0 Q T (mkF m pc L r) := by
  obtain ⟨locs, vm0, k1, X, N, eh, hSi, hk1, hWm, hown, hCH, hF⟩ := S
  obtain ⟨fs, hr, hrun, hended, hE1, hE2, hE3, hE4⟩ := X.leaveW hSi (by rw [eh]; exact hk1) (v := v) hv C.2.2.2.2.2.2.2
  have q' : Q v (T.setFrames fs).heap PS := by show Q v T.heap PS; rw [eh]; exact q
  have hA := CHv.at X hWm C.2.1.1 hCH.1
  have hB : CHr Z EL s.vm s.heap (T.setFrames fs).vm (T.setFrames fs).heap := by show CHr Z EL s.vm s.heap T.vm T.heap; rw [eh]; exact hCH.trans hA
  have hD : Sf Z EL (T.setFrames fs).vm (T.setFrames fs).heap PS := by show Sf Z EL T.vm T.heap PS; rw [eh]; exact hF.chr hA
  exact ⟨_, _, hst fs hr _ locs X, hrun, hended, _, _, rfl, ⟨PS, q', N, hD⟩, hB, hE1, hE2, hE3, hE4.mono hk hn⟩
theorem g_return (C : Cx p m meth c Z EL a0 own name cod maxL none) (S : On p l e R s m args below meth c Z EL own n0 T h PS k n) (hd : decode cod pc = .ok (.return_, 1)) (hk : k ≤ R.cells) (hn : n ≤ R.slots) (q : Q none h PS) : Gl p e below s Z EL R n0 Q T (mkF m pc L []) :=
  g_leave C S (v := none) hk hn (fun _ => rfl) q fun fs hr _ locs X => X.returnOut C.1 C.2.2.2.2.2.2.1 (hb C.2.2.1 hd) hr
theorem g_retv {t : FieldType} {w : Value} {i : Instr} (C : Cx p m meth c Z EL a0 own name cod maxL (some t)) (S : On p l e R s m args below meth c Z EL own n0 T h PS k n) (hd : decode cod pc = .ok (i, 1)) (hn' : narrow t w = w) (hi : (i = .ireturn ∧ (t = .int ∨ t = .boolean ∨ t = .byte ∨ t = .char ∨ t = .short) ∧ ∃ z, w = .int z) ∨ (i = .lreturn ∧ t = .long ∧ ∃ z, w = .long z) ∨ (i = .dreturn ∧ t = .double ∧ ∃ z, w = .double z) ∨ (i = .freturn ∧ t = .float ∧ ∃ z, w = .float z) ∨ (i = .areturn ∧ t.isReference = true ∧ w.isRef = true)) (hk : k ≤ R.cells) (hn : n ≤ R.slots) (q : Q (some w) h PS) : Gl p e below s Z EL R n0 Q T (mkF m pc L (w :: r)) :=
  g_leave C S (v := some w) hk hn (fun z => by rw [C.2.2.2.2.2.2.1] at z; cases z) q fun fs hr _ locs X => retOut X C.1 C.2.2.2.2.2.2.1 hn' hi (hb C.2.2.1 hd) hr
theorem g_retI {z : Int32} (C : Cx p m meth c Z EL a0 own name cod maxL (some .int)) (S : On p l e R s m args below meth c Z EL own n0 T h PS k n) (hd : decode cod pc = .ok (.ireturn, 1)) (hk : k ≤ R.cells) (hn : n ≤ R.slots) (q : Q (some (.int z)) h PS) : Gl p e below s Z EL R n0 Q T (mkF m pc L (.int z :: r)) := g_retv C S hd rfl (Or.inl ⟨rfl, Or.inl rfl, z, rfl⟩) hk hn q
theorem g_retZ {z : Int32} (C : Cx p m meth c Z EL a0 own name cod maxL (some .boolean)) (S : On p l e R s m args below meth c Z EL own n0 T h PS k n) (hd : decode cod pc = .ok (.ireturn, 1)) (hz : z &&& 1 = z) (hk : k ≤ R.cells) (hn : n ≤ R.slots) (q : Q (some (.int z)) h PS) : Gl p e below s Z EL R n0 Q T (mkF m pc L (.int z :: r)) := g_retv C S hd (congrArg Value.int hz) (Or.inl ⟨rfl, Or.inr (Or.inl rfl), z, rfl⟩) hk hn q
theorem g_retJ {z : Int64} (C : Cx p m meth c Z EL a0 own name cod maxL (some .long)) (S : On p l e R s m args below meth c Z EL own n0 T h PS k n) (hd : decode cod pc = .ok (.lreturn, 1)) (hk : k ≤ R.cells) (hn : n ≤ R.slots) (q : Q (some (.long z)) h PS) : Gl p e below s Z EL R n0 Q T (mkF m pc L (.long z :: r)) := g_retv C S hd rfl (Or.inr (Or.inl ⟨rfl, rfl, z, rfl⟩)) hk hn q
theorem g_retA {t : FieldType} {w : Value} (C : Cx p m meth c Z EL a0 own name cod maxL (some t)) (S : On p l e R s m args below meth c Z EL own n0 T h PS k n) (hd : decode cod pc = .ok (.areturn, 1)) (ht : t.isReference = true) (hw : w.isRef = true) (hnw : narrow t w = w) (hk : k ≤ R.cells) (hn : n ≤ R.slots) (q : Q (some w) h PS) : Gl p e below s Z EL R n0 Q T (mkF m pc L (w :: r)) := g_retv C S hd hnw (Or.inr (Or.inr (Or.inr (Or.inr ⟨rfl, ht, hw⟩)))) hk hn q
theorem g_getF (C : Cx p m meth c Z EL a0 own name cod maxL ret) (S : On p l e R s m args below meth c Z EL own n0 T h PS k n) {R0 O nm d host : String} {i : Nat} {v : Value} (hd : decode cod pc = .ok (.getfield i, 3)) (w : (Jvm.Cond.fieldLink own i R0 nm d).before a0 Z = true ∨ (Jvm.Cond.fieldLinkNest own i R0 nm d host).before a0 Z = true) (via : Via Z R0 O nm d) (F : Fld Z h a O nm d v) (hp : pc + 3 = pc') (kk : ∀ T', On p l e R s m args below meth c Z EL own n0 T' h PS k n → Gl p e below s Z EL R n0 Q T' (mkF m pc' L (v :: r))) : Gl p e below s Z EL R n0 Q T (mkF m pc L (.ref a :: r)) := by
  obtain ⟨locs, vm0, k1, X, N, eh, hSi, hk1, hWm, hown, hCH, hF⟩ := S; subst hp
  obtain ⟨T', X', eT, st⟩ := getF X C.1 hWm hown w via eh F (g := mkF m pc L (.ref a :: r)) rfl rfl (hb C.2.2.1 hd)
  exact (kk T' ⟨locs, vm0, k1, X', N, eT, hSi, hk1, hWm, hown, hCH, hF⟩).st st
theorem g_getS (C : Cx p m meth c Z EL a0 own name cod maxL ret) (S : On p l e R s m args below meth c Z EL own n0 T h PS k n) {R0 O nm d host : String} {i : Nat} {v : Value} (hd : decode cod pc = .ok (.getstatic i, 3)) (w : (Jvm.Cond.fieldLink own i R0 nm d).before a0 Z = true ∨ (Jvm.Cond.fieldLinkNest own i R0 nm d host).before a0 Z = true) (via : Via Z R0 O nm d) (F : Sta Z h O nm d v) (hp : pc + 3 = pc') (kk : ∀ T', On p l e R s m args below meth c Z EL own n0 T' h PS k n → Gl p e below s Z EL R n0 Q T' (mkF m pc' L (v :: r))) : Gl p e below s Z EL R n0 Q T (mkF m pc L r) := by
  obtain ⟨locs, vm0, k1, X, N, eh, hSi, hk1, hWm, hown, hCH, hF⟩ := S; subst hp
  obtain ⟨T', X', eT, st⟩ := getS2 X C.1 hWm hown w via eh F (g := mkF m pc L r) rfl (hb C.2.2.1 hd)
  exact (kk T' ⟨locs, vm0, k1, X', N, eT, hSi, hk1, hWm, hown, hCH, hF⟩).st st
theorem g_putF (C : Cx p m meth c Z EL a0 own name cod maxL ret) (S : On p l e R s m args below meth c Z EL own n0 T h PS k n) {R0 O nm d host K : String} {i kk0 : Nat} {ty : FieldType} {v old : Value} (hd : decode cod pc = .ok (.putfield i, 3)) (w : (Jvm.Cond.fieldLink own i R0 nm d).before a0 Z = true ∨ (Jvm.Cond.fieldLinkNest own i R0 nm d host).before a0 Z = true) (via : Via Z R0 O nm d) (F : Fld Z h a O nm d old) (E : Exa Z h a K) (Ly : (Jvm.Cond.lays K O nm d).before a0 Z = true ∨ ((Jvm.Cond.laysFinal K O nm d).before a0 Z = true ∧ own = O ∧ name = "<init>")) (wi : (Jvm.Cond.instantiable K kk0).before a0 Z = true) (hty : parseFieldDescriptor d = some ty) (hnr : narrow ty v = v) (hft : fits ty v = true) (ga : n0 ≤ a) (sf : a ∈ PS ∨ (K ≠ "java/lang/String" ∧ K ≠ "[B")) (hp : pc + 3 = pc') (kk : ∀ T' h', On p l e R s m args below meth c Z EL own n0 T' h' PS k n → Wr h h' a (Jvm.RoadKit.slotOf Z O nm d) v → Gl p e below s Z EL R n0 Q T' (mkF m pc' L r)) : Gl p e below s Z EL R n0 Q T (mkF m pc L (v :: .ref a :: r)) := by
  obtain ⟨locs, vm0, k1, X, N, eh, hSi, hk1, hWm, hown, hCH, hF⟩ := S; subst hp
  obtain ⟨T', h', X', eT, W, st⟩ := putF X C.1 hWm hown w via eh F E (Ly.imp id fun q => ⟨q.1, q.2.1, C.2.2.2.2.2.1.trans q.2.2⟩) wi hty hnr hft (g := mkF m pc L (v :: .ref a :: r)) rfl rfl (hb C.2.2.1 hd)
  have hsf : Safe Z EL vm0 h a := sf.elim (fun q => (hF a q).2) fun q => Safe.exa hWm.alike E q.1 q.2
  exact (kk T' h' ⟨_, vm0, k1, X', Fr.snoc X' N ga, eT, hSi, Nat.le_trans hk1 (CHr.wr W hsf hCH.1).2.1, hWm, hown, hCH.trans (CHr.wr W hsf hCH.1), hF.chr (CHr.wr W hsf hCH.1)⟩ W).st st
theorem g_new (C : Cx p m meth c Z EL a0 own name cod maxL ret) (S : On p l e R s m args below meth c Z EL own n0 T h PS k n) {K : String} {i sz : Nat} (hd : decode cod pc = .ok (.new i, 3)) (w : (Jvm.Cond.classLink own i K).before a0 Z = true) (wi : (Jvm.Cond.instantiable K sz).before a0 Z = true) (wz : (Jvm.Cond.initialized K).before a0 Z = true) (hc : k + 1 ≤ R.cells) (hl : n + sz ≤ R.slots) (hp : pc + 3 = pc') (kk : ∀ T' h' a, On p l e R s m args below meth c Z EL own n0 T' h' (a :: PS) (k + 1) (n + sz) → a = h.size → Ext h h' → Exa Z h' a K → (∀ {O nm d : String} {ty : FieldType}, Laid Z a0 K O nm d → parseFieldDescriptor d = some ty → Fld Z h' a O nm d (defaultValue ty)) → Gl p e below s Z EL R n0 Q T' (mkF m pc' L (.ref a :: r))) : Gl p e below s Z EL R n0 Q T (mkF m pc L r) := by
  obtain ⟨locs, vm0, k1, X, N, eh, hSi, hk1, hWm, hown, hCH, hF⟩ := S; subst hp
  obtain ⟨T', h', X', eT, E, A, D, -, st⟩ := newO X C.1 hWm hown w wi wz eh (g := mkF m pc L r) rfl (hb C.2.2.1 hd) hc hl
  exact (kk T' h' h.size ⟨_, vm0, k1, X', N, eT, hSi, Nat.le_trans hk1 E.1, hWm, hown, hCH.trans (CHr.ext E hCH.1), (hF.chr (CHr.ext E hCH.1)).cons A.lt (Safe.ext E hCH.1 (Safe.new (Nat.le_refl _)))⟩ rfl E A D).st st
theorem g_initO (C : Cx p m meth c Z EL a0 own name cod maxL ret) (S : On p l e R s m args below meth c Z EL own n0 T h PS k n) {i W : Nat} (hd : decode cod pc = .ok (.invokespecial i, 3)) (w1 : (Jvm.Cond.methodLink own i Lib.objectInit).before a0 Z = true) (w2 : (Jvm.Cond.instanceMethod Lib.objectInit).before a0 Z = true) (w3 : (Jvm.Cond.code Lib.objectInit ⟨#[0xb1]⟩ 1 none).before a0 Z = true) (hsz : L.size = maxL) (hf : 1 ≤ R.frames) (hW : (r.map fun v => v.category).sum ≤ W) (hl : W + 12 ≤ R.locals) (hp : pc + 3 = pc') (kk : ∀ T', On p l e R s m args below meth c Z EL own n0 T' h PS k n → Gl p e below s Z EL R n0 Q T' (mkF m pc' L r)) : Gl p e below s Z EL R n0 Q T (mkF m pc L (.ref a :: r)) := by
  obtain ⟨locs, vm0, k1, X, N, eh, hSi, hk1, hWm, hown, hCH, hF⟩ := S; subst hp
  obtain ⟨T', X', eT, st⟩ := initO X C.1 hWm hown w1 w2 w3 eh (g := mkF m pc L (.ref a :: r)) rfl (hsz.trans C.2.2.2.1.symm) rfl (hb C.2.2.1 hd) hf (W := W) (by simpa using hW) hl
  exact (kk T' ⟨locs, vm0, k1, X', N, eT, hSi, hk1, hWm, hown, hCH, hF⟩).st st
theorem notFace_of_inst {y : MethodName} {sz : Nat} (hZ : Z.Warmed39 s.vm) (wi : (Jvm.Cond.instantiable y.cls sz).before a0 Z = true) : NotFace s y := fun r0 h0 => by
  obtain ⟨c0, k0, i1, i2, -, i4, -⟩ := Cond.instantiable_spec (mvT (s := s) (args := #[]) hZ wi)
  have q := findClass_of_methodNamed h0
  rw [i1] at q; cases q
  exact ⟨k0, i2, (Bool.or_eq_false_iff.mp i4).1⟩
theorem g_callS (C : Cx p m meth c Z EL a0 own name cod maxL ret) (S : On p l e R s m args below meth c Z EL own n0 T h PS k n) {y : MethodName} {bytes : ByteArray} {mx i W : Nat} {rt : Option FieldType} {rm : Room} {P0 : List Addr} {Q' : Option Value → Heap → List Addr → Prop} {argsL stk : List Value} (hd : decode cod pc = .ok (.invokestatic i, 3)) (w1 : (Jvm.Cond.methodLink own i y).before a0 Z = true) (w2 : (Jvm.Cond.static y).before a0 Z = true) (w3 : (Jvm.Cond.initialized y.cls).before a0 Z = true) (w4 : (Jvm.Cond.code y bytes mx rt).before a0 Z = true) (hy : y.cls ≠ "java/lang/invoke/MethodHandle" ∧ y.cls ≠ "java/lang/invoke/VarHandle") (K : Con l Z EL P0 y bytes mx rt rm argsL.toArray h n0 Q') (hst : stk = argsL.reverse ++ r) (hP0 : ∀ x ∈ P0, x ∈ PS) (hlen : ∀ sig, parseMethodDescriptor y.desc = some sig → argsL.length = sig.parameters.length) (hsz : L.size = maxL) (hW : (r.map fun v => v.category).sum ≤ W) (hf : rm.frames + 1 ≤ R.frames) (hlo : W + (mx + 11) + rm.locals ≤ R.locals) (hce : k + rm.cells ≤ R.cells) (hsl : n + rm.slots ≤ R.slots) (hp : pc + 3 = pc') (kk : ∀ T' h' v P1, Q' v h' P1 → On p l e R s m args below meth c Z EL own n0 T' h' (P1 ++ PS) (k + rm.cells) (n + rm.slots) → Gl p e below s Z EL R n0 Q T' (mkF m pc' L (v.toList ++ r))) : Gl p e below s Z EL R n0 Q T (mkF m pc L stk) := by
  obtain ⟨locs, vm0, k1, X, N, eh, hSi, hk1, hWm, hown, hCH, hF⟩ := S; subst hp
  obtain ⟨v, vm1, ⟨T', L1, k2, n1⟩, -, X', hS2, hgr, ⟨Lc, hQ, l', y', z', hC2⟩, st⟩ := callSS X C.1 (y := y) hown (mvT hWm w1) (mvT hWm w2) (mvT hWm w3) (mvT hWm w4) hy (backW (W := W) (Q := Q') (n0 := n0) (K []) hWm w4 w3 hf hlo C.2.1.1 hCH.1 (hF.sub hP0)) (g := mkF m pc L stk) rfl (hsz.trans C.2.2.2.1.symm) (argsL := argsL) (rest := r) hlen hst (by simpa using hW) (hb C.2.2.1 hd) (fun _ _ => ⟨rfl, eh, hce, hsl⟩)
  dsimp only [Pt.U, Pt.locs, Pt.cells, Pt.slots] at X' st hQ l' y' z' hC2 hS2 hgr
  subst l' y' z'
  obtain ⟨P1, hQ, hFr, hSf⟩ := hQ
  exact (kk T' T'.heap v P1 hQ ⟨_, T'.vm, _, X', N.app hFr, rfl, foldS hSi (by rw [eh]; exact hk1) hS2 hgr, Nat.le_refl _, State.Warmed39.trans (t := s.setVm vm0) hWm hS2.1, (show T'.vm.findClass own = some m.cls by rw [hS2.1.alike.findClass]; exact hown), hCH.trans hC2, hSf.app (hF.chr hC2)⟩).st fun _ q => st.trans q
theorem g_callI (C : Cx p m meth c Z EL a0 own name cod maxL ret) (S : On p l e R s m args below meth c Z EL own n0 T h PS k n) {y : MethodName} {bytes : ByteArray} {mx i W : Nat} {rm : Room} {P0 : List Addr} {Q' : Option Value → Heap → List Addr → Prop} {argsL stk : List Value} (hd : decode cod pc = .ok (.invokespecial i, 3)) (hy1 : y.name = "<init>") (w1 : (Jvm.Cond.methodLink own i y).before a0 Z = true) (w2 : (Jvm.Cond.instanceMethod y).before a0 Z = true) (w3 : (Jvm.Cond.initialized y.cls).before a0 Z = true) (w4 : (Jvm.Cond.code y bytes mx none).before a0 Z = true) (hy : y.cls ≠ "java/lang/invoke/MethodHandle" ∧ y.cls ≠ "java/lang/invoke/VarHandle") (K : Con l Z EL P0 y bytes mx none rm (.ref a :: argsL).toArray h n0 Q') (hst : stk = argsL.reverse ++ .ref a :: r) (hP0 : ∀ x ∈ P0, x ∈ PS) (hlen : ∀ sig, parseMethodDescriptor y.desc = some sig → argsL.length = sig.parameters.length) (hsz : L.size = maxL) (hW : (r.map fun v => v.category).sum ≤ W) (hf : rm.frames + 1 ≤ R.frames) (hlo : W + (mx + 11) + rm.locals ≤ R.locals) (hce : k + rm.cells ≤ R.cells) (hsl : n + rm.slots ≤ R.slots) (hp : pc + 3 = pc') (kk : ∀ T' h' v P1, Q' v h' P1 → On p l e R s m args below meth c Z EL own n0 T' h' (P1 ++ PS) (k + rm.cells) (n + rm.slots) → Gl p e below s Z EL R n0 Q T' (mkF m pc' L (v.toList ++ r))) : Gl p e below s Z EL R n0 Q T (mkF m pc L stk) := by
  obtain ⟨locs, vm0, k1, X, N, eh, hSi, hk1, hWm, hown, hCH, hF⟩ := S; subst hp
  obtain ⟨v, vm1, ⟨T', L1, k2, n1⟩, -, X', hS2, hgr, ⟨Lc, hQ, l', y', z', hC2⟩, st⟩ := X.specialBackS C.1 (y := y) hy1 hown (mvT hWm w1) (mvT hWm w2) (mvT hWm w4) hy (backW (W := W) (Q := Q') (n0 := n0) (K []) hWm w4 w3 hf hlo C.2.1.1 hCH.1 (hF.sub hP0)) (g := mkF m pc L stk) rfl (hsz.trans C.2.2.2.1.symm) (Steps.refl _) (a := a) (argsL := argsL) (rest := r) hlen hst (by simpa using hW) (hb C.2.2.1 hd) (fun _ _ => ⟨rfl, eh, hce, hsl⟩)
  dsimp only [Pt.U, Pt.locs, Pt.cells, Pt.slots] at X' st hQ l' y' z' hC2 hS2 hgr
  subst l' y' z'
  obtain ⟨P1, hQ, hFr, hSf⟩ := hQ
  exact (kk T' T'.heap v P1 hQ ⟨_, T'.vm, _, X', N.app hFr, rfl, foldS hSi (by rw [eh]; exact hk1) hS2 hgr, Nat.le_refl _, State.Warmed39.trans (t := s.setVm vm0) hWm hS2.1, (show T'.vm.findClass own = some m.cls by rw [hS2.1.alike.findClass]; exact hown), hCH.trans hC2, hSf.app (hF.chr hC2)⟩).st fun _ q => st.trans q
theorem g_callV (C : Cx p m meth c Z EL a0 own name cod maxL ret) (S : On p l e R s m args below meth c Z EL own n0 T h PS k n) {K : String} {y z : MethodName} {bytes : ByteArray} {mx i W : Nat} {rt : Option FieldType} {rm : Room} {P0 : List Addr} {Q' : Option Value → Heap → List Addr → Prop} {argsL stk : List Value} (hd : decode cod pc = .ok (.invokevirtual i, 3)) (w1 : (Jvm.Cond.methodLink own i y).before a0 Z = true) (w2 : (Jvm.Cond.declares y).before a0 Z = true) (hnf : ∀ s' : State, Z.Warmed39 s'.vm → NotFace s' y) (w5 : (Jvm.Cond.selects K y z).before a0 Z = true) (w6 : (Jvm.Cond.instanceMethod z).before a0 Z = true) (w3 : (Jvm.Cond.initialized z.cls).before a0 Z = true) (w4 : (Jvm.Cond.code z bytes mx rt).before a0 Z = true) (hy : y.cls ≠ "java/lang/invoke/MethodHandle" ∧ y.cls ≠ "java/lang/invoke/VarHandle") (hyK : y.cls = K) (E : Exa Z h a K) (Kc : Con l Z EL P0 z bytes mx rt rm (.ref a :: argsL).toArray h n0 Q') (hst : stk = argsL.reverse ++ .ref a :: r) (hP0 : ∀ x ∈ P0, x ∈ PS) (hlen : ∀ sig, parseMethodDescriptor y.desc = some sig → argsL.length = sig.parameters.length) (hsz : L.size = maxL) (hW : (r.map fun v => v.category).sum ≤ W) (hf : rm.frames + 1 ≤ R.frames) (hlo : W + (mx + 11) + rm.locals ≤ R.locals) (hce : k + rm.cells ≤ R.cells) (hsl : n + rm.slots ≤ R.slots) (hp : pc + 3 = pc') (kk : ∀ T' h' v P1, Q' v h' P1 → On p l e R s m args below meth c Z EL own n0 T' h' (P1 ++ PS) (k + rm.cells) (n + rm.slots) → Gl p e below s Z EL R n0 Q T' (mkF m pc' L (v.toList ++ r))) : Gl p e below s Z EL R n0 Q T (mkF m pc L stk) := by
  obtain ⟨locs, vm0, k1, X, N, eh, hSi, hk1, hWm, hown, hCH, hF⟩ := S; subst hp hyK
  obtain ⟨cq, kq, qa, qb, qc⟩ := isOf (s := s.setVm vm0) hWm eh E
  obtain ⟨v, vm1, ⟨T', L1, k2, n1⟩, -, X', hS2, hgr, ⟨Lc, hQ, l', y', z', hC2⟩, st⟩ := X.virtualBackS C.1 (y := y) (z := z) hown (mvT hWm w1) (mvT hWm w2) (hnf (s.setVm vm0) hWm) (mvT hWm w5) (mvT hWm w6) hy (backW (W := W) (Q := Q') (n0 := n0) (Kc []) hWm w4 w3 hf hlo C.2.1.1 hCH.1 (hF.sub hP0)) qa qc (g := mkF m pc L stk) rfl (hsz.trans C.2.2.2.1.symm) (Steps.refl _) (argsL := argsL) (rest := r) hlen hst (by simpa using hW) (hb C.2.2.1 hd) (fun _ _ => ⟨rfl, eh, hce, hsl⟩)
  dsimp only [Pt.U, Pt.locs, Pt.cells, Pt.slots] at X' st hQ l' y' z' hC2 hS2 hgr
  subst l' y' z'
  obtain ⟨P1, hQ, hFr, hSf⟩ := hQ
  exact (kk T' T'.heap v P1 hQ ⟨_, T'.vm, _, X', N.app hFr, rfl, foldS hSi (by rw [eh]; exact hk1) hS2 hgr, Nat.le_refl _, State.Warmed39.trans (t := s.setVm vm0) hWm hS2.1, (show T'.vm.findClass own = some m.cls by rw [hS2.1.alike.findClass]; exact hown), hCH.trans hC2, hSf.app (hF.chr hC2)⟩).st fun _ q => st.trans q
theorem g_callP (C : Cx p m meth c Z EL a0 own name cod maxL ret) (S : On p l e R s m args below meth c Z EL own n0 T h PS k n) {y : MethodName} {bytes : ByteArray} {mx i W sz : Nat} {rt : Option FieldType} {rm : Room} {P0 : List Addr} {Q' : Option Value → Heap → List Addr → Prop} {argsL stk : List Value} (hd : decode cod pc = .ok (.invokevirtual i, 3)) (w1 : (Jvm.Cond.methodLink own i y).before a0 Z = true) (w2 : (Jvm.Cond.instanceMethod y).before a0 Z = true) (wp : (Jvm.Cond.privateMethod y).before a0 Z = true) (wi : (Jvm.Cond.instantiable y.cls sz).before a0 Z = true) (w3 : (Jvm.Cond.initialized y.cls).before a0 Z = true) (w4 : (Jvm.Cond.code y bytes mx rt).before a0 Z = true) (hy : y.cls ≠ "java/lang/invoke/MethodHandle" ∧ y.cls ≠ "java/lang/invoke/VarHandle") (E : Exa Z h a y.cls) (Kc : Con l Z EL P0 y bytes mx rt rm (.ref a :: argsL).toArray h n0 Q') (hst : stk = argsL.reverse ++ .ref a :: r) (hP0 : ∀ x ∈ P0, x ∈ PS) (hlen : ∀ sig, parseMethodDescriptor y.desc = some sig → argsL.length = sig.parameters.length) (hsz : L.size = maxL) (hW : (r.map fun v => v.category).sum ≤ W) (hf : rm.frames + 1 ≤ R.frames) (hlo : W + (mx + 11) + rm.locals ≤ R.locals) (hce : k + rm.cells ≤ R.cells) (hsl : n + rm.slots ≤ R.slots) (hp : pc + 3 = pc') (kk : ∀ T' h' v P1, Q' v h' P1 → On p l e R s m args below meth c Z EL own n0 T' h' (P1 ++ PS) (k + rm.cells) (n + rm.slots) → Gl p e below s Z EL R n0 Q T' (mkF m pc' L (v.toList ++ r))) : Gl p e below s Z EL R n0 Q T (mkF m pc L stk) := by
  obtain ⟨locs, vm0, k1, X, N, eh, hSi, hk1, hWm, hown, hCH, hF⟩ := S; subst hp
  obtain ⟨cq, q1, q2⟩ := E.cell
  obtain ⟨c0, k0, i1, i2, i3, i4, -⟩ := Cond.instantiable_spec (mvT (s := s.setVm vm0) (args := args) hWm wi)
  have hpr := Cond.privateMethod_at (mvP (s := s.setVm vm0) (args := args) hWm wp)
  have hs := selects_self_of_private (args := args) i1 i2 (Bool.or_eq_false_iff.mp i4).1 hpr (mvT hWm w2) hy
  obtain ⟨v, vm1, ⟨T', L1, k2, n1⟩, -, X', hS2, hgr, ⟨Lc, hQ, l', y', z', hC2⟩, st⟩ := X.privateBackS C.1 (y := y) hown (mvT hWm w1) (mvT hWm w2) hs hpr (mvT hWm w4) hy (backW (W := W) (Q := Q') (n0 := n0) (Kc []) hWm w4 w3 hf hlo C.2.1.1 hCH.1 (hF.sub hP0)) (g := mkF m pc L stk) rfl (hsz.trans C.2.2.2.1.symm) (Steps.refl _) (a := a) (by rw [eh]; exact q1) q2 (argsL := argsL) (rest := r) hlen hst (by simpa using hW) (hb C.2.2.1 hd) (fun _ _ => ⟨rfl, eh, hce, hsl⟩)
  dsimp only [Pt.U, Pt.locs, Pt.cells, Pt.slots] at X' st hQ l' y' z' hC2 hS2 hgr
  subst l' y' z'
  obtain ⟨P1, hQ, hFr, hSf⟩ := hQ
  exact (kk T' T'.heap v P1 hQ ⟨_, T'.vm, _, X', N.app hFr, rfl, foldS hSi (by rw [eh]; exact hk1) hS2 hgr, Nat.le_refl _, State.Warmed39.trans (t := s.setVm vm0) hWm hS2.1, (show T'.vm.findClass own = some m.cls by rw [hS2.1.alike.findClass]; exact hown), hCH.trans hC2, hSf.app (hF.chr hC2)⟩).st fun _ q => st.trans q
/-- an array: its length and what each place holds -/
def Ary (Z : State) (h : Heap) (a : Addr) (ty : FieldType) (n : Nat) (f : Nat → Value) : Prop := ∃ c : Cell, Arr Z h a c ty ∧ c.slots.size = n ∧ ∀ i, i < n → c.slots[i]? = some (f i)
variable {ty : FieldType} {N i : Nat} {f : Nat → Value} {v : Value} {sl : Nat} {j x : Int32} {ws : List Addr}
theorem Ary.lt (A : Ary Z h a ty N f) : a < h.size := by obtain ⟨c, A, -⟩ := A; exact A.lt
theorem Ary.ext (A : Ary Z h a ty N f) (E : Ext h h') : Ary Z h' a ty N f := by obtain ⟨c, A, q⟩ := A; exact ⟨c, A.ext E, q⟩
theorem Ary.other (A : Ary Z h a ty N f) (W : Wr h h' b sl v) (q : a ≠ b) : Ary Z h' a ty N f := by obtain ⟨c, A, z⟩ := A; exact ⟨c, A.other W q, z⟩
theorem Ary.keep (A : Ary Z h a ty N f) (K : Keep h h' ws) (q : a ∉ ws) : Ary Z h' a ty N f := by obtain ⟨c, A, z⟩ := A; exact ⟨c, ⟨K.2.1 a c A.1 q, A.2⟩, z⟩
theorem Ary.cg {f' : Nat → Value} (A : Ary Z h a ty N f) (q : ∀ i, i < N → f i = f' i) : Ary Z h a ty N f' := by obtain ⟨c, A, s, z⟩ := A; exact ⟨c, A, s, fun i hi => by rw [← q i hi]; exact z i hi⟩
theorem Ary.same (A : Ary Z h a ty N f) (W : Wr h h' a i v) : Ary Z h' a ty N (fun q => if q = i then v else f q) := by
  obtain ⟨c, A, s, z⟩ := A
  refine ⟨_, A.same W, by rw [sz_set]; exact s, fun q hq => ?_⟩
  by_cases u : q = i
  · subst u; simp [Cell.setSlot, s, hq]
  · simp only [u, if_false]; simp only [Cell.setSlot]; rw [Array.getElem?_setIfInBounds_ne (fun w => u w.symm)]; exact z q hq
theorem idx_nat {c : Cell} (hj : j.toInt = (i : Int)) (hi : i < c.slots.size) : ¬ (j < 0 ∨ c.slots.size ≤ j.toNatClampNeg) ∧ j.toNatClampNeg = i := by
  have e : j.toNatClampNeg = i := by simp only [Int32.toNatClampNeg, hj]; omega
  refine ⟨?_, e⟩
  rw [e, Int32.lt_iff_toInt_lt, hj]
  have : (0 : Int32).toInt = 0 := rfl
  omega
theorem g_iaload (C : Cx p m meth c Z EL a0 own name cod maxL ret) (S : On p l e R s m args below meth c Z EL own n0 T h PS k n) (hd : decode cod pc = .ok (.iaload, 1)) (A : Ary Z h a .int N f) (hj : j.toInt = (i : Int)) (hi : i < N) (hv : f i = v) (hp : pc + 1 = pc') (kk : Gl p e below s Z EL R n0 Q T (mkF m pc' L (v :: r))) : Gl p e below s Z EL R n0 Q T (mkF m pc L (.int j :: .ref a :: r)) := by
  obtain ⟨locs, vm0, k1, X, N, eh, hSi, hk1, hWm, hown, hCH, hF⟩ := S; subst hp
  obtain ⟨cl, A, sz, z⟩ := A
  obtain ⟨q1, q2⟩ := idx_nat (c := cl) hj (by rw [sz]; exact hi)
  exact kk.st fun t q => X.iaload (g := mkF m pc L (.int j :: .ref a :: r)) C.1 (by rw [eh]; exact A.1) (State.isArrayOf_alike hWm.alike A.2.1) A.2.2 q1 (by rw [q2, ← hv]; exact z i hi) rfl rfl (hb C.2.2.1 hd) t q
theorem g_laload (C : Cx p m meth c Z EL a0 own name cod maxL ret) (S : On p l e R s m args below meth c Z EL own n0 T h PS k n) (hd : decode cod pc = .ok (.laload, 1)) (A : Ary Z h a .long N f) (hj : j.toInt = (i : Int)) (hi : i < N) (hv : f i = v) (hp : pc + 1 = pc') (kk : Gl p e below s Z EL R n0 Q T (mkF m pc' L (v :: r))) : Gl p e below s Z EL R n0 Q T (mkF m pc L (.int j :: .ref a :: r)) := by
  obtain ⟨locs, vm0, k1, X, N, eh, hSi, hk1, hWm, hown, hCH, hF⟩ := S; subst hp
  obtain ⟨cl, A, sz, z⟩ := A
  obtain ⟨q1, q2⟩ := idx_nat (c := cl) hj (by rw [sz]; exact hi)
  exact kk.st fun t q => X.laload (g := mkF m pc L (.int j :: .ref a :: r)) C.1 (by rw [eh]; exact A.1) (State.isArrayOf_alike hWm.alike A.2.1) A.2.2 q1 (by rw [q2, ← hv]; exact z i hi) rfl rfl (hb C.2.2.1 hd) t q
theorem g_caload (C : Cx p m meth c Z EL a0 own name cod maxL ret) (S : On p l e R s m args below meth c Z EL own n0 T h PS k n) (hd : decode cod pc = .ok (.caload, 1)) (A : Ary Z h a .char N f) (hj : j.toInt = (i : Int)) (hi : i < N) (hv : f i = v) (hp : pc + 1 = pc') (kk : Gl p e below s Z EL R n0 Q T (mkF m pc' L (v :: r))) : Gl p e below s Z EL R n0 Q T (mkF m pc L (.int j :: .ref a :: r)) := by
  obtain ⟨locs, vm0, k1, X, N, eh, hSi, hk1, hWm, hown, hCH, hF⟩ := S; subst hp
  obtain ⟨cl, A, sz, z⟩ := A
  obtain ⟨q1, q2⟩ := idx_nat (c := cl) hj (by rw [sz]; exact hi)
  exact kk.st fun t q => X.caload (g := mkF m pc L (.int j :: .ref a :: r)) C.1 (by rw [eh]; exact A.1) (State.isArrayOf_alike hWm.alike A.2.1) A.2.2 q1 (by rw [q2, ← hv]; exact z i hi) rfl rfl (hb C.2.2.1 hd) t q
theorem g_saload (C : Cx p m meth c Z EL a0 own name cod maxL ret) (S : On p l e R s m args below meth c Z EL own n0 T h PS k n) (hd : decode cod pc = .ok (.saload, 1)) (A : Ary Z h a .short N f) (hj : j.toInt = (i : Int)) (hi : i < N) (hv : f i = v) (hp : pc + 1 = pc') (kk : Gl p e below s Z EL R n0 Q T (mkF m pc' L (v :: r))) : Gl p e below s Z EL R n0 Q T (mkF m pc L (.int j :: .ref a :: r)) := by
  obtain ⟨locs, vm0, k1, X, N, eh, hSi, hk1, hWm, hown, hCH, hF⟩ := S; subst hp
  obtain ⟨cl, A, sz, z⟩ := A
  obtain ⟨q1, q2⟩ := idx_nat (c := cl) hj (by rw [sz]; exact hi)
  exact kk.st fun t q => X.saload (g := mkF m pc L (.int j :: .ref a :: r)) C.1 (by rw [eh]; exact A.1) (State.isArrayOf_alike hWm.alike A.2.1) A.2.2 q1 (by rw [q2, ← hv]; exact z i hi) rfl rfl (hb C.2.2.1 hd) t q
theorem g_baloadB (C : Cx p m meth c Z EL a0 own name cod maxL ret) (S : On p l e R s m args below meth c Z EL own n0 T h PS k n) (hd : decode cod pc = .ok (.baload, 1)) (A : Ary Z h a .byte N f) (hj : j.toInt = (i : Int)) (hi : i < N) (hv : f i = v) (hp : pc + 1 = pc') (kk : Gl p e below s Z EL R n0 Q T (mkF m pc' L (v :: r))) : Gl p e below s Z EL R n0 Q T (mkF m pc L (.int j :: .ref a :: r)) := by
  obtain ⟨locs, vm0, k1, X, N, eh, hSi, hk1, hWm, hown, hCH, hF⟩ := S; subst hp
  obtain ⟨cl, A, sz, z⟩ := A
  obtain ⟨q1, q2⟩ := idx_nat (c := cl) hj (by rw [sz]; exact hi)
  exact kk.st fun t q => X.baloadBytes (g := mkF m pc L (.int j :: .ref a :: r)) C.1 (by rw [eh]; exact A.1) (State.isArrayOf_alike hWm.alike A.2.1) A.2.2 q1 (by rw [q2, ← hv]; exact z i hi) rfl rfl (hb C.2.2.1 hd) t q
theorem g_baloadZ (C : Cx p m meth c Z EL a0 own name cod maxL ret) (S : On p l e R s m args below meth c Z EL own n0 T h PS k n) (hd : decode cod pc = .ok (.baload, 1)) (A : Ary Z h a .boolean N f) (hj : j.toInt = (i : Int)) (hi : i < N) (hv : f i = v) (hp : pc + 1 = pc') (kk : Gl p e below s Z EL R n0 Q T (mkF m pc' L (v :: r))) : Gl p e below s Z EL R n0 Q T (mkF m pc L (.int j :: .ref a :: r)) := by
  obtain ⟨locs, vm0, k1, X, N, eh, hSi, hk1, hWm, hown, hCH, hF⟩ := S; subst hp
  obtain ⟨cl, A, sz, z⟩ := A
  obtain ⟨q1, q2⟩ := idx_nat (c := cl) hj (by rw [sz]; exact hi)
  exact kk.st fun t q => X.baloadBooleans (g := mkF m pc L (.int j :: .ref a :: r)) C.1 (by rw [eh]; exact A.1) (State.isArrayOf_alike hWm.alike A.2.1) A.2.2 q1 (by rw [q2, ← hv]; exact z i hi) rfl rfl (hb C.2.2.1 hd) t q
theorem g_daload (C : Cx p m meth c Z EL a0 own name cod maxL ret) (S : On p l e R s m args below meth c Z EL own n0 T h PS k n) (hd : decode cod pc = .ok (.daload, 1)) (A : Ary Z h a .double N f) (hj : j.toInt = (i : Int)) (hi : i < N) (hv : f i = v) (hp : pc + 1 = pc') (kk : Gl p e below s Z EL R n0 Q T (mkF m pc' L (v :: r))) : Gl p e below s Z EL R n0 Q T (mkF m pc L (.int j :: .ref a :: r)) := by
  obtain ⟨locs, vm0, k1, X, N, eh, hSi, hk1, hWm, hown, hCH, hF⟩ := S; subst hp
  obtain ⟨cl, A, sz, z⟩ := A
  obtain ⟨q1, q2⟩ := idx_nat (c := cl) hj (by rw [sz]; exact hi)
  exact kk.st fun t q => X.daload (g := mkF m pc L (.int j :: .ref a :: r)) C.1 (by rw [eh]; exact A.1) (State.isArrayOf_alike hWm.alike A.2.1) A.2.2 q1 (by rw [q2, ← hv]; exact z i hi) rfl rfl (hb C.2.2.1 hd) t q
theorem g_aaload (C : Cx p m meth c Z EL a0 own name cod maxL ret) (S : On p l e R s m args below meth c Z EL own n0 T h PS k n) (hd : decode cod pc = .ok (.aaload, 1)) (A : Ary Z h a ty N f) (hty : ty.isReference = true) (hj : j.toInt = (i : Int)) (hi : i < N) (hv : f i = v) (hp : pc + 1 = pc') (kk : Gl p e below s Z EL R n0 Q T (mkF m pc' L (v :: r))) : Gl p e below s Z EL R n0 Q T (mkF m pc L (.int j :: .ref a :: r)) := by
  obtain ⟨locs, vm0, k1, X, N, eh, hSi, hk1, hWm, hown, hCH, hF⟩ := S; subst hp
  obtain ⟨cl, A, sz, z⟩ := A
  obtain ⟨q1, q2⟩ := idx_nat (c := cl) hj (by rw [sz]; exact hi)
  exact kk.st fun t q => X.aaload (g := mkF m pc L (.int j :: .ref a :: r)) C.1 (by rw [eh]; exact A.1) (State.isArrayOf_alike hWm.alike A.2.1) hty A.2.2 q1 (by rw [q2, ← hv]; exact z i hi) rfl rfl (hb C.2.2.1 hd) t q
theorem g_arraylength (C : Cx p m meth c Z EL a0 own name cod maxL ret) (S : On p l e R s m args below meth c Z EL own n0 T h PS k n) (hd : decode cod pc = .ok (.arraylength, 1)) (A : Ary Z h a ty N f) (hx : N.toInt32 = x) (hp : pc + 1 = pc') (kk : Gl p e below s Z EL R n0 Q T (mkF m pc' L (.int x :: r))) : Gl p e below s Z EL R n0 Q T (mkF m pc L (.ref a :: r)) := by
  obtain ⟨locs, vm0, k1, X, _, eh, hSi, hk1, hWm, hown, hCH, hF⟩ := S; subst hp
  obtain ⟨cl, A, sz, z⟩ := A
  subst hx
  rw [← sz] at kk
  exact kk.st fun t q => X.arraylength (g := mkF m pc L (.ref a :: r)) C.1 (by rw [eh]; exact A.1) (State.isArrayOf_alike hWm.alike A.2.1) rfl rfl (hb C.2.2.1 hd) t q
theorem g_iastore (C : Cx p m meth c Z EL a0 own name cod maxL ret) (S : On p l e R s m args below meth c Z EL own n0 T h PS k n) {y : Int32} (hd : decode cod pc = .ok (.iastore, 1)) (A : Ary Z h a .int N f) (hj : j.toInt = (i : Int)) (hi : i < N) (ga : n0 ≤ a) (hp : pc + 1 = pc') (kk : ∀ T' h', On p l e R s m args below meth c Z EL own n0 T' h' PS k n → Wr h h' a i (.int y) → Ary Z h' a .int N (fun q => if q = i then .int y else f q) → Gl p e below s Z EL R n0 Q T' (mkF m pc' L r)) : Gl p e below s Z EL R n0 Q T (mkF m pc L (.int y :: .int j :: .ref a :: r)) := by
  obtain ⟨locs, vm0, k1, X, N, eh, hSi, hk1, hWm, hown, hCH, hF⟩ := S; subst hp
  have A0 := A
  obtain ⟨cl, A, sz, z⟩ := A
  obtain ⟨q1, q2⟩ := idx_nat (c := cl) hj (by rw [sz]; exact hi)
  obtain ⟨T', h', X', eT, W, st⟩ := stI X C.1 hWm eh A q1 (g := mkF m pc L (.int y :: .int j :: .ref a :: r)) rfl rfl (hb C.2.2.1 hd)
  have N' := Fr.snoc X' N ga
  rw [q2] at W
  have hsf : Safe Z EL vm0 h a := Safe.arr hWm.alike A (by decide)
  exact (kk T' h' ⟨_, vm0, k1, X', N', eT, hSi, Nat.le_trans hk1 (CHr.wr W hsf hCH.1).2.1, hWm, hown, hCH.trans (CHr.wr W hsf hCH.1), hF.chr (CHr.wr W hsf hCH.1)⟩ W (A0.same W)).st st
theorem g_lastore (C : Cx p m meth c Z EL a0 own name cod maxL ret) (S : On p l e R s m args below meth c Z EL own n0 T h PS k n) {y : Int64} (hd : decode cod pc = .ok (.lastore, 1)) (A : Ary Z h a .long N f) (hj : j.toInt = (i : Int)) (hi : i < N) (ga : n0 ≤ a) (hp : pc + 1 = pc') (kk : ∀ T' h', On p l e R s m args below meth c Z EL own n0 T' h' PS k n → Wr h h' a i (.long y) → Ary Z h' a .long N (fun q => if q = i then .long y else f q) → Gl p e below s Z EL R n0 Q T' (mkF m pc' L r)) : Gl p e below s Z EL R n0 Q T (mkF m pc L (.long y :: .int j :: .ref a :: r)) := by
  obtain ⟨locs, vm0, k1, X, N, eh, hSi, hk1, hWm, hown, hCH, hF⟩ := S; subst hp
  have A0 := A
  obtain ⟨cl, A, sz, z⟩ := A
  obtain ⟨q1, q2⟩ := idx_nat (c := cl) hj (by rw [sz]; exact hi)
  obtain ⟨T', h', X', eT, W, st⟩ := stJ X C.1 hWm eh A q1 (g := mkF m pc L (.long y :: .int j :: .ref a :: r)) rfl rfl (hb C.2.2.1 hd)
  have N' := Fr.snoc X' N ga
  rw [q2] at W
  have hsf : Safe Z EL vm0 h a := Safe.arr hWm.alike A (by decide)
  exact (kk T' h' ⟨_, vm0, k1, X', N', eT, hSi, Nat.le_trans hk1 (CHr.wr W hsf hCH.1).2.1, hWm, hown, hCH.trans (CHr.wr W hsf hCH.1), hF.chr (CHr.wr W hsf hCH.1)⟩ W (A0.same W)).st st
theorem g_castore (C : Cx p m meth c Z EL a0 own name cod maxL ret) (S : On p l e R s m args below meth c Z EL own n0 T h PS k n) {y : Int32} (hd : decode cod pc = .ok (.castore, 1)) (A : Ary Z h a .char N f) (hj : j.toInt = (i : Int)) (hi : i < N) (ga : n0 ≤ a) (hp : pc + 1 = pc') (kk : ∀ T' h', On p l e R s m args below meth c Z EL own n0 T' h' PS k n → Wr h h' a i (.int (nar .char y)) → Ary Z h' a .char N (fun q => if q = i then .int (nar .char y) else f q) → Gl p e below s Z EL R n0 Q T' (mkF m pc' L r)) : Gl p e below s Z EL R n0 Q T (mkF m pc L (.int y :: .int j :: .ref a :: r)) := by
  obtain ⟨locs, vm0, k1, X, N, eh, hSi, hk1, hWm, hown, hCH, hF⟩ := S; subst hp
  have A0 := A
  obtain ⟨cl, A, sz, z⟩ := A
  obtain ⟨q1, q2⟩ := idx_nat (c := cl) hj (by rw [sz]; exact hi)
  obtain ⟨T', h', X', eT, W, st⟩ := stC X C.1 hWm eh A q1 (g := mkF m pc L (.int y :: .int j :: .ref a :: r)) rfl rfl (hb C.2.2.1 hd)
  have N' := Fr.snoc X' N ga
  rw [q2] at W
  have hsf : Safe Z EL vm0 h a := Safe.arr hWm.alike A (by decide)
  exact (kk T' h' ⟨_, vm0, k1, X', N', eT, hSi, Nat.le_trans hk1 (CHr.wr W hsf hCH.1).2.1, hWm, hown, hCH.trans (CHr.wr W hsf hCH.1), hF.chr (CHr.wr W hsf hCH.1)⟩ W (A0.same W)).st st
theorem g_bastoreB (C : Cx p m meth c Z EL a0 own name cod maxL ret) (S : On p l e R s m args below meth c Z EL own n0 T h PS k n) {y : Int32} (hd : decode cod pc = .ok (.bastore, 1)) (A : Ary Z h a .byte N f) (hj : j.toInt = (i : Int)) (hi : i < N) (ga : n0 ≤ a) (sf : a ∈ PS) (hp : pc + 1 = pc') (kk : ∀ T' h', On p l e R s m args below meth c Z EL own n0 T' h' PS k n → Wr h h' a i (.int (nar .byte y)) → Ary Z h' a .byte N (fun q => if q = i then .int (nar .byte y) else f q) → Gl p e below s Z EL R n0 Q T' (mkF m pc' L r)) : Gl p e below s Z EL R n0 Q T (mkF m pc L (.int y :: .int j :: .ref a :: r)) := by
  obtain ⟨locs, vm0, k1, X, N, eh, hSi, hk1, hWm, hown, hCH, hF⟩ := S; subst hp
  have A0 := A
  obtain ⟨cl, A, sz, z⟩ := A
  obtain ⟨q1, q2⟩ := idx_nat (c := cl) hj (by rw [sz]; exact hi)
  obtain ⟨T', h', X', eT, W, st⟩ := stB X C.1 hWm eh A q1 (g := mkF m pc L (.int y :: .int j :: .ref a :: r)) rfl rfl (hb C.2.2.1 hd)
  have N' := Fr.snoc X' N ga
  rw [q2] at W
  have hsf : Safe Z EL vm0 h a := (hF a sf).2
  exact (kk T' h' ⟨_, vm0, k1, X', N', eT, hSi, Nat.le_trans hk1 (CHr.wr W hsf hCH.1).2.1, hWm, hown, hCH.trans (CHr.wr W hsf hCH.1), hF.chr (CHr.wr W hsf hCH.1)⟩ W (A0.same W)).st st
theorem g_bastoreZ (C : Cx p m meth c Z EL a0 own name cod maxL ret) (S : On p l e R s m args below meth c Z EL own n0 T h PS k n) {y : Int32} (hd : decode cod pc = .ok (.bastore, 1)) (A : Ary Z h a .boolean N f) (hj : j.toInt = (i : Int)) (hi : i < N) (ga : n0 ≤ a) (hp : pc + 1 = pc') (kk : ∀ T' h', On p l e R s m args below meth c Z EL own n0 T' h' PS k n → Wr h h' a i (.int (nar .boolean y)) → Ary Z h' a .boolean N (fun q => if q = i then .int (nar .boolean y) else f q) → Gl p e below s Z EL R n0 Q T' (mkF m pc' L r)) : Gl p e below s Z EL R n0 Q T (mkF m pc L (.int y :: .int j :: .ref a :: r)) := by
  obtain ⟨locs, vm0, k1, X, N, eh, hSi, hk1, hWm, hown, hCH, hF⟩ := S; subst hp
  have A0 := A
  obtain ⟨cl, A, sz, z⟩ := A
  obtain ⟨q1, q2⟩ := idx_nat (c := cl) hj (by rw [sz]; exact hi)
  obtain ⟨T', h', X', eT, W, st⟩ := stZ X C.1 hWm eh A q1 (g := mkF m pc L (.int y :: .int j :: .ref a :: r)) rfl rfl (hb C.2.2.1 hd)
  have N' := Fr.snoc X' N ga
  rw [q2] at W
  have hsf : Safe Z EL vm0 h a := Safe.arr hWm.alike A (by decide)
  exact (kk T' h' ⟨_, vm0, k1, X', N', eT, hSi, Nat.le_trans hk1 (CHr.wr W hsf hCH.1).2.1, hWm, hown, hCH.trans (CHr.wr W hsf hCH.1), hF.chr (CHr.wr W hsf hCH.1)⟩ W (A0.same W)).st st
theorem g_dastore (C : Cx p m meth c Z EL a0 own name cod maxL ret) (S : On p l e R s m args below meth c Z EL own n0 T h PS k n) {y : UInt64} (hd : decode cod pc = .ok (.dastore, 1)) (A : Ary Z h a .double N f) (hj : j.toInt = (i : Int)) (hi : i < N) (ga : n0 ≤ a) (hp : pc + 1 = pc') (kk : ∀ T' h', On p l e R s m args below meth c Z EL own n0 T' h' PS k n → Wr h h' a i (.double y) → Ary Z h' a .double N (fun q => if q = i then .double y else f q) → Gl p e below s Z EL R n0 Q T' (mkF m pc' L r)) : Gl p e below s Z EL R n0 Q T (mkF m pc L (.double y :: .int j :: .ref a :: r)) := by
  obtain ⟨locs, vm0, k1, X, N, eh, hSi, hk1, hWm, hown, hCH, hF⟩ := S; subst hp
  have A0 := A
  obtain ⟨cl, A, sz, z⟩ := A
  obtain ⟨q1, q2⟩ := idx_nat (c := cl) hj (by rw [sz]; exact hi)
  obtain ⟨T', h', X', eT, W, st⟩ := stD X C.1 hWm eh A q1 (g := mkF m pc L (.double y :: .int j :: .ref a :: r)) rfl rfl (hb C.2.2.1 hd)
  have N' := Fr.snoc X' N ga
  rw [q2] at W
  have hsf : Safe Z EL vm0 h a := Safe.arr hWm.alike A (by decide)
  exact (kk T' h' ⟨_, vm0, k1, X', N', eT, hSi, Nat.le_trans hk1 (CHr.wr W hsf hCH.1).2.1, hWm, hown, hCH.trans (CHr.wr W hsf hCH.1), hF.chr (CHr.wr W hsf hCH.1)⟩ W (A0.same W)).st st
theorem g_newarray (C : Cx p m meth c Z EL a0 own name cod maxL ret) (S : On p l e R s m args below meth c Z EL own n0 T h PS k n) {aty : ArrayType} {cap : Nat} (hd : decode cod pc = .ok (.newarray aty, 2)) (w : (Jvm.Cond.arrayClass (newarray.typeOf aty)).before a0 Z = true) (hj : j.toInt = (N : Int)) (hcap : N ≤ cap) (hbig : cap * 8 ≤ 536870912) (hc : k + 1 ≤ R.cells) (hl : n + cap ≤ R.slots) (hp : pc + 2 = pc') (kk : ∀ T' h' a, On p l e R s m args below meth c Z EL own n0 T' h' (a :: PS) (k + 1) (n + cap) → a = h.size → Ext h h' → Ary Z h' a (newarray.typeOf aty) N (fun _ => defaultValue (newarray.typeOf aty)) → Gl p e below s Z EL R n0 Q T' (mkF m pc' L (.ref a :: r))) : Gl p e below s Z EL R n0 Q T (mkF m pc L (.int j :: r)) := by
  obtain ⟨locs, vm0, k1, X, Nn, eh, hSi, hk1, hWm, hown, hCH, hF⟩ := S; subst hp
  have e1 : j.toNatClampNeg = N := by simp only [Int32.toNatClampNeg, hj]; omega
  have e2 : ¬ j < 0 := by rw [Int32.lt_iff_toInt_lt, hj]; have : (0 : Int32).toInt = 0 := rfl; omega
  obtain ⟨T', h', cA, X', eT, E, A, st⟩ := newP X C.1 hWm w eh (g := mkF m pc L (.int j :: r)) rfl (hb C.2.2.1 hd) rfl e2 (cap := cap) (by rw [e1]; exact hcap) hbig hc hl
  refine (kk T' h' h.size ⟨_, vm0, k1, X', Nn, eT, hSi, Nat.le_trans hk1 E.1, hWm, hown, hCH.trans (CHr.ext E hCH.1), (hF.chr (CHr.ext E hCH.1)).cons A.lt (Safe.ext E hCH.1 (Safe.new (Nat.le_refl _)))⟩ rfl E ⟨_, A, by rw [sz_new]; exact e1, fun i hi => ?_⟩).st st
  simp [newA, e1, hi]
def OvH (Z : State) (h : Heap) (a : Addr) (ty : FieldType) (K : String) : Prop := ∃ cl t0, Arr Z h a cl t0 ∧ OvrA Z cl.cls ty K
theorem OvH.ext {K : String} (F : OvH Z h a ty K) (E : Ext h h') : OvH Z h' a ty K := by obtain ⟨cl, t0, A, o⟩ := F; exact ⟨cl, t0, A.ext E, o⟩
theorem OvH.wr {K : String} (F : OvH Z h a ty K) (W : Wr h h' b sl v) : OvH Z h' a ty K := by
  obtain ⟨cl, t0, A, o⟩ := F
  by_cases e : a = b
  · subst e; exact ⟨_, t0, A.same W, o⟩
  · exact ⟨cl, t0, A.other W e, o⟩
theorem OvH.sto {K : String} {y : Addr} (F : OvH Z h a ty K) (I : Exa Z h y K) : Sto Z h a (.ref y) := by obtain ⟨cl, t0, A, o⟩ := F; exact Sto.ofVA A rfl o (Ins.self I)
theorem g_newarrayX (C : Cx p m meth c Z EL a0 own name cod maxL ret) (S : On p l e R s m args below meth c Z EL own n0 T h PS k n) {aty : ArrayType} {cap : Nat} (hd : decode cod pc = .ok (.newarray aty, 2)) (w : (Jvm.Cond.arrayClass (newarray.typeOf aty)).before a0 Z = true) (hj : j.toInt = (N : Int)) (hcap : N ≤ cap) (hbig : cap * 8 ≤ 536870912) (hc : k + 1 ≤ R.cells) (hl : n + cap ≤ R.slots) (hp : pc + 2 = pc') (kk : ∀ T' h' a, On p l e R s m args below meth c Z EL own n0 T' h' (a :: PS) (k + 1) (n + cap) → a = h.size → Ext h h' → Ary Z h' a (newarray.typeOf aty) N (fun _ => defaultValue (newarray.typeOf aty)) → Exa Z h' a ("[" ++ (newarray.typeOf aty).toString) → Gl p e below s Z EL R n0 Q T' (mkF m pc' L (.ref a :: r))) : Gl p e below s Z EL R n0 Q T (mkF m pc L (.int j :: r)) := by
  obtain ⟨locs, vm0, k1, X, Nn, eh, hSi, hk1, hWm, hown, hCH, hF⟩ := S; subst hp
  have e1 : j.toNatClampNeg = N := by simp only [Int32.toNatClampNeg, hj]; omega
  have e2 : ¬ j < 0 := by rw [Int32.lt_iff_toInt_lt, hj]; have : (0 : Int32).toInt = 0 := rfl; omega
  obtain ⟨T', h', cA, X', eT, E, A, B, st⟩ := newPE X C.1 hWm w eh (g := mkF m pc L (.int j :: r)) rfl (hb C.2.2.1 hd) rfl e2 (cap := cap) (by rw [e1]; exact hcap) hbig hc hl rfl
  refine (kk T' h' h.size ⟨_, vm0, k1, X', Nn, eT, hSi, Nat.le_trans hk1 E.1, hWm, hown, hCH.trans (CHr.ext E hCH.1), (hF.chr (CHr.ext E hCH.1)).cons A.lt (Safe.ext E hCH.1 (Safe.new (Nat.le_refl _)))⟩ rfl E ⟨_, A, by rw [sz_new]; exact e1, fun i hi => ?_⟩ B).st st
  simp [newA, e1, hi]
theorem g_anewarrayA (C : Cx p m meth c Z EL a0 own name cod maxL ret) (S : On p l e R s m args below meth c Z EL own n0 T h PS k n) {K : String} {q cap : Nat} (hd : decode cod pc = .ok (.anewarray q, 3)) (hK : (FieldType.array ty).toString = K) (w : (Jvm.Cond.classLink own q K).before a0 Z = true) (w2 : (Jvm.Cond.arrayOver (.array ty)).before a0 Z = true) (hj : j.toInt = (N : Int)) (hcap : N ≤ cap) (hbig : cap * 8 ≤ 536870912) (hc : k + 1 ≤ R.cells) (hl : n + cap ≤ R.slots) (hp : pc + 3 = pc') (kk : ∀ T' h' a, On p l e R s m args below meth c Z EL own n0 T' h' (a :: PS) (k + 1) (n + cap) → a = h.size → Ext h h' → Ary Z h' a (.array ty) N (fun _ => .null) → OvH Z h' a ty K → Gl p e below s Z EL R n0 Q T' (mkF m pc' L (.ref a :: r))) : Gl p e below s Z EL R n0 Q T (mkF m pc L (.int j :: r)) := by
  obtain ⟨locs, vm0, k1, X, Nn, eh, hSi, hk1, hWm, hown, hCH, hF⟩ := S; subst hp
  have e1 : j.toNatClampNeg = N := by simp only [Int32.toNatClampNeg, hj]; omega
  have e2 : ¬ j < 0 := by rw [Int32.lt_iff_toInt_lt, hj]; have : (0 : Int32).toInt = 0 := rfl; omega
  obtain ⟨T', h', cA, X', eT, E, A, -, o, st⟩ := newRA X C.1 hWm hown hK w w2 eh (g := mkF m pc L (.int j :: r)) rfl (hb C.2.2.1 hd) rfl e2 (cap := cap) (by rw [e1]; exact hcap) hbig hc hl rfl
  refine (kk T' h' h.size ⟨_, vm0, k1, X', Nn, eT, hSi, Nat.le_trans hk1 E.1, hWm, hown, hCH.trans (CHr.ext E hCH.1), (hF.chr (CHr.ext E hCH.1)).cons A.lt (Safe.ext E hCH.1 (Safe.new (Nat.le_refl _)))⟩ rfl E ⟨_, A, by rw [sz_new]; exact e1, fun i hi => ?_⟩ ⟨_, _, A, o⟩).st st
  simp [newA, e1, hi, defaultValue]
theorem g_aastore (C : Cx p m meth c Z EL a0 own name cod maxL ret) (S : On p l e R s m args below meth c Z EL own n0 T h PS k n) (hd : decode cod pc = .ok (.aastore, 1)) (A : Ary Z h a ty N f) (hty : ty.isReference = true) (F : Sto Z h a v) (hj : j.toInt = (i : Int)) (hi : i < N) (ga : n0 ≤ a) (hp : pc + 1 = pc') (kk : ∀ T' h', On p l e R s m args below meth c Z EL own n0 T' h' PS k n → Wr h h' a i v → Ary Z h' a ty N (fun q => if q = i then v else f q) → Gl p e below s Z EL R n0 Q T' (mkF m pc' L r)) : Gl p e below s Z EL R n0 Q T (mkF m pc L (v :: .int j :: .ref a :: r)) := by
  obtain ⟨locs, vm0, k1, X, N, eh, hSi, hk1, hWm, hown, hCH, hF⟩ := S; subst hp
  have A0 := A
  obtain ⟨cl, A, sz, z⟩ := A
  obtain ⟨q1, q2⟩ := idx_nat (c := cl) hj (by rw [sz]; exact hi)
  obtain ⟨T', h', X', eT, W, st⟩ := stR X C.1 hWm eh A q1 hty F (g := mkF m pc L (v :: .int j :: .ref a :: r)) rfl rfl (hb C.2.2.1 hd)
  have N' := Fr.snoc X' N ga
  rw [q2] at W
  have hsf : Safe Z EL vm0 h a := Safe.arr hWm.alike A (fun q => by subst q; cases hty)
  exact (kk T' h' ⟨_, vm0, k1, X', N', eT, hSi, Nat.le_trans hk1 (CHr.wr W hsf hCH.1).2.1, hWm, hown, hCH.trans (CHr.wr W hsf hCH.1), hF.chr (CHr.wr W hsf hCH.1)⟩ W (A0.same W)).st st
theorem g_ldcS (C : Cx p m meth c Z EL a0 own name cod maxL ret) (S : On p l e R s m args below meth c Z EL own n0 T h PS k n) {text : String} {i nn N : Nat} {zz : Int32} {vs : List Value} (hd : decode cod pc = .ok (.ldc i, 2)) (w : (Jvm.Cond.stringLink own i text).before a0 Z = true) (hmem : (own, i) ∈ EL) (ht : (∀ c ∈ text.toList, c.toNat < 256) ∧ text.toList.map (fun c => Value.int (Jvm.Lit.byteI c.toNat.toUInt16)) = vs) (hz : ¬ zz < 0) (hzl : zz.toNatClampNeg = vs.length) (hN : vs.length = N) (hn : 4 * text.toList.length ≤ nn) (hbig : nn ≤ 536870912) (hc : k + 2 ≤ R.cells) (hl : n + (nn + 4) ≤ R.slots) (hp : pc + 2 = pc')
    (kk : ∀ T' h' a b, On p l e R s m args below meth c Z EL own n0 T' h' PS (k + 2) (n + (nn + 4)) → Ext h h' → Exa Z h' a "java/lang/String" → Fld Z h' a "java/lang/String" "coder" "B" (.int 0) → Fld Z h' a "java/lang/String" "value" "[B" (.ref b) → Ary Z h' b .byte N (fun q => vs.getD q (.int 0)) → (∀ x ∈ PS, x ≠ a ∧ x ≠ b) → Gl p e below s Z EL R n0 Q T' (mkF m pc' L (.ref a :: r))) : Gl p e below s Z EL R n0 Q T (mkF m pc L r) := by
  obtain ⟨locs, vm0, k1, X, Nf, eh, hSi, hk1, hWm, hown, hCH, hF⟩ := S; subst hp
  obtain ⟨a, T', h', k2, b, kc, X', eT, E, hS2, hk2, hW2, hown2, x1, x2, x3, x4, x5, x6, hC2, -, hne, st⟩ := ldcCH (g := mkF m pc L r) X C.1 hWm hown w C.2.1.2 eh hSi hk1 C.2.1.1 hmem hCH.1 ht hz hzl rfl (hb C.2.2.1 hd) hn hbig hc hl
  have hF2 := hF.chr hC2
  obtain ⟨cl, A, -, z1, -, z2, -⟩ := x4
  subst hN
  refine (kk T' h' a b ⟨locs, T'.vm, k2, X', Nf, eT, hS2, hk2, hW2, hown2, hCH.trans hC2, hF2⟩ E x1 x2 x3 ⟨cl, A, z1.trans hzl, fun q hq => z2 q (by rw [z1, hzl]; exact hq)⟩ (fun x q => hne x (hF2 x q).2)).st st
theorem g_retB {z : Int32} (C : Cx p m meth c Z EL a0 own name cod maxL (some .byte)) (S : On p l e R s m args below meth c Z EL own n0 T h PS k n) (hd : decode cod pc = .ok (.ireturn, 1)) (hz : narrow .byte (.int z) = .int z) (hk : k ≤ R.cells) (hn : n ≤ R.slots) (q : Q (some (.int z)) h PS) : Gl p e below s Z EL R n0 Q T (mkF m pc L (.int z :: r)) := g_retv C S hd hz (Or.inl ⟨rfl, Or.inr (Or.inr (Or.inl rfl)), z, rfl⟩) hk hn q
theorem g_retC {z : Int32} (C : Cx p m meth c Z EL a0 own name cod maxL (some .char)) (S : On p l e R s m args below meth c Z EL own n0 T h PS k n) (hd : decode cod pc = .ok (.ireturn, 1)) (hz : narrow .char (.int z) = .int z) (hk : k ≤ R.cells) (hn : n ≤ R.slots) (q : Q (some (.int z)) h PS) : Gl p e below s Z EL R n0 Q T (mkF m pc L (.int z :: r)) := g_retv C S hd hz (Or.inl ⟨rfl, Or.inr (Or.inr (Or.inr (Or.inl rfl))), z, rfl⟩) hk hn q
theorem g_inst (C : Cx p m meth c Z EL a0 own name cod maxL ret) (S : On p l e R s m args below meth c Z EL own n0 T h PS k n) {K : String} {i : Nat} (hd : decode cod pc = .ok (.instanceof i, 3)) (w : (Jvm.Cond.classLink own i K).before a0 Z = true) (E : Exa Z h a K) (hp : pc + 3 = pc') (kk : ∀ T', On p l e R s m args below meth c Z EL own n0 T' h PS k n → Gl p e below s Z EL R n0 Q T' (mkF m pc' L (.int 1 :: r))) : Gl p e below s Z EL R n0 Q T (mkF m pc L (.ref a :: r)) := by
  obtain ⟨locs, vm0, k1, X, N, eh, hSi, hk1, hWm, hown, hCH, hF⟩ := S; subst hp
  obtain ⟨T', X', eT, st⟩ := instY X C.1 hWm hown w eh (Ins.self E) (g := mkF m pc L (.ref a :: r)) rfl rfl (hb C.2.2.1 hd)
  exact (kk T' ⟨locs, vm0, k1, X', N, eT, hSi, hk1, hWm, hown, hCH, hF⟩).st st
theorem g_cast (C : Cx p m meth c Z EL a0 own name cod maxL ret) (S : On p l e R s m args below meth c Z EL own n0 T h PS k n) {K : String} {i : Nat} (hd : decode cod pc = .ok (.checkcast i, 3)) (w : (Jvm.Cond.classLink own i K).before a0 Z = true) (E : Exa Z h a K) (hp : pc + 3 = pc') (kk : ∀ T', On p l e R s m args below meth c Z EL own n0 T' h PS k n → Gl p e below s Z EL R n0 Q T' (mkF m pc' L (.ref a :: r))) : Gl p e below s Z EL R n0 Q T (mkF m pc L (.ref a :: r)) := by
  obtain ⟨locs, vm0, k1, X, N, eh, hSi, hk1, hWm, hown, hCH, hF⟩ := S; subst hp
  obtain ⟨T', X', eT, st⟩ := castY X C.1 hWm hown w eh (Ins.self E) (g := mkF m pc L (.ref a :: r)) rfl rfl (hb C.2.2.1 hd)
  exact (kk T' ⟨locs, vm0, k1, X', N, eT, hSi, hk1, hWm, hown, hCH, hF⟩).st st
theorem clamp_of {x : Int32} {i : Nat} (hx : x.toInt = (i : Int)) : ¬ x < 0 ∧ x.toNatClampNeg = i := by
  refine ⟨?_, by simp only [Int32.toNatClampNeg, hx]; omega⟩
  rw [Int32.lt_iff_toInt_lt, hx]
  have : (0 : Int32).toInt = 0 := rfl
  omega
theorem Ary.arv (A : Ary Z h a ty N f) (hN : N < 2147483648) (hf : ∀ i, i < N → fits ty (f i) = true) : ∃ kc, Arv Z h a kc ty (Int32.ofNat N) ((List.range N).map f) (.int 0) := by
  obtain ⟨cl, A, sz, z⟩ := A
  have e : (Int32.ofNat N).toInt = (N : Int) := Int32.toInt_ofNat_small hN
  obtain ⟨e1, e2⟩ := clamp_of e
  have g : ∀ i, i < N → ((List.range N).map f).getD i (.int 0) = f i := fun i hi => by simp [List.getD_eq_getElem?_getD, hi]
  exact ⟨cl.cls, cl, A, rfl, by rw [e2]; exact sz, e1, fun i hi => by rw [sz] at hi; rw [g i hi]; exact z i hi, fun i hi => by rw [sz] at hi; rw [g i hi]; exact hf i hi⟩
theorem g_acopy (C : Cx p m meth c Z EL a0 own name cod maxL ret) (S : On p l e R s m args below meth c Z EL own n0 T h PS k n) {x y z : Int32} {i1 i2 i3 M i W : Nat} {f2 : Nat → Value} (hd : decode cod pc = .ok (.invokestatic i, 3)) (w1 : (Jvm.Cond.methodLink own i Jvm.Stand.acN).before a0 Z = true) (w2 : (Jvm.Cond.native Jvm.Stand.acN).before a0 Z = true) (w3 : (Jvm.Cond.static Jvm.Stand.acN).before a0 Z = true) (w4 : (Jvm.Cond.initialized "java/lang/System").before a0 Z = true)
    (A : Ary Z h a .byte N f) (B : Ary Z h b .byte M f2) (fA : ∀ i, i < N → fits .byte (f i) = true) (fB : ∀ i, i < M → fits .byte (f2 i) = true) (hN : N < 2147483648) (hM : M < 2147483648) (hx : x.toInt = (i1 : Int)) (hy : y.toInt = (i2 : Int)) (hz : z.toInt = (i3 : Int)) (h4 : i1 + i3 ≤ N) (h5 : i2 + i3 ≤ M) (ge : n0 ≤ b) (sf : b ∈ PS)
    (hsz : L.size = maxL) (hf : 1 ≤ R.frames) (hW : (r.map fun v => v.category).sum ≤ W) (hlo : W + 18 ≤ R.locals) (hp : pc + 3 = pc')
    (kk : ∀ T' h', On p l e R s m args below meth c Z EL own n0 T' h' PS k n → Keep h h' [b] → Ary Z h' b .byte M (fun q => if i2 ≤ q ∧ q < i2 + i3 then f (i1 + (q - i2)) else f2 q) → Gl p e below s Z EL R n0 Q T' (mkF m pc' L r)) : Gl p e below s Z EL R n0 Q T (mkF m pc L (.int z :: .int y :: .ref b :: .int x :: .ref a :: r)) := by
  obtain ⟨locs, vm0, k1, X, N0, eh, hSi, hk1, hWm, hown, hCH, hF⟩ := S; subst hp
  obtain ⟨ka, A'⟩ := A.arv hN fA
  obtain ⟨kb, B'⟩ := B.arv hM fB
  obtain ⟨x1, x2⟩ := clamp_of hx
  obtain ⟨y1, y2⟩ := clamp_of hy
  obtain ⟨z1, z2⟩ := clamp_of hz
  obtain ⟨-, n2⟩ := clamp_of (Int32.toInt_ofNat_small hN)
  obtain ⟨-, m2⟩ := clamp_of (Int32.toInt_ofNat_small hM)
  obtain ⟨T', h', L', X', eT, N', K, V, st⟩ := cpA X C.1 hWm hown w1 w2 w3 w4 eh A' B' (Or.inl ⟨rfl, rfl⟩) x1 y1 z1 (by rw [x2, z2, n2]; exact h4) (by rw [y2, z2, m2]; exact h5) rfl (by rw [y2, z2]; simpa using h5) N0 ge (g := mkF m pc L (.int z :: .int y :: .ref b :: .int x :: .ref a :: r)) rfl (hsz.trans C.2.2.2.1.symm) rfl (hb C.2.2.1 hd) hf (W := W) (by simpa using hW) (by rw [nativeFrameWords_plain 5 (by decide)]; omega)
  have hsf : ∀ x ∈ [b], Safe Z EL vm0 h x := fun x q => by rw [List.mem_singleton.mp q]; exact (hF b sf).2
  refine (kk T' h' ⟨L', vm0, k1, X', N', eT, hSi, Nat.le_trans hk1 K.1, hWm, hown, hCH.trans (CHr.keep K hsf hCH.1), hF.chr (CHr.keep K hsf hCH.1)⟩ K ?_).st st
  obtain ⟨cl, Q1, -, Q2, -, Q3, -⟩ := V
  rw [m2] at Q2
  refine ⟨cl, Q1, Q2, fun q hq => ?_⟩
  rw [Q3 q (by rw [Q2]; exact hq), x2, y2, z2]
  congr 1
  simp only [List.getD_eq_getElem?_getD]
  have ltk : (((List.range M).map f2).take i2).length = i2 := by simp; omega
  by_cases c1 : q < i2
  · rw [if_neg (by omega), List.append_assoc, List.getElem?_append_left (by omega), List.getElem?_take_of_lt c1]; simp [hq]
  · by_cases c2 : q < i2 + i3
    · rw [if_pos ⟨by omega, c2⟩, List.getElem?_append_left (by rw [List.length_append, ltk]; simp; omega), List.getElem?_append_right (by omega), ltk]
      simp [show q - i2 < i3 by omega, show i1 + (q - i2) < N by omega]
    · rw [if_neg (by omega), List.getElem?_append_right (by rw [List.length_append, ltk]; simp; omega), List.length_append, ltk]
      simp [show i2 + i3 + (q - (i2 + i3)) = q by omega, hq]
theorem fld_uniq {C nm d : String} {v v' : Value} (F : Fld Z h a C nm d v) (F' : Fld Z h a C nm d v') : v = v' := by
  obtain ⟨cell, cf, kf, i, fd, h1, h2, h3, h4, h5, h6, h7⟩ := F
  obtain ⟨cell', cf', kf', i', fd', g1, g2, g3, g4, g5, g6, g7⟩ := F'
  cases h1.symm.trans g1
  cases h2.symm.trans g2
  exact Option.some.inj (h7.symm.trans g7)
theorem Ary.uniq {ty' : FieldType} {M : Nat} {f2 : Nat → Value} (A : Ary Z h a ty N f) (B : Ary Z h a ty' M f2) : N = M ∧ ∀ i, i < N → f i = f2 i := by
  obtain ⟨c, A, s, z⟩ := A
  obtain ⟨c', B, s', z'⟩ := B
  cases A.1.symm.trans B.1
  exact ⟨s.symm.trans s', fun i hi => Option.some.inj ((z i hi).symm.trans (z' i (by omega)))⟩
theorem On.hd (S : On p l e R s m args below meth c Z EL own n0 T h (a :: PS) k n) : a ∈ a :: PS := List.mem_cons_self
theorem Ary.nostat (A : Ary Z h a ty N f) : ∀ cell : Cell, h[a]? = some cell → cell.vm.isStatics = false := fun cell q => by
  obtain ⟨c, A, -⟩ := A
  have e := Option.some.inj (A.1.symm.trans q)
  subst e
  have := A.2.1.1
  cases hv : c.vm <;> simp_all [VmData.isStatics]
theorem Sta.keep0 {C nm d : String} (F : Sta Z h C nm d v) (K : Keep h h' []) : Sta Z h' C nm d v := by
  obtain ⟨cf, i, k, f, st, cell, h1, h2, h3, h4, h5, r⟩ := F; exact ⟨cf, i, k, f, st, cell, h1, h2, h3, h4, K.2.1 _ _ h5 nin0, r⟩
theorem Sta.keep1 {C nm d : String} (F : Sta Z h C nm d v) (K : Keep h h' [a]) (q : ∀ cell : Cell, h[a]? = some cell → cell.vm.isStatics = false) : Sta Z h' C nm d v := by
  obtain ⟨cf, i, k, f, st, cell, h1, h2, h3, h4, h5, h6, r⟩ := F; exact ⟨cf, i, k, f, st, cell, h1, h2, h3, h4, K.2.1 _ _ h5 (ninS (fun e => by subst e; rw [q _ h5] at h6; cases h6) nin0), h6, r⟩
theorem On.mono {k' n' : Nat} (S : On p l e R s m args below meth c Z EL own n0 T h PS k n) (h1 : k ≤ k') (h2 : n ≤ n') : On p l e R s m args below meth c Z EL own n0 T h PS k' n' := by
  obtain ⟨locs, vm0, k1, X, q⟩ := S; exact ⟨locs, vm0, k1, X.mono h1 h2, q⟩
/-- an array that may be cloned -/
def Cln (Z : State) (h : Heap) (a : Addr) (ty : FieldType) (n : Nat) (f : Nat → Value) : Prop := ∃ c : Cell, Arr Z h a c ty ∧ c.slots.size = n ∧ (∀ i, i < n → c.slots[i]? = some (f i)) ∧ FitC Z c
theorem Cln.lt (A : Cln Z h a ty N f) : a < h.size := by obtain ⟨c, A, -⟩ := A; exact A.lt
theorem Cln.ext (A : Cln Z h a ty N f) (E : Ext h h') : Cln Z h' a ty N f := by obtain ⟨c, A, q⟩ := A; exact ⟨c, A.ext E, q⟩
theorem Cln.other (A : Cln Z h a ty N f) (W : Wr h h' b sl v) (q : a ≠ b) : Cln Z h' a ty N f := by obtain ⟨c, A, z⟩ := A; exact ⟨c, A.other W q, z⟩
theorem Cln.keep (A : Cln Z h a ty N f) (K : Keep h h' ws) (q : a ∉ ws) : Cln Z h' a ty N f := by obtain ⟨c, A, z⟩ := A; exact ⟨c, ⟨K.2.1 a c A.1 q, A.2⟩, z⟩
theorem g_clone (C : Cx p m meth c Z EL a0 own name cod maxL ret) (S : On p l e R s m args below meth c Z EL own n0 T h PS k n) {ad : String} {i W cap : Nat} (hd : decode cod pc = .ok (.invokevirtual i, 3)) (w1 : (Jvm.Cond.methodLink own i ⟨ad, "clone", "()Ljava/lang/Object;"⟩).before a0 Z = true) (w2 : (Jvm.Cond.sameMethod ad "java/lang/Object" "clone" "()Ljava/lang/Object;").before a0 Z = true) (w3 : (Jvm.Cond.native ⟨"java/lang/Object", "clone", "()Ljava/lang/Object;"⟩).before a0 Z = true)
    (w4 : (Jvm.Cond.instanceMethod ⟨"java/lang/Object", "clone", "()Ljava/lang/Object;"⟩).before a0 Z = true) (w5 : (Jvm.Cond.selects ad ⟨ad, "clone", "()Ljava/lang/Object;"⟩ ⟨"java/lang/Object", "clone", "()Ljava/lang/Object;"⟩).before a0 Z = true) (w6 : (Jvm.Cond.castable ad "java/lang/Cloneable").before a0 Z = true)
    (A : Cln Z h a ty N f) (E : Exa Z h a ad) (hsz : L.size = maxL) (hf : 1 ≤ R.frames) (hW : (r.map fun v => v.category).sum ≤ W) (hlo : W + 14 ≤ R.locals) (hcap : N ≤ cap) (hc : k + 1 ≤ R.cells) (hl : n + cap ≤ R.slots) (hp : pc + 3 = pc')
    (kk : ∀ T' h' b, On p l e R s m args below meth c Z EL own n0 T' h' (b :: PS) (k + 1) (n + cap) → b = h.size → Ext h h' → Ary Z h' b ty N f → Exa Z h' b ad → Gl p e below s Z EL R n0 Q T' (mkF m pc' L (.ref b :: r))) : Gl p e below s Z EL R n0 Q T (mkF m pc L (.ref a :: r)) := by
  obtain ⟨locs, vm0, k1, X, Nn, eh, hSi, hk1, hWm, hown, hCH, hF⟩ := S; subst hp
  obtain ⟨cl, A, sz, z, FC⟩ := A
  obtain ⟨T', h', X', eT, E', A', B', st⟩ := cloneA X C.1 hWm hown w1 w2 w3 w4 w5 w6 eh A E FC (g := mkF m pc L (.ref a :: r)) rfl (hsz.trans C.2.2.2.1.symm) rfl (hb C.2.2.1 hd) hf (W := W) (by simpa using hW) hlo (by rw [sz]; exact hcap) hc hl
  exact (kk T' h' h.size ⟨_, vm0, k1, X', Nn, eT, hSi, Nat.le_trans hk1 E'.1, hWm, hown, hCH.trans (CHr.ext E' hCH.1), (hF.chr (CHr.ext E' hCH.1)).cons A'.lt (Safe.ext E' hCH.1 (Safe.new (Nat.le_refl _)))⟩ rfl E' ⟨_, A', sz, z⟩ B').st st
theorem g_instN (C : Cx p m meth c Z EL a0 own name cod maxL ret) (S : On p l e R s m args below meth c Z EL own n0 T h PS k n) {i : Nat} (hd : decode cod pc = .ok (.instanceof i, 3)) (hp : pc + 3 = pc') (kk : Gl p e below s Z EL R n0 Q T (mkF m pc' L (.int 0 :: r))) : Gl p e below s Z EL R n0 Q T (mkF m pc L (.null :: r)) := by
  obtain ⟨locs, vm0, k1, X, -⟩ := S; subst hp
  exact kk.st (X.instanceofNull C.1 (g := mkF m pc L (.null :: r)) rfl rfl (hb C.2.2.1 hd))
theorem ge_of {z : Nat} (e1 : a = z) (q : n0 ≤ z) : n0 ≤ a := e1 ▸ q
theorem ne_new (e1 : b = h.size) (q : a < h.size) : a ≠ b := fun e => by rw [e, e1] at q; exact Nat.lt_irrefl _ q
end OwnKit
theorem elw {Z : State} {a0 : Array Value} (hw : ∀ d ∈ tables_1, d.before a0 Z = true) : EW Z a0 consts_1 ∧ ∀ a ∈ Bundle.stringAtoms, a.before a0 Z = true := by
  refine ⟨(EW.cons (hw _ (List.mem_of_getElem? (i := 1) rfl)) (by decide) (EW.cons (hw _ (List.mem_of_getElem? (i := 110) rfl)) (by decide) (EW.cons (hw _ (List.mem_of_getElem? (i := 111) rfl)) (by decide) (EW.cons (hw _ (List.mem_of_getElem? (i := 112) rfl)) (by decide) (EW.cons (hw _ (List.mem_of_getElem? (i := 113) rfl)) (by decide) EW.nil))))), fun a ha => ?_⟩
  simp only [Bundle.stringAtoms, Bundle.sN, List.mem_cons, List.not_mem_nil, or_false] at ha
  rcases ha with rfl | rfl | rfl | rfl | rfl | rfl | rfl
  · exact (hw _ (List.mem_of_getElem? (i := 2) rfl))
  · exact (hw _ (List.mem_of_getElem? (i := 3) rfl))
  · exact (hw _ (List.mem_of_getElem? (i := 4) rfl))
  · exact (hw _ (List.mem_of_getElem? (i := 5) rfl))
  · exact (hw _ (List.mem_of_getElem? (i := 6) rfl))
  · exact (hw _ (List.mem_of_getElem? (i := 7) rfl))
  · exact (hw _ (List.mem_of_getElem? (i := 8) rfl))
/-! ## bytes and chars in plain numbers -/
theorem o32 {k : Nat} (h : k < 2 ^ 31) : (Int32.ofNat k).toInt = (k : Int) := Int32.toInt_ofNat_small h
theorem o32_succ (k : Nat) : Int32.ofNat k + 1 = Int32.ofNat (k + 1) := (Int32.ofNat_add k 1).symm
theorem o32_sub (j k : Nat) : Int32.ofNat (j + k) - Int32.ofNat k = Int32.ofNat j := by rw [Int32.ofNat_add, Int32.add_sub_cancel]
theorem o32_lt {j k : Nat} (hj : j < 2 ^ 31) (hk : k < 2 ^ 31) : (Int32.ofNat j < Int32.ofNat k) ↔ j < k := by rw [Int32.lt_iff_toInt_lt, o32 hj, o32 hk]; omega
theorem o32_inj {j k : Nat} (hj : j < 2 ^ 31) (hk : k < 2 ^ 31) : (Int32.ofNat j = Int32.ofNat k) ↔ j = k := by rw [← Int32.toInt_inj, o32 hj, o32 hk]; omega
theorem o32_neg {k : Nat} (h : k < 2 ^ 31) : ¬ Int32.ofNat k < 0 := fun z => by
  rw [Int32.lt_iff_toInt_lt, o32 h] at z
  have : (0 : Int32).toInt = 0 := rfl
  omega
def bt (c : Int32) : Int32 := c.toInt8.toInt32
theorem bt_idem (c : Int32) : (bt c).toInt8.toInt32 = bt c := by unfold bt; rw [Int8.toInt8_toInt32]
theorem bt_toInt (c : Int32) : (bt c).toInt = c.toInt.bmod 256 := by unfold bt; rw [Int8.toInt_toInt32, Int32.toInt_toInt8]
theorem bt_fits (c : Int32) : fits .byte (.int (bt c)) = true := Jvm.Free.SBG.fits_of_int8 _
def Lat (cf : Nat → Int32) (N : Nat) : Prop := ∀ i, i < N → 0 ≤ (cf i).toInt ∧ (cf i).toInt ≤ 255
theorem bt_inj {c d : Int32} (hc : 0 ≤ c.toInt ∧ c.toInt ≤ 255) (hd : 0 ≤ d.toInt ∧ d.toInt ≤ 255) (h : bt c = bt d) : c = d := by
  have e := congrArg Int32.toInt h
  rw [bt_toInt, bt_toInt, Int.bmod_def, Int.bmod_def] at e
  rw [← Int32.toInt_inj]
  split at e <;> split at e <;> omega
theorem lat_255 {c : Int32} (h : c.toInt ≤ 255) : ¬ (255 : Int32) < c := fun z => by
  rw [Int32.lt_iff_toInt_lt] at z
  have : (255 : Int32).toInt = 255 := by decide
  omega
theorem cm_set {cf : Nat → Int32} (N i : Nat) : ∀ q, q < N → (if q = i then Value.int (nar .byte ((cf i).toInt8.toInt32)) else if q < i then .int (bt (cf q)) else .int 0) = (if q < i + 1 then .int (bt (cf q)) else .int 0) := fun q hq => by
  by_cases u : q = i
  · subst u; rw [if_pos rfl, if_pos (Nat.lt_succ_self _)]; exact congrArg Value.int (bt_idem (cf q))
  · rw [if_neg u]
    by_cases w : q < i
    · rw [if_pos w, if_pos (by omega)]
    · rw [if_neg w, if_neg (by omega)]
theorem sub_self_b (x : Int32) : (((x - x).toUInt32 >>> ((31 : Int32) &&& 31).toUInt32).toInt32.toInt8.toInt32) = 0 := by rw [Int32.sub_self]; decide
theorem z32_of {k : Nat} (h : k < 2 ^ 31) (e : Int32.ofNat k = 0) : k = 0 := (o32_inj h (by decide)).mp e
theorem mask_lat (x : Int32) : 0 ≤ (x &&& 255).toInt ∧ (x &&& 255).toInt ≤ 255 := by
  have e := Jvm.Kit.i32_mask x 255 (k := 8) (by decide) (by decide)
  omega
theorem draw_lat (x : Int32) : 0 ≤ ((x &&& 255).toUInt32.toUInt16.toUInt32.toInt32).toInt ∧ ((x &&& 255).toUInt32.toUInt16.toUInt32.toInt32).toInt ≤ 255 := by rw [i2c_mask]; exact mask_lat x
theorem char_nar {c : Int32} (h : 0 ≤ c.toInt ∧ c.toInt ≤ 255) : narrow .char (.int c) = .int c := by
  have e : c = c &&& 255 := by
    have e := Jvm.Kit.i32_mask c 255 (k := 8) (by decide) (by decide)
    rw [← Int32.toInt_inj]; omega
  rw [e]
  exact congrArg Value.int (i2c_mask c)
theorem nar_char {c : Int32} (h : 0 ≤ c.toInt ∧ c.toInt ≤ 255) : nar .char c = c := by
  have e := char_nar h
  exact Value.int.inj e
theorem exa_ary {Z : State} {h : Heap} {x b : Addr} {K : String} {ty : FieldType} {N : Nat} {f : Nat → Value} {a0 : Array Value} {n : Nat} (E : Exa Z h x K) (A : Ary Z h b ty N f) (w : (Jvm.Cond.instantiable K n).before a0 Z = true) : x ≠ b := fun e => by
  subst e
  obtain ⟨c, k, e1, e2, e3, -, -⟩ := E
  obtain ⟨c', A, -⟩ := A
  have q := Option.some.inj (A.1.symm.trans e1)
  subst q
  obtain ⟨-, kA, hkA, comp, hkind⟩ := A.2.1
  obtain ⟨cI, kI, hfI, hkI, hkindI, -⟩ := Cond.instantiable_spec w
  have q := Option.some.inj (hfI.symm.trans e2)
  subst q
  have q := Option.some.inj (hkA.symm.trans hkI)
  subst q
  rw [hkindI] at hkind; cases hkind
theorem of_not_ne {x y : Int32} (h : x = y) : x = y := h
theorem shr0 (x : Int32) : x >>> ((0 : Int32) &&& 31) = x := by
  rw [show ((0 : Int32) &&& 31) = 0 by decide]
  exact Int32.shiftRight_zero
def Byt (g : Nat → Int32) (N : Nat) : Prop := ∀ i, i < N → fits .byte (.int (g i)) = true
theorem Byt.of (cf : Nat → Int32) (N : Nat) : Byt (fun q => bt (cf q)) N := fun i _ => bt_fits _
/-- what indexOf(' ') finds -/
def IxAt (g : Nat → Int32) (N : Nat) (v : Option Value) : Prop := (∃ i, i < N ∧ v = some (.int (Int32.ofNat i)) ∧ g i = 32 ∧ ∀ j, j < i → ¬ g j = 32) ∨ (v = some (.int (-1)) ∧ ∀ j, j < N → ¬ g j = 32)
def EqAt (g g' : Nat → Int32) (N M : Nat) (v : Option Value) : Prop := (v = some (.int 1) ∧ N = M ∧ ∀ i, i < N → g i = g' i) ∨ (v = some (.int 0) ∧ ¬ (N = M ∧ ∀ i, i < N → g i = g' i))
theorem eq_step {g g' : Nat → Int32} {i : Nat} (h : ∀ j, j < i → g j = g' j) (e : g i = g' i) : ∀ j, j < i + 1 → g j = g' j := fun j hj => by
  rcases Nat.lt_or_ge j i with q | q
  · exact h j q
  · have : j = i := by omega
    rw [this]; exact e
theorem ne_step {g : Nat → Int32} {i : Nat} {c : Int32} (h : ∀ j, j < i → ¬ g j = c) (e : ¬ g i = c) : ∀ j, j < i + 1 → ¬ g j = c := fun j hj => by
  rcases Nat.lt_or_ge j i with q | q
  · exact h j q
  · have : j = i := by omega
    rw [this]; exact e
theorem b32 : ((32 : Int32).toInt8.toInt32) = 32 := by decide
theorem vint_inj {x y : Int32} (h : Value.int x = .int y) : x = y := Value.int.inj h
theorem IxAt.val {g : Nat → Int32} {N : Nat} {v : Option Value} (h : IxAt g N v) : ∃ z, v = some (.int z) ∧ IxAt g N (some (.int z)) := by
  rcases h with ⟨i, q, rfl, r⟩ | ⟨rfl, q⟩
  · exact ⟨_, rfl, Or.inl ⟨i, q, rfl, r⟩⟩
  · exact ⟨_, rfl, Or.inr ⟨rfl, q⟩⟩
theorem IxAt.pos {g : Nat → Int32} {N : Nat} {z : Int32} (h : IxAt g N (some (.int z))) (q : ¬ z < 0) : ∃ E, z = Int32.ofNat E ∧ E < N ∧ g E = 32 ∧ ∀ j, j < E → ¬ g j = 32 := by
  rcases h with ⟨i, h1, h2, r⟩ | ⟨e, r⟩
  · exact ⟨i, Value.int.inj (Option.some.inj h2), h1, r⟩
  · rw [Value.int.inj (Option.some.inj e)] at q; exact absurd (by decide) q
theorem IxAt.neg {g : Nat → Int32} {N : Nat} {z : Int32} (hN : N < 2 ^ 31) (h : IxAt g N (some (.int z))) (q : z < 0) : ∀ j, j < N → ¬ g j = 32 := by
  rcases h with ⟨i, h1, h2, r⟩ | ⟨e, r⟩
  · rw [Value.int.inj (Option.some.inj h2)] at q; exact absurd q (o32_neg (by omega))
  · exact r
theorem pos32 {N : Nat} (h : N < 2 ^ 31) : ((0 : Int32) < Int32.ofNat N) ↔ 0 < N := o32_lt (j := 0) (by decide) h
/-- the part before the first space, or the whole -/
def TokAt (g : Nat → Int32) (N E : Nat) : Prop := (E < N ∧ g E = 32 ∧ ∀ j, j < E → ¬ g j = 32) ∨ (E = N ∧ ∀ j, j < N → ¬ g j = 32)
theorem TokAt.uniq {g : Nat → Int32} {N E E' : Nat} (h : TokAt g N E) (h' : TokAt g N E') : E = E' := by
  rcases h with ⟨a, b, c⟩ | ⟨rfl, c⟩ <;> rcases h' with ⟨a', b', c'⟩ | ⟨rfl, c'⟩
  · rcases Nat.lt_trichotomy E E' with q | q | q
    · exact absurd b (c' _ q)
    · exact q
    · exact absurd b' (c _ q)
  · exact absurd b (c' _ a)
  · exact absurd b' (c _ a')
  · rfl
theorem TokAt.le {g : Nat → Int32} {N E : Nat} (h : TokAt g N E) : E ≤ N := by rcases h with ⟨a, -⟩ | ⟨rfl, -⟩ <;> omega
theorem dc2_0 : decode jdk_52_method_21_code 0 = .ok (.iconst 0, 1) := by decide +kernel
theorem dc2_1 : decode jdk_52_method_21_code 1 = .ok (.istore 5, 2) := by decide +kernel
theorem dc2_3 : decode jdk_52_method_21_code 3 = .ok (.iload 5, 2) := by decide +kernel
theorem dc2_5 : decode jdk_52_method_21_code 5 = .ok (.iload 4, 2) := by decide +kernel
theorem dc2_7 : decode jdk_52_method_21_code 7 = .ok (.if_icmp .ge 37, 3) := by decide +kernel
theorem dc2_10 : decode jdk_52_method_21_code 10 = .ok (.aload_n 0, 1) := by decide +kernel
theorem dc2_11 : decode jdk_52_method_21_code 11 = .ok (.iload_n 1, 1) := by decide +kernel
theorem dc2_12 : decode jdk_52_method_21_code 12 = .ok (.caload, 1) := by decide +kernel
theorem dc2_13 : decode jdk_52_method_21_code 13 = .ok (.istore 6, 2) := by decide +kernel
theorem dc2_15 : decode jdk_52_method_21_code 15 = .ok (.iload 6, 2) := by decide +kernel
theorem dc2_17 : decode jdk_52_method_21_code 17 = .ok (.sipush 255, 3) := by decide +kernel
theorem dc2_20 : decode jdk_52_method_21_code 20 = .ok (.if_icmp .le 6, 3) := by decide +kernel
theorem dc2_26 : decode jdk_52_method_21_code 26 = .ok (.aload_n 2, 1) := by decide +kernel
theorem dc2_27 : decode jdk_52_method_21_code 27 = .ok (.iload_n 3, 1) := by decide +kernel
theorem dc2_28 : decode jdk_52_method_21_code 28 = .ok (.iload 6, 2) := by decide +kernel
theorem dc2_30 : decode jdk_52_method_21_code 30 = .ok (.i2b, 1) := by decide +kernel
theorem dc2_31 : decode jdk_52_method_21_code 31 = .ok (.bastore, 1) := by decide +kernel
theorem dc2_32 : decode jdk_52_method_21_code 32 = .ok (.iinc 1 1, 3) := by decide +kernel
theorem dc2_35 : decode jdk_52_method_21_code 35 = .ok (.iinc 3 1, 3) := by decide +kernel
theorem dc2_38 : decode jdk_52_method_21_code 38 = .ok (.iinc 5 1, 3) := by decide +kernel
theorem dc2_41 : decode jdk_52_method_21_code 41 = .ok (.goto (-38), 3) := by decide +kernel
theorem dc2_44 : decode jdk_52_method_21_code 44 = .ok (.iload 4, 2) := by decide +kernel
theorem dc2_46 : decode jdk_52_method_21_code 46 = .ok (.ireturn, 1) := by decide +kernel
set_option maxRecDepth 65536 in
set_option maxHeartbeats 40000000 in
theorem c_cm2 (l : Launch) (Z : State) (a0 : Array Value) (hw : ∀ d ∈ tables_1, d.before a0 Z = true) (a1 : Addr) (a3 : Addr) (h0 : Heap) (n0 : Nat) (N : Nat) (cf : Nat → Int32) (hN : N ≤ 8) (hL : Lat cf N) (ga : n0 ≤ a3) (ne : a1 ≠ a3) (A_a1 : Ary Z h0 a1 .char N (fun q => .int (cf q))) (A_a3 : Ary Z h0 a3 .byte N (fun _ => .int (0 : Int32))) :
    Con l Z consts_1 [a3] (⟨"java/lang/StringUTF16", "compress", "([CI[BII)I"⟩ : MethodName) jdk_52_method_21_code 7 (some .int) ({ frames := 0, cells := 0, slots := 0, locals := 0 } : Room) #[(.ref a1), (.int (0 : Int32)), (.ref a3), (.int (0 : Int32)), (.int (Int32.ofNat N))] h0 n0 (fun v h _ => v = some (.int (Int32.ofNat N)) ∧ Keep h0 h [a3] ∧ Ary Z h a3 .byte N (fun q => .int (bt (cf q)))) := by
  refine Con.of (plainFor_of_name (by first | (simp [plainName, overriddenIn]; done) | decide +kernel)) (elw hw) (L0 := #[.val (.ref a1), .val (.int (0 : Int32)), .val (.ref a3), .val (.int (0 : Int32)), .val (.int (Int32.ofNat N)), .unset, .unset]) (fun m => by first | (simp [entryFrame, mkF, argsToLocals, Value.category]; done) | rfl) ?_
  intro p e s m below meth c T C S
  have pm_a3 : a3 ∈ [a3] := List.mem_of_getElem? (i := 0) rfl
  have LP : ∀ (d : Nat) (i : Nat) (s6 : Slot), i + d = N → (s6 = .unset ∨ ∃ w, s6 = .val w ∧ w.category = 1) → ∀ (T : State) (h : Heap) (PS : List Addr), On p l e ({ frames := 0, cells := 0, slots := 0, locals := 0 } : Room) s m #[(.ref a1), (.int (0 : Int32)), (.ref a3), (.int (0 : Int32)), (.int (Int32.ofNat N))] below meth c Z consts_1 "java/lang/StringUTF16" n0 T h PS 0 0 → a3 ∈ PS → Ary Z h a1 .char N (fun q => .int (cf q)) → Ary Z h a3 .byte N (fun q => if q < i then .int (bt (cf q)) else .int 0) → Keep h0 h [a3] → Gl p e below s Z consts_1 ({ frames := 0, cells := 0, slots := 0, locals := 0 } : Room) n0 (fun v h _ => v = some (.int (Int32.ofNat N)) ∧ Keep h0 h [a3] ∧ Ary Z h a3 .byte N (fun q => .int (bt (cf q)))) T (mkF m 3 #[.val (.ref a1), .val (.int (Int32.ofNat i)), .val (.ref a3), .val (.int (Int32.ofNat i)), .val (.int (Int32.ofNat N)), .val (.int (Int32.ofNat i)), s6] []) := by
    intro d
    induction d with
    | zero =>
      intro i s6 hd hs6 T h PS S pm_a3 A_a1 A_a3 Kp
      refine g_iload C S dc2_3 (pc' := 5) rfl rfl ?_
      refine g_iload C S dc2_5 (pc' := 7) rfl rfl ?_
      refine g_icmp_ge C S dc2_7 (pc' := 44) (pf := 10) (by decide) (by decide) rfl (fun hc7 => ?_) (fun hc7 => absurd hc7 (by rw [o32_lt (by omega) (by omega)]; omega))
      refine g_iload C S dc2_44 (pc' := 46) rfl rfl ?_
      exact g_retI C S dc2_46 (by decide) (by decide) (⟨rfl, Kp, A_a3.cg fun q hq => if_pos (by omega)⟩)
    | succ d ih =>
      intro i s6 hd hs6 T h PS S pm_a3 A_a1 A_a3 Kp
      refine g_iload C S dc2_3 (pc' := 5) rfl rfl ?_
      refine g_iload C S dc2_5 (pc' := 7) rfl rfl ?_
      refine g_icmp_ge C S dc2_7 (pc' := 44) (pf := 10) (by decide) (by decide) rfl (fun hc7 => absurd ((o32_lt (by omega) (by omega)).mpr (by omega)) hc7) (fun hc7 => ?_)
      refine g_aloadN C S dc2_10 (pc' := 11) rfl rfl rfl ?_
      refine g_iloadN C S dc2_11 (pc' := 12) rfl rfl ?_
      refine g_caload C S (i := i) (v := (.int (cf i))) dc2_12 A_a1 (o32 (by omega)) (by omega) rfl (pc' := 13) rfl ?_
      refine g_istore C S dc2_13 (pc' := 15) rfl (L' := #[.val (.ref a1), .val (.int (Int32.ofNat i)), .val (.ref a3), .val (.int (Int32.ofNat i)), .val (.int (Int32.ofNat N)), .val (.int (Int32.ofNat i)), .val (.int (cf i))]) (XS.store1 rfl hs6 rfl) ?_
      refine g_iload C S dc2_15 (pc' := 17) rfl rfl ?_
      refine g_sipush C S (255 : Int32) dc2_17 (pc' := 20) rfl rfl ?_
      refine g_icmp_le C S dc2_20 (pc' := 26) (pf := 23) (by decide) (by decide) rfl (fun hc20 => ?_) (fun hc20 => absurd hc20 (lat_255 (hL i (by omega)).2))
      refine g_aloadN C S dc2_26 (pc' := 27) rfl rfl rfl ?_
      refine g_iloadN C S dc2_27 (pc' := 28) rfl rfl ?_
      refine g_iload C S dc2_28 (pc' := 30) rfl rfl ?_
      refine g_i2b C S dc2_30 (pc' := 31) rfl ?_
      refine g_bastoreB C S (i := i) dc2_31 A_a3 (o32 (by omega)) (by omega) ga pm_a3 (pc' := 32) rfl (fun T21 h21 S W21 B21 => ?_)
      have A_a1 := A_a1.other W21 ne
      have A_a3 := B21
      have Kp := Kp.wr W21 (Or.inl (List.mem_of_getElem? (i := 0) rfl))
      refine g_iinc C S (1 : Int32) dc2_32 (pc' := 35) rfl rfl rfl (L' := #[.val (.ref a1), .val (.int ((Int32.ofNat i) + (1 : Int32))), .val (.ref a3), .val (.int (Int32.ofNat i)), .val (.int (Int32.ofNat N)), .val (.int (Int32.ofNat i)), .val (.int (cf i))]) rfl ?_
      refine g_iinc C S (1 : Int32) dc2_35 (pc' := 38) rfl rfl rfl (L' := #[.val (.ref a1), .val (.int ((Int32.ofNat i) + (1 : Int32))), .val (.ref a3), .val (.int ((Int32.ofNat i) + (1 : Int32))), .val (.int (Int32.ofNat N)), .val (.int (Int32.ofNat i)), .val (.int (cf i))]) rfl ?_
      refine g_iinc C S (1 : Int32) dc2_38 (pc' := 41) rfl rfl rfl (L' := #[.val (.ref a1), .val (.int ((Int32.ofNat i) + (1 : Int32))), .val (.ref a3), .val (.int ((Int32.ofNat i) + (1 : Int32))), .val (.int (Int32.ofNat N)), .val (.int ((Int32.ofNat i) + (1 : Int32))), .val (.int (cf i))]) rfl ?_
      refine g_goto C S dc2_41 (pc' := 3) (by decide) (by decide) ?_
      rw [o32_succ]
      exact ih (i + 1) _ (by omega) (Or.inr ⟨_, rfl, rfl⟩) _ _ _ S pm_a3 A_a1 (A_a3.cg (cm_set N i)) Kp
  refine g_iconst C S (0 : Int32) dc2_0 (pc' := 1) rfl rfl ?_
  refine g_istore C S dc2_1 (pc' := 3) rfl (L' := #[.val (.ref a1), .val (.int (0 : Int32)), .val (.ref a3), .val (.int (0 : Int32)), .val (.int (Int32.ofNat N)), .val (.int (0 : Int32)), .unset]) rfl ?_
  exact LP N 0 _ (by omega) (Or.inl rfl) _ _ _ S pm_a3 A_a1 (A_a3.cg fun q hq => (if_neg (Nat.not_lt_zero q)).symm) (Keep.refl _ _)
theorem pd_0 : parseMethodDescriptor "([CI[BII)I" = some ⟨[(.array .char), .int, (.array .byte), .int, .int], some .int⟩ := by decide +kernel
theorem dc1_0 : decode jdk_52_method_16_code 0 = .ok (.iload_n 2, 1) := by decide +kernel
theorem dc1_1 : decode jdk_52_method_16_code 1 = .ok (.newarray .byte, 2) := by decide +kernel
theorem dc1_3 : decode jdk_52_method_16_code 3 = .ok (.astore_n 3, 1) := by decide +kernel
theorem dc1_4 : decode jdk_52_method_16_code 4 = .ok (.aload_n 0, 1) := by decide +kernel
theorem dc1_5 : decode jdk_52_method_16_code 5 = .ok (.iload_n 1, 1) := by decide +kernel
theorem dc1_6 : decode jdk_52_method_16_code 6 = .ok (.aload_n 3, 1) := by decide +kernel
theorem dc1_7 : decode jdk_52_method_16_code 7 = .ok (.iconst 0, 1) := by decide +kernel
theorem dc1_8 : decode jdk_52_method_16_code 8 = .ok (.iload_n 2, 1) := by decide +kernel
theorem dc1_9 : decode jdk_52_method_16_code 9 = .ok (.invokestatic 115, 3) := by decide +kernel
theorem dc1_12 : decode jdk_52_method_16_code 12 = .ok (.istore 4, 2) := by decide +kernel
theorem dc1_14 : decode jdk_52_method_16_code 14 = .ok (.iload 4, 2) := by decide +kernel
theorem dc1_16 : decode jdk_52_method_16_code 16 = .ok (.iload_n 2, 1) := by decide +kernel
theorem dc1_17 : decode jdk_52_method_16_code 17 = .ok (.if_icmp .eq 40, 3) := by decide +kernel
theorem dc1_57 : decode jdk_52_method_16_code 57 = .ok (.aload_n 3, 1) := by decide +kernel
theorem dc1_58 : decode jdk_52_method_16_code 58 = .ok (.areturn, 1) := by decide +kernel
set_option maxRecDepth 65536 in
set_option maxHeartbeats 40000000 in
theorem c_cm1 (l : Launch) (Z : State) (a0 : Array Value) (hw : ∀ d ∈ tables_1, d.before a0 Z = true) (a1 : Addr) (h0 : Heap) (n0 : Nat) (N : Nat) (cf : Nat → Int32) (hN : N ≤ 8) (hL : Lat cf N) (Zn : n0 ≤ h0.size) (A_a1 : Ary Z h0 a1 .char N (fun q => .int (cf q))) :
    Con l Z consts_1 [] (⟨"java/lang/StringUTF16", "compress", "([CII)[B"⟩ : MethodName) jdk_52_method_16_code 6 (some (.array .byte)) ({ frames := 1, cells := 1, slots := 8, locals := 18 } : Room) #[(.ref a1), (.int (0 : Int32)), (.int (Int32.ofNat N))] h0 n0 (fun v h _ => ∃ b, v = some (.ref b) ∧ Keep h0 h [] ∧ Ary Z h b .byte N (fun q => .int (bt (cf q)))) := by
  refine Con.of (plainFor_of_name (by first | (simp [plainName, overriddenIn]; done) | decide +kernel)) (elw hw) (L0 := #[.val (.ref a1), .val (.int (0 : Int32)), .val (.int (Int32.ofNat N)), .unset, .unset, .unset]) (fun m => by first | (simp [entryFrame, mkF, argsToLocals, Value.category]; done) | rfl) ?_
  intro p e s m below meth c T C S
  have Kp := Keep.refl h0 []
  refine g_iloadN C S dc1_0 (pc' := 1) rfl rfl ?_
  refine g_newarray C S (N := N) (cap := 8) dc1_1 (hw _ (List.mem_of_getElem? (i := 4) rfl)) (o32 (by omega)) (by omega) (by decide) (by decide) (by decide) (pc' := 3) rfl (fun T22 h22 a22 S g22 E22 A_a22 => ?_)
  have ne_a1_a22 : a1 ≠ a22 := ne_new g22 A_a1.lt
  have sz_a22 : h0.size ≤ a22 := ge_of g22 Kp.1
  have ge_a22 : n0 ≤ a22 := ge_of g22 Zn
  have pm_a22 := On.hd S
  have Kp := Kp.ext E22
  have A_a1 := A_a1.ext E22
  have Zn := Nat.le_trans Zn E22.1
  have A_a22 : Ary Z h22 a22 .byte N (fun _ => (.int (0 : Int32))) := A_a22
  refine g_astoreN C S dc1_3 (pc' := 4) rfl rfl (L' := #[.val (.ref a1), .val (.int (0 : Int32)), .val (.int (Int32.ofNat N)), .val (.ref a22), .unset, .unset]) rfl ?_
  refine g_aloadN C S dc1_4 (pc' := 5) rfl rfl rfl ?_
  refine g_iloadN C S dc1_5 (pc' := 6) rfl rfl ?_
  refine g_aloadN C S dc1_6 (pc' := 7) rfl rfl rfl ?_
  refine g_iconst C S (0 : Int32) dc1_7 (pc' := 8) rfl rfl ?_
  refine g_iloadN C S dc1_8 (pc' := 9) rfl rfl ?_
  refine g_callS C S (rm := ({ frames := 0, cells := 0, slots := 0, locals := 0 } : Room)) (W := 0) dc1_9 (hw _ (List.mem_of_getElem? (i := 67) rfl)) (hw _ (List.mem_of_getElem? (i := 68) rfl)) (hw _ (List.mem_of_getElem? (i := 65) rfl)) (hw _ (List.mem_of_getElem? (i := 69) rfl)) (by decide) (c_cm2 l Z a0 hw a1 a22 h22 n0 N cf hN hL ge_a22 ne_a1_a22 A_a1 A_a22) (argsL := [(.ref a1), (.int (0 : Int32)), (.ref a22), (.int (0 : Int32)), (.int (Int32.ofNat N))]) (r := []) rfl (allS pm_a22 all0) (lenOf pd_0 rfl) rfl (Nat.le_of_eq rfl) (by decide) (by decide) (by decide) (by decide) (pc' := 12) rfl (fun T23 h23 v23 P23 q23 S => ?_)
  have pm_a22 := List.mem_append_right P23 pm_a22
  obtain ⟨rfl, K23, B23⟩ := q23
  have Kp := Kp.trans K23 (allS (Or.inr sz_a22) all0)
  have A_a1 := A_a1.keep K23 (ninS ne_a1_a22 nin0)
  have Zn := Nat.le_trans Zn K23.1
  have A_a22 := B23
  show Gl p e below s Z consts_1 _ n0 _ T23 (mkF m 12 #[.val (.ref a1), .val (.int (0 : Int32)), .val (.int (Int32.ofNat N)), .val (.ref a22), .unset, .unset] [(.int (Int32.ofNat N))])
  refine g_istore C S dc1_12 (pc' := 14) rfl (L' := #[.val (.ref a1), .val (.int (0 : Int32)), .val (.int (Int32.ofNat N)), .val (.ref a22), .val (.int (Int32.ofNat N)), .unset]) rfl ?_
  refine g_iload C S dc1_14 (pc' := 16) rfl rfl ?_
  refine g_iloadN C S dc1_16 (pc' := 17) rfl rfl ?_
  refine g_icmp_eq C S dc1_17 (pc' := 57) (pf := 20) (by decide) (by decide) rfl (fun hc17 => ?_) (fun hc17 => absurd rfl hc17)
  refine g_aloadN C S dc1_57 (pc' := 58) rfl rfl rfl ?_
  exact g_retA C S dc1_58 rfl rfl rfl (by decide) (by decide) (⟨_, rfl, Kp, A_a22⟩)
theorem dca_0 : decode jdk_52_method_15_code 0 = .ok (.iload_n 1, 1) := by decide +kernel
theorem dca_1 : decode jdk_52_method_15_code 1 = .ok (.aload_n 0, 1) := by decide +kernel
theorem dca_2 : decode jdk_52_method_15_code 2 = .ok (.arraylength, 1) := by decide +kernel
theorem dca_3 : decode jdk_52_method_15_code 3 = .ok (.isub, 1) := by decide +kernel
theorem dca_4 : decode jdk_52_method_15_code 4 = .ok (.bipush 31, 2) := by decide +kernel
theorem dca_6 : decode jdk_52_method_15_code 6 = .ok (.iushr, 1) := by decide +kernel
theorem dca_7 : decode jdk_52_method_15_code 7 = .ok (.i2b, 1) := by decide +kernel
theorem dca_8 : decode jdk_52_method_15_code 8 = .ok (.ireturn, 1) := by decide +kernel
set_option maxRecDepth 65536 in
set_option maxHeartbeats 40000000 in
theorem c_cfa (l : Launch) (Z : State) (a0 : Array Value) (hw : ∀ d ∈ tables_1, d.before a0 Z = true) (a1 : Addr) (h0 : Heap) (n0 : Nat) (N : Nat) (f : Nat → Value) (A_a1 : Ary Z h0 a1 .byte N f) :
    Con l Z consts_1 [] (⟨"java/lang/StringUTF16", "coderFromArrayLen", "([BI)B"⟩ : MethodName) jdk_52_method_15_code 2 (some .byte) ({ frames := 0, cells := 0, slots := 0, locals := 0 } : Room) #[(.ref a1), (.int (Int32.ofNat N))] h0 n0 (fun v h _ => v = some (.int 0) ∧ h = h0) := by
  refine Con.of (plainFor_of_name (by first | (simp [plainName, overriddenIn]; done) | decide +kernel)) (elw hw) (L0 := #[.val (.ref a1), .val (.int (Int32.ofNat N))]) (fun m => by first | (simp [entryFrame, mkF, argsToLocals, Value.category]; done) | rfl) ?_
  intro p e s m below meth c T C S
  refine g_iloadN C S dca_0 (pc' := 1) rfl rfl ?_
  refine g_aloadN C S dca_1 (pc' := 2) rfl rfl rfl ?_
  refine g_arraylength C S (x := (Int32.ofNat N)) dca_2 A_a1 rfl (pc' := 3) rfl ?_
  refine g_isub C S dca_3 (pc' := 4) rfl ?_
  refine g_bipush C S (31 : Int32) dca_4 (pc' := 6) rfl rfl ?_
  refine g_iushr C S dca_6 (pc' := 7) rfl ?_
  refine g_i2b C S dca_7 (pc' := 8) rfl ?_
  exact g_retB C S dca_8 (by rw [sub_self_b]; rfl) (by decide) (by decide) (⟨by rw [sub_self_b], rfl⟩)
theorem pd_1 : parseMethodDescriptor "([CII)[B" = some ⟨[(.array .char), .int, .int], some (.array .byte)⟩ := by decide +kernel
theorem pd_2 : parseMethodDescriptor "([BI)B" = some ⟨[(.array .byte), .int], some .byte⟩ := by decide +kernel
theorem di4_0 : decode jdk_42_method_149_code 0 = .ok (.aload_n 0, 1) := by decide +kernel
theorem di4_1 : decode jdk_42_method_149_code 1 = .ok (.invokespecial 1, 3) := by decide +kernel
theorem di4_4 : decode jdk_42_method_149_code 4 = .ok (.iload_n 3, 1) := by decide +kernel
theorem di4_5 : decode jdk_42_method_149_code 5 = .ok (.ifCond .ne 22, 3) := by decide +kernel
theorem di4_8 : decode jdk_42_method_149_code 8 = .ok (.aload_n 0, 1) := by decide +kernel
theorem di4_9 : decode jdk_42_method_149_code 9 = .ok (.ldc 7, 2) := by decide +kernel
theorem di4_11 : decode jdk_42_method_149_code 11 = .ok (.getfield 9, 3) := by decide +kernel
theorem di4_14 : decode jdk_42_method_149_code 14 = .ok (.putfield 9, 3) := by decide +kernel
theorem di4_17 : decode jdk_42_method_149_code 17 = .ok (.aload_n 0, 1) := by decide +kernel
theorem di4_18 : decode jdk_42_method_149_code 18 = .ok (.ldc 7, 2) := by decide +kernel
theorem di4_20 : decode jdk_42_method_149_code 20 = .ok (.getfield 15, 3) := by decide +kernel
theorem di4_23 : decode jdk_42_method_149_code 23 = .ok (.putfield 15, 3) := by decide +kernel
theorem di4_26 : decode jdk_42_method_149_code 26 = .ok (.return_, 1) := by decide +kernel
theorem di4_27 : decode jdk_42_method_149_code 27 = .ok (.getstatic 38, 3) := by decide +kernel
theorem di4_30 : decode jdk_42_method_149_code 30 = .ok (.ifCond .eq 28, 3) := by decide +kernel
theorem di4_33 : decode jdk_42_method_149_code 33 = .ok (.aload_n 1, 1) := by decide +kernel
theorem di4_34 : decode jdk_42_method_149_code 34 = .ok (.iload_n 2, 1) := by decide +kernel
theorem di4_35 : decode jdk_42_method_149_code 35 = .ok (.iload_n 3, 1) := by decide +kernel
theorem di4_36 : decode jdk_42_method_149_code 36 = .ok (.invokestatic 177, 3) := by decide +kernel
theorem di4_39 : decode jdk_42_method_149_code 39 = .ok (.astore 5, 2) := by decide +kernel
theorem di4_41 : decode jdk_42_method_149_code 41 = .ok (.aload_n 0, 1) := by decide +kernel
theorem di4_42 : decode jdk_42_method_149_code 42 = .ok (.aload 5, 2) := by decide +kernel
theorem di4_44 : decode jdk_42_method_149_code 44 = .ok (.iload_n 3, 1) := by decide +kernel
theorem di4_45 : decode jdk_42_method_149_code 45 = .ok (.invokestatic 47, 3) := by decide +kernel
theorem di4_48 : decode jdk_42_method_149_code 48 = .ok (.putfield 15, 3) := by decide +kernel
theorem di4_51 : decode jdk_42_method_149_code 51 = .ok (.aload_n 0, 1) := by decide +kernel
theorem di4_52 : decode jdk_42_method_149_code 52 = .ok (.aload 5, 2) := by decide +kernel
theorem di4_54 : decode jdk_42_method_149_code 54 = .ok (.putfield 9, 3) := by decide +kernel
theorem di4_57 : decode jdk_42_method_149_code 57 = .ok (.return_, 1) := by decide +kernel
set_option maxRecDepth 65536 in
set_option maxHeartbeats 40000000 in
theorem c_in4 (l : Launch) (Z : State) (a0 : Array Value) (hw : ∀ d ∈ tables_1, d.before a0 Z = true) (a1 : Addr) (a2 : Addr) (h0 : Heap) (n0 : Nat) (u1 u2 : Value) (N : Nat) (cf : Nat → Int32) (hN : N ≤ 8) (hL : Lat cf N) (ga : n0 ≤ a1) (ne : a1 ≠ a2) (Zn : n0 ≤ h0.size) (cs : Int32) (hcs : ¬ cs = 0) (S_COMPACT_STRINGS : Sta Z h0 "java/lang/String" "COMPACT_STRINGS" "Z" (.int cs)) (X_a1 : Exa Z h0 a1 "java/lang/String") (F_value_a1 : Fld Z h0 a1 "java/lang/String" "value" "[B" u1) (F_coder_a1 : Fld Z h0 a1 "java/lang/String" "coder" "B" u2) (A_a2 : Ary Z h0 a2 .char N (fun q => .int (cf q))) :
    Con l Z consts_1 [a1] (⟨"java/lang/String", "<init>", "([CIILjava/lang/Void;)V"⟩ : MethodName) jdk_42_method_149_code 6 none ({ frames := 2, cells := 4, slots := 8, locals := 36 } : Room) #[(.ref a1), (.ref a2), (.int (0 : Int32)), (.int (Int32.ofNat N)), .null] h0 n0 (fun v h _ => v = none ∧ Keep h0 h [a1] ∧ ∃ b, Exa Z h a1 "java/lang/String" ∧ Fld Z h a1 "java/lang/String" "coder" "B" (.int (0 : Int32)) ∧ Fld Z h a1 "java/lang/String" "value" "[B" (.ref b) ∧ Ary Z h b .byte N (fun q => .int (bt (cf q)))) := by
  refine Con.of (plainFor_of_name (by first | (simp [plainName, overriddenIn]; done) | decide +kernel)) (elw hw) (L0 := #[.val (.ref a1), .val (.ref a2), .val (.int (0 : Int32)), .val (.int (Int32.ofNat N)), .val .null, .unset]) (fun m => by first | (simp [entryFrame, mkF, argsToLocals, Value.category]; done) | rfl) ?_
  intro p e s m below meth c T C S
  have pm_a1 : a1 ∈ [a1] := List.mem_of_getElem? (i := 0) rfl
  have Kp := Keep.refl h0 [a1]
  refine g_aloadN C S di4_0 (pc' := 1) rfl rfl rfl ?_
  refine g_initO C S (W := 0) di4_1 (hw _ (List.mem_of_getElem? (i := 60) rfl)) (hw _ (List.mem_of_getElem? (i := 61) rfl)) (hw _ (List.mem_of_getElem? (i := 62) rfl)) rfl (by decide) (Nat.le_of_eq rfl) (by decide) (pc' := 4) rfl (fun T24 S => ?_)
  refine g_iloadN C S di4_4 (pc' := 5) rfl rfl ?_
  refine g_if_ne C S di4_5 (pc' := 27) (pf := 8) (by decide) (by decide) rfl (fun hc5 => ?_) (fun hc5 => ?_)
  · refine g_getS C S di4_27 (host := "") (Or.inl (hw _ (List.mem_of_getElem? (i := 25) rfl))) Via.refl S_COMPACT_STRINGS (pc' := 30) rfl (fun T25 S => ?_)
    refine g_if_eq C S di4_30 (pc' := 58) (pf := 33) (by decide) (by decide) rfl (fun hc30 => absurd hc30 hcs) (fun hc30 => ?_)
    refine g_aloadN C S di4_33 (pc' := 34) rfl rfl rfl ?_
    refine g_iloadN C S di4_34 (pc' := 35) rfl rfl ?_
    refine g_iloadN C S di4_35 (pc' := 36) rfl rfl ?_
    refine g_callS C S (rm := ({ frames := 1, cells := 1, slots := 8, locals := 18 } : Room)) (W := 0) di4_36 (hw _ (List.mem_of_getElem? (i := 63) rfl)) (hw _ (List.mem_of_getElem? (i := 64) rfl)) (hw _ (List.mem_of_getElem? (i := 65) rfl)) (hw _ (List.mem_of_getElem? (i := 66) rfl)) (by decide) (c_cm1 l Z a0 hw a2 h0 n0 N cf hN hL Zn A_a2) (argsL := [(.ref a2), (.int (0 : Int32)), (.int (Int32.ofNat N))]) (r := []) rfl all0 (lenOf pd_1 rfl) rfl (Nat.le_of_eq rfl) (by decide) (by decide) (by decide) (by decide) (pc' := 39) rfl (fun T26 h26 v26 P26 q26 S => ?_)
    have pm_a1 := List.mem_append_right P26 pm_a1
    obtain ⟨b26, rfl, K26, A_b26⟩ := q26
    have Kp := Kp.trans K26 all0
    have S_COMPACT_STRINGS := Sta.keep0 S_COMPACT_STRINGS K26
    have X_a1 := X_a1.keep K26
    have F_value_a1 := F_value_a1.keep K26 nin0
    have F_coder_a1 := F_coder_a1.keep K26 nin0
    have A_a2 := A_a2.keep K26 nin0
    have Zn := Nat.le_trans Zn K26.1
    have ne_a1_b26 := (exa_ary X_a1 A_b26 (hw _ (List.mem_of_getElem? (i := 3) rfl)))
    show Gl p e below s Z consts_1 _ n0 _ T26 (mkF m 39 #[.val (.ref a1), .val (.ref a2), .val (.int (0 : Int32)), .val (.int (Int32.ofNat N)), .val .null, .unset] [(.ref b26)])
    refine g_astore C S di4_39 (pc' := 41) rfl rfl (L' := #[.val (.ref a1), .val (.ref a2), .val (.int (0 : Int32)), .val (.int (Int32.ofNat N)), .val .null, .val (.ref b26)]) rfl ?_
    refine g_aloadN C S di4_41 (pc' := 42) rfl rfl rfl ?_
    refine g_aload C S di4_42 (pc' := 44) rfl rfl rfl ?_
    refine g_iloadN C S di4_44 (pc' := 45) rfl rfl ?_
    refine g_callS C S (rm := ({ frames := 0, cells := 0, slots := 0, locals := 0 } : Room)) (W := 1) di4_45 (hw _ (List.mem_of_getElem? (i := 70) rfl)) (hw _ (List.mem_of_getElem? (i := 71) rfl)) (hw _ (List.mem_of_getElem? (i := 65) rfl)) (hw _ (List.mem_of_getElem? (i := 72) rfl)) (by decide) (c_cfa l Z a0 hw b26 h26 n0 N _ A_b26) (argsL := [(.ref b26), (.int (Int32.ofNat N))]) (r := [(.ref a1)]) rfl all0 (lenOf pd_2 rfl) rfl (Nat.le_of_eq rfl) (by decide) (by decide) (by decide) (by decide) (pc' := 48) rfl (fun T27 h27 v27 P27 q27 S => ?_)
    have pm_a1 := List.mem_append_right P27 pm_a1
    obtain ⟨rfl, e27⟩ := q27; rw [e27] at S
    show Gl p e below s Z consts_1 _ n0 _ T27 (mkF m 48 #[.val (.ref a1), .val (.ref a2), .val (.int (0 : Int32)), .val (.int (Int32.ofNat N)), .val .null, .val (.ref b26)] [(.int (0 : Int32)), (.ref a1)])
    refine g_putF C S di4_48 (host := "") (Or.inl (hw _ (List.mem_of_getElem? (i := 26) rfl))) Via.refl F_coder_a1 X_a1 (Or.inr ⟨(hw _ (List.mem_of_getElem? (i := 6) rfl)), rfl, rfl⟩) (hw _ (List.mem_of_getElem? (i := 3) rfl)) (ty := .byte) (by decide) rfl rfl ga (Or.inl pm_a1) (pc' := 51) rfl (fun T28 h28 S W28 => ?_)
    have X_a1 := X_a1.wr W28
    have F_value_a1 := F_value_a1.other W28 (Or.inr (slot_ne (a0 := a0) (t := (.array .byte)) (t' := .byte) (Or.inr (hw _ (List.mem_of_getElem? (i := 5) rfl))) (Or.inr (hw _ (List.mem_of_getElem? (i := 6) rfl))) (by decide) (by decide) (by decide)))
    have F_coder_a1 := F_coder_a1.same W28
    have A_a2 := A_a2.other W28 (Ne.symm ne)
    have S_COMPACT_STRINGS := S_COMPACT_STRINGS.wr W28
    have Zn := Nat.le_trans Zn (Nat.le_of_eq W28.size.symm)
    have A_b26 := A_b26.other W28 (Ne.symm ne_a1_b26)
    have Kp := Kp.wr W28 (Or.inl (List.mem_of_getElem? (i := 0) rfl))
    refine g_aloadN C S di4_51 (pc' := 52) rfl rfl rfl ?_
    refine g_aload C S di4_52 (pc' := 54) rfl rfl rfl ?_
    refine g_putF C S di4_54 (host := "") (Or.inl (hw _ (List.mem_of_getElem? (i := 19) rfl))) Via.refl F_value_a1 X_a1 (Or.inr ⟨(hw _ (List.mem_of_getElem? (i := 5) rfl)), rfl, rfl⟩) (hw _ (List.mem_of_getElem? (i := 3) rfl)) (ty := (.array .byte)) (by decide) rfl rfl ga (Or.inl pm_a1) (pc' := 57) rfl (fun T29 h29 S W29 => ?_)
    have X_a1 := X_a1.wr W29
    have F_value_a1 := F_value_a1.same W29
    have F_coder_a1 := F_coder_a1.other W29 (Or.inr (slot_ne (a0 := a0) (t := .byte) (t' := (.array .byte)) (Or.inr (hw _ (List.mem_of_getElem? (i := 6) rfl))) (Or.inr (hw _ (List.mem_of_getElem? (i := 5) rfl))) (by decide) (by decide) (by decide)))
    have A_a2 := A_a2.other W29 (Ne.symm ne)
    have S_COMPACT_STRINGS := S_COMPACT_STRINGS.wr W29
    have Zn := Nat.le_trans Zn (Nat.le_of_eq W29.size.symm)
    have A_b26 := A_b26.other W29 (Ne.symm ne_a1_b26)
    have Kp := Kp.wr W29 (Or.inl (List.mem_of_getElem? (i := 0) rfl))
    exact g_return C S di4_57 (by decide) (by decide) (⟨rfl, Kp, b26, X_a1, F_coder_a1, F_value_a1, A_b26⟩)
  · refine g_aloadN C S di4_8 (pc' := 9) rfl rfl rfl ?_
    refine g_ldcS C S (vs := []) (zz := 0) (N := 0) (nn := 0) di4_9 (hw _ (List.mem_of_getElem? (i := 113) rfl)) (List.mem_of_getElem? (i := 4) rfl) ⟨(by decide), rfl⟩ (by decide) (by decide) rfl (by decide) (by decide) (by decide) (by decide) (pc' := 11) rfl (fun T30 h30 a30 b30 S E30 X_a30 F_coder_a30 F_value_a30 A_b30 ns30 => ?_)
    have Kp := Kp.ext E30
    have X_a1 := X_a1.ext E30
    have F_value_a1 := F_value_a1.ext E30
    have F_coder_a1 := F_coder_a1.ext E30
    have A_a2 := A_a2.ext E30
    have S_COMPACT_STRINGS := S_COMPACT_STRINGS.ext E30
    have Zn := Nat.le_trans Zn E30.1
    have ne_a1_a30 := (ns30 _ pm_a1).1
    have ne_a1_b30 := (ns30 _ pm_a1).2
    refine g_getF C S di4_11 (host := "") (Or.inl (hw _ (List.mem_of_getElem? (i := 19) rfl))) Via.refl F_value_a30 (pc' := 14) rfl (fun T31 S => ?_)
    refine g_putF C S di4_14 (host := "") (Or.inl (hw _ (List.mem_of_getElem? (i := 19) rfl))) Via.refl F_value_a1 X_a1 (Or.inr ⟨(hw _ (List.mem_of_getElem? (i := 5) rfl)), rfl, rfl⟩) (hw _ (List.mem_of_getElem? (i := 3) rfl)) (ty := (.array .byte)) (by decide) rfl rfl ga (Or.inl pm_a1) (pc' := 17) rfl (fun T32 h32 S W32 => ?_)
    have X_a1 := X_a1.wr W32
    have F_value_a1 := F_value_a1.same W32
    have F_coder_a1 := F_coder_a1.other W32 (Or.inr (slot_ne (a0 := a0) (t := .byte) (t' := (.array .byte)) (Or.inr (hw _ (List.mem_of_getElem? (i := 6) rfl))) (Or.inr (hw _ (List.mem_of_getElem? (i := 5) rfl))) (by decide) (by decide) (by decide)))
    have A_a2 := A_a2.other W32 (Ne.symm ne)
    have S_COMPACT_STRINGS := S_COMPACT_STRINGS.wr W32
    have Zn := Nat.le_trans Zn (Nat.le_of_eq W32.size.symm)
    have X_a30 := X_a30.wr W32
    have F_coder_a30 := F_coder_a30.other W32 (Or.inl (Ne.symm ne_a1_a30))
    have F_value_a30 := F_value_a30.other W32 (Or.inl (Ne.symm ne_a1_a30))
    have A_b30 := A_b30.other W32 (Ne.symm ne_a1_b30)
    have Kp := Kp.wr W32 (Or.inl (List.mem_of_getElem? (i := 0) rfl))
    refine g_aloadN C S di4_17 (pc' := 18) rfl rfl rfl ?_
    refine g_ldcS C S (vs := []) (zz := 0) (N := 0) (nn := 0) di4_18 (hw _ (List.mem_of_getElem? (i := 113) rfl)) (List.mem_of_getElem? (i := 4) rfl) ⟨(by decide), rfl⟩ (by decide) (by decide) rfl (by decide) (by decide) (by decide) (by decide) (pc' := 20) rfl (fun T33 h33 a33 b33 S E33 X_a33 F_coder_a33 F_value_a33 A_b33 ns33 => ?_)
    have Kp := Kp.ext E33
    have X_a1 := X_a1.ext E33
    have F_value_a1 := F_value_a1.ext E33
    have F_coder_a1 := F_coder_a1.ext E33
    have A_a2 := A_a2.ext E33
    have S_COMPACT_STRINGS := S_COMPACT_STRINGS.ext E33
    have Zn := Nat.le_trans Zn E33.1
    have X_a30 := X_a30.ext E33
    have F_coder_a30 := F_coder_a30.ext E33
    have F_value_a30 := F_value_a30.ext E33
    have A_b30 := A_b30.ext E33
    have ne_a1_a33 := (ns33 _ pm_a1).1
    have ne_a1_b33 := (ns33 _ pm_a1).2
    refine g_getF C S di4_20 (host := "") (Or.inl (hw _ (List.mem_of_getElem? (i := 26) rfl))) Via.refl F_coder_a33 (pc' := 23) rfl (fun T34 S => ?_)
    refine g_putF C S di4_23 (host := "") (Or.inl (hw _ (List.mem_of_getElem? (i := 26) rfl))) Via.refl F_coder_a1 X_a1 (Or.inr ⟨(hw _ (List.mem_of_getElem? (i := 6) rfl)), rfl, rfl⟩) (hw _ (List.mem_of_getElem? (i := 3) rfl)) (ty := .byte) (by decide) rfl rfl ga (Or.inl pm_a1) (pc' := 26) rfl (fun T35 h35 S W35 => ?_)
    have X_a1 := X_a1.wr W35
    have F_value_a1 := F_value_a1.other W35 (Or.inr (slot_ne (a0 := a0) (t := (.array .byte)) (t' := .byte) (Or.inr (hw _ (List.mem_of_getElem? (i := 5) rfl))) (Or.inr (hw _ (List.mem_of_getElem? (i := 6) rfl))) (by decide) (by decide) (by decide)))
    have F_coder_a1 := F_coder_a1.same W35
    have A_a2 := A_a2.other W35 (Ne.symm ne)
    have S_COMPACT_STRINGS := S_COMPACT_STRINGS.wr W35
    have Zn := Nat.le_trans Zn (Nat.le_of_eq W35.size.symm)
    have X_a30 := X_a30.wr W35
    have F_coder_a30 := F_coder_a30.other W35 (Or.inl (Ne.symm ne_a1_a30))
    have F_value_a30 := F_value_a30.other W35 (Or.inl (Ne.symm ne_a1_a30))
    have A_b30 := A_b30.other W35 (Ne.symm ne_a1_b30)
    have X_a33 := X_a33.wr W35
    have F_coder_a33 := F_coder_a33.other W35 (Or.inl (Ne.symm ne_a1_a33))
    have F_value_a33 := F_value_a33.other W35 (Or.inl (Ne.symm ne_a1_a33))
    have A_b33 := A_b33.other W35 (Ne.symm ne_a1_b33)
    have Kp := Kp.wr W35 (Or.inl (List.mem_of_getElem? (i := 0) rfl))
    exact g_return C S di4_26 (by decide) (by decide) (⟨rfl, Kp, b30, X_a1, F_coder_a1, F_value_a1, (show Ary Z _ b30 .byte N (fun q => .int (bt (cf q))) from (z32_of (by omega) (of_not_ne hc5)) ▸ A_b30.cg (fun q hq => absurd hq (Nat.not_lt_zero q)))⟩)
theorem pd_3 : parseMethodDescriptor "([CIILjava/lang/Void;)V" = some ⟨[(.array .char), .int, .int, (.object "java/lang/Void")], none⟩ := by decide +kernel
theorem di1_0 : decode jdk_42_method_3_code 0 = .ok (.aload_n 0, 1) := by decide +kernel
theorem di1_1 : decode jdk_42_method_3_code 1 = .ok (.aload_n 1, 1) := by decide +kernel
theorem di1_2 : decode jdk_42_method_3_code 2 = .ok (.iconst 0, 1) := by decide +kernel
theorem di1_3 : decode jdk_42_method_3_code 3 = .ok (.aload_n 1, 1) := by decide +kernel
theorem di1_4 : decode jdk_42_method_3_code 4 = .ok (.arraylength, 1) := by decide +kernel
theorem di1_5 : decode jdk_42_method_3_code 5 = .ok (.aconst_null, 1) := by decide +kernel
theorem di1_6 : decode jdk_42_method_3_code 6 = .ok (.invokespecial 27, 3) := by decide +kernel
theorem di1_9 : decode jdk_42_method_3_code 9 = .ok (.return_, 1) := by decide +kernel
set_option maxRecDepth 65536 in
set_option maxHeartbeats 40000000 in
theorem c_ini (l : Launch) (Z : State) (a0 : Array Value) (hw : ∀ d ∈ tables_1, d.before a0 Z = true) (a1 : Addr) (a2 : Addr) (h0 : Heap) (n0 : Nat) (u1 u2 : Value) (N : Nat) (cf : Nat → Int32) (hN : N ≤ 8) (hL : Lat cf N) (ga : n0 ≤ a1) (ne : a1 ≠ a2) (Zn : n0 ≤ h0.size) (cs : Int32) (hcs : ¬ cs = 0) (S_COMPACT_STRINGS : Sta Z h0 "java/lang/String" "COMPACT_STRINGS" "Z" (.int cs)) (X_a1 : Exa Z h0 a1 "java/lang/String") (F_value_a1 : Fld Z h0 a1 "java/lang/String" "value" "[B" u1) (F_coder_a1 : Fld Z h0 a1 "java/lang/String" "coder" "B" u2) (A_a2 : Ary Z h0 a2 .char N (fun q => .int (cf q))) :
    Con l Z consts_1 [a1] (⟨"java/lang/String", "<init>", "([C)V"⟩ : MethodName) jdk_42_method_3_code 2 none ({ frames := 3, cells := 4, slots := 8, locals := 53 } : Room) #[(.ref a1), (.ref a2)] h0 n0 (fun v h _ => v = none ∧ Keep h0 h [a1] ∧ ∃ b, Exa Z h a1 "java/lang/String" ∧ Fld Z h a1 "java/lang/String" "coder" "B" (.int (0 : Int32)) ∧ Fld Z h a1 "java/lang/String" "value" "[B" (.ref b) ∧ Ary Z h b .byte N (fun q => .int (bt (cf q)))) := by
  refine Con.of (plainFor_of_name (by first | (simp [plainName, overriddenIn]; done) | decide +kernel)) (elw hw) (L0 := #[.val (.ref a1), .val (.ref a2)]) (fun m => by first | (simp [entryFrame, mkF, argsToLocals, Value.category]; done) | rfl) ?_
  intro p e s m below meth c T C S
  have pm_a1 : a1 ∈ [a1] := List.mem_of_getElem? (i := 0) rfl
  refine g_aloadN C S di1_0 (pc' := 1) rfl rfl rfl ?_
  refine g_aloadN C S di1_1 (pc' := 2) rfl rfl rfl ?_
  refine g_iconst C S (0 : Int32) di1_2 (pc' := 3) rfl rfl ?_
  refine g_aloadN C S di1_3 (pc' := 4) rfl rfl rfl ?_
  refine g_arraylength C S (x := (Int32.ofNat N)) di1_4 A_a2 rfl (pc' := 5) rfl ?_
  refine g_aconst_null C S di1_5 (pc' := 6) rfl ?_
  refine g_callI C S (rm := ({ frames := 2, cells := 4, slots := 8, locals := 36 } : Room)) (W := 0) di1_6 rfl (hw _ (List.mem_of_getElem? (i := 56) rfl)) (hw _ (List.mem_of_getElem? (i := 57) rfl)) (hw _ (List.mem_of_getElem? (i := 2) rfl)) (hw _ (List.mem_of_getElem? (i := 59) rfl)) (by decide) (c_in4 l Z a0 hw a1 a2 h0 n0 u1 u2 N cf hN hL ga ne Zn cs hcs S_COMPACT_STRINGS X_a1 F_value_a1 F_coder_a1 A_a2) (argsL := [(.ref a2), (.int (0 : Int32)), (.int (Int32.ofNat N)), .null]) (r := []) rfl (allS pm_a1 all0) (lenOf pd_3 rfl) rfl (Nat.le_of_eq rfl) (by decide) (by decide) (by decide) (by decide) (pc' := 9) rfl (fun T36 h36 v36 P36 q36 S => ?_)
  have pm_a1 := List.mem_append_right P36 pm_a1
  obtain ⟨rfl, q36⟩ := q36
  show Gl p e below s Z consts_1 _ n0 _ T36 (mkF m 9 #[.val (.ref a1), .val (.ref a2)] [])
  exact g_return C S di1_9 (by decide) (by decide) (⟨rfl, q36⟩)
theorem dco_0 : decode jdk_42_method_152_code 0 = .ok (.getstatic 38, 3) := by decide +kernel
theorem dco_3 : decode jdk_42_method_152_code 3 = .ok (.ifCond .eq 10, 3) := by decide +kernel
theorem dco_6 : decode jdk_42_method_152_code 6 = .ok (.aload_n 0, 1) := by decide +kernel
theorem dco_7 : decode jdk_42_method_152_code 7 = .ok (.getfield 15, 3) := by decide +kernel
theorem dco_10 : decode jdk_42_method_152_code 10 = .ok (.goto 4, 3) := by decide +kernel
theorem dco_14 : decode jdk_42_method_152_code 14 = .ok (.ireturn, 1) := by decide +kernel
set_option maxRecDepth 65536 in
set_option maxHeartbeats 40000000 in
theorem c_cod (l : Launch) (Z : State) (a0 : Array Value) (hw : ∀ d ∈ tables_1, d.before a0 Z = true) (a1 : Addr) (h0 : Heap) (n0 : Nat) (cs : Int32) (hcs : ¬ cs = 0) (S_COMPACT_STRINGS : Sta Z h0 "java/lang/String" "COMPACT_STRINGS" "Z" (.int cs)) (F_coder_a1 : Fld Z h0 a1 "java/lang/String" "coder" "B" (.int (0 : Int32))) :
    Con l Z consts_1 [] (⟨"java/lang/String", "coder", "()B"⟩ : MethodName) jdk_42_method_152_code 1 (some .byte) ({ frames := 0, cells := 0, slots := 0, locals := 0 } : Room) #[(.ref a1)] h0 n0 (fun v h _ => v = some (.int 0) ∧ h = h0) := by
  refine Con.of (plainFor_of_name (by first | (simp [plainName, overriddenIn]; done) | decide +kernel)) (elw hw) (L0 := #[.val (.ref a1)]) (fun m => by first | (simp [entryFrame, mkF, argsToLocals, Value.category]; done) | rfl) ?_
  intro p e s m below meth c T C S
  refine g_getS C S dco_0 (host := "") (Or.inl (hw _ (List.mem_of_getElem? (i := 25) rfl))) Via.refl S_COMPACT_STRINGS (pc' := 3) rfl (fun T37 S => ?_)
  refine g_if_eq C S dco_3 (pc' := 13) (pf := 6) (by decide) (by decide) rfl (fun hc3 => absurd hc3 hcs) (fun hc3 => ?_)
  refine g_aloadN C S dco_6 (pc' := 7) rfl rfl rfl ?_
  refine g_getF C S dco_7 (host := "") (Or.inl (hw _ (List.mem_of_getElem? (i := 26) rfl))) Via.refl F_coder_a1 (pc' := 10) rfl (fun T38 S => ?_)
  refine g_goto C S dco_10 (pc' := 14) (by decide) (by decide) ?_
  exact g_retB C S dco_14 rfl (by decide) (by decide) (⟨rfl, rfl⟩)
theorem pd_4 : parseMethodDescriptor "()B" = some ⟨[], some .byte⟩ := by decide +kernel
theorem dle_0 : decode jdk_42_method_54_code 0 = .ok (.aload_n 0, 1) := by decide +kernel
theorem dle_1 : decode jdk_42_method_54_code 1 = .ok (.getfield 9, 3) := by decide +kernel
theorem dle_4 : decode jdk_42_method_54_code 4 = .ok (.arraylength, 1) := by decide +kernel
theorem dle_5 : decode jdk_42_method_54_code 5 = .ok (.aload_n 0, 1) := by decide +kernel
theorem dle_6 : decode jdk_42_method_54_code 6 = .ok (.invokevirtual 335, 3) := by decide +kernel
theorem dle_9 : decode jdk_42_method_54_code 9 = .ok (.ishr, 1) := by decide +kernel
theorem dle_10 : decode jdk_42_method_54_code 10 = .ok (.ireturn, 1) := by decide +kernel
set_option maxRecDepth 65536 in
set_option maxHeartbeats 40000000 in
theorem c_len (l : Launch) (Z : State) (a0 : Array Value) (hw : ∀ d ∈ tables_1, d.before a0 Z = true) (a1 : Addr) (h0 : Heap) (n0 : Nat) (b1 : Addr) (N : Nat) (f : Nat → Value) (cs : Int32) (hcs : ¬ cs = 0) (S_COMPACT_STRINGS : Sta Z h0 "java/lang/String" "COMPACT_STRINGS" "Z" (.int cs)) (X_a1 : Exa Z h0 a1 "java/lang/String") (F_coder_a1 : Fld Z h0 a1 "java/lang/String" "coder" "B" (.int (0 : Int32))) (F_value_a1 : Fld Z h0 a1 "java/lang/String" "value" "[B" (.ref b1)) (A_b1 : Ary Z h0 b1 .byte N f) :
    Con l Z consts_1 [] (⟨"java/lang/String", "length", "()I"⟩ : MethodName) jdk_42_method_54_code 1 (some .int) ({ frames := 1, cells := 0, slots := 0, locals := 13 } : Room) #[(.ref a1)] h0 n0 (fun v h _ => v = some (.int (Int32.ofNat N)) ∧ h = h0) := by
  refine Con.of (plainFor_of_name (by first | (simp [plainName, overriddenIn]; done) | decide +kernel)) (elw hw) (L0 := #[.val (.ref a1)]) (fun m => by first | (simp [entryFrame, mkF, argsToLocals, Value.category]; done) | rfl) ?_
  intro p e s m below meth c T C S
  refine g_aloadN C S dle_0 (pc' := 1) rfl rfl rfl ?_
  refine g_getF C S dle_1 (host := "") (Or.inl (hw _ (List.mem_of_getElem? (i := 19) rfl))) Via.refl F_value_a1 (pc' := 4) rfl (fun T39 S => ?_)
  refine g_arraylength C S (x := (Int32.ofNat N)) dle_4 A_b1 rfl (pc' := 5) rfl ?_
  refine g_aloadN C S dle_5 (pc' := 6) rfl rfl rfl ?_
  refine g_callV C S (rm := ({ frames := 0, cells := 0, slots := 0, locals := 0 } : Room)) (W := 1) dle_6 (hw _ (List.mem_of_getElem? (i := 20) rfl)) (hw _ (List.mem_of_getElem? (i := 21) rfl)) (fun _ hZ => notFace_of_selects (args := #[]) (mvT hZ (hw _ (List.mem_of_getElem? (i := 23) rfl)))) (hw _ (List.mem_of_getElem? (i := 23) rfl)) (hw _ (List.mem_of_getElem? (i := 22) rfl)) (hw _ (List.mem_of_getElem? (i := 2) rfl)) (hw _ (List.mem_of_getElem? (i := 24) rfl)) (by decide) rfl X_a1 (c_cod l Z a0 hw a1 h0 n0 cs hcs S_COMPACT_STRINGS F_coder_a1) (argsL := []) (r := [(.int (Int32.ofNat N))]) rfl all0 (lenOf pd_4 rfl) rfl (Nat.le_of_eq rfl) (by decide) (by decide) (by decide) (by decide) (pc' := 9) rfl (fun T40 h40 v40 P40 q40 S => ?_)
  obtain ⟨rfl, e40⟩ := q40; rw [e40] at S
  show Gl p e below s Z consts_1 _ n0 _ T40 (mkF m 9 #[.val (.ref a1)] [(.int (0 : Int32)), (.int (Int32.ofNat N))])
  refine g_ishr C S dle_9 (pc' := 10) rfl ?_
  exact g_retI C S dle_10 (by decide) (by decide) (⟨by rw [shr0], rfl⟩)
theorem dil_0 : decode jdk_42_method_154_code 0 = .ok (.getstatic 38, 3) := by decide +kernel
theorem dil_3 : decode jdk_42_method_154_code 3 = .ok (.ifCond .eq 14, 3) := by decide +kernel
theorem dil_6 : decode jdk_42_method_154_code 6 = .ok (.aload_n 0, 1) := by decide +kernel
theorem dil_7 : decode jdk_42_method_154_code 7 = .ok (.getfield 15, 3) := by decide +kernel
theorem dil_10 : decode jdk_42_method_154_code 10 = .ok (.ifCond .ne 7, 3) := by decide +kernel
theorem dil_13 : decode jdk_42_method_154_code 13 = .ok (.iconst 1, 1) := by decide +kernel
theorem dil_14 : decode jdk_42_method_154_code 14 = .ok (.goto 4, 3) := by decide +kernel
theorem dil_18 : decode jdk_42_method_154_code 18 = .ok (.ireturn, 1) := by decide +kernel
set_option maxRecDepth 65536 in
set_option maxHeartbeats 40000000 in
theorem c_lat (l : Launch) (Z : State) (a0 : Array Value) (hw : ∀ d ∈ tables_1, d.before a0 Z = true) (a1 : Addr) (h0 : Heap) (n0 : Nat) (cs : Int32) (hcs : ¬ cs = 0) (S_COMPACT_STRINGS : Sta Z h0 "java/lang/String" "COMPACT_STRINGS" "Z" (.int cs)) (F_coder_a1 : Fld Z h0 a1 "java/lang/String" "coder" "B" (.int (0 : Int32))) :
    Con l Z consts_1 [] (⟨"java/lang/String", "isLatin1", "()Z"⟩ : MethodName) jdk_42_method_154_code 1 (some .boolean) ({ frames := 0, cells := 0, slots := 0, locals := 0 } : Room) #[(.ref a1)] h0 n0 (fun v h _ => v = some (.int 1) ∧ h = h0) := by
  refine Con.of (plainFor_of_name (by first | (simp [plainName, overriddenIn]; done) | decide +kernel)) (elw hw) (L0 := #[.val (.ref a1)]) (fun m => by first | (simp [entryFrame, mkF, argsToLocals, Value.category]; done) | rfl) ?_
  intro p e s m below meth c T C S
  refine g_getS C S dil_0 (host := "") (Or.inl (hw _ (List.mem_of_getElem? (i := 25) rfl))) Via.refl S_COMPACT_STRINGS (pc' := 3) rfl (fun T41 S => ?_)
  refine g_if_eq C S dil_3 (pc' := 17) (pf := 6) (by decide) (by decide) rfl (fun hc3 => absurd hc3 hcs) (fun hc3 => ?_)
  refine g_aloadN C S dil_6 (pc' := 7) rfl rfl rfl ?_
  refine g_getF C S dil_7 (host := "") (Or.inl (hw _ (List.mem_of_getElem? (i := 26) rfl))) Via.refl F_coder_a1 (pc' := 10) rfl (fun T42 S => ?_)
  refine g_if_ne C S dil_10 (pc' := 17) (pf := 13) (by decide) (by decide) rfl (fun hc10 => absurd rfl hc10) (fun hc10 => ?_)
  refine g_iconst C S (1 : Int32) dil_13 (pc' := 14) rfl rfl ?_
  refine g_goto C S dil_14 (pc' := 18) (by decide) (by decide) ?_
  exact g_retZ C S dil_18 (by decide) (by decide) (by decide) (⟨rfl, rfl⟩)
theorem del_0 : decode jdk_43_method_13_code 0 = .ok (.aload_n 0, 1) := by decide +kernel
theorem del_1 : decode jdk_43_method_13_code 1 = .ok (.arraylength, 1) := by decide +kernel
theorem del_2 : decode jdk_43_method_13_code 2 = .ok (.aload_n 1, 1) := by decide +kernel
theorem del_3 : decode jdk_43_method_13_code 3 = .ok (.arraylength, 1) := by decide +kernel
theorem del_4 : decode jdk_43_method_13_code 4 = .ok (.if_icmp .ne 30, 3) := by decide +kernel
theorem del_7 : decode jdk_43_method_13_code 7 = .ok (.iconst 0, 1) := by decide +kernel
theorem del_8 : decode jdk_43_method_13_code 8 = .ok (.istore_n 2, 1) := by decide +kernel
theorem del_9 : decode jdk_43_method_13_code 9 = .ok (.iload_n 2, 1) := by decide +kernel
theorem del_10 : decode jdk_43_method_13_code 10 = .ok (.aload_n 0, 1) := by decide +kernel
theorem del_11 : decode jdk_43_method_13_code 11 = .ok (.arraylength, 1) := by decide +kernel
theorem del_12 : decode jdk_43_method_13_code 12 = .ok (.if_icmp .ge 20, 3) := by decide +kernel
theorem del_15 : decode jdk_43_method_13_code 15 = .ok (.aload_n 0, 1) := by decide +kernel
theorem del_16 : decode jdk_43_method_13_code 16 = .ok (.iload_n 2, 1) := by decide +kernel
theorem del_17 : decode jdk_43_method_13_code 17 = .ok (.baload, 1) := by decide +kernel
theorem del_18 : decode jdk_43_method_13_code 18 = .ok (.aload_n 1, 1) := by decide +kernel
theorem del_19 : decode jdk_43_method_13_code 19 = .ok (.iload_n 2, 1) := by decide +kernel
theorem del_20 : decode jdk_43_method_13_code 20 = .ok (.baload, 1) := by decide +kernel
theorem del_21 : decode jdk_43_method_13_code 21 = .ok (.if_icmp .eq 5, 3) := by decide +kernel
theorem del_24 : decode jdk_43_method_13_code 24 = .ok (.iconst 0, 1) := by decide +kernel
theorem del_25 : decode jdk_43_method_13_code 25 = .ok (.ireturn, 1) := by decide +kernel
theorem del_26 : decode jdk_43_method_13_code 26 = .ok (.iinc 2 1, 3) := by decide +kernel
theorem del_29 : decode jdk_43_method_13_code 29 = .ok (.goto (-20), 3) := by decide +kernel
theorem del_32 : decode jdk_43_method_13_code 32 = .ok (.iconst 1, 1) := by decide +kernel
theorem del_33 : decode jdk_43_method_13_code 33 = .ok (.ireturn, 1) := by decide +kernel
theorem del_34 : decode jdk_43_method_13_code 34 = .ok (.iconst 0, 1) := by decide +kernel
theorem del_35 : decode jdk_43_method_13_code 35 = .ok (.ireturn, 1) := by decide +kernel
set_option maxRecDepth 65536 in
set_option maxHeartbeats 40000000 in
theorem c_eqB (l : Launch) (Z : State) (a0 : Array Value) (hw : ∀ d ∈ tables_1, d.before a0 Z = true) (a1 : Addr) (a2 : Addr) (h0 : Heap) (n0 : Nat) (N M : Nat) (g g' : Nat → Int32) (hN : N < 2 ^ 30) (hM : M < 2 ^ 30) (A_a1 : Ary Z h0 a1 .byte N (fun q => .int (g q))) (A_a2 : Ary Z h0 a2 .byte M (fun q => .int (g' q))) :
    Con l Z consts_1 [] (⟨"java/lang/StringLatin1", "equals", "([B[B)Z"⟩ : MethodName) jdk_43_method_13_code 3 (some .boolean) ({ frames := 0, cells := 0, slots := 0, locals := 0 } : Room) #[(.ref a1), (.ref a2)] h0 n0 (fun v h _ => h = h0 ∧ EqAt g g' N M v) := by
  refine Con.of (plainFor_of_name (by first | (simp [plainName, overriddenIn]; done) | decide +kernel)) (elw hw) (L0 := #[.val (.ref a1), .val (.ref a2), .unset]) (fun m => by first | (simp [entryFrame, mkF, argsToLocals, Value.category]; done) | rfl) ?_
  intro p e s m below meth c T C S
  refine g_aloadN C S del_0 (pc' := 1) rfl rfl rfl ?_
  refine g_arraylength C S (x := (Int32.ofNat N)) del_1 A_a1 rfl (pc' := 2) rfl ?_
  refine g_aloadN C S del_2 (pc' := 3) rfl rfl rfl ?_
  refine g_arraylength C S (x := (Int32.ofNat M)) del_3 A_a2 rfl (pc' := 4) rfl ?_
  refine g_icmp_ne C S del_4 (pc' := 34) (pf := 7) (by decide) (by decide) rfl (fun hc4 => ?_) (fun hc4 => ?_)
  · refine g_iconst C S (0 : Int32) del_34 (pc' := 35) rfl rfl ?_
    exact g_retZ C S del_35 (by decide) (by decide) (by decide) (⟨rfl, Or.inr ⟨rfl, fun q => hc4 (congrArg Int32.ofNat q.1)⟩⟩)
  · have eNM : N = M := (o32_inj (by omega) (by omega)).mp hc4
    have LP : ∀ (d : Nat) (i : Nat), i + d = N → (∀ j, j < i → g j = g' j) → Gl p e below s Z consts_1 ({ frames := 0, cells := 0, slots := 0, locals := 0 } : Room) n0 (fun v h _ => h = h0 ∧ EqAt g g' N M v) T (mkF m 9 #[.val (.ref a1), .val (.ref a2), .val (.int (Int32.ofNat i))] []) := by
      intro d
      induction d with
      | zero =>
        intro i hd hE
        refine g_iloadN C S del_9 (pc' := 10) rfl rfl ?_
        refine g_aloadN C S del_10 (pc' := 11) rfl rfl rfl ?_
        refine g_arraylength C S (x := (Int32.ofNat N)) del_11 A_a1 rfl (pc' := 12) rfl ?_
        refine g_icmp_ge C S del_12 (pc' := 32) (pf := 15) (by decide) (by decide) rfl (fun hc12 => ?_) (fun hc12 => absurd hc12 (by rw [o32_lt (by omega) (by omega)]; omega))
        refine g_iconst C S (1 : Int32) del_32 (pc' := 33) rfl rfl ?_
        exact g_retZ C S del_33 (by decide) (by decide) (by decide) (⟨rfl, Or.inl ⟨rfl, eNM, fun j hj => hE j (by omega)⟩⟩)
      | succ d ih =>
        intro i hd hE
        refine g_iloadN C S del_9 (pc' := 10) rfl rfl ?_
        refine g_aloadN C S del_10 (pc' := 11) rfl rfl rfl ?_
        refine g_arraylength C S (x := (Int32.ofNat N)) del_11 A_a1 rfl (pc' := 12) rfl ?_
        refine g_icmp_ge C S del_12 (pc' := 32) (pf := 15) (by decide) (by decide) rfl (fun hc12 => absurd ((o32_lt (by omega) (by omega)).mpr (by omega)) hc12) (fun hc12 => ?_)
        refine g_aloadN C S del_15 (pc' := 16) rfl rfl rfl ?_
        refine g_iloadN C S del_16 (pc' := 17) rfl rfl ?_
        refine g_baloadB C S (i := i) (v := (.int (g i))) del_17 A_a1 (o32 (by omega)) (by omega) rfl (pc' := 18) rfl ?_
        refine g_aloadN C S del_18 (pc' := 19) rfl rfl rfl ?_
        refine g_iloadN C S del_19 (pc' := 20) rfl rfl ?_
        refine g_baloadB C S (i := i) (v := (.int (g' i))) del_20 A_a2 (o32 (by omega)) (by omega) rfl (pc' := 21) rfl ?_
        refine g_icmp_eq C S del_21 (pc' := 26) (pf := 24) (by decide) (by decide) rfl (fun hc21 => ?_) (fun hc21 => ?_)
        · refine g_iinc C S (1 : Int32) del_26 (pc' := 29) rfl rfl rfl (L' := #[.val (.ref a1), .val (.ref a2), .val (.int ((Int32.ofNat i) + (1 : Int32)))]) rfl ?_
          refine g_goto C S del_29 (pc' := 9) (by decide) (by decide) ?_
          rw [o32_succ]
          exact ih (i + 1) (by omega) (eq_step hE hc21)
        · refine g_iconst C S (0 : Int32) del_24 (pc' := 25) rfl rfl ?_
          exact g_retZ C S del_25 (by decide) (by decide) (by decide) (⟨rfl, Or.inr ⟨rfl, fun q => hc21 (q.2 i (by omega))⟩⟩)
    refine g_iconst C S (0 : Int32) del_7 (pc' := 8) rfl rfl ?_
    refine g_istoreN C S del_8 (pc' := 9) rfl (L' := #[.val (.ref a1), .val (.ref a2), .val (.int (0 : Int32))]) rfl ?_
    exact LP N 0 (by omega) (fun j hj => absurd hj (Nat.not_lt_zero j))
theorem EqAt.val {g g' : Nat → Int32} {N M : Nat} {v : Option Value} (h : EqAt g g' N M v) : ∃ z, v = some (.int z) ∧ EqAt g g' N M (some (.int z)) := by
  rcases h with ⟨rfl, q⟩ | ⟨rfl, q⟩
  · exact ⟨1, rfl, Or.inl ⟨rfl, q⟩⟩
  · exact ⟨0, rfl, Or.inr ⟨rfl, q⟩⟩
theorem EqAt.one {g g' : Nat → Int32} {N M : Nat} {z : Int32} (h : EqAt g g' N M (some (.int z))) (q : ¬ z = 0) : EqAt g g' N M (some (.int 1)) := by
  rcases h with ⟨e, r⟩ | ⟨e, r⟩
  · exact Or.inl ⟨rfl, r⟩
  · exact absurd (Value.int.inj (Option.some.inj e)) q
theorem EqAt.zero {g g' : Nat → Int32} {N M : Nat} {z : Int32} (h : EqAt g g' N M (some (.int z))) (q : z = 0) : EqAt g g' N M (some (.int 0)) := by
  rcases h with ⟨e, r⟩ | ⟨e, r⟩
  · exact absurd ((Value.int.inj (Option.some.inj e)).symm.trans q) (by decide)
  · exact Or.inr ⟨rfl, r⟩
theorem same_bytes {Z : State} {h : Heap} {a1 a2 b1 b2 : Addr} {N M : Nat} {g g' : Nat → Int32} (e : Value.ref a1 = .ref a2) (F1 : Fld Z h a1 "java/lang/String" "value" "[B" (.ref b1)) (F2 : Fld Z h a2 "java/lang/String" "value" "[B" (.ref b2)) (A1 : Ary Z h b1 .byte N (fun q => .int (g q))) (A2 : Ary Z h b2 .byte M (fun q => .int (g' q))) : N = M ∧ ∀ i, i < N → g i = g' i := by
  have e' := Value.ref.inj e
  subst e'
  have eb := Value.ref.inj (fld_uniq F1 F2)
  subst eb
  obtain ⟨q1, q2⟩ := A1.uniq A2
  exact ⟨q1, fun i hi => Value.int.inj (q2 i hi)⟩
theorem pd_5 : parseMethodDescriptor "([B[B)Z" = some ⟨[(.array .byte), (.array .byte)], some .boolean⟩ := by decide +kernel
theorem deq_0 : decode jdk_42_method_66_code 0 = .ok (.aload_n 0, 1) := by decide +kernel
theorem deq_1 : decode jdk_42_method_66_code 1 = .ok (.aload_n 1, 1) := by decide +kernel
theorem deq_2 : decode jdk_42_method_66_code 2 = .ok (.if_acmp .ne 5, 3) := by decide +kernel
theorem deq_5 : decode jdk_42_method_66_code 5 = .ok (.iconst 1, 1) := by decide +kernel
theorem deq_6 : decode jdk_42_method_66_code 6 = .ok (.ireturn, 1) := by decide +kernel
theorem deq_7 : decode jdk_42_method_66_code 7 = .ok (.aload_n 1, 1) := by decide +kernel
theorem deq_8 : decode jdk_42_method_66_code 8 = .ok (.instanceof 10, 3) := by decide +kernel
theorem deq_11 : decode jdk_42_method_66_code 11 = .ok (.ifCond .eq 43, 3) := by decide +kernel
theorem deq_14 : decode jdk_42_method_66_code 14 = .ok (.aload_n 1, 1) := by decide +kernel
theorem deq_15 : decode jdk_42_method_66_code 15 = .ok (.checkcast 10, 3) := by decide +kernel
theorem deq_18 : decode jdk_42_method_66_code 18 = .ok (.astore_n 2, 1) := by decide +kernel
theorem deq_19 : decode jdk_42_method_66_code 19 = .ok (.getstatic 38, 3) := by decide +kernel
theorem deq_22 : decode jdk_42_method_66_code 22 = .ok (.ifCond .eq 14, 3) := by decide +kernel
theorem deq_25 : decode jdk_42_method_66_code 25 = .ok (.aload_n 0, 1) := by decide +kernel
theorem deq_26 : decode jdk_42_method_66_code 26 = .ok (.getfield 15, 3) := by decide +kernel
theorem deq_29 : decode jdk_42_method_66_code 29 = .ok (.aload_n 2, 1) := by decide +kernel
theorem deq_30 : decode jdk_42_method_66_code 30 = .ok (.getfield 15, 3) := by decide +kernel
theorem deq_33 : decode jdk_42_method_66_code 33 = .ok (.if_icmp .ne 21, 3) := by decide +kernel
theorem deq_36 : decode jdk_42_method_66_code 36 = .ok (.aload_n 0, 1) := by decide +kernel
theorem deq_37 : decode jdk_42_method_66_code 37 = .ok (.getfield 9, 3) := by decide +kernel
theorem deq_40 : decode jdk_42_method_66_code 40 = .ok (.aload_n 2, 1) := by decide +kernel
theorem deq_41 : decode jdk_42_method_66_code 41 = .ok (.getfield 9, 3) := by decide +kernel
theorem deq_44 : decode jdk_42_method_66_code 44 = .ok (.invokestatic 541, 3) := by decide +kernel
theorem deq_47 : decode jdk_42_method_66_code 47 = .ok (.ifCond .eq 7, 3) := by decide +kernel
theorem deq_50 : decode jdk_42_method_66_code 50 = .ok (.iconst 1, 1) := by decide +kernel
theorem deq_51 : decode jdk_42_method_66_code 51 = .ok (.goto 4, 3) := by decide +kernel
theorem deq_54 : decode jdk_42_method_66_code 54 = .ok (.iconst 0, 1) := by decide +kernel
theorem deq_55 : decode jdk_42_method_66_code 55 = .ok (.ireturn, 1) := by decide +kernel
set_option maxRecDepth 65536 in
set_option maxHeartbeats 40000000 in
theorem c_eqS (l : Launch) (Z : State) (a0 : Array Value) (hw : ∀ d ∈ tables_1, d.before a0 Z = true) (a1 : Addr) (a2 : Addr) (h0 : Heap) (n0 : Nat) (b1 b2 : Addr) (N M : Nat) (g g' : Nat → Int32) (hN : N < 2 ^ 30) (hM : M < 2 ^ 30) (cs : Int32) (hcs : ¬ cs = 0) (S_COMPACT_STRINGS : Sta Z h0 "java/lang/String" "COMPACT_STRINGS" "Z" (.int cs)) (X_a1 : Exa Z h0 a1 "java/lang/String") (F_coder_a1 : Fld Z h0 a1 "java/lang/String" "coder" "B" (.int (0 : Int32))) (F_value_a1 : Fld Z h0 a1 "java/lang/String" "value" "[B" (.ref b1)) (A_b1 : Ary Z h0 b1 .byte N (fun q => .int (g q))) (X_a2 : Exa Z h0 a2 "java/lang/String") (F_coder_a2 : Fld Z h0 a2 "java/lang/String" "coder" "B" (.int (0 : Int32))) (F_value_a2 : Fld Z h0 a2 "java/lang/String" "value" "[B" (.ref b2)) (A_b2 : Ary Z h0 b2 .byte M (fun q => .int (g' q))) :
    Con l Z consts_1 [] (⟨"java/lang/String", "equals", "(Ljava/lang/Object;)Z"⟩ : MethodName) jdk_42_method_66_code 3 (some .boolean) ({ frames := 1, cells := 0, slots := 0, locals := 14 } : Room) #[(.ref a1), (.ref a2)] h0 n0 (fun v h _ => h = h0 ∧ EqAt g g' N M v) := by
  refine Con.of (plainFor_of_name (by first | (simp [plainName, overriddenIn]; done) | decide +kernel)) (elw hw) (L0 := #[.val (.ref a1), .val (.ref a2), .unset]) (fun m => by first | (simp [entryFrame, mkF, argsToLocals, Value.category]; done) | rfl) ?_
  intro p e s m below meth c T C S
  refine g_aloadN C S deq_0 (pc' := 1) rfl rfl rfl ?_
  refine g_aloadN C S deq_1 (pc' := 2) rfl rfl rfl ?_
  refine g_acmp_ne C S rfl rfl deq_2 (pc' := 7) (pf := 5) (by decide) (by decide) rfl (fun hc2 => ?_) (fun hc2 => ?_)
  · refine g_aloadN C S deq_7 (pc' := 8) rfl rfl rfl ?_
    refine g_inst C S deq_8 (hw _ (List.mem_of_getElem? (i := 102) rfl)) X_a2 (pc' := 11) rfl (fun T43 S => ?_)
    refine g_if_eq C S deq_11 (pc' := 54) (pf := 14) (by decide) (by decide) rfl (fun hc11 => absurd hc11 (by decide)) (fun hc11 => ?_)
    refine g_aloadN C S deq_14 (pc' := 15) rfl rfl rfl ?_
    refine g_cast C S deq_15 (hw _ (List.mem_of_getElem? (i := 102) rfl)) X_a2 (pc' := 18) rfl (fun T44 S => ?_)
    refine g_astoreN C S deq_18 (pc' := 19) rfl rfl (L' := #[.val (.ref a1), .val (.ref a2), .val (.ref a2)]) rfl ?_
    refine g_getS C S deq_19 (host := "") (Or.inl (hw _ (List.mem_of_getElem? (i := 25) rfl))) Via.refl S_COMPACT_STRINGS (pc' := 22) rfl (fun T45 S => ?_)
    refine g_if_eq C S deq_22 (pc' := 36) (pf := 25) (by decide) (by decide) rfl (fun hc22 => absurd hc22 hcs) (fun hc22 => ?_)
    refine g_aloadN C S deq_25 (pc' := 26) rfl rfl rfl ?_
    refine g_getF C S deq_26 (host := "") (Or.inl (hw _ (List.mem_of_getElem? (i := 26) rfl))) Via.refl F_coder_a1 (pc' := 29) rfl (fun T46 S => ?_)
    refine g_aloadN C S deq_29 (pc' := 30) rfl rfl rfl ?_
    refine g_getF C S deq_30 (host := "") (Or.inl (hw _ (List.mem_of_getElem? (i := 26) rfl))) Via.refl F_coder_a2 (pc' := 33) rfl (fun T47 S => ?_)
    refine g_icmp_ne C S deq_33 (pc' := 54) (pf := 36) (by decide) (by decide) rfl (fun hc33 => absurd rfl hc33) (fun hc33 => ?_)
    refine g_aloadN C S deq_36 (pc' := 37) rfl rfl rfl ?_
    refine g_getF C S deq_37 (host := "") (Or.inl (hw _ (List.mem_of_getElem? (i := 19) rfl))) Via.refl F_value_a1 (pc' := 40) rfl (fun T48 S => ?_)
    refine g_aloadN C S deq_40 (pc' := 41) rfl rfl rfl ?_
    refine g_getF C S deq_41 (host := "") (Or.inl (hw _ (List.mem_of_getElem? (i := 19) rfl))) Via.refl F_value_a2 (pc' := 44) rfl (fun T49 S => ?_)
    refine g_callS C S (rm := ({ frames := 0, cells := 0, slots := 0, locals := 0 } : Room)) (W := 0) deq_44 (hw _ (List.mem_of_getElem? (i := 103) rfl)) (hw _ (List.mem_of_getElem? (i := 104) rfl)) (hw _ (List.mem_of_getElem? (i := 39) rfl)) (hw _ (List.mem_of_getElem? (i := 105) rfl)) (by decide) (c_eqB l Z a0 hw b1 b2 h0 n0 N M g g' hN hM A_b1 A_b2) (argsL := [(.ref b1), (.ref b2)]) (r := []) rfl all0 (lenOf pd_5 rfl) rfl (Nat.le_of_eq rfl) (by decide) (by decide) (by decide) (by decide) (pc' := 47) rfl (fun T50 h50 v50 P50 q50 S => ?_)
    obtain ⟨e50, q50⟩ := q50; rw [e50] at S
    obtain ⟨z50, rfl, hz50⟩ := EqAt.val q50
    show Gl p e below s Z consts_1 _ n0 _ T50 (mkF m 47 #[.val (.ref a1), .val (.ref a2), .val (.ref a2)] [(.int z50)])
    have hzz := hz50
    refine g_if_eq C S deq_47 (pc' := 54) (pf := 50) (by decide) (by decide) rfl (fun hc47 => ?_) (fun hc47 => ?_)
    · refine g_iconst C S (0 : Int32) deq_54 (pc' := 55) rfl rfl ?_
      exact g_retZ C S deq_55 (by decide) (by decide) (by decide) (⟨rfl, EqAt.zero hzz hc47⟩)
    · refine g_iconst C S (1 : Int32) deq_50 (pc' := 51) rfl rfl ?_
      refine g_goto C S deq_51 (pc' := 55) (by decide) (by decide) ?_
      exact g_retZ C S deq_55 (by decide) (by decide) (by decide) (⟨rfl, EqAt.one hzz hc47⟩)
  · refine g_iconst C S (1 : Int32) deq_5 (pc' := 6) rfl rfl ?_
    exact g_retZ C S deq_6 (by decide) (by decide) (by decide) (⟨rfl, Or.inl ⟨rfl, same_bytes hc2 F_value_a1 F_value_a2 A_b1 A_b2⟩⟩)
def wA : Nat → Int32 := fun q => [97, 108, 108, 111, 119].getD q 0
def wD : Nat → Int32 := fun q => [100, 101, 110, 121].getD q 0
def wL : Nat → Int32 := fun q => [108, 111, 99, 97, 108].getD q 0
def IsW (g : Nat → Int32) (N : Nat) (w : Nat → Int32) (n : Nat) : Prop := n = N ∧ ∀ i, i < n → w i = g i
theorem EqAt.yes {g g' : Nat → Int32} {N M : Nat} {z : Int32} (h : EqAt g g' N M (some (.int z))) (q : ¬ z = 0) : N = M ∧ ∀ i, i < N → g i = g' i := by
  rcases h with ⟨-, r⟩ | ⟨e, -⟩
  · exact r
  · exact absurd (Value.int.inj (Option.some.inj e)) q
theorem EqAt.no {g g' : Nat → Int32} {N M : Nat} {z : Int32} (h : EqAt g g' N M (some (.int z))) (q : z = 0) : ¬ (N = M ∧ ∀ i, i < N → g i = g' i) := by
  rcases h with ⟨e, -⟩ | ⟨-, r⟩
  · exact absurd ((Value.int.inj (Option.some.inj e)).symm.trans q) (by decide)
  · exact r
theorem IsW.sw {g w : Nat → Int32} {N n : Nat} (h : N = n ∧ ∀ i, i < N → g i = w i) : IsW g N w n := ⟨h.1.symm, fun i hi => (h.2 i (by omega)).symm⟩
theorem IsW.nsw {g w : Nat → Int32} {N n : Nat} (h : ¬ (N = n ∧ ∀ i, i < N → g i = w i)) : ¬ IsW g N w n := fun q => h ⟨q.1.symm, fun i hi => (q.2 i (by have := q.1; omega)).symm⟩
theorem disAD {g : Nat → Int32} {N : Nat} (h : IsW g N wA 5) (h' : IsW g N wD 4) : False := by have := h.1; have := h'.1; omega
theorem disDL {g : Nat → Int32} {N : Nat} (h : IsW g N wD 4) (h' : IsW g N wL 5) : False := by have := h.1; have := h'.1; omega
theorem disAL {g : Nat → Int32} {N : Nat} (h : IsW g N wA 5) (h' : IsW g N wL 5) : False := absurd ((h.2 0 (by decide)).trans (h'.2 0 (by decide)).symm) (by decide)
def NM (al de lo : Addr) (g : Nat → Int32) (N : Nat) (v : Option Value) : Prop := (IsW g N wA 5 ∧ v = some (.ref al)) ∨ (IsW g N wD 4 ∧ v = some (.ref de)) ∨ (IsW g N wL 5 ∧ v = some (.ref lo)) ∨ (¬ IsW g N wA 5 ∧ ¬ IsW g N wD 4 ∧ ¬ IsW g N wL 5 ∧ v = some .null)
theorem NM.uniq {al de lo : Addr} {g : Nat → Int32} {N : Nat} {v v' : Option Value} (h : NM al de lo g N v) (h' : NM al de lo g N v') : v = v' := by
  rcases h with ⟨a, rfl⟩ | ⟨a, rfl⟩ | ⟨a, rfl⟩ | ⟨a, b, c, rfl⟩ <;> rcases h' with ⟨a', rfl⟩ | ⟨a', rfl⟩ | ⟨a', rfl⟩ | ⟨a', b', c', rfl⟩ <;> first | rfl | exact (disAD a a').elim | exact (disAL a a').elim | exact (disDL a a').elim | exact (disAD a' a).elim | exact (disAL a' a).elim | exact (disDL a' a).elim | exact absurd a a' | exact absurd a b' | exact absurd a c' | exact absurd a' a | exact absurd a' b | exact absurd a' c
theorem NM.val {al de lo : Addr} {g : Nat → Int32} {N : Nat} {v : Option Value} (h : NM al de lo g N v) : ∃ z, v = some z ∧ z.isRef = true ∧ NM al de lo g N (some z) := by
  rcases h with ⟨a, rfl⟩ | ⟨a, rfl⟩ | ⟨a, rfl⟩ | ⟨a, b, c, rfl⟩
  · exact ⟨_, rfl, rfl, Or.inl ⟨a, rfl⟩⟩
  · exact ⟨_, rfl, rfl, Or.inr (Or.inl ⟨a, rfl⟩)⟩
  · exact ⟨_, rfl, rfl, Or.inr (Or.inr (Or.inl ⟨a, rfl⟩))⟩
  · exact ⟨_, rfl, rfl, Or.inr (Or.inr (Or.inr ⟨a, b, c, rfl⟩))⟩
theorem dki_0 : decode jdk_41_method_11_code 0 = .ok (.iload_n 0, 1) := by decide +kernel
theorem dki_1 : decode jdk_41_method_11_code 1 = .ok (.ifCond .lt 8, 3) := by decide +kernel
theorem dki_4 : decode jdk_41_method_11_code 4 = .ok (.iload_n 0, 1) := by decide +kernel
theorem dki_5 : decode jdk_41_method_11_code 5 = .ok (.iload_n 1, 1) := by decide +kernel
theorem dki_6 : decode jdk_41_method_11_code 6 = .ok (.if_icmp .lt 10, 3) := by decide +kernel
theorem dki_16 : decode jdk_41_method_11_code 16 = .ok (.iload_n 0, 1) := by decide +kernel
theorem dki_17 : decode jdk_41_method_11_code 17 = .ok (.ireturn, 1) := by decide +kernel
set_option maxRecDepth 65536 in
set_option maxHeartbeats 40000000 in
theorem c_cki (l : Launch) (Z : State) (a0 : Array Value) (hw : ∀ d ∈ tables_1, d.before a0 Z = true) (fm : Value) (h0 : Heap) (n0 : Nat) (I N : Nat) (hI : I < N) (hN : N < 2 ^ 30) (hfm : fm.isRef = true) :
    Con l Z consts_1 [] (⟨"jdk/internal/util/Preconditions", "checkIndex", "(IILjava/util/function/BiFunction;)I"⟩ : MethodName) jdk_41_method_11_code 3 (some .int) ({ frames := 0, cells := 0, slots := 0, locals := 0 } : Room) #[(.int (Int32.ofNat I)), (.int (Int32.ofNat N)), fm] h0 n0 (fun v h _ => v = some (.int (Int32.ofNat I)) ∧ h = h0) := by
  refine Con.of (plainFor_of_name (by first | (simp [plainName, overriddenIn]; done) | decide +kernel)) (elw hw) (L0 := #[.val (.int (Int32.ofNat I)), .val (.int (Int32.ofNat N)), .val fm]) (fun m => by first | (simp [entryFrame, mkF, argsToLocals, Value.category]; done) | rfl | (cases fm <;> first | rfl | (simp [Value.isRef] at hfm; done))) ?_
  intro p e s m below meth c T C S
  refine g_iloadN C S dki_0 (pc' := 1) rfl rfl ?_
  refine g_if_lt C S dki_1 (pc' := 9) (pf := 4) (by decide) (by decide) rfl (fun hc1 => absurd hc1 (o32_neg (by omega))) (fun hc1 => ?_)
  refine g_iloadN C S dki_4 (pc' := 5) rfl rfl ?_
  refine g_iloadN C S dki_5 (pc' := 6) rfl rfl ?_
  refine g_icmp_lt C S dki_6 (pc' := 16) (pf := 9) (by decide) (by decide) rfl (fun hc6 => ?_) (fun hc6 => absurd ((o32_lt (by omega) (by omega)).mpr hI) hc6)
  refine g_iloadN C S dki_16 (pc' := 17) rfl rfl ?_
  exact g_retI C S dki_17 (by decide) (by decide) (⟨rfl, rfl⟩)
theorem pd_6 : parseMethodDescriptor "(IILjava/util/function/BiFunction;)I" = some ⟨[.int, .int, (.object "java/util/function/BiFunction")], some .int⟩ := by decide +kernel
theorem dks_0 : decode jdk_42_method_155_code 0 = .ok (.iload_n 0, 1) := by decide +kernel
theorem dks_1 : decode jdk_42_method_155_code 1 = .ok (.iload_n 1, 1) := by decide +kernel
theorem dks_2 : decode jdk_42_method_155_code 2 = .ok (.getstatic 1053, 3) := by decide +kernel
theorem dks_5 : decode jdk_42_method_155_code 5 = .ok (.invokestatic 1059, 3) := by decide +kernel
theorem dks_8 : decode jdk_42_method_155_code 8 = .ok (.pop, 1) := by decide +kernel
theorem dks_9 : decode jdk_42_method_155_code 9 = .ok (.return_, 1) := by decide +kernel
set_option maxRecDepth 65536 in
set_option maxHeartbeats 40000000 in
theorem c_cks (l : Launch) (Z : State) (a0 : Array Value) (hw : ∀ d ∈ tables_1, d.before a0 Z = true)  (h0 : Heap) (n0 : Nat) (I N : Nat) (hI : I < N) (hN : N < 2 ^ 30) (fm : Value) (hfm : fm.isRef = true) (S_SIOOBE_FORMATTER : Sta Z h0 "jdk/internal/util/Preconditions" "SIOOBE_FORMATTER" "Ljava/util/function/BiFunction;" fm) :
    Con l Z consts_1 [] (⟨"java/lang/String", "checkIndex", "(II)V"⟩ : MethodName) jdk_42_method_155_code 2 none ({ frames := 1, cells := 0, slots := 0, locals := 14 } : Room) #[(.int (Int32.ofNat I)), (.int (Int32.ofNat N))] h0 n0 (fun v h _ => v = none ∧ h = h0) := by
  refine Con.of (plainFor_of_name (by first | (simp [plainName, overriddenIn]; done) | decide +kernel)) (elw hw) (L0 := #[.val (.int (Int32.ofNat I)), .val (.int (Int32.ofNat N))]) (fun m => by first | (simp [entryFrame, mkF, argsToLocals, Value.category]; done) | rfl) ?_
  intro p e s m below meth c T C S
  refine g_iloadN C S dks_0 (pc' := 1) rfl rfl ?_
  refine g_iloadN C S dks_1 (pc' := 2) rfl rfl ?_
  refine g_getS C S dks_2 (host := "") (Or.inl (hw _ (List.mem_of_getElem? (i := 44) rfl))) Via.refl S_SIOOBE_FORMATTER (pc' := 5) rfl (fun T51 S => ?_)
  refine g_callS C S (rm := ({ frames := 0, cells := 0, slots := 0, locals := 0 } : Room)) (W := 0) dks_5 (hw _ (List.mem_of_getElem? (i := 46) rfl)) (hw _ (List.mem_of_getElem? (i := 47) rfl)) (hw _ (List.mem_of_getElem? (i := 45) rfl)) (hw _ (List.mem_of_getElem? (i := 48) rfl)) (by decide) (c_cki l Z a0 hw fm h0 n0 I N hI hN hfm) (argsL := [(.int (Int32.ofNat I)), (.int (Int32.ofNat N)), fm]) (r := []) rfl all0 (lenOf pd_6 rfl) rfl (Nat.le_of_eq rfl) (by decide) (by decide) (by decide) (by decide) (pc' := 8) rfl (fun T52 h52 v52 P52 q52 S => ?_)
  obtain ⟨rfl, e52⟩ := q52; rw [e52] at S
  show Gl p e below s Z consts_1 _ n0 _ T52 (mkF m 8 #[.val (.int (Int32.ofNat I)), .val (.int (Int32.ofNat N))] [(.int (Int32.ofNat I))])
  refine g_pop C S dks_8 (pc' := 9) rfl rfl ?_
  exact g_return C S dks_9 (by decide) (by decide) (⟨rfl, rfl⟩)
theorem pd_7 : parseMethodDescriptor "(II)V" = some ⟨[.int, .int], none⟩ := by decide +kernel
theorem dch_0 : decode jdk_43_method_2_code 0 = .ok (.iload_n 1, 1) := by decide +kernel
theorem dch_1 : decode jdk_43_method_2_code 1 = .ok (.aload_n 0, 1) := by decide +kernel
theorem dch_2 : decode jdk_43_method_2_code 2 = .ok (.arraylength, 1) := by decide +kernel
theorem dch_3 : decode jdk_43_method_2_code 3 = .ok (.invokestatic 9, 3) := by decide +kernel
theorem dch_6 : decode jdk_43_method_2_code 6 = .ok (.aload_n 0, 1) := by decide +kernel
theorem dch_7 : decode jdk_43_method_2_code 7 = .ok (.iload_n 1, 1) := by decide +kernel
theorem dch_8 : decode jdk_43_method_2_code 8 = .ok (.baload, 1) := by decide +kernel
theorem dch_9 : decode jdk_43_method_2_code 9 = .ok (.sipush 255, 3) := by decide +kernel
theorem dch_12 : decode jdk_43_method_2_code 12 = .ok (.iand, 1) := by decide +kernel
theorem dch_13 : decode jdk_43_method_2_code 13 = .ok (.i2c, 1) := by decide +kernel
theorem dch_14 : decode jdk_43_method_2_code 14 = .ok (.ireturn, 1) := by decide +kernel
set_option maxRecDepth 65536 in
set_option maxHeartbeats 40000000 in
theorem c_chL (l : Launch) (Z : State) (a0 : Array Value) (hw : ∀ d ∈ tables_1, d.before a0 Z = true) (a1 : Addr) (h0 : Heap) (n0 : Nat) (I N : Nat) (g : Nat → Int32) (hI : I < N) (hN : N < 2 ^ 30) (fm : Value) (hfm : fm.isRef = true) (S_SIOOBE_FORMATTER : Sta Z h0 "jdk/internal/util/Preconditions" "SIOOBE_FORMATTER" "Ljava/util/function/BiFunction;" fm) (A_a1 : Ary Z h0 a1 .byte N (fun q => .int (g q))) :
    Con l Z consts_1 [] (⟨"java/lang/StringLatin1", "charAt", "([BI)C"⟩ : MethodName) jdk_43_method_2_code 2 (some .char) ({ frames := 2, cells := 0, slots := 0, locals := 27 } : Room) #[(.ref a1), (.int (Int32.ofNat I))] h0 n0 (fun v h _ => ∃ c : Int32, v = some (.int c) ∧ (0 ≤ c.toInt ∧ c.toInt ≤ 255) ∧ h = h0) := by
  refine Con.of (plainFor_of_name (by first | (simp [plainName, overriddenIn]; done) | decide +kernel)) (elw hw) (L0 := #[.val (.ref a1), .val (.int (Int32.ofNat I))]) (fun m => by first | (simp [entryFrame, mkF, argsToLocals, Value.category]; done) | rfl) ?_
  intro p e s m below meth c T C S
  refine g_iloadN C S dch_0 (pc' := 1) rfl rfl ?_
  refine g_aloadN C S dch_1 (pc' := 2) rfl rfl rfl ?_
  refine g_arraylength C S (x := (Int32.ofNat N)) dch_2 A_a1 rfl (pc' := 3) rfl ?_
  refine g_callS C S (rm := ({ frames := 1, cells := 0, slots := 0, locals := 14 } : Room)) (W := 0) dch_3 (hw _ (List.mem_of_getElem? (i := 41) rfl)) (hw _ (List.mem_of_getElem? (i := 42) rfl)) (hw _ (List.mem_of_getElem? (i := 2) rfl)) (hw _ (List.mem_of_getElem? (i := 43) rfl)) (by decide) (c_cks l Z a0 hw h0 n0 I N hI hN fm hfm S_SIOOBE_FORMATTER) (argsL := [(.int (Int32.ofNat I)), (.int (Int32.ofNat N))]) (r := []) rfl all0 (lenOf pd_7 rfl) rfl (Nat.le_of_eq rfl) (by decide) (by decide) (by decide) (by decide) (pc' := 6) rfl (fun T53 h53 v53 P53 q53 S => ?_)
  obtain ⟨rfl, e53⟩ := q53; rw [e53] at S
  show Gl p e below s Z consts_1 _ n0 _ T53 (mkF m 6 #[.val (.ref a1), .val (.int (Int32.ofNat I))] [])
  refine g_aloadN C S dch_6 (pc' := 7) rfl rfl rfl ?_
  refine g_iloadN C S dch_7 (pc' := 8) rfl rfl ?_
  refine g_baloadB C S (i := I) (v := (.int (g I))) dch_8 A_a1 (o32 (by omega)) hI rfl (pc' := 9) rfl ?_
  refine g_sipush C S (255 : Int32) dch_9 (pc' := 12) rfl rfl ?_
  refine g_iand C S dch_12 (pc' := 13) rfl ?_
  refine g_i2c C S dch_13 (pc' := 14) rfl ?_
  exact g_retC C S dch_14 (char_nar (draw_lat _)) (by decide) (by decide) (⟨_, rfl, draw_lat _, rfl⟩)
theorem pd_8 : parseMethodDescriptor "()Z" = some ⟨[], some .boolean⟩ := by decide +kernel
theorem pd_9 : parseMethodDescriptor "([BI)C" = some ⟨[(.array .byte), .int], some .char⟩ := by decide +kernel
theorem dcs_0 : decode jdk_42_method_56_code 0 = .ok (.aload_n 0, 1) := by decide +kernel
theorem dcs_1 : decode jdk_42_method_56_code 1 = .ok (.invokevirtual 492, 3) := by decide +kernel
theorem dcs_4 : decode jdk_42_method_56_code 4 = .ok (.ifCond .eq 12, 3) := by decide +kernel
theorem dcs_7 : decode jdk_42_method_56_code 7 = .ok (.aload_n 0, 1) := by decide +kernel
theorem dcs_8 : decode jdk_42_method_56_code 8 = .ok (.getfield 9, 3) := by decide +kernel
theorem dcs_11 : decode jdk_42_method_56_code 11 = .ok (.iload_n 1, 1) := by decide +kernel
theorem dcs_12 : decode jdk_42_method_56_code 12 = .ok (.invokestatic 495, 3) := by decide +kernel
theorem dcs_15 : decode jdk_42_method_56_code 15 = .ok (.ireturn, 1) := by decide +kernel
set_option maxRecDepth 65536 in
set_option maxHeartbeats 40000000 in
theorem c_chS (l : Launch) (Z : State) (a0 : Array Value) (hw : ∀ d ∈ tables_1, d.before a0 Z = true) (a1 : Addr) (h0 : Heap) (n0 : Nat) (b1 : Addr) (I N : Nat) (g : Nat → Int32) (hI : I < N) (hN : N < 2 ^ 30) (cs : Int32) (hcs : ¬ cs = 0) (S_COMPACT_STRINGS : Sta Z h0 "java/lang/String" "COMPACT_STRINGS" "Z" (.int cs)) (fm : Value) (hfm : fm.isRef = true) (S_SIOOBE_FORMATTER : Sta Z h0 "jdk/internal/util/Preconditions" "SIOOBE_FORMATTER" "Ljava/util/function/BiFunction;" fm) (X_a1 : Exa Z h0 a1 "java/lang/String") (F_coder_a1 : Fld Z h0 a1 "java/lang/String" "coder" "B" (.int (0 : Int32))) (F_value_a1 : Fld Z h0 a1 "java/lang/String" "value" "[B" (.ref b1)) (A_b1 : Ary Z h0 b1 .byte N (fun q => .int (g q))) :
    Con l Z consts_1 [] (⟨"java/lang/String", "charAt", "(I)C"⟩ : MethodName) jdk_42_method_56_code 2 (some .char) ({ frames := 3, cells := 0, slots := 0, locals := 40 } : Room) #[(.ref a1), (.int (Int32.ofNat I))] h0 n0 (fun v h _ => ∃ c : Int32, v = some (.int c) ∧ (0 ≤ c.toInt ∧ c.toInt ≤ 255) ∧ h = h0) := by
  refine Con.of (plainFor_of_name (by first | (simp [plainName, overriddenIn]; done) | decide +kernel)) (elw hw) (L0 := #[.val (.ref a1), .val (.int (Int32.ofNat I))]) (fun m => by first | (simp [entryFrame, mkF, argsToLocals, Value.category]; done) | rfl) ?_
  intro p e s m below meth c T C S
  refine g_aloadN C S dcs_0 (pc' := 1) rfl rfl rfl ?_
  refine g_callV C S (rm := ({ frames := 0, cells := 0, slots := 0, locals := 0 } : Room)) (W := 0) dcs_1 (hw _ (List.mem_of_getElem? (i := 32) rfl)) (hw _ (List.mem_of_getElem? (i := 33) rfl)) (fun _ hZ => notFace_of_selects (args := #[]) (mvT hZ (hw _ (List.mem_of_getElem? (i := 35) rfl)))) (hw _ (List.mem_of_getElem? (i := 35) rfl)) (hw _ (List.mem_of_getElem? (i := 34) rfl)) (hw _ (List.mem_of_getElem? (i := 2) rfl)) (hw _ (List.mem_of_getElem? (i := 36) rfl)) (by decide) rfl X_a1 (c_lat l Z a0 hw a1 h0 n0 cs hcs S_COMPACT_STRINGS F_coder_a1) (argsL := []) (r := []) rfl all0 (lenOf pd_8 rfl) rfl (Nat.le_of_eq rfl) (by decide) (by decide) (by decide) (by decide) (pc' := 4) rfl (fun T54 h54 v54 P54 q54 S => ?_)
  obtain ⟨rfl, e54⟩ := q54; rw [e54] at S
  show Gl p e below s Z consts_1 _ n0 _ T54 (mkF m 4 #[.val (.ref a1), .val (.int (Int32.ofNat I))] [(.int (1 : Int32))])
  refine g_if_eq C S dcs_4 (pc' := 16) (pf := 7) (by decide) (by decide) rfl (fun hc4 => absurd hc4 (by decide)) (fun hc4 => ?_)
  refine g_aloadN C S dcs_7 (pc' := 8) rfl rfl rfl ?_
  refine g_getF C S dcs_8 (host := "") (Or.inl (hw _ (List.mem_of_getElem? (i := 19) rfl))) Via.refl F_value_a1 (pc' := 11) rfl (fun T55 S => ?_)
  refine g_iloadN C S dcs_11 (pc' := 12) rfl rfl ?_
  refine g_callS C S (rm := ({ frames := 2, cells := 0, slots := 0, locals := 27 } : Room)) (W := 0) dcs_12 (hw _ (List.mem_of_getElem? (i := 37) rfl)) (hw _ (List.mem_of_getElem? (i := 38) rfl)) (hw _ (List.mem_of_getElem? (i := 39) rfl)) (hw _ (List.mem_of_getElem? (i := 40) rfl)) (by decide) (c_chL l Z a0 hw b1 h0 n0 I N g hI hN fm hfm S_SIOOBE_FORMATTER A_b1) (argsL := [(.ref b1), (.int (Int32.ofNat I))]) (r := []) rfl all0 (lenOf pd_9 rfl) rfl (Nat.le_of_eq rfl) (by decide) (by decide) (by decide) (by decide) (pc' := 15) rfl (fun T56 h56 v56 P56 q56 S => ?_)
  obtain ⟨k56, rfl, hk56, e56⟩ := q56; rw [e56] at S
  show Gl p e below s Z consts_1 _ n0 _ T56 (mkF m 15 #[.val (.ref a1), .val (.int (Int32.ofNat I))] [(.int k56)])
  exact g_retC C S dcs_15 (char_nar hk56) (by decide) (by decide) (⟨_, rfl, hk56, rfl⟩)
theorem pd_10 : parseMethodDescriptor "()I" = some ⟨[], some .int⟩ := by decide +kernel
theorem pd_11 : parseMethodDescriptor "(I)C" = some ⟨[.int], some .char⟩ := by decide +kernel
theorem dpk_0 : decode method_3_code 0 = .ok (.iload_n 1, 1) := by decide +kernel
theorem dpk_1 : decode method_3_code 1 = .ok (.aload_n 0, 1) := by decide +kernel
theorem dpk_2 : decode method_3_code 2 = .ok (.invokevirtual 35, 3) := by decide +kernel
theorem dpk_5 : decode method_3_code 5 = .ok (.if_icmp .ge 9, 3) := by decide +kernel
theorem dpk_8 : decode method_3_code 8 = .ok (.aload_n 0, 1) := by decide +kernel
theorem dpk_9 : decode method_3_code 9 = .ok (.iload_n 1, 1) := by decide +kernel
theorem dpk_10 : decode method_3_code 10 = .ok (.invokevirtual 41, 3) := by decide +kernel
theorem dpk_13 : decode method_3_code 13 = .ok (.ireturn, 1) := by decide +kernel
theorem dpk_14 : decode method_3_code 14 = .ok (.iload_n 1, 1) := by decide +kernel
theorem dpk_15 : decode method_3_code 15 = .ok (.iconst 4, 1) := by decide +kernel
theorem dpk_16 : decode method_3_code 16 = .ok (.if_icmp .ge 16, 3) := by decide +kernel
theorem dpk_19 : decode method_3_code 19 = .ok (.iload_n 2, 1) := by decide +kernel
theorem dpk_20 : decode method_3_code 20 = .ok (.bipush 8, 2) := by decide +kernel
theorem dpk_22 : decode method_3_code 22 = .ok (.iload_n 1, 1) := by decide +kernel
theorem dpk_23 : decode method_3_code 23 = .ok (.imul, 1) := by decide +kernel
theorem dpk_24 : decode method_3_code 24 = .ok (.iushr, 1) := by decide +kernel
theorem dpk_25 : decode method_3_code 25 = .ok (.sipush 255, 3) := by decide +kernel
theorem dpk_28 : decode method_3_code 28 = .ok (.iand, 1) := by decide +kernel
theorem dpk_29 : decode method_3_code 29 = .ok (.goto 15, 3) := by decide +kernel
theorem dpk_32 : decode method_3_code 32 = .ok (.iload_n 3, 1) := by decide +kernel
theorem dpk_33 : decode method_3_code 33 = .ok (.bipush 8, 2) := by decide +kernel
theorem dpk_35 : decode method_3_code 35 = .ok (.iload_n 1, 1) := by decide +kernel
theorem dpk_36 : decode method_3_code 36 = .ok (.iconst 4, 1) := by decide +kernel
theorem dpk_37 : decode method_3_code 37 = .ok (.isub, 1) := by decide +kernel
theorem dpk_38 : decode method_3_code 38 = .ok (.imul, 1) := by decide +kernel
theorem dpk_39 : decode method_3_code 39 = .ok (.iushr, 1) := by decide +kernel
theorem dpk_40 : decode method_3_code 40 = .ok (.sipush 255, 3) := by decide +kernel
theorem dpk_43 : decode method_3_code 43 = .ok (.iand, 1) := by decide +kernel
theorem dpk_44 : decode method_3_code 44 = .ok (.istore 4, 2) := by decide +kernel
theorem dpk_46 : decode method_3_code 46 = .ok (.iload 4, 2) := by decide +kernel
theorem dpk_48 : decode method_3_code 48 = .ok (.i2c, 1) := by decide +kernel
theorem dpk_49 : decode method_3_code 49 = .ok (.ireturn, 1) := by decide +kernel
set_option maxRecDepth 65536 in
set_option maxHeartbeats 40000000 in
theorem c_pck (l : Launch) (Z : State) (a0 : Array Value) (hw : ∀ d ∈ tables_1, d.before a0 Z = true) (a1 : Addr) (p3 : Int32) (p4 : Int32) (h0 : Heap) (n0 : Nat) (b1 : Addr) (I N : Nat) (g : Nat → Int32) (hI : I < 8) (hN : N < 2 ^ 30) (cs : Int32) (hcs : ¬ cs = 0) (S_COMPACT_STRINGS : Sta Z h0 "java/lang/String" "COMPACT_STRINGS" "Z" (.int cs)) (fm : Value) (hfm : fm.isRef = true) (S_SIOOBE_FORMATTER : Sta Z h0 "jdk/internal/util/Preconditions" "SIOOBE_FORMATTER" "Ljava/util/function/BiFunction;" fm) (X_a1 : Exa Z h0 a1 "java/lang/String") (F_coder_a1 : Fld Z h0 a1 "java/lang/String" "coder" "B" (.int (0 : Int32))) (F_value_a1 : Fld Z h0 a1 "java/lang/String" "value" "[B" (.ref b1)) (A_b1 : Ary Z h0 b1 .byte N (fun q => .int (g q))) :
    Con l Z consts_1 [] (⟨"com/example/pitlochry/pitlochry/OnStoreErrorNamedPinLaw", "pick", "(Ljava/lang/String;III)C"⟩ : MethodName) method_3_code 5 (some .char) ({ frames := 4, cells := 0, slots := 0, locals := 54 } : Room) #[(.ref a1), (.int (Int32.ofNat I)), (.int p3), (.int p4)] h0 n0 (fun v h _ => ∃ c : Int32, v = some (.int c) ∧ (0 ≤ c.toInt ∧ c.toInt ≤ 255) ∧ h = h0) := by
  refine Con.of (plainFor_of_name (by first | (simp [plainName, overriddenIn]; done) | decide +kernel)) (elw hw) (L0 := #[.val (.ref a1), .val (.int (Int32.ofNat I)), .val (.int p3), .val (.int p4), .unset]) (fun m => by first | (simp [entryFrame, mkF, argsToLocals, Value.category]; done) | rfl) ?_
  intro p e s m below meth c T C S
  refine g_iloadN C S dpk_0 (pc' := 1) rfl rfl ?_
  refine g_aloadN C S dpk_1 (pc' := 2) rfl rfl rfl ?_
  refine g_callV C S (rm := ({ frames := 1, cells := 0, slots := 0, locals := 13 } : Room)) (W := 1) dpk_2 (hw _ (List.mem_of_getElem? (i := 14) rfl)) (hw _ (List.mem_of_getElem? (i := 15) rfl)) (fun _ hZ => notFace_of_selects (args := #[]) (mvT hZ (hw _ (List.mem_of_getElem? (i := 17) rfl)))) (hw _ (List.mem_of_getElem? (i := 17) rfl)) (hw _ (List.mem_of_getElem? (i := 16) rfl)) (hw _ (List.mem_of_getElem? (i := 2) rfl)) (hw _ (List.mem_of_getElem? (i := 18) rfl)) (by decide) rfl X_a1 (c_len l Z a0 hw a1 h0 n0 b1 N _ cs hcs S_COMPACT_STRINGS X_a1 F_coder_a1 F_value_a1 A_b1) (argsL := []) (r := [(.int (Int32.ofNat I))]) rfl all0 (lenOf pd_10 rfl) rfl (Nat.le_of_eq rfl) (by decide) (by decide) (by decide) (by decide) (pc' := 5) rfl (fun T57 h57 v57 P57 q57 S => ?_)
  obtain ⟨rfl, e57⟩ := q57; rw [e57] at S
  show Gl p e below s Z consts_1 _ n0 _ T57 (mkF m 5 #[.val (.ref a1), .val (.int (Int32.ofNat I)), .val (.int p3), .val (.int p4), .unset] [(.int (Int32.ofNat N)), (.int (Int32.ofNat I))])
  refine g_icmp_ge C S dpk_5 (pc' := 14) (pf := 8) (by decide) (by decide) rfl (fun hc5 => ?_) (fun hc5 => ?_)
  · refine g_iloadN C S dpk_14 (pc' := 15) rfl rfl ?_
    refine g_iconst C S (4 : Int32) dpk_15 (pc' := 16) rfl rfl ?_
    refine g_icmp_ge C S dpk_16 (pc' := 32) (pf := 19) (by decide) (by decide) rfl (fun hc16 => ?_) (fun hc16 => ?_)
    · refine g_iloadN C S dpk_32 (pc' := 33) rfl rfl ?_
      refine g_bipush C S (8 : Int32) dpk_33 (pc' := 35) rfl rfl ?_
      refine g_iloadN C S dpk_35 (pc' := 36) rfl rfl ?_
      refine g_iconst C S (4 : Int32) dpk_36 (pc' := 37) rfl rfl ?_
      refine g_isub C S dpk_37 (pc' := 38) rfl ?_
      refine g_imul C S dpk_38 (pc' := 39) rfl ?_
      refine g_iushr C S dpk_39 (pc' := 40) rfl ?_
      refine g_sipush C S (255 : Int32) dpk_40 (pc' := 43) rfl rfl ?_
      refine g_iand C S dpk_43 (pc' := 44) rfl ?_
      refine g_istore C S dpk_44 (pc' := 46) rfl (L' := #[.val (.ref a1), .val (.int (Int32.ofNat I)), .val (.int p3), .val (.int p4), .val (.int (((p4.toUInt32 >>> (((8 : Int32) * ((Int32.ofNat I) - (4 : Int32))) &&& 31).toUInt32).toInt32) &&& (255 : Int32)))]) rfl ?_
      refine g_iload C S dpk_46 (pc' := 48) rfl rfl ?_
      refine g_i2c C S dpk_48 (pc' := 49) rfl ?_
      exact g_retC C S dpk_49 (char_nar (draw_lat _)) (by decide) (by decide) (⟨_, rfl, draw_lat _, rfl⟩)
    · refine g_iloadN C S dpk_19 (pc' := 20) rfl rfl ?_
      refine g_bipush C S (8 : Int32) dpk_20 (pc' := 22) rfl rfl ?_
      refine g_iloadN C S dpk_22 (pc' := 23) rfl rfl ?_
      refine g_imul C S dpk_23 (pc' := 24) rfl ?_
      refine g_iushr C S dpk_24 (pc' := 25) rfl ?_
      refine g_sipush C S (255 : Int32) dpk_25 (pc' := 28) rfl rfl ?_
      refine g_iand C S dpk_28 (pc' := 29) rfl ?_
      refine g_goto C S dpk_29 (pc' := 44) (by decide) (by decide) ?_
      refine g_istore C S dpk_44 (pc' := 46) rfl (L' := #[.val (.ref a1), .val (.int (Int32.ofNat I)), .val (.int p3), .val (.int p4), .val (.int (((p3.toUInt32 >>> (((8 : Int32) * (Int32.ofNat I)) &&& 31).toUInt32).toInt32) &&& (255 : Int32)))]) rfl ?_
      refine g_iload C S dpk_46 (pc' := 48) rfl rfl ?_
      refine g_i2c C S dpk_48 (pc' := 49) rfl ?_
      exact g_retC C S dpk_49 (char_nar (draw_lat _)) (by decide) (by decide) (⟨_, rfl, draw_lat _, rfl⟩)
  · refine g_aloadN C S dpk_8 (pc' := 9) rfl rfl rfl ?_
    refine g_iloadN C S dpk_9 (pc' := 10) rfl rfl ?_
    refine g_callV C S (rm := ({ frames := 3, cells := 0, slots := 0, locals := 40 } : Room)) (W := 0) dpk_10 (hw _ (List.mem_of_getElem? (i := 27) rfl)) (hw _ (List.mem_of_getElem? (i := 28) rfl)) (fun _ hZ => notFace_of_selects (args := #[]) (mvT hZ (hw _ (List.mem_of_getElem? (i := 30) rfl)))) (hw _ (List.mem_of_getElem? (i := 30) rfl)) (hw _ (List.mem_of_getElem? (i := 29) rfl)) (hw _ (List.mem_of_getElem? (i := 2) rfl)) (hw _ (List.mem_of_getElem? (i := 31) rfl)) (by decide) rfl X_a1 (c_chS l Z a0 hw a1 h0 n0 b1 I N g ((o32_lt (by omega) (by omega)).mp hc5) hN cs hcs S_COMPACT_STRINGS fm hfm S_SIOOBE_FORMATTER X_a1 F_coder_a1 F_value_a1 A_b1) (argsL := [(.int (Int32.ofNat I))]) (r := []) rfl all0 (lenOf pd_11 rfl) rfl (Nat.le_of_eq rfl) (by decide) (by decide) (by decide) (by decide) (pc' := 13) rfl (fun T58 h58 v58 P58 q58 S => ?_)
    obtain ⟨k58, rfl, hk58, e58⟩ := q58; rw [e58] at S
    show Gl p e below s Z consts_1 _ n0 _ T58 (mkF m 13 #[.val (.ref a1), .val (.int (Int32.ofNat I)), .val (.int p3), .val (.int p4), .unset] [(.int k58)])
    exact g_retC C S dpk_13 (char_nar hk58) (by decide) (by decide) (⟨_, rfl, hk58, rfl⟩)
theorem K_ne {K k : Nat} (h : ¬ Int32.ofNat K = Int32.ofNat k) : K ≠ k := fun e => h (congrArg _ e)
theorem K_eq {K k : Nat} (hK : K ≤ 7) (hk : k ≤ 7) (h : Int32.ofNat K = Int32.ofNat k) : K = k := (o32_inj (by omega) (by omega)).mp h
theorem kseven {K : Nat} (hK : K ≤ 7) (h0 : ¬ Int32.ofNat K = 0) (h1 : ¬ Int32.ofNat K = 1) (h2 : ¬ Int32.ofNat K = 2) (h3 : ¬ Int32.ofNat K = 3) (h4 : ¬ Int32.ofNat K = 4) (h5 : ¬ Int32.ofNat K = 5) (h6 : ¬ Int32.ofNat K = 6) : K = 7 := by
  have e0 := K_ne (k := 0) h0
  have e1 := K_ne (k := 1) h1
  have e2 := K_ne (k := 2) h2
  have e3 := K_ne (k := 3) h3
  have e4 := K_ne (k := 4) h4
  have e5 := K_ne (k := 5) h5
  have e6 := K_ne (k := 6) h6
  omega
theorem pd_12 : parseMethodDescriptor "([C)V" = some ⟨[(.array .char)], none⟩ := by decide +kernel
theorem dpx_0 : decode method_4_code 0 = .ok (.iload_n 1, 1) := by decide +kernel
theorem dpx_1 : decode method_4_code 1 = .ok (.ifCond .ne 14, 3) := by decide +kernel
theorem dpx_4 : decode method_4_code 4 = .ok (.new 36, 3) := by decide +kernel
theorem dpx_7 : decode method_4_code 7 = .ok (.dup, 1) := by decide +kernel
theorem dpx_8 : decode method_4_code 8 = .ok (.iconst 0, 1) := by decide +kernel
theorem dpx_9 : decode method_4_code 9 = .ok (.newarray .char, 2) := by decide +kernel
theorem dpx_11 : decode method_4_code 11 = .ok (.invokespecial 45, 3) := by decide +kernel
theorem dpx_14 : decode method_4_code 14 = .ok (.areturn, 1) := by decide +kernel
theorem dpx_15 : decode method_4_code 15 = .ok (.iload_n 1, 1) := by decide +kernel
theorem dpx_16 : decode method_4_code 16 = .ok (.iconst 1, 1) := by decide +kernel
theorem dpx_17 : decode method_4_code 17 = .ok (.if_icmp .ne 20, 3) := by decide +kernel
theorem dpx_20 : decode method_4_code 20 = .ok (.new 36, 3) := by decide +kernel
theorem dpx_23 : decode method_4_code 23 = .ok (.dup, 1) := by decide +kernel
theorem dpx_24 : decode method_4_code 24 = .ok (.iconst 1, 1) := by decide +kernel
theorem dpx_25 : decode method_4_code 25 = .ok (.newarray .char, 2) := by decide +kernel
theorem dpx_27 : decode method_4_code 27 = .ok (.dup, 1) := by decide +kernel
theorem dpx_28 : decode method_4_code 28 = .ok (.iconst 0, 1) := by decide +kernel
theorem dpx_29 : decode method_4_code 29 = .ok (.aload_n 0, 1) := by decide +kernel
theorem dpx_30 : decode method_4_code 30 = .ok (.iconst 0, 1) := by decide +kernel
theorem dpx_31 : decode method_4_code 31 = .ok (.caload, 1) := by decide +kernel
theorem dpx_32 : decode method_4_code 32 = .ok (.castore, 1) := by decide +kernel
theorem dpx_33 : decode method_4_code 33 = .ok (.invokespecial 45, 3) := by decide +kernel
theorem dpx_36 : decode method_4_code 36 = .ok (.areturn, 1) := by decide +kernel
theorem dpx_37 : decode method_4_code 37 = .ok (.iload_n 1, 1) := by decide +kernel
theorem dpx_38 : decode method_4_code 38 = .ok (.iconst 2, 1) := by decide +kernel
theorem dpx_39 : decode method_4_code 39 = .ok (.if_icmp .ne 26, 3) := by decide +kernel
theorem dpx_42 : decode method_4_code 42 = .ok (.new 36, 3) := by decide +kernel
theorem dpx_45 : decode method_4_code 45 = .ok (.dup, 1) := by decide +kernel
theorem dpx_46 : decode method_4_code 46 = .ok (.iconst 2, 1) := by decide +kernel
theorem dpx_47 : decode method_4_code 47 = .ok (.newarray .char, 2) := by decide +kernel
theorem dpx_49 : decode method_4_code 49 = .ok (.dup, 1) := by decide +kernel
theorem dpx_50 : decode method_4_code 50 = .ok (.iconst 0, 1) := by decide +kernel
theorem dpx_51 : decode method_4_code 51 = .ok (.aload_n 0, 1) := by decide +kernel
theorem dpx_52 : decode method_4_code 52 = .ok (.iconst 0, 1) := by decide +kernel
theorem dpx_53 : decode method_4_code 53 = .ok (.caload, 1) := by decide +kernel
theorem dpx_54 : decode method_4_code 54 = .ok (.castore, 1) := by decide +kernel
theorem dpx_55 : decode method_4_code 55 = .ok (.dup, 1) := by decide +kernel
theorem dpx_56 : decode method_4_code 56 = .ok (.iconst 1, 1) := by decide +kernel
theorem dpx_57 : decode method_4_code 57 = .ok (.aload_n 0, 1) := by decide +kernel
theorem dpx_58 : decode method_4_code 58 = .ok (.iconst 1, 1) := by decide +kernel
theorem dpx_59 : decode method_4_code 59 = .ok (.caload, 1) := by decide +kernel
theorem dpx_60 : decode method_4_code 60 = .ok (.castore, 1) := by decide +kernel
theorem dpx_61 : decode method_4_code 61 = .ok (.invokespecial 45, 3) := by decide +kernel
theorem dpx_64 : decode method_4_code 64 = .ok (.areturn, 1) := by decide +kernel
theorem dpx_65 : decode method_4_code 65 = .ok (.iload_n 1, 1) := by decide +kernel
theorem dpx_66 : decode method_4_code 66 = .ok (.iconst 3, 1) := by decide +kernel
theorem dpx_67 : decode method_4_code 67 = .ok (.if_icmp .ne 32, 3) := by decide +kernel
theorem dpx_70 : decode method_4_code 70 = .ok (.new 36, 3) := by decide +kernel
theorem dpx_73 : decode method_4_code 73 = .ok (.dup, 1) := by decide +kernel
theorem dpx_74 : decode method_4_code 74 = .ok (.iconst 3, 1) := by decide +kernel
theorem dpx_75 : decode method_4_code 75 = .ok (.newarray .char, 2) := by decide +kernel
theorem dpx_77 : decode method_4_code 77 = .ok (.dup, 1) := by decide +kernel
theorem dpx_78 : decode method_4_code 78 = .ok (.iconst 0, 1) := by decide +kernel
theorem dpx_79 : decode method_4_code 79 = .ok (.aload_n 0, 1) := by decide +kernel
theorem dpx_80 : decode method_4_code 80 = .ok (.iconst 0, 1) := by decide +kernel
theorem dpx_81 : decode method_4_code 81 = .ok (.caload, 1) := by decide +kernel
theorem dpx_82 : decode method_4_code 82 = .ok (.castore, 1) := by decide +kernel
theorem dpx_83 : decode method_4_code 83 = .ok (.dup, 1) := by decide +kernel
theorem dpx_84 : decode method_4_code 84 = .ok (.iconst 1, 1) := by decide +kernel
theorem dpx_85 : decode method_4_code 85 = .ok (.aload_n 0, 1) := by decide +kernel
theorem dpx_86 : decode method_4_code 86 = .ok (.iconst 1, 1) := by decide +kernel
theorem dpx_87 : decode method_4_code 87 = .ok (.caload, 1) := by decide +kernel
theorem dpx_88 : decode method_4_code 88 = .ok (.castore, 1) := by decide +kernel
theorem dpx_89 : decode method_4_code 89 = .ok (.dup, 1) := by decide +kernel
theorem dpx_90 : decode method_4_code 90 = .ok (.iconst 2, 1) := by decide +kernel
theorem dpx_91 : decode method_4_code 91 = .ok (.aload_n 0, 1) := by decide +kernel
theorem dpx_92 : decode method_4_code 92 = .ok (.iconst 2, 1) := by decide +kernel
theorem dpx_93 : decode method_4_code 93 = .ok (.caload, 1) := by decide +kernel
theorem dpx_94 : decode method_4_code 94 = .ok (.castore, 1) := by decide +kernel
theorem dpx_95 : decode method_4_code 95 = .ok (.invokespecial 45, 3) := by decide +kernel
theorem dpx_98 : decode method_4_code 98 = .ok (.areturn, 1) := by decide +kernel
theorem dpx_99 : decode method_4_code 99 = .ok (.iload_n 1, 1) := by decide +kernel
theorem dpx_100 : decode method_4_code 100 = .ok (.iconst 4, 1) := by decide +kernel
theorem dpx_101 : decode method_4_code 101 = .ok (.if_icmp .ne 38, 3) := by decide +kernel
theorem dpx_104 : decode method_4_code 104 = .ok (.new 36, 3) := by decide +kernel
theorem dpx_107 : decode method_4_code 107 = .ok (.dup, 1) := by decide +kernel
theorem dpx_108 : decode method_4_code 108 = .ok (.iconst 4, 1) := by decide +kernel
theorem dpx_109 : decode method_4_code 109 = .ok (.newarray .char, 2) := by decide +kernel
theorem dpx_111 : decode method_4_code 111 = .ok (.dup, 1) := by decide +kernel
theorem dpx_112 : decode method_4_code 112 = .ok (.iconst 0, 1) := by decide +kernel
theorem dpx_113 : decode method_4_code 113 = .ok (.aload_n 0, 1) := by decide +kernel
theorem dpx_114 : decode method_4_code 114 = .ok (.iconst 0, 1) := by decide +kernel
theorem dpx_115 : decode method_4_code 115 = .ok (.caload, 1) := by decide +kernel
theorem dpx_116 : decode method_4_code 116 = .ok (.castore, 1) := by decide +kernel
theorem dpx_117 : decode method_4_code 117 = .ok (.dup, 1) := by decide +kernel
theorem dpx_118 : decode method_4_code 118 = .ok (.iconst 1, 1) := by decide +kernel
theorem dpx_119 : decode method_4_code 119 = .ok (.aload_n 0, 1) := by decide +kernel
theorem dpx_120 : decode method_4_code 120 = .ok (.iconst 1, 1) := by decide +kernel
theorem dpx_121 : decode method_4_code 121 = .ok (.caload, 1) := by decide +kernel
theorem dpx_122 : decode method_4_code 122 = .ok (.castore, 1) := by decide +kernel
theorem dpx_123 : decode method_4_code 123 = .ok (.dup, 1) := by decide +kernel
theorem dpx_124 : decode method_4_code 124 = .ok (.iconst 2, 1) := by decide +kernel
theorem dpx_125 : decode method_4_code 125 = .ok (.aload_n 0, 1) := by decide +kernel
theorem dpx_126 : decode method_4_code 126 = .ok (.iconst 2, 1) := by decide +kernel
theorem dpx_127 : decode method_4_code 127 = .ok (.caload, 1) := by decide +kernel
theorem dpx_128 : decode method_4_code 128 = .ok (.castore, 1) := by decide +kernel
theorem dpx_129 : decode method_4_code 129 = .ok (.dup, 1) := by decide +kernel
theorem dpx_130 : decode method_4_code 130 = .ok (.iconst 3, 1) := by decide +kernel
theorem dpx_131 : decode method_4_code 131 = .ok (.aload_n 0, 1) := by decide +kernel
theorem dpx_132 : decode method_4_code 132 = .ok (.iconst 3, 1) := by decide +kernel
theorem dpx_133 : decode method_4_code 133 = .ok (.caload, 1) := by decide +kernel
theorem dpx_134 : decode method_4_code 134 = .ok (.castore, 1) := by decide +kernel
theorem dpx_135 : decode method_4_code 135 = .ok (.invokespecial 45, 3) := by decide +kernel
theorem dpx_138 : decode method_4_code 138 = .ok (.areturn, 1) := by decide +kernel
theorem dpx_139 : decode method_4_code 139 = .ok (.iload_n 1, 1) := by decide +kernel
theorem dpx_140 : decode method_4_code 140 = .ok (.iconst 5, 1) := by decide +kernel
theorem dpx_141 : decode method_4_code 141 = .ok (.if_icmp .ne 44, 3) := by decide +kernel
theorem dpx_144 : decode method_4_code 144 = .ok (.new 36, 3) := by decide +kernel
theorem dpx_147 : decode method_4_code 147 = .ok (.dup, 1) := by decide +kernel
theorem dpx_148 : decode method_4_code 148 = .ok (.iconst 5, 1) := by decide +kernel
theorem dpx_149 : decode method_4_code 149 = .ok (.newarray .char, 2) := by decide +kernel
theorem dpx_151 : decode method_4_code 151 = .ok (.dup, 1) := by decide +kernel
theorem dpx_152 : decode method_4_code 152 = .ok (.iconst 0, 1) := by decide +kernel
theorem dpx_153 : decode method_4_code 153 = .ok (.aload_n 0, 1) := by decide +kernel
theorem dpx_154 : decode method_4_code 154 = .ok (.iconst 0, 1) := by decide +kernel
theorem dpx_155 : decode method_4_code 155 = .ok (.caload, 1) := by decide +kernel
theorem dpx_156 : decode method_4_code 156 = .ok (.castore, 1) := by decide +kernel
theorem dpx_157 : decode method_4_code 157 = .ok (.dup, 1) := by decide +kernel
theorem dpx_158 : decode method_4_code 158 = .ok (.iconst 1, 1) := by decide +kernel
theorem dpx_159 : decode method_4_code 159 = .ok (.aload_n 0, 1) := by decide +kernel
theorem dpx_160 : decode method_4_code 160 = .ok (.iconst 1, 1) := by decide +kernel
theorem dpx_161 : decode method_4_code 161 = .ok (.caload, 1) := by decide +kernel
theorem dpx_162 : decode method_4_code 162 = .ok (.castore, 1) := by decide +kernel
theorem dpx_163 : decode method_4_code 163 = .ok (.dup, 1) := by decide +kernel
theorem dpx_164 : decode method_4_code 164 = .ok (.iconst 2, 1) := by decide +kernel
theorem dpx_165 : decode method_4_code 165 = .ok (.aload_n 0, 1) := by decide +kernel
theorem dpx_166 : decode method_4_code 166 = .ok (.iconst 2, 1) := by decide +kernel
theorem dpx_167 : decode method_4_code 167 = .ok (.caload, 1) := by decide +kernel
theorem dpx_168 : decode method_4_code 168 = .ok (.castore, 1) := by decide +kernel
theorem dpx_169 : decode method_4_code 169 = .ok (.dup, 1) := by decide +kernel
theorem dpx_170 : decode method_4_code 170 = .ok (.iconst 3, 1) := by decide +kernel
theorem dpx_171 : decode method_4_code 171 = .ok (.aload_n 0, 1) := by decide +kernel
theorem dpx_172 : decode method_4_code 172 = .ok (.iconst 3, 1) := by decide +kernel
theorem dpx_173 : decode method_4_code 173 = .ok (.caload, 1) := by decide +kernel
theorem dpx_174 : decode method_4_code 174 = .ok (.castore, 1) := by decide +kernel
theorem dpx_175 : decode method_4_code 175 = .ok (.dup, 1) := by decide +kernel
theorem dpx_176 : decode method_4_code 176 = .ok (.iconst 4, 1) := by decide +kernel
theorem dpx_177 : decode method_4_code 177 = .ok (.aload_n 0, 1) := by decide +kernel
theorem dpx_178 : decode method_4_code 178 = .ok (.iconst 4, 1) := by decide +kernel
theorem dpx_179 : decode method_4_code 179 = .ok (.caload, 1) := by decide +kernel
theorem dpx_180 : decode method_4_code 180 = .ok (.castore, 1) := by decide +kernel
theorem dpx_181 : decode method_4_code 181 = .ok (.invokespecial 45, 3) := by decide +kernel
theorem dpx_184 : decode method_4_code 184 = .ok (.areturn, 1) := by decide +kernel
theorem dpx_185 : decode method_4_code 185 = .ok (.iload_n 1, 1) := by decide +kernel
theorem dpx_186 : decode method_4_code 186 = .ok (.bipush 6, 2) := by decide +kernel
theorem dpx_188 : decode method_4_code 188 = .ok (.if_icmp .ne 51, 3) := by decide +kernel
theorem dpx_191 : decode method_4_code 191 = .ok (.new 36, 3) := by decide +kernel
theorem dpx_194 : decode method_4_code 194 = .ok (.dup, 1) := by decide +kernel
theorem dpx_195 : decode method_4_code 195 = .ok (.bipush 6, 2) := by decide +kernel
theorem dpx_197 : decode method_4_code 197 = .ok (.newarray .char, 2) := by decide +kernel
theorem dpx_199 : decode method_4_code 199 = .ok (.dup, 1) := by decide +kernel
theorem dpx_200 : decode method_4_code 200 = .ok (.iconst 0, 1) := by decide +kernel
theorem dpx_201 : decode method_4_code 201 = .ok (.aload_n 0, 1) := by decide +kernel
theorem dpx_202 : decode method_4_code 202 = .ok (.iconst 0, 1) := by decide +kernel
theorem dpx_203 : decode method_4_code 203 = .ok (.caload, 1) := by decide +kernel
theorem dpx_204 : decode method_4_code 204 = .ok (.castore, 1) := by decide +kernel
theorem dpx_205 : decode method_4_code 205 = .ok (.dup, 1) := by decide +kernel
theorem dpx_206 : decode method_4_code 206 = .ok (.iconst 1, 1) := by decide +kernel
theorem dpx_207 : decode method_4_code 207 = .ok (.aload_n 0, 1) := by decide +kernel
theorem dpx_208 : decode method_4_code 208 = .ok (.iconst 1, 1) := by decide +kernel
theorem dpx_209 : decode method_4_code 209 = .ok (.caload, 1) := by decide +kernel
theorem dpx_210 : decode method_4_code 210 = .ok (.castore, 1) := by decide +kernel
theorem dpx_211 : decode method_4_code 211 = .ok (.dup, 1) := by decide +kernel
theorem dpx_212 : decode method_4_code 212 = .ok (.iconst 2, 1) := by decide +kernel
theorem dpx_213 : decode method_4_code 213 = .ok (.aload_n 0, 1) := by decide +kernel
theorem dpx_214 : decode method_4_code 214 = .ok (.iconst 2, 1) := by decide +kernel
theorem dpx_215 : decode method_4_code 215 = .ok (.caload, 1) := by decide +kernel
theorem dpx_216 : decode method_4_code 216 = .ok (.castore, 1) := by decide +kernel
theorem dpx_217 : decode method_4_code 217 = .ok (.dup, 1) := by decide +kernel
theorem dpx_218 : decode method_4_code 218 = .ok (.iconst 3, 1) := by decide +kernel
theorem dpx_219 : decode method_4_code 219 = .ok (.aload_n 0, 1) := by decide +kernel
theorem dpx_220 : decode method_4_code 220 = .ok (.iconst 3, 1) := by decide +kernel
theorem dpx_221 : decode method_4_code 221 = .ok (.caload, 1) := by decide +kernel
theorem dpx_222 : decode method_4_code 222 = .ok (.castore, 1) := by decide +kernel
theorem dpx_223 : decode method_4_code 223 = .ok (.dup, 1) := by decide +kernel
theorem dpx_224 : decode method_4_code 224 = .ok (.iconst 4, 1) := by decide +kernel
theorem dpx_225 : decode method_4_code 225 = .ok (.aload_n 0, 1) := by decide +kernel
theorem dpx_226 : decode method_4_code 226 = .ok (.iconst 4, 1) := by decide +kernel
theorem dpx_227 : decode method_4_code 227 = .ok (.caload, 1) := by decide +kernel
theorem dpx_228 : decode method_4_code 228 = .ok (.castore, 1) := by decide +kernel
theorem dpx_229 : decode method_4_code 229 = .ok (.dup, 1) := by decide +kernel
theorem dpx_230 : decode method_4_code 230 = .ok (.iconst 5, 1) := by decide +kernel
theorem dpx_231 : decode method_4_code 231 = .ok (.aload_n 0, 1) := by decide +kernel
theorem dpx_232 : decode method_4_code 232 = .ok (.iconst 5, 1) := by decide +kernel
theorem dpx_233 : decode method_4_code 233 = .ok (.caload, 1) := by decide +kernel
theorem dpx_234 : decode method_4_code 234 = .ok (.castore, 1) := by decide +kernel
theorem dpx_235 : decode method_4_code 235 = .ok (.invokespecial 45, 3) := by decide +kernel
theorem dpx_238 : decode method_4_code 238 = .ok (.areturn, 1) := by decide +kernel
theorem dpx_239 : decode method_4_code 239 = .ok (.new 36, 3) := by decide +kernel
theorem dpx_242 : decode method_4_code 242 = .ok (.dup, 1) := by decide +kernel
theorem dpx_243 : decode method_4_code 243 = .ok (.bipush 7, 2) := by decide +kernel
theorem dpx_245 : decode method_4_code 245 = .ok (.newarray .char, 2) := by decide +kernel
theorem dpx_247 : decode method_4_code 247 = .ok (.dup, 1) := by decide +kernel
theorem dpx_248 : decode method_4_code 248 = .ok (.iconst 0, 1) := by decide +kernel
theorem dpx_249 : decode method_4_code 249 = .ok (.aload_n 0, 1) := by decide +kernel
theorem dpx_250 : decode method_4_code 250 = .ok (.iconst 0, 1) := by decide +kernel
theorem dpx_251 : decode method_4_code 251 = .ok (.caload, 1) := by decide +kernel
theorem dpx_252 : decode method_4_code 252 = .ok (.castore, 1) := by decide +kernel
theorem dpx_253 : decode method_4_code 253 = .ok (.dup, 1) := by decide +kernel
theorem dpx_254 : decode method_4_code 254 = .ok (.iconst 1, 1) := by decide +kernel
theorem dpx_255 : decode method_4_code 255 = .ok (.aload_n 0, 1) := by decide +kernel
theorem dpx_256 : decode method_4_code 256 = .ok (.iconst 1, 1) := by decide +kernel
theorem dpx_257 : decode method_4_code 257 = .ok (.caload, 1) := by decide +kernel
theorem dpx_258 : decode method_4_code 258 = .ok (.castore, 1) := by decide +kernel
theorem dpx_259 : decode method_4_code 259 = .ok (.dup, 1) := by decide +kernel
theorem dpx_260 : decode method_4_code 260 = .ok (.iconst 2, 1) := by decide +kernel
theorem dpx_261 : decode method_4_code 261 = .ok (.aload_n 0, 1) := by decide +kernel
theorem dpx_262 : decode method_4_code 262 = .ok (.iconst 2, 1) := by decide +kernel
theorem dpx_263 : decode method_4_code 263 = .ok (.caload, 1) := by decide +kernel
theorem dpx_264 : decode method_4_code 264 = .ok (.castore, 1) := by decide +kernel
theorem dpx_265 : decode method_4_code 265 = .ok (.dup, 1) := by decide +kernel
theorem dpx_266 : decode method_4_code 266 = .ok (.iconst 3, 1) := by decide +kernel
theorem dpx_267 : decode method_4_code 267 = .ok (.aload_n 0, 1) := by decide +kernel
theorem dpx_268 : decode method_4_code 268 = .ok (.iconst 3, 1) := by decide +kernel
theorem dpx_269 : decode method_4_code 269 = .ok (.caload, 1) := by decide +kernel
theorem dpx_270 : decode method_4_code 270 = .ok (.castore, 1) := by decide +kernel
theorem dpx_271 : decode method_4_code 271 = .ok (.dup, 1) := by decide +kernel
theorem dpx_272 : decode method_4_code 272 = .ok (.iconst 4, 1) := by decide +kernel
theorem dpx_273 : decode method_4_code 273 = .ok (.aload_n 0, 1) := by decide +kernel
theorem dpx_274 : decode method_4_code 274 = .ok (.iconst 4, 1) := by decide +kernel
theorem dpx_275 : decode method_4_code 275 = .ok (.caload, 1) := by decide +kernel
theorem dpx_276 : decode method_4_code 276 = .ok (.castore, 1) := by decide +kernel
theorem dpx_277 : decode method_4_code 277 = .ok (.dup, 1) := by decide +kernel
theorem dpx_278 : decode method_4_code 278 = .ok (.iconst 5, 1) := by decide +kernel
theorem dpx_279 : decode method_4_code 279 = .ok (.aload_n 0, 1) := by decide +kernel
theorem dpx_280 : decode method_4_code 280 = .ok (.iconst 5, 1) := by decide +kernel
theorem dpx_281 : decode method_4_code 281 = .ok (.caload, 1) := by decide +kernel
theorem dpx_282 : decode method_4_code 282 = .ok (.castore, 1) := by decide +kernel
theorem dpx_283 : decode method_4_code 283 = .ok (.dup, 1) := by decide +kernel
theorem dpx_284 : decode method_4_code 284 = .ok (.bipush 6, 2) := by decide +kernel
theorem dpx_286 : decode method_4_code 286 = .ok (.aload_n 0, 1) := by decide +kernel
theorem dpx_287 : decode method_4_code 287 = .ok (.bipush 6, 2) := by decide +kernel
theorem dpx_289 : decode method_4_code 289 = .ok (.caload, 1) := by decide +kernel
theorem dpx_290 : decode method_4_code 290 = .ok (.castore, 1) := by decide +kernel
theorem dpx_291 : decode method_4_code 291 = .ok (.invokespecial 45, 3) := by decide +kernel
theorem dpx_294 : decode method_4_code 294 = .ok (.areturn, 1) := by decide +kernel
set_option maxRecDepth 65536 in
set_option maxHeartbeats 40000000 in
theorem c_pfx (l : Launch) (Z : State) (a0 : Array Value) (hw : ∀ d ∈ tables_1, d.before a0 Z = true) (a1 : Addr) (h0 : Heap) (n0 : Nat) (K : Nat) (cf : Nat → Int32) (hK : K ≤ 7) (hL : Lat cf 8) (Zn : n0 ≤ h0.size) (cs : Int32) (hcs : ¬ cs = 0) (S_COMPACT_STRINGS : Sta Z h0 "java/lang/String" "COMPACT_STRINGS" "Z" (.int cs)) (A_a1 : Ary Z h0 a1 .char 8 (fun q => .int (cf q))) :
    Con l Z consts_1 [] (⟨"com/example/pitlochry/pitlochry/OnStoreErrorNamedPinLaw", "prefix", "([CI)Ljava/lang/String;"⟩ : MethodName) method_4_code 2 (some (.object "java/lang/String")) ({ frames := 4, cells := 6, slots := 19, locals := 67 } : Room) #[(.ref a1), (.int (Int32.ofNat K))] h0 n0 (fun v h _ => ∃ a b, v = some (.ref a) ∧ Keep h0 h [] ∧ Exa Z h a "java/lang/String" ∧ Fld Z h a "java/lang/String" "coder" "B" (.int (0 : Int32)) ∧ Fld Z h a "java/lang/String" "value" "[B" (.ref b) ∧ Ary Z h b .byte K (fun q => .int (bt (cf q)))) := by
  refine Con.of (plainFor_of_name (by first | (simp [plainName, overriddenIn]; done) | decide +kernel)) (elw hw) (L0 := #[.val (.ref a1), .val (.int (Int32.ofNat K))]) (fun m => by first | (simp [entryFrame, mkF, argsToLocals, Value.category]; done) | rfl) ?_
  intro p e s m below meth c T C S
  have Kp := Keep.refl h0 []
  refine g_iloadN C S dpx_0 (pc' := 1) rfl rfl ?_
  refine g_if_ne C S dpx_1 (pc' := 15) (pf := 4) (by decide) (by decide) rfl (fun hc1 => ?_) (fun hc1 => ?_)
  · refine g_iloadN C S dpx_15 (pc' := 16) rfl rfl ?_
    refine g_iconst C S (1 : Int32) dpx_16 (pc' := 17) rfl rfl ?_
    refine g_icmp_ne C S dpx_17 (pc' := 37) (pf := 20) (by decide) (by decide) rfl (fun hc17 => ?_) (fun hc17 => ?_)
    · refine g_iloadN C S dpx_37 (pc' := 38) rfl rfl ?_
      refine g_iconst C S (2 : Int32) dpx_38 (pc' := 39) rfl rfl ?_
      refine g_icmp_ne C S dpx_39 (pc' := 65) (pf := 42) (by decide) (by decide) rfl (fun hc39 => ?_) (fun hc39 => ?_)
      · refine g_iloadN C S dpx_65 (pc' := 66) rfl rfl ?_
        refine g_iconst C S (3 : Int32) dpx_66 (pc' := 67) rfl rfl ?_
        refine g_icmp_ne C S dpx_67 (pc' := 99) (pf := 70) (by decide) (by decide) rfl (fun hc67 => ?_) (fun hc67 => ?_)
        · refine g_iloadN C S dpx_99 (pc' := 100) rfl rfl ?_
          refine g_iconst C S (4 : Int32) dpx_100 (pc' := 101) rfl rfl ?_
          refine g_icmp_ne C S dpx_101 (pc' := 139) (pf := 104) (by decide) (by decide) rfl (fun hc101 => ?_) (fun hc101 => ?_)
          · refine g_iloadN C S dpx_139 (pc' := 140) rfl rfl ?_
            refine g_iconst C S (5 : Int32) dpx_140 (pc' := 141) rfl rfl ?_
            refine g_icmp_ne C S dpx_141 (pc' := 185) (pf := 144) (by decide) (by decide) rfl (fun hc141 => ?_) (fun hc141 => ?_)
            · refine g_iloadN C S dpx_185 (pc' := 186) rfl rfl ?_
              refine g_bipush C S (6 : Int32) dpx_186 (pc' := 188) rfl rfl ?_
              refine g_icmp_ne C S dpx_188 (pc' := 239) (pf := 191) (by decide) (by decide) rfl (fun hc188 => ?_) (fun hc188 => ?_)
              · refine g_new C S dpx_239 (hw _ (List.mem_of_getElem? (i := 52) rfl)) (hw _ (List.mem_of_getElem? (i := 3) rfl)) (hw _ (List.mem_of_getElem? (i := 2) rfl)) (by decide) (by decide) (pc' := 242) rfl (fun T59 h59 a59 S g59 E59 X59 D59 => ?_)
                have ne_a1_a59 : a1 ≠ a59 := ne_new g59 A_a1.lt
                have sz_a59 : h0.size ≤ a59 := ge_of g59 Kp.1
                have ge_a59 : n0 ≤ a59 := ge_of g59 Zn
                have pm_a59 := On.hd S
                have Kp := Kp.ext E59
                have A_a1 := A_a1.ext E59
                have Zn := Nat.le_trans Zn E59.1
                have S_COMPACT_STRINGS := S_COMPACT_STRINGS.ext E59
                have F_value_a59 : Fld Z h59 a59 "java/lang/String" "value" "[B" .null := D59 (Or.inr (hw _ (List.mem_of_getElem? (i := 5) rfl))) (ty := (.array .byte)) (by decide)
                have F_coder_a59 : Fld Z h59 a59 "java/lang/String" "coder" "B" (.int (0 : Int32)) := D59 (Or.inr (hw _ (List.mem_of_getElem? (i := 6) rfl))) (ty := .byte) (by decide)
                refine g_dup C S dpx_242 (pc' := 243) rfl rfl ?_
                refine g_bipush C S (7 : Int32) dpx_243 (pc' := 245) rfl rfl ?_
                refine g_newarray C S (N := 7) (cap := 7) dpx_245 (hw _ (List.mem_of_getElem? (i := 9) rfl)) (by decide) (by decide) (by decide) (by decide) (by decide) (pc' := 247) rfl (fun T60 h60 a60 S g60 E60 A_a60 => ?_)
                have ne_a1_a60 : a1 ≠ a60 := ne_new g60 A_a1.lt
                have ne_a59_a60 : a59 ≠ a60 := ne_new g60 X59.lt
                have sz_a60 : h0.size ≤ a60 := ge_of g60 Kp.1
                have ge_a60 : n0 ≤ a60 := ge_of g60 Zn
                have pm_a59 := List.mem_cons_of_mem a60 pm_a59
                have pm_a60 := On.hd S
                have Kp := Kp.ext E60
                have A_a1 := A_a1.ext E60
                have Zn := Nat.le_trans Zn E60.1
                have S_COMPACT_STRINGS := S_COMPACT_STRINGS.ext E60
                have X59 := X59.ext E60
                have F_value_a59 := F_value_a59.ext E60
                have F_coder_a59 := F_coder_a59.ext E60
                have A_a60 : Ary Z h60 a60 .char 7 (fun _ => (.int (0 : Int32))) := A_a60
                refine g_dup C S dpx_247 (pc' := 248) rfl rfl ?_
                refine g_iconst C S (0 : Int32) dpx_248 (pc' := 249) rfl rfl ?_
                refine g_aloadN C S dpx_249 (pc' := 250) rfl rfl rfl ?_
                refine g_iconst C S (0 : Int32) dpx_250 (pc' := 251) rfl rfl ?_
                refine g_caload C S (i := 0) (v := (.int (cf 0))) dpx_251 A_a1 (by decide) (by decide) rfl (pc' := 252) rfl ?_
                refine g_castore C S (i := 0) dpx_252 A_a60 (by decide) (by decide) ge_a60 (pc' := 253) rfl (fun T61 h61 S W61 B61 => ?_)
                have A_a1 := A_a1.other W61 ne_a1_a60
                have Zn := Nat.le_trans Zn (Nat.le_of_eq W61.size.symm)
                have S_COMPACT_STRINGS := S_COMPACT_STRINGS.wr W61
                have X59 := X59.wr W61
                have F_value_a59 := F_value_a59.other W61 (Or.inl ne_a59_a60)
                have F_coder_a59 := F_coder_a59.other W61 (Or.inl ne_a59_a60)
                have A_a60 := B61
                have Kp := Kp.wr W61 (Or.inr sz_a60)
                refine g_dup C S dpx_253 (pc' := 254) rfl rfl ?_
                refine g_iconst C S (1 : Int32) dpx_254 (pc' := 255) rfl rfl ?_
                refine g_aloadN C S dpx_255 (pc' := 256) rfl rfl rfl ?_
                refine g_iconst C S (1 : Int32) dpx_256 (pc' := 257) rfl rfl ?_
                refine g_caload C S (i := 1) (v := (.int (cf 1))) dpx_257 A_a1 (by decide) (by decide) rfl (pc' := 258) rfl ?_
                refine g_castore C S (i := 1) dpx_258 A_a60 (by decide) (by decide) ge_a60 (pc' := 259) rfl (fun T62 h62 S W62 B62 => ?_)
                have A_a1 := A_a1.other W62 ne_a1_a60
                have Zn := Nat.le_trans Zn (Nat.le_of_eq W62.size.symm)
                have S_COMPACT_STRINGS := S_COMPACT_STRINGS.wr W62
                have X59 := X59.wr W62
                have F_value_a59 := F_value_a59.other W62 (Or.inl ne_a59_a60)
                have F_coder_a59 := F_coder_a59.other W62 (Or.inl ne_a59_a60)
                have A_a60 := B62
                have Kp := Kp.wr W62 (Or.inr sz_a60)
                refine g_dup C S dpx_259 (pc' := 260) rfl rfl ?_
                refine g_iconst C S (2 : Int32) dpx_260 (pc' := 261) rfl rfl ?_
                refine g_aloadN C S dpx_261 (pc' := 262) rfl rfl rfl ?_
                refine g_iconst C S (2 : Int32) dpx_262 (pc' := 263) rfl rfl ?_
                refine g_caload C S (i := 2) (v := (.int (cf 2))) dpx_263 A_a1 (by decide) (by decide) rfl (pc' := 264) rfl ?_
                refine g_castore C S (i := 2) dpx_264 A_a60 (by decide) (by decide) ge_a60 (pc' := 265) rfl (fun T63 h63 S W63 B63 => ?_)
                have A_a1 := A_a1.other W63 ne_a1_a60
                have Zn := Nat.le_trans Zn (Nat.le_of_eq W63.size.symm)
                have S_COMPACT_STRINGS := S_COMPACT_STRINGS.wr W63
                have X59 := X59.wr W63
                have F_value_a59 := F_value_a59.other W63 (Or.inl ne_a59_a60)
                have F_coder_a59 := F_coder_a59.other W63 (Or.inl ne_a59_a60)
                have A_a60 := B63
                have Kp := Kp.wr W63 (Or.inr sz_a60)
                refine g_dup C S dpx_265 (pc' := 266) rfl rfl ?_
                refine g_iconst C S (3 : Int32) dpx_266 (pc' := 267) rfl rfl ?_
                refine g_aloadN C S dpx_267 (pc' := 268) rfl rfl rfl ?_
                refine g_iconst C S (3 : Int32) dpx_268 (pc' := 269) rfl rfl ?_
                refine g_caload C S (i := 3) (v := (.int (cf 3))) dpx_269 A_a1 (by decide) (by decide) rfl (pc' := 270) rfl ?_
                refine g_castore C S (i := 3) dpx_270 A_a60 (by decide) (by decide) ge_a60 (pc' := 271) rfl (fun T64 h64 S W64 B64 => ?_)
                have A_a1 := A_a1.other W64 ne_a1_a60
                have Zn := Nat.le_trans Zn (Nat.le_of_eq W64.size.symm)
                have S_COMPACT_STRINGS := S_COMPACT_STRINGS.wr W64
                have X59 := X59.wr W64
                have F_value_a59 := F_value_a59.other W64 (Or.inl ne_a59_a60)
                have F_coder_a59 := F_coder_a59.other W64 (Or.inl ne_a59_a60)
                have A_a60 := B64
                have Kp := Kp.wr W64 (Or.inr sz_a60)
                refine g_dup C S dpx_271 (pc' := 272) rfl rfl ?_
                refine g_iconst C S (4 : Int32) dpx_272 (pc' := 273) rfl rfl ?_
                refine g_aloadN C S dpx_273 (pc' := 274) rfl rfl rfl ?_
                refine g_iconst C S (4 : Int32) dpx_274 (pc' := 275) rfl rfl ?_
                refine g_caload C S (i := 4) (v := (.int (cf 4))) dpx_275 A_a1 (by decide) (by decide) rfl (pc' := 276) rfl ?_
                refine g_castore C S (i := 4) dpx_276 A_a60 (by decide) (by decide) ge_a60 (pc' := 277) rfl (fun T65 h65 S W65 B65 => ?_)
                have A_a1 := A_a1.other W65 ne_a1_a60
                have Zn := Nat.le_trans Zn (Nat.le_of_eq W65.size.symm)
                have S_COMPACT_STRINGS := S_COMPACT_STRINGS.wr W65
                have X59 := X59.wr W65
                have F_value_a59 := F_value_a59.other W65 (Or.inl ne_a59_a60)
                have F_coder_a59 := F_coder_a59.other W65 (Or.inl ne_a59_a60)
                have A_a60 := B65
                have Kp := Kp.wr W65 (Or.inr sz_a60)
                refine g_dup C S dpx_277 (pc' := 278) rfl rfl ?_
                refine g_iconst C S (5 : Int32) dpx_278 (pc' := 279) rfl rfl ?_
                refine g_aloadN C S dpx_279 (pc' := 280) rfl rfl rfl ?_
                refine g_iconst C S (5 : Int32) dpx_280 (pc' := 281) rfl rfl ?_
                refine g_caload C S (i := 5) (v := (.int (cf 5))) dpx_281 A_a1 (by decide) (by decide) rfl (pc' := 282) rfl ?_
                refine g_castore C S (i := 5) dpx_282 A_a60 (by decide) (by decide) ge_a60 (pc' := 283) rfl (fun T66 h66 S W66 B66 => ?_)
                have A_a1 := A_a1.other W66 ne_a1_a60
                have Zn := Nat.le_trans Zn (Nat.le_of_eq W66.size.symm)
                have S_COMPACT_STRINGS := S_COMPACT_STRINGS.wr W66
                have X59 := X59.wr W66
                have F_value_a59 := F_value_a59.other W66 (Or.inl ne_a59_a60)
                have F_coder_a59 := F_coder_a59.other W66 (Or.inl ne_a59_a60)
                have A_a60 := B66
                have Kp := Kp.wr W66 (Or.inr sz_a60)
                refine g_dup C S dpx_283 (pc' := 284) rfl rfl ?_
                refine g_bipush C S (6 : Int32) dpx_284 (pc' := 286) rfl rfl ?_
                refine g_aloadN C S dpx_286 (pc' := 287) rfl rfl rfl ?_
                refine g_bipush C S (6 : Int32) dpx_287 (pc' := 289) rfl rfl ?_
                refine g_caload C S (i := 6) (v := (.int (cf 6))) dpx_289 A_a1 (by decide) (by decide) rfl (pc' := 290) rfl ?_
                refine g_castore C S (i := 6) dpx_290 A_a60 (by decide) (by decide) ge_a60 (pc' := 291) rfl (fun T67 h67 S W67 B67 => ?_)
                have A_a1 := A_a1.other W67 ne_a1_a60
                have Zn := Nat.le_trans Zn (Nat.le_of_eq W67.size.symm)
                have S_COMPACT_STRINGS := S_COMPACT_STRINGS.wr W67
                have X59 := X59.wr W67
                have F_value_a59 := F_value_a59.other W67 (Or.inl ne_a59_a60)
                have F_coder_a59 := F_coder_a59.other W67 (Or.inl ne_a59_a60)
                have A_a60 := B67
                have Kp := Kp.wr W67 (Or.inr sz_a60)
                have eK : K = 7 := kseven hK hc1 hc17 hc39 hc67 hc101 hc141 hc188
                have A_a60 : Ary Z h67 a60 .char 7 (fun q => .int (cf q)) := A_a60.cg (fun q hq => by match q, hq with | 0, _ => simp [nar_char (hL 0 (by omega))] | 1, _ => simp [nar_char (hL 1 (by omega))] | 2, _ => simp [nar_char (hL 2 (by omega))] | 3, _ => simp [nar_char (hL 3 (by omega))] | 4, _ => simp [nar_char (hL 4 (by omega))] | 5, _ => simp [nar_char (hL 5 (by omega))] | 6, _ => simp [nar_char (hL 6 (by omega))] | q + 7, hq => exact absurd hq (by omega))
                refine g_callI C S (rm := ({ frames := 3, cells := 4, slots := 8, locals := 53 } : Room)) (W := 1) dpx_291 rfl (hw _ (List.mem_of_getElem? (i := 53) rfl)) (hw _ (List.mem_of_getElem? (i := 54) rfl)) (hw _ (List.mem_of_getElem? (i := 2) rfl)) (hw _ (List.mem_of_getElem? (i := 55) rfl)) (by decide) (c_ini l Z a0 hw a59 a60 h67 n0 _ _ 7 cf (by decide) (fun i hi => hL i (by omega)) ge_a59 ne_a59_a60 Zn cs hcs S_COMPACT_STRINGS X59 F_value_a59 F_coder_a59 A_a60) (argsL := [(.ref a60)]) (r := [(.ref a59)]) rfl (allS pm_a59 all0) (lenOf pd_12 rfl) rfl (Nat.le_of_eq rfl) (by decide) (by decide) (by decide) (by decide) (pc' := 294) rfl (fun T68 h68 v68 P68 q68 S => ?_)
                have pm_a59 := List.mem_append_right P68 pm_a59
                have pm_a60 := List.mem_append_right P68 pm_a60
                obtain ⟨rfl, K68, b68, Y, G_coder, G_value, A_b68⟩ := q68
                have Kp := Kp.trans K68 (allS (Or.inr sz_a59) all0)
                have S_COMPACT_STRINGS := Sta.keep1 S_COMPACT_STRINGS K68 (X59.nostat)
                have A_a1 := A_a1.keep K68 (ninS ne_a1_a59 nin0)
                have Zn := Nat.le_trans Zn K68.1
                have X59 := X59.keep K68
                have A_a60 := A_a60.keep K68 (ninS (Ne.symm ne_a59_a60) nin0)
                show Gl p e below s Z consts_1 _ n0 _ T68 (mkF m 294 #[.val (.ref a1), .val (.int (Int32.ofNat K))] [(.ref a59)])
                exact g_retA C S dpx_294 rfl rfl rfl (by decide) (by decide) (⟨_, _, rfl, Kp, Y, G_coder, G_value, by rw [eK]; exact A_b68⟩)
              · refine g_new C S dpx_191 (hw _ (List.mem_of_getElem? (i := 52) rfl)) (hw _ (List.mem_of_getElem? (i := 3) rfl)) (hw _ (List.mem_of_getElem? (i := 2) rfl)) (by decide) (by decide) (pc' := 194) rfl (fun T69 h69 a69 S g69 E69 X69 D69 => ?_)
                have ne_a1_a69 : a1 ≠ a69 := ne_new g69 A_a1.lt
                have sz_a69 : h0.size ≤ a69 := ge_of g69 Kp.1
                have ge_a69 : n0 ≤ a69 := ge_of g69 Zn
                have pm_a69 := On.hd S
                have Kp := Kp.ext E69
                have A_a1 := A_a1.ext E69
                have Zn := Nat.le_trans Zn E69.1
                have S_COMPACT_STRINGS := S_COMPACT_STRINGS.ext E69
                have F_value_a69 : Fld Z h69 a69 "java/lang/String" "value" "[B" .null := D69 (Or.inr (hw _ (List.mem_of_getElem? (i := 5) rfl))) (ty := (.array .byte)) (by decide)
                have F_coder_a69 : Fld Z h69 a69 "java/lang/String" "coder" "B" (.int (0 : Int32)) := D69 (Or.inr (hw _ (List.mem_of_getElem? (i := 6) rfl))) (ty := .byte) (by decide)
                refine g_dup C S dpx_194 (pc' := 195) rfl rfl ?_
                refine g_bipush C S (6 : Int32) dpx_195 (pc' := 197) rfl rfl ?_
                refine g_newarray C S (N := 6) (cap := 6) dpx_197 (hw _ (List.mem_of_getElem? (i := 9) rfl)) (by decide) (by decide) (by decide) (by decide) (by decide) (pc' := 199) rfl (fun T70 h70 a70 S g70 E70 A_a70 => ?_)
                have ne_a1_a70 : a1 ≠ a70 := ne_new g70 A_a1.lt
                have ne_a69_a70 : a69 ≠ a70 := ne_new g70 X69.lt
                have sz_a70 : h0.size ≤ a70 := ge_of g70 Kp.1
                have ge_a70 : n0 ≤ a70 := ge_of g70 Zn
                have pm_a69 := List.mem_cons_of_mem a70 pm_a69
                have pm_a70 := On.hd S
                have Kp := Kp.ext E70
                have A_a1 := A_a1.ext E70
                have Zn := Nat.le_trans Zn E70.1
                have S_COMPACT_STRINGS := S_COMPACT_STRINGS.ext E70
                have X69 := X69.ext E70
                have F_value_a69 := F_value_a69.ext E70
                have F_coder_a69 := F_coder_a69.ext E70
                have A_a70 : Ary Z h70 a70 .char 6 (fun _ => (.int (0 : Int32))) := A_a70
                refine g_dup C S dpx_199 (pc' := 200) rfl rfl ?_
                refine g_iconst C S (0 : Int32) dpx_200 (pc' := 201) rfl rfl ?_
                refine g_aloadN C S dpx_201 (pc' := 202) rfl rfl rfl ?_
                refine g_iconst C S (0 : Int32) dpx_202 (pc' := 203) rfl rfl ?_
                refine g_caload C S (i := 0) (v := (.int (cf 0))) dpx_203 A_a1 (by decide) (by decide) rfl (pc' := 204) rfl ?_
                refine g_castore C S (i := 0) dpx_204 A_a70 (by decide) (by decide) ge_a70 (pc' := 205) rfl (fun T71 h71 S W71 B71 => ?_)
                have A_a1 := A_a1.other W71 ne_a1_a70
                have Zn := Nat.le_trans Zn (Nat.le_of_eq W71.size.symm)
                have S_COMPACT_STRINGS := S_COMPACT_STRINGS.wr W71
                have X69 := X69.wr W71
                have F_value_a69 := F_value_a69.other W71 (Or.inl ne_a69_a70)
                have F_coder_a69 := F_coder_a69.other W71 (Or.inl ne_a69_a70)
                have A_a70 := B71
                have Kp := Kp.wr W71 (Or.inr sz_a70)
                refine g_dup C S dpx_205 (pc' := 206) rfl rfl ?_
                refine g_iconst C S (1 : Int32) dpx_206 (pc' := 207) rfl rfl ?_
                refine g_aloadN C S dpx_207 (pc' := 208) rfl rfl rfl ?_
                refine g_iconst C S (1 : Int32) dpx_208 (pc' := 209) rfl rfl ?_
                refine g_caload C S (i := 1) (v := (.int (cf 1))) dpx_209 A_a1 (by decide) (by decide) rfl (pc' := 210) rfl ?_
                refine g_castore C S (i := 1) dpx_210 A_a70 (by decide) (by decide) ge_a70 (pc' := 211) rfl (fun T72 h72 S W72 B72 => ?_)
                have A_a1 := A_a1.other W72 ne_a1_a70
                have Zn := Nat.le_trans Zn (Nat.le_of_eq W72.size.symm)
                have S_COMPACT_STRINGS := S_COMPACT_STRINGS.wr W72
                have X69 := X69.wr W72
                have F_value_a69 := F_value_a69.other W72 (Or.inl ne_a69_a70)
                have F_coder_a69 := F_coder_a69.other W72 (Or.inl ne_a69_a70)
                have A_a70 := B72
                have Kp := Kp.wr W72 (Or.inr sz_a70)
                refine g_dup C S dpx_211 (pc' := 212) rfl rfl ?_
                refine g_iconst C S (2 : Int32) dpx_212 (pc' := 213) rfl rfl ?_
                refine g_aloadN C S dpx_213 (pc' := 214) rfl rfl rfl ?_
                refine g_iconst C S (2 : Int32) dpx_214 (pc' := 215) rfl rfl ?_
                refine g_caload C S (i := 2) (v := (.int (cf 2))) dpx_215 A_a1 (by decide) (by decide) rfl (pc' := 216) rfl ?_
                refine g_castore C S (i := 2) dpx_216 A_a70 (by decide) (by decide) ge_a70 (pc' := 217) rfl (fun T73 h73 S W73 B73 => ?_)
                have A_a1 := A_a1.other W73 ne_a1_a70
                have Zn := Nat.le_trans Zn (Nat.le_of_eq W73.size.symm)
                have S_COMPACT_STRINGS := S_COMPACT_STRINGS.wr W73
                have X69 := X69.wr W73
                have F_value_a69 := F_value_a69.other W73 (Or.inl ne_a69_a70)
                have F_coder_a69 := F_coder_a69.other W73 (Or.inl ne_a69_a70)
                have A_a70 := B73
                have Kp := Kp.wr W73 (Or.inr sz_a70)
                refine g_dup C S dpx_217 (pc' := 218) rfl rfl ?_
                refine g_iconst C S (3 : Int32) dpx_218 (pc' := 219) rfl rfl ?_
                refine g_aloadN C S dpx_219 (pc' := 220) rfl rfl rfl ?_
                refine g_iconst C S (3 : Int32) dpx_220 (pc' := 221) rfl rfl ?_
                refine g_caload C S (i := 3) (v := (.int (cf 3))) dpx_221 A_a1 (by decide) (by decide) rfl (pc' := 222) rfl ?_
                refine g_castore C S (i := 3) dpx_222 A_a70 (by decide) (by decide) ge_a70 (pc' := 223) rfl (fun T74 h74 S W74 B74 => ?_)
                have A_a1 := A_a1.other W74 ne_a1_a70
                have Zn := Nat.le_trans Zn (Nat.le_of_eq W74.size.symm)
                have S_COMPACT_STRINGS := S_COMPACT_STRINGS.wr W74
                have X69 := X69.wr W74
                have F_value_a69 := F_value_a69.other W74 (Or.inl ne_a69_a70)
                have F_coder_a69 := F_coder_a69.other W74 (Or.inl ne_a69_a70)
                have A_a70 := B74
                have Kp := Kp.wr W74 (Or.inr sz_a70)
                refine g_dup C S dpx_223 (pc' := 224) rfl rfl ?_
                refine g_iconst C S (4 : Int32) dpx_224 (pc' := 225) rfl rfl ?_
                refine g_aloadN C S dpx_225 (pc' := 226) rfl rfl rfl ?_
                refine g_iconst C S (4 : Int32) dpx_226 (pc' := 227) rfl rfl ?_
                refine g_caload C S (i := 4) (v := (.int (cf 4))) dpx_227 A_a1 (by decide) (by decide) rfl (pc' := 228) rfl ?_
                refine g_castore C S (i := 4) dpx_228 A_a70 (by decide) (by decide) ge_a70 (pc' := 229) rfl (fun T75 h75 S W75 B75 => ?_)
                have A_a1 := A_a1.other W75 ne_a1_a70
                have Zn := Nat.le_trans Zn (Nat.le_of_eq W75.size.symm)
                have S_COMPACT_STRINGS := S_COMPACT_STRINGS.wr W75
                have X69 := X69.wr W75
                have F_value_a69 := F_value_a69.other W75 (Or.inl ne_a69_a70)
                have F_coder_a69 := F_coder_a69.other W75 (Or.inl ne_a69_a70)
                have A_a70 := B75
                have Kp := Kp.wr W75 (Or.inr sz_a70)
                refine g_dup C S dpx_229 (pc' := 230) rfl rfl ?_
                refine g_iconst C S (5 : Int32) dpx_230 (pc' := 231) rfl rfl ?_
                refine g_aloadN C S dpx_231 (pc' := 232) rfl rfl rfl ?_
                refine g_iconst C S (5 : Int32) dpx_232 (pc' := 233) rfl rfl ?_
                refine g_caload C S (i := 5) (v := (.int (cf 5))) dpx_233 A_a1 (by decide) (by decide) rfl (pc' := 234) rfl ?_
                refine g_castore C S (i := 5) dpx_234 A_a70 (by decide) (by decide) ge_a70 (pc' := 235) rfl (fun T76 h76 S W76 B76 => ?_)
                have A_a1 := A_a1.other W76 ne_a1_a70
                have Zn := Nat.le_trans Zn (Nat.le_of_eq W76.size.symm)
                have S_COMPACT_STRINGS := S_COMPACT_STRINGS.wr W76
                have X69 := X69.wr W76
                have F_value_a69 := F_value_a69.other W76 (Or.inl ne_a69_a70)
                have F_coder_a69 := F_coder_a69.other W76 (Or.inl ne_a69_a70)
                have A_a70 := B76
                have Kp := Kp.wr W76 (Or.inr sz_a70)
                have eK : K = 6 := K_eq hK (by decide) hc188
                have A_a70 : Ary Z h76 a70 .char 6 (fun q => .int (cf q)) := A_a70.cg (fun q hq => by match q, hq with | 0, _ => simp [nar_char (hL 0 (by omega))] | 1, _ => simp [nar_char (hL 1 (by omega))] | 2, _ => simp [nar_char (hL 2 (by omega))] | 3, _ => simp [nar_char (hL 3 (by omega))] | 4, _ => simp [nar_char (hL 4 (by omega))] | 5, _ => simp [nar_char (hL 5 (by omega))] | q + 6, hq => exact absurd hq (by omega))
                refine g_callI C S (rm := ({ frames := 3, cells := 4, slots := 8, locals := 53 } : Room)) (W := 1) dpx_235 rfl (hw _ (List.mem_of_getElem? (i := 53) rfl)) (hw _ (List.mem_of_getElem? (i := 54) rfl)) (hw _ (List.mem_of_getElem? (i := 2) rfl)) (hw _ (List.mem_of_getElem? (i := 55) rfl)) (by decide) (c_ini l Z a0 hw a69 a70 h76 n0 _ _ 6 cf (by decide) (fun i hi => hL i (by omega)) ge_a69 ne_a69_a70 Zn cs hcs S_COMPACT_STRINGS X69 F_value_a69 F_coder_a69 A_a70) (argsL := [(.ref a70)]) (r := [(.ref a69)]) rfl (allS pm_a69 all0) (lenOf pd_12 rfl) rfl (Nat.le_of_eq rfl) (by decide) (by decide) (by decide) (by decide) (pc' := 238) rfl (fun T77 h77 v77 P77 q77 S => ?_)
                have pm_a69 := List.mem_append_right P77 pm_a69
                have pm_a70 := List.mem_append_right P77 pm_a70
                obtain ⟨rfl, K77, b77, Y, G_coder, G_value, A_b77⟩ := q77
                have Kp := Kp.trans K77 (allS (Or.inr sz_a69) all0)
                have S_COMPACT_STRINGS := Sta.keep1 S_COMPACT_STRINGS K77 (X69.nostat)
                have A_a1 := A_a1.keep K77 (ninS ne_a1_a69 nin0)
                have Zn := Nat.le_trans Zn K77.1
                have X69 := X69.keep K77
                have A_a70 := A_a70.keep K77 (ninS (Ne.symm ne_a69_a70) nin0)
                show Gl p e below s Z consts_1 _ n0 _ T77 (mkF m 238 #[.val (.ref a1), .val (.int (Int32.ofNat K))] [(.ref a69)])
                exact g_retA C S dpx_238 rfl rfl rfl (by decide) (by decide) (⟨_, _, rfl, Kp, Y, G_coder, G_value, by rw [eK]; exact A_b77⟩)
            · refine g_new C S dpx_144 (hw _ (List.mem_of_getElem? (i := 52) rfl)) (hw _ (List.mem_of_getElem? (i := 3) rfl)) (hw _ (List.mem_of_getElem? (i := 2) rfl)) (by decide) (by decide) (pc' := 147) rfl (fun T78 h78 a78 S g78 E78 X78 D78 => ?_)
              have ne_a1_a78 : a1 ≠ a78 := ne_new g78 A_a1.lt
              have sz_a78 : h0.size ≤ a78 := ge_of g78 Kp.1
              have ge_a78 : n0 ≤ a78 := ge_of g78 Zn
              have pm_a78 := On.hd S
              have Kp := Kp.ext E78
              have A_a1 := A_a1.ext E78
              have Zn := Nat.le_trans Zn E78.1
              have S_COMPACT_STRINGS := S_COMPACT_STRINGS.ext E78
              have F_value_a78 : Fld Z h78 a78 "java/lang/String" "value" "[B" .null := D78 (Or.inr (hw _ (List.mem_of_getElem? (i := 5) rfl))) (ty := (.array .byte)) (by decide)
              have F_coder_a78 : Fld Z h78 a78 "java/lang/String" "coder" "B" (.int (0 : Int32)) := D78 (Or.inr (hw _ (List.mem_of_getElem? (i := 6) rfl))) (ty := .byte) (by decide)
              refine g_dup C S dpx_147 (pc' := 148) rfl rfl ?_
              refine g_iconst C S (5 : Int32) dpx_148 (pc' := 149) rfl rfl ?_
              refine g_newarray C S (N := 5) (cap := 5) dpx_149 (hw _ (List.mem_of_getElem? (i := 9) rfl)) (by decide) (by decide) (by decide) (by decide) (by decide) (pc' := 151) rfl (fun T79 h79 a79 S g79 E79 A_a79 => ?_)
              have ne_a1_a79 : a1 ≠ a79 := ne_new g79 A_a1.lt
              have ne_a78_a79 : a78 ≠ a79 := ne_new g79 X78.lt
              have sz_a79 : h0.size ≤ a79 := ge_of g79 Kp.1
              have ge_a79 : n0 ≤ a79 := ge_of g79 Zn
              have pm_a78 := List.mem_cons_of_mem a79 pm_a78
              have pm_a79 := On.hd S
              have Kp := Kp.ext E79
              have A_a1 := A_a1.ext E79
              have Zn := Nat.le_trans Zn E79.1
              have S_COMPACT_STRINGS := S_COMPACT_STRINGS.ext E79
              have X78 := X78.ext E79
              have F_value_a78 := F_value_a78.ext E79
              have F_coder_a78 := F_coder_a78.ext E79
              have A_a79 : Ary Z h79 a79 .char 5 (fun _ => (.int (0 : Int32))) := A_a79
              refine g_dup C S dpx_151 (pc' := 152) rfl rfl ?_
              refine g_iconst C S (0 : Int32) dpx_152 (pc' := 153) rfl rfl ?_
              refine g_aloadN C S dpx_153 (pc' := 154) rfl rfl rfl ?_
              refine g_iconst C S (0 : Int32) dpx_154 (pc' := 155) rfl rfl ?_
              refine g_caload C S (i := 0) (v := (.int (cf 0))) dpx_155 A_a1 (by decide) (by decide) rfl (pc' := 156) rfl ?_
              refine g_castore C S (i := 0) dpx_156 A_a79 (by decide) (by decide) ge_a79 (pc' := 157) rfl (fun T80 h80 S W80 B80 => ?_)
              have A_a1 := A_a1.other W80 ne_a1_a79
              have Zn := Nat.le_trans Zn (Nat.le_of_eq W80.size.symm)
              have S_COMPACT_STRINGS := S_COMPACT_STRINGS.wr W80
              have X78 := X78.wr W80
              have F_value_a78 := F_value_a78.other W80 (Or.inl ne_a78_a79)
              have F_coder_a78 := F_coder_a78.other W80 (Or.inl ne_a78_a79)
              have A_a79 := B80
              have Kp := Kp.wr W80 (Or.inr sz_a79)
              refine g_dup C S dpx_157 (pc' := 158) rfl rfl ?_
              refine g_iconst C S (1 : Int32) dpx_158 (pc' := 159) rfl rfl ?_
              refine g_aloadN C S dpx_159 (pc' := 160) rfl rfl rfl ?_
              refine g_iconst C S (1 : Int32) dpx_160 (pc' := 161) rfl rfl ?_
              refine g_caload C S (i := 1) (v := (.int (cf 1))) dpx_161 A_a1 (by decide) (by decide) rfl (pc' := 162) rfl ?_
              refine g_castore C S (i := 1) dpx_162 A_a79 (by decide) (by decide) ge_a79 (pc' := 163) rfl (fun T81 h81 S W81 B81 => ?_)
              have A_a1 := A_a1.other W81 ne_a1_a79
              have Zn := Nat.le_trans Zn (Nat.le_of_eq W81.size.symm)
              have S_COMPACT_STRINGS := S_COMPACT_STRINGS.wr W81
              have X78 := X78.wr W81
              have F_value_a78 := F_value_a78.other W81 (Or.inl ne_a78_a79)
              have F_coder_a78 := F_coder_a78.other W81 (Or.inl ne_a78_a79)
              have A_a79 := B81
              have Kp := Kp.wr W81 (Or.inr sz_a79)
              refine g_dup C S dpx_163 (pc' := 164) rfl rfl ?_
              refine g_iconst C S (2 : Int32) dpx_164 (pc' := 165) rfl rfl ?_
              refine g_aloadN C S dpx_165 (pc' := 166) rfl rfl rfl ?_
              refine g_iconst C S (2 : Int32) dpx_166 (pc' := 167) rfl rfl ?_
              refine g_caload C S (i := 2) (v := (.int (cf 2))) dpx_167 A_a1 (by decide) (by decide) rfl (pc' := 168) rfl ?_
              refine g_castore C S (i := 2) dpx_168 A_a79 (by decide) (by decide) ge_a79 (pc' := 169) rfl (fun T82 h82 S W82 B82 => ?_)
              have A_a1 := A_a1.other W82 ne_a1_a79
              have Zn := Nat.le_trans Zn (Nat.le_of_eq W82.size.symm)
              have S_COMPACT_STRINGS := S_COMPACT_STRINGS.wr W82
              have X78 := X78.wr W82
              have F_value_a78 := F_value_a78.other W82 (Or.inl ne_a78_a79)
              have F_coder_a78 := F_coder_a78.other W82 (Or.inl ne_a78_a79)
              have A_a79 := B82
              have Kp := Kp.wr W82 (Or.inr sz_a79)
              refine g_dup C S dpx_169 (pc' := 170) rfl rfl ?_
              refine g_iconst C S (3 : Int32) dpx_170 (pc' := 171) rfl rfl ?_
              refine g_aloadN C S dpx_171 (pc' := 172) rfl rfl rfl ?_
              refine g_iconst C S (3 : Int32) dpx_172 (pc' := 173) rfl rfl ?_
              refine g_caload C S (i := 3) (v := (.int (cf 3))) dpx_173 A_a1 (by decide) (by decide) rfl (pc' := 174) rfl ?_
              refine g_castore C S (i := 3) dpx_174 A_a79 (by decide) (by decide) ge_a79 (pc' := 175) rfl (fun T83 h83 S W83 B83 => ?_)
              have A_a1 := A_a1.other W83 ne_a1_a79
              have Zn := Nat.le_trans Zn (Nat.le_of_eq W83.size.symm)
              have S_COMPACT_STRINGS := S_COMPACT_STRINGS.wr W83
              have X78 := X78.wr W83
              have F_value_a78 := F_value_a78.other W83 (Or.inl ne_a78_a79)
              have F_coder_a78 := F_coder_a78.other W83 (Or.inl ne_a78_a79)
              have A_a79 := B83
              have Kp := Kp.wr W83 (Or.inr sz_a79)
              refine g_dup C S dpx_175 (pc' := 176) rfl rfl ?_
              refine g_iconst C S (4 : Int32) dpx_176 (pc' := 177) rfl rfl ?_
              refine g_aloadN C S dpx_177 (pc' := 178) rfl rfl rfl ?_
              refine g_iconst C S (4 : Int32) dpx_178 (pc' := 179) rfl rfl ?_
              refine g_caload C S (i := 4) (v := (.int (cf 4))) dpx_179 A_a1 (by decide) (by decide) rfl (pc' := 180) rfl ?_
              refine g_castore C S (i := 4) dpx_180 A_a79 (by decide) (by decide) ge_a79 (pc' := 181) rfl (fun T84 h84 S W84 B84 => ?_)
              have A_a1 := A_a1.other W84 ne_a1_a79
              have Zn := Nat.le_trans Zn (Nat.le_of_eq W84.size.symm)
              have S_COMPACT_STRINGS := S_COMPACT_STRINGS.wr W84
              have X78 := X78.wr W84
              have F_value_a78 := F_value_a78.other W84 (Or.inl ne_a78_a79)
              have F_coder_a78 := F_coder_a78.other W84 (Or.inl ne_a78_a79)
              have A_a79 := B84
              have Kp := Kp.wr W84 (Or.inr sz_a79)
              have eK : K = 5 := K_eq hK (by decide) hc141
              have A_a79 : Ary Z h84 a79 .char 5 (fun q => .int (cf q)) := A_a79.cg (fun q hq => by match q, hq with | 0, _ => simp [nar_char (hL 0 (by omega))] | 1, _ => simp [nar_char (hL 1 (by omega))] | 2, _ => simp [nar_char (hL 2 (by omega))] | 3, _ => simp [nar_char (hL 3 (by omega))] | 4, _ => simp [nar_char (hL 4 (by omega))] | q + 5, hq => exact absurd hq (by omega))
              refine g_callI C S (rm := ({ frames := 3, cells := 4, slots := 8, locals := 53 } : Room)) (W := 1) dpx_181 rfl (hw _ (List.mem_of_getElem? (i := 53) rfl)) (hw _ (List.mem_of_getElem? (i := 54) rfl)) (hw _ (List.mem_of_getElem? (i := 2) rfl)) (hw _ (List.mem_of_getElem? (i := 55) rfl)) (by decide) (c_ini l Z a0 hw a78 a79 h84 n0 _ _ 5 cf (by decide) (fun i hi => hL i (by omega)) ge_a78 ne_a78_a79 Zn cs hcs S_COMPACT_STRINGS X78 F_value_a78 F_coder_a78 A_a79) (argsL := [(.ref a79)]) (r := [(.ref a78)]) rfl (allS pm_a78 all0) (lenOf pd_12 rfl) rfl (Nat.le_of_eq rfl) (by decide) (by decide) (by decide) (by decide) (pc' := 184) rfl (fun T85 h85 v85 P85 q85 S => ?_)
              have pm_a78 := List.mem_append_right P85 pm_a78
              have pm_a79 := List.mem_append_right P85 pm_a79
              obtain ⟨rfl, K85, b85, Y, G_coder, G_value, A_b85⟩ := q85
              have Kp := Kp.trans K85 (allS (Or.inr sz_a78) all0)
              have S_COMPACT_STRINGS := Sta.keep1 S_COMPACT_STRINGS K85 (X78.nostat)
              have A_a1 := A_a1.keep K85 (ninS ne_a1_a78 nin0)
              have Zn := Nat.le_trans Zn K85.1
              have X78 := X78.keep K85
              have A_a79 := A_a79.keep K85 (ninS (Ne.symm ne_a78_a79) nin0)
              show Gl p e below s Z consts_1 _ n0 _ T85 (mkF m 184 #[.val (.ref a1), .val (.int (Int32.ofNat K))] [(.ref a78)])
              exact g_retA C S dpx_184 rfl rfl rfl (by decide) (by decide) (⟨_, _, rfl, Kp, Y, G_coder, G_value, by rw [eK]; exact A_b85⟩)
          · refine g_new C S dpx_104 (hw _ (List.mem_of_getElem? (i := 52) rfl)) (hw _ (List.mem_of_getElem? (i := 3) rfl)) (hw _ (List.mem_of_getElem? (i := 2) rfl)) (by decide) (by decide) (pc' := 107) rfl (fun T86 h86 a86 S g86 E86 X86 D86 => ?_)
            have ne_a1_a86 : a1 ≠ a86 := ne_new g86 A_a1.lt
            have sz_a86 : h0.size ≤ a86 := ge_of g86 Kp.1
            have ge_a86 : n0 ≤ a86 := ge_of g86 Zn
            have pm_a86 := On.hd S
            have Kp := Kp.ext E86
            have A_a1 := A_a1.ext E86
            have Zn := Nat.le_trans Zn E86.1
            have S_COMPACT_STRINGS := S_COMPACT_STRINGS.ext E86
            have F_value_a86 : Fld Z h86 a86 "java/lang/String" "value" "[B" .null := D86 (Or.inr (hw _ (List.mem_of_getElem? (i := 5) rfl))) (ty := (.array .byte)) (by decide)
            have F_coder_a86 : Fld Z h86 a86 "java/lang/String" "coder" "B" (.int (0 : Int32)) := D86 (Or.inr (hw _ (List.mem_of_getElem? (i := 6) rfl))) (ty := .byte) (by decide)
            refine g_dup C S dpx_107 (pc' := 108) rfl rfl ?_
            refine g_iconst C S (4 : Int32) dpx_108 (pc' := 109) rfl rfl ?_
            refine g_newarray C S (N := 4) (cap := 4) dpx_109 (hw _ (List.mem_of_getElem? (i := 9) rfl)) (by decide) (by decide) (by decide) (by decide) (by decide) (pc' := 111) rfl (fun T87 h87 a87 S g87 E87 A_a87 => ?_)
            have ne_a1_a87 : a1 ≠ a87 := ne_new g87 A_a1.lt
            have ne_a86_a87 : a86 ≠ a87 := ne_new g87 X86.lt
            have sz_a87 : h0.size ≤ a87 := ge_of g87 Kp.1
            have ge_a87 : n0 ≤ a87 := ge_of g87 Zn
            have pm_a86 := List.mem_cons_of_mem a87 pm_a86
            have pm_a87 := On.hd S
            have Kp := Kp.ext E87
            have A_a1 := A_a1.ext E87
            have Zn := Nat.le_trans Zn E87.1
            have S_COMPACT_STRINGS := S_COMPACT_STRINGS.ext E87
            have X86 := X86.ext E87
            have F_value_a86 := F_value_a86.ext E87
            have F_coder_a86 := F_coder_a86.ext E87
            have A_a87 : Ary Z h87 a87 .char 4 (fun _ => (.int (0 : Int32))) := A_a87
            refine g_dup C S dpx_111 (pc' := 112) rfl rfl ?_
            refine g_iconst C S (0 : Int32) dpx_112 (pc' := 113) rfl rfl ?_
            refine g_aloadN C S dpx_113 (pc' := 114) rfl rfl rfl ?_
            refine g_iconst C S (0 : Int32) dpx_114 (pc' := 115) rfl rfl ?_
            refine g_caload C S (i := 0) (v := (.int (cf 0))) dpx_115 A_a1 (by decide) (by decide) rfl (pc' := 116) rfl ?_
            refine g_castore C S (i := 0) dpx_116 A_a87 (by decide) (by decide) ge_a87 (pc' := 117) rfl (fun T88 h88 S W88 B88 => ?_)
            have A_a1 := A_a1.other W88 ne_a1_a87
            have Zn := Nat.le_trans Zn (Nat.le_of_eq W88.size.symm)
            have S_COMPACT_STRINGS := S_COMPACT_STRINGS.wr W88
            have X86 := X86.wr W88
            have F_value_a86 := F_value_a86.other W88 (Or.inl ne_a86_a87)
            have F_coder_a86 := F_coder_a86.other W88 (Or.inl ne_a86_a87)
            have A_a87 := B88
            have Kp := Kp.wr W88 (Or.inr sz_a87)
            refine g_dup C S dpx_117 (pc' := 118) rfl rfl ?_
            refine g_iconst C S (1 : Int32) dpx_118 (pc' := 119) rfl rfl ?_
            refine g_aloadN C S dpx_119 (pc' := 120) rfl rfl rfl ?_
            refine g_iconst C S (1 : Int32) dpx_120 (pc' := 121) rfl rfl ?_
            refine g_caload C S (i := 1) (v := (.int (cf 1))) dpx_121 A_a1 (by decide) (by decide) rfl (pc' := 122) rfl ?_
            refine g_castore C S (i := 1) dpx_122 A_a87 (by decide) (by decide) ge_a87 (pc' := 123) rfl (fun T89 h89 S W89 B89 => ?_)
            have A_a1 := A_a1.other W89 ne_a1_a87
            have Zn := Nat.le_trans Zn (Nat.le_of_eq W89.size.symm)
            have S_COMPACT_STRINGS := S_COMPACT_STRINGS.wr W89
            have X86 := X86.wr W89
            have F_value_a86 := F_value_a86.other W89 (Or.inl ne_a86_a87)
            have F_coder_a86 := F_coder_a86.other W89 (Or.inl ne_a86_a87)
            have A_a87 := B89
            have Kp := Kp.wr W89 (Or.inr sz_a87)
            refine g_dup C S dpx_123 (pc' := 124) rfl rfl ?_
            refine g_iconst C S (2 : Int32) dpx_124 (pc' := 125) rfl rfl ?_
            refine g_aloadN C S dpx_125 (pc' := 126) rfl rfl rfl ?_
            refine g_iconst C S (2 : Int32) dpx_126 (pc' := 127) rfl rfl ?_
            refine g_caload C S (i := 2) (v := (.int (cf 2))) dpx_127 A_a1 (by decide) (by decide) rfl (pc' := 128) rfl ?_
            refine g_castore C S (i := 2) dpx_128 A_a87 (by decide) (by decide) ge_a87 (pc' := 129) rfl (fun T90 h90 S W90 B90 => ?_)
            have A_a1 := A_a1.other W90 ne_a1_a87
            have Zn := Nat.le_trans Zn (Nat.le_of_eq W90.size.symm)
            have S_COMPACT_STRINGS := S_COMPACT_STRINGS.wr W90
            have X86 := X86.wr W90
            have F_value_a86 := F_value_a86.other W90 (Or.inl ne_a86_a87)
            have F_coder_a86 := F_coder_a86.other W90 (Or.inl ne_a86_a87)
            have A_a87 := B90
            have Kp := Kp.wr W90 (Or.inr sz_a87)
            refine g_dup C S dpx_129 (pc' := 130) rfl rfl ?_
            refine g_iconst C S (3 : Int32) dpx_130 (pc' := 131) rfl rfl ?_
            refine g_aloadN C S dpx_131 (pc' := 132) rfl rfl rfl ?_
            refine g_iconst C S (3 : Int32) dpx_132 (pc' := 133) rfl rfl ?_
            refine g_caload C S (i := 3) (v := (.int (cf 3))) dpx_133 A_a1 (by decide) (by decide) rfl (pc' := 134) rfl ?_
            refine g_castore C S (i := 3) dpx_134 A_a87 (by decide) (by decide) ge_a87 (pc' := 135) rfl (fun T91 h91 S W91 B91 => ?_)
            have A_a1 := A_a1.other W91 ne_a1_a87
            have Zn := Nat.le_trans Zn (Nat.le_of_eq W91.size.symm)
            have S_COMPACT_STRINGS := S_COMPACT_STRINGS.wr W91
            have X86 := X86.wr W91
            have F_value_a86 := F_value_a86.other W91 (Or.inl ne_a86_a87)
            have F_coder_a86 := F_coder_a86.other W91 (Or.inl ne_a86_a87)
            have A_a87 := B91
            have Kp := Kp.wr W91 (Or.inr sz_a87)
            have eK : K = 4 := K_eq hK (by decide) hc101
            have A_a87 : Ary Z h91 a87 .char 4 (fun q => .int (cf q)) := A_a87.cg (fun q hq => by match q, hq with | 0, _ => simp [nar_char (hL 0 (by omega))] | 1, _ => simp [nar_char (hL 1 (by omega))] | 2, _ => simp [nar_char (hL 2 (by omega))] | 3, _ => simp [nar_char (hL 3 (by omega))] | q + 4, hq => exact absurd hq (by omega))
            refine g_callI C S (rm := ({ frames := 3, cells := 4, slots := 8, locals := 53 } : Room)) (W := 1) dpx_135 rfl (hw _ (List.mem_of_getElem? (i := 53) rfl)) (hw _ (List.mem_of_getElem? (i := 54) rfl)) (hw _ (List.mem_of_getElem? (i := 2) rfl)) (hw _ (List.mem_of_getElem? (i := 55) rfl)) (by decide) (c_ini l Z a0 hw a86 a87 h91 n0 _ _ 4 cf (by decide) (fun i hi => hL i (by omega)) ge_a86 ne_a86_a87 Zn cs hcs S_COMPACT_STRINGS X86 F_value_a86 F_coder_a86 A_a87) (argsL := [(.ref a87)]) (r := [(.ref a86)]) rfl (allS pm_a86 all0) (lenOf pd_12 rfl) rfl (Nat.le_of_eq rfl) (by decide) (by decide) (by decide) (by decide) (pc' := 138) rfl (fun T92 h92 v92 P92 q92 S => ?_)
            have pm_a86 := List.mem_append_right P92 pm_a86
            have pm_a87 := List.mem_append_right P92 pm_a87
            obtain ⟨rfl, K92, b92, Y, G_coder, G_value, A_b92⟩ := q92
            have Kp := Kp.trans K92 (allS (Or.inr sz_a86) all0)
            have S_COMPACT_STRINGS := Sta.keep1 S_COMPACT_STRINGS K92 (X86.nostat)
            have A_a1 := A_a1.keep K92 (ninS ne_a1_a86 nin0)
            have Zn := Nat.le_trans Zn K92.1
            have X86 := X86.keep K92
            have A_a87 := A_a87.keep K92 (ninS (Ne.symm ne_a86_a87) nin0)
            show Gl p e below s Z consts_1 _ n0 _ T92 (mkF m 138 #[.val (.ref a1), .val (.int (Int32.ofNat K))] [(.ref a86)])
            exact g_retA C S dpx_138 rfl rfl rfl (by decide) (by decide) (⟨_, _, rfl, Kp, Y, G_coder, G_value, by rw [eK]; exact A_b92⟩)
        · refine g_new C S dpx_70 (hw _ (List.mem_of_getElem? (i := 52) rfl)) (hw _ (List.mem_of_getElem? (i := 3) rfl)) (hw _ (List.mem_of_getElem? (i := 2) rfl)) (by decide) (by decide) (pc' := 73) rfl (fun T93 h93 a93 S g93 E93 X93 D93 => ?_)
          have ne_a1_a93 : a1 ≠ a93 := ne_new g93 A_a1.lt
          have sz_a93 : h0.size ≤ a93 := ge_of g93 Kp.1
          have ge_a93 : n0 ≤ a93 := ge_of g93 Zn
          have pm_a93 := On.hd S
          have Kp := Kp.ext E93
          have A_a1 := A_a1.ext E93
          have Zn := Nat.le_trans Zn E93.1
          have S_COMPACT_STRINGS := S_COMPACT_STRINGS.ext E93
          have F_value_a93 : Fld Z h93 a93 "java/lang/String" "value" "[B" .null := D93 (Or.inr (hw _ (List.mem_of_getElem? (i := 5) rfl))) (ty := (.array .byte)) (by decide)
          have F_coder_a93 : Fld Z h93 a93 "java/lang/String" "coder" "B" (.int (0 : Int32)) := D93 (Or.inr (hw _ (List.mem_of_getElem? (i := 6) rfl))) (ty := .byte) (by decide)
          refine g_dup C S dpx_73 (pc' := 74) rfl rfl ?_
          refine g_iconst C S (3 : Int32) dpx_74 (pc' := 75) rfl rfl ?_
          refine g_newarray C S (N := 3) (cap := 3) dpx_75 (hw _ (List.mem_of_getElem? (i := 9) rfl)) (by decide) (by decide) (by decide) (by decide) (by decide) (pc' := 77) rfl (fun T94 h94 a94 S g94 E94 A_a94 => ?_)
          have ne_a1_a94 : a1 ≠ a94 := ne_new g94 A_a1.lt
          have ne_a93_a94 : a93 ≠ a94 := ne_new g94 X93.lt
          have sz_a94 : h0.size ≤ a94 := ge_of g94 Kp.1
          have ge_a94 : n0 ≤ a94 := ge_of g94 Zn
          have pm_a93 := List.mem_cons_of_mem a94 pm_a93
          have pm_a94 := On.hd S
          have Kp := Kp.ext E94
          have A_a1 := A_a1.ext E94
          have Zn := Nat.le_trans Zn E94.1
          have S_COMPACT_STRINGS := S_COMPACT_STRINGS.ext E94
          have X93 := X93.ext E94
          have F_value_a93 := F_value_a93.ext E94
          have F_coder_a93 := F_coder_a93.ext E94
          have A_a94 : Ary Z h94 a94 .char 3 (fun _ => (.int (0 : Int32))) := A_a94
          refine g_dup C S dpx_77 (pc' := 78) rfl rfl ?_
          refine g_iconst C S (0 : Int32) dpx_78 (pc' := 79) rfl rfl ?_
          refine g_aloadN C S dpx_79 (pc' := 80) rfl rfl rfl ?_
          refine g_iconst C S (0 : Int32) dpx_80 (pc' := 81) rfl rfl ?_
          refine g_caload C S (i := 0) (v := (.int (cf 0))) dpx_81 A_a1 (by decide) (by decide) rfl (pc' := 82) rfl ?_
          refine g_castore C S (i := 0) dpx_82 A_a94 (by decide) (by decide) ge_a94 (pc' := 83) rfl (fun T95 h95 S W95 B95 => ?_)
          have A_a1 := A_a1.other W95 ne_a1_a94
          have Zn := Nat.le_trans Zn (Nat.le_of_eq W95.size.symm)
          have S_COMPACT_STRINGS := S_COMPACT_STRINGS.wr W95
          have X93 := X93.wr W95
          have F_value_a93 := F_value_a93.other W95 (Or.inl ne_a93_a94)
          have F_coder_a93 := F_coder_a93.other W95 (Or.inl ne_a93_a94)
          have A_a94 := B95
          have Kp := Kp.wr W95 (Or.inr sz_a94)
          refine g_dup C S dpx_83 (pc' := 84) rfl rfl ?_
          refine g_iconst C S (1 : Int32) dpx_84 (pc' := 85) rfl rfl ?_
          refine g_aloadN C S dpx_85 (pc' := 86) rfl rfl rfl ?_
          refine g_iconst C S (1 : Int32) dpx_86 (pc' := 87) rfl rfl ?_
          refine g_caload C S (i := 1) (v := (.int (cf 1))) dpx_87 A_a1 (by decide) (by decide) rfl (pc' := 88) rfl ?_
          refine g_castore C S (i := 1) dpx_88 A_a94 (by decide) (by decide) ge_a94 (pc' := 89) rfl (fun T96 h96 S W96 B96 => ?_)
          have A_a1 := A_a1.other W96 ne_a1_a94
          have Zn := Nat.le_trans Zn (Nat.le_of_eq W96.size.symm)
          have S_COMPACT_STRINGS := S_COMPACT_STRINGS.wr W96
          have X93 := X93.wr W96
          have F_value_a93 := F_value_a93.other W96 (Or.inl ne_a93_a94)
          have F_coder_a93 := F_coder_a93.other W96 (Or.inl ne_a93_a94)
          have A_a94 := B96
          have Kp := Kp.wr W96 (Or.inr sz_a94)
          refine g_dup C S dpx_89 (pc' := 90) rfl rfl ?_
          refine g_iconst C S (2 : Int32) dpx_90 (pc' := 91) rfl rfl ?_
          refine g_aloadN C S dpx_91 (pc' := 92) rfl rfl rfl ?_
          refine g_iconst C S (2 : Int32) dpx_92 (pc' := 93) rfl rfl ?_
          refine g_caload C S (i := 2) (v := (.int (cf 2))) dpx_93 A_a1 (by decide) (by decide) rfl (pc' := 94) rfl ?_
          refine g_castore C S (i := 2) dpx_94 A_a94 (by decide) (by decide) ge_a94 (pc' := 95) rfl (fun T97 h97 S W97 B97 => ?_)
          have A_a1 := A_a1.other W97 ne_a1_a94
          have Zn := Nat.le_trans Zn (Nat.le_of_eq W97.size.symm)
          have S_COMPACT_STRINGS := S_COMPACT_STRINGS.wr W97
          have X93 := X93.wr W97
          have F_value_a93 := F_value_a93.other W97 (Or.inl ne_a93_a94)
          have F_coder_a93 := F_coder_a93.other W97 (Or.inl ne_a93_a94)
          have A_a94 := B97
          have Kp := Kp.wr W97 (Or.inr sz_a94)
          have eK : K = 3 := K_eq hK (by decide) hc67
          have A_a94 : Ary Z h97 a94 .char 3 (fun q => .int (cf q)) := A_a94.cg (fun q hq => by match q, hq with | 0, _ => simp [nar_char (hL 0 (by omega))] | 1, _ => simp [nar_char (hL 1 (by omega))] | 2, _ => simp [nar_char (hL 2 (by omega))] | q + 3, hq => exact absurd hq (by omega))
          refine g_callI C S (rm := ({ frames := 3, cells := 4, slots := 8, locals := 53 } : Room)) (W := 1) dpx_95 rfl (hw _ (List.mem_of_getElem? (i := 53) rfl)) (hw _ (List.mem_of_getElem? (i := 54) rfl)) (hw _ (List.mem_of_getElem? (i := 2) rfl)) (hw _ (List.mem_of_getElem? (i := 55) rfl)) (by decide) (c_ini l Z a0 hw a93 a94 h97 n0 _ _ 3 cf (by decide) (fun i hi => hL i (by omega)) ge_a93 ne_a93_a94 Zn cs hcs S_COMPACT_STRINGS X93 F_value_a93 F_coder_a93 A_a94) (argsL := [(.ref a94)]) (r := [(.ref a93)]) rfl (allS pm_a93 all0) (lenOf pd_12 rfl) rfl (Nat.le_of_eq rfl) (by decide) (by decide) (by decide) (by decide) (pc' := 98) rfl (fun T98 h98 v98 P98 q98 S => ?_)
          have pm_a93 := List.mem_append_right P98 pm_a93
          have pm_a94 := List.mem_append_right P98 pm_a94
          obtain ⟨rfl, K98, b98, Y, G_coder, G_value, A_b98⟩ := q98
          have Kp := Kp.trans K98 (allS (Or.inr sz_a93) all0)
          have S_COMPACT_STRINGS := Sta.keep1 S_COMPACT_STRINGS K98 (X93.nostat)
          have A_a1 := A_a1.keep K98 (ninS ne_a1_a93 nin0)
          have Zn := Nat.le_trans Zn K98.1
          have X93 := X93.keep K98
          have A_a94 := A_a94.keep K98 (ninS (Ne.symm ne_a93_a94) nin0)
          show Gl p e below s Z consts_1 _ n0 _ T98 (mkF m 98 #[.val (.ref a1), .val (.int (Int32.ofNat K))] [(.ref a93)])
          exact g_retA C S dpx_98 rfl rfl rfl (by decide) (by decide) (⟨_, _, rfl, Kp, Y, G_coder, G_value, by rw [eK]; exact A_b98⟩)
      · refine g_new C S dpx_42 (hw _ (List.mem_of_getElem? (i := 52) rfl)) (hw _ (List.mem_of_getElem? (i := 3) rfl)) (hw _ (List.mem_of_getElem? (i := 2) rfl)) (by decide) (by decide) (pc' := 45) rfl (fun T99 h99 a99 S g99 E99 X99 D99 => ?_)
        have ne_a1_a99 : a1 ≠ a99 := ne_new g99 A_a1.lt
        have sz_a99 : h0.size ≤ a99 := ge_of g99 Kp.1
        have ge_a99 : n0 ≤ a99 := ge_of g99 Zn
        have pm_a99 := On.hd S
        have Kp := Kp.ext E99
        have A_a1 := A_a1.ext E99
        have Zn := Nat.le_trans Zn E99.1
        have S_COMPACT_STRINGS := S_COMPACT_STRINGS.ext E99
        have F_value_a99 : Fld Z h99 a99 "java/lang/String" "value" "[B" .null := D99 (Or.inr (hw _ (List.mem_of_getElem? (i := 5) rfl))) (ty := (.array .byte)) (by decide)
        have F_coder_a99 : Fld Z h99 a99 "java/lang/String" "coder" "B" (.int (0 : Int32)) := D99 (Or.inr (hw _ (List.mem_of_getElem? (i := 6) rfl))) (ty := .byte) (by decide)
        refine g_dup C S dpx_45 (pc' := 46) rfl rfl ?_
        refine g_iconst C S (2 : Int32) dpx_46 (pc' := 47) rfl rfl ?_
        refine g_newarray C S (N := 2) (cap := 2) dpx_47 (hw _ (List.mem_of_getElem? (i := 9) rfl)) (by decide) (by decide) (by decide) (by decide) (by decide) (pc' := 49) rfl (fun T100 h100 a100 S g100 E100 A_a100 => ?_)
        have ne_a1_a100 : a1 ≠ a100 := ne_new g100 A_a1.lt
        have ne_a99_a100 : a99 ≠ a100 := ne_new g100 X99.lt
        have sz_a100 : h0.size ≤ a100 := ge_of g100 Kp.1
        have ge_a100 : n0 ≤ a100 := ge_of g100 Zn
        have pm_a99 := List.mem_cons_of_mem a100 pm_a99
        have pm_a100 := On.hd S
        have Kp := Kp.ext E100
        have A_a1 := A_a1.ext E100
        have Zn := Nat.le_trans Zn E100.1
        have S_COMPACT_STRINGS := S_COMPACT_STRINGS.ext E100
        have X99 := X99.ext E100
        have F_value_a99 := F_value_a99.ext E100
        have F_coder_a99 := F_coder_a99.ext E100
        have A_a100 : Ary Z h100 a100 .char 2 (fun _ => (.int (0 : Int32))) := A_a100
        refine g_dup C S dpx_49 (pc' := 50) rfl rfl ?_
        refine g_iconst C S (0 : Int32) dpx_50 (pc' := 51) rfl rfl ?_
        refine g_aloadN C S dpx_51 (pc' := 52) rfl rfl rfl ?_
        refine g_iconst C S (0 : Int32) dpx_52 (pc' := 53) rfl rfl ?_
        refine g_caload C S (i := 0) (v := (.int (cf 0))) dpx_53 A_a1 (by decide) (by decide) rfl (pc' := 54) rfl ?_
        refine g_castore C S (i := 0) dpx_54 A_a100 (by decide) (by decide) ge_a100 (pc' := 55) rfl (fun T101 h101 S W101 B101 => ?_)
        have A_a1 := A_a1.other W101 ne_a1_a100
        have Zn := Nat.le_trans Zn (Nat.le_of_eq W101.size.symm)
        have S_COMPACT_STRINGS := S_COMPACT_STRINGS.wr W101
        have X99 := X99.wr W101
        have F_value_a99 := F_value_a99.other W101 (Or.inl ne_a99_a100)
        have F_coder_a99 := F_coder_a99.other W101 (Or.inl ne_a99_a100)
        have A_a100 := B101
        have Kp := Kp.wr W101 (Or.inr sz_a100)
        refine g_dup C S dpx_55 (pc' := 56) rfl rfl ?_
        refine g_iconst C S (1 : Int32) dpx_56 (pc' := 57) rfl rfl ?_
        refine g_aloadN C S dpx_57 (pc' := 58) rfl rfl rfl ?_
        refine g_iconst C S (1 : Int32) dpx_58 (pc' := 59) rfl rfl ?_
        refine g_caload C S (i := 1) (v := (.int (cf 1))) dpx_59 A_a1 (by decide) (by decide) rfl (pc' := 60) rfl ?_
        refine g_castore C S (i := 1) dpx_60 A_a100 (by decide) (by decide) ge_a100 (pc' := 61) rfl (fun T102 h102 S W102 B102 => ?_)
        have A_a1 := A_a1.other W102 ne_a1_a100
        have Zn := Nat.le_trans Zn (Nat.le_of_eq W102.size.symm)
        have S_COMPACT_STRINGS := S_COMPACT_STRINGS.wr W102
        have X99 := X99.wr W102
        have F_value_a99 := F_value_a99.other W102 (Or.inl ne_a99_a100)
        have F_coder_a99 := F_coder_a99.other W102 (Or.inl ne_a99_a100)
        have A_a100 := B102
        have Kp := Kp.wr W102 (Or.inr sz_a100)
        have eK : K = 2 := K_eq hK (by decide) hc39
        have A_a100 : Ary Z h102 a100 .char 2 (fun q => .int (cf q)) := A_a100.cg (fun q hq => by match q, hq with | 0, _ => simp [nar_char (hL 0 (by omega))] | 1, _ => simp [nar_char (hL 1 (by omega))] | q + 2, hq => exact absurd hq (by omega))
        refine g_callI C S (rm := ({ frames := 3, cells := 4, slots := 8, locals := 53 } : Room)) (W := 1) dpx_61 rfl (hw _ (List.mem_of_getElem? (i := 53) rfl)) (hw _ (List.mem_of_getElem? (i := 54) rfl)) (hw _ (List.mem_of_getElem? (i := 2) rfl)) (hw _ (List.mem_of_getElem? (i := 55) rfl)) (by decide) (c_ini l Z a0 hw a99 a100 h102 n0 _ _ 2 cf (by decide) (fun i hi => hL i (by omega)) ge_a99 ne_a99_a100 Zn cs hcs S_COMPACT_STRINGS X99 F_value_a99 F_coder_a99 A_a100) (argsL := [(.ref a100)]) (r := [(.ref a99)]) rfl (allS pm_a99 all0) (lenOf pd_12 rfl) rfl (Nat.le_of_eq rfl) (by decide) (by decide) (by decide) (by decide) (pc' := 64) rfl (fun T103 h103 v103 P103 q103 S => ?_)
        have pm_a99 := List.mem_append_right P103 pm_a99
        have pm_a100 := List.mem_append_right P103 pm_a100
        obtain ⟨rfl, K103, b103, Y, G_coder, G_value, A_b103⟩ := q103
        have Kp := Kp.trans K103 (allS (Or.inr sz_a99) all0)
        have S_COMPACT_STRINGS := Sta.keep1 S_COMPACT_STRINGS K103 (X99.nostat)
        have A_a1 := A_a1.keep K103 (ninS ne_a1_a99 nin0)
        have Zn := Nat.le_trans Zn K103.1
        have X99 := X99.keep K103
        have A_a100 := A_a100.keep K103 (ninS (Ne.symm ne_a99_a100) nin0)
        show Gl p e below s Z consts_1 _ n0 _ T103 (mkF m 64 #[.val (.ref a1), .val (.int (Int32.ofNat K))] [(.ref a99)])
        exact g_retA C S dpx_64 rfl rfl rfl (by decide) (by decide) (⟨_, _, rfl, Kp, Y, G_coder, G_value, by rw [eK]; exact A_b103⟩)
    · refine g_new C S dpx_20 (hw _ (List.mem_of_getElem? (i := 52) rfl)) (hw _ (List.mem_of_getElem? (i := 3) rfl)) (hw _ (List.mem_of_getElem? (i := 2) rfl)) (by decide) (by decide) (pc' := 23) rfl (fun T104 h104 a104 S g104 E104 X104 D104 => ?_)
      have ne_a1_a104 : a1 ≠ a104 := ne_new g104 A_a1.lt
      have sz_a104 : h0.size ≤ a104 := ge_of g104 Kp.1
      have ge_a104 : n0 ≤ a104 := ge_of g104 Zn
      have pm_a104 := On.hd S
      have Kp := Kp.ext E104
      have A_a1 := A_a1.ext E104
      have Zn := Nat.le_trans Zn E104.1
      have S_COMPACT_STRINGS := S_COMPACT_STRINGS.ext E104
      have F_value_a104 : Fld Z h104 a104 "java/lang/String" "value" "[B" .null := D104 (Or.inr (hw _ (List.mem_of_getElem? (i := 5) rfl))) (ty := (.array .byte)) (by decide)
      have F_coder_a104 : Fld Z h104 a104 "java/lang/String" "coder" "B" (.int (0 : Int32)) := D104 (Or.inr (hw _ (List.mem_of_getElem? (i := 6) rfl))) (ty := .byte) (by decide)
      refine g_dup C S dpx_23 (pc' := 24) rfl rfl ?_
      refine g_iconst C S (1 : Int32) dpx_24 (pc' := 25) rfl rfl ?_
      refine g_newarray C S (N := 1) (cap := 1) dpx_25 (hw _ (List.mem_of_getElem? (i := 9) rfl)) (by decide) (by decide) (by decide) (by decide) (by decide) (pc' := 27) rfl (fun T105 h105 a105 S g105 E105 A_a105 => ?_)
      have ne_a1_a105 : a1 ≠ a105 := ne_new g105 A_a1.lt
      have ne_a104_a105 : a104 ≠ a105 := ne_new g105 X104.lt
      have sz_a105 : h0.size ≤ a105 := ge_of g105 Kp.1
      have ge_a105 : n0 ≤ a105 := ge_of g105 Zn
      have pm_a104 := List.mem_cons_of_mem a105 pm_a104
      have pm_a105 := On.hd S
      have Kp := Kp.ext E105
      have A_a1 := A_a1.ext E105
      have Zn := Nat.le_trans Zn E105.1
      have S_COMPACT_STRINGS := S_COMPACT_STRINGS.ext E105
      have X104 := X104.ext E105
      have F_value_a104 := F_value_a104.ext E105
      have F_coder_a104 := F_coder_a104.ext E105
      have A_a105 : Ary Z h105 a105 .char 1 (fun _ => (.int (0 : Int32))) := A_a105
      refine g_dup C S dpx_27 (pc' := 28) rfl rfl ?_
      refine g_iconst C S (0 : Int32) dpx_28 (pc' := 29) rfl rfl ?_
      refine g_aloadN C S dpx_29 (pc' := 30) rfl rfl rfl ?_
      refine g_iconst C S (0 : Int32) dpx_30 (pc' := 31) rfl rfl ?_
      refine g_caload C S (i := 0) (v := (.int (cf 0))) dpx_31 A_a1 (by decide) (by decide) rfl (pc' := 32) rfl ?_
      refine g_castore C S (i := 0) dpx_32 A_a105 (by decide) (by decide) ge_a105 (pc' := 33) rfl (fun T106 h106 S W106 B106 => ?_)
      have A_a1 := A_a1.other W106 ne_a1_a105
      have Zn := Nat.le_trans Zn (Nat.le_of_eq W106.size.symm)
      have S_COMPACT_STRINGS := S_COMPACT_STRINGS.wr W106
      have X104 := X104.wr W106
      have F_value_a104 := F_value_a104.other W106 (Or.inl ne_a104_a105)
      have F_coder_a104 := F_coder_a104.other W106 (Or.inl ne_a104_a105)
      have A_a105 := B106
      have Kp := Kp.wr W106 (Or.inr sz_a105)
      have eK : K = 1 := K_eq hK (by decide) hc17
      have A_a105 : Ary Z h106 a105 .char 1 (fun q => .int (cf q)) := A_a105.cg (fun q hq => by match q, hq with | 0, _ => simp [nar_char (hL 0 (by omega))] | q + 1, hq => exact absurd hq (by omega))
      refine g_callI C S (rm := ({ frames := 3, cells := 4, slots := 8, locals := 53 } : Room)) (W := 1) dpx_33 rfl (hw _ (List.mem_of_getElem? (i := 53) rfl)) (hw _ (List.mem_of_getElem? (i := 54) rfl)) (hw _ (List.mem_of_getElem? (i := 2) rfl)) (hw _ (List.mem_of_getElem? (i := 55) rfl)) (by decide) (c_ini l Z a0 hw a104 a105 h106 n0 _ _ 1 cf (by decide) (fun i hi => hL i (by omega)) ge_a104 ne_a104_a105 Zn cs hcs S_COMPACT_STRINGS X104 F_value_a104 F_coder_a104 A_a105) (argsL := [(.ref a105)]) (r := [(.ref a104)]) rfl (allS pm_a104 all0) (lenOf pd_12 rfl) rfl (Nat.le_of_eq rfl) (by decide) (by decide) (by decide) (by decide) (pc' := 36) rfl (fun T107 h107 v107 P107 q107 S => ?_)
      have pm_a104 := List.mem_append_right P107 pm_a104
      have pm_a105 := List.mem_append_right P107 pm_a105
      obtain ⟨rfl, K107, b107, Y, G_coder, G_value, A_b107⟩ := q107
      have Kp := Kp.trans K107 (allS (Or.inr sz_a104) all0)
      have S_COMPACT_STRINGS := Sta.keep1 S_COMPACT_STRINGS K107 (X104.nostat)
      have A_a1 := A_a1.keep K107 (ninS ne_a1_a104 nin0)
      have Zn := Nat.le_trans Zn K107.1
      have X104 := X104.keep K107
      have A_a105 := A_a105.keep K107 (ninS (Ne.symm ne_a104_a105) nin0)
      show Gl p e below s Z consts_1 _ n0 _ T107 (mkF m 36 #[.val (.ref a1), .val (.int (Int32.ofNat K))] [(.ref a104)])
      exact g_retA C S dpx_36 rfl rfl rfl (by decide) (by decide) (⟨_, _, rfl, Kp, Y, G_coder, G_value, by rw [eK]; exact A_b107⟩)
  · refine g_new C S dpx_4 (hw _ (List.mem_of_getElem? (i := 52) rfl)) (hw _ (List.mem_of_getElem? (i := 3) rfl)) (hw _ (List.mem_of_getElem? (i := 2) rfl)) (by decide) (by decide) (pc' := 7) rfl (fun T108 h108 a108 S g108 E108 X108 D108 => ?_)
    have ne_a1_a108 : a1 ≠ a108 := ne_new g108 A_a1.lt
    have sz_a108 : h0.size ≤ a108 := ge_of g108 Kp.1
    have ge_a108 : n0 ≤ a108 := ge_of g108 Zn
    have pm_a108 := On.hd S
    have Kp := Kp.ext E108
    have A_a1 := A_a1.ext E108
    have Zn := Nat.le_trans Zn E108.1
    have S_COMPACT_STRINGS := S_COMPACT_STRINGS.ext E108
    have F_value_a108 : Fld Z h108 a108 "java/lang/String" "value" "[B" .null := D108 (Or.inr (hw _ (List.mem_of_getElem? (i := 5) rfl))) (ty := (.array .byte)) (by decide)
    have F_coder_a108 : Fld Z h108 a108 "java/lang/String" "coder" "B" (.int (0 : Int32)) := D108 (Or.inr (hw _ (List.mem_of_getElem? (i := 6) rfl))) (ty := .byte) (by decide)
    refine g_dup C S dpx_7 (pc' := 8) rfl rfl ?_
    refine g_iconst C S (0 : Int32) dpx_8 (pc' := 9) rfl rfl ?_
    refine g_newarray C S (N := 0) (cap := 0) dpx_9 (hw _ (List.mem_of_getElem? (i := 9) rfl)) (by decide) (by decide) (by decide) (by decide) (by decide) (pc' := 11) rfl (fun T109 h109 a109 S g109 E109 A_a109 => ?_)
    have ne_a1_a109 : a1 ≠ a109 := ne_new g109 A_a1.lt
    have ne_a108_a109 : a108 ≠ a109 := ne_new g109 X108.lt
    have sz_a109 : h0.size ≤ a109 := ge_of g109 Kp.1
    have ge_a109 : n0 ≤ a109 := ge_of g109 Zn
    have pm_a108 := List.mem_cons_of_mem a109 pm_a108
    have pm_a109 := On.hd S
    have Kp := Kp.ext E109
    have A_a1 := A_a1.ext E109
    have Zn := Nat.le_trans Zn E109.1
    have S_COMPACT_STRINGS := S_COMPACT_STRINGS.ext E109
    have X108 := X108.ext E109
    have F_value_a108 := F_value_a108.ext E109
    have F_coder_a108 := F_coder_a108.ext E109
    have A_a109 : Ary Z h109 a109 .char 0 (fun _ => (.int (0 : Int32))) := A_a109
    have eK : K = 0 := K_eq hK (by decide) hc1
    have A_a109 : Ary Z h109 a109 .char 0 (fun q => .int (cf q)) := A_a109.cg (fun q hq => by match q, hq with  | q + 0, hq => exact absurd hq (by omega))
    refine g_callI C S (rm := ({ frames := 3, cells := 4, slots := 8, locals := 53 } : Room)) (W := 1) dpx_11 rfl (hw _ (List.mem_of_getElem? (i := 53) rfl)) (hw _ (List.mem_of_getElem? (i := 54) rfl)) (hw _ (List.mem_of_getElem? (i := 2) rfl)) (hw _ (List.mem_of_getElem? (i := 55) rfl)) (by decide) (c_ini l Z a0 hw a108 a109 h109 n0 _ _ 0 cf (by decide) (fun i hi => hL i (by omega)) ge_a108 ne_a108_a109 Zn cs hcs S_COMPACT_STRINGS X108 F_value_a108 F_coder_a108 A_a109) (argsL := [(.ref a109)]) (r := [(.ref a108)]) rfl (allS pm_a108 all0) (lenOf pd_12 rfl) rfl (Nat.le_of_eq rfl) (by decide) (by decide) (by decide) (by decide) (pc' := 14) rfl (fun T110 h110 v110 P110 q110 S => ?_)
    have pm_a108 := List.mem_append_right P110 pm_a108
    have pm_a109 := List.mem_append_right P110 pm_a109
    obtain ⟨rfl, K110, b110, Y, G_coder, G_value, A_b110⟩ := q110
    have Kp := Kp.trans K110 (allS (Or.inr sz_a108) all0)
    have S_COMPACT_STRINGS := Sta.keep1 S_COMPACT_STRINGS K110 (X108.nostat)
    have A_a1 := A_a1.keep K110 (ninS ne_a1_a108 nin0)
    have Zn := Nat.le_trans Zn K110.1
    have X108 := X108.keep K110
    have A_a109 := A_a109.keep K110 (ninS (Ne.symm ne_a108_a109) nin0)
    show Gl p e below s Z consts_1 _ n0 _ T110 (mkF m 14 #[.val (.ref a1), .val (.int (Int32.ofNat K))] [(.ref a108)])
    exact g_retA C S dpx_14 rfl rfl rfl (by decide) (by decide) (⟨_, _, rfl, Kp, Y, G_coder, G_value, by rw [eK]; exact A_b110⟩)
set_option maxRecDepth 65536 in
set_option maxHeartbeats 40000000 in
theorem c_eqN (l : Launch) (Z : State) (a0 : Array Value) (hw : ∀ d ∈ tables_1, d.before a0 Z = true) (a1 : Addr) (h0 : Heap) (n0 : Nat) :
    Con l Z consts_1 [] (⟨"java/lang/String", "equals", "(Ljava/lang/Object;)Z"⟩ : MethodName) jdk_42_method_66_code 3 (some .boolean) ({ frames := 0, cells := 0, slots := 0, locals := 0 } : Room) #[(.ref a1), .null] h0 n0 (fun v h _ => v = some (.int 0) ∧ h = h0) := by
  refine Con.of (plainFor_of_name (by first | (simp [plainName, overriddenIn]; done) | decide +kernel)) (elw hw) (L0 := #[.val (.ref a1), .val .null, .unset]) (fun m => by first | (simp [entryFrame, mkF, argsToLocals, Value.category]; done) | rfl) ?_
  intro p e s m below meth c T C S
  refine g_aloadN C S deq_0 (pc' := 1) rfl rfl rfl ?_
  refine g_aloadN C S deq_1 (pc' := 2) rfl rfl rfl ?_
  refine g_acmp_ne C S rfl rfl deq_2 (pc' := 7) (pf := 5) (by decide) (by decide) rfl (fun hc2 => ?_) (fun hc2 => nomatch hc2)
  refine g_aloadN C S deq_7 (pc' := 8) rfl rfl rfl ?_
  refine g_instN C S deq_8 (pc' := 11) rfl ?_
  refine g_if_eq C S deq_11 (pc' := 54) (pf := 14) (by decide) (by decide) rfl (fun hc11 => ?_) (fun hc11 => absurd rfl hc11)
  refine g_iconst C S (0 : Int32) deq_54 (pc' := 55) rfl rfl ?_
  exact g_retZ C S deq_55 (by decide) (by decide) (by decide) (⟨rfl, rfl⟩)
theorem dva_0 : decode prog_26_method_1_code 0 = .ok (.getstatic 13, 3) := by decide +kernel
theorem dva_3 : decode prog_26_method_1_code 3 = .ok (.invokevirtual 17, 3) := by decide +kernel
theorem dva_6 : decode prog_26_method_1_code 6 = .ok (.checkcast 18, 3) := by decide +kernel
theorem dva_9 : decode prog_26_method_1_code 9 = .ok (.areturn, 1) := by decide +kernel
set_option maxRecDepth 65536 in
set_option maxHeartbeats 40000000 in
theorem c_val (l : Launch) (Z : State) (a0 : Array Value) (hw : ∀ d ∈ tables_1, d.before a0 Z = true)  (h0 : Heap) (n0 : Nat) (va al de lo : Addr) (S_VALUES : Sta Z h0 "com/example/pitlochry/pitlochry/OnStoreError" "$VALUES" "[Lcom/example/pitlochry/pitlochry/OnStoreError;" (.ref va)) (X_va : Exa Z h0 va "[Lcom/example/pitlochry/pitlochry/OnStoreError;") (A_va : Cln Z h0 va (.object "com/example/pitlochry/pitlochry/OnStoreError") 3 (fun q => [Value.ref al, .ref de, .ref lo].getD q .null)) (Zn : n0 ≤ h0.size) :
    Con l Z consts_1 [] (⟨"com/example/pitlochry/pitlochry/OnStoreError", "values", "()[Lcom/example/pitlochry/pitlochry/OnStoreError;"⟩ : MethodName) prog_26_method_1_code 0 (some (.array (.object "com/example/pitlochry/pitlochry/OnStoreError"))) ({ frames := 1, cells := 1, slots := 3, locals := 14 } : Room) #[] h0 n0 (fun v h _ => ∃ b, v = some (.ref b) ∧ Keep h0 h [] ∧ Ary Z h b (.object "com/example/pitlochry/pitlochry/OnStoreError") 3 (fun q => [Value.ref al, .ref de, .ref lo].getD q .null)) := by
  refine Con.of (plainFor_of_name (by first | (simp [plainName, overriddenIn]; done) | decide +kernel)) (elw hw) (L0 := #[]) (fun m => by first | (simp [entryFrame, mkF, argsToLocals, Value.category]; done) | rfl) ?_
  intro p e s m below meth c T C S
  have Kp := Keep.refl h0 []
  refine g_getS C S dva_0 (host := "") (Or.inl (hw _ (List.mem_of_getElem? (i := 80) rfl))) Via.refl S_VALUES (pc' := 3) rfl (fun T111 S => ?_)
  refine g_clone C S (W := 0) (cap := 3) dva_3 (hw _ (List.mem_of_getElem? (i := 82) rfl)) (hw _ (List.mem_of_getElem? (i := 83) rfl)) (hw _ (List.mem_of_getElem? (i := 87) rfl)) (hw _ (List.mem_of_getElem? (i := 85) rfl)) (hw _ (List.mem_of_getElem? (i := 86) rfl)) (hw _ (List.mem_of_getElem? (i := 88) rfl)) A_va X_va rfl (by decide) (Nat.le_of_eq rfl) (by decide) (by decide) (by decide) (by decide) (pc' := 6) rfl (fun T112 h112 a112 S g112 E112 A_a112 X_a112 => ?_)
  have ne_va_a112 : va ≠ a112 := ne_new g112 A_va.lt
  have sz_a112 : h0.size ≤ a112 := ge_of g112 Kp.1
  have ge_a112 : n0 ≤ a112 := ge_of g112 Zn
  have pm_a112 := On.hd S
  have Kp := Kp.ext E112
  have S_VALUES := S_VALUES.ext E112
  have A_va := A_va.ext E112
  have X_va := X_va.ext E112
  have Zn := Nat.le_trans Zn E112.1
  refine g_cast C S dva_6 (hw _ (List.mem_of_getElem? (i := 93) rfl)) X_a112 (pc' := 9) rfl (fun T113 S => ?_)
  exact g_retA C S dva_9 rfl rfl rfl (by decide) (by decide) (⟨_, rfl, Kp, A_a112⟩)
theorem pd_13 : parseMethodDescriptor "()[Lcom/example/pitlochry/pitlochry/OnStoreError;" = some ⟨[], some (.array (.object "com/example/pitlochry/pitlochry/OnStoreError"))⟩ := by decide +kernel
theorem pd_14 : parseMethodDescriptor "(Ljava/lang/Object;)Z" = some ⟨[(.object "java/lang/Object")], some .boolean⟩ := by decide +kernel
theorem dnm_0 : decode prog_26_method_5_code 0 = .ok (.aconst_null, 1) := by decide +kernel
theorem dnm_1 : decode prog_26_method_5_code 1 = .ok (.astore_n 1, 1) := by decide +kernel
theorem dnm_2 : decode prog_26_method_5_code 2 = .ok (.invokestatic 36, 3) := by decide +kernel
theorem dnm_5 : decode prog_26_method_5_code 5 = .ok (.astore_n 2, 1) := by decide +kernel
theorem dnm_6 : decode prog_26_method_5_code 6 = .ok (.aload_n 2, 1) := by decide +kernel
theorem dnm_7 : decode prog_26_method_5_code 7 = .ok (.arraylength, 1) := by decide +kernel
theorem dnm_8 : decode prog_26_method_5_code 8 = .ok (.istore_n 3, 1) := by decide +kernel
theorem dnm_9 : decode prog_26_method_5_code 9 = .ok (.iconst 0, 1) := by decide +kernel
theorem dnm_10 : decode prog_26_method_5_code 10 = .ok (.istore 4, 2) := by decide +kernel
theorem dnm_12 : decode prog_26_method_5_code 12 = .ok (.iload 4, 2) := by decide +kernel
theorem dnm_14 : decode prog_26_method_5_code 14 = .ok (.iload_n 3, 1) := by decide +kernel
theorem dnm_15 : decode prog_26_method_5_code 15 = .ok (.if_icmp .ge 30, 3) := by decide +kernel
theorem dnm_18 : decode prog_26_method_5_code 18 = .ok (.aload_n 2, 1) := by decide +kernel
theorem dnm_19 : decode prog_26_method_5_code 19 = .ok (.iload 4, 2) := by decide +kernel
theorem dnm_21 : decode prog_26_method_5_code 21 = .ok (.aaload, 1) := by decide +kernel
theorem dnm_22 : decode prog_26_method_5_code 22 = .ok (.astore 5, 2) := by decide +kernel
theorem dnm_24 : decode prog_26_method_5_code 24 = .ok (.aload 5, 2) := by decide +kernel
theorem dnm_26 : decode prog_26_method_5_code 26 = .ok (.getfield 32, 3) := by decide +kernel
theorem dnm_29 : decode prog_26_method_5_code 29 = .ok (.aload_n 0, 1) := by decide +kernel
theorem dnm_30 : decode prog_26_method_5_code 30 = .ok (.invokevirtual 40, 3) := by decide +kernel
theorem dnm_33 : decode prog_26_method_5_code 33 = .ok (.ifCond .eq 6, 3) := by decide +kernel
theorem dnm_36 : decode prog_26_method_5_code 36 = .ok (.aload 5, 2) := by decide +kernel
theorem dnm_38 : decode prog_26_method_5_code 38 = .ok (.astore_n 1, 1) := by decide +kernel
theorem dnm_39 : decode prog_26_method_5_code 39 = .ok (.iinc 4 1, 3) := by decide +kernel
theorem dnm_42 : decode prog_26_method_5_code 42 = .ok (.goto (-30), 3) := by decide +kernel
theorem dnm_45 : decode prog_26_method_5_code 45 = .ok (.aload_n 1, 1) := by decide +kernel
theorem dnm_46 : decode prog_26_method_5_code 46 = .ok (.areturn, 1) := by decide +kernel
set_option maxRecDepth 65536 in
set_option maxHeartbeats 40000000 in
theorem c_nmd (l : Launch) (Z : State) (a0 : Array Value) (hw : ∀ d ∈ tables_1, d.before a0 Z = true) (a1 : Addr) (h0 : Heap) (n0 : Nat) (b1 : Addr) (N : Nat) (g : Nat → Int32) (hN : N < 2 ^ 30) (cs : Int32) (hcs : ¬ cs = 0) (S_COMPACT_STRINGS : Sta Z h0 "java/lang/String" "COMPACT_STRINGS" "Z" (.int cs)) (X_a1 : Exa Z h0 a1 "java/lang/String") (F_coder_a1 : Fld Z h0 a1 "java/lang/String" "coder" "B" (.int (0 : Int32))) (F_value_a1 : Fld Z h0 a1 "java/lang/String" "value" "[B" (.ref b1)) (A_b1 : Ary Z h0 b1 .byte N (fun q => .int (g q))) (Zn : n0 ≤ h0.size) (va al de lo : Addr) (S_VALUES : Sta Z h0 "com/example/pitlochry/pitlochry/OnStoreError" "$VALUES" "[Lcom/example/pitlochry/pitlochry/OnStoreError;" (.ref va)) (X_va : Exa Z h0 va "[Lcom/example/pitlochry/pitlochry/OnStoreError;") (A_va : Cln Z h0 va (.object "com/example/pitlochry/pitlochry/OnStoreError") 3 (fun q => [Value.ref al, .ref de, .ref lo].getD q .null)) (oA bA : Addr) (S_ALLOW : Sta Z h0 "com/example/pitlochry/pitlochry/OnStoreError" "ALLOW" "Lcom/example/pitlochry/pitlochry/OnStoreError;" (.ref al)) (X_al : Exa Z h0 al "com/example/pitlochry/pitlochry/OnStoreError") (F_optionName_al : Fld Z h0 al "com/example/pitlochry/pitlochry/OnStoreError" "optionName" "Ljava/lang/String;" (.ref oA)) (X_oA : Exa Z h0 oA "java/lang/String") (F_coder_oA : Fld Z h0 oA "java/lang/String" "coder" "B" (.int (0 : Int32))) (F_value_oA : Fld Z h0 oA "java/lang/String" "value" "[B" (.ref bA)) (A_bA : Ary Z h0 bA .byte 5 (fun q => .int (wA q))) (oD bD : Addr) (S_DENY : Sta Z h0 "com/example/pitlochry/pitlochry/OnStoreError" "DENY" "Lcom/example/pitlochry/pitlochry/OnStoreError;" (.ref de)) (X_de : Exa Z h0 de "com/example/pitlochry/pitlochry/OnStoreError") (F_optionName_de : Fld Z h0 de "com/example/pitlochry/pitlochry/OnStoreError" "optionName" "Ljava/lang/String;" (.ref oD)) (X_oD : Exa Z h0 oD "java/lang/String") (F_coder_oD : Fld Z h0 oD "java/lang/String" "coder" "B" (.int (0 : Int32))) (F_value_oD : Fld Z h0 oD "java/lang/String" "value" "[B" (.ref bD)) (A_bD : Ary Z h0 bD .byte 4 (fun q => .int (wD q))) (oL bL : Addr) (S_LOCAL : Sta Z h0 "com/example/pitlochry/pitlochry/OnStoreError" "LOCAL" "Lcom/example/pitlochry/pitlochry/OnStoreError;" (.ref lo)) (X_lo : Exa Z h0 lo "com/example/pitlochry/pitlochry/OnStoreError") (F_optionName_lo : Fld Z h0 lo "com/example/pitlochry/pitlochry/OnStoreError" "optionName" "Ljava/lang/String;" (.ref oL)) (X_oL : Exa Z h0 oL "java/lang/String") (F_coder_oL : Fld Z h0 oL "java/lang/String" "coder" "B" (.int (0 : Int32))) (F_value_oL : Fld Z h0 oL "java/lang/String" "value" "[B" (.ref bL)) (A_bL : Ary Z h0 bL .byte 5 (fun q => .int (wL q))) :
    Con l Z consts_1 [] (⟨"com/example/pitlochry/pitlochry/OnStoreError", "named", "(Ljava/lang/String;)Lcom/example/pitlochry/pitlochry/OnStoreError;"⟩ : MethodName) prog_26_method_5_code 6 (some (.object "com/example/pitlochry/pitlochry/OnStoreError")) ({ frames := 2, cells := 1, slots := 3, locals := 28 } : Room) #[(.ref a1)] h0 n0 (fun v h _ => Keep h0 h [] ∧ NM al de lo g N v) := by
  refine Con.of (plainFor_of_name (by first | (simp [plainName, overriddenIn]; done) | decide +kernel)) (elw hw) (L0 := #[.val (.ref a1), .unset, .unset, .unset, .unset, .unset]) (fun m => by first | (simp [entryFrame, mkF, argsToLocals, Value.category]; done) | rfl) ?_
  intro p e s m below meth c T C S
  have Kp := Keep.refl h0 []
  refine g_aconst_null C S dnm_0 (pc' := 1) rfl ?_
  refine g_astoreN C S dnm_1 (pc' := 2) rfl rfl (L' := #[.val (.ref a1), .val .null, .unset, .unset, .unset, .unset]) rfl ?_
  refine g_callS C S (rm := ({ frames := 1, cells := 1, slots := 3, locals := 14 } : Room)) (W := 0) dnm_2 (hw _ (List.mem_of_getElem? (i := 77) rfl)) (hw _ (List.mem_of_getElem? (i := 78) rfl)) (hw _ (List.mem_of_getElem? (i := 75) rfl)) (hw _ (List.mem_of_getElem? (i := 79) rfl)) (by decide) (c_val l Z a0 hw h0 n0 va al de lo S_VALUES X_va A_va Zn) (argsL := []) (r := []) rfl all0 (lenOf pd_13 rfl) rfl (Nat.le_of_eq rfl) (by decide) (by decide) (by decide) (by decide) (pc' := 5) rfl (fun T114 h114 v114 P114 q114 S => ?_)
  obtain ⟨b114, rfl, K114, A_b114⟩ := q114
  have Kp := Kp.trans K114 all0
  have S_VALUES := Sta.keep0 S_VALUES K114
  have S_ALLOW := Sta.keep0 S_ALLOW K114
  have S_DENY := Sta.keep0 S_DENY K114
  have S_LOCAL := Sta.keep0 S_LOCAL K114
  have S_COMPACT_STRINGS := Sta.keep0 S_COMPACT_STRINGS K114
  have A_va := A_va.keep K114 nin0
  have X_va := X_va.keep K114
  have X_al := X_al.keep K114
  have F_optionName_al := F_optionName_al.keep K114 nin0
  have X_oA := X_oA.keep K114
  have F_coder_oA := F_coder_oA.keep K114 nin0
  have F_value_oA := F_value_oA.keep K114 nin0
  have A_bA := A_bA.keep K114 nin0
  have X_de := X_de.keep K114
  have F_optionName_de := F_optionName_de.keep K114 nin0
  have X_oD := X_oD.keep K114
  have F_coder_oD := F_coder_oD.keep K114 nin0
  have F_value_oD := F_value_oD.keep K114 nin0
  have A_bD := A_bD.keep K114 nin0
  have X_lo := X_lo.keep K114
  have F_optionName_lo := F_optionName_lo.keep K114 nin0
  have X_oL := X_oL.keep K114
  have F_coder_oL := F_coder_oL.keep K114 nin0
  have F_value_oL := F_value_oL.keep K114 nin0
  have A_bL := A_bL.keep K114 nin0
  have Zn := Nat.le_trans Zn K114.1
  have X_a1 := X_a1.keep K114
  have F_coder_a1 := F_coder_a1.keep K114 nin0
  have F_value_a1 := F_value_a1.keep K114 nin0
  have A_b1 := A_b1.keep K114 nin0
  show Gl p e below s Z consts_1 _ n0 _ T114 (mkF m 5 #[.val (.ref a1), .val .null, .unset, .unset, .unset, .unset] [(.ref b114)])
  refine g_astoreN C S dnm_5 (pc' := 6) rfl rfl (L' := #[.val (.ref a1), .val .null, .val (.ref b114), .unset, .unset, .unset]) rfl ?_
  refine g_aloadN C S dnm_6 (pc' := 7) rfl rfl rfl ?_
  refine g_arraylength C S (x := (3 : Int32)) dnm_7 A_b114 (by decide) (pc' := 8) rfl ?_
  refine g_istoreN C S dnm_8 (pc' := 9) rfl (L' := #[.val (.ref a1), .val .null, .val (.ref b114), .val (.int (3 : Int32)), .unset, .unset]) rfl ?_
  refine g_iconst C S (0 : Int32) dnm_9 (pc' := 10) rfl rfl ?_
  refine g_istore C S dnm_10 (pc' := 12) rfl (L' := #[.val (.ref a1), .val .null, .val (.ref b114), .val (.int (3 : Int32)), .val (.int (0 : Int32)), .unset]) rfl ?_
  refine g_iload C S dnm_12 (pc' := 14) rfl rfl ?_
  refine g_iloadN C S dnm_14 (pc' := 15) rfl rfl ?_
  refine g_icmp_ge C S dnm_15 (pc' := 45) (pf := 18) (by decide) (by decide) rfl (fun hc15 => absurd (by decide) hc15) (fun hc15 => ?_)
  refine g_aloadN C S dnm_18 (pc' := 19) rfl rfl rfl ?_
  refine g_iload C S dnm_19 (pc' := 21) rfl rfl ?_
  refine g_aaload C S (i := 0) (v := (.ref al)) dnm_21 A_b114 rfl (by decide) (by decide) rfl (pc' := 22) rfl ?_
  refine g_astore C S dnm_22 (pc' := 24) rfl rfl (L' := #[.val (.ref a1), .val .null, .val (.ref b114), .val (.int (3 : Int32)), .val (.int (0 : Int32)), .val (.ref al)]) rfl ?_
  refine g_aload C S dnm_24 (pc' := 26) rfl rfl rfl ?_
  refine g_getF C S dnm_26 (host := "") (Or.inl (hw _ (List.mem_of_getElem? (i := 95) rfl))) Via.refl F_optionName_al (pc' := 29) rfl (fun T115 S => ?_)
  refine g_aloadN C S dnm_29 (pc' := 30) rfl rfl rfl ?_
  refine g_callV C S (rm := ({ frames := 1, cells := 0, slots := 0, locals := 14 } : Room)) (W := 0) dnm_30 (hw _ (List.mem_of_getElem? (i := 97) rfl)) (hw _ (List.mem_of_getElem? (i := 98) rfl)) (fun _ hZ => notFace_of_selects (args := #[]) (mvT hZ (hw _ (List.mem_of_getElem? (i := 100) rfl)))) (hw _ (List.mem_of_getElem? (i := 100) rfl)) (hw _ (List.mem_of_getElem? (i := 99) rfl)) (hw _ (List.mem_of_getElem? (i := 2) rfl)) (hw _ (List.mem_of_getElem? (i := 101) rfl)) (by decide) rfl X_oA (c_eqS l Z a0 hw oA a1 h114 n0 bA b1 5 N wA g (by decide) hN cs hcs S_COMPACT_STRINGS X_oA F_coder_oA F_value_oA A_bA X_a1 F_coder_a1 F_value_a1 A_b1) (argsL := [(.ref a1)]) (r := []) rfl all0 (lenOf pd_14 rfl) rfl (Nat.le_of_eq rfl) (by decide) (by decide) (by decide) (by decide) (pc' := 33) rfl (fun T116 h116 v116 P116 q116 S => ?_)
  obtain ⟨e116, q116⟩ := q116; rw [e116] at S
  obtain ⟨z116, rfl, hzz⟩ := EqAt.val q116
  show Gl p e below s Z consts_1 _ n0 _ T116 (mkF m 33 #[.val (.ref a1), .val .null, .val (.ref b114), .val (.int (3 : Int32)), .val (.int (0 : Int32)), .val (.ref al)] [(.int z116)])
  refine g_if_eq C S dnm_33 (pc' := 39) (pf := 36) (by decide) (by decide) rfl (fun hc33 => ?_) (fun hc33 => ?_)
  · have f0 := EqAt.no hzz hc33
    refine g_iincL C S (1 : Int32) (1 : Int32) dnm_39 (pc' := 42) rfl rfl (by decide) rfl (L' := #[.val (.ref a1), .val .null, .val (.ref b114), .val (.int (3 : Int32)), .val (.int (1 : Int32)), .val (.ref al)]) rfl ?_
    refine g_goto C S dnm_42 (pc' := 12) (by decide) (by decide) ?_
    refine g_iload C S dnm_12 (pc' := 14) rfl rfl ?_
    refine g_iloadN C S dnm_14 (pc' := 15) rfl rfl ?_
    refine g_icmp_ge C S dnm_15 (pc' := 45) (pf := 18) (by decide) (by decide) rfl (fun hc15 => absurd (by decide) hc15) (fun hc15 => ?_)
    refine g_aloadN C S dnm_18 (pc' := 19) rfl rfl rfl ?_
    refine g_iload C S dnm_19 (pc' := 21) rfl rfl ?_
    refine g_aaload C S (i := 1) (v := (.ref de)) dnm_21 A_b114 rfl (by decide) (by decide) rfl (pc' := 22) rfl ?_
    refine g_astore C S dnm_22 (pc' := 24) rfl rfl (L' := #[.val (.ref a1), .val .null, .val (.ref b114), .val (.int (3 : Int32)), .val (.int (1 : Int32)), .val (.ref de)]) rfl ?_
    refine g_aload C S dnm_24 (pc' := 26) rfl rfl rfl ?_
    refine g_getF C S dnm_26 (host := "") (Or.inl (hw _ (List.mem_of_getElem? (i := 95) rfl))) Via.refl F_optionName_de (pc' := 29) rfl (fun T117 S => ?_)
    refine g_aloadN C S dnm_29 (pc' := 30) rfl rfl rfl ?_
    refine g_callV C S (rm := ({ frames := 1, cells := 0, slots := 0, locals := 14 } : Room)) (W := 0) dnm_30 (hw _ (List.mem_of_getElem? (i := 97) rfl)) (hw _ (List.mem_of_getElem? (i := 98) rfl)) (fun _ hZ => notFace_of_selects (args := #[]) (mvT hZ (hw _ (List.mem_of_getElem? (i := 100) rfl)))) (hw _ (List.mem_of_getElem? (i := 100) rfl)) (hw _ (List.mem_of_getElem? (i := 99) rfl)) (hw _ (List.mem_of_getElem? (i := 2) rfl)) (hw _ (List.mem_of_getElem? (i := 101) rfl)) (by decide) rfl X_oD (c_eqS l Z a0 hw oD a1 h114 n0 bD b1 4 N wD g (by decide) hN cs hcs S_COMPACT_STRINGS X_oD F_coder_oD F_value_oD A_bD X_a1 F_coder_a1 F_value_a1 A_b1) (argsL := [(.ref a1)]) (r := []) rfl all0 (lenOf pd_14 rfl) rfl (Nat.le_of_eq rfl) (by decide) (by decide) (by decide) (by decide) (pc' := 33) rfl (fun T118 h118 v118 P118 q118 S => ?_)
    obtain ⟨e118, q118⟩ := q118; rw [e118] at S
    obtain ⟨z118, rfl, hzz⟩ := EqAt.val q118
    show Gl p e below s Z consts_1 _ n0 _ T118 (mkF m 33 #[.val (.ref a1), .val .null, .val (.ref b114), .val (.int (3 : Int32)), .val (.int (1 : Int32)), .val (.ref de)] [(.int z118)])
    refine g_if_eq C S dnm_33 (pc' := 39) (pf := 36) (by decide) (by decide) rfl (fun hc33 => ?_) (fun hc33 => ?_)
    · have f1 := EqAt.no hzz hc33
      refine g_iincL C S (1 : Int32) (2 : Int32) dnm_39 (pc' := 42) rfl rfl (by decide) rfl (L' := #[.val (.ref a1), .val .null, .val (.ref b114), .val (.int (3 : Int32)), .val (.int (2 : Int32)), .val (.ref de)]) rfl ?_
      refine g_goto C S dnm_42 (pc' := 12) (by decide) (by decide) ?_
      refine g_iload C S dnm_12 (pc' := 14) rfl rfl ?_
      refine g_iloadN C S dnm_14 (pc' := 15) rfl rfl ?_
      refine g_icmp_ge C S dnm_15 (pc' := 45) (pf := 18) (by decide) (by decide) rfl (fun hc15 => absurd (by decide) hc15) (fun hc15 => ?_)
      refine g_aloadN C S dnm_18 (pc' := 19) rfl rfl rfl ?_
      refine g_iload C S dnm_19 (pc' := 21) rfl rfl ?_
      refine g_aaload C S (i := 2) (v := (.ref lo)) dnm_21 A_b114 rfl (by decide) (by decide) rfl (pc' := 22) rfl ?_
      refine g_astore C S dnm_22 (pc' := 24) rfl rfl (L' := #[.val (.ref a1), .val .null, .val (.ref b114), .val (.int (3 : Int32)), .val (.int (2 : Int32)), .val (.ref lo)]) rfl ?_
      refine g_aload C S dnm_24 (pc' := 26) rfl rfl rfl ?_
      refine g_getF C S dnm_26 (host := "") (Or.inl (hw _ (List.mem_of_getElem? (i := 95) rfl))) Via.refl F_optionName_lo (pc' := 29) rfl (fun T119 S => ?_)
      refine g_aloadN C S dnm_29 (pc' := 30) rfl rfl rfl ?_
      refine g_callV C S (rm := ({ frames := 1, cells := 0, slots := 0, locals := 14 } : Room)) (W := 0) dnm_30 (hw _ (List.mem_of_getElem? (i := 97) rfl)) (hw _ (List.mem_of_getElem? (i := 98) rfl)) (fun _ hZ => notFace_of_selects (args := #[]) (mvT hZ (hw _ (List.mem_of_getElem? (i := 100) rfl)))) (hw _ (List.mem_of_getElem? (i := 100) rfl)) (hw _ (List.mem_of_getElem? (i := 99) rfl)) (hw _ (List.mem_of_getElem? (i := 2) rfl)) (hw _ (List.mem_of_getElem? (i := 101) rfl)) (by decide) rfl X_oL (c_eqS l Z a0 hw oL a1 h114 n0 bL b1 5 N wL g (by decide) hN cs hcs S_COMPACT_STRINGS X_oL F_coder_oL F_value_oL A_bL X_a1 F_coder_a1 F_value_a1 A_b1) (argsL := [(.ref a1)]) (r := []) rfl all0 (lenOf pd_14 rfl) rfl (Nat.le_of_eq rfl) (by decide) (by decide) (by decide) (by decide) (pc' := 33) rfl (fun T120 h120 v120 P120 q120 S => ?_)
      obtain ⟨e120, q120⟩ := q120; rw [e120] at S
      obtain ⟨z120, rfl, hzz⟩ := EqAt.val q120
      show Gl p e below s Z consts_1 _ n0 _ T120 (mkF m 33 #[.val (.ref a1), .val .null, .val (.ref b114), .val (.int (3 : Int32)), .val (.int (2 : Int32)), .val (.ref lo)] [(.int z120)])
      refine g_if_eq C S dnm_33 (pc' := 39) (pf := 36) (by decide) (by decide) rfl (fun hc33 => ?_) (fun hc33 => ?_)
      · have f2 := EqAt.no hzz hc33
        refine g_iincL C S (1 : Int32) (3 : Int32) dnm_39 (pc' := 42) rfl rfl (by decide) rfl (L' := #[.val (.ref a1), .val .null, .val (.ref b114), .val (.int (3 : Int32)), .val (.int (3 : Int32)), .val (.ref lo)]) rfl ?_
        refine g_goto C S dnm_42 (pc' := 12) (by decide) (by decide) ?_
        refine g_iload C S dnm_12 (pc' := 14) rfl rfl ?_
        refine g_iloadN C S dnm_14 (pc' := 15) rfl rfl ?_
        refine g_icmp_ge C S dnm_15 (pc' := 45) (pf := 18) (by decide) (by decide) rfl (fun hc15 => ?_) (fun hc15 => absurd hc15 (by decide))
        refine g_aloadN C S dnm_45 (pc' := 46) rfl rfl rfl ?_
        exact g_retA C S dnm_46 rfl rfl rfl (by decide) (by decide) (⟨Kp, Or.inr (Or.inr (Or.inr ⟨f0, f1, f2, rfl⟩))⟩)
      · have f2 := EqAt.yes hzz hc33
        refine g_aload C S dnm_36 (pc' := 38) rfl rfl rfl ?_
        refine g_astoreN C S dnm_38 (pc' := 39) rfl rfl (L' := #[.val (.ref a1), .val (.ref lo), .val (.ref b114), .val (.int (3 : Int32)), .val (.int (2 : Int32)), .val (.ref lo)]) rfl ?_
        refine g_iincL C S (1 : Int32) (3 : Int32) dnm_39 (pc' := 42) rfl rfl (by decide) rfl (L' := #[.val (.ref a1), .val (.ref lo), .val (.ref b114), .val (.int (3 : Int32)), .val (.int (3 : Int32)), .val (.ref lo)]) rfl ?_
        refine g_goto C S dnm_42 (pc' := 12) (by decide) (by decide) ?_
        refine g_iload C S dnm_12 (pc' := 14) rfl rfl ?_
        refine g_iloadN C S dnm_14 (pc' := 15) rfl rfl ?_
        refine g_icmp_ge C S dnm_15 (pc' := 45) (pf := 18) (by decide) (by decide) rfl (fun hc15 => ?_) (fun hc15 => absurd hc15 (by decide))
        refine g_aloadN C S dnm_45 (pc' := 46) rfl rfl rfl ?_
        exact g_retA C S dnm_46 rfl rfl rfl (by decide) (by decide) (⟨Kp, Or.inr (Or.inr (Or.inl ⟨f2, rfl⟩))⟩)
    · have f1 := EqAt.yes hzz hc33
      refine g_aload C S dnm_36 (pc' := 38) rfl rfl rfl ?_
      refine g_astoreN C S dnm_38 (pc' := 39) rfl rfl (L' := #[.val (.ref a1), .val (.ref de), .val (.ref b114), .val (.int (3 : Int32)), .val (.int (1 : Int32)), .val (.ref de)]) rfl ?_
      refine g_iincL C S (1 : Int32) (2 : Int32) dnm_39 (pc' := 42) rfl rfl (by decide) rfl (L' := #[.val (.ref a1), .val (.ref de), .val (.ref b114), .val (.int (3 : Int32)), .val (.int (2 : Int32)), .val (.ref de)]) rfl ?_
      refine g_goto C S dnm_42 (pc' := 12) (by decide) (by decide) ?_
      refine g_iload C S dnm_12 (pc' := 14) rfl rfl ?_
      refine g_iloadN C S dnm_14 (pc' := 15) rfl rfl ?_
      refine g_icmp_ge C S dnm_15 (pc' := 45) (pf := 18) (by decide) (by decide) rfl (fun hc15 => absurd (by decide) hc15) (fun hc15 => ?_)
      refine g_aloadN C S dnm_18 (pc' := 19) rfl rfl rfl ?_
      refine g_iload C S dnm_19 (pc' := 21) rfl rfl ?_
      refine g_aaload C S (i := 2) (v := (.ref lo)) dnm_21 A_b114 rfl (by decide) (by decide) rfl (pc' := 22) rfl ?_
      refine g_astore C S dnm_22 (pc' := 24) rfl rfl (L' := #[.val (.ref a1), .val (.ref de), .val (.ref b114), .val (.int (3 : Int32)), .val (.int (2 : Int32)), .val (.ref lo)]) rfl ?_
      refine g_aload C S dnm_24 (pc' := 26) rfl rfl rfl ?_
      refine g_getF C S dnm_26 (host := "") (Or.inl (hw _ (List.mem_of_getElem? (i := 95) rfl))) Via.refl F_optionName_lo (pc' := 29) rfl (fun T121 S => ?_)
      refine g_aloadN C S dnm_29 (pc' := 30) rfl rfl rfl ?_
      refine g_callV C S (rm := ({ frames := 1, cells := 0, slots := 0, locals := 14 } : Room)) (W := 0) dnm_30 (hw _ (List.mem_of_getElem? (i := 97) rfl)) (hw _ (List.mem_of_getElem? (i := 98) rfl)) (fun _ hZ => notFace_of_selects (args := #[]) (mvT hZ (hw _ (List.mem_of_getElem? (i := 100) rfl)))) (hw _ (List.mem_of_getElem? (i := 100) rfl)) (hw _ (List.mem_of_getElem? (i := 99) rfl)) (hw _ (List.mem_of_getElem? (i := 2) rfl)) (hw _ (List.mem_of_getElem? (i := 101) rfl)) (by decide) rfl X_oL (c_eqS l Z a0 hw oL a1 h114 n0 bL b1 5 N wL g (by decide) hN cs hcs S_COMPACT_STRINGS X_oL F_coder_oL F_value_oL A_bL X_a1 F_coder_a1 F_value_a1 A_b1) (argsL := [(.ref a1)]) (r := []) rfl all0 (lenOf pd_14 rfl) rfl (Nat.le_of_eq rfl) (by decide) (by decide) (by decide) (by decide) (pc' := 33) rfl (fun T122 h122 v122 P122 q122 S => ?_)
      obtain ⟨e122, q122⟩ := q122; rw [e122] at S
      obtain ⟨z122, rfl, hzz⟩ := EqAt.val q122
      show Gl p e below s Z consts_1 _ n0 _ T122 (mkF m 33 #[.val (.ref a1), .val (.ref de), .val (.ref b114), .val (.int (3 : Int32)), .val (.int (2 : Int32)), .val (.ref lo)] [(.int z122)])
      refine g_if_eq C S dnm_33 (pc' := 39) (pf := 36) (by decide) (by decide) rfl (fun hc33 => ?_) (fun hc33 => ?_)
      · have f2 := EqAt.no hzz hc33
        refine g_iincL C S (1 : Int32) (3 : Int32) dnm_39 (pc' := 42) rfl rfl (by decide) rfl (L' := #[.val (.ref a1), .val (.ref de), .val (.ref b114), .val (.int (3 : Int32)), .val (.int (3 : Int32)), .val (.ref lo)]) rfl ?_
        refine g_goto C S dnm_42 (pc' := 12) (by decide) (by decide) ?_
        refine g_iload C S dnm_12 (pc' := 14) rfl rfl ?_
        refine g_iloadN C S dnm_14 (pc' := 15) rfl rfl ?_
        refine g_icmp_ge C S dnm_15 (pc' := 45) (pf := 18) (by decide) (by decide) rfl (fun hc15 => ?_) (fun hc15 => absurd hc15 (by decide))
        refine g_aloadN C S dnm_45 (pc' := 46) rfl rfl rfl ?_
        exact g_retA C S dnm_46 rfl rfl rfl (by decide) (by decide) (⟨Kp, Or.inr (Or.inl ⟨f1, rfl⟩)⟩)
      · have f2 := EqAt.yes hzz hc33
        refine g_aload C S dnm_36 (pc' := 38) rfl rfl rfl ?_
        refine g_astoreN C S dnm_38 (pc' := 39) rfl rfl (L' := #[.val (.ref a1), .val (.ref lo), .val (.ref b114), .val (.int (3 : Int32)), .val (.int (2 : Int32)), .val (.ref lo)]) rfl ?_
        refine g_iincL C S (1 : Int32) (3 : Int32) dnm_39 (pc' := 42) rfl rfl (by decide) rfl (L' := #[.val (.ref a1), .val (.ref lo), .val (.ref b114), .val (.int (3 : Int32)), .val (.int (3 : Int32)), .val (.ref lo)]) rfl ?_
        refine g_goto C S dnm_42 (pc' := 12) (by decide) (by decide) ?_
        refine g_iload C S dnm_12 (pc' := 14) rfl rfl ?_
        refine g_iloadN C S dnm_14 (pc' := 15) rfl rfl ?_
        refine g_icmp_ge C S dnm_15 (pc' := 45) (pf := 18) (by decide) (by decide) rfl (fun hc15 => ?_) (fun hc15 => absurd hc15 (by decide))
        refine g_aloadN C S dnm_45 (pc' := 46) rfl rfl rfl ?_
        exact g_retA C S dnm_46 rfl rfl rfl (by decide) (by decide) (⟨Kp, (disDL f1 f2).elim⟩)
  · have f0 := EqAt.yes hzz hc33
    refine g_aload C S dnm_36 (pc' := 38) rfl rfl rfl ?_
    refine g_astoreN C S dnm_38 (pc' := 39) rfl rfl (L' := #[.val (.ref a1), .val (.ref al), .val (.ref b114), .val (.int (3 : Int32)), .val (.int (0 : Int32)), .val (.ref al)]) rfl ?_
    refine g_iincL C S (1 : Int32) (1 : Int32) dnm_39 (pc' := 42) rfl rfl (by decide) rfl (L' := #[.val (.ref a1), .val (.ref al), .val (.ref b114), .val (.int (3 : Int32)), .val (.int (1 : Int32)), .val (.ref al)]) rfl ?_
    refine g_goto C S dnm_42 (pc' := 12) (by decide) (by decide) ?_
    refine g_iload C S dnm_12 (pc' := 14) rfl rfl ?_
    refine g_iloadN C S dnm_14 (pc' := 15) rfl rfl ?_
    refine g_icmp_ge C S dnm_15 (pc' := 45) (pf := 18) (by decide) (by decide) rfl (fun hc15 => absurd (by decide) hc15) (fun hc15 => ?_)
    refine g_aloadN C S dnm_18 (pc' := 19) rfl rfl rfl ?_
    refine g_iload C S dnm_19 (pc' := 21) rfl rfl ?_
    refine g_aaload C S (i := 1) (v := (.ref de)) dnm_21 A_b114 rfl (by decide) (by decide) rfl (pc' := 22) rfl ?_
    refine g_astore C S dnm_22 (pc' := 24) rfl rfl (L' := #[.val (.ref a1), .val (.ref al), .val (.ref b114), .val (.int (3 : Int32)), .val (.int (1 : Int32)), .val (.ref de)]) rfl ?_
    refine g_aload C S dnm_24 (pc' := 26) rfl rfl rfl ?_
    refine g_getF C S dnm_26 (host := "") (Or.inl (hw _ (List.mem_of_getElem? (i := 95) rfl))) Via.refl F_optionName_de (pc' := 29) rfl (fun T123 S => ?_)
    refine g_aloadN C S dnm_29 (pc' := 30) rfl rfl rfl ?_
    refine g_callV C S (rm := ({ frames := 1, cells := 0, slots := 0, locals := 14 } : Room)) (W := 0) dnm_30 (hw _ (List.mem_of_getElem? (i := 97) rfl)) (hw _ (List.mem_of_getElem? (i := 98) rfl)) (fun _ hZ => notFace_of_selects (args := #[]) (mvT hZ (hw _ (List.mem_of_getElem? (i := 100) rfl)))) (hw _ (List.mem_of_getElem? (i := 100) rfl)) (hw _ (List.mem_of_getElem? (i := 99) rfl)) (hw _ (List.mem_of_getElem? (i := 2) rfl)) (hw _ (List.mem_of_getElem? (i := 101) rfl)) (by decide) rfl X_oD (c_eqS l Z a0 hw oD a1 h114 n0 bD b1 4 N wD g (by decide) hN cs hcs S_COMPACT_STRINGS X_oD F_coder_oD F_value_oD A_bD X_a1 F_coder_a1 F_value_a1 A_b1) (argsL := [(.ref a1)]) (r := []) rfl all0 (lenOf pd_14 rfl) rfl (Nat.le_of_eq rfl) (by decide) (by decide) (by decide) (by decide) (pc' := 33) rfl (fun T124 h124 v124 P124 q124 S => ?_)
    obtain ⟨e124, q124⟩ := q124; rw [e124] at S
    obtain ⟨z124, rfl, hzz⟩ := EqAt.val q124
    show Gl p e below s Z consts_1 _ n0 _ T124 (mkF m 33 #[.val (.ref a1), .val (.ref al), .val (.ref b114), .val (.int (3 : Int32)), .val (.int (1 : Int32)), .val (.ref de)] [(.int z124)])
    refine g_if_eq C S dnm_33 (pc' := 39) (pf := 36) (by decide) (by decide) rfl (fun hc33 => ?_) (fun hc33 => ?_)
    · have f1 := EqAt.no hzz hc33
      refine g_iincL C S (1 : Int32) (2 : Int32) dnm_39 (pc' := 42) rfl rfl (by decide) rfl (L' := #[.val (.ref a1), .val (.ref al), .val (.ref b114), .val (.int (3 : Int32)), .val (.int (2 : Int32)), .val (.ref de)]) rfl ?_
      refine g_goto C S dnm_42 (pc' := 12) (by decide) (by decide) ?_
      refine g_iload C S dnm_12 (pc' := 14) rfl rfl ?_
      refine g_iloadN C S dnm_14 (pc' := 15) rfl rfl ?_
      refine g_icmp_ge C S dnm_15 (pc' := 45) (pf := 18) (by decide) (by decide) rfl (fun hc15 => absurd (by decide) hc15) (fun hc15 => ?_)
      refine g_aloadN C S dnm_18 (pc' := 19) rfl rfl rfl ?_
      refine g_iload C S dnm_19 (pc' := 21) rfl rfl ?_
      refine g_aaload C S (i := 2) (v := (.ref lo)) dnm_21 A_b114 rfl (by decide) (by decide) rfl (pc' := 22) rfl ?_
      refine g_astore C S dnm_22 (pc' := 24) rfl rfl (L' := #[.val (.ref a1), .val (.ref al), .val (.ref b114), .val (.int (3 : Int32)), .val (.int (2 : Int32)), .val (.ref lo)]) rfl ?_
      refine g_aload C S dnm_24 (pc' := 26) rfl rfl rfl ?_
      refine g_getF C S dnm_26 (host := "") (Or.inl (hw _ (List.mem_of_getElem? (i := 95) rfl))) Via.refl F_optionName_lo (pc' := 29) rfl (fun T125 S => ?_)
      refine g_aloadN C S dnm_29 (pc' := 30) rfl rfl rfl ?_
      refine g_callV C S (rm := ({ frames := 1, cells := 0, slots := 0, locals := 14 } : Room)) (W := 0) dnm_30 (hw _ (List.mem_of_getElem? (i := 97) rfl)) (hw _ (List.mem_of_getElem? (i := 98) rfl)) (fun _ hZ => notFace_of_selects (args := #[]) (mvT hZ (hw _ (List.mem_of_getElem? (i := 100) rfl)))) (hw _ (List.mem_of_getElem? (i := 100) rfl)) (hw _ (List.mem_of_getElem? (i := 99) rfl)) (hw _ (List.mem_of_getElem? (i := 2) rfl)) (hw _ (List.mem_of_getElem? (i := 101) rfl)) (by decide) rfl X_oL (c_eqS l Z a0 hw oL a1 h114 n0 bL b1 5 N wL g (by decide) hN cs hcs S_COMPACT_STRINGS X_oL F_coder_oL F_value_oL A_bL X_a1 F_coder_a1 F_value_a1 A_b1) (argsL := [(.ref a1)]) (r := []) rfl all0 (lenOf pd_14 rfl) rfl (Nat.le_of_eq rfl) (by decide) (by decide) (by decide) (by decide) (pc' := 33) rfl (fun T126 h126 v126 P126 q126 S => ?_)
      obtain ⟨e126, q126⟩ := q126; rw [e126] at S
      obtain ⟨z126, rfl, hzz⟩ := EqAt.val q126
      show Gl p e below s Z consts_1 _ n0 _ T126 (mkF m 33 #[.val (.ref a1), .val (.ref al), .val (.ref b114), .val (.int (3 : Int32)), .val (.int (2 : Int32)), .val (.ref lo)] [(.int z126)])
      refine g_if_eq C S dnm_33 (pc' := 39) (pf := 36) (by decide) (by decide) rfl (fun hc33 => ?_) (fun hc33 => ?_)
      · have f2 := EqAt.no hzz hc33
        refine g_iincL C S (1 : Int32) (3 : Int32) dnm_39 (pc' := 42) rfl rfl (by decide) rfl (L' := #[.val (.ref a1), .val (.ref al), .val (.ref b114), .val (.int (3 : Int32)), .val (.int (3 : Int32)), .val (.ref lo)]) rfl ?_
        refine g_goto C S dnm_42 (pc' := 12) (by decide) (by decide) ?_
        refine g_iload C S dnm_12 (pc' := 14) rfl rfl ?_
        refine g_iloadN C S dnm_14 (pc' := 15) rfl rfl ?_
        refine g_icmp_ge C S dnm_15 (pc' := 45) (pf := 18) (by decide) (by decide) rfl (fun hc15 => ?_) (fun hc15 => absurd hc15 (by decide))
        refine g_aloadN C S dnm_45 (pc' := 46) rfl rfl rfl ?_
        exact g_retA C S dnm_46 rfl rfl rfl (by decide) (by decide) (⟨Kp, Or.inl ⟨f0, rfl⟩⟩)
      · have f2 := EqAt.yes hzz hc33
        refine g_aload C S dnm_36 (pc' := 38) rfl rfl rfl ?_
        refine g_astoreN C S dnm_38 (pc' := 39) rfl rfl (L' := #[.val (.ref a1), .val (.ref lo), .val (.ref b114), .val (.int (3 : Int32)), .val (.int (2 : Int32)), .val (.ref lo)]) rfl ?_
        refine g_iincL C S (1 : Int32) (3 : Int32) dnm_39 (pc' := 42) rfl rfl (by decide) rfl (L' := #[.val (.ref a1), .val (.ref lo), .val (.ref b114), .val (.int (3 : Int32)), .val (.int (3 : Int32)), .val (.ref lo)]) rfl ?_
        refine g_goto C S dnm_42 (pc' := 12) (by decide) (by decide) ?_
        refine g_iload C S dnm_12 (pc' := 14) rfl rfl ?_
        refine g_iloadN C S dnm_14 (pc' := 15) rfl rfl ?_
        refine g_icmp_ge C S dnm_15 (pc' := 45) (pf := 18) (by decide) (by decide) rfl (fun hc15 => ?_) (fun hc15 => absurd hc15 (by decide))
        refine g_aloadN C S dnm_45 (pc' := 46) rfl rfl rfl ?_
        exact g_retA C S dnm_46 rfl rfl rfl (by decide) (by decide) (⟨Kp, (disAL f0 f2).elim⟩)
    · have f1 := EqAt.yes hzz hc33
      refine g_aload C S dnm_36 (pc' := 38) rfl rfl rfl ?_
      refine g_astoreN C S dnm_38 (pc' := 39) rfl rfl (L' := #[.val (.ref a1), .val (.ref de), .val (.ref b114), .val (.int (3 : Int32)), .val (.int (1 : Int32)), .val (.ref de)]) rfl ?_
      refine g_iincL C S (1 : Int32) (2 : Int32) dnm_39 (pc' := 42) rfl rfl (by decide) rfl (L' := #[.val (.ref a1), .val (.ref de), .val (.ref b114), .val (.int (3 : Int32)), .val (.int (2 : Int32)), .val (.ref de)]) rfl ?_
      refine g_goto C S dnm_42 (pc' := 12) (by decide) (by decide) ?_
      refine g_iload C S dnm_12 (pc' := 14) rfl rfl ?_
      refine g_iloadN C S dnm_14 (pc' := 15) rfl rfl ?_
      refine g_icmp_ge C S dnm_15 (pc' := 45) (pf := 18) (by decide) (by decide) rfl (fun hc15 => absurd (by decide) hc15) (fun hc15 => ?_)
      refine g_aloadN C S dnm_18 (pc' := 19) rfl rfl rfl ?_
      refine g_iload C S dnm_19 (pc' := 21) rfl rfl ?_
      refine g_aaload C S (i := 2) (v := (.ref lo)) dnm_21 A_b114 rfl (by decide) (by decide) rfl (pc' := 22) rfl ?_
      refine g_astore C S dnm_22 (pc' := 24) rfl rfl (L' := #[.val (.ref a1), .val (.ref de), .val (.ref b114), .val (.int (3 : Int32)), .val (.int (2 : Int32)), .val (.ref lo)]) rfl ?_
      refine g_aload C S dnm_24 (pc' := 26) rfl rfl rfl ?_
      refine g_getF C S dnm_26 (host := "") (Or.inl (hw _ (List.mem_of_getElem? (i := 95) rfl))) Via.refl F_optionName_lo (pc' := 29) rfl (fun T127 S => ?_)
      refine g_aloadN C S dnm_29 (pc' := 30) rfl rfl rfl ?_
      refine g_callV C S (rm := ({ frames := 1, cells := 0, slots := 0, locals := 14 } : Room)) (W := 0) dnm_30 (hw _ (List.mem_of_getElem? (i := 97) rfl)) (hw _ (List.mem_of_getElem? (i := 98) rfl)) (fun _ hZ => notFace_of_selects (args := #[]) (mvT hZ (hw _ (List.mem_of_getElem? (i := 100) rfl)))) (hw _ (List.mem_of_getElem? (i := 100) rfl)) (hw _ (List.mem_of_getElem? (i := 99) rfl)) (hw _ (List.mem_of_getElem? (i := 2) rfl)) (hw _ (List.mem_of_getElem? (i := 101) rfl)) (by decide) rfl X_oL (c_eqS l Z a0 hw oL a1 h114 n0 bL b1 5 N wL g (by decide) hN cs hcs S_COMPACT_STRINGS X_oL F_coder_oL F_value_oL A_bL X_a1 F_coder_a1 F_value_a1 A_b1) (argsL := [(.ref a1)]) (r := []) rfl all0 (lenOf pd_14 rfl) rfl (Nat.le_of_eq rfl) (by decide) (by decide) (by decide) (by decide) (pc' := 33) rfl (fun T128 h128 v128 P128 q128 S => ?_)
      obtain ⟨e128, q128⟩ := q128; rw [e128] at S
      obtain ⟨z128, rfl, hzz⟩ := EqAt.val q128
      show Gl p e below s Z consts_1 _ n0 _ T128 (mkF m 33 #[.val (.ref a1), .val (.ref de), .val (.ref b114), .val (.int (3 : Int32)), .val (.int (2 : Int32)), .val (.ref lo)] [(.int z128)])
      refine g_if_eq C S dnm_33 (pc' := 39) (pf := 36) (by decide) (by decide) rfl (fun hc33 => ?_) (fun hc33 => ?_)
      · have f2 := EqAt.no hzz hc33
        refine g_iincL C S (1 : Int32) (3 : Int32) dnm_39 (pc' := 42) rfl rfl (by decide) rfl (L' := #[.val (.ref a1), .val (.ref de), .val (.ref b114), .val (.int (3 : Int32)), .val (.int (3 : Int32)), .val (.ref lo)]) rfl ?_
        refine g_goto C S dnm_42 (pc' := 12) (by decide) (by decide) ?_
        refine g_iload C S dnm_12 (pc' := 14) rfl rfl ?_
        refine g_iloadN C S dnm_14 (pc' := 15) rfl rfl ?_
        refine g_icmp_ge C S dnm_15 (pc' := 45) (pf := 18) (by decide) (by decide) rfl (fun hc15 => ?_) (fun hc15 => absurd hc15 (by decide))
        refine g_aloadN C S dnm_45 (pc' := 46) rfl rfl rfl ?_
        exact g_retA C S dnm_46 rfl rfl rfl (by decide) (by decide) (⟨Kp, (disAD f0 f1).elim⟩)
      · have f2 := EqAt.yes hzz hc33
        refine g_aload C S dnm_36 (pc' := 38) rfl rfl rfl ?_
        refine g_astoreN C S dnm_38 (pc' := 39) rfl rfl (L' := #[.val (.ref a1), .val (.ref lo), .val (.ref b114), .val (.int (3 : Int32)), .val (.int (2 : Int32)), .val (.ref lo)]) rfl ?_
        refine g_iincL C S (1 : Int32) (3 : Int32) dnm_39 (pc' := 42) rfl rfl (by decide) rfl (L' := #[.val (.ref a1), .val (.ref lo), .val (.ref b114), .val (.int (3 : Int32)), .val (.int (3 : Int32)), .val (.ref lo)]) rfl ?_
        refine g_goto C S dnm_42 (pc' := 12) (by decide) (by decide) ?_
        refine g_iload C S dnm_12 (pc' := 14) rfl rfl ?_
        refine g_iloadN C S dnm_14 (pc' := 15) rfl rfl ?_
        refine g_icmp_ge C S dnm_15 (pc' := 45) (pf := 18) (by decide) (by decide) rfl (fun hc15 => ?_) (fun hc15 => absurd hc15 (by decide))
        refine g_aloadN C S dnm_45 (pc' := 46) rfl rfl rfl ?_
        exact g_retA C S dnm_46 rfl rfl rfl (by decide) (by decide) (⟨Kp, (disAD f0 f1).elim⟩)
set_option maxRecDepth 65536 in
set_option maxHeartbeats 40000000 in
theorem c_nmN (l : Launch) (Z : State) (a0 : Array Value) (hw : ∀ d ∈ tables_1, d.before a0 Z = true)  (h0 : Heap) (n0 : Nat) (cs : Int32) (hcs : ¬ cs = 0) (S_COMPACT_STRINGS : Sta Z h0 "java/lang/String" "COMPACT_STRINGS" "Z" (.int cs)) (Zn : n0 ≤ h0.size) (va al de lo : Addr) (S_VALUES : Sta Z h0 "com/example/pitlochry/pitlochry/OnStoreError" "$VALUES" "[Lcom/example/pitlochry/pitlochry/OnStoreError;" (.ref va)) (X_va : Exa Z h0 va "[Lcom/example/pitlochry/pitlochry/OnStoreError;") (A_va : Cln Z h0 va (.object "com/example/pitlochry/pitlochry/OnStoreError") 3 (fun q => [Value.ref al, .ref de, .ref lo].getD q .null)) (oA bA : Addr) (S_ALLOW : Sta Z h0 "com/example/pitlochry/pitlochry/OnStoreError" "ALLOW" "Lcom/example/pitlochry/pitlochry/OnStoreError;" (.ref al)) (X_al : Exa Z h0 al "com/example/pitlochry/pitlochry/OnStoreError") (F_optionName_al : Fld Z h0 al "com/example/pitlochry/pitlochry/OnStoreError" "optionName" "Ljava/lang/String;" (.ref oA)) (X_oA : Exa Z h0 oA "java/lang/String") (F_coder_oA : Fld Z h0 oA "java/lang/String" "coder" "B" (.int (0 : Int32))) (F_value_oA : Fld Z h0 oA "java/lang/String" "value" "[B" (.ref bA)) (A_bA : Ary Z h0 bA .byte 5 (fun q => .int (wA q))) (oD bD : Addr) (S_DENY : Sta Z h0 "com/example/pitlochry/pitlochry/OnStoreError" "DENY" "Lcom/example/pitlochry/pitlochry/OnStoreError;" (.ref de)) (X_de : Exa Z h0 de "com/example/pitlochry/pitlochry/OnStoreError") (F_optionName_de : Fld Z h0 de "com/example/pitlochry/pitlochry/OnStoreError" "optionName" "Ljava/lang/String;" (.ref oD)) (X_oD : Exa Z h0 oD "java/lang/String") (F_coder_oD : Fld Z h0 oD "java/lang/String" "coder" "B" (.int (0 : Int32))) (F_value_oD : Fld Z h0 oD "java/lang/String" "value" "[B" (.ref bD)) (A_bD : Ary Z h0 bD .byte 4 (fun q => .int (wD q))) (oL bL : Addr) (S_LOCAL : Sta Z h0 "com/example/pitlochry/pitlochry/OnStoreError" "LOCAL" "Lcom/example/pitlochry/pitlochry/OnStoreError;" (.ref lo)) (X_lo : Exa Z h0 lo "com/example/pitlochry/pitlochry/OnStoreError") (F_optionName_lo : Fld Z h0 lo "com/example/pitlochry/pitlochry/OnStoreError" "optionName" "Ljava/lang/String;" (.ref oL)) (X_oL : Exa Z h0 oL "java/lang/String") (F_coder_oL : Fld Z h0 oL "java/lang/String" "coder" "B" (.int (0 : Int32))) (F_value_oL : Fld Z h0 oL "java/lang/String" "value" "[B" (.ref bL)) (A_bL : Ary Z h0 bL .byte 5 (fun q => .int (wL q))) :
    Con l Z consts_1 [] (⟨"com/example/pitlochry/pitlochry/OnStoreError", "named", "(Ljava/lang/String;)Lcom/example/pitlochry/pitlochry/OnStoreError;"⟩ : MethodName) prog_26_method_5_code 6 (some (.object "com/example/pitlochry/pitlochry/OnStoreError")) ({ frames := 2, cells := 1, slots := 3, locals := 28 } : Room) #[.null] h0 n0 (fun v h _ => v = some .null ∧ Keep h0 h []) := by
  refine Con.of (plainFor_of_name (by first | (simp [plainName, overriddenIn]; done) | decide +kernel)) (elw hw) (L0 := #[.val .null, .unset, .unset, .unset, .unset, .unset]) (fun m => by first | (simp [entryFrame, mkF, argsToLocals, Value.category]; done) | rfl) ?_
  intro p e s m below meth c T C S
  have Kp := Keep.refl h0 []
  refine g_aconst_null C S dnm_0 (pc' := 1) rfl ?_
  refine g_astoreN C S dnm_1 (pc' := 2) rfl rfl (L' := #[.val .null, .val .null, .unset, .unset, .unset, .unset]) rfl ?_
  refine g_callS C S (rm := ({ frames := 1, cells := 1, slots := 3, locals := 14 } : Room)) (W := 0) dnm_2 (hw _ (List.mem_of_getElem? (i := 77) rfl)) (hw _ (List.mem_of_getElem? (i := 78) rfl)) (hw _ (List.mem_of_getElem? (i := 75) rfl)) (hw _ (List.mem_of_getElem? (i := 79) rfl)) (by decide) (c_val l Z a0 hw h0 n0 va al de lo S_VALUES X_va A_va Zn) (argsL := []) (r := []) rfl all0 (lenOf pd_13 rfl) rfl (Nat.le_of_eq rfl) (by decide) (by decide) (by decide) (by decide) (pc' := 5) rfl (fun T129 h129 v129 P129 q129 S => ?_)
  obtain ⟨b129, rfl, K129, A_b129⟩ := q129
  have Kp := Kp.trans K129 all0
  have S_VALUES := Sta.keep0 S_VALUES K129
  have S_ALLOW := Sta.keep0 S_ALLOW K129
  have S_DENY := Sta.keep0 S_DENY K129
  have S_LOCAL := Sta.keep0 S_LOCAL K129
  have S_COMPACT_STRINGS := Sta.keep0 S_COMPACT_STRINGS K129
  have A_va := A_va.keep K129 nin0
  have X_va := X_va.keep K129
  have X_al := X_al.keep K129
  have F_optionName_al := F_optionName_al.keep K129 nin0
  have X_oA := X_oA.keep K129
  have F_coder_oA := F_coder_oA.keep K129 nin0
  have F_value_oA := F_value_oA.keep K129 nin0
  have A_bA := A_bA.keep K129 nin0
  have X_de := X_de.keep K129
  have F_optionName_de := F_optionName_de.keep K129 nin0
  have X_oD := X_oD.keep K129
  have F_coder_oD := F_coder_oD.keep K129 nin0
  have F_value_oD := F_value_oD.keep K129 nin0
  have A_bD := A_bD.keep K129 nin0
  have X_lo := X_lo.keep K129
  have F_optionName_lo := F_optionName_lo.keep K129 nin0
  have X_oL := X_oL.keep K129
  have F_coder_oL := F_coder_oL.keep K129 nin0
  have F_value_oL := F_value_oL.keep K129 nin0
  have A_bL := A_bL.keep K129 nin0
  have Zn := Nat.le_trans Zn K129.1
  show Gl p e below s Z consts_1 _ n0 _ T129 (mkF m 5 #[.val .null, .val .null, .unset, .unset, .unset, .unset] [(.ref b129)])
  refine g_astoreN C S dnm_5 (pc' := 6) rfl rfl (L' := #[.val .null, .val .null, .val (.ref b129), .unset, .unset, .unset]) rfl ?_
  refine g_aloadN C S dnm_6 (pc' := 7) rfl rfl rfl ?_
  refine g_arraylength C S (x := (3 : Int32)) dnm_7 A_b129 (by decide) (pc' := 8) rfl ?_
  refine g_istoreN C S dnm_8 (pc' := 9) rfl (L' := #[.val .null, .val .null, .val (.ref b129), .val (.int (3 : Int32)), .unset, .unset]) rfl ?_
  refine g_iconst C S (0 : Int32) dnm_9 (pc' := 10) rfl rfl ?_
  refine g_istore C S dnm_10 (pc' := 12) rfl (L' := #[.val .null, .val .null, .val (.ref b129), .val (.int (3 : Int32)), .val (.int (0 : Int32)), .unset]) rfl ?_
  refine g_iload C S dnm_12 (pc' := 14) rfl rfl ?_
  refine g_iloadN C S dnm_14 (pc' := 15) rfl rfl ?_
  refine g_icmp_ge C S dnm_15 (pc' := 45) (pf := 18) (by decide) (by decide) rfl (fun hc15 => absurd (by decide) hc15) (fun hc15 => ?_)
  refine g_aloadN C S dnm_18 (pc' := 19) rfl rfl rfl ?_
  refine g_iload C S dnm_19 (pc' := 21) rfl rfl ?_
  refine g_aaload C S (i := 0) (v := (.ref al)) dnm_21 A_b129 rfl (by decide) (by decide) rfl (pc' := 22) rfl ?_
  refine g_astore C S dnm_22 (pc' := 24) rfl rfl (L' := #[.val .null, .val .null, .val (.ref b129), .val (.int (3 : Int32)), .val (.int (0 : Int32)), .val (.ref al)]) rfl ?_
  refine g_aload C S dnm_24 (pc' := 26) rfl rfl rfl ?_
  refine g_getF C S dnm_26 (host := "") (Or.inl (hw _ (List.mem_of_getElem? (i := 95) rfl))) Via.refl F_optionName_al (pc' := 29) rfl (fun T130 S => ?_)
  refine g_aloadN C S dnm_29 (pc' := 30) rfl rfl rfl ?_
  refine g_callV C S (rm := ({ frames := 0, cells := 0, slots := 0, locals := 0 } : Room)) (W := 0) dnm_30 (hw _ (List.mem_of_getElem? (i := 97) rfl)) (hw _ (List.mem_of_getElem? (i := 98) rfl)) (fun _ hZ => notFace_of_selects (args := #[]) (mvT hZ (hw _ (List.mem_of_getElem? (i := 100) rfl)))) (hw _ (List.mem_of_getElem? (i := 100) rfl)) (hw _ (List.mem_of_getElem? (i := 99) rfl)) (hw _ (List.mem_of_getElem? (i := 2) rfl)) (hw _ (List.mem_of_getElem? (i := 101) rfl)) (by decide) rfl X_oA (c_eqN l Z a0 hw oA h129 n0) (argsL := [.null]) (r := []) rfl all0 (lenOf pd_14 rfl) rfl (Nat.le_of_eq rfl) (by decide) (by decide) (by decide) (by decide) (pc' := 33) rfl (fun T131 h131 v131 P131 q131 S => ?_)
  obtain ⟨rfl, e131⟩ := q131; rw [e131] at S
  show Gl p e below s Z consts_1 _ n0 _ T131 (mkF m 33 #[.val .null, .val .null, .val (.ref b129), .val (.int (3 : Int32)), .val (.int (0 : Int32)), .val (.ref al)] [(.int (0 : Int32))])
  refine g_if_eq C S dnm_33 (pc' := 39) (pf := 36) (by decide) (by decide) rfl (fun hc33 => ?_) (fun hc33 => absurd rfl hc33)
  refine g_iincL C S (1 : Int32) (1 : Int32) dnm_39 (pc' := 42) rfl rfl (by decide) rfl (L' := #[.val .null, .val .null, .val (.ref b129), .val (.int (3 : Int32)), .val (.int (1 : Int32)), .val (.ref al)]) rfl ?_
  refine g_goto C S dnm_42 (pc' := 12) (by decide) (by decide) ?_
  refine g_iload C S dnm_12 (pc' := 14) rfl rfl ?_
  refine g_iloadN C S dnm_14 (pc' := 15) rfl rfl ?_
  refine g_icmp_ge C S dnm_15 (pc' := 45) (pf := 18) (by decide) (by decide) rfl (fun hc15 => absurd (by decide) hc15) (fun hc15 => ?_)
  refine g_aloadN C S dnm_18 (pc' := 19) rfl rfl rfl ?_
  refine g_iload C S dnm_19 (pc' := 21) rfl rfl ?_
  refine g_aaload C S (i := 1) (v := (.ref de)) dnm_21 A_b129 rfl (by decide) (by decide) rfl (pc' := 22) rfl ?_
  refine g_astore C S dnm_22 (pc' := 24) rfl rfl (L' := #[.val .null, .val .null, .val (.ref b129), .val (.int (3 : Int32)), .val (.int (1 : Int32)), .val (.ref de)]) rfl ?_
  refine g_aload C S dnm_24 (pc' := 26) rfl rfl rfl ?_
  refine g_getF C S dnm_26 (host := "") (Or.inl (hw _ (List.mem_of_getElem? (i := 95) rfl))) Via.refl F_optionName_de (pc' := 29) rfl (fun T132 S => ?_)
  refine g_aloadN C S dnm_29 (pc' := 30) rfl rfl rfl ?_
  refine g_callV C S (rm := ({ frames := 0, cells := 0, slots := 0, locals := 0 } : Room)) (W := 0) dnm_30 (hw _ (List.mem_of_getElem? (i := 97) rfl)) (hw _ (List.mem_of_getElem? (i := 98) rfl)) (fun _ hZ => notFace_of_selects (args := #[]) (mvT hZ (hw _ (List.mem_of_getElem? (i := 100) rfl)))) (hw _ (List.mem_of_getElem? (i := 100) rfl)) (hw _ (List.mem_of_getElem? (i := 99) rfl)) (hw _ (List.mem_of_getElem? (i := 2) rfl)) (hw _ (List.mem_of_getElem? (i := 101) rfl)) (by decide) rfl X_oD (c_eqN l Z a0 hw oD h129 n0) (argsL := [.null]) (r := []) rfl all0 (lenOf pd_14 rfl) rfl (Nat.le_of_eq rfl) (by decide) (by decide) (by decide) (by decide) (pc' := 33) rfl (fun T133 h133 v133 P133 q133 S => ?_)
  obtain ⟨rfl, e133⟩ := q133; rw [e133] at S
  show Gl p e below s Z consts_1 _ n0 _ T133 (mkF m 33 #[.val .null, .val .null, .val (.ref b129), .val (.int (3 : Int32)), .val (.int (1 : Int32)), .val (.ref de)] [(.int (0 : Int32))])
  refine g_if_eq C S dnm_33 (pc' := 39) (pf := 36) (by decide) (by decide) rfl (fun hc33 => ?_) (fun hc33 => absurd rfl hc33)
  refine g_iincL C S (1 : Int32) (2 : Int32) dnm_39 (pc' := 42) rfl rfl (by decide) rfl (L' := #[.val .null, .val .null, .val (.ref b129), .val (.int (3 : Int32)), .val (.int (2 : Int32)), .val (.ref de)]) rfl ?_
  refine g_goto C S dnm_42 (pc' := 12) (by decide) (by decide) ?_
  refine g_iload C S dnm_12 (pc' := 14) rfl rfl ?_
  refine g_iloadN C S dnm_14 (pc' := 15) rfl rfl ?_
  refine g_icmp_ge C S dnm_15 (pc' := 45) (pf := 18) (by decide) (by decide) rfl (fun hc15 => absurd (by decide) hc15) (fun hc15 => ?_)
  refine g_aloadN C S dnm_18 (pc' := 19) rfl rfl rfl ?_
  refine g_iload C S dnm_19 (pc' := 21) rfl rfl ?_
  refine g_aaload C S (i := 2) (v := (.ref lo)) dnm_21 A_b129 rfl (by decide) (by decide) rfl (pc' := 22) rfl ?_
  refine g_astore C S dnm_22 (pc' := 24) rfl rfl (L' := #[.val .null, .val .null, .val (.ref b129), .val (.int (3 : Int32)), .val (.int (2 : Int32)), .val (.ref lo)]) rfl ?_
  refine g_aload C S dnm_24 (pc' := 26) rfl rfl rfl ?_
  refine g_getF C S dnm_26 (host := "") (Or.inl (hw _ (List.mem_of_getElem? (i := 95) rfl))) Via.refl F_optionName_lo (pc' := 29) rfl (fun T134 S => ?_)
  refine g_aloadN C S dnm_29 (pc' := 30) rfl rfl rfl ?_
  refine g_callV C S (rm := ({ frames := 0, cells := 0, slots := 0, locals := 0 } : Room)) (W := 0) dnm_30 (hw _ (List.mem_of_getElem? (i := 97) rfl)) (hw _ (List.mem_of_getElem? (i := 98) rfl)) (fun _ hZ => notFace_of_selects (args := #[]) (mvT hZ (hw _ (List.mem_of_getElem? (i := 100) rfl)))) (hw _ (List.mem_of_getElem? (i := 100) rfl)) (hw _ (List.mem_of_getElem? (i := 99) rfl)) (hw _ (List.mem_of_getElem? (i := 2) rfl)) (hw _ (List.mem_of_getElem? (i := 101) rfl)) (by decide) rfl X_oL (c_eqN l Z a0 hw oL h129 n0) (argsL := [.null]) (r := []) rfl all0 (lenOf pd_14 rfl) rfl (Nat.le_of_eq rfl) (by decide) (by decide) (by decide) (by decide) (pc' := 33) rfl (fun T135 h135 v135 P135 q135 S => ?_)
  obtain ⟨rfl, e135⟩ := q135; rw [e135] at S
  show Gl p e below s Z consts_1 _ n0 _ T135 (mkF m 33 #[.val .null, .val .null, .val (.ref b129), .val (.int (3 : Int32)), .val (.int (2 : Int32)), .val (.ref lo)] [(.int (0 : Int32))])
  refine g_if_eq C S dnm_33 (pc' := 39) (pf := 36) (by decide) (by decide) rfl (fun hc33 => ?_) (fun hc33 => absurd rfl hc33)
  refine g_iincL C S (1 : Int32) (3 : Int32) dnm_39 (pc' := 42) rfl rfl (by decide) rfl (L' := #[.val .null, .val .null, .val (.ref b129), .val (.int (3 : Int32)), .val (.int (3 : Int32)), .val (.ref lo)]) rfl ?_
  refine g_goto C S dnm_42 (pc' := 12) (by decide) (by decide) ?_
  refine g_iload C S dnm_12 (pc' := 14) rfl rfl ?_
  refine g_iloadN C S dnm_14 (pc' := 15) rfl rfl ?_
  refine g_icmp_ge C S dnm_15 (pc' := 45) (pf := 18) (by decide) (by decide) rfl (fun hc15 => ?_) (fun hc15 => absurd hc15 (by decide))
  refine g_aloadN C S dnm_45 (pc' := 46) rfl rfl rfl ?_
  exact g_retA C S dnm_46 rfl rfl rfl (by decide) (by decide) (⟨rfl, Kp⟩)
theorem dex_0 : decode method_5_code 0 = .ok (.aload_n 0, 1) := by decide +kernel
theorem dex_1 : decode method_5_code 1 = .ok (.ifnonnull 5, 3) := by decide +kernel
theorem dex_6 : decode method_5_code 6 = .ok (.aload_n 0, 1) := by decide +kernel
theorem dex_7 : decode method_5_code 7 = .ok (.ldc 8, 2) := by decide +kernel
theorem dex_9 : decode method_5_code 9 = .ok (.invokevirtual 48, 3) := by decide +kernel
theorem dex_12 : decode method_5_code 12 = .ok (.ifCond .eq 7, 3) := by decide +kernel
theorem dex_15 : decode method_5_code 15 = .ok (.getstatic 52, 3) := by decide +kernel
theorem dex_18 : decode method_5_code 18 = .ok (.areturn, 1) := by decide +kernel
theorem dex_19 : decode method_5_code 19 = .ok (.aload_n 0, 1) := by decide +kernel
theorem dex_20 : decode method_5_code 20 = .ok (.ldc 10, 2) := by decide +kernel
theorem dex_22 : decode method_5_code 22 = .ok (.invokevirtual 48, 3) := by decide +kernel
theorem dex_25 : decode method_5_code 25 = .ok (.ifCond .eq 7, 3) := by decide +kernel
theorem dex_28 : decode method_5_code 28 = .ok (.getstatic 56, 3) := by decide +kernel
theorem dex_31 : decode method_5_code 31 = .ok (.areturn, 1) := by decide +kernel
theorem dex_32 : decode method_5_code 32 = .ok (.aload_n 0, 1) := by decide +kernel
theorem dex_33 : decode method_5_code 33 = .ok (.ldc 12, 2) := by decide +kernel
theorem dex_35 : decode method_5_code 35 = .ok (.invokevirtual 48, 3) := by decide +kernel
theorem dex_38 : decode method_5_code 38 = .ok (.ifCond .eq 7, 3) := by decide +kernel
theorem dex_41 : decode method_5_code 41 = .ok (.getstatic 59, 3) := by decide +kernel
theorem dex_44 : decode method_5_code 44 = .ok (.areturn, 1) := by decide +kernel
theorem dex_45 : decode method_5_code 45 = .ok (.aconst_null, 1) := by decide +kernel
theorem dex_46 : decode method_5_code 46 = .ok (.areturn, 1) := by decide +kernel
set_option maxRecDepth 65536 in
set_option maxHeartbeats 40000000 in
theorem c_exp (l : Launch) (Z : State) (a0 : Array Value) (hw : ∀ d ∈ tables_1, d.before a0 Z = true) (a1 : Addr) (h0 : Heap) (n0 : Nat) (b1 : Addr) (N : Nat) (g : Nat → Int32) (hN : N < 2 ^ 30) (cs : Int32) (hcs : ¬ cs = 0) (S_COMPACT_STRINGS : Sta Z h0 "java/lang/String" "COMPACT_STRINGS" "Z" (.int cs)) (X_a1 : Exa Z h0 a1 "java/lang/String") (F_coder_a1 : Fld Z h0 a1 "java/lang/String" "coder" "B" (.int (0 : Int32))) (F_value_a1 : Fld Z h0 a1 "java/lang/String" "value" "[B" (.ref b1)) (A_b1 : Ary Z h0 b1 .byte N (fun q => .int (g q))) (Zn : n0 ≤ h0.size) (va al de lo : Addr) (S_VALUES : Sta Z h0 "com/example/pitlochry/pitlochry/OnStoreError" "$VALUES" "[Lcom/example/pitlochry/pitlochry/OnStoreError;" (.ref va)) (X_va : Exa Z h0 va "[Lcom/example/pitlochry/pitlochry/OnStoreError;") (A_va : Cln Z h0 va (.object "com/example/pitlochry/pitlochry/OnStoreError") 3 (fun q => [Value.ref al, .ref de, .ref lo].getD q .null)) (oA bA : Addr) (S_ALLOW : Sta Z h0 "com/example/pitlochry/pitlochry/OnStoreError" "ALLOW" "Lcom/example/pitlochry/pitlochry/OnStoreError;" (.ref al)) (X_al : Exa Z h0 al "com/example/pitlochry/pitlochry/OnStoreError") (F_optionName_al : Fld Z h0 al "com/example/pitlochry/pitlochry/OnStoreError" "optionName" "Ljava/lang/String;" (.ref oA)) (X_oA : Exa Z h0 oA "java/lang/String") (F_coder_oA : Fld Z h0 oA "java/lang/String" "coder" "B" (.int (0 : Int32))) (F_value_oA : Fld Z h0 oA "java/lang/String" "value" "[B" (.ref bA)) (A_bA : Ary Z h0 bA .byte 5 (fun q => .int (wA q))) (oD bD : Addr) (S_DENY : Sta Z h0 "com/example/pitlochry/pitlochry/OnStoreError" "DENY" "Lcom/example/pitlochry/pitlochry/OnStoreError;" (.ref de)) (X_de : Exa Z h0 de "com/example/pitlochry/pitlochry/OnStoreError") (F_optionName_de : Fld Z h0 de "com/example/pitlochry/pitlochry/OnStoreError" "optionName" "Ljava/lang/String;" (.ref oD)) (X_oD : Exa Z h0 oD "java/lang/String") (F_coder_oD : Fld Z h0 oD "java/lang/String" "coder" "B" (.int (0 : Int32))) (F_value_oD : Fld Z h0 oD "java/lang/String" "value" "[B" (.ref bD)) (A_bD : Ary Z h0 bD .byte 4 (fun q => .int (wD q))) (oL bL : Addr) (S_LOCAL : Sta Z h0 "com/example/pitlochry/pitlochry/OnStoreError" "LOCAL" "Lcom/example/pitlochry/pitlochry/OnStoreError;" (.ref lo)) (X_lo : Exa Z h0 lo "com/example/pitlochry/pitlochry/OnStoreError") (F_optionName_lo : Fld Z h0 lo "com/example/pitlochry/pitlochry/OnStoreError" "optionName" "Ljava/lang/String;" (.ref oL)) (X_oL : Exa Z h0 oL "java/lang/String") (F_coder_oL : Fld Z h0 oL "java/lang/String" "coder" "B" (.int (0 : Int32))) (F_value_oL : Fld Z h0 oL "java/lang/String" "value" "[B" (.ref bL)) (A_bL : Ary Z h0 bL .byte 5 (fun q => .int (wL q))) :
    Con l Z consts_1 [] (⟨"com/example/pitlochry/pitlochry/OnStoreErrorNamedPinLaw", "expected", "(Ljava/lang/String;)Lcom/example/pitlochry/pitlochry/OnStoreError;"⟩ : MethodName) method_5_code 1 (some (.object "com/example/pitlochry/pitlochry/OnStoreError")) ({ frames := 2, cells := 6, slots := 68, locals := 28 } : Room) #[(.ref a1)] h0 n0 (fun v h _ => NM al de lo g N v) := by
  refine Con.of (plainFor_of_name (by first | (simp [plainName, overriddenIn]; done) | decide +kernel)) (elw hw) (L0 := #[.val (.ref a1)]) (fun m => by first | (simp [entryFrame, mkF, argsToLocals, Value.category]; done) | rfl) ?_
  intro p e s m below meth c T C S
  refine g_aloadN C S dex_0 (pc' := 1) rfl rfl rfl ?_
  refine g_ifnonnull_ref C S dex_1 (pc' := 6) (by decide) (by decide) ?_
  refine g_aloadN C S dex_6 (pc' := 7) rfl rfl rfl ?_
  refine g_ldcS C S (vs := [.int 97, .int 108, .int 108, .int 111, .int 119]) (zz := 5) (N := 5) (nn := 20) dex_7 (hw _ (List.mem_of_getElem? (i := 1) rfl)) (List.mem_of_getElem? (i := 0) rfl) ⟨(by decide), rfl⟩ (by decide) (by decide) rfl (by decide) (by decide) (by decide) (by decide) (pc' := 9) rfl (fun T136 h136 a136 b136 S E136 X_a136 F_coder_a136 F_value_a136 A_b136 ns136 => ?_)
  have S_VALUES := S_VALUES.ext E136
  have A_va := A_va.ext E136
  have X_va := X_va.ext E136
  have S_ALLOW := S_ALLOW.ext E136
  have X_al := X_al.ext E136
  have F_optionName_al := F_optionName_al.ext E136
  have X_oA := X_oA.ext E136
  have F_coder_oA := F_coder_oA.ext E136
  have F_value_oA := F_value_oA.ext E136
  have A_bA := A_bA.ext E136
  have S_DENY := S_DENY.ext E136
  have X_de := X_de.ext E136
  have F_optionName_de := F_optionName_de.ext E136
  have X_oD := X_oD.ext E136
  have F_coder_oD := F_coder_oD.ext E136
  have F_value_oD := F_value_oD.ext E136
  have A_bD := A_bD.ext E136
  have S_LOCAL := S_LOCAL.ext E136
  have X_lo := X_lo.ext E136
  have F_optionName_lo := F_optionName_lo.ext E136
  have X_oL := X_oL.ext E136
  have F_coder_oL := F_coder_oL.ext E136
  have F_value_oL := F_value_oL.ext E136
  have A_bL := A_bL.ext E136
  have S_COMPACT_STRINGS := S_COMPACT_STRINGS.ext E136
  have Zn := Nat.le_trans Zn E136.1
  have X_a1 := X_a1.ext E136
  have F_coder_a1 := F_coder_a1.ext E136
  have F_value_a1 := F_value_a1.ext E136
  have A_b1 := A_b1.ext E136
  refine g_callV C S (rm := ({ frames := 1, cells := 0, slots := 0, locals := 14 } : Room)) (W := 0) dex_9 (hw _ (List.mem_of_getElem? (i := 109) rfl)) (hw _ (List.mem_of_getElem? (i := 98) rfl)) (fun _ hZ => notFace_of_selects (args := #[]) (mvT hZ (hw _ (List.mem_of_getElem? (i := 100) rfl)))) (hw _ (List.mem_of_getElem? (i := 100) rfl)) (hw _ (List.mem_of_getElem? (i := 99) rfl)) (hw _ (List.mem_of_getElem? (i := 2) rfl)) (hw _ (List.mem_of_getElem? (i := 101) rfl)) (by decide) rfl X_a1 (c_eqS l Z a0 hw a1 a136 h136 n0 b1 b136 N 5 g wA hN (by decide) cs hcs S_COMPACT_STRINGS X_a1 F_coder_a1 F_value_a1 A_b1 X_a136 F_coder_a136 F_value_a136 (A_b136.cg (fun q hq => by match q, hq with | 0, _ => rfl | 1, _ => rfl | 2, _ => rfl | 3, _ => rfl | 4, _ => rfl | q + 5, hq => exact absurd hq (by omega)))) (argsL := [(.ref a136)]) (r := []) rfl all0 (lenOf pd_14 rfl) rfl (Nat.le_of_eq rfl) (by decide) (by decide) (by decide) (by decide) (pc' := 12) rfl (fun T137 h137 v137 P137 q137 S => ?_)
  obtain ⟨e137, q137⟩ := q137; rw [e137] at S
  obtain ⟨z137, rfl, hzz⟩ := EqAt.val q137
  show Gl p e below s Z consts_1 _ n0 _ T137 (mkF m 12 #[.val (.ref a1)] [(.int z137)])
  refine g_if_eq C S dex_12 (pc' := 19) (pf := 15) (by decide) (by decide) rfl (fun hc12 => ?_) (fun hc12 => ?_)
  · have f0 := IsW.nsw (EqAt.no hzz hc12)
    refine g_aloadN C S dex_19 (pc' := 20) rfl rfl rfl ?_
    refine g_ldcS C S (vs := [.int 100, .int 101, .int 110, .int 121]) (zz := 4) (N := 4) (nn := 16) dex_20 (hw _ (List.mem_of_getElem? (i := 110) rfl)) (List.mem_of_getElem? (i := 1) rfl) ⟨(by decide), rfl⟩ (by decide) (by decide) rfl (by decide) (by decide) (by decide) (by decide) (pc' := 22) rfl (fun T138 h138 a138 b138 S E138 X_a138 F_coder_a138 F_value_a138 A_b138 ns138 => ?_)
    have S_VALUES := S_VALUES.ext E138
    have A_va := A_va.ext E138
    have X_va := X_va.ext E138
    have S_ALLOW := S_ALLOW.ext E138
    have X_al := X_al.ext E138
    have F_optionName_al := F_optionName_al.ext E138
    have X_oA := X_oA.ext E138
    have F_coder_oA := F_coder_oA.ext E138
    have F_value_oA := F_value_oA.ext E138
    have A_bA := A_bA.ext E138
    have S_DENY := S_DENY.ext E138
    have X_de := X_de.ext E138
    have F_optionName_de := F_optionName_de.ext E138
    have X_oD := X_oD.ext E138
    have F_coder_oD := F_coder_oD.ext E138
    have F_value_oD := F_value_oD.ext E138
    have A_bD := A_bD.ext E138
    have S_LOCAL := S_LOCAL.ext E138
    have X_lo := X_lo.ext E138
    have F_optionName_lo := F_optionName_lo.ext E138
    have X_oL := X_oL.ext E138
    have F_coder_oL := F_coder_oL.ext E138
    have F_value_oL := F_value_oL.ext E138
    have A_bL := A_bL.ext E138
    have S_COMPACT_STRINGS := S_COMPACT_STRINGS.ext E138
    have Zn := Nat.le_trans Zn E138.1
    have X_a1 := X_a1.ext E138
    have F_coder_a1 := F_coder_a1.ext E138
    have F_value_a1 := F_value_a1.ext E138
    have A_b1 := A_b1.ext E138
    have X_a136 := X_a136.ext E138
    have F_coder_a136 := F_coder_a136.ext E138
    have F_value_a136 := F_value_a136.ext E138
    have A_b136 := A_b136.ext E138
    refine g_callV C S (rm := ({ frames := 1, cells := 0, slots := 0, locals := 14 } : Room)) (W := 0) dex_22 (hw _ (List.mem_of_getElem? (i := 109) rfl)) (hw _ (List.mem_of_getElem? (i := 98) rfl)) (fun _ hZ => notFace_of_selects (args := #[]) (mvT hZ (hw _ (List.mem_of_getElem? (i := 100) rfl)))) (hw _ (List.mem_of_getElem? (i := 100) rfl)) (hw _ (List.mem_of_getElem? (i := 99) rfl)) (hw _ (List.mem_of_getElem? (i := 2) rfl)) (hw _ (List.mem_of_getElem? (i := 101) rfl)) (by decide) rfl X_a1 (c_eqS l Z a0 hw a1 a138 h138 n0 b1 b138 N 4 g wD hN (by decide) cs hcs S_COMPACT_STRINGS X_a1 F_coder_a1 F_value_a1 A_b1 X_a138 F_coder_a138 F_value_a138 (A_b138.cg (fun q hq => by match q, hq with | 0, _ => rfl | 1, _ => rfl | 2, _ => rfl | 3, _ => rfl | q + 4, hq => exact absurd hq (by omega)))) (argsL := [(.ref a138)]) (r := []) rfl all0 (lenOf pd_14 rfl) rfl (Nat.le_of_eq rfl) (by decide) (by decide) (by decide) (by decide) (pc' := 25) rfl (fun T139 h139 v139 P139 q139 S => ?_)
    obtain ⟨e139, q139⟩ := q139; rw [e139] at S
    obtain ⟨z139, rfl, hzz⟩ := EqAt.val q139
    show Gl p e below s Z consts_1 _ n0 _ T139 (mkF m 25 #[.val (.ref a1)] [(.int z139)])
    refine g_if_eq C S dex_25 (pc' := 32) (pf := 28) (by decide) (by decide) rfl (fun hc25 => ?_) (fun hc25 => ?_)
    · have f1 := IsW.nsw (EqAt.no hzz hc25)
      refine g_aloadN C S dex_32 (pc' := 33) rfl rfl rfl ?_
      refine g_ldcS C S (vs := [.int 108, .int 111, .int 99, .int 97, .int 108]) (zz := 5) (N := 5) (nn := 20) dex_33 (hw _ (List.mem_of_getElem? (i := 111) rfl)) (List.mem_of_getElem? (i := 2) rfl) ⟨(by decide), rfl⟩ (by decide) (by decide) rfl (by decide) (by decide) (by decide) (by decide) (pc' := 35) rfl (fun T140 h140 a140 b140 S E140 X_a140 F_coder_a140 F_value_a140 A_b140 ns140 => ?_)
      have S_VALUES := S_VALUES.ext E140
      have A_va := A_va.ext E140
      have X_va := X_va.ext E140
      have S_ALLOW := S_ALLOW.ext E140
      have X_al := X_al.ext E140
      have F_optionName_al := F_optionName_al.ext E140
      have X_oA := X_oA.ext E140
      have F_coder_oA := F_coder_oA.ext E140
      have F_value_oA := F_value_oA.ext E140
      have A_bA := A_bA.ext E140
      have S_DENY := S_DENY.ext E140
      have X_de := X_de.ext E140
      have F_optionName_de := F_optionName_de.ext E140
      have X_oD := X_oD.ext E140
      have F_coder_oD := F_coder_oD.ext E140
      have F_value_oD := F_value_oD.ext E140
      have A_bD := A_bD.ext E140
      have S_LOCAL := S_LOCAL.ext E140
      have X_lo := X_lo.ext E140
      have F_optionName_lo := F_optionName_lo.ext E140
      have X_oL := X_oL.ext E140
      have F_coder_oL := F_coder_oL.ext E140
      have F_value_oL := F_value_oL.ext E140
      have A_bL := A_bL.ext E140
      have S_COMPACT_STRINGS := S_COMPACT_STRINGS.ext E140
      have Zn := Nat.le_trans Zn E140.1
      have X_a1 := X_a1.ext E140
      have F_coder_a1 := F_coder_a1.ext E140
      have F_value_a1 := F_value_a1.ext E140
      have A_b1 := A_b1.ext E140
      have X_a136 := X_a136.ext E140
      have F_coder_a136 := F_coder_a136.ext E140
      have F_value_a136 := F_value_a136.ext E140
      have A_b136 := A_b136.ext E140
      have X_a138 := X_a138.ext E140
      have F_coder_a138 := F_coder_a138.ext E140
      have F_value_a138 := F_value_a138.ext E140
      have A_b138 := A_b138.ext E140
      refine g_callV C S (rm := ({ frames := 1, cells := 0, slots := 0, locals := 14 } : Room)) (W := 0) dex_35 (hw _ (List.mem_of_getElem? (i := 109) rfl)) (hw _ (List.mem_of_getElem? (i := 98) rfl)) (fun _ hZ => notFace_of_selects (args := #[]) (mvT hZ (hw _ (List.mem_of_getElem? (i := 100) rfl)))) (hw _ (List.mem_of_getElem? (i := 100) rfl)) (hw _ (List.mem_of_getElem? (i := 99) rfl)) (hw _ (List.mem_of_getElem? (i := 2) rfl)) (hw _ (List.mem_of_getElem? (i := 101) rfl)) (by decide) rfl X_a1 (c_eqS l Z a0 hw a1 a140 h140 n0 b1 b140 N 5 g wL hN (by decide) cs hcs S_COMPACT_STRINGS X_a1 F_coder_a1 F_value_a1 A_b1 X_a140 F_coder_a140 F_value_a140 (A_b140.cg (fun q hq => by match q, hq with | 0, _ => rfl | 1, _ => rfl | 2, _ => rfl | 3, _ => rfl | 4, _ => rfl | q + 5, hq => exact absurd hq (by omega)))) (argsL := [(.ref a140)]) (r := []) rfl all0 (lenOf pd_14 rfl) rfl (Nat.le_of_eq rfl) (by decide) (by decide) (by decide) (by decide) (pc' := 38) rfl (fun T141 h141 v141 P141 q141 S => ?_)
      obtain ⟨e141, q141⟩ := q141; rw [e141] at S
      obtain ⟨z141, rfl, hzz⟩ := EqAt.val q141
      show Gl p e below s Z consts_1 _ n0 _ T141 (mkF m 38 #[.val (.ref a1)] [(.int z141)])
      refine g_if_eq C S dex_38 (pc' := 45) (pf := 41) (by decide) (by decide) rfl (fun hc38 => ?_) (fun hc38 => ?_)
      · have f2 := IsW.nsw (EqAt.no hzz hc38)
        refine g_aconst_null C S dex_45 (pc' := 46) rfl ?_
        exact g_retA C S dex_46 rfl rfl rfl (by decide) (by decide) (Or.inr (Or.inr (Or.inr ⟨f0, f1, f2, rfl⟩)))
      · have f2 := IsW.sw (EqAt.yes hzz hc38)
        refine g_getS C S dex_41 (host := "") (Or.inl (hw _ (List.mem_of_getElem? (i := 115) rfl))) Via.refl S_LOCAL (pc' := 44) rfl (fun T142 S => ?_)
        exact g_retA C S dex_44 rfl rfl rfl (by decide) (by decide) (Or.inr (Or.inr (Or.inl ⟨f2, rfl⟩)))
    · have f1 := IsW.sw (EqAt.yes hzz hc25)
      refine g_getS C S dex_28 (host := "") (Or.inl (hw _ (List.mem_of_getElem? (i := 116) rfl))) Via.refl S_DENY (pc' := 31) rfl (fun T143 S => ?_)
      exact g_retA C S dex_31 rfl rfl rfl (by decide) (by decide) (Or.inr (Or.inl ⟨f1, rfl⟩))
  · have f0 := IsW.sw (EqAt.yes hzz hc12)
    refine g_getS C S dex_15 (host := "") (Or.inl (hw _ (List.mem_of_getElem? (i := 114) rfl))) Via.refl S_ALLOW (pc' := 18) rfl (fun T144 S => ?_)
    exact g_retA C S dex_18 rfl rfl rfl (by decide) (by decide) (Or.inl ⟨f0, rfl⟩)
theorem dex_4 : decode method_5_code 4 = .ok (.aconst_null, 1) := by decide +kernel
theorem dex_5 : decode method_5_code 5 = .ok (.areturn, 1) := by decide +kernel
set_option maxRecDepth 65536 in
set_option maxHeartbeats 40000000 in
theorem c_exN (l : Launch) (Z : State) (a0 : Array Value) (hw : ∀ d ∈ tables_1, d.before a0 Z = true)  (h0 : Heap) (n0 : Nat) :
    Con l Z consts_1 [] (⟨"com/example/pitlochry/pitlochry/OnStoreErrorNamedPinLaw", "expected", "(Ljava/lang/String;)Lcom/example/pitlochry/pitlochry/OnStoreError;"⟩ : MethodName) method_5_code 1 (some (.object "com/example/pitlochry/pitlochry/OnStoreError")) ({ frames := 0, cells := 0, slots := 0, locals := 0 } : Room) #[.null] h0 n0 (fun v h _ => v = some .null) := by
  refine Con.of (plainFor_of_name (by first | (simp [plainName, overriddenIn]; done) | decide +kernel)) (elw hw) (L0 := #[.val .null]) (fun m => by first | (simp [entryFrame, mkF, argsToLocals, Value.category]; done) | rfl) ?_
  intro p e s m below meth c T C S
  refine g_aloadN C S dex_0 (pc' := 1) rfl rfl rfl ?_
  refine g_ifnonnull_null C S dex_1 (pf := 4) rfl ?_
  refine g_aconst_null C S dex_4 (pc' := 5) rfl ?_
  exact g_retA C S dex_5 rfl rfl rfl (by decide) (by decide) (rfl)
theorem cat1 {v : Value} (h : v.isRef = true) : v.category = 1 := by cases v <;> simp [Value.isRef] at h <;> rfl
theorem mod5 (x : Int32) : ∃ k, (x &&& 2147483647) % 5 = Int32.ofNat k ∧ k ≤ 4 := by
  have e := Jvm.Kit.i32_mask x 2147483647 (k := 31) (by decide) (by decide)
  have e1 : 0 ≤ (x &&& 2147483647).toInt := by omega
  have e2 := Jvm.Kit.i32_rem_nonneg (y := 5) e1
  have e5 : (5 : Int32).toInt = 5 := by decide
  rw [e5] at e2
  refine ⟨((x &&& 2147483647).toInt % 5).toNat, ?_, by omega⟩
  rw [← Int32.toInt_inj, e2, o32 (by omega)]; omega
theorem mask7 (x : Int32) : ∃ j : Nat, (x &&& 7).toInt = (j : Int) ∧ j < 8 := by
  have e := Jvm.Kit.i32_mask x 7 (k := 3) (by decide) (by decide)
  exact ⟨(x &&& 7).toInt.toNat, by omega, by omega⟩
theorem mask7n (x : Int32) : ∃ j : Nat, (x &&& 7) = Int32.ofNat j ∧ j ≤ 7 := by
  obtain ⟨j, e, h⟩ := mask7 x
  exact ⟨j, by rw [← Int32.toInt_inj, e, o32 (by omega)], by omega⟩
theorem lat8 {k0 k1 k2 k3 k4 k5 k6 k7 : Int32} (h0 : 0 ≤ k0.toInt ∧ k0.toInt ≤ 255) (h1 : 0 ≤ k1.toInt ∧ k1.toInt ≤ 255) (h2 : 0 ≤ k2.toInt ∧ k2.toInt ≤ 255) (h3 : 0 ≤ k3.toInt ∧ k3.toInt ≤ 255) (h4 : 0 ≤ k4.toInt ∧ k4.toInt ≤ 255) (h5 : 0 ≤ k5.toInt ∧ k5.toInt ≤ 255) (h6 : 0 ≤ k6.toInt ∧ k6.toInt ≤ 255) (h7 : 0 ≤ k7.toInt ∧ k7.toInt ≤ 255) : Lat (fun q => [k0, k1, k2, k3, k4, k5, k6, k7].getD q 0) 8 := fun i hi => by
  match i, hi with
  | 0, _ => exact h0
  | 1, _ => exact h1
  | 2, _ => exact h2
  | 3, _ => exact h3
  | 4, _ => exact h4
  | 5, _ => exact h5
  | 6, _ => exact h6
  | 7, _ => exact h7
  | q + 8, hq => exact absurd hq (by omega)
theorem lat_set {cf : Nat → Int32} {c : Int32} (j : Nat) (h : Lat cf 8) (hc : 0 ≤ c.toInt ∧ c.toInt ≤ 255) : Lat (fun q => if q = j then c else cf q) 8 := fun i hi => by
  by_cases u : i = j
  · simp only [u, if_true]; exact hc
  · simp only [u, if_false]; exact h i hi
theorem set_eq {cf : Nat → Int32} {c : Int32} (j : Nat) (hc : 0 ≤ c.toInt ∧ c.toInt ≤ 255) : ∀ q, q < 8 → (if q = j then Value.int (nar .char c) else .int (cf q)) = .int (if q = j then c else cf q) := fun q _ => by
  by_cases u : q = j
  · simp only [u, if_true, nar_char hc]
  · simp only [u, if_false]
theorem pd_15 : parseMethodDescriptor "(Ljava/lang/String;III)C" = some ⟨[(.object "java/lang/String"), .int, .int, .int], some .char⟩ := by decide +kernel
theorem pd_16 : parseMethodDescriptor "([CI)Ljava/lang/String;" = some ⟨[(.array .char), .int], some (.object "java/lang/String")⟩ := by decide +kernel
theorem pd_17 : parseMethodDescriptor "(Ljava/lang/String;)Lcom/example/pitlochry/pitlochry/OnStoreError;" = some ⟨[(.object "java/lang/String")], some (.object "com/example/pitlochry/pitlochry/OnStoreError")⟩ := by decide +kernel
set_option maxRecDepth 65536 in
set_option maxHeartbeats 40000000 in
theorem c_law (l : Launch) (Z : State) (a0 : Array Value) (hw : ∀ d ∈ tables_1, d.before a0 Z = true) (p1 : Int32) (p2 : Int32) (p3 : Int32) (p4 : Int32) (p5 : Int32) (p6 : Int32) (h0 : Heap) (n0 : Nat) (Zn : n0 ≤ h0.size) (cs : Int32) (hcs : ¬ cs = 0) (S_COMPACT_STRINGS : Sta Z h0 "java/lang/String" "COMPACT_STRINGS" "Z" (.int cs)) (fm : Value) (hfm : fm.isRef = true) (S_SIOOBE_FORMATTER : Sta Z h0 "jdk/internal/util/Preconditions" "SIOOBE_FORMATTER" "Ljava/util/function/BiFunction;" fm) (va al de lo : Addr) (S_VALUES : Sta Z h0 "com/example/pitlochry/pitlochry/OnStoreError" "$VALUES" "[Lcom/example/pitlochry/pitlochry/OnStoreError;" (.ref va)) (X_va : Exa Z h0 va "[Lcom/example/pitlochry/pitlochry/OnStoreError;") (A_va : Cln Z h0 va (.object "com/example/pitlochry/pitlochry/OnStoreError") 3 (fun q => [Value.ref al, .ref de, .ref lo].getD q .null)) (oA bA : Addr) (S_ALLOW : Sta Z h0 "com/example/pitlochry/pitlochry/OnStoreError" "ALLOW" "Lcom/example/pitlochry/pitlochry/OnStoreError;" (.ref al)) (X_al : Exa Z h0 al "com/example/pitlochry/pitlochry/OnStoreError") (F_optionName_al : Fld Z h0 al "com/example/pitlochry/pitlochry/OnStoreError" "optionName" "Ljava/lang/String;" (.ref oA)) (X_oA : Exa Z h0 oA "java/lang/String") (F_coder_oA : Fld Z h0 oA "java/lang/String" "coder" "B" (.int (0 : Int32))) (F_value_oA : Fld Z h0 oA "java/lang/String" "value" "[B" (.ref bA)) (A_bA : Ary Z h0 bA .byte 5 (fun q => .int (wA q))) (oD bD : Addr) (S_DENY : Sta Z h0 "com/example/pitlochry/pitlochry/OnStoreError" "DENY" "Lcom/example/pitlochry/pitlochry/OnStoreError;" (.ref de)) (X_de : Exa Z h0 de "com/example/pitlochry/pitlochry/OnStoreError") (F_optionName_de : Fld Z h0 de "com/example/pitlochry/pitlochry/OnStoreError" "optionName" "Ljava/lang/String;" (.ref oD)) (X_oD : Exa Z h0 oD "java/lang/String") (F_coder_oD : Fld Z h0 oD "java/lang/String" "coder" "B" (.int (0 : Int32))) (F_value_oD : Fld Z h0 oD "java/lang/String" "value" "[B" (.ref bD)) (A_bD : Ary Z h0 bD .byte 4 (fun q => .int (wD q))) (oL bL : Addr) (S_LOCAL : Sta Z h0 "com/example/pitlochry/pitlochry/OnStoreError" "LOCAL" "Lcom/example/pitlochry/pitlochry/OnStoreError;" (.ref lo)) (X_lo : Exa Z h0 lo "com/example/pitlochry/pitlochry/OnStoreError") (F_optionName_lo : Fld Z h0 lo "com/example/pitlochry/pitlochry/OnStoreError" "optionName" "Ljava/lang/String;" (.ref oL)) (X_oL : Exa Z h0 oL "java/lang/String") (F_coder_oL : Fld Z h0 oL "java/lang/String" "coder" "B" (.int (0 : Int32))) (F_value_oL : Fld Z h0 oL "java/lang/String" "value" "[B" (.ref bL)) (A_bL : Ary Z h0 bL .byte 5 (fun q => .int (wL q))) :
    Con l Z consts_1 [] x code maxLocals ret room_1 #[(.int p1), (.int p2), (.int p3), (.int p4), (.int p5), (.int p6)] h0 n0 (fun v h _ => v = some (.int 1)) := by
  refine Con.of (plainFor_of_name (by first | (simp [plainName, overriddenIn, x]; done) | decide +kernel)) (elw hw) (L0 := #[.val (.int p1), .val (.int p2), .val (.int p3), .val (.int p4), .val (.int p5), .val (.int p6), .unset, .unset, .unset, .unset, .unset, .unset]) (fun m => by first | (simp [entryFrame, mkF, argsToLocals, Value.category, maxLocals]; done) | rfl) ?_
  intro p e s m below meth c T C S
  refine g_iloadN C S at_0 (pc' := 1) rfl rfl ?_
  refine g_ldc C S at_1 (hw _ (List.mem_of_getElem? (i := 0) rfl)) (pc' := 3) rfl ?_
  refine g_iand C S at_3 (pc' := 4) rfl ?_
  refine g_iconst C S (5 : Int32) at_4 (pc' := 5) rfl rfl ?_
  refine g_irem C S at_5 (pc' := 6) rfl (by decide) ?_
  obtain ⟨k5, e5, hk5⟩ := mod5 p1; rw [e5]
  refine g_istore C S at_6 (pc' := 8) rfl (L' := #[.val (.int p1), .val (.int p2), .val (.int p3), .val (.int p4), .val (.int p5), .val (.int p6), .val (.int (Int32.ofNat k5)), .unset, .unset, .unset, .unset, .unset]) rfl ?_
  have J50 : ∀ (xa : Addr) (xb : Addr) (N : Nat) (g : Nat → Int32) (hN8 : N ≤ 8)  (T : State) (h : Heap) (PS : List Addr), On p l e room_1 s m #[(.int p1), (.int p2), (.int p3), (.int p4), (.int p5), (.int p6)] below meth c Z consts_1 "com/example/pitlochry/pitlochry/OnStoreErrorNamedPinLaw" n0 T h PS 2 24 → n0 ≤ h.size → Sta Z h "java/lang/String" "COMPACT_STRINGS" "Z" (.int cs) → Sta Z h "jdk/internal/util/Preconditions" "SIOOBE_FORMATTER" "Ljava/util/function/BiFunction;" fm → Sta Z h "com/example/pitlochry/pitlochry/OnStoreError" "$VALUES" "[Lcom/example/pitlochry/pitlochry/OnStoreError;" (.ref va) → Exa Z h va "[Lcom/example/pitlochry/pitlochry/OnStoreError;" → Cln Z h va (.object "com/example/pitlochry/pitlochry/OnStoreError") 3 (fun q => [Value.ref al, .ref de, .ref lo].getD q .null) → Sta Z h "com/example/pitlochry/pitlochry/OnStoreError" "ALLOW" "Lcom/example/pitlochry/pitlochry/OnStoreError;" (.ref al) → Exa Z h al "com/example/pitlochry/pitlochry/OnStoreError" → Fld Z h al "com/example/pitlochry/pitlochry/OnStoreError" "optionName" "Ljava/lang/String;" (.ref oA) → Exa Z h oA "java/lang/String" → Fld Z h oA "java/lang/String" "coder" "B" (.int (0 : Int32)) → Fld Z h oA "java/lang/String" "value" "[B" (.ref bA) → Ary Z h bA .byte 5 (fun q => .int (wA q)) → Sta Z h "com/example/pitlochry/pitlochry/OnStoreError" "DENY" "Lcom/example/pitlochry/pitlochry/OnStoreError;" (.ref de) → Exa Z h de "com/example/pitlochry/pitlochry/OnStoreError" → Fld Z h de "com/example/pitlochry/pitlochry/OnStoreError" "optionName" "Ljava/lang/String;" (.ref oD) → Exa Z h oD "java/lang/String" → Fld Z h oD "java/lang/String" "coder" "B" (.int (0 : Int32)) → Fld Z h oD "java/lang/String" "value" "[B" (.ref bD) → Ary Z h bD .byte 4 (fun q => .int (wD q)) → Sta Z h "com/example/pitlochry/pitlochry/OnStoreError" "LOCAL" "Lcom/example/pitlochry/pitlochry/OnStoreError;" (.ref lo) → Exa Z h lo "com/example/pitlochry/pitlochry/OnStoreError" → Fld Z h lo "com/example/pitlochry/pitlochry/OnStoreError" "optionName" "Ljava/lang/String;" (.ref oL) → Exa Z h oL "java/lang/String" → Fld Z h oL "java/lang/String" "coder" "B" (.int (0 : Int32)) → Fld Z h oL "java/lang/String" "value" "[B" (.ref bL) → Ary Z h bL .byte 5 (fun q => .int (wL q)) → Exa Z h xa "java/lang/String" → Fld Z h xa "java/lang/String" "coder" "B" (.int (0 : Int32)) → Fld Z h xa "java/lang/String" "value" "[B" (.ref xb) → Ary Z h xb .byte N (fun q => .int (g q)) → Gl p e below s Z consts_1 room_1 n0 (fun v h _ => v = some (.int 1)) T (mkF m 50 #[.val (.int p1), .val (.int p2), .val (.int p3), .val (.int p4), .val (.int p5), .val (.int p6), .val (.int (Int32.ofNat k5)), .val (.ref xa), .unset, .unset, .unset, .unset] []) := by
    intro xa xb N g hN8 T h PS S Zn S_COMPACT_STRINGS S_SIOOBE_FORMATTER S_VALUES X_va A_va S_ALLOW X_al F_optionName_al X_oA F_coder_oA F_value_oA A_bA S_DENY X_de F_optionName_de X_oD F_coder_oD F_value_oD A_bD S_LOCAL X_lo F_optionName_lo X_oL F_coder_oL F_value_oL A_bL X_xa F_coder_xa F_value_xa A_xb
    refine g_bipush C S (8 : Int32) at_50 (pc' := 52) rfl rfl ?_
    refine g_newarray C S (N := 8) (cap := 8) at_52 (hw _ (List.mem_of_getElem? (i := 9) rfl)) (by decide) (by decide) (by decide) (by decide) (by decide) (pc' := 54) rfl (fun T145 h145 a145 S g145 E145 A_a145 => ?_)
    have ne_va_a145 : va ≠ a145 := ne_new g145 X_va.lt
    have ne_al_a145 : al ≠ a145 := ne_new g145 X_al.lt
    have ne_oA_a145 : oA ≠ a145 := ne_new g145 X_oA.lt
    have ne_bA_a145 : bA ≠ a145 := ne_new g145 A_bA.lt
    have ne_de_a145 : de ≠ a145 := ne_new g145 X_de.lt
    have ne_oD_a145 : oD ≠ a145 := ne_new g145 X_oD.lt
    have ne_bD_a145 : bD ≠ a145 := ne_new g145 A_bD.lt
    have ne_lo_a145 : lo ≠ a145 := ne_new g145 X_lo.lt
    have ne_oL_a145 : oL ≠ a145 := ne_new g145 X_oL.lt
    have ne_bL_a145 : bL ≠ a145 := ne_new g145 A_bL.lt
    have ne_xa_a145 : xa ≠ a145 := ne_new g145 X_xa.lt
    have ne_xb_a145 : xb ≠ a145 := ne_new g145 A_xb.lt
    have ge_a145 : n0 ≤ a145 := ge_of g145 Zn
    have pm_a145 := On.hd S
    have Zn := Nat.le_trans Zn E145.1
    have S_COMPACT_STRINGS := S_COMPACT_STRINGS.ext E145
    have S_SIOOBE_FORMATTER := S_SIOOBE_FORMATTER.ext E145
    have S_VALUES := S_VALUES.ext E145
    have X_va := X_va.ext E145
    have A_va := A_va.ext E145
    have S_ALLOW := S_ALLOW.ext E145
    have X_al := X_al.ext E145
    have F_optionName_al := F_optionName_al.ext E145
    have X_oA := X_oA.ext E145
    have F_coder_oA := F_coder_oA.ext E145
    have F_value_oA := F_value_oA.ext E145
    have A_bA := A_bA.ext E145
    have S_DENY := S_DENY.ext E145
    have X_de := X_de.ext E145
    have F_optionName_de := F_optionName_de.ext E145
    have X_oD := X_oD.ext E145
    have F_coder_oD := F_coder_oD.ext E145
    have F_value_oD := F_value_oD.ext E145
    have A_bD := A_bD.ext E145
    have S_LOCAL := S_LOCAL.ext E145
    have X_lo := X_lo.ext E145
    have F_optionName_lo := F_optionName_lo.ext E145
    have X_oL := X_oL.ext E145
    have F_coder_oL := F_coder_oL.ext E145
    have F_value_oL := F_value_oL.ext E145
    have A_bL := A_bL.ext E145
    have X_xa := X_xa.ext E145
    have F_coder_xa := F_coder_xa.ext E145
    have F_value_xa := F_value_xa.ext E145
    have A_xb := A_xb.ext E145
    have A_a145 : Ary Z h145 a145 .char 8 (fun _ => (.int (0 : Int32))) := A_a145
    refine g_astore C S at_54 (pc' := 56) rfl rfl (L' := #[.val (.int p1), .val (.int p2), .val (.int p3), .val (.int p4), .val (.int p5), .val (.int p6), .val (.int (Int32.ofNat k5)), .val (.ref xa), .val (.ref a145), .unset, .unset, .unset]) rfl ?_
    refine g_aload C S at_56 (pc' := 58) rfl rfl rfl ?_
    refine g_iconst C S (0 : Int32) at_58 (pc' := 59) rfl rfl ?_
    refine g_aload C S at_59 (pc' := 61) rfl rfl rfl ?_
    refine g_iconst C S (0 : Int32) at_61 (pc' := 62) rfl rfl ?_
    refine g_iload C S at_62 (pc' := 64) rfl rfl ?_
    refine g_iload C S at_64 (pc' := 66) rfl rfl ?_
    refine g_callS C S (rm := ({ frames := 4, cells := 0, slots := 0, locals := 54 } : Room)) (W := 2) at_66 (hw _ (List.mem_of_getElem? (i := 10) rfl)) (hw _ (List.mem_of_getElem? (i := 11) rfl)) (hw _ (List.mem_of_getElem? (i := 12) rfl)) (hw _ (List.mem_of_getElem? (i := 13) rfl)) (by decide) (c_pck l Z a0 hw xa p5 p6 h145 n0 xb 0 N g (by decide) (by omega) cs hcs S_COMPACT_STRINGS fm hfm S_SIOOBE_FORMATTER X_xa F_coder_xa F_value_xa A_xb) (argsL := [(.ref xa), (.int (0 : Int32)), (.int p5), (.int p6)]) (r := [(.int (0 : Int32)), (.ref a145)]) rfl all0 (lenOf pd_15 rfl) rfl (Nat.le_of_eq rfl) (by decide) (by decide) (by decide) (by decide) (pc' := 69) rfl (fun T146 h146 v146 P146 q146 S => ?_)
    have pm_a145 := List.mem_append_right P146 pm_a145
    obtain ⟨k146, rfl, hk146, e146⟩ := q146; rw [e146] at S
    show Gl p e below s Z consts_1 _ n0 _ T146 (mkF m 69 #[.val (.int p1), .val (.int p2), .val (.int p3), .val (.int p4), .val (.int p5), .val (.int p6), .val (.int (Int32.ofNat k5)), .val (.ref xa), .val (.ref a145), .unset, .unset, .unset] [(.int k146), (.int (0 : Int32)), (.ref a145)])
    refine g_castore C S (i := 0) at_69 A_a145 (by decide) (by decide) ge_a145 (pc' := 70) rfl (fun T147 h147 S W147 B147 => ?_)
    have Zn := Nat.le_trans Zn (Nat.le_of_eq W147.size.symm)
    have S_COMPACT_STRINGS := S_COMPACT_STRINGS.wr W147
    have S_SIOOBE_FORMATTER := S_SIOOBE_FORMATTER.wr W147
    have S_VALUES := S_VALUES.wr W147
    have X_va := X_va.wr W147
    have A_va := A_va.other W147 ne_va_a145
    have S_ALLOW := S_ALLOW.wr W147
    have X_al := X_al.wr W147
    have F_optionName_al := F_optionName_al.other W147 (Or.inl ne_al_a145)
    have X_oA := X_oA.wr W147
    have F_coder_oA := F_coder_oA.other W147 (Or.inl ne_oA_a145)
    have F_value_oA := F_value_oA.other W147 (Or.inl ne_oA_a145)
    have A_bA := A_bA.other W147 ne_bA_a145
    have S_DENY := S_DENY.wr W147
    have X_de := X_de.wr W147
    have F_optionName_de := F_optionName_de.other W147 (Or.inl ne_de_a145)
    have X_oD := X_oD.wr W147
    have F_coder_oD := F_coder_oD.other W147 (Or.inl ne_oD_a145)
    have F_value_oD := F_value_oD.other W147 (Or.inl ne_oD_a145)
    have A_bD := A_bD.other W147 ne_bD_a145
    have S_LOCAL := S_LOCAL.wr W147
    have X_lo := X_lo.wr W147
    have F_optionName_lo := F_optionName_lo.other W147 (Or.inl ne_lo_a145)
    have X_oL := X_oL.wr W147
    have F_coder_oL := F_coder_oL.other W147 (Or.inl ne_oL_a145)
    have F_value_oL := F_value_oL.other W147 (Or.inl ne_oL_a145)
    have A_bL := A_bL.other W147 ne_bL_a145
    have X_xa := X_xa.wr W147
    have F_coder_xa := F_coder_xa.other W147 (Or.inl ne_xa_a145)
    have F_value_xa := F_value_xa.other W147 (Or.inl ne_xa_a145)
    have A_xb := A_xb.other W147 ne_xb_a145
    have A_a145 := B147
    refine g_aload C S at_70 (pc' := 72) rfl rfl rfl ?_
    refine g_iconst C S (1 : Int32) at_72 (pc' := 73) rfl rfl ?_
    refine g_aload C S at_73 (pc' := 75) rfl rfl rfl ?_
    refine g_iconst C S (1 : Int32) at_75 (pc' := 76) rfl rfl ?_
    refine g_iload C S at_76 (pc' := 78) rfl rfl ?_
    refine g_iload C S at_78 (pc' := 80) rfl rfl ?_
    refine g_callS C S (rm := ({ frames := 4, cells := 0, slots := 0, locals := 54 } : Room)) (W := 2) at_80 (hw _ (List.mem_of_getElem? (i := 10) rfl)) (hw _ (List.mem_of_getElem? (i := 11) rfl)) (hw _ (List.mem_of_getElem? (i := 12) rfl)) (hw _ (List.mem_of_getElem? (i := 13) rfl)) (by decide) (c_pck l Z a0 hw xa p5 p6 h147 n0 xb 1 N g (by decide) (by omega) cs hcs S_COMPACT_STRINGS fm hfm S_SIOOBE_FORMATTER X_xa F_coder_xa F_value_xa A_xb) (argsL := [(.ref xa), (.int (1 : Int32)), (.int p5), (.int p6)]) (r := [(.int (1 : Int32)), (.ref a145)]) rfl all0 (lenOf pd_15 rfl) rfl (Nat.le_of_eq rfl) (by decide) (by decide) (by decide) (by decide) (pc' := 83) rfl (fun T148 h148 v148 P148 q148 S => ?_)
    have pm_a145 := List.mem_append_right P148 pm_a145
    obtain ⟨k148, rfl, hk148, e148⟩ := q148; rw [e148] at S
    show Gl p e below s Z consts_1 _ n0 _ T148 (mkF m 83 #[.val (.int p1), .val (.int p2), .val (.int p3), .val (.int p4), .val (.int p5), .val (.int p6), .val (.int (Int32.ofNat k5)), .val (.ref xa), .val (.ref a145), .unset, .unset, .unset] [(.int k148), (.int (1 : Int32)), (.ref a145)])
    refine g_castore C S (i := 1) at_83 A_a145 (by decide) (by decide) ge_a145 (pc' := 84) rfl (fun T149 h149 S W149 B149 => ?_)
    have Zn := Nat.le_trans Zn (Nat.le_of_eq W149.size.symm)
    have S_COMPACT_STRINGS := S_COMPACT_STRINGS.wr W149
    have S_SIOOBE_FORMATTER := S_SIOOBE_FORMATTER.wr W149
    have S_VALUES := S_VALUES.wr W149
    have X_va := X_va.wr W149
    have A_va := A_va.other W149 ne_va_a145
    have S_ALLOW := S_ALLOW.wr W149
    have X_al := X_al.wr W149
    have F_optionName_al := F_optionName_al.other W149 (Or.inl ne_al_a145)
    have X_oA := X_oA.wr W149
    have F_coder_oA := F_coder_oA.other W149 (Or.inl ne_oA_a145)
    have F_value_oA := F_value_oA.other W149 (Or.inl ne_oA_a145)
    have A_bA := A_bA.other W149 ne_bA_a145
    have S_DENY := S_DENY.wr W149
    have X_de := X_de.wr W149
    have F_optionName_de := F_optionName_de.other W149 (Or.inl ne_de_a145)
    have X_oD := X_oD.wr W149
    have F_coder_oD := F_coder_oD.other W149 (Or.inl ne_oD_a145)
    have F_value_oD := F_value_oD.other W149 (Or.inl ne_oD_a145)
    have A_bD := A_bD.other W149 ne_bD_a145
    have S_LOCAL := S_LOCAL.wr W149
    have X_lo := X_lo.wr W149
    have F_optionName_lo := F_optionName_lo.other W149 (Or.inl ne_lo_a145)
    have X_oL := X_oL.wr W149
    have F_coder_oL := F_coder_oL.other W149 (Or.inl ne_oL_a145)
    have F_value_oL := F_value_oL.other W149 (Or.inl ne_oL_a145)
    have A_bL := A_bL.other W149 ne_bL_a145
    have X_xa := X_xa.wr W149
    have F_coder_xa := F_coder_xa.other W149 (Or.inl ne_xa_a145)
    have F_value_xa := F_value_xa.other W149 (Or.inl ne_xa_a145)
    have A_xb := A_xb.other W149 ne_xb_a145
    have A_a145 := B149
    refine g_aload C S at_84 (pc' := 86) rfl rfl rfl ?_
    refine g_iconst C S (2 : Int32) at_86 (pc' := 87) rfl rfl ?_
    refine g_aload C S at_87 (pc' := 89) rfl rfl rfl ?_
    refine g_iconst C S (2 : Int32) at_89 (pc' := 90) rfl rfl ?_
    refine g_iload C S at_90 (pc' := 92) rfl rfl ?_
    refine g_iload C S at_92 (pc' := 94) rfl rfl ?_
    refine g_callS C S (rm := ({ frames := 4, cells := 0, slots := 0, locals := 54 } : Room)) (W := 2) at_94 (hw _ (List.mem_of_getElem? (i := 10) rfl)) (hw _ (List.mem_of_getElem? (i := 11) rfl)) (hw _ (List.mem_of_getElem? (i := 12) rfl)) (hw _ (List.mem_of_getElem? (i := 13) rfl)) (by decide) (c_pck l Z a0 hw xa p5 p6 h149 n0 xb 2 N g (by decide) (by omega) cs hcs S_COMPACT_STRINGS fm hfm S_SIOOBE_FORMATTER X_xa F_coder_xa F_value_xa A_xb) (argsL := [(.ref xa), (.int (2 : Int32)), (.int p5), (.int p6)]) (r := [(.int (2 : Int32)), (.ref a145)]) rfl all0 (lenOf pd_15 rfl) rfl (Nat.le_of_eq rfl) (by decide) (by decide) (by decide) (by decide) (pc' := 97) rfl (fun T150 h150 v150 P150 q150 S => ?_)
    have pm_a145 := List.mem_append_right P150 pm_a145
    obtain ⟨k150, rfl, hk150, e150⟩ := q150; rw [e150] at S
    show Gl p e below s Z consts_1 _ n0 _ T150 (mkF m 97 #[.val (.int p1), .val (.int p2), .val (.int p3), .val (.int p4), .val (.int p5), .val (.int p6), .val (.int (Int32.ofNat k5)), .val (.ref xa), .val (.ref a145), .unset, .unset, .unset] [(.int k150), (.int (2 : Int32)), (.ref a145)])
    refine g_castore C S (i := 2) at_97 A_a145 (by decide) (by decide) ge_a145 (pc' := 98) rfl (fun T151 h151 S W151 B151 => ?_)
    have Zn := Nat.le_trans Zn (Nat.le_of_eq W151.size.symm)
    have S_COMPACT_STRINGS := S_COMPACT_STRINGS.wr W151
    have S_SIOOBE_FORMATTER := S_SIOOBE_FORMATTER.wr W151
    have S_VALUES := S_VALUES.wr W151
    have X_va := X_va.wr W151
    have A_va := A_va.other W151 ne_va_a145
    have S_ALLOW := S_ALLOW.wr W151
    have X_al := X_al.wr W151
    have F_optionName_al := F_optionName_al.other W151 (Or.inl ne_al_a145)
    have X_oA := X_oA.wr W151
    have F_coder_oA := F_coder_oA.other W151 (Or.inl ne_oA_a145)
    have F_value_oA := F_value_oA.other W151 (Or.inl ne_oA_a145)
    have A_bA := A_bA.other W151 ne_bA_a145
    have S_DENY := S_DENY.wr W151
    have X_de := X_de.wr W151
    have F_optionName_de := F_optionName_de.other W151 (Or.inl ne_de_a145)
    have X_oD := X_oD.wr W151
    have F_coder_oD := F_coder_oD.other W151 (Or.inl ne_oD_a145)
    have F_value_oD := F_value_oD.other W151 (Or.inl ne_oD_a145)
    have A_bD := A_bD.other W151 ne_bD_a145
    have S_LOCAL := S_LOCAL.wr W151
    have X_lo := X_lo.wr W151
    have F_optionName_lo := F_optionName_lo.other W151 (Or.inl ne_lo_a145)
    have X_oL := X_oL.wr W151
    have F_coder_oL := F_coder_oL.other W151 (Or.inl ne_oL_a145)
    have F_value_oL := F_value_oL.other W151 (Or.inl ne_oL_a145)
    have A_bL := A_bL.other W151 ne_bL_a145
    have X_xa := X_xa.wr W151
    have F_coder_xa := F_coder_xa.other W151 (Or.inl ne_xa_a145)
    have F_value_xa := F_value_xa.other W151 (Or.inl ne_xa_a145)
    have A_xb := A_xb.other W151 ne_xb_a145
    have A_a145 := B151
    refine g_aload C S at_98 (pc' := 100) rfl rfl rfl ?_
    refine g_iconst C S (3 : Int32) at_100 (pc' := 101) rfl rfl ?_
    refine g_aload C S at_101 (pc' := 103) rfl rfl rfl ?_
    refine g_iconst C S (3 : Int32) at_103 (pc' := 104) rfl rfl ?_
    refine g_iload C S at_104 (pc' := 106) rfl rfl ?_
    refine g_iload C S at_106 (pc' := 108) rfl rfl ?_
    refine g_callS C S (rm := ({ frames := 4, cells := 0, slots := 0, locals := 54 } : Room)) (W := 2) at_108 (hw _ (List.mem_of_getElem? (i := 10) rfl)) (hw _ (List.mem_of_getElem? (i := 11) rfl)) (hw _ (List.mem_of_getElem? (i := 12) rfl)) (hw _ (List.mem_of_getElem? (i := 13) rfl)) (by decide) (c_pck l Z a0 hw xa p5 p6 h151 n0 xb 3 N g (by decide) (by omega) cs hcs S_COMPACT_STRINGS fm hfm S_SIOOBE_FORMATTER X_xa F_coder_xa F_value_xa A_xb) (argsL := [(.ref xa), (.int (3 : Int32)), (.int p5), (.int p6)]) (r := [(.int (3 : Int32)), (.ref a145)]) rfl all0 (lenOf pd_15 rfl) rfl (Nat.le_of_eq rfl) (by decide) (by decide) (by decide) (by decide) (pc' := 111) rfl (fun T152 h152 v152 P152 q152 S => ?_)
    have pm_a145 := List.mem_append_right P152 pm_a145
    obtain ⟨k152, rfl, hk152, e152⟩ := q152; rw [e152] at S
    show Gl p e below s Z consts_1 _ n0 _ T152 (mkF m 111 #[.val (.int p1), .val (.int p2), .val (.int p3), .val (.int p4), .val (.int p5), .val (.int p6), .val (.int (Int32.ofNat k5)), .val (.ref xa), .val (.ref a145), .unset, .unset, .unset] [(.int k152), (.int (3 : Int32)), (.ref a145)])
    refine g_castore C S (i := 3) at_111 A_a145 (by decide) (by decide) ge_a145 (pc' := 112) rfl (fun T153 h153 S W153 B153 => ?_)
    have Zn := Nat.le_trans Zn (Nat.le_of_eq W153.size.symm)
    have S_COMPACT_STRINGS := S_COMPACT_STRINGS.wr W153
    have S_SIOOBE_FORMATTER := S_SIOOBE_FORMATTER.wr W153
    have S_VALUES := S_VALUES.wr W153
    have X_va := X_va.wr W153
    have A_va := A_va.other W153 ne_va_a145
    have S_ALLOW := S_ALLOW.wr W153
    have X_al := X_al.wr W153
    have F_optionName_al := F_optionName_al.other W153 (Or.inl ne_al_a145)
    have X_oA := X_oA.wr W153
    have F_coder_oA := F_coder_oA.other W153 (Or.inl ne_oA_a145)
    have F_value_oA := F_value_oA.other W153 (Or.inl ne_oA_a145)
    have A_bA := A_bA.other W153 ne_bA_a145
    have S_DENY := S_DENY.wr W153
    have X_de := X_de.wr W153
    have F_optionName_de := F_optionName_de.other W153 (Or.inl ne_de_a145)
    have X_oD := X_oD.wr W153
    have F_coder_oD := F_coder_oD.other W153 (Or.inl ne_oD_a145)
    have F_value_oD := F_value_oD.other W153 (Or.inl ne_oD_a145)
    have A_bD := A_bD.other W153 ne_bD_a145
    have S_LOCAL := S_LOCAL.wr W153
    have X_lo := X_lo.wr W153
    have F_optionName_lo := F_optionName_lo.other W153 (Or.inl ne_lo_a145)
    have X_oL := X_oL.wr W153
    have F_coder_oL := F_coder_oL.other W153 (Or.inl ne_oL_a145)
    have F_value_oL := F_value_oL.other W153 (Or.inl ne_oL_a145)
    have A_bL := A_bL.other W153 ne_bL_a145
    have X_xa := X_xa.wr W153
    have F_coder_xa := F_coder_xa.other W153 (Or.inl ne_xa_a145)
    have F_value_xa := F_value_xa.other W153 (Or.inl ne_xa_a145)
    have A_xb := A_xb.other W153 ne_xb_a145
    have A_a145 := B153
    refine g_aload C S at_112 (pc' := 114) rfl rfl rfl ?_
    refine g_iconst C S (4 : Int32) at_114 (pc' := 115) rfl rfl ?_
    refine g_aload C S at_115 (pc' := 117) rfl rfl rfl ?_
    refine g_iconst C S (4 : Int32) at_117 (pc' := 118) rfl rfl ?_
    refine g_iload C S at_118 (pc' := 120) rfl rfl ?_
    refine g_iload C S at_120 (pc' := 122) rfl rfl ?_
    refine g_callS C S (rm := ({ frames := 4, cells := 0, slots := 0, locals := 54 } : Room)) (W := 2) at_122 (hw _ (List.mem_of_getElem? (i := 10) rfl)) (hw _ (List.mem_of_getElem? (i := 11) rfl)) (hw _ (List.mem_of_getElem? (i := 12) rfl)) (hw _ (List.mem_of_getElem? (i := 13) rfl)) (by decide) (c_pck l Z a0 hw xa p5 p6 h153 n0 xb 4 N g (by decide) (by omega) cs hcs S_COMPACT_STRINGS fm hfm S_SIOOBE_FORMATTER X_xa F_coder_xa F_value_xa A_xb) (argsL := [(.ref xa), (.int (4 : Int32)), (.int p5), (.int p6)]) (r := [(.int (4 : Int32)), (.ref a145)]) rfl all0 (lenOf pd_15 rfl) rfl (Nat.le_of_eq rfl) (by decide) (by decide) (by decide) (by decide) (pc' := 125) rfl (fun T154 h154 v154 P154 q154 S => ?_)
    have pm_a145 := List.mem_append_right P154 pm_a145
    obtain ⟨k154, rfl, hk154, e154⟩ := q154; rw [e154] at S
    show Gl p e below s Z consts_1 _ n0 _ T154 (mkF m 125 #[.val (.int p1), .val (.int p2), .val (.int p3), .val (.int p4), .val (.int p5), .val (.int p6), .val (.int (Int32.ofNat k5)), .val (.ref xa), .val (.ref a145), .unset, .unset, .unset] [(.int k154), (.int (4 : Int32)), (.ref a145)])
    refine g_castore C S (i := 4) at_125 A_a145 (by decide) (by decide) ge_a145 (pc' := 126) rfl (fun T155 h155 S W155 B155 => ?_)
    have Zn := Nat.le_trans Zn (Nat.le_of_eq W155.size.symm)
    have S_COMPACT_STRINGS := S_COMPACT_STRINGS.wr W155
    have S_SIOOBE_FORMATTER := S_SIOOBE_FORMATTER.wr W155
    have S_VALUES := S_VALUES.wr W155
    have X_va := X_va.wr W155
    have A_va := A_va.other W155 ne_va_a145
    have S_ALLOW := S_ALLOW.wr W155
    have X_al := X_al.wr W155
    have F_optionName_al := F_optionName_al.other W155 (Or.inl ne_al_a145)
    have X_oA := X_oA.wr W155
    have F_coder_oA := F_coder_oA.other W155 (Or.inl ne_oA_a145)
    have F_value_oA := F_value_oA.other W155 (Or.inl ne_oA_a145)
    have A_bA := A_bA.other W155 ne_bA_a145
    have S_DENY := S_DENY.wr W155
    have X_de := X_de.wr W155
    have F_optionName_de := F_optionName_de.other W155 (Or.inl ne_de_a145)
    have X_oD := X_oD.wr W155
    have F_coder_oD := F_coder_oD.other W155 (Or.inl ne_oD_a145)
    have F_value_oD := F_value_oD.other W155 (Or.inl ne_oD_a145)
    have A_bD := A_bD.other W155 ne_bD_a145
    have S_LOCAL := S_LOCAL.wr W155
    have X_lo := X_lo.wr W155
    have F_optionName_lo := F_optionName_lo.other W155 (Or.inl ne_lo_a145)
    have X_oL := X_oL.wr W155
    have F_coder_oL := F_coder_oL.other W155 (Or.inl ne_oL_a145)
    have F_value_oL := F_value_oL.other W155 (Or.inl ne_oL_a145)
    have A_bL := A_bL.other W155 ne_bL_a145
    have X_xa := X_xa.wr W155
    have F_coder_xa := F_coder_xa.other W155 (Or.inl ne_xa_a145)
    have F_value_xa := F_value_xa.other W155 (Or.inl ne_xa_a145)
    have A_xb := A_xb.other W155 ne_xb_a145
    have A_a145 := B155
    refine g_aload C S at_126 (pc' := 128) rfl rfl rfl ?_
    refine g_iconst C S (5 : Int32) at_128 (pc' := 129) rfl rfl ?_
    refine g_aload C S at_129 (pc' := 131) rfl rfl rfl ?_
    refine g_iconst C S (5 : Int32) at_131 (pc' := 132) rfl rfl ?_
    refine g_iload C S at_132 (pc' := 134) rfl rfl ?_
    refine g_iload C S at_134 (pc' := 136) rfl rfl ?_
    refine g_callS C S (rm := ({ frames := 4, cells := 0, slots := 0, locals := 54 } : Room)) (W := 2) at_136 (hw _ (List.mem_of_getElem? (i := 10) rfl)) (hw _ (List.mem_of_getElem? (i := 11) rfl)) (hw _ (List.mem_of_getElem? (i := 12) rfl)) (hw _ (List.mem_of_getElem? (i := 13) rfl)) (by decide) (c_pck l Z a0 hw xa p5 p6 h155 n0 xb 5 N g (by decide) (by omega) cs hcs S_COMPACT_STRINGS fm hfm S_SIOOBE_FORMATTER X_xa F_coder_xa F_value_xa A_xb) (argsL := [(.ref xa), (.int (5 : Int32)), (.int p5), (.int p6)]) (r := [(.int (5 : Int32)), (.ref a145)]) rfl all0 (lenOf pd_15 rfl) rfl (Nat.le_of_eq rfl) (by decide) (by decide) (by decide) (by decide) (pc' := 139) rfl (fun T156 h156 v156 P156 q156 S => ?_)
    have pm_a145 := List.mem_append_right P156 pm_a145
    obtain ⟨k156, rfl, hk156, e156⟩ := q156; rw [e156] at S
    show Gl p e below s Z consts_1 _ n0 _ T156 (mkF m 139 #[.val (.int p1), .val (.int p2), .val (.int p3), .val (.int p4), .val (.int p5), .val (.int p6), .val (.int (Int32.ofNat k5)), .val (.ref xa), .val (.ref a145), .unset, .unset, .unset] [(.int k156), (.int (5 : Int32)), (.ref a145)])
    refine g_castore C S (i := 5) at_139 A_a145 (by decide) (by decide) ge_a145 (pc' := 140) rfl (fun T157 h157 S W157 B157 => ?_)
    have Zn := Nat.le_trans Zn (Nat.le_of_eq W157.size.symm)
    have S_COMPACT_STRINGS := S_COMPACT_STRINGS.wr W157
    have S_SIOOBE_FORMATTER := S_SIOOBE_FORMATTER.wr W157
    have S_VALUES := S_VALUES.wr W157
    have X_va := X_va.wr W157
    have A_va := A_va.other W157 ne_va_a145
    have S_ALLOW := S_ALLOW.wr W157
    have X_al := X_al.wr W157
    have F_optionName_al := F_optionName_al.other W157 (Or.inl ne_al_a145)
    have X_oA := X_oA.wr W157
    have F_coder_oA := F_coder_oA.other W157 (Or.inl ne_oA_a145)
    have F_value_oA := F_value_oA.other W157 (Or.inl ne_oA_a145)
    have A_bA := A_bA.other W157 ne_bA_a145
    have S_DENY := S_DENY.wr W157
    have X_de := X_de.wr W157
    have F_optionName_de := F_optionName_de.other W157 (Or.inl ne_de_a145)
    have X_oD := X_oD.wr W157
    have F_coder_oD := F_coder_oD.other W157 (Or.inl ne_oD_a145)
    have F_value_oD := F_value_oD.other W157 (Or.inl ne_oD_a145)
    have A_bD := A_bD.other W157 ne_bD_a145
    have S_LOCAL := S_LOCAL.wr W157
    have X_lo := X_lo.wr W157
    have F_optionName_lo := F_optionName_lo.other W157 (Or.inl ne_lo_a145)
    have X_oL := X_oL.wr W157
    have F_coder_oL := F_coder_oL.other W157 (Or.inl ne_oL_a145)
    have F_value_oL := F_value_oL.other W157 (Or.inl ne_oL_a145)
    have A_bL := A_bL.other W157 ne_bL_a145
    have X_xa := X_xa.wr W157
    have F_coder_xa := F_coder_xa.other W157 (Or.inl ne_xa_a145)
    have F_value_xa := F_value_xa.other W157 (Or.inl ne_xa_a145)
    have A_xb := A_xb.other W157 ne_xb_a145
    have A_a145 := B157
    refine g_aload C S at_140 (pc' := 142) rfl rfl rfl ?_
    refine g_bipush C S (6 : Int32) at_142 (pc' := 144) rfl rfl ?_
    refine g_aload C S at_144 (pc' := 146) rfl rfl rfl ?_
    refine g_bipush C S (6 : Int32) at_146 (pc' := 148) rfl rfl ?_
    refine g_iload C S at_148 (pc' := 150) rfl rfl ?_
    refine g_iload C S at_150 (pc' := 152) rfl rfl ?_
    refine g_callS C S (rm := ({ frames := 4, cells := 0, slots := 0, locals := 54 } : Room)) (W := 2) at_152 (hw _ (List.mem_of_getElem? (i := 10) rfl)) (hw _ (List.mem_of_getElem? (i := 11) rfl)) (hw _ (List.mem_of_getElem? (i := 12) rfl)) (hw _ (List.mem_of_getElem? (i := 13) rfl)) (by decide) (c_pck l Z a0 hw xa p5 p6 h157 n0 xb 6 N g (by decide) (by omega) cs hcs S_COMPACT_STRINGS fm hfm S_SIOOBE_FORMATTER X_xa F_coder_xa F_value_xa A_xb) (argsL := [(.ref xa), (.int (6 : Int32)), (.int p5), (.int p6)]) (r := [(.int (6 : Int32)), (.ref a145)]) rfl all0 (lenOf pd_15 rfl) rfl (Nat.le_of_eq rfl) (by decide) (by decide) (by decide) (by decide) (pc' := 155) rfl (fun T158 h158 v158 P158 q158 S => ?_)
    have pm_a145 := List.mem_append_right P158 pm_a145
    obtain ⟨k158, rfl, hk158, e158⟩ := q158; rw [e158] at S
    show Gl p e below s Z consts_1 _ n0 _ T158 (mkF m 155 #[.val (.int p1), .val (.int p2), .val (.int p3), .val (.int p4), .val (.int p5), .val (.int p6), .val (.int (Int32.ofNat k5)), .val (.ref xa), .val (.ref a145), .unset, .unset, .unset] [(.int k158), (.int (6 : Int32)), (.ref a145)])
    refine g_castore C S (i := 6) at_155 A_a145 (by decide) (by decide) ge_a145 (pc' := 156) rfl (fun T159 h159 S W159 B159 => ?_)
    have Zn := Nat.le_trans Zn (Nat.le_of_eq W159.size.symm)
    have S_COMPACT_STRINGS := S_COMPACT_STRINGS.wr W159
    have S_SIOOBE_FORMATTER := S_SIOOBE_FORMATTER.wr W159
    have S_VALUES := S_VALUES.wr W159
    have X_va := X_va.wr W159
    have A_va := A_va.other W159 ne_va_a145
    have S_ALLOW := S_ALLOW.wr W159
    have X_al := X_al.wr W159
    have F_optionName_al := F_optionName_al.other W159 (Or.inl ne_al_a145)
    have X_oA := X_oA.wr W159
    have F_coder_oA := F_coder_oA.other W159 (Or.inl ne_oA_a145)
    have F_value_oA := F_value_oA.other W159 (Or.inl ne_oA_a145)
    have A_bA := A_bA.other W159 ne_bA_a145
    have S_DENY := S_DENY.wr W159
    have X_de := X_de.wr W159
    have F_optionName_de := F_optionName_de.other W159 (Or.inl ne_de_a145)
    have X_oD := X_oD.wr W159
    have F_coder_oD := F_coder_oD.other W159 (Or.inl ne_oD_a145)
    have F_value_oD := F_value_oD.other W159 (Or.inl ne_oD_a145)
    have A_bD := A_bD.other W159 ne_bD_a145
    have S_LOCAL := S_LOCAL.wr W159
    have X_lo := X_lo.wr W159
    have F_optionName_lo := F_optionName_lo.other W159 (Or.inl ne_lo_a145)
    have X_oL := X_oL.wr W159
    have F_coder_oL := F_coder_oL.other W159 (Or.inl ne_oL_a145)
    have F_value_oL := F_value_oL.other W159 (Or.inl ne_oL_a145)
    have A_bL := A_bL.other W159 ne_bL_a145
    have X_xa := X_xa.wr W159
    have F_coder_xa := F_coder_xa.other W159 (Or.inl ne_xa_a145)
    have F_value_xa := F_value_xa.other W159 (Or.inl ne_xa_a145)
    have A_xb := A_xb.other W159 ne_xb_a145
    have A_a145 := B159
    refine g_aload C S at_156 (pc' := 158) rfl rfl rfl ?_
    refine g_bipush C S (7 : Int32) at_158 (pc' := 160) rfl rfl ?_
    refine g_aload C S at_160 (pc' := 162) rfl rfl rfl ?_
    refine g_bipush C S (7 : Int32) at_162 (pc' := 164) rfl rfl ?_
    refine g_iload C S at_164 (pc' := 166) rfl rfl ?_
    refine g_iload C S at_166 (pc' := 168) rfl rfl ?_
    refine g_callS C S (rm := ({ frames := 4, cells := 0, slots := 0, locals := 54 } : Room)) (W := 2) at_168 (hw _ (List.mem_of_getElem? (i := 10) rfl)) (hw _ (List.mem_of_getElem? (i := 11) rfl)) (hw _ (List.mem_of_getElem? (i := 12) rfl)) (hw _ (List.mem_of_getElem? (i := 13) rfl)) (by decide) (c_pck l Z a0 hw xa p5 p6 h159 n0 xb 7 N g (by decide) (by omega) cs hcs S_COMPACT_STRINGS fm hfm S_SIOOBE_FORMATTER X_xa F_coder_xa F_value_xa A_xb) (argsL := [(.ref xa), (.int (7 : Int32)), (.int p5), (.int p6)]) (r := [(.int (7 : Int32)), (.ref a145)]) rfl all0 (lenOf pd_15 rfl) rfl (Nat.le_of_eq rfl) (by decide) (by decide) (by decide) (by decide) (pc' := 171) rfl (fun T160 h160 v160 P160 q160 S => ?_)
    have pm_a145 := List.mem_append_right P160 pm_a145
    obtain ⟨k160, rfl, hk160, e160⟩ := q160; rw [e160] at S
    show Gl p e below s Z consts_1 _ n0 _ T160 (mkF m 171 #[.val (.int p1), .val (.int p2), .val (.int p3), .val (.int p4), .val (.int p5), .val (.int p6), .val (.int (Int32.ofNat k5)), .val (.ref xa), .val (.ref a145), .unset, .unset, .unset] [(.int k160), (.int (7 : Int32)), (.ref a145)])
    refine g_castore C S (i := 7) at_171 A_a145 (by decide) (by decide) ge_a145 (pc' := 172) rfl (fun T161 h161 S W161 B161 => ?_)
    have Zn := Nat.le_trans Zn (Nat.le_of_eq W161.size.symm)
    have S_COMPACT_STRINGS := S_COMPACT_STRINGS.wr W161
    have S_SIOOBE_FORMATTER := S_SIOOBE_FORMATTER.wr W161
    have S_VALUES := S_VALUES.wr W161
    have X_va := X_va.wr W161
    have A_va := A_va.other W161 ne_va_a145
    have S_ALLOW := S_ALLOW.wr W161
    have X_al := X_al.wr W161
    have F_optionName_al := F_optionName_al.other W161 (Or.inl ne_al_a145)
    have X_oA := X_oA.wr W161
    have F_coder_oA := F_coder_oA.other W161 (Or.inl ne_oA_a145)
    have F_value_oA := F_value_oA.other W161 (Or.inl ne_oA_a145)
    have A_bA := A_bA.other W161 ne_bA_a145
    have S_DENY := S_DENY.wr W161
    have X_de := X_de.wr W161
    have F_optionName_de := F_optionName_de.other W161 (Or.inl ne_de_a145)
    have X_oD := X_oD.wr W161
    have F_coder_oD := F_coder_oD.other W161 (Or.inl ne_oD_a145)
    have F_value_oD := F_value_oD.other W161 (Or.inl ne_oD_a145)
    have A_bD := A_bD.other W161 ne_bD_a145
    have S_LOCAL := S_LOCAL.wr W161
    have X_lo := X_lo.wr W161
    have F_optionName_lo := F_optionName_lo.other W161 (Or.inl ne_lo_a145)
    have X_oL := X_oL.wr W161
    have F_coder_oL := F_coder_oL.other W161 (Or.inl ne_oL_a145)
    have F_value_oL := F_value_oL.other W161 (Or.inl ne_oL_a145)
    have A_bL := A_bL.other W161 ne_bL_a145
    have X_xa := X_xa.wr W161
    have F_coder_xa := F_coder_xa.other W161 (Or.inl ne_xa_a145)
    have F_value_xa := F_value_xa.other W161 (Or.inl ne_xa_a145)
    have A_xb := A_xb.other W161 ne_xb_a145
    have A_a145 := B161
    have A_a145 : Ary Z h161 a145 .char 8 (fun q => .int ((fun q => [k146, k148, k150, k152, k154, k156, k158, k160].getD q 0) q)) := A_a145.cg (fun q hq => by match q, hq with | 0, _ => simp [nar_char hk146] | 1, _ => simp [nar_char hk148] | 2, _ => simp [nar_char hk150] | 3, _ => simp [nar_char hk152] | 4, _ => simp [nar_char hk154] | 5, _ => simp [nar_char hk156] | 6, _ => simp [nar_char hk158] | 7, _ => simp [nar_char hk160] | q + 8, hq => exact absurd hq (by omega))
    have hL8 := lat8 hk146 hk148 hk150 hk152 hk154 hk156 hk158 hk160
    have J192 : ∀ (cf : Nat → Int32) (hLc : Lat cf 8)  (T : State) (h : Heap) (PS : List Addr), On p l e room_1 s m #[(.int p1), (.int p2), (.int p3), (.int p4), (.int p5), (.int p6)] below meth c Z consts_1 "com/example/pitlochry/pitlochry/OnStoreErrorNamedPinLaw" n0 T h PS 3 32 → n0 ≤ h.size → Sta Z h "java/lang/String" "COMPACT_STRINGS" "Z" (.int cs) → Sta Z h "jdk/internal/util/Preconditions" "SIOOBE_FORMATTER" "Ljava/util/function/BiFunction;" fm → Sta Z h "com/example/pitlochry/pitlochry/OnStoreError" "$VALUES" "[Lcom/example/pitlochry/pitlochry/OnStoreError;" (.ref va) → Exa Z h va "[Lcom/example/pitlochry/pitlochry/OnStoreError;" → Cln Z h va (.object "com/example/pitlochry/pitlochry/OnStoreError") 3 (fun q => [Value.ref al, .ref de, .ref lo].getD q .null) → Sta Z h "com/example/pitlochry/pitlochry/OnStoreError" "ALLOW" "Lcom/example/pitlochry/pitlochry/OnStoreError;" (.ref al) → Exa Z h al "com/example/pitlochry/pitlochry/OnStoreError" → Fld Z h al "com/example/pitlochry/pitlochry/OnStoreError" "optionName" "Ljava/lang/String;" (.ref oA) → Exa Z h oA "java/lang/String" → Fld Z h oA "java/lang/String" "coder" "B" (.int (0 : Int32)) → Fld Z h oA "java/lang/String" "value" "[B" (.ref bA) → Ary Z h bA .byte 5 (fun q => .int (wA q)) → Sta Z h "com/example/pitlochry/pitlochry/OnStoreError" "DENY" "Lcom/example/pitlochry/pitlochry/OnStoreError;" (.ref de) → Exa Z h de "com/example/pitlochry/pitlochry/OnStoreError" → Fld Z h de "com/example/pitlochry/pitlochry/OnStoreError" "optionName" "Ljava/lang/String;" (.ref oD) → Exa Z h oD "java/lang/String" → Fld Z h oD "java/lang/String" "coder" "B" (.int (0 : Int32)) → Fld Z h oD "java/lang/String" "value" "[B" (.ref bD) → Ary Z h bD .byte 4 (fun q => .int (wD q)) → Sta Z h "com/example/pitlochry/pitlochry/OnStoreError" "LOCAL" "Lcom/example/pitlochry/pitlochry/OnStoreError;" (.ref lo) → Exa Z h lo "com/example/pitlochry/pitlochry/OnStoreError" → Fld Z h lo "com/example/pitlochry/pitlochry/OnStoreError" "optionName" "Ljava/lang/String;" (.ref oL) → Exa Z h oL "java/lang/String" → Fld Z h oL "java/lang/String" "coder" "B" (.int (0 : Int32)) → Fld Z h oL "java/lang/String" "value" "[B" (.ref bL) → Ary Z h bL .byte 5 (fun q => .int (wL q)) → Ary Z h a145 .char 8 (fun q => .int (cf q)) → Gl p e below s Z consts_1 room_1 n0 (fun v h _ => v = some (.int 1)) T (mkF m 192 #[.val (.int p1), .val (.int p2), .val (.int p3), .val (.int p4), .val (.int p5), .val (.int p6), .val (.int (Int32.ofNat k5)), .val (.ref xa), .val (.ref a145), .unset, .unset, .unset] []) := by
      intro cf hLc T h PS S Zn S_COMPACT_STRINGS S_SIOOBE_FORMATTER S_VALUES X_va A_va S_ALLOW X_al F_optionName_al X_oA F_coder_oA F_value_oA A_bA S_DENY X_de F_optionName_de X_oD F_coder_oD F_value_oD A_bD S_LOCAL X_lo F_optionName_lo X_oL F_coder_oL F_value_oL A_bL A_a145
      refine g_iloadN C S at_192 (pc' := 193) rfl rfl ?_
      refine g_iconst C S (5 : Int32) at_193 (pc' := 194) rfl rfl ?_
      refine g_iadd C S at_194 (pc' := 195) rfl ?_
      refine g_bipush C S (7 : Int32) at_195 (pc' := 197) rfl rfl ?_
      refine g_iand C S at_197 (pc' := 198) rfl ?_
      obtain ⟨n7, e7, hn7⟩ := mask7n (p4 + 5); rw [e7]
      refine g_istore C S at_198 (pc' := 200) rfl (L' := #[.val (.int p1), .val (.int p2), .val (.int p3), .val (.int p4), .val (.int p5), .val (.int p6), .val (.int (Int32.ofNat k5)), .val (.ref xa), .val (.ref a145), .val (.int (Int32.ofNat n7)), .unset, .unset]) rfl ?_
      refine g_iload C S at_200 (pc' := 202) rfl rfl ?_
      refine g_iconst C S (4 : Int32) at_202 (pc' := 203) rfl rfl ?_
      refine g_icmp_ne C S at_203 (pc' := 210) (pf := 206) (by decide) (by decide) rfl (fun hc203 => ?_) (fun hc203 => ?_)
      · refine g_aload C S at_210 (pc' := 212) rfl rfl rfl ?_
        refine g_iload C S at_212 (pc' := 214) rfl rfl ?_
        refine g_callS C S (rm := ({ frames := 4, cells := 6, slots := 19, locals := 67 } : Room)) (W := 0) at_214 (hw _ (List.mem_of_getElem? (i := 49) rfl)) (hw _ (List.mem_of_getElem? (i := 50) rfl)) (hw _ (List.mem_of_getElem? (i := 12) rfl)) (hw _ (List.mem_of_getElem? (i := 51) rfl)) (by decide) (c_pfx l Z a0 hw a145 h n0 n7 cf hn7 hLc Zn cs hcs S_COMPACT_STRINGS A_a145) (argsL := [(.ref a145), (.int (Int32.ofNat n7))]) (r := []) rfl all0 (lenOf pd_16 rfl) rfl (Nat.le_of_eq rfl) (by decide) (by decide) (by decide) (by decide) (pc' := 217) rfl (fun T162 h162 v162 P162 q162 S => ?_)
        obtain ⟨a162, b162, rfl, K162, X_a162, F_coder_a162, F_value_a162, A_b162⟩ := q162
        have S_COMPACT_STRINGS := Sta.keep0 S_COMPACT_STRINGS K162
        have S_SIOOBE_FORMATTER := Sta.keep0 S_SIOOBE_FORMATTER K162
        have S_VALUES := Sta.keep0 S_VALUES K162
        have S_ALLOW := Sta.keep0 S_ALLOW K162
        have S_DENY := Sta.keep0 S_DENY K162
        have S_LOCAL := Sta.keep0 S_LOCAL K162
        have Zn := Nat.le_trans Zn K162.1
        have X_va := X_va.keep K162
        have A_va := A_va.keep K162 nin0
        have X_al := X_al.keep K162
        have F_optionName_al := F_optionName_al.keep K162 nin0
        have X_oA := X_oA.keep K162
        have F_coder_oA := F_coder_oA.keep K162 nin0
        have F_value_oA := F_value_oA.keep K162 nin0
        have A_bA := A_bA.keep K162 nin0
        have X_de := X_de.keep K162
        have F_optionName_de := F_optionName_de.keep K162 nin0
        have X_oD := X_oD.keep K162
        have F_coder_oD := F_coder_oD.keep K162 nin0
        have F_value_oD := F_value_oD.keep K162 nin0
        have A_bD := A_bD.keep K162 nin0
        have X_lo := X_lo.keep K162
        have F_optionName_lo := F_optionName_lo.keep K162 nin0
        have X_oL := X_oL.keep K162
        have F_coder_oL := F_coder_oL.keep K162 nin0
        have F_value_oL := F_value_oL.keep K162 nin0
        have A_bL := A_bL.keep K162 nin0
        have A_a145 := A_a145.keep K162 nin0
        show Gl p e below s Z consts_1 _ n0 _ T162 (mkF m 217 #[.val (.int p1), .val (.int p2), .val (.int p3), .val (.int p4), .val (.int p5), .val (.int p6), .val (.int (Int32.ofNat k5)), .val (.ref xa), .val (.ref a145), .val (.int (Int32.ofNat n7)), .unset, .unset] [(.ref a162)])
        refine g_astore C S at_217 (pc' := 219) rfl rfl (L' := #[.val (.int p1), .val (.int p2), .val (.int p3), .val (.int p4), .val (.int p5), .val (.int p6), .val (.int (Int32.ofNat k5)), .val (.ref xa), .val (.ref a145), .val (.int (Int32.ofNat n7)), .val (.ref a162), .unset]) rfl ?_
        refine g_aload C S at_219 (pc' := 221) rfl rfl rfl ?_
        refine g_callS C S (rm := ({ frames := 2, cells := 1, slots := 3, locals := 28 } : Room)) (W := 0) at_221 (hw _ (List.mem_of_getElem? (i := 73) rfl)) (hw _ (List.mem_of_getElem? (i := 74) rfl)) (hw _ (List.mem_of_getElem? (i := 75) rfl)) (hw _ (List.mem_of_getElem? (i := 76) rfl)) (by decide) (c_nmd l Z a0 hw a162 h162 n0 b162 n7 (fun q => bt (cf q)) (by omega) cs hcs S_COMPACT_STRINGS X_a162 F_coder_a162 F_value_a162 A_b162 Zn va al de lo S_VALUES X_va A_va oA bA S_ALLOW X_al F_optionName_al X_oA F_coder_oA F_value_oA A_bA oD bD S_DENY X_de F_optionName_de X_oD F_coder_oD F_value_oD A_bD oL bL S_LOCAL X_lo F_optionName_lo X_oL F_coder_oL F_value_oL A_bL) (argsL := [(.ref a162)]) (r := []) rfl all0 (lenOf pd_17 rfl) rfl (Nat.le_of_eq rfl) (by decide) (by decide) (by decide) (by decide) (pc' := 224) rfl (fun T163 h163 v163 P163 q163 S => ?_)
        obtain ⟨K163, q163⟩ := q163
        obtain ⟨z163, rfl, hr163, hG⟩ := NM.val q163
        have S_COMPACT_STRINGS := Sta.keep0 S_COMPACT_STRINGS K163
        have S_SIOOBE_FORMATTER := Sta.keep0 S_SIOOBE_FORMATTER K163
        have S_VALUES := Sta.keep0 S_VALUES K163
        have S_ALLOW := Sta.keep0 S_ALLOW K163
        have S_DENY := Sta.keep0 S_DENY K163
        have S_LOCAL := Sta.keep0 S_LOCAL K163
        have Zn := Nat.le_trans Zn K163.1
        have X_va := X_va.keep K163
        have A_va := A_va.keep K163 nin0
        have X_al := X_al.keep K163
        have F_optionName_al := F_optionName_al.keep K163 nin0
        have X_oA := X_oA.keep K163
        have F_coder_oA := F_coder_oA.keep K163 nin0
        have F_value_oA := F_value_oA.keep K163 nin0
        have A_bA := A_bA.keep K163 nin0
        have X_de := X_de.keep K163
        have F_optionName_de := F_optionName_de.keep K163 nin0
        have X_oD := X_oD.keep K163
        have F_coder_oD := F_coder_oD.keep K163 nin0
        have F_value_oD := F_value_oD.keep K163 nin0
        have A_bD := A_bD.keep K163 nin0
        have X_lo := X_lo.keep K163
        have F_optionName_lo := F_optionName_lo.keep K163 nin0
        have X_oL := X_oL.keep K163
        have F_coder_oL := F_coder_oL.keep K163 nin0
        have F_value_oL := F_value_oL.keep K163 nin0
        have A_bL := A_bL.keep K163 nin0
        have A_a145 := A_a145.keep K163 nin0
        have X_a162 := X_a162.keep K163
        have F_coder_a162 := F_coder_a162.keep K163 nin0
        have F_value_a162 := F_value_a162.keep K163 nin0
        have A_b162 := A_b162.keep K163 nin0
        show Gl p e below s Z consts_1 _ n0 _ T163 (mkF m 224 #[.val (.int p1), .val (.int p2), .val (.int p3), .val (.int p4), .val (.int p5), .val (.int p6), .val (.int (Int32.ofNat k5)), .val (.ref xa), .val (.ref a145), .val (.int (Int32.ofNat n7)), .val (.ref a162), .unset] [z163])
        refine g_astore C S at_224 (pc' := 226) rfl hr163 (L' := #[.val (.int p1), .val (.int p2), .val (.int p3), .val (.int p4), .val (.int p5), .val (.int p6), .val (.int (Int32.ofNat k5)), .val (.ref xa), .val (.ref a145), .val (.int (Int32.ofNat n7)), .val (.ref a162), .val z163]) (XS.store1 rfl (by first | exact Or.inl rfl | exact Or.inr ⟨_, rfl, rfl⟩) (cat1 hr163)) ?_
        refine g_aload C S at_226 (pc' := 228) rfl rfl hr163 ?_
        refine g_aload C S at_228 (pc' := 230) rfl rfl rfl ?_
        refine g_callS C S (rm := ({ frames := 2, cells := 6, slots := 68, locals := 28 } : Room)) (W := 1) at_230 (hw _ (List.mem_of_getElem? (i := 106) rfl)) (hw _ (List.mem_of_getElem? (i := 107) rfl)) (hw _ (List.mem_of_getElem? (i := 12) rfl)) (hw _ (List.mem_of_getElem? (i := 108) rfl)) (by decide) (c_exp l Z a0 hw a162 h163 n0 b162 n7 (fun q => bt (cf q)) (by omega) cs hcs S_COMPACT_STRINGS X_a162 F_coder_a162 F_value_a162 A_b162 Zn va al de lo S_VALUES X_va A_va oA bA S_ALLOW X_al F_optionName_al X_oA F_coder_oA F_value_oA A_bA oD bD S_DENY X_de F_optionName_de X_oD F_coder_oD F_value_oD A_bD oL bL S_LOCAL X_lo F_optionName_lo X_oL F_coder_oL F_value_oL A_bL) (argsL := [(.ref a162)]) (r := [z163]) rfl all0 (lenOf pd_17 rfl) rfl (Nat.le_of_eq (by simp [cat1 hr163])) (by decide) (by decide) (by decide) (by decide) (pc' := 233) rfl (fun T164 h164 v164 P164 q164 S => ?_)
        obtain ⟨z164, rfl, hr164, hX⟩ := NM.val q164
        show Gl p e below s Z consts_1 _ n0 _ T164 (mkF m 233 #[.val (.int p1), .val (.int p2), .val (.int p3), .val (.int p4), .val (.int p5), .val (.int p6), .val (.int (Int32.ofNat k5)), .val (.ref xa), .val (.ref a145), .val (.int (Int32.ofNat n7)), .val (.ref a162), .val z163] [z164, z163])
        refine g_acmp_ne C S hr163 hr164 at_233 (pc' := 240) (pf := 236) (by decide) (by decide) rfl (fun hc233 => absurd (Option.some.inj (NM.uniq hG hX)) hc233) (fun hc233 => ?_)
        refine g_iconst C S (1 : Int32) at_236 (pc' := 237) rfl rfl ?_
        refine g_goto C S at_237 (pc' := 241) (by decide) (by decide) ?_
        exact g_retZ C S at_241 (by decide) (by decide) (by decide) (rfl)
      · refine g_aconst_null C S at_206 (pc' := 207) rfl ?_
        refine g_goto C S at_207 (pc' := 217) (by decide) (by decide) ?_
        refine g_astore C S at_217 (pc' := 219) rfl rfl (L' := #[.val (.int p1), .val (.int p2), .val (.int p3), .val (.int p4), .val (.int p5), .val (.int p6), .val (.int (Int32.ofNat k5)), .val (.ref xa), .val (.ref a145), .val (.int (Int32.ofNat n7)), .val .null, .unset]) rfl ?_
        refine g_aload C S at_219 (pc' := 221) rfl rfl rfl ?_
        refine g_callS C S (rm := ({ frames := 2, cells := 1, slots := 3, locals := 28 } : Room)) (W := 0) at_221 (hw _ (List.mem_of_getElem? (i := 73) rfl)) (hw _ (List.mem_of_getElem? (i := 74) rfl)) (hw _ (List.mem_of_getElem? (i := 75) rfl)) (hw _ (List.mem_of_getElem? (i := 76) rfl)) (by decide) (c_nmN l Z a0 hw h n0 cs hcs S_COMPACT_STRINGS Zn va al de lo S_VALUES X_va A_va oA bA S_ALLOW X_al F_optionName_al X_oA F_coder_oA F_value_oA A_bA oD bD S_DENY X_de F_optionName_de X_oD F_coder_oD F_value_oD A_bD oL bL S_LOCAL X_lo F_optionName_lo X_oL F_coder_oL F_value_oL A_bL) (argsL := [.null]) (r := []) rfl all0 (lenOf pd_17 rfl) rfl (Nat.le_of_eq rfl) (by decide) (by decide) (by decide) (by decide) (pc' := 224) rfl (fun T165 h165 v165 P165 q165 S => ?_)
        obtain ⟨rfl, K165⟩ := q165
        have S_COMPACT_STRINGS := Sta.keep0 S_COMPACT_STRINGS K165
        have S_SIOOBE_FORMATTER := Sta.keep0 S_SIOOBE_FORMATTER K165
        have S_VALUES := Sta.keep0 S_VALUES K165
        have S_ALLOW := Sta.keep0 S_ALLOW K165
        have S_DENY := Sta.keep0 S_DENY K165
        have S_LOCAL := Sta.keep0 S_LOCAL K165
        have Zn := Nat.le_trans Zn K165.1
        have X_va := X_va.keep K165
        have A_va := A_va.keep K165 nin0
        have X_al := X_al.keep K165
        have F_optionName_al := F_optionName_al.keep K165 nin0
        have X_oA := X_oA.keep K165
        have F_coder_oA := F_coder_oA.keep K165 nin0
        have F_value_oA := F_value_oA.keep K165 nin0
        have A_bA := A_bA.keep K165 nin0
        have X_de := X_de.keep K165
        have F_optionName_de := F_optionName_de.keep K165 nin0
        have X_oD := X_oD.keep K165
        have F_coder_oD := F_coder_oD.keep K165 nin0
        have F_value_oD := F_value_oD.keep K165 nin0
        have A_bD := A_bD.keep K165 nin0
        have X_lo := X_lo.keep K165
        have F_optionName_lo := F_optionName_lo.keep K165 nin0
        have X_oL := X_oL.keep K165
        have F_coder_oL := F_coder_oL.keep K165 nin0
        have F_value_oL := F_value_oL.keep K165 nin0
        have A_bL := A_bL.keep K165 nin0
        have A_a145 := A_a145.keep K165 nin0
        show Gl p e below s Z consts_1 _ n0 _ T165 (mkF m 224 #[.val (.int p1), .val (.int p2), .val (.int p3), .val (.int p4), .val (.int p5), .val (.int p6), .val (.int (Int32.ofNat k5)), .val (.ref xa), .val (.ref a145), .val (.int (Int32.ofNat n7)), .val .null, .unset] [.null])
        refine g_astore C S at_224 (pc' := 226) rfl rfl (L' := #[.val (.int p1), .val (.int p2), .val (.int p3), .val (.int p4), .val (.int p5), .val (.int p6), .val (.int (Int32.ofNat k5)), .val (.ref xa), .val (.ref a145), .val (.int (Int32.ofNat n7)), .val .null, .val .null]) rfl ?_
        refine g_aload C S at_226 (pc' := 228) rfl rfl rfl ?_
        refine g_aload C S at_228 (pc' := 230) rfl rfl rfl ?_
        refine g_callS C S (rm := ({ frames := 0, cells := 0, slots := 0, locals := 0 } : Room)) (W := 1) at_230 (hw _ (List.mem_of_getElem? (i := 106) rfl)) (hw _ (List.mem_of_getElem? (i := 107) rfl)) (hw _ (List.mem_of_getElem? (i := 12) rfl)) (hw _ (List.mem_of_getElem? (i := 108) rfl)) (by decide) (c_exN l Z a0 hw h165 n0) (argsL := [.null]) (r := [.null]) rfl all0 (lenOf pd_17 rfl) rfl (Nat.le_of_eq rfl) (by decide) (by decide) (by decide) (by decide) (pc' := 233) rfl (fun T166 h166 v166 P166 q166 S => ?_)
        subst q166
        show Gl p e below s Z consts_1 _ n0 _ T166 (mkF m 233 #[.val (.int p1), .val (.int p2), .val (.int p3), .val (.int p4), .val (.int p5), .val (.int p6), .val (.int (Int32.ofNat k5)), .val (.ref xa), .val (.ref a145), .val (.int (Int32.ofNat n7)), .val .null, .val .null] [.null, .null])
        refine g_acmp_ne C S rfl rfl at_233 (pc' := 240) (pf := 236) (by decide) (by decide) rfl (fun hc233 => absurd rfl hc233) (fun hc233 => ?_)
        refine g_iconst C S (1 : Int32) at_236 (pc' := 237) rfl rfl ?_
        refine g_goto C S at_237 (pc' := 241) (by decide) (by decide) ?_
        exact g_retZ C S at_241 (by decide) (by decide) (by decide) (rfl)
    refine g_iloadN C S at_172 (pc' := 173) rfl rfl ?_
    refine g_bipush C S (8 : Int32) at_173 (pc' := 175) rfl rfl ?_
    refine g_iand C S at_175 (pc' := 176) rfl ?_
    refine g_if_eq C S at_176 (pc' := 192) (pf := 179) (by decide) (by decide) rfl (fun hc176 => ?_) (fun hc176 => ?_)
    · exact J192 _ hL8 _ _ _ S Zn S_COMPACT_STRINGS S_SIOOBE_FORMATTER S_VALUES X_va A_va S_ALLOW X_al F_optionName_al X_oA F_coder_oA F_value_oA A_bA S_DENY X_de F_optionName_de X_oD F_coder_oD F_value_oD A_bD S_LOCAL X_lo F_optionName_lo X_oL F_coder_oL F_value_oL A_bL A_a145
    · refine g_aload C S at_179 (pc' := 181) rfl rfl rfl ?_
      refine g_iloadN C S at_181 (pc' := 182) rfl rfl ?_
      refine g_bipush C S (7 : Int32) at_182 (pc' := 184) rfl rfl ?_
      refine g_iand C S at_184 (pc' := 185) rfl ?_
      refine g_iloadN C S at_185 (pc' := 186) rfl rfl ?_
      refine g_sipush C S (255 : Int32) at_186 (pc' := 189) rfl rfl ?_
      refine g_iand C S at_189 (pc' := 190) rfl ?_
      refine g_i2c C S at_190 (pc' := 191) rfl ?_
      obtain ⟨j, ej, hj⟩ := mask7 p2
      refine g_castore C S (i := j) at_191 A_a145 ej hj ge_a145 (pc' := 192) rfl (fun T167 h167 S W167 B167 => ?_)
      have Zn := Nat.le_trans Zn (Nat.le_of_eq W167.size.symm)
      have S_COMPACT_STRINGS := S_COMPACT_STRINGS.wr W167
      have S_SIOOBE_FORMATTER := S_SIOOBE_FORMATTER.wr W167
      have S_VALUES := S_VALUES.wr W167
      have X_va := X_va.wr W167
      have A_va := A_va.other W167 ne_va_a145
      have S_ALLOW := S_ALLOW.wr W167
      have X_al := X_al.wr W167
      have F_optionName_al := F_optionName_al.other W167 (Or.inl ne_al_a145)
      have X_oA := X_oA.wr W167
      have F_coder_oA := F_coder_oA.other W167 (Or.inl ne_oA_a145)
      have F_value_oA := F_value_oA.other W167 (Or.inl ne_oA_a145)
      have A_bA := A_bA.other W167 ne_bA_a145
      have S_DENY := S_DENY.wr W167
      have X_de := X_de.wr W167
      have F_optionName_de := F_optionName_de.other W167 (Or.inl ne_de_a145)
      have X_oD := X_oD.wr W167
      have F_coder_oD := F_coder_oD.other W167 (Or.inl ne_oD_a145)
      have F_value_oD := F_value_oD.other W167 (Or.inl ne_oD_a145)
      have A_bD := A_bD.other W167 ne_bD_a145
      have S_LOCAL := S_LOCAL.wr W167
      have X_lo := X_lo.wr W167
      have F_optionName_lo := F_optionName_lo.other W167 (Or.inl ne_lo_a145)
      have X_oL := X_oL.wr W167
      have F_coder_oL := F_coder_oL.other W167 (Or.inl ne_oL_a145)
      have F_value_oL := F_value_oL.other W167 (Or.inl ne_oL_a145)
      have A_bL := A_bL.other W167 ne_bL_a145
      have X_xa := X_xa.wr W167
      have F_coder_xa := F_coder_xa.other W167 (Or.inl ne_xa_a145)
      have F_value_xa := F_value_xa.other W167 (Or.inl ne_xa_a145)
      have A_xb := A_xb.other W167 ne_xb_a145
      have A_a145 := B167
      exact J192 _ (lat_set j hL8 (draw_lat p3)) _ _ _ S Zn S_COMPACT_STRINGS S_SIOOBE_FORMATTER S_VALUES X_va A_va S_ALLOW X_al F_optionName_al X_oA F_coder_oA F_value_oA A_bA S_DENY X_de F_optionName_de X_oD F_coder_oD F_value_oD A_bD S_LOCAL X_lo F_optionName_lo X_oL F_coder_oL F_value_oL A_bL (A_a145.cg (set_eq j (draw_lat p3)))
  refine g_iload C S at_8 (pc' := 10) rfl rfl ?_
  refine g_if_ne C S at_10 (pc' := 20) (pf := 13) (by decide) (by decide) rfl (fun hc10 => ?_) (fun hc10 => ?_)
  · refine g_iload C S at_20 (pc' := 22) rfl rfl ?_
    refine g_iconst C S (1 : Int32) at_22 (pc' := 23) rfl rfl ?_
    refine g_icmp_ne C S at_23 (pc' := 33) (pf := 26) (by decide) (by decide) rfl (fun hc23 => ?_) (fun hc23 => ?_)
    · refine g_iload C S at_33 (pc' := 35) rfl rfl ?_
      refine g_iconst C S (2 : Int32) at_35 (pc' := 36) rfl rfl ?_
      refine g_icmp_ne C S at_36 (pc' := 46) (pf := 39) (by decide) (by decide) rfl (fun hc36 => ?_) (fun hc36 => ?_)
      · refine g_ldcS C S (vs := []) (zz := 0) (N := 0) (nn := 0) at_46 (hw _ (List.mem_of_getElem? (i := 112) rfl)) (List.mem_of_getElem? (i := 3) rfl) ⟨(by decide), rfl⟩ (by decide) (by decide) rfl (by decide) (by decide) (by decide) (by decide) (pc' := 48) rfl (fun T168 h168 a168 b168 S E168 X_a168 F_coder_a168 F_value_a168 A_b168 ns168 => ?_)
        have S_VALUES := S_VALUES.ext E168
        have A_va := A_va.ext E168
        have X_va := X_va.ext E168
        have S_ALLOW := S_ALLOW.ext E168
        have X_al := X_al.ext E168
        have F_optionName_al := F_optionName_al.ext E168
        have X_oA := X_oA.ext E168
        have F_coder_oA := F_coder_oA.ext E168
        have F_value_oA := F_value_oA.ext E168
        have A_bA := A_bA.ext E168
        have S_DENY := S_DENY.ext E168
        have X_de := X_de.ext E168
        have F_optionName_de := F_optionName_de.ext E168
        have X_oD := X_oD.ext E168
        have F_coder_oD := F_coder_oD.ext E168
        have F_value_oD := F_value_oD.ext E168
        have A_bD := A_bD.ext E168
        have S_LOCAL := S_LOCAL.ext E168
        have X_lo := X_lo.ext E168
        have F_optionName_lo := F_optionName_lo.ext E168
        have X_oL := X_oL.ext E168
        have F_coder_oL := F_coder_oL.ext E168
        have F_value_oL := F_value_oL.ext E168
        have A_bL := A_bL.ext E168
        have S_COMPACT_STRINGS := S_COMPACT_STRINGS.ext E168
        have S_SIOOBE_FORMATTER := S_SIOOBE_FORMATTER.ext E168
        have Zn := Nat.le_trans Zn E168.1
        refine g_astore C S at_48 (pc' := 50) rfl rfl (L' := #[.val (.int p1), .val (.int p2), .val (.int p3), .val (.int p4), .val (.int p5), .val (.int p6), .val (.int (Int32.ofNat k5)), .val (.ref a168), .unset, .unset, .unset, .unset]) rfl ?_
        exact J50 a168 b168 0 wA (by decide) _ _ _ (S.mono (by decide) (by decide)) Zn S_COMPACT_STRINGS S_SIOOBE_FORMATTER S_VALUES X_va A_va S_ALLOW X_al F_optionName_al X_oA F_coder_oA F_value_oA A_bA S_DENY X_de F_optionName_de X_oD F_coder_oD F_value_oD A_bD S_LOCAL X_lo F_optionName_lo X_oL F_coder_oL F_value_oL A_bL X_a168 F_coder_a168 F_value_a168 (A_b168.cg (fun q hq => by match q, hq with  | q + 0, hq => exact absurd hq (by omega)))
      · refine g_ldcS C S (vs := [.int 108, .int 111, .int 99, .int 97, .int 108]) (zz := 5) (N := 5) (nn := 20) at_39 (hw _ (List.mem_of_getElem? (i := 111) rfl)) (List.mem_of_getElem? (i := 2) rfl) ⟨(by decide), rfl⟩ (by decide) (by decide) rfl (by decide) (by decide) (by decide) (by decide) (pc' := 41) rfl (fun T169 h169 a169 b169 S E169 X_a169 F_coder_a169 F_value_a169 A_b169 ns169 => ?_)
        have S_VALUES := S_VALUES.ext E169
        have A_va := A_va.ext E169
        have X_va := X_va.ext E169
        have S_ALLOW := S_ALLOW.ext E169
        have X_al := X_al.ext E169
        have F_optionName_al := F_optionName_al.ext E169
        have X_oA := X_oA.ext E169
        have F_coder_oA := F_coder_oA.ext E169
        have F_value_oA := F_value_oA.ext E169
        have A_bA := A_bA.ext E169
        have S_DENY := S_DENY.ext E169
        have X_de := X_de.ext E169
        have F_optionName_de := F_optionName_de.ext E169
        have X_oD := X_oD.ext E169
        have F_coder_oD := F_coder_oD.ext E169
        have F_value_oD := F_value_oD.ext E169
        have A_bD := A_bD.ext E169
        have S_LOCAL := S_LOCAL.ext E169
        have X_lo := X_lo.ext E169
        have F_optionName_lo := F_optionName_lo.ext E169
        have X_oL := X_oL.ext E169
        have F_coder_oL := F_coder_oL.ext E169
        have F_value_oL := F_value_oL.ext E169
        have A_bL := A_bL.ext E169
        have S_COMPACT_STRINGS := S_COMPACT_STRINGS.ext E169
        have S_SIOOBE_FORMATTER := S_SIOOBE_FORMATTER.ext E169
        have Zn := Nat.le_trans Zn E169.1
        refine g_astore C S at_41 (pc' := 43) rfl rfl (L' := #[.val (.int p1), .val (.int p2), .val (.int p3), .val (.int p4), .val (.int p5), .val (.int p6), .val (.int (Int32.ofNat k5)), .val (.ref a169), .unset, .unset, .unset, .unset]) rfl ?_
        refine g_goto C S at_43 (pc' := 50) (by decide) (by decide) ?_
        exact J50 a169 b169 5 wL (by decide) _ _ _ (S.mono (by decide) (by decide)) Zn S_COMPACT_STRINGS S_SIOOBE_FORMATTER S_VALUES X_va A_va S_ALLOW X_al F_optionName_al X_oA F_coder_oA F_value_oA A_bA S_DENY X_de F_optionName_de X_oD F_coder_oD F_value_oD A_bD S_LOCAL X_lo F_optionName_lo X_oL F_coder_oL F_value_oL A_bL X_a169 F_coder_a169 F_value_a169 (A_b169.cg (fun q hq => by match q, hq with | 0, _ => rfl | 1, _ => rfl | 2, _ => rfl | 3, _ => rfl | 4, _ => rfl | q + 5, hq => exact absurd hq (by omega)))
    · refine g_ldcS C S (vs := [.int 100, .int 101, .int 110, .int 121]) (zz := 4) (N := 4) (nn := 16) at_26 (hw _ (List.mem_of_getElem? (i := 110) rfl)) (List.mem_of_getElem? (i := 1) rfl) ⟨(by decide), rfl⟩ (by decide) (by decide) rfl (by decide) (by decide) (by decide) (by decide) (pc' := 28) rfl (fun T170 h170 a170 b170 S E170 X_a170 F_coder_a170 F_value_a170 A_b170 ns170 => ?_)
      have S_VALUES := S_VALUES.ext E170
      have A_va := A_va.ext E170
      have X_va := X_va.ext E170
      have S_ALLOW := S_ALLOW.ext E170
      have X_al := X_al.ext E170
      have F_optionName_al := F_optionName_al.ext E170
      have X_oA := X_oA.ext E170
      have F_coder_oA := F_coder_oA.ext E170
      have F_value_oA := F_value_oA.ext E170
      have A_bA := A_bA.ext E170
      have S_DENY := S_DENY.ext E170
      have X_de := X_de.ext E170
      have F_optionName_de := F_optionName_de.ext E170
      have X_oD := X_oD.ext E170
      have F_coder_oD := F_coder_oD.ext E170
      have F_value_oD := F_value_oD.ext E170
      have A_bD := A_bD.ext E170
      have S_LOCAL := S_LOCAL.ext E170
      have X_lo := X_lo.ext E170
      have F_optionName_lo := F_optionName_lo.ext E170
      have X_oL := X_oL.ext E170
      have F_coder_oL := F_coder_oL.ext E170
      have F_value_oL := F_value_oL.ext E170
      have A_bL := A_bL.ext E170
      have S_COMPACT_STRINGS := S_COMPACT_STRINGS.ext E170
      have S_SIOOBE_FORMATTER := S_SIOOBE_FORMATTER.ext E170
      have Zn := Nat.le_trans Zn E170.1
      refine g_astore C S at_28 (pc' := 30) rfl rfl (L' := #[.val (.int p1), .val (.int p2), .val (.int p3), .val (.int p4), .val (.int p5), .val (.int p6), .val (.int (Int32.ofNat k5)), .val (.ref a170), .unset, .unset, .unset, .unset]) rfl ?_
      refine g_goto C S at_30 (pc' := 50) (by decide) (by decide) ?_
      exact J50 a170 b170 4 wD (by decide) _ _ _ (S.mono (by decide) (by decide)) Zn S_COMPACT_STRINGS S_SIOOBE_FORMATTER S_VALUES X_va A_va S_ALLOW X_al F_optionName_al X_oA F_coder_oA F_value_oA A_bA S_DENY X_de F_optionName_de X_oD F_coder_oD F_value_oD A_bD S_LOCAL X_lo F_optionName_lo X_oL F_coder_oL F_value_oL A_bL X_a170 F_coder_a170 F_value_a170 (A_b170.cg (fun q hq => by match q, hq with | 0, _ => rfl | 1, _ => rfl | 2, _ => rfl | 3, _ => rfl | q + 4, hq => exact absurd hq (by omega)))
  · refine g_ldcS C S (vs := [.int 97, .int 108, .int 108, .int 111, .int 119]) (zz := 5) (N := 5) (nn := 20) at_13 (hw _ (List.mem_of_getElem? (i := 1) rfl)) (List.mem_of_getElem? (i := 0) rfl) ⟨(by decide), rfl⟩ (by decide) (by decide) rfl (by decide) (by decide) (by decide) (by decide) (pc' := 15) rfl (fun T171 h171 a171 b171 S E171 X_a171 F_coder_a171 F_value_a171 A_b171 ns171 => ?_)
    have S_VALUES := S_VALUES.ext E171
    have A_va := A_va.ext E171
    have X_va := X_va.ext E171
    have S_ALLOW := S_ALLOW.ext E171
    have X_al := X_al.ext E171
    have F_optionName_al := F_optionName_al.ext E171
    have X_oA := X_oA.ext E171
    have F_coder_oA := F_coder_oA.ext E171
    have F_value_oA := F_value_oA.ext E171
    have A_bA := A_bA.ext E171
    have S_DENY := S_DENY.ext E171
    have X_de := X_de.ext E171
    have F_optionName_de := F_optionName_de.ext E171
    have X_oD := X_oD.ext E171
    have F_coder_oD := F_coder_oD.ext E171
    have F_value_oD := F_value_oD.ext E171
    have A_bD := A_bD.ext E171
    have S_LOCAL := S_LOCAL.ext E171
    have X_lo := X_lo.ext E171
    have F_optionName_lo := F_optionName_lo.ext E171
    have X_oL := X_oL.ext E171
    have F_coder_oL := F_coder_oL.ext E171
    have F_value_oL := F_value_oL.ext E171
    have A_bL := A_bL.ext E171
    have S_COMPACT_STRINGS := S_COMPACT_STRINGS.ext E171
    have S_SIOOBE_FORMATTER := S_SIOOBE_FORMATTER.ext E171
    have Zn := Nat.le_trans Zn E171.1
    refine g_astore C S at_15 (pc' := 17) rfl rfl (L' := #[.val (.int p1), .val (.int p2), .val (.int p3), .val (.int p4), .val (.int p5), .val (.int p6), .val (.int (Int32.ofNat k5)), .val (.ref a171), .unset, .unset, .unset, .unset]) rfl ?_
    refine g_goto C S at_17 (pc' := 50) (by decide) (by decide) ?_
    exact J50 a171 b171 5 wA (by decide) _ _ _ (S.mono (by decide) (by decide)) Zn S_COMPACT_STRINGS S_SIOOBE_FORMATTER S_VALUES X_va A_va S_ALLOW X_al F_optionName_al X_oA F_coder_oA F_value_oA A_bA S_DENY X_de F_optionName_de X_oD F_coder_oD F_value_oD A_bD S_LOCAL X_lo F_optionName_lo X_oL F_coder_oL F_value_oL A_bL X_a171 F_coder_a171 F_value_a171 (A_b171.cg (fun q hq => by match q, hq with | 0, _ => rfl | 1, _ => rfl | 2, _ => rfl | 3, _ => rfl | 4, _ => rfl | q + 5, hq => exact absurd hq (by omega)))
theorem fit_of {s : State} (h : heapFits s = true) : Fit s := fun {x c} hx {i} hi => by
  obtain ⟨hlt, rfl⟩ := Array.getElem?_eq_some_iff.mp hx
  have q := (Array.all_eq_true.mp h) x hlt
  have q2 := (List.all_eq_true.mp q) i (List.mem_range.mpr hi)
  rw [Array.getElem?_eq_getElem hi] at q2
  exact q2
theorem own_arrAt {s : State} {a : Addr} {cl : Cell} {ty : FieldType} (A : Arr s s.heap a cl ty) : s.arrayAt? a = some cl := Arr.fin (Vm.Alike.refl _) A
theorem own_len {args : Array Value} {s : State} {t : Term} {a : Addr} {cl : Cell} {ty : FieldType} {N : Nat} (ev : t.eval args s none [] s = some (.ref a)) (A : Arr s s.heap a cl ty) (hN : N < 2147483648) (w : (Jvm.Cond.eq (.length t) (.int (Int32.ofNat N))).value args s none s [] = some true) : cl.slots.size = N := by
  have hlen := Cond.eq_int (Cond.before_iff.mpr w) rfl
  have h31 := Jvm.Free.SBG.length_lt ev (own_arrAt A) hlen
  have e : (Term.length t).eval args s none [] s = some (.int (Int32.ofNat cl.slots.size)) := by simp [Term.eval, ev, own_arrAt A, h31]
  have h2 : Int32.ofNat cl.slots.size = Int32.ofNat N := by simpa using Option.some.inj (e.symm.trans hlen)
  have := congrArg Int32.toInt h2
  rw [Int32.toInt_ofNat_small h31, Int32.toInt_ofNat_small hN] at this; omega
theorem own_elemI {args : Array Value} {s : State} {t : Term} {a : Addr} {cl : Cell} {ty : FieldType} {N j : Nat} {z : Int32} (ev : t.eval args s none [] s = some (.ref a)) (A : Arr s s.heap a cl ty) (hs : cl.slots.size = N) (hN : N < 2147483648) (hj : j < N) (w : (Jvm.Cond.eq (.elem t (.int (Int32.ofNat j))) (.int z)).value args s none s [] = some true) : cl.slots[j]? = some (.int z) := by
  have e1 := Cond.eq_int (Cond.before_iff.mpr w) rfl
  rw [Jvm.Free.SBG.elem_at (ix := .int (Int32.ofNat j)) ev (own_arrAt A) (by omega) (by omega) rfl] at e1; exact e1
theorem own_elemR {args : Array Value} {s : State} {t u : Term} {a b : Addr} {cl : Cell} {ty : FieldType} {N j : Nat} (ev : t.eval args s none [] s = some (.ref a)) (A : Arr s s.heap a cl ty) (hs : cl.slots.size = N) (hN : N < 2147483648) (hj : j < N) (eu : u.eval args s none [] s = some (.ref b)) (w : (Jvm.Cond.eq (.elem t (.int (Int32.ofNat j))) u).value args s none s [] = some true) : cl.slots[j]? = some (.ref b) := by
  have e1 : (Term.elem t (.int (Int32.ofNat j))).eval args s none [] s = cl.slots[j]? := Jvm.Free.SBG.elem_at (ix := .int (Int32.ofNat j)) ev (own_arrAt A) (by omega) (by omega) rfl
  have hj' : j < cl.slots.size := by omega
  rw [Array.getElem?_eq_getElem hj'] at e1 ⊢
  simp only [Cond.value, e1, eu] at w
  cases hv : cl.slots[j] <;> simp [hv] at w ⊢
  exact w
theorem own_fld {args : Array Value} {s : State} {t : Term} {a : Addr} {C n d : String} {v : Value} (ev : t.eval args s none [] s = some (.ref a)) (h : (Term.field t C n d).eval args s none [] s = some v) : Fld s s.heap a C n d v := Fld.start (by simpa [Term.eval, ev] using h)
set_option maxRecDepth 65536 in
set_option maxHeartbeats 40000000 in
theorem comes_1 {Post : Tables → Env → Array Value → State → Outcome → State → Prop} (hpost : ∀ tb e args s v u, (limb_1_1.after args s (.returned v) u = true ∧ limb_1_2.after args s (.returned v) u = true ∧ True) → FramedW s (.returned v) u (Jvm.fieldLocs frame_1_writes args s ++ Jvm.arrayLocs frame_1_arrays args s ++ Jvm.staticLocs frame_1_statics s) 32 5312 → Post tb e args s (.returned v) u) :
    ArmFor flags0 classFile x code maxLocals ret World_1 tables_1 room_1 Calls_1 rest_1 Pre_1 Post := by
  intro l hfl _ _ p e ha hc hk s m args below hf hA hF happ hP
  obtain ⟨hcalls, hrest, hpre⟩ := hP
  obtain ⟨-, -, -, hnamed, -, -, -, hat⟩ := (Spec.applies_iff hf).mp happ
  obtain ⟨hg, hn⟩ := and_e (Cond.before_iff.mp (show (Jvm.Cond.and given_1 narrow_1).before args s = true from hpre))
  obtain ⟨hcount, hg0⟩ := and_e hg
  obtain ⟨ha0, hg1⟩ := and_e hg0
  obtain ⟨ha1, hg2⟩ := and_e hg1
  obtain ⟨ha2, hg3⟩ := and_e hg2
  obtain ⟨ha3, hg4⟩ := and_e hg3
  obtain ⟨ha4, hg5⟩ := and_e hg4
  have ha5 := hg5
  obtain ⟨w0, w1, w2, w3, w4, w5, rfl⟩ : ∃ w0 w1 w2 w3 w4 w5 : Value, args = #[w0, w1, w2, w3, w4, w5] := by
    have hs : args.size = 6 := by simpa [Cond.value, given_1] using hcount
    obtain ⟨L⟩ := args
    match L, hs with
    | [w0, w1, w2, w3, w4, w5], _ => exact ⟨w0, w1, w2, w3, w4, w5, rfl⟩
  have hw := fun d (hd : d ∈ tables_1) => atoms_spec (ws := Jvm.Cond.code x code maxLocals ret :: tables_1) hat d (List.mem_cons_of_mem _ hd)
  have hsets := (atoms_of _ (rest_1_c_eq ▸ (show rest_1_c.before _ s = true from hrest))).1
  have hcst : ∀ q ∈ consts_1, Jvm.Lit.constHeld s q.1 q.2 := fun q hq => hcalls.1 q hq
  have hCH : CHv s consts_1 s.vm s.heap := CHv.start (elw hw).1 hcst (hsets _ (List.mem_of_getElem? (i := 2) rfl)) (hw _ (List.mem_of_getElem? (i := 4) rfl)) (hw _ (List.mem_of_getElem? (i := 3) rfl))
  obtain ⟨i0, ei0⟩ := is_v ha0
  obtain rfl : w0 = (.int i0) := Option.some.inj ei0
  obtain ⟨i1, ei1⟩ := is_v ha1
  obtain rfl : w1 = (.int i1) := Option.some.inj ei1
  obtain ⟨i2, ei2⟩ := is_v ha2
  obtain rfl : w2 = (.int i2) := Option.some.inj ei2
  obtain ⟨i3, ei3⟩ := is_v ha3
  obtain rfl : w3 = (.int i3) := Option.some.inj ei3
  obtain ⟨i4, ei4⟩ := is_v ha4
  obtain rfl : w4 = (.int i4) := Option.some.inj ei4
  obtain ⟨i5, ei5⟩ := is_v ha5
  obtain rfl : w5 = (.int i5) := Option.some.inj ei5
  obtain ⟨cs, ecs⟩ := is_v (Cond.before_iff.mp (hsets _ (List.mem_of_getElem? (i := 1) rfl)))
  have S_CS := Sta.start ecs (Or.inl (hsets _ (List.mem_of_getElem? (i := 0) rfl)))
  have hcs : ¬ cs = 0 := fun z => by
    have q := (hsets _ (List.mem_of_getElem? (i := 2) rfl))
    rw [z] at ecs
    simp [Cond.before, Cond.holds, Cond.value, ecs, Term.int_eval] at q
  obtain ⟨fm, efm, hfm⟩ := isR_v (Cond.before_iff.mp (hsets _ (List.mem_of_getElem? (i := 8) rfl)))
  have S_FM := Sta.start efm (Or.inl (hsets _ (List.mem_of_getElem? (i := 7) rfl)))
  obtain ⟨c0, hn1⟩ := and_e hn
  obtain ⟨c1, hn2⟩ := and_e hn1
  obtain ⟨c2, hn3⟩ := and_e hn2
  obtain ⟨c3, hn4⟩ := and_e hn3
  obtain ⟨c4, hn5⟩ := and_e hn4
  obtain ⟨c5, hn6⟩ := and_e hn5
  obtain ⟨c6, hn7⟩ := and_e hn6
  obtain ⟨c7, hn8⟩ := and_e hn7
  obtain ⟨c8, hn9⟩ := and_e hn8
  obtain ⟨c9, hn10⟩ := and_e hn9
  obtain ⟨c10, hn11⟩ := and_e hn10
  obtain ⟨c11, hn12⟩ := and_e hn11
  obtain ⟨c12, hn13⟩ := and_e hn12
  obtain ⟨c13, hn14⟩ := and_e hn13
  obtain ⟨c14, hn15⟩ := and_e hn14
  obtain ⟨c15, hn16⟩ := and_e hn15
  obtain ⟨c16, hn17⟩ := and_e hn16
  obtain ⟨c17, hn18⟩ := and_e hn17
  obtain ⟨c18, hn19⟩ := and_e hn18
  obtain ⟨c19, hn20⟩ := and_e hn19
  obtain ⟨c20, hn21⟩ := and_e hn20
  obtain ⟨c21, hn22⟩ := and_e hn21
  obtain ⟨c22, hn23⟩ := and_e hn22
  obtain ⟨c23, hn24⟩ := and_e hn23
  obtain ⟨c24, hn25⟩ := and_e hn24
  obtain ⟨c25, hn26⟩ := and_e hn25
  obtain ⟨c26, hn27⟩ := and_e hn26
  obtain ⟨c27, hn28⟩ := and_e hn27
  obtain ⟨c28, hn29⟩ := and_e hn28
  obtain ⟨c29, hn30⟩ := and_e hn29
  obtain ⟨c30, hn31⟩ := and_e hn30
  obtain ⟨c31, hn32⟩ := and_e hn31
  obtain ⟨c32, hn33⟩ := and_e hn32
  obtain ⟨c33, hn34⟩ := and_e hn33
  have c34 := hn34
  obtain ⟨va, eva⟩ := exa_v c1
  have X_va := Exa.start eva c1
  obtain ⟨clV, ArV⟩ := Arr.start eva c0
  have szV := own_len (N := 3) eva ArV (by decide) c2
  have S_VALUES := Sta.start eva (Or.inr ⟨(hw _ (List.mem_of_getElem? (i := 75) rfl)), (hw _ (List.mem_of_getElem? (i := 81) rfl))⟩)
  obtain ⟨al, eal⟩ := exa_v c3
  have X_al := Exa.start eal c3
  have S_ALLOW := Sta.start eal (Or.inr ⟨(hw _ (List.mem_of_getElem? (i := 75) rfl)), (hw _ (List.mem_of_getElem? (i := 89) rfl))⟩)
  have v0 := own_elemR (j := 0) eva ArV szV (by decide) (by decide) eal c4
  obtain ⟨oA, eoA⟩ := exa_v c9
  have X_oA := Exa.start eoA c9
  have F_optionName_al := own_fld eal eoA
  have F_coder_oA := own_fld eoA (Cond.eq_int (Cond.before_iff.mpr c10) rfl)
  obtain ⟨bA, ebA⟩ := arr_v c11
  have F_value_oA := own_fld eoA ebA
  obtain ⟨clA, ArA⟩ := Arr.start ebA c11
  have szA := own_len (N := 5) ebA ArA (by decide) c12
  have A_bA : Ary s s.heap bA .byte 5 (fun q => .int (wA q)) := ⟨clA, ArA, szA, fun q hq => by
    match q, hq with
    | 0, _ => exact own_elemI (j := 0) ebA ArA szA (by decide) (by decide) c25
    | 1, _ => exact own_elemI (j := 1) ebA ArA szA (by decide) (by decide) c26
    | 2, _ => exact own_elemI (j := 2) ebA ArA szA (by decide) (by decide) c27
    | 3, _ => exact own_elemI (j := 3) ebA ArA szA (by decide) (by decide) c28
    | 4, _ => exact own_elemI (j := 4) ebA ArA szA (by decide) (by decide) c29
    | q + 5, hq => exact absurd hq (by omega)⟩
  obtain ⟨de, ede⟩ := exa_v c5
  have X_de := Exa.start ede c5
  have S_DENY := Sta.start ede (Or.inr ⟨(hw _ (List.mem_of_getElem? (i := 75) rfl)), (hw _ (List.mem_of_getElem? (i := 90) rfl))⟩)
  have v1 := own_elemR (j := 1) eva ArV szV (by decide) (by decide) ede c6
  obtain ⟨oD, eoD⟩ := exa_v c13
  have X_oD := Exa.start eoD c13
  have F_optionName_de := own_fld ede eoD
  have F_coder_oD := own_fld eoD (Cond.eq_int (Cond.before_iff.mpr c14) rfl)
  obtain ⟨bD, ebD⟩ := arr_v c15
  have F_value_oD := own_fld eoD ebD
  obtain ⟨clD, ArD⟩ := Arr.start ebD c15
  have szD := own_len (N := 4) ebD ArD (by decide) c16
  have A_bD : Ary s s.heap bD .byte 4 (fun q => .int (wD q)) := ⟨clD, ArD, szD, fun q hq => by
    match q, hq with
    | 0, _ => exact own_elemI (j := 0) ebD ArD szD (by decide) (by decide) c21
    | 1, _ => exact own_elemI (j := 1) ebD ArD szD (by decide) (by decide) c22
    | 2, _ => exact own_elemI (j := 2) ebD ArD szD (by decide) (by decide) c23
    | 3, _ => exact own_elemI (j := 3) ebD ArD szD (by decide) (by decide) c24
    | q + 4, hq => exact absurd hq (by omega)⟩
  obtain ⟨lo, elo⟩ := exa_v c7
  have X_lo := Exa.start elo c7
  have S_LOCAL := Sta.start elo (Or.inr ⟨(hw _ (List.mem_of_getElem? (i := 75) rfl)), (hw _ (List.mem_of_getElem? (i := 91) rfl))⟩)
  have v2 := own_elemR (j := 2) eva ArV szV (by decide) (by decide) elo c8
  obtain ⟨oL, eoL⟩ := exa_v c17
  have X_oL := Exa.start eoL c17
  have F_optionName_lo := own_fld elo eoL
  have F_coder_oL := own_fld eoL (Cond.eq_int (Cond.before_iff.mpr c18) rfl)
  obtain ⟨bL, ebL⟩ := arr_v c19
  have F_value_oL := own_fld eoL ebL
  obtain ⟨clL, ArL⟩ := Arr.start ebL c19
  have szL := own_len (N := 5) ebL ArL (by decide) c20
  have A_bL : Ary s s.heap bL .byte 5 (fun q => .int (wL q)) := ⟨clL, ArL, szL, fun q hq => by
    match q, hq with
    | 0, _ => exact own_elemI (j := 0) ebL ArL szL (by decide) (by decide) c30
    | 1, _ => exact own_elemI (j := 1) ebL ArL szL (by decide) (by decide) c31
    | 2, _ => exact own_elemI (j := 2) ebL ArL szL (by decide) (by decide) c32
    | 3, _ => exact own_elemI (j := 3) ebL ArL szL (by decide) (by decide) c33
    | 4, _ => exact own_elemI (j := 4) ebL ArL szL (by decide) (by decide) c34
    | q + 5, hq => exact absurd hq (by omega)⟩
  have A_va : Cln s s.heap va (.object "com/example/pitlochry/pitlochry/OnStoreError") 3 (fun q => [Value.ref al, .ref de, .ref lo].getD q .null) := ⟨clV, ArV, szV, fun q hq => by
    match q, hq with
    | 0, _ => exact v0
    | 1, _ => exact v1
    | 2, _ => exact v2
    | q + 3, hq => exact absurd hq (by omega), FitC.start (fit_of hF) ArV⟩
  obtain ⟨n, o, h1, h2, h3, _, L, rfl, ⟨_, rfl, N, -⟩, -, hq⟩ := c_law l s _ hw i0 i1 i2 i3 i4 i5 s.heap s.heap.size (Nat.le_refl _) cs hcs S_CS fm hfm S_FM va al de lo S_VALUES X_va A_va oA bA S_ALLOW X_al F_optionName_al X_oA F_coder_oA F_value_oA A_bA oD bD S_DENY X_de F_optionName_de X_oD F_coder_oD F_value_oD A_bD oL bL S_LOCAL X_lo F_optionName_lo X_oL F_coder_oL F_value_oL A_bL tables_1 p e ha hc hk s m _ below hf ((Spec.applies_iff_loose hf).mp happ).1 ⟨rfl, State.Warmed39.refl s, rfl, hCH, all0⟩ trivial
  refine ⟨n, _, h1, h2, h3, hpost _ _ _ _ _ _ ⟨Cond.after_iff.mpr rfl, Cond.after_iff.mpr (eq_i res_at (Term.int_eval (1)) rfl), trivial⟩ ⟨hq.1, hq.2.1, hq.2.2.1, (hq.2.2.2.sift fun y hy => Or.inr (N y hy)).mono (by decide) (by decide)⟩⟩
theorem main_1_1 : Claimed_1_1 := comes_1 fun _ _ _ _ _ _ h hF => ⟨h.1, hF⟩
theorem main_1_2 : Claimed_1_2 := comes_1 fun _ _ _ _ _ _ h hF => ⟨h.2.1, hF⟩
end Jvm.Pilot.@@N@@
namespace Jvm.Pilot.@@N@@
open Jvm Jvm.ClassFile Sem Op Lib Jvm.Free Jvm.Stand Jvm.Pilot.@@N@@.Jvm.D
/-! MADE BY PROGRAM (witnessworld.py) out of the Statement's table words and the real class files: 22 classes; the members and pool entries that the words name. The judged class is class 1, her method 1. -/
namespace start1
open Jvm.ClassFile
def u (s : String) : CpInfo := .utf8 (stringToUtf16 s)
/-- a pool by its gaps: so many unusable entries, then the entry; so many at the end -/
def gap : Nat → List CpInfo → List CpInfo
  | 0, r => r
  | n + 1, r => .unusable :: gap n r
def poolList (es : List (Nat × CpInfo)) (last : Nat) : List CpInfo := es.foldr (fun e r => gap e.1 (e.2 :: r)) (gap last [])
def pool (es : List (Nat × CpInfo)) (last : Nat) : Array CpInfo := ⟨poolList es last⟩
def fileOf (pool : Array CpInfo) (this : Nat) (attrs : Array Attribute := #[]) (ms : Array MethodInfo := #[]) (fl : Nat := 33) (sup : Nat := 0) (ifs : Array Nat := #[]) (fds : Array FieldInfo := #[]) : ClassFile where
  minorVersion := 0
  majorVersion := 65
  constantPool := pool
  accessFlags := fl
  thisClass := this
  superClass := sup
  interfaces := ifs
  fields := fds
  methods := ms
  attributes := attrs
def plain (name : String) (sup : Option ClassId) : Class where
  name := name
  kind := .ordinary
  loader := none
  accessFlags := 33
  super := sup
  interfaces := #[]
  cf := none
  fields := #[]
  methods := #[]
  instanceTypes := #[]
  staticTypes := #[]
  resolved := #[]
  callSites := []
  init := .initialized
  statics := none
  mirror := none

def pool0 : Array CpInfo := pool [(5, u "<init>"), (0, u "()V"), (1, .class_ 10), (1, u "java/lang/Object"), (85, u "clone"), (0, u "()Ljava/lang/Object;")] 26

def k0c0 : Code := { maxStack := 0, maxLocals := 1, code := object_method_1_code, exceptionTable := #[], attributes := #[] }
def k0m0 : Method := { name := "<init>", desc := "()V", sig := { parameters := [], returnType := none }, accessFlags := 1, code := some k0c0 }
def k0m1 : Method := { name := "clone", desc := "()Ljava/lang/Object;", sig := { parameters := [], returnType := some (.object "java/lang/Object") }, accessFlags := 260, code := none }
/-- java/lang/Object -/
def k0 : Class := { plain "java/lang/Object" none with
  accessFlags := 33
  interfaces := #[]
  cf := some (fileOf pool0 8 #[] #[{ accessFlags := 1, nameIndex := 5, descriptorIndex := 6, attributes := #[] }, { accessFlags := 260, nameIndex := 96, descriptorIndex := 97, attributes := #[] }] 33 0 #[] #[])
  fields := #[]
  methods := #[k0m0, k0m1]
  instanceTypes := #[]
  staticTypes := #[]
  resolved := Array.replicate 124 none
  statics := none }

def pool1 : Array CpInfo := pool [(2, .class_ 4), (1, u "java/lang/Object"), (0, u "<init>"), (0, u "()V"), (0, .integer 2147483647), (0, .string 9), (0, u "allow"), (0, .string 11), (0, u "deny"), (0, .string 13), (0, u "local"), (0, .string 15), (0, u ""), (0, .methodref 17 18), (0, .class_ 19), (0, .nameAndType 20 21), (0, u "com/example/pitlochry/pitlochry/OnStoreErrorNamedPinLaw"), (0, u "pick"), (0, u "(Ljava/lang/String;III)C"), (0, .methodref 17 23), (0, .nameAndType 24 25), (0, u "prefix"), (0, u "([CI)Ljava/lang/String;"), (0, .methodref 27 28), (0, .class_ 29), (0, .nameAndType 30 31), (0, u "com/example/pitlochry/pitlochry/OnStoreError"), (0, u "named"), (0, u "(Ljava/lang/String;)Lcom/example/pitlochry/pitlochry/OnStoreError;"), (0, .methodref 17 33), (0, .nameAndType 34 31), (0, u "expected"), (0, .methodref 36 37), (0, .class_ 38), (0, .nameAndType 39 40), (0, u "java/lang/String"), (0, u "length"), (0, u "()I"), (0, .methodref 36 42), (0, .nameAndType 43 44), (0, u "charAt"), (0, u "(I)C"), (0, .methodref 36 46), (0, .nameAndType 5 47), (0, u "([C)V"), (0, .methodref 36 49), (0, .nameAndType 50 51), (0, u "equals"), (0, u "(Ljava/lang/Object;)Z"), (0, .fieldref 27 53), (0, .nameAndType 54 55), (0, u "ALLOW"), (0, u "Lcom/example/pitlochry/pitlochry/OnStoreError;"), (0, .fieldref 27 57), (0, .nameAndType 58 55), (0, u "DENY"), (0, .fieldref 27 60), (0, .nameAndType 61 55), (0, u "LOCAL"), (2, u "law"), (0, u "(IIIIII)Z")] 5

def k1m0 : Method := { name := "<init>", desc := "()V", sig := { parameters := [], returnType := none }, accessFlags := 1, code := none }
def k1c1 : Code := { maxStack := 6, maxLocals := 12, code := code, exceptionTable := #[], attributes := #[] }
def k1m1 : Method := { name := "law", desc := "(IIIIII)Z", sig := { parameters := [.int, .int, .int, .int, .int, .int], returnType := some .boolean }, accessFlags := 9, code := some k1c1 }
def k1c2 : Code := { maxStack := 4, maxLocals := 5, code := method_3_code, exceptionTable := #[], attributes := #[] }
def k1m2 : Method := { name := "pick", desc := "(Ljava/lang/String;III)C", sig := { parameters := [(.object "java/lang/String"), .int, .int, .int], returnType := some .char }, accessFlags := 10, code := some k1c2 }
def k1c3 : Code := { maxStack := 7, maxLocals := 2, code := method_4_code, exceptionTable := #[], attributes := #[] }
def k1m3 : Method := { name := "prefix", desc := "([CI)Ljava/lang/String;", sig := { parameters := [(.array .char), .int], returnType := some (.object "java/lang/String") }, accessFlags := 10, code := some k1c3 }
def k1c4 : Code := { maxStack := 2, maxLocals := 1, code := method_5_code, exceptionTable := #[], attributes := #[] }
def k1m4 : Method := { name := "expected", desc := "(Ljava/lang/String;)Lcom/example/pitlochry/pitlochry/OnStoreError;", sig := { parameters := [(.object "java/lang/String")], returnType := some (.object "com/example/pitlochry/pitlochry/OnStoreError") }, accessFlags := 10, code := some k1c4 }
/-- com/example/pitlochry/pitlochry/OnStoreErrorNamedPinLaw -/
def k1 : Class := { plain "com/example/pitlochry/pitlochry/OnStoreErrorNamedPinLaw" (some 0) with
  accessFlags := 49
  interfaces := #[]
  cf := some (fileOf pool1 17 #[] #[{ accessFlags := 1, nameIndex := 5, descriptorIndex := 6, attributes := #[] }, { accessFlags := 9, nameIndex := 64, descriptorIndex := 65, attributes := #[] }, { accessFlags := 10, nameIndex := 20, descriptorIndex := 21, attributes := #[] }, { accessFlags := 10, nameIndex := 24, descriptorIndex := 25, attributes := #[] }, { accessFlags := 10, nameIndex := 34, descriptorIndex := 31, attributes := #[] }] 49 2 #[] #[])
  fields := #[]
  methods := #[k1m0, k1m1, k1m2, k1m3, k1m4]
  instanceTypes := #[]
  staticTypes := #[]
  resolved := Array.replicate 71 none
  statics := none }

def pool2 : Array CpInfo := pool [(1, .class_ 2), (0, u "java/io/Serializable"), (0, .class_ 4), (0, u "java/lang/Object")] 2

/-- java/io/Serializable -/
def k2 : Class := { plain "java/io/Serializable" (some 0) with
  accessFlags := 1537
  interfaces := #[]
  cf := some (fileOf pool2 1 #[] #[] 1537 3 #[] #[])
  fields := #[]
  methods := #[]
  instanceTypes := #[]
  staticTypes := #[]
  resolved := Array.replicate 7 none
  statics := none }

def pool3 : Array CpInfo := pool [(1, .class_ 2), (0, u "java/lang/Comparable"), (0, .class_ 4), (0, u "java/lang/Object")] 7

/-- java/lang/Comparable -/
def k3 : Class := { plain "java/lang/Comparable" (some 0) with
  accessFlags := 1537
  interfaces := #[]
  cf := some (fileOf pool3 1 #[] #[] 1537 3 #[] #[])
  fields := #[]
  methods := #[]
  instanceTypes := #[]
  staticTypes := #[]
  resolved := Array.replicate 12 none
  statics := none }

def pool4 : Array CpInfo := pool [(2, .class_ 4), (1, u "java/lang/CharSequence"), (42, .class_ 48), (0, u "java/lang/CharSequence$1CodePointIterator"), (10, .class_ 60), (0, u "java/lang/CharSequence$1CharIterator"), (5, .class_ 67), (0, u "java/lang/Object")] 63

/-- java/lang/CharSequence -/
def k4 : Class := { plain "java/lang/CharSequence" (some 0) with
  accessFlags := 1537
  interfaces := #[]
  cf := some (fileOf pool4 2 #[.nestMembers #[47, 59]] #[] 1537 66 #[] #[])
  fields := #[]
  methods := #[]
  instanceTypes := #[]
  staticTypes := #[]
  resolved := Array.replicate 131 none
  statics := none }

def pool5 : Array CpInfo := pool [(1, .class_ 2), (0, u "java/lang/constant/Constable"), (0, .class_ 4), (0, u "java/lang/Object")] 6

/-- java/lang/constant/Constable -/
def k5 : Class := { plain "java/lang/constant/Constable" (some 0) with
  accessFlags := 1537
  interfaces := #[]
  cf := some (fileOf pool5 1 #[] #[] 1537 3 #[] #[])
  fields := #[]
  methods := #[]
  instanceTypes := #[]
  staticTypes := #[]
  resolved := Array.replicate 11 none
  statics := none }

def pool6 : Array CpInfo := pool [(1, .class_ 2), (0, u "java/lang/constant/ConstantDesc"), (0, .class_ 4), (0, u "java/lang/Object")] 32

/-- java/lang/constant/ConstantDesc -/
def k6 : Class := { plain "java/lang/constant/ConstantDesc" (some 0) with
  accessFlags := 1537
  interfaces := #[]
  cf := some (fileOf pool6 1 #[] #[] 1537 3 #[] #[])
  fields := #[]
  methods := #[]
  instanceTypes := #[]
  staticTypes := #[]
  resolved := Array.replicate 37 none
  statics := none }

def pool7 : Array CpInfo := pool [(1, .methodref 2 3), (0, .class_ 4), (0, .nameAndType 5 6), (0, u "java/lang/Object"), (0, u "<init>"), (0, u "()V"), (0, .string 8), (0, u ""), (0, .fieldref 10 11), (0, .class_ 12), (0, .nameAndType 13 14), (0, u "java/lang/String"), (0, u "value"), (0, u "[B"), (0, .fieldref 10 16), (0, .nameAndType 17 18), (0, u "coder"), (0, u "B"), (2, u "hash"), (0, u "I"), (2, u "hashIsZero"), (0, u "Z"), (0, .methodref 10 28), (0, .nameAndType 5 29), (0, u "([CIILjava/lang/Void;)V"), (8, .fieldref 10 39), (0, .nameAndType 40 26), (0, u "COMPACT_STRINGS"), (1, .class_ 44), (1, u "java/lang/StringUTF16"), (0, u "compress"), (1, .methodref 42 48), (0, .nameAndType 49 50), (0, u "coderFromArrayLen"), (0, u "([BI)B"), (56, .class_ 109), (1, u "java/lang/StringLatin1"), (32, u "()Z"), (34, .methodref 42 178), (0, .nameAndType 45 179), (0, u "([CII)[B"), (154, u "()I"), (0, .methodref 10 336), (0, .nameAndType 17 337), (0, u "()B"), (25, u "([BI)C"), (27, u "(II)V"), (35, u "(I)C"), (64, .methodref 10 493), (0, .nameAndType 494 142), (0, u "isLatin1"), (0, .methodref 107 496), (0, .nameAndType 497 363), (0, u "charAt"), (3, u "checkIndex"), (5, u "length"), (33, .methodref 107 542), (0, .nameAndType 543 544), (0, u "equals"), (0, u "([B[B)Z"), (28, u "(Ljava/lang/Object;)Z"), (1, .class_ 576), (0, u "java/lang/CharSequence"), (22, u "CASE_INSENSITIVE_ORDER"), (0, u "Ljava/util/Comparator;"), (409, u "([C)V"), (42, .fieldref 1054 1055), (0, .class_ 1056), (0, .nameAndType 1057 1058), (0, u "jdk/internal/util/Preconditions"), (0, u "SIOOBE_FORMATTER"), (0, u "Ljava/util/function/BiFunction;"), (0, .methodref 1054 1060), (0, .nameAndType 501 1061), (0, u "(IILjava/util/function/BiFunction;)I"), (39, u "serialPersistentFields"), (0, u "[Ljava/io/ObjectStreamField;"), (0, .class_ 1104), (0, u "java/lang/String$CaseInsensitiveComparator"), (1, .class_ 1107), (0, u "java/io/Serializable"), (0, .class_ 1109), (0, u "java/lang/Comparable"), (0, .class_ 1111), (0, u "java/lang/constant/Constable"), (0, .class_ 1113), (0, u "java/lang/constant/ConstantDesc"), (2, u "serialVersionUID"), (0, u "J"), (3, u "REPL"), (0, u "C"), (2, u "LATIN1"), (1, u "UTF16")] 323

def k7m0 : Method := { name := "<init>", desc := "()V", sig := { parameters := [], returnType := none }, accessFlags := 1, code := none }
def k7c1 : Code := { maxStack := 5, maxLocals := 2, code := jdk_42_method_3_code, exceptionTable := #[], attributes := #[] }
def k7m1 : Method := { name := "<init>", desc := "([C)V", sig := { parameters := [(.array .char)], returnType := none }, accessFlags := 1, code := some k7c1 }
def k7c2 : Code := { maxStack := 2, maxLocals := 1, code := jdk_42_method_54_code, exceptionTable := #[], attributes := #[] }
def k7m2 : Method := { name := "length", desc := "()I", sig := { parameters := [], returnType := some .int }, accessFlags := 1, code := some k7c2 }
def k7c3 : Code := { maxStack := 2, maxLocals := 2, code := jdk_42_method_56_code, exceptionTable := #[], attributes := #[] }
def k7m3 : Method := { name := "charAt", desc := "(I)C", sig := { parameters := [.int], returnType := some .char }, accessFlags := 1, code := some k7c3 }
def k7c4 : Code := { maxStack := 2, maxLocals := 3, code := jdk_42_method_66_code, exceptionTable := #[], attributes := #[] }
def k7m4 : Method := { name := "equals", desc := "(Ljava/lang/Object;)Z", sig := { parameters := [(.object "java/lang/Object")], returnType := some .boolean }, accessFlags := 1, code := some k7c4 }
def k7c5 : Code := { maxStack := 4, maxLocals := 6, code := jdk_42_method_149_code, exceptionTable := #[], attributes := #[] }
def k7m5 : Method := { name := "<init>", desc := "([CIILjava/lang/Void;)V", sig := { parameters := [(.array .char), .int, .int, (.object "java/lang/Void")], returnType := none }, accessFlags := 2, code := some k7c5 }
def k7c6 : Code := { maxStack := 1, maxLocals := 1, code := jdk_42_method_152_code, exceptionTable := #[], attributes := #[] }
def k7m6 : Method := { name := "coder", desc := "()B", sig := { parameters := [], returnType := some .byte }, accessFlags := 0, code := some k7c6 }
def k7c7 : Code := { maxStack := 1, maxLocals := 1, code := jdk_42_method_154_code, exceptionTable := #[], attributes := #[] }
def k7m7 : Method := { name := "isLatin1", desc := "()Z", sig := { parameters := [], returnType := some .boolean }, accessFlags := 0, code := some k7c7 }
def k7c8 : Code := { maxStack := 3, maxLocals := 2, code := jdk_42_method_155_code, exceptionTable := #[], attributes := #[] }
def k7m8 : Method := { name := "checkIndex", desc := "(II)V", sig := { parameters := [.int, .int], returnType := none }, accessFlags := 8, code := some k7c8 }
/-- java/lang/String -/
def k7 : Class := { plain "java/lang/String" (some 0) with
  accessFlags := 49
  interfaces := #[2, 3, 4, 5, 6]
  cf := some (fileOf pool7 10 #[.nestMembers #[1103]] #[{ accessFlags := 1, nameIndex := 5, descriptorIndex := 6, attributes := #[] }, { accessFlags := 1, nameIndex := 5, descriptorIndex := 1010, attributes := #[] }, { accessFlags := 1, nameIndex := 507, descriptorIndex := 334, attributes := #[] }, { accessFlags := 1, nameIndex := 497, descriptorIndex := 427, attributes := #[] }, { accessFlags := 1, nameIndex := 543, descriptorIndex := 573, attributes := #[] }, { accessFlags := 2, nameIndex := 5, descriptorIndex := 29, attributes := #[] }, { accessFlags := 0, nameIndex := 17, descriptorIndex := 337, attributes := #[] }, { accessFlags := 0, nameIndex := 494, descriptorIndex := 142, attributes := #[] }, { accessFlags := 8, nameIndex := 501, descriptorIndex := 391, attributes := #[] }] 49 2 #[1106, 1108, 575, 1110, 1112] #[{ accessFlags := 18, nameIndex := 13, descriptorIndex := 14, attributes := #[] }, { accessFlags := 18, nameIndex := 17, descriptorIndex := 18, attributes := #[] }, { accessFlags := 2, nameIndex := 21, descriptorIndex := 22, attributes := #[] }, { accessFlags := 2, nameIndex := 25, descriptorIndex := 26, attributes := #[] }, { accessFlags := 26, nameIndex := 1116, descriptorIndex := 1117, attributes := #[] }, { accessFlags := 24, nameIndex := 40, descriptorIndex := 26, attributes := #[] }, { accessFlags := 26, nameIndex := 1101, descriptorIndex := 1102, attributes := #[] }, { accessFlags := 26, nameIndex := 1121, descriptorIndex := 1122, attributes := #[] }, { accessFlags := 25, nameIndex := 599, descriptorIndex := 600, attributes := #[] }, { accessFlags := 24, nameIndex := 1125, descriptorIndex := 18, attributes := #[] }, { accessFlags := 24, nameIndex := 1127, descriptorIndex := 18, attributes := #[] }])
  fields := #[{ name := "value", type := (.array .byte), accessFlags := 18, slot := 0, constantValue := 0 }, { name := "coder", type := .byte, accessFlags := 18, slot := 1, constantValue := 0 }, { name := "hash", type := .int, accessFlags := 2, slot := 2, constantValue := 0 }, { name := "hashIsZero", type := .boolean, accessFlags := 2, slot := 3, constantValue := 0 }, { name := "serialVersionUID", type := .long, accessFlags := 26, slot := 0, constantValue := 0 }, { name := "COMPACT_STRINGS", type := .boolean, accessFlags := 24, slot := 1, constantValue := 0 }, { name := "serialPersistentFields", type := (.array (.object "java/io/ObjectStreamField")), accessFlags := 26, slot := 2, constantValue := 0 }, { name := "REPL", type := .char, accessFlags := 26, slot := 3, constantValue := 0 }, { name := "CASE_INSENSITIVE_ORDER", type := (.object "java/util/Comparator"), accessFlags := 25, slot := 4, constantValue := 0 }, { name := "LATIN1", type := .byte, accessFlags := 24, slot := 5, constantValue := 0 }, { name := "UTF16", type := .byte, accessFlags := 24, slot := 6, constantValue := 0 }]
  methods := #[k7m0, k7m1, k7m2, k7m3, k7m4, k7m5, k7m6, k7m7, k7m8]
  instanceTypes := #[(.array .byte), .byte, .int, .boolean]
  staticTypes := #[.long, .boolean, (.array (.object "java/io/ObjectStreamField")), .char, (.object "java/util/Comparator"), .byte, .byte]
  resolved := Array.replicate 1451 none
  statics := some 0 }

def pool8 : Array CpInfo := pool [(1, .class_ 2), (0, u "java/lang/String"), (1, .class_ 6), (1, u "java/lang/Object"), (0, u "<init>"), (0, u "()V"), (0, .methodref 1 10), (0, .nameAndType 11 12), (0, u "checkIndex"), (0, u "(II)V"), (1, .class_ 16), (1, u "java/lang/StringLatin1"), (36, u "([BI)C"), (67, u "$assertionsDisabled"), (0, u "Z"), (98, .class_ 223), (1, u "java/lang/StringLatin1$LinesSpliterator"), (28, u "charAt"), (28, u "equals"), (0, u "([B[B)Z"), (107, .class_ 391), (0, u "java/lang/StringLatin1$CharsSpliterator")] 3

def k8m0 : Method := { name := "<init>", desc := "()V", sig := { parameters := [], returnType := none }, accessFlags := 0, code := none }
def k8c1 : Code := { maxStack := 2, maxLocals := 2, code := jdk_43_method_2_code, exceptionTable := #[], attributes := #[] }
def k8m1 : Method := { name := "charAt", desc := "([BI)C", sig := { parameters := [(.array .byte), .int], returnType := some .char }, accessFlags := 9, code := some k8c1 }
def k8c2 : Code := { maxStack := 3, maxLocals := 3, code := jdk_43_method_13_code, exceptionTable := #[], attributes := #[] }
def k8m2 : Method := { name := "equals", desc := "([B[B)Z", sig := { parameters := [(.array .byte), (.array .byte)], returnType := some .boolean }, accessFlags := 9, code := some k8c2 }
/-- java/lang/StringLatin1 -/
def k8 : Class := { plain "java/lang/StringLatin1" (some 0) with
  accessFlags := 48
  interfaces := #[]
  cf := some (fileOf pool8 14 #[.nestMembers #[390, 221]] #[{ accessFlags := 0, nameIndex := 7, descriptorIndex := 8, attributes := #[] }, { accessFlags := 9, nameIndex := 252, descriptorIndex := 53, attributes := #[] }, { accessFlags := 9, nameIndex := 281, descriptorIndex := 282, attributes := #[] }] 48 4 #[] #[{ accessFlags := 4120, nameIndex := 121, descriptorIndex := 122, attributes := #[] }])
  fields := #[{ name := "$assertionsDisabled", type := .boolean, accessFlags := 4120, slot := 0, constantValue := 0 }]
  methods := #[k8m0, k8m1, k8m2]
  instanceTypes := #[]
  staticTypes := #[.boolean]
  resolved := Array.replicate 395 none
  statics := none }

def pool9 : Array CpInfo := pool [(2, .class_ 4), (1, u "java/lang/Object"), (0, u "<init>"), (0, u "()V"), (17, .class_ 26), (1, u "jdk/internal/util/Preconditions"), (6, u "checkIndex"), (21, .class_ 56), (0, u "jdk/internal/util/Preconditions$4"), (57, .class_ 115), (0, u "jdk/internal/util/Preconditions$1"), (7, u "SIOOBE_FORMATTER"), (0, u "Ljava/util/function/BiFunction;"), (0, .class_ 126), (0, u "jdk/internal/util/Preconditions$2"), (3, u "AIOOBE_FORMATTER"), (0, .class_ 132), (0, u "jdk/internal/util/Preconditions$3"), (3, u "IOOBE_FORMATTER"), (41, u "(IILjava/util/function/BiFunction;)I")] 15

def k9m0 : Method := { name := "<init>", desc := "()V", sig := { parameters := [], returnType := none }, accessFlags := 1, code := none }
def k9c1 : Code := { maxStack := 3, maxLocals := 3, code := jdk_41_method_11_code, exceptionTable := #[], attributes := #[] }
def k9m1 : Method := { name := "checkIndex", desc := "(IILjava/util/function/BiFunction;)I", sig := { parameters := [.int, .int, (.object "java/util/function/BiFunction")], returnType := some .int }, accessFlags := 9, code := some k9c1 }
/-- jdk/internal/util/Preconditions -/
def k9 : Class := { plain "jdk/internal/util/Preconditions" (some 0) with
  accessFlags := 33
  interfaces := #[]
  cf := some (fileOf pool9 24 #[.nestMembers #[55, 131, 125, 114]] #[{ accessFlags := 1, nameIndex := 5, descriptorIndex := 6, attributes := #[] }, { accessFlags := 9, nameIndex := 33, descriptorIndex := 178, attributes := #[] }] 33 2 #[] #[{ accessFlags := 25, nameIndex := 123, descriptorIndex := 124, attributes := #[] }, { accessFlags := 25, nameIndex := 130, descriptorIndex := 124, attributes := #[] }, { accessFlags := 25, nameIndex := 136, descriptorIndex := 124, attributes := #[] }])
  fields := #[{ name := "SIOOBE_FORMATTER", type := (.object "java/util/function/BiFunction"), accessFlags := 25, slot := 0, constantValue := 0 }, { name := "AIOOBE_FORMATTER", type := (.object "java/util/function/BiFunction"), accessFlags := 25, slot := 1, constantValue := 0 }, { name := "IOOBE_FORMATTER", type := (.object "java/util/function/BiFunction"), accessFlags := 25, slot := 2, constantValue := 0 }]
  methods := #[k9m0, k9m1]
  instanceTypes := #[]
  staticTypes := #[(.object "java/util/function/BiFunction"), (.object "java/util/function/BiFunction"), (.object "java/util/function/BiFunction")]
  resolved := Array.replicate 194 none
  statics := some 1 }

def pool10 : Array CpInfo := pool [(6, .class_ 8), (1, u "java/lang/Object"), (0, u "<init>"), (0, u "()V"), (1, .class_ 14), (1, u "java/lang/StringUTF16"), (31, u "$assertionsDisabled"), (0, u "Z"), (13, u "HI_BYTE_SHIFT"), (0, u "I"), (2, u "LO_BYTE_SHIFT"), (49, .methodref 12 116), (0, .nameAndType 117 118), (0, u "compress"), (0, u "([CI[BII)I"), (3, u "([CII)[B"), (138, u "coderFromArrayLen"), (0, u "([BI)B"), (106, .class_ 371), (1, u "java/lang/StringUTF16$LinesSpliterator"), (58, u "MAX_LENGTH"), (196, .class_ 628), (0, u "java/lang/StringUTF16$CodePointsSpliterator"), (0, .class_ 630), (0, u "java/lang/StringUTF16$CharsSpliterator")] 4

def k10m0 : Method := { name := "<init>", desc := "()V", sig := { parameters := [], returnType := none }, accessFlags := 0, code := none }
def k10c1 : Code := { maxStack := 2, maxLocals := 2, code := jdk_52_method_15_code, exceptionTable := #[], attributes := #[] }
def k10m1 : Method := { name := "coderFromArrayLen", desc := "([BI)B", sig := { parameters := [(.array .byte), .int], returnType := some .byte }, accessFlags := 8, code := some k10c1 }
def k10c2 : Code := { maxStack := 5, maxLocals := 6, code := jdk_52_method_16_code, exceptionTable := #[], attributes := #[] }
def k10m2 : Method := { name := "compress", desc := "([CII)[B", sig := { parameters := [(.array .char), .int, .int], returnType := some (.array .byte) }, accessFlags := 9, code := some k10c2 }
def k10c3 : Code := { maxStack := 3, maxLocals := 7, code := jdk_52_method_21_code, exceptionTable := #[], attributes := #[] }
def k10m3 : Method := { name := "compress", desc := "([CI[BII)I", sig := { parameters := [(.array .char), .int, (.array .byte), .int, .int], returnType := some .int }, accessFlags := 9, code := some k10c3 }
/-- java/lang/StringUTF16 -/
def k10 : Class := { plain "java/lang/StringUTF16" (some 0) with
  accessFlags := 48
  interfaces := #[]
  cf := some (fileOf pool10 12 #[.nestMembers #[627, 629, 369]] #[{ accessFlags := 0, nameIndex := 9, descriptorIndex := 10, attributes := #[] }, { accessFlags := 8, nameIndex := 261, descriptorIndex := 262, attributes := #[] }, { accessFlags := 9, nameIndex := 117, descriptorIndex := 122, attributes := #[] }, { accessFlags := 9, nameIndex := 117, descriptorIndex := 118, attributes := #[] }] 48 6 #[] #[{ accessFlags := 26, nameIndex := 61, descriptorIndex := 62, attributes := #[] }, { accessFlags := 26, nameIndex := 65, descriptorIndex := 62, attributes := #[] }, { accessFlags := 24, nameIndex := 430, descriptorIndex := 62, attributes := #[] }, { accessFlags := 4120, nameIndex := 46, descriptorIndex := 47, attributes := #[] }])
  fields := #[{ name := "HI_BYTE_SHIFT", type := .int, accessFlags := 26, slot := 0, constantValue := 0 }, { name := "LO_BYTE_SHIFT", type := .int, accessFlags := 26, slot := 1, constantValue := 0 }, { name := "MAX_LENGTH", type := .int, accessFlags := 24, slot := 2, constantValue := 0 }, { name := "$assertionsDisabled", type := .boolean, accessFlags := 4120, slot := 3, constantValue := 0 }]
  methods := #[k10m0, k10m1, k10m2, k10m3]
  instanceTypes := #[]
  staticTypes := #[.int, .int, .int, .boolean]
  resolved := Array.replicate 635 none
  statics := none }

def pool11 : Array CpInfo := pool [(2, .class_ 4), (1, u "java/lang/Enum"), (0, u "name"), (0, u "Ljava/lang/String;"), (2, u "ordinal"), (0, u "I"), (1, .class_ 14), (1, u "java/lang/Object"), (4, u "hash"), (86, .class_ 108), (1, u "java/lang/Enum$EnumDesc"), (2, .class_ 112), (0, u "java/lang/constant/Constable"), (0, .class_ 114), (0, u "java/lang/Comparable"), (0, .class_ 116), (0, u "java/io/Serializable")] 87

/-- java/lang/Enum -/
def k11 : Class := { plain "java/lang/Enum" (some 0) with
  accessFlags := 1057
  interfaces := #[5, 3, 2]
  cf := some (fileOf pool11 2 #[.nestMembers #[106]] #[] 1057 12 #[111, 113, 115] #[{ accessFlags := 18, nameIndex := 5, descriptorIndex := 6, attributes := #[] }, { accessFlags := 18, nameIndex := 9, descriptorIndex := 10, attributes := #[] }, { accessFlags := 2, nameIndex := 19, descriptorIndex := 10, attributes := #[] }])
  fields := #[{ name := "name", type := (.object "java/lang/String"), accessFlags := 18, slot := 0, constantValue := 0 }, { name := "ordinal", type := .int, accessFlags := 18, slot := 1, constantValue := 0 }, { name := "hash", type := .int, accessFlags := 2, slot := 2, constantValue := 0 }]
  methods := #[]
  instanceTypes := #[(.object "java/lang/String"), .int, .int]
  staticTypes := #[]
  resolved := Array.replicate 204 none
  statics := none }

def pool12 : Array CpInfo := pool [(1, .class_ 2), (0, u "com/example/pitlochry/pitlochry/OnStoreError"), (2, u "ALLOW"), (0, u "Lcom/example/pitlochry/pitlochry/OnStoreError;"), (2, u "DENY"), (2, u "LOCAL"), (0, .fieldref 1 14), (0, .nameAndType 15 16), (0, u "$VALUES"), (0, u "[Lcom/example/pitlochry/pitlochry/OnStoreError;"), (0, .methodref 18 19), (0, .class_ 16), (0, .nameAndType 20 21), (0, u "clone"), (0, u "()Ljava/lang/Object;"), (1, .class_ 25), (1, u "java/lang/Enum"), (6, .fieldref 1 33), (0, .nameAndType 34 35), (0, u "optionName"), (0, u "Ljava/lang/String;"), (0, .methodref 1 37), (0, .nameAndType 38 39), (0, u "values"), (0, u "()[Lcom/example/pitlochry/pitlochry/OnStoreError;"), (0, .methodref 41 42), (0, .class_ 43), (0, .nameAndType 44 45), (0, u "java/lang/String"), (0, u "equals"), (0, u "(Ljava/lang/Object;)Z"), (17, u "(Ljava/lang/String;)Lcom/example/pitlochry/pitlochry/OnStoreError;"), (4, u "named")] 6

def k12c0 : Code := { maxStack := 1, maxLocals := 0, code := prog_26_method_1_code, exceptionTable := #[], attributes := #[] }
def k12m0 : Method := { name := "values", desc := "()[Lcom/example/pitlochry/pitlochry/OnStoreError;", sig := { parameters := [], returnType := some (.array (.object "com/example/pitlochry/pitlochry/OnStoreError")) }, accessFlags := 9, code := some k12c0 }
def k12c1 : Code := { maxStack := 2, maxLocals := 6, code := prog_26_method_5_code, exceptionTable := #[], attributes := #[] }
def k12m1 : Method := { name := "named", desc := "(Ljava/lang/String;)Lcom/example/pitlochry/pitlochry/OnStoreError;", sig := { parameters := [(.object "java/lang/String")], returnType := some (.object "com/example/pitlochry/pitlochry/OnStoreError") }, accessFlags := 9, code := some k12c1 }
/-- com/example/pitlochry/pitlochry/OnStoreError -/
def k12 : Class := { plain "com/example/pitlochry/pitlochry/OnStoreError" (some 11) with
  accessFlags := 16433
  interfaces := #[]
  cf := some (fileOf pool12 1 #[] #[{ accessFlags := 9, nameIndex := 38, descriptorIndex := 39, attributes := #[] }, { accessFlags := 9, nameIndex := 68, descriptorIndex := 63, attributes := #[] }] 16433 23 #[] #[{ accessFlags := 16409, nameIndex := 5, descriptorIndex := 6, attributes := #[] }, { accessFlags := 16409, nameIndex := 9, descriptorIndex := 6, attributes := #[] }, { accessFlags := 16409, nameIndex := 12, descriptorIndex := 6, attributes := #[] }, { accessFlags := 18, nameIndex := 34, descriptorIndex := 35, attributes := #[] }, { accessFlags := 4122, nameIndex := 15, descriptorIndex := 16, attributes := #[] }])
  fields := #[{ name := "ALLOW", type := (.object "com/example/pitlochry/pitlochry/OnStoreError"), accessFlags := 16409, slot := 0, constantValue := 0 }, { name := "DENY", type := (.object "com/example/pitlochry/pitlochry/OnStoreError"), accessFlags := 16409, slot := 1, constantValue := 0 }, { name := "LOCAL", type := (.object "com/example/pitlochry/pitlochry/OnStoreError"), accessFlags := 16409, slot := 2, constantValue := 0 }, { name := "optionName", type := (.object "java/lang/String"), accessFlags := 18, slot := 3, constantValue := 0 }, { name := "$VALUES", type := (.array (.object "com/example/pitlochry/pitlochry/OnStoreError")), accessFlags := 4122, slot := 3, constantValue := 0 }]
  methods := #[k12m0, k12m1]
  instanceTypes := #[(.object "java/lang/String"), .int, .int, (.object "java/lang/String")]
  staticTypes := #[(.object "com/example/pitlochry/pitlochry/OnStoreError"), (.object "com/example/pitlochry/pitlochry/OnStoreError"), (.object "com/example/pitlochry/pitlochry/OnStoreError"), (.array (.object "com/example/pitlochry/pitlochry/OnStoreError"))]
  resolved := Array.replicate 75 none
  statics := some 2 }

def pool13 : Array CpInfo := pool [(1, .class_ 2), (0, u "java/lang/Cloneable"), (0, .class_ 4), (0, u "java/lang/Object")] 2

/-- java/lang/Cloneable -/
def k13 : Class := { plain "java/lang/Cloneable" (some 0) with
  accessFlags := 1537
  interfaces := #[]
  cf := some (fileOf pool13 1 #[] #[] 1537 3 #[] #[])
  fields := #[]
  methods := #[]
  instanceTypes := #[]
  staticTypes := #[]
  resolved := Array.replicate 7 none
  statics := none }

def pool14 : Array CpInfo := pool [(9, u "<init>"), (6, .class_ 18), (1, u "java/lang/Object"), (0, u "()V"), (1, .class_ 23), (1, u "jdk/internal/util/ArraysSupport"), (0, u "LOG2_ARRAY_LONG_INDEX_SCALE"), (0, u "I"), (2, u "U"), (0, u "Ljdk/internal/misc/Unsafe;"), (8, u "BIG_ENDIAN"), (0, u "Z"), (8, u "LOG2_BYTE_BIT_SIZE"), (4, u "LOG2_ARRAY_INT_INDEX_SCALE"), (54, u "JLA"), (0, u "Ljdk/internal/access/JavaLangAccess;"), (11, u "LOG2_ARRAY_BOOLEAN_INDEX_SCALE"), (9, u "LOG2_ARRAY_BYTE_INDEX_SCALE"), (5, u "LOG2_ARRAY_CHAR_INDEX_SCALE"), (5, u "LOG2_ARRAY_SHORT_INDEX_SCALE"), (18, u "LOG2_ARRAY_FLOAT_INDEX_SCALE"), (24, u "LOG2_ARRAY_DOUBLE_INDEX_SCALE"), (89, u "T_BOOLEAN"), (2, u "T_CHAR"), (1, u "T_FLOAT"), (1, u "T_DOUBLE"), (1, u "T_BYTE"), (1, u "T_SHORT"), (1, u "T_INT"), (1, u "T_LONG"), (1, u "SOFT_MAX_ARRAY_LENGTH")] 83

def k14m0 : Method := { name := "<init>", desc := "()V", sig := { parameters := [], returnType := none }, accessFlags := 2, code := none }
/-- jdk/internal/util/ArraysSupport -/
def k14 : Class := { plain "jdk/internal/util/ArraysSupport" (some 0) with
  accessFlags := 33
  interfaces := #[]
  cf := some (fileOf pool14 21 #[] #[{ accessFlags := 2, nameIndex := 9, descriptorIndex := 19, attributes := #[] }] 33 16 #[] #[{ accessFlags := 24, nameIndex := 28, descriptorIndex := 29, attributes := #[] }, { accessFlags := 26, nameIndex := 38, descriptorIndex := 39, attributes := #[] }, { accessFlags := 25, nameIndex := 121, descriptorIndex := 25, attributes := #[] }, { accessFlags := 25, nameIndex := 131, descriptorIndex := 25, attributes := #[] }, { accessFlags := 25, nameIndex := 137, descriptorIndex := 25, attributes := #[] }, { accessFlags := 25, nameIndex := 143, descriptorIndex := 25, attributes := #[] }, { accessFlags := 25, nameIndex := 53, descriptorIndex := 25, attributes := #[] }, { accessFlags := 25, nameIndex := 24, descriptorIndex := 25, attributes := #[] }, { accessFlags := 25, nameIndex := 162, descriptorIndex := 25, attributes := #[] }, { accessFlags := 25, nameIndex := 187, descriptorIndex := 25, attributes := #[] }, { accessFlags := 26, nameIndex := 48, descriptorIndex := 25, attributes := #[] }, { accessFlags := 25, nameIndex := 277, descriptorIndex := 25, attributes := #[] }, { accessFlags := 25, nameIndex := 280, descriptorIndex := 25, attributes := #[] }, { accessFlags := 25, nameIndex := 282, descriptorIndex := 25, attributes := #[] }, { accessFlags := 25, nameIndex := 284, descriptorIndex := 25, attributes := #[] }, { accessFlags := 25, nameIndex := 286, descriptorIndex := 25, attributes := #[] }, { accessFlags := 25, nameIndex := 288, descriptorIndex := 25, attributes := #[] }, { accessFlags := 25, nameIndex := 290, descriptorIndex := 25, attributes := #[] }, { accessFlags := 25, nameIndex := 292, descriptorIndex := 25, attributes := #[] }, { accessFlags := 26, nameIndex := 108, descriptorIndex := 109, attributes := #[] }, { accessFlags := 25, nameIndex := 294, descriptorIndex := 25, attributes := #[] }])
  fields := #[{ name := "U", type := (.object "jdk/internal/misc/Unsafe"), accessFlags := 24, slot := 0, constantValue := 0 }, { name := "BIG_ENDIAN", type := .boolean, accessFlags := 26, slot := 1, constantValue := 0 }, { name := "LOG2_ARRAY_BOOLEAN_INDEX_SCALE", type := .int, accessFlags := 25, slot := 2, constantValue := 0 }, { name := "LOG2_ARRAY_BYTE_INDEX_SCALE", type := .int, accessFlags := 25, slot := 3, constantValue := 0 }, { name := "LOG2_ARRAY_CHAR_INDEX_SCALE", type := .int, accessFlags := 25, slot := 4, constantValue := 0 }, { name := "LOG2_ARRAY_SHORT_INDEX_SCALE", type := .int, accessFlags := 25, slot := 5, constantValue := 0 }, { name := "LOG2_ARRAY_INT_INDEX_SCALE", type := .int, accessFlags := 25, slot := 6, constantValue := 0 }, { name := "LOG2_ARRAY_LONG_INDEX_SCALE", type := .int, accessFlags := 25, slot := 7, constantValue := 0 }, { name := "LOG2_ARRAY_FLOAT_INDEX_SCALE", type := .int, accessFlags := 25, slot := 8, constantValue := 0 }, { name := "LOG2_ARRAY_DOUBLE_INDEX_SCALE", type := .int, accessFlags := 25, slot := 9, constantValue := 0 }, { name := "LOG2_BYTE_BIT_SIZE", type := .int, accessFlags := 26, slot := 10, constantValue := 0 }, { name := "T_BOOLEAN", type := .int, accessFlags := 25, slot := 11, constantValue := 0 }, { name := "T_CHAR", type := .int, accessFlags := 25, slot := 12, constantValue := 0 }, { name := "T_FLOAT", type := .int, accessFlags := 25, slot := 13, constantValue := 0 }, { name := "T_DOUBLE", type := .int, accessFlags := 25, slot := 14, constantValue := 0 }, { name := "T_BYTE", type := .int, accessFlags := 25, slot := 15, constantValue := 0 }, { name := "T_SHORT", type := .int, accessFlags := 25, slot := 16, constantValue := 0 }, { name := "T_INT", type := .int, accessFlags := 25, slot := 17, constantValue := 0 }, { name := "T_LONG", type := .int, accessFlags := 25, slot := 18, constantValue := 0 }, { name := "JLA", type := (.object "jdk/internal/access/JavaLangAccess"), accessFlags := 26, slot := 19, constantValue := 0 }, { name := "SOFT_MAX_ARRAY_LENGTH", type := .int, accessFlags := 25, slot := 20, constantValue := 0 }]
  methods := #[k14m0]
  instanceTypes := #[]
  staticTypes := #[(.object "jdk/internal/misc/Unsafe"), .boolean, .int, .int, .int, .int, .int, .int, .int, .int, .int, .int, .int, .int, .int, .int, .int, .int, .int, (.object "jdk/internal/access/JavaLangAccess"), .int]
  resolved := Array.replicate 378 none
  statics := none }

/-- the primitive byte -/
def k15 : Class := { plain "byte" none with kind := .primitive 'B', accessFlags := 0x411 }
/-- [B -/
def k16 : Class := { plain "[B" (some 0) with kind := .array 15 .byte, interfaces := #[13, 2], accessFlags := 1041 }

/-- the primitive char -/
def k17 : Class := { plain "char" none with kind := .primitive 'C', accessFlags := 0x411 }
/-- [C -/
def k18 : Class := { plain "[C" (some 0) with kind := .array 17 .char, interfaces := #[13, 2], accessFlags := 1041 }

/-- the primitive int -/
def k19 : Class := { plain "int" none with kind := .primitive 'I', accessFlags := 0x411 }
/-- [I -/
def k20 : Class := { plain "[I" (some 0) with kind := .array 19 .int, interfaces := #[13, 2], accessFlags := 1041 }

/-- [Lcom/example/pitlochry/pitlochry/OnStoreError; -/
def k21 : Class := { plain "[Lcom/example/pitlochry/pitlochry/OnStoreError;" (some 0) with kind := .array 12 (.object "com/example/pitlochry/pitlochry/OnStoreError"), interfaces := #[13, 2], accessFlags := 1041 }

def heap : Heap := #[{ cls := 7, slots := #[.long 0, .int 1, .null, .int 0, .null, .int 0, .int 0], vm := .statics 7 },
  { cls := 9, slots := #[.null, .null, .null], vm := .statics 9 },
  { cls := 12, slots := #[.ref 4, .ref 5, .ref 6, .ref 3], vm := .statics 12 },
  { cls := 21, slots := #[.ref 4, .ref 5, .ref 6], vm := .none },
  { cls := 12, slots := #[.null, .int 0, .int 0, .ref 7], vm := .none },
  { cls := 12, slots := #[.null, .int 1, .int 0, .ref 8], vm := .none },
  { cls := 12, slots := #[.null, .int 2, .int 0, .ref 9], vm := .none },
  { cls := 7, slots := #[.ref 10, .int 0, .int 0, .int 0], vm := .none },
  { cls := 7, slots := #[.ref 11, .int 0, .int 0, .int 0], vm := .none },
  { cls := 7, slots := #[.ref 12, .int 0, .int 0, .int 0], vm := .none },
  { cls := 16, slots := #[.int 97, .int 108, .int 108, .int 111, .int 119], vm := .none },
  { cls := 16, slots := #[.int 100, .int 101, .int 110, .int 121], vm := .none },
  { cls := 16, slots := #[.int 108, .int 111, .int 99, .int 97, .int 108], vm := .none }]
def classes : Array Class := #[k0, k1, k2, k3, k4, k5, k6, k7, k8, k9, k10, k11, k12, k13, k14, k15, k16, k17, k18, k19, k20, k21]
def interned : List (Array UInt16 × Addr) := []
def slotsUsed : Nat := 55
def theMethod : MethodId := ⟨1, 1⟩
def args0 : Array Value := #[.int 0, .int 3, .int 7, .int 0, .int 4, .int 4]
def aboutOver (below : List Frame) : State where
  vm := { classes := classes, interned := interned.toArray }
  heap := heap
  slotsUsed := slotsUsed
  threads := #[{ frames := .invoking theMethod args0 :: below }]
def below0 : List Frame := [.native { method := ⟨0, 0⟩, args := #[] }]
def about1 : State := aboutOver below0
def p0 : Program := .bare "" "" ""
def e0 : Env := launch0.env 0 0 0
theorem w_frames : about1.frames = Frame.invoking theMethod args0 :: below0 := rfl
set_option maxRecDepth 65536 in
theorem w_args : argsFit about1.vm theMethod args0 = true := by decide +kernel
set_option maxRecDepth 65536 in
theorem w_heap : heapFits about1 = true := by decide +kernel
set_option maxRecDepth 65536 in
theorem w_runnable : about1.curStatus? = some .runnable := by decide +kernel
set_option maxRecDepth 65536 in
theorem w_alone : about1.alone = true := by decide +kernel
set_option maxRecDepth 65536 in
theorem w_named : about1.methodNamed? x = some theMethod := by decide +kernel
set_option maxRecDepth 65536 in
theorem w_hears : about1.hears theMethod below0 = true := by decide +kernel
set_option maxRecDepth 65536 in
theorem w_ripe : about1.ripe theMethod args0 below0 = true := by decide +kernel
theorem w_running : about1.status = .running := rfl
set_option maxRecDepth 65536 in
theorem w_room : about1.hasRoom e0.platform room_1 = true :=
  launch0.hasRoom_least _ room_1 (by decide +kernel) (by decide +kernel) (by decide +kernel) (by decide +kernel) (by decide +kernel) (by decide +kernel)
theorem allAtoms_all (ts : List Jvm.Cond) (a : Array Jvm.Value) (st : Jvm.State) : (allAtoms ts).before a st = ts.all (fun c => c.before a st) := by
  induction ts with
  | nil => rfl
  | cons c t ih =>
    show (Jvm.Cond.and c (allAtoms t)).before a st = _
    rw [Jvm.Cond.before_and, ih, List.all_cons]
def words1 : List Jvm.Cond := Jvm.Cond.code x code maxLocals ret :: tables_1
/-- a 'code' word, met by the world's own term for the bytes: nothing is compared byte by byte -/
theorem code_word {y : MethodName} {bytes : ByteArray} {mx : Nat} {rt : Option FieldType} {a : Array Value} {s : State} {m : MethodId} {meth : Method} {c : Code} (h1 : s.methodNamed? y = some m) (h2 : s.vm.method? m = some meth) (h3 : meth.code = some c) (h4 : c.code = bytes)
    (h5 : (c.maxLocals == mx && c.exceptionTable.isEmpty && decide (c.maxStack ≤ mostOperands) && decide (meth.sig.returnType = rt) && !meth.locks && decide (parseMethodDescriptor y.desc = some meth.sig)) = true) : (Jvm.Cond.code y bytes mx rt).before a s = true := by
  simp only [Bool.and_eq_true, beq_iff_eq, Bool.not_eq_true', decide_eq_true_eq] at h5
  obtain ⟨⟨⟨⟨⟨g1, g2⟩, g3⟩, g4⟩, g5⟩, g6⟩ := h5
  simp [Cond.before, Cond.holds, Cond.value, h1, h2, h3, h4, g1, g2, g3, g4, g5, g6]
def isCode : Jvm.Cond → Bool
  | .code _ _ _ _ => true
  | _ => false
theorem all_split {L : List Jvm.Cond} {P : Jvm.Cond → Bool} (h1 : L.all (fun c => isCode c || P c) = true) (h2 : ∀ c ∈ L.filter isCode, P c = true) : L.all P = true := by
  refine List.all_eq_true.mpr fun c hc => ?_
  have h := List.all_eq_true.mp h1 c hc
  rcases Bool.eq_false_or_eq_true (isCode c) with hi | hi
  · exact h2 c (List.mem_filter.mpr ⟨hc, hi⟩)
  · simpa [hi] using h
set_option maxRecDepth 65536 in
theorem w_c0 : (Jvm.Cond.code x code maxLocals ret).before args0 about1 = true := code_word (m := ⟨1, 1⟩) (meth := k1m1) (c := k1c1) (by decide +kernel) rfl rfl rfl (by decide +kernel)
set_option maxRecDepth 65536 in
theorem w_c1 : (Jvm.Cond.code ({ cls := "com/example/pitlochry/pitlochry/OnStoreErrorNamedPinLaw", name := "pick", desc := "(Ljava/lang/String;III)C" } : Jvm.MethodName) method_3_code (5 : Nat) (Option.some Jvm.ClassFile.FieldType.char)).before args0 about1 = true := code_word (m := ⟨1, 2⟩) (meth := k1m2) (c := k1c2) (by decide +kernel) rfl rfl rfl (by decide +kernel)
set_option maxRecDepth 65536 in
theorem w_c2 : (Jvm.Cond.code ({ cls := "java/lang/String", name := "length", desc := "()I" } : Jvm.MethodName) jdk_42_method_54_code (1 : Nat) (Option.some Jvm.ClassFile.FieldType.int)).before args0 about1 = true := code_word (m := ⟨7, 2⟩) (meth := k7m2) (c := k7c2) (by decide +kernel) rfl rfl rfl (by decide +kernel)
set_option maxRecDepth 65536 in
theorem w_c3 : (Jvm.Cond.code ({ cls := "java/lang/String", name := "coder", desc := "()B" } : Jvm.MethodName) jdk_42_method_152_code (1 : Nat) (Option.some Jvm.ClassFile.FieldType.byte)).before args0 about1 = true := code_word (m := ⟨7, 6⟩) (meth := k7m6) (c := k7c6) (by decide +kernel) rfl rfl rfl (by decide +kernel)
set_option maxRecDepth 65536 in
theorem w_c4 : (Jvm.Cond.code ({ cls := "java/lang/String", name := "charAt", desc := "(I)C" } : Jvm.MethodName) jdk_42_method_56_code (2 : Nat) (Option.some Jvm.ClassFile.FieldType.char)).before args0 about1 = true := code_word (m := ⟨7, 3⟩) (meth := k7m3) (c := k7c3) (by decide +kernel) rfl rfl rfl (by decide +kernel)
set_option maxRecDepth 65536 in
theorem w_c5 : (Jvm.Cond.code ({ cls := "java/lang/String", name := "isLatin1", desc := "()Z" } : Jvm.MethodName) jdk_42_method_154_code (1 : Nat) (Option.some Jvm.ClassFile.FieldType.boolean)).before args0 about1 = true := code_word (m := ⟨7, 7⟩) (meth := k7m7) (c := k7c7) (by decide +kernel) rfl rfl rfl (by decide +kernel)
set_option maxRecDepth 65536 in
theorem w_c6 : (Jvm.Cond.code ({ cls := "java/lang/StringLatin1", name := "charAt", desc := "([BI)C" } : Jvm.MethodName) jdk_43_method_2_code (2 : Nat) (Option.some Jvm.ClassFile.FieldType.char)).before args0 about1 = true := code_word (m := ⟨8, 1⟩) (meth := k8m1) (c := k8c1) (by decide +kernel) rfl rfl rfl (by decide +kernel)
set_option maxRecDepth 65536 in
theorem w_c7 : (Jvm.Cond.code ({ cls := "java/lang/String", name := "checkIndex", desc := "(II)V" } : Jvm.MethodName) jdk_42_method_155_code (2 : Nat) (Option.none : Option Jvm.ClassFile.FieldType)).before args0 about1 = true := code_word (m := ⟨7, 8⟩) (meth := k7m8) (c := k7c8) (by decide +kernel) rfl rfl rfl (by decide +kernel)
set_option maxRecDepth 65536 in
theorem w_c8 : (Jvm.Cond.code ({ cls := "jdk/internal/util/Preconditions", name := "checkIndex", desc := "(IILjava/util/function/BiFunction;)I" } : Jvm.MethodName) jdk_41_method_11_code (3 : Nat) (Option.some Jvm.ClassFile.FieldType.int)).before args0 about1 = true := code_word (m := ⟨9, 1⟩) (meth := k9m1) (c := k9c1) (by decide +kernel) rfl rfl rfl (by decide +kernel)
set_option maxRecDepth 65536 in
theorem w_c9 : (Jvm.Cond.code ({ cls := "com/example/pitlochry/pitlochry/OnStoreErrorNamedPinLaw", name := "prefix", desc := "([CI)Ljava/lang/String;" } : Jvm.MethodName) method_4_code (2 : Nat) (Option.some (Jvm.ClassFile.FieldType.object "java/lang/String"))).before args0 about1 = true := code_word (m := ⟨1, 3⟩) (meth := k1m3) (c := k1c3) (by decide +kernel) rfl rfl rfl (by decide +kernel)
set_option maxRecDepth 65536 in
theorem w_c10 : (Jvm.Cond.code ({ cls := "java/lang/String", name := "<init>", desc := "([C)V" } : Jvm.MethodName) jdk_42_method_3_code (2 : Nat) (Option.none : Option Jvm.ClassFile.FieldType)).before args0 about1 = true := code_word (m := ⟨7, 1⟩) (meth := k7m1) (c := k7c1) (by decide +kernel) rfl rfl rfl (by decide +kernel)
set_option maxRecDepth 65536 in
theorem w_c11 : (Jvm.Cond.code ({ cls := "java/lang/String", name := "<init>", desc := "([CIILjava/lang/Void;)V" } : Jvm.MethodName) jdk_42_method_149_code (6 : Nat) (Option.none : Option Jvm.ClassFile.FieldType)).before args0 about1 = true := code_word (m := ⟨7, 5⟩) (meth := k7m5) (c := k7c5) (by decide +kernel) rfl rfl rfl (by decide +kernel)
set_option maxRecDepth 65536 in
theorem w_c12 : (Jvm.Cond.code ({ cls := "java/lang/Object", name := "<init>", desc := "()V" } : Jvm.MethodName) object_method_1_code (1 : Nat) (Option.none : Option Jvm.ClassFile.FieldType)).before args0 about1 = true := code_word (m := ⟨0, 0⟩) (meth := k0m0) (c := k0c0) (by decide +kernel) rfl rfl rfl (by decide +kernel)
set_option maxRecDepth 65536 in
theorem w_c13 : (Jvm.Cond.code ({ cls := "java/lang/StringUTF16", name := "compress", desc := "([CII)[B" } : Jvm.MethodName) jdk_52_method_16_code (6 : Nat) (Option.some (Jvm.ClassFile.FieldType.array Jvm.ClassFile.FieldType.byte))).before args0 about1 = true := code_word (m := ⟨10, 2⟩) (meth := k10m2) (c := k10c2) (by decide +kernel) rfl rfl rfl (by decide +kernel)
set_option maxRecDepth 65536 in
theorem w_c14 : (Jvm.Cond.code ({ cls := "java/lang/StringUTF16", name := "compress", desc := "([CI[BII)I" } : Jvm.MethodName) jdk_52_method_21_code (7 : Nat) (Option.some Jvm.ClassFile.FieldType.int)).before args0 about1 = true := code_word (m := ⟨10, 3⟩) (meth := k10m3) (c := k10c3) (by decide +kernel) rfl rfl rfl (by decide +kernel)
set_option maxRecDepth 65536 in
theorem w_c15 : (Jvm.Cond.code ({ cls := "java/lang/StringUTF16", name := "coderFromArrayLen", desc := "([BI)B" } : Jvm.MethodName) jdk_52_method_15_code (2 : Nat) (Option.some Jvm.ClassFile.FieldType.byte)).before args0 about1 = true := code_word (m := ⟨10, 1⟩) (meth := k10m1) (c := k10c1) (by decide +kernel) rfl rfl rfl (by decide +kernel)
set_option maxRecDepth 65536 in
theorem w_c16 : (Jvm.Cond.code ({ cls := "com/example/pitlochry/pitlochry/OnStoreError", name := "named", desc := "(Ljava/lang/String;)Lcom/example/pitlochry/pitlochry/OnStoreError;" } : Jvm.MethodName) prog_26_method_5_code (6 : Nat) (Option.some (Jvm.ClassFile.FieldType.object "com/example/pitlochry/pitlochry/OnStoreError"))).before args0 about1 = true := code_word (m := ⟨12, 1⟩) (meth := k12m1) (c := k12c1) (by decide +kernel) rfl rfl rfl (by decide +kernel)
set_option maxRecDepth 65536 in
theorem w_c17 : (Jvm.Cond.code ({ cls := "com/example/pitlochry/pitlochry/OnStoreError", name := "values", desc := "()[Lcom/example/pitlochry/pitlochry/OnStoreError;" } : Jvm.MethodName) prog_26_method_1_code (0 : Nat) (Option.some (Jvm.ClassFile.FieldType.array (Jvm.ClassFile.FieldType.object "com/example/pitlochry/pitlochry/OnStoreError")))).before args0 about1 = true := code_word (m := ⟨12, 0⟩) (meth := k12m0) (c := k12c0) (by decide +kernel) rfl rfl rfl (by decide +kernel)
set_option maxRecDepth 65536 in
theorem w_c18 : (Jvm.Cond.code ({ cls := "java/lang/String", name := "equals", desc := "(Ljava/lang/Object;)Z" } : Jvm.MethodName) jdk_42_method_66_code (3 : Nat) (Option.some Jvm.ClassFile.FieldType.boolean)).before args0 about1 = true := code_word (m := ⟨7, 4⟩) (meth := k7m4) (c := k7c4) (by decide +kernel) rfl rfl rfl (by decide +kernel)
set_option maxRecDepth 65536 in
theorem w_c19 : (Jvm.Cond.code ({ cls := "java/lang/StringLatin1", name := "equals", desc := "([B[B)Z" } : Jvm.MethodName) jdk_43_method_13_code (3 : Nat) (Option.some Jvm.ClassFile.FieldType.boolean)).before args0 about1 = true := code_word (m := ⟨8, 2⟩) (meth := k8m2) (c := k8c2) (by decide +kernel) rfl rfl rfl (by decide +kernel)
set_option maxRecDepth 65536 in
theorem w_c20 : (Jvm.Cond.code ({ cls := "com/example/pitlochry/pitlochry/OnStoreErrorNamedPinLaw", name := "expected", desc := "(Ljava/lang/String;)Lcom/example/pitlochry/pitlochry/OnStoreError;" } : Jvm.MethodName) method_5_code (1 : Nat) (Option.some (Jvm.ClassFile.FieldType.object "com/example/pitlochry/pitlochry/OnStoreError"))).before args0 about1 = true := code_word (m := ⟨1, 4⟩) (meth := k1m4) (c := k1c4) (by decide +kernel) rfl rfl rfl (by decide +kernel)
def codes1 : List Jvm.Cond := [Jvm.Cond.code x code maxLocals ret, Jvm.Cond.code ({ cls := "com/example/pitlochry/pitlochry/OnStoreErrorNamedPinLaw", name := "pick", desc := "(Ljava/lang/String;III)C" } : Jvm.MethodName) method_3_code (5 : Nat) (Option.some Jvm.ClassFile.FieldType.char), Jvm.Cond.code ({ cls := "java/lang/String", name := "length", desc := "()I" } : Jvm.MethodName) jdk_42_method_54_code (1 : Nat) (Option.some Jvm.ClassFile.FieldType.int), Jvm.Cond.code ({ cls := "java/lang/String", name := "coder", desc := "()B" } : Jvm.MethodName) jdk_42_method_152_code (1 : Nat) (Option.some Jvm.ClassFile.FieldType.byte), Jvm.Cond.code ({ cls := "java/lang/String", name := "charAt", desc := "(I)C" } : Jvm.MethodName) jdk_42_method_56_code (2 : Nat) (Option.some Jvm.ClassFile.FieldType.char), Jvm.Cond.code ({ cls := "java/lang/String", name := "isLatin1", desc := "()Z" } : Jvm.MethodName) jdk_42_method_154_code (1 : Nat) (Option.some Jvm.ClassFile.FieldType.boolean), Jvm.Cond.code ({ cls := "java/lang/StringLatin1", name := "charAt", desc := "([BI)C" } : Jvm.MethodName) jdk_43_method_2_code (2 : Nat) (Option.some Jvm.ClassFile.FieldType.char), Jvm.Cond.code ({ cls := "java/lang/String", name := "checkIndex", desc := "(II)V" } : Jvm.MethodName) jdk_42_method_155_code (2 : Nat) (Option.none : Option Jvm.ClassFile.FieldType), Jvm.Cond.code ({ cls := "jdk/internal/util/Preconditions", name := "checkIndex", desc := "(IILjava/util/function/BiFunction;)I" } : Jvm.MethodName) jdk_41_method_11_code (3 : Nat) (Option.some Jvm.ClassFile.FieldType.int), Jvm.Cond.code ({ cls := "com/example/pitlochry/pitlochry/OnStoreErrorNamedPinLaw", name := "prefix", desc := "([CI)Ljava/lang/String;" } : Jvm.MethodName) method_4_code (2 : Nat) (Option.some (Jvm.ClassFile.FieldType.object "java/lang/String")), Jvm.Cond.code ({ cls := "java/lang/String", name := "<init>", desc := "([C)V" } : Jvm.MethodName) jdk_42_method_3_code (2 : Nat) (Option.none : Option Jvm.ClassFile.FieldType), Jvm.Cond.code ({ cls := "java/lang/String", name := "<init>", desc := "([CIILjava/lang/Void;)V" } : Jvm.MethodName) jdk_42_method_149_code (6 : Nat) (Option.none : Option Jvm.ClassFile.FieldType), Jvm.Cond.code ({ cls := "java/lang/Object", name := "<init>", desc := "()V" } : Jvm.MethodName) object_method_1_code (1 : Nat) (Option.none : Option Jvm.ClassFile.FieldType), Jvm.Cond.code ({ cls := "java/lang/StringUTF16", name := "compress", desc := "([CII)[B" } : Jvm.MethodName) jdk_52_method_16_code (6 : Nat) (Option.some (Jvm.ClassFile.FieldType.array Jvm.ClassFile.FieldType.byte)), Jvm.Cond.code ({ cls := "java/lang/StringUTF16", name := "compress", desc := "([CI[BII)I" } : Jvm.MethodName) jdk_52_method_21_code (7 : Nat) (Option.some Jvm.ClassFile.FieldType.int), Jvm.Cond.code ({ cls := "java/lang/StringUTF16", name := "coderFromArrayLen", desc := "([BI)B" } : Jvm.MethodName) jdk_52_method_15_code (2 : Nat) (Option.some Jvm.ClassFile.FieldType.byte), Jvm.Cond.code ({ cls := "com/example/pitlochry/pitlochry/OnStoreError", name := "named", desc := "(Ljava/lang/String;)Lcom/example/pitlochry/pitlochry/OnStoreError;" } : Jvm.MethodName) prog_26_method_5_code (6 : Nat) (Option.some (Jvm.ClassFile.FieldType.object "com/example/pitlochry/pitlochry/OnStoreError")), Jvm.Cond.code ({ cls := "com/example/pitlochry/pitlochry/OnStoreError", name := "values", desc := "()[Lcom/example/pitlochry/pitlochry/OnStoreError;" } : Jvm.MethodName) prog_26_method_1_code (0 : Nat) (Option.some (Jvm.ClassFile.FieldType.array (Jvm.ClassFile.FieldType.object "com/example/pitlochry/pitlochry/OnStoreError"))), Jvm.Cond.code ({ cls := "java/lang/String", name := "equals", desc := "(Ljava/lang/Object;)Z" } : Jvm.MethodName) jdk_42_method_66_code (3 : Nat) (Option.some Jvm.ClassFile.FieldType.boolean), Jvm.Cond.code ({ cls := "java/lang/StringLatin1", name := "equals", desc := "([B[B)Z" } : Jvm.MethodName) jdk_43_method_13_code (3 : Nat) (Option.some Jvm.ClassFile.FieldType.boolean), Jvm.Cond.code ({ cls := "com/example/pitlochry/pitlochry/OnStoreErrorNamedPinLaw", name := "expected", desc := "(Ljava/lang/String;)Lcom/example/pitlochry/pitlochry/OnStoreError;" } : Jvm.MethodName) method_5_code (1 : Nat) (Option.some (Jvm.ClassFile.FieldType.object "com/example/pitlochry/pitlochry/OnStoreError"))]
set_option maxRecDepth 65536 in
theorem codes_eq : words1.filter isCode = codes1 := rfl
theorem w_codes : ∀ c ∈ words1.filter isCode, c.before args0 about1 = true := by
  rw [codes_eq]
  intro c hc
  simp only [codes1, List.mem_cons, List.not_mem_nil, or_false] at hc
  rcases hc with rfl | rfl | rfl | rfl | rfl | rfl | rfl | rfl | rfl | rfl | rfl | rfl | rfl | rfl | rfl | rfl | rfl | rfl | rfl | rfl | rfl
  · exact w_c0
  · exact w_c1
  · exact w_c2
  · exact w_c3
  · exact w_c4
  · exact w_c5
  · exact w_c6
  · exact w_c7
  · exact w_c8
  · exact w_c9
  · exact w_c10
  · exact w_c11
  · exact w_c12
  · exact w_c13
  · exact w_c14
  · exact w_c15
  · exact w_c16
  · exact w_c17
  · exact w_c18
  · exact w_c19
  · exact w_c20
set_option maxRecDepth 65536 in
theorem w_t1 : (words1.take 24).all (fun c => isCode c || c.before args0 about1) = true := by decide +kernel
set_option maxRecDepth 65536 in
theorem w_t2 : ((words1.drop 24).take 24).all (fun c => isCode c || c.before args0 about1) = true := by decide +kernel
set_option maxRecDepth 65536 in
theorem w_t3 : (((words1.drop 24).drop 24).take 24).all (fun c => isCode c || c.before args0 about1) = true := by decide +kernel
set_option maxRecDepth 65536 in
theorem w_t4 : ((((words1.drop 24).drop 24).drop 24).take 24).all (fun c => isCode c || c.before args0 about1) = true := by decide +kernel
set_option maxRecDepth 65536 in
theorem w_t5 : ((((words1.drop 24).drop 24).drop 24).drop 24).all (fun c => isCode c || c.before args0 about1) = true := by decide +kernel
theorem w_tables : (allAtoms (Jvm.Cond.code x code maxLocals ret :: tables_1)).before args0 about1 = true := by
  rw [allAtoms_all]
  show words1.all (fun c => c.before args0 about1) = true
  refine all_split ?_ w_codes
  rw [← List.take_append_drop 24 words1, List.all_append, w_t1, ← List.take_append_drop 24 (words1.drop 24), List.all_append, w_t2, ← List.take_append_drop 24 ((words1.drop 24).drop 24), List.all_append, w_t3, ← List.take_append_drop 24 (((words1.drop 24).drop 24).drop 24), List.all_append, w_t4, w_t5]
  rfl
set_option maxRecDepth 65536 in
theorem w_rest : rest_1_c.before args0 about1 = true := by decide +kernel
set_option maxRecDepth 65536 in
theorem w_case : (Jvm.Cond.and given_1 narrow_1).before args0 about1 = true := by decide +kernel
set_option maxRecDepth 65536 in
theorem w_consts : constsHeld consts_1 about1 := Jvm.Lit.constsHeldB_iff.mp (by decide +kernel)
theorem w_applies : (headSpec (Jvm.Cond.code x code maxLocals ret :: tables_1) room_1).applies x e0.platform about1 = true :=
  (Spec.applies_iff w_frames).mpr ⟨w_running, w_runnable, w_alone, w_named, w_hears, w_ripe, w_room, w_tables⟩
theorem atStart : AtStart classFile x code maxLocals ret World_1 tables_1 room_1 Calls_1 rest_1 Pre_1 launch0 p0 e0 about1 theMethod args0 below0 :=
  ⟨lists_1, trivial, launch0.admits_env _ _ _, launch0.least_env, fairChoices_fair.cas, fairChoices_fair.clock, w_frames, w_args, w_heap, w_applies, ⟨w_consts, trivial⟩, w_rest, w_case⟩
end start1
theorem witness_1 : WitnessClaimed_1 := ⟨start1.p0, start1.e0, start1.about1, start1.theMethod, start1.args0, start1.below0, start1.atStart⟩
end Jvm.Pilot.@@N@@
