import JvmDerived
import JvmDerived.Pilot.@@N@@Statement
import JvmDerived.Pilot.@@N@@Code
set_option linter.unusedVariables false
set_option linter.unusedSimpArgs false
@@BLOCK:NumsL.lean.txt@@
namespace Jvm.Pilot.@@N@@
open Jvm Jvm.ClassFile Sem Op Lib Jvm.Free Jvm.Stand Jvm.LawKit Jvm.RoadKit Bundle Jvm.Pilot.@@N@@.Jvm.D
/-! ## The walk layer: where a walk stands (On), what is fixed in it (Cx), the goal (Gl), a method's contract (Con) -/
def Sf (Z : State) (EL : List (String × Nat)) (vm : Vm) (h : Heap) (PS : List Addr) : Prop := ∀ x ∈ PS, x < h.size ∧ Safe Z EL vm h x
def On (p : Program) (l : Launch) (e : Env) (R : Room) (s : State) (m : MethodId) (args : Array Value) (below : List Frame) (meth : Method) (c : Code) (Z : State) (EL : List (String × Nat)) (own : String) (n0 : Nat) (T : State) (h : Heap) (PS : List Addr) (k n : Nat) : Prop :=
  ∃ locs vm0 k1, Stand p l e R (s.setVm vm0) m args below meth c T locs k n ∧ Fr n0 locs ∧ T.heap = h ∧ s.Since vm0 k1 ∧ k1 ≤ h.size ∧ Z.Warmed39 vm0 ∧ vm0.findClass own = some m.cls ∧ CHr Z EL s.vm s.heap vm0 h ∧ Sf Z EL vm0 h PS
def Cx (p : Program) (m : MethodId) (meth : Method) (c : Code) (Z : State) (EL : List (String × Nat)) (a0 : Array Value) (own name : String) (cod : ByteArray) (maxL : Nat) (ret : Option FieldType) : Prop :=
  p.tables.exec = Jvm.exec ∧ (EW Z a0 EL ∧ ∀ a ∈ Bundle.stringAtoms, a.before a0 Z = true) ∧ c.code = cod ∧ c.maxLocals = maxL ∧ True ∧ meth.name = name ∧ meth.sig.returnType = ret ∧ meth.locks = false
def Gl (p : Program) (e : Env) (below : List Frame) (s : State) (Z : State) (EL : List (String × Nat)) (R : Room) (n0 : Nat) (Q : Option Value → Heap → List Addr → Prop) (T : State) (g : JFrame) : Prop :=
  ∃ s₂ o, Steps p.tables e below (T.setTop g) s₂ ∧ s₂.status = .running ∧ Ended s₂ below o ∧ ∃ v L, o = .returned v ∧ (∃ PS, Q v s₂.heap PS ∧ Fr n0 L ∧ Sf Z EL s₂.vm s₂.heap PS) ∧ CHr Z EL s.vm s.heap s₂.vm s₂.heap ∧ ReturnedEndW s o s₂ L R.cells R.slots
def Con (l : Launch) (Z : State) (EL : List (String × Nat)) (P0 : List Addr) (y : MethodName) (cod : ByteArray) (maxL : Nat) (ret : Option FieldType) (rm : Room) (as : Array Value) (h0 : Heap) (n0 : Nat) (Q : Option Value → Heap → List Addr → Prop) : Prop :=
  ∀ ws, MetFree l y (head1 (Jvm.Cond.code y cod maxL ret :: ws) rm) (fun a U => a = as ∧ Z.Warmed39 U.vm ∧ U.heap = h0 ∧ CHv Z EL U.vm h0 ∧ Sf Z EL U.vm h0 P0) (fun _ _ _ _ _ => True) (fun _ U o U' => ∃ v L, o = .returned v ∧ (∃ PS, Q v U'.heap PS ∧ Fr n0 L ∧ Sf Z EL U'.vm U'.heap PS) ∧ CHr Z EL U.vm U.heap U'.vm U'.heap ∧ ReturnedEndW U o U' L rm.cells rm.slots)
section OwnKit
variable {EL : List (String × Nat)} {PS : List Addr} {p : Program} {l : Launch} {e : Env} {R : Room} {s : State} {m : MethodId} {args : Array Value} {below : List Frame} {meth : Method} {c : Code} {Z : State} {a0 : Array Value} {n0 : Nat} {T : State} {h h' h0 : Heap} {k n : Nat} {own name : String} {cod : ByteArray} {maxL : Nat} {ret : Option FieldType} {Q : Option Value → Heap → List Addr → Prop} {pc pc' pf : Nat} {L L' : Array Slot} {r : List Value} {a b : Addr}
theorem Sf.chr {vm vm1 : Vm} {P : List Addr} (F : Sf Z EL vm h P) (A : CHr Z EL vm h vm1 h') : Sf Z EL vm1 h' P := fun x q => ⟨Nat.lt_of_lt_of_le (F x q).1 A.2.1, A.safe (F x q).1 (F x q).2⟩
theorem Sf.cons {vm : Vm} {P : List Addr} {a : Addr} (F : Sf Z EL vm h P) (h1 : a < h.size) (h2 : Safe Z EL vm h a) : Sf Z EL vm h (a :: P) := fun x q => by
  rcases List.mem_cons.mp q with rfl | q
  · exact ⟨h1, h2⟩
  · exact F x q
theorem Sf.app {vm : Vm} {P P' : List Addr} (F : Sf Z EL vm h P) (F' : Sf Z EL vm h P') : Sf Z EL vm h (P ++ P') := fun x q => (List.mem_append.mp q).elim (F x) (F' x)
theorem Sf.sub {vm : Vm} {P P' : List Addr} (F : Sf Z EL vm h P) (q : ∀ x ∈ P', x ∈ P) : Sf Z EL vm h P' := fun x z => F x (q x z)
theorem Gl.st {T' : State} {g g' : JFrame} (kk : Gl p e below s Z EL R n0 Q T' g') (hs : ∀ t, Steps p.tables e below (T'.setTop g') t → Steps p.tables e below (T.setTop g) t) : Gl p e below s Z EL R n0 Q T g := by
  obtain ⟨s2, o, h1, q⟩ := kk; exact ⟨s2, o, hs _ h1, q⟩
theorem since_refl (s : State) : s.Since s.vm s.heap.size := (State.WarmedH.refl s).since _
theorem Con.of {y : MethodName} {rm : Room} {as : Array Value} {P0 : List Addr} (hpl : plainFor y = true) (hEL : EW Z a0 EL ∧ ∀ a ∈ Bundle.stringAtoms, a.before a0 Z = true) {L0 : Array Slot} (hef : ∀ m, entryFrame m as maxL = mkF m 0 L0 [])
    (body : ∀ (p : Program) (e : Env) (s : State) (m : MethodId) (below : List Frame) (meth : Method) (c : Code) (T : State), Cx p m meth c Z EL a0 y.cls y.name cod maxL ret → On p l e rm s m as below meth c Z EL y.cls n0 T h0 P0 0 0 → Gl p e below s Z EL rm n0 Q T (mkF m 0 L0 [])) :
    Con l Z EL P0 y cod maxL ret rm as h0 n0 Q := by
  intro ws
  refine MetFree.of_bodySF hpl hisR ?_
  intro p e s m args below meth c s₁ Bd hml0 hP hK
  obtain ⟨rfl, hZ, hh, hC, hF⟩ := hP
  have e0 : s₁.heap = h0 := by rw [← hh, Bd.state]; rfl
  have q := body p e s m below meth c s₁ ⟨Bd.exec, hEL, Bd.bytes, hml0, trivial, (name_of_methodNamed Bd.named Bd.method).1, Bd.returns, Bd.notSynchronized⟩ ⟨[], s.vm, s.heap.size, Stand.of_body Bd, Fr.nil n0, e0, since_refl s, Nat.le_of_eq (by rw [hh]), hZ, findClass_of_methodNamed Bd.named, by rw [hh]; exact CHr.refl hC, hF⟩
  rw [← hef m] at q
  exact q
theorem Con.imp {y : MethodName} {rm : Room} {as : Array Value} {P0 : List Addr} {Q' : Option Value → Heap → List Addr → Prop} (K : Con l Z EL P0 y cod maxL ret rm as h0 n0 Q) (hq : ∀ v h P, Q v h P → Q' v h P) : Con l Z EL P0 y cod maxL ret rm as h0 n0 Q' := by
  intro ws p e ha hc hk s m args below hf happ hP hK
  obtain ⟨n, o, h1, h2, h3, v, L, h4, ⟨PS, h5, h6⟩, h7⟩ := K ws p e ha hc hk s m args below hf happ hP hK
  exact ⟨n, o, h1, h2, h3, v, L, h4, ⟨PS, hq _ _ _ h5, h6⟩, h7⟩
theorem backW {vm0 : Vm} {y : MethodName} {bytes : ByteArray} {rm : Room} {len W : Nat} {as' : Array Value} {P0 : List Addr} {s : State} {args : Array Value}
    (hM : MetFree l y (head1 [Jvm.Cond.code y bytes maxL ret] rm) (fun a U => a = as' ∧ Z.Warmed39 U.vm ∧ U.heap = h ∧ CHv Z EL U.vm h ∧ Sf Z EL U.vm h P0) (fun _ _ _ _ _ => True) (fun _ U o U' => ∃ v L, o = .returned v ∧ (∃ PS, Q v U'.heap PS ∧ Fr n0 L ∧ Sf Z EL U'.vm U'.heap PS) ∧ CHr Z EL U.vm U.heap U'.vm U'.heap ∧ ReturnedEndW U o U' L rm.cells rm.slots))
    (hZ : Z.Warmed39 vm0) (wc : (Jvm.Cond.code y bytes maxL ret).before a0 Z = true) (wz : (Jvm.Cond.initialized y.cls).before a0 Z = true) (hf : rm.frames + 1 ≤ R.frames) (hl : W + (maxL + 11) + rm.locals ≤ R.locals) (hEL : EW Z a0 EL) (H : CHv Z EL vm0 h) (F : Sf Z EL vm0 h P0) :
    BackS l R p e below (s.setVm vm0) args y len W (fun A a => a = as' ∧ A.U.heap = h ∧ A.cells + rm.cells ≤ R.cells ∧ A.slots + rm.slots ≤ R.slots)
      (fun A _ v B => ∃ L, (∃ PS, Q v B.U.heap PS ∧ Fr n0 L ∧ Sf Z EL B.U.vm B.U.heap PS) ∧ B.locs = A.locs ++ L ∧ B.cells = A.cells + rm.cells ∧ B.slots = A.slots + rm.slots ∧ CHr Z EL vm0 h B.U.vm B.U.heap) :=
  BackS.of_freeW (bytes := bytes) (maxL := maxL) (ret := ret) (E := fun _ first o t L k n => k = rm.cells ∧ n = rm.slots ∧ (∃ v, o = .returned v ∧ (∃ PS, Q v t.heap PS ∧ Fr n0 L ∧ Sf Z EL t.vm t.heap PS)) ∧ CHr Z EL first.vm first.heap t.vm t.heap) hM hf hl
    (fun m meth c A a Y hp => have hU : Z.Warmed39 A.U.vm := wtrans (s := s.setVm vm0) hZ Y.warmed
      ⟨by show (Jvm.Cond.and _ .tt).before a A.U = true; rw [Jvm.Cond.before_and, mv hU wc]; rfl, mv hU wc, mv hU wz, hp.2.2.1, hp.2.2.2⟩)
    (fun m meth c A a g mk Y hp => ⟨hp.1, wtrans (s := s.setVm vm0) hZ Y.warmed, hp.2.1, (CHv.at Y hZ hEL H).1, show Sf Z EL A.U.vm h P0 from F.chr (CHv.at (T := A.U) Y hZ hEL H)⟩) (fun _ _ _ _ _ _ _ _ _ => trivial)
    (fun _ _ _ _ ⟨v, L, h1, h2, h3, h4⟩ => ⟨L, _, _, h4, rfl, rfl, ⟨v, h1, h2⟩, h3⟩)
    (fun m meth c A a g mk v t L k n Y hp _ _ ⟨e1, e2, ⟨v', e3, e4⟩, e5⟩ => by
      cases e3; subst e1 e2
      refine ⟨L, e4, rfl, rfl, rfl, (CHv.at Y hZ hEL H).trans ?_⟩
      rw [← hp.2.1]; exact e5)
theorem g_iload (C : Cx p m meth c Z EL a0 own name cod maxL ret) (S : On p l e R s m args below meth c Z EL own n0 T h PS k n) {i : Nat} {v : Int32} (hd : decode cod pc = .ok (.iload i, 2)) (hp : pc + 2 = pc') (hl : L[i]? = some (.val (.int v))) (kk : Gl p e below s Z EL R n0 Q T (mkF m pc' L (.int v :: r))) : Gl p e below s Z EL R n0 Q T (mkF m pc L r) := by
  obtain ⟨locs, vm0, k1, X, -⟩ := S; subst hp
  exact kk.st fun _ q => XS.iload X.here C.1 rfl (hb C.2.2.1 hd) hl q
theorem g_iloadN (C : Cx p m meth c Z EL a0 own name cod maxL ret) (S : On p l e R s m args below meth c Z EL own n0 T h PS k n) {i : Fin 4} {v : Int32} (hd : decode cod pc = .ok (.iload_n i, 1)) (hp : pc + 1 = pc') (hl : L[i.val]? = some (.val (.int v))) (kk : Gl p e below s Z EL R n0 Q T (mkF m pc' L (.int v :: r))) : Gl p e below s Z EL R n0 Q T (mkF m pc L r) := by
  obtain ⟨locs, vm0, k1, X, -⟩ := S; subst hp
  exact kk.st fun _ q => XS.iloadN X.here C.1 rfl (hb C.2.2.1 hd) hl q
theorem g_istore (C : Cx p m meth c Z EL a0 own name cod maxL ret) (S : On p l e R s m args below meth c Z EL own n0 T h PS k n) {i : Nat} {v : Int32} (hd : decode cod pc = .ok (.istore i, 2)) (hp : pc + 2 = pc') (hl : storeLocals L i (.int v) = some L') (kk : Gl p e below s Z EL R n0 Q T (mkF m pc' L' r)) : Gl p e below s Z EL R n0 Q T (mkF m pc L (.int v :: r)) := by
  obtain ⟨locs, vm0, k1, X, -⟩ := S; subst hp
  exact kk.st fun _ q => XS.istore X.here C.1 rfl (hb C.2.2.1 hd) rfl hl q
theorem g_istoreN (C : Cx p m meth c Z EL a0 own name cod maxL ret) (S : On p l e R s m args below meth c Z EL own n0 T h PS k n) {i : Fin 4} {v : Int32} (hd : decode cod pc = .ok (.istore_n i, 1)) (hp : pc + 1 = pc') (hl : storeLocals L i.val (.int v) = some L') (kk : Gl p e below s Z EL R n0 Q T (mkF m pc' L' r)) : Gl p e below s Z EL R n0 Q T (mkF m pc L (.int v :: r)) := by
  obtain ⟨locs, vm0, k1, X, -⟩ := S; subst hp
  exact kk.st fun _ q => XS.istoreN X.here C.1 rfl (hb C.2.2.1 hd) rfl hl q
theorem g_lload (C : Cx p m meth c Z EL a0 own name cod maxL ret) (S : On p l e R s m args below meth c Z EL own n0 T h PS k n) {i : Nat} {v : Int64} (hd : decode cod pc = .ok (.lload i, 2)) (hp : pc + 2 = pc') (hl : L[i]? = some (.val (.long v))) (kk : Gl p e below s Z EL R n0 Q T (mkF m pc' L (.long v :: r))) : Gl p e below s Z EL R n0 Q T (mkF m pc L r) := by
  obtain ⟨locs, vm0, k1, X, -⟩ := S; subst hp
  exact kk.st fun _ q => XS.lload X.here C.1 rfl (hb C.2.2.1 hd) hl q
theorem g_lloadN (C : Cx p m meth c Z EL a0 own name cod maxL ret) (S : On p l e R s m args below meth c Z EL own n0 T h PS k n) {i : Fin 4} {v : Int64} (hd : decode cod pc = .ok (.lload_n i, 1)) (hp : pc + 1 = pc') (hl : L[i.val]? = some (.val (.long v))) (kk : Gl p e below s Z EL R n0 Q T (mkF m pc' L (.long v :: r))) : Gl p e below s Z EL R n0 Q T (mkF m pc L r) := by
  obtain ⟨locs, vm0, k1, X, -⟩ := S; subst hp
  exact kk.st fun _ q => XS.lloadN X.here C.1 rfl (hb C.2.2.1 hd) hl q
theorem g_lstore (C : Cx p m meth c Z EL a0 own name cod maxL ret) (S : On p l e R s m args below meth c Z EL own n0 T h PS k n) {i : Nat} {v : Int64} (hd : decode cod pc = .ok (.lstore i, 2)) (hp : pc + 2 = pc') (hl : storeLocals L i (.long v) = some L') (kk : Gl p e below s Z EL R n0 Q T (mkF m pc' L' r)) : Gl p e below s Z EL R n0 Q T (mkF m pc L (.long v :: r)) := by
  obtain ⟨locs, vm0, k1, X, -⟩ := S; subst hp
  exact kk.st fun _ q => XS.lstore X.here C.1 rfl (hb C.2.2.1 hd) rfl hl q
theorem g_lstoreN (C : Cx p m meth c Z EL a0 own name cod maxL ret) (S : On p l e R s m args below meth c Z EL own n0 T h PS k n) {i : Fin 4} {v : Int64} (hd : decode cod pc = .ok (.lstore_n i, 1)) (hp : pc + 1 = pc') (hl : storeLocals L i.val (.long v) = some L') (kk : Gl p e below s Z EL R n0 Q T (mkF m pc' L' r)) : Gl p e below s Z EL R n0 Q T (mkF m pc L (.long v :: r)) := by
  obtain ⟨locs, vm0, k1, X, -⟩ := S; subst hp
  exact kk.st fun _ q => XS.lstoreN X.here C.1 rfl (hb C.2.2.1 hd) rfl hl q
theorem g_aload (C : Cx p m meth c Z EL a0 own name cod maxL ret) (S : On p l e R s m args below meth c Z EL own n0 T h PS k n) {i : Nat} {v : Value} (hd : decode cod pc = .ok (.aload i, 2)) (hp : pc + 2 = pc') (hl : L[i]? = some (.val v)) (hv : v.isRef = true) (kk : Gl p e below s Z EL R n0 Q T (mkF m pc' L (v :: r))) : Gl p e below s Z EL R n0 Q T (mkF m pc L r) := by
  obtain ⟨locs, vm0, k1, X, -⟩ := S; subst hp
  exact kk.st fun _ q => XS.aload X.here C.1 rfl (hb C.2.2.1 hd) hl hv q
theorem g_aloadN (C : Cx p m meth c Z EL a0 own name cod maxL ret) (S : On p l e R s m args below meth c Z EL own n0 T h PS k n) {i : Fin 4} {v : Value} (hd : decode cod pc = .ok (.aload_n i, 1)) (hp : pc + 1 = pc') (hl : L[i.val]? = some (.val v)) (hv : v.isRef = true) (kk : Gl p e below s Z EL R n0 Q T (mkF m pc' L (v :: r))) : Gl p e below s Z EL R n0 Q T (mkF m pc L r) := by
  obtain ⟨locs, vm0, k1, X, -⟩ := S; subst hp
  exact kk.st fun _ q => XS.aloadN X.here C.1 rfl (hb C.2.2.1 hd) hl hv q
theorem g_astore (C : Cx p m meth c Z EL a0 own name cod maxL ret) (S : On p l e R s m args below meth c Z EL own n0 T h PS k n) {i : Nat} {v : Value} (hd : decode cod pc = .ok (.astore i, 2)) (hp : pc + 2 = pc') (hv : v.isRef = true) (hl : storeLocals L i v = some L') (kk : Gl p e below s Z EL R n0 Q T (mkF m pc' L' r)) : Gl p e below s Z EL R n0 Q T (mkF m pc L (v :: r)) := by
  obtain ⟨locs, vm0, k1, X, -⟩ := S; subst hp
  exact kk.st fun _ q => XS.astore X.here C.1 rfl (hb C.2.2.1 hd) rfl hv hl q
theorem g_astoreN (C : Cx p m meth c Z EL a0 own name cod maxL ret) (S : On p l e R s m args below meth c Z EL own n0 T h PS k n) {i : Fin 4} {v : Value} (hd : decode cod pc = .ok (.astore_n i, 1)) (hp : pc + 1 = pc') (hv : v.isRef = true) (hl : storeLocals L i.val v = some L') (kk : Gl p e below s Z EL R n0 Q T (mkF m pc' L' r)) : Gl p e below s Z EL R n0 Q T (mkF m pc L (v :: r)) := by
  obtain ⟨locs, vm0, k1, X, -⟩ := S; subst hp
  exact kk.st fun _ q => XS.astoreN X.here C.1 rfl (hb C.2.2.1 hd) rfl hv hl q
theorem g_iconst (C : Cx p m meth c Z EL a0 own name cod maxL ret) (S : On p l e R s m args below meth c Z EL own n0 T h PS k n) {i : Int} (v : Int32) (hd : decode cod pc = .ok (.iconst i, 1)) (hp : pc + 1 = pc') (hv : Int32.ofInt i = v) (kk : Gl p e below s Z EL R n0 Q T (mkF m pc' L (.int v :: r))) : Gl p e below s Z EL R n0 Q T (mkF m pc L r) := by
  obtain ⟨locs, vm0, k1, X, -⟩ := S; subst hp hv
  exact kk.st fun _ q => XS.iconst X.here C.1 rfl (hb C.2.2.1 hd) q
theorem g_bipush (C : Cx p m meth c Z EL a0 own name cod maxL ret) (S : On p l e R s m args below meth c Z EL own n0 T h PS k n) {i : Int} (v : Int32) (hd : decode cod pc = .ok (.bipush i, 2)) (hp : pc + 2 = pc') (hv : (Int8.ofInt i).toInt32 = v) (kk : Gl p e below s Z EL R n0 Q T (mkF m pc' L (.int v :: r))) : Gl p e below s Z EL R n0 Q T (mkF m pc L r) := by
  obtain ⟨locs, vm0, k1, X, -⟩ := S; subst hp hv
  exact kk.st fun _ q => XS.bipush X.here C.1 rfl (hb C.2.2.1 hd) q
theorem g_sipush (C : Cx p m meth c Z EL a0 own name cod maxL ret) (S : On p l e R s m args below meth c Z EL own n0 T h PS k n) {i : Int} (v : Int32) (hd : decode cod pc = .ok (.sipush i, 3)) (hp : pc + 3 = pc') (hv : (Int16.ofInt i).toInt32 = v) (kk : Gl p e below s Z EL R n0 Q T (mkF m pc' L (.int v :: r))) : Gl p e below s Z EL R n0 Q T (mkF m pc L r) := by
  obtain ⟨locs, vm0, k1, X, -⟩ := S; subst hp hv
  exact kk.st fun _ q => XS.sipush X.here C.1 rfl (hb C.2.2.1 hd) q
theorem g_lconst (C : Cx p m meth c Z EL a0 own name cod maxL ret) (S : On p l e R s m args below meth c Z EL own n0 T h PS k n) {i : Fin 2} (v : Int64) (hd : decode cod pc = .ok (.lconst i, 1)) (hp : pc + 1 = pc') (hv : Int64.ofNat i = v) (kk : Gl p e below s Z EL R n0 Q T (mkF m pc' L (.long v :: r))) : Gl p e below s Z EL R n0 Q T (mkF m pc L r) := by
  obtain ⟨locs, vm0, k1, X, -⟩ := S; subst hp hv
  exact kk.st fun _ q => XS.lconst X.here C.1 rfl (hb C.2.2.1 hd) q
theorem g_aconst_null (C : Cx p m meth c Z EL a0 own name cod maxL ret) (S : On p l e R s m args below meth c Z EL own n0 T h PS k n) (hd : decode cod pc = .ok (.aconst_null, 1)) (hp : pc + 1 = pc') (kk : Gl p e below s Z EL R n0 Q T (mkF m pc' L (.null :: r))) : Gl p e below s Z EL R n0 Q T (mkF m pc L r) := by
  obtain ⟨locs, vm0, k1, X, -⟩ := S; subst hp
  exact kk.st fun _ q => XS.aconstNull X.here C.1 rfl (hb C.2.2.1 hd) q
theorem g_iadd (C : Cx p m meth c Z EL a0 own name cod maxL ret) (S : On p l e R s m args below meth c Z EL own n0 T h PS k n) {x y : Int32} (hd : decode cod pc = .ok (.iadd, 1)) (hp : pc + 1 = pc') (kk : Gl p e below s Z EL R n0 Q T (mkF m pc' L (.int (x + y) :: r))) : Gl p e below s Z EL R n0 Q T (mkF m pc L (.int y :: .int x :: r)) := by
  obtain ⟨locs, vm0, k1, X, -⟩ := S; subst hp
  exact kk.st fun _ q => XS.iadd X.here C.1 rfl (hb C.2.2.1 hd) rfl q
theorem g_isub (C : Cx p m meth c Z EL a0 own name cod maxL ret) (S : On p l e R s m args below meth c Z EL own n0 T h PS k n) {x y : Int32} (hd : decode cod pc = .ok (.isub, 1)) (hp : pc + 1 = pc') (kk : Gl p e below s Z EL R n0 Q T (mkF m pc' L (.int (x - y) :: r))) : Gl p e below s Z EL R n0 Q T (mkF m pc L (.int y :: .int x :: r)) := by
  obtain ⟨locs, vm0, k1, X, -⟩ := S; subst hp
  exact kk.st fun _ q => XS.isub X.here C.1 rfl (hb C.2.2.1 hd) rfl q
theorem g_imul (C : Cx p m meth c Z EL a0 own name cod maxL ret) (S : On p l e R s m args below meth c Z EL own n0 T h PS k n) {x y : Int32} (hd : decode cod pc = .ok (.imul, 1)) (hp : pc + 1 = pc') (kk : Gl p e below s Z EL R n0 Q T (mkF m pc' L (.int (x * y) :: r))) : Gl p e below s Z EL R n0 Q T (mkF m pc L (.int y :: .int x :: r)) := by
  obtain ⟨locs, vm0, k1, X, -⟩ := S; subst hp
  exact kk.st fun _ q => XS.imul X.here C.1 rfl (hb C.2.2.1 hd) rfl q
theorem g_iand (C : Cx p m meth c Z EL a0 own name cod maxL ret) (S : On p l e R s m args below meth c Z EL own n0 T h PS k n) {x y : Int32} (hd : decode cod pc = .ok (.iand, 1)) (hp : pc + 1 = pc') (kk : Gl p e below s Z EL R n0 Q T (mkF m pc' L (.int (x &&& y) :: r))) : Gl p e below s Z EL R n0 Q T (mkF m pc L (.int y :: .int x :: r)) := by
  obtain ⟨locs, vm0, k1, X, -⟩ := S; subst hp
  exact kk.st fun _ q => XS.iand X.here C.1 rfl (hb C.2.2.1 hd) rfl q
theorem g_ior (C : Cx p m meth c Z EL a0 own name cod maxL ret) (S : On p l e R s m args below meth c Z EL own n0 T h PS k n) {x y : Int32} (hd : decode cod pc = .ok (.ior, 1)) (hp : pc + 1 = pc') (kk : Gl p e below s Z EL R n0 Q T (mkF m pc' L (.int (x ||| y) :: r))) : Gl p e below s Z EL R n0 Q T (mkF m pc L (.int y :: .int x :: r)) := by
  obtain ⟨locs, vm0, k1, X, -⟩ := S; subst hp
  exact kk.st fun _ q => XS.ior X.here C.1 rfl (hb C.2.2.1 hd) rfl q
theorem g_ixor (C : Cx p m meth c Z EL a0 own name cod maxL ret) (S : On p l e R s m args below meth c Z EL own n0 T h PS k n) {x y : Int32} (hd : decode cod pc = .ok (.ixor, 1)) (hp : pc + 1 = pc') (kk : Gl p e below s Z EL R n0 Q T (mkF m pc' L (.int (x ^^^ y) :: r))) : Gl p e below s Z EL R n0 Q T (mkF m pc L (.int y :: .int x :: r)) := by
  obtain ⟨locs, vm0, k1, X, -⟩ := S; subst hp
  exact kk.st fun _ q => XS.ixor X.here C.1 rfl (hb C.2.2.1 hd) rfl q
theorem g_ladd (C : Cx p m meth c Z EL a0 own name cod maxL ret) (S : On p l e R s m args below meth c Z EL own n0 T h PS k n) {x y : Int64} (hd : decode cod pc = .ok (.ladd, 1)) (hp : pc + 1 = pc') (kk : Gl p e below s Z EL R n0 Q T (mkF m pc' L (.long (x + y) :: r))) : Gl p e below s Z EL R n0 Q T (mkF m pc L (.long y :: .long x :: r)) := by
  obtain ⟨locs, vm0, k1, X, -⟩ := S; subst hp
  exact kk.st fun _ q => XS.ladd X.here C.1 rfl (hb C.2.2.1 hd) rfl q
theorem g_lsub (C : Cx p m meth c Z EL a0 own name cod maxL ret) (S : On p l e R s m args below meth c Z EL own n0 T h PS k n) {x y : Int64} (hd : decode cod pc = .ok (.lsub, 1)) (hp : pc + 1 = pc') (kk : Gl p e below s Z EL R n0 Q T (mkF m pc' L (.long (x - y) :: r))) : Gl p e below s Z EL R n0 Q T (mkF m pc L (.long y :: .long x :: r)) := by
  obtain ⟨locs, vm0, k1, X, -⟩ := S; subst hp
  exact kk.st fun _ q => XS.lsub X.here C.1 rfl (hb C.2.2.1 hd) rfl q
theorem g_lmul (C : Cx p m meth c Z EL a0 own name cod maxL ret) (S : On p l e R s m args below meth c Z EL own n0 T h PS k n) {x y : Int64} (hd : decode cod pc = .ok (.lmul, 1)) (hp : pc + 1 = pc') (kk : Gl p e below s Z EL R n0 Q T (mkF m pc' L (.long (x * y) :: r))) : Gl p e below s Z EL R n0 Q T (mkF m pc L (.long y :: .long x :: r)) := by
  obtain ⟨locs, vm0, k1, X, -⟩ := S; subst hp
  exact kk.st fun _ q => XS.lmul X.here C.1 rfl (hb C.2.2.1 hd) rfl q
theorem g_land (C : Cx p m meth c Z EL a0 own name cod maxL ret) (S : On p l e R s m args below meth c Z EL own n0 T h PS k n) {x y : Int64} (hd : decode cod pc = .ok (.land, 1)) (hp : pc + 1 = pc') (kk : Gl p e below s Z EL R n0 Q T (mkF m pc' L (.long (x &&& y) :: r))) : Gl p e below s Z EL R n0 Q T (mkF m pc L (.long y :: .long x :: r)) := by
  obtain ⟨locs, vm0, k1, X, -⟩ := S; subst hp
  exact kk.st fun _ q => XS.land X.here C.1 rfl (hb C.2.2.1 hd) rfl q
theorem g_lor (C : Cx p m meth c Z EL a0 own name cod maxL ret) (S : On p l e R s m args below meth c Z EL own n0 T h PS k n) {x y : Int64} (hd : decode cod pc = .ok (.lor, 1)) (hp : pc + 1 = pc') (kk : Gl p e below s Z EL R n0 Q T (mkF m pc' L (.long (x ||| y) :: r))) : Gl p e below s Z EL R n0 Q T (mkF m pc L (.long y :: .long x :: r)) := by
  obtain ⟨locs, vm0, k1, X, -⟩ := S; subst hp
  exact kk.st fun _ q => XS.lor X.here C.1 rfl (hb C.2.2.1 hd) rfl q
theorem g_lxor (C : Cx p m meth c Z EL a0 own name cod maxL ret) (S : On p l e R s m args below meth c Z EL own n0 T h PS k n) {x y : Int64} (hd : decode cod pc = .ok (.lxor, 1)) (hp : pc + 1 = pc') (kk : Gl p e below s Z EL R n0 Q T (mkF m pc' L (.long (x ^^^ y) :: r))) : Gl p e below s Z EL R n0 Q T (mkF m pc L (.long y :: .long x :: r)) := by
  obtain ⟨locs, vm0, k1, X, -⟩ := S; subst hp
  exact kk.st fun _ q => XS.lxor X.here C.1 rfl (hb C.2.2.1 hd) rfl q
theorem g_ishl (C : Cx p m meth c Z EL a0 own name cod maxL ret) (S : On p l e R s m args below meth c Z EL own n0 T h PS k n) {x y : Int32} (hd : decode cod pc = .ok (.ishl, 1)) (hp : pc + 1 = pc') (kk : Gl p e below s Z EL R n0 Q T (mkF m pc' L (.int (x <<< (y &&& 31)) :: r))) : Gl p e below s Z EL R n0 Q T (mkF m pc L (.int y :: .int x :: r)) := by
  obtain ⟨locs, vm0, k1, X, -⟩ := S; subst hp
  exact kk.st fun _ q => XS.ishl X.here C.1 rfl (hb C.2.2.1 hd) rfl q
theorem g_ishr (C : Cx p m meth c Z EL a0 own name cod maxL ret) (S : On p l e R s m args below meth c Z EL own n0 T h PS k n) {x y : Int32} (hd : decode cod pc = .ok (.ishr, 1)) (hp : pc + 1 = pc') (kk : Gl p e below s Z EL R n0 Q T (mkF m pc' L (.int (x >>> (y &&& 31)) :: r))) : Gl p e below s Z EL R n0 Q T (mkF m pc L (.int y :: .int x :: r)) := by
  obtain ⟨locs, vm0, k1, X, -⟩ := S; subst hp
  exact kk.st fun _ q => XS.ishr X.here C.1 rfl (hb C.2.2.1 hd) rfl q
theorem g_iushr (C : Cx p m meth c Z EL a0 own name cod maxL ret) (S : On p l e R s m args below meth c Z EL own n0 T h PS k n) {x y : Int32} (hd : decode cod pc = .ok (.iushr, 1)) (hp : pc + 1 = pc') (kk : Gl p e below s Z EL R n0 Q T (mkF m pc' L (.int ((x.toUInt32 >>> (y &&& 31).toUInt32).toInt32) :: r))) : Gl p e below s Z EL R n0 Q T (mkF m pc L (.int y :: .int x :: r)) := by
  obtain ⟨locs, vm0, k1, X, -⟩ := S; subst hp
  exact kk.st fun _ q => XS.iushr X.here C.1 rfl (hb C.2.2.1 hd) rfl q
theorem g_lshl (C : Cx p m meth c Z EL a0 own name cod maxL ret) (S : On p l e R s m args below meth c Z EL own n0 T h PS k n) {x : Int64} {y : Int32} (hd : decode cod pc = .ok (.lshl, 1)) (hp : pc + 1 = pc') (kk : Gl p e below s Z EL R n0 Q T (mkF m pc' L (.long (x <<< (y &&& 0x3f).toInt64) :: r))) : Gl p e below s Z EL R n0 Q T (mkF m pc L (.int y :: .long x :: r)) := by
  obtain ⟨locs, vm0, k1, X, -⟩ := S; subst hp
  exact kk.st fun _ q => XS.lshl X.here C.1 rfl (hb C.2.2.1 hd) rfl q
theorem g_lshr (C : Cx p m meth c Z EL a0 own name cod maxL ret) (S : On p l e R s m args below meth c Z EL own n0 T h PS k n) {x : Int64} {y : Int32} (hd : decode cod pc = .ok (.lshr, 1)) (hp : pc + 1 = pc') (kk : Gl p e below s Z EL R n0 Q T (mkF m pc' L (.long (x >>> (y &&& 0x3f).toInt64) :: r))) : Gl p e below s Z EL R n0 Q T (mkF m pc L (.int y :: .long x :: r)) := by
  obtain ⟨locs, vm0, k1, X, -⟩ := S; subst hp
  exact kk.st fun _ q => XS.lshr X.here C.1 rfl (hb C.2.2.1 hd) rfl q
theorem g_lushr (C : Cx p m meth c Z EL a0 own name cod maxL ret) (S : On p l e R s m args below meth c Z EL own n0 T h PS k n) {x : Int64} {y : Int32} (hd : decode cod pc = .ok (.lushr, 1)) (hp : pc + 1 = pc') (kk : Gl p e below s Z EL R n0 Q T (mkF m pc' L (.long ((x.toUInt64 >>> (y &&& 0x3f).toInt64.toUInt64).toInt64) :: r))) : Gl p e below s Z EL R n0 Q T (mkF m pc L (.int y :: .long x :: r)) := by
  obtain ⟨locs, vm0, k1, X, -⟩ := S; subst hp
  exact kk.st fun _ q => XS.lushr X.here C.1 rfl (hb C.2.2.1 hd) rfl q
theorem g_i2l (C : Cx p m meth c Z EL a0 own name cod maxL ret) (S : On p l e R s m args below meth c Z EL own n0 T h PS k n) {x : Int32} (hd : decode cod pc = .ok (.i2l, 1)) (hp : pc + 1 = pc') (kk : Gl p e below s Z EL R n0 Q T (mkF m pc' L (.long (x.toInt64) :: r))) : Gl p e below s Z EL R n0 Q T (mkF m pc L (.int x :: r)) := by
  obtain ⟨locs, vm0, k1, X, -⟩ := S; subst hp
  exact kk.st fun _ q => XS.i2l X.here C.1 rfl (hb C.2.2.1 hd) rfl q
theorem g_l2i (C : Cx p m meth c Z EL a0 own name cod maxL ret) (S : On p l e R s m args below meth c Z EL own n0 T h PS k n) {x : Int64} (hd : decode cod pc = .ok (.l2i, 1)) (hp : pc + 1 = pc') (kk : Gl p e below s Z EL R n0 Q T (mkF m pc' L (.int (x.toInt32) :: r))) : Gl p e below s Z EL R n0 Q T (mkF m pc L (.long x :: r)) := by
  obtain ⟨locs, vm0, k1, X, -⟩ := S; subst hp
  exact kk.st fun _ q => XS.l2i X.here C.1 rfl (hb C.2.2.1 hd) rfl q
theorem g_i2b (C : Cx p m meth c Z EL a0 own name cod maxL ret) (S : On p l e R s m args below meth c Z EL own n0 T h PS k n) {x : Int32} (hd : decode cod pc = .ok (.i2b, 1)) (hp : pc + 1 = pc') (kk : Gl p e below s Z EL R n0 Q T (mkF m pc' L (.int (x.toInt8.toInt32) :: r))) : Gl p e below s Z EL R n0 Q T (mkF m pc L (.int x :: r)) := by
  obtain ⟨locs, vm0, k1, X, -⟩ := S; subst hp
  exact kk.st fun _ q => XS.i2b X.here C.1 rfl (hb C.2.2.1 hd) rfl q
theorem g_i2c (C : Cx p m meth c Z EL a0 own name cod maxL ret) (S : On p l e R s m args below meth c Z EL own n0 T h PS k n) {x : Int32} (hd : decode cod pc = .ok (.i2c, 1)) (hp : pc + 1 = pc') (kk : Gl p e below s Z EL R n0 Q T (mkF m pc' L (.int (x.toUInt32.toUInt16.toUInt32.toInt32) :: r))) : Gl p e below s Z EL R n0 Q T (mkF m pc L (.int x :: r)) := by
  obtain ⟨locs, vm0, k1, X, -⟩ := S; subst hp
  exact kk.st fun _ q => XS.i2c X.here C.1 rfl (hb C.2.2.1 hd) rfl q
theorem g_i2s (C : Cx p m meth c Z EL a0 own name cod maxL ret) (S : On p l e R s m args below meth c Z EL own n0 T h PS k n) {x : Int32} (hd : decode cod pc = .ok (.i2s, 1)) (hp : pc + 1 = pc') (kk : Gl p e below s Z EL R n0 Q T (mkF m pc' L (.int (x.toInt16.toInt32) :: r))) : Gl p e below s Z EL R n0 Q T (mkF m pc L (.int x :: r)) := by
  obtain ⟨locs, vm0, k1, X, -⟩ := S; subst hp
  exact kk.st fun _ q => XS.i2s X.here C.1 rfl (hb C.2.2.1 hd) rfl q
theorem g_lneg (C : Cx p m meth c Z EL a0 own name cod maxL ret) (S : On p l e R s m args below meth c Z EL own n0 T h PS k n) {x : Int64} (hd : decode cod pc = .ok (.lneg, 1)) (hp : pc + 1 = pc') (kk : Gl p e below s Z EL R n0 Q T (mkF m pc' L (.long (-x) :: r))) : Gl p e below s Z EL R n0 Q T (mkF m pc L (.long x :: r)) := by
  obtain ⟨locs, vm0, k1, X, -⟩ := S; subst hp
  exact kk.st fun _ q => XS.lneg X.here C.1 rfl (hb C.2.2.1 hd) rfl q
theorem g_ineg (C : Cx p m meth c Z EL a0 own name cod maxL ret) (S : On p l e R s m args below meth c Z EL own n0 T h PS k n) {x : Int32} (hd : decode cod pc = .ok (.ineg, 1)) (hp : pc + 1 = pc') (kk : Gl p e below s Z EL R n0 Q T (mkF m pc' L (.int (-x) :: r))) : Gl p e below s Z EL R n0 Q T (mkF m pc L (.int x :: r)) := by
  obtain ⟨locs, vm0, k1, X, -⟩ := S; subst hp
  exact kk.st fun _ q => XS.ineg X.here C.1 rfl (hb C.2.2.1 hd) rfl q
theorem g_irem (C : Cx p m meth c Z EL a0 own name cod maxL ret) (S : On p l e R s m args below meth c Z EL own n0 T h PS k n) {x y : Int32} (hd : decode cod pc = .ok (.irem, 1)) (hp : pc + 1 = pc') (hy : y ≠ 0) (kk : Gl p e below s Z EL R n0 Q T (mkF m pc' L (.int (x % y) :: r))) : Gl p e below s Z EL R n0 Q T (mkF m pc L (.int y :: .int x :: r)) := by
  obtain ⟨locs, vm0, k1, X, -⟩ := S; subst hp
  exact kk.st fun _ q => iremM X C.1 rfl (hb C.2.2.1 hd) rfl hy q
theorem g_idiv (C : Cx p m meth c Z EL a0 own name cod maxL ret) (S : On p l e R s m args below meth c Z EL own n0 T h PS k n) {x y : Int32} (hd : decode cod pc = .ok (.idiv, 1)) (hp : pc + 1 = pc') (hy : y ≠ 0) (kk : Gl p e below s Z EL R n0 Q T (mkF m pc' L (.int (x / y) :: r))) : Gl p e below s Z EL R n0 Q T (mkF m pc L (.int y :: .int x :: r)) := by
  obtain ⟨locs, vm0, k1, X, -⟩ := S; subst hp
  exact kk.st fun _ q => XS.idiv X.here C.1 rfl (hb C.2.2.1 hd) rfl hy q
theorem g_lcmp (C : Cx p m meth c Z EL a0 own name cod maxL ret) (S : On p l e R s m args below meth c Z EL own n0 T h PS k n) {x y : Int64} (hd : decode cod pc = .ok (.lcmp, 1)) (hp : pc + 1 = pc') (kk : Gl p e below s Z EL R n0 Q T (mkF m pc' L (.int (lcmpW x y) :: r))) : Gl p e below s Z EL R n0 Q T (mkF m pc L (.long y :: .long x :: r)) := by
  obtain ⟨locs, vm0, k1, X, -⟩ := S; subst hp
  exact kk.st fun _ q => XS.lcmp X.here C.1 rfl (hb C.2.2.1 hd) rfl q
theorem g_dup (C : Cx p m meth c Z EL a0 own name cod maxL ret) (S : On p l e R s m args below meth c Z EL own n0 T h PS k n) {x : Value} (hd : decode cod pc = .ok (.dup, 1)) (hp : pc + 1 = pc') (hc : x.category = 1) (kk : Gl p e below s Z EL R n0 Q T (mkF m pc' L (x :: x :: r))) : Gl p e below s Z EL R n0 Q T (mkF m pc L (x :: r)) := by
  obtain ⟨locs, vm0, k1, X, -⟩ := S; subst hp
  exact kk.st fun _ q => XS.dup X.here C.1 rfl (hb C.2.2.1 hd) rfl hc q
theorem g_pop (C : Cx p m meth c Z EL a0 own name cod maxL ret) (S : On p l e R s m args below meth c Z EL own n0 T h PS k n) {x : Value} (hd : decode cod pc = .ok (.pop, 1)) (hp : pc + 1 = pc') (hc : x.category = 1) (kk : Gl p e below s Z EL R n0 Q T (mkF m pc' L r)) : Gl p e below s Z EL R n0 Q T (mkF m pc L (x :: r)) := by
  obtain ⟨locs, vm0, k1, X, -⟩ := S; subst hp
  exact kk.st fun _ q => XS.pop X.here C.1 rfl (hb C.2.2.1 hd) rfl hc q
theorem g_dup_x1 (C : Cx p m meth c Z EL a0 own name cod maxL ret) (S : On p l e R s m args below meth c Z EL own n0 T h PS k n) {x y : Value} (hd : decode cod pc = .ok (.dup_x1, 1)) (hp : pc + 1 = pc') (hc : x.category = 1) (hc2 : y.category = 1) (kk : Gl p e below s Z EL R n0 Q T (mkF m pc' L (x :: y :: x :: r))) : Gl p e below s Z EL R n0 Q T (mkF m pc L (x :: y :: r)) := by
  obtain ⟨locs, vm0, k1, X, -⟩ := S; subst hp
  exact kk.st fun _ q => XS.dupX1 X.here C.1 rfl (hb C.2.2.1 hd) rfl hc hc2 q
theorem g_dup2 (C : Cx p m meth c Z EL a0 own name cod maxL ret) (S : On p l e R s m args below meth c Z EL own n0 T h PS k n) {x y : Value} (hd : decode cod pc = .ok (.dup2, 1)) (hp : pc + 1 = pc') (hc : x.category = 1) (hc2 : y.category = 1) (kk : Gl p e below s Z EL R n0 Q T (mkF m pc' L (x :: y :: x :: y :: r))) : Gl p e below s Z EL R n0 Q T (mkF m pc L (x :: y :: r)) := by
  obtain ⟨locs, vm0, k1, X, -⟩ := S; subst hp
  exact kk.st fun _ q => XT.dup2 X.here C.1 rfl (hb C.2.2.1 hd) rfl hc hc2 q
theorem g_dup_x2 (C : Cx p m meth c Z EL a0 own name cod maxL ret) (S : On p l e R s m args below meth c Z EL own n0 T h PS k n) {x y z : Value} (hd : decode cod pc = .ok (.dup_x2, 1)) (hp : pc + 1 = pc') (hc : x.category = 1) (hc2 : y.category = 1) (hc3 : z.category = 1) (kk : Gl p e below s Z EL R n0 Q T (mkF m pc' L (x :: y :: z :: x :: r))) : Gl p e below s Z EL R n0 Q T (mkF m pc L (x :: y :: z :: r)) := by
  obtain ⟨locs, vm0, k1, X, -⟩ := S; subst hp
  refine kk.st fun _ q => ?_
  have hx := C.1; have hd' := hb C.2.2.1 hd
  jvm_step X.here [X.here.top, hx, hd', hc, hc2, hc3]
  exact q
theorem g_iinc (C : Cx p m meth c Z EL a0 own name cod maxL ret) (S : On p l e R s m args below meth c Z EL own n0 T h PS k n) {i : Nat} {cst : Int} {x : Int32} (v : Int32) (hd : decode cod pc = .ok (.iinc i cst, 3)) (hp : pc + 3 = pc') (hv : Int32.ofInt cst = v) (hl : L[i]? = some (.val (.int x))) (hl' : storeLocals L i (.int (x + v)) = some L') (kk : Gl p e below s Z EL R n0 Q T (mkF m pc' L' r)) : Gl p e below s Z EL R n0 Q T (mkF m pc L r) := by
  obtain ⟨locs, vm0, k1, X, -⟩ := S; subst hp hv
  exact kk.st fun _ q => XS.iinc X.here C.1 rfl (hb C.2.2.1 hd) hl hl' q
theorem g_goto (C : Cx p m meth c Z EL a0 own name cod maxL ret) (S : On p l e R s m args below meth c Z EL own n0 T h PS k n) {o : Int} (hd : decode cod pc = .ok (.goto o, 3)) (ho : 0 ≤ (pc : Int) + o) (hp : ((pc : Int) + o).toNat = pc') (kk : Gl p e below s Z EL R n0 Q T (mkF m pc' L r)) : Gl p e below s Z EL R n0 Q T (mkF m pc L r) := by
  obtain ⟨locs, vm0, k1, X, -⟩ := S
  exact kk.st fun _ q => XS.goto X.here C.1 rfl rfl (hb C.2.2.1 hd) ho hp q
theorem g_dload (C : Cx p m meth c Z EL a0 own name cod maxL ret) (S : On p l e R s m args below meth c Z EL own n0 T h PS k n) {i : Nat} {v : UInt64} (hd : decode cod pc = .ok (.dload i, 2)) (hp : pc + 2 = pc') (hl : L[i]? = some (.val (.double v))) (kk : Gl p e below s Z EL R n0 Q T (mkF m pc' L (.double v :: r))) : Gl p e below s Z EL R n0 Q T (mkF m pc L r) := by
  obtain ⟨locs, vm0, k1, X, -⟩ := S; subst hp
  exact kk.st fun _ q => XS.dload X.here C.1 rfl (hb C.2.2.1 hd) hl q
theorem g_dloadN (C : Cx p m meth c Z EL a0 own name cod maxL ret) (S : On p l e R s m args below meth c Z EL own n0 T h PS k n) {i : Fin 4} {v : UInt64} (hd : decode cod pc = .ok (.dload_n i, 1)) (hp : pc + 1 = pc') (hl : L[i.val]? = some (.val (.double v))) (kk : Gl p e below s Z EL R n0 Q T (mkF m pc' L (.double v :: r))) : Gl p e below s Z EL R n0 Q T (mkF m pc L r) := by
  obtain ⟨locs, vm0, k1, X, -⟩ := S; subst hp
  exact kk.st fun _ q => XS.dloadN X.here C.1 rfl (hb C.2.2.1 hd) hl q
theorem g_dstore (C : Cx p m meth c Z EL a0 own name cod maxL ret) (S : On p l e R s m args below meth c Z EL own n0 T h PS k n) {i : Nat} {v : UInt64} (hd : decode cod pc = .ok (.dstore i, 2)) (hp : pc + 2 = pc') (hl : storeLocals L i (.double v) = some L') (kk : Gl p e below s Z EL R n0 Q T (mkF m pc' L' r)) : Gl p e below s Z EL R n0 Q T (mkF m pc L (.double v :: r)) := by
  obtain ⟨locs, vm0, k1, X, -⟩ := S; subst hp
  exact kk.st fun _ q => XS.dstore X.here C.1 rfl (hb C.2.2.1 hd) rfl hl q
theorem g_dstoreN (C : Cx p m meth c Z EL a0 own name cod maxL ret) (S : On p l e R s m args below meth c Z EL own n0 T h PS k n) {i : Fin 4} {v : UInt64} (hd : decode cod pc = .ok (.dstore_n i, 1)) (hp : pc + 1 = pc') (hl : storeLocals L i.val (.double v) = some L') (kk : Gl p e below s Z EL R n0 Q T (mkF m pc' L' r)) : Gl p e below s Z EL R n0 Q T (mkF m pc L (.double v :: r)) := by
  obtain ⟨locs, vm0, k1, X, -⟩ := S; subst hp
  exact kk.st fun _ q => XS.dstoreN X.here C.1 rfl (hb C.2.2.1 hd) rfl hl q
theorem g_dconst0 (C : Cx p m meth c Z EL a0 own name cod maxL ret) (S : On p l e R s m args below meth c Z EL own n0 T h PS k n) (hd : decode cod pc = .ok (.dconst 0, 1)) (hp : pc + 1 = pc') (kk : Gl p e below s Z EL R n0 Q T (mkF m pc' L (.double FP.dconst0 :: r))) : Gl p e below s Z EL R n0 Q T (mkF m pc L r) := by
  obtain ⟨locs, vm0, k1, X, -⟩ := S; subst hp
  exact kk.st fun _ q => XS.dconst0 X.here C.1 rfl (hb C.2.2.1 hd) rfl q
theorem g_dconst1 (C : Cx p m meth c Z EL a0 own name cod maxL ret) (S : On p l e R s m args below meth c Z EL own n0 T h PS k n) (hd : decode cod pc = .ok (.dconst 1, 1)) (hp : pc + 1 = pc') (kk : Gl p e below s Z EL R n0 Q T (mkF m pc' L (.double FP.dconst1 :: r))) : Gl p e below s Z EL R n0 Q T (mkF m pc L r) := by
  obtain ⟨locs, vm0, k1, X, -⟩ := S; subst hp
  exact kk.st fun _ q => XS.dconst1 X.here C.1 rfl (hb C.2.2.1 hd) rfl q
theorem g_i2d (C : Cx p m meth c Z EL a0 own name cod maxL ret) (S : On p l e R s m args below meth c Z EL own n0 T h PS k n) {x : Int32} (hd : decode cod pc = .ok (.i2d, 1)) (hp : pc + 1 = pc') (kk : Gl p e below s Z EL R n0 Q T (mkF m pc' L (.double (FP.i2d x) :: r))) : Gl p e below s Z EL R n0 Q T (mkF m pc L (.int x :: r)) := by
  obtain ⟨locs, vm0, k1, X, -⟩ := S; subst hp
  exact kk.st fun _ q => XS.i2dS X.here C.1 rfl (hb C.2.2.1 hd) rfl rfl q
theorem g_l2d (C : Cx p m meth c Z EL a0 own name cod maxL ret) (S : On p l e R s m args below meth c Z EL own n0 T h PS k n) {x : Int64} (hd : decode cod pc = .ok (.l2d, 1)) (hp : pc + 1 = pc') (kk : Gl p e below s Z EL R n0 Q T (mkF m pc' L (.double (FP.l2d x) :: r))) : Gl p e below s Z EL R n0 Q T (mkF m pc L (.long x :: r)) := by
  obtain ⟨locs, vm0, k1, X, -⟩ := S; subst hp
  exact kk.st fun _ q => XS.l2dS X.here C.1 rfl (hb C.2.2.1 hd) rfl rfl q
theorem g_dadd (C : Cx p m meth c Z EL a0 own name cod maxL ret) (S : On p l e R s m args below meth c Z EL own n0 T h PS k n) {x y : UInt64} (hd : decode cod pc = .ok (.dadd, 1)) (hp : pc + 1 = pc') (hn : Jvm.Free.Fl.NoNaN64 (FP.dadd x y)) (kk : Gl p e below s Z EL R n0 Q T (mkF m pc' L (.double (FP.dadd x y) :: r))) : Gl p e below s Z EL R n0 Q T (mkF m pc L (.double y :: .double x :: r)) := by
  obtain ⟨locs, vm0, k1, X, -⟩ := S; subst hp
  exact kk.st fun _ q => XS.daddS X.here C.1 rfl (hb C.2.2.1 hd) rfl hn rfl q
theorem g_dmul (C : Cx p m meth c Z EL a0 own name cod maxL ret) (S : On p l e R s m args below meth c Z EL own n0 T h PS k n) {x y : UInt64} (hd : decode cod pc = .ok (.dmul, 1)) (hp : pc + 1 = pc') (hn : Jvm.Free.Fl.NoNaN64 (FP.dmul x y)) (kk : Gl p e below s Z EL R n0 Q T (mkF m pc' L (.double (FP.dmul x y) :: r))) : Gl p e below s Z EL R n0 Q T (mkF m pc L (.double y :: .double x :: r)) := by
  obtain ⟨locs, vm0, k1, X, -⟩ := S; subst hp
  exact kk.st fun _ q => XS.dmulS X.here C.1 rfl (hb C.2.2.1 hd) rfl hn rfl q
theorem g_ddiv (C : Cx p m meth c Z EL a0 own name cod maxL ret) (S : On p l e R s m args below meth c Z EL own n0 T h PS k n) {x y : UInt64} (hd : decode cod pc = .ok (.ddiv, 1)) (hp : pc + 1 = pc') (hn : Jvm.Free.Fl.NoNaN64 (FP.ddiv x y)) (kk : Gl p e below s Z EL R n0 Q T (mkF m pc' L (.double (FP.ddiv x y) :: r))) : Gl p e below s Z EL R n0 Q T (mkF m pc L (.double y :: .double x :: r)) := by
  obtain ⟨locs, vm0, k1, X, -⟩ := S; subst hp
  exact kk.st fun _ q => XS.ddivS X.here C.1 rfl (hb C.2.2.1 hd) rfl hn rfl q
theorem g_dsub (C : Cx p m meth c Z EL a0 own name cod maxL ret) (S : On p l e R s m args below meth c Z EL own n0 T h PS k n) {x y : UInt64} (hd : decode cod pc = .ok (.dsub, 1)) (hp : pc + 1 = pc') (hn : Jvm.Free.Fl.NoNaN64 (FP.dsub x y)) (kk : Gl p e below s Z EL R n0 Q T (mkF m pc' L (.double (FP.dsub x y) :: r))) : Gl p e below s Z EL R n0 Q T (mkF m pc L (.double y :: .double x :: r)) := by
  obtain ⟨locs, vm0, k1, X, -⟩ := S; subst hp
  exact kk.st fun _ q => XS.dsubS X.here C.1 rfl (hb C.2.2.1 hd) rfl hn rfl q
theorem g_dcmp (C : Cx p m meth c Z EL a0 own name cod maxL ret) (S : On p l e R s m args below meth c Z EL own n0 T h PS k n) {o : CmpOp} {x y : UInt64} {v : Int32} (hd : decode cod pc = .ok (.dcmp o, 1)) (hp : pc + 1 = pc') (hv : cmpValue (FP.dcmp x y) o = v) (kk : Gl p e below s Z EL R n0 Q T (mkF m pc' L (.int v :: r))) : Gl p e below s Z EL R n0 Q T (mkF m pc L (.double y :: .double x :: r)) := by
  obtain ⟨locs, vm0, k1, X, -⟩ := S; subst hp
  exact kk.st fun _ q => XS.dcmpS X.here C.1 rfl (hb C.2.2.1 hd) rfl hv q
theorem g_iincL (C : Cx p m meth c Z EL a0 own name cod maxL ret) (S : On p l e R s m args below meth c Z EL own n0 T h PS k n) {i : Nat} {cst : Int} {x : Int32} (v y : Int32) (hd : decode cod pc = .ok (.iinc i cst, 3)) (hp : pc + 3 = pc') (hv : Int32.ofInt cst = v) (hy : x + v = y) (hl : L[i]? = some (.val (.int x))) (hl' : storeLocals L i (.int y) = some L') (kk : Gl p e below s Z EL R n0 Q T (mkF m pc' L' r)) : Gl p e below s Z EL R n0 Q T (mkF m pc L r) := by subst hy; exact g_iinc C S v hd hp hv hl hl' kk
theorem g_icmp_lt (C : Cx p m meth c Z EL a0 own name cod maxL ret) (S : On p l e R s m args below meth c Z EL own n0 T h PS k n) {x y : Int32} {o : Int} (hd : decode cod pc = .ok (.if_icmp .lt o, 3)) (ho : 0 ≤ (pc : Int) + o) (hp : ((pc : Int) + o).toNat = pc') (hq : pc + 3 = pf) (ht : x < y → Gl p e below s Z EL R n0 Q T (mkF m pc' L r)) (hf : ¬ x < y → Gl p e below s Z EL R n0 Q T (mkF m pf L r)) : Gl p e below s Z EL R n0 Q T (mkF m pc L (.int y :: .int x :: r)) := by
  obtain ⟨locs, vm0, k1, X, -⟩ := S; subst hq
  by_cases q : x < y
  · exact (ht q).st fun _ z => XS.icmpYes X.here C.1 rfl rfl (hb C.2.2.1 hd) rfl ((tlt q).1) ho hp z
  · exact (hf q).st fun _ z => XS.icmpNo X.here C.1 rfl (hb C.2.2.1 hd) rfl ((flt q).1) z
theorem g_if_lt (C : Cx p m meth c Z EL a0 own name cod maxL ret) (S : On p l e R s m args below meth c Z EL own n0 T h PS k n) {x : Int32} {o : Int} (hd : decode cod pc = .ok (.ifCond .lt o, 3)) (ho : 0 ≤ (pc : Int) + o) (hp : ((pc : Int) + o).toNat = pc') (hq : pc + 3 = pf) (ht : x < (0 : Int32) → Gl p e below s Z EL R n0 Q T (mkF m pc' L r)) (hf : ¬ x < (0 : Int32) → Gl p e below s Z EL R n0 Q T (mkF m pf L r)) : Gl p e below s Z EL R n0 Q T (mkF m pc L (.int x :: r)) := by
  obtain ⟨locs, vm0, k1, X, -⟩ := S; subst hq
  by_cases q : x < (0 : Int32)
  · exact (ht q).st fun _ z => XS.ifYes X.here C.1 rfl rfl (hb C.2.2.1 hd) rfl ((if0 _ _).trans (tlt q).1) ho hp z
  · exact (hf q).st fun _ z => XS.ifNo X.here C.1 rfl (hb C.2.2.1 hd) rfl ((if0 _ _).trans (flt q).1) z
theorem g_lif_lt (C : Cx p m meth c Z EL a0 own name cod maxL ret) (S : On p l e R s m args below meth c Z EL own n0 T h PS k n) {x y : Int64} {o : Int} (hd : decode cod pc = .ok (.ifCond .lt o, 3)) (ho : 0 ≤ (pc : Int) + o) (hp : ((pc : Int) + o).toNat = pc') (hq : pc + 3 = pf) (ht : x < y → Gl p e below s Z EL R n0 Q T (mkF m pc' L r)) (hf : ¬ x < y → Gl p e below s Z EL R n0 Q T (mkF m pf L r)) : Gl p e below s Z EL R n0 Q T (mkF m pc L (.int (lcmpW x y) :: r)) := by
  obtain ⟨locs, vm0, k1, X, -⟩ := S; subst hq
  by_cases q : x < y
  · exact (ht q).st fun _ z => XS.ifYes X.here C.1 rfl rfl (hb C.2.2.1 hd) rfl ((if0 _ _).trans (tlt ((lw_lt x y).mpr q)).1) ho hp z
  · exact (hf q).st fun _ z => XS.ifNo X.here C.1 rfl (hb C.2.2.1 hd) rfl ((if0 _ _).trans (flt (fun z => q ((lw_lt x y).mp z))).1) z
theorem g_icmp_ge (C : Cx p m meth c Z EL a0 own name cod maxL ret) (S : On p l e R s m args below meth c Z EL own n0 T h PS k n) {x y : Int32} {o : Int} (hd : decode cod pc = .ok (.if_icmp .ge o, 3)) (ho : 0 ≤ (pc : Int) + o) (hp : ((pc : Int) + o).toNat = pc') (hq : pc + 3 = pf) (ht : ¬ x < y → Gl p e below s Z EL R n0 Q T (mkF m pc' L r)) (hf : x < y → Gl p e below s Z EL R n0 Q T (mkF m pf L r)) : Gl p e below s Z EL R n0 Q T (mkF m pc L (.int y :: .int x :: r)) := by
  obtain ⟨locs, vm0, k1, X, -⟩ := S; subst hq
  by_cases q : x < y
  · exact (hf q).st fun _ z => XS.icmpNo X.here C.1 rfl (hb C.2.2.1 hd) rfl ((tlt q).2.1) z
  · exact (ht q).st fun _ z => XS.icmpYes X.here C.1 rfl rfl (hb C.2.2.1 hd) rfl ((flt q).2.1) ho hp z
theorem g_if_ge (C : Cx p m meth c Z EL a0 own name cod maxL ret) (S : On p l e R s m args below meth c Z EL own n0 T h PS k n) {x : Int32} {o : Int} (hd : decode cod pc = .ok (.ifCond .ge o, 3)) (ho : 0 ≤ (pc : Int) + o) (hp : ((pc : Int) + o).toNat = pc') (hq : pc + 3 = pf) (ht : ¬ x < (0 : Int32) → Gl p e below s Z EL R n0 Q T (mkF m pc' L r)) (hf : x < (0 : Int32) → Gl p e below s Z EL R n0 Q T (mkF m pf L r)) : Gl p e below s Z EL R n0 Q T (mkF m pc L (.int x :: r)) := by
  obtain ⟨locs, vm0, k1, X, -⟩ := S; subst hq
  by_cases q : x < (0 : Int32)
  · exact (hf q).st fun _ z => XS.ifNo X.here C.1 rfl (hb C.2.2.1 hd) rfl ((if0 _ _).trans (tlt q).2.1) z
  · exact (ht q).st fun _ z => XS.ifYes X.here C.1 rfl rfl (hb C.2.2.1 hd) rfl ((if0 _ _).trans (flt q).2.1) ho hp z
theorem g_lif_ge (C : Cx p m meth c Z EL a0 own name cod maxL ret) (S : On p l e R s m args below meth c Z EL own n0 T h PS k n) {x y : Int64} {o : Int} (hd : decode cod pc = .ok (.ifCond .ge o, 3)) (ho : 0 ≤ (pc : Int) + o) (hp : ((pc : Int) + o).toNat = pc') (hq : pc + 3 = pf) (ht : ¬ x < y → Gl p e below s Z EL R n0 Q T (mkF m pc' L r)) (hf : x < y → Gl p e below s Z EL R n0 Q T (mkF m pf L r)) : Gl p e below s Z EL R n0 Q T (mkF m pc L (.int (lcmpW x y) :: r)) := by
  obtain ⟨locs, vm0, k1, X, -⟩ := S; subst hq
  by_cases q : x < y
  · exact (hf q).st fun _ z => XS.ifNo X.here C.1 rfl (hb C.2.2.1 hd) rfl ((if0 _ _).trans (tlt ((lw_lt x y).mpr q)).2.1) z
  · exact (ht q).st fun _ z => XS.ifYes X.here C.1 rfl rfl (hb C.2.2.1 hd) rfl ((if0 _ _).trans (flt (fun z => q ((lw_lt x y).mp z))).2.1) ho hp z
theorem g_icmp_gt (C : Cx p m meth c Z EL a0 own name cod maxL ret) (S : On p l e R s m args below meth c Z EL own n0 T h PS k n) {x y : Int32} {o : Int} (hd : decode cod pc = .ok (.if_icmp .gt o, 3)) (ho : 0 ≤ (pc : Int) + o) (hp : ((pc : Int) + o).toNat = pc') (hq : pc + 3 = pf) (ht : y < x → Gl p e below s Z EL R n0 Q T (mkF m pc' L r)) (hf : ¬ y < x → Gl p e below s Z EL R n0 Q T (mkF m pf L r)) : Gl p e below s Z EL R n0 Q T (mkF m pc L (.int y :: .int x :: r)) := by
  obtain ⟨locs, vm0, k1, X, -⟩ := S; subst hq
  by_cases q : y < x
  · exact (ht q).st fun _ z => XS.icmpYes X.here C.1 rfl rfl (hb C.2.2.1 hd) rfl ((tlt q).2.2.1) ho hp z
  · exact (hf q).st fun _ z => XS.icmpNo X.here C.1 rfl (hb C.2.2.1 hd) rfl ((flt q).2.2.1) z
theorem g_if_gt (C : Cx p m meth c Z EL a0 own name cod maxL ret) (S : On p l e R s m args below meth c Z EL own n0 T h PS k n) {x : Int32} {o : Int} (hd : decode cod pc = .ok (.ifCond .gt o, 3)) (ho : 0 ≤ (pc : Int) + o) (hp : ((pc : Int) + o).toNat = pc') (hq : pc + 3 = pf) (ht : (0 : Int32) < x → Gl p e below s Z EL R n0 Q T (mkF m pc' L r)) (hf : ¬ (0 : Int32) < x → Gl p e below s Z EL R n0 Q T (mkF m pf L r)) : Gl p e below s Z EL R n0 Q T (mkF m pc L (.int x :: r)) := by
  obtain ⟨locs, vm0, k1, X, -⟩ := S; subst hq
  by_cases q : (0 : Int32) < x
  · exact (ht q).st fun _ z => XS.ifYes X.here C.1 rfl rfl (hb C.2.2.1 hd) rfl ((if0 _ _).trans (tlt q).2.2.1) ho hp z
  · exact (hf q).st fun _ z => XS.ifNo X.here C.1 rfl (hb C.2.2.1 hd) rfl ((if0 _ _).trans (flt q).2.2.1) z
theorem g_lif_gt (C : Cx p m meth c Z EL a0 own name cod maxL ret) (S : On p l e R s m args below meth c Z EL own n0 T h PS k n) {x y : Int64} {o : Int} (hd : decode cod pc = .ok (.ifCond .gt o, 3)) (ho : 0 ≤ (pc : Int) + o) (hp : ((pc : Int) + o).toNat = pc') (hq : pc + 3 = pf) (ht : y < x → Gl p e below s Z EL R n0 Q T (mkF m pc' L r)) (hf : ¬ y < x → Gl p e below s Z EL R n0 Q T (mkF m pf L r)) : Gl p e below s Z EL R n0 Q T (mkF m pc L (.int (lcmpW x y) :: r)) := by
  obtain ⟨locs, vm0, k1, X, -⟩ := S; subst hq
  by_cases q : y < x
  · exact (ht q).st fun _ z => XS.ifYes X.here C.1 rfl rfl (hb C.2.2.1 hd) rfl ((if0 _ _).trans (tlt ((lw_gt x y).mpr q)).2.2.1) ho hp z
  · exact (hf q).st fun _ z => XS.ifNo X.here C.1 rfl (hb C.2.2.1 hd) rfl ((if0 _ _).trans (flt (fun z => q ((lw_gt x y).mp z))).2.2.1) z
theorem g_icmp_le (C : Cx p m meth c Z EL a0 own name cod maxL ret) (S : On p l e R s m args below meth c Z EL own n0 T h PS k n) {x y : Int32} {o : Int} (hd : decode cod pc = .ok (.if_icmp .le o, 3)) (ho : 0 ≤ (pc : Int) + o) (hp : ((pc : Int) + o).toNat = pc') (hq : pc + 3 = pf) (ht : ¬ y < x → Gl p e below s Z EL R n0 Q T (mkF m pc' L r)) (hf : y < x → Gl p e below s Z EL R n0 Q T (mkF m pf L r)) : Gl p e below s Z EL R n0 Q T (mkF m pc L (.int y :: .int x :: r)) := by
  obtain ⟨locs, vm0, k1, X, -⟩ := S; subst hq
  by_cases q : y < x
  · exact (hf q).st fun _ z => XS.icmpNo X.here C.1 rfl (hb C.2.2.1 hd) rfl ((tlt q).2.2.2) z
  · exact (ht q).st fun _ z => XS.icmpYes X.here C.1 rfl rfl (hb C.2.2.1 hd) rfl ((flt q).2.2.2) ho hp z
theorem g_if_le (C : Cx p m meth c Z EL a0 own name cod maxL ret) (S : On p l e R s m args below meth c Z EL own n0 T h PS k n) {x : Int32} {o : Int} (hd : decode cod pc = .ok (.ifCond .le o, 3)) (ho : 0 ≤ (pc : Int) + o) (hp : ((pc : Int) + o).toNat = pc') (hq : pc + 3 = pf) (ht : ¬ (0 : Int32) < x → Gl p e below s Z EL R n0 Q T (mkF m pc' L r)) (hf : (0 : Int32) < x → Gl p e below s Z EL R n0 Q T (mkF m pf L r)) : Gl p e below s Z EL R n0 Q T (mkF m pc L (.int x :: r)) := by
  obtain ⟨locs, vm0, k1, X, -⟩ := S; subst hq
  by_cases q : (0 : Int32) < x
  · exact (hf q).st fun _ z => XS.ifNo X.here C.1 rfl (hb C.2.2.1 hd) rfl ((if0 _ _).trans (tlt q).2.2.2) z
  · exact (ht q).st fun _ z => XS.ifYes X.here C.1 rfl rfl (hb C.2.2.1 hd) rfl ((if0 _ _).trans (flt q).2.2.2) ho hp z
theorem g_lif_le (C : Cx p m meth c Z EL a0 own name cod maxL ret) (S : On p l e R s m args below meth c Z EL own n0 T h PS k n) {x y : Int64} {o : Int} (hd : decode cod pc = .ok (.ifCond .le o, 3)) (ho : 0 ≤ (pc : Int) + o) (hp : ((pc : Int) + o).toNat = pc') (hq : pc + 3 = pf) (ht : ¬ y < x → Gl p e below s Z EL R n0 Q T (mkF m pc' L r)) (hf : y < x → Gl p e below s Z EL R n0 Q T (mkF m pf L r)) : Gl p e below s Z EL R n0 Q T (mkF m pc L (.int (lcmpW x y) :: r)) := by
  obtain ⟨locs, vm0, k1, X, -⟩ := S; subst hq
  by_cases q : y < x
  · exact (hf q).st fun _ z => XS.ifNo X.here C.1 rfl (hb C.2.2.1 hd) rfl ((if0 _ _).trans (tlt ((lw_gt x y).mpr q)).2.2.2) z
  · exact (ht q).st fun _ z => XS.ifYes X.here C.1 rfl rfl (hb C.2.2.1 hd) rfl ((if0 _ _).trans (flt (fun z => q ((lw_gt x y).mp z))).2.2.2) ho hp z
theorem g_icmp_eq (C : Cx p m meth c Z EL a0 own name cod maxL ret) (S : On p l e R s m args below meth c Z EL own n0 T h PS k n) {x y : Int32} {o : Int} (hd : decode cod pc = .ok (.if_icmp .eq o, 3)) (ho : 0 ≤ (pc : Int) + o) (hp : ((pc : Int) + o).toNat = pc') (hq : pc + 3 = pf) (ht : x = y → Gl p e below s Z EL R n0 Q T (mkF m pc' L r)) (hf : ¬ x = y → Gl p e below s Z EL R n0 Q T (mkF m pf L r)) : Gl p e below s Z EL R n0 Q T (mkF m pc L (.int y :: .int x :: r)) := by
  obtain ⟨locs, vm0, k1, X, -⟩ := S; subst hq
  by_cases q : x = y
  · exact (ht q).st fun _ z => XS.icmpYes X.here C.1 rfl rfl (hb C.2.2.1 hd) rfl ((teq q).1) ho hp z
  · exact (hf q).st fun _ z => XS.icmpNo X.here C.1 rfl (hb C.2.2.1 hd) rfl ((feq q).1) z
theorem g_if_eq (C : Cx p m meth c Z EL a0 own name cod maxL ret) (S : On p l e R s m args below meth c Z EL own n0 T h PS k n) {x : Int32} {o : Int} (hd : decode cod pc = .ok (.ifCond .eq o, 3)) (ho : 0 ≤ (pc : Int) + o) (hp : ((pc : Int) + o).toNat = pc') (hq : pc + 3 = pf) (ht : x = (0 : Int32) → Gl p e below s Z EL R n0 Q T (mkF m pc' L r)) (hf : ¬ x = (0 : Int32) → Gl p e below s Z EL R n0 Q T (mkF m pf L r)) : Gl p e below s Z EL R n0 Q T (mkF m pc L (.int x :: r)) := by
  obtain ⟨locs, vm0, k1, X, -⟩ := S; subst hq
  by_cases q : x = (0 : Int32)
  · exact (ht q).st fun _ z => XS.ifYes X.here C.1 rfl rfl (hb C.2.2.1 hd) rfl ((if0 _ _).trans (teq q).1) ho hp z
  · exact (hf q).st fun _ z => XS.ifNo X.here C.1 rfl (hb C.2.2.1 hd) rfl ((if0 _ _).trans (feq q).1) z
theorem g_lif_eq (C : Cx p m meth c Z EL a0 own name cod maxL ret) (S : On p l e R s m args below meth c Z EL own n0 T h PS k n) {x y : Int64} {o : Int} (hd : decode cod pc = .ok (.ifCond .eq o, 3)) (ho : 0 ≤ (pc : Int) + o) (hp : ((pc : Int) + o).toNat = pc') (hq : pc + 3 = pf) (ht : x = y → Gl p e below s Z EL R n0 Q T (mkF m pc' L r)) (hf : ¬ x = y → Gl p e below s Z EL R n0 Q T (mkF m pf L r)) : Gl p e below s Z EL R n0 Q T (mkF m pc L (.int (lcmpW x y) :: r)) := by
  obtain ⟨locs, vm0, k1, X, -⟩ := S; subst hq
  by_cases q : x = y
  · exact (ht q).st fun _ z => XS.ifYes X.here C.1 rfl rfl (hb C.2.2.1 hd) rfl ((if0 _ _).trans (teq ((lw_eq x y).mpr q)).1) ho hp z
  · exact (hf q).st fun _ z => XS.ifNo X.here C.1 rfl (hb C.2.2.1 hd) rfl ((if0 _ _).trans (feq (fun z => q ((lw_eq x y).mp z))).1) z
theorem g_icmp_ne (C : Cx p m meth c Z EL a0 own name cod maxL ret) (S : On p l e R s m args below meth c Z EL own n0 T h PS k n) {x y : Int32} {o : Int} (hd : decode cod pc = .ok (.if_icmp .ne o, 3)) (ho : 0 ≤ (pc : Int) + o) (hp : ((pc : Int) + o).toNat = pc') (hq : pc + 3 = pf) (ht : ¬ x = y → Gl p e below s Z EL R n0 Q T (mkF m pc' L r)) (hf : x = y → Gl p e below s Z EL R n0 Q T (mkF m pf L r)) : Gl p e below s Z EL R n0 Q T (mkF m pc L (.int y :: .int x :: r)) := by
  obtain ⟨locs, vm0, k1, X, -⟩ := S; subst hq
  by_cases q : x = y
  · exact (hf q).st fun _ z => XS.icmpNo X.here C.1 rfl (hb C.2.2.1 hd) rfl ((teq q).2) z
  · exact (ht q).st fun _ z => XS.icmpYes X.here C.1 rfl rfl (hb C.2.2.1 hd) rfl ((feq q).2) ho hp z
theorem g_if_ne (C : Cx p m meth c Z EL a0 own name cod maxL ret) (S : On p l e R s m args below meth c Z EL own n0 T h PS k n) {x : Int32} {o : Int} (hd : decode cod pc = .ok (.ifCond .ne o, 3)) (ho : 0 ≤ (pc : Int) + o) (hp : ((pc : Int) + o).toNat = pc') (hq : pc + 3 = pf) (ht : ¬ x = (0 : Int32) → Gl p e below s Z EL R n0 Q T (mkF m pc' L r)) (hf : x = (0 : Int32) → Gl p e below s Z EL R n0 Q T (mkF m pf L r)) : Gl p e below s Z EL R n0 Q T (mkF m pc L (.int x :: r)) := by
  obtain ⟨locs, vm0, k1, X, -⟩ := S; subst hq
  by_cases q : x = (0 : Int32)
  · exact (hf q).st fun _ z => XS.ifNo X.here C.1 rfl (hb C.2.2.1 hd) rfl ((if0 _ _).trans (teq q).2) z
  · exact (ht q).st fun _ z => XS.ifYes X.here C.1 rfl rfl (hb C.2.2.1 hd) rfl ((if0 _ _).trans (feq q).2) ho hp z
theorem g_lif_ne (C : Cx p m meth c Z EL a0 own name cod maxL ret) (S : On p l e R s m args below meth c Z EL own n0 T h PS k n) {x y : Int64} {o : Int} (hd : decode cod pc = .ok (.ifCond .ne o, 3)) (ho : 0 ≤ (pc : Int) + o) (hp : ((pc : Int) + o).toNat = pc') (hq : pc + 3 = pf) (ht : ¬ x = y → Gl p e below s Z EL R n0 Q T (mkF m pc' L r)) (hf : x = y → Gl p e below s Z EL R n0 Q T (mkF m pf L r)) : Gl p e below s Z EL R n0 Q T (mkF m pc L (.int (lcmpW x y) :: r)) := by
  obtain ⟨locs, vm0, k1, X, -⟩ := S; subst hq
  by_cases q : x = y
  · exact (hf q).st fun _ z => XS.ifNo X.here C.1 rfl (hb C.2.2.1 hd) rfl ((if0 _ _).trans (teq ((lw_eq x y).mpr q)).2) z
  · exact (ht q).st fun _ z => XS.ifYes X.here C.1 rfl rfl (hb C.2.2.1 hd) rfl ((if0 _ _).trans (feq (fun z => q ((lw_eq x y).mp z))).2) ho hp z
theorem g_ifnonnull_ref (C : Cx p m meth c Z EL a0 own name cod maxL ret) (S : On p l e R s m args below meth c Z EL own n0 T h PS k n) {o : Int} (hd : decode cod pc = .ok (.ifnonnull o, 3)) (ho : 0 ≤ (pc : Int) + o) (hp : ((pc : Int) + o).toNat = pc') (kk : Gl p e below s Z EL R n0 Q T (mkF m pc' L r)) : Gl p e below s Z EL R n0 Q T (mkF m pc L (.ref a :: r)) := by
  obtain ⟨locs, vm0, k1, X, -⟩ := S
  exact kk.st fun _ q => XS.ifnonnullYes X.here C.1 rfl rfl (hb C.2.2.1 hd) rfl ho hp q
theorem g_ifnonnull_null (C : Cx p m meth c Z EL a0 own name cod maxL ret) (S : On p l e R s m args below meth c Z EL own n0 T h PS k n) {o : Int} (hd : decode cod pc = .ok (.ifnonnull o, 3)) (hq : pc + 3 = pf) (kk : Gl p e below s Z EL R n0 Q T (mkF m pf L r)) : Gl p e below s Z EL R n0 Q T (mkF m pc L (.null :: r)) := by
  obtain ⟨locs, vm0, k1, X, -⟩ := S; subst hq
  exact kk.st fun _ q => XS.ifnonnullNo X.here C.1 rfl (hb C.2.2.1 hd) rfl q
theorem g_ifnull_null (C : Cx p m meth c Z EL a0 own name cod maxL ret) (S : On p l e R s m args below meth c Z EL own n0 T h PS k n) {o : Int} (hd : decode cod pc = .ok (.ifnull o, 3)) (ho : 0 ≤ (pc : Int) + o) (hp : ((pc : Int) + o).toNat = pc') (kk : Gl p e below s Z EL R n0 Q T (mkF m pc' L r)) : Gl p e below s Z EL R n0 Q T (mkF m pc L (.null :: r)) := by
  obtain ⟨locs, vm0, k1, X, -⟩ := S
  exact kk.st fun _ q => XS.ifnullYes X.here C.1 rfl rfl (hb C.2.2.1 hd) rfl ho hp q
theorem g_ifnull_ref (C : Cx p m meth c Z EL a0 own name cod maxL ret) (S : On p l e R s m args below meth c Z EL own n0 T h PS k n) {o : Int} (hd : decode cod pc = .ok (.ifnull o, 3)) (hq : pc + 3 = pf) (kk : Gl p e below s Z EL R n0 Q T (mkF m pf L r)) : Gl p e below s Z EL R n0 Q T (mkF m pc L (.ref a :: r)) := by
  obtain ⟨locs, vm0, k1, X, -⟩ := S; subst hq
  exact kk.st fun _ q => XS.ifnullNo X.here C.1 rfl (hb C.2.2.1 hd) rfl q
theorem g_acmp_eq (C : Cx p m meth c Z EL a0 own name cod maxL ret) (S : On p l e R s m args below meth c Z EL own n0 T h PS k n) {x y : Value} (hx : x.isRef = true) (hy : y.isRef = true) {o : Int} (hd : decode cod pc = .ok (.if_acmp .eq o, 3)) (ho : 0 ≤ (pc : Int) + o) (hp : ((pc : Int) + o).toNat = pc') (hq : pc + 3 = pf) (ht : x = y → Gl p e below s Z EL R n0 Q T (mkF m pc' L r)) (hf : ¬ x = y → Gl p e below s Z EL R n0 Q T (mkF m pf L r)) : Gl p e below s Z EL R n0 Q T (mkF m pc L (y :: x :: r)) := by
  obtain ⟨locs, vm0, k1, X, -⟩ := S; subst hq hp
  by_cases q : x = y
  · exact (ht q).st fun _ z => Jvm.RoadKit.acmp X C.1 rfl hx hy (same := true) rfl (hb C.2.2.1 hd) rfl (decide_eq_true q) ho (by simp [acV]) z
  · exact (hf q).st fun _ z => Jvm.RoadKit.acmp X C.1 rfl hx hy (same := false) rfl (hb C.2.2.1 hd) rfl (decide_eq_false q) ho (by simp [acV]) z
theorem g_acmp_ne (C : Cx p m meth c Z EL a0 own name cod maxL ret) (S : On p l e R s m args below meth c Z EL own n0 T h PS k n) {x y : Value} (hx : x.isRef = true) (hy : y.isRef = true) {o : Int} (hd : decode cod pc = .ok (.if_acmp .ne o, 3)) (ho : 0 ≤ (pc : Int) + o) (hp : ((pc : Int) + o).toNat = pc') (hq : pc + 3 = pf) (ht : ¬ x = y → Gl p e below s Z EL R n0 Q T (mkF m pc' L r)) (hf : x = y → Gl p e below s Z EL R n0 Q T (mkF m pf L r)) : Gl p e below s Z EL R n0 Q T (mkF m pc L (y :: x :: r)) := by
  obtain ⟨locs, vm0, k1, X, -⟩ := S; subst hq hp
  by_cases q : x = y
  · exact (hf q).st fun _ z => Jvm.RoadKit.acmp X C.1 rfl hx hy (same := true) rfl (hb C.2.2.1 hd) rfl (decide_eq_true q) ho (by simp [acV]) z
  · exact (ht q).st fun _ z => Jvm.RoadKit.acmp X C.1 rfl hx hy (same := false) rfl (hb C.2.2.1 hd) rfl (decide_eq_false q) ho (by simp [acV]) z
theorem g_ldc (C : Cx p m meth c Z EL a0 own name cod maxL ret) (S : On p l e R s m args below meth c Z EL own n0 T h PS k n) {v : Int32} {i : Nat} (hd : decode cod pc = .ok (.ldc i, 2)) (w : (Jvm.Cond.constant own i v).before a0 Z = true) (hp : pc + 2 = pc') (kk : Gl p e below s Z EL R n0 Q T (mkF m pc' L (.int v :: r))) : Gl p e below s Z EL R n0 Q T (mkF m pc L r) := by
  obtain ⟨locs, vm0, k1, X, N0, eh, hSi, hk1, hWm, hown, hCH, hF⟩ := S; subst hp
  exact kk.st fun t q => X.ldcInt (g := mkF m pc L r) C.1 hown (mvT hWm w) rfl (hb C.2.2.1 hd) t q
theorem g_ldc2 (C : Cx p m meth c Z EL a0 own name cod maxL ret) (S : On p l e R s m args below meth c Z EL own n0 T h PS k n) {v : Int64} {i : Nat} (hd : decode cod pc = .ok (.ldc2_w i, 3)) (w : (Jvm.Cond.constantLong own i v).before a0 Z = true) (hp : pc + 3 = pc') (kk : Gl p e below s Z EL R n0 Q T (mkF m pc' L (.long v :: r))) : Gl p e below s Z EL R n0 Q T (mkF m pc L r) := by
  obtain ⟨locs, vm0, k1, X, N0, eh, hSi, hk1, hWm, hown, hCH, hF⟩ := S; subst hp
  exact kk.st fun t q => X.ldc2Long (g := mkF m pc L r) C.1 hown (mvT hWm w) rfl (hb C.2.2.1 hd) t q
theorem g_leave (C : Cx p m meth c Z EL a0 own name cod maxL ret) (S : On p l e R s m args below meth c Z EL own n0 T h PS k n) {v : Option Value} (hk : k ≤ R.cells) (hn : n ≤ R.slots) (hv : meth.sig.returnType = none → v = none) (q : Q v h PS)
    (hst : ∀ fs, (∀ (f : JFrame) (acts : List Action), f.method = m → f.locked = none → f.entered = [] → (doReturn e (T.setTop f) acts v).1 = T.setFrames fs) → ∀ s' locs, Stand p l e R s' m args below meth c T locs k n → Steps p.tables e below (T.setTop (mkF m pc L r)) (T.setFrames fs)) : Gl p e below s Z EL R n0 Q T (mkF m pc L r) := by
  obtain ⟨locs, vm0, k1, X, N, eh, hSi, hk1, hWm, hown, hCH, hF⟩ := S
  obtain ⟨fs, hr, hrun, hended, hE1, hE2, hE3, hE4⟩ := X.leaveW hSi (by rw [eh]; exact hk1) (v := v) hv C.2.2.2.2.2.2.2
  have q' : Q v (T.setFrames fs).heap PS := by show Q v T.heap PS; rw [eh]; exact q
  have hA := CHv.at X hWm C.2.1.1 hCH.1
  have hB : CHr Z EL s.vm s.heap (T.setFrames fs).vm (T.setFrames fs).heap := by show CHr Z EL s.vm s.heap T.vm T.heap; rw [eh]; exact hCH.trans hA
  have hD : Sf Z EL (T.setFrames fs).vm (T.setFrames fs).heap PS := by show Sf Z EL T.vm T.heap PS; rw [eh]; exact hF.chr hA
  exact ⟨_, _, hst fs hr _ locs X, hrun, hended, _, _, rfl, ⟨PS, q', N, hD⟩, hB, hE1, hE2, hE3, hE4.mono hk hn⟩
theorem g_return (C : Cx p m meth c Z EL a0 own name cod maxL none) (S : On p l e R s m args below meth c Z EL own n0 T h PS k n) (hd : decode cod pc = .ok (.return_, 1)) (hk : k ≤ R.cells) (hn : n ≤ R.slots) (q : Q none h PS) : Gl p e below s Z EL R n0 Q T (mkF m pc L []) :=
  g_leave C S (v := none) hk hn (fun _ => rfl) q fun fs hr _ locs X => X.returnOut C.1 C.2.2.2.2.2.2.1 (hb C.2.2.1 hd) hr
theorem g_retv {t : FieldType} {w : Value} {i : Instr} (C : Cx p m meth c Z EL a0 own name cod maxL (some t)) (S : On p l e R s m args below meth c Z EL own n0 T h PS k n) (hd : decode cod pc = .ok (i, 1)) (hn' : narrow t w = w) (hi : (i = .ireturn ∧ (t = .int ∨ t = .boolean ∨ t = .byte ∨ t = .char ∨ t = .short) ∧ ∃ z, w = .int z) ∨ (i = .lreturn ∧ t = .long ∧ ∃ z, w = .long z) ∨ (i = .dreturn ∧ t = .double ∧ ∃ z, w = .double z) ∨ (i = .freturn ∧ t = .float ∧ ∃ z, w = .float z) ∨ (i = .areturn ∧ t.isReference = true ∧ w.isRef = true)) (hk : k ≤ R.cells) (hn : n ≤ R.slots) (q : Q (some w) h PS) : Gl p e below s Z EL R n0 Q T (mkF m pc L (w :: r)) :=
  g_leave C S (v := some w) hk hn (fun z => by rw [C.2.2.2.2.2.2.1] at z; cases z) q fun fs hr _ locs X => retOut X C.1 C.2.2.2.2.2.2.1 hn' hi (hb C.2.2.1 hd) hr
theorem g_retI {z : Int32} (C : Cx p m meth c Z EL a0 own name cod maxL (some .int)) (S : On p l e R s m args below meth c Z EL own n0 T h PS k n) (hd : decode cod pc = .ok (.ireturn, 1)) (hk : k ≤ R.cells) (hn : n ≤ R.slots) (q : Q (some (.int z)) h PS) : Gl p e below s Z EL R n0 Q T (mkF m pc L (.int z :: r)) := g_retv C S hd rfl (Or.inl ⟨rfl, Or.inl rfl, z, rfl⟩) hk hn q
theorem g_retZ {z : Int32} (C : Cx p m meth c Z EL a0 own name cod maxL (some .boolean)) (S : On p l e R s m args below meth c Z EL own n0 T h PS k n) (hd : decode cod pc = .ok (.ireturn, 1)) (hz : z &&& 1 = z) (hk : k ≤ R.cells) (hn : n ≤ R.slots) (q : Q (some (.int z)) h PS) : Gl p e below s Z EL R n0 Q T (mkF m pc L (.int z :: r)) := g_retv C S hd (congrArg Value.int hz) (Or.inl ⟨rfl, Or.inr (Or.inl rfl), z, rfl⟩) hk hn q
theorem g_retJ {z : Int64} (C : Cx p m meth c Z EL a0 own name cod maxL (some .long)) (S : On p l e R s m args below meth c Z EL own n0 T h PS k n) (hd : decode cod pc = .ok (.lreturn, 1)) (hk : k ≤ R.cells) (hn : n ≤ R.slots) (q : Q (some (.long z)) h PS) : Gl p e below s Z EL R n0 Q T (mkF m pc L (.long z :: r)) := g_retv C S hd rfl (Or.inr (Or.inl ⟨rfl, rfl, z, rfl⟩)) hk hn q
theorem g_retA {t : FieldType} {w : Value} (C : Cx p m meth c Z EL a0 own name cod maxL (some t)) (S : On p l e R s m args below meth c Z EL own n0 T h PS k n) (hd : decode cod pc = .ok (.areturn, 1)) (ht : t.isReference = true) (hw : w.isRef = true) (hnw : narrow t w = w) (hk : k ≤ R.cells) (hn : n ≤ R.slots) (q : Q (some w) h PS) : Gl p e below s Z EL R n0 Q T (mkF m pc L (w :: r)) := g_retv C S hd hnw (Or.inr (Or.inr (Or.inr (Or.inr ⟨rfl, ht, hw⟩)))) hk hn q
theorem g_getF (C : Cx p m meth c Z EL a0 own name cod maxL ret) (S : On p l e R s m args below meth c Z EL own n0 T h PS k n) {R0 O nm d host : String} {i : Nat} {v : Value} (hd : decode cod pc = .ok (.getfield i, 3)) (w : (Jvm.Cond.fieldLink own i R0 nm d).before a0 Z = true ∨ (Jvm.Cond.fieldLinkNest own i R0 nm d host).before a0 Z = true) (via : Via Z R0 O nm d) (F : Fld Z h a O nm d v) (hp : pc + 3 = pc') (kk : ∀ T', On p l e R s m args below meth c Z EL own n0 T' h PS k n → Gl p e below s Z EL R n0 Q T' (mkF m pc' L (v :: r))) : Gl p e below s Z EL R n0 Q T (mkF m pc L (.ref a :: r)) := by
  obtain ⟨locs, vm0, k1, X, N, eh, hSi, hk1, hWm, hown, hCH, hF⟩ := S; subst hp
  obtain ⟨T', X', eT, st⟩ := getF X C.1 hWm hown w via eh F (g := mkF m pc L (.ref a :: r)) rfl rfl (hb C.2.2.1 hd)
  exact (kk T' ⟨locs, vm0, k1, X', N, eT, hSi, hk1, hWm, hown, hCH, hF⟩).st st
theorem g_getS (C : Cx p m meth c Z EL a0 own name cod maxL ret) (S : On p l e R s m args below meth c Z EL own n0 T h PS k n) {R0 O nm d host : String} {i : Nat} {v : Value} (hd : decode cod pc = .ok (.getstatic i, 3)) (w : (Jvm.Cond.fieldLink own i R0 nm d).before a0 Z = true ∨ (Jvm.Cond.fieldLinkNest own i R0 nm d host).before a0 Z = true) (via : Via Z R0 O nm d) (F : Sta Z h O nm d v) (hp : pc + 3 = pc') (kk : ∀ T', On p l e R s m args below meth c Z EL own n0 T' h PS k n → Gl p e below s Z EL R n0 Q T' (mkF m pc' L (v :: r))) : Gl p e below s Z EL R n0 Q T (mkF m pc L r) := by
  obtain ⟨locs, vm0, k1, X, N, eh, hSi, hk1, hWm, hown, hCH, hF⟩ := S; subst hp
  obtain ⟨T', X', eT, st⟩ := getS2 X C.1 hWm hown w via eh F (g := mkF m pc L r) rfl (hb C.2.2.1 hd)
  exact (kk T' ⟨locs, vm0, k1, X', N, eT, hSi, hk1, hWm, hown, hCH, hF⟩).st st
theorem g_putF (C : Cx p m meth c Z EL a0 own name cod maxL ret) (S : On p l e R s m args below meth c Z EL own n0 T h PS k n) {R0 O nm d host K : String} {i kk0 : Nat} {ty : FieldType} {v old : Value} (hd : decode cod pc = .ok (.putfield i, 3)) (w : (Jvm.Cond.fieldLink own i R0 nm d).before a0 Z = true ∨ (Jvm.Cond.fieldLinkNest own i R0 nm d host).before a0 Z = true) (via : Via Z R0 O nm d) (F : Fld Z h a O nm d old) (E : Exa Z h a K) (Ly : (Jvm.Cond.lays K O nm d).before a0 Z = true ∨ ((Jvm.Cond.laysFinal K O nm d).before a0 Z = true ∧ own = O ∧ name = "<init>")) (wi : (Jvm.Cond.instantiable K kk0).before a0 Z = true) (hty : parseFieldDescriptor d = some ty) (hnr : narrow ty v = v) (hft : fits ty v = true) (ga : n0 ≤ a) (sf : a ∈ PS ∨ (K ≠ "java/lang/String" ∧ K ≠ "[B")) (hp : pc + 3 = pc') (kk : ∀ T' h', On p l e R s m args below meth c Z EL own n0 T' h' PS k n → Wr h h' a (Jvm.RoadKit.slotOf Z O nm d) v → Gl p e below s Z EL R n0 Q T' (mkF m pc' L r)) : Gl p e below s Z EL R n0 Q T (mkF m pc L (v :: .ref a :: r)) := by
  obtain ⟨locs, vm0, k1, X, N, eh, hSi, hk1, hWm, hown, hCH, hF⟩ := S; subst hp
  obtain ⟨T', h', X', eT, W, st⟩ := putF X C.1 hWm hown w via eh F E (Ly.imp id fun q => ⟨q.1, q.2.1, C.2.2.2.2.2.1.trans q.2.2⟩) wi hty hnr hft (g := mkF m pc L (v :: .ref a :: r)) rfl rfl (hb C.2.2.1 hd)
  have hsf : Safe Z EL vm0 h a := sf.elim (fun q => (hF a q).2) fun q => Safe.exa hWm.alike E q.1 q.2
  exact (kk T' h' ⟨_, vm0, k1, X', Fr.snoc X' N ga, eT, hSi, Nat.le_trans hk1 (CHr.wr W hsf hCH.1).2.1, hWm, hown, hCH.trans (CHr.wr W hsf hCH.1), hF.chr (CHr.wr W hsf hCH.1)⟩ W).st st
theorem g_new (C : Cx p m meth c Z EL a0 own name cod maxL ret) (S : On p l e R s m args below meth c Z EL own n0 T h PS k n) {K : String} {i sz : Nat} (hd : decode cod pc = .ok (.new i, 3)) (w : (Jvm.Cond.classLink own i K).before a0 Z = true) (wi : (Jvm.Cond.instantiable K sz).before a0 Z = true) (wz : (Jvm.Cond.initialized K).before a0 Z = true) (hc : k + 1 ≤ R.cells) (hl : n + sz ≤ R.slots) (hp : pc + 3 = pc') (kk : ∀ T' h' a, On p l e R s m args below meth c Z EL own n0 T' h' (a :: PS) (k + 1) (n + sz) → a = h.size → Ext h h' → Exa Z h' a K → (∀ {O nm d : String} {ty : FieldType}, Laid Z a0 K O nm d → parseFieldDescriptor d = some ty → Fld Z h' a O nm d (defaultValue ty)) → Gl p e below s Z EL R n0 Q T' (mkF m pc' L (.ref a :: r))) : Gl p e below s Z EL R n0 Q T (mkF m pc L r) := by
  obtain ⟨locs, vm0, k1, X, N, eh, hSi, hk1, hWm, hown, hCH, hF⟩ := S; subst hp
  obtain ⟨T', h', X', eT, E, A, D, -, st⟩ := newO X C.1 hWm hown w wi wz eh (g := mkF m pc L r) rfl (hb C.2.2.1 hd) hc hl
  exact (kk T' h' h.size ⟨_, vm0, k1, X', N, eT, hSi, Nat.le_trans hk1 E.1, hWm, hown, hCH.trans (CHr.ext E hCH.1), (hF.chr (CHr.ext E hCH.1)).cons A.lt (Safe.ext E hCH.1 (Safe.new (Nat.le_refl _)))⟩ rfl E A D).st st
theorem g_initO (C : Cx p m meth c Z EL a0 own name cod maxL ret) (S : On p l e R s m args below meth c Z EL own n0 T h PS k n) {i W : Nat} (hd : decode cod pc = .ok (.invokespecial i, 3)) (w1 : (Jvm.Cond.methodLink own i Lib.objectInit).before a0 Z = true) (w2 : (Jvm.Cond.instanceMethod Lib.objectInit).before a0 Z = true) (w3 : (Jvm.Cond.code Lib.objectInit ⟨#[0xb1]⟩ 1 none).before a0 Z = true) (hsz : L.size = maxL) (hf : 1 ≤ R.frames) (hW : (r.map fun v => v.category).sum ≤ W) (hl : W + 12 ≤ R.locals) (hp : pc + 3 = pc') (kk : ∀ T', On p l e R s m args below meth c Z EL own n0 T' h PS k n → Gl p e below s Z EL R n0 Q T' (mkF m pc' L r)) : Gl p e below s Z EL R n0 Q T (mkF m pc L (.ref a :: r)) := by
  obtain ⟨locs, vm0, k1, X, N, eh, hSi, hk1, hWm, hown, hCH, hF⟩ := S; subst hp
  obtain ⟨T', X', eT, st⟩ := initO X C.1 hWm hown w1 w2 w3 eh (g := mkF m pc L (.ref a :: r)) rfl (hsz.trans C.2.2.2.1.symm) rfl (hb C.2.2.1 hd) hf (W := W) (by simpa using hW) hl
  exact (kk T' ⟨locs, vm0, k1, X', N, eT, hSi, hk1, hWm, hown, hCH, hF⟩).st st
theorem notFace_of_inst {y : MethodName} {sz : Nat} (hZ : Z.Warmed39 s.vm) (wi : (Jvm.Cond.instantiable y.cls sz).before a0 Z = true) : NotFace s y := fun r0 h0 => by
  obtain ⟨c0, k0, i1, i2, -, i4, -⟩ := Cond.instantiable_spec (mvT (s := s) (args := #[]) hZ wi)
  have q := findClass_of_methodNamed h0
  rw [i1] at q; cases q
  exact ⟨k0, i2, (Bool.or_eq_false_iff.mp i4).1⟩
theorem g_callS (C : Cx p m meth c Z EL a0 own name cod maxL ret) (S : On p l e R s m args below meth c Z EL own n0 T h PS k n) {y : MethodName} {bytes : ByteArray} {mx i W : Nat} {rt : Option FieldType} {rm : Room} {P0 : List Addr} {Q' : Option Value → Heap → List Addr → Prop} {argsL stk : List Value} (hd : decode cod pc = .ok (.invokestatic i, 3)) (w1 : (Jvm.Cond.methodLink own i y).before a0 Z = true) (w2 : (Jvm.Cond.static y).before a0 Z = true) (w3 : (Jvm.Cond.initialized y.cls).before a0 Z = true) (w4 : (Jvm.Cond.code y bytes mx rt).before a0 Z = true) (hy : y.cls ≠ "java/lang/invoke/MethodHandle" ∧ y.cls ≠ "java/lang/invoke/VarHandle") (K : Con l Z EL P0 y bytes mx rt rm argsL.toArray h n0 Q') (hst : stk = argsL.reverse ++ r) (hP0 : ∀ x ∈ P0, x ∈ PS) (hlen : ∀ sig, parseMethodDescriptor y.desc = some sig → argsL.length = sig.parameters.length) (hsz : L.size = maxL) (hW : (r.map fun v => v.category).sum ≤ W) (hf : rm.frames + 1 ≤ R.frames) (hlo : W + (mx + 11) + rm.locals ≤ R.locals) (hce : k + rm.cells ≤ R.cells) (hsl : n + rm.slots ≤ R.slots) (hp : pc + 3 = pc') (kk : ∀ T' h' v P1, Q' v h' P1 → On p l e R s m args below meth c Z EL own n0 T' h' (P1 ++ PS) (k + rm.cells) (n + rm.slots) → Gl p e below s Z EL R n0 Q T' (mkF m pc' L (v.toList ++ r))) : Gl p e below s Z EL R n0 Q T (mkF m pc L stk) := by
  obtain ⟨locs, vm0, k1, X, N, eh, hSi, hk1, hWm, hown, hCH, hF⟩ := S; subst hp
  obtain ⟨v, vm1, ⟨T', L1, k2, n1⟩, -, X', hS2, hgr, ⟨Lc, hQ, l', y', z', hC2⟩, st⟩ := callSS X C.1 (y := y) hown (mvT hWm w1) (mvT hWm w2) (mvT hWm w3) (mvT hWm w4) hy (backW (W := W) (Q := Q') (n0 := n0) (K []) hWm w4 w3 hf hlo C.2.1.1 hCH.1 (hF.sub hP0)) (g := mkF m pc L stk) rfl (hsz.trans C.2.2.2.1.symm) (argsL := argsL) (rest := r) hlen hst (by simpa using hW) (hb C.2.2.1 hd) (fun _ _ => ⟨rfl, eh, hce, hsl⟩)
  dsimp only [Pt.U, Pt.locs, Pt.cells, Pt.slots] at X' st hQ l' y' z' hC2 hS2 hgr
  subst l' y' z'
  obtain ⟨P1, hQ, hFr, hSf⟩ := hQ
  exact (kk T' T'.heap v P1 hQ ⟨_, T'.vm, _, X', N.app hFr, rfl, foldS hSi (by rw [eh]; exact hk1) hS2 hgr, Nat.le_refl _, State.Warmed39.trans (t := s.setVm vm0) hWm hS2.1, (show T'.vm.findClass own = some m.cls by rw [hS2.1.alike.findClass]; exact hown), hCH.trans hC2, hSf.app (hF.chr hC2)⟩).st fun _ q => st.trans q
theorem g_callI (C : Cx p m meth c Z EL a0 own name cod maxL ret) (S : On p l e R s m args below meth c Z EL own n0 T h PS k n) {y : MethodName} {bytes : ByteArray} {mx i W : Nat} {rm : Room} {P0 : List Addr} {Q' : Option Value → Heap → List Addr → Prop} {argsL stk : List Value} (hd : decode cod pc = .ok (.invokespecial i, 3)) (hy1 : y.name = "<init>") (w1 : (Jvm.Cond.methodLink own i y).before a0 Z = true) (w2 : (Jvm.Cond.instanceMethod y).before a0 Z = true) (w3 : (Jvm.Cond.initialized y.cls).before a0 Z = true) (w4 : (Jvm.Cond.code y bytes mx none).before a0 Z = true) (hy : y.cls ≠ "java/lang/invoke/MethodHandle" ∧ y.cls ≠ "java/lang/invoke/VarHandle") (K : Con l Z EL P0 y bytes mx none rm (.ref a :: argsL).toArray h n0 Q') (hst : stk = argsL.reverse ++ .ref a :: r) (hP0 : ∀ x ∈ P0, x ∈ PS) (hlen : ∀ sig, parseMethodDescriptor y.desc = some sig → argsL.length = sig.parameters.length) (hsz : L.size = maxL) (hW : (r.map fun v => v.category).sum ≤ W) (hf : rm.frames + 1 ≤ R.frames) (hlo : W + (mx + 11) + rm.locals ≤ R.locals) (hce : k + rm.cells ≤ R.cells) (hsl : n + rm.slots ≤ R.slots) (hp : pc + 3 = pc') (kk : ∀ T' h' v P1, Q' v h' P1 → On p l e R s m args below meth c Z EL own n0 T' h' (P1 ++ PS) (k + rm.cells) (n + rm.slots) → Gl p e below s Z EL R n0 Q T' (mkF m pc' L (v.toList ++ r))) : Gl p e below s Z EL R n0 Q T (mkF m pc L stk) := by
  obtain ⟨locs, vm0, k1, X, N, eh, hSi, hk1, hWm, hown, hCH, hF⟩ := S; subst hp
  obtain ⟨v, vm1, ⟨T', L1, k2, n1⟩, -, X', hS2, hgr, ⟨Lc, hQ, l', y', z', hC2⟩, st⟩ := X.specialBackS C.1 (y := y) hy1 hown (mvT hWm w1) (mvT hWm w2) (mvT hWm w4) hy (backW (W := W) (Q := Q') (n0 := n0) (K []) hWm w4 w3 hf hlo C.2.1.1 hCH.1 (hF.sub hP0)) (g := mkF m pc L stk) rfl (hsz.trans C.2.2.2.1.symm) (Steps.refl _) (a := a) (argsL := argsL) (rest := r) hlen hst (by simpa using hW) (hb C.2.2.1 hd) (fun _ _ => ⟨rfl, eh, hce, hsl⟩)
  dsimp only [Pt.U, Pt.locs, Pt.cells, Pt.slots] at X' st hQ l' y' z' hC2 hS2 hgr
  subst l' y' z'
  obtain ⟨P1, hQ, hFr, hSf⟩ := hQ
  exact (kk T' T'.heap v P1 hQ ⟨_, T'.vm, _, X', N.app hFr, rfl, foldS hSi (by rw [eh]; exact hk1) hS2 hgr, Nat.le_refl _, State.Warmed39.trans (t := s.setVm vm0) hWm hS2.1, (show T'.vm.findClass own = some m.cls by rw [hS2.1.alike.findClass]; exact hown), hCH.trans hC2, hSf.app (hF.chr hC2)⟩).st fun _ q => st.trans q
theorem g_callV (C : Cx p m meth c Z EL a0 own name cod maxL ret) (S : On p l e R s m args below meth c Z EL own n0 T h PS k n) {K : String} {y z : MethodName} {bytes : ByteArray} {mx i W : Nat} {rt : Option FieldType} {rm : Room} {P0 : List Addr} {Q' : Option Value → Heap → List Addr → Prop} {argsL stk : List Value} (hd : decode cod pc = .ok (.invokevirtual i, 3)) (w1 : (Jvm.Cond.methodLink own i y).before a0 Z = true) (w2 : (Jvm.Cond.declares y).before a0 Z = true) (hnf : ∀ s' : State, Z.Warmed39 s'.vm → NotFace s' y) (w5 : (Jvm.Cond.selects K y z).before a0 Z = true) (w6 : (Jvm.Cond.instanceMethod z).before a0 Z = true) (w3 : (Jvm.Cond.initialized z.cls).before a0 Z = true) (w4 : (Jvm.Cond.code z bytes mx rt).before a0 Z = true) (hy : y.cls ≠ "java/lang/invoke/MethodHandle" ∧ y.cls ≠ "java/lang/invoke/VarHandle") (hyK : y.cls = K) (E : Exa Z h a K) (Kc : Con l Z EL P0 z bytes mx rt rm (.ref a :: argsL).toArray h n0 Q') (hst : stk = argsL.reverse ++ .ref a :: r) (hP0 : ∀ x ∈ P0, x ∈ PS) (hlen : ∀ sig, parseMethodDescriptor y.desc = some sig → argsL.length = sig.parameters.length) (hsz : L.size = maxL) (hW : (r.map fun v => v.category).sum ≤ W) (hf : rm.frames + 1 ≤ R.frames) (hlo : W + (mx + 11) + rm.locals ≤ R.locals) (hce : k + rm.cells ≤ R.cells) (hsl : n + rm.slots ≤ R.slots) (hp : pc + 3 = pc') (kk : ∀ T' h' v P1, Q' v h' P1 → On p l e R s m args below meth c Z EL own n0 T' h' (P1 ++ PS) (k + rm.cells) (n + rm.slots) → Gl p e below s Z EL R n0 Q T' (mkF m pc' L (v.toList ++ r))) : Gl p e below s Z EL R n0 Q T (mkF m pc L stk) := by
  obtain ⟨locs, vm0, k1, X, N, eh, hSi, hk1, hWm, hown, hCH, hF⟩ := S; subst hp hyK
  obtain ⟨cq, kq, qa, qb, qc⟩ := isOf (s := s.setVm vm0) hWm eh E
  obtain ⟨v, vm1, ⟨T', L1, k2, n1⟩, -, X', hS2, hgr, ⟨Lc, hQ, l', y', z', hC2⟩, st⟩ := X.virtualBackS C.1 (y := y) (z := z) hown (mvT hWm w1) (mvT hWm w2) (hnf (s.setVm vm0) hWm) (mvT hWm w5) (mvT hWm w6) hy (backW (W := W) (Q := Q') (n0 := n0) (Kc []) hWm w4 w3 hf hlo C.2.1.1 hCH.1 (hF.sub hP0)) qa qc (g := mkF m pc L stk) rfl (hsz.trans C.2.2.2.1.symm) (Steps.refl _) (argsL := argsL) (rest := r) hlen hst (by simpa using hW) (hb C.2.2.1 hd) (fun _ _ => ⟨rfl, eh, hce, hsl⟩)
  dsimp only [Pt.U, Pt.locs, Pt.cells, Pt.slots] at X' st hQ l' y' z' hC2 hS2 hgr
  subst l' y' z'
  obtain ⟨P1, hQ, hFr, hSf⟩ := hQ
  exact (kk T' T'.heap v P1 hQ ⟨_, T'.vm, _, X', N.app hFr, rfl, foldS hSi (by rw [eh]; exact hk1) hS2 hgr, Nat.le_refl _, State.Warmed39.trans (t := s.setVm vm0) hWm hS2.1, (show T'.vm.findClass own = some m.cls by rw [hS2.1.alike.findClass]; exact hown), hCH.trans hC2, hSf.app (hF.chr hC2)⟩).st fun _ q => st.trans q
theorem g_callP (C : Cx p m meth c Z EL a0 own name cod maxL ret) (S : On p l e R s m args below meth c Z EL own n0 T h PS k n) {y : MethodName} {bytes : ByteArray} {mx i W sz : Nat} {rt : Option FieldType} {rm : Room} {P0 : List Addr} {Q' : Option Value → Heap → List Addr → Prop} {argsL stk : List Value} (hd : decode cod pc = .ok (.invokevirtual i, 3)) (w1 : (Jvm.Cond.methodLink own i y).before a0 Z = true) (w2 : (Jvm.Cond.instanceMethod y).before a0 Z = true) (wp : (Jvm.Cond.privateMethod y).before a0 Z = true) (wi : (Jvm.Cond.instantiable y.cls sz).before a0 Z = true) (w3 : (Jvm.Cond.initialized y.cls).before a0 Z = true) (w4 : (Jvm.Cond.code y bytes mx rt).before a0 Z = true) (hy : y.cls ≠ "java/lang/invoke/MethodHandle" ∧ y.cls ≠ "java/lang/invoke/VarHandle") (E : Exa Z h a y.cls) (Kc : Con l Z EL P0 y bytes mx rt rm (.ref a :: argsL).toArray h n0 Q') (hst : stk = argsL.reverse ++ .ref a :: r) (hP0 : ∀ x ∈ P0, x ∈ PS) (hlen : ∀ sig, parseMethodDescriptor y.desc = some sig → argsL.length = sig.parameters.length) (hsz : L.size = maxL) (hW : (r.map fun v => v.category).sum ≤ W) (hf : rm.frames + 1 ≤ R.frames) (hlo : W + (mx + 11) + rm.locals ≤ R.locals) (hce : k + rm.cells ≤ R.cells) (hsl : n + rm.slots ≤ R.slots) (hp : pc + 3 = pc') (kk : ∀ T' h' v P1, Q' v h' P1 → On p l e R s m args below meth c Z EL own n0 T' h' (P1 ++ PS) (k + rm.cells) (n + rm.slots) → Gl p e below s Z EL R n0 Q T' (mkF m pc' L (v.toList ++ r))) : Gl p e below s Z EL R n0 Q T (mkF m pc L stk) := by
  obtain ⟨locs, vm0, k1, X, N, eh, hSi, hk1, hWm, hown, hCH, hF⟩ := S; subst hp
  obtain ⟨cq, q1, q2⟩ := E.cell
  obtain ⟨c0, k0, i1, i2, i3, i4, -⟩ := Cond.instantiable_spec (mvT (s := s.setVm vm0) (args := args) hWm wi)
  have hpr := Cond.privateMethod_at (mvP (s := s.setVm vm0) (args := args) hWm wp)
  have hs := selects_self_of_private (args := args) i1 i2 (Bool.or_eq_false_iff.mp i4).1 hpr (mvT hWm w2) hy
  obtain ⟨v, vm1, ⟨T', L1, k2, n1⟩, -, X', hS2, hgr, ⟨Lc, hQ, l', y', z', hC2⟩, st⟩ := X.privateBackS C.1 (y := y) hown (mvT hWm w1) (mvT hWm w2) hs hpr (mvT hWm w4) hy (backW (W := W) (Q := Q') (n0 := n0) (Kc []) hWm w4 w3 hf hlo C.2.1.1 hCH.1 (hF.sub hP0)) (g := mkF m pc L stk) rfl (hsz.trans C.2.2.2.1.symm) (Steps.refl _) (a := a) (by rw [eh]; exact q1) q2 (argsL := argsL) (rest := r) hlen hst (by simpa using hW) (hb C.2.2.1 hd) (fun _ _ => ⟨rfl, eh, hce, hsl⟩)
  dsimp only [Pt.U, Pt.locs, Pt.cells, Pt.slots] at X' st hQ l' y' z' hC2 hS2 hgr
  subst l' y' z'
  obtain ⟨P1, hQ, hFr, hSf⟩ := hQ
  exact (kk T' T'.heap v P1 hQ ⟨_, T'.vm, _, X', N.app hFr, rfl, foldS hSi (by rw [eh]; exact hk1) hS2 hgr, Nat.le_refl _, State.Warmed39.trans (t := s.setVm vm0) hWm hS2.1, (show T'.vm.findClass own = some m.cls by rw [hS2.1.alike.findClass]; exact hown), hCH.trans hC2, hSf.app (hF.chr hC2)⟩).st fun _ q => st.trans q
theorem own_face {y : MethodName} (hn : NotFace s y) (w : (Jvm.Cond.instanceMethod y).before args s = true) : ∃ c k, s.vm.findClass y.cls = some c ∧ s.vm.classes[c]? = some k ∧ k.isInterface = false := by
  obtain ⟨mk, methM, hnamed, -⟩ := Cond.instanceMethod_spec w
  obtain ⟨k, h1, h2⟩ := hn _ hnamed
  exact ⟨_, k, findClass_of_methodNamed hnamed, h1, h2⟩
theorem notFace_other {y y' : MethodName} (e : y.cls = y'.cls) (hn : NotFace s y) (w : (Jvm.Cond.instanceMethod y).before args s = true) : NotFace s y' := fun r0 h0 => by
  obtain ⟨c, k, h1, h2, h3⟩ := own_face hn w
  have q := findClass_of_methodNamed h0
  rw [← e, h1] at q
  cases q
  exact ⟨k, h2, h3⟩
theorem same_self {y : MethodName} (hn : NotFace s y) (w : (Jvm.Cond.instanceMethod y).before args s = true) (hy : y.cls ≠ "java/lang/invoke/MethodHandle" ∧ y.cls ≠ "java/lang/invoke/VarHandle") : (Jvm.Cond.sameMethod y.cls y.cls y.name y.desc).before args s = true := by
  obtain ⟨mk, methM, hnamed, -⟩ := Cond.instanceMethod_spec w
  obtain ⟨k, h1, h2⟩ := hn _ hnamed
  have hf := State.methodFound?_of_named hnamed hy
  have hc := findClass_of_methodNamed hnamed
  have hnm : s.methodNamed? { cls := y.cls, name := y.name, desc := y.desc } = some mk := hnamed
  simp [Cond.before, Cond.holds, Cond.value, hc, hf, hnm, h1, h2]
theorem g_callU (C : Cx p m meth c Z EL a0 own name cod maxL ret) (S : On p l e R s m args below meth c Z EL own n0 T h PS k n) {KS : String} {y : MethodName} {bytes : ByteArray} {mx i W : Nat} {rt : Option FieldType} {rm : Room} {P0 : List Addr} {Q' : Option Value → Heap → List Addr → Prop} {argsL stk : List Value} (hd : decode cod pc = .ok (.invokespecial i, 3)) (w1 : (Jvm.Cond.methodLink own i y).before a0 Z = true) (w2 : (Jvm.Cond.sameMethod y.cls y.cls y.name y.desc).before a0 Z = true) (w6 : (Jvm.Cond.instanceMethod y).before a0 Z = true) (w7 : (Jvm.Cond.superclass own y.cls).before a0 Z = true) (hn : y.name ≠ "<init>") (w3 : (Jvm.Cond.initialized y.cls).before a0 Z = true) (w4 : (Jvm.Cond.code y bytes mx rt).before a0 Z = true) (E : Exa Z h a KS) (K : Con l Z EL P0 y bytes mx rt rm (.ref a :: argsL).toArray h n0 Q') (hst : stk = argsL.reverse ++ .ref a :: r) (hP0 : ∀ x ∈ P0, x ∈ PS) (hlen : ∀ sig, parseMethodDescriptor y.desc = some sig → argsL.length = sig.parameters.length) (hsz : L.size = maxL) (hW : (r.map fun v => v.category).sum ≤ W) (hf : rm.frames + 1 ≤ R.frames) (hlo : W + (mx + 11) + rm.locals ≤ R.locals) (hce : k + rm.cells ≤ R.cells) (hsl : n + rm.slots ≤ R.slots) (hp : pc + 3 = pc') (kk : ∀ T' h' v P1, Q' v h' P1 → On p l e R s m args below meth c Z EL own n0 T' h' (P1 ++ PS) (k + rm.cells) (n + rm.slots) → Gl p e below s Z EL R n0 Q T' (mkF m pc' L (v.toList ++ r))) : Gl p e below s Z EL R n0 Q T (mkF m pc L stk) := by
  obtain ⟨locs, vm0, k1, X, N, eh, hSi, hk1, hWm, hown, hCH, hF⟩ := S; subst hp
  obtain ⟨v, vm1, ⟨T', L1, k2, n1⟩, -, X', hS2, hgr, ⟨Lc, hQ, l', y', z', hC2⟩, st⟩ := superBackS X C.1 (y := y) hWm hown w1 w2 w6 w7 hn (backW (W := W) (Q := Q') (n0 := n0) (K []) hWm w4 w3 hf hlo C.2.1.1 hCH.1 (hF.sub hP0)) eh (Ins.self E) (g := mkF m pc L stk) rfl (hsz.trans C.2.2.2.1.symm) w4 (argsL := argsL) (rest := r) hlen hst (by simpa using hW) (hb C.2.2.1 hd) (fun _ _ => ⟨rfl, eh, hce, hsl⟩)
  dsimp only [Pt.U, Pt.locs, Pt.cells, Pt.slots] at X' st hQ l' y' z' hC2 hS2 hgr
  subst l' y' z'
  obtain ⟨P1, hQ, hFr, hSf⟩ := hQ
  exact (kk T' T'.heap v P1 hQ ⟨_, T'.vm, _, X', N.app hFr, rfl, foldS hSi (by rw [eh]; exact hk1) hS2 hgr, Nat.le_refl _, State.Warmed39.trans (t := s.setVm vm0) hWm hS2.1, (show T'.vm.findClass own = some m.cls by rw [hS2.1.alike.findClass]; exact hown), hCH.trans hC2, hSf.app (hF.chr hC2)⟩).st fun _ q => st.trans q
theorem g_callW (C : Cx p m meth c Z EL a0 own name cod maxL ret) (S : On p l e R s m args below meth c Z EL own n0 T h PS k n) {K : String} {y z : MethodName} {bytes : ByteArray} {mx i W : Nat} {rt : Option FieldType} {rm : Room} {P0 : List Addr} {Q' : Option Value → Heap → List Addr → Prop} {argsL stk : List Value} (hd : decode cod pc = .ok (.invokevirtual i, 3)) (w1 : (Jvm.Cond.methodLink own i y).before a0 Z = true) (w2 : (Jvm.Cond.declares y).before a0 Z = true) (hnf : ∀ s' : State, Z.Warmed39 s'.vm → NotFace s' y) (w5 : (Jvm.Cond.selects K y z).before a0 Z = true) (w6 : (Jvm.Cond.instanceMethod z).before a0 Z = true) (w3 : (Jvm.Cond.initialized z.cls).before a0 Z = true) (w4 : (Jvm.Cond.code z bytes mx rt).before a0 Z = true) (hy : y.cls ≠ "java/lang/invoke/MethodHandle" ∧ y.cls ≠ "java/lang/invoke/VarHandle") (E : Exa Z h a K) (Kc : Con l Z EL P0 z bytes mx rt rm (.ref a :: argsL).toArray h n0 Q') (hst : stk = argsL.reverse ++ .ref a :: r) (hP0 : ∀ x ∈ P0, x ∈ PS) (hlen : ∀ sig, parseMethodDescriptor y.desc = some sig → argsL.length = sig.parameters.length) (hsz : L.size = maxL) (hW : (r.map fun v => v.category).sum ≤ W) (hf : rm.frames + 1 ≤ R.frames) (hlo : W + (mx + 11) + rm.locals ≤ R.locals) (hce : k + rm.cells ≤ R.cells) (hsl : n + rm.slots ≤ R.slots) (hp : pc + 3 = pc') (kk : ∀ T' h' v P1, Q' v h' P1 → On p l e R s m args below meth c Z EL own n0 T' h' (P1 ++ PS) (k + rm.cells) (n + rm.slots) → Gl p e below s Z EL R n0 Q T' (mkF m pc' L (v.toList ++ r))) : Gl p e below s Z EL R n0 Q T (mkF m pc L stk) := by
  obtain ⟨locs, vm0, k1, X, N, eh, hSi, hk1, hWm, hown, hCH, hF⟩ := S; subst hp
  obtain ⟨cq, kq, qa, qb, qc⟩ := isOf (s := s.setVm vm0) hWm eh E
  obtain ⟨v, vm1, ⟨T', L1, k2, n1⟩, -, X', hS2, hgr, ⟨Lc, hQ, l', y', z', hC2⟩, st⟩ := X.virtualBackS C.1 (y := y) (z := z) hown (mvT hWm w1) (mvT hWm w2) (hnf (s.setVm vm0) hWm) (mvT hWm w5) (mvT hWm w6) hy (backW (W := W) (Q := Q') (n0 := n0) (Kc []) hWm w4 w3 hf hlo C.2.1.1 hCH.1 (hF.sub hP0)) qa qc (g := mkF m pc L stk) rfl (hsz.trans C.2.2.2.1.symm) (Steps.refl _) (argsL := argsL) (rest := r) hlen hst (by simpa using hW) (hb C.2.2.1 hd) (fun _ _ => ⟨rfl, eh, hce, hsl⟩)
  dsimp only [Pt.U, Pt.locs, Pt.cells, Pt.slots] at X' st hQ l' y' z' hC2 hS2 hgr
  subst l' y' z'
  obtain ⟨P1, hQ, hFr, hSf⟩ := hQ
  exact (kk T' T'.heap v P1 hQ ⟨_, T'.vm, _, X', N.app hFr, rfl, foldS hSi (by rw [eh]; exact hk1) hS2 hgr, Nat.le_refl _, State.Warmed39.trans (t := s.setVm vm0) hWm hS2.1, (show T'.vm.findClass own = some m.cls by rw [hS2.1.alike.findClass]; exact hown), hCH.trans hC2, hSf.app (hF.chr hC2)⟩).st fun _ q => st.trans q
theorem g_callQ (C : Cx p m meth c Z EL a0 own name cod maxL ret) (S : On p l e R s m args below meth c Z EL own n0 T h PS k n) {y : MethodName} {bytes : ByteArray} {KS : String} {mx i W : Nat} {rt : Option FieldType} {rm : Room} {P0 : List Addr} {Q' : Option Value → Heap → List Addr → Prop} {argsL stk : List Value} (hd : decode cod pc = .ok (.invokevirtual i, 3)) (w1 : (Jvm.Cond.methodLink own i y).before a0 Z = true) (w2 : (Jvm.Cond.instanceMethod y).before a0 Z = true) (wp : (Jvm.Cond.privateMethod y).before a0 Z = true) (w5 : (Jvm.Cond.selects KS y y).before a0 Z = true) (w3 : (Jvm.Cond.initialized y.cls).before a0 Z = true) (w4 : (Jvm.Cond.code y bytes mx rt).before a0 Z = true) (hy : y.cls ≠ "java/lang/invoke/MethodHandle" ∧ y.cls ≠ "java/lang/invoke/VarHandle") (E : Exa Z h a KS) (Kc : Con l Z EL P0 y bytes mx rt rm (.ref a :: argsL).toArray h n0 Q') (hst : stk = argsL.reverse ++ .ref a :: r) (hP0 : ∀ x ∈ P0, x ∈ PS) (hlen : ∀ sig, parseMethodDescriptor y.desc = some sig → argsL.length = sig.parameters.length) (hsz : L.size = maxL) (hW : (r.map fun v => v.category).sum ≤ W) (hf : rm.frames + 1 ≤ R.frames) (hlo : W + (mx + 11) + rm.locals ≤ R.locals) (hce : k + rm.cells ≤ R.cells) (hsl : n + rm.slots ≤ R.slots) (hp : pc + 3 = pc') (kk : ∀ T' h' v P1, Q' v h' P1 → On p l e R s m args below meth c Z EL own n0 T' h' (P1 ++ PS) (k + rm.cells) (n + rm.slots) → Gl p e below s Z EL R n0 Q T' (mkF m pc' L (v.toList ++ r))) : Gl p e below s Z EL R n0 Q T (mkF m pc L stk) := by
  obtain ⟨locs, vm0, k1, X, N, eh, hSi, hk1, hWm, hown, hCH, hF⟩ := S; subst hp
  obtain ⟨cq, q1, q2⟩ := E.cell
  obtain ⟨c0, k0, i1, i2, i4⟩ := own_face (notFace_of_selects (mvT (s := s.setVm vm0) (args := args) hWm w5)) (mvT (s := s.setVm vm0) (args := args) hWm w2)
  have hpr := Cond.privateMethod_at (mvP (s := s.setVm vm0) (args := args) hWm wp)
  have hs := selects_self_of_private (args := args) i1 i2 i4 hpr (mvT hWm w2) hy
  obtain ⟨v, vm1, ⟨T', L1, k2, n1⟩, -, X', hS2, hgr, ⟨Lc, hQ, l', y', z', hC2⟩, st⟩ := X.privateBackS C.1 (y := y) hown (mvT hWm w1) (mvT hWm w2) hs hpr (mvT hWm w4) hy (backW (W := W) (Q := Q') (n0 := n0) (Kc []) hWm w4 w3 hf hlo C.2.1.1 hCH.1 (hF.sub hP0)) (g := mkF m pc L stk) rfl (hsz.trans C.2.2.2.1.symm) (Steps.refl _) (a := a) (by rw [eh]; exact q1) q2 (argsL := argsL) (rest := r) hlen hst (by simpa using hW) (hb C.2.2.1 hd) (fun _ _ => ⟨rfl, eh, hce, hsl⟩)
  dsimp only [Pt.U, Pt.locs, Pt.cells, Pt.slots] at X' st hQ l' y' z' hC2 hS2 hgr
  subst l' y' z'
  obtain ⟨P1, hQ, hFr, hSf⟩ := hQ
  exact (kk T' T'.heap v P1 hQ ⟨_, T'.vm, _, X', N.app hFr, rfl, foldS hSi (by rw [eh]; exact hk1) hS2 hgr, Nat.le_refl _, State.Warmed39.trans (t := s.setVm vm0) hWm hS2.1, (show T'.vm.findClass own = some m.cls by rw [hS2.1.alike.findClass]; exact hown), hCH.trans hC2, hSf.app (hF.chr hC2)⟩).st fun _ q => st.trans q
/-- an array: its length and what each place holds -/
def Ary (Z : State) (h : Heap) (a : Addr) (ty : FieldType) (n : Nat) (f : Nat → Value) : Prop := ∃ c : Cell, Arr Z h a c ty ∧ c.slots.size = n ∧ ∀ i, i < n → c.slots[i]? = some (f i)
variable {ty : FieldType} {N i : Nat} {f : Nat → Value} {v : Value} {sl : Nat} {j x : Int32} {ws : List Addr}
theorem Ary.lt (A : Ary Z h a ty N f) : a < h.size := by obtain ⟨c, A, -⟩ := A; exact A.lt
theorem Ary.ext (A : Ary Z h a ty N f) (E : Ext h h') : Ary Z h' a ty N f := by obtain ⟨c, A, q⟩ := A; exact ⟨c, A.ext E, q⟩
theorem Ary.other (A : Ary Z h a ty N f) (W : Wr h h' b sl v) (q : a ≠ b) : Ary Z h' a ty N f := by obtain ⟨c, A, z⟩ := A; exact ⟨c, A.other W q, z⟩
theorem Ary.keep (A : Ary Z h a ty N f) (K : Keep h h' ws) (q : a ∉ ws) : Ary Z h' a ty N f := by obtain ⟨c, A, z⟩ := A; exact ⟨c, ⟨K.2.1 a c A.1 q, A.2⟩, z⟩
theorem Ary.cg {f' : Nat → Value} (A : Ary Z h a ty N f) (q : ∀ i, i < N → f i = f' i) : Ary Z h a ty N f' := by obtain ⟨c, A, s, z⟩ := A; exact ⟨c, A, s, fun i hi => by rw [← q i hi]; exact z i hi⟩
theorem Ary.same (A : Ary Z h a ty N f) (W : Wr h h' a i v) : Ary Z h' a ty N (fun q => if q = i then v else f q) := by
  obtain ⟨c, A, s, z⟩ := A
  refine ⟨_, A.same W, by rw [sz_set]; exact s, fun q hq => ?_⟩
  by_cases u : q = i
  · subst u; simp [Cell.setSlot, s, hq]
  · simp only [u, if_false]; simp only [Cell.setSlot]; rw [Array.getElem?_setIfInBounds_ne (fun w => u w.symm)]; exact z q hq
theorem idx_nat {c : Cell} (hj : j.toInt = (i : Int)) (hi : i < c.slots.size) : ¬ (j < 0 ∨ c.slots.size ≤ j.toNatClampNeg) ∧ j.toNatClampNeg = i := by
  have e : j.toNatClampNeg = i := by simp only [Int32.toNatClampNeg, hj]; omega
  refine ⟨?_, e⟩
  rw [e, Int32.lt_iff_toInt_lt, hj]
  have : (0 : Int32).toInt = 0 := rfl
  omega
theorem g_iaload (C : Cx p m meth c Z EL a0 own name cod maxL ret) (S : On p l e R s m args below meth c Z EL own n0 T h PS k n) (hd : decode cod pc = .ok (.iaload, 1)) (A : Ary Z h a .int N f) (hj : j.toInt = (i : Int)) (hi : i < N) (hv : f i = v) (hp : pc + 1 = pc') (kk : Gl p e below s Z EL R n0 Q T (mkF m pc' L (v :: r))) : Gl p e below s Z EL R n0 Q T (mkF m pc L (.int j :: .ref a :: r)) := by
  obtain ⟨locs, vm0, k1, X, N, eh, hSi, hk1, hWm, hown, hCH, hF⟩ := S; subst hp
  obtain ⟨cl, A, sz, z⟩ := A
  obtain ⟨q1, q2⟩ := idx_nat (c := cl) hj (by rw [sz]; exact hi)
  exact kk.st fun t q => X.iaload (g := mkF m pc L (.int j :: .ref a :: r)) C.1 (by rw [eh]; exact A.1) (State.isArrayOf_alike hWm.alike A.2.1) A.2.2 q1 (by rw [q2, ← hv]; exact z i hi) rfl rfl (hb C.2.2.1 hd) t q
theorem g_laload (C : Cx p m meth c Z EL a0 own name cod maxL ret) (S : On p l e R s m args below meth c Z EL own n0 T h PS k n) (hd : decode cod pc = .ok (.laload, 1)) (A : Ary Z h a .long N f) (hj : j.toInt = (i : Int)) (hi : i < N) (hv : f i = v) (hp : pc + 1 = pc') (kk : Gl p e below s Z EL R n0 Q T (mkF m pc' L (v :: r))) : Gl p e below s Z EL R n0 Q T (mkF m pc L (.int j :: .ref a :: r)) := by
  obtain ⟨locs, vm0, k1, X, N, eh, hSi, hk1, hWm, hown, hCH, hF⟩ := S; subst hp
  obtain ⟨cl, A, sz, z⟩ := A
  obtain ⟨q1, q2⟩ := idx_nat (c := cl) hj (by rw [sz]; exact hi)
  exact kk.st fun t q => X.laload (g := mkF m pc L (.int j :: .ref a :: r)) C.1 (by rw [eh]; exact A.1) (State.isArrayOf_alike hWm.alike A.2.1) A.2.2 q1 (by rw [q2, ← hv]; exact z i hi) rfl rfl (hb C.2.2.1 hd) t q
theorem g_caload (C : Cx p m meth c Z EL a0 own name cod maxL ret) (S : On p l e R s m args below meth c Z EL own n0 T h PS k n) (hd : decode cod pc = .ok (.caload, 1)) (A : Ary Z h a .char N f) (hj : j.toInt = (i : Int)) (hi : i < N) (hv : f i = v) (hp : pc + 1 = pc') (kk : Gl p e below s Z EL R n0 Q T (mkF m pc' L (v :: r))) : Gl p e below s Z EL R n0 Q T (mkF m pc L (.int j :: .ref a :: r)) := by
  obtain ⟨locs, vm0, k1, X, N, eh, hSi, hk1, hWm, hown, hCH, hF⟩ := S; subst hp
  obtain ⟨cl, A, sz, z⟩ := A
  obtain ⟨q1, q2⟩ := idx_nat (c := cl) hj (by rw [sz]; exact hi)
  exact kk.st fun t q => X.caload (g := mkF m pc L (.int j :: .ref a :: r)) C.1 (by rw [eh]; exact A.1) (State.isArrayOf_alike hWm.alike A.2.1) A.2.2 q1 (by rw [q2, ← hv]; exact z i hi) rfl rfl (hb C.2.2.1 hd) t q
theorem g_saload (C : Cx p m meth c Z EL a0 own name cod maxL ret) (S : On p l e R s m args below meth c Z EL own n0 T h PS k n) (hd : decode cod pc = .ok (.saload, 1)) (A : Ary Z h a .short N f) (hj : j.toInt = (i : Int)) (hi : i < N) (hv : f i = v) (hp : pc + 1 = pc') (kk : Gl p e below s Z EL R n0 Q T (mkF m pc' L (v :: r))) : Gl p e below s Z EL R n0 Q T (mkF m pc L (.int j :: .ref a :: r)) := by
  obtain ⟨locs, vm0, k1, X, N, eh, hSi, hk1, hWm, hown, hCH, hF⟩ := S; subst hp
  obtain ⟨cl, A, sz, z⟩ := A
  obtain ⟨q1, q2⟩ := idx_nat (c := cl) hj (by rw [sz]; exact hi)
  exact kk.st fun t q => X.saload (g := mkF m pc L (.int j :: .ref a :: r)) C.1 (by rw [eh]; exact A.1) (State.isArrayOf_alike hWm.alike A.2.1) A.2.2 q1 (by rw [q2, ← hv]; exact z i hi) rfl rfl (hb C.2.2.1 hd) t q
theorem g_baloadB (C : Cx p m meth c Z EL a0 own name cod maxL ret) (S : On p l e R s m args below meth c Z EL own n0 T h PS k n) (hd : decode cod pc = .ok (.baload, 1)) (A : Ary Z h a .byte N f) (hj : j.toInt = (i : Int)) (hi : i < N) (hv : f i = v) (hp : pc + 1 = pc') (kk : Gl p e below s Z EL R n0 Q T (mkF m pc' L (v :: r))) : Gl p e below s Z EL R n0 Q T (mkF m pc L (.int j :: .ref a :: r)) := by
  obtain ⟨locs, vm0, k1, X, N, eh, hSi, hk1, hWm, hown, hCH, hF⟩ := S; subst hp
  obtain ⟨cl, A, sz, z⟩ := A
  obtain ⟨q1, q2⟩ := idx_nat (c := cl) hj (by rw [sz]; exact hi)
  exact kk.st fun t q => X.baloadBytes (g := mkF m pc L (.int j :: .ref a :: r)) C.1 (by rw [eh]; exact A.1) (State.isArrayOf_alike hWm.alike A.2.1) A.2.2 q1 (by rw [q2, ← hv]; exact z i hi) rfl rfl (hb C.2.2.1 hd) t q
theorem g_baloadZ (C : Cx p m meth c Z EL a0 own name cod maxL ret) (S : On p l e R s m args below meth c Z EL own n0 T h PS k n) (hd : decode cod pc = .ok (.baload, 1)) (A : Ary Z h a .boolean N f) (hj : j.toInt = (i : Int)) (hi : i < N) (hv : f i = v) (hp : pc + 1 = pc') (kk : Gl p e below s Z EL R n0 Q T (mkF m pc' L (v :: r))) : Gl p e below s Z EL R n0 Q T (mkF m pc L (.int j :: .ref a :: r)) := by
  obtain ⟨locs, vm0, k1, X, N, eh, hSi, hk1, hWm, hown, hCH, hF⟩ := S; subst hp
  obtain ⟨cl, A, sz, z⟩ := A
  obtain ⟨q1, q2⟩ := idx_nat (c := cl) hj (by rw [sz]; exact hi)
  exact kk.st fun t q => X.baloadBooleans (g := mkF m pc L (.int j :: .ref a :: r)) C.1 (by rw [eh]; exact A.1) (State.isArrayOf_alike hWm.alike A.2.1) A.2.2 q1 (by rw [q2, ← hv]; exact z i hi) rfl rfl (hb C.2.2.1 hd) t q
theorem g_daload (C : Cx p m meth c Z EL a0 own name cod maxL ret) (S : On p l e R s m args below meth c Z EL own n0 T h PS k n) (hd : decode cod pc = .ok (.daload, 1)) (A : Ary Z h a .double N f) (hj : j.toInt = (i : Int)) (hi : i < N) (hv : f i = v) (hp : pc + 1 = pc') (kk : Gl p e below s Z EL R n0 Q T (mkF m pc' L (v :: r))) : Gl p e below s Z EL R n0 Q T (mkF m pc L (.int j :: .ref a :: r)) := by
  obtain ⟨locs, vm0, k1, X, N, eh, hSi, hk1, hWm, hown, hCH, hF⟩ := S; subst hp
  obtain ⟨cl, A, sz, z⟩ := A
  obtain ⟨q1, q2⟩ := idx_nat (c := cl) hj (by rw [sz]; exact hi)
  exact kk.st fun t q => X.daload (g := mkF m pc L (.int j :: .ref a :: r)) C.1 (by rw [eh]; exact A.1) (State.isArrayOf_alike hWm.alike A.2.1) A.2.2 q1 (by rw [q2, ← hv]; exact z i hi) rfl rfl (hb C.2.2.1 hd) t q
theorem g_aaload (C : Cx p m meth c Z EL a0 own name cod maxL ret) (S : On p l e R s m args below meth c Z EL own n0 T h PS k n) (hd : decode cod pc = .ok (.aaload, 1)) (A : Ary Z h a ty N f) (hty : ty.isReference = true) (hj : j.toInt = (i : Int)) (hi : i < N) (hv : f i = v) (hp : pc + 1 = pc') (kk : Gl p e below s Z EL R n0 Q T (mkF m pc' L (v :: r))) : Gl p e below s Z EL R n0 Q T (mkF m pc L (.int j :: .ref a :: r)) := by
  obtain ⟨locs, vm0, k1, X, N, eh, hSi, hk1, hWm, hown, hCH, hF⟩ := S; subst hp
  obtain ⟨cl, A, sz, z⟩ := A
  obtain ⟨q1, q2⟩ := idx_nat (c := cl) hj (by rw [sz]; exact hi)
  exact kk.st fun t q => X.aaload (g := mkF m pc L (.int j :: .ref a :: r)) C.1 (by rw [eh]; exact A.1) (State.isArrayOf_alike hWm.alike A.2.1) hty A.2.2 q1 (by rw [q2, ← hv]; exact z i hi) rfl rfl (hb C.2.2.1 hd) t q
theorem g_arraylength (C : Cx p m meth c Z EL a0 own name cod maxL ret) (S : On p l e R s m args below meth c Z EL own n0 T h PS k n) (hd : decode cod pc = .ok (.arraylength, 1)) (A : Ary Z h a ty N f) (hx : N.toInt32 = x) (hp : pc + 1 = pc') (kk : Gl p e below s Z EL R n0 Q T (mkF m pc' L (.int x :: r))) : Gl p e below s Z EL R n0 Q T (mkF m pc L (.ref a :: r)) := by
  obtain ⟨locs, vm0, k1, X, _, eh, hSi, hk1, hWm, hown, hCH, hF⟩ := S; subst hp
  obtain ⟨cl, A, sz, z⟩ := A
  subst hx
  rw [← sz] at kk
  exact kk.st fun t q => X.arraylength (g := mkF m pc L (.ref a :: r)) C.1 (by rw [eh]; exact A.1) (State.isArrayOf_alike hWm.alike A.2.1) rfl rfl (hb C.2.2.1 hd) t q
theorem g_iastore (C : Cx p m meth c Z EL a0 own name cod maxL ret) (S : On p l e R s m args below meth c Z EL own n0 T h PS k n) {y : Int32} (hd : decode cod pc = .ok (.iastore, 1)) (A : Ary Z h a .int N f) (hj : j.toInt = (i : Int)) (hi : i < N) (ga : n0 ≤ a) (hp : pc + 1 = pc') (kk : ∀ T' h', On p l e R s m args below meth c Z EL own n0 T' h' PS k n → Wr h h' a i (.int y) → Ary Z h' a .int N (fun q => if q = i then .int y else f q) → Gl p e below s Z EL R n0 Q T' (mkF m pc' L r)) : Gl p e below s Z EL R n0 Q T (mkF m pc L (.int y :: .int j :: .ref a :: r)) := by
  obtain ⟨locs, vm0, k1, X, N, eh, hSi, hk1, hWm, hown, hCH, hF⟩ := S; subst hp
  have A0 := A
  obtain ⟨cl, A, sz, z⟩ := A
  obtain ⟨q1, q2⟩ := idx_nat (c := cl) hj (by rw [sz]; exact hi)
  obtain ⟨T', h', X', eT, W, st⟩ := stI X C.1 hWm eh A q1 (g := mkF m pc L (.int y :: .int j :: .ref a :: r)) rfl rfl (hb C.2.2.1 hd)
  have N' := Fr.snoc X' N ga
  rw [q2] at W
  have hsf : Safe Z EL vm0 h a := Safe.arr hWm.alike A (by decide)
  exact (kk T' h' ⟨_, vm0, k1, X', N', eT, hSi, Nat.le_trans hk1 (CHr.wr W hsf hCH.1).2.1, hWm, hown, hCH.trans (CHr.wr W hsf hCH.1), hF.chr (CHr.wr W hsf hCH.1)⟩ W (A0.same W)).st st
theorem g_lastore (C : Cx p m meth c Z EL a0 own name cod maxL ret) (S : On p l e R s m args below meth c Z EL own n0 T h PS k n) {y : Int64} (hd : decode cod pc = .ok (.lastore, 1)) (A : Ary Z h a .long N f) (hj : j.toInt = (i : Int)) (hi : i < N) (ga : n0 ≤ a) (hp : pc + 1 = pc') (kk : ∀ T' h', On p l e R s m args below meth c Z EL own n0 T' h' PS k n → Wr h h' a i (.long y) → Ary Z h' a .long N (fun q => if q = i then .long y else f q) → Gl p e below s Z EL R n0 Q T' (mkF m pc' L r)) : Gl p e below s Z EL R n0 Q T (mkF m pc L (.long y :: .int j :: .ref a :: r)) := by
  obtain ⟨locs, vm0, k1, X, N, eh, hSi, hk1, hWm, hown, hCH, hF⟩ := S; subst hp
  have A0 := A
  obtain ⟨cl, A, sz, z⟩ := A
  obtain ⟨q1, q2⟩ := idx_nat (c := cl) hj (by rw [sz]; exact hi)
  obtain ⟨T', h', X', eT, W, st⟩ := stJ X C.1 hWm eh A q1 (g := mkF m pc L (.long y :: .int j :: .ref a :: r)) rfl rfl (hb C.2.2.1 hd)
  have N' := Fr.snoc X' N ga
  rw [q2] at W
  have hsf : Safe Z EL vm0 h a := Safe.arr hWm.alike A (by decide)
  exact (kk T' h' ⟨_, vm0, k1, X', N', eT, hSi, Nat.le_trans hk1 (CHr.wr W hsf hCH.1).2.1, hWm, hown, hCH.trans (CHr.wr W hsf hCH.1), hF.chr (CHr.wr W hsf hCH.1)⟩ W (A0.same W)).st st
theorem g_castore (C : Cx p m meth c Z EL a0 own name cod maxL ret) (S : On p l e R s m args below meth c Z EL own n0 T h PS k n) {y : Int32} (hd : decode cod pc = .ok (.castore, 1)) (A : Ary Z h a .char N f) (hj : j.toInt = (i : Int)) (hi : i < N) (ga : n0 ≤ a) (hp : pc + 1 = pc') (kk : ∀ T' h', On p l e R s m args below meth c Z EL own n0 T' h' PS k n → Wr h h' a i (.int (nar .char y)) → Ary Z h' a .char N (fun q => if q = i then .int (nar .char y) else f q) → Gl p e below s Z EL R n0 Q T' (mkF m pc' L r)) : Gl p e below s Z EL R n0 Q T (mkF m pc L (.int y :: .int j :: .ref a :: r)) := by
  obtain ⟨locs, vm0, k1, X, N, eh, hSi, hk1, hWm, hown, hCH, hF⟩ := S; subst hp
  have A0 := A
  obtain ⟨cl, A, sz, z⟩ := A
  obtain ⟨q1, q2⟩ := idx_nat (c := cl) hj (by rw [sz]; exact hi)
  obtain ⟨T', h', X', eT, W, st⟩ := stC X C.1 hWm eh A q1 (g := mkF m pc L (.int y :: .int j :: .ref a :: r)) rfl rfl (hb C.2.2.1 hd)
  have N' := Fr.snoc X' N ga
  rw [q2] at W
  have hsf : Safe Z EL vm0 h a := Safe.arr hWm.alike A (by decide)
  exact (kk T' h' ⟨_, vm0, k1, X', N', eT, hSi, Nat.le_trans hk1 (CHr.wr W hsf hCH.1).2.1, hWm, hown, hCH.trans (CHr.wr W hsf hCH.1), hF.chr (CHr.wr W hsf hCH.1)⟩ W (A0.same W)).st st
theorem g_bastoreB (C : Cx p m meth c Z EL a0 own name cod maxL ret) (S : On p l e R s m args below meth c Z EL own n0 T h PS k n) {y : Int32} (hd : decode cod pc = .ok (.bastore, 1)) (A : Ary Z h a .byte N f) (hj : j.toInt = (i : Int)) (hi : i < N) (ga : n0 ≤ a) (sf : a ∈ PS) (hp : pc + 1 = pc') (kk : ∀ T' h', On p l e R s m args below meth c Z EL own n0 T' h' PS k n → Wr h h' a i (.int (nar .byte y)) → Ary Z h' a .byte N (fun q => if q = i then .int (nar .byte y) else f q) → Gl p e below s Z EL R n0 Q T' (mkF m pc' L r)) : Gl p e below s Z EL R n0 Q T (mkF m pc L (.int y :: .int j :: .ref a :: r)) := by
  obtain ⟨locs, vm0, k1, X, N, eh, hSi, hk1, hWm, hown, hCH, hF⟩ := S; subst hp
  have A0 := A
  obtain ⟨cl, A, sz, z⟩ := A
  obtain ⟨q1, q2⟩ := idx_nat (c := cl) hj (by rw [sz]; exact hi)
  obtain ⟨T', h', X', eT, W, st⟩ := stB X C.1 hWm eh A q1 (g := mkF m pc L (.int y :: .int j :: .ref a :: r)) rfl rfl (hb C.2.2.1 hd)
  have N' := Fr.snoc X' N ga
  rw [q2] at W
  have hsf : Safe Z EL vm0 h a := (hF a sf).2
  exact (kk T' h' ⟨_, vm0, k1, X', N', eT, hSi, Nat.le_trans hk1 (CHr.wr W hsf hCH.1).2.1, hWm, hown, hCH.trans (CHr.wr W hsf hCH.1), hF.chr (CHr.wr W hsf hCH.1)⟩ W (A0.same W)).st st
theorem g_bastoreZ (C : Cx p m meth c Z EL a0 own name cod maxL ret) (S : On p l e R s m args below meth c Z EL own n0 T h PS k n) {y : Int32} (hd : decode cod pc = .ok (.bastore, 1)) (A : Ary Z h a .boolean N f) (hj : j.toInt = (i : Int)) (hi : i < N) (ga : n0 ≤ a) (hp : pc + 1 = pc') (kk : ∀ T' h', On p l e R s m args below meth c Z EL own n0 T' h' PS k n → Wr h h' a i (.int (nar .boolean y)) → Ary Z h' a .boolean N (fun q => if q = i then .int (nar .boolean y) else f q) → Gl p e below s Z EL R n0 Q T' (mkF m pc' L r)) : Gl p e below s Z EL R n0 Q T (mkF m pc L (.int y :: .int j :: .ref a :: r)) := by
  obtain ⟨locs, vm0, k1, X, N, eh, hSi, hk1, hWm, hown, hCH, hF⟩ := S; subst hp
  have A0 := A
  obtain ⟨cl, A, sz, z⟩ := A
  obtain ⟨q1, q2⟩ := idx_nat (c := cl) hj (by rw [sz]; exact hi)
  obtain ⟨T', h', X', eT, W, st⟩ := stZ X C.1 hWm eh A q1 (g := mkF m pc L (.int y :: .int j :: .ref a :: r)) rfl rfl (hb C.2.2.1 hd)
  have N' := Fr.snoc X' N ga
  rw [q2] at W
  have hsf : Safe Z EL vm0 h a := Safe.arr hWm.alike A (by decide)
  exact (kk T' h' ⟨_, vm0, k1, X', N', eT, hSi, Nat.le_trans hk1 (CHr.wr W hsf hCH.1).2.1, hWm, hown, hCH.trans (CHr.wr W hsf hCH.1), hF.chr (CHr.wr W hsf hCH.1)⟩ W (A0.same W)).st st
theorem g_dastore (C : Cx p m meth c Z EL a0 own name cod maxL ret) (S : On p l e R s m args below meth c Z EL own n0 T h PS k n) {y : UInt64} (hd : decode cod pc = .ok (.dastore, 1)) (A : Ary Z h a .double N f) (hj : j.toInt = (i : Int)) (hi : i < N) (ga : n0 ≤ a) (hp : pc + 1 = pc') (kk : ∀ T' h', On p l e R s m args below meth c Z EL own n0 T' h' PS k n → Wr h h' a i (.double y) → Ary Z h' a .double N (fun q => if q = i then .double y else f q) → Gl p e below s Z EL R n0 Q T' (mkF m pc' L r)) : Gl p e below s Z EL R n0 Q T (mkF m pc L (.double y :: .int j :: .ref a :: r)) := by
  obtain ⟨locs, vm0, k1, X, N, eh, hSi, hk1, hWm, hown, hCH, hF⟩ := S; subst hp
  have A0 := A
  obtain ⟨cl, A, sz, z⟩ := A
  obtain ⟨q1, q2⟩ := idx_nat (c := cl) hj (by rw [sz]; exact hi)
  obtain ⟨T', h', X', eT, W, st⟩ := stD X C.1 hWm eh A q1 (g := mkF m pc L (.double y :: .int j :: .ref a :: r)) rfl rfl (hb C.2.2.1 hd)
  have N' := Fr.snoc X' N ga
  rw [q2] at W
  have hsf : Safe Z EL vm0 h a := Safe.arr hWm.alike A (by decide)
  exact (kk T' h' ⟨_, vm0, k1, X', N', eT, hSi, Nat.le_trans hk1 (CHr.wr W hsf hCH.1).2.1, hWm, hown, hCH.trans (CHr.wr W hsf hCH.1), hF.chr (CHr.wr W hsf hCH.1)⟩ W (A0.same W)).st st
theorem g_newarray (C : Cx p m meth c Z EL a0 own name cod maxL ret) (S : On p l e R s m args below meth c Z EL own n0 T h PS k n) {aty : ArrayType} {cap : Nat} (hd : decode cod pc = .ok (.newarray aty, 2)) (w : (Jvm.Cond.arrayClass (newarray.typeOf aty)).before a0 Z = true) (hj : j.toInt = (N : Int)) (hcap : N ≤ cap) (hbig : cap * 8 ≤ 536870912) (hc : k + 1 ≤ R.cells) (hl : n + cap ≤ R.slots) (hp : pc + 2 = pc') (kk : ∀ T' h' a, On p l e R s m args below meth c Z EL own n0 T' h' (a :: PS) (k + 1) (n + cap) → a = h.size → Ext h h' → Ary Z h' a (newarray.typeOf aty) N (fun _ => defaultValue (newarray.typeOf aty)) → Gl p e below s Z EL R n0 Q T' (mkF m pc' L (.ref a :: r))) : Gl p e below s Z EL R n0 Q T (mkF m pc L (.int j :: r)) := by
  obtain ⟨locs, vm0, k1, X, Nn, eh, hSi, hk1, hWm, hown, hCH, hF⟩ := S; subst hp
  have e1 : j.toNatClampNeg = N := by simp only [Int32.toNatClampNeg, hj]; omega
  have e2 : ¬ j < 0 := by rw [Int32.lt_iff_toInt_lt, hj]; have : (0 : Int32).toInt = 0 := rfl; omega
  obtain ⟨T', h', cA, X', eT, E, A, st⟩ := newP X C.1 hWm w eh (g := mkF m pc L (.int j :: r)) rfl (hb C.2.2.1 hd) rfl e2 (cap := cap) (by rw [e1]; exact hcap) hbig hc hl
  refine (kk T' h' h.size ⟨_, vm0, k1, X', Nn, eT, hSi, Nat.le_trans hk1 E.1, hWm, hown, hCH.trans (CHr.ext E hCH.1), (hF.chr (CHr.ext E hCH.1)).cons A.lt (Safe.ext E hCH.1 (Safe.new (Nat.le_refl _)))⟩ rfl E ⟨_, A, by rw [sz_new]; exact e1, fun i hi => ?_⟩).st st
  simp [newA, e1, hi]
def OvH (Z : State) (h : Heap) (a : Addr) (ty : FieldType) (K : String) : Prop := ∃ cl t0, Arr Z h a cl t0 ∧ OvrA Z cl.cls ty K
theorem OvH.ext {K : String} (F : OvH Z h a ty K) (E : Ext h h') : OvH Z h' a ty K := by obtain ⟨cl, t0, A, o⟩ := F; exact ⟨cl, t0, A.ext E, o⟩
theorem OvH.wr {K : String} (F : OvH Z h a ty K) (W : Wr h h' b sl v) : OvH Z h' a ty K := by
  obtain ⟨cl, t0, A, o⟩ := F
  by_cases e : a = b
  · subst e; exact ⟨_, t0, A.same W, o⟩
  · exact ⟨cl, t0, A.other W e, o⟩
theorem OvH.sto {K : String} {y : Addr} (F : OvH Z h a ty K) (I : Exa Z h y K) : Sto Z h a (.ref y) := by obtain ⟨cl, t0, A, o⟩ := F; exact Sto.ofVA A rfl o (Ins.self I)
theorem g_newarrayX (C : Cx p m meth c Z EL a0 own name cod maxL ret) (S : On p l e R s m args below meth c Z EL own n0 T h PS k n) {aty : ArrayType} {cap : Nat} (hd : decode cod pc = .ok (.newarray aty, 2)) (w : (Jvm.Cond.arrayClass (newarray.typeOf aty)).before a0 Z = true) (hj : j.toInt = (N : Int)) (hcap : N ≤ cap) (hbig : cap * 8 ≤ 536870912) (hc : k + 1 ≤ R.cells) (hl : n + cap ≤ R.slots) (hp : pc + 2 = pc') (kk : ∀ T' h' a, On p l e R s m args below meth c Z EL own n0 T' h' (a :: PS) (k + 1) (n + cap) → a = h.size → Ext h h' → Ary Z h' a (newarray.typeOf aty) N (fun _ => defaultValue (newarray.typeOf aty)) → Exa Z h' a ("[" ++ (newarray.typeOf aty).toString) → Gl p e below s Z EL R n0 Q T' (mkF m pc' L (.ref a :: r))) : Gl p e below s Z EL R n0 Q T (mkF m pc L (.int j :: r)) := by
  obtain ⟨locs, vm0, k1, X, Nn, eh, hSi, hk1, hWm, hown, hCH, hF⟩ := S; subst hp
  have e1 : j.toNatClampNeg = N := by simp only [Int32.toNatClampNeg, hj]; omega
  have e2 : ¬ j < 0 := by rw [Int32.lt_iff_toInt_lt, hj]; have : (0 : Int32).toInt = 0 := rfl; omega
  obtain ⟨T', h', cA, X', eT, E, A, B, st⟩ := newPE X C.1 hWm w eh (g := mkF m pc L (.int j :: r)) rfl (hb C.2.2.1 hd) rfl e2 (cap := cap) (by rw [e1]; exact hcap) hbig hc hl rfl
  refine (kk T' h' h.size ⟨_, vm0, k1, X', Nn, eT, hSi, Nat.le_trans hk1 E.1, hWm, hown, hCH.trans (CHr.ext E hCH.1), (hF.chr (CHr.ext E hCH.1)).cons A.lt (Safe.ext E hCH.1 (Safe.new (Nat.le_refl _)))⟩ rfl E ⟨_, A, by rw [sz_new]; exact e1, fun i hi => ?_⟩ B).st st
  simp [newA, e1, hi]
theorem g_anewarrayA (C : Cx p m meth c Z EL a0 own name cod maxL ret) (S : On p l e R s m args below meth c Z EL own n0 T h PS k n) {K : String} {q cap : Nat} (hd : decode cod pc = .ok (.anewarray q, 3)) (hK : (FieldType.array ty).toString = K) (w : (Jvm.Cond.classLink own q K).before a0 Z = true) (w2 : (Jvm.Cond.arrayOver (.array ty)).before a0 Z = true) (hj : j.toInt = (N : Int)) (hcap : N ≤ cap) (hbig : cap * 8 ≤ 536870912) (hc : k + 1 ≤ R.cells) (hl : n + cap ≤ R.slots) (hp : pc + 3 = pc') (kk : ∀ T' h' a, On p l e R s m args below meth c Z EL own n0 T' h' (a :: PS) (k + 1) (n + cap) → a = h.size → Ext h h' → Ary Z h' a (.array ty) N (fun _ => .null) → OvH Z h' a ty K → Gl p e below s Z EL R n0 Q T' (mkF m pc' L (.ref a :: r))) : Gl p e below s Z EL R n0 Q T (mkF m pc L (.int j :: r)) := by
  obtain ⟨locs, vm0, k1, X, Nn, eh, hSi, hk1, hWm, hown, hCH, hF⟩ := S; subst hp
  have e1 : j.toNatClampNeg = N := by simp only [Int32.toNatClampNeg, hj]; omega
  have e2 : ¬ j < 0 := by rw [Int32.lt_iff_toInt_lt, hj]; have : (0 : Int32).toInt = 0 := rfl; omega
  obtain ⟨T', h', cA, X', eT, E, A, -, o, st⟩ := newRA X C.1 hWm hown hK w w2 eh (g := mkF m pc L (.int j :: r)) rfl (hb C.2.2.1 hd) rfl e2 (cap := cap) (by rw [e1]; exact hcap) hbig hc hl rfl
  refine (kk T' h' h.size ⟨_, vm0, k1, X', Nn, eT, hSi, Nat.le_trans hk1 E.1, hWm, hown, hCH.trans (CHr.ext E hCH.1), (hF.chr (CHr.ext E hCH.1)).cons A.lt (Safe.ext E hCH.1 (Safe.new (Nat.le_refl _)))⟩ rfl E ⟨_, A, by rw [sz_new]; exact e1, fun i hi => ?_⟩ ⟨_, _, A, o⟩).st st
  simp [newA, e1, hi, defaultValue]
theorem g_aastore (C : Cx p m meth c Z EL a0 own name cod maxL ret) (S : On p l e R s m args below meth c Z EL own n0 T h PS k n) (hd : decode cod pc = .ok (.aastore, 1)) (A : Ary Z h a ty N f) (hty : ty.isReference = true) (F : Sto Z h a v) (hj : j.toInt = (i : Int)) (hi : i < N) (ga : n0 ≤ a) (hp : pc + 1 = pc') (kk : ∀ T' h', On p l e R s m args below meth c Z EL own n0 T' h' PS k n → Wr h h' a i v → Ary Z h' a ty N (fun q => if q = i then v else f q) → Gl p e below s Z EL R n0 Q T' (mkF m pc' L r)) : Gl p e below s Z EL R n0 Q T (mkF m pc L (v :: .int j :: .ref a :: r)) := by
  obtain ⟨locs, vm0, k1, X, N, eh, hSi, hk1, hWm, hown, hCH, hF⟩ := S; subst hp
  have A0 := A
  obtain ⟨cl, A, sz, z⟩ := A
  obtain ⟨q1, q2⟩ := idx_nat (c := cl) hj (by rw [sz]; exact hi)
  obtain ⟨T', h', X', eT, W, st⟩ := stR X C.1 hWm eh A q1 hty F (g := mkF m pc L (v :: .int j :: .ref a :: r)) rfl rfl (hb C.2.2.1 hd)
  have N' := Fr.snoc X' N ga
  rw [q2] at W
  have hsf : Safe Z EL vm0 h a := Safe.arr hWm.alike A (fun q => by subst q; cases hty)
  exact (kk T' h' ⟨_, vm0, k1, X', N', eT, hSi, Nat.le_trans hk1 (CHr.wr W hsf hCH.1).2.1, hWm, hown, hCH.trans (CHr.wr W hsf hCH.1), hF.chr (CHr.wr W hsf hCH.1)⟩ W (A0.same W)).st st
theorem g_ldcS (C : Cx p m meth c Z EL a0 own name cod maxL ret) (S : On p l e R s m args below meth c Z EL own n0 T h PS k n) {text : String} {i nn N : Nat} {zz : Int32} {vs : List Value} (hd : decode cod pc = .ok (.ldc i, 2)) (w : (Jvm.Cond.stringLink own i text).before a0 Z = true) (hmem : (own, i) ∈ EL) (ht : (∀ c ∈ text.toList, c.toNat < 256) ∧ text.toList.map (fun c => Value.int (Jvm.Lit.byteI c.toNat.toUInt16)) = vs) (hz : ¬ zz < 0) (hzl : zz.toNatClampNeg = vs.length) (hN : vs.length = N) (hn : 4 * text.toList.length ≤ nn) (hbig : nn ≤ 536870912) (hc : k + 2 ≤ R.cells) (hl : n + (nn + 4) ≤ R.slots) (hp : pc + 2 = pc')
    (kk : ∀ T' h' a b, On p l e R s m args below meth c Z EL own n0 T' h' PS (k + 2) (n + (nn + 4)) → Ext h h' → Exa Z h' a "java/lang/String" → Fld Z h' a "java/lang/String" "coder" "B" (.int 0) → Fld Z h' a "java/lang/String" "value" "[B" (.ref b) → Ary Z h' b .byte N (fun q => vs.getD q (.int 0)) → (∀ x ∈ PS, x ≠ a ∧ x ≠ b) → Gl p e below s Z EL R n0 Q T' (mkF m pc' L (.ref a :: r))) : Gl p e below s Z EL R n0 Q T (mkF m pc L r) := by
  obtain ⟨locs, vm0, k1, X, Nf, eh, hSi, hk1, hWm, hown, hCH, hF⟩ := S; subst hp
  obtain ⟨a, T', h', k2, b, kc, X', eT, E, hS2, hk2, hW2, hown2, x1, x2, x3, x4, x5, x6, hC2, -, hne, st⟩ := ldcCH (g := mkF m pc L r) X C.1 hWm hown w C.2.1.2 eh hSi hk1 C.2.1.1 hmem hCH.1 ht hz hzl rfl (hb C.2.2.1 hd) hn hbig hc hl
  have hF2 := hF.chr hC2
  obtain ⟨cl, A, -, z1, -, z2, -⟩ := x4
  subst hN
  refine (kk T' h' a b ⟨locs, T'.vm, k2, X', Nf, eT, hS2, hk2, hW2, hown2, hCH.trans hC2, hF2⟩ E x1 x2 x3 ⟨cl, A, z1.trans hzl, fun q hq => z2 q (by rw [z1, hzl]; exact hq)⟩ (fun x q => hne x (hF2 x q).2)).st st
theorem g_retB {z : Int32} (C : Cx p m meth c Z EL a0 own name cod maxL (some .byte)) (S : On p l e R s m args below meth c Z EL own n0 T h PS k n) (hd : decode cod pc = .ok (.ireturn, 1)) (hz : narrow .byte (.int z) = .int z) (hk : k ≤ R.cells) (hn : n ≤ R.slots) (q : Q (some (.int z)) h PS) : Gl p e below s Z EL R n0 Q T (mkF m pc L (.int z :: r)) := g_retv C S hd hz (Or.inl ⟨rfl, Or.inr (Or.inr (Or.inl rfl)), z, rfl⟩) hk hn q
theorem g_retC {z : Int32} (C : Cx p m meth c Z EL a0 own name cod maxL (some .char)) (S : On p l e R s m args below meth c Z EL own n0 T h PS k n) (hd : decode cod pc = .ok (.ireturn, 1)) (hz : narrow .char (.int z) = .int z) (hk : k ≤ R.cells) (hn : n ≤ R.slots) (q : Q (some (.int z)) h PS) : Gl p e below s Z EL R n0 Q T (mkF m pc L (.int z :: r)) := g_retv C S hd hz (Or.inl ⟨rfl, Or.inr (Or.inr (Or.inr (Or.inl rfl))), z, rfl⟩) hk hn q
theorem g_inst (C : Cx p m meth c Z EL a0 own name cod maxL ret) (S : On p l e R s m args below meth c Z EL own n0 T h PS k n) {K : String} {i : Nat} (hd : decode cod pc = .ok (.instanceof i, 3)) (w : (Jvm.Cond.classLink own i K).before a0 Z = true) (E : Exa Z h a K) (hp : pc + 3 = pc') (kk : ∀ T', On p l e R s m args below meth c Z EL own n0 T' h PS k n → Gl p e below s Z EL R n0 Q T' (mkF m pc' L (.int 1 :: r))) : Gl p e below s Z EL R n0 Q T (mkF m pc L (.ref a :: r)) := by
  obtain ⟨locs, vm0, k1, X, N, eh, hSi, hk1, hWm, hown, hCH, hF⟩ := S; subst hp
  obtain ⟨T', X', eT, st⟩ := instY X C.1 hWm hown w eh (Ins.self E) (g := mkF m pc L (.ref a :: r)) rfl rfl (hb C.2.2.1 hd)
  exact (kk T' ⟨locs, vm0, k1, X', N, eT, hSi, hk1, hWm, hown, hCH, hF⟩).st st
theorem g_cast (C : Cx p m meth c Z EL a0 own name cod maxL ret) (S : On p l e R s m args below meth c Z EL own n0 T h PS k n) {K : String} {i : Nat} (hd : decode cod pc = .ok (.checkcast i, 3)) (w : (Jvm.Cond.classLink own i K).before a0 Z = true) (E : Exa Z h a K) (hp : pc + 3 = pc') (kk : ∀ T', On p l e R s m args below meth c Z EL own n0 T' h PS k n → Gl p e below s Z EL R n0 Q T' (mkF m pc' L (.ref a :: r))) : Gl p e below s Z EL R n0 Q T (mkF m pc L (.ref a :: r)) := by
  obtain ⟨locs, vm0, k1, X, N, eh, hSi, hk1, hWm, hown, hCH, hF⟩ := S; subst hp
  obtain ⟨T', X', eT, st⟩ := castY X C.1 hWm hown w eh (Ins.self E) (g := mkF m pc L (.ref a :: r)) rfl rfl (hb C.2.2.1 hd)
  exact (kk T' ⟨locs, vm0, k1, X', N, eT, hSi, hk1, hWm, hown, hCH, hF⟩).st st
theorem clamp_of {x : Int32} {i : Nat} (hx : x.toInt = (i : Int)) : ¬ x < 0 ∧ x.toNatClampNeg = i := by
  refine ⟨?_, by simp only [Int32.toNatClampNeg, hx]; omega⟩
  rw [Int32.lt_iff_toInt_lt, hx]
  have : (0 : Int32).toInt = 0 := rfl
  omega
theorem Ary.arv (A : Ary Z h a ty N f) (hN : N < 2147483648) (hf : ∀ i, i < N → fits ty (f i) = true) : ∃ kc, Arv Z h a kc ty (Int32.ofNat N) ((List.range N).map f) (.int 0) := by
  obtain ⟨cl, A, sz, z⟩ := A
  have e : (Int32.ofNat N).toInt = (N : Int) := Int32.toInt_ofNat_small hN
  obtain ⟨e1, e2⟩ := clamp_of e
  have g : ∀ i, i < N → ((List.range N).map f).getD i (.int 0) = f i := fun i hi => by simp [List.getD_eq_getElem?_getD, hi]
  exact ⟨cl.cls, cl, A, rfl, by rw [e2]; exact sz, e1, fun i hi => by rw [sz] at hi; rw [g i hi]; exact z i hi, fun i hi => by rw [sz] at hi; rw [g i hi]; exact hf i hi⟩
theorem g_acopy (C : Cx p m meth c Z EL a0 own name cod maxL ret) (S : On p l e R s m args below meth c Z EL own n0 T h PS k n) {x y z : Int32} {i1 i2 i3 M i W : Nat} {f2 : Nat → Value} (hd : decode cod pc = .ok (.invokestatic i, 3)) (w1 : (Jvm.Cond.methodLink own i Jvm.Stand.acN).before a0 Z = true) (w2 : (Jvm.Cond.native Jvm.Stand.acN).before a0 Z = true) (w3 : (Jvm.Cond.static Jvm.Stand.acN).before a0 Z = true) (w4 : (Jvm.Cond.initialized "java/lang/System").before a0 Z = true)
    (A : Ary Z h a .byte N f) (B : Ary Z h b .byte M f2) (fA : ∀ i, i < N → fits .byte (f i) = true) (fB : ∀ i, i < M → fits .byte (f2 i) = true) (hN : N < 2147483648) (hM : M < 2147483648) (hx : x.toInt = (i1 : Int)) (hy : y.toInt = (i2 : Int)) (hz : z.toInt = (i3 : Int)) (h4 : i1 + i3 ≤ N) (h5 : i2 + i3 ≤ M) (ge : n0 ≤ b) (sf : b ∈ PS)
    (hsz : L.size = maxL) (hf : 1 ≤ R.frames) (hW : (r.map fun v => v.category).sum ≤ W) (hlo : W + 18 ≤ R.locals) (hp : pc + 3 = pc')
    (kk : ∀ T' h', On p l e R s m args below meth c Z EL own n0 T' h' PS k n → Keep h h' [b] → Ary Z h' b .byte M (fun q => if i2 ≤ q ∧ q < i2 + i3 then f (i1 + (q - i2)) else f2 q) → Gl p e below s Z EL R n0 Q T' (mkF m pc' L r)) : Gl p e below s Z EL R n0 Q T (mkF m pc L (.int z :: .int y :: .ref b :: .int x :: .ref a :: r)) := by
  obtain ⟨locs, vm0, k1, X, N0, eh, hSi, hk1, hWm, hown, hCH, hF⟩ := S; subst hp
  obtain ⟨ka, A'⟩ := A.arv hN fA
  obtain ⟨kb, B'⟩ := B.arv hM fB
  obtain ⟨x1, x2⟩ := clamp_of hx
  obtain ⟨y1, y2⟩ := clamp_of hy
  obtain ⟨z1, z2⟩ := clamp_of hz
  obtain ⟨-, n2⟩ := clamp_of (Int32.toInt_ofNat_small hN)
  obtain ⟨-, m2⟩ := clamp_of (Int32.toInt_ofNat_small hM)
  obtain ⟨T', h', L', X', eT, N', K, V, st⟩ := cpA X C.1 hWm hown w1 w2 w3 w4 eh A' B' (Or.inl ⟨rfl, rfl⟩) x1 y1 z1 (by rw [x2, z2, n2]; exact h4) (by rw [y2, z2, m2]; exact h5) rfl (by rw [y2, z2]; simpa using h5) N0 ge (g := mkF m pc L (.int z :: .int y :: .ref b :: .int x :: .ref a :: r)) rfl (hsz.trans C.2.2.2.1.symm) rfl (hb C.2.2.1 hd) hf (W := W) (by simpa using hW) (by rw [nativeFrameWords_plain 5 (by decide)]; omega)
  have hsf : ∀ x ∈ [b], Safe Z EL vm0 h x := fun x q => by rw [List.mem_singleton.mp q]; exact (hF b sf).2
  refine (kk T' h' ⟨L', vm0, k1, X', N', eT, hSi, Nat.le_trans hk1 K.1, hWm, hown, hCH.trans (CHr.keep K hsf hCH.1), hF.chr (CHr.keep K hsf hCH.1)⟩ K ?_).st st
  obtain ⟨cl, Q1, -, Q2, -, Q3, -⟩ := V
  rw [m2] at Q2
  refine ⟨cl, Q1, Q2, fun q hq => ?_⟩
  rw [Q3 q (by rw [Q2]; exact hq), x2, y2, z2]
  congr 1
  simp only [List.getD_eq_getElem?_getD]
  have ltk : (((List.range M).map f2).take i2).length = i2 := by simp; omega
  by_cases c1 : q < i2
  · rw [if_neg (by omega), List.append_assoc, List.getElem?_append_left (by omega), List.getElem?_take_of_lt c1]; simp [hq]
  · by_cases c2 : q < i2 + i3
    · rw [if_pos ⟨by omega, c2⟩, List.getElem?_append_left (by rw [List.length_append, ltk]; simp; omega), List.getElem?_append_right (by omega), ltk]
      simp [show q - i2 < i3 by omega, show i1 + (q - i2) < N by omega]
    · rw [if_neg (by omega), List.getElem?_append_right (by rw [List.length_append, ltk]; simp; omega), List.length_append, ltk]
      simp [show i2 + i3 + (q - (i2 + i3)) = q by omega, hq]
theorem fld_uniq {C nm d : String} {v v' : Value} (F : Fld Z h a C nm d v) (F' : Fld Z h a C nm d v') : v = v' := by
  obtain ⟨cell, cf, kf, i, fd, h1, h2, h3, h4, h5, h6, h7⟩ := F
  obtain ⟨cell', cf', kf', i', fd', g1, g2, g3, g4, g5, g6, g7⟩ := F'
  cases h1.symm.trans g1
  cases h2.symm.trans g2
  exact Option.some.inj (h7.symm.trans g7)
theorem Ary.uniq {ty' : FieldType} {M : Nat} {f2 : Nat → Value} (A : Ary Z h a ty N f) (B : Ary Z h a ty' M f2) : N = M ∧ ∀ i, i < N → f i = f2 i := by
  obtain ⟨c, A, s, z⟩ := A
  obtain ⟨c', B, s', z'⟩ := B
  cases A.1.symm.trans B.1
  exact ⟨s.symm.trans s', fun i hi => Option.some.inj ((z i hi).symm.trans (z' i (by omega)))⟩
theorem On.hd (S : On p l e R s m args below meth c Z EL own n0 T h (a :: PS) k n) : a ∈ a :: PS := List.mem_cons_self
theorem Ary.nostat (A : Ary Z h a ty N f) : ∀ cell : Cell, h[a]? = some cell → cell.vm.isStatics = false := fun cell q => by
  obtain ⟨c, A, -⟩ := A
  have e := Option.some.inj (A.1.symm.trans q)
  subst e
  have := A.2.1.1
  cases hv : c.vm <;> simp_all [VmData.isStatics]
theorem Sta.keep0 {C nm d : String} (F : Sta Z h C nm d v) (K : Keep h h' []) : Sta Z h' C nm d v := by
  obtain ⟨cf, i, k, f, st, cell, h1, h2, h3, h4, h5, r⟩ := F; exact ⟨cf, i, k, f, st, cell, h1, h2, h3, h4, K.2.1 _ _ h5 nin0, r⟩
theorem Sta.keep1 {C nm d : String} (F : Sta Z h C nm d v) (K : Keep h h' [a]) (q : ∀ cell : Cell, h[a]? = some cell → cell.vm.isStatics = false) : Sta Z h' C nm d v := by
  obtain ⟨cf, i, k, f, st, cell, h1, h2, h3, h4, h5, h6, r⟩ := F; exact ⟨cf, i, k, f, st, cell, h1, h2, h3, h4, K.2.1 _ _ h5 (ninS (fun e => by subst e; rw [q _ h5] at h6; cases h6) nin0), h6, r⟩
theorem On.mono {k' n' : Nat} (S : On p l e R s m args below meth c Z EL own n0 T h PS k n) (h1 : k ≤ k') (h2 : n ≤ n') : On p l e R s m args below meth c Z EL own n0 T h PS k' n' := by
  obtain ⟨locs, vm0, k1, X, q⟩ := S; exact ⟨locs, vm0, k1, X.mono h1 h2, q⟩
/-- an array that may be cloned -/
def Cln (Z : State) (h : Heap) (a : Addr) (ty : FieldType) (n : Nat) (f : Nat → Value) : Prop := ∃ c : Cell, Arr Z h a c ty ∧ c.slots.size = n ∧ (∀ i, i < n → c.slots[i]? = some (f i)) ∧ FitC Z c
theorem Cln.lt (A : Cln Z h a ty N f) : a < h.size := by obtain ⟨c, A, -⟩ := A; exact A.lt
theorem Cln.ext (A : Cln Z h a ty N f) (E : Ext h h') : Cln Z h' a ty N f := by obtain ⟨c, A, q⟩ := A; exact ⟨c, A.ext E, q⟩
theorem Cln.other (A : Cln Z h a ty N f) (W : Wr h h' b sl v) (q : a ≠ b) : Cln Z h' a ty N f := by obtain ⟨c, A, z⟩ := A; exact ⟨c, A.other W q, z⟩
theorem Cln.keep (A : Cln Z h a ty N f) (K : Keep h h' ws) (q : a ∉ ws) : Cln Z h' a ty N f := by obtain ⟨c, A, z⟩ := A; exact ⟨c, ⟨K.2.1 a c A.1 q, A.2⟩, z⟩
theorem g_clone (C : Cx p m meth c Z EL a0 own name cod maxL ret) (S : On p l e R s m args below meth c Z EL own n0 T h PS k n) {ad : String} {i W cap : Nat} (hd : decode cod pc = .ok (.invokevirtual i, 3)) (w1 : (Jvm.Cond.methodLink own i ⟨ad, "clone", "()Ljava/lang/Object;"⟩).before a0 Z = true) (w2 : (Jvm.Cond.sameMethod ad "java/lang/Object" "clone" "()Ljava/lang/Object;").before a0 Z = true) (w3 : (Jvm.Cond.native ⟨"java/lang/Object", "clone", "()Ljava/lang/Object;"⟩).before a0 Z = true)
    (w4 : (Jvm.Cond.instanceMethod ⟨"java/lang/Object", "clone", "()Ljava/lang/Object;"⟩).before a0 Z = true) (w5 : (Jvm.Cond.selects ad ⟨ad, "clone", "()Ljava/lang/Object;"⟩ ⟨"java/lang/Object", "clone", "()Ljava/lang/Object;"⟩).before a0 Z = true) (w6 : (Jvm.Cond.castable ad "java/lang/Cloneable").before a0 Z = true)
    (A : Cln Z h a ty N f) (E : Exa Z h a ad) (hsz : L.size = maxL) (hf : 1 ≤ R.frames) (hW : (r.map fun v => v.category).sum ≤ W) (hlo : W + 14 ≤ R.locals) (hcap : N ≤ cap) (hc : k + 1 ≤ R.cells) (hl : n + cap ≤ R.slots) (hp : pc + 3 = pc')
    (kk : ∀ T' h' b, On p l e R s m args below meth c Z EL own n0 T' h' (b :: PS) (k + 1) (n + cap) → b = h.size → Ext h h' → Ary Z h' b ty N f → Exa Z h' b ad → Gl p e below s Z EL R n0 Q T' (mkF m pc' L (.ref b :: r))) : Gl p e below s Z EL R n0 Q T (mkF m pc L (.ref a :: r)) := by
  obtain ⟨locs, vm0, k1, X, Nn, eh, hSi, hk1, hWm, hown, hCH, hF⟩ := S; subst hp
  obtain ⟨cl, A, sz, z, FC⟩ := A
  obtain ⟨T', h', X', eT, E', A', B', st⟩ := cloneA X C.1 hWm hown w1 w2 w3 w4 w5 w6 eh A E FC (g := mkF m pc L (.ref a :: r)) rfl (hsz.trans C.2.2.2.1.symm) rfl (hb C.2.2.1 hd) hf (W := W) (by simpa using hW) hlo (by rw [sz]; exact hcap) hc hl
  exact (kk T' h' h.size ⟨_, vm0, k1, X', Nn, eT, hSi, Nat.le_trans hk1 E'.1, hWm, hown, hCH.trans (CHr.ext E' hCH.1), (hF.chr (CHr.ext E' hCH.1)).cons A'.lt (Safe.ext E' hCH.1 (Safe.new (Nat.le_refl _)))⟩ rfl E' ⟨_, A', sz, z⟩ B').st st
theorem g_instN (C : Cx p m meth c Z EL a0 own name cod maxL ret) (S : On p l e R s m args below meth c Z EL own n0 T h PS k n) {i : Nat} (hd : decode cod pc = .ok (.instanceof i, 3)) (hp : pc + 3 = pc') (kk : Gl p e below s Z EL R n0 Q T (mkF m pc' L (.int 0 :: r))) : Gl p e below s Z EL R n0 Q T (mkF m pc L (.null :: r)) := by
  obtain ⟨locs, vm0, k1, X, -⟩ := S; subst hp
  exact kk.st (X.instanceofNull C.1 (g := mkF m pc L (.null :: r)) rfl rfl (hb C.2.2.1 hd))
theorem ge_of {z : Nat} (e1 : a = z) (q : n0 ≤ z) : n0 ≤ a := e1 ▸ q
theorem ne_new (e1 : b = h.size) (q : a < h.size) : a ≠ b := fun e => by rw [e, e1] at q; exact Nat.lt_irrefl _ q
end OwnKit
theorem elw {Z : State} {a0 : Array Value} (hw : ∀ d ∈ tables_1, d.before a0 Z = true) : EW Z a0 consts_1 ∧ ∀ a ∈ Bundle.stringAtoms, a.before a0 Z = true := by
  refine ⟨(EW.cons (hw _ (List.mem_of_getElem? (i := 71) rfl)) (by decide) (EW.cons (hw _ (List.mem_of_getElem? (i := 94) rfl)) (by decide) (EW.cons (hw _ (List.mem_of_getElem? (i := 23) rfl)) (by decide) (EW.cons (hw _ (List.mem_of_getElem? (i := 15) rfl)) (by decide) EW.nil)))), fun a ha => ?_⟩
  simp only [Bundle.stringAtoms, Bundle.sN, List.mem_cons, List.not_mem_nil, or_false] at ha
  rcases ha with rfl | rfl | rfl | rfl | rfl | rfl | rfl
  · exact (hw _ (List.mem_of_getElem? (i := 4) rfl))
  · exact (hw _ (List.mem_of_getElem? (i := 3) rfl))
  · exact (hw _ (List.mem_of_getElem? (i := 16) rfl))
  · exact (hw _ (List.mem_of_getElem? (i := 17) rfl))
  · exact (hw _ (List.mem_of_getElem? (i := 18) rfl))
  · exact (hw _ (List.mem_of_getElem? (i := 19) rfl))
  · exact (hw _ (List.mem_of_getElem? (i := 20) rfl))
/-! ## bytes and chars in plain numbers -/
theorem o32 {k : Nat} (h : k < 2 ^ 31) : (Int32.ofNat k).toInt = (k : Int) := Int32.toInt_ofNat_small h
theorem o32_succ (k : Nat) : Int32.ofNat k + 1 = Int32.ofNat (k + 1) := (Int32.ofNat_add k 1).symm
theorem o32_sub (j k : Nat) : Int32.ofNat (j + k) - Int32.ofNat k = Int32.ofNat j := by rw [Int32.ofNat_add, Int32.add_sub_cancel]
theorem o32_lt {j k : Nat} (hj : j < 2 ^ 31) (hk : k < 2 ^ 31) : (Int32.ofNat j < Int32.ofNat k) ↔ j < k := by rw [Int32.lt_iff_toInt_lt, o32 hj, o32 hk]; omega
theorem o32_inj {j k : Nat} (hj : j < 2 ^ 31) (hk : k < 2 ^ 31) : (Int32.ofNat j = Int32.ofNat k) ↔ j = k := by rw [← Int32.toInt_inj, o32 hj, o32 hk]; omega
theorem o32_neg {k : Nat} (h : k < 2 ^ 31) : ¬ Int32.ofNat k < 0 := fun z => by
  rw [Int32.lt_iff_toInt_lt, o32 h] at z
  have : (0 : Int32).toInt = 0 := rfl
  omega
def bt (c : Int32) : Int32 := c.toInt8.toInt32
theorem bt_idem (c : Int32) : (bt c).toInt8.toInt32 = bt c := by unfold bt; rw [Int8.toInt8_toInt32]
theorem bt_toInt (c : Int32) : (bt c).toInt = c.toInt.bmod 256 := by unfold bt; rw [Int8.toInt_toInt32, Int32.toInt_toInt8]
theorem bt_fits (c : Int32) : fits .byte (.int (bt c)) = true := Jvm.Free.SBG.fits_of_int8 _
def Lat (cf : Nat → Int32) (N : Nat) : Prop := ∀ i, i < N → 0 ≤ (cf i).toInt ∧ (cf i).toInt ≤ 255
theorem bt_inj {c d : Int32} (hc : 0 ≤ c.toInt ∧ c.toInt ≤ 255) (hd : 0 ≤ d.toInt ∧ d.toInt ≤ 255) (h : bt c = bt d) : c = d := by
  have e := congrArg Int32.toInt h
  rw [bt_toInt, bt_toInt, Int.bmod_def, Int.bmod_def] at e
  rw [← Int32.toInt_inj]
  split at e <;> split at e <;> omega
theorem lat_255 {c : Int32} (h : c.toInt ≤ 255) : ¬ (255 : Int32) < c := fun z => by
  rw [Int32.lt_iff_toInt_lt] at z
  have : (255 : Int32).toInt = 255 := by decide
  omega
theorem cm_set {cf : Nat → Int32} (N i : Nat) : ∀ q, q < N → (if q = i then Value.int (nar .byte ((cf i).toInt8.toInt32)) else if q < i then .int (bt (cf q)) else .int 0) = (if q < i + 1 then .int (bt (cf q)) else .int 0) := fun q hq => by
  by_cases u : q = i
  · subst u; rw [if_pos rfl, if_pos (Nat.lt_succ_self _)]; exact congrArg Value.int (bt_idem (cf q))
  · rw [if_neg u]
    by_cases w : q < i
    · rw [if_pos w, if_pos (by omega)]
    · rw [if_neg w, if_neg (by omega)]
theorem sub_self_b (x : Int32) : (((x - x).toUInt32 >>> ((31 : Int32) &&& 31).toUInt32).toInt32.toInt8.toInt32) = 0 := by rw [Int32.sub_self]; decide
theorem z32_of {k : Nat} (h : k < 2 ^ 31) (e : Int32.ofNat k = 0) : k = 0 := (o32_inj h (by decide)).mp e
theorem mask_lat (x : Int32) : 0 ≤ (x &&& 255).toInt ∧ (x &&& 255).toInt ≤ 255 := by
  have e := Jvm.Kit.i32_mask x 255 (k := 8) (by decide) (by decide)
  omega
theorem draw_lat (x : Int32) : 0 ≤ ((x &&& 255).toUInt32.toUInt16.toUInt32.toInt32).toInt ∧ ((x &&& 255).toUInt32.toUInt16.toUInt32.toInt32).toInt ≤ 255 := by rw [i2c_mask]; exact mask_lat x
theorem char_nar {c : Int32} (h : 0 ≤ c.toInt ∧ c.toInt ≤ 255) : narrow .char (.int c) = .int c := by
  have e : c = c &&& 255 := by
    have e := Jvm.Kit.i32_mask c 255 (k := 8) (by decide) (by decide)
    rw [← Int32.toInt_inj]; omega
  rw [e]
  exact congrArg Value.int (i2c_mask c)
theorem nar_char {c : Int32} (h : 0 ≤ c.toInt ∧ c.toInt ≤ 255) : nar .char c = c := by
  have e := char_nar h
  exact Value.int.inj e
theorem exa_ary {Z : State} {h : Heap} {x b : Addr} {K : String} {ty : FieldType} {N : Nat} {f : Nat → Value} {a0 : Array Value} {n : Nat} (E : Exa Z h x K) (A : Ary Z h b ty N f) (w : (Jvm.Cond.instantiable K n).before a0 Z = true) : x ≠ b := fun e => by
  subst e
  obtain ⟨c, k, e1, e2, e3, -, -⟩ := E
  obtain ⟨c', A, -⟩ := A
  have q := Option.some.inj (A.1.symm.trans e1)
  subst q
  obtain ⟨-, kA, hkA, comp, hkind⟩ := A.2.1
  obtain ⟨cI, kI, hfI, hkI, hkindI, -⟩ := Cond.instantiable_spec w
  have q := Option.some.inj (hfI.symm.trans e2)
  subst q
  have q := Option.some.inj (hkA.symm.trans hkI)
  subst q
  rw [hkindI] at hkind; cases hkind
theorem of_not_ne {x y : Int32} (h : x = y) : x = y := h
theorem shr0 (x : Int32) : x >>> ((0 : Int32) &&& 31) = x := by
  rw [show ((0 : Int32) &&& 31) = 0 by decide]
  exact Int32.shiftRight_zero
def Byt (g : Nat → Int32) (N : Nat) : Prop := ∀ i, i < N → fits .byte (.int (g i)) = true
theorem Byt.of (cf : Nat → Int32) (N : Nat) : Byt (fun q => bt (cf q)) N := fun i _ => bt_fits _
/-- what indexOf(' ') finds -/
def IxAt (g : Nat → Int32) (N : Nat) (v : Option Value) : Prop := (∃ i, i < N ∧ v = some (.int (Int32.ofNat i)) ∧ g i = 32 ∧ ∀ j, j < i → ¬ g j = 32) ∨ (v = some (.int (-1)) ∧ ∀ j, j < N → ¬ g j = 32)
def EqAt (g g' : Nat → Int32) (N M : Nat) (v : Option Value) : Prop := (v = some (.int 1) ∧ N = M ∧ ∀ i, i < N → g i = g' i) ∨ (v = some (.int 0) ∧ ¬ (N = M ∧ ∀ i, i < N → g i = g' i))
theorem eq_step {g g' : Nat → Int32} {i : Nat} (h : ∀ j, j < i → g j = g' j) (e : g i = g' i) : ∀ j, j < i + 1 → g j = g' j := fun j hj => by
  rcases Nat.lt_or_ge j i with q | q
  · exact h j q
  · have : j = i := by omega
    rw [this]; exact e
theorem ne_step {g : Nat → Int32} {i : Nat} {c : Int32} (h : ∀ j, j < i → ¬ g j = c) (e : ¬ g i = c) : ∀ j, j < i + 1 → ¬ g j = c := fun j hj => by
  rcases Nat.lt_or_ge j i with q | q
  · exact h j q
  · have : j = i := by omega
    rw [this]; exact e
theorem b32 : ((32 : Int32).toInt8.toInt32) = 32 := by decide
theorem vint_inj {x y : Int32} (h : Value.int x = .int y) : x = y := Value.int.inj h
theorem IxAt.val {g : Nat → Int32} {N : Nat} {v : Option Value} (h : IxAt g N v) : ∃ z, v = some (.int z) ∧ IxAt g N (some (.int z)) := by
  rcases h with ⟨i, q, rfl, r⟩ | ⟨rfl, q⟩
  · exact ⟨_, rfl, Or.inl ⟨i, q, rfl, r⟩⟩
  · exact ⟨_, rfl, Or.inr ⟨rfl, q⟩⟩
theorem IxAt.pos {g : Nat → Int32} {N : Nat} {z : Int32} (h : IxAt g N (some (.int z))) (q : ¬ z < 0) : ∃ E, z = Int32.ofNat E ∧ E < N ∧ g E = 32 ∧ ∀ j, j < E → ¬ g j = 32 := by
  rcases h with ⟨i, h1, h2, r⟩ | ⟨e, r⟩
  · exact ⟨i, Value.int.inj (Option.some.inj h2), h1, r⟩
  · rw [Value.int.inj (Option.some.inj e)] at q; exact absurd (by decide) q
theorem IxAt.neg {g : Nat → Int32} {N : Nat} {z : Int32} (hN : N < 2 ^ 31) (h : IxAt g N (some (.int z))) (q : z < 0) : ∀ j, j < N → ¬ g j = 32 := by
  rcases h with ⟨i, h1, h2, r⟩ | ⟨e, r⟩
  · rw [Value.int.inj (Option.some.inj h2)] at q; exact absurd q (o32_neg (by omega))
  · exact r
theorem pos32 {N : Nat} (h : N < 2 ^ 31) : ((0 : Int32) < Int32.ofNat N) ↔ 0 < N := o32_lt (j := 0) (by decide) h
/-- the part before the first space, or the whole -/
def TokAt (g : Nat → Int32) (N E : Nat) : Prop := (E < N ∧ g E = 32 ∧ ∀ j, j < E → ¬ g j = 32) ∨ (E = N ∧ ∀ j, j < N → ¬ g j = 32)
theorem TokAt.uniq {g : Nat → Int32} {N E E' : Nat} (h : TokAt g N E) (h' : TokAt g N E') : E = E' := by
  rcases h with ⟨a, b, c⟩ | ⟨rfl, c⟩ <;> rcases h' with ⟨a', b', c'⟩ | ⟨rfl, c'⟩
  · rcases Nat.lt_trichotomy E E' with q | q | q
    · exact absurd b (c' _ q)
    · exact q
    · exact absurd b' (c _ q)
  · exact absurd b (c' _ a)
  · exact absurd b' (c _ a')
  · rfl
theorem TokAt.le {g : Nat → Int32} {N E : Nat} (h : TokAt g N E) : E ≤ N := by rcases h with ⟨a, -⟩ | ⟨rfl, -⟩ <;> omega
/-! ## UTF16 in plain numbers -/
def C16 (cf : Nat → Int32) (N : Nat) : Prop := ∀ i, i < N → 0 ≤ (cf i).toInt ∧ (cf i).toInt ≤ 65535
/-- the bytes of chars: low first (HI_BYTE_SHIFT = 0, LO_BYTE_SHIFT = 8) -/
def ub (cf : Nat → Int32) (q : Nat) : Int32 := if q % 2 = 0 then bt (cf (q / 2)) else bt (cf (q / 2) >>> ((8 : Int32) &&& 31))
theorem ub_fits (cf : Nat → Int32) (q : Nat) : fits .byte (.int (ub cf q)) = true := by unfold ub; split <;> exact bt_fits _
theorem toNat_of {a : Int32} (h : 0 ≤ a.toInt) : (a.toBitVec.toNat : Int) = a.toInt := by
  have e : a.toInt = a.toBitVec.toInt := rfl
  rw [e, BitVec.toInt_eq_toNat_cond] at h ⊢
  split at h <;> split <;> omega
theorem or_add {a b : Int32} {k : Nat} (ha : 0 ≤ a.toInt ∧ a.toInt < 256) (hb : b.toInt = 256 * (k : Int)) (hk : k < 256) : (a ||| b).toInt = a.toInt + b.toInt := by
  have e1 := toNat_of ha.1
  have e2 := toNat_of (a := b) (by omega)
  have e3 : (a ||| b).toBitVec.toNat = b.toBitVec.toNat + a.toBitVec.toNat := by
    rw [Int32.toBitVec_or, BitVec.toNat_or, Nat.or_comm]
    have eb : b.toBitVec.toNat = k <<< 8 := by rw [Nat.shiftLeft_eq]; omega
    rw [eb]
    exact (Nat.shiftLeft_add_eq_or_of_lt (show a.toBitVec.toNat < 2 ^ 8 by omega) k).symm
  have e4 : (a ||| b).toInt = (a ||| b).toBitVec.toInt := rfl
  rw [e4, BitVec.toInt_eq_toNat_cond, e3]
  split <;> omega
theorem lo_toInt {c : Int32} (h : 0 ≤ c.toInt ∧ c.toInt ≤ 65535) : (bt c &&& 255).toInt = c.toInt % 256 := by
  have e := Jvm.Kit.i32_mask (bt c) 255 (k := 8) (by decide) (by decide)
  rw [bt_toInt] at e
  rw [e, Int.bmod_def]
  split <;> omega
theorem shr8 {c : Int32} : (c >>> ((8 : Int32) &&& 31)).toInt = c.toInt / 256 := Jvm.Kit.i32_shr c _ (k := 8) (by decide)
theorem shl0 (x : Int32) : x <<< ((0 : Int32) &&& 31) = x := by
  rw [show ((0 : Int32) &&& 31) = 0 by decide]
  exact Int32.shiftLeft_zero
theorem getc_val {c : Int32} (h : 0 ≤ c.toInt ∧ c.toInt ≤ 65535) : (((bt c &&& 255) <<< ((0 : Int32) &&& 31)) ||| ((bt (c >>> ((8 : Int32) &&& 31)) &&& 255) <<< ((8 : Int32) &&& 31))).toUInt32.toUInt16.toUInt32.toInt32 = c := by
  have h8 := shr8 (c := c)
  have e1 := lo_toInt h
  have e2 := lo_toInt (c := c >>> ((8 : Int32) &&& 31)) (by omega)
  have e3 : ((bt (c >>> ((8 : Int32) &&& 31)) &&& 255) <<< ((8 : Int32) &&& 31)).toInt = 256 * (((c.toInt / 256) % 256).toNat : Int) := by
    rw [Jvm.Kit.i32_shl _ _ (k := 8) (by decide) (by omega) (by omega), e2, h8]; omega
  rw [shl0]
  have e4 := or_add (a := bt c &&& 255) (k := ((c.toInt / 256) % 256).toNat) (by omega) e3 (by omega)
  have e5 : ((bt c &&& 255) ||| ((bt (c >>> ((8 : Int32) &&& 31)) &&& 255) <<< ((8 : Int32) &&& 31))) = c := by
    rw [← Int32.toInt_inj, e4, e1, e3]; omega
  rw [e5]
  exact char_back c (by rw [Int32.le_iff_toInt_le]; exact h.1) (by rw [Int32.le_iff_toInt_le]; exact h.2)
/-- what a String holds for the chars cf, N of them -/
def Enc (cf : Nat → Int32) (N : Nat) (cd : Int32) (M : Nat) (g : Nat → Int32) : Prop := (Lat cf N ∧ cd = 0 ∧ M = N ∧ ∀ q, q < M → g q = bt (cf q)) ∨ (¬ Lat cf N ∧ cd = 1 ∧ M = 2 * N ∧ ∀ q, q < M → g q = ub cf q)
theorem Enc.same {cf : Nat → Int32} {N : Nat} {cd cd' : Int32} {M M' : Nat} {g g' : Nat → Int32} (h : Enc cf N cd M g) (h' : Enc cf N cd' M' g') : cd = cd' ∧ M = M' ∧ ∀ q, q < M → g q = g' q := by
  rcases h with ⟨a, rfl, rfl, b⟩ | ⟨a, rfl, rfl, b⟩ <;> rcases h' with ⟨a', rfl, rfl, b'⟩ | ⟨a', rfl, rfl, b'⟩
  · exact ⟨rfl, rfl, fun q hq => (b q hq).trans (b' q hq).symm⟩
  · exact absurd a a'
  · exact absurd a' a
  · exact ⟨rfl, rfl, fun q hq => (b q hq).trans (b' q hq).symm⟩
theorem shl1 {k : Nat} (h : k < 2 ^ 29) : Int32.ofNat k <<< ((1 : Int32) &&& 31) = Int32.ofNat (2 * k) := by
  rw [← Int32.toInt_inj, Jvm.Kit.i32_shl _ _ (k := 1) (by decide) (by rw [o32 (by omega)]; omega) (by rw [o32 (by omega)]; omega), o32 (by omega), o32 (by omega)]; omega
theorem shl1l (k : Nat) (h : k < 2 ^ 29) : Int32.ofNat k <<< ((1 : Int32) &&& 31) = Int32.ofNat (2 * k) := shl1 h
theorem ub_lo (cf : Nat → Int32) (i : Nat) : ub cf (2 * i) = bt (cf i) := by unfold ub; rw [if_pos (by omega), show 2 * i / 2 = i by omega]
theorem ub_hi (cf : Nat → Int32) (i : Nat) : ub cf (2 * i + 1) = bt (cf i >>> ((8 : Int32) &&& 31)) := by unfold ub; rw [if_neg (by omega), show (2 * i + 1) / 2 = i by omega]
theorem putc_eq {f : Nat → Value} {c : Int32} (M i : Nat) : ∀ q, q < M → (if q = 2 * i + 1 then Value.int (nar .byte ((c >>> ((8 : Int32) &&& 31)).toInt8.toInt32)) else if q = 2 * i then .int (nar .byte ((c >>> ((0 : Int32) &&& 31)).toInt8.toInt32)) else f q) = (if q = 2 * i then .int (bt c) else if q = 2 * i + 1 then .int (bt (c >>> ((8 : Int32) &&& 31))) else f q) := fun q _ => by
  by_cases u : q = 2 * i
  · rw [if_neg (by omega), if_pos u, if_pos u, shr0]; exact congrArg Value.int (bt_idem c)
  · by_cases w : q = 2 * i + 1
    · rw [if_pos w, if_neg u, if_pos w]; exact congrArg Value.int (bt_idem _)
    · rw [if_neg w, if_neg u, if_neg u, if_neg w]
theorem tob_set {cf : Nat → Int32} (M i : Nat) : ∀ q, q < M → (if q = 2 * i then Value.int (bt (cf i)) else if q = 2 * i + 1 then .int (bt (cf i >>> ((8 : Int32) &&& 31))) else (fun q => if q < 2 * i then Value.int (ub cf q) else .int 0) q) = (if q < 2 * (i + 1) then .int (ub cf q) else .int 0) := fun q _ => by
  by_cases u : q = 2 * i
  · subst u; rw [if_pos rfl, if_pos (by omega), ub_lo]
  · by_cases w : q = 2 * i + 1
    · subst w; rw [if_neg (by omega), if_pos rfl, if_pos (by omega), ub_hi]
    · rw [if_neg u, if_neg w]
      by_cases z : q < 2 * i
      · rw [if_pos (by omega)]; exact if_pos z
      · rw [if_neg (by omega)]; exact if_neg z
theorem char16_nar {c : Int32} (h : 0 ≤ c.toInt ∧ c.toInt ≤ 65535) : narrow .char (.int c) = .int c := congrArg Value.int (char_back c (by rw [Int32.le_iff_toInt_le]; exact h.1) (by rw [Int32.le_iff_toInt_le]; exact h.2))
theorem gt255 {c : Int32} : ((255 : Int32) < c) ↔ 255 < c.toInt := by
  rw [Int32.lt_iff_toInt_lt]
  have : (255 : Int32).toInt = 255 := by decide
  omega
theorem lat_of {cf : Nat → Int32} {N : Nat} (hC : C16 cf N) (h : ∀ j, j < N → (cf j).toInt ≤ 255) : Lat cf N := fun i hi => ⟨(hC i hi).1, h i hi⟩
theorem le_step {cf : Nat → Int32} {i : Nat} (h : ∀ j, j < i → (cf j).toInt ≤ 255) (e : (cf i).toInt ≤ 255) : ∀ j, j < i + 1 → (cf j).toInt ≤ 255 := fun j hj => by
  rcases Nat.lt_or_ge j i with q | q
  · exact h j q
  · have : j = i := by omega
    rw [this]; exact e
/-- what compress hands back -/
def Cmp (cf : Nat → Int32) (N M : Nat) (g : Nat → Int32) : Prop := (Lat cf N ∧ M = N ∧ ∀ q, q < M → g q = bt (cf q)) ∨ (¬ Lat cf N ∧ M = 2 * N ∧ ∀ q, q < M → g q = ub cf q)
theorem not_lat {cf : Nat → Int32} {N i : Nat} (hi : i < N) (h : 255 < (cf i).toInt) : ¬ Lat cf N := fun q => by have := (q i hi).2; omega
theorem Cmp.pos {cf : Nat → Int32} {N M : Nat} {g : Nat → Int32} (h : Cmp cf N M g) : M = N ∨ (M = 2 * N ∧ 0 < N) := by
  rcases h with ⟨-, a, -⟩ | ⟨n, a, -⟩
  · exact Or.inl a
  · refine Or.inr ⟨a, ?_⟩
    rcases Nat.eq_zero_or_pos N with z | z
    · subst z; exact absurd (fun i hi => absurd hi (Nat.not_lt_zero i)) n
    · exact z
/-- the coder of an array of M bytes for N chars -/
theorem cfa_val {N M : Nat} (hN : N < 2 ^ 20) (h : M = N ∨ (M = 2 * N ∧ 0 < N)) : ((Int32.ofNat N - Int32.ofNat M).toUInt32 >>> ((31 : Int32) &&& 31).toUInt32).toInt32.toInt8.toInt32 = if M = N then 0 else 1 := by
  rcases h with rfl | ⟨rfl, hp⟩
  · rw [if_pos rfl]; exact sub_self_b _
  · rw [if_neg (by omega)]
    have e : (Int32.ofNat N - Int32.ofNat (2 * N)).toInt = -(N : Int) := by rw [Jvm.Kit.i32_sub (by rw [o32 (by omega), o32 (by omega)]; omega) (by rw [o32 (by omega), o32 (by omega)]; omega), o32 (by omega), o32 (by omega)]; omega
    generalize Int32.ofNat N - Int32.ofNat (2 * N) = x at e
    have e2 : (x.toUInt32 >>> ((31 : Int32) &&& 31).toUInt32) = 1 := by
      rw [← UInt32.toNat_inj, UInt32.toNat_shiftRight]
      have e3 : x.toUInt32.toNat = x.toBitVec.toNat := rfl
      have e4 : x.toInt = x.toBitVec.toInt := rfl
      rw [e4, BitVec.toInt_eq_toNat_cond] at e
      have e5 := x.toBitVec.isLt
      rw [e3, show (((31 : Int32) &&& 31).toUInt32).toNat % 32 = 31 by decide, Nat.shiftRight_eq_div_pow]
      have : (1 : UInt32).toNat = 1 := rfl
      rw [this]
      split at e <;> omega
    rw [e2]; decide
theorem Cmp.enc {cf : Nat → Int32} {N M : Nat} {g : Nat → Int32} (h : Cmp cf N M g) : Enc cf N (if M = N then 0 else 1) M g := by
  have hp := h.pos
  rcases h with ⟨a, b, c⟩ | ⟨a, b, c⟩
  · exact Or.inl ⟨a, if_pos b, b, c⟩
  · refine Or.inr ⟨a, if_neg ?_, b, c⟩
    rcases hp with q | ⟨-, q⟩
    · rcases Nat.eq_zero_or_pos N with z | z
      · subst z; exact absurd (fun i hi => absurd hi (Nat.not_lt_zero i)) a
      · omega
    · omega
theorem Enc.zero {cf : Nat → Int32} {g : Nat → Int32} {N : Nat} (e : N = 0) : Enc cf N 0 N g := by
  subst e
  exact Or.inl ⟨fun i hi => absurd hi (Nat.not_lt_zero i), rfl, rfl, fun q hq => absurd hq (Nat.not_lt_zero q)⟩
def Ln (cd : Int32) (M N : Nat) : Prop := (cd = 0 ∧ M = N) ∨ (cd = 1 ∧ M = 2 * N)
theorem Enc.ln {cf : Nat → Int32} {N : Nat} {cd : Int32} {M : Nat} {g : Nat → Int32} (h : Enc cf N cd M g) : Ln cd M N := by
  rcases h with ⟨-, a, b, -⟩ | ⟨-, a, b, -⟩
  · exact Or.inl ⟨a, b⟩
  · exact Or.inr ⟨a, b⟩
theorem Ln.nar {cd : Int32} {M N : Nat} (h : Ln cd M N) : narrow .byte (.int cd) = .int cd := by rcases h with ⟨rfl, -⟩ | ⟨rfl, -⟩ <;> rfl
theorem Ln.shr {cd : Int32} {M N : Nat} (h : Ln cd M N) (hN : N < 2 ^ 20) : Int32.ofNat M >>> (cd &&& 31) = Int32.ofNat N := by
  rcases h with ⟨rfl, rfl⟩ | ⟨rfl, rfl⟩
  · exact shr0 _
  · rw [← Int32.toInt_inj, Jvm.Kit.i32_shr _ _ (k := 1) (by decide), o32 (by omega), o32 (by omega)]; omega
theorem dnl_0 : decode jdk_52_method_3_code 0 = .ok (.iload_n 0, 1) := by decide +kernel
theorem dnl_1 : decode jdk_52_method_3_code 1 = .ok (.ifCond .ge 11, 3) := by decide +kernel
theorem dnl_12 : decode jdk_52_method_3_code 12 = .ok (.iload_n 0, 1) := by decide +kernel
theorem dnl_13 : decode jdk_52_method_3_code 13 = .ok (.ldc 20, 2) := by decide +kernel
theorem dnl_15 : decode jdk_52_method_3_code 15 = .ok (.if_icmp .lt 40, 3) := by decide +kernel
theorem dnl_55 : decode jdk_52_method_3_code 55 = .ok (.iload_n 0, 1) := by decide +kernel
theorem dnl_56 : decode jdk_52_method_3_code 56 = .ok (.iconst 1, 1) := by decide +kernel
theorem dnl_57 : decode jdk_52_method_3_code 57 = .ok (.ishl, 1) := by decide +kernel
theorem dnl_58 : decode jdk_52_method_3_code 58 = .ok (.ireturn, 1) := by decide +kernel
set_option maxRecDepth 65536 in
set_option maxHeartbeats 40000000 in
theorem c_nbl (l : Launch) (Z : State) (a0 : Array Value) (hw : ∀ d ∈ tables_1, d.before a0 Z = true)  (h0 : Heap) (n0 : Nat) (N : Nat) (hN : N < 2 ^ 20) :
    Con l Z consts_1 [] (⟨"java/lang/StringUTF16", "newBytesLength", "(I)I"⟩ : MethodName) jdk_52_method_3_code 1 (some .int) ({ frames := 0, cells := 0, slots := 0, locals := 0 } : Room) #[(.int (Int32.ofNat N))] h0 n0 (fun v h _ => v = some (.int (Int32.ofNat (2 * N))) ∧ h = h0) := by
  refine Con.of (plainFor_of_name (by first | (simp [plainName, overriddenIn]; done) | decide +kernel)) (elw hw) (L0 := #[.val (.int (Int32.ofNat N))]) (fun m => by first | (simp [entryFrame, mkF, argsToLocals, Value.category]; done) | rfl) ?_
  intro p e s m below meth c T C S
  refine g_iloadN C S dnl_0 (pc' := 1) rfl rfl ?_
  refine g_if_ge C S dnl_1 (pc' := 12) (pf := 4) (by decide) (by decide) rfl (fun hc1 => ?_) (fun hc1 => absurd hc1 (o32_neg (by omega)))
  refine g_iloadN C S dnl_12 (pc' := 13) rfl rfl ?_
  refine g_ldc C S dnl_13 (hw _ (List.mem_of_getElem? (i := 213) rfl)) (pc' := 15) rfl ?_
  refine g_icmp_lt C S dnl_15 (pc' := 55) (pf := 18) (by decide) (by decide) rfl (fun hc15 => ?_) (fun hc15 => absurd ((o32_lt (k := 1073741823) (by omega) (by decide)).mpr (by omega)) hc15)
  refine g_iloadN C S dnl_55 (pc' := 56) rfl rfl ?_
  refine g_iconst C S (1 : Int32) dnl_56 (pc' := 57) rfl rfl ?_
  refine g_ishl C S dnl_57 (pc' := 58) rfl ?_
  exact g_retI C S dnl_58 (by decide) (by decide) (⟨by rw [shl1 (by omega)], rfl⟩)
theorem pd_0 : parseMethodDescriptor "(I)I" = some ⟨[.int], some .int⟩ := by decide +kernel
theorem dnf_0 : decode jdk_52_method_2_code 0 = .ok (.iload_n 0, 1) := by decide +kernel
theorem dnf_1 : decode jdk_52_method_2_code 1 = .ok (.invokestatic 11, 3) := by decide +kernel
theorem dnf_4 : decode jdk_52_method_2_code 4 = .ok (.newarray .byte, 2) := by decide +kernel
theorem dnf_6 : decode jdk_52_method_2_code 6 = .ok (.areturn, 1) := by decide +kernel
set_option maxRecDepth 65536 in
set_option maxHeartbeats 40000000 in
theorem c_nbf (l : Launch) (Z : State) (a0 : Array Value) (hw : ∀ d ∈ tables_1, d.before a0 Z = true)  (h0 : Heap) (n0 : Nat) (N : Nat) (hN : N ≤ 40) (Zn : n0 ≤ h0.size) :
    Con l Z consts_1 [] (⟨"java/lang/StringUTF16", "newBytesFor", "(I)[B"⟩ : MethodName) jdk_52_method_2_code 1 (some (.array .byte)) ({ frames := 1, cells := 1, slots := 80, locals := 12 } : Room) #[(.int (Int32.ofNat N))] h0 n0 (fun v h P => ∃ b, v = some (.ref b) ∧ b ∈ P ∧ n0 ≤ b ∧ h0.size ≤ b ∧ Keep h0 h [] ∧ Ary Z h b .byte (2 * N) (fun _ => .int (0 : Int32))) := by
  refine Con.of (plainFor_of_name (by first | (simp [plainName, overriddenIn]; done) | decide +kernel)) (elw hw) (L0 := #[.val (.int (Int32.ofNat N))]) (fun m => by first | (simp [entryFrame, mkF, argsToLocals, Value.category]; done) | rfl) ?_
  intro p e s m below meth c T C S
  have Kp := Keep.refl h0 []
  refine g_iloadN C S dnf_0 (pc' := 1) rfl rfl ?_
  refine g_callS C S (rm := ({ frames := 0, cells := 0, slots := 0, locals := 0 } : Room)) (W := 0) dnf_1 (hw _ (List.mem_of_getElem? (i := 210) rfl)) (hw _ (List.mem_of_getElem? (i := 211) rfl)) (hw _ (List.mem_of_getElem? (i := 59) rfl)) (hw _ (List.mem_of_getElem? (i := 212) rfl)) (by decide) (c_nbl l Z a0 hw h0 n0 N (by omega)) (argsL := [(.int (Int32.ofNat N))]) (r := []) rfl all0 (lenOf pd_0 rfl) rfl (Nat.le_of_eq rfl) (by decide) (by decide) (by decide) (by decide) (pc' := 4) rfl (fun T21 h21 v21 P21 q21 S => ?_)
  obtain ⟨rfl, e21⟩ := q21; rw [e21] at S
  show Gl p e below s Z consts_1 _ n0 _ T21 (mkF m 4 #[.val (.int (Int32.ofNat N))] [(.int (Int32.ofNat (2 * N)))])
  refine g_newarray C S (N := (2 * N)) (cap := 80) dnf_4 (hw _ (List.mem_of_getElem? (i := 16) rfl)) (o32 (by omega)) (by omega) (by decide) (by decide) (by decide) (pc' := 6) rfl (fun T22 h22 a22 S g22 E22 A_a22 => ?_)
  have sz_a22 : h0.size ≤ a22 := ge_of g22 Kp.1
  have ge_a22 : n0 ≤ a22 := ge_of g22 Zn
  have pm_a22 := On.hd S
  have Kp := Kp.ext E22
  have Zn := Nat.le_trans Zn E22.1
  have A_a22 : Ary Z h22 a22 .byte (2 * N) (fun _ => (.int (0 : Int32))) := A_a22
  exact g_retA C S dnf_6 rfl rfl rfl (by decide) (by decide) (⟨_, rfl, pm_a22, ge_a22, sz_a22, Kp, A_a22⟩)
theorem dpc_0 : decode jdk_52_method_4_code 0 = .ok (.getstatic 44, 3) := by decide +kernel
theorem dpc_3 : decode jdk_52_method_4_code 3 = .ok (.ifCond .ne 25, 3) := by decide +kernel
theorem dpc_28 : decode jdk_52_method_4_code 28 = .ok (.iload_n 1, 1) := by decide +kernel
theorem dpc_29 : decode jdk_52_method_4_code 29 = .ok (.iconst 1, 1) := by decide +kernel
theorem dpc_30 : decode jdk_52_method_4_code 30 = .ok (.ishl, 1) := by decide +kernel
theorem dpc_31 : decode jdk_52_method_4_code 31 = .ok (.istore_n 1, 1) := by decide +kernel
theorem dpc_32 : decode jdk_52_method_4_code 32 = .ok (.aload_n 0, 1) := by decide +kernel
theorem dpc_33 : decode jdk_52_method_4_code 33 = .ok (.iload_n 1, 1) := by decide +kernel
theorem dpc_34 : decode jdk_52_method_4_code 34 = .ok (.iinc 1 1, 3) := by decide +kernel
theorem dpc_37 : decode jdk_52_method_4_code 37 = .ok (.iload_n 2, 1) := by decide +kernel
theorem dpc_38 : decode jdk_52_method_4_code 38 = .ok (.getstatic 59, 3) := by decide +kernel
theorem dpc_41 : decode jdk_52_method_4_code 41 = .ok (.ishr, 1) := by decide +kernel
theorem dpc_42 : decode jdk_52_method_4_code 42 = .ok (.i2b, 1) := by decide +kernel
theorem dpc_43 : decode jdk_52_method_4_code 43 = .ok (.bastore, 1) := by decide +kernel
theorem dpc_44 : decode jdk_52_method_4_code 44 = .ok (.aload_n 0, 1) := by decide +kernel
theorem dpc_45 : decode jdk_52_method_4_code 45 = .ok (.iload_n 1, 1) := by decide +kernel
theorem dpc_46 : decode jdk_52_method_4_code 46 = .ok (.iload_n 2, 1) := by decide +kernel
theorem dpc_47 : decode jdk_52_method_4_code 47 = .ok (.getstatic 63, 3) := by decide +kernel
theorem dpc_50 : decode jdk_52_method_4_code 50 = .ok (.ishr, 1) := by decide +kernel
theorem dpc_51 : decode jdk_52_method_4_code 51 = .ok (.i2b, 1) := by decide +kernel
theorem dpc_52 : decode jdk_52_method_4_code 52 = .ok (.bastore, 1) := by decide +kernel
theorem dpc_53 : decode jdk_52_method_4_code 53 = .ok (.return_, 1) := by decide +kernel
set_option maxRecDepth 65536 in
set_option maxHeartbeats 40000000 in
theorem c_put (l : Launch) (Z : State) (a0 : Array Value) (hw : ∀ d ∈ tables_1, d.before a0 Z = true) (a1 : Addr) (p3 : Int32) (h0 : Heap) (n0 : Nat) (M i : Nat) (f : Nat → Value) (hi : 2 * i + 1 < M) (hM : M < 2 ^ 20) (ga : n0 ≤ a1) (S_assertionsDisabled : Sta Z h0 "java/lang/StringUTF16" "$assertionsDisabled" "Z" (.int (1 : Int32))) (S_HI_BYTE_SHIFT : Sta Z h0 "java/lang/StringUTF16" "HI_BYTE_SHIFT" "I" (.int (0 : Int32))) (S_LO_BYTE_SHIFT : Sta Z h0 "java/lang/StringUTF16" "LO_BYTE_SHIFT" "I" (.int (8 : Int32))) (A_a1 : Ary Z h0 a1 .byte M f) :
    Con l Z consts_1 [a1] (⟨"java/lang/StringUTF16", "putChar", "([BII)V"⟩ : MethodName) jdk_52_method_4_code 3 none ({ frames := 0, cells := 0, slots := 0, locals := 0 } : Room) #[(.ref a1), (.int (Int32.ofNat i)), (.int p3)] h0 n0 (fun v h _ => v = none ∧ Keep h0 h [a1] ∧ Ary Z h a1 .byte M (fun q => if q = 2 * i then .int (bt p3) else if q = 2 * i + 1 then .int (bt (p3 >>> ((8 : Int32) &&& 31))) else f q)) := by
  refine Con.of (plainFor_of_name (by first | (simp [plainName, overriddenIn]; done) | decide +kernel)) (elw hw) (L0 := #[.val (.ref a1), .val (.int (Int32.ofNat i)), .val (.int p3)]) (fun m => by first | (simp [entryFrame, mkF, argsToLocals, Value.category]; done) | rfl) ?_
  intro p e s m below meth c T C S
  have pm_a1 : a1 ∈ [a1] := List.mem_of_getElem? (i := 0) rfl
  have Kp := Keep.refl h0 [a1]
  refine g_getS C S dpc_0 (host := "") (Or.inl (hw _ (List.mem_of_getElem? (i := 217) rfl))) Via.refl S_assertionsDisabled (pc' := 3) rfl (fun T23 S => ?_)
  refine g_if_ne C S dpc_3 (pc' := 28) (pf := 6) (by decide) (by decide) rfl (fun hc3 => ?_) (fun hc3 => absurd hc3 (by decide))
  refine g_iloadN C S dpc_28 (pc' := 29) rfl rfl ?_
  refine g_iconst C S (1 : Int32) dpc_29 (pc' := 30) rfl rfl ?_
  refine g_ishl C S dpc_30 (pc' := 31) rfl ?_
  rw [shl1 (by omega)]
  refine g_istoreN C S dpc_31 (pc' := 32) rfl (L' := #[.val (.ref a1), .val (.int (Int32.ofNat (2 * i))), .val (.int p3)]) rfl ?_
  refine g_aloadN C S dpc_32 (pc' := 33) rfl rfl rfl ?_
  refine g_iloadN C S dpc_33 (pc' := 34) rfl rfl ?_
  refine g_iinc C S (1 : Int32) dpc_34 (pc' := 37) rfl rfl rfl (L' := #[.val (.ref a1), .val (.int ((Int32.ofNat (2 * i)) + (1 : Int32))), .val (.int p3)]) rfl ?_
  refine g_iloadN C S dpc_37 (pc' := 38) rfl rfl ?_
  refine g_getS C S dpc_38 (host := "") (Or.inl (hw _ (List.mem_of_getElem? (i := 218) rfl))) Via.refl S_HI_BYTE_SHIFT (pc' := 41) rfl (fun T24 S => ?_)
  refine g_ishr C S dpc_41 (pc' := 42) rfl ?_
  refine g_i2b C S dpc_42 (pc' := 43) rfl ?_
  refine g_bastoreB C S (i := (2 * i)) dpc_43 A_a1 (o32 (by omega)) (by omega) ga pm_a1 (pc' := 44) rfl (fun T25 h25 S W25 B25 => ?_)
  have S_assertionsDisabled := S_assertionsDisabled.wr W25
  have S_HI_BYTE_SHIFT := S_HI_BYTE_SHIFT.wr W25
  have S_LO_BYTE_SHIFT := S_LO_BYTE_SHIFT.wr W25
  have A_a1 := B25
  have Kp := Kp.wr W25 (Or.inl (List.mem_of_getElem? (i := 0) rfl))
  refine g_aloadN C S dpc_44 (pc' := 45) rfl rfl rfl ?_
  refine g_iloadN C S dpc_45 (pc' := 46) rfl rfl ?_
  refine g_iloadN C S dpc_46 (pc' := 47) rfl rfl ?_
  refine g_getS C S dpc_47 (host := "") (Or.inl (hw _ (List.mem_of_getElem? (i := 219) rfl))) Via.refl S_LO_BYTE_SHIFT (pc' := 50) rfl (fun T26 S => ?_)
  refine g_ishr C S dpc_50 (pc' := 51) rfl ?_
  refine g_i2b C S dpc_51 (pc' := 52) rfl ?_
  refine g_bastoreB C S (i := (2 * i + 1)) dpc_52 A_a1 (by rw [o32_succ]; exact o32 (by omega)) (by omega) ga pm_a1 (pc' := 53) rfl (fun T27 h27 S W27 B27 => ?_)
  have S_assertionsDisabled := S_assertionsDisabled.wr W27
  have S_HI_BYTE_SHIFT := S_HI_BYTE_SHIFT.wr W27
  have S_LO_BYTE_SHIFT := S_LO_BYTE_SHIFT.wr W27
  have A_a1 := B27
  have Kp := Kp.wr W27 (Or.inl (List.mem_of_getElem? (i := 0) rfl))
  exact g_return C S dpc_53 (by decide) (by decide) (⟨rfl, Kp, A_a1.cg (putc_eq M i)⟩)
theorem dgc_0 : decode jdk_52_method_5_code 0 = .ok (.getstatic 44, 3) := by decide +kernel
theorem dgc_3 : decode jdk_52_method_5_code 3 = .ok (.ifCond .ne 25, 3) := by decide +kernel
theorem dgc_28 : decode jdk_52_method_5_code 28 = .ok (.iload_n 1, 1) := by decide +kernel
theorem dgc_29 : decode jdk_52_method_5_code 29 = .ok (.iconst 1, 1) := by decide +kernel
theorem dgc_30 : decode jdk_52_method_5_code 30 = .ok (.ishl, 1) := by decide +kernel
theorem dgc_31 : decode jdk_52_method_5_code 31 = .ok (.istore_n 1, 1) := by decide +kernel
theorem dgc_32 : decode jdk_52_method_5_code 32 = .ok (.aload_n 0, 1) := by decide +kernel
theorem dgc_33 : decode jdk_52_method_5_code 33 = .ok (.iload_n 1, 1) := by decide +kernel
theorem dgc_34 : decode jdk_52_method_5_code 34 = .ok (.iinc 1 1, 3) := by decide +kernel
theorem dgc_37 : decode jdk_52_method_5_code 37 = .ok (.baload, 1) := by decide +kernel
theorem dgc_38 : decode jdk_52_method_5_code 38 = .ok (.sipush 255, 3) := by decide +kernel
theorem dgc_41 : decode jdk_52_method_5_code 41 = .ok (.iand, 1) := by decide +kernel
theorem dgc_42 : decode jdk_52_method_5_code 42 = .ok (.getstatic 59, 3) := by decide +kernel
theorem dgc_45 : decode jdk_52_method_5_code 45 = .ok (.ishl, 1) := by decide +kernel
theorem dgc_46 : decode jdk_52_method_5_code 46 = .ok (.aload_n 0, 1) := by decide +kernel
theorem dgc_47 : decode jdk_52_method_5_code 47 = .ok (.iload_n 1, 1) := by decide +kernel
theorem dgc_48 : decode jdk_52_method_5_code 48 = .ok (.baload, 1) := by decide +kernel
theorem dgc_49 : decode jdk_52_method_5_code 49 = .ok (.sipush 255, 3) := by decide +kernel
theorem dgc_52 : decode jdk_52_method_5_code 52 = .ok (.iand, 1) := by decide +kernel
theorem dgc_53 : decode jdk_52_method_5_code 53 = .ok (.getstatic 63, 3) := by decide +kernel
theorem dgc_56 : decode jdk_52_method_5_code 56 = .ok (.ishl, 1) := by decide +kernel
theorem dgc_57 : decode jdk_52_method_5_code 57 = .ok (.ior, 1) := by decide +kernel
theorem dgc_58 : decode jdk_52_method_5_code 58 = .ok (.i2c, 1) := by decide +kernel
theorem dgc_59 : decode jdk_52_method_5_code 59 = .ok (.ireturn, 1) := by decide +kernel
set_option maxRecDepth 65536 in
set_option maxHeartbeats 40000000 in
theorem c_get (l : Launch) (Z : State) (a0 : Array Value) (hw : ∀ d ∈ tables_1, d.before a0 Z = true) (a1 : Addr) (h0 : Heap) (n0 : Nat) (N i : Nat) (cf : Nat → Int32) (hi : i < N) (hN : N < 2 ^ 20) (hC : C16 cf N) (S_assertionsDisabled : Sta Z h0 "java/lang/StringUTF16" "$assertionsDisabled" "Z" (.int (1 : Int32))) (S_HI_BYTE_SHIFT : Sta Z h0 "java/lang/StringUTF16" "HI_BYTE_SHIFT" "I" (.int (0 : Int32))) (S_LO_BYTE_SHIFT : Sta Z h0 "java/lang/StringUTF16" "LO_BYTE_SHIFT" "I" (.int (8 : Int32))) (A_a1 : Ary Z h0 a1 .byte (2 * N) (fun q => .int (ub cf q))) :
    Con l Z consts_1 [] (⟨"java/lang/StringUTF16", "getChar", "([BI)C"⟩ : MethodName) jdk_52_method_5_code 2 (some .char) ({ frames := 0, cells := 0, slots := 0, locals := 0 } : Room) #[(.ref a1), (.int (Int32.ofNat i))] h0 n0 (fun v h _ => v = some (.int (cf i)) ∧ h = h0) := by
  refine Con.of (plainFor_of_name (by first | (simp [plainName, overriddenIn]; done) | decide +kernel)) (elw hw) (L0 := #[.val (.ref a1), .val (.int (Int32.ofNat i))]) (fun m => by first | (simp [entryFrame, mkF, argsToLocals, Value.category]; done) | rfl) ?_
  intro p e s m below meth c T C S
  refine g_getS C S dgc_0 (host := "") (Or.inl (hw _ (List.mem_of_getElem? (i := 217) rfl))) Via.refl S_assertionsDisabled (pc' := 3) rfl (fun T28 S => ?_)
  refine g_if_ne C S dgc_3 (pc' := 28) (pf := 6) (by decide) (by decide) rfl (fun hc3 => ?_) (fun hc3 => absurd hc3 (by decide))
  refine g_iloadN C S dgc_28 (pc' := 29) rfl rfl ?_
  refine g_iconst C S (1 : Int32) dgc_29 (pc' := 30) rfl rfl ?_
  refine g_ishl C S dgc_30 (pc' := 31) rfl ?_
  rw [shl1 (by omega)]
  refine g_istoreN C S dgc_31 (pc' := 32) rfl (L' := #[.val (.ref a1), .val (.int (Int32.ofNat (2 * i)))]) rfl ?_
  refine g_aloadN C S dgc_32 (pc' := 33) rfl rfl rfl ?_
  refine g_iloadN C S dgc_33 (pc' := 34) rfl rfl ?_
  refine g_iinc C S (1 : Int32) dgc_34 (pc' := 37) rfl rfl rfl (L' := #[.val (.ref a1), .val (.int ((Int32.ofNat (2 * i)) + (1 : Int32)))]) rfl ?_
  refine g_baloadB C S (i := (2 * i)) (v := (.int (bt (cf i)))) dgc_37 A_a1 (o32 (by omega)) (by omega) (congrArg Value.int (ub_lo cf i)) (pc' := 38) rfl ?_
  refine g_sipush C S (255 : Int32) dgc_38 (pc' := 41) rfl rfl ?_
  refine g_iand C S dgc_41 (pc' := 42) rfl ?_
  refine g_getS C S dgc_42 (host := "") (Or.inl (hw _ (List.mem_of_getElem? (i := 218) rfl))) Via.refl S_HI_BYTE_SHIFT (pc' := 45) rfl (fun T29 S => ?_)
  refine g_ishl C S dgc_45 (pc' := 46) rfl ?_
  refine g_aloadN C S dgc_46 (pc' := 47) rfl rfl rfl ?_
  refine g_iloadN C S dgc_47 (pc' := 48) rfl rfl ?_
  refine g_baloadB C S (i := (2 * i + 1)) (v := (.int (bt (cf i >>> ((8 : Int32) &&& 31))))) dgc_48 A_a1 (by rw [o32_succ]; exact o32 (by omega)) (by omega) (congrArg Value.int (ub_hi cf i)) (pc' := 49) rfl ?_
  refine g_sipush C S (255 : Int32) dgc_49 (pc' := 52) rfl rfl ?_
  refine g_iand C S dgc_52 (pc' := 53) rfl ?_
  refine g_getS C S dgc_53 (host := "") (Or.inl (hw _ (List.mem_of_getElem? (i := 219) rfl))) Via.refl S_LO_BYTE_SHIFT (pc' := 56) rfl (fun T30 S => ?_)
  refine g_ishl C S dgc_56 (pc' := 57) rfl ?_
  refine g_ior C S dgc_57 (pc' := 58) rfl ?_
  refine g_i2c C S dgc_58 (pc' := 59) rfl ?_
  rw [getc_val (hC i hi)]
  exact g_retC C S dgc_59 (char16_nar (hC i hi)) (by decide) (by decide) (⟨rfl, rfl⟩)
theorem pd_1 : parseMethodDescriptor "(I)[B" = some ⟨[.int], some (.array .byte)⟩ := by decide +kernel
theorem pd_2 : parseMethodDescriptor "([BII)V" = some ⟨[(.array .byte), .int, .int], none⟩ := by decide +kernel
theorem dtb_0 : decode jdk_52_method_14_code 0 = .ok (.iload_n 2, 1) := by decide +kernel
theorem dtb_1 : decode jdk_52_method_14_code 1 = .ok (.invokestatic 107, 3) := by decide +kernel
theorem dtb_4 : decode jdk_52_method_14_code 4 = .ok (.astore_n 3, 1) := by decide +kernel
theorem dtb_5 : decode jdk_52_method_14_code 5 = .ok (.iconst 0, 1) := by decide +kernel
theorem dtb_6 : decode jdk_52_method_14_code 6 = .ok (.istore 4, 2) := by decide +kernel
theorem dtb_8 : decode jdk_52_method_14_code 8 = .ok (.iload 4, 2) := by decide +kernel
theorem dtb_10 : decode jdk_52_method_14_code 10 = .ok (.iload_n 2, 1) := by decide +kernel
theorem dtb_11 : decode jdk_52_method_14_code 11 = .ok (.if_icmp .ge 21, 3) := by decide +kernel
theorem dtb_14 : decode jdk_52_method_14_code 14 = .ok (.aload_n 3, 1) := by decide +kernel
theorem dtb_15 : decode jdk_52_method_14_code 15 = .ok (.iload 4, 2) := by decide +kernel
theorem dtb_17 : decode jdk_52_method_14_code 17 = .ok (.aload_n 0, 1) := by decide +kernel
theorem dtb_18 : decode jdk_52_method_14_code 18 = .ok (.iload_n 1, 1) := by decide +kernel
theorem dtb_19 : decode jdk_52_method_14_code 19 = .ok (.caload, 1) := by decide +kernel
theorem dtb_20 : decode jdk_52_method_14_code 20 = .ok (.invokestatic 111, 3) := by decide +kernel
theorem dtb_23 : decode jdk_52_method_14_code 23 = .ok (.iinc 1 1, 3) := by decide +kernel
theorem dtb_26 : decode jdk_52_method_14_code 26 = .ok (.iinc 4 1, 3) := by decide +kernel
theorem dtb_29 : decode jdk_52_method_14_code 29 = .ok (.goto (-21), 3) := by decide +kernel
theorem dtb_32 : decode jdk_52_method_14_code 32 = .ok (.aload_n 3, 1) := by decide +kernel
theorem dtb_33 : decode jdk_52_method_14_code 33 = .ok (.areturn, 1) := by decide +kernel
set_option maxRecDepth 65536 in
set_option maxHeartbeats 40000000 in
theorem c_tob (l : Launch) (Z : State) (a0 : Array Value) (hw : ∀ d ∈ tables_1, d.before a0 Z = true) (a1 : Addr) (h0 : Heap) (n0 : Nat) (N : Nat) (cf : Nat → Int32) (hN : N ≤ 32) (Zn : n0 ≤ h0.size) (S_assertionsDisabled : Sta Z h0 "java/lang/StringUTF16" "$assertionsDisabled" "Z" (.int (1 : Int32))) (S_HI_BYTE_SHIFT : Sta Z h0 "java/lang/StringUTF16" "HI_BYTE_SHIFT" "I" (.int (0 : Int32))) (S_LO_BYTE_SHIFT : Sta Z h0 "java/lang/StringUTF16" "LO_BYTE_SHIFT" "I" (.int (8 : Int32))) (A_a1 : Ary Z h0 a1 .char N (fun q => .int (cf q))) :
    Con l Z consts_1 [] (⟨"java/lang/StringUTF16", "toBytes", "([CII)[B"⟩ : MethodName) jdk_52_method_14_code 5 (some (.array .byte)) ({ frames := 2, cells := 1, slots := 80, locals := 24 } : Room) #[(.ref a1), (.int (0 : Int32)), (.int (Int32.ofNat N))] h0 n0 (fun v h _ => ∃ b, v = some (.ref b) ∧ Keep h0 h [] ∧ Ary Z h b .byte (2 * N) (fun q => .int (ub cf q))) := by
  refine Con.of (plainFor_of_name (by first | (simp [plainName, overriddenIn]; done) | decide +kernel)) (elw hw) (L0 := #[.val (.ref a1), .val (.int (0 : Int32)), .val (.int (Int32.ofNat N)), .unset, .unset]) (fun m => by first | (simp [entryFrame, mkF, argsToLocals, Value.category]; done) | rfl) ?_
  intro p e s m below meth c T C S
  have Kp := Keep.refl h0 []
  have lt_a1 := A_a1.lt
  refine g_iloadN C S dtb_0 (pc' := 1) rfl rfl ?_
  refine g_callS C S (rm := ({ frames := 1, cells := 1, slots := 80, locals := 12 } : Room)) (W := 0) dtb_1 (hw _ (List.mem_of_getElem? (i := 207) rfl)) (hw _ (List.mem_of_getElem? (i := 208) rfl)) (hw _ (List.mem_of_getElem? (i := 59) rfl)) (hw _ (List.mem_of_getElem? (i := 209) rfl)) (by decide) (c_nbf l Z a0 hw h0 n0 N (by omega) Zn) (argsL := [(.int (Int32.ofNat N))]) (r := []) rfl all0 (lenOf pd_1 rfl) rfl (Nat.le_of_eq rfl) (by decide) (by decide) (by decide) (by decide) (pc' := 4) rfl (fun T31 h31 v31 P31 q31 S => ?_)
  obtain ⟨b3, rfl, pm_b3, ge_b3, sz_b3, K31, A_b3⟩ := q31
  have Kp := Kp.trans K31 all0
  have S_assertionsDisabled := Sta.keep0 S_assertionsDisabled K31
  have S_HI_BYTE_SHIFT := Sta.keep0 S_HI_BYTE_SHIFT K31
  have S_LO_BYTE_SHIFT := Sta.keep0 S_LO_BYTE_SHIFT K31
  have A_a1 := A_a1.keep K31 nin0
  have Zn := Nat.le_trans Zn K31.1
  have ne : a1 ≠ b3 := fun e => Nat.lt_irrefl _ (Nat.lt_of_lt_of_le lt_a1 (e ▸ sz_b3))
  show Gl p e below s Z consts_1 _ n0 _ T31 (mkF m 4 #[.val (.ref a1), .val (.int (0 : Int32)), .val (.int (Int32.ofNat N)), .unset, .unset] [(.ref b3)])
  refine g_astoreN C S dtb_4 (pc' := 5) rfl rfl (L' := #[.val (.ref a1), .val (.int (0 : Int32)), .val (.int (Int32.ofNat N)), .val (.ref b3), .unset]) rfl ?_
  refine g_iconst C S (0 : Int32) dtb_5 (pc' := 6) rfl rfl ?_
  refine g_istore C S dtb_6 (pc' := 8) rfl (L' := #[.val (.ref a1), .val (.int (0 : Int32)), .val (.int (Int32.ofNat N)), .val (.ref b3), .val (.int (0 : Int32))]) rfl ?_
  have pm_b3 := List.mem_append_left ([] : List Addr) pm_b3
  have LP : ∀ (d : Nat) (i : Nat), i + d = N → ∀ (T : State) (h : Heap) (PS : List Addr), On p l e ({ frames := 2, cells := 1, slots := 80, locals := 24 } : Room) s m #[(.ref a1), (.int (0 : Int32)), (.int (Int32.ofNat N))] below meth c Z consts_1 "java/lang/StringUTF16" n0 T h PS 1 80 → b3 ∈ PS → Ary Z h a1 .char N (fun q => .int (cf q)) → Ary Z h b3 .byte (2 * N) (fun q => if q < 2 * i then .int (ub cf q) else .int 0) → Sta Z h "java/lang/StringUTF16" "$assertionsDisabled" "Z" (.int (1 : Int32)) → Sta Z h "java/lang/StringUTF16" "HI_BYTE_SHIFT" "I" (.int (0 : Int32)) → Sta Z h "java/lang/StringUTF16" "LO_BYTE_SHIFT" "I" (.int (8 : Int32)) → Keep h0 h [] → Gl p e below s Z consts_1 ({ frames := 2, cells := 1, slots := 80, locals := 24 } : Room) n0 (fun v h _ => ∃ b, v = some (.ref b) ∧ Keep h0 h [] ∧ Ary Z h b .byte (2 * N) (fun q => .int (ub cf q))) T (mkF m 8 #[.val (.ref a1), .val (.int (Int32.ofNat i)), .val (.int (Int32.ofNat N)), .val (.ref b3), .val (.int (Int32.ofNat i))] []) := by
    intro d
    induction d with
    | zero =>
      intro i hd T h PS S pm_b3 A_a1 A_b3 S_assertionsDisabled S_HI_BYTE_SHIFT S_LO_BYTE_SHIFT Kp
      refine g_iload C S dtb_8 (pc' := 10) rfl rfl ?_
      refine g_iloadN C S dtb_10 (pc' := 11) rfl rfl ?_
      refine g_icmp_ge C S dtb_11 (pc' := 32) (pf := 14) (by decide) (by decide) rfl (fun hc11 => ?_) (fun hc11 => absurd hc11 (by rw [o32_lt (by omega) (by omega)]; omega))
      refine g_aloadN C S dtb_32 (pc' := 33) rfl rfl rfl ?_
      exact g_retA C S dtb_33 rfl rfl rfl (by decide) (by decide) (⟨_, rfl, Kp, A_b3.cg fun q hq => if_pos (by omega)⟩)
    | succ d ih =>
      intro i hd T h PS S pm_b3 A_a1 A_b3 S_assertionsDisabled S_HI_BYTE_SHIFT S_LO_BYTE_SHIFT Kp
      refine g_iload C S dtb_8 (pc' := 10) rfl rfl ?_
      refine g_iloadN C S dtb_10 (pc' := 11) rfl rfl ?_
      refine g_icmp_ge C S dtb_11 (pc' := 32) (pf := 14) (by decide) (by decide) rfl (fun hc11 => absurd ((o32_lt (by omega) (by omega)).mpr (by omega)) hc11) (fun hc11 => ?_)
      refine g_aloadN C S dtb_14 (pc' := 15) rfl rfl rfl ?_
      refine g_iload C S dtb_15 (pc' := 17) rfl rfl ?_
      refine g_aloadN C S dtb_17 (pc' := 18) rfl rfl rfl ?_
      refine g_iloadN C S dtb_18 (pc' := 19) rfl rfl ?_
      refine g_caload C S (i := i) (v := (.int (cf i))) dtb_19 A_a1 (o32 (by omega)) (by omega) rfl (pc' := 20) rfl ?_
      refine g_callS C S (rm := ({ frames := 0, cells := 0, slots := 0, locals := 0 } : Room)) (W := 0) dtb_20 (hw _ (List.mem_of_getElem? (i := 214) rfl)) (hw _ (List.mem_of_getElem? (i := 215) rfl)) (hw _ (List.mem_of_getElem? (i := 59) rfl)) (hw _ (List.mem_of_getElem? (i := 216) rfl)) (by decide) (c_put l Z a0 hw b3 (cf i) h n0 (2 * N) i _ (by omega) (by omega) ge_b3 S_assertionsDisabled S_HI_BYTE_SHIFT S_LO_BYTE_SHIFT A_b3) (argsL := [(.ref b3), (.int (Int32.ofNat i)), (.int (cf i))]) (r := []) rfl (allS pm_b3 all0) (lenOf pd_2 rfl) rfl (Nat.le_of_eq rfl) (by decide) (by decide) (by decide) (by decide) (pc' := 23) rfl (fun T32 h32 v32 P32 q32 S => ?_)
      have pm_b3 := List.mem_append_right P32 pm_b3
      obtain ⟨rfl, K32, B32⟩ := q32
      have Kp := Kp.trans K32 (allS (Or.inr sz_b3) all0)
      have S_assertionsDisabled := Sta.keep1 S_assertionsDisabled K32 (Ary.nostat A_b3)
      have S_HI_BYTE_SHIFT := Sta.keep1 S_HI_BYTE_SHIFT K32 (Ary.nostat A_b3)
      have S_LO_BYTE_SHIFT := Sta.keep1 S_LO_BYTE_SHIFT K32 (Ary.nostat A_b3)
      have A_a1 := A_a1.keep K32 (ninS ne nin0)
      have A_b3 := B32
      show Gl p e below s Z consts_1 _ n0 _ T32 (mkF m 23 #[.val (.ref a1), .val (.int (Int32.ofNat i)), .val (.int (Int32.ofNat N)), .val (.ref b3), .val (.int (Int32.ofNat i))] [])
      refine g_iinc C S (1 : Int32) dtb_23 (pc' := 26) rfl rfl rfl (L' := #[.val (.ref a1), .val (.int ((Int32.ofNat i) + (1 : Int32))), .val (.int (Int32.ofNat N)), .val (.ref b3), .val (.int (Int32.ofNat i))]) rfl ?_
      refine g_iinc C S (1 : Int32) dtb_26 (pc' := 29) rfl rfl rfl (L' := #[.val (.ref a1), .val (.int ((Int32.ofNat i) + (1 : Int32))), .val (.int (Int32.ofNat N)), .val (.ref b3), .val (.int ((Int32.ofNat i) + (1 : Int32)))]) rfl ?_
      refine g_goto C S dtb_29 (pc' := 8) (by decide) (by decide) ?_
      rw [o32_succ]
      exact ih (i + 1) (by omega) _ _ _ S pm_b3 A_a1 (A_b3.cg (tob_set (2 * N) i)) S_assertionsDisabled S_HI_BYTE_SHIFT S_LO_BYTE_SHIFT Kp
  exact LP N 0 (by omega) _ _ _ S pm_b3 A_a1 (A_b3.cg fun q hq => (if_neg (Nat.not_lt_zero q)).symm) S_assertionsDisabled S_HI_BYTE_SHIFT S_LO_BYTE_SHIFT Kp
theorem dc2_0 : decode jdk_52_method_21_code 0 = .ok (.iconst 0, 1) := by decide +kernel
theorem dc2_1 : decode jdk_52_method_21_code 1 = .ok (.istore 5, 2) := by decide +kernel
theorem dc2_3 : decode jdk_52_method_21_code 3 = .ok (.iload 5, 2) := by decide +kernel
theorem dc2_5 : decode jdk_52_method_21_code 5 = .ok (.iload 4, 2) := by decide +kernel
theorem dc2_7 : decode jdk_52_method_21_code 7 = .ok (.if_icmp .ge 37, 3) := by decide +kernel
theorem dc2_10 : decode jdk_52_method_21_code 10 = .ok (.aload_n 0, 1) := by decide +kernel
theorem dc2_11 : decode jdk_52_method_21_code 11 = .ok (.iload_n 1, 1) := by decide +kernel
theorem dc2_12 : decode jdk_52_method_21_code 12 = .ok (.caload, 1) := by decide +kernel
theorem dc2_13 : decode jdk_52_method_21_code 13 = .ok (.istore 6, 2) := by decide +kernel
theorem dc2_15 : decode jdk_52_method_21_code 15 = .ok (.iload 6, 2) := by decide +kernel
theorem dc2_17 : decode jdk_52_method_21_code 17 = .ok (.sipush 255, 3) := by decide +kernel
theorem dc2_20 : decode jdk_52_method_21_code 20 = .ok (.if_icmp .le 6, 3) := by decide +kernel
theorem dc2_23 : decode jdk_52_method_21_code 23 = .ok (.iload 5, 2) := by decide +kernel
theorem dc2_25 : decode jdk_52_method_21_code 25 = .ok (.ireturn, 1) := by decide +kernel
theorem dc2_26 : decode jdk_52_method_21_code 26 = .ok (.aload_n 2, 1) := by decide +kernel
theorem dc2_27 : decode jdk_52_method_21_code 27 = .ok (.iload_n 3, 1) := by decide +kernel
theorem dc2_28 : decode jdk_52_method_21_code 28 = .ok (.iload 6, 2) := by decide +kernel
theorem dc2_30 : decode jdk_52_method_21_code 30 = .ok (.i2b, 1) := by decide +kernel
theorem dc2_31 : decode jdk_52_method_21_code 31 = .ok (.bastore, 1) := by decide +kernel
theorem dc2_32 : decode jdk_52_method_21_code 32 = .ok (.iinc 1 1, 3) := by decide +kernel
theorem dc2_35 : decode jdk_52_method_21_code 35 = .ok (.iinc 3 1, 3) := by decide +kernel
theorem dc2_38 : decode jdk_52_method_21_code 38 = .ok (.iinc 5 1, 3) := by decide +kernel
theorem dc2_41 : decode jdk_52_method_21_code 41 = .ok (.goto (-38), 3) := by decide +kernel
theorem dc2_44 : decode jdk_52_method_21_code 44 = .ok (.iload 4, 2) := by decide +kernel
theorem dc2_46 : decode jdk_52_method_21_code 46 = .ok (.ireturn, 1) := by decide +kernel
set_option maxRecDepth 65536 in
set_option maxHeartbeats 40000000 in
theorem c_cm2 (l : Launch) (Z : State) (a0 : Array Value) (hw : ∀ d ∈ tables_1, d.before a0 Z = true) (a1 : Addr) (a3 : Addr) (h0 : Heap) (n0 : Nat) (N : Nat) (cf : Nat → Int32) (hN : N ≤ 32) (hC : C16 cf N) (ga : n0 ≤ a3) (ne : a1 ≠ a3) (A_a1 : Ary Z h0 a1 .char N (fun q => .int (cf q))) (A_a3 : Ary Z h0 a3 .byte N (fun _ => .int (0 : Int32))) :
    Con l Z consts_1 [a3] (⟨"java/lang/StringUTF16", "compress", "([CI[BII)I"⟩ : MethodName) jdk_52_method_21_code 7 (some .int) ({ frames := 0, cells := 0, slots := 0, locals := 0 } : Room) #[(.ref a1), (.int (0 : Int32)), (.ref a3), (.int (0 : Int32)), (.int (Int32.ofNat N))] h0 n0 (fun v h _ => Keep h0 h [a3] ∧ ((Lat cf N ∧ v = some (.int (Int32.ofNat N)) ∧ Ary Z h a3 .byte N (fun q => .int (bt (cf q)))) ∨ (∃ i, i < N ∧ 255 < (cf i).toInt ∧ v = some (.int (Int32.ofNat i))))) := by
  refine Con.of (plainFor_of_name (by first | (simp [plainName, overriddenIn]; done) | decide +kernel)) (elw hw) (L0 := #[.val (.ref a1), .val (.int (0 : Int32)), .val (.ref a3), .val (.int (0 : Int32)), .val (.int (Int32.ofNat N)), .unset, .unset]) (fun m => by first | (simp [entryFrame, mkF, argsToLocals, Value.category]; done) | rfl) ?_
  intro p e s m below meth c T C S
  have pm_a3 : a3 ∈ [a3] := List.mem_of_getElem? (i := 0) rfl
  have LP : ∀ (d : Nat) (i : Nat) (s6 : Slot), i + d = N → (s6 = .unset ∨ ∃ w, s6 = .val w ∧ w.category = 1) → (∀ j, j < i → (cf j).toInt ≤ 255) → ∀ (T : State) (h : Heap) (PS : List Addr), On p l e ({ frames := 0, cells := 0, slots := 0, locals := 0 } : Room) s m #[(.ref a1), (.int (0 : Int32)), (.ref a3), (.int (0 : Int32)), (.int (Int32.ofNat N))] below meth c Z consts_1 "java/lang/StringUTF16" n0 T h PS 0 0 → a3 ∈ PS → Ary Z h a1 .char N (fun q => .int (cf q)) → Ary Z h a3 .byte N (fun q => if q < i then .int (bt (cf q)) else .int 0) → Keep h0 h [a3] → Gl p e below s Z consts_1 ({ frames := 0, cells := 0, slots := 0, locals := 0 } : Room) n0 (fun v h _ => Keep h0 h [a3] ∧ ((Lat cf N ∧ v = some (.int (Int32.ofNat N)) ∧ Ary Z h a3 .byte N (fun q => .int (bt (cf q)))) ∨ (∃ i, i < N ∧ 255 < (cf i).toInt ∧ v = some (.int (Int32.ofNat i))))) T (mkF m 3 #[.val (.ref a1), .val (.int (Int32.ofNat i)), .val (.ref a3), .val (.int (Int32.ofNat i)), .val (.int (Int32.ofNat N)), .val (.int (Int32.ofNat i)), s6] []) := by
    intro d
    induction d with
    | zero =>
      intro i s6 hd hs6 hE T h PS S pm_a3 A_a1 A_a3 Kp
      refine g_iload C S dc2_3 (pc' := 5) rfl rfl ?_
      refine g_iload C S dc2_5 (pc' := 7) rfl rfl ?_
      refine g_icmp_ge C S dc2_7 (pc' := 44) (pf := 10) (by decide) (by decide) rfl (fun hc7 => ?_) (fun hc7 => absurd hc7 (by rw [o32_lt (by omega) (by omega)]; omega))
      refine g_iload C S dc2_44 (pc' := 46) rfl rfl ?_
      exact g_retI C S dc2_46 (by decide) (by decide) (⟨Kp, Or.inl ⟨lat_of hC (fun j hj => hE j (by omega)), rfl, A_a3.cg fun q hq => if_pos (by omega)⟩⟩)
    | succ d ih =>
      intro i s6 hd hs6 hE T h PS S pm_a3 A_a1 A_a3 Kp
      refine g_iload C S dc2_3 (pc' := 5) rfl rfl ?_
      refine g_iload C S dc2_5 (pc' := 7) rfl rfl ?_
      refine g_icmp_ge C S dc2_7 (pc' := 44) (pf := 10) (by decide) (by decide) rfl (fun hc7 => absurd ((o32_lt (by omega) (by omega)).mpr (by omega)) hc7) (fun hc7 => ?_)
      refine g_aloadN C S dc2_10 (pc' := 11) rfl rfl rfl ?_
      refine g_iloadN C S dc2_11 (pc' := 12) rfl rfl ?_
      refine g_caload C S (i := i) (v := (.int (cf i))) dc2_12 A_a1 (o32 (by omega)) (by omega) rfl (pc' := 13) rfl ?_
      refine g_istore C S dc2_13 (pc' := 15) rfl (L' := #[.val (.ref a1), .val (.int (Int32.ofNat i)), .val (.ref a3), .val (.int (Int32.ofNat i)), .val (.int (Int32.ofNat N)), .val (.int (Int32.ofNat i)), .val (.int (cf i))]) (XS.store1 rfl hs6 rfl) ?_
      refine g_iload C S dc2_15 (pc' := 17) rfl rfl ?_
      refine g_sipush C S (255 : Int32) dc2_17 (pc' := 20) rfl rfl ?_
      refine g_icmp_le C S dc2_20 (pc' := 26) (pf := 23) (by decide) (by decide) rfl (fun hc20 => ?_) (fun hc20 => ?_)
      · refine g_aloadN C S dc2_26 (pc' := 27) rfl rfl rfl ?_
        refine g_iloadN C S dc2_27 (pc' := 28) rfl rfl ?_
        refine g_iload C S dc2_28 (pc' := 30) rfl rfl ?_
        refine g_i2b C S dc2_30 (pc' := 31) rfl ?_
        refine g_bastoreB C S (i := i) dc2_31 A_a3 (o32 (by omega)) (by omega) ga pm_a3 (pc' := 32) rfl (fun T33 h33 S W33 B33 => ?_)
        have A_a1 := A_a1.other W33 ne
        have A_a3 := B33
        have Kp := Kp.wr W33 (Or.inl (List.mem_of_getElem? (i := 0) rfl))
        refine g_iinc C S (1 : Int32) dc2_32 (pc' := 35) rfl rfl rfl (L' := #[.val (.ref a1), .val (.int ((Int32.ofNat i) + (1 : Int32))), .val (.ref a3), .val (.int (Int32.ofNat i)), .val (.int (Int32.ofNat N)), .val (.int (Int32.ofNat i)), .val (.int (cf i))]) rfl ?_
        refine g_iinc C S (1 : Int32) dc2_35 (pc' := 38) rfl rfl rfl (L' := #[.val (.ref a1), .val (.int ((Int32.ofNat i) + (1 : Int32))), .val (.ref a3), .val (.int ((Int32.ofNat i) + (1 : Int32))), .val (.int (Int32.ofNat N)), .val (.int (Int32.ofNat i)), .val (.int (cf i))]) rfl ?_
        refine g_iinc C S (1 : Int32) dc2_38 (pc' := 41) rfl rfl rfl (L' := #[.val (.ref a1), .val (.int ((Int32.ofNat i) + (1 : Int32))), .val (.ref a3), .val (.int ((Int32.ofNat i) + (1 : Int32))), .val (.int (Int32.ofNat N)), .val (.int ((Int32.ofNat i) + (1 : Int32))), .val (.int (cf i))]) rfl ?_
        refine g_goto C S dc2_41 (pc' := 3) (by decide) (by decide) ?_
        rw [o32_succ]
        exact ih (i + 1) _ (by omega) (Or.inr ⟨_, rfl, rfl⟩) (le_step hE (Int.not_lt.mp fun q => hc20 (gt255.mpr q))) _ _ _ S pm_a3 A_a1 (A_a3.cg (cm_set N i)) Kp
      · refine g_iload C S dc2_23 (pc' := 25) rfl rfl ?_
        exact g_retI C S dc2_25 (by decide) (by decide) (⟨Kp, Or.inr ⟨i, by omega, gt255.mp hc20, rfl⟩⟩)
  refine g_iconst C S (0 : Int32) dc2_0 (pc' := 1) rfl rfl ?_
  refine g_istore C S dc2_1 (pc' := 3) rfl (L' := #[.val (.ref a1), .val (.int (0 : Int32)), .val (.ref a3), .val (.int (0 : Int32)), .val (.int (Int32.ofNat N)), .val (.int (0 : Int32)), .unset]) rfl ?_
  exact LP N 0 _ (by omega) (Or.inl rfl) (fun j hj => absurd hj (Nat.not_lt_zero j)) _ _ _ S pm_a3 A_a1 (A_a3.cg fun q hq => (if_neg (Nat.not_lt_zero q)).symm) (Keep.refl _ _)
theorem pd_3 : parseMethodDescriptor "([CI[BII)I" = some ⟨[(.array .char), .int, (.array .byte), .int, .int], some .int⟩ := by decide +kernel
theorem pd_4 : parseMethodDescriptor "([CII)[B" = some ⟨[(.array .char), .int, .int], some (.array .byte)⟩ := by decide +kernel
theorem pd_5 : parseMethodDescriptor "([BI)C" = some ⟨[(.array .byte), .int], some .char⟩ := by decide +kernel
theorem dc1_0 : decode jdk_52_method_16_code 0 = .ok (.iload_n 2, 1) := by decide +kernel
theorem dc1_1 : decode jdk_52_method_16_code 1 = .ok (.newarray .byte, 2) := by decide +kernel
theorem dc1_3 : decode jdk_52_method_16_code 3 = .ok (.astore_n 3, 1) := by decide +kernel
theorem dc1_4 : decode jdk_52_method_16_code 4 = .ok (.aload_n 0, 1) := by decide +kernel
theorem dc1_5 : decode jdk_52_method_16_code 5 = .ok (.iload_n 1, 1) := by decide +kernel
theorem dc1_6 : decode jdk_52_method_16_code 6 = .ok (.aload_n 3, 1) := by decide +kernel
theorem dc1_7 : decode jdk_52_method_16_code 7 = .ok (.iconst 0, 1) := by decide +kernel
theorem dc1_8 : decode jdk_52_method_16_code 8 = .ok (.iload_n 2, 1) := by decide +kernel
theorem dc1_9 : decode jdk_52_method_16_code 9 = .ok (.invokestatic 115, 3) := by decide +kernel
theorem dc1_12 : decode jdk_52_method_16_code 12 = .ok (.istore 4, 2) := by decide +kernel
theorem dc1_14 : decode jdk_52_method_16_code 14 = .ok (.iload 4, 2) := by decide +kernel
theorem dc1_16 : decode jdk_52_method_16_code 16 = .ok (.iload_n 2, 1) := by decide +kernel
theorem dc1_17 : decode jdk_52_method_16_code 17 = .ok (.if_icmp .eq 40, 3) := by decide +kernel
theorem dc1_20 : decode jdk_52_method_16_code 20 = .ok (.aload_n 0, 1) := by decide +kernel
theorem dc1_21 : decode jdk_52_method_16_code 21 = .ok (.iload_n 1, 1) := by decide +kernel
theorem dc1_22 : decode jdk_52_method_16_code 22 = .ok (.iload_n 2, 1) := by decide +kernel
theorem dc1_23 : decode jdk_52_method_16_code 23 = .ok (.invokestatic 119, 3) := by decide +kernel
theorem dc1_26 : decode jdk_52_method_16_code 26 = .ok (.astore 5, 2) := by decide +kernel
theorem dc1_28 : decode jdk_52_method_16_code 28 = .ok (.aload 5, 2) := by decide +kernel
theorem dc1_30 : decode jdk_52_method_16_code 30 = .ok (.iload 4, 2) := by decide +kernel
theorem dc1_32 : decode jdk_52_method_16_code 32 = .ok (.invokestatic 71, 3) := by decide +kernel
theorem dc1_35 : decode jdk_52_method_16_code 35 = .ok (.sipush 255, 3) := by decide +kernel
theorem dc1_38 : decode jdk_52_method_16_code 38 = .ok (.if_icmp .gt 16, 3) := by decide +kernel
theorem dc1_54 : decode jdk_52_method_16_code 54 = .ok (.aload 5, 2) := by decide +kernel
theorem dc1_56 : decode jdk_52_method_16_code 56 = .ok (.areturn, 1) := by decide +kernel
theorem dc1_57 : decode jdk_52_method_16_code 57 = .ok (.aload_n 3, 1) := by decide +kernel
theorem dc1_58 : decode jdk_52_method_16_code 58 = .ok (.areturn, 1) := by decide +kernel
set_option maxRecDepth 65536 in
set_option maxHeartbeats 40000000 in
theorem c_cm1 (l : Launch) (Z : State) (a0 : Array Value) (hw : ∀ d ∈ tables_1, d.before a0 Z = true) (a1 : Addr) (h0 : Heap) (n0 : Nat) (N : Nat) (cf : Nat → Int32) (hN : N ≤ 32) (hC : C16 cf N) (Zn : n0 ≤ h0.size) (S_assertionsDisabled : Sta Z h0 "java/lang/StringUTF16" "$assertionsDisabled" "Z" (.int (1 : Int32))) (S_HI_BYTE_SHIFT : Sta Z h0 "java/lang/StringUTF16" "HI_BYTE_SHIFT" "I" (.int (0 : Int32))) (S_LO_BYTE_SHIFT : Sta Z h0 "java/lang/StringUTF16" "LO_BYTE_SHIFT" "I" (.int (8 : Int32))) (A_a1 : Ary Z h0 a1 .char N (fun q => .int (cf q))) :
    Con l Z consts_1 [] (⟨"java/lang/StringUTF16", "compress", "([CII)[B"⟩ : MethodName) jdk_52_method_16_code 6 (some (.array .byte)) ({ frames := 3, cells := 2, slots := 112, locals := 40 } : Room) #[(.ref a1), (.int (0 : Int32)), (.int (Int32.ofNat N))] h0 n0 (fun v h _ => ∃ b M g, v = some (.ref b) ∧ Keep h0 h [] ∧ Ary Z h b .byte M (fun q => .int (g q)) ∧ Cmp cf N M g) := by
  refine Con.of (plainFor_of_name (by first | (simp [plainName, overriddenIn]; done) | decide +kernel)) (elw hw) (L0 := #[.val (.ref a1), .val (.int (0 : Int32)), .val (.int (Int32.ofNat N)), .unset, .unset, .unset]) (fun m => by first | (simp [entryFrame, mkF, argsToLocals, Value.category]; done) | rfl) ?_
  intro p e s m below meth c T C S
  have Kp := Keep.refl h0 []
  refine g_iloadN C S dc1_0 (pc' := 1) rfl rfl ?_
  refine g_newarray C S (N := N) (cap := 32) dc1_1 (hw _ (List.mem_of_getElem? (i := 16) rfl)) (o32 (by omega)) (by omega) (by decide) (by decide) (by decide) (pc' := 3) rfl (fun T34 h34 a34 S g34 E34 A_a34 => ?_)
  have ne_a1_a34 : a1 ≠ a34 := ne_new g34 A_a1.lt
  have sz_a34 : h0.size ≤ a34 := ge_of g34 Kp.1
  have ge_a34 : n0 ≤ a34 := ge_of g34 Zn
  have pm_a34 := On.hd S
  have Kp := Kp.ext E34
  have A_a1 := A_a1.ext E34
  have Zn := Nat.le_trans Zn E34.1
  have S_assertionsDisabled := S_assertionsDisabled.ext E34
  have S_HI_BYTE_SHIFT := S_HI_BYTE_SHIFT.ext E34
  have S_LO_BYTE_SHIFT := S_LO_BYTE_SHIFT.ext E34
  have A_a34 : Ary Z h34 a34 .byte N (fun _ => (.int (0 : Int32))) := A_a34
  refine g_astoreN C S dc1_3 (pc' := 4) rfl rfl (L' := #[.val (.ref a1), .val (.int (0 : Int32)), .val (.int (Int32.ofNat N)), .val (.ref a34), .unset, .unset]) rfl ?_
  refine g_aloadN C S dc1_4 (pc' := 5) rfl rfl rfl ?_
  refine g_iloadN C S dc1_5 (pc' := 6) rfl rfl ?_
  refine g_aloadN C S dc1_6 (pc' := 7) rfl rfl rfl ?_
  refine g_iconst C S (0 : Int32) dc1_7 (pc' := 8) rfl rfl ?_
  refine g_iloadN C S dc1_8 (pc' := 9) rfl rfl ?_
  refine g_callS C S (rm := ({ frames := 0, cells := 0, slots := 0, locals := 0 } : Room)) (W := 0) dc1_9 (hw _ (List.mem_of_getElem? (i := 61) rfl)) (hw _ (List.mem_of_getElem? (i := 62) rfl)) (hw _ (List.mem_of_getElem? (i := 59) rfl)) (hw _ (List.mem_of_getElem? (i := 63) rfl)) (by decide) (c_cm2 l Z a0 hw a1 a34 h34 n0 N cf hN hC ge_a34 ne_a1_a34 A_a1 A_a34) (argsL := [(.ref a1), (.int (0 : Int32)), (.ref a34), (.int (0 : Int32)), (.int (Int32.ofNat N))]) (r := []) rfl (allS pm_a34 all0) (lenOf pd_3 rfl) rfl (Nat.le_of_eq rfl) (by decide) (by decide) (by decide) (by decide) (pc' := 12) rfl (fun T35 h35 v35 P35 q35 S => ?_)
  have pm_a34 := List.mem_append_right P35 pm_a34
  obtain ⟨K35, q35⟩ := q35
  have Kp := Kp.trans K35 (allS (Or.inr sz_a34) all0)
  have S_assertionsDisabled := Sta.keep1 S_assertionsDisabled K35 (Ary.nostat A_a34)
  have S_HI_BYTE_SHIFT := Sta.keep1 S_HI_BYTE_SHIFT K35 (Ary.nostat A_a34)
  have S_LO_BYTE_SHIFT := Sta.keep1 S_LO_BYTE_SHIFT K35 (Ary.nostat A_a34)
  have A_a1 := A_a1.keep K35 (ninS ne_a1_a34 nin0)
  have Zn := Nat.le_trans Zn K35.1
  rcases q35 with ⟨hLat, rfl, A_a34⟩ | ⟨i, hi, hgt, rfl⟩
  · show Gl p e below s Z consts_1 _ n0 _ T35 (mkF m 12 #[.val (.ref a1), .val (.int (0 : Int32)), .val (.int (Int32.ofNat N)), .val (.ref a34), .unset, .unset] [(.int (Int32.ofNat N))])
    refine g_istore C S dc1_12 (pc' := 14) rfl (L' := #[.val (.ref a1), .val (.int (0 : Int32)), .val (.int (Int32.ofNat N)), .val (.ref a34), .val (.int (Int32.ofNat N)), .unset]) rfl ?_
    refine g_iload C S dc1_14 (pc' := 16) rfl rfl ?_
    refine g_iloadN C S dc1_16 (pc' := 17) rfl rfl ?_
    refine g_icmp_eq C S dc1_17 (pc' := 57) (pf := 20) (by decide) (by decide) rfl (fun hc17 => ?_) (fun hc17 => absurd rfl hc17)
    refine g_aloadN C S dc1_57 (pc' := 58) rfl rfl rfl ?_
    exact g_retA C S dc1_58 rfl rfl rfl (by decide) (by decide) (⟨_, _, _, rfl, Kp, A_a34, Or.inl ⟨hLat, rfl, fun _ _ => rfl⟩⟩)
  · show Gl p e below s Z consts_1 _ n0 _ T35 (mkF m 12 #[.val (.ref a1), .val (.int (0 : Int32)), .val (.int (Int32.ofNat N)), .val (.ref a34), .unset, .unset] [(.int (Int32.ofNat i))])
    refine g_istore C S dc1_12 (pc' := 14) rfl (L' := #[.val (.ref a1), .val (.int (0 : Int32)), .val (.int (Int32.ofNat N)), .val (.ref a34), .val (.int (Int32.ofNat i)), .unset]) rfl ?_
    refine g_iload C S dc1_14 (pc' := 16) rfl rfl ?_
    refine g_iloadN C S dc1_16 (pc' := 17) rfl rfl ?_
    refine g_icmp_eq C S dc1_17 (pc' := 57) (pf := 20) (by decide) (by decide) rfl (fun hc17 => absurd ((o32_inj (by omega) (by omega)).mp hc17) (by omega)) (fun hc17 => ?_)
    refine g_aloadN C S dc1_20 (pc' := 21) rfl rfl rfl ?_
    refine g_iloadN C S dc1_21 (pc' := 22) rfl rfl ?_
    refine g_iloadN C S dc1_22 (pc' := 23) rfl rfl ?_
    refine g_callS C S (rm := ({ frames := 2, cells := 1, slots := 80, locals := 24 } : Room)) (W := 0) dc1_23 (hw _ (List.mem_of_getElem? (i := 204) rfl)) (hw _ (List.mem_of_getElem? (i := 205) rfl)) (hw _ (List.mem_of_getElem? (i := 59) rfl)) (hw _ (List.mem_of_getElem? (i := 206) rfl)) (by decide) (c_tob l Z a0 hw a1 h35 n0 N cf hN Zn S_assertionsDisabled S_HI_BYTE_SHIFT S_LO_BYTE_SHIFT A_a1) (argsL := [(.ref a1), (.int (0 : Int32)), (.int (Int32.ofNat N))]) (r := []) rfl all0 (lenOf pd_4 rfl) rfl (Nat.le_of_eq rfl) (by decide) (by decide) (by decide) (by decide) (pc' := 26) rfl (fun T36 h36 v36 P36 q36 S => ?_)
    have pm_a34 := List.mem_append_right P36 pm_a34
    obtain ⟨b36, rfl, K36, A_b36⟩ := q36
    have Kp := Kp.trans K36 all0
    have S_assertionsDisabled := Sta.keep0 S_assertionsDisabled K36
    have S_HI_BYTE_SHIFT := Sta.keep0 S_HI_BYTE_SHIFT K36
    have S_LO_BYTE_SHIFT := Sta.keep0 S_LO_BYTE_SHIFT K36
    have A_a1 := A_a1.keep K36 nin0
    have Zn := Nat.le_trans Zn K36.1
    show Gl p e below s Z consts_1 _ n0 _ T36 (mkF m 26 #[.val (.ref a1), .val (.int (0 : Int32)), .val (.int (Int32.ofNat N)), .val (.ref a34), .val (.int (Int32.ofNat i)), .unset] [(.ref b36)])
    refine g_astore C S dc1_26 (pc' := 28) rfl rfl (L' := #[.val (.ref a1), .val (.int (0 : Int32)), .val (.int (Int32.ofNat N)), .val (.ref a34), .val (.int (Int32.ofNat i)), .val (.ref b36)]) rfl ?_
    refine g_aload C S dc1_28 (pc' := 30) rfl rfl rfl ?_
    refine g_iload C S dc1_30 (pc' := 32) rfl rfl ?_
    refine g_callS C S (rm := ({ frames := 0, cells := 0, slots := 0, locals := 0 } : Room)) (W := 0) dc1_32 (hw _ (List.mem_of_getElem? (i := 220) rfl)) (hw _ (List.mem_of_getElem? (i := 221) rfl)) (hw _ (List.mem_of_getElem? (i := 59) rfl)) (hw _ (List.mem_of_getElem? (i := 222) rfl)) (by decide) (c_get l Z a0 hw b36 h36 n0 N i cf hi (by omega) hC S_assertionsDisabled S_HI_BYTE_SHIFT S_LO_BYTE_SHIFT A_b36) (argsL := [(.ref b36), (.int (Int32.ofNat i))]) (r := []) rfl all0 (lenOf pd_5 rfl) rfl (Nat.le_of_eq rfl) (by decide) (by decide) (by decide) (by decide) (pc' := 35) rfl (fun T37 h37 v37 P37 q37 S => ?_)
    have pm_a34 := List.mem_append_right P37 pm_a34
    obtain ⟨rfl, e37⟩ := q37; rw [e37] at S
    show Gl p e below s Z consts_1 _ n0 _ T37 (mkF m 35 #[.val (.ref a1), .val (.int (0 : Int32)), .val (.int (Int32.ofNat N)), .val (.ref a34), .val (.int (Int32.ofNat i)), .val (.ref b36)] [(.int (cf i))])
    refine g_sipush C S (255 : Int32) dc1_35 (pc' := 38) rfl rfl ?_
    refine g_icmp_gt C S dc1_38 (pc' := 54) (pf := 41) (by decide) (by decide) rfl (fun hc38 => ?_) (fun hc38 => absurd (gt255.mpr hgt) hc38)
    refine g_aload C S dc1_54 (pc' := 56) rfl rfl rfl ?_
    exact g_retA C S dc1_56 rfl rfl rfl (by decide) (by decide) (⟨_, _, _, rfl, Kp, A_b36, Or.inr ⟨not_lat hi hgt, rfl, fun _ _ => rfl⟩⟩)
theorem dca_0 : decode jdk_52_method_15_code 0 = .ok (.iload_n 1, 1) := by decide +kernel
theorem dca_1 : decode jdk_52_method_15_code 1 = .ok (.aload_n 0, 1) := by decide +kernel
theorem dca_2 : decode jdk_52_method_15_code 2 = .ok (.arraylength, 1) := by decide +kernel
theorem dca_3 : decode jdk_52_method_15_code 3 = .ok (.isub, 1) := by decide +kernel
theorem dca_4 : decode jdk_52_method_15_code 4 = .ok (.bipush 31, 2) := by decide +kernel
theorem dca_6 : decode jdk_52_method_15_code 6 = .ok (.iushr, 1) := by decide +kernel
theorem dca_7 : decode jdk_52_method_15_code 7 = .ok (.i2b, 1) := by decide +kernel
theorem dca_8 : decode jdk_52_method_15_code 8 = .ok (.ireturn, 1) := by decide +kernel
set_option maxRecDepth 65536 in
set_option maxHeartbeats 40000000 in
theorem c_cfa (l : Launch) (Z : State) (a0 : Array Value) (hw : ∀ d ∈ tables_1, d.before a0 Z = true) (a1 : Addr) (h0 : Heap) (n0 : Nat) (N M : Nat) (f : Nat → Value) (hN : N ≤ 32) (hM : M = N ∨ (M = 2 * N ∧ 0 < N)) (A_a1 : Ary Z h0 a1 .byte M f) :
    Con l Z consts_1 [] (⟨"java/lang/StringUTF16", "coderFromArrayLen", "([BI)B"⟩ : MethodName) jdk_52_method_15_code 2 (some .byte) ({ frames := 0, cells := 0, slots := 0, locals := 0 } : Room) #[(.ref a1), (.int (Int32.ofNat N))] h0 n0 (fun v h _ => v = some (.int (if M = N then 0 else 1)) ∧ h = h0) := by
  refine Con.of (plainFor_of_name (by first | (simp [plainName, overriddenIn]; done) | decide +kernel)) (elw hw) (L0 := #[.val (.ref a1), .val (.int (Int32.ofNat N))]) (fun m => by first | (simp [entryFrame, mkF, argsToLocals, Value.category]; done) | rfl) ?_
  intro p e s m below meth c T C S
  refine g_iloadN C S dca_0 (pc' := 1) rfl rfl ?_
  refine g_aloadN C S dca_1 (pc' := 2) rfl rfl rfl ?_
  refine g_arraylength C S (x := (Int32.ofNat M)) dca_2 A_a1 rfl (pc' := 3) rfl ?_
  refine g_isub C S dca_3 (pc' := 4) rfl ?_
  refine g_bipush C S (31 : Int32) dca_4 (pc' := 6) rfl rfl ?_
  refine g_iushr C S dca_6 (pc' := 7) rfl ?_
  refine g_i2b C S dca_7 (pc' := 8) rfl ?_
  exact g_retB C S dca_8 (by rw [cfa_val (by omega) hM]; split <;> rfl) (by decide) (by decide) (⟨by rw [cfa_val (by omega) hM], rfl⟩)
theorem pd_6 : parseMethodDescriptor "([BI)B" = some ⟨[(.array .byte), .int], some .byte⟩ := by decide +kernel
theorem di4_0 : decode jdk_42_method_149_code 0 = .ok (.aload_n 0, 1) := by decide +kernel
theorem di4_1 : decode jdk_42_method_149_code 1 = .ok (.invokespecial 1, 3) := by decide +kernel
theorem di4_4 : decode jdk_42_method_149_code 4 = .ok (.iload_n 3, 1) := by decide +kernel
theorem di4_5 : decode jdk_42_method_149_code 5 = .ok (.ifCond .ne 22, 3) := by decide +kernel
theorem di4_8 : decode jdk_42_method_149_code 8 = .ok (.aload_n 0, 1) := by decide +kernel
theorem di4_9 : decode jdk_42_method_149_code 9 = .ok (.ldc 7, 2) := by decide +kernel
theorem di4_11 : decode jdk_42_method_149_code 11 = .ok (.getfield 9, 3) := by decide +kernel
theorem di4_14 : decode jdk_42_method_149_code 14 = .ok (.putfield 9, 3) := by decide +kernel
theorem di4_17 : decode jdk_42_method_149_code 17 = .ok (.aload_n 0, 1) := by decide +kernel
theorem di4_18 : decode jdk_42_method_149_code 18 = .ok (.ldc 7, 2) := by decide +kernel
theorem di4_20 : decode jdk_42_method_149_code 20 = .ok (.getfield 15, 3) := by decide +kernel
theorem di4_23 : decode jdk_42_method_149_code 23 = .ok (.putfield 15, 3) := by decide +kernel
theorem di4_26 : decode jdk_42_method_149_code 26 = .ok (.return_, 1) := by decide +kernel
theorem di4_27 : decode jdk_42_method_149_code 27 = .ok (.getstatic 38, 3) := by decide +kernel
theorem di4_30 : decode jdk_42_method_149_code 30 = .ok (.ifCond .eq 28, 3) := by decide +kernel
theorem di4_33 : decode jdk_42_method_149_code 33 = .ok (.aload_n 1, 1) := by decide +kernel
theorem di4_34 : decode jdk_42_method_149_code 34 = .ok (.iload_n 2, 1) := by decide +kernel
theorem di4_35 : decode jdk_42_method_149_code 35 = .ok (.iload_n 3, 1) := by decide +kernel
theorem di4_36 : decode jdk_42_method_149_code 36 = .ok (.invokestatic 177, 3) := by decide +kernel
theorem di4_39 : decode jdk_42_method_149_code 39 = .ok (.astore 5, 2) := by decide +kernel
theorem di4_41 : decode jdk_42_method_149_code 41 = .ok (.aload_n 0, 1) := by decide +kernel
theorem di4_42 : decode jdk_42_method_149_code 42 = .ok (.aload 5, 2) := by decide +kernel
theorem di4_44 : decode jdk_42_method_149_code 44 = .ok (.iload_n 3, 1) := by decide +kernel
theorem di4_45 : decode jdk_42_method_149_code 45 = .ok (.invokestatic 47, 3) := by decide +kernel
theorem di4_48 : decode jdk_42_method_149_code 48 = .ok (.putfield 15, 3) := by decide +kernel
theorem di4_51 : decode jdk_42_method_149_code 51 = .ok (.aload_n 0, 1) := by decide +kernel
theorem di4_52 : decode jdk_42_method_149_code 52 = .ok (.aload 5, 2) := by decide +kernel
theorem di4_54 : decode jdk_42_method_149_code 54 = .ok (.putfield 9, 3) := by decide +kernel
theorem di4_57 : decode jdk_42_method_149_code 57 = .ok (.return_, 1) := by decide +kernel
set_option maxRecDepth 65536 in
set_option maxHeartbeats 40000000 in
theorem c_in4 (l : Launch) (Z : State) (a0 : Array Value) (hw : ∀ d ∈ tables_1, d.before a0 Z = true) (a1 : Addr) (a2 : Addr) (h0 : Heap) (n0 : Nat) (u1 u2 : Value) (N : Nat) (cf : Nat → Int32) (hN : N ≤ 32) (hC : C16 cf N) (ga : n0 ≤ a1) (ne : a1 ≠ a2) (Zn : n0 ≤ h0.size) (cs : Int32) (hcs : ¬ cs = 0) (S_COMPACT_STRINGS : Sta Z h0 "java/lang/String" "COMPACT_STRINGS" "Z" (.int cs)) (S_assertionsDisabled : Sta Z h0 "java/lang/StringUTF16" "$assertionsDisabled" "Z" (.int (1 : Int32))) (S_HI_BYTE_SHIFT : Sta Z h0 "java/lang/StringUTF16" "HI_BYTE_SHIFT" "I" (.int (0 : Int32))) (S_LO_BYTE_SHIFT : Sta Z h0 "java/lang/StringUTF16" "LO_BYTE_SHIFT" "I" (.int (8 : Int32))) (X_a1 : Exa Z h0 a1 "java/lang/String") (F_value_a1 : Fld Z h0 a1 "java/lang/String" "value" "[B" u1) (F_coder_a1 : Fld Z h0 a1 "java/lang/String" "coder" "B" u2) (A_a2 : Ary Z h0 a2 .char N (fun q => .int (cf q))) :
    Con l Z consts_1 [a1] (⟨"java/lang/String", "<init>", "([CIILjava/lang/Void;)V"⟩ : MethodName) jdk_42_method_149_code 6 none ({ frames := 4, cells := 4, slots := 112, locals := 58 } : Room) #[(.ref a1), (.ref a2), (.int (0 : Int32)), (.int (Int32.ofNat N)), .null] h0 n0 (fun v h _ => v = none ∧ Keep h0 h [a1] ∧ ∃ b cd M g, (Exa Z h a1 "java/lang/String" ∧ Fld Z h a1 "java/lang/String" "coder" "B" (.int cd) ∧ Fld Z h a1 "java/lang/String" "value" "[B" (.ref b) ∧ Ary Z h b .byte M (fun q => .int (g q))) ∧ Enc cf N cd M g) := by
  refine Con.of (plainFor_of_name (by first | (simp [plainName, overriddenIn]; done) | decide +kernel)) (elw hw) (L0 := #[.val (.ref a1), .val (.ref a2), .val (.int (0 : Int32)), .val (.int (Int32.ofNat N)), .val .null, .unset]) (fun m => by first | (simp [entryFrame, mkF, argsToLocals, Value.category]; done) | rfl) ?_
  intro p e s m below meth c T C S
  have pm_a1 : a1 ∈ [a1] := List.mem_of_getElem? (i := 0) rfl
  have Kp := Keep.refl h0 [a1]
  refine g_aloadN C S di4_0 (pc' := 1) rfl rfl rfl ?_
  refine g_initO C S (W := 0) di4_1 (hw _ (List.mem_of_getElem? (i := 12) rfl)) (hw _ (List.mem_of_getElem? (i := 13) rfl)) (hw _ (List.mem_of_getElem? (i := 14) rfl)) rfl (by decide) (Nat.le_of_eq rfl) (by decide) (pc' := 4) rfl (fun T38 S => ?_)
  refine g_iloadN C S di4_4 (pc' := 5) rfl rfl ?_
  refine g_if_ne C S di4_5 (pc' := 27) (pf := 8) (by decide) (by decide) rfl (fun hc5 => ?_) (fun hc5 => ?_)
  · refine g_getS C S di4_27 (host := "") (Or.inl (hw _ (List.mem_of_getElem? (i := 34) rfl))) Via.refl S_COMPACT_STRINGS (pc' := 30) rfl (fun T39 S => ?_)
    refine g_if_eq C S di4_30 (pc' := 58) (pf := 33) (by decide) (by decide) rfl (fun hc30 => absurd hc30 hcs) (fun hc30 => ?_)
    refine g_aloadN C S di4_33 (pc' := 34) rfl rfl rfl ?_
    refine g_iloadN C S di4_34 (pc' := 35) rfl rfl ?_
    refine g_iloadN C S di4_35 (pc' := 36) rfl rfl ?_
    refine g_callS C S (rm := ({ frames := 3, cells := 2, slots := 112, locals := 40 } : Room)) (W := 0) di4_36 (hw _ (List.mem_of_getElem? (i := 57) rfl)) (hw _ (List.mem_of_getElem? (i := 58) rfl)) (hw _ (List.mem_of_getElem? (i := 59) rfl)) (hw _ (List.mem_of_getElem? (i := 60) rfl)) (by decide) (c_cm1 l Z a0 hw a2 h0 n0 N cf hN hC Zn S_assertionsDisabled S_HI_BYTE_SHIFT S_LO_BYTE_SHIFT A_a2) (argsL := [(.ref a2), (.int (0 : Int32)), (.int (Int32.ofNat N))]) (r := []) rfl all0 (lenOf pd_4 rfl) rfl (Nat.le_of_eq rfl) (by decide) (by decide) (by decide) (by decide) (pc' := 39) rfl (fun T40 h40 v40 P40 q40 S => ?_)
    have pm_a1 := List.mem_append_right P40 pm_a1
    obtain ⟨b40, M40, g40, rfl, K40, A_b40, hCm⟩ := q40
    have Kp := Kp.trans K40 all0
    have S_COMPACT_STRINGS := Sta.keep0 S_COMPACT_STRINGS K40
    have S_assertionsDisabled := Sta.keep0 S_assertionsDisabled K40
    have S_HI_BYTE_SHIFT := Sta.keep0 S_HI_BYTE_SHIFT K40
    have S_LO_BYTE_SHIFT := Sta.keep0 S_LO_BYTE_SHIFT K40
    have X_a1 := X_a1.keep K40
    have F_value_a1 := F_value_a1.keep K40 nin0
    have F_coder_a1 := F_coder_a1.keep K40 nin0
    have A_a2 := A_a2.keep K40 nin0
    have Zn := Nat.le_trans Zn K40.1
    have ne_a1_b40 := (exa_ary X_a1 A_b40 (hw _ (List.mem_of_getElem? (i := 3) rfl)))
    show Gl p e below s Z consts_1 _ n0 _ T40 (mkF m 39 #[.val (.ref a1), .val (.ref a2), .val (.int (0 : Int32)), .val (.int (Int32.ofNat N)), .val .null, .unset] [(.ref b40)])
    refine g_astore C S di4_39 (pc' := 41) rfl rfl (L' := #[.val (.ref a1), .val (.ref a2), .val (.int (0 : Int32)), .val (.int (Int32.ofNat N)), .val .null, .val (.ref b40)]) rfl ?_
    refine g_aloadN C S di4_41 (pc' := 42) rfl rfl rfl ?_
    refine g_aload C S di4_42 (pc' := 44) rfl rfl rfl ?_
    refine g_iloadN C S di4_44 (pc' := 45) rfl rfl ?_
    refine g_callS C S (rm := ({ frames := 0, cells := 0, slots := 0, locals := 0 } : Room)) (W := 1) di4_45 (hw _ (List.mem_of_getElem? (i := 64) rfl)) (hw _ (List.mem_of_getElem? (i := 65) rfl)) (hw _ (List.mem_of_getElem? (i := 59) rfl)) (hw _ (List.mem_of_getElem? (i := 66) rfl)) (by decide) (c_cfa l Z a0 hw b40 h40 n0 N M40 _ hN hCm.pos A_b40) (argsL := [(.ref b40), (.int (Int32.ofNat N))]) (r := [(.ref a1)]) rfl all0 (lenOf pd_6 rfl) rfl (Nat.le_of_eq rfl) (by decide) (by decide) (by decide) (by decide) (pc' := 48) rfl (fun T41 h41 v41 P41 q41 S => ?_)
    have pm_a1 := List.mem_append_right P41 pm_a1
    obtain ⟨rfl, e41⟩ := q41; rw [e41] at S
    show Gl p e below s Z consts_1 _ n0 _ T41 (mkF m 48 #[.val (.ref a1), .val (.ref a2), .val (.int (0 : Int32)), .val (.int (Int32.ofNat N)), .val .null, .val (.ref b40)] [(.int (if M40 = N then 0 else 1)), (.ref a1)])
    refine g_putF C S di4_48 (host := "") (Or.inl (hw _ (List.mem_of_getElem? (i := 22) rfl))) Via.refl F_coder_a1 X_a1 (Or.inr ⟨(hw _ (List.mem_of_getElem? (i := 18) rfl)), rfl, rfl⟩) (hw _ (List.mem_of_getElem? (i := 3) rfl)) (ty := .byte) (by decide) (by split <;> rfl) (by split <;> rfl) ga (Or.inl pm_a1) (pc' := 51) rfl (fun T42 h42 S W42 => ?_)
    have X_a1 := X_a1.wr W42
    have F_value_a1 := F_value_a1.other W42 (Or.inr (slot_ne (a0 := a0) (t := (.array .byte)) (t' := .byte) (Or.inr (hw _ (List.mem_of_getElem? (i := 17) rfl))) (Or.inr (hw _ (List.mem_of_getElem? (i := 18) rfl))) (by decide) (by decide) (by decide)))
    have F_coder_a1 := F_coder_a1.same W42
    have A_a2 := A_a2.other W42 (Ne.symm ne)
    have S_COMPACT_STRINGS := S_COMPACT_STRINGS.wr W42
    have S_assertionsDisabled := S_assertionsDisabled.wr W42
    have S_HI_BYTE_SHIFT := S_HI_BYTE_SHIFT.wr W42
    have S_LO_BYTE_SHIFT := S_LO_BYTE_SHIFT.wr W42
    have Zn := Nat.le_trans Zn (Nat.le_of_eq W42.size.symm)
    have A_b40 := A_b40.other W42 (Ne.symm ne_a1_b40)
    have Kp := Kp.wr W42 (Or.inl (List.mem_of_getElem? (i := 0) rfl))
    refine g_aloadN C S di4_51 (pc' := 52) rfl rfl rfl ?_
    refine g_aload C S di4_52 (pc' := 54) rfl rfl rfl ?_
    refine g_putF C S di4_54 (host := "") (Or.inl (hw _ (List.mem_of_getElem? (i := 21) rfl))) Via.refl F_value_a1 X_a1 (Or.inr ⟨(hw _ (List.mem_of_getElem? (i := 17) rfl)), rfl, rfl⟩) (hw _ (List.mem_of_getElem? (i := 3) rfl)) (ty := (.array .byte)) (by decide) rfl rfl ga (Or.inl pm_a1) (pc' := 57) rfl (fun T43 h43 S W43 => ?_)
    have X_a1 := X_a1.wr W43
    have F_value_a1 := F_value_a1.same W43
    have F_coder_a1 := F_coder_a1.other W43 (Or.inr (slot_ne (a0 := a0) (t := .byte) (t' := (.array .byte)) (Or.inr (hw _ (List.mem_of_getElem? (i := 18) rfl))) (Or.inr (hw _ (List.mem_of_getElem? (i := 17) rfl))) (by decide) (by decide) (by decide)))
    have A_a2 := A_a2.other W43 (Ne.symm ne)
    have S_COMPACT_STRINGS := S_COMPACT_STRINGS.wr W43
    have S_assertionsDisabled := S_assertionsDisabled.wr W43
    have S_HI_BYTE_SHIFT := S_HI_BYTE_SHIFT.wr W43
    have S_LO_BYTE_SHIFT := S_LO_BYTE_SHIFT.wr W43
    have Zn := Nat.le_trans Zn (Nat.le_of_eq W43.size.symm)
    have A_b40 := A_b40.other W43 (Ne.symm ne_a1_b40)
    have Kp := Kp.wr W43 (Or.inl (List.mem_of_getElem? (i := 0) rfl))
    exact g_return C S di4_57 (by decide) (by decide) (⟨rfl, Kp, b40, _, _, _, ⟨X_a1, F_coder_a1, F_value_a1, A_b40⟩, hCm.enc⟩)
  · refine g_aloadN C S di4_8 (pc' := 9) rfl rfl rfl ?_
    refine g_ldcS C S (vs := []) (zz := 0) (N := 0) (nn := 0) di4_9 (hw _ (List.mem_of_getElem? (i := 15) rfl)) (List.mem_of_getElem? (i := 3) rfl) ⟨(by decide), rfl⟩ (by decide) (by decide) rfl (by decide) (by decide) (by decide) (by decide) (pc' := 11) rfl (fun T44 h44 a44 b44 S E44 X_a44 F_coder_a44 F_value_a44 A_b44 ns44 => ?_)
    have Kp := Kp.ext E44
    have X_a1 := X_a1.ext E44
    have F_value_a1 := F_value_a1.ext E44
    have F_coder_a1 := F_coder_a1.ext E44
    have A_a2 := A_a2.ext E44
    have S_COMPACT_STRINGS := S_COMPACT_STRINGS.ext E44
    have S_assertionsDisabled := S_assertionsDisabled.ext E44
    have S_HI_BYTE_SHIFT := S_HI_BYTE_SHIFT.ext E44
    have S_LO_BYTE_SHIFT := S_LO_BYTE_SHIFT.ext E44
    have Zn := Nat.le_trans Zn E44.1
    have ne_a1_a44 := (ns44 _ pm_a1).1
    have ne_a1_b44 := (ns44 _ pm_a1).2
    refine g_getF C S di4_11 (host := "") (Or.inl (hw _ (List.mem_of_getElem? (i := 21) rfl))) Via.refl F_value_a44 (pc' := 14) rfl (fun T45 S => ?_)
    refine g_putF C S di4_14 (host := "") (Or.inl (hw _ (List.mem_of_getElem? (i := 21) rfl))) Via.refl F_value_a1 X_a1 (Or.inr ⟨(hw _ (List.mem_of_getElem? (i := 17) rfl)), rfl, rfl⟩) (hw _ (List.mem_of_getElem? (i := 3) rfl)) (ty := (.array .byte)) (by decide) rfl rfl ga (Or.inl pm_a1) (pc' := 17) rfl (fun T46 h46 S W46 => ?_)
    have X_a1 := X_a1.wr W46
    have F_value_a1 := F_value_a1.same W46
    have F_coder_a1 := F_coder_a1.other W46 (Or.inr (slot_ne (a0 := a0) (t := .byte) (t' := (.array .byte)) (Or.inr (hw _ (List.mem_of_getElem? (i := 18) rfl))) (Or.inr (hw _ (List.mem_of_getElem? (i := 17) rfl))) (by decide) (by decide) (by decide)))
    have A_a2 := A_a2.other W46 (Ne.symm ne)
    have S_COMPACT_STRINGS := S_COMPACT_STRINGS.wr W46
    have S_assertionsDisabled := S_assertionsDisabled.wr W46
    have S_HI_BYTE_SHIFT := S_HI_BYTE_SHIFT.wr W46
    have S_LO_BYTE_SHIFT := S_LO_BYTE_SHIFT.wr W46
    have Zn := Nat.le_trans Zn (Nat.le_of_eq W46.size.symm)
    have X_a44 := X_a44.wr W46
    have F_coder_a44 := F_coder_a44.other W46 (Or.inl (Ne.symm ne_a1_a44))
    have F_value_a44 := F_value_a44.other W46 (Or.inl (Ne.symm ne_a1_a44))
    have A_b44 := A_b44.other W46 (Ne.symm ne_a1_b44)
    have Kp := Kp.wr W46 (Or.inl (List.mem_of_getElem? (i := 0) rfl))
    refine g_aloadN C S di4_17 (pc' := 18) rfl rfl rfl ?_
    refine g_ldcS C S (vs := []) (zz := 0) (N := 0) (nn := 0) di4_18 (hw _ (List.mem_of_getElem? (i := 15) rfl)) (List.mem_of_getElem? (i := 3) rfl) ⟨(by decide), rfl⟩ (by decide) (by decide) rfl (by decide) (by decide) (by decide) (by decide) (pc' := 20) rfl (fun T47 h47 a47 b47 S E47 X_a47 F_coder_a47 F_value_a47 A_b47 ns47 => ?_)
    have Kp := Kp.ext E47
    have X_a1 := X_a1.ext E47
    have F_value_a1 := F_value_a1.ext E47
    have F_coder_a1 := F_coder_a1.ext E47
    have A_a2 := A_a2.ext E47
    have S_COMPACT_STRINGS := S_COMPACT_STRINGS.ext E47
    have S_assertionsDisabled := S_assertionsDisabled.ext E47
    have S_HI_BYTE_SHIFT := S_HI_BYTE_SHIFT.ext E47
    have S_LO_BYTE_SHIFT := S_LO_BYTE_SHIFT.ext E47
    have Zn := Nat.le_trans Zn E47.1
    have X_a44 := X_a44.ext E47
    have F_coder_a44 := F_coder_a44.ext E47
    have F_value_a44 := F_value_a44.ext E47
    have A_b44 := A_b44.ext E47
    have ne_a1_a47 := (ns47 _ pm_a1).1
    have ne_a1_b47 := (ns47 _ pm_a1).2
    refine g_getF C S di4_20 (host := "") (Or.inl (hw _ (List.mem_of_getElem? (i := 22) rfl))) Via.refl F_coder_a47 (pc' := 23) rfl (fun T48 S => ?_)
    refine g_putF C S di4_23 (host := "") (Or.inl (hw _ (List.mem_of_getElem? (i := 22) rfl))) Via.refl F_coder_a1 X_a1 (Or.inr ⟨(hw _ (List.mem_of_getElem? (i := 18) rfl)), rfl, rfl⟩) (hw _ (List.mem_of_getElem? (i := 3) rfl)) (ty := .byte) (by decide) rfl rfl ga (Or.inl pm_a1) (pc' := 26) rfl (fun T49 h49 S W49 => ?_)
    have X_a1 := X_a1.wr W49
    have F_value_a1 := F_value_a1.other W49 (Or.inr (slot_ne (a0 := a0) (t := (.array .byte)) (t' := .byte) (Or.inr (hw _ (List.mem_of_getElem? (i := 17) rfl))) (Or.inr (hw _ (List.mem_of_getElem? (i := 18) rfl))) (by decide) (by decide) (by decide)))
    have F_coder_a1 := F_coder_a1.same W49
    have A_a2 := A_a2.other W49 (Ne.symm ne)
    have S_COMPACT_STRINGS := S_COMPACT_STRINGS.wr W49
    have S_assertionsDisabled := S_assertionsDisabled.wr W49
    have S_HI_BYTE_SHIFT := S_HI_BYTE_SHIFT.wr W49
    have S_LO_BYTE_SHIFT := S_LO_BYTE_SHIFT.wr W49
    have Zn := Nat.le_trans Zn (Nat.le_of_eq W49.size.symm)
    have X_a44 := X_a44.wr W49
    have F_coder_a44 := F_coder_a44.other W49 (Or.inl (Ne.symm ne_a1_a44))
    have F_value_a44 := F_value_a44.other W49 (Or.inl (Ne.symm ne_a1_a44))
    have A_b44 := A_b44.other W49 (Ne.symm ne_a1_b44)
    have X_a47 := X_a47.wr W49
    have F_coder_a47 := F_coder_a47.other W49 (Or.inl (Ne.symm ne_a1_a47))
    have F_value_a47 := F_value_a47.other W49 (Or.inl (Ne.symm ne_a1_a47))
    have A_b47 := A_b47.other W49 (Ne.symm ne_a1_b47)
    have Kp := Kp.wr W49 (Or.inl (List.mem_of_getElem? (i := 0) rfl))
    exact g_return C S di4_26 (by decide) (by decide) (⟨rfl, Kp, b44, 0, N, fun _ => 0, ⟨X_a1, F_coder_a1, F_value_a1, (show Ary Z _ b44 .byte N (fun _ => .int 0) from (z32_of (by omega) hc5) ▸ A_b44.cg (fun q hq => absurd hq (Nat.not_lt_zero q)))⟩, Enc.zero (z32_of (by omega) hc5)⟩)
theorem pd_7 : parseMethodDescriptor "([CIILjava/lang/Void;)V" = some ⟨[(.array .char), .int, .int, (.object "java/lang/Void")], none⟩ := by decide +kernel
theorem di1_0 : decode jdk_42_method_3_code 0 = .ok (.aload_n 0, 1) := by decide +kernel
theorem di1_1 : decode jdk_42_method_3_code 1 = .ok (.aload_n 1, 1) := by decide +kernel
theorem di1_2 : decode jdk_42_method_3_code 2 = .ok (.iconst 0, 1) := by decide +kernel
theorem di1_3 : decode jdk_42_method_3_code 3 = .ok (.aload_n 1, 1) := by decide +kernel
theorem di1_4 : decode jdk_42_method_3_code 4 = .ok (.arraylength, 1) := by decide +kernel
theorem di1_5 : decode jdk_42_method_3_code 5 = .ok (.aconst_null, 1) := by decide +kernel
theorem di1_6 : decode jdk_42_method_3_code 6 = .ok (.invokespecial 27, 3) := by decide +kernel
theorem di1_9 : decode jdk_42_method_3_code 9 = .ok (.return_, 1) := by decide +kernel
set_option maxRecDepth 65536 in
set_option maxHeartbeats 40000000 in
theorem c_ini (l : Launch) (Z : State) (a0 : Array Value) (hw : ∀ d ∈ tables_1, d.before a0 Z = true) (a1 : Addr) (a2 : Addr) (h0 : Heap) (n0 : Nat) (u1 u2 : Value) (N : Nat) (cf : Nat → Int32) (hN : N ≤ 32) (hC : C16 cf N) (ga : n0 ≤ a1) (ne : a1 ≠ a2) (Zn : n0 ≤ h0.size) (cs : Int32) (hcs : ¬ cs = 0) (S_COMPACT_STRINGS : Sta Z h0 "java/lang/String" "COMPACT_STRINGS" "Z" (.int cs)) (S_assertionsDisabled : Sta Z h0 "java/lang/StringUTF16" "$assertionsDisabled" "Z" (.int (1 : Int32))) (S_HI_BYTE_SHIFT : Sta Z h0 "java/lang/StringUTF16" "HI_BYTE_SHIFT" "I" (.int (0 : Int32))) (S_LO_BYTE_SHIFT : Sta Z h0 "java/lang/StringUTF16" "LO_BYTE_SHIFT" "I" (.int (8 : Int32))) (X_a1 : Exa Z h0 a1 "java/lang/String") (F_value_a1 : Fld Z h0 a1 "java/lang/String" "value" "[B" u1) (F_coder_a1 : Fld Z h0 a1 "java/lang/String" "coder" "B" u2) (A_a2 : Ary Z h0 a2 .char N (fun q => .int (cf q))) :
    Con l Z consts_1 [a1] (⟨"java/lang/String", "<init>", "([C)V"⟩ : MethodName) jdk_42_method_3_code 2 none ({ frames := 5, cells := 4, slots := 112, locals := 75 } : Room) #[(.ref a1), (.ref a2)] h0 n0 (fun v h _ => v = none ∧ Keep h0 h [a1] ∧ ∃ b cd M g, (Exa Z h a1 "java/lang/String" ∧ Fld Z h a1 "java/lang/String" "coder" "B" (.int cd) ∧ Fld Z h a1 "java/lang/String" "value" "[B" (.ref b) ∧ Ary Z h b .byte M (fun q => .int (g q))) ∧ Enc cf N cd M g) := by
  refine Con.of (plainFor_of_name (by first | (simp [plainName, overriddenIn]; done) | decide +kernel)) (elw hw) (L0 := #[.val (.ref a1), .val (.ref a2)]) (fun m => by first | (simp [entryFrame, mkF, argsToLocals, Value.category]; done) | rfl) ?_
  intro p e s m below meth c T C S
  have pm_a1 : a1 ∈ [a1] := List.mem_of_getElem? (i := 0) rfl
  refine g_aloadN C S di1_0 (pc' := 1) rfl rfl rfl ?_
  refine g_aloadN C S di1_1 (pc' := 2) rfl rfl rfl ?_
  refine g_iconst C S (0 : Int32) di1_2 (pc' := 3) rfl rfl ?_
  refine g_aloadN C S di1_3 (pc' := 4) rfl rfl rfl ?_
  refine g_arraylength C S (x := (Int32.ofNat N)) di1_4 A_a2 rfl (pc' := 5) rfl ?_
  refine g_aconst_null C S di1_5 (pc' := 6) rfl ?_
  refine g_callI C S (rm := ({ frames := 4, cells := 4, slots := 112, locals := 58 } : Room)) (W := 0) di1_6 rfl (hw _ (List.mem_of_getElem? (i := 8) rfl)) (hw _ (List.mem_of_getElem? (i := 9) rfl)) (hw _ (List.mem_of_getElem? (i := 4) rfl)) (hw _ (List.mem_of_getElem? (i := 11) rfl)) (by decide) (c_in4 l Z a0 hw a1 a2 h0 n0 u1 u2 N cf hN hC ga ne Zn cs hcs S_COMPACT_STRINGS S_assertionsDisabled S_HI_BYTE_SHIFT S_LO_BYTE_SHIFT X_a1 F_value_a1 F_coder_a1 A_a2) (argsL := [(.ref a2), (.int (0 : Int32)), (.int (Int32.ofNat N)), .null]) (r := []) rfl (allS pm_a1 all0) (lenOf pd_7 rfl) rfl (Nat.le_of_eq rfl) (by decide) (by decide) (by decide) (by decide) (pc' := 9) rfl (fun T50 h50 v50 P50 q50 S => ?_)
  have pm_a1 := List.mem_append_right P50 pm_a1
  obtain ⟨rfl, q50⟩ := q50
  show Gl p e below s Z consts_1 _ n0 _ T50 (mkF m 9 #[.val (.ref a1), .val (.ref a2)] [])
  exact g_return C S di1_9 (by decide) (by decide) (⟨rfl, q50⟩)
theorem dco_0 : decode jdk_42_method_152_code 0 = .ok (.getstatic 38, 3) := by decide +kernel
theorem dco_3 : decode jdk_42_method_152_code 3 = .ok (.ifCond .eq 10, 3) := by decide +kernel
theorem dco_6 : decode jdk_42_method_152_code 6 = .ok (.aload_n 0, 1) := by decide +kernel
theorem dco_7 : decode jdk_42_method_152_code 7 = .ok (.getfield 15, 3) := by decide +kernel
theorem dco_10 : decode jdk_42_method_152_code 10 = .ok (.goto 4, 3) := by decide +kernel
theorem dco_14 : decode jdk_42_method_152_code 14 = .ok (.ireturn, 1) := by decide +kernel
set_option maxRecDepth 65536 in
set_option maxHeartbeats 40000000 in
theorem c_cod (l : Launch) (Z : State) (a0 : Array Value) (hw : ∀ d ∈ tables_1, d.before a0 Z = true) (a1 : Addr) (h0 : Heap) (n0 : Nat) (cd : Int32) (hcd : narrow .byte (.int cd) = .int cd) (cs : Int32) (hcs : ¬ cs = 0) (S_COMPACT_STRINGS : Sta Z h0 "java/lang/String" "COMPACT_STRINGS" "Z" (.int cs)) (F_coder_a1 : Fld Z h0 a1 "java/lang/String" "coder" "B" (.int cd)) :
    Con l Z consts_1 [] (⟨"java/lang/String", "coder", "()B"⟩ : MethodName) jdk_42_method_152_code 1 (some .byte) ({ frames := 0, cells := 0, slots := 0, locals := 0 } : Room) #[(.ref a1)] h0 n0 (fun v h _ => v = some (.int cd) ∧ h = h0) := by
  refine Con.of (plainFor_of_name (by first | (simp [plainName, overriddenIn]; done) | decide +kernel)) (elw hw) (L0 := #[.val (.ref a1)]) (fun m => by first | (simp [entryFrame, mkF, argsToLocals, Value.category]; done) | rfl) ?_
  intro p e s m below meth c T C S
  refine g_getS C S dco_0 (host := "") (Or.inl (hw _ (List.mem_of_getElem? (i := 34) rfl))) Via.refl S_COMPACT_STRINGS (pc' := 3) rfl (fun T51 S => ?_)
  refine g_if_eq C S dco_3 (pc' := 13) (pf := 6) (by decide) (by decide) rfl (fun hc3 => absurd hc3 hcs) (fun hc3 => ?_)
  refine g_aloadN C S dco_6 (pc' := 7) rfl rfl rfl ?_
  refine g_getF C S dco_7 (host := "") (Or.inl (hw _ (List.mem_of_getElem? (i := 22) rfl))) Via.refl F_coder_a1 (pc' := 10) rfl (fun T52 S => ?_)
  refine g_goto C S dco_10 (pc' := 14) (by decide) (by decide) ?_
  exact g_retB C S dco_14 hcd (by decide) (by decide) (⟨rfl, rfl⟩)
theorem pd_8 : parseMethodDescriptor "()B" = some ⟨[], some .byte⟩ := by decide +kernel
theorem dle_0 : decode jdk_42_method_54_code 0 = .ok (.aload_n 0, 1) := by decide +kernel
theorem dle_1 : decode jdk_42_method_54_code 1 = .ok (.getfield 9, 3) := by decide +kernel
theorem dle_4 : decode jdk_42_method_54_code 4 = .ok (.arraylength, 1) := by decide +kernel
theorem dle_5 : decode jdk_42_method_54_code 5 = .ok (.aload_n 0, 1) := by decide +kernel
theorem dle_6 : decode jdk_42_method_54_code 6 = .ok (.invokevirtual 335, 3) := by decide +kernel
theorem dle_9 : decode jdk_42_method_54_code 9 = .ok (.ishr, 1) := by decide +kernel
theorem dle_10 : decode jdk_42_method_54_code 10 = .ok (.ireturn, 1) := by decide +kernel
set_option maxRecDepth 65536 in
set_option maxHeartbeats 40000000 in
theorem c_len (l : Launch) (Z : State) (a0 : Array Value) (hw : ∀ d ∈ tables_1, d.before a0 Z = true) (a1 : Addr) (h0 : Heap) (n0 : Nat) (b1 : Addr) (cd : Int32) (M N : Nat) (f : Nat → Value) (hLn : Ln cd M N) (hN : N < 2 ^ 20) (cs : Int32) (hcs : ¬ cs = 0) (S_COMPACT_STRINGS : Sta Z h0 "java/lang/String" "COMPACT_STRINGS" "Z" (.int cs)) (X_a1 : Exa Z h0 a1 "java/lang/String") (F_coder_a1 : Fld Z h0 a1 "java/lang/String" "coder" "B" (.int cd)) (F_value_a1 : Fld Z h0 a1 "java/lang/String" "value" "[B" (.ref b1)) (A_b1 : Ary Z h0 b1 .byte M f) :
    Con l Z consts_1 [] (⟨"java/lang/String", "length", "()I"⟩ : MethodName) jdk_42_method_54_code 1 (some .int) ({ frames := 1, cells := 0, slots := 0, locals := 13 } : Room) #[(.ref a1)] h0 n0 (fun v h _ => v = some (.int (Int32.ofNat N)) ∧ h = h0) := by
  refine Con.of (plainFor_of_name (by first | (simp [plainName, overriddenIn]; done) | decide +kernel)) (elw hw) (L0 := #[.val (.ref a1)]) (fun m => by first | (simp [entryFrame, mkF, argsToLocals, Value.category]; done) | rfl) ?_
  intro p e s m below meth c T C S
  refine g_aloadN C S dle_0 (pc' := 1) rfl rfl rfl ?_
  refine g_getF C S dle_1 (host := "") (Or.inl (hw _ (List.mem_of_getElem? (i := 21) rfl))) Via.refl F_value_a1 (pc' := 4) rfl (fun T53 S => ?_)
  refine g_arraylength C S (x := (Int32.ofNat M)) dle_4 A_b1 rfl (pc' := 5) rfl ?_
  refine g_aloadN C S dle_5 (pc' := 6) rfl rfl rfl ?_
  refine g_callV C S (rm := ({ frames := 0, cells := 0, slots := 0, locals := 0 } : Room)) (W := 1) dle_6 (hw _ (List.mem_of_getElem? (i := 29) rfl)) (hw _ (List.mem_of_getElem? (i := 30) rfl)) (fun _ hZ => notFace_of_selects (args := #[]) (mvT hZ (hw _ (List.mem_of_getElem? (i := 32) rfl)))) (hw _ (List.mem_of_getElem? (i := 32) rfl)) (hw _ (List.mem_of_getElem? (i := 31) rfl)) (hw _ (List.mem_of_getElem? (i := 4) rfl)) (hw _ (List.mem_of_getElem? (i := 33) rfl)) (by decide) rfl X_a1 (c_cod l Z a0 hw a1 h0 n0 cd hLn.nar cs hcs S_COMPACT_STRINGS F_coder_a1) (argsL := []) (r := [(.int (Int32.ofNat M))]) rfl all0 (lenOf pd_8 rfl) rfl (Nat.le_of_eq rfl) (by decide) (by decide) (by decide) (by decide) (pc' := 9) rfl (fun T54 h54 v54 P54 q54 S => ?_)
  obtain ⟨rfl, e54⟩ := q54; rw [e54] at S
  show Gl p e below s Z consts_1 _ n0 _ T54 (mkF m 9 #[.val (.ref a1)] [(.int cd), (.int (Int32.ofNat M))])
  refine g_ishr C S dle_9 (pc' := 10) rfl ?_
  exact g_retI C S dle_10 (by decide) (by decide) (⟨by rw [hLn.shr hN], rfl⟩)
theorem dil_0 : decode jdk_42_method_154_code 0 = .ok (.getstatic 38, 3) := by decide +kernel
theorem dil_3 : decode jdk_42_method_154_code 3 = .ok (.ifCond .eq 14, 3) := by decide +kernel
theorem dil_6 : decode jdk_42_method_154_code 6 = .ok (.aload_n 0, 1) := by decide +kernel
theorem dil_7 : decode jdk_42_method_154_code 7 = .ok (.getfield 15, 3) := by decide +kernel
theorem dil_10 : decode jdk_42_method_154_code 10 = .ok (.ifCond .ne 7, 3) := by decide +kernel
theorem dil_13 : decode jdk_42_method_154_code 13 = .ok (.iconst 1, 1) := by decide +kernel
theorem dil_14 : decode jdk_42_method_154_code 14 = .ok (.goto 4, 3) := by decide +kernel
theorem dil_18 : decode jdk_42_method_154_code 18 = .ok (.ireturn, 1) := by decide +kernel
set_option maxRecDepth 65536 in
set_option maxHeartbeats 40000000 in
theorem c_lat (l : Launch) (Z : State) (a0 : Array Value) (hw : ∀ d ∈ tables_1, d.before a0 Z = true) (a1 : Addr) (h0 : Heap) (n0 : Nat) (cs : Int32) (hcs : ¬ cs = 0) (S_COMPACT_STRINGS : Sta Z h0 "java/lang/String" "COMPACT_STRINGS" "Z" (.int cs)) (F_coder_a1 : Fld Z h0 a1 "java/lang/String" "coder" "B" (.int (0 : Int32))) :
    Con l Z consts_1 [] (⟨"java/lang/String", "isLatin1", "()Z"⟩ : MethodName) jdk_42_method_154_code 1 (some .boolean) ({ frames := 0, cells := 0, slots := 0, locals := 0 } : Room) #[(.ref a1)] h0 n0 (fun v h _ => v = some (.int 1) ∧ h = h0) := by
  refine Con.of (plainFor_of_name (by first | (simp [plainName, overriddenIn]; done) | decide +kernel)) (elw hw) (L0 := #[.val (.ref a1)]) (fun m => by first | (simp [entryFrame, mkF, argsToLocals, Value.category]; done) | rfl) ?_
  intro p e s m below meth c T C S
  refine g_getS C S dil_0 (host := "") (Or.inl (hw _ (List.mem_of_getElem? (i := 34) rfl))) Via.refl S_COMPACT_STRINGS (pc' := 3) rfl (fun T55 S => ?_)
  refine g_if_eq C S dil_3 (pc' := 17) (pf := 6) (by decide) (by decide) rfl (fun hc3 => absurd hc3 hcs) (fun hc3 => ?_)
  refine g_aloadN C S dil_6 (pc' := 7) rfl rfl rfl ?_
  refine g_getF C S dil_7 (host := "") (Or.inl (hw _ (List.mem_of_getElem? (i := 22) rfl))) Via.refl F_coder_a1 (pc' := 10) rfl (fun T56 S => ?_)
  refine g_if_ne C S dil_10 (pc' := 17) (pf := 13) (by decide) (by decide) rfl (fun hc10 => absurd rfl hc10) (fun hc10 => ?_)
  refine g_iconst C S (1 : Int32) dil_13 (pc' := 14) rfl rfl ?_
  refine g_goto C S dil_14 (pc' := 18) (by decide) (by decide) ?_
  exact g_retZ C S dil_18 (by decide) (by decide) (by decide) (⟨rfl, rfl⟩)
theorem del_0 : decode jdk_43_method_13_code 0 = .ok (.aload_n 0, 1) := by decide +kernel
theorem del_1 : decode jdk_43_method_13_code 1 = .ok (.arraylength, 1) := by decide +kernel
theorem del_2 : decode jdk_43_method_13_code 2 = .ok (.aload_n 1, 1) := by decide +kernel
theorem del_3 : decode jdk_43_method_13_code 3 = .ok (.arraylength, 1) := by decide +kernel
theorem del_4 : decode jdk_43_method_13_code 4 = .ok (.if_icmp .ne 30, 3) := by decide +kernel
theorem del_7 : decode jdk_43_method_13_code 7 = .ok (.iconst 0, 1) := by decide +kernel
theorem del_8 : decode jdk_43_method_13_code 8 = .ok (.istore_n 2, 1) := by decide +kernel
theorem del_9 : decode jdk_43_method_13_code 9 = .ok (.iload_n 2, 1) := by decide +kernel
theorem del_10 : decode jdk_43_method_13_code 10 = .ok (.aload_n 0, 1) := by decide +kernel
theorem del_11 : decode jdk_43_method_13_code 11 = .ok (.arraylength, 1) := by decide +kernel
theorem del_12 : decode jdk_43_method_13_code 12 = .ok (.if_icmp .ge 20, 3) := by decide +kernel
theorem del_15 : decode jdk_43_method_13_code 15 = .ok (.aload_n 0, 1) := by decide +kernel
theorem del_16 : decode jdk_43_method_13_code 16 = .ok (.iload_n 2, 1) := by decide +kernel
theorem del_17 : decode jdk_43_method_13_code 17 = .ok (.baload, 1) := by decide +kernel
theorem del_18 : decode jdk_43_method_13_code 18 = .ok (.aload_n 1, 1) := by decide +kernel
theorem del_19 : decode jdk_43_method_13_code 19 = .ok (.iload_n 2, 1) := by decide +kernel
theorem del_20 : decode jdk_43_method_13_code 20 = .ok (.baload, 1) := by decide +kernel
theorem del_21 : decode jdk_43_method_13_code 21 = .ok (.if_icmp .eq 5, 3) := by decide +kernel
theorem del_24 : decode jdk_43_method_13_code 24 = .ok (.iconst 0, 1) := by decide +kernel
theorem del_25 : decode jdk_43_method_13_code 25 = .ok (.ireturn, 1) := by decide +kernel
theorem del_26 : decode jdk_43_method_13_code 26 = .ok (.iinc 2 1, 3) := by decide +kernel
theorem del_29 : decode jdk_43_method_13_code 29 = .ok (.goto (-20), 3) := by decide +kernel
theorem del_32 : decode jdk_43_method_13_code 32 = .ok (.iconst 1, 1) := by decide +kernel
theorem del_33 : decode jdk_43_method_13_code 33 = .ok (.ireturn, 1) := by decide +kernel
theorem del_34 : decode jdk_43_method_13_code 34 = .ok (.iconst 0, 1) := by decide +kernel
theorem del_35 : decode jdk_43_method_13_code 35 = .ok (.ireturn, 1) := by decide +kernel
set_option maxRecDepth 65536 in
set_option maxHeartbeats 40000000 in
theorem c_eqB (l : Launch) (Z : State) (a0 : Array Value) (hw : ∀ d ∈ tables_1, d.before a0 Z = true) (a1 : Addr) (a2 : Addr) (h0 : Heap) (n0 : Nat) (N M : Nat) (g g' : Nat → Int32) (hN : N < 2 ^ 30) (hM : M < 2 ^ 30) (A_a1 : Ary Z h0 a1 .byte N (fun q => .int (g q))) (A_a2 : Ary Z h0 a2 .byte M (fun q => .int (g' q))) :
    Con l Z consts_1 [] (⟨"java/lang/StringLatin1", "equals", "([B[B)Z"⟩ : MethodName) jdk_43_method_13_code 3 (some .boolean) ({ frames := 0, cells := 0, slots := 0, locals := 0 } : Room) #[(.ref a1), (.ref a2)] h0 n0 (fun v h _ => h = h0 ∧ EqAt g g' N M v) := by
  refine Con.of (plainFor_of_name (by first | (simp [plainName, overriddenIn]; done) | decide +kernel)) (elw hw) (L0 := #[.val (.ref a1), .val (.ref a2), .unset]) (fun m => by first | (simp [entryFrame, mkF, argsToLocals, Value.category]; done) | rfl) ?_
  intro p e s m below meth c T C S
  refine g_aloadN C S del_0 (pc' := 1) rfl rfl rfl ?_
  refine g_arraylength C S (x := (Int32.ofNat N)) del_1 A_a1 rfl (pc' := 2) rfl ?_
  refine g_aloadN C S del_2 (pc' := 3) rfl rfl rfl ?_
  refine g_arraylength C S (x := (Int32.ofNat M)) del_3 A_a2 rfl (pc' := 4) rfl ?_
  refine g_icmp_ne C S del_4 (pc' := 34) (pf := 7) (by decide) (by decide) rfl (fun hc4 => ?_) (fun hc4 => ?_)
  · refine g_iconst C S (0 : Int32) del_34 (pc' := 35) rfl rfl ?_
    exact g_retZ C S del_35 (by decide) (by decide) (by decide) (⟨rfl, Or.inr ⟨rfl, fun q => hc4 (congrArg Int32.ofNat q.1)⟩⟩)
  · have eNM : N = M := (o32_inj (by omega) (by omega)).mp hc4
    have LP : ∀ (d : Nat) (i : Nat), i + d = N → (∀ j, j < i → g j = g' j) → Gl p e below s Z consts_1 ({ frames := 0, cells := 0, slots := 0, locals := 0 } : Room) n0 (fun v h _ => h = h0 ∧ EqAt g g' N M v) T (mkF m 9 #[.val (.ref a1), .val (.ref a2), .val (.int (Int32.ofNat i))] []) := by
      intro d
      induction d with
      | zero =>
        intro i hd hE
        refine g_iloadN C S del_9 (pc' := 10) rfl rfl ?_
        refine g_aloadN C S del_10 (pc' := 11) rfl rfl rfl ?_
        refine g_arraylength C S (x := (Int32.ofNat N)) del_11 A_a1 rfl (pc' := 12) rfl ?_
        refine g_icmp_ge C S del_12 (pc' := 32) (pf := 15) (by decide) (by decide) rfl (fun hc12 => ?_) (fun hc12 => absurd hc12 (by rw [o32_lt (by omega) (by omega)]; omega))
        refine g_iconst C S (1 : Int32) del_32 (pc' := 33) rfl rfl ?_
        exact g_retZ C S del_33 (by decide) (by decide) (by decide) (⟨rfl, Or.inl ⟨rfl, eNM, fun j hj => hE j (by omega)⟩⟩)
      | succ d ih =>
        intro i hd hE
        refine g_iloadN C S del_9 (pc' := 10) rfl rfl ?_
        refine g_aloadN C S del_10 (pc' := 11) rfl rfl rfl ?_
        refine g_arraylength C S (x := (Int32.ofNat N)) del_11 A_a1 rfl (pc' := 12) rfl ?_
        refine g_icmp_ge C S del_12 (pc' := 32) (pf := 15) (by decide) (by decide) rfl (fun hc12 => absurd ((o32_lt (by omega) (by omega)).mpr (by omega)) hc12) (fun hc12 => ?_)
        refine g_aloadN C S del_15 (pc' := 16) rfl rfl rfl ?_
        refine g_iloadN C S del_16 (pc' := 17) rfl rfl ?_
        refine g_baloadB C S (i := i) (v := (.int (g i))) del_17 A_a1 (o32 (by omega)) (by omega) rfl (pc' := 18) rfl ?_
        refine g_aloadN C S del_18 (pc' := 19) rfl rfl rfl ?_
        refine g_iloadN C S del_19 (pc' := 20) rfl rfl ?_
        refine g_baloadB C S (i := i) (v := (.int (g' i))) del_20 A_a2 (o32 (by omega)) (by omega) rfl (pc' := 21) rfl ?_
        refine g_icmp_eq C S del_21 (pc' := 26) (pf := 24) (by decide) (by decide) rfl (fun hc21 => ?_) (fun hc21 => ?_)
        · refine g_iinc C S (1 : Int32) del_26 (pc' := 29) rfl rfl rfl (L' := #[.val (.ref a1), .val (.ref a2), .val (.int ((Int32.ofNat i) + (1 : Int32)))]) rfl ?_
          refine g_goto C S del_29 (pc' := 9) (by decide) (by decide) ?_
          rw [o32_succ]
          exact ih (i + 1) (by omega) (eq_step hE hc21)
        · refine g_iconst C S (0 : Int32) del_24 (pc' := 25) rfl rfl ?_
          exact g_retZ C S del_25 (by decide) (by decide) (by decide) (⟨rfl, Or.inr ⟨rfl, fun q => hc21 (q.2 i (by omega))⟩⟩)
    refine g_iconst C S (0 : Int32) del_7 (pc' := 8) rfl rfl ?_
    refine g_istoreN C S del_8 (pc' := 9) rfl (L' := #[.val (.ref a1), .val (.ref a2), .val (.int (0 : Int32))]) rfl ?_
    exact LP N 0 (by omega) (fun j hj => absurd hj (Nat.not_lt_zero j))
theorem EqAt.val {g g' : Nat → Int32} {N M : Nat} {v : Option Value} (h : EqAt g g' N M v) : ∃ z, v = some (.int z) ∧ EqAt g g' N M (some (.int z)) := by
  rcases h with ⟨rfl, q⟩ | ⟨rfl, q⟩
  · exact ⟨1, rfl, Or.inl ⟨rfl, q⟩⟩
  · exact ⟨0, rfl, Or.inr ⟨rfl, q⟩⟩
theorem EqAt.one {g g' : Nat → Int32} {N M : Nat} {z : Int32} (h : EqAt g g' N M (some (.int z))) (q : ¬ z = 0) : EqAt g g' N M (some (.int 1)) := by
  rcases h with ⟨e, r⟩ | ⟨e, r⟩
  · exact Or.inl ⟨rfl, r⟩
  · exact absurd (Value.int.inj (Option.some.inj e)) q
theorem EqAt.zero {g g' : Nat → Int32} {N M : Nat} {z : Int32} (h : EqAt g g' N M (some (.int z))) (q : z = 0) : EqAt g g' N M (some (.int 0)) := by
  rcases h with ⟨e, r⟩ | ⟨e, r⟩
  · exact absurd ((Value.int.inj (Option.some.inj e)).symm.trans q) (by decide)
  · exact Or.inr ⟨rfl, r⟩
theorem same_bytes {Z : State} {h : Heap} {a1 a2 b1 b2 : Addr} {N M : Nat} {g g' : Nat → Int32} (e : Value.ref a1 = .ref a2) (F1 : Fld Z h a1 "java/lang/String" "value" "[B" (.ref b1)) (F2 : Fld Z h a2 "java/lang/String" "value" "[B" (.ref b2)) (A1 : Ary Z h b1 .byte N (fun q => .int (g q))) (A2 : Ary Z h b2 .byte M (fun q => .int (g' q))) : N = M ∧ ∀ i, i < N → g i = g' i := by
  have e' := Value.ref.inj e
  subst e'
  have eb := Value.ref.inj (fld_uniq F1 F2)
  subst eb
  obtain ⟨q1, q2⟩ := A1.uniq A2
  exact ⟨q1, fun i hi => Value.int.inj (q2 i hi)⟩
theorem pd_9 : parseMethodDescriptor "([B[B)Z" = some ⟨[(.array .byte), (.array .byte)], some .boolean⟩ := by decide +kernel
theorem deq_0 : decode jdk_42_method_66_code 0 = .ok (.aload_n 0, 1) := by decide +kernel
theorem deq_1 : decode jdk_42_method_66_code 1 = .ok (.aload_n 1, 1) := by decide +kernel
theorem deq_2 : decode jdk_42_method_66_code 2 = .ok (.if_acmp .ne 5, 3) := by decide +kernel
theorem deq_5 : decode jdk_42_method_66_code 5 = .ok (.iconst 1, 1) := by decide +kernel
theorem deq_6 : decode jdk_42_method_66_code 6 = .ok (.ireturn, 1) := by decide +kernel
theorem deq_7 : decode jdk_42_method_66_code 7 = .ok (.aload_n 1, 1) := by decide +kernel
theorem deq_8 : decode jdk_42_method_66_code 8 = .ok (.instanceof 10, 3) := by decide +kernel
theorem deq_11 : decode jdk_42_method_66_code 11 = .ok (.ifCond .eq 43, 3) := by decide +kernel
theorem deq_14 : decode jdk_42_method_66_code 14 = .ok (.aload_n 1, 1) := by decide +kernel
theorem deq_15 : decode jdk_42_method_66_code 15 = .ok (.checkcast 10, 3) := by decide +kernel
theorem deq_18 : decode jdk_42_method_66_code 18 = .ok (.astore_n 2, 1) := by decide +kernel
theorem deq_19 : decode jdk_42_method_66_code 19 = .ok (.getstatic 38, 3) := by decide +kernel
theorem deq_22 : decode jdk_42_method_66_code 22 = .ok (.ifCond .eq 14, 3) := by decide +kernel
theorem deq_25 : decode jdk_42_method_66_code 25 = .ok (.aload_n 0, 1) := by decide +kernel
theorem deq_26 : decode jdk_42_method_66_code 26 = .ok (.getfield 15, 3) := by decide +kernel
theorem deq_29 : decode jdk_42_method_66_code 29 = .ok (.aload_n 2, 1) := by decide +kernel
theorem deq_30 : decode jdk_42_method_66_code 30 = .ok (.getfield 15, 3) := by decide +kernel
theorem deq_33 : decode jdk_42_method_66_code 33 = .ok (.if_icmp .ne 21, 3) := by decide +kernel
theorem deq_36 : decode jdk_42_method_66_code 36 = .ok (.aload_n 0, 1) := by decide +kernel
theorem deq_37 : decode jdk_42_method_66_code 37 = .ok (.getfield 9, 3) := by decide +kernel
theorem deq_40 : decode jdk_42_method_66_code 40 = .ok (.aload_n 2, 1) := by decide +kernel
theorem deq_41 : decode jdk_42_method_66_code 41 = .ok (.getfield 9, 3) := by decide +kernel
theorem deq_44 : decode jdk_42_method_66_code 44 = .ok (.invokestatic 541, 3) := by decide +kernel
theorem deq_47 : decode jdk_42_method_66_code 47 = .ok (.ifCond .eq 7, 3) := by decide +kernel
theorem deq_50 : decode jdk_42_method_66_code 50 = .ok (.iconst 1, 1) := by decide +kernel
theorem deq_51 : decode jdk_42_method_66_code 51 = .ok (.goto 4, 3) := by decide +kernel
theorem deq_54 : decode jdk_42_method_66_code 54 = .ok (.iconst 0, 1) := by decide +kernel
theorem deq_55 : decode jdk_42_method_66_code 55 = .ok (.ireturn, 1) := by decide +kernel
set_option maxRecDepth 65536 in
set_option maxHeartbeats 40000000 in
theorem c_eqS (l : Launch) (Z : State) (a0 : Array Value) (hw : ∀ d ∈ tables_1, d.before a0 Z = true) (a1 : Addr) (a2 : Addr) (h0 : Heap) (n0 : Nat) (b1 b2 : Addr) (cd : Int32) (N M : Nat) (g g' : Nat → Int32) (hN : N < 2 ^ 30) (hM : M < 2 ^ 30) (cs : Int32) (hcs : ¬ cs = 0) (S_COMPACT_STRINGS : Sta Z h0 "java/lang/String" "COMPACT_STRINGS" "Z" (.int cs)) (X_a1 : Exa Z h0 a1 "java/lang/String") (F_coder_a1 : Fld Z h0 a1 "java/lang/String" "coder" "B" (.int cd)) (F_value_a1 : Fld Z h0 a1 "java/lang/String" "value" "[B" (.ref b1)) (A_b1 : Ary Z h0 b1 .byte N (fun q => .int (g q))) (X_a2 : Exa Z h0 a2 "java/lang/String") (F_coder_a2 : Fld Z h0 a2 "java/lang/String" "coder" "B" (.int cd)) (F_value_a2 : Fld Z h0 a2 "java/lang/String" "value" "[B" (.ref b2)) (A_b2 : Ary Z h0 b2 .byte M (fun q => .int (g' q))) :
    Con l Z consts_1 [] (⟨"java/lang/String", "equals", "(Ljava/lang/Object;)Z"⟩ : MethodName) jdk_42_method_66_code 3 (some .boolean) ({ frames := 1, cells := 0, slots := 0, locals := 14 } : Room) #[(.ref a1), (.ref a2)] h0 n0 (fun v h _ => h = h0 ∧ EqAt g g' N M v) := by
  refine Con.of (plainFor_of_name (by first | (simp [plainName, overriddenIn]; done) | decide +kernel)) (elw hw) (L0 := #[.val (.ref a1), .val (.ref a2), .unset]) (fun m => by first | (simp [entryFrame, mkF, argsToLocals, Value.category]; done) | rfl) ?_
  intro p e s m below meth c T C S
  refine g_aloadN C S deq_0 (pc' := 1) rfl rfl rfl ?_
  refine g_aloadN C S deq_1 (pc' := 2) rfl rfl rfl ?_
  refine g_acmp_ne C S rfl rfl deq_2 (pc' := 7) (pf := 5) (by decide) (by decide) rfl (fun hc2 => ?_) (fun hc2 => ?_)
  · refine g_aloadN C S deq_7 (pc' := 8) rfl rfl rfl ?_
    refine g_inst C S deq_8 (hw _ (List.mem_of_getElem? (i := 200) rfl)) X_a2 (pc' := 11) rfl (fun T57 S => ?_)
    refine g_if_eq C S deq_11 (pc' := 54) (pf := 14) (by decide) (by decide) rfl (fun hc11 => absurd hc11 (by decide)) (fun hc11 => ?_)
    refine g_aloadN C S deq_14 (pc' := 15) rfl rfl rfl ?_
    refine g_cast C S deq_15 (hw _ (List.mem_of_getElem? (i := 200) rfl)) X_a2 (pc' := 18) rfl (fun T58 S => ?_)
    refine g_astoreN C S deq_18 (pc' := 19) rfl rfl (L' := #[.val (.ref a1), .val (.ref a2), .val (.ref a2)]) rfl ?_
    refine g_getS C S deq_19 (host := "") (Or.inl (hw _ (List.mem_of_getElem? (i := 34) rfl))) Via.refl S_COMPACT_STRINGS (pc' := 22) rfl (fun T59 S => ?_)
    refine g_if_eq C S deq_22 (pc' := 36) (pf := 25) (by decide) (by decide) rfl (fun hc22 => absurd hc22 hcs) (fun hc22 => ?_)
    refine g_aloadN C S deq_25 (pc' := 26) rfl rfl rfl ?_
    refine g_getF C S deq_26 (host := "") (Or.inl (hw _ (List.mem_of_getElem? (i := 22) rfl))) Via.refl F_coder_a1 (pc' := 29) rfl (fun T60 S => ?_)
    refine g_aloadN C S deq_29 (pc' := 30) rfl rfl rfl ?_
    refine g_getF C S deq_30 (host := "") (Or.inl (hw _ (List.mem_of_getElem? (i := 22) rfl))) Via.refl F_coder_a2 (pc' := 33) rfl (fun T61 S => ?_)
    refine g_icmp_ne C S deq_33 (pc' := 54) (pf := 36) (by decide) (by decide) rfl (fun hc33 => absurd rfl hc33) (fun hc33 => ?_)
    refine g_aloadN C S deq_36 (pc' := 37) rfl rfl rfl ?_
    refine g_getF C S deq_37 (host := "") (Or.inl (hw _ (List.mem_of_getElem? (i := 21) rfl))) Via.refl F_value_a1 (pc' := 40) rfl (fun T62 S => ?_)
    refine g_aloadN C S deq_40 (pc' := 41) rfl rfl rfl ?_
    refine g_getF C S deq_41 (host := "") (Or.inl (hw _ (List.mem_of_getElem? (i := 21) rfl))) Via.refl F_value_a2 (pc' := 44) rfl (fun T63 S => ?_)
    refine g_callS C S (rm := ({ frames := 0, cells := 0, slots := 0, locals := 0 } : Room)) (W := 0) deq_44 (hw _ (List.mem_of_getElem? (i := 201) rfl)) (hw _ (List.mem_of_getElem? (i := 202) rfl)) (hw _ (List.mem_of_getElem? (i := 47) rfl)) (hw _ (List.mem_of_getElem? (i := 203) rfl)) (by decide) (c_eqB l Z a0 hw b1 b2 h0 n0 N M g g' hN hM A_b1 A_b2) (argsL := [(.ref b1), (.ref b2)]) (r := []) rfl all0 (lenOf pd_9 rfl) rfl (Nat.le_of_eq rfl) (by decide) (by decide) (by decide) (by decide) (pc' := 47) rfl (fun T64 h64 v64 P64 q64 S => ?_)
    obtain ⟨e64, q64⟩ := q64; rw [e64] at S
    obtain ⟨z64, rfl, hzz⟩ := EqAt.val q64
    show Gl p e below s Z consts_1 _ n0 _ T64 (mkF m 47 #[.val (.ref a1), .val (.ref a2), .val (.ref a2)] [(.int z64)])
    refine g_if_eq C S deq_47 (pc' := 54) (pf := 50) (by decide) (by decide) rfl (fun hc47 => ?_) (fun hc47 => ?_)
    · refine g_iconst C S (0 : Int32) deq_54 (pc' := 55) rfl rfl ?_
      exact g_retZ C S deq_55 (by decide) (by decide) (by decide) (⟨rfl, EqAt.zero hzz hc47⟩)
    · refine g_iconst C S (1 : Int32) deq_50 (pc' := 51) rfl rfl ?_
      refine g_goto C S deq_51 (pc' := 55) (by decide) (by decide) ?_
      exact g_retZ C S deq_55 (by decide) (by decide) (by decide) (⟨rfl, EqAt.one hzz hc47⟩)
  · refine g_iconst C S (1 : Int32) deq_5 (pc' := 6) rfl rfl ?_
    exact g_retZ C S deq_6 (by decide) (by decide) (by decide) (⟨rfl, Or.inl ⟨rfl, same_bytes hc2 F_value_a1 F_value_a2 A_b1 A_b2⟩⟩)
theorem dai_0 : decode jdk_68_method_2_code 0 = .ok (.aload_n 0, 1) := by decide +kernel
theorem dai_1 : decode jdk_68_method_2_code 1 = .ok (.invokespecial 3, 3) := by decide +kernel
theorem dai_4 : decode jdk_68_method_2_code 4 = .ok (.getstatic 18, 3) := by decide +kernel
theorem dai_7 : decode jdk_68_method_2_code 7 = .ok (.ifCond .eq 18, 3) := by decide +kernel
theorem dai_10 : decode jdk_68_method_2_code 10 = .ok (.aload_n 0, 1) := by decide +kernel
theorem dai_11 : decode jdk_68_method_2_code 11 = .ok (.iload_n 1, 1) := by decide +kernel
theorem dai_12 : decode jdk_68_method_2_code 12 = .ok (.newarray .byte, 2) := by decide +kernel
theorem dai_14 : decode jdk_68_method_2_code 14 = .ok (.putfield 15, 3) := by decide +kernel
theorem dai_17 : decode jdk_68_method_2_code 17 = .ok (.aload_n 0, 1) := by decide +kernel
theorem dai_18 : decode jdk_68_method_2_code 18 = .ok (.iconst 0, 1) := by decide +kernel
theorem dai_19 : decode jdk_68_method_2_code 19 = .ok (.putfield 22, 3) := by decide +kernel
theorem dai_22 : decode jdk_68_method_2_code 22 = .ok (.goto 16, 3) := by decide +kernel
theorem dai_38 : decode jdk_68_method_2_code 38 = .ok (.return_, 1) := by decide +kernel
set_option maxRecDepth 65536 in
set_option maxHeartbeats 40000000 in
theorem c_abi (l : Launch) (Z : State) (a0 : Array Value) (hw : ∀ d ∈ tables_1, d.before a0 Z = true) (a1 : Addr) (h0 : Heap) (n0 : Nat) (u1 : Value) (ga : n0 ≤ a1) (Zn : n0 ≤ h0.size) (cs : Int32) (hcs : ¬ cs = 0) (S_COMPACT_STRINGS : Sta Z h0 "java/lang/String" "COMPACT_STRINGS" "Z" (.int cs)) (X_a1 : Exa Z h0 a1 "java/lang/StringBuilder") (F_value_a1 : Fld Z h0 a1 "java/lang/AbstractStringBuilder" "value" "[B" u1) (F_coder_a1 : Fld Z h0 a1 "java/lang/AbstractStringBuilder" "coder" "B" (.int (0 : Int32))) (F_count_a1 : Fld Z h0 a1 "java/lang/AbstractStringBuilder" "count" "I" (.int (0 : Int32))) (F_maybeLatin1_a1 : Fld Z h0 a1 "java/lang/AbstractStringBuilder" "maybeLatin1" "Z" (.int (0 : Int32))) :
    Con l Z consts_1 [] (⟨"java/lang/AbstractStringBuilder", "<init>", "(I)V"⟩ : MethodName) jdk_68_method_2_code 2 none ({ frames := 1, cells := 1, slots := 16, locals := 13 } : Room) #[(.ref a1), (.int (16 : Int32))] h0 n0 (fun v h P => v = none ∧ Keep h0 h [a1] ∧ ∃ b, b ∈ P ∧ n0 ≤ b ∧ h0.size ≤ b ∧ (Exa Z h a1 "java/lang/StringBuilder" ∧ Fld Z h a1 "java/lang/AbstractStringBuilder" "value" "[B" (.ref b) ∧ Fld Z h a1 "java/lang/AbstractStringBuilder" "coder" "B" (.int (0 : Int32)) ∧ Fld Z h a1 "java/lang/AbstractStringBuilder" "count" "I" (.int (0 : Int32)) ∧ Fld Z h a1 "java/lang/AbstractStringBuilder" "maybeLatin1" "Z" (.int (0 : Int32))) ∧ Ary Z h b .byte 16 (fun _ => .int (0 : Int32))) := by
  refine Con.of (plainFor_of_name (by first | (simp [plainName, overriddenIn]; done) | decide +kernel)) (elw hw) (L0 := #[.val (.ref a1), .val (.int (16 : Int32))]) (fun m => by first | (simp [entryFrame, mkF, argsToLocals, Value.category]; done) | rfl) ?_
  intro p e s m below meth c T C S
  have Kp := Keep.refl h0 [a1]
  refine g_aloadN C S dai_0 (pc' := 1) rfl rfl rfl ?_
  refine g_initO C S (W := 0) dai_1 (hw _ (List.mem_of_getElem? (i := 88) rfl)) (hw _ (List.mem_of_getElem? (i := 13) rfl)) (hw _ (List.mem_of_getElem? (i := 14) rfl)) rfl (by decide) (Nat.le_of_eq rfl) (by decide) (pc' := 4) rfl (fun T65 S => ?_)
  refine g_getS C S dai_4 (host := "") (Or.inl (hw _ (List.mem_of_getElem? (i := 89) rfl))) Via.refl S_COMPACT_STRINGS (pc' := 7) rfl (fun T66 S => ?_)
  refine g_if_eq C S dai_7 (pc' := 25) (pf := 10) (by decide) (by decide) rfl (fun hc7 => absurd hc7 hcs) (fun hc7 => ?_)
  refine g_aloadN C S dai_10 (pc' := 11) rfl rfl rfl ?_
  refine g_iloadN C S dai_11 (pc' := 12) rfl rfl ?_
  refine g_newarray C S (N := 16) (cap := 16) dai_12 (hw _ (List.mem_of_getElem? (i := 16) rfl)) (by decide) (by decide) (by decide) (by decide) (by decide) (pc' := 14) rfl (fun T67 h67 a67 S g67 E67 A_a67 => ?_)
  have ne_a1_a67 : a1 ≠ a67 := ne_new g67 X_a1.lt
  have sz_a67 : h0.size ≤ a67 := ge_of g67 Kp.1
  have ge_a67 : n0 ≤ a67 := ge_of g67 Zn
  have pm_a67 := On.hd S
  have Kp := Kp.ext E67
  have X_a1 := X_a1.ext E67
  have F_value_a1 := F_value_a1.ext E67
  have F_coder_a1 := F_coder_a1.ext E67
  have F_count_a1 := F_count_a1.ext E67
  have F_maybeLatin1_a1 := F_maybeLatin1_a1.ext E67
  have S_COMPACT_STRINGS := S_COMPACT_STRINGS.ext E67
  have Zn := Nat.le_trans Zn E67.1
  have A_a67 : Ary Z h67 a67 .byte 16 (fun _ => (.int (0 : Int32))) := A_a67
  refine g_putF C S dai_14 (host := "") (Or.inl (hw _ (List.mem_of_getElem? (i := 90) rfl))) Via.refl F_value_a1 X_a1 (Or.inl (hw _ (List.mem_of_getElem? (i := 91) rfl))) (hw _ (List.mem_of_getElem? (i := 77) rfl)) (ty := (.array .byte)) (by decide) rfl rfl ga (Or.inr (by decide)) (pc' := 17) rfl (fun T68 h68 S W68 => ?_)
  have X_a1 := X_a1.wr W68
  have F_value_a1 := F_value_a1.same W68
  have F_coder_a1 := F_coder_a1.other W68 (Or.inr (slot_ne (a0 := a0) (t := .byte) (t' := (.array .byte)) (Or.inl (hw _ (List.mem_of_getElem? (i := 93) rfl))) (Or.inl (hw _ (List.mem_of_getElem? (i := 91) rfl))) (by decide) (by decide) (by decide)))
  have F_count_a1 := F_count_a1.other W68 (Or.inr (slot_ne (a0 := a0) (t := .int) (t' := (.array .byte)) (Or.inl (hw _ (List.mem_of_getElem? (i := 107) rfl))) (Or.inl (hw _ (List.mem_of_getElem? (i := 91) rfl))) (by decide) (by decide) (by decide)))
  have F_maybeLatin1_a1 := F_maybeLatin1_a1.other W68 (Or.inr (slot_ne (a0 := a0) (t := .boolean) (t' := (.array .byte)) (Or.inl (hw _ (List.mem_of_getElem? (i := 249) rfl))) (Or.inl (hw _ (List.mem_of_getElem? (i := 91) rfl))) (by decide) (by decide) (by decide)))
  have S_COMPACT_STRINGS := S_COMPACT_STRINGS.wr W68
  have Zn := Nat.le_trans Zn (Nat.le_of_eq W68.size.symm)
  have A_a67 := A_a67.other W68 (Ne.symm ne_a1_a67)
  have Kp := Kp.wr W68 (Or.inl (List.mem_of_getElem? (i := 0) rfl))
  refine g_aloadN C S dai_17 (pc' := 18) rfl rfl rfl ?_
  refine g_iconst C S (0 : Int32) dai_18 (pc' := 19) rfl rfl ?_
  refine g_putF C S dai_19 (host := "") (Or.inl (hw _ (List.mem_of_getElem? (i := 92) rfl))) Via.refl F_coder_a1 X_a1 (Or.inl (hw _ (List.mem_of_getElem? (i := 93) rfl))) (hw _ (List.mem_of_getElem? (i := 77) rfl)) (ty := .byte) (by decide) rfl rfl ga (Or.inr (by decide)) (pc' := 22) rfl (fun T69 h69 S W69 => ?_)
  have X_a1 := X_a1.wr W69
  have F_value_a1 := F_value_a1.other W69 (Or.inr (slot_ne (a0 := a0) (t := (.array .byte)) (t' := .byte) (Or.inl (hw _ (List.mem_of_getElem? (i := 91) rfl))) (Or.inl (hw _ (List.mem_of_getElem? (i := 93) rfl))) (by decide) (by decide) (by decide)))
  have F_coder_a1 := F_coder_a1.same W69
  have F_count_a1 := F_count_a1.other W69 (Or.inr (slot_ne (a0 := a0) (t := .int) (t' := .byte) (Or.inl (hw _ (List.mem_of_getElem? (i := 107) rfl))) (Or.inl (hw _ (List.mem_of_getElem? (i := 93) rfl))) (by decide) (by decide) (by decide)))
  have F_maybeLatin1_a1 := F_maybeLatin1_a1.other W69 (Or.inr (slot_ne (a0 := a0) (t := .boolean) (t' := .byte) (Or.inl (hw _ (List.mem_of_getElem? (i := 249) rfl))) (Or.inl (hw _ (List.mem_of_getElem? (i := 93) rfl))) (by decide) (by decide) (by decide)))
  have S_COMPACT_STRINGS := S_COMPACT_STRINGS.wr W69
  have Zn := Nat.le_trans Zn (Nat.le_of_eq W69.size.symm)
  have A_a67 := A_a67.other W69 (Ne.symm ne_a1_a67)
  have Kp := Kp.wr W69 (Or.inl (List.mem_of_getElem? (i := 0) rfl))
  refine g_goto C S dai_22 (pc' := 38) (by decide) (by decide) ?_
  exact g_return C S dai_38 (by decide) (by decide) (⟨rfl, Kp, a67, pm_a67, ge_a67, sz_a67, ⟨X_a1, F_value_a1, F_coder_a1, F_count_a1, F_maybeLatin1_a1⟩, A_a67⟩)
theorem pd_10 : parseMethodDescriptor "(I)V" = some ⟨[.int], none⟩ := by decide +kernel
theorem dsi_0 : decode jdk_67_method_1_code 0 = .ok (.aload_n 0, 1) := by decide +kernel
theorem dsi_1 : decode jdk_67_method_1_code 1 = .ok (.bipush 16, 2) := by decide +kernel
theorem dsi_3 : decode jdk_67_method_1_code 3 = .ok (.invokespecial 1, 3) := by decide +kernel
theorem dsi_6 : decode jdk_67_method_1_code 6 = .ok (.return_, 1) := by decide +kernel
set_option maxRecDepth 65536 in
set_option maxHeartbeats 40000000 in
theorem c_sbi (l : Launch) (Z : State) (a0 : Array Value) (hw : ∀ d ∈ tables_1, d.before a0 Z = true) (a1 : Addr) (h0 : Heap) (n0 : Nat) (u1 : Value) (ga : n0 ≤ a1) (Zn : n0 ≤ h0.size) (cs : Int32) (hcs : ¬ cs = 0) (S_COMPACT_STRINGS : Sta Z h0 "java/lang/String" "COMPACT_STRINGS" "Z" (.int cs)) (X_a1 : Exa Z h0 a1 "java/lang/StringBuilder") (F_value_a1 : Fld Z h0 a1 "java/lang/AbstractStringBuilder" "value" "[B" u1) (F_coder_a1 : Fld Z h0 a1 "java/lang/AbstractStringBuilder" "coder" "B" (.int (0 : Int32))) (F_count_a1 : Fld Z h0 a1 "java/lang/AbstractStringBuilder" "count" "I" (.int (0 : Int32))) (F_maybeLatin1_a1 : Fld Z h0 a1 "java/lang/AbstractStringBuilder" "maybeLatin1" "Z" (.int (0 : Int32))) :
    Con l Z consts_1 [] (⟨"java/lang/StringBuilder", "<init>", "()V"⟩ : MethodName) jdk_67_method_1_code 1 none ({ frames := 2, cells := 1, slots := 16, locals := 26 } : Room) #[(.ref a1)] h0 n0 (fun v h P => v = none ∧ Keep h0 h [a1] ∧ ∃ b, b ∈ P ∧ n0 ≤ b ∧ h0.size ≤ b ∧ (Exa Z h a1 "java/lang/StringBuilder" ∧ Fld Z h a1 "java/lang/AbstractStringBuilder" "value" "[B" (.ref b) ∧ Fld Z h a1 "java/lang/AbstractStringBuilder" "coder" "B" (.int (0 : Int32)) ∧ Fld Z h a1 "java/lang/AbstractStringBuilder" "count" "I" (.int (0 : Int32)) ∧ Fld Z h a1 "java/lang/AbstractStringBuilder" "maybeLatin1" "Z" (.int (0 : Int32))) ∧ Ary Z h b .byte 16 (fun _ => .int (0 : Int32))) := by
  refine Con.of (plainFor_of_name (by first | (simp [plainName, overriddenIn]; done) | decide +kernel)) (elw hw) (L0 := #[.val (.ref a1)]) (fun m => by first | (simp [entryFrame, mkF, argsToLocals, Value.category]; done) | rfl) ?_
  intro p e s m below meth c T C S
  refine g_aloadN C S dsi_0 (pc' := 1) rfl rfl rfl ?_
  refine g_bipush C S (16 : Int32) dsi_1 (pc' := 3) rfl rfl ?_
  refine g_callI C S (rm := ({ frames := 1, cells := 1, slots := 16, locals := 13 } : Room)) (W := 0) dsi_3 rfl (hw _ (List.mem_of_getElem? (i := 82) rfl)) (hw _ (List.mem_of_getElem? (i := 83) rfl)) (hw _ (List.mem_of_getElem? (i := 86) rfl)) (hw _ (List.mem_of_getElem? (i := 87) rfl)) (by decide) (c_abi l Z a0 hw a1 h0 n0 u1 ga Zn cs hcs S_COMPACT_STRINGS X_a1 F_value_a1 F_coder_a1 F_count_a1 F_maybeLatin1_a1) (argsL := [(.int (16 : Int32))]) (r := []) rfl all0 (lenOf pd_10 rfl) rfl (Nat.le_of_eq rfl) (by decide) (by decide) (by decide) (by decide) (pc' := 6) rfl (fun T70 h70 v70 P70 q70 S => ?_)
  obtain ⟨rfl, K70, b, pb, q70⟩ := q70
  show Gl p e below s Z consts_1 _ n0 _ T70 (mkF m 6 #[.val (.ref a1)] [])
  exact g_return C S dsi_6 (by decide) (by decide) (⟨rfl, K70, b, List.mem_append_left _ pb, q70⟩)
theorem dmmax_0 : decode jdk_29_method_65_code 0 = .ok (.iload_n 0, 1) := by decide +kernel
theorem dmmax_1 : decode jdk_29_method_65_code 1 = .ok (.iload_n 1, 1) := by decide +kernel
theorem dmmax_2 : decode jdk_29_method_65_code 2 = .ok (.if_icmp .lt 7, 3) := by decide +kernel
theorem dmmax_5 : decode jdk_29_method_65_code 5 = .ok (.iload_n 0, 1) := by decide +kernel
theorem dmmax_6 : decode jdk_29_method_65_code 6 = .ok (.goto 4, 3) := by decide +kernel
theorem dmmax_9 : decode jdk_29_method_65_code 9 = .ok (.iload_n 1, 1) := by decide +kernel
theorem dmmax_10 : decode jdk_29_method_65_code 10 = .ok (.ireturn, 1) := by decide +kernel
set_option maxRecDepth 65536 in
set_option maxHeartbeats 40000000 in
theorem c_max (l : Launch) (Z : State) (a0 : Array Value) (hw : ∀ d ∈ tables_1, d.before a0 Z = true) (p1 : Int32) (p2 : Int32) (h0 : Heap) (n0 : Nat) (r : Int32) (hr : (if p1 < p2 then p2 else p1) = r) :
    Con l Z consts_1 [] (⟨"java/lang/Math", "max", "(II)I"⟩ : MethodName) jdk_29_method_65_code 2 (some .int) ({ frames := 0, cells := 0, slots := 0, locals := 0 } : Room) #[(.int p1), (.int p2)] h0 n0 (fun v h _ => v = some (.int r) ∧ h = h0) := by
  refine Con.of (Jvm.Free.JP.mathPlain rfl (by decide +kernel)) (elw hw) (L0 := #[.val (.int p1), .val (.int p2)]) (fun m => by first | (simp [entryFrame, mkF, argsToLocals, Value.category]; done) | rfl) ?_
  intro p e s m below meth c T C S
  refine g_iloadN C S dmmax_0 (pc' := 1) rfl rfl ?_
  refine g_iloadN C S dmmax_1 (pc' := 2) rfl rfl ?_
  refine g_icmp_lt C S dmmax_2 (pc' := 9) (pf := 5) (by decide) (by decide) rfl (fun hc2 => ?_) (fun hc2 => ?_)
  · refine g_iloadN C S dmmax_9 (pc' := 10) rfl rfl ?_
    exact g_retI C S dmmax_10 (by decide) (by decide) (⟨by rw [← hr, if_pos hc2], rfl⟩)
  · refine g_iloadN C S dmmax_5 (pc' := 6) rfl rfl ?_
    refine g_goto C S dmmax_6 (pc' := 10) (by decide) (by decide) ?_
    exact g_retI C S dmmax_10 (by decide) (by decide) (⟨by rw [← hr, if_neg hc2], rfl⟩)
theorem dmmin_0 : decode jdk_29_method_69_code 0 = .ok (.iload_n 0, 1) := by decide +kernel
theorem dmmin_1 : decode jdk_29_method_69_code 1 = .ok (.iload_n 1, 1) := by decide +kernel
theorem dmmin_2 : decode jdk_29_method_69_code 2 = .ok (.if_icmp .gt 7, 3) := by decide +kernel
theorem dmmin_5 : decode jdk_29_method_69_code 5 = .ok (.iload_n 0, 1) := by decide +kernel
theorem dmmin_6 : decode jdk_29_method_69_code 6 = .ok (.goto 4, 3) := by decide +kernel
theorem dmmin_9 : decode jdk_29_method_69_code 9 = .ok (.iload_n 1, 1) := by decide +kernel
theorem dmmin_10 : decode jdk_29_method_69_code 10 = .ok (.ireturn, 1) := by decide +kernel
set_option maxRecDepth 65536 in
set_option maxHeartbeats 40000000 in
theorem c_min (l : Launch) (Z : State) (a0 : Array Value) (hw : ∀ d ∈ tables_1, d.before a0 Z = true) (p1 : Int32) (p2 : Int32) (h0 : Heap) (n0 : Nat) (r : Int32) (hr : (if p2 < p1 then p2 else p1) = r) :
    Con l Z consts_1 [] (⟨"java/lang/Math", "min", "(II)I"⟩ : MethodName) jdk_29_method_69_code 2 (some .int) ({ frames := 0, cells := 0, slots := 0, locals := 0 } : Room) #[(.int p1), (.int p2)] h0 n0 (fun v h _ => v = some (.int r) ∧ h = h0) := by
  refine Con.of (Jvm.Free.JP.mathPlain rfl (by decide +kernel)) (elw hw) (L0 := #[.val (.int p1), .val (.int p2)]) (fun m => by first | (simp [entryFrame, mkF, argsToLocals, Value.category]; done) | rfl) ?_
  intro p e s m below meth c T C S
  refine g_iloadN C S dmmin_0 (pc' := 1) rfl rfl ?_
  refine g_iloadN C S dmmin_1 (pc' := 2) rfl rfl ?_
  refine g_icmp_gt C S dmmin_2 (pc' := 9) (pf := 5) (by decide) (by decide) rfl (fun hc2 => ?_) (fun hc2 => ?_)
  · refine g_iloadN C S dmmin_9 (pc' := 10) rfl rfl ?_
    exact g_retI C S dmmin_10 (by decide) (by decide) (⟨by rw [← hr, if_pos hc2], rfl⟩)
  · refine g_iloadN C S dmmin_5 (pc' := 6) rfl rfl ?_
    refine g_goto C S dmmin_6 (pc' := 10) (by decide) (by decide) ?_
    exact g_retI C S dmmin_10 (by decide) (by decide) (⟨by rw [← hr, if_neg hc2], rfl⟩)
theorem pd_11 : parseMethodDescriptor "(II)I" = some ⟨[.int, .int], some .int⟩ := by decide +kernel
theorem dnL_0 : decode jdk_48_method_27_code 0 = .ok (.iload_n 0, 1) := by decide +kernel
theorem dnL_1 : decode jdk_48_method_27_code 1 = .ok (.iload_n 1, 1) := by decide +kernel
theorem dnL_2 : decode jdk_48_method_27_code 2 = .ok (.iload_n 2, 1) := by decide +kernel
theorem dnL_3 : decode jdk_48_method_27_code 3 = .ok (.invokestatic 194, 3) := by decide +kernel
theorem dnL_6 : decode jdk_48_method_27_code 6 = .ok (.iadd, 1) := by decide +kernel
theorem dnL_7 : decode jdk_48_method_27_code 7 = .ok (.istore_n 3, 1) := by decide +kernel
theorem dnL_8 : decode jdk_48_method_27_code 8 = .ok (.iconst 0, 1) := by decide +kernel
theorem dnL_9 : decode jdk_48_method_27_code 9 = .ok (.iload_n 3, 1) := by decide +kernel
theorem dnL_10 : decode jdk_48_method_27_code 10 = .ok (.if_icmp .ge 11, 3) := by decide +kernel
theorem dnL_13 : decode jdk_48_method_27_code 13 = .ok (.iload_n 3, 1) := by decide +kernel
theorem dnL_14 : decode jdk_48_method_27_code 14 = .ok (.ldc 200, 2) := by decide +kernel
theorem dnL_16 : decode jdk_48_method_27_code 16 = .ok (.if_icmp .gt 5, 3) := by decide +kernel
theorem dnL_19 : decode jdk_48_method_27_code 19 = .ok (.iload_n 3, 1) := by decide +kernel
theorem dnL_20 : decode jdk_48_method_27_code 20 = .ok (.ireturn, 1) := by decide +kernel
set_option maxRecDepth 65536 in
set_option maxHeartbeats 40000000 in
theorem c_nln (l : Launch) (Z : State) (a0 : Array Value) (hw : ∀ d ∈ tables_1, d.before a0 Z = true)  (h0 : Heap) (n0 : Nat) :
    Con l Z consts_1 [] (⟨"jdk/internal/util/ArraysSupport", "newLength", "(III)I"⟩ : MethodName) jdk_48_method_27_code 4 (some .int) ({ frames := 1, cells := 0, slots := 0, locals := 14 } : Room) #[(.int (16 : Int32)), (.int (10 : Int32)), (.int (18 : Int32))] h0 n0 (fun v h _ => v = some (.int 34) ∧ h = h0) := by
  refine Con.of (plainFor_of_name (by first | (simp [plainName, overriddenIn]; done) | decide +kernel)) (elw hw) (L0 := #[.val (.int (16 : Int32)), .val (.int (10 : Int32)), .val (.int (18 : Int32)), .unset]) (fun m => by first | (simp [entryFrame, mkF, argsToLocals, Value.category]; done) | rfl) ?_
  intro p e s m below meth c T C S
  refine g_iloadN C S dnL_0 (pc' := 1) rfl rfl ?_
  refine g_iloadN C S dnL_1 (pc' := 2) rfl rfl ?_
  refine g_iloadN C S dnL_2 (pc' := 3) rfl rfl ?_
  refine g_callS C S (rm := ({ frames := 0, cells := 0, slots := 0, locals := 0 } : Room)) (W := 1) dnL_3 (hw _ (List.mem_of_getElem? (i := 122) rfl)) (hw _ (List.mem_of_getElem? (i := 123) rfl)) (hw _ (List.mem_of_getElem? (i := 124) rfl)) (hw _ (List.mem_of_getElem? (i := 125) rfl)) (by decide) (c_max l Z a0 hw 10 18 h0 n0 18 (by decide)) (argsL := [(.int (10 : Int32)), (.int (18 : Int32))]) (r := [(.int (16 : Int32))]) rfl all0 (lenOf pd_11 rfl) rfl (Nat.le_of_eq rfl) (by decide) (by decide) (by decide) (by decide) (pc' := 6) rfl (fun T71 h71 v71 P71 q71 S => ?_)
  obtain ⟨rfl, e71⟩ := q71; rw [e71] at S
  show Gl p e below s Z consts_1 _ n0 _ T71 (mkF m 6 #[.val (.int (16 : Int32)), .val (.int (10 : Int32)), .val (.int (18 : Int32)), .unset] [(.int (18 : Int32)), (.int (16 : Int32))])
  refine g_iadd C S dnL_6 (pc' := 7) rfl ?_
  rw [show (((16 : Int32) + (18 : Int32))) = (34 : Int32) by decide]
  refine g_istoreN C S dnL_7 (pc' := 8) rfl (L' := #[.val (.int (16 : Int32)), .val (.int (10 : Int32)), .val (.int (18 : Int32)), .val (.int (34 : Int32))]) rfl ?_
  refine g_iconst C S (0 : Int32) dnL_8 (pc' := 9) rfl rfl ?_
  refine g_iloadN C S dnL_9 (pc' := 10) rfl rfl ?_
  refine g_icmp_ge C S dnL_10 (pc' := 21) (pf := 13) (by decide) (by decide) rfl (fun hc10 => absurd hc10 (by decide)) (fun hc10 => ?_)
  refine g_iloadN C S dnL_13 (pc' := 14) rfl rfl ?_
  refine g_ldc C S dnL_14 (hw _ (List.mem_of_getElem? (i := 126) rfl)) (pc' := 16) rfl ?_
  refine g_icmp_gt C S dnL_16 (pc' := 21) (pf := 19) (by decide) (by decide) rfl (fun hc16 => absurd hc16 (by decide)) (fun hc16 => ?_)
  refine g_iloadN C S dnL_19 (pc' := 20) rfl rfl ?_
  exact g_retI C S dnL_20 (by decide) (by decide) (⟨rfl, rfl⟩)
theorem pd_12 : parseMethodDescriptor "(III)I" = some ⟨[.int, .int, .int], some .int⟩ := by decide +kernel
theorem dnc_0 : decode jdk_68_method_10_code 0 = .ok (.aload_n 0, 1) := by decide +kernel
theorem dnc_1 : decode jdk_68_method_10_code 1 = .ok (.getfield 15, 3) := by decide +kernel
theorem dnc_4 : decode jdk_68_method_10_code 4 = .ok (.arraylength, 1) := by decide +kernel
theorem dnc_5 : decode jdk_68_method_10_code 5 = .ok (.istore_n 2, 1) := by decide +kernel
theorem dnc_6 : decode jdk_68_method_10_code 6 = .ok (.iload_n 1, 1) := by decide +kernel
theorem dnc_7 : decode jdk_68_method_10_code 7 = .ok (.aload_n 0, 1) := by decide +kernel
theorem dnc_8 : decode jdk_68_method_10_code 8 = .ok (.getfield 22, 3) := by decide +kernel
theorem dnc_11 : decode jdk_68_method_10_code 11 = .ok (.ishl, 1) := by decide +kernel
theorem dnc_12 : decode jdk_68_method_10_code 12 = .ok (.istore_n 3, 1) := by decide +kernel
theorem dnc_13 : decode jdk_68_method_10_code 13 = .ok (.iload_n 3, 1) := by decide +kernel
theorem dnc_14 : decode jdk_68_method_10_code 14 = .ok (.iload_n 2, 1) := by decide +kernel
theorem dnc_15 : decode jdk_68_method_10_code 15 = .ok (.isub, 1) := by decide +kernel
theorem dnc_16 : decode jdk_68_method_10_code 16 = .ok (.istore 4, 2) := by decide +kernel
theorem dnc_18 : decode jdk_68_method_10_code 18 = .ok (.iload_n 2, 1) := by decide +kernel
theorem dnc_19 : decode jdk_68_method_10_code 19 = .ok (.iload 4, 2) := by decide +kernel
theorem dnc_21 : decode jdk_68_method_10_code 21 = .ok (.iload_n 2, 1) := by decide +kernel
theorem dnc_22 : decode jdk_68_method_10_code 22 = .ok (.iconst 2, 1) := by decide +kernel
theorem dnc_23 : decode jdk_68_method_10_code 23 = .ok (.aload_n 0, 1) := by decide +kernel
theorem dnc_24 : decode jdk_68_method_10_code 24 = .ok (.getfield 22, 3) := by decide +kernel
theorem dnc_27 : decode jdk_68_method_10_code 27 = .ok (.ishl, 1) := by decide +kernel
theorem dnc_28 : decode jdk_68_method_10_code 28 = .ok (.iadd, 1) := by decide +kernel
theorem dnc_29 : decode jdk_68_method_10_code 29 = .ok (.invokestatic 114, 3) := by decide +kernel
theorem dnc_32 : decode jdk_68_method_10_code 32 = .ok (.istore 5, 2) := by decide +kernel
theorem dnc_34 : decode jdk_68_method_10_code 34 = .ok (.iload 5, 2) := by decide +kernel
theorem dnc_36 : decode jdk_68_method_10_code 36 = .ok (.ldc 39, 2) := by decide +kernel
theorem dnc_38 : decode jdk_68_method_10_code 38 = .ok (.if_icmp .ne 13, 3) := by decide +kernel
theorem dnc_51 : decode jdk_68_method_10_code 51 = .ok (.iload 5, 2) := by decide +kernel
theorem dnc_53 : decode jdk_68_method_10_code 53 = .ok (.aload_n 0, 1) := by decide +kernel
theorem dnc_54 : decode jdk_68_method_10_code 54 = .ok (.getfield 22, 3) := by decide +kernel
theorem dnc_57 : decode jdk_68_method_10_code 57 = .ok (.ishr, 1) := by decide +kernel
theorem dnc_58 : decode jdk_68_method_10_code 58 = .ok (.ireturn, 1) := by decide +kernel
set_option maxRecDepth 65536 in
set_option maxHeartbeats 40000000 in
theorem c_ncp (l : Launch) (Z : State) (a0 : Array Value) (hw : ∀ d ∈ tables_1, d.before a0 Z = true) (a1 : Addr) (h0 : Heap) (n0 : Nat) (b1 : Addr) (ct : Int32) (f : Nat → Value) (X_a1 : Exa Z h0 a1 "java/lang/StringBuilder") (F_value_a1 : Fld Z h0 a1 "java/lang/AbstractStringBuilder" "value" "[B" (.ref b1)) (F_coder_a1 : Fld Z h0 a1 "java/lang/AbstractStringBuilder" "coder" "B" (.int (0 : Int32))) (F_count_a1 : Fld Z h0 a1 "java/lang/AbstractStringBuilder" "count" "I" (.int ct)) (F_maybeLatin1_a1 : Fld Z h0 a1 "java/lang/AbstractStringBuilder" "maybeLatin1" "Z" (.int (0 : Int32))) (A_b1 : Ary Z h0 b1 .byte 16 f) :
    Con l Z consts_1 [] (⟨"java/lang/AbstractStringBuilder", "newCapacity", "(I)I"⟩ : MethodName) jdk_68_method_10_code 6 (some .int) ({ frames := 2, cells := 0, slots := 0, locals := 29 } : Room) #[(.ref a1), (.int (26 : Int32))] h0 n0 (fun v h _ => v = some (.int 34) ∧ h = h0) := by
  refine Con.of (plainFor_of_name (by first | (simp [plainName, overriddenIn]; done) | decide +kernel)) (elw hw) (L0 := #[.val (.ref a1), .val (.int (26 : Int32)), .unset, .unset, .unset, .unset]) (fun m => by first | (simp [entryFrame, mkF, argsToLocals, Value.category]; done) | rfl) ?_
  intro p e s m below meth c T C S
  refine g_aloadN C S dnc_0 (pc' := 1) rfl rfl rfl ?_
  refine g_getF C S dnc_1 (host := "") (Or.inl (hw _ (List.mem_of_getElem? (i := 90) rfl))) Via.refl F_value_a1 (pc' := 4) rfl (fun T72 S => ?_)
  refine g_arraylength C S (x := (16 : Int32)) dnc_4 A_b1 (by decide) (pc' := 5) rfl ?_
  refine g_istoreN C S dnc_5 (pc' := 6) rfl (L' := #[.val (.ref a1), .val (.int (26 : Int32)), .val (.int (16 : Int32)), .unset, .unset, .unset]) rfl ?_
  refine g_iloadN C S dnc_6 (pc' := 7) rfl rfl ?_
  refine g_aloadN C S dnc_7 (pc' := 8) rfl rfl rfl ?_
  refine g_getF C S dnc_8 (host := "") (Or.inl (hw _ (List.mem_of_getElem? (i := 92) rfl))) Via.refl F_coder_a1 (pc' := 11) rfl (fun T73 S => ?_)
  refine g_ishl C S dnc_11 (pc' := 12) rfl ?_
  rw [show (((26 : Int32) <<< ((0 : Int32) &&& 31))) = (26 : Int32) by decide]
  refine g_istoreN C S dnc_12 (pc' := 13) rfl (L' := #[.val (.ref a1), .val (.int (26 : Int32)), .val (.int (16 : Int32)), .val (.int (26 : Int32)), .unset, .unset]) rfl ?_
  refine g_iloadN C S dnc_13 (pc' := 14) rfl rfl ?_
  refine g_iloadN C S dnc_14 (pc' := 15) rfl rfl ?_
  refine g_isub C S dnc_15 (pc' := 16) rfl ?_
  rw [show (((26 : Int32) - (16 : Int32))) = (10 : Int32) by decide]
  refine g_istore C S dnc_16 (pc' := 18) rfl (L' := #[.val (.ref a1), .val (.int (26 : Int32)), .val (.int (16 : Int32)), .val (.int (26 : Int32)), .val (.int (10 : Int32)), .unset]) rfl ?_
  refine g_iloadN C S dnc_18 (pc' := 19) rfl rfl ?_
  refine g_iload C S dnc_19 (pc' := 21) rfl rfl ?_
  refine g_iloadN C S dnc_21 (pc' := 22) rfl rfl ?_
  refine g_iconst C S (2 : Int32) dnc_22 (pc' := 23) rfl rfl ?_
  refine g_aloadN C S dnc_23 (pc' := 24) rfl rfl rfl ?_
  refine g_getF C S dnc_24 (host := "") (Or.inl (hw _ (List.mem_of_getElem? (i := 92) rfl))) Via.refl F_coder_a1 (pc' := 27) rfl (fun T74 S => ?_)
  refine g_ishl C S dnc_27 (pc' := 28) rfl ?_
  refine g_iadd C S dnc_28 (pc' := 29) rfl ?_
  rw [show (((16 : Int32) + ((2 : Int32) <<< ((0 : Int32) &&& 31)))) = (18 : Int32) by decide]
  refine g_callS C S (rm := ({ frames := 1, cells := 0, slots := 0, locals := 14 } : Room)) (W := 0) dnc_29 (hw _ (List.mem_of_getElem? (i := 118) rfl)) (hw _ (List.mem_of_getElem? (i := 119) rfl)) (hw _ (List.mem_of_getElem? (i := 120) rfl)) (hw _ (List.mem_of_getElem? (i := 121) rfl)) (by decide) (c_nln l Z a0 hw h0 n0) (argsL := [(.int (16 : Int32)), (.int (10 : Int32)), (.int (18 : Int32))]) (r := []) rfl all0 (lenOf pd_12 rfl) rfl (Nat.le_of_eq rfl) (by decide) (by decide) (by decide) (by decide) (pc' := 32) rfl (fun T75 h75 v75 P75 q75 S => ?_)
  obtain ⟨rfl, e75⟩ := q75; rw [e75] at S
  show Gl p e below s Z consts_1 _ n0 _ T75 (mkF m 32 #[.val (.ref a1), .val (.int (26 : Int32)), .val (.int (16 : Int32)), .val (.int (26 : Int32)), .val (.int (10 : Int32)), .unset] [(.int (34 : Int32))])
  refine g_istore C S dnc_32 (pc' := 34) rfl (L' := #[.val (.ref a1), .val (.int (26 : Int32)), .val (.int (16 : Int32)), .val (.int (26 : Int32)), .val (.int (10 : Int32)), .val (.int (34 : Int32))]) rfl ?_
  refine g_iload C S dnc_34 (pc' := 36) rfl rfl ?_
  refine g_ldc C S dnc_36 (hw _ (List.mem_of_getElem? (i := 127) rfl)) (pc' := 38) rfl ?_
  refine g_icmp_ne C S dnc_38 (pc' := 51) (pf := 41) (by decide) (by decide) rfl (fun hc38 => ?_) (fun hc38 => absurd hc38 (by decide))
  refine g_iload C S dnc_51 (pc' := 53) rfl rfl ?_
  refine g_aloadN C S dnc_53 (pc' := 54) rfl rfl rfl ?_
  refine g_getF C S dnc_54 (host := "") (Or.inl (hw _ (List.mem_of_getElem? (i := 92) rfl))) Via.refl F_coder_a1 (pc' := 57) rfl (fun T76 S => ?_)
  refine g_ishr C S dnc_57 (pc' := 58) rfl ?_
  rw [show (((34 : Int32) >>> ((0 : Int32) &&& 31))) = (34 : Int32) by decide]
  exact g_retI C S dnc_58 (by decide) (by decide) (⟨rfl, rfl⟩)
theorem dcO_0 : decode jdk_65_method_121_code 0 = .ok (.iload_n 1, 1) := by decide +kernel
theorem dcO_1 : decode jdk_65_method_121_code 1 = .ok (.aload_n 0, 1) := by decide +kernel
theorem dcO_2 : decode jdk_65_method_121_code 2 = .ok (.arraylength, 1) := by decide +kernel
theorem dcO_3 : decode jdk_65_method_121_code 3 = .ok (.if_icmp .ne 11, 3) := by decide +kernel
theorem dcO_14 : decode jdk_65_method_121_code 14 = .ok (.iload_n 1, 1) := by decide +kernel
theorem dcO_15 : decode jdk_65_method_121_code 15 = .ok (.newarray .byte, 2) := by decide +kernel
theorem dcO_17 : decode jdk_65_method_121_code 17 = .ok (.astore_n 2, 1) := by decide +kernel
theorem dcO_18 : decode jdk_65_method_121_code 18 = .ok (.aload_n 0, 1) := by decide +kernel
theorem dcO_19 : decode jdk_65_method_121_code 19 = .ok (.iconst 0, 1) := by decide +kernel
theorem dcO_20 : decode jdk_65_method_121_code 20 = .ok (.aload_n 2, 1) := by decide +kernel
theorem dcO_21 : decode jdk_65_method_121_code 21 = .ok (.iconst 0, 1) := by decide +kernel
theorem dcO_22 : decode jdk_65_method_121_code 22 = .ok (.aload_n 0, 1) := by decide +kernel
theorem dcO_23 : decode jdk_65_method_121_code 23 = .ok (.arraylength, 1) := by decide +kernel
theorem dcO_24 : decode jdk_65_method_121_code 24 = .ok (.iload_n 1, 1) := by decide +kernel
theorem dcO_25 : decode jdk_65_method_121_code 25 = .ok (.invokestatic 304, 3) := by decide +kernel
theorem dcO_28 : decode jdk_65_method_121_code 28 = .ok (.invokestatic 150, 3) := by decide +kernel
theorem dcO_31 : decode jdk_65_method_121_code 31 = .ok (.aload_n 2, 1) := by decide +kernel
theorem dcO_32 : decode jdk_65_method_121_code 32 = .ok (.areturn, 1) := by decide +kernel
set_option maxRecDepth 65536 in
set_option maxHeartbeats 40000000 in
theorem c_cpo (l : Launch) (Z : State) (a0 : Array Value) (hw : ∀ d ∈ tables_1, d.before a0 Z = true) (a1 : Addr) (h0 : Heap) (n0 : Nat) (Zn : n0 ≤ h0.size) (A_a1 : Ary Z h0 a1 .byte 16 (fun _ => .int (0 : Int32))) :
    Con l Z consts_1 [] (⟨"java/util/Arrays", "copyOf", "([BI)[B"⟩ : MethodName) jdk_65_method_121_code 3 (some (.array .byte)) ({ frames := 1, cells := 1, slots := 34, locals := 22 } : Room) #[(.ref a1), (.int (34 : Int32))] h0 n0 (fun v h P => ∃ b, v = some (.ref b) ∧ b ∈ P ∧ n0 ≤ b ∧ h0.size ≤ b ∧ Keep h0 h [] ∧ Ary Z h b .byte 34 (fun _ => .int (0 : Int32))) := by
  refine Con.of (plainFor_of_name (by first | (simp [plainName, overriddenIn]; done) | decide +kernel)) (elw hw) (L0 := #[.val (.ref a1), .val (.int (34 : Int32)), .unset]) (fun m => by first | (simp [entryFrame, mkF, argsToLocals, Value.category]; done) | rfl) ?_
  intro p e s m below meth c T C S
  have Kp := Keep.refl h0 []
  refine g_iloadN C S dcO_0 (pc' := 1) rfl rfl ?_
  refine g_aloadN C S dcO_1 (pc' := 2) rfl rfl rfl ?_
  refine g_arraylength C S (x := (16 : Int32)) dcO_2 A_a1 (by decide) (pc' := 3) rfl ?_
  refine g_icmp_ne C S dcO_3 (pc' := 14) (pf := 6) (by decide) (by decide) rfl (fun hc3 => ?_) (fun hc3 => absurd hc3 (by decide))
  refine g_iloadN C S dcO_14 (pc' := 15) rfl rfl ?_
  refine g_newarray C S (N := 34) (cap := 34) dcO_15 (hw _ (List.mem_of_getElem? (i := 16) rfl)) (by decide) (by decide) (by decide) (by decide) (by decide) (pc' := 17) rfl (fun T77 h77 a77 S g77 E77 A_a77 => ?_)
  have ne_a1_a77 : a1 ≠ a77 := ne_new g77 A_a1.lt
  have sz_a77 : h0.size ≤ a77 := ge_of g77 Kp.1
  have ge_a77 : n0 ≤ a77 := ge_of g77 Zn
  have pm_a77 := On.hd S
  have Kp := Kp.ext E77
  have A_a1 := A_a1.ext E77
  have Zn := Nat.le_trans Zn E77.1
  have A_a77 : Ary Z h77 a77 .byte 34 (fun _ => (.int (0 : Int32))) := A_a77
  refine g_astoreN C S dcO_17 (pc' := 18) rfl rfl (L' := #[.val (.ref a1), .val (.int (34 : Int32)), .val (.ref a77)]) rfl ?_
  refine g_aloadN C S dcO_18 (pc' := 19) rfl rfl rfl ?_
  refine g_iconst C S (0 : Int32) dcO_19 (pc' := 20) rfl rfl ?_
  refine g_aloadN C S dcO_20 (pc' := 21) rfl rfl rfl ?_
  refine g_iconst C S (0 : Int32) dcO_21 (pc' := 22) rfl rfl ?_
  refine g_aloadN C S dcO_22 (pc' := 23) rfl rfl rfl ?_
  refine g_arraylength C S (x := (16 : Int32)) dcO_23 A_a1 (by decide) (pc' := 24) rfl ?_
  refine g_iloadN C S dcO_24 (pc' := 25) rfl rfl ?_
  refine g_callS C S (rm := ({ frames := 0, cells := 0, slots := 0, locals := 0 } : Room)) (W := 4) dcO_25 (hw _ (List.mem_of_getElem? (i := 132) rfl)) (hw _ (List.mem_of_getElem? (i := 133) rfl)) (hw _ (List.mem_of_getElem? (i := 124) rfl)) (hw _ (List.mem_of_getElem? (i := 134) rfl)) (by decide) (c_min l Z a0 hw 16 34 h77 n0 16 (by decide)) (argsL := [(.int (16 : Int32)), (.int (34 : Int32))]) (r := [(.int (0 : Int32)), (.ref a77), (.int (0 : Int32)), (.ref a1)]) rfl all0 (lenOf pd_11 rfl) rfl (Nat.le_of_eq rfl) (by decide) (by decide) (by decide) (by decide) (pc' := 28) rfl (fun T78 h78 v78 P78 q78 S => ?_)
  have pm_a77 := List.mem_append_right P78 pm_a77
  obtain ⟨rfl, e78⟩ := q78; rw [e78] at S
  show Gl p e below s Z consts_1 _ n0 _ T78 (mkF m 28 #[.val (.ref a1), .val (.int (34 : Int32)), .val (.ref a77)] [(.int (16 : Int32)), (.int (0 : Int32)), (.ref a77), (.int (0 : Int32)), (.ref a1)])
  refine g_acopy C S (W := 0) dcO_28 (hw _ (List.mem_of_getElem? (i := 135) rfl)) (hw _ (List.mem_of_getElem? (i := 138) rfl)) (hw _ (List.mem_of_getElem? (i := 136) rfl)) (hw _ (List.mem_of_getElem? (i := 137) rfl)) A_a1 A_a77 (fun _ _ => rfl) (fun _ _ => rfl) (by decide) (by decide) (i1 := 0) (i2 := 0) (i3 := 16) (by decide) (by decide) (by decide) (by decide) (by decide) ge_a77 pm_a77 rfl (by decide) (Nat.le_of_eq rfl) (by decide) (pc' := 31) rfl (fun T79 h79 S K79 B79 => ?_)
  have Kp := Kp.trans K79 (allS (Or.inr sz_a77) all0)
  have A_a1 := A_a1.keep K79 (ninS ne_a1_a77 nin0)
  have Zn := Nat.le_trans Zn K79.1
  have A_a77 := B79
  refine g_aloadN C S dcO_31 (pc' := 32) rfl rfl rfl ?_
  exact g_retA C S dcO_32 rfl rfl rfl (by decide) (by decide) (⟨_, rfl, pm_a77, ge_a77, sz_a77, Kp, A_a77.cg fun q hq => by simp⟩)
theorem pd_13 : parseMethodDescriptor "([BI)[B" = some ⟨[(.array .byte), .int], some (.array .byte)⟩ := by decide +kernel
theorem den_0 : decode jdk_68_method_9_code 0 = .ok (.aload_n 0, 1) := by decide +kernel
theorem den_1 : decode jdk_68_method_9_code 1 = .ok (.getfield 15, 3) := by decide +kernel
theorem den_4 : decode jdk_68_method_9_code 4 = .ok (.arraylength, 1) := by decide +kernel
theorem den_5 : decode jdk_68_method_9_code 5 = .ok (.aload_n 0, 1) := by decide +kernel
theorem den_6 : decode jdk_68_method_9_code 6 = .ok (.getfield 22, 3) := by decide +kernel
theorem den_9 : decode jdk_68_method_9_code 9 = .ok (.ishr, 1) := by decide +kernel
theorem den_10 : decode jdk_68_method_9_code 10 = .ok (.istore_n 2, 1) := by decide +kernel
theorem den_11 : decode jdk_68_method_9_code 11 = .ok (.iload_n 1, 1) := by decide +kernel
theorem den_12 : decode jdk_68_method_9_code 12 = .ok (.iload_n 2, 1) := by decide +kernel
theorem den_13 : decode jdk_68_method_9_code 13 = .ok (.isub, 1) := by decide +kernel
theorem den_14 : decode jdk_68_method_9_code 14 = .ok (.ifCond .le 24, 3) := by decide +kernel
theorem den_17 : decode jdk_68_method_9_code 17 = .ok (.aload_n 0, 1) := by decide +kernel
theorem den_18 : decode jdk_68_method_9_code 18 = .ok (.aload_n 0, 1) := by decide +kernel
theorem den_19 : decode jdk_68_method_9_code 19 = .ok (.getfield 15, 3) := by decide +kernel
theorem den_22 : decode jdk_68_method_9_code 22 = .ok (.aload_n 0, 1) := by decide +kernel
theorem den_23 : decode jdk_68_method_9_code 23 = .ok (.iload_n 1, 1) := by decide +kernel
theorem den_24 : decode jdk_68_method_9_code 24 = .ok (.invokevirtual 104, 3) := by decide +kernel
theorem den_27 : decode jdk_68_method_9_code 27 = .ok (.aload_n 0, 1) := by decide +kernel
theorem den_28 : decode jdk_68_method_9_code 28 = .ok (.getfield 22, 3) := by decide +kernel
theorem den_31 : decode jdk_68_method_9_code 31 = .ok (.ishl, 1) := by decide +kernel
theorem den_32 : decode jdk_68_method_9_code 32 = .ok (.invokestatic 108, 3) := by decide +kernel
theorem den_35 : decode jdk_68_method_9_code 35 = .ok (.putfield 15, 3) := by decide +kernel
theorem den_38 : decode jdk_68_method_9_code 38 = .ok (.return_, 1) := by decide +kernel
set_option maxRecDepth 65536 in
set_option maxHeartbeats 40000000 in
theorem c_enA (l : Launch) (Z : State) (a0 : Array Value) (hw : ∀ d ∈ tables_1, d.before a0 Z = true) (a1 : Addr) (h0 : Heap) (n0 : Nat) (b1 : Addr) (ga : n0 ≤ a1) (ne : a1 ≠ b1) (Zn : n0 ≤ h0.size) (X_a1 : Exa Z h0 a1 "java/lang/StringBuilder") (F_value_a1 : Fld Z h0 a1 "java/lang/AbstractStringBuilder" "value" "[B" (.ref b1)) (F_coder_a1 : Fld Z h0 a1 "java/lang/AbstractStringBuilder" "coder" "B" (.int (0 : Int32))) (F_count_a1 : Fld Z h0 a1 "java/lang/AbstractStringBuilder" "count" "I" (.int (0 : Int32))) (F_maybeLatin1_a1 : Fld Z h0 a1 "java/lang/AbstractStringBuilder" "maybeLatin1" "Z" (.int (0 : Int32))) (A_b1 : Ary Z h0 b1 .byte 16 (fun _ => .int (0 : Int32))) :
    Con l Z consts_1 [] (⟨"java/lang/AbstractStringBuilder", "ensureCapacityInternal", "(I)V"⟩ : MethodName) jdk_68_method_9_code 3 none ({ frames := 3, cells := 1, slots := 34, locals := 49 } : Room) #[(.ref a1), (.int (26 : Int32))] h0 n0 (fun v h P => v = none ∧ Keep h0 h [a1] ∧ ∃ b, b ∈ P ∧ n0 ≤ b ∧ h0.size ≤ b ∧ (Exa Z h a1 "java/lang/StringBuilder" ∧ Fld Z h a1 "java/lang/AbstractStringBuilder" "value" "[B" (.ref b) ∧ Fld Z h a1 "java/lang/AbstractStringBuilder" "coder" "B" (.int (0 : Int32)) ∧ Fld Z h a1 "java/lang/AbstractStringBuilder" "count" "I" (.int (0 : Int32)) ∧ Fld Z h a1 "java/lang/AbstractStringBuilder" "maybeLatin1" "Z" (.int (0 : Int32))) ∧ Ary Z h b .byte 34 (fun _ => .int (0 : Int32))) := by
  refine Con.of (plainFor_of_name (by first | (simp [plainName, overriddenIn]; done) | decide +kernel)) (elw hw) (L0 := #[.val (.ref a1), .val (.int (26 : Int32)), .unset]) (fun m => by first | (simp [entryFrame, mkF, argsToLocals, Value.category]; done) | rfl) ?_
  intro p e s m below meth c T C S
  have Kp := Keep.refl h0 [a1]
  have lt_a1 := X_a1.lt
  refine g_aloadN C S den_0 (pc' := 1) rfl rfl rfl ?_
  refine g_getF C S den_1 (host := "") (Or.inl (hw _ (List.mem_of_getElem? (i := 90) rfl))) Via.refl F_value_a1 (pc' := 4) rfl (fun T80 S => ?_)
  refine g_arraylength C S (x := (16 : Int32)) den_4 A_b1 (by decide) (pc' := 5) rfl ?_
  refine g_aloadN C S den_5 (pc' := 6) rfl rfl rfl ?_
  refine g_getF C S den_6 (host := "") (Or.inl (hw _ (List.mem_of_getElem? (i := 92) rfl))) Via.refl F_coder_a1 (pc' := 9) rfl (fun T81 S => ?_)
  refine g_ishr C S den_9 (pc' := 10) rfl ?_
  rw [show (((16 : Int32) >>> ((0 : Int32) &&& 31))) = (16 : Int32) by decide]
  refine g_istoreN C S den_10 (pc' := 11) rfl (L' := #[.val (.ref a1), .val (.int (26 : Int32)), .val (.int (16 : Int32))]) rfl ?_
  refine g_iloadN C S den_11 (pc' := 12) rfl rfl ?_
  refine g_iloadN C S den_12 (pc' := 13) rfl rfl ?_
  refine g_isub C S den_13 (pc' := 14) rfl ?_
  refine g_if_le C S den_14 (pc' := 38) (pf := 17) (by decide) (by decide) rfl (fun hc14 => absurd (by decide) hc14) (fun hc14 => ?_)
  refine g_aloadN C S den_17 (pc' := 18) rfl rfl rfl ?_
  refine g_aloadN C S den_18 (pc' := 19) rfl rfl rfl ?_
  refine g_getF C S den_19 (host := "") (Or.inl (hw _ (List.mem_of_getElem? (i := 90) rfl))) Via.refl F_value_a1 (pc' := 22) rfl (fun T82 S => ?_)
  refine g_aloadN C S den_22 (pc' := 23) rfl rfl rfl ?_
  refine g_iloadN C S den_23 (pc' := 24) rfl rfl ?_
  refine g_callQ C S (rm := ({ frames := 2, cells := 0, slots := 0, locals := 29 } : Room)) (W := 2) den_24 (hw _ (List.mem_of_getElem? (i := 113) rfl)) (hw _ (List.mem_of_getElem? (i := 114) rfl)) (hw _ (List.mem_of_getElem? (i := 115) rfl)) (hw _ (List.mem_of_getElem? (i := 116) rfl)) (hw _ (List.mem_of_getElem? (i := 86) rfl)) (hw _ (List.mem_of_getElem? (i := 117) rfl)) (by decide) X_a1 (c_ncp l Z a0 hw a1 h0 n0 b1 _ _ X_a1 F_value_a1 F_coder_a1 F_count_a1 F_maybeLatin1_a1 A_b1) (argsL := [(.int (26 : Int32))]) (r := [(.ref b1), (.ref a1)]) rfl all0 (lenOf pd_0 rfl) rfl (Nat.le_of_eq rfl) (by decide) (by decide) (by decide) (by decide) (pc' := 27) rfl (fun T83 h83 v83 P83 q83 S => ?_)
  obtain ⟨rfl, e83⟩ := q83; rw [e83] at S
  show Gl p e below s Z consts_1 _ n0 _ T83 (mkF m 27 #[.val (.ref a1), .val (.int (26 : Int32)), .val (.int (16 : Int32))] [(.int (34 : Int32)), (.ref b1), (.ref a1)])
  refine g_aloadN C S den_27 (pc' := 28) rfl rfl rfl ?_
  refine g_getF C S den_28 (host := "") (Or.inl (hw _ (List.mem_of_getElem? (i := 92) rfl))) Via.refl F_coder_a1 (pc' := 31) rfl (fun T84 S => ?_)
  refine g_ishl C S den_31 (pc' := 32) rfl ?_
  rw [show (((34 : Int32) <<< ((0 : Int32) &&& 31))) = (34 : Int32) by decide]
  refine g_callS C S (rm := ({ frames := 1, cells := 1, slots := 34, locals := 22 } : Room)) (W := 1) den_32 (hw _ (List.mem_of_getElem? (i := 128) rfl)) (hw _ (List.mem_of_getElem? (i := 129) rfl)) (hw _ (List.mem_of_getElem? (i := 130) rfl)) (hw _ (List.mem_of_getElem? (i := 131) rfl)) (by decide) (c_cpo l Z a0 hw b1 h0 n0 Zn A_b1) (argsL := [(.ref b1), (.int (34 : Int32))]) (r := [(.ref a1)]) rfl all0 (lenOf pd_13 rfl) rfl (Nat.le_of_eq rfl) (by decide) (by decide) (by decide) (by decide) (pc' := 35) rfl (fun T85 h85 v85 P85 q85 S => ?_)
  obtain ⟨b2, rfl, pm_b2, ge_b2, sz_b2, K85, A_b2⟩ := q85
  have Kp := Kp.trans K85 all0
  have X_a1 := X_a1.keep K85
  have F_value_a1 := F_value_a1.keep K85 nin0
  have F_coder_a1 := F_coder_a1.keep K85 nin0
  have F_count_a1 := F_count_a1.keep K85 nin0
  have F_maybeLatin1_a1 := F_maybeLatin1_a1.keep K85 nin0
  have A_b1 := A_b1.keep K85 nin0
  have Zn := Nat.le_trans Zn K85.1
  have ne_a1_b2 : a1 ≠ b2 := fun e => Nat.lt_irrefl _ (Nat.lt_of_lt_of_le lt_a1 (e ▸ sz_b2))
  show Gl p e below s Z consts_1 _ n0 _ T85 (mkF m 35 #[.val (.ref a1), .val (.int (26 : Int32)), .val (.int (16 : Int32))] [(.ref b2), (.ref a1)])
  refine g_putF C S den_35 (host := "") (Or.inl (hw _ (List.mem_of_getElem? (i := 90) rfl))) Via.refl F_value_a1 X_a1 (Or.inl (hw _ (List.mem_of_getElem? (i := 91) rfl))) (hw _ (List.mem_of_getElem? (i := 77) rfl)) (ty := (.array .byte)) (by decide) rfl rfl ga (Or.inr (by decide)) (pc' := 38) rfl (fun T86 h86 S W86 => ?_)
  have X_a1 := X_a1.wr W86
  have F_value_a1 := F_value_a1.same W86
  have F_coder_a1 := F_coder_a1.other W86 (Or.inr (slot_ne (a0 := a0) (t := .byte) (t' := (.array .byte)) (Or.inl (hw _ (List.mem_of_getElem? (i := 93) rfl))) (Or.inl (hw _ (List.mem_of_getElem? (i := 91) rfl))) (by decide) (by decide) (by decide)))
  have F_count_a1 := F_count_a1.other W86 (Or.inr (slot_ne (a0 := a0) (t := .int) (t' := (.array .byte)) (Or.inl (hw _ (List.mem_of_getElem? (i := 107) rfl))) (Or.inl (hw _ (List.mem_of_getElem? (i := 91) rfl))) (by decide) (by decide) (by decide)))
  have F_maybeLatin1_a1 := F_maybeLatin1_a1.other W86 (Or.inr (slot_ne (a0 := a0) (t := .boolean) (t' := (.array .byte)) (Or.inl (hw _ (List.mem_of_getElem? (i := 249) rfl))) (Or.inl (hw _ (List.mem_of_getElem? (i := 91) rfl))) (by decide) (by decide) (by decide)))
  have A_b1 := A_b1.other W86 (Ne.symm ne)
  have Zn := Nat.le_trans Zn (Nat.le_of_eq W86.size.symm)
  have A_b2 := A_b2.other W86 (Ne.symm ne_a1_b2)
  have Kp := Kp.wr W86 (Or.inl (List.mem_of_getElem? (i := 0) rfl))
  exact g_return C S den_38 (by decide) (by decide) (⟨rfl, Kp, b2, List.mem_append_left _ pm_b2, ge_b2, sz_b2, ⟨X_a1, F_value_a1, F_coder_a1, F_count_a1, F_maybeLatin1_a1⟩, A_b2⟩)
theorem en_no {k : Nat} (h : k ≤ 34) : ¬ (0 : Int32) < Int32.ofNat k - 34 := fun z => by
  rw [Int32.lt_iff_toInt_lt, Jvm.Kit.i32_sub (by rw [o32 (by omega), show (34 : Int32).toInt = 34 by decide]; omega) (by rw [o32 (by omega), show (34 : Int32).toInt = 34 by decide]; omega), o32 (by omega), show (34 : Int32).toInt = 34 by decide] at z
  have : (0 : Int32).toInt = 0 := rfl
  omega
set_option maxRecDepth 65536 in
set_option maxHeartbeats 40000000 in
theorem c_enB (l : Launch) (Z : State) (a0 : Array Value) (hw : ∀ d ∈ tables_1, d.before a0 Z = true) (a1 : Addr) (h0 : Heap) (n0 : Nat) (b1 : Addr) (ct : Int32) (k : Nat) (f : Nat → Value) (hn : k ≤ 34) (X_a1 : Exa Z h0 a1 "java/lang/StringBuilder") (F_value_a1 : Fld Z h0 a1 "java/lang/AbstractStringBuilder" "value" "[B" (.ref b1)) (F_coder_a1 : Fld Z h0 a1 "java/lang/AbstractStringBuilder" "coder" "B" (.int (0 : Int32))) (F_count_a1 : Fld Z h0 a1 "java/lang/AbstractStringBuilder" "count" "I" (.int ct)) (F_maybeLatin1_a1 : Fld Z h0 a1 "java/lang/AbstractStringBuilder" "maybeLatin1" "Z" (.int (0 : Int32))) (A_b1 : Ary Z h0 b1 .byte 34 f) :
    Con l Z consts_1 [] (⟨"java/lang/AbstractStringBuilder", "ensureCapacityInternal", "(I)V"⟩ : MethodName) jdk_68_method_9_code 3 none ({ frames := 0, cells := 0, slots := 0, locals := 0 } : Room) #[(.ref a1), (.int (Int32.ofNat k))] h0 n0 (fun v h _ => v = none ∧ h = h0) := by
  refine Con.of (plainFor_of_name (by first | (simp [plainName, overriddenIn]; done) | decide +kernel)) (elw hw) (L0 := #[.val (.ref a1), .val (.int (Int32.ofNat k)), .unset]) (fun m => by first | (simp [entryFrame, mkF, argsToLocals, Value.category]; done) | rfl) ?_
  intro p e s m below meth c T C S
  refine g_aloadN C S den_0 (pc' := 1) rfl rfl rfl ?_
  refine g_getF C S den_1 (host := "") (Or.inl (hw _ (List.mem_of_getElem? (i := 90) rfl))) Via.refl F_value_a1 (pc' := 4) rfl (fun T87 S => ?_)
  refine g_arraylength C S (x := (34 : Int32)) den_4 A_b1 (by decide) (pc' := 5) rfl ?_
  refine g_aloadN C S den_5 (pc' := 6) rfl rfl rfl ?_
  refine g_getF C S den_6 (host := "") (Or.inl (hw _ (List.mem_of_getElem? (i := 92) rfl))) Via.refl F_coder_a1 (pc' := 9) rfl (fun T88 S => ?_)
  refine g_ishr C S den_9 (pc' := 10) rfl ?_
  rw [show (((34 : Int32) >>> ((0 : Int32) &&& 31))) = (34 : Int32) by decide]
  refine g_istoreN C S den_10 (pc' := 11) rfl (L' := #[.val (.ref a1), .val (.int (Int32.ofNat k)), .val (.int (34 : Int32))]) rfl ?_
  refine g_iloadN C S den_11 (pc' := 12) rfl rfl ?_
  refine g_iloadN C S den_12 (pc' := 13) rfl rfl ?_
  refine g_isub C S den_13 (pc' := 14) rfl ?_
  refine g_if_le C S den_14 (pc' := 38) (pf := 17) (by decide) (by decide) rfl (fun hc14 => ?_) (fun hc14 => absurd hc14 (en_no hn))
  exact g_return C S den_38 (by decide) (by decide) (⟨rfl, rfl⟩)
/-! ## the builder in plain numbers -/
theorem On.ml {EL : List (String × Nat)} {PS P1 : List Addr} {p : Program} {l : Launch} {e : Env} {R : Room} {s : State} {m : MethodId} {args : Array Value} {below : List Frame} {meth : Method} {c : Code} {Z : State} {n0 : Nat} {T : State} {h : Heap} {k n : Nat} {own : String} {b : Addr} (S : On p l e R s m args below meth c Z EL own n0 T h (P1 ++ PS) k n) (q : b ∈ P1) : b ∈ P1 ++ PS := List.mem_append_left _ q
theorem ne_ge {h : Heap} {a b : Addr} (q : h.size ≤ b) (z : a < h.size) : a ≠ b := fun e => Nat.lt_irrefl _ (Nat.lt_of_lt_of_le z (e ▸ q))
theorem Sta.keep2 {Z : State} {h h' : Heap} {a b : Addr} {v : Value} {C nm d : String} (F : Sta Z h C nm d v) (K : Keep h h' [a, b]) (q : ∀ cell : Cell, h[a]? = some cell → cell.vm.isStatics = false) (q' : ∀ cell : Cell, h[b]? = some cell → cell.vm.isStatics = false) : Sta Z h' C nm d v := by
  obtain ⟨cf, i, k, f, st, cell, h1, h2, h3, h4, h5, h6, r⟩ := F; exact ⟨cf, i, k, f, st, cell, h1, h2, h3, h4, K.2.1 _ _ h5 (ninS (fun e => by subst e; rw [q _ h5] at h6; cases h6) (ninS (fun e => by subst e; rw [q' _ h5] at h6; cases h6) nin0)), h6, r⟩
theorem lt26 {k : Nat} (h : k < 2 ^ 31) : (Int32.ofNat k < 26) ↔ k < 26 := o32_lt (k := 26) h (by decide)
theorem add26 (n : Nat) : (26 : Int32) + Int32.ofNat n = Int32.ofNat (26 + n) := (Int32.ofNat_add 26 n).symm
abbrev lw (g : Nat → Int32) : Nat → Int32 := fun i => g i &&& 255
abbrev z68 (g : Nat → Int32) : Nat → Int32 := fun q => if q < 52 then ub (lw g) q else 0
theorem z68_byt (g : Nat → Int32) (N : Nat) : Byt (z68 g) N := fun i _ => by
  show fits .byte (.int (if i < 52 then ub (lw g) i else 0)) = true
  split
  · exact ub_fits _ _
  · rfl
def pW (q : Nat) : Int32 := [75, 105, 110, 100, 108, 105, 110, 103, 32, 99, 111, 117, 108, 100, 32, 110, 111, 116, 32, 115, 116, 97, 114, 116, 58, 32].getD q 0
theorem pw_ldc : ∀ q, q < 26 → ([.int 75, .int 105, .int 110, .int 100, .int 108, .int 105, .int 110, .int 103, .int 32, .int 99, .int 111, .int 117, .int 108, .int 100, .int 32, .int 110, .int 111, .int 116, .int 32, .int 115, .int 116, .int 97, .int 114, .int 116, .int 58, .int 32] : List Value).getD q (.int 0) = .int (pW q) := fun q hq => by
  match q, hq with
  | 0, _ => rfl
  | 1, _ => rfl
  | 2, _ => rfl
  | 3, _ => rfl
  | 4, _ => rfl
  | 5, _ => rfl
  | 6, _ => rfl
  | 7, _ => rfl
  | 8, _ => rfl
  | 9, _ => rfl
  | 10, _ => rfl
  | 11, _ => rfl
  | 12, _ => rfl
  | 13, _ => rfl
  | 14, _ => rfl
  | 15, _ => rfl
  | 16, _ => rfl
  | 17, _ => rfl
  | 18, _ => rfl
  | 19, _ => rfl
  | 20, _ => rfl
  | 21, _ => rfl
  | 22, _ => rfl
  | 23, _ => rfl
  | 24, _ => rfl
  | 25, _ => rfl
  | n + 26, hq => omega
theorem pw_fits : ∀ q, q < 26 → fits .byte (.int (pW q)) = true := by decide +kernel
theorem pw_lat : ∀ q, q < 26 → 0 ≤ (pW q).toInt ∧ (pW q).toInt ≤ 255 := by decide +kernel
theorem pw_bt : ∀ q, q < 26 → bt (pW q) = pW q := by decide +kernel
theorem pw_lw : ∀ q, q < 26 → pW q &&& 255 = pW q := by decide +kernel
def pZ (q : Nat) : Int32 := if q < 26 then pW q else 0
theorem pZ_byt (N : Nat) : Byt pZ N := fun i _ => by
  unfold pZ; split
  · exact pw_fits _ (by assumption)
  · rfl
def kc (cf : Nat → Int32) (q : Nat) : Int32 := if q < 26 then pW q else cf (q - 26)
theorem kc_lat {cf : Nat → Int32} {n : Nat} (h : Lat cf n) : Lat (kc cf) (26 + n) := fun i hi => by
  unfold kc; split
  · exact pw_lat _ (by assumption)
  · exact h _ (by omega)
theorem kc_nlat {cf : Nat → Int32} {n : Nat} (h : ¬ Lat cf n) : ¬ Lat (kc cf) (26 + n) := fun q => h fun i hi => by
  have := q (26 + i) (by omega)
  unfold kc at this
  rw [if_neg (by omega), show 26 + i - 26 = i by omega] at this
  exact this
theorem kc_c16 {cf : Nat → Int32} {n : Nat} (h : C16 cf n) : C16 (kc cf) (26 + n) := fun i hi => by
  unfold kc; split
  · have := pw_lat i (by assumption); omega
  · exact h _ (by omega)
/-- the bytes behind the second append -/
def g0 (n : Nat) (g : Nat → Int32) (q : Nat) : Int32 := if 26 ≤ q ∧ q < 26 + n then g (q - 26) else pZ q
def g1 (n : Nat) (g : Nat → Int32) (q : Nat) : Int32 := if 52 ≤ q ∧ q < 52 + 2 * n then g (q - 52) else if q < 52 then ub (lw pZ) q else 0
theorem g0_byt {n : Nat} {g : Nat → Int32} (h : Byt g n) (N : Nat) : Byt (g0 n g) N := fun i _ => by
  unfold g0; split
  · exact h _ (by omega)
  · exact pZ_byt (i + 1) i (by omega)
theorem g1_byt {n : Nat} {g : Nat → Int32} (h : Byt g (2 * n)) (N : Nat) : Byt (g1 n g) N := fun i _ => by
  unfold g1; split
  · exact h _ (by omega)
  · split
    · exact ub_fits _ _
    · rfl
theorem g0_enc {cf g : Nat → Int32} {n : Nat} (hL : Lat cf n) (hg : ∀ q, q < n → g q = bt (cf q)) : Enc (kc cf) (26 + n) 0 (26 + n) (g0 n g) := Or.inl ⟨kc_lat hL, rfl, rfl, fun q hq => by
  unfold g0 kc pZ
  by_cases u : q < 26
  · rw [if_neg (by omega), if_pos u, if_pos u, pw_bt q u]
  · rw [if_pos ⟨by omega, hq⟩, if_neg u, hg _ (by omega)]⟩
theorem ub_cong {f g : Nat → Int32} {q r : Nat} (h : f (q / 2) = g (r / 2)) (e : q % 2 = r % 2) : ub f q = ub g r := by unfold ub; rw [h, e]
theorem g1_enc {cf g : Nat → Int32} {n : Nat} (hL : ¬ Lat cf n) (hg : ∀ q, q < 2 * n → g q = ub cf q) : Enc (kc cf) (26 + n) 1 (2 * (26 + n)) (g1 n g) := Or.inr ⟨kc_nlat hL, rfl, rfl, fun q hq => by
  unfold g1
  by_cases u : q < 52
  · rw [if_neg (by omega), if_pos u]
    refine ub_cong ?_ rfl
    show pZ (q / 2) &&& 255 = kc cf (q / 2)
    unfold pZ kc
    rw [if_pos (by omega), if_pos (by omega), pw_lw _ (by omega)]
  · rw [if_pos ⟨by omega, by omega⟩, hg _ (by omega)]
    refine ub_cong ?_ (by omega)
    show cf ((q - 52) / 2) = kc cf (q / 2)
    unfold kc
    rw [if_neg (by omega), show (q - 52) / 2 = q / 2 - 26 by omega]⟩
theorem byt_bt {g cf : Nat → Int32} {n : Nat} (h : ∀ q, q < n → g q = bt (cf q)) : Byt g n := fun i hi => by rw [h i hi]; exact bt_fits _
theorem byt_ub {g cf : Nat → Int32} {n : Nat} (h : ∀ q, q < n → g q = ub cf q) : Byt g n := fun i hi => by rw [h i hi]; exact ub_fits _ _
theorem dgb_0 : decode jdk_42_method_147_code 0 = .ok (.aload_n 0, 1) := by decide +kernel
theorem dgb_1 : decode jdk_42_method_147_code 1 = .ok (.invokevirtual 335, 3) := by decide +kernel
theorem dgb_4 : decode jdk_42_method_147_code 4 = .ok (.iload_n 3, 1) := by decide +kernel
theorem dgb_5 : decode jdk_42_method_147_code 5 = .ok (.if_icmp .ne 23, 3) := by decide +kernel
theorem dgb_8 : decode jdk_42_method_147_code 8 = .ok (.aload_n 0, 1) := by decide +kernel
theorem dgb_9 : decode jdk_42_method_147_code 9 = .ok (.getfield 9, 3) := by decide +kernel
theorem dgb_12 : decode jdk_42_method_147_code 12 = .ok (.iconst 0, 1) := by decide +kernel
theorem dgb_13 : decode jdk_42_method_147_code 13 = .ok (.aload_n 1, 1) := by decide +kernel
theorem dgb_14 : decode jdk_42_method_147_code 14 = .ok (.iload_n 2, 1) := by decide +kernel
theorem dgb_15 : decode jdk_42_method_147_code 15 = .ok (.iload_n 3, 1) := by decide +kernel
theorem dgb_16 : decode jdk_42_method_147_code 16 = .ok (.ishl, 1) := by decide +kernel
theorem dgb_17 : decode jdk_42_method_147_code 17 = .ok (.aload_n 0, 1) := by decide +kernel
theorem dgb_18 : decode jdk_42_method_147_code 18 = .ok (.getfield 9, 3) := by decide +kernel
theorem dgb_21 : decode jdk_42_method_147_code 21 = .ok (.arraylength, 1) := by decide +kernel
theorem dgb_22 : decode jdk_42_method_147_code 22 = .ok (.invokestatic 212, 3) := by decide +kernel
theorem dgb_25 : decode jdk_42_method_147_code 25 = .ok (.goto 18, 3) := by decide +kernel
theorem dgb_43 : decode jdk_42_method_147_code 43 = .ok (.return_, 1) := by decide +kernel
set_option maxRecDepth 65536 in
set_option maxHeartbeats 40000000 in
theorem c_gb (l : Launch) (Z : State) (a0 : Array Value) (hw : ∀ d ∈ tables_1, d.before a0 Z = true) (a1 : Addr) (a2 : Addr) (cd : Int32) (h0 : Heap) (n0 : Nat) (b1 : Addr) (M K off o : Nat) (g g2 : Nat → Int32) (hcd : narrow .byte (.int cd) = .int cd) (hof : Int32.ofNat off <<< (cd &&& 31) = Int32.ofNat o) (hfit : o + M ≤ K) (hK : K ≤ 68) (hB : Byt g M) (hB2 : Byt g2 K) (ga : n0 ≤ a2) (cs : Int32) (hcs : ¬ cs = 0) (S_COMPACT_STRINGS : Sta Z h0 "java/lang/String" "COMPACT_STRINGS" "Z" (.int cs)) (X_a1 : Exa Z h0 a1 "java/lang/String") (F_coder_a1 : Fld Z h0 a1 "java/lang/String" "coder" "B" (.int cd)) (F_value_a1 : Fld Z h0 a1 "java/lang/String" "value" "[B" (.ref b1)) (A_b1 : Ary Z h0 b1 .byte M (fun q => .int (g q))) (A_a2 : Ary Z h0 a2 .byte K (fun q => .int (g2 q))) :
    Con l Z consts_1 [a2] (⟨"java/lang/String", "getBytes", "([BIB)V"⟩ : MethodName) jdk_42_method_147_code 4 none ({ frames := 1, cells := 0, slots := 0, locals := 18 } : Room) #[(.ref a1), (.ref a2), (.int (Int32.ofNat off)), (.int cd)] h0 n0 (fun v h _ => v = none ∧ Keep h0 h [a2] ∧ Ary Z h a2 .byte K (fun q => .int (if o ≤ q ∧ q < o + M then g (q - o) else g2 q))) := by
  refine Con.of (plainFor_of_name (by first | (simp [plainName, overriddenIn]; done) | decide +kernel)) (elw hw) (L0 := #[.val (.ref a1), .val (.ref a2), .val (.int (Int32.ofNat off)), .val (.int cd)]) (fun m => by first | (simp [entryFrame, mkF, argsToLocals, Value.category]; done) | rfl) ?_
  intro p e s m below meth c T C S
  have pm_a2 : a2 ∈ [a2] := List.mem_of_getElem? (i := 0) rfl
  have Kp := Keep.refl h0 [a2]
  refine g_aloadN C S dgb_0 (pc' := 1) rfl rfl rfl ?_
  refine g_callV C S (rm := ({ frames := 0, cells := 0, slots := 0, locals := 0 } : Room)) (W := 0) dgb_1 (hw _ (List.mem_of_getElem? (i := 29) rfl)) (hw _ (List.mem_of_getElem? (i := 30) rfl)) (fun _ hZ => notFace_of_selects (args := #[]) (mvT hZ (hw _ (List.mem_of_getElem? (i := 32) rfl)))) (hw _ (List.mem_of_getElem? (i := 32) rfl)) (hw _ (List.mem_of_getElem? (i := 31) rfl)) (hw _ (List.mem_of_getElem? (i := 4) rfl)) (hw _ (List.mem_of_getElem? (i := 33) rfl)) (by decide) rfl X_a1 (c_cod l Z a0 hw a1 h0 n0 cd hcd cs hcs S_COMPACT_STRINGS F_coder_a1) (argsL := []) (r := []) rfl all0 (lenOf pd_8 rfl) rfl (Nat.le_of_eq rfl) (by decide) (by decide) (by decide) (by decide) (pc' := 4) rfl (fun T89 h89 v89 P89 q89 S => ?_)
  have pm_a2 := List.mem_append_right P89 pm_a2
  obtain ⟨rfl, e89⟩ := q89; rw [e89] at S
  show Gl p e below s Z consts_1 _ n0 _ T89 (mkF m 4 #[.val (.ref a1), .val (.ref a2), .val (.int (Int32.ofNat off)), .val (.int cd)] [(.int cd)])
  refine g_iloadN C S dgb_4 (pc' := 5) rfl rfl ?_
  refine g_icmp_ne C S dgb_5 (pc' := 28) (pf := 8) (by decide) (by decide) rfl (fun hc5 => absurd rfl hc5) (fun hc5 => ?_)
  refine g_aloadN C S dgb_8 (pc' := 9) rfl rfl rfl ?_
  refine g_getF C S dgb_9 (host := "") (Or.inl (hw _ (List.mem_of_getElem? (i := 21) rfl))) Via.refl F_value_a1 (pc' := 12) rfl (fun T90 S => ?_)
  refine g_iconst C S (0 : Int32) dgb_12 (pc' := 13) rfl rfl ?_
  refine g_aloadN C S dgb_13 (pc' := 14) rfl rfl rfl ?_
  refine g_iloadN C S dgb_14 (pc' := 15) rfl rfl ?_
  refine g_iloadN C S dgb_15 (pc' := 16) rfl rfl ?_
  refine g_ishl C S dgb_16 (pc' := 17) rfl ?_
  rw [hof]
  refine g_aloadN C S dgb_17 (pc' := 18) rfl rfl rfl ?_
  refine g_getF C S dgb_18 (host := "") (Or.inl (hw _ (List.mem_of_getElem? (i := 21) rfl))) Via.refl F_value_a1 (pc' := 21) rfl (fun T91 S => ?_)
  refine g_arraylength C S (x := (Int32.ofNat M)) dgb_21 A_b1 rfl (pc' := 22) rfl ?_
  refine g_acopy C S (W := 0) dgb_22 (hw _ (List.mem_of_getElem? (i := 155) rfl)) (hw _ (List.mem_of_getElem? (i := 138) rfl)) (hw _ (List.mem_of_getElem? (i := 136) rfl)) (hw _ (List.mem_of_getElem? (i := 137) rfl)) A_b1 A_a2 hB hB2 (by omega) (by omega) (i1 := 0) (i2 := o) (i3 := M) (by decide) (o32 (by omega)) (o32 (by omega)) (by omega) (by omega) ga pm_a2 rfl (by decide) (Nat.le_of_eq rfl) (by decide) (pc' := 25) rfl (fun T92 h92 S K92 B92 => ?_)
  have Kp := Kp.trans K92 (allS (Or.inl (List.mem_of_getElem? (i := 0) rfl)) all0)
  have A_a2 := B92
  refine g_goto C S dgb_25 (pc' := 43) (by decide) (by decide) ?_
  exact g_return C S dgb_43 (by decide) (by decide) (⟨rfl, Kp, A_a2.cg fun q hq => by by_cases u : o ≤ q ∧ q < o + M <;> simp [u]⟩)
theorem dl16_0 : decode jdk_52_method_6_code 0 = .ok (.aload_n 0, 1) := by decide +kernel
theorem dl16_1 : decode jdk_52_method_6_code 1 = .ok (.arraylength, 1) := by decide +kernel
theorem dl16_2 : decode jdk_52_method_6_code 2 = .ok (.iconst 1, 1) := by decide +kernel
theorem dl16_3 : decode jdk_52_method_6_code 3 = .ok (.ishr, 1) := by decide +kernel
theorem dl16_4 : decode jdk_52_method_6_code 4 = .ok (.ireturn, 1) := by decide +kernel
set_option maxRecDepth 65536 in
set_option maxHeartbeats 40000000 in
theorem c_l16 (l : Launch) (Z : State) (a0 : Array Value) (hw : ∀ d ∈ tables_1, d.before a0 Z = true) (a1 : Addr) (h0 : Heap) (n0 : Nat) (f : Nat → Value) (A_a1 : Ary Z h0 a1 .byte 68 f) :
    Con l Z consts_1 [] (⟨"java/lang/StringUTF16", "length", "([B)I"⟩ : MethodName) jdk_52_method_6_code 1 (some .int) ({ frames := 0, cells := 0, slots := 0, locals := 0 } : Room) #[(.ref a1)] h0 n0 (fun v h _ => v = some (.int 34) ∧ h = h0) := by
  refine Con.of (plainFor_of_name (by first | (simp [plainName, overriddenIn]; done) | decide +kernel)) (elw hw) (L0 := #[.val (.ref a1)]) (fun m => by first | (simp [entryFrame, mkF, argsToLocals, Value.category]; done) | rfl) ?_
  intro p e s m below meth c T C S
  refine g_aloadN C S dl16_0 (pc' := 1) rfl rfl rfl ?_
  refine g_arraylength C S (x := (68 : Int32)) dl16_1 A_a1 (by decide) (pc' := 2) rfl ?_
  refine g_iconst C S (1 : Int32) dl16_2 (pc' := 3) rfl rfl ?_
  refine g_ishr C S dl16_3 (pc' := 4) rfl ?_
  rw [show (((68 : Int32) >>> ((1 : Int32) &&& 31))) = (34 : Int32) by decide]
  exact g_retI C S dl16_4 (by decide) (by decide) (⟨rfl, rfl⟩)
theorem dcfi_0 : decode jdk_41_method_13_code 0 = .ok (.iload_n 2, 1) := by decide +kernel
theorem dcfi_1 : decode jdk_41_method_13_code 1 = .ok (.iload_n 0, 1) := by decide +kernel
theorem dcfi_2 : decode jdk_41_method_13_code 2 = .ok (.ior, 1) := by decide +kernel
theorem dcfi_3 : decode jdk_41_method_13_code 3 = .ok (.iload_n 1, 1) := by decide +kernel
theorem dcfi_4 : decode jdk_41_method_13_code 4 = .ok (.ior, 1) := by decide +kernel
theorem dcfi_5 : decode jdk_41_method_13_code 5 = .ok (.ifCond .lt 10, 3) := by decide +kernel
theorem dcfi_8 : decode jdk_41_method_13_code 8 = .ok (.iload_n 1, 1) := by decide +kernel
theorem dcfi_9 : decode jdk_41_method_13_code 9 = .ok (.iload_n 2, 1) := by decide +kernel
theorem dcfi_10 : decode jdk_41_method_13_code 10 = .ok (.iload_n 0, 1) := by decide +kernel
theorem dcfi_11 : decode jdk_41_method_13_code 11 = .ok (.isub, 1) := by decide +kernel
theorem dcfi_12 : decode jdk_41_method_13_code 12 = .ok (.if_icmp .le 11, 3) := by decide +kernel
theorem dcfi_23 : decode jdk_41_method_13_code 23 = .ok (.iload_n 0, 1) := by decide +kernel
theorem dcfi_24 : decode jdk_41_method_13_code 24 = .ok (.ireturn, 1) := by decide +kernel
set_option maxRecDepth 65536 in
set_option maxHeartbeats 40000000 in
theorem c_cfi (l : Launch) (Z : State) (a0 : Array Value) (hw : ∀ d ∈ tables_1, d.before a0 Z = true) (fm : Value) (h0 : Heap) (n0 : Nat) (hfm : fm.isRef = true) :
    Con l Z consts_1 [] (⟨"jdk/internal/util/Preconditions", "checkFromIndexSize", "(IIILjava/util/function/BiFunction;)I"⟩ : MethodName) jdk_41_method_13_code 4 (some .int) ({ frames := 0, cells := 0, slots := 0, locals := 0 } : Room) #[(.int (0 : Int32)), (.int (26 : Int32)), (.int (34 : Int32)), fm] h0 n0 (fun v h _ => v = some (.int 0) ∧ h = h0) := by
  refine Con.of (plainFor_of_name (by first | (simp [plainName, overriddenIn]; done) | decide +kernel)) (elw hw) (L0 := #[.val (.int (0 : Int32)), .val (.int (26 : Int32)), .val (.int (34 : Int32)), .val fm]) (fun m => by first | (simp [entryFrame, mkF, argsToLocals, Value.category]; done) | rfl | (cases fm <;> first | rfl | (simp [Value.isRef] at hfm; done))) ?_
  intro p e s m below meth c T C S
  refine g_iloadN C S dcfi_0 (pc' := 1) rfl rfl ?_
  refine g_iloadN C S dcfi_1 (pc' := 2) rfl rfl ?_
  refine g_ior C S dcfi_2 (pc' := 3) rfl ?_
  refine g_iloadN C S dcfi_3 (pc' := 4) rfl rfl ?_
  refine g_ior C S dcfi_4 (pc' := 5) rfl ?_
  refine g_if_lt C S dcfi_5 (pc' := 15) (pf := 8) (by decide) (by decide) rfl (fun hc5 => absurd hc5 (by decide)) (fun hc5 => ?_)
  refine g_iloadN C S dcfi_8 (pc' := 9) rfl rfl ?_
  refine g_iloadN C S dcfi_9 (pc' := 10) rfl rfl ?_
  refine g_iloadN C S dcfi_10 (pc' := 11) rfl rfl ?_
  refine g_isub C S dcfi_11 (pc' := 12) rfl ?_
  refine g_icmp_le C S dcfi_12 (pc' := 23) (pf := 15) (by decide) (by decide) rfl (fun hc12 => ?_) (fun hc12 => absurd hc12 (by decide))
  refine g_iloadN C S dcfi_23 (pc' := 24) rfl rfl ?_
  exact g_retI C S dcfi_24 (by decide) (by decide) (⟨rfl, rfl⟩)
theorem pd_14 : parseMethodDescriptor "(IIILjava/util/function/BiFunction;)I" = some ⟨[.int, .int, .int, (.object "java/util/function/BiFunction")], some .int⟩ := by decide +kernel
theorem dcbo_0 : decode jdk_42_method_157_code 0 = .ok (.iload_n 0, 1) := by decide +kernel
theorem dcbo_1 : decode jdk_42_method_157_code 1 = .ok (.iload_n 1, 1) := by decide +kernel
theorem dcbo_2 : decode jdk_42_method_157_code 2 = .ok (.iload_n 2, 1) := by decide +kernel
theorem dcbo_3 : decode jdk_42_method_157_code 3 = .ok (.getstatic 1053, 3) := by decide +kernel
theorem dcbo_6 : decode jdk_42_method_157_code 6 = .ok (.invokestatic 1065, 3) := by decide +kernel
theorem dcbo_9 : decode jdk_42_method_157_code 9 = .ok (.ireturn, 1) := by decide +kernel
set_option maxRecDepth 65536 in
set_option maxHeartbeats 40000000 in
theorem c_cbo (l : Launch) (Z : State) (a0 : Array Value) (hw : ∀ d ∈ tables_1, d.before a0 Z = true)  (h0 : Heap) (n0 : Nat) (fm : Value) (hfm : fm.isRef = true) (S_SIOOBE_FORMATTER : Sta Z h0 "jdk/internal/util/Preconditions" "SIOOBE_FORMATTER" "Ljava/util/function/BiFunction;" fm) :
    Con l Z consts_1 [] (⟨"java/lang/String", "checkBoundsOffCount", "(III)I"⟩ : MethodName) jdk_42_method_157_code 3 (some .int) ({ frames := 1, cells := 0, slots := 0, locals := 15 } : Room) #[(.int (0 : Int32)), (.int (26 : Int32)), (.int (34 : Int32))] h0 n0 (fun v h _ => v = some (.int 0) ∧ h = h0) := by
  refine Con.of (plainFor_of_name (by first | (simp [plainName, overriddenIn]; done) | decide +kernel)) (elw hw) (L0 := #[.val (.int (0 : Int32)), .val (.int (26 : Int32)), .val (.int (34 : Int32))]) (fun m => by first | (simp [entryFrame, mkF, argsToLocals, Value.category]; done) | rfl) ?_
  intro p e s m below meth c T C S
  refine g_iloadN C S dcbo_0 (pc' := 1) rfl rfl ?_
  refine g_iloadN C S dcbo_1 (pc' := 2) rfl rfl ?_
  refine g_iloadN C S dcbo_2 (pc' := 3) rfl rfl ?_
  refine g_getS C S dcbo_3 (host := "") (Or.inl (hw _ (List.mem_of_getElem? (i := 52) rfl))) Via.refl S_SIOOBE_FORMATTER (pc' := 6) rfl (fun T93 S => ?_)
  refine g_callS C S (rm := ({ frames := 0, cells := 0, slots := 0, locals := 0 } : Room)) (W := 0) dcbo_6 (hw _ (List.mem_of_getElem? (i := 245) rfl)) (hw _ (List.mem_of_getElem? (i := 246) rfl)) (hw _ (List.mem_of_getElem? (i := 53) rfl)) (hw _ (List.mem_of_getElem? (i := 247) rfl)) (by decide) (c_cfi l Z a0 hw fm h0 n0 hfm) (argsL := [(.int (0 : Int32)), (.int (26 : Int32)), (.int (34 : Int32)), fm]) (r := []) rfl all0 (lenOf pd_14 rfl) rfl (Nat.le_of_eq rfl) (by decide) (by decide) (by decide) (by decide) (pc' := 9) rfl (fun T94 h94 v94 P94 q94 S => ?_)
  obtain ⟨rfl, e94⟩ := q94; rw [e94] at S
  show Gl p e below s Z consts_1 _ n0 _ T94 (mkF m 9 #[.val (.int (0 : Int32)), .val (.int (26 : Int32)), .val (.int (34 : Int32))] [(.int (0 : Int32))])
  exact g_retI C S dcbo_9 (by decide) (by decide) (⟨rfl, rfl⟩)
theorem pd_15 : parseMethodDescriptor "([B)I" = some ⟨[(.array .byte)], some .int⟩ := by decide +kernel
theorem dcb6_0 : decode jdk_52_method_94_code 0 = .ok (.iload_n 0, 1) := by decide +kernel
theorem dcb6_1 : decode jdk_52_method_94_code 1 = .ok (.iload_n 1, 1) := by decide +kernel
theorem dcb6_2 : decode jdk_52_method_94_code 2 = .ok (.aload_n 2, 1) := by decide +kernel
theorem dcb6_3 : decode jdk_52_method_94_code 3 = .ok (.invokestatic 48, 3) := by decide +kernel
theorem dcb6_6 : decode jdk_52_method_94_code 6 = .ok (.invokestatic 419, 3) := by decide +kernel
theorem dcb6_9 : decode jdk_52_method_94_code 9 = .ok (.pop, 1) := by decide +kernel
theorem dcb6_10 : decode jdk_52_method_94_code 10 = .ok (.return_, 1) := by decide +kernel
set_option maxRecDepth 65536 in
set_option maxHeartbeats 40000000 in
theorem c_cb6 (l : Launch) (Z : State) (a0 : Array Value) (hw : ∀ d ∈ tables_1, d.before a0 Z = true) (a3 : Addr) (h0 : Heap) (n0 : Nat) (f : Nat → Value) (fm : Value) (hfm : fm.isRef = true) (S_SIOOBE_FORMATTER : Sta Z h0 "jdk/internal/util/Preconditions" "SIOOBE_FORMATTER" "Ljava/util/function/BiFunction;" fm) (A_a3 : Ary Z h0 a3 .byte 68 f) :
    Con l Z consts_1 [] (⟨"java/lang/StringUTF16", "checkBoundsOffCount", "(II[B)V"⟩ : MethodName) jdk_52_method_94_code 3 none ({ frames := 2, cells := 0, slots := 0, locals := 29 } : Room) #[(.int (0 : Int32)), (.int (26 : Int32)), (.ref a3)] h0 n0 (fun v h _ => v = none ∧ h = h0) := by
  refine Con.of (plainFor_of_name (by first | (simp [plainName, overriddenIn]; done) | decide +kernel)) (elw hw) (L0 := #[.val (.int (0 : Int32)), .val (.int (26 : Int32)), .val (.ref a3)]) (fun m => by first | (simp [entryFrame, mkF, argsToLocals, Value.category]; done) | rfl) ?_
  intro p e s m below meth c T C S
  refine g_iloadN C S dcb6_0 (pc' := 1) rfl rfl ?_
  refine g_iloadN C S dcb6_1 (pc' := 2) rfl rfl ?_
  refine g_aloadN C S dcb6_2 (pc' := 3) rfl rfl rfl ?_
  refine g_callS C S (rm := ({ frames := 0, cells := 0, slots := 0, locals := 0 } : Room)) (W := 2) dcb6_3 (hw _ (List.mem_of_getElem? (i := 239) rfl)) (hw _ (List.mem_of_getElem? (i := 240) rfl)) (hw _ (List.mem_of_getElem? (i := 59) rfl)) (hw _ (List.mem_of_getElem? (i := 241) rfl)) (by decide) (c_l16 l Z a0 hw a3 h0 n0 _ A_a3) (argsL := [(.ref a3)]) (r := [(.int (26 : Int32)), (.int (0 : Int32))]) rfl all0 (lenOf pd_15 rfl) rfl (Nat.le_of_eq rfl) (by decide) (by decide) (by decide) (by decide) (pc' := 6) rfl (fun T95 h95 v95 P95 q95 S => ?_)
  obtain ⟨rfl, e95⟩ := q95; rw [e95] at S
  show Gl p e below s Z consts_1 _ n0 _ T95 (mkF m 6 #[.val (.int (0 : Int32)), .val (.int (26 : Int32)), .val (.ref a3)] [(.int (34 : Int32)), (.int (26 : Int32)), (.int (0 : Int32))])
  refine g_callS C S (rm := ({ frames := 1, cells := 0, slots := 0, locals := 15 } : Room)) (W := 0) dcb6_6 (hw _ (List.mem_of_getElem? (i := 242) rfl)) (hw _ (List.mem_of_getElem? (i := 243) rfl)) (hw _ (List.mem_of_getElem? (i := 4) rfl)) (hw _ (List.mem_of_getElem? (i := 244) rfl)) (by decide) (c_cbo l Z a0 hw h0 n0 fm hfm S_SIOOBE_FORMATTER) (argsL := [(.int (0 : Int32)), (.int (26 : Int32)), (.int (34 : Int32))]) (r := []) rfl all0 (lenOf pd_12 rfl) rfl (Nat.le_of_eq rfl) (by decide) (by decide) (by decide) (by decide) (pc' := 9) rfl (fun T96 h96 v96 P96 q96 S => ?_)
  obtain ⟨rfl, e96⟩ := q96; rw [e96] at S
  show Gl p e below s Z consts_1 _ n0 _ T96 (mkF m 9 #[.val (.int (0 : Int32)), .val (.int (26 : Int32)), .val (.ref a3)] [(.int (0 : Int32))])
  refine g_pop C S dcb6_9 (pc' := 10) rfl rfl ?_
  exact g_return C S dcb6_10 (by decide) (by decide) (⟨rfl, rfl⟩)
theorem pd_16 : parseMethodDescriptor "(II[B)V" = some ⟨[.int, .int, (.array .byte)], none⟩ := by decide +kernel
theorem df6_0 : decode jdk_52_method_86_code 0 = .ok (.iload_n 3, 1) := by decide +kernel
theorem df6_1 : decode jdk_52_method_86_code 1 = .ok (.iload 4, 2) := by decide +kernel
theorem df6_3 : decode jdk_52_method_86_code 3 = .ok (.aload_n 2, 1) := by decide +kernel
theorem df6_4 : decode jdk_52_method_86_code 4 = .ok (.invokestatic 173, 3) := by decide +kernel
theorem df6_7 : decode jdk_52_method_86_code 7 = .ok (.iconst 0, 1) := by decide +kernel
theorem df6_8 : decode jdk_52_method_86_code 8 = .ok (.istore 5, 2) := by decide +kernel
theorem df6_10 : decode jdk_52_method_86_code 10 = .ok (.iload 5, 2) := by decide +kernel
theorem df6_12 : decode jdk_52_method_86_code 12 = .ok (.iload 4, 2) := by decide +kernel
theorem df6_14 : decode jdk_52_method_86_code 14 = .ok (.if_icmp .ge 27, 3) := by decide +kernel
theorem df6_17 : decode jdk_52_method_86_code 17 = .ok (.aload_n 2, 1) := by decide +kernel
theorem df6_18 : decode jdk_52_method_86_code 18 = .ok (.iload_n 3, 1) := by decide +kernel
theorem df6_19 : decode jdk_52_method_86_code 19 = .ok (.iinc 3 1, 3) := by decide +kernel
theorem df6_22 : decode jdk_52_method_86_code 22 = .ok (.aload_n 0, 1) := by decide +kernel
theorem df6_23 : decode jdk_52_method_86_code 23 = .ok (.iload_n 1, 1) := by decide +kernel
theorem df6_24 : decode jdk_52_method_86_code 24 = .ok (.iinc 1 1, 3) := by decide +kernel
theorem df6_27 : decode jdk_52_method_86_code 27 = .ok (.baload, 1) := by decide +kernel
theorem df6_28 : decode jdk_52_method_86_code 28 = .ok (.sipush 255, 3) := by decide +kernel
theorem df6_31 : decode jdk_52_method_86_code 31 = .ok (.iand, 1) := by decide +kernel
theorem df6_32 : decode jdk_52_method_86_code 32 = .ok (.invokestatic 111, 3) := by decide +kernel
theorem df6_35 : decode jdk_52_method_86_code 35 = .ok (.iinc 5 1, 3) := by decide +kernel
theorem df6_38 : decode jdk_52_method_86_code 38 = .ok (.goto (-28), 3) := by decide +kernel
theorem df6_41 : decode jdk_52_method_86_code 41 = .ok (.return_, 1) := by decide +kernel
set_option maxRecDepth 65536 in
set_option maxHeartbeats 40000000 in
theorem c_f6 (l : Launch) (Z : State) (a0 : Array Value) (hw : ∀ d ∈ tables_1, d.before a0 Z = true) (a1 : Addr) (a3 : Addr) (h0 : Heap) (n0 : Nat) (g : Nat → Int32) (ga : n0 ≤ a3) (ne : a1 ≠ a3) (S_assertionsDisabled : Sta Z h0 "java/lang/StringUTF16" "$assertionsDisabled" "Z" (.int (1 : Int32))) (S_HI_BYTE_SHIFT : Sta Z h0 "java/lang/StringUTF16" "HI_BYTE_SHIFT" "I" (.int (0 : Int32))) (S_LO_BYTE_SHIFT : Sta Z h0 "java/lang/StringUTF16" "LO_BYTE_SHIFT" "I" (.int (8 : Int32))) (fm : Value) (hfm : fm.isRef = true) (S_SIOOBE_FORMATTER : Sta Z h0 "jdk/internal/util/Preconditions" "SIOOBE_FORMATTER" "Ljava/util/function/BiFunction;" fm) (A_a1 : Ary Z h0 a1 .byte 34 (fun q => .int (g q))) (A_a3 : Ary Z h0 a3 .byte 68 (fun _ => .int (0 : Int32))) :
    Con l Z consts_1 [a3] (⟨"java/lang/StringUTF16", "inflate", "([BI[BII)V"⟩ : MethodName) jdk_52_method_86_code 6 none ({ frames := 3, cells := 0, slots := 0, locals := 43 } : Room) #[(.ref a1), (.int (0 : Int32)), (.ref a3), (.int (0 : Int32)), (.int (26 : Int32))] h0 n0 (fun v h _ => v = none ∧ Keep h0 h [a3] ∧ Ary Z h a3 .byte 68 (fun q => .int (if q < 52 then ub (lw g) q else 0))) := by
  refine Con.of (plainFor_of_name (by first | (simp [plainName, overriddenIn]; done) | decide +kernel)) (elw hw) (L0 := #[.val (.ref a1), .val (.int (0 : Int32)), .val (.ref a3), .val (.int (0 : Int32)), .val (.int (26 : Int32)), .unset]) (fun m => by first | (simp [entryFrame, mkF, argsToLocals, Value.category]; done) | rfl) ?_
  intro p e s m below meth c T C S
  have pm_a3 : a3 ∈ [a3] := List.mem_of_getElem? (i := 0) rfl
  refine g_iloadN C S df6_0 (pc' := 1) rfl rfl ?_
  refine g_iload C S df6_1 (pc' := 3) rfl rfl ?_
  refine g_aloadN C S df6_3 (pc' := 4) rfl rfl rfl ?_
  refine g_callS C S (rm := ({ frames := 2, cells := 0, slots := 0, locals := 29 } : Room)) (W := 0) df6_4 (hw _ (List.mem_of_getElem? (i := 236) rfl)) (hw _ (List.mem_of_getElem? (i := 237) rfl)) (hw _ (List.mem_of_getElem? (i := 59) rfl)) (hw _ (List.mem_of_getElem? (i := 238) rfl)) (by decide) (c_cb6 l Z a0 hw a3 h0 n0 _ fm hfm S_SIOOBE_FORMATTER A_a3) (argsL := [(.int (0 : Int32)), (.int (26 : Int32)), (.ref a3)]) (r := []) rfl all0 (lenOf pd_16 rfl) rfl (Nat.le_of_eq rfl) (by decide) (by decide) (by decide) (by decide) (pc' := 7) rfl (fun T97 h97 v97 P97 q97 S => ?_)
  have pm_a3 := List.mem_append_right P97 pm_a3
  obtain ⟨rfl, e97⟩ := q97; rw [e97] at S
  show Gl p e below s Z consts_1 _ n0 _ T97 (mkF m 7 #[.val (.ref a1), .val (.int (0 : Int32)), .val (.ref a3), .val (.int (0 : Int32)), .val (.int (26 : Int32)), .unset] [])
  refine g_iconst C S (0 : Int32) df6_7 (pc' := 8) rfl rfl ?_
  refine g_istore C S df6_8 (pc' := 10) rfl (L' := #[.val (.ref a1), .val (.int (0 : Int32)), .val (.ref a3), .val (.int (0 : Int32)), .val (.int (26 : Int32)), .val (.int (0 : Int32))]) rfl ?_
  have LP : ∀ (d : Nat) (i : Nat), i + d = 26 → ∀ (T : State) (h : Heap) (PS : List Addr), On p l e ({ frames := 3, cells := 0, slots := 0, locals := 43 } : Room) s m #[(.ref a1), (.int (0 : Int32)), (.ref a3), (.int (0 : Int32)), (.int (26 : Int32))] below meth c Z consts_1 "java/lang/StringUTF16" n0 T h PS 0 0 → a3 ∈ PS → Ary Z h a1 .byte 34 (fun q => .int (g q)) → Ary Z h a3 .byte 68 (fun q => if q < 2 * i then .int (ub (lw g) q) else .int 0) → Sta Z h "java/lang/StringUTF16" "$assertionsDisabled" "Z" (.int (1 : Int32)) → Sta Z h "java/lang/StringUTF16" "HI_BYTE_SHIFT" "I" (.int (0 : Int32)) → Sta Z h "java/lang/StringUTF16" "LO_BYTE_SHIFT" "I" (.int (8 : Int32)) → Keep h0 h [a3] → Gl p e below s Z consts_1 ({ frames := 3, cells := 0, slots := 0, locals := 43 } : Room) n0 (fun v h _ => v = none ∧ Keep h0 h [a3] ∧ Ary Z h a3 .byte 68 (fun q => .int (if q < 52 then ub (lw g) q else 0))) T (mkF m 10 #[.val (.ref a1), .val (.int (Int32.ofNat i)), .val (.ref a3), .val (.int (Int32.ofNat i)), .val (.int (26 : Int32)), .val (.int (Int32.ofNat i))] []) := by
    intro d
    induction d with
    | zero =>
      intro i hd T h PS S pm_a3 A_a1 A_a3 S_assertionsDisabled S_HI_BYTE_SHIFT S_LO_BYTE_SHIFT Kp
      refine g_iload C S df6_10 (pc' := 12) rfl rfl ?_
      refine g_iload C S df6_12 (pc' := 14) rfl rfl ?_
      refine g_icmp_ge C S df6_14 (pc' := 41) (pf := 17) (by decide) (by decide) rfl (fun hc14 => ?_) (fun hc14 => absurd hc14 (by rw [lt26 (by omega)]; omega))
      exact g_return C S df6_41 (by decide) (by decide) (⟨rfl, Kp, A_a3.cg fun q hq => by rw [show i = 26 by omega]; by_cases u : q < 52 <;> simp [u]⟩)
    | succ d ih =>
      intro i hd T h PS S pm_a3 A_a1 A_a3 S_assertionsDisabled S_HI_BYTE_SHIFT S_LO_BYTE_SHIFT Kp
      refine g_iload C S df6_10 (pc' := 12) rfl rfl ?_
      refine g_iload C S df6_12 (pc' := 14) rfl rfl ?_
      refine g_icmp_ge C S df6_14 (pc' := 41) (pf := 17) (by decide) (by decide) rfl (fun hc14 => absurd ((lt26 (by omega)).mpr (by omega)) hc14) (fun hc14 => ?_)
      refine g_aloadN C S df6_17 (pc' := 18) rfl rfl rfl ?_
      refine g_iloadN C S df6_18 (pc' := 19) rfl rfl ?_
      refine g_iinc C S (1 : Int32) df6_19 (pc' := 22) rfl rfl rfl (L' := #[.val (.ref a1), .val (.int (Int32.ofNat i)), .val (.ref a3), .val (.int ((Int32.ofNat i) + (1 : Int32))), .val (.int (26 : Int32)), .val (.int (Int32.ofNat i))]) rfl ?_
      refine g_aloadN C S df6_22 (pc' := 23) rfl rfl rfl ?_
      refine g_iloadN C S df6_23 (pc' := 24) rfl rfl ?_
      refine g_iinc C S (1 : Int32) df6_24 (pc' := 27) rfl rfl rfl (L' := #[.val (.ref a1), .val (.int ((Int32.ofNat i) + (1 : Int32))), .val (.ref a3), .val (.int ((Int32.ofNat i) + (1 : Int32))), .val (.int (26 : Int32)), .val (.int (Int32.ofNat i))]) rfl ?_
      refine g_baloadB C S (i := i) (v := (.int (g i))) df6_27 A_a1 (o32 (by omega)) (by omega) rfl (pc' := 28) rfl ?_
      refine g_sipush C S (255 : Int32) df6_28 (pc' := 31) rfl rfl ?_
      refine g_iand C S df6_31 (pc' := 32) rfl ?_
      refine g_callS C S (rm := ({ frames := 0, cells := 0, slots := 0, locals := 0 } : Room)) (W := 0) df6_32 (hw _ (List.mem_of_getElem? (i := 214) rfl)) (hw _ (List.mem_of_getElem? (i := 215) rfl)) (hw _ (List.mem_of_getElem? (i := 59) rfl)) (hw _ (List.mem_of_getElem? (i := 216) rfl)) (by decide) (c_put l Z a0 hw a3 (g i &&& 255) h n0 68 i _ (by omega) (by omega) ga S_assertionsDisabled S_HI_BYTE_SHIFT S_LO_BYTE_SHIFT A_a3) (argsL := [(.ref a3), (.int (Int32.ofNat i)), (.int ((g i) &&& (255 : Int32)))]) (r := []) rfl (allS pm_a3 all0) (lenOf pd_2 rfl) rfl (Nat.le_of_eq rfl) (by decide) (by decide) (by decide) (by decide) (pc' := 35) rfl (fun T98 h98 v98 P98 q98 S => ?_)
      have pm_a3 := List.mem_append_right P98 pm_a3
      obtain ⟨rfl, K98, B98⟩ := q98
      have Kp := Kp.trans K98 (allS (Or.inl (List.mem_of_getElem? (i := 0) rfl)) all0)
      have S_assertionsDisabled := Sta.keep1 S_assertionsDisabled K98 (Ary.nostat A_a3)
      have S_HI_BYTE_SHIFT := Sta.keep1 S_HI_BYTE_SHIFT K98 (Ary.nostat A_a3)
      have S_LO_BYTE_SHIFT := Sta.keep1 S_LO_BYTE_SHIFT K98 (Ary.nostat A_a3)
      have A_a1 := A_a1.keep K98 (ninS ne nin0)
      have A_a3 := B98
      show Gl p e below s Z consts_1 _ n0 _ T98 (mkF m 35 #[.val (.ref a1), .val (.int ((Int32.ofNat i) + (1 : Int32))), .val (.ref a3), .val (.int ((Int32.ofNat i) + (1 : Int32))), .val (.int (26 : Int32)), .val (.int (Int32.ofNat i))] [])
      refine g_iinc C S (1 : Int32) df6_35 (pc' := 38) rfl rfl rfl (L' := #[.val (.ref a1), .val (.int ((Int32.ofNat i) + (1 : Int32))), .val (.ref a3), .val (.int ((Int32.ofNat i) + (1 : Int32))), .val (.int (26 : Int32)), .val (.int ((Int32.ofNat i) + (1 : Int32)))]) rfl ?_
      refine g_goto C S df6_38 (pc' := 10) (by decide) (by decide) ?_
      rw [o32_succ]
      exact ih (i + 1) (by omega) _ _ _ S pm_a3 A_a1 (A_a3.cg (tob_set (cf := lw g) 68 i)) S_assertionsDisabled S_HI_BYTE_SHIFT S_LO_BYTE_SHIFT Kp
  exact LP 26 0 (by omega) _ _ _ S pm_a3 A_a1 (A_a3.cg fun q hq => (if_neg (Nat.not_lt_zero q)).symm) S_assertionsDisabled S_HI_BYTE_SHIFT S_LO_BYTE_SHIFT (Keep.refl _ _)
theorem pd_17 : parseMethodDescriptor "([BI[BII)V" = some ⟨[(.array .byte), .int, (.array .byte), .int, .int], none⟩ := by decide +kernel
theorem dli_0 : decode jdk_43_method_50_code 0 = .ok (.aload_n 0, 1) := by decide +kernel
theorem dli_1 : decode jdk_43_method_50_code 1 = .ok (.iload_n 1, 1) := by decide +kernel
theorem dli_2 : decode jdk_43_method_50_code 2 = .ok (.aload_n 2, 1) := by decide +kernel
theorem dli_3 : decode jdk_43_method_50_code 3 = .ok (.iload_n 3, 1) := by decide +kernel
theorem dli_4 : decode jdk_43_method_50_code 4 = .ok (.iload 4, 2) := by decide +kernel
theorem dli_6 : decode jdk_43_method_50_code 6 = .ok (.invokestatic 240, 3) := by decide +kernel
theorem dli_9 : decode jdk_43_method_50_code 9 = .ok (.return_, 1) := by decide +kernel
set_option maxRecDepth 65536 in
set_option maxHeartbeats 40000000 in
theorem c_li (l : Launch) (Z : State) (a0 : Array Value) (hw : ∀ d ∈ tables_1, d.before a0 Z = true) (a1 : Addr) (a3 : Addr) (h0 : Heap) (n0 : Nat) (g : Nat → Int32) (ga : n0 ≤ a3) (ne : a1 ≠ a3) (S_assertionsDisabled : Sta Z h0 "java/lang/StringUTF16" "$assertionsDisabled" "Z" (.int (1 : Int32))) (S_HI_BYTE_SHIFT : Sta Z h0 "java/lang/StringUTF16" "HI_BYTE_SHIFT" "I" (.int (0 : Int32))) (S_LO_BYTE_SHIFT : Sta Z h0 "java/lang/StringUTF16" "LO_BYTE_SHIFT" "I" (.int (8 : Int32))) (fm : Value) (hfm : fm.isRef = true) (S_SIOOBE_FORMATTER : Sta Z h0 "jdk/internal/util/Preconditions" "SIOOBE_FORMATTER" "Ljava/util/function/BiFunction;" fm) (A_a1 : Ary Z h0 a1 .byte 34 (fun q => .int (g q))) (A_a3 : Ary Z h0 a3 .byte 68 (fun _ => .int (0 : Int32))) :
    Con l Z consts_1 [a3] (⟨"java/lang/StringLatin1", "inflate", "([BI[BII)V"⟩ : MethodName) jdk_43_method_50_code 5 none ({ frames := 4, cells := 0, slots := 0, locals := 60 } : Room) #[(.ref a1), (.int (0 : Int32)), (.ref a3), (.int (0 : Int32)), (.int (26 : Int32))] h0 n0 (fun v h _ => v = none ∧ Keep h0 h [a3] ∧ Ary Z h a3 .byte 68 (fun q => .int (if q < 52 then ub (lw g) q else 0))) := by
  refine Con.of (plainFor_of_name (by first | (simp [plainName, overriddenIn]; done) | decide +kernel)) (elw hw) (L0 := #[.val (.ref a1), .val (.int (0 : Int32)), .val (.ref a3), .val (.int (0 : Int32)), .val (.int (26 : Int32))]) (fun m => by first | (simp [entryFrame, mkF, argsToLocals, Value.category]; done) | rfl) ?_
  intro p e s m below meth c T C S
  have pm_a3 : a3 ∈ [a3] := List.mem_of_getElem? (i := 0) rfl
  refine g_aloadN C S dli_0 (pc' := 1) rfl rfl rfl ?_
  refine g_iloadN C S dli_1 (pc' := 2) rfl rfl ?_
  refine g_aloadN C S dli_2 (pc' := 3) rfl rfl rfl ?_
  refine g_iloadN C S dli_3 (pc' := 4) rfl rfl ?_
  refine g_iload C S dli_4 (pc' := 6) rfl rfl ?_
  refine g_callS C S (rm := ({ frames := 3, cells := 0, slots := 0, locals := 43 } : Room)) (W := 0) dli_6 (hw _ (List.mem_of_getElem? (i := 233) rfl)) (hw _ (List.mem_of_getElem? (i := 234) rfl)) (hw _ (List.mem_of_getElem? (i := 59) rfl)) (hw _ (List.mem_of_getElem? (i := 235) rfl)) (by decide) (c_f6 l Z a0 hw a1 a3 h0 n0 g ga ne S_assertionsDisabled S_HI_BYTE_SHIFT S_LO_BYTE_SHIFT fm hfm S_SIOOBE_FORMATTER A_a1 A_a3) (argsL := [(.ref a1), (.int (0 : Int32)), (.ref a3), (.int (0 : Int32)), (.int (26 : Int32))]) (r := []) rfl (allS pm_a3 all0) (lenOf pd_17 rfl) rfl (Nat.le_of_eq rfl) (by decide) (by decide) (by decide) (by decide) (pc' := 9) rfl (fun T99 h99 v99 P99 q99 S => ?_)
  have pm_a3 := List.mem_append_right P99 pm_a3
  obtain ⟨rfl, q99⟩ := q99
  show Gl p e below s Z consts_1 _ n0 _ T99 (mkF m 9 #[.val (.ref a1), .val (.int (0 : Int32)), .val (.ref a3), .val (.int (0 : Int32)), .val (.int (26 : Int32))] [])
  exact g_return C S dli_9 (by decide) (by decide) (⟨rfl, q99⟩)
theorem dbl_0 : decode jdk_68_method_68_code 0 = .ok (.getstatic 18, 3) := by decide +kernel
theorem dbl_3 : decode jdk_68_method_68_code 3 = .ok (.ifCond .eq 14, 3) := by decide +kernel
theorem dbl_6 : decode jdk_68_method_68_code 6 = .ok (.aload_n 0, 1) := by decide +kernel
theorem dbl_7 : decode jdk_68_method_68_code 7 = .ok (.getfield 22, 3) := by decide +kernel
theorem dbl_10 : decode jdk_68_method_68_code 10 = .ok (.ifCond .ne 7, 3) := by decide +kernel
theorem dbl_13 : decode jdk_68_method_68_code 13 = .ok (.iconst 1, 1) := by decide +kernel
theorem dbl_14 : decode jdk_68_method_68_code 14 = .ok (.goto 4, 3) := by decide +kernel
theorem dbl_18 : decode jdk_68_method_68_code 18 = .ok (.ireturn, 1) := by decide +kernel
set_option maxRecDepth 65536 in
set_option maxHeartbeats 40000000 in
theorem c_bl0 (l : Launch) (Z : State) (a0 : Array Value) (hw : ∀ d ∈ tables_1, d.before a0 Z = true) (a1 : Addr) (h0 : Heap) (n0 : Nat) (cs : Int32) (hcs : ¬ cs = 0) (S_COMPACT_STRINGS : Sta Z h0 "java/lang/String" "COMPACT_STRINGS" "Z" (.int cs)) (F_coder_a1 : Fld Z h0 a1 "java/lang/AbstractStringBuilder" "coder" "B" (.int (0 : Int32))) :
    Con l Z consts_1 [] (⟨"java/lang/AbstractStringBuilder", "isLatin1", "()Z"⟩ : MethodName) jdk_68_method_68_code 1 (some .boolean) ({ frames := 0, cells := 0, slots := 0, locals := 0 } : Room) #[(.ref a1)] h0 n0 (fun v h _ => v = some (.int 1) ∧ h = h0) := by
  refine Con.of (plainFor_of_name (by first | (simp [plainName, overriddenIn]; done) | decide +kernel)) (elw hw) (L0 := #[.val (.ref a1)]) (fun m => by first | (simp [entryFrame, mkF, argsToLocals, Value.category]; done) | rfl) ?_
  intro p e s m below meth c T C S
  refine g_getS C S dbl_0 (host := "") (Or.inl (hw _ (List.mem_of_getElem? (i := 89) rfl))) Via.refl S_COMPACT_STRINGS (pc' := 3) rfl (fun T100 S => ?_)
  refine g_if_eq C S dbl_3 (pc' := 17) (pf := 6) (by decide) (by decide) rfl (fun hc3 => absurd hc3 hcs) (fun hc3 => ?_)
  refine g_aloadN C S dbl_6 (pc' := 7) rfl rfl rfl ?_
  refine g_getF C S dbl_7 (host := "") (Or.inl (hw _ (List.mem_of_getElem? (i := 92) rfl))) Via.refl F_coder_a1 (pc' := 10) rfl (fun T101 S => ?_)
  refine g_if_ne C S dbl_10 (pc' := 17) (pf := 13) (by decide) (by decide) rfl (fun hc10 => absurd rfl hc10) (fun hc10 => ?_)
  refine g_iconst C S (1 : Int32) dbl_13 (pc' := 14) rfl rfl ?_
  refine g_goto C S dbl_14 (pc' := 18) (by decide) (by decide) ?_
  exact g_retZ C S dbl_18 (by decide) (by decide) (by decide) (⟨rfl, rfl⟩)
theorem dbl_17 : decode jdk_68_method_68_code 17 = .ok (.iconst 0, 1) := by decide +kernel
set_option maxRecDepth 65536 in
set_option maxHeartbeats 40000000 in
theorem c_bl1 (l : Launch) (Z : State) (a0 : Array Value) (hw : ∀ d ∈ tables_1, d.before a0 Z = true) (a1 : Addr) (h0 : Heap) (n0 : Nat) (cs : Int32) (hcs : ¬ cs = 0) (S_COMPACT_STRINGS : Sta Z h0 "java/lang/String" "COMPACT_STRINGS" "Z" (.int cs)) (F_coder_a1 : Fld Z h0 a1 "java/lang/AbstractStringBuilder" "coder" "B" (.int (1 : Int32))) :
    Con l Z consts_1 [] (⟨"java/lang/AbstractStringBuilder", "isLatin1", "()Z"⟩ : MethodName) jdk_68_method_68_code 1 (some .boolean) ({ frames := 0, cells := 0, slots := 0, locals := 0 } : Room) #[(.ref a1)] h0 n0 (fun v h _ => v = some (.int 0) ∧ h = h0) := by
  refine Con.of (plainFor_of_name (by first | (simp [plainName, overriddenIn]; done) | decide +kernel)) (elw hw) (L0 := #[.val (.ref a1)]) (fun m => by first | (simp [entryFrame, mkF, argsToLocals, Value.category]; done) | rfl) ?_
  intro p e s m below meth c T C S
  refine g_getS C S dbl_0 (host := "") (Or.inl (hw _ (List.mem_of_getElem? (i := 89) rfl))) Via.refl S_COMPACT_STRINGS (pc' := 3) rfl (fun T102 S => ?_)
  refine g_if_eq C S dbl_3 (pc' := 17) (pf := 6) (by decide) (by decide) rfl (fun hc3 => absurd hc3 hcs) (fun hc3 => ?_)
  refine g_aloadN C S dbl_6 (pc' := 7) rfl rfl rfl ?_
  refine g_getF C S dbl_7 (host := "") (Or.inl (hw _ (List.mem_of_getElem? (i := 92) rfl))) Via.refl F_coder_a1 (pc' := 10) rfl (fun T103 S => ?_)
  refine g_if_ne C S dbl_10 (pc' := 17) (pf := 13) (by decide) (by decide) rfl (fun hc10 => ?_) (fun hc10 => absurd hc10 (by decide))
  refine g_iconst C S (0 : Int32) dbl_17 (pc' := 18) rfl rfl ?_
  exact g_retZ C S dbl_18 (by decide) (by decide) (by decide) (⟨rfl, rfl⟩)
theorem pd_18 : parseMethodDescriptor "()Z" = some ⟨[], some .boolean⟩ := by decide +kernel
theorem dfl_0 : decode jdk_68_method_11_code 0 = .ok (.aload_n 0, 1) := by decide +kernel
theorem dfl_1 : decode jdk_68_method_11_code 1 = .ok (.invokevirtual 83, 3) := by decide +kernel
theorem dfl_4 : decode jdk_68_method_11_code 4 = .ok (.ifCond .ne 4, 3) := by decide +kernel
theorem dfl_8 : decode jdk_68_method_11_code 8 = .ok (.aload_n 0, 1) := by decide +kernel
theorem dfl_9 : decode jdk_68_method_11_code 9 = .ok (.getfield 15, 3) := by decide +kernel
theorem dfl_12 : decode jdk_68_method_11_code 12 = .ok (.arraylength, 1) := by decide +kernel
theorem dfl_13 : decode jdk_68_method_11_code 13 = .ok (.invokestatic 26, 3) := by decide +kernel
theorem dfl_16 : decode jdk_68_method_11_code 16 = .ok (.astore_n 1, 1) := by decide +kernel
theorem dfl_17 : decode jdk_68_method_11_code 17 = .ok (.aload_n 0, 1) := by decide +kernel
theorem dfl_18 : decode jdk_68_method_11_code 18 = .ok (.getfield 15, 3) := by decide +kernel
theorem dfl_21 : decode jdk_68_method_11_code 21 = .ok (.iconst 0, 1) := by decide +kernel
theorem dfl_22 : decode jdk_68_method_11_code 22 = .ok (.aload_n 1, 1) := by decide +kernel
theorem dfl_23 : decode jdk_68_method_11_code 23 = .ok (.iconst 0, 1) := by decide +kernel
theorem dfl_24 : decode jdk_68_method_11_code 24 = .ok (.aload_n 0, 1) := by decide +kernel
theorem dfl_25 : decode jdk_68_method_11_code 25 = .ok (.getfield 79, 3) := by decide +kernel
theorem dfl_28 : decode jdk_68_method_11_code 28 = .ok (.invokestatic 125, 3) := by decide +kernel
theorem dfl_31 : decode jdk_68_method_11_code 31 = .ok (.aload_n 0, 1) := by decide +kernel
theorem dfl_32 : decode jdk_68_method_11_code 32 = .ok (.aload_n 1, 1) := by decide +kernel
theorem dfl_33 : decode jdk_68_method_11_code 33 = .ok (.putfield 15, 3) := by decide +kernel
theorem dfl_36 : decode jdk_68_method_11_code 36 = .ok (.aload_n 0, 1) := by decide +kernel
theorem dfl_37 : decode jdk_68_method_11_code 37 = .ok (.iconst 1, 1) := by decide +kernel
theorem dfl_38 : decode jdk_68_method_11_code 38 = .ok (.putfield 22, 3) := by decide +kernel
theorem dfl_41 : decode jdk_68_method_11_code 41 = .ok (.return_, 1) := by decide +kernel
set_option maxRecDepth 65536 in
set_option maxHeartbeats 40000000 in
theorem c_fl (l : Launch) (Z : State) (a0 : Array Value) (hw : ∀ d ∈ tables_1, d.before a0 Z = true) (a1 : Addr) (h0 : Heap) (n0 : Nat) (b1 : Addr) (g : Nat → Int32) (ga : n0 ≤ a1) (ne : a1 ≠ b1) (Zn : n0 ≤ h0.size) (cs : Int32) (hcs : ¬ cs = 0) (S_COMPACT_STRINGS : Sta Z h0 "java/lang/String" "COMPACT_STRINGS" "Z" (.int cs)) (S_assertionsDisabled : Sta Z h0 "java/lang/StringUTF16" "$assertionsDisabled" "Z" (.int (1 : Int32))) (S_HI_BYTE_SHIFT : Sta Z h0 "java/lang/StringUTF16" "HI_BYTE_SHIFT" "I" (.int (0 : Int32))) (S_LO_BYTE_SHIFT : Sta Z h0 "java/lang/StringUTF16" "LO_BYTE_SHIFT" "I" (.int (8 : Int32))) (fm : Value) (hfm : fm.isRef = true) (S_SIOOBE_FORMATTER : Sta Z h0 "jdk/internal/util/Preconditions" "SIOOBE_FORMATTER" "Ljava/util/function/BiFunction;" fm) (X_a1 : Exa Z h0 a1 "java/lang/StringBuilder") (F_value_a1 : Fld Z h0 a1 "java/lang/AbstractStringBuilder" "value" "[B" (.ref b1)) (F_coder_a1 : Fld Z h0 a1 "java/lang/AbstractStringBuilder" "coder" "B" (.int (0 : Int32))) (F_count_a1 : Fld Z h0 a1 "java/lang/AbstractStringBuilder" "count" "I" (.int (26 : Int32))) (F_maybeLatin1_a1 : Fld Z h0 a1 "java/lang/AbstractStringBuilder" "maybeLatin1" "Z" (.int (0 : Int32))) (A_b1 : Ary Z h0 b1 .byte 34 (fun q => .int (g q))) :
    Con l Z consts_1 [] (⟨"java/lang/AbstractStringBuilder", "inflate", "()V"⟩ : MethodName) jdk_68_method_11_code 2 none ({ frames := 5, cells := 1, slots := 80, locals := 76 } : Room) #[(.ref a1)] h0 n0 (fun v h P => v = none ∧ Keep h0 h [a1] ∧ ∃ b, b ∈ P ∧ n0 ≤ b ∧ h0.size ≤ b ∧ (Exa Z h a1 "java/lang/StringBuilder" ∧ Fld Z h a1 "java/lang/AbstractStringBuilder" "value" "[B" (.ref b) ∧ Fld Z h a1 "java/lang/AbstractStringBuilder" "coder" "B" (.int (1 : Int32)) ∧ Fld Z h a1 "java/lang/AbstractStringBuilder" "count" "I" (.int (26 : Int32)) ∧ Fld Z h a1 "java/lang/AbstractStringBuilder" "maybeLatin1" "Z" (.int (0 : Int32))) ∧ Ary Z h b .byte 68 (fun q => .int (if q < 52 then ub (lw g) q else 0))) := by
  refine Con.of (plainFor_of_name (by first | (simp [plainName, overriddenIn]; done) | decide +kernel)) (elw hw) (L0 := #[.val (.ref a1), .unset]) (fun m => by first | (simp [entryFrame, mkF, argsToLocals, Value.category]; done) | rfl) ?_
  intro p e s m below meth c T C S
  have Kp := Keep.refl h0 [a1]
  refine g_aloadN C S dfl_0 (pc' := 1) rfl rfl rfl ?_
  refine g_callW C S (rm := ({ frames := 0, cells := 0, slots := 0, locals := 0 } : Room)) (W := 0) dfl_1 (hw _ (List.mem_of_getElem? (i := 228) rfl)) (hw _ (List.mem_of_getElem? (i := 182) rfl)) (fun _ hZ => (notFace_other (y := (⟨"java/lang/AbstractStringBuilder", "ensureCapacityInternal", "(I)V"⟩ : MethodName)) (args := #[]) rfl (notFace_of_selects (args := #[]) (mvT hZ (hw _ (List.mem_of_getElem? (i := 111) rfl)))) (mvT hZ (hw _ (List.mem_of_getElem? (i := 109) rfl))))) (hw _ (List.mem_of_getElem? (i := 184) rfl)) (hw _ (List.mem_of_getElem? (i := 183) rfl)) (hw _ (List.mem_of_getElem? (i := 86) rfl)) (hw _ (List.mem_of_getElem? (i := 185) rfl)) (by decide) X_a1 (c_bl0 l Z a0 hw a1 h0 n0 cs hcs S_COMPACT_STRINGS F_coder_a1) (argsL := []) (r := []) rfl all0 (lenOf pd_18 rfl) rfl (Nat.le_of_eq rfl) (by decide) (by decide) (by decide) (by decide) (pc' := 4) rfl (fun T104 h104 v104 P104 q104 S => ?_)
  obtain ⟨rfl, e104⟩ := q104; rw [e104] at S
  show Gl p e below s Z consts_1 _ n0 _ T104 (mkF m 4 #[.val (.ref a1), .unset] [(.int (1 : Int32))])
  refine g_if_ne C S dfl_4 (pc' := 8) (pf := 7) (by decide) (by decide) rfl (fun hc4 => ?_) (fun hc4 => absurd hc4 (by decide))
  refine g_aloadN C S dfl_8 (pc' := 9) rfl rfl rfl ?_
  refine g_getF C S dfl_9 (host := "") (Or.inl (hw _ (List.mem_of_getElem? (i := 90) rfl))) Via.refl F_value_a1 (pc' := 12) rfl (fun T105 S => ?_)
  refine g_arraylength C S (x := (Int32.ofNat 34)) dfl_12 A_b1 rfl (pc' := 13) rfl ?_
  refine g_callS C S (rm := ({ frames := 1, cells := 1, slots := 80, locals := 12 } : Room)) (W := 0) dfl_13 (hw _ (List.mem_of_getElem? (i := 229) rfl)) (hw _ (List.mem_of_getElem? (i := 208) rfl)) (hw _ (List.mem_of_getElem? (i := 59) rfl)) (hw _ (List.mem_of_getElem? (i := 209) rfl)) (by decide) (c_nbf l Z a0 hw h0 n0 34 (by decide) Zn) (argsL := [(.int (Int32.ofNat 34))]) (r := []) rfl all0 (lenOf pd_1 rfl) rfl (Nat.le_of_eq rfl) (by decide) (by decide) (by decide) (by decide) (pc' := 16) rfl (fun T106 h106 v106 P106 q106 S => ?_)
  obtain ⟨b2, rfl, pm_b2, ge_b2, sz_b2, K106, A_b2⟩ := q106
  have ne_a1_b2 : a1 ≠ b2 := ne_ge sz_b2 X_a1.lt
  have ne_b1_b2 : b1 ≠ b2 := ne_ge sz_b2 A_b1.lt
  have sz_b2 := Nat.le_trans Kp.1 sz_b2
  have pm_b2 := On.ml S pm_b2
  have Kp := Kp.trans K106 all0
  have S_COMPACT_STRINGS := Sta.keep0 S_COMPACT_STRINGS K106
  have S_assertionsDisabled := Sta.keep0 S_assertionsDisabled K106
  have S_HI_BYTE_SHIFT := Sta.keep0 S_HI_BYTE_SHIFT K106
  have S_LO_BYTE_SHIFT := Sta.keep0 S_LO_BYTE_SHIFT K106
  have S_SIOOBE_FORMATTER := Sta.keep0 S_SIOOBE_FORMATTER K106
  have X_a1 := X_a1.keep K106
  have F_value_a1 := F_value_a1.keep K106 nin0
  have F_coder_a1 := F_coder_a1.keep K106 nin0
  have F_count_a1 := F_count_a1.keep K106 nin0
  have F_maybeLatin1_a1 := F_maybeLatin1_a1.keep K106 nin0
  have A_b1 := A_b1.keep K106 nin0
  have Zn := Nat.le_trans Zn K106.1
  have A_b2 : Ary Z h106 b2 .byte 68 (fun _ => .int (0 : Int32)) := A_b2
  show Gl p e below s Z consts_1 _ n0 _ T106 (mkF m 16 #[.val (.ref a1), .unset] [(.ref b2)])
  refine g_astoreN C S dfl_16 (pc' := 17) rfl rfl (L' := #[.val (.ref a1), .val (.ref b2)]) rfl ?_
  refine g_aloadN C S dfl_17 (pc' := 18) rfl rfl rfl ?_
  refine g_getF C S dfl_18 (host := "") (Or.inl (hw _ (List.mem_of_getElem? (i := 90) rfl))) Via.refl F_value_a1 (pc' := 21) rfl (fun T107 S => ?_)
  refine g_iconst C S (0 : Int32) dfl_21 (pc' := 22) rfl rfl ?_
  refine g_aloadN C S dfl_22 (pc' := 23) rfl rfl rfl ?_
  refine g_iconst C S (0 : Int32) dfl_23 (pc' := 24) rfl rfl ?_
  refine g_aloadN C S dfl_24 (pc' := 25) rfl rfl rfl ?_
  refine g_getF C S dfl_25 (host := "") (Or.inl (hw _ (List.mem_of_getElem? (i := 106) rfl))) Via.refl F_count_a1 (pc' := 28) rfl (fun T108 S => ?_)
  refine g_callS C S (rm := ({ frames := 4, cells := 0, slots := 0, locals := 60 } : Room)) (W := 0) dfl_28 (hw _ (List.mem_of_getElem? (i := 230) rfl)) (hw _ (List.mem_of_getElem? (i := 231) rfl)) (hw _ (List.mem_of_getElem? (i := 47) rfl)) (hw _ (List.mem_of_getElem? (i := 232) rfl)) (by decide) (c_li l Z a0 hw b1 b2 h106 n0 g ge_b2 ne_b1_b2 S_assertionsDisabled S_HI_BYTE_SHIFT S_LO_BYTE_SHIFT fm hfm S_SIOOBE_FORMATTER A_b1 A_b2) (argsL := [(.ref b1), (.int (0 : Int32)), (.ref b2), (.int (0 : Int32)), (.int (26 : Int32))]) (r := []) rfl (allS pm_b2 all0) (lenOf pd_17 rfl) rfl (Nat.le_of_eq rfl) (by decide) (by decide) (by decide) (by decide) (pc' := 31) rfl (fun T109 h109 v109 P109 q109 S => ?_)
  have pm_b2 := List.mem_append_right P109 pm_b2
  obtain ⟨rfl, K109, B109⟩ := q109
  have Kp := Kp.trans K109 (allS (Or.inr sz_b2) all0)
  have S_COMPACT_STRINGS := Sta.keep1 S_COMPACT_STRINGS K109 (Ary.nostat A_b2)
  have S_assertionsDisabled := Sta.keep1 S_assertionsDisabled K109 (Ary.nostat A_b2)
  have S_HI_BYTE_SHIFT := Sta.keep1 S_HI_BYTE_SHIFT K109 (Ary.nostat A_b2)
  have S_LO_BYTE_SHIFT := Sta.keep1 S_LO_BYTE_SHIFT K109 (Ary.nostat A_b2)
  have S_SIOOBE_FORMATTER := Sta.keep1 S_SIOOBE_FORMATTER K109 (Ary.nostat A_b2)
  have X_a1 := X_a1.keep K109
  have F_value_a1 := F_value_a1.keep K109 (ninS ne_a1_b2 nin0)
  have F_coder_a1 := F_coder_a1.keep K109 (ninS ne_a1_b2 nin0)
  have F_count_a1 := F_count_a1.keep K109 (ninS ne_a1_b2 nin0)
  have F_maybeLatin1_a1 := F_maybeLatin1_a1.keep K109 (ninS ne_a1_b2 nin0)
  have A_b1 := A_b1.keep K109 (ninS ne_b1_b2 nin0)
  have Zn := Nat.le_trans Zn K109.1
  have A_b2 := B109
  show Gl p e below s Z consts_1 _ n0 _ T109 (mkF m 31 #[.val (.ref a1), .val (.ref b2)] [])
  refine g_aloadN C S dfl_31 (pc' := 32) rfl rfl rfl ?_
  refine g_aloadN C S dfl_32 (pc' := 33) rfl rfl rfl ?_
  refine g_putF C S dfl_33 (host := "") (Or.inl (hw _ (List.mem_of_getElem? (i := 90) rfl))) Via.refl F_value_a1 X_a1 (Or.inl (hw _ (List.mem_of_getElem? (i := 91) rfl))) (hw _ (List.mem_of_getElem? (i := 77) rfl)) (ty := (.array .byte)) (by decide) rfl rfl ga (Or.inr (by decide)) (pc' := 36) rfl (fun T110 h110 S W110 => ?_)
  have X_a1 := X_a1.wr W110
  have F_value_a1 := F_value_a1.same W110
  have F_coder_a1 := F_coder_a1.other W110 (Or.inr (slot_ne (a0 := a0) (t := .byte) (t' := (.array .byte)) (Or.inl (hw _ (List.mem_of_getElem? (i := 93) rfl))) (Or.inl (hw _ (List.mem_of_getElem? (i := 91) rfl))) (by decide) (by decide) (by decide)))
  have F_count_a1 := F_count_a1.other W110 (Or.inr (slot_ne (a0 := a0) (t := .int) (t' := (.array .byte)) (Or.inl (hw _ (List.mem_of_getElem? (i := 107) rfl))) (Or.inl (hw _ (List.mem_of_getElem? (i := 91) rfl))) (by decide) (by decide) (by decide)))
  have F_maybeLatin1_a1 := F_maybeLatin1_a1.other W110 (Or.inr (slot_ne (a0 := a0) (t := .boolean) (t' := (.array .byte)) (Or.inl (hw _ (List.mem_of_getElem? (i := 249) rfl))) (Or.inl (hw _ (List.mem_of_getElem? (i := 91) rfl))) (by decide) (by decide) (by decide)))
  have A_b1 := A_b1.other W110 (Ne.symm ne)
  have Zn := Nat.le_trans Zn (Nat.le_of_eq W110.size.symm)
  have S_COMPACT_STRINGS := S_COMPACT_STRINGS.wr W110
  have S_assertionsDisabled := S_assertionsDisabled.wr W110
  have S_HI_BYTE_SHIFT := S_HI_BYTE_SHIFT.wr W110
  have S_LO_BYTE_SHIFT := S_LO_BYTE_SHIFT.wr W110
  have S_SIOOBE_FORMATTER := S_SIOOBE_FORMATTER.wr W110
  have A_b2 := A_b2.other W110 (Ne.symm ne_a1_b2)
  have Kp := Kp.wr W110 (Or.inl (List.mem_of_getElem? (i := 0) rfl))
  refine g_aloadN C S dfl_36 (pc' := 37) rfl rfl rfl ?_
  refine g_iconst C S (1 : Int32) dfl_37 (pc' := 38) rfl rfl ?_
  refine g_putF C S dfl_38 (host := "") (Or.inl (hw _ (List.mem_of_getElem? (i := 92) rfl))) Via.refl F_coder_a1 X_a1 (Or.inl (hw _ (List.mem_of_getElem? (i := 93) rfl))) (hw _ (List.mem_of_getElem? (i := 77) rfl)) (ty := .byte) (by decide) rfl rfl ga (Or.inr (by decide)) (pc' := 41) rfl (fun T111 h111 S W111 => ?_)
  have X_a1 := X_a1.wr W111
  have F_value_a1 := F_value_a1.other W111 (Or.inr (slot_ne (a0 := a0) (t := (.array .byte)) (t' := .byte) (Or.inl (hw _ (List.mem_of_getElem? (i := 91) rfl))) (Or.inl (hw _ (List.mem_of_getElem? (i := 93) rfl))) (by decide) (by decide) (by decide)))
  have F_coder_a1 := F_coder_a1.same W111
  have F_count_a1 := F_count_a1.other W111 (Or.inr (slot_ne (a0 := a0) (t := .int) (t' := .byte) (Or.inl (hw _ (List.mem_of_getElem? (i := 107) rfl))) (Or.inl (hw _ (List.mem_of_getElem? (i := 93) rfl))) (by decide) (by decide) (by decide)))
  have F_maybeLatin1_a1 := F_maybeLatin1_a1.other W111 (Or.inr (slot_ne (a0 := a0) (t := .boolean) (t' := .byte) (Or.inl (hw _ (List.mem_of_getElem? (i := 249) rfl))) (Or.inl (hw _ (List.mem_of_getElem? (i := 93) rfl))) (by decide) (by decide) (by decide)))
  have A_b1 := A_b1.other W111 (Ne.symm ne)
  have Zn := Nat.le_trans Zn (Nat.le_of_eq W111.size.symm)
  have S_COMPACT_STRINGS := S_COMPACT_STRINGS.wr W111
  have S_assertionsDisabled := S_assertionsDisabled.wr W111
  have S_HI_BYTE_SHIFT := S_HI_BYTE_SHIFT.wr W111
  have S_LO_BYTE_SHIFT := S_LO_BYTE_SHIFT.wr W111
  have S_SIOOBE_FORMATTER := S_SIOOBE_FORMATTER.wr W111
  have A_b2 := A_b2.other W111 (Ne.symm ne_a1_b2)
  have Kp := Kp.wr W111 (Or.inl (List.mem_of_getElem? (i := 0) rfl))
  exact g_return C S dfl_41 (by decide) (by decide) (⟨rfl, Kp, b2, pm_b2, ge_b2, sz_b2, ⟨X_a1, F_value_a1, F_coder_a1, F_count_a1, F_maybeLatin1_a1⟩, A_b2⟩)
theorem dfi_0 : decode jdk_68_method_71_code 0 = .ok (.getstatic 18, 3) := by decide +kernel
theorem dfi_3 : decode jdk_68_method_71_code 3 = .ok (.ifCond .eq 18, 3) := by decide +kernel
theorem dfi_6 : decode jdk_68_method_71_code 6 = .ok (.aload_n 0, 1) := by decide +kernel
theorem dfi_7 : decode jdk_68_method_71_code 7 = .ok (.getfield 22, 3) := by decide +kernel
theorem dfi_10 : decode jdk_68_method_71_code 10 = .ok (.aload_n 1, 1) := by decide +kernel
theorem dfi_11 : decode jdk_68_method_71_code 11 = .ok (.invokevirtual 40, 3) := by decide +kernel
theorem dfi_14 : decode jdk_68_method_71_code 14 = .ok (.if_icmp .eq 7, 3) := by decide +kernel
theorem dfi_21 : decode jdk_68_method_71_code 21 = .ok (.return_, 1) := by decide +kernel
set_option maxRecDepth 65536 in
set_option maxHeartbeats 40000000 in
theorem c_fi0 (l : Launch) (Z : State) (a0 : Array Value) (hw : ∀ d ∈ tables_1, d.before a0 Z = true) (a1 : Addr) (a2 : Addr) (h0 : Heap) (n0 : Nat) (b1 : Addr) (ct : Int32) (cs : Int32) (hcs : ¬ cs = 0) (S_COMPACT_STRINGS : Sta Z h0 "java/lang/String" "COMPACT_STRINGS" "Z" (.int cs)) (X_a1 : Exa Z h0 a1 "java/lang/StringBuilder") (F_value_a1 : Fld Z h0 a1 "java/lang/AbstractStringBuilder" "value" "[B" (.ref b1)) (F_coder_a1 : Fld Z h0 a1 "java/lang/AbstractStringBuilder" "coder" "B" (.int (0 : Int32))) (F_count_a1 : Fld Z h0 a1 "java/lang/AbstractStringBuilder" "count" "I" (.int ct)) (F_maybeLatin1_a1 : Fld Z h0 a1 "java/lang/AbstractStringBuilder" "maybeLatin1" "Z" (.int (0 : Int32))) (X_a2 : Exa Z h0 a2 "java/lang/String") (F_coder_a2 : Fld Z h0 a2 "java/lang/String" "coder" "B" (.int (0 : Int32))) :
    Con l Z consts_1 [] (⟨"java/lang/AbstractStringBuilder", "inflateIfNeededFor", "(Ljava/lang/String;)V"⟩ : MethodName) jdk_68_method_71_code 2 none ({ frames := 1, cells := 0, slots := 0, locals := 13 } : Room) #[(.ref a1), (.ref a2)] h0 n0 (fun v h _ => v = none ∧ h = h0) := by
  refine Con.of (plainFor_of_name (by first | (simp [plainName, overriddenIn]; done) | decide +kernel)) (elw hw) (L0 := #[.val (.ref a1), .val (.ref a2)]) (fun m => by first | (simp [entryFrame, mkF, argsToLocals, Value.category]; done) | rfl) ?_
  intro p e s m below meth c T C S
  refine g_getS C S dfi_0 (host := "") (Or.inl (hw _ (List.mem_of_getElem? (i := 89) rfl))) Via.refl S_COMPACT_STRINGS (pc' := 3) rfl (fun T112 S => ?_)
  refine g_if_eq C S dfi_3 (pc' := 21) (pf := 6) (by decide) (by decide) rfl (fun hc3 => absurd hc3 hcs) (fun hc3 => ?_)
  refine g_aloadN C S dfi_6 (pc' := 7) rfl rfl rfl ?_
  refine g_getF C S dfi_7 (host := "") (Or.inl (hw _ (List.mem_of_getElem? (i := 92) rfl))) Via.refl F_coder_a1 (pc' := 10) rfl (fun T113 S => ?_)
  refine g_aloadN C S dfi_10 (pc' := 11) rfl rfl rfl ?_
  refine g_callV C S (rm := ({ frames := 0, cells := 0, slots := 0, locals := 0 } : Room)) (W := 1) dfi_11 (hw _ (List.mem_of_getElem? (i := 149) rfl)) (hw _ (List.mem_of_getElem? (i := 30) rfl)) (fun _ hZ => notFace_of_selects (args := #[]) (mvT hZ (hw _ (List.mem_of_getElem? (i := 32) rfl)))) (hw _ (List.mem_of_getElem? (i := 32) rfl)) (hw _ (List.mem_of_getElem? (i := 31) rfl)) (hw _ (List.mem_of_getElem? (i := 4) rfl)) (hw _ (List.mem_of_getElem? (i := 33) rfl)) (by decide) rfl X_a2 (c_cod l Z a0 hw a2 h0 n0 0 rfl cs hcs S_COMPACT_STRINGS F_coder_a2) (argsL := []) (r := [(.int (0 : Int32))]) rfl all0 (lenOf pd_8 rfl) rfl (Nat.le_of_eq rfl) (by decide) (by decide) (by decide) (by decide) (pc' := 14) rfl (fun T114 h114 v114 P114 q114 S => ?_)
  obtain ⟨rfl, e114⟩ := q114; rw [e114] at S
  show Gl p e below s Z consts_1 _ n0 _ T114 (mkF m 14 #[.val (.ref a1), .val (.ref a2)] [(.int (0 : Int32)), (.int (0 : Int32))])
  refine g_icmp_eq C S dfi_14 (pc' := 21) (pf := 17) (by decide) (by decide) rfl (fun hc14 => ?_) (fun hc14 => absurd rfl hc14)
  exact g_return C S dfi_21 (by decide) (by decide) (⟨rfl, rfl⟩)
theorem pd_19 : parseMethodDescriptor "()V" = some ⟨[], none⟩ := by decide +kernel
theorem dfi_17 : decode jdk_68_method_71_code 17 = .ok (.aload_n 0, 1) := by decide +kernel
theorem dfi_18 : decode jdk_68_method_71_code 18 = .ok (.invokevirtual 195, 3) := by decide +kernel
set_option maxRecDepth 65536 in
set_option maxHeartbeats 40000000 in
theorem c_fi1 (l : Launch) (Z : State) (a0 : Array Value) (hw : ∀ d ∈ tables_1, d.before a0 Z = true) (a1 : Addr) (a2 : Addr) (h0 : Heap) (n0 : Nat) (b1 : Addr) (g : Nat → Int32) (ga : n0 ≤ a1) (ne : a1 ≠ b1) (Zn : n0 ≤ h0.size) (cs : Int32) (hcs : ¬ cs = 0) (S_COMPACT_STRINGS : Sta Z h0 "java/lang/String" "COMPACT_STRINGS" "Z" (.int cs)) (S_assertionsDisabled : Sta Z h0 "java/lang/StringUTF16" "$assertionsDisabled" "Z" (.int (1 : Int32))) (S_HI_BYTE_SHIFT : Sta Z h0 "java/lang/StringUTF16" "HI_BYTE_SHIFT" "I" (.int (0 : Int32))) (S_LO_BYTE_SHIFT : Sta Z h0 "java/lang/StringUTF16" "LO_BYTE_SHIFT" "I" (.int (8 : Int32))) (fm : Value) (hfm : fm.isRef = true) (S_SIOOBE_FORMATTER : Sta Z h0 "jdk/internal/util/Preconditions" "SIOOBE_FORMATTER" "Ljava/util/function/BiFunction;" fm) (X_a1 : Exa Z h0 a1 "java/lang/StringBuilder") (F_value_a1 : Fld Z h0 a1 "java/lang/AbstractStringBuilder" "value" "[B" (.ref b1)) (F_coder_a1 : Fld Z h0 a1 "java/lang/AbstractStringBuilder" "coder" "B" (.int (0 : Int32))) (F_count_a1 : Fld Z h0 a1 "java/lang/AbstractStringBuilder" "count" "I" (.int (26 : Int32))) (F_maybeLatin1_a1 : Fld Z h0 a1 "java/lang/AbstractStringBuilder" "maybeLatin1" "Z" (.int (0 : Int32))) (A_b1 : Ary Z h0 b1 .byte 34 (fun q => .int (g q))) (X_a2 : Exa Z h0 a2 "java/lang/String") (F_coder_a2 : Fld Z h0 a2 "java/lang/String" "coder" "B" (.int (1 : Int32))) :
    Con l Z consts_1 [] (⟨"java/lang/AbstractStringBuilder", "inflateIfNeededFor", "(Ljava/lang/String;)V"⟩ : MethodName) jdk_68_method_71_code 2 none ({ frames := 6, cells := 1, slots := 80, locals := 89 } : Room) #[(.ref a1), (.ref a2)] h0 n0 (fun v h P => v = none ∧ Keep h0 h [a1] ∧ ∃ b, b ∈ P ∧ n0 ≤ b ∧ h0.size ≤ b ∧ (Exa Z h a1 "java/lang/StringBuilder" ∧ Fld Z h a1 "java/lang/AbstractStringBuilder" "value" "[B" (.ref b) ∧ Fld Z h a1 "java/lang/AbstractStringBuilder" "coder" "B" (.int (1 : Int32)) ∧ Fld Z h a1 "java/lang/AbstractStringBuilder" "count" "I" (.int (26 : Int32)) ∧ Fld Z h a1 "java/lang/AbstractStringBuilder" "maybeLatin1" "Z" (.int (0 : Int32))) ∧ Ary Z h b .byte 68 (fun q => .int (if q < 52 then ub (lw g) q else 0))) := by
  refine Con.of (plainFor_of_name (by first | (simp [plainName, overriddenIn]; done) | decide +kernel)) (elw hw) (L0 := #[.val (.ref a1), .val (.ref a2)]) (fun m => by first | (simp [entryFrame, mkF, argsToLocals, Value.category]; done) | rfl) ?_
  intro p e s m below meth c T C S
  refine g_getS C S dfi_0 (host := "") (Or.inl (hw _ (List.mem_of_getElem? (i := 89) rfl))) Via.refl S_COMPACT_STRINGS (pc' := 3) rfl (fun T115 S => ?_)
  refine g_if_eq C S dfi_3 (pc' := 21) (pf := 6) (by decide) (by decide) rfl (fun hc3 => absurd hc3 hcs) (fun hc3 => ?_)
  refine g_aloadN C S dfi_6 (pc' := 7) rfl rfl rfl ?_
  refine g_getF C S dfi_7 (host := "") (Or.inl (hw _ (List.mem_of_getElem? (i := 92) rfl))) Via.refl F_coder_a1 (pc' := 10) rfl (fun T116 S => ?_)
  refine g_aloadN C S dfi_10 (pc' := 11) rfl rfl rfl ?_
  refine g_callV C S (rm := ({ frames := 0, cells := 0, slots := 0, locals := 0 } : Room)) (W := 1) dfi_11 (hw _ (List.mem_of_getElem? (i := 149) rfl)) (hw _ (List.mem_of_getElem? (i := 30) rfl)) (fun _ hZ => notFace_of_selects (args := #[]) (mvT hZ (hw _ (List.mem_of_getElem? (i := 32) rfl)))) (hw _ (List.mem_of_getElem? (i := 32) rfl)) (hw _ (List.mem_of_getElem? (i := 31) rfl)) (hw _ (List.mem_of_getElem? (i := 4) rfl)) (hw _ (List.mem_of_getElem? (i := 33) rfl)) (by decide) rfl X_a2 (c_cod l Z a0 hw a2 h0 n0 1 rfl cs hcs S_COMPACT_STRINGS F_coder_a2) (argsL := []) (r := [(.int (0 : Int32))]) rfl all0 (lenOf pd_8 rfl) rfl (Nat.le_of_eq rfl) (by decide) (by decide) (by decide) (by decide) (pc' := 14) rfl (fun T117 h117 v117 P117 q117 S => ?_)
  obtain ⟨rfl, e117⟩ := q117; rw [e117] at S
  show Gl p e below s Z consts_1 _ n0 _ T117 (mkF m 14 #[.val (.ref a1), .val (.ref a2)] [(.int (1 : Int32)), (.int (0 : Int32))])
  refine g_icmp_eq C S dfi_14 (pc' := 21) (pf := 17) (by decide) (by decide) rfl (fun hc14 => absurd hc14 (by decide)) (fun hc14 => ?_)
  refine g_aloadN C S dfi_17 (pc' := 18) rfl rfl rfl ?_
  refine g_callQ C S (rm := ({ frames := 5, cells := 1, slots := 80, locals := 76 } : Room)) (W := 0) dfi_18 (hw _ (List.mem_of_getElem? (i := 223) rfl)) (hw _ (List.mem_of_getElem? (i := 224) rfl)) (hw _ (List.mem_of_getElem? (i := 225) rfl)) (hw _ (List.mem_of_getElem? (i := 226) rfl)) (hw _ (List.mem_of_getElem? (i := 86) rfl)) (hw _ (List.mem_of_getElem? (i := 227) rfl)) (by decide) X_a1 (c_fl l Z a0 hw a1 h0 n0 b1 g ga ne Zn cs hcs S_COMPACT_STRINGS S_assertionsDisabled S_HI_BYTE_SHIFT S_LO_BYTE_SHIFT fm hfm S_SIOOBE_FORMATTER X_a1 F_value_a1 F_coder_a1 F_count_a1 F_maybeLatin1_a1 A_b1) (argsL := []) (r := []) rfl all0 (lenOf pd_19 rfl) rfl (Nat.le_of_eq rfl) (by decide) (by decide) (by decide) (by decide) (pc' := 21) rfl (fun T118 h118 v118 P118 q118 S => ?_)
  obtain ⟨rfl, K118, b, pb, q118⟩ := q118
  show Gl p e below s Z consts_1 _ n0 _ T118 (mkF m 21 #[.val (.ref a1), .val (.ref a2)] [])
  exact g_return C S dfi_21 (by decide) (by decide) (⟨rfl, K118, b, List.mem_append_left _ pb, q118⟩)
theorem pd_20 : parseMethodDescriptor "(Ljava/lang/String;)V" = some ⟨[(.object "java/lang/String")], none⟩ := by decide +kernel
theorem pd_21 : parseMethodDescriptor "([BIB)V" = some ⟨[(.array .byte), .int, .byte], none⟩ := by decide +kernel
theorem dps_0 : decode jdk_68_method_73_code 0 = .ok (.aload_n 0, 1) := by decide +kernel
theorem dps_1 : decode jdk_68_method_73_code 1 = .ok (.aload_n 2, 1) := by decide +kernel
theorem dps_2 : decode jdk_68_method_73_code 2 = .ok (.invokevirtual 397, 3) := by decide +kernel
theorem dps_5 : decode jdk_68_method_73_code 5 = .ok (.aload_n 2, 1) := by decide +kernel
theorem dps_6 : decode jdk_68_method_73_code 6 = .ok (.aload_n 0, 1) := by decide +kernel
theorem dps_7 : decode jdk_68_method_73_code 7 = .ok (.getfield 15, 3) := by decide +kernel
theorem dps_10 : decode jdk_68_method_73_code 10 = .ok (.iload_n 1, 1) := by decide +kernel
theorem dps_11 : decode jdk_68_method_73_code 11 = .ok (.aload_n 0, 1) := by decide +kernel
theorem dps_12 : decode jdk_68_method_73_code 12 = .ok (.getfield 22, 3) := by decide +kernel
theorem dps_15 : decode jdk_68_method_73_code 15 = .ok (.invokevirtual 399, 3) := by decide +kernel
theorem dps_18 : decode jdk_68_method_73_code 18 = .ok (.return_, 1) := by decide +kernel
set_option maxRecDepth 65536 in
set_option maxHeartbeats 40000000 in
theorem c_ps0 (l : Launch) (Z : State) (a0 : Array Value) (hw : ∀ d ∈ tables_1, d.before a0 Z = true) (a1 : Addr) (a2 : Addr) (h0 : Heap) (n0 : Nat) (b1 b2 : Addr) (ct : Int32) (M K off : Nat) (g g2 : Nat → Int32) (hfit : off + M ≤ K) (hK : K ≤ 68) (hB : Byt g M) (hB2 : Byt g2 K) (gb : n0 ≤ b1) (cs : Int32) (hcs : ¬ cs = 0) (S_COMPACT_STRINGS : Sta Z h0 "java/lang/String" "COMPACT_STRINGS" "Z" (.int cs)) (X_a1 : Exa Z h0 a1 "java/lang/StringBuilder") (F_value_a1 : Fld Z h0 a1 "java/lang/AbstractStringBuilder" "value" "[B" (.ref b1)) (F_coder_a1 : Fld Z h0 a1 "java/lang/AbstractStringBuilder" "coder" "B" (.int (0 : Int32))) (F_count_a1 : Fld Z h0 a1 "java/lang/AbstractStringBuilder" "count" "I" (.int ct)) (F_maybeLatin1_a1 : Fld Z h0 a1 "java/lang/AbstractStringBuilder" "maybeLatin1" "Z" (.int (0 : Int32))) (X_a2 : Exa Z h0 a2 "java/lang/String") (F_coder_a2 : Fld Z h0 a2 "java/lang/String" "coder" "B" (.int (0 : Int32))) (F_value_a2 : Fld Z h0 a2 "java/lang/String" "value" "[B" (.ref b2)) (A_b2 : Ary Z h0 b2 .byte M (fun q => .int (g q))) (A_b1 : Ary Z h0 b1 .byte K (fun q => .int (g2 q))) :
    Con l Z consts_1 [b1] (⟨"java/lang/AbstractStringBuilder", "putStringAt", "(ILjava/lang/String;)V"⟩ : MethodName) jdk_68_method_73_code 3 none ({ frames := 2, cells := 0, slots := 0, locals := 33 } : Room) #[(.ref a1), (.int (Int32.ofNat off)), (.ref a2)] h0 n0 (fun v h _ => v = none ∧ Keep h0 h [b1] ∧ Ary Z h b1 .byte K (fun q => .int (if off ≤ q ∧ q < off + M then g (q - off) else g2 q))) := by
  refine Con.of (plainFor_of_name (by first | (simp [plainName, overriddenIn]; done) | decide +kernel)) (elw hw) (L0 := #[.val (.ref a1), .val (.int (Int32.ofNat off)), .val (.ref a2)]) (fun m => by first | (simp [entryFrame, mkF, argsToLocals, Value.category]; done) | rfl) ?_
  intro p e s m below meth c T C S
  have pm_b1 : b1 ∈ [b1] := List.mem_of_getElem? (i := 0) rfl
  refine g_aloadN C S dps_0 (pc' := 1) rfl rfl rfl ?_
  refine g_aloadN C S dps_1 (pc' := 2) rfl rfl rfl ?_
  refine g_callQ C S (rm := ({ frames := 1, cells := 0, slots := 0, locals := 13 } : Room)) (W := 0) dps_2 (hw _ (List.mem_of_getElem? (i := 144) rfl)) (hw _ (List.mem_of_getElem? (i := 145) rfl)) (hw _ (List.mem_of_getElem? (i := 146) rfl)) (hw _ (List.mem_of_getElem? (i := 147) rfl)) (hw _ (List.mem_of_getElem? (i := 86) rfl)) (hw _ (List.mem_of_getElem? (i := 148) rfl)) (by decide) X_a1 (c_fi0 l Z a0 hw a1 a2 h0 n0 b1 ct cs hcs S_COMPACT_STRINGS X_a1 F_value_a1 F_coder_a1 F_count_a1 F_maybeLatin1_a1 X_a2 F_coder_a2) (argsL := [(.ref a2)]) (r := []) rfl all0 (lenOf pd_20 rfl) rfl (Nat.le_of_eq rfl) (by decide) (by decide) (by decide) (by decide) (pc' := 5) rfl (fun T119 h119 v119 P119 q119 S => ?_)
  have pm_b1 := List.mem_append_right P119 pm_b1
  obtain ⟨rfl, e119⟩ := q119; rw [e119] at S
  show Gl p e below s Z consts_1 _ n0 _ T119 (mkF m 5 #[.val (.ref a1), .val (.int (Int32.ofNat off)), .val (.ref a2)] [])
  refine g_aloadN C S dps_5 (pc' := 6) rfl rfl rfl ?_
  refine g_aloadN C S dps_6 (pc' := 7) rfl rfl rfl ?_
  refine g_getF C S dps_7 (host := "") (Or.inl (hw _ (List.mem_of_getElem? (i := 90) rfl))) Via.refl F_value_a1 (pc' := 10) rfl (fun T120 S => ?_)
  refine g_iloadN C S dps_10 (pc' := 11) rfl rfl ?_
  refine g_aloadN C S dps_11 (pc' := 12) rfl rfl rfl ?_
  refine g_getF C S dps_12 (host := "") (Or.inl (hw _ (List.mem_of_getElem? (i := 92) rfl))) Via.refl F_coder_a1 (pc' := 15) rfl (fun T121 S => ?_)
  refine g_callV C S (rm := ({ frames := 1, cells := 0, slots := 0, locals := 18 } : Room)) (W := 0) dps_15 (hw _ (List.mem_of_getElem? (i := 150) rfl)) (hw _ (List.mem_of_getElem? (i := 151) rfl)) (fun _ hZ => notFace_of_selects (args := #[]) (mvT hZ (hw _ (List.mem_of_getElem? (i := 153) rfl)))) (hw _ (List.mem_of_getElem? (i := 153) rfl)) (hw _ (List.mem_of_getElem? (i := 152) rfl)) (hw _ (List.mem_of_getElem? (i := 4) rfl)) (hw _ (List.mem_of_getElem? (i := 154) rfl)) (by decide) rfl X_a2 (c_gb l Z a0 hw a2 b1 0 h0 n0 b2 M K off off g g2 rfl (shl0 _) hfit hK hB hB2 gb cs hcs S_COMPACT_STRINGS X_a2 F_coder_a2 F_value_a2 A_b2 A_b1) (argsL := [(.ref b1), (.int (Int32.ofNat off)), (.int (0 : Int32))]) (r := []) rfl (allS pm_b1 all0) (lenOf pd_21 rfl) rfl (Nat.le_of_eq rfl) (by decide) (by decide) (by decide) (by decide) (pc' := 18) rfl (fun T122 h122 v122 P122 q122 S => ?_)
  have pm_b1 := List.mem_append_right P122 pm_b1
  obtain ⟨rfl, q122⟩ := q122
  show Gl p e below s Z consts_1 _ n0 _ T122 (mkF m 18 #[.val (.ref a1), .val (.int (Int32.ofNat off)), .val (.ref a2)] [])
  exact g_return C S dps_18 (by decide) (by decide) (⟨rfl, q122⟩)
set_option maxRecDepth 65536 in
set_option maxHeartbeats 40000000 in
theorem c_ps1 (l : Launch) (Z : State) (a0 : Array Value) (hw : ∀ d ∈ tables_1, d.before a0 Z = true) (a1 : Addr) (a2 : Addr) (h0 : Heap) (n0 : Nat) (b1 b2 : Addr) (M : Nat) (g g2 : Nat → Int32) (hfit : 52 + M ≤ 68) (hB : Byt g M) (ga : n0 ≤ a1) (ne : a1 ≠ b1) (n12 : a1 ≠ a2) (n1b : a1 ≠ b2) (Zn : n0 ≤ h0.size) (cs : Int32) (hcs : ¬ cs = 0) (S_COMPACT_STRINGS : Sta Z h0 "java/lang/String" "COMPACT_STRINGS" "Z" (.int cs)) (S_assertionsDisabled : Sta Z h0 "java/lang/StringUTF16" "$assertionsDisabled" "Z" (.int (1 : Int32))) (S_HI_BYTE_SHIFT : Sta Z h0 "java/lang/StringUTF16" "HI_BYTE_SHIFT" "I" (.int (0 : Int32))) (S_LO_BYTE_SHIFT : Sta Z h0 "java/lang/StringUTF16" "LO_BYTE_SHIFT" "I" (.int (8 : Int32))) (fm : Value) (hfm : fm.isRef = true) (S_SIOOBE_FORMATTER : Sta Z h0 "jdk/internal/util/Preconditions" "SIOOBE_FORMATTER" "Ljava/util/function/BiFunction;" fm) (X_a1 : Exa Z h0 a1 "java/lang/StringBuilder") (F_value_a1 : Fld Z h0 a1 "java/lang/AbstractStringBuilder" "value" "[B" (.ref b1)) (F_coder_a1 : Fld Z h0 a1 "java/lang/AbstractStringBuilder" "coder" "B" (.int (0 : Int32))) (F_count_a1 : Fld Z h0 a1 "java/lang/AbstractStringBuilder" "count" "I" (.int (26 : Int32))) (F_maybeLatin1_a1 : Fld Z h0 a1 "java/lang/AbstractStringBuilder" "maybeLatin1" "Z" (.int (0 : Int32))) (X_a2 : Exa Z h0 a2 "java/lang/String") (F_coder_a2 : Fld Z h0 a2 "java/lang/String" "coder" "B" (.int (1 : Int32))) (F_value_a2 : Fld Z h0 a2 "java/lang/String" "value" "[B" (.ref b2)) (A_b2 : Ary Z h0 b2 .byte M (fun q => .int (g q))) (A_b1 : Ary Z h0 b1 .byte 34 (fun q => .int (g2 q))) :
    Con l Z consts_1 [] (⟨"java/lang/AbstractStringBuilder", "putStringAt", "(ILjava/lang/String;)V"⟩ : MethodName) jdk_68_method_73_code 3 none ({ frames := 7, cells := 1, slots := 80, locals := 102 } : Room) #[(.ref a1), (.int (26 : Int32)), (.ref a2)] h0 n0 (fun v h _ => v = none ∧ Keep h0 h [a1] ∧ ∃ b, (Exa Z h a1 "java/lang/StringBuilder" ∧ Fld Z h a1 "java/lang/AbstractStringBuilder" "value" "[B" (.ref b) ∧ Fld Z h a1 "java/lang/AbstractStringBuilder" "coder" "B" (.int (1 : Int32)) ∧ Fld Z h a1 "java/lang/AbstractStringBuilder" "count" "I" (.int (26 : Int32)) ∧ Fld Z h a1 "java/lang/AbstractStringBuilder" "maybeLatin1" "Z" (.int (0 : Int32))) ∧ Ary Z h b .byte 68 (fun q => .int (if 52 ≤ q ∧ q < 52 + M then g (q - 52) else if q < 52 then ub (lw g2) q else 0))) := by
  refine Con.of (plainFor_of_name (by first | (simp [plainName, overriddenIn]; done) | decide +kernel)) (elw hw) (L0 := #[.val (.ref a1), .val (.int (26 : Int32)), .val (.ref a2)]) (fun m => by first | (simp [entryFrame, mkF, argsToLocals, Value.category]; done) | rfl) ?_
  intro p e s m below meth c T C S
  have Kp := Keep.refl h0 [a1]
  refine g_aloadN C S dps_0 (pc' := 1) rfl rfl rfl ?_
  refine g_aloadN C S dps_1 (pc' := 2) rfl rfl rfl ?_
  refine g_callQ C S (rm := ({ frames := 6, cells := 1, slots := 80, locals := 89 } : Room)) (W := 0) dps_2 (hw _ (List.mem_of_getElem? (i := 144) rfl)) (hw _ (List.mem_of_getElem? (i := 145) rfl)) (hw _ (List.mem_of_getElem? (i := 146) rfl)) (hw _ (List.mem_of_getElem? (i := 147) rfl)) (hw _ (List.mem_of_getElem? (i := 86) rfl)) (hw _ (List.mem_of_getElem? (i := 148) rfl)) (by decide) X_a1 (c_fi1 l Z a0 hw a1 a2 h0 n0 b1 g2 ga ne Zn cs hcs S_COMPACT_STRINGS S_assertionsDisabled S_HI_BYTE_SHIFT S_LO_BYTE_SHIFT fm hfm S_SIOOBE_FORMATTER X_a1 F_value_a1 F_coder_a1 F_count_a1 F_maybeLatin1_a1 A_b1 X_a2 F_coder_a2) (argsL := [(.ref a2)]) (r := []) rfl all0 (lenOf pd_20 rfl) rfl (Nat.le_of_eq rfl) (by decide) (by decide) (by decide) (by decide) (pc' := 5) rfl (fun T123 h123 v123 P123 q123 S => ?_)
  have X0 := X_a1
  obtain ⟨rfl, K123, b3, pm_b3, ge_b3, sz_b3, ⟨X_a1', F_value_a1, F_coder_a1, F_count_a1, F_maybeLatin1_a1⟩, A_b3⟩ := q123
  have ne_a2_b3 : a2 ≠ b3 := ne_ge sz_b3 X_a2.lt
  have ne_b2_b3 : b2 ≠ b3 := ne_ge sz_b3 A_b2.lt
  have ne_b1_b3 : b1 ≠ b3 := ne_ge sz_b3 A_b1.lt
  have ne_a1_b3 : a1 ≠ b3 := ne_ge sz_b3 X0.lt
  have sz_b3 := Nat.le_trans Kp.1 sz_b3
  have pm_b3 := On.ml S pm_b3
  have Kp := Kp.trans K123 (allS (Or.inl (List.mem_of_getElem? (i := 0) rfl)) all0)
  have S_COMPACT_STRINGS := Sta.keep1 S_COMPACT_STRINGS K123 (X0.nostat)
  have S_assertionsDisabled := Sta.keep1 S_assertionsDisabled K123 (X0.nostat)
  have S_HI_BYTE_SHIFT := Sta.keep1 S_HI_BYTE_SHIFT K123 (X0.nostat)
  have S_LO_BYTE_SHIFT := Sta.keep1 S_LO_BYTE_SHIFT K123 (X0.nostat)
  have S_SIOOBE_FORMATTER := Sta.keep1 S_SIOOBE_FORMATTER K123 (X0.nostat)
  have X_a2 := X_a2.keep K123
  have F_coder_a2 := F_coder_a2.keep K123 (ninS (Ne.symm n12) nin0)
  have F_value_a2 := F_value_a2.keep K123 (ninS (Ne.symm n12) nin0)
  have A_b2 := A_b2.keep K123 (ninS (Ne.symm n1b) nin0)
  have A_b1 := A_b1.keep K123 (ninS (Ne.symm ne) nin0)
  have Zn := Nat.le_trans Zn K123.1
  have X_a1 := X_a1'
  show Gl p e below s Z consts_1 _ n0 _ T123 (mkF m 5 #[.val (.ref a1), .val (.int (26 : Int32)), .val (.ref a2)] [])
  refine g_aloadN C S dps_5 (pc' := 6) rfl rfl rfl ?_
  refine g_aloadN C S dps_6 (pc' := 7) rfl rfl rfl ?_
  refine g_getF C S dps_7 (host := "") (Or.inl (hw _ (List.mem_of_getElem? (i := 90) rfl))) Via.refl F_value_a1 (pc' := 10) rfl (fun T124 S => ?_)
  refine g_iloadN C S dps_10 (pc' := 11) rfl rfl ?_
  refine g_aloadN C S dps_11 (pc' := 12) rfl rfl rfl ?_
  refine g_getF C S dps_12 (host := "") (Or.inl (hw _ (List.mem_of_getElem? (i := 92) rfl))) Via.refl F_coder_a1 (pc' := 15) rfl (fun T125 S => ?_)
  refine g_callV C S (rm := ({ frames := 1, cells := 0, slots := 0, locals := 18 } : Room)) (W := 0) dps_15 (hw _ (List.mem_of_getElem? (i := 150) rfl)) (hw _ (List.mem_of_getElem? (i := 151) rfl)) (fun _ hZ => notFace_of_selects (args := #[]) (mvT hZ (hw _ (List.mem_of_getElem? (i := 153) rfl)))) (hw _ (List.mem_of_getElem? (i := 153) rfl)) (hw _ (List.mem_of_getElem? (i := 152) rfl)) (hw _ (List.mem_of_getElem? (i := 4) rfl)) (hw _ (List.mem_of_getElem? (i := 154) rfl)) (by decide) rfl X_a2 (c_gb l Z a0 hw a2 b3 1 h123 n0 b2 M 68 26 52 g (z68 g2) rfl (by decide) hfit (by decide) hB (z68_byt g2 68) ge_b3 cs hcs S_COMPACT_STRINGS X_a2 F_coder_a2 F_value_a2 A_b2 A_b3) (argsL := [(.ref b3), (.int (26 : Int32)), (.int (1 : Int32))]) (r := []) rfl (allS pm_b3 all0) (lenOf pd_21 rfl) rfl (Nat.le_of_eq rfl) (by decide) (by decide) (by decide) (by decide) (pc' := 18) rfl (fun T126 h126 v126 P126 q126 S => ?_)
  have pm_b3 := List.mem_append_right P126 pm_b3
  obtain ⟨rfl, K126, B126⟩ := q126
  have Kp := Kp.trans K126 (allS (Or.inr sz_b3) all0)
  have S_COMPACT_STRINGS := Sta.keep1 S_COMPACT_STRINGS K126 (Ary.nostat A_b3)
  have S_assertionsDisabled := Sta.keep1 S_assertionsDisabled K126 (Ary.nostat A_b3)
  have S_HI_BYTE_SHIFT := Sta.keep1 S_HI_BYTE_SHIFT K126 (Ary.nostat A_b3)
  have S_LO_BYTE_SHIFT := Sta.keep1 S_LO_BYTE_SHIFT K126 (Ary.nostat A_b3)
  have S_SIOOBE_FORMATTER := Sta.keep1 S_SIOOBE_FORMATTER K126 (Ary.nostat A_b3)
  have X_a2 := X_a2.keep K126
  have F_coder_a2 := F_coder_a2.keep K126 (ninS ne_a2_b3 nin0)
  have F_value_a2 := F_value_a2.keep K126 (ninS ne_a2_b3 nin0)
  have A_b2 := A_b2.keep K126 (ninS ne_b2_b3 nin0)
  have A_b1 := A_b1.keep K126 (ninS ne_b1_b3 nin0)
  have Zn := Nat.le_trans Zn K126.1
  have X_a1 := X_a1.keep K126
  have F_value_a1 := F_value_a1.keep K126 (ninS ne_a1_b3 nin0)
  have F_coder_a1 := F_coder_a1.keep K126 (ninS ne_a1_b3 nin0)
  have F_count_a1 := F_count_a1.keep K126 (ninS ne_a1_b3 nin0)
  have F_maybeLatin1_a1 := F_maybeLatin1_a1.keep K126 (ninS ne_a1_b3 nin0)
  have A_b3 := B126
  show Gl p e below s Z consts_1 _ n0 _ T126 (mkF m 18 #[.val (.ref a1), .val (.int (26 : Int32)), .val (.ref a2)] [])
  exact g_return C S dps_18 (by decide) (by decide) (⟨rfl, Kp, b3, ⟨X_a1, F_value_a1, F_coder_a1, F_count_a1, F_maybeLatin1_a1⟩, A_b3⟩)
theorem pd_22 : parseMethodDescriptor "()I" = some ⟨[], some .int⟩ := by decide +kernel
theorem pd_23 : parseMethodDescriptor "(ILjava/lang/String;)V" = some ⟨[.int, (.object "java/lang/String")], none⟩ := by decide +kernel
theorem dap_0 : decode jdk_68_method_22_code 0 = .ok (.aload_n 1, 1) := by decide +kernel
theorem dap_1 : decode jdk_68_method_22_code 1 = .ok (.ifnonnull 8, 3) := by decide +kernel
theorem dap_9 : decode jdk_68_method_22_code 9 = .ok (.aload_n 1, 1) := by decide +kernel
theorem dap_10 : decode jdk_68_method_22_code 10 = .ok (.invokevirtual 32, 3) := by decide +kernel
theorem dap_13 : decode jdk_68_method_22_code 13 = .ok (.istore_n 2, 1) := by decide +kernel
theorem dap_14 : decode jdk_68_method_22_code 14 = .ok (.aload_n 0, 1) := by decide +kernel
theorem dap_15 : decode jdk_68_method_22_code 15 = .ok (.aload_n 0, 1) := by decide +kernel
theorem dap_16 : decode jdk_68_method_22_code 16 = .ok (.getfield 79, 3) := by decide +kernel
theorem dap_19 : decode jdk_68_method_22_code 19 = .ok (.iload_n 2, 1) := by decide +kernel
theorem dap_20 : decode jdk_68_method_22_code 20 = .ok (.iadd, 1) := by decide +kernel
theorem dap_21 : decode jdk_68_method_22_code 21 = .ok (.invokevirtual 100, 3) := by decide +kernel
theorem dap_24 : decode jdk_68_method_22_code 24 = .ok (.aload_n 0, 1) := by decide +kernel
theorem dap_25 : decode jdk_68_method_22_code 25 = .ok (.aload_n 0, 1) := by decide +kernel
theorem dap_26 : decode jdk_68_method_22_code 26 = .ok (.getfield 79, 3) := by decide +kernel
theorem dap_29 : decode jdk_68_method_22_code 29 = .ok (.aload_n 1, 1) := by decide +kernel
theorem dap_30 : decode jdk_68_method_22_code 30 = .ok (.invokevirtual 208, 3) := by decide +kernel
theorem dap_33 : decode jdk_68_method_22_code 33 = .ok (.aload_n 0, 1) := by decide +kernel
theorem dap_34 : decode jdk_68_method_22_code 34 = .ok (.dup, 1) := by decide +kernel
theorem dap_35 : decode jdk_68_method_22_code 35 = .ok (.getfield 79, 3) := by decide +kernel
theorem dap_38 : decode jdk_68_method_22_code 38 = .ok (.iload_n 2, 1) := by decide +kernel
theorem dap_39 : decode jdk_68_method_22_code 39 = .ok (.iadd, 1) := by decide +kernel
theorem dap_40 : decode jdk_68_method_22_code 40 = .ok (.putfield 79, 3) := by decide +kernel
theorem dap_43 : decode jdk_68_method_22_code 43 = .ok (.aload_n 0, 1) := by decide +kernel
theorem dap_44 : decode jdk_68_method_22_code 44 = .ok (.areturn, 1) := by decide +kernel
set_option maxRecDepth 65536 in
set_option maxHeartbeats 40000000 in
theorem c_apA (l : Launch) (Z : State) (a0 : Array Value) (hw : ∀ d ∈ tables_1, d.before a0 Z = true) (a1 : Addr) (a2 : Addr) (h0 : Heap) (n0 : Nat) (b1 b2 : Addr) (g : Nat → Int32) (hB : Byt g 26) (ga : n0 ≤ a1) (ne : a1 ≠ b1) (n12 : a1 ≠ a2) (n1b : a1 ≠ b2) (Zn : n0 ≤ h0.size) (cs : Int32) (hcs : ¬ cs = 0) (S_COMPACT_STRINGS : Sta Z h0 "java/lang/String" "COMPACT_STRINGS" "Z" (.int cs)) (X_a1 : Exa Z h0 a1 "java/lang/StringBuilder") (F_value_a1 : Fld Z h0 a1 "java/lang/AbstractStringBuilder" "value" "[B" (.ref b1)) (F_coder_a1 : Fld Z h0 a1 "java/lang/AbstractStringBuilder" "coder" "B" (.int (0 : Int32))) (F_count_a1 : Fld Z h0 a1 "java/lang/AbstractStringBuilder" "count" "I" (.int (0 : Int32))) (F_maybeLatin1_a1 : Fld Z h0 a1 "java/lang/AbstractStringBuilder" "maybeLatin1" "Z" (.int (0 : Int32))) (X_a2 : Exa Z h0 a2 "java/lang/String") (F_coder_a2 : Fld Z h0 a2 "java/lang/String" "coder" "B" (.int (0 : Int32))) (F_value_a2 : Fld Z h0 a2 "java/lang/String" "value" "[B" (.ref b2)) (A_b2 : Ary Z h0 b2 .byte 26 (fun q => .int (g q))) (A_b1 : Ary Z h0 b1 .byte 16 (fun _ => .int (0 : Int32))) :
    Con l Z consts_1 [] (⟨"java/lang/AbstractStringBuilder", "append", "(Ljava/lang/String;)Ljava/lang/AbstractStringBuilder;"⟩ : MethodName) jdk_68_method_22_code 3 (some (.object "java/lang/AbstractStringBuilder")) ({ frames := 4, cells := 1, slots := 34, locals := 63 } : Room) #[(.ref a1), (.ref a2)] h0 n0 (fun v h P => v = some (.ref a1) ∧ Keep h0 h [a1] ∧ ∃ b, b ∈ P ∧ n0 ≤ b ∧ h0.size ≤ b ∧ (Exa Z h a1 "java/lang/StringBuilder" ∧ Fld Z h a1 "java/lang/AbstractStringBuilder" "value" "[B" (.ref b) ∧ Fld Z h a1 "java/lang/AbstractStringBuilder" "coder" "B" (.int (0 : Int32)) ∧ Fld Z h a1 "java/lang/AbstractStringBuilder" "count" "I" (.int (26 : Int32)) ∧ Fld Z h a1 "java/lang/AbstractStringBuilder" "maybeLatin1" "Z" (.int (0 : Int32))) ∧ Ary Z h b .byte 34 (fun q => .int (if q < 26 then g q else 0))) := by
  refine Con.of (plainFor_of_name (by first | (simp [plainName, overriddenIn]; done) | decide +kernel)) (elw hw) (L0 := #[.val (.ref a1), .val (.ref a2), .unset]) (fun m => by first | (simp [entryFrame, mkF, argsToLocals, Value.category]; done) | rfl) ?_
  intro p e s m below meth c T C S
  have Kp := Keep.refl h0 [a1]
  refine g_aloadN C S dap_0 (pc' := 1) rfl rfl rfl ?_
  refine g_ifnonnull_ref C S dap_1 (pc' := 9) (by decide) (by decide) ?_
  refine g_aloadN C S dap_9 (pc' := 10) rfl rfl rfl ?_
  refine g_callV C S (rm := ({ frames := 1, cells := 0, slots := 0, locals := 13 } : Room)) (W := 0) dap_10 (hw _ (List.mem_of_getElem? (i := 105) rfl)) (hw _ (List.mem_of_getElem? (i := 25) rfl)) (fun _ hZ => notFace_of_selects (args := #[]) (mvT hZ (hw _ (List.mem_of_getElem? (i := 27) rfl)))) (hw _ (List.mem_of_getElem? (i := 27) rfl)) (hw _ (List.mem_of_getElem? (i := 26) rfl)) (hw _ (List.mem_of_getElem? (i := 4) rfl)) (hw _ (List.mem_of_getElem? (i := 28) rfl)) (by decide) rfl X_a2 (c_len l Z a0 hw a2 h0 n0 b2 0 26 26 _ (Or.inl ⟨rfl, rfl⟩) (by omega) cs hcs S_COMPACT_STRINGS X_a2 F_coder_a2 F_value_a2 A_b2) (argsL := []) (r := []) rfl all0 (lenOf pd_22 rfl) rfl (Nat.le_of_eq rfl) (by decide) (by decide) (by decide) (by decide) (pc' := 13) rfl (fun T127 h127 v127 P127 q127 S => ?_)
  obtain ⟨rfl, e127⟩ := q127; rw [e127] at S
  show Gl p e below s Z consts_1 _ n0 _ T127 (mkF m 13 #[.val (.ref a1), .val (.ref a2), .unset] [(.int (26 : Int32))])
  refine g_istoreN C S dap_13 (pc' := 14) rfl (L' := #[.val (.ref a1), .val (.ref a2), .val (.int (26 : Int32))]) rfl ?_
  refine g_aloadN C S dap_14 (pc' := 15) rfl rfl rfl ?_
  refine g_aloadN C S dap_15 (pc' := 16) rfl rfl rfl ?_
  refine g_getF C S dap_16 (host := "") (Or.inl (hw _ (List.mem_of_getElem? (i := 106) rfl))) Via.refl F_count_a1 (pc' := 19) rfl (fun T128 S => ?_)
  refine g_iloadN C S dap_19 (pc' := 20) rfl rfl ?_
  refine g_iadd C S dap_20 (pc' := 21) rfl ?_
  rw [show (((0 : Int32) + (26 : Int32))) = (26 : Int32) by decide]
  refine g_callQ C S (rm := ({ frames := 3, cells := 1, slots := 34, locals := 49 } : Room)) (W := 0) dap_21 (hw _ (List.mem_of_getElem? (i := 108) rfl)) (hw _ (List.mem_of_getElem? (i := 109) rfl)) (hw _ (List.mem_of_getElem? (i := 110) rfl)) (hw _ (List.mem_of_getElem? (i := 111) rfl)) (hw _ (List.mem_of_getElem? (i := 86) rfl)) (hw _ (List.mem_of_getElem? (i := 112) rfl)) (by decide) X_a1 (c_enA l Z a0 hw a1 h0 n0 b1 ga ne Zn X_a1 F_value_a1 F_coder_a1 F_count_a1 F_maybeLatin1_a1 A_b1) (argsL := [(.int (26 : Int32))]) (r := []) rfl all0 (lenOf pd_10 rfl) rfl (Nat.le_of_eq rfl) (by decide) (by decide) (by decide) (by decide) (pc' := 24) rfl (fun T129 h129 v129 P129 q129 S => ?_)
  have X0 := X_a1
  obtain ⟨rfl, K129, b3, pm_b3, ge_b3, sz_b3, ⟨X_a1', F_value_a1, F_coder_a1, F_count_a1, F_maybeLatin1_a1⟩, A_b3⟩ := q129
  have ne_a2_b3 : a2 ≠ b3 := ne_ge sz_b3 X_a2.lt
  have ne_b2_b3 : b2 ≠ b3 := ne_ge sz_b3 A_b2.lt
  have ne_b1_b3 : b1 ≠ b3 := ne_ge sz_b3 A_b1.lt
  have ne_a1_b3 : a1 ≠ b3 := ne_ge sz_b3 X0.lt
  have sz_b3 := Nat.le_trans Kp.1 sz_b3
  have pm_b3 := On.ml S pm_b3
  have Kp := Kp.trans K129 (allS (Or.inl (List.mem_of_getElem? (i := 0) rfl)) all0)
  have S_COMPACT_STRINGS := Sta.keep1 S_COMPACT_STRINGS K129 (X0.nostat)
  have X_a2 := X_a2.keep K129
  have F_coder_a2 := F_coder_a2.keep K129 (ninS (Ne.symm n12) nin0)
  have F_value_a2 := F_value_a2.keep K129 (ninS (Ne.symm n12) nin0)
  have A_b2 := A_b2.keep K129 (ninS (Ne.symm n1b) nin0)
  have Zn := Nat.le_trans Zn K129.1
  have X_a1 := X_a1'
  show Gl p e below s Z consts_1 _ n0 _ T129 (mkF m 24 #[.val (.ref a1), .val (.ref a2), .val (.int (26 : Int32))] [])
  refine g_aloadN C S dap_24 (pc' := 25) rfl rfl rfl ?_
  refine g_aloadN C S dap_25 (pc' := 26) rfl rfl rfl ?_
  refine g_getF C S dap_26 (host := "") (Or.inl (hw _ (List.mem_of_getElem? (i := 106) rfl))) Via.refl F_count_a1 (pc' := 29) rfl (fun T130 S => ?_)
  refine g_aloadN C S dap_29 (pc' := 30) rfl rfl rfl ?_
  refine g_callQ C S (rm := ({ frames := 2, cells := 0, slots := 0, locals := 33 } : Room)) (W := 0) dap_30 (hw _ (List.mem_of_getElem? (i := 139) rfl)) (hw _ (List.mem_of_getElem? (i := 140) rfl)) (hw _ (List.mem_of_getElem? (i := 141) rfl)) (hw _ (List.mem_of_getElem? (i := 142) rfl)) (hw _ (List.mem_of_getElem? (i := 86) rfl)) (hw _ (List.mem_of_getElem? (i := 143) rfl)) (by decide) X_a1 (c_ps0 l Z a0 hw a1 a2 h129 n0 b3 b2 _ 26 34 0 g (fun _ => 0) (by omega) (by omega) hB (fun _ _ => rfl) ge_b3 cs hcs S_COMPACT_STRINGS X_a1 F_value_a1 F_coder_a1 F_count_a1 F_maybeLatin1_a1 X_a2 F_coder_a2 F_value_a2 A_b2 A_b3) (argsL := [(.int (0 : Int32)), (.ref a2)]) (r := []) rfl (allS pm_b3 all0) (lenOf pd_23 rfl) rfl (Nat.le_of_eq rfl) (by decide) (by decide) (by decide) (by decide) (pc' := 33) rfl (fun T131 h131 v131 P131 q131 S => ?_)
  have pm_b3 := List.mem_append_right P131 pm_b3
  obtain ⟨rfl, K131, B131⟩ := q131
  have Kp := Kp.trans K131 (allS (Or.inr sz_b3) all0)
  have S_COMPACT_STRINGS := Sta.keep1 S_COMPACT_STRINGS K131 (Ary.nostat A_b3)
  have X_a2 := X_a2.keep K131
  have F_coder_a2 := F_coder_a2.keep K131 (ninS ne_a2_b3 nin0)
  have F_value_a2 := F_value_a2.keep K131 (ninS ne_a2_b3 nin0)
  have A_b2 := A_b2.keep K131 (ninS ne_b2_b3 nin0)
  have Zn := Nat.le_trans Zn K131.1
  have X_a1 := X_a1.keep K131
  have F_value_a1 := F_value_a1.keep K131 (ninS ne_a1_b3 nin0)
  have F_coder_a1 := F_coder_a1.keep K131 (ninS ne_a1_b3 nin0)
  have F_count_a1 := F_count_a1.keep K131 (ninS ne_a1_b3 nin0)
  have F_maybeLatin1_a1 := F_maybeLatin1_a1.keep K131 (ninS ne_a1_b3 nin0)
  have A_b3 := B131
  show Gl p e below s Z consts_1 _ n0 _ T131 (mkF m 33 #[.val (.ref a1), .val (.ref a2), .val (.int (26 : Int32))] [])
  refine g_aloadN C S dap_33 (pc' := 34) rfl rfl rfl ?_
  refine g_dup C S dap_34 (pc' := 35) rfl rfl ?_
  refine g_getF C S dap_35 (host := "") (Or.inl (hw _ (List.mem_of_getElem? (i := 106) rfl))) Via.refl F_count_a1 (pc' := 38) rfl (fun T132 S => ?_)
  refine g_iloadN C S dap_38 (pc' := 39) rfl rfl ?_
  refine g_iadd C S dap_39 (pc' := 40) rfl ?_
  rw [show (((0 : Int32) + (26 : Int32))) = (26 : Int32) by decide]
  refine g_putF C S dap_40 (host := "") (Or.inl (hw _ (List.mem_of_getElem? (i := 106) rfl))) Via.refl F_count_a1 X_a1 (Or.inl (hw _ (List.mem_of_getElem? (i := 107) rfl))) (hw _ (List.mem_of_getElem? (i := 77) rfl)) (ty := .int) (by decide) rfl rfl ga (Or.inr (by decide)) (pc' := 43) rfl (fun T133 h133 S W133 => ?_)
  have X_a2 := X_a2.wr W133
  have F_coder_a2 := F_coder_a2.other W133 (Or.inl (Ne.symm n12))
  have F_value_a2 := F_value_a2.other W133 (Or.inl (Ne.symm n12))
  have A_b2 := A_b2.other W133 (Ne.symm n1b)
  have S_COMPACT_STRINGS := S_COMPACT_STRINGS.wr W133
  have Zn := Nat.le_trans Zn (Nat.le_of_eq W133.size.symm)
  have X_a1 := X_a1.wr W133
  have F_value_a1 := F_value_a1.other W133 (Or.inr (slot_ne (a0 := a0) (t := (.array .byte)) (t' := .int) (Or.inl (hw _ (List.mem_of_getElem? (i := 91) rfl))) (Or.inl (hw _ (List.mem_of_getElem? (i := 107) rfl))) (by decide) (by decide) (by decide)))
  have F_coder_a1 := F_coder_a1.other W133 (Or.inr (slot_ne (a0 := a0) (t := .byte) (t' := .int) (Or.inl (hw _ (List.mem_of_getElem? (i := 93) rfl))) (Or.inl (hw _ (List.mem_of_getElem? (i := 107) rfl))) (by decide) (by decide) (by decide)))
  have F_count_a1 := F_count_a1.same W133
  have F_maybeLatin1_a1 := F_maybeLatin1_a1.other W133 (Or.inr (slot_ne (a0 := a0) (t := .boolean) (t' := .int) (Or.inl (hw _ (List.mem_of_getElem? (i := 249) rfl))) (Or.inl (hw _ (List.mem_of_getElem? (i := 107) rfl))) (by decide) (by decide) (by decide)))
  have A_b3 := A_b3.other W133 (Ne.symm ne_a1_b3)
  have Kp := Kp.wr W133 (Or.inl (List.mem_of_getElem? (i := 0) rfl))
  refine g_aloadN C S dap_43 (pc' := 44) rfl rfl rfl ?_
  exact g_retA C S dap_44 rfl rfl rfl (by decide) (by decide) (⟨rfl, Kp, b3, pm_b3, ge_b3, sz_b3, ⟨X_a1, F_value_a1, F_coder_a1, F_count_a1, F_maybeLatin1_a1⟩, A_b3.cg fun q hq => by simp⟩)
theorem pd_24 : parseMethodDescriptor "(Ljava/lang/String;)Ljava/lang/AbstractStringBuilder;" = some ⟨[(.object "java/lang/String")], some (.object "java/lang/AbstractStringBuilder")⟩ := by decide +kernel
theorem dsp_0 : decode jdk_67_method_7_code 0 = .ok (.aload_n 0, 1) := by decide +kernel
theorem dsp_1 : decode jdk_67_method_7_code 1 = .ok (.aload_n 1, 1) := by decide +kernel
theorem dsp_2 : decode jdk_67_method_7_code 2 = .ok (.invokespecial 29, 3) := by decide +kernel
theorem dsp_5 : decode jdk_67_method_7_code 5 = .ok (.pop, 1) := by decide +kernel
theorem dsp_6 : decode jdk_67_method_7_code 6 = .ok (.aload_n 0, 1) := by decide +kernel
theorem dsp_7 : decode jdk_67_method_7_code 7 = .ok (.areturn, 1) := by decide +kernel
set_option maxRecDepth 65536 in
set_option maxHeartbeats 40000000 in
theorem c_spA (l : Launch) (Z : State) (a0 : Array Value) (hw : ∀ d ∈ tables_1, d.before a0 Z = true) (a1 : Addr) (a2 : Addr) (h0 : Heap) (n0 : Nat) (b1 b2 : Addr) (g : Nat → Int32) (hB : Byt g 26) (ga : n0 ≤ a1) (ne : a1 ≠ b1) (n12 : a1 ≠ a2) (n1b : a1 ≠ b2) (Zn : n0 ≤ h0.size) (cs : Int32) (hcs : ¬ cs = 0) (S_COMPACT_STRINGS : Sta Z h0 "java/lang/String" "COMPACT_STRINGS" "Z" (.int cs)) (X_a1 : Exa Z h0 a1 "java/lang/StringBuilder") (F_value_a1 : Fld Z h0 a1 "java/lang/AbstractStringBuilder" "value" "[B" (.ref b1)) (F_coder_a1 : Fld Z h0 a1 "java/lang/AbstractStringBuilder" "coder" "B" (.int (0 : Int32))) (F_count_a1 : Fld Z h0 a1 "java/lang/AbstractStringBuilder" "count" "I" (.int (0 : Int32))) (F_maybeLatin1_a1 : Fld Z h0 a1 "java/lang/AbstractStringBuilder" "maybeLatin1" "Z" (.int (0 : Int32))) (X_a2 : Exa Z h0 a2 "java/lang/String") (F_coder_a2 : Fld Z h0 a2 "java/lang/String" "coder" "B" (.int (0 : Int32))) (F_value_a2 : Fld Z h0 a2 "java/lang/String" "value" "[B" (.ref b2)) (A_b2 : Ary Z h0 b2 .byte 26 (fun q => .int (g q))) (A_b1 : Ary Z h0 b1 .byte 16 (fun _ => .int (0 : Int32))) :
    Con l Z consts_1 [] (⟨"java/lang/StringBuilder", "append", "(Ljava/lang/String;)Ljava/lang/StringBuilder;"⟩ : MethodName) jdk_67_method_7_code 2 (some (.object "java/lang/StringBuilder")) ({ frames := 5, cells := 1, slots := 34, locals := 77 } : Room) #[(.ref a1), (.ref a2)] h0 n0 (fun v h P => v = some (.ref a1) ∧ Keep h0 h [a1] ∧ ∃ b, b ∈ P ∧ n0 ≤ b ∧ h0.size ≤ b ∧ (Exa Z h a1 "java/lang/StringBuilder" ∧ Fld Z h a1 "java/lang/AbstractStringBuilder" "value" "[B" (.ref b) ∧ Fld Z h a1 "java/lang/AbstractStringBuilder" "coder" "B" (.int (0 : Int32)) ∧ Fld Z h a1 "java/lang/AbstractStringBuilder" "count" "I" (.int (26 : Int32)) ∧ Fld Z h a1 "java/lang/AbstractStringBuilder" "maybeLatin1" "Z" (.int (0 : Int32))) ∧ Ary Z h b .byte 34 (fun q => .int (if q < 26 then g q else 0))) := by
  refine Con.of (plainFor_of_name (by first | (simp [plainName, overriddenIn]; done) | decide +kernel)) (elw hw) (L0 := #[.val (.ref a1), .val (.ref a2)]) (fun m => by first | (simp [entryFrame, mkF, argsToLocals, Value.category]; done) | rfl) ?_
  intro p e s m below meth c T C S
  refine g_aloadN C S dsp_0 (pc' := 1) rfl rfl rfl ?_
  refine g_aloadN C S dsp_1 (pc' := 2) rfl rfl rfl ?_
  refine g_callU C S (rm := ({ frames := 4, cells := 1, slots := 34, locals := 63 } : Room)) (W := 0) dsp_2 (hw _ (List.mem_of_getElem? (i := 100) rfl)) (same_self (args := a0) (notFace_other (y := (⟨"java/lang/AbstractStringBuilder", "ensureCapacityInternal", "(I)V"⟩ : MethodName)) (args := a0) rfl (notFace_of_selects (args := a0) (hw _ (List.mem_of_getElem? (i := 111) rfl))) (hw _ (List.mem_of_getElem? (i := 109) rfl))) (hw _ (List.mem_of_getElem? (i := 101) rfl)) (by decide)) (hw _ (List.mem_of_getElem? (i := 101) rfl)) (hw _ (List.mem_of_getElem? (i := 102) rfl)) (by decide) (hw _ (List.mem_of_getElem? (i := 86) rfl)) (hw _ (List.mem_of_getElem? (i := 104) rfl)) X_a1 (c_apA l Z a0 hw a1 a2 h0 n0 b1 b2 g hB ga ne n12 n1b Zn cs hcs S_COMPACT_STRINGS X_a1 F_value_a1 F_coder_a1 F_count_a1 F_maybeLatin1_a1 X_a2 F_coder_a2 F_value_a2 A_b2 A_b1) (argsL := [(.ref a2)]) (r := []) rfl all0 (lenOf pd_24 rfl) rfl (Nat.le_of_eq rfl) (by decide) (by decide) (by decide) (by decide) (pc' := 5) rfl (fun T134 h134 v134 P134 q134 S => ?_)
  obtain ⟨rfl, K134, b, pb, q134⟩ := q134
  show Gl p e below s Z consts_1 _ n0 _ T134 (mkF m 5 #[.val (.ref a1), .val (.ref a2)] [(.ref a1)])
  refine g_pop C S dsp_5 (pc' := 6) rfl rfl ?_
  refine g_aloadN C S dsp_6 (pc' := 7) rfl rfl rfl ?_
  exact g_retA C S dsp_7 rfl rfl rfl (by decide) (by decide) (⟨rfl, K134, b, List.mem_append_left _ pb, q134⟩)
set_option maxRecDepth 65536 in
set_option maxHeartbeats 40000000 in
theorem c_ap0 (l : Launch) (Z : State) (a0 : Array Value) (hw : ∀ d ∈ tables_1, d.before a0 Z = true) (a1 : Addr) (a2 : Addr) (h0 : Heap) (n0 : Nat) (b1 b2 : Addr) (n : Nat) (g g2 : Nat → Int32) (hn : n ≤ 3) (hB : Byt g n) (hB2 : Byt g2 34) (ga : n0 ≤ a1) (gb : n0 ≤ b1) (ne : a1 ≠ b1) (n12 : a1 ≠ a2) (n1b : a1 ≠ b2) (nb2 : b1 ≠ a2) (nbb : b1 ≠ b2) (cs : Int32) (hcs : ¬ cs = 0) (S_COMPACT_STRINGS : Sta Z h0 "java/lang/String" "COMPACT_STRINGS" "Z" (.int cs)) (X_a1 : Exa Z h0 a1 "java/lang/StringBuilder") (F_value_a1 : Fld Z h0 a1 "java/lang/AbstractStringBuilder" "value" "[B" (.ref b1)) (F_coder_a1 : Fld Z h0 a1 "java/lang/AbstractStringBuilder" "coder" "B" (.int (0 : Int32))) (F_count_a1 : Fld Z h0 a1 "java/lang/AbstractStringBuilder" "count" "I" (.int (26 : Int32))) (F_maybeLatin1_a1 : Fld Z h0 a1 "java/lang/AbstractStringBuilder" "maybeLatin1" "Z" (.int (0 : Int32))) (X_a2 : Exa Z h0 a2 "java/lang/String") (F_coder_a2 : Fld Z h0 a2 "java/lang/String" "coder" "B" (.int (0 : Int32))) (F_value_a2 : Fld Z h0 a2 "java/lang/String" "value" "[B" (.ref b2)) (A_b2 : Ary Z h0 b2 .byte n (fun q => .int (g q))) (A_b1 : Ary Z h0 b1 .byte 34 (fun q => .int (g2 q))) :
    Con l Z consts_1 [b1] (⟨"java/lang/AbstractStringBuilder", "append", "(Ljava/lang/String;)Ljava/lang/AbstractStringBuilder;"⟩ : MethodName) jdk_68_method_22_code 3 (some (.object "java/lang/AbstractStringBuilder")) ({ frames := 3, cells := 0, slots := 0, locals := 47 } : Room) #[(.ref a1), (.ref a2)] h0 n0 (fun v h P => v = some (.ref a1) ∧ Keep h0 h [a1, b1] ∧ (Exa Z h a1 "java/lang/StringBuilder" ∧ Fld Z h a1 "java/lang/AbstractStringBuilder" "value" "[B" (.ref b1) ∧ Fld Z h a1 "java/lang/AbstractStringBuilder" "coder" "B" (.int (0 : Int32)) ∧ Fld Z h a1 "java/lang/AbstractStringBuilder" "count" "I" (.int (Int32.ofNat (26 + n))) ∧ Fld Z h a1 "java/lang/AbstractStringBuilder" "maybeLatin1" "Z" (.int (0 : Int32))) ∧ Ary Z h b1 .byte 34 (fun q => .int (if 26 ≤ q ∧ q < 26 + n then g (q - 26) else g2 q))) := by
  refine Con.of (plainFor_of_name (by first | (simp [plainName, overriddenIn]; done) | decide +kernel)) (elw hw) (L0 := #[.val (.ref a1), .val (.ref a2), .unset]) (fun m => by first | (simp [entryFrame, mkF, argsToLocals, Value.category]; done) | rfl) ?_
  intro p e s m below meth c T C S
  have pm_b1 : b1 ∈ [b1] := List.mem_of_getElem? (i := 0) rfl
  have Kp := Keep.refl h0 [a1, b1]
  refine g_aloadN C S dap_0 (pc' := 1) rfl rfl rfl ?_
  refine g_ifnonnull_ref C S dap_1 (pc' := 9) (by decide) (by decide) ?_
  refine g_aloadN C S dap_9 (pc' := 10) rfl rfl rfl ?_
  refine g_callV C S (rm := ({ frames := 1, cells := 0, slots := 0, locals := 13 } : Room)) (W := 0) dap_10 (hw _ (List.mem_of_getElem? (i := 105) rfl)) (hw _ (List.mem_of_getElem? (i := 25) rfl)) (fun _ hZ => notFace_of_selects (args := #[]) (mvT hZ (hw _ (List.mem_of_getElem? (i := 27) rfl)))) (hw _ (List.mem_of_getElem? (i := 27) rfl)) (hw _ (List.mem_of_getElem? (i := 26) rfl)) (hw _ (List.mem_of_getElem? (i := 4) rfl)) (hw _ (List.mem_of_getElem? (i := 28) rfl)) (by decide) rfl X_a2 (c_len l Z a0 hw a2 h0 n0 b2 0 n n _ (Or.inl ⟨rfl, rfl⟩) (by omega) cs hcs S_COMPACT_STRINGS X_a2 F_coder_a2 F_value_a2 A_b2) (argsL := []) (r := []) rfl all0 (lenOf pd_22 rfl) rfl (Nat.le_of_eq rfl) (by decide) (by decide) (by decide) (by decide) (pc' := 13) rfl (fun T135 h135 v135 P135 q135 S => ?_)
  have pm_b1 := List.mem_append_right P135 pm_b1
  obtain ⟨rfl, e135⟩ := q135; rw [e135] at S
  show Gl p e below s Z consts_1 _ n0 _ T135 (mkF m 13 #[.val (.ref a1), .val (.ref a2), .unset] [(.int (Int32.ofNat n))])
  refine g_istoreN C S dap_13 (pc' := 14) rfl (L' := #[.val (.ref a1), .val (.ref a2), .val (.int (Int32.ofNat n))]) rfl ?_
  refine g_aloadN C S dap_14 (pc' := 15) rfl rfl rfl ?_
  refine g_aloadN C S dap_15 (pc' := 16) rfl rfl rfl ?_
  refine g_getF C S dap_16 (host := "") (Or.inl (hw _ (List.mem_of_getElem? (i := 106) rfl))) Via.refl F_count_a1 (pc' := 19) rfl (fun T136 S => ?_)
  refine g_iloadN C S dap_19 (pc' := 20) rfl rfl ?_
  refine g_iadd C S dap_20 (pc' := 21) rfl ?_
  rw [add26]
  refine g_callQ C S (rm := ({ frames := 0, cells := 0, slots := 0, locals := 0 } : Room)) (W := 0) dap_21 (hw _ (List.mem_of_getElem? (i := 108) rfl)) (hw _ (List.mem_of_getElem? (i := 109) rfl)) (hw _ (List.mem_of_getElem? (i := 110) rfl)) (hw _ (List.mem_of_getElem? (i := 111) rfl)) (hw _ (List.mem_of_getElem? (i := 86) rfl)) (hw _ (List.mem_of_getElem? (i := 112) rfl)) (by decide) X_a1 (c_enB l Z a0 hw a1 h0 n0 b1 _ (26 + n) _ (by omega) X_a1 F_value_a1 F_coder_a1 F_count_a1 F_maybeLatin1_a1 A_b1) (argsL := [(.int (Int32.ofNat (26 + n)))]) (r := []) rfl all0 (lenOf pd_10 rfl) rfl (Nat.le_of_eq rfl) (by decide) (by decide) (by decide) (by decide) (pc' := 24) rfl (fun T137 h137 v137 P137 q137 S => ?_)
  have pm_b1 := List.mem_append_right P137 pm_b1
  obtain ⟨rfl, e137⟩ := q137; rw [e137] at S
  show Gl p e below s Z consts_1 _ n0 _ T137 (mkF m 24 #[.val (.ref a1), .val (.ref a2), .val (.int (Int32.ofNat n))] [])
  refine g_aloadN C S dap_24 (pc' := 25) rfl rfl rfl ?_
  refine g_aloadN C S dap_25 (pc' := 26) rfl rfl rfl ?_
  refine g_getF C S dap_26 (host := "") (Or.inl (hw _ (List.mem_of_getElem? (i := 106) rfl))) Via.refl F_count_a1 (pc' := 29) rfl (fun T138 S => ?_)
  refine g_aloadN C S dap_29 (pc' := 30) rfl rfl rfl ?_
  refine g_callQ C S (rm := ({ frames := 2, cells := 0, slots := 0, locals := 33 } : Room)) (W := 0) dap_30 (hw _ (List.mem_of_getElem? (i := 139) rfl)) (hw _ (List.mem_of_getElem? (i := 140) rfl)) (hw _ (List.mem_of_getElem? (i := 141) rfl)) (hw _ (List.mem_of_getElem? (i := 142) rfl)) (hw _ (List.mem_of_getElem? (i := 86) rfl)) (hw _ (List.mem_of_getElem? (i := 143) rfl)) (by decide) X_a1 (c_ps0 l Z a0 hw a1 a2 h0 n0 b1 b2 _ n 34 26 g g2 (by omega) (by omega) hB hB2 gb cs hcs S_COMPACT_STRINGS X_a1 F_value_a1 F_coder_a1 F_count_a1 F_maybeLatin1_a1 X_a2 F_coder_a2 F_value_a2 A_b2 A_b1) (argsL := [(.int (26 : Int32)), (.ref a2)]) (r := []) rfl (allS pm_b1 all0) (lenOf pd_23 rfl) rfl (Nat.le_of_eq rfl) (by decide) (by decide) (by decide) (by decide) (pc' := 33) rfl (fun T139 h139 v139 P139 q139 S => ?_)
  have pm_b1 := List.mem_append_right P139 pm_b1
  obtain ⟨rfl, K139, B139⟩ := q139
  have Kp := Kp.trans K139 (allS (Or.inl (List.mem_of_getElem? (i := 1) rfl)) all0)
  have S_COMPACT_STRINGS := Sta.keep1 S_COMPACT_STRINGS K139 (Ary.nostat A_b1)
  have X_a1 := X_a1.keep K139
  have F_value_a1 := F_value_a1.keep K139 (ninS ne nin0)
  have F_coder_a1 := F_coder_a1.keep K139 (ninS ne nin0)
  have F_count_a1 := F_count_a1.keep K139 (ninS ne nin0)
  have F_maybeLatin1_a1 := F_maybeLatin1_a1.keep K139 (ninS ne nin0)
  have X_a2 := X_a2.keep K139
  have F_coder_a2 := F_coder_a2.keep K139 (ninS (Ne.symm nb2) nin0)
  have F_value_a2 := F_value_a2.keep K139 (ninS (Ne.symm nb2) nin0)
  have A_b2 := A_b2.keep K139 (ninS (Ne.symm nbb) nin0)
  have A_b1 := B139
  show Gl p e below s Z consts_1 _ n0 _ T139 (mkF m 33 #[.val (.ref a1), .val (.ref a2), .val (.int (Int32.ofNat n))] [])
  refine g_aloadN C S dap_33 (pc' := 34) rfl rfl rfl ?_
  refine g_dup C S dap_34 (pc' := 35) rfl rfl ?_
  refine g_getF C S dap_35 (host := "") (Or.inl (hw _ (List.mem_of_getElem? (i := 106) rfl))) Via.refl F_count_a1 (pc' := 38) rfl (fun T140 S => ?_)
  refine g_iloadN C S dap_38 (pc' := 39) rfl rfl ?_
  refine g_iadd C S dap_39 (pc' := 40) rfl ?_
  rw [add26]
  refine g_putF C S dap_40 (host := "") (Or.inl (hw _ (List.mem_of_getElem? (i := 106) rfl))) Via.refl F_count_a1 X_a1 (Or.inl (hw _ (List.mem_of_getElem? (i := 107) rfl))) (hw _ (List.mem_of_getElem? (i := 77) rfl)) (ty := .int) (by decide) rfl rfl ga (Or.inr (by decide)) (pc' := 43) rfl (fun T141 h141 S W141 => ?_)
  have X_a1 := X_a1.wr W141
  have F_value_a1 := F_value_a1.other W141 (Or.inr (slot_ne (a0 := a0) (t := (.array .byte)) (t' := .int) (Or.inl (hw _ (List.mem_of_getElem? (i := 91) rfl))) (Or.inl (hw _ (List.mem_of_getElem? (i := 107) rfl))) (by decide) (by decide) (by decide)))
  have F_coder_a1 := F_coder_a1.other W141 (Or.inr (slot_ne (a0 := a0) (t := .byte) (t' := .int) (Or.inl (hw _ (List.mem_of_getElem? (i := 93) rfl))) (Or.inl (hw _ (List.mem_of_getElem? (i := 107) rfl))) (by decide) (by decide) (by decide)))
  have F_count_a1 := F_count_a1.same W141
  have F_maybeLatin1_a1 := F_maybeLatin1_a1.other W141 (Or.inr (slot_ne (a0 := a0) (t := .boolean) (t' := .int) (Or.inl (hw _ (List.mem_of_getElem? (i := 249) rfl))) (Or.inl (hw _ (List.mem_of_getElem? (i := 107) rfl))) (by decide) (by decide) (by decide)))
  have X_a2 := X_a2.wr W141
  have F_coder_a2 := F_coder_a2.other W141 (Or.inl (Ne.symm n12))
  have F_value_a2 := F_value_a2.other W141 (Or.inl (Ne.symm n12))
  have A_b2 := A_b2.other W141 (Ne.symm n1b)
  have S_COMPACT_STRINGS := S_COMPACT_STRINGS.wr W141
  have A_b1 := A_b1.other W141 (Ne.symm ne)
  have Kp := Kp.wr W141 (Or.inl (List.mem_of_getElem? (i := 0) rfl))
  refine g_aloadN C S dap_43 (pc' := 44) rfl rfl rfl ?_
  exact g_retA C S dap_44 rfl rfl rfl (by decide) (by decide) (⟨rfl, Kp, ⟨X_a1, F_value_a1, F_coder_a1, F_count_a1, F_maybeLatin1_a1⟩, A_b1⟩)
set_option maxRecDepth 65536 in
set_option maxHeartbeats 40000000 in
theorem c_sp0 (l : Launch) (Z : State) (a0 : Array Value) (hw : ∀ d ∈ tables_1, d.before a0 Z = true) (a1 : Addr) (a2 : Addr) (h0 : Heap) (n0 : Nat) (b1 b2 : Addr) (n : Nat) (g g2 : Nat → Int32) (hn : n ≤ 3) (hB : Byt g n) (hB2 : Byt g2 34) (ga : n0 ≤ a1) (gb : n0 ≤ b1) (ne : a1 ≠ b1) (n12 : a1 ≠ a2) (n1b : a1 ≠ b2) (nb2 : b1 ≠ a2) (nbb : b1 ≠ b2) (cs : Int32) (hcs : ¬ cs = 0) (S_COMPACT_STRINGS : Sta Z h0 "java/lang/String" "COMPACT_STRINGS" "Z" (.int cs)) (X_a1 : Exa Z h0 a1 "java/lang/StringBuilder") (F_value_a1 : Fld Z h0 a1 "java/lang/AbstractStringBuilder" "value" "[B" (.ref b1)) (F_coder_a1 : Fld Z h0 a1 "java/lang/AbstractStringBuilder" "coder" "B" (.int (0 : Int32))) (F_count_a1 : Fld Z h0 a1 "java/lang/AbstractStringBuilder" "count" "I" (.int (26 : Int32))) (F_maybeLatin1_a1 : Fld Z h0 a1 "java/lang/AbstractStringBuilder" "maybeLatin1" "Z" (.int (0 : Int32))) (X_a2 : Exa Z h0 a2 "java/lang/String") (F_coder_a2 : Fld Z h0 a2 "java/lang/String" "coder" "B" (.int (0 : Int32))) (F_value_a2 : Fld Z h0 a2 "java/lang/String" "value" "[B" (.ref b2)) (A_b2 : Ary Z h0 b2 .byte n (fun q => .int (g q))) (A_b1 : Ary Z h0 b1 .byte 34 (fun q => .int (g2 q))) :
    Con l Z consts_1 [b1] (⟨"java/lang/StringBuilder", "append", "(Ljava/lang/String;)Ljava/lang/StringBuilder;"⟩ : MethodName) jdk_67_method_7_code 2 (some (.object "java/lang/StringBuilder")) ({ frames := 4, cells := 0, slots := 0, locals := 61 } : Room) #[(.ref a1), (.ref a2)] h0 n0 (fun v h P => v = some (.ref a1) ∧ Keep h0 h [a1, b1] ∧ (Exa Z h a1 "java/lang/StringBuilder" ∧ Fld Z h a1 "java/lang/AbstractStringBuilder" "value" "[B" (.ref b1) ∧ Fld Z h a1 "java/lang/AbstractStringBuilder" "coder" "B" (.int (0 : Int32)) ∧ Fld Z h a1 "java/lang/AbstractStringBuilder" "count" "I" (.int (Int32.ofNat (26 + n))) ∧ Fld Z h a1 "java/lang/AbstractStringBuilder" "maybeLatin1" "Z" (.int (0 : Int32))) ∧ Ary Z h b1 .byte 34 (fun q => .int (if 26 ≤ q ∧ q < 26 + n then g (q - 26) else g2 q))) := by
  refine Con.of (plainFor_of_name (by first | (simp [plainName, overriddenIn]; done) | decide +kernel)) (elw hw) (L0 := #[.val (.ref a1), .val (.ref a2)]) (fun m => by first | (simp [entryFrame, mkF, argsToLocals, Value.category]; done) | rfl) ?_
  intro p e s m below meth c T C S
  have pm_b1 : b1 ∈ [b1] := List.mem_of_getElem? (i := 0) rfl
  refine g_aloadN C S dsp_0 (pc' := 1) rfl rfl rfl ?_
  refine g_aloadN C S dsp_1 (pc' := 2) rfl rfl rfl ?_
  refine g_callU C S (rm := ({ frames := 3, cells := 0, slots := 0, locals := 47 } : Room)) (W := 0) dsp_2 (hw _ (List.mem_of_getElem? (i := 100) rfl)) (same_self (args := a0) (notFace_other (y := (⟨"java/lang/AbstractStringBuilder", "ensureCapacityInternal", "(I)V"⟩ : MethodName)) (args := a0) rfl (notFace_of_selects (args := a0) (hw _ (List.mem_of_getElem? (i := 111) rfl))) (hw _ (List.mem_of_getElem? (i := 109) rfl))) (hw _ (List.mem_of_getElem? (i := 101) rfl)) (by decide)) (hw _ (List.mem_of_getElem? (i := 101) rfl)) (hw _ (List.mem_of_getElem? (i := 102) rfl)) (by decide) (hw _ (List.mem_of_getElem? (i := 86) rfl)) (hw _ (List.mem_of_getElem? (i := 104) rfl)) X_a1 (c_ap0 l Z a0 hw a1 a2 h0 n0 b1 b2 n g g2 hn hB hB2 ga gb ne n12 n1b nb2 nbb cs hcs S_COMPACT_STRINGS X_a1 F_value_a1 F_coder_a1 F_count_a1 F_maybeLatin1_a1 X_a2 F_coder_a2 F_value_a2 A_b2 A_b1) (argsL := [(.ref a2)]) (r := []) rfl (allS pm_b1 all0) (lenOf pd_24 rfl) rfl (Nat.le_of_eq rfl) (by decide) (by decide) (by decide) (by decide) (pc' := 5) rfl (fun T142 h142 v142 P142 q142 S => ?_)
  have pm_b1 := List.mem_append_right P142 pm_b1
  obtain ⟨rfl, q142⟩ := q142
  show Gl p e below s Z consts_1 _ n0 _ T142 (mkF m 5 #[.val (.ref a1), .val (.ref a2)] [(.ref a1)])
  refine g_pop C S dsp_5 (pc' := 6) rfl rfl ?_
  refine g_aloadN C S dsp_6 (pc' := 7) rfl rfl rfl ?_
  exact g_retA C S dsp_7 rfl rfl rfl (by decide) (by decide) (⟨rfl, q142⟩)
set_option maxRecDepth 65536 in
set_option maxHeartbeats 40000000 in
theorem c_ap1 (l : Launch) (Z : State) (a0 : Array Value) (hw : ∀ d ∈ tables_1, d.before a0 Z = true) (a1 : Addr) (a2 : Addr) (h0 : Heap) (n0 : Nat) (b1 b2 : Addr) (n : Nat) (g g2 : Nat → Int32) (hn : n ≤ 3) (hB : Byt g (2 * n)) (ga : n0 ≤ a1) (ne : a1 ≠ b1) (n12 : a1 ≠ a2) (n1b : a1 ≠ b2) (Zn : n0 ≤ h0.size) (cs : Int32) (hcs : ¬ cs = 0) (S_COMPACT_STRINGS : Sta Z h0 "java/lang/String" "COMPACT_STRINGS" "Z" (.int cs)) (S_assertionsDisabled : Sta Z h0 "java/lang/StringUTF16" "$assertionsDisabled" "Z" (.int (1 : Int32))) (S_HI_BYTE_SHIFT : Sta Z h0 "java/lang/StringUTF16" "HI_BYTE_SHIFT" "I" (.int (0 : Int32))) (S_LO_BYTE_SHIFT : Sta Z h0 "java/lang/StringUTF16" "LO_BYTE_SHIFT" "I" (.int (8 : Int32))) (fm : Value) (hfm : fm.isRef = true) (S_SIOOBE_FORMATTER : Sta Z h0 "jdk/internal/util/Preconditions" "SIOOBE_FORMATTER" "Ljava/util/function/BiFunction;" fm) (X_a1 : Exa Z h0 a1 "java/lang/StringBuilder") (F_value_a1 : Fld Z h0 a1 "java/lang/AbstractStringBuilder" "value" "[B" (.ref b1)) (F_coder_a1 : Fld Z h0 a1 "java/lang/AbstractStringBuilder" "coder" "B" (.int (0 : Int32))) (F_count_a1 : Fld Z h0 a1 "java/lang/AbstractStringBuilder" "count" "I" (.int (26 : Int32))) (F_maybeLatin1_a1 : Fld Z h0 a1 "java/lang/AbstractStringBuilder" "maybeLatin1" "Z" (.int (0 : Int32))) (X_a2 : Exa Z h0 a2 "java/lang/String") (F_coder_a2 : Fld Z h0 a2 "java/lang/String" "coder" "B" (.int (1 : Int32))) (F_value_a2 : Fld Z h0 a2 "java/lang/String" "value" "[B" (.ref b2)) (A_b2 : Ary Z h0 b2 .byte (2 * n) (fun q => .int (g q))) (A_b1 : Ary Z h0 b1 .byte 34 (fun q => .int (g2 q))) :
    Con l Z consts_1 [] (⟨"java/lang/AbstractStringBuilder", "append", "(Ljava/lang/String;)Ljava/lang/AbstractStringBuilder;"⟩ : MethodName) jdk_68_method_22_code 3 (some (.object "java/lang/AbstractStringBuilder")) ({ frames := 8, cells := 1, slots := 80, locals := 116 } : Room) #[(.ref a1), (.ref a2)] h0 n0 (fun v h P => v = some (.ref a1) ∧ Keep h0 h [a1] ∧ ∃ b, (Exa Z h a1 "java/lang/StringBuilder" ∧ Fld Z h a1 "java/lang/AbstractStringBuilder" "value" "[B" (.ref b) ∧ Fld Z h a1 "java/lang/AbstractStringBuilder" "coder" "B" (.int (1 : Int32)) ∧ Fld Z h a1 "java/lang/AbstractStringBuilder" "count" "I" (.int (Int32.ofNat (26 + n))) ∧ Fld Z h a1 "java/lang/AbstractStringBuilder" "maybeLatin1" "Z" (.int (0 : Int32))) ∧ Ary Z h b .byte 68 (fun q => .int (if 52 ≤ q ∧ q < 52 + 2 * n then g (q - 52) else if q < 52 then ub (lw g2) q else 0))) := by
  refine Con.of (plainFor_of_name (by first | (simp [plainName, overriddenIn]; done) | decide +kernel)) (elw hw) (L0 := #[.val (.ref a1), .val (.ref a2), .unset]) (fun m => by first | (simp [entryFrame, mkF, argsToLocals, Value.category]; done) | rfl) ?_
  intro p e s m below meth c T C S
  have Kp := Keep.refl h0 [a1]
  refine g_aloadN C S dap_0 (pc' := 1) rfl rfl rfl ?_
  refine g_ifnonnull_ref C S dap_1 (pc' := 9) (by decide) (by decide) ?_
  refine g_aloadN C S dap_9 (pc' := 10) rfl rfl rfl ?_
  refine g_callV C S (rm := ({ frames := 1, cells := 0, slots := 0, locals := 13 } : Room)) (W := 0) dap_10 (hw _ (List.mem_of_getElem? (i := 105) rfl)) (hw _ (List.mem_of_getElem? (i := 25) rfl)) (fun _ hZ => notFace_of_selects (args := #[]) (mvT hZ (hw _ (List.mem_of_getElem? (i := 27) rfl)))) (hw _ (List.mem_of_getElem? (i := 27) rfl)) (hw _ (List.mem_of_getElem? (i := 26) rfl)) (hw _ (List.mem_of_getElem? (i := 4) rfl)) (hw _ (List.mem_of_getElem? (i := 28) rfl)) (by decide) rfl X_a2 (c_len l Z a0 hw a2 h0 n0 b2 1 (2 * n) n _ (Or.inr ⟨rfl, rfl⟩) (by omega) cs hcs S_COMPACT_STRINGS X_a2 F_coder_a2 F_value_a2 A_b2) (argsL := []) (r := []) rfl all0 (lenOf pd_22 rfl) rfl (Nat.le_of_eq rfl) (by decide) (by decide) (by decide) (by decide) (pc' := 13) rfl (fun T143 h143 v143 P143 q143 S => ?_)
  obtain ⟨rfl, e143⟩ := q143; rw [e143] at S
  show Gl p e below s Z consts_1 _ n0 _ T143 (mkF m 13 #[.val (.ref a1), .val (.ref a2), .unset] [(.int (Int32.ofNat n))])
  refine g_istoreN C S dap_13 (pc' := 14) rfl (L' := #[.val (.ref a1), .val (.ref a2), .val (.int (Int32.ofNat n))]) rfl ?_
  refine g_aloadN C S dap_14 (pc' := 15) rfl rfl rfl ?_
  refine g_aloadN C S dap_15 (pc' := 16) rfl rfl rfl ?_
  refine g_getF C S dap_16 (host := "") (Or.inl (hw _ (List.mem_of_getElem? (i := 106) rfl))) Via.refl F_count_a1 (pc' := 19) rfl (fun T144 S => ?_)
  refine g_iloadN C S dap_19 (pc' := 20) rfl rfl ?_
  refine g_iadd C S dap_20 (pc' := 21) rfl ?_
  rw [add26]
  refine g_callQ C S (rm := ({ frames := 0, cells := 0, slots := 0, locals := 0 } : Room)) (W := 0) dap_21 (hw _ (List.mem_of_getElem? (i := 108) rfl)) (hw _ (List.mem_of_getElem? (i := 109) rfl)) (hw _ (List.mem_of_getElem? (i := 110) rfl)) (hw _ (List.mem_of_getElem? (i := 111) rfl)) (hw _ (List.mem_of_getElem? (i := 86) rfl)) (hw _ (List.mem_of_getElem? (i := 112) rfl)) (by decide) X_a1 (c_enB l Z a0 hw a1 h0 n0 b1 _ (26 + n) _ (by omega) X_a1 F_value_a1 F_coder_a1 F_count_a1 F_maybeLatin1_a1 A_b1) (argsL := [(.int (Int32.ofNat (26 + n)))]) (r := []) rfl all0 (lenOf pd_10 rfl) rfl (Nat.le_of_eq rfl) (by decide) (by decide) (by decide) (by decide) (pc' := 24) rfl (fun T145 h145 v145 P145 q145 S => ?_)
  obtain ⟨rfl, e145⟩ := q145; rw [e145] at S
  show Gl p e below s Z consts_1 _ n0 _ T145 (mkF m 24 #[.val (.ref a1), .val (.ref a2), .val (.int (Int32.ofNat n))] [])
  refine g_aloadN C S dap_24 (pc' := 25) rfl rfl rfl ?_
  refine g_aloadN C S dap_25 (pc' := 26) rfl rfl rfl ?_
  refine g_getF C S dap_26 (host := "") (Or.inl (hw _ (List.mem_of_getElem? (i := 106) rfl))) Via.refl F_count_a1 (pc' := 29) rfl (fun T146 S => ?_)
  refine g_aloadN C S dap_29 (pc' := 30) rfl rfl rfl ?_
  refine g_callQ C S (rm := ({ frames := 7, cells := 1, slots := 80, locals := 102 } : Room)) (W := 0) dap_30 (hw _ (List.mem_of_getElem? (i := 139) rfl)) (hw _ (List.mem_of_getElem? (i := 140) rfl)) (hw _ (List.mem_of_getElem? (i := 141) rfl)) (hw _ (List.mem_of_getElem? (i := 142) rfl)) (hw _ (List.mem_of_getElem? (i := 86) rfl)) (hw _ (List.mem_of_getElem? (i := 143) rfl)) (by decide) X_a1 (c_ps1 l Z a0 hw a1 a2 h0 n0 b1 b2 (2 * n) g g2 (by omega) hB ga ne n12 n1b Zn cs hcs S_COMPACT_STRINGS S_assertionsDisabled S_HI_BYTE_SHIFT S_LO_BYTE_SHIFT fm hfm S_SIOOBE_FORMATTER X_a1 F_value_a1 F_coder_a1 F_count_a1 F_maybeLatin1_a1 X_a2 F_coder_a2 F_value_a2 A_b2 A_b1) (argsL := [(.int (26 : Int32)), (.ref a2)]) (r := []) rfl all0 (lenOf pd_23 rfl) rfl (Nat.le_of_eq rfl) (by decide) (by decide) (by decide) (by decide) (pc' := 33) rfl (fun T147 h147 v147 P147 q147 S => ?_)
  have X0 := X_a1
  obtain ⟨rfl, K147, b3, ⟨X_a1', F_value_a1, F_coder_a1, F_count_a1, F_maybeLatin1_a1⟩, A_b3⟩ := q147
  have Kp := Kp.trans K147 (allS (Or.inl (List.mem_of_getElem? (i := 0) rfl)) all0)
  have S_COMPACT_STRINGS := Sta.keep1 S_COMPACT_STRINGS K147 (X0.nostat)
  have S_assertionsDisabled := Sta.keep1 S_assertionsDisabled K147 (X0.nostat)
  have S_HI_BYTE_SHIFT := Sta.keep1 S_HI_BYTE_SHIFT K147 (X0.nostat)
  have S_LO_BYTE_SHIFT := Sta.keep1 S_LO_BYTE_SHIFT K147 (X0.nostat)
  have S_SIOOBE_FORMATTER := Sta.keep1 S_SIOOBE_FORMATTER K147 (X0.nostat)
  have X_a2 := X_a2.keep K147
  have F_coder_a2 := F_coder_a2.keep K147 (ninS (Ne.symm n12) nin0)
  have F_value_a2 := F_value_a2.keep K147 (ninS (Ne.symm n12) nin0)
  have A_b2 := A_b2.keep K147 (ninS (Ne.symm n1b) nin0)
  have Zn := Nat.le_trans Zn K147.1
  have X_a1 := X_a1'
  have ne3 := exa_ary X_a1 A_b3 (hw _ (List.mem_of_getElem? (i := 77) rfl))
  show Gl p e below s Z consts_1 _ n0 _ T147 (mkF m 33 #[.val (.ref a1), .val (.ref a2), .val (.int (Int32.ofNat n))] [])
  refine g_aloadN C S dap_33 (pc' := 34) rfl rfl rfl ?_
  refine g_dup C S dap_34 (pc' := 35) rfl rfl ?_
  refine g_getF C S dap_35 (host := "") (Or.inl (hw _ (List.mem_of_getElem? (i := 106) rfl))) Via.refl F_count_a1 (pc' := 38) rfl (fun T148 S => ?_)
  refine g_iloadN C S dap_38 (pc' := 39) rfl rfl ?_
  refine g_iadd C S dap_39 (pc' := 40) rfl ?_
  rw [add26]
  refine g_putF C S dap_40 (host := "") (Or.inl (hw _ (List.mem_of_getElem? (i := 106) rfl))) Via.refl F_count_a1 X_a1 (Or.inl (hw _ (List.mem_of_getElem? (i := 107) rfl))) (hw _ (List.mem_of_getElem? (i := 77) rfl)) (ty := .int) (by decide) rfl rfl ga (Or.inr (by decide)) (pc' := 43) rfl (fun T149 h149 S W149 => ?_)
  have X_a2 := X_a2.wr W149
  have F_coder_a2 := F_coder_a2.other W149 (Or.inl (Ne.symm n12))
  have F_value_a2 := F_value_a2.other W149 (Or.inl (Ne.symm n12))
  have A_b2 := A_b2.other W149 (Ne.symm n1b)
  have S_COMPACT_STRINGS := S_COMPACT_STRINGS.wr W149
  have S_assertionsDisabled := S_assertionsDisabled.wr W149
  have S_HI_BYTE_SHIFT := S_HI_BYTE_SHIFT.wr W149
  have S_LO_BYTE_SHIFT := S_LO_BYTE_SHIFT.wr W149
  have S_SIOOBE_FORMATTER := S_SIOOBE_FORMATTER.wr W149
  have Zn := Nat.le_trans Zn (Nat.le_of_eq W149.size.symm)
  have X_a1 := X_a1.wr W149
  have F_value_a1 := F_value_a1.other W149 (Or.inr (slot_ne (a0 := a0) (t := (.array .byte)) (t' := .int) (Or.inl (hw _ (List.mem_of_getElem? (i := 91) rfl))) (Or.inl (hw _ (List.mem_of_getElem? (i := 107) rfl))) (by decide) (by decide) (by decide)))
  have F_coder_a1 := F_coder_a1.other W149 (Or.inr (slot_ne (a0 := a0) (t := .byte) (t' := .int) (Or.inl (hw _ (List.mem_of_getElem? (i := 93) rfl))) (Or.inl (hw _ (List.mem_of_getElem? (i := 107) rfl))) (by decide) (by decide) (by decide)))
  have F_count_a1 := F_count_a1.same W149
  have F_maybeLatin1_a1 := F_maybeLatin1_a1.other W149 (Or.inr (slot_ne (a0 := a0) (t := .boolean) (t' := .int) (Or.inl (hw _ (List.mem_of_getElem? (i := 249) rfl))) (Or.inl (hw _ (List.mem_of_getElem? (i := 107) rfl))) (by decide) (by decide) (by decide)))
  have A_b3 := A_b3.other W149 (Ne.symm ne3)
  have Kp := Kp.wr W149 (Or.inl (List.mem_of_getElem? (i := 0) rfl))
  refine g_aloadN C S dap_43 (pc' := 44) rfl rfl rfl ?_
  exact g_retA C S dap_44 rfl rfl rfl (by decide) (by decide) (⟨rfl, Kp, b3, ⟨X_a1, F_value_a1, F_coder_a1, F_count_a1, F_maybeLatin1_a1⟩, A_b3⟩)
set_option maxRecDepth 65536 in
set_option maxHeartbeats 40000000 in
theorem c_sp1 (l : Launch) (Z : State) (a0 : Array Value) (hw : ∀ d ∈ tables_1, d.before a0 Z = true) (a1 : Addr) (a2 : Addr) (h0 : Heap) (n0 : Nat) (b1 b2 : Addr) (n : Nat) (g g2 : Nat → Int32) (hn : n ≤ 3) (hB : Byt g (2 * n)) (ga : n0 ≤ a1) (ne : a1 ≠ b1) (n12 : a1 ≠ a2) (n1b : a1 ≠ b2) (Zn : n0 ≤ h0.size) (cs : Int32) (hcs : ¬ cs = 0) (S_COMPACT_STRINGS : Sta Z h0 "java/lang/String" "COMPACT_STRINGS" "Z" (.int cs)) (S_assertionsDisabled : Sta Z h0 "java/lang/StringUTF16" "$assertionsDisabled" "Z" (.int (1 : Int32))) (S_HI_BYTE_SHIFT : Sta Z h0 "java/lang/StringUTF16" "HI_BYTE_SHIFT" "I" (.int (0 : Int32))) (S_LO_BYTE_SHIFT : Sta Z h0 "java/lang/StringUTF16" "LO_BYTE_SHIFT" "I" (.int (8 : Int32))) (fm : Value) (hfm : fm.isRef = true) (S_SIOOBE_FORMATTER : Sta Z h0 "jdk/internal/util/Preconditions" "SIOOBE_FORMATTER" "Ljava/util/function/BiFunction;" fm) (X_a1 : Exa Z h0 a1 "java/lang/StringBuilder") (F_value_a1 : Fld Z h0 a1 "java/lang/AbstractStringBuilder" "value" "[B" (.ref b1)) (F_coder_a1 : Fld Z h0 a1 "java/lang/AbstractStringBuilder" "coder" "B" (.int (0 : Int32))) (F_count_a1 : Fld Z h0 a1 "java/lang/AbstractStringBuilder" "count" "I" (.int (26 : Int32))) (F_maybeLatin1_a1 : Fld Z h0 a1 "java/lang/AbstractStringBuilder" "maybeLatin1" "Z" (.int (0 : Int32))) (X_a2 : Exa Z h0 a2 "java/lang/String") (F_coder_a2 : Fld Z h0 a2 "java/lang/String" "coder" "B" (.int (1 : Int32))) (F_value_a2 : Fld Z h0 a2 "java/lang/String" "value" "[B" (.ref b2)) (A_b2 : Ary Z h0 b2 .byte (2 * n) (fun q => .int (g q))) (A_b1 : Ary Z h0 b1 .byte 34 (fun q => .int (g2 q))) :
    Con l Z consts_1 [] (⟨"java/lang/StringBuilder", "append", "(Ljava/lang/String;)Ljava/lang/StringBuilder;"⟩ : MethodName) jdk_67_method_7_code 2 (some (.object "java/lang/StringBuilder")) ({ frames := 9, cells := 1, slots := 80, locals := 130 } : Room) #[(.ref a1), (.ref a2)] h0 n0 (fun v h P => v = some (.ref a1) ∧ Keep h0 h [a1] ∧ ∃ b, (Exa Z h a1 "java/lang/StringBuilder" ∧ Fld Z h a1 "java/lang/AbstractStringBuilder" "value" "[B" (.ref b) ∧ Fld Z h a1 "java/lang/AbstractStringBuilder" "coder" "B" (.int (1 : Int32)) ∧ Fld Z h a1 "java/lang/AbstractStringBuilder" "count" "I" (.int (Int32.ofNat (26 + n))) ∧ Fld Z h a1 "java/lang/AbstractStringBuilder" "maybeLatin1" "Z" (.int (0 : Int32))) ∧ Ary Z h b .byte 68 (fun q => .int (if 52 ≤ q ∧ q < 52 + 2 * n then g (q - 52) else if q < 52 then ub (lw g2) q else 0))) := by
  refine Con.of (plainFor_of_name (by first | (simp [plainName, overriddenIn]; done) | decide +kernel)) (elw hw) (L0 := #[.val (.ref a1), .val (.ref a2)]) (fun m => by first | (simp [entryFrame, mkF, argsToLocals, Value.category]; done) | rfl) ?_
  intro p e s m below meth c T C S
  refine g_aloadN C S dsp_0 (pc' := 1) rfl rfl rfl ?_
  refine g_aloadN C S dsp_1 (pc' := 2) rfl rfl rfl ?_
  refine g_callU C S (rm := ({ frames := 8, cells := 1, slots := 80, locals := 116 } : Room)) (W := 0) dsp_2 (hw _ (List.mem_of_getElem? (i := 100) rfl)) (same_self (args := a0) (notFace_other (y := (⟨"java/lang/AbstractStringBuilder", "ensureCapacityInternal", "(I)V"⟩ : MethodName)) (args := a0) rfl (notFace_of_selects (args := a0) (hw _ (List.mem_of_getElem? (i := 111) rfl))) (hw _ (List.mem_of_getElem? (i := 109) rfl))) (hw _ (List.mem_of_getElem? (i := 101) rfl)) (by decide)) (hw _ (List.mem_of_getElem? (i := 101) rfl)) (hw _ (List.mem_of_getElem? (i := 102) rfl)) (by decide) (hw _ (List.mem_of_getElem? (i := 86) rfl)) (hw _ (List.mem_of_getElem? (i := 104) rfl)) X_a1 (c_ap1 l Z a0 hw a1 a2 h0 n0 b1 b2 n g g2 hn hB ga ne n12 n1b Zn cs hcs S_COMPACT_STRINGS S_assertionsDisabled S_HI_BYTE_SHIFT S_LO_BYTE_SHIFT fm hfm S_SIOOBE_FORMATTER X_a1 F_value_a1 F_coder_a1 F_count_a1 F_maybeLatin1_a1 X_a2 F_coder_a2 F_value_a2 A_b2 A_b1) (argsL := [(.ref a2)]) (r := []) rfl all0 (lenOf pd_24 rfl) rfl (Nat.le_of_eq rfl) (by decide) (by decide) (by decide) (by decide) (pc' := 5) rfl (fun T150 h150 v150 P150 q150 S => ?_)
  obtain ⟨rfl, q150⟩ := q150
  show Gl p e below s Z consts_1 _ n0 _ T150 (mkF m 5 #[.val (.ref a1), .val (.ref a2)] [(.ref a1)])
  refine g_pop C S dsp_5 (pc' := 6) rfl rfl ?_
  refine g_aloadN C S dsp_6 (pc' := 7) rfl rfl rfl ?_
  exact g_retA C S dsp_7 rfl rfl rfl (by decide) (by decide) (⟨rfl, q150⟩)
theorem dck_0 : decode jdk_65_method_131_code 0 = .ok (.iload_n 1, 1) := by decide +kernel
theorem dck_1 : decode jdk_65_method_131_code 1 = .ok (.iload_n 0, 1) := by decide +kernel
theorem dck_2 : decode jdk_65_method_131_code 2 = .ok (.if_icmp .ge 35, 3) := by decide +kernel
theorem dck_37 : decode jdk_65_method_131_code 37 = .ok (.return_, 1) := by decide +kernel
set_option maxRecDepth 65536 in
set_option maxHeartbeats 40000000 in
theorem c_ckl (l : Launch) (Z : State) (a0 : Array Value) (hw : ∀ d ∈ tables_1, d.before a0 Z = true)  (h0 : Heap) (n0 : Nat) (E : Nat) (hE : E < 2 ^ 30) :
    Con l Z consts_1 [] (⟨"java/util/Arrays", "checkLength", "(II)V"⟩ : MethodName) jdk_65_method_131_code 2 none ({ frames := 0, cells := 0, slots := 0, locals := 0 } : Room) #[(.int (0 : Int32)), (.int (Int32.ofNat E))] h0 n0 (fun v h _ => v = none ∧ h = h0) := by
  refine Con.of (plainFor_of_name (by first | (simp [plainName, overriddenIn]; done) | decide +kernel)) (elw hw) (L0 := #[.val (.int (0 : Int32)), .val (.int (Int32.ofNat E))]) (fun m => by first | (simp [entryFrame, mkF, argsToLocals, Value.category]; done) | rfl) ?_
  intro p e s m below meth c T C S
  refine g_iloadN C S dck_0 (pc' := 1) rfl rfl ?_
  refine g_iloadN C S dck_1 (pc' := 2) rfl rfl ?_
  refine g_icmp_ge C S dck_2 (pc' := 37) (pf := 5) (by decide) (by decide) rfl (fun hc2 => ?_) (fun hc2 => absurd hc2 (o32_neg (by omega)))
  exact g_return C S dck_37 (by decide) (by decide) (⟨rfl, rfl⟩)
theorem pd_25 : parseMethodDescriptor "(II)V" = some ⟨[.int, .int], none⟩ := by decide +kernel
theorem dcr_0 : decode jdk_65_method_133_code 0 = .ok (.iload_n 1, 1) := by decide +kernel
theorem dcr_1 : decode jdk_65_method_133_code 1 = .ok (.iload_n 2, 1) := by decide +kernel
theorem dcr_2 : decode jdk_65_method_133_code 2 = .ok (.invokestatic 343, 3) := by decide +kernel
theorem dcr_5 : decode jdk_65_method_133_code 5 = .ok (.iload_n 2, 1) := by decide +kernel
theorem dcr_6 : decode jdk_65_method_133_code 6 = .ok (.iload_n 1, 1) := by decide +kernel
theorem dcr_7 : decode jdk_65_method_133_code 7 = .ok (.isub, 1) := by decide +kernel
theorem dcr_8 : decode jdk_65_method_133_code 8 = .ok (.istore_n 3, 1) := by decide +kernel
theorem dcr_9 : decode jdk_65_method_133_code 9 = .ok (.iload_n 3, 1) := by decide +kernel
theorem dcr_10 : decode jdk_65_method_133_code 10 = .ok (.newarray .byte, 2) := by decide +kernel
theorem dcr_12 : decode jdk_65_method_133_code 12 = .ok (.astore 4, 2) := by decide +kernel
theorem dcr_14 : decode jdk_65_method_133_code 14 = .ok (.aload_n 0, 1) := by decide +kernel
theorem dcr_15 : decode jdk_65_method_133_code 15 = .ok (.iload_n 1, 1) := by decide +kernel
theorem dcr_16 : decode jdk_65_method_133_code 16 = .ok (.aload 4, 2) := by decide +kernel
theorem dcr_18 : decode jdk_65_method_133_code 18 = .ok (.iconst 0, 1) := by decide +kernel
theorem dcr_19 : decode jdk_65_method_133_code 19 = .ok (.aload_n 0, 1) := by decide +kernel
theorem dcr_20 : decode jdk_65_method_133_code 20 = .ok (.arraylength, 1) := by decide +kernel
theorem dcr_21 : decode jdk_65_method_133_code 21 = .ok (.iload_n 1, 1) := by decide +kernel
theorem dcr_22 : decode jdk_65_method_133_code 22 = .ok (.isub, 1) := by decide +kernel
theorem dcr_23 : decode jdk_65_method_133_code 23 = .ok (.iload_n 3, 1) := by decide +kernel
theorem dcr_24 : decode jdk_65_method_133_code 24 = .ok (.invokestatic 304, 3) := by decide +kernel
theorem dcr_27 : decode jdk_65_method_133_code 27 = .ok (.invokestatic 150, 3) := by decide +kernel
theorem dcr_30 : decode jdk_65_method_133_code 30 = .ok (.aload 4, 2) := by decide +kernel
theorem dcr_32 : decode jdk_65_method_133_code 32 = .ok (.areturn, 1) := by decide +kernel
set_option maxRecDepth 65536 in
set_option maxHeartbeats 40000000 in
theorem c_crb (l : Launch) (Z : State) (a0 : Array Value) (hw : ∀ d ∈ tables_1, d.before a0 Z = true) (a1 : Addr) (h0 : Heap) (n0 : Nat) (N E : Nat) (g : Nat → Int32) (hN : N ≤ 68) (hE : E < N) (hB : Byt g N) (Zn : n0 ≤ h0.size) (A_a1 : Ary Z h0 a1 .byte N (fun q => .int (g q))) :
    Con l Z consts_1 [] (⟨"java/util/Arrays", "copyOfRangeByte", "([BII)[B"⟩ : MethodName) jdk_65_method_133_code 5 (some (.array .byte)) ({ frames := 1, cells := 1, slots := 68, locals := 22 } : Room) #[(.ref a1), (.int (0 : Int32)), (.int (Int32.ofNat E))] h0 n0 (fun v h _ => ∃ b, v = some (.ref b) ∧ Keep h0 h [] ∧ Ary Z h b .byte E (fun q => .int (g q))) := by
  refine Con.of (plainFor_of_name (by first | (simp [plainName, overriddenIn]; done) | decide +kernel)) (elw hw) (L0 := #[.val (.ref a1), .val (.int (0 : Int32)), .val (.int (Int32.ofNat E)), .unset, .unset]) (fun m => by first | (simp [entryFrame, mkF, argsToLocals, Value.category]; done) | rfl) ?_
  intro p e s m below meth c T C S
  have Kp := Keep.refl h0 []
  refine g_iloadN C S dcr_0 (pc' := 1) rfl rfl ?_
  refine g_iloadN C S dcr_1 (pc' := 2) rfl rfl ?_
  refine g_callS C S (rm := ({ frames := 0, cells := 0, slots := 0, locals := 0 } : Room)) (W := 0) dcr_2 (hw _ (List.mem_of_getElem? (i := 192) rfl)) (hw _ (List.mem_of_getElem? (i := 193) rfl)) (hw _ (List.mem_of_getElem? (i := 130) rfl)) (hw _ (List.mem_of_getElem? (i := 194) rfl)) (by decide) (c_ckl l Z a0 hw h0 n0 E (by omega)) (argsL := [(.int (0 : Int32)), (.int (Int32.ofNat E))]) (r := []) rfl all0 (lenOf pd_25 rfl) rfl (Nat.le_of_eq rfl) (by decide) (by decide) (by decide) (by decide) (pc' := 5) rfl (fun T151 h151 v151 P151 q151 S => ?_)
  obtain ⟨rfl, e151⟩ := q151; rw [e151] at S
  show Gl p e below s Z consts_1 _ n0 _ T151 (mkF m 5 #[.val (.ref a1), .val (.int (0 : Int32)), .val (.int (Int32.ofNat E)), .unset, .unset] [])
  refine g_iloadN C S dcr_5 (pc' := 6) rfl rfl ?_
  refine g_iloadN C S dcr_6 (pc' := 7) rfl rfl ?_
  refine g_isub C S dcr_7 (pc' := 8) rfl ?_
  rw [Int32.sub_zero]
  refine g_istoreN C S dcr_8 (pc' := 9) rfl (L' := #[.val (.ref a1), .val (.int (0 : Int32)), .val (.int (Int32.ofNat E)), .val (.int (Int32.ofNat E)), .unset]) rfl ?_
  refine g_iloadN C S dcr_9 (pc' := 10) rfl rfl ?_
  refine g_newarray C S (N := E) (cap := 68) dcr_10 (hw _ (List.mem_of_getElem? (i := 16) rfl)) (o32 (by omega)) (by omega) (by decide) (by decide) (by decide) (pc' := 12) rfl (fun T152 h152 a152 S g152 E152 A_a152 => ?_)
  have ne_a1_a152 : a1 ≠ a152 := ne_new g152 A_a1.lt
  have sz_a152 : h0.size ≤ a152 := ge_of g152 Kp.1
  have ge_a152 : n0 ≤ a152 := ge_of g152 Zn
  have pm_a152 := On.hd S
  have Kp := Kp.ext E152
  have A_a1 := A_a1.ext E152
  have Zn := Nat.le_trans Zn E152.1
  have A_a152 : Ary Z h152 a152 .byte E (fun _ => (.int (0 : Int32))) := A_a152
  refine g_astore C S dcr_12 (pc' := 14) rfl rfl (L' := #[.val (.ref a1), .val (.int (0 : Int32)), .val (.int (Int32.ofNat E)), .val (.int (Int32.ofNat E)), .val (.ref a152)]) rfl ?_
  refine g_aloadN C S dcr_14 (pc' := 15) rfl rfl rfl ?_
  refine g_iloadN C S dcr_15 (pc' := 16) rfl rfl ?_
  refine g_aload C S dcr_16 (pc' := 18) rfl rfl rfl ?_
  refine g_iconst C S (0 : Int32) dcr_18 (pc' := 19) rfl rfl ?_
  refine g_aloadN C S dcr_19 (pc' := 20) rfl rfl rfl ?_
  refine g_arraylength C S (x := (Int32.ofNat N)) dcr_20 A_a1 rfl (pc' := 21) rfl ?_
  refine g_iloadN C S dcr_21 (pc' := 22) rfl rfl ?_
  refine g_isub C S dcr_22 (pc' := 23) rfl ?_
  rw [Int32.sub_zero]
  refine g_iloadN C S dcr_23 (pc' := 24) rfl rfl ?_
  refine g_callS C S (rm := ({ frames := 0, cells := 0, slots := 0, locals := 0 } : Room)) (W := 4) dcr_24 (hw _ (List.mem_of_getElem? (i := 132) rfl)) (hw _ (List.mem_of_getElem? (i := 133) rfl)) (hw _ (List.mem_of_getElem? (i := 124) rfl)) (hw _ (List.mem_of_getElem? (i := 134) rfl)) (by decide) (c_min l Z a0 hw (Int32.ofNat N) (Int32.ofNat E) h152 n0 (Int32.ofNat E) (if_pos ((o32_lt (by omega) (by omega)).mpr hE))) (argsL := [(.int (Int32.ofNat N)), (.int (Int32.ofNat E))]) (r := [(.int (0 : Int32)), (.ref a152), (.int (0 : Int32)), (.ref a1)]) rfl all0 (lenOf pd_11 rfl) rfl (Nat.le_of_eq rfl) (by decide) (by decide) (by decide) (by decide) (pc' := 27) rfl (fun T153 h153 v153 P153 q153 S => ?_)
  have pm_a152 := List.mem_append_right P153 pm_a152
  obtain ⟨rfl, e153⟩ := q153; rw [e153] at S
  show Gl p e below s Z consts_1 _ n0 _ T153 (mkF m 27 #[.val (.ref a1), .val (.int (0 : Int32)), .val (.int (Int32.ofNat E)), .val (.int (Int32.ofNat E)), .val (.ref a152)] [(.int (Int32.ofNat E)), (.int (0 : Int32)), (.ref a152), (.int (0 : Int32)), (.ref a1)])
  refine g_acopy C S (W := 0) dcr_27 (hw _ (List.mem_of_getElem? (i := 135) rfl)) (hw _ (List.mem_of_getElem? (i := 138) rfl)) (hw _ (List.mem_of_getElem? (i := 136) rfl)) (hw _ (List.mem_of_getElem? (i := 137) rfl)) A_a1 A_a152 hB (fun _ _ => rfl) (by omega) (by omega) (i1 := 0) (i2 := 0) (i3 := E) (by decide) (by decide) (o32 (by omega)) (by omega) (by omega) ge_a152 pm_a152 rfl (by decide) (Nat.le_of_eq rfl) (by decide) (pc' := 30) rfl (fun T154 h154 S K154 B154 => ?_)
  have Kp := Kp.trans K154 (allS (Or.inr sz_a152) all0)
  have A_a1 := A_a1.keep K154 (ninS ne_a1_a152 nin0)
  have Zn := Nat.le_trans Zn K154.1
  have A_a152 := B154
  refine g_aload C S dcr_30 (pc' := 32) rfl rfl rfl ?_
  exact g_retA C S dcr_32 rfl rfl rfl (by decide) (by decide) (⟨_, rfl, Kp, A_a152.cg fun q hq => by simp [hq]⟩)
theorem pd_26 : parseMethodDescriptor "([BII)[B" = some ⟨[(.array .byte), .int, .int], some (.array .byte)⟩ := by decide +kernel
theorem dcp_0 : decode jdk_65_method_132_code 0 = .ok (.iload_n 1, 1) := by decide +kernel
theorem dcp_1 : decode jdk_65_method_132_code 1 = .ok (.ifCond .ne 9, 3) := by decide +kernel
theorem dcp_4 : decode jdk_65_method_132_code 4 = .ok (.iload_n 2, 1) := by decide +kernel
theorem dcp_5 : decode jdk_65_method_132_code 5 = .ok (.aload_n 0, 1) := by decide +kernel
theorem dcp_6 : decode jdk_65_method_132_code 6 = .ok (.arraylength, 1) := by decide +kernel
theorem dcp_7 : decode jdk_65_method_132_code 7 = .ok (.if_icmp .eq 10, 3) := by decide +kernel
theorem dcp_10 : decode jdk_65_method_132_code 10 = .ok (.aload_n 0, 1) := by decide +kernel
theorem dcp_11 : decode jdk_65_method_132_code 11 = .ok (.iload_n 1, 1) := by decide +kernel
theorem dcp_12 : decode jdk_65_method_132_code 12 = .ok (.iload_n 2, 1) := by decide +kernel
theorem dcp_13 : decode jdk_65_method_132_code 13 = .ok (.invokestatic 339, 3) := by decide +kernel
theorem dcp_16 : decode jdk_65_method_132_code 16 = .ok (.areturn, 1) := by decide +kernel
set_option maxRecDepth 65536 in
set_option maxHeartbeats 40000000 in
theorem c_cpr (l : Launch) (Z : State) (a0 : Array Value) (hw : ∀ d ∈ tables_1, d.before a0 Z = true) (a1 : Addr) (h0 : Heap) (n0 : Nat) (N E : Nat) (g : Nat → Int32) (hN : N ≤ 68) (hE : E < N) (hB : Byt g N) (Zn : n0 ≤ h0.size) (A_a1 : Ary Z h0 a1 .byte N (fun q => .int (g q))) :
    Con l Z consts_1 [] (⟨"java/util/Arrays", "copyOfRange", "([BII)[B"⟩ : MethodName) jdk_65_method_132_code 3 (some (.array .byte)) ({ frames := 2, cells := 1, slots := 68, locals := 38 } : Room) #[(.ref a1), (.int (0 : Int32)), (.int (Int32.ofNat E))] h0 n0 (fun v h _ => ∃ b, v = some (.ref b) ∧ Keep h0 h [] ∧ Ary Z h b .byte E (fun q => .int (g q))) := by
  refine Con.of (plainFor_of_name (by first | (simp [plainName, overriddenIn]; done) | decide +kernel)) (elw hw) (L0 := #[.val (.ref a1), .val (.int (0 : Int32)), .val (.int (Int32.ofNat E))]) (fun m => by first | (simp [entryFrame, mkF, argsToLocals, Value.category]; done) | rfl) ?_
  intro p e s m below meth c T C S
  refine g_iloadN C S dcp_0 (pc' := 1) rfl rfl ?_
  refine g_if_ne C S dcp_1 (pc' := 10) (pf := 4) (by decide) (by decide) rfl (fun hc1 => absurd rfl hc1) (fun hc1 => ?_)
  refine g_iloadN C S dcp_4 (pc' := 5) rfl rfl ?_
  refine g_aloadN C S dcp_5 (pc' := 6) rfl rfl rfl ?_
  refine g_arraylength C S (x := (Int32.ofNat N)) dcp_6 A_a1 rfl (pc' := 7) rfl ?_
  refine g_icmp_eq C S dcp_7 (pc' := 17) (pf := 10) (by decide) (by decide) rfl (fun hc7 => absurd ((o32_inj (by omega) (by omega)).mp hc7) (by omega)) (fun hc7 => ?_)
  refine g_aloadN C S dcp_10 (pc' := 11) rfl rfl rfl ?_
  refine g_iloadN C S dcp_11 (pc' := 12) rfl rfl ?_
  refine g_iloadN C S dcp_12 (pc' := 13) rfl rfl ?_
  refine g_callS C S (rm := ({ frames := 1, cells := 1, slots := 68, locals := 22 } : Room)) (W := 0) dcp_13 (hw _ (List.mem_of_getElem? (i := 189) rfl)) (hw _ (List.mem_of_getElem? (i := 190) rfl)) (hw _ (List.mem_of_getElem? (i := 130) rfl)) (hw _ (List.mem_of_getElem? (i := 191) rfl)) (by decide) (c_crb l Z a0 hw a1 h0 n0 N E g hN hE hB Zn A_a1) (argsL := [(.ref a1), (.int (0 : Int32)), (.int (Int32.ofNat E))]) (r := []) rfl all0 (lenOf pd_26 rfl) rfl (Nat.le_of_eq rfl) (by decide) (by decide) (by decide) (by decide) (pc' := 16) rfl (fun T155 h155 v155 P155 q155 S => ?_)
  obtain ⟨b155, rfl, q155⟩ := q155
  show Gl p e below s Z consts_1 _ n0 _ T155 (mkF m 16 #[.val (.ref a1), .val (.int (0 : Int32)), .val (.int (Int32.ofNat E))] [(.ref b155)])
  exact g_retA C S dcp_16 rfl rfl rfl (by decide) (by decide) (⟨_, rfl, q155⟩)
theorem dgv_0 : decode jdk_68_method_64_code 0 = .ok (.aload_n 0, 1) := by decide +kernel
theorem dgv_1 : decode jdk_68_method_64_code 1 = .ok (.getfield 15, 3) := by decide +kernel
theorem dgv_4 : decode jdk_68_method_64_code 4 = .ok (.areturn, 1) := by decide +kernel
set_option maxRecDepth 65536 in
set_option maxHeartbeats 40000000 in
theorem c_gv (l : Launch) (Z : State) (a0 : Array Value) (hw : ∀ d ∈ tables_1, d.before a0 Z = true) (a1 : Addr) (h0 : Heap) (n0 : Nat) (b1 : Addr) (F_value_a1 : Fld Z h0 a1 "java/lang/AbstractStringBuilder" "value" "[B" (.ref b1)) :
    Con l Z consts_1 [] (⟨"java/lang/AbstractStringBuilder", "getValue", "()[B"⟩ : MethodName) jdk_68_method_64_code 1 (some (.array .byte)) ({ frames := 0, cells := 0, slots := 0, locals := 0 } : Room) #[(.ref a1)] h0 n0 (fun v h _ => v = some (.ref b1) ∧ h = h0) := by
  refine Con.of (plainFor_of_name (by first | (simp [plainName, overriddenIn]; done) | decide +kernel)) (elw hw) (L0 := #[.val (.ref a1)]) (fun m => by first | (simp [entryFrame, mkF, argsToLocals, Value.category]; done) | rfl) ?_
  intro p e s m below meth c T C S
  refine g_aloadN C S dgv_0 (pc' := 1) rfl rfl rfl ?_
  refine g_getF C S dgv_1 (host := "") (Or.inl (hw _ (List.mem_of_getElem? (i := 90) rfl))) Via.refl F_value_a1 (pc' := 4) rfl (fun T156 S => ?_)
  exact g_retA C S dgv_4 rfl rfl rfl (by decide) (by decide) (⟨rfl, rfl⟩)
theorem dal_0 : decode jdk_68_method_6_code 0 = .ok (.aload_n 0, 1) := by decide +kernel
theorem dal_1 : decode jdk_68_method_6_code 1 = .ok (.getfield 79, 3) := by decide +kernel
theorem dal_4 : decode jdk_68_method_6_code 4 = .ok (.ireturn, 1) := by decide +kernel
set_option maxRecDepth 65536 in
set_option maxHeartbeats 40000000 in
theorem c_aln (l : Launch) (Z : State) (a0 : Array Value) (hw : ∀ d ∈ tables_1, d.before a0 Z = true) (a1 : Addr) (h0 : Heap) (n0 : Nat) (ct : Int32) (F_count_a1 : Fld Z h0 a1 "java/lang/AbstractStringBuilder" "count" "I" (.int ct)) :
    Con l Z consts_1 [] (⟨"java/lang/AbstractStringBuilder", "length", "()I"⟩ : MethodName) jdk_68_method_6_code 1 (some .int) ({ frames := 0, cells := 0, slots := 0, locals := 0 } : Room) #[(.ref a1)] h0 n0 (fun v h _ => v = some (.int ct) ∧ h = h0) := by
  refine Con.of (plainFor_of_name (by first | (simp [plainName, overriddenIn]; done) | decide +kernel)) (elw hw) (L0 := #[.val (.ref a1)]) (fun m => by first | (simp [entryFrame, mkF, argsToLocals, Value.category]; done) | rfl) ?_
  intro p e s m below meth c T C S
  refine g_aloadN C S dal_0 (pc' := 1) rfl rfl rfl ?_
  refine g_getF C S dal_1 (host := "") (Or.inl (hw _ (List.mem_of_getElem? (i := 106) rfl))) Via.refl F_count_a1 (pc' := 4) rfl (fun T157 S => ?_)
  exact g_retI C S dal_4 (by decide) (by decide) (⟨rfl, rfl⟩)
theorem dsl_0 : decode jdk_67_method_93_code 0 = .ok (.aload_n 0, 1) := by decide +kernel
theorem dsl_1 : decode jdk_67_method_93_code 1 = .ok (.invokespecial 343, 3) := by decide +kernel
theorem dsl_4 : decode jdk_67_method_93_code 4 = .ok (.ireturn, 1) := by decide +kernel
set_option maxRecDepth 65536 in
set_option maxHeartbeats 40000000 in
theorem c_sln (l : Launch) (Z : State) (a0 : Array Value) (hw : ∀ d ∈ tables_1, d.before a0 Z = true) (a1 : Addr) (h0 : Heap) (n0 : Nat) (ct : Int32) (X_a1 : Exa Z h0 a1 "java/lang/StringBuilder") (F_count_a1 : Fld Z h0 a1 "java/lang/AbstractStringBuilder" "count" "I" (.int ct)) :
    Con l Z consts_1 [] (⟨"java/lang/StringBuilder", "length", "()I"⟩ : MethodName) jdk_67_method_93_code 1 (some .int) ({ frames := 1, cells := 0, slots := 0, locals := 12 } : Room) #[(.ref a1)] h0 n0 (fun v h _ => v = some (.int ct) ∧ h = h0) := by
  refine Con.of (plainFor_of_name (by first | (simp [plainName, overriddenIn]; done) | decide +kernel)) (elw hw) (L0 := #[.val (.ref a1)]) (fun m => by first | (simp [entryFrame, mkF, argsToLocals, Value.category]; done) | rfl) ?_
  intro p e s m below meth c T C S
  refine g_aloadN C S dsl_0 (pc' := 1) rfl rfl rfl ?_
  refine g_callU C S (rm := ({ frames := 0, cells := 0, slots := 0, locals := 0 } : Room)) (W := 0) dsl_1 (hw _ (List.mem_of_getElem? (i := 179) rfl)) (same_self (args := a0) (notFace_other (y := (⟨"java/lang/AbstractStringBuilder", "ensureCapacityInternal", "(I)V"⟩ : MethodName)) (args := a0) rfl (notFace_of_selects (args := a0) (hw _ (List.mem_of_getElem? (i := 111) rfl))) (hw _ (List.mem_of_getElem? (i := 109) rfl))) (hw _ (List.mem_of_getElem? (i := 175) rfl)) (by decide)) (hw _ (List.mem_of_getElem? (i := 175) rfl)) (hw _ (List.mem_of_getElem? (i := 102) rfl)) (by decide) (hw _ (List.mem_of_getElem? (i := 86) rfl)) (hw _ (List.mem_of_getElem? (i := 180) rfl)) X_a1 (c_aln l Z a0 hw a1 h0 n0 ct F_count_a1) (argsL := []) (r := []) rfl all0 (lenOf pd_22 rfl) rfl (Nat.le_of_eq rfl) (by decide) (by decide) (by decide) (by decide) (pc' := 4) rfl (fun T158 h158 v158 P158 q158 S => ?_)
  obtain ⟨rfl, e158⟩ := q158; rw [e158] at S
  show Gl p e below s Z consts_1 _ n0 _ T158 (mkF m 4 #[.val (.ref a1)] [(.int ct)])
  exact g_retI C S dsl_4 (by decide) (by decide) (⟨rfl, rfl⟩)
theorem pd_27 : parseMethodDescriptor "()[B" = some ⟨[], some (.array .byte)⟩ := by decide +kernel
theorem dsia_0 : decode jdk_42_method_150_code 0 = .ok (.aload_n 0, 1) := by decide +kernel
theorem dsia_1 : decode jdk_42_method_150_code 1 = .ok (.invokespecial 1, 3) := by decide +kernel
theorem dsia_4 : decode jdk_42_method_150_code 4 = .ok (.aload_n 1, 1) := by decide +kernel
theorem dsia_5 : decode jdk_42_method_150_code 5 = .ok (.invokevirtual 552, 3) := by decide +kernel
theorem dsia_8 : decode jdk_42_method_150_code 8 = .ok (.astore_n 3, 1) := by decide +kernel
theorem dsia_9 : decode jdk_42_method_150_code 9 = .ok (.aload_n 1, 1) := by decide +kernel
theorem dsia_10 : decode jdk_42_method_150_code 10 = .ok (.invokevirtual 549, 3) := by decide +kernel
theorem dsia_13 : decode jdk_42_method_150_code 13 = .ok (.istore 4, 2) := by decide +kernel
theorem dsia_15 : decode jdk_42_method_150_code 15 = .ok (.aload_n 1, 1) := by decide +kernel
theorem dsia_16 : decode jdk_42_method_150_code 16 = .ok (.invokevirtual 1047, 3) := by decide +kernel
theorem dsia_19 : decode jdk_42_method_150_code 19 = .ok (.ifCond .eq 22, 3) := by decide +kernel
theorem dsia_22 : decode jdk_42_method_150_code 22 = .ok (.aload_n 0, 1) := by decide +kernel
theorem dsia_23 : decode jdk_42_method_150_code 23 = .ok (.iconst 0, 1) := by decide +kernel
theorem dsia_24 : decode jdk_42_method_150_code 24 = .ok (.putfield 15, 3) := by decide +kernel
theorem dsia_27 : decode jdk_42_method_150_code 27 = .ok (.aload_n 0, 1) := by decide +kernel
theorem dsia_28 : decode jdk_42_method_150_code 28 = .ok (.aload_n 3, 1) := by decide +kernel
theorem dsia_29 : decode jdk_42_method_150_code 29 = .ok (.iconst 0, 1) := by decide +kernel
theorem dsia_30 : decode jdk_42_method_150_code 30 = .ok (.iload 4, 2) := by decide +kernel
theorem dsia_32 : decode jdk_42_method_150_code 32 = .ok (.invokestatic 54, 3) := by decide +kernel
theorem dsia_35 : decode jdk_42_method_150_code 35 = .ok (.putfield 9, 3) := by decide +kernel
theorem dsia_38 : decode jdk_42_method_150_code 38 = .ok (.goto 59, 3) := by decide +kernel
theorem dsia_97 : decode jdk_42_method_150_code 97 = .ok (.return_, 1) := by decide +kernel
set_option maxRecDepth 65536 in
set_option maxHeartbeats 40000000 in
theorem c_sia0 (l : Launch) (Z : State) (a0 : Array Value) (hw : ∀ d ∈ tables_1, d.before a0 Z = true) (a1 : Addr) (a2 : Addr) (h0 : Heap) (n0 : Nat) (u1 u2 : Value) (b2 : Addr) (K E : Nat) (g : Nat → Int32) (hK : K ≤ 68) (hE : E < K) (hB : Byt g K) (ga : n0 ≤ a1) (n12 : a1 ≠ a2) (n1b : a1 ≠ b2) (Zn : n0 ≤ h0.size) (cs : Int32) (hcs : ¬ cs = 0) (S_COMPACT_STRINGS : Sta Z h0 "java/lang/String" "COMPACT_STRINGS" "Z" (.int cs)) (X_a1 : Exa Z h0 a1 "java/lang/String") (F_value_a1 : Fld Z h0 a1 "java/lang/String" "value" "[B" u1) (F_coder_a1 : Fld Z h0 a1 "java/lang/String" "coder" "B" u2) (X_a2 : Exa Z h0 a2 "java/lang/StringBuilder") (F_value_a2 : Fld Z h0 a2 "java/lang/AbstractStringBuilder" "value" "[B" (.ref b2)) (F_coder_a2 : Fld Z h0 a2 "java/lang/AbstractStringBuilder" "coder" "B" (.int (0 : Int32))) (F_count_a2 : Fld Z h0 a2 "java/lang/AbstractStringBuilder" "count" "I" (.int (Int32.ofNat E))) (F_maybeLatin1_a2 : Fld Z h0 a2 "java/lang/AbstractStringBuilder" "maybeLatin1" "Z" (.int (0 : Int32))) (A_b2 : Ary Z h0 b2 .byte K (fun q => .int (g q))) :
    Con l Z consts_1 [a1] (⟨"java/lang/String", "<init>", "(Ljava/lang/AbstractStringBuilder;Ljava/lang/Void;)V"⟩ : MethodName) jdk_42_method_150_code 5 none ({ frames := 3, cells := 1, slots := 68, locals := 53 } : Room) #[(.ref a1), (.ref a2), .null] h0 n0 (fun v h _ => v = none ∧ Keep h0 h [a1] ∧ ∃ b, Exa Z h a1 "java/lang/String" ∧ Fld Z h a1 "java/lang/String" "coder" "B" (.int (0 : Int32)) ∧ Fld Z h a1 "java/lang/String" "value" "[B" (.ref b) ∧ Ary Z h b .byte E (fun q => .int (g q))) := by
  refine Con.of (plainFor_of_name (by first | (simp [plainName, overriddenIn]; done) | decide +kernel)) (elw hw) (L0 := #[.val (.ref a1), .val (.ref a2), .val .null, .unset, .unset]) (fun m => by first | (simp [entryFrame, mkF, argsToLocals, Value.category]; done) | rfl) ?_
  intro p e s m below meth c T C S
  have pm_a1 : a1 ∈ [a1] := List.mem_of_getElem? (i := 0) rfl
  have Kp := Keep.refl h0 [a1]
  refine g_aloadN C S dsia_0 (pc' := 1) rfl rfl rfl ?_
  refine g_initO C S (W := 0) dsia_1 (hw _ (List.mem_of_getElem? (i := 12) rfl)) (hw _ (List.mem_of_getElem? (i := 13) rfl)) (hw _ (List.mem_of_getElem? (i := 14) rfl)) rfl (by decide) (Nat.le_of_eq rfl) (by decide) (pc' := 4) rfl (fun T159 S => ?_)
  refine g_aloadN C S dsia_4 (pc' := 5) rfl rfl rfl ?_
  refine g_callW C S (rm := ({ frames := 0, cells := 0, slots := 0, locals := 0 } : Room)) (W := 0) dsia_5 (hw _ (List.mem_of_getElem? (i := 168) rfl)) (hw _ (List.mem_of_getElem? (i := 169) rfl)) (fun _ hZ => (notFace_other (y := (⟨"java/lang/AbstractStringBuilder", "ensureCapacityInternal", "(I)V"⟩ : MethodName)) (args := #[]) rfl (notFace_of_selects (args := #[]) (mvT hZ (hw _ (List.mem_of_getElem? (i := 111) rfl)))) (mvT hZ (hw _ (List.mem_of_getElem? (i := 109) rfl))))) (hw _ (List.mem_of_getElem? (i := 171) rfl)) (hw _ (List.mem_of_getElem? (i := 170) rfl)) (hw _ (List.mem_of_getElem? (i := 86) rfl)) (hw _ (List.mem_of_getElem? (i := 172) rfl)) (by decide) X_a2 (c_gv l Z a0 hw a2 h0 n0 b2 F_value_a2) (argsL := []) (r := []) rfl all0 (lenOf pd_27 rfl) rfl (Nat.le_of_eq rfl) (by decide) (by decide) (by decide) (by decide) (pc' := 8) rfl (fun T160 h160 v160 P160 q160 S => ?_)
  have pm_a1 := List.mem_append_right P160 pm_a1
  obtain ⟨rfl, e160⟩ := q160; rw [e160] at S
  show Gl p e below s Z consts_1 _ n0 _ T160 (mkF m 8 #[.val (.ref a1), .val (.ref a2), .val .null, .unset, .unset] [(.ref b2)])
  refine g_astoreN C S dsia_8 (pc' := 9) rfl rfl (L' := #[.val (.ref a1), .val (.ref a2), .val .null, .val (.ref b2), .unset]) rfl ?_
  refine g_aloadN C S dsia_9 (pc' := 10) rfl rfl rfl ?_
  refine g_callW C S (rm := ({ frames := 1, cells := 0, slots := 0, locals := 12 } : Room)) (W := 0) dsia_10 (hw _ (List.mem_of_getElem? (i := 173) rfl)) (hw _ (List.mem_of_getElem? (i := 174) rfl)) (fun _ hZ => (notFace_other (y := (⟨"java/lang/AbstractStringBuilder", "ensureCapacityInternal", "(I)V"⟩ : MethodName)) (args := #[]) rfl (notFace_of_selects (args := #[]) (mvT hZ (hw _ (List.mem_of_getElem? (i := 111) rfl)))) (mvT hZ (hw _ (List.mem_of_getElem? (i := 109) rfl))))) (hw _ (List.mem_of_getElem? (i := 176) rfl)) (hw _ (List.mem_of_getElem? (i := 177) rfl)) (hw _ (List.mem_of_getElem? (i := 78) rfl)) (hw _ (List.mem_of_getElem? (i := 178) rfl)) (by decide) X_a2 (c_sln l Z a0 hw a2 h0 n0 _ X_a2 F_count_a2) (argsL := []) (r := []) rfl all0 (lenOf pd_22 rfl) rfl (Nat.le_of_eq rfl) (by decide) (by decide) (by decide) (by decide) (pc' := 13) rfl (fun T161 h161 v161 P161 q161 S => ?_)
  have pm_a1 := List.mem_append_right P161 pm_a1
  obtain ⟨rfl, e161⟩ := q161; rw [e161] at S
  show Gl p e below s Z consts_1 _ n0 _ T161 (mkF m 13 #[.val (.ref a1), .val (.ref a2), .val .null, .val (.ref b2), .unset] [(.int (Int32.ofNat E))])
  refine g_istore C S dsia_13 (pc' := 15) rfl (L' := #[.val (.ref a1), .val (.ref a2), .val .null, .val (.ref b2), .val (.int (Int32.ofNat E))]) rfl ?_
  refine g_aloadN C S dsia_15 (pc' := 16) rfl rfl rfl ?_
  refine g_callW C S (rm := ({ frames := 0, cells := 0, slots := 0, locals := 0 } : Room)) (W := 0) dsia_16 (hw _ (List.mem_of_getElem? (i := 181) rfl)) (hw _ (List.mem_of_getElem? (i := 182) rfl)) (fun _ hZ => (notFace_other (y := (⟨"java/lang/AbstractStringBuilder", "ensureCapacityInternal", "(I)V"⟩ : MethodName)) (args := #[]) rfl (notFace_of_selects (args := #[]) (mvT hZ (hw _ (List.mem_of_getElem? (i := 111) rfl)))) (mvT hZ (hw _ (List.mem_of_getElem? (i := 109) rfl))))) (hw _ (List.mem_of_getElem? (i := 184) rfl)) (hw _ (List.mem_of_getElem? (i := 183) rfl)) (hw _ (List.mem_of_getElem? (i := 86) rfl)) (hw _ (List.mem_of_getElem? (i := 185) rfl)) (by decide) X_a2 (c_bl0 l Z a0 hw a2 h0 n0 cs hcs S_COMPACT_STRINGS F_coder_a2) (argsL := []) (r := []) rfl all0 (lenOf pd_18 rfl) rfl (Nat.le_of_eq rfl) (by decide) (by decide) (by decide) (by decide) (pc' := 19) rfl (fun T162 h162 v162 P162 q162 S => ?_)
  have pm_a1 := List.mem_append_right P162 pm_a1
  obtain ⟨rfl, e162⟩ := q162; rw [e162] at S
  show Gl p e below s Z consts_1 _ n0 _ T162 (mkF m 19 #[.val (.ref a1), .val (.ref a2), .val .null, .val (.ref b2), .val (.int (Int32.ofNat E))] [(.int (1 : Int32))])
  refine g_if_eq C S dsia_19 (pc' := 41) (pf := 22) (by decide) (by decide) rfl (fun hc19 => absurd hc19 (by decide)) (fun hc19 => ?_)
  refine g_aloadN C S dsia_22 (pc' := 23) rfl rfl rfl ?_
  refine g_iconst C S (0 : Int32) dsia_23 (pc' := 24) rfl rfl ?_
  refine g_putF C S dsia_24 (host := "") (Or.inl (hw _ (List.mem_of_getElem? (i := 22) rfl))) Via.refl F_coder_a1 X_a1 (Or.inr ⟨(hw _ (List.mem_of_getElem? (i := 18) rfl)), rfl, rfl⟩) (hw _ (List.mem_of_getElem? (i := 3) rfl)) (ty := .byte) (by decide) rfl rfl ga (Or.inl pm_a1) (pc' := 27) rfl (fun T163 h163 S W163 => ?_)
  have X_a1 := X_a1.wr W163
  have F_value_a1 := F_value_a1.other W163 (Or.inr (slot_ne (a0 := a0) (t := (.array .byte)) (t' := .byte) (Or.inr (hw _ (List.mem_of_getElem? (i := 17) rfl))) (Or.inr (hw _ (List.mem_of_getElem? (i := 18) rfl))) (by decide) (by decide) (by decide)))
  have F_coder_a1 := F_coder_a1.same W163
  have X_a2 := X_a2.wr W163
  have F_value_a2 := F_value_a2.other W163 (Or.inl (Ne.symm n12))
  have F_coder_a2 := F_coder_a2.other W163 (Or.inl (Ne.symm n12))
  have F_count_a2 := F_count_a2.other W163 (Or.inl (Ne.symm n12))
  have F_maybeLatin1_a2 := F_maybeLatin1_a2.other W163 (Or.inl (Ne.symm n12))
  have A_b2 := A_b2.other W163 (Ne.symm n1b)
  have S_COMPACT_STRINGS := S_COMPACT_STRINGS.wr W163
  have Zn := Nat.le_trans Zn (Nat.le_of_eq W163.size.symm)
  have Kp := Kp.wr W163 (Or.inl (List.mem_of_getElem? (i := 0) rfl))
  refine g_aloadN C S dsia_27 (pc' := 28) rfl rfl rfl ?_
  refine g_aloadN C S dsia_28 (pc' := 29) rfl rfl rfl ?_
  refine g_iconst C S (0 : Int32) dsia_29 (pc' := 30) rfl rfl ?_
  refine g_iload C S dsia_30 (pc' := 32) rfl rfl ?_
  refine g_callS C S (rm := ({ frames := 2, cells := 1, slots := 68, locals := 38 } : Room)) (W := 1) dsia_32 (hw _ (List.mem_of_getElem? (i := 186) rfl)) (hw _ (List.mem_of_getElem? (i := 187) rfl)) (hw _ (List.mem_of_getElem? (i := 130) rfl)) (hw _ (List.mem_of_getElem? (i := 188) rfl)) (by decide) (c_cpr l Z a0 hw b2 h163 n0 K E g hK hE hB Zn A_b2) (argsL := [(.ref b2), (.int (0 : Int32)), (.int (Int32.ofNat E))]) (r := [(.ref a1)]) rfl all0 (lenOf pd_26 rfl) rfl (Nat.le_of_eq rfl) (by decide) (by decide) (by decide) (by decide) (pc' := 35) rfl (fun T164 h164 v164 P164 q164 S => ?_)
  have pm_a1 := List.mem_append_right P164 pm_a1
  obtain ⟨b3, rfl, K164, A_b3⟩ := q164
  have Kp := Kp.trans K164 all0
  have S_COMPACT_STRINGS := Sta.keep0 S_COMPACT_STRINGS K164
  have X_a1 := X_a1.keep K164
  have F_value_a1 := F_value_a1.keep K164 nin0
  have F_coder_a1 := F_coder_a1.keep K164 nin0
  have X_a2 := X_a2.keep K164
  have F_value_a2 := F_value_a2.keep K164 nin0
  have F_coder_a2 := F_coder_a2.keep K164 nin0
  have F_count_a2 := F_count_a2.keep K164 nin0
  have F_maybeLatin1_a2 := F_maybeLatin1_a2.keep K164 nin0
  have A_b2 := A_b2.keep K164 nin0
  have Zn := Nat.le_trans Zn K164.1
  have n13 := exa_ary X_a1 A_b3 (hw _ (List.mem_of_getElem? (i := 3) rfl))
  show Gl p e below s Z consts_1 _ n0 _ T164 (mkF m 35 #[.val (.ref a1), .val (.ref a2), .val .null, .val (.ref b2), .val (.int (Int32.ofNat E))] [(.ref b3), (.ref a1)])
  refine g_putF C S dsia_35 (host := "") (Or.inl (hw _ (List.mem_of_getElem? (i := 21) rfl))) Via.refl F_value_a1 X_a1 (Or.inr ⟨(hw _ (List.mem_of_getElem? (i := 17) rfl)), rfl, rfl⟩) (hw _ (List.mem_of_getElem? (i := 3) rfl)) (ty := (.array .byte)) (by decide) rfl rfl ga (Or.inl pm_a1) (pc' := 38) rfl (fun T165 h165 S W165 => ?_)
  have X_a1 := X_a1.wr W165
  have F_value_a1 := F_value_a1.same W165
  have F_coder_a1 := F_coder_a1.other W165 (Or.inr (slot_ne (a0 := a0) (t := .byte) (t' := (.array .byte)) (Or.inr (hw _ (List.mem_of_getElem? (i := 18) rfl))) (Or.inr (hw _ (List.mem_of_getElem? (i := 17) rfl))) (by decide) (by decide) (by decide)))
  have X_a2 := X_a2.wr W165
  have F_value_a2 := F_value_a2.other W165 (Or.inl (Ne.symm n12))
  have F_coder_a2 := F_coder_a2.other W165 (Or.inl (Ne.symm n12))
  have F_count_a2 := F_count_a2.other W165 (Or.inl (Ne.symm n12))
  have F_maybeLatin1_a2 := F_maybeLatin1_a2.other W165 (Or.inl (Ne.symm n12))
  have A_b2 := A_b2.other W165 (Ne.symm n1b)
  have S_COMPACT_STRINGS := S_COMPACT_STRINGS.wr W165
  have Zn := Nat.le_trans Zn (Nat.le_of_eq W165.size.symm)
  have A_b3 := A_b3.other W165 (Ne.symm n13)
  have Kp := Kp.wr W165 (Or.inl (List.mem_of_getElem? (i := 0) rfl))
  refine g_goto C S dsia_38 (pc' := 97) (by decide) (by decide) ?_
  exact g_return C S dsia_97 (by decide) (by decide) (⟨rfl, Kp, b3, X_a1, F_coder_a1, F_value_a1, A_b3⟩)
theorem pd_28 : parseMethodDescriptor "(Ljava/lang/AbstractStringBuilder;Ljava/lang/Void;)V" = some ⟨[(.object "java/lang/AbstractStringBuilder"), (.object "java/lang/Void")], none⟩ := by decide +kernel
theorem dsib_0 : decode jdk_42_method_53_code 0 = .ok (.aload_n 0, 1) := by decide +kernel
theorem dsib_1 : decode jdk_42_method_53_code 1 = .ok (.aload_n 1, 1) := by decide +kernel
theorem dsib_2 : decode jdk_42_method_53_code 2 = .ok (.aconst_null, 1) := by decide +kernel
theorem dsib_3 : decode jdk_42_method_53_code 3 = .ok (.invokespecial 489, 3) := by decide +kernel
theorem dsib_6 : decode jdk_42_method_53_code 6 = .ok (.return_, 1) := by decide +kernel
set_option maxRecDepth 65536 in
set_option maxHeartbeats 40000000 in
theorem c_sib0 (l : Launch) (Z : State) (a0 : Array Value) (hw : ∀ d ∈ tables_1, d.before a0 Z = true) (a1 : Addr) (a2 : Addr) (h0 : Heap) (n0 : Nat) (u1 u2 : Value) (b2 : Addr) (K E : Nat) (g : Nat → Int32) (hK : K ≤ 68) (hE : E < K) (hB : Byt g K) (ga : n0 ≤ a1) (n12 : a1 ≠ a2) (n1b : a1 ≠ b2) (Zn : n0 ≤ h0.size) (cs : Int32) (hcs : ¬ cs = 0) (S_COMPACT_STRINGS : Sta Z h0 "java/lang/String" "COMPACT_STRINGS" "Z" (.int cs)) (X_a1 : Exa Z h0 a1 "java/lang/String") (F_value_a1 : Fld Z h0 a1 "java/lang/String" "value" "[B" u1) (F_coder_a1 : Fld Z h0 a1 "java/lang/String" "coder" "B" u2) (X_a2 : Exa Z h0 a2 "java/lang/StringBuilder") (F_value_a2 : Fld Z h0 a2 "java/lang/AbstractStringBuilder" "value" "[B" (.ref b2)) (F_coder_a2 : Fld Z h0 a2 "java/lang/AbstractStringBuilder" "coder" "B" (.int (0 : Int32))) (F_count_a2 : Fld Z h0 a2 "java/lang/AbstractStringBuilder" "count" "I" (.int (Int32.ofNat E))) (F_maybeLatin1_a2 : Fld Z h0 a2 "java/lang/AbstractStringBuilder" "maybeLatin1" "Z" (.int (0 : Int32))) (A_b2 : Ary Z h0 b2 .byte K (fun q => .int (g q))) :
    Con l Z consts_1 [a1] (⟨"java/lang/String", "<init>", "(Ljava/lang/StringBuilder;)V"⟩ : MethodName) jdk_42_method_53_code 2 none ({ frames := 4, cells := 1, slots := 68, locals := 69 } : Room) #[(.ref a1), (.ref a2)] h0 n0 (fun v h _ => v = none ∧ Keep h0 h [a1] ∧ ∃ b, Exa Z h a1 "java/lang/String" ∧ Fld Z h a1 "java/lang/String" "coder" "B" (.int (0 : Int32)) ∧ Fld Z h a1 "java/lang/String" "value" "[B" (.ref b) ∧ Ary Z h b .byte E (fun q => .int (g q))) := by
  refine Con.of (plainFor_of_name (by first | (simp [plainName, overriddenIn]; done) | decide +kernel)) (elw hw) (L0 := #[.val (.ref a1), .val (.ref a2)]) (fun m => by first | (simp [entryFrame, mkF, argsToLocals, Value.category]; done) | rfl) ?_
  intro p e s m below meth c T C S
  have pm_a1 : a1 ∈ [a1] := List.mem_of_getElem? (i := 0) rfl
  refine g_aloadN C S dsib_0 (pc' := 1) rfl rfl rfl ?_
  refine g_aloadN C S dsib_1 (pc' := 2) rfl rfl rfl ?_
  refine g_aconst_null C S dsib_2 (pc' := 3) rfl ?_
  refine g_callI C S (rm := ({ frames := 3, cells := 1, slots := 68, locals := 53 } : Room)) (W := 0) dsib_3 rfl (hw _ (List.mem_of_getElem? (i := 165) rfl)) (hw _ (List.mem_of_getElem? (i := 166) rfl)) (hw _ (List.mem_of_getElem? (i := 4) rfl)) (hw _ (List.mem_of_getElem? (i := 167) rfl)) (by decide) (c_sia0 l Z a0 hw a1 a2 h0 n0 u1 u2 b2 K E g hK hE hB ga n12 n1b Zn cs hcs S_COMPACT_STRINGS X_a1 F_value_a1 F_coder_a1 X_a2 F_value_a2 F_coder_a2 F_count_a2 F_maybeLatin1_a2 A_b2) (argsL := [(.ref a2), .null]) (r := []) rfl (allS pm_a1 all0) (lenOf pd_28 rfl) rfl (Nat.le_of_eq rfl) (by decide) (by decide) (by decide) (by decide) (pc' := 6) rfl (fun T166 h166 v166 P166 q166 S => ?_)
  have pm_a1 := List.mem_append_right P166 pm_a1
  obtain ⟨rfl, q166⟩ := q166
  show Gl p e below s Z consts_1 _ n0 _ T166 (mkF m 6 #[.val (.ref a1), .val (.ref a2)] [])
  exact g_return C S dsib_6 (by decide) (by decide) (⟨rfl, q166⟩)
theorem pd_29 : parseMethodDescriptor "(Ljava/lang/StringBuilder;)V" = some ⟨[(.object "java/lang/StringBuilder")], none⟩ := by decide +kernel
theorem dts_0 : decode jdk_67_method_42_code 0 = .ok (.new 18, 3) := by decide +kernel
theorem dts_3 : decode jdk_67_method_42_code 3 = .ok (.dup, 1) := by decide +kernel
theorem dts_4 : decode jdk_67_method_42_code 4 = .ok (.aload_n 0, 1) := by decide +kernel
theorem dts_5 : decode jdk_67_method_42_code 5 = .ok (.invokespecial 137, 3) := by decide +kernel
theorem dts_8 : decode jdk_67_method_42_code 8 = .ok (.areturn, 1) := by decide +kernel
set_option maxRecDepth 65536 in
set_option maxHeartbeats 40000000 in
theorem c_ts0 (l : Launch) (Z : State) (a0 : Array Value) (hw : ∀ d ∈ tables_1, d.before a0 Z = true) (a1 : Addr) (h0 : Heap) (n0 : Nat) (b2 : Addr) (K E : Nat) (g : Nat → Int32) (hK : K ≤ 68) (hE : E < K) (hB : Byt g K) (Zn : n0 ≤ h0.size) (cs : Int32) (hcs : ¬ cs = 0) (S_COMPACT_STRINGS : Sta Z h0 "java/lang/String" "COMPACT_STRINGS" "Z" (.int cs)) (X_a1 : Exa Z h0 a1 "java/lang/StringBuilder") (F_value_a1 : Fld Z h0 a1 "java/lang/AbstractStringBuilder" "value" "[B" (.ref b2)) (F_coder_a1 : Fld Z h0 a1 "java/lang/AbstractStringBuilder" "coder" "B" (.int (0 : Int32))) (F_count_a1 : Fld Z h0 a1 "java/lang/AbstractStringBuilder" "count" "I" (.int (Int32.ofNat E))) (F_maybeLatin1_a1 : Fld Z h0 a1 "java/lang/AbstractStringBuilder" "maybeLatin1" "Z" (.int (0 : Int32))) (A_b2 : Ary Z h0 b2 .byte K (fun q => .int (g q))) :
    Con l Z consts_1 [] (⟨"java/lang/StringBuilder", "toString", "()Ljava/lang/String;"⟩ : MethodName) jdk_67_method_42_code 1 (some (.object "java/lang/String")) ({ frames := 5, cells := 2, slots := 72, locals := 83 } : Room) #[(.ref a1)] h0 n0 (fun v h _ => ∃ a b, v = some (.ref a) ∧ Keep h0 h [] ∧ Exa Z h a "java/lang/String" ∧ Fld Z h a "java/lang/String" "coder" "B" (.int (0 : Int32)) ∧ Fld Z h a "java/lang/String" "value" "[B" (.ref b) ∧ Ary Z h b .byte E (fun q => .int (g q))) := by
  refine Con.of (plainFor_of_name (by first | (simp [plainName, overriddenIn]; done) | decide +kernel)) (elw hw) (L0 := #[.val (.ref a1)]) (fun m => by first | (simp [entryFrame, mkF, argsToLocals, Value.category]; done) | rfl) ?_
  intro p e s m below meth c T C S
  have Kp := Keep.refl h0 []
  refine g_new C S dts_0 (hw _ (List.mem_of_getElem? (i := 161) rfl)) (hw _ (List.mem_of_getElem? (i := 3) rfl)) (hw _ (List.mem_of_getElem? (i := 4) rfl)) (by decide) (by decide) (pc' := 3) rfl (fun T167 h167 a167 S g167 E167 X167 D167 => ?_)
  have ne_a1_a167 : a1 ≠ a167 := ne_new g167 X_a1.lt
  have ne_b2_a167 : b2 ≠ a167 := ne_new g167 A_b2.lt
  have sz_a167 : h0.size ≤ a167 := ge_of g167 Kp.1
  have ge_a167 : n0 ≤ a167 := ge_of g167 Zn
  have pm_a167 := On.hd S
  have Kp := Kp.ext E167
  have X_a1 := X_a1.ext E167
  have F_value_a1 := F_value_a1.ext E167
  have F_coder_a1 := F_coder_a1.ext E167
  have F_count_a1 := F_count_a1.ext E167
  have F_maybeLatin1_a1 := F_maybeLatin1_a1.ext E167
  have A_b2 := A_b2.ext E167
  have S_COMPACT_STRINGS := S_COMPACT_STRINGS.ext E167
  have Zn := Nat.le_trans Zn E167.1
  have F_value_a167 : Fld Z h167 a167 "java/lang/String" "value" "[B" .null := D167 (Or.inr (hw _ (List.mem_of_getElem? (i := 17) rfl))) (ty := (.array .byte)) (by decide)
  have F_coder_a167 : Fld Z h167 a167 "java/lang/String" "coder" "B" (.int (0 : Int32)) := D167 (Or.inr (hw _ (List.mem_of_getElem? (i := 18) rfl))) (ty := .byte) (by decide)
  refine g_dup C S dts_3 (pc' := 4) rfl rfl ?_
  refine g_aloadN C S dts_4 (pc' := 5) rfl rfl rfl ?_
  refine g_callI C S (rm := ({ frames := 4, cells := 1, slots := 68, locals := 69 } : Room)) (W := 1) dts_5 rfl (hw _ (List.mem_of_getElem? (i := 162) rfl)) (hw _ (List.mem_of_getElem? (i := 163) rfl)) (hw _ (List.mem_of_getElem? (i := 4) rfl)) (hw _ (List.mem_of_getElem? (i := 164) rfl)) (by decide) (c_sib0 l Z a0 hw a167 a1 h167 n0 _ _ b2 K E g hK hE hB ge_a167 (Ne.symm ne_a1_a167) (Ne.symm ne_b2_a167) Zn cs hcs S_COMPACT_STRINGS X167 F_value_a167 F_coder_a167 X_a1 F_value_a1 F_coder_a1 F_count_a1 F_maybeLatin1_a1 A_b2) (argsL := [(.ref a1)]) (r := [(.ref a167)]) rfl (allS pm_a167 all0) (lenOf pd_29 rfl) rfl (Nat.le_of_eq rfl) (by decide) (by decide) (by decide) (by decide) (pc' := 8) rfl (fun T168 h168 v168 P168 q168 S => ?_)
  have pm_a167 := List.mem_append_right P168 pm_a167
  obtain ⟨rfl, K168, b3, q168⟩ := q168
  have Kp := Kp.trans K168 (allS (Or.inr sz_a167) all0)
  show Gl p e below s Z consts_1 _ n0 _ T168 (mkF m 8 #[.val (.ref a1)] [(.ref a167)])
  exact g_retA C S dts_8 rfl rfl rfl (by decide) (by decide) (⟨_, _, rfl, Kp, q168⟩)
theorem dsia_41 : decode jdk_42_method_150_code 41 = .ok (.getstatic 38, 3) := by decide +kernel
theorem dsia_44 : decode jdk_42_method_150_code 44 = .ok (.ifCond .eq 35, 3) := by decide +kernel
theorem dsia_47 : decode jdk_42_method_150_code 47 = .ok (.aload_n 1, 1) := by decide +kernel
theorem dsia_48 : decode jdk_42_method_150_code 48 = .ok (.getfield 1048, 3) := by decide +kernel
theorem dsia_51 : decode jdk_42_method_150_code 51 = .ok (.ifCond .eq 28, 3) := by decide +kernel
theorem dsia_79 : decode jdk_42_method_150_code 79 = .ok (.aload_n 0, 1) := by decide +kernel
theorem dsia_80 : decode jdk_42_method_150_code 80 = .ok (.iconst 1, 1) := by decide +kernel
theorem dsia_81 : decode jdk_42_method_150_code 81 = .ok (.putfield 15, 3) := by decide +kernel
theorem dsia_84 : decode jdk_42_method_150_code 84 = .ok (.aload_n 0, 1) := by decide +kernel
theorem dsia_85 : decode jdk_42_method_150_code 85 = .ok (.aload_n 3, 1) := by decide +kernel
theorem dsia_86 : decode jdk_42_method_150_code 86 = .ok (.iconst 0, 1) := by decide +kernel
theorem dsia_87 : decode jdk_42_method_150_code 87 = .ok (.iload 4, 2) := by decide +kernel
theorem dsia_89 : decode jdk_42_method_150_code 89 = .ok (.iconst 1, 1) := by decide +kernel
theorem dsia_90 : decode jdk_42_method_150_code 90 = .ok (.ishl, 1) := by decide +kernel
theorem dsia_91 : decode jdk_42_method_150_code 91 = .ok (.invokestatic 54, 3) := by decide +kernel
theorem dsia_94 : decode jdk_42_method_150_code 94 = .ok (.putfield 9, 3) := by decide +kernel
set_option maxRecDepth 65536 in
set_option maxHeartbeats 40000000 in
theorem c_sia1 (l : Launch) (Z : State) (a0 : Array Value) (hw : ∀ d ∈ tables_1, d.before a0 Z = true) (a1 : Addr) (a2 : Addr) (h0 : Heap) (n0 : Nat) (u1 u2 : Value) (b2 : Addr) (K E : Nat) (g : Nat → Int32) (hK : K ≤ 68) (hE : (2 * E) < K) (hB : Byt g K) (ga : n0 ≤ a1) (n12 : a1 ≠ a2) (n1b : a1 ≠ b2) (Zn : n0 ≤ h0.size) (cs : Int32) (hcs : ¬ cs = 0) (S_COMPACT_STRINGS : Sta Z h0 "java/lang/String" "COMPACT_STRINGS" "Z" (.int cs)) (X_a1 : Exa Z h0 a1 "java/lang/String") (F_value_a1 : Fld Z h0 a1 "java/lang/String" "value" "[B" u1) (F_coder_a1 : Fld Z h0 a1 "java/lang/String" "coder" "B" u2) (X_a2 : Exa Z h0 a2 "java/lang/StringBuilder") (F_value_a2 : Fld Z h0 a2 "java/lang/AbstractStringBuilder" "value" "[B" (.ref b2)) (F_coder_a2 : Fld Z h0 a2 "java/lang/AbstractStringBuilder" "coder" "B" (.int (1 : Int32))) (F_count_a2 : Fld Z h0 a2 "java/lang/AbstractStringBuilder" "count" "I" (.int (Int32.ofNat E))) (F_maybeLatin1_a2 : Fld Z h0 a2 "java/lang/AbstractStringBuilder" "maybeLatin1" "Z" (.int (0 : Int32))) (A_b2 : Ary Z h0 b2 .byte K (fun q => .int (g q))) :
    Con l Z consts_1 [a1] (⟨"java/lang/String", "<init>", "(Ljava/lang/AbstractStringBuilder;Ljava/lang/Void;)V"⟩ : MethodName) jdk_42_method_150_code 5 none ({ frames := 3, cells := 1, slots := 68, locals := 53 } : Room) #[(.ref a1), (.ref a2), .null] h0 n0 (fun v h _ => v = none ∧ Keep h0 h [a1] ∧ ∃ b, Exa Z h a1 "java/lang/String" ∧ Fld Z h a1 "java/lang/String" "coder" "B" (.int (1 : Int32)) ∧ Fld Z h a1 "java/lang/String" "value" "[B" (.ref b) ∧ Ary Z h b .byte (2 * E) (fun q => .int (g q))) := by
  refine Con.of (plainFor_of_name (by first | (simp [plainName, overriddenIn]; done) | decide +kernel)) (elw hw) (L0 := #[.val (.ref a1), .val (.ref a2), .val .null, .unset, .unset]) (fun m => by first | (simp [entryFrame, mkF, argsToLocals, Value.category]; done) | rfl) ?_
  intro p e s m below meth c T C S
  have pm_a1 : a1 ∈ [a1] := List.mem_of_getElem? (i := 0) rfl
  have Kp := Keep.refl h0 [a1]
  refine g_aloadN C S dsia_0 (pc' := 1) rfl rfl rfl ?_
  refine g_initO C S (W := 0) dsia_1 (hw _ (List.mem_of_getElem? (i := 12) rfl)) (hw _ (List.mem_of_getElem? (i := 13) rfl)) (hw _ (List.mem_of_getElem? (i := 14) rfl)) rfl (by decide) (Nat.le_of_eq rfl) (by decide) (pc' := 4) rfl (fun T169 S => ?_)
  refine g_aloadN C S dsia_4 (pc' := 5) rfl rfl rfl ?_
  refine g_callW C S (rm := ({ frames := 0, cells := 0, slots := 0, locals := 0 } : Room)) (W := 0) dsia_5 (hw _ (List.mem_of_getElem? (i := 168) rfl)) (hw _ (List.mem_of_getElem? (i := 169) rfl)) (fun _ hZ => (notFace_other (y := (⟨"java/lang/AbstractStringBuilder", "ensureCapacityInternal", "(I)V"⟩ : MethodName)) (args := #[]) rfl (notFace_of_selects (args := #[]) (mvT hZ (hw _ (List.mem_of_getElem? (i := 111) rfl)))) (mvT hZ (hw _ (List.mem_of_getElem? (i := 109) rfl))))) (hw _ (List.mem_of_getElem? (i := 171) rfl)) (hw _ (List.mem_of_getElem? (i := 170) rfl)) (hw _ (List.mem_of_getElem? (i := 86) rfl)) (hw _ (List.mem_of_getElem? (i := 172) rfl)) (by decide) X_a2 (c_gv l Z a0 hw a2 h0 n0 b2 F_value_a2) (argsL := []) (r := []) rfl all0 (lenOf pd_27 rfl) rfl (Nat.le_of_eq rfl) (by decide) (by decide) (by decide) (by decide) (pc' := 8) rfl (fun T170 h170 v170 P170 q170 S => ?_)
  have pm_a1 := List.mem_append_right P170 pm_a1
  obtain ⟨rfl, e170⟩ := q170; rw [e170] at S
  show Gl p e below s Z consts_1 _ n0 _ T170 (mkF m 8 #[.val (.ref a1), .val (.ref a2), .val .null, .unset, .unset] [(.ref b2)])
  refine g_astoreN C S dsia_8 (pc' := 9) rfl rfl (L' := #[.val (.ref a1), .val (.ref a2), .val .null, .val (.ref b2), .unset]) rfl ?_
  refine g_aloadN C S dsia_9 (pc' := 10) rfl rfl rfl ?_
  refine g_callW C S (rm := ({ frames := 1, cells := 0, slots := 0, locals := 12 } : Room)) (W := 0) dsia_10 (hw _ (List.mem_of_getElem? (i := 173) rfl)) (hw _ (List.mem_of_getElem? (i := 174) rfl)) (fun _ hZ => (notFace_other (y := (⟨"java/lang/AbstractStringBuilder", "ensureCapacityInternal", "(I)V"⟩ : MethodName)) (args := #[]) rfl (notFace_of_selects (args := #[]) (mvT hZ (hw _ (List.mem_of_getElem? (i := 111) rfl)))) (mvT hZ (hw _ (List.mem_of_getElem? (i := 109) rfl))))) (hw _ (List.mem_of_getElem? (i := 176) rfl)) (hw _ (List.mem_of_getElem? (i := 177) rfl)) (hw _ (List.mem_of_getElem? (i := 78) rfl)) (hw _ (List.mem_of_getElem? (i := 178) rfl)) (by decide) X_a2 (c_sln l Z a0 hw a2 h0 n0 _ X_a2 F_count_a2) (argsL := []) (r := []) rfl all0 (lenOf pd_22 rfl) rfl (Nat.le_of_eq rfl) (by decide) (by decide) (by decide) (by decide) (pc' := 13) rfl (fun T171 h171 v171 P171 q171 S => ?_)
  have pm_a1 := List.mem_append_right P171 pm_a1
  obtain ⟨rfl, e171⟩ := q171; rw [e171] at S
  show Gl p e below s Z consts_1 _ n0 _ T171 (mkF m 13 #[.val (.ref a1), .val (.ref a2), .val .null, .val (.ref b2), .unset] [(.int (Int32.ofNat E))])
  refine g_istore C S dsia_13 (pc' := 15) rfl (L' := #[.val (.ref a1), .val (.ref a2), .val .null, .val (.ref b2), .val (.int (Int32.ofNat E))]) rfl ?_
  refine g_aloadN C S dsia_15 (pc' := 16) rfl rfl rfl ?_
  refine g_callW C S (rm := ({ frames := 0, cells := 0, slots := 0, locals := 0 } : Room)) (W := 0) dsia_16 (hw _ (List.mem_of_getElem? (i := 181) rfl)) (hw _ (List.mem_of_getElem? (i := 182) rfl)) (fun _ hZ => (notFace_other (y := (⟨"java/lang/AbstractStringBuilder", "ensureCapacityInternal", "(I)V"⟩ : MethodName)) (args := #[]) rfl (notFace_of_selects (args := #[]) (mvT hZ (hw _ (List.mem_of_getElem? (i := 111) rfl)))) (mvT hZ (hw _ (List.mem_of_getElem? (i := 109) rfl))))) (hw _ (List.mem_of_getElem? (i := 184) rfl)) (hw _ (List.mem_of_getElem? (i := 183) rfl)) (hw _ (List.mem_of_getElem? (i := 86) rfl)) (hw _ (List.mem_of_getElem? (i := 185) rfl)) (by decide) X_a2 (c_bl1 l Z a0 hw a2 h0 n0 cs hcs S_COMPACT_STRINGS F_coder_a2) (argsL := []) (r := []) rfl all0 (lenOf pd_18 rfl) rfl (Nat.le_of_eq rfl) (by decide) (by decide) (by decide) (by decide) (pc' := 19) rfl (fun T172 h172 v172 P172 q172 S => ?_)
  have pm_a1 := List.mem_append_right P172 pm_a1
  obtain ⟨rfl, e172⟩ := q172; rw [e172] at S
  show Gl p e below s Z consts_1 _ n0 _ T172 (mkF m 19 #[.val (.ref a1), .val (.ref a2), .val .null, .val (.ref b2), .val (.int (Int32.ofNat E))] [(.int (0 : Int32))])
  refine g_if_eq C S dsia_19 (pc' := 41) (pf := 22) (by decide) (by decide) rfl (fun hc19 => ?_) (fun hc19 => absurd rfl hc19)
  refine g_getS C S dsia_41 (host := "") (Or.inl (hw _ (List.mem_of_getElem? (i := 34) rfl))) Via.refl S_COMPACT_STRINGS (pc' := 44) rfl (fun T173 S => ?_)
  refine g_if_eq C S dsia_44 (pc' := 79) (pf := 47) (by decide) (by decide) rfl (fun hc44 => absurd hc44 hcs) (fun hc44 => ?_)
  refine g_aloadN C S dsia_47 (pc' := 48) rfl rfl rfl ?_
  refine g_getF C S dsia_48 (host := "") (Or.inl (hw _ (List.mem_of_getElem? (i := 248) rfl))) Via.refl F_maybeLatin1_a2 (pc' := 51) rfl (fun T174 S => ?_)
  refine g_if_eq C S dsia_51 (pc' := 79) (pf := 54) (by decide) (by decide) rfl (fun hc51 => ?_) (fun hc51 => absurd rfl hc51)
  refine g_aloadN C S dsia_79 (pc' := 80) rfl rfl rfl ?_
  refine g_iconst C S (1 : Int32) dsia_80 (pc' := 81) rfl rfl ?_
  refine g_putF C S dsia_81 (host := "") (Or.inl (hw _ (List.mem_of_getElem? (i := 22) rfl))) Via.refl F_coder_a1 X_a1 (Or.inr ⟨(hw _ (List.mem_of_getElem? (i := 18) rfl)), rfl, rfl⟩) (hw _ (List.mem_of_getElem? (i := 3) rfl)) (ty := .byte) (by decide) rfl rfl ga (Or.inl pm_a1) (pc' := 84) rfl (fun T175 h175 S W175 => ?_)
  have X_a1 := X_a1.wr W175
  have F_value_a1 := F_value_a1.other W175 (Or.inr (slot_ne (a0 := a0) (t := (.array .byte)) (t' := .byte) (Or.inr (hw _ (List.mem_of_getElem? (i := 17) rfl))) (Or.inr (hw _ (List.mem_of_getElem? (i := 18) rfl))) (by decide) (by decide) (by decide)))
  have F_coder_a1 := F_coder_a1.same W175
  have X_a2 := X_a2.wr W175
  have F_value_a2 := F_value_a2.other W175 (Or.inl (Ne.symm n12))
  have F_coder_a2 := F_coder_a2.other W175 (Or.inl (Ne.symm n12))
  have F_count_a2 := F_count_a2.other W175 (Or.inl (Ne.symm n12))
  have F_maybeLatin1_a2 := F_maybeLatin1_a2.other W175 (Or.inl (Ne.symm n12))
  have A_b2 := A_b2.other W175 (Ne.symm n1b)
  have S_COMPACT_STRINGS := S_COMPACT_STRINGS.wr W175
  have Zn := Nat.le_trans Zn (Nat.le_of_eq W175.size.symm)
  have Kp := Kp.wr W175 (Or.inl (List.mem_of_getElem? (i := 0) rfl))
  refine g_aloadN C S dsia_84 (pc' := 85) rfl rfl rfl ?_
  refine g_aloadN C S dsia_85 (pc' := 86) rfl rfl rfl ?_
  refine g_iconst C S (0 : Int32) dsia_86 (pc' := 87) rfl rfl ?_
  refine g_iload C S dsia_87 (pc' := 89) rfl rfl ?_
  refine g_iconst C S (1 : Int32) dsia_89 (pc' := 90) rfl rfl ?_
  refine g_ishl C S dsia_90 (pc' := 91) rfl ?_
  rw [shl1 (by omega)]
  refine g_callS C S (rm := ({ frames := 2, cells := 1, slots := 68, locals := 38 } : Room)) (W := 1) dsia_91 (hw _ (List.mem_of_getElem? (i := 186) rfl)) (hw _ (List.mem_of_getElem? (i := 187) rfl)) (hw _ (List.mem_of_getElem? (i := 130) rfl)) (hw _ (List.mem_of_getElem? (i := 188) rfl)) (by decide) (c_cpr l Z a0 hw b2 h175 n0 K (2 * E) g hK hE hB Zn A_b2) (argsL := [(.ref b2), (.int (0 : Int32)), (.int (Int32.ofNat (2 * E)))]) (r := [(.ref a1)]) rfl all0 (lenOf pd_26 rfl) rfl (Nat.le_of_eq rfl) (by decide) (by decide) (by decide) (by decide) (pc' := 94) rfl (fun T176 h176 v176 P176 q176 S => ?_)
  have pm_a1 := List.mem_append_right P176 pm_a1
  obtain ⟨b3, rfl, K176, A_b3⟩ := q176
  have Kp := Kp.trans K176 all0
  have S_COMPACT_STRINGS := Sta.keep0 S_COMPACT_STRINGS K176
  have X_a1 := X_a1.keep K176
  have F_value_a1 := F_value_a1.keep K176 nin0
  have F_coder_a1 := F_coder_a1.keep K176 nin0
  have X_a2 := X_a2.keep K176
  have F_value_a2 := F_value_a2.keep K176 nin0
  have F_coder_a2 := F_coder_a2.keep K176 nin0
  have F_count_a2 := F_count_a2.keep K176 nin0
  have F_maybeLatin1_a2 := F_maybeLatin1_a2.keep K176 nin0
  have A_b2 := A_b2.keep K176 nin0
  have Zn := Nat.le_trans Zn K176.1
  have n13 := exa_ary X_a1 A_b3 (hw _ (List.mem_of_getElem? (i := 3) rfl))
  show Gl p e below s Z consts_1 _ n0 _ T176 (mkF m 94 #[.val (.ref a1), .val (.ref a2), .val .null, .val (.ref b2), .val (.int (Int32.ofNat E))] [(.ref b3), (.ref a1)])
  refine g_putF C S dsia_94 (host := "") (Or.inl (hw _ (List.mem_of_getElem? (i := 21) rfl))) Via.refl F_value_a1 X_a1 (Or.inr ⟨(hw _ (List.mem_of_getElem? (i := 17) rfl)), rfl, rfl⟩) (hw _ (List.mem_of_getElem? (i := 3) rfl)) (ty := (.array .byte)) (by decide) rfl rfl ga (Or.inl pm_a1) (pc' := 97) rfl (fun T177 h177 S W177 => ?_)
  have X_a1 := X_a1.wr W177
  have F_value_a1 := F_value_a1.same W177
  have F_coder_a1 := F_coder_a1.other W177 (Or.inr (slot_ne (a0 := a0) (t := .byte) (t' := (.array .byte)) (Or.inr (hw _ (List.mem_of_getElem? (i := 18) rfl))) (Or.inr (hw _ (List.mem_of_getElem? (i := 17) rfl))) (by decide) (by decide) (by decide)))
  have X_a2 := X_a2.wr W177
  have F_value_a2 := F_value_a2.other W177 (Or.inl (Ne.symm n12))
  have F_coder_a2 := F_coder_a2.other W177 (Or.inl (Ne.symm n12))
  have F_count_a2 := F_count_a2.other W177 (Or.inl (Ne.symm n12))
  have F_maybeLatin1_a2 := F_maybeLatin1_a2.other W177 (Or.inl (Ne.symm n12))
  have A_b2 := A_b2.other W177 (Ne.symm n1b)
  have S_COMPACT_STRINGS := S_COMPACT_STRINGS.wr W177
  have Zn := Nat.le_trans Zn (Nat.le_of_eq W177.size.symm)
  have A_b3 := A_b3.other W177 (Ne.symm n13)
  have Kp := Kp.wr W177 (Or.inl (List.mem_of_getElem? (i := 0) rfl))
  exact g_return C S dsia_97 (by decide) (by decide) (⟨rfl, Kp, b3, X_a1, F_coder_a1, F_value_a1, A_b3⟩)
set_option maxRecDepth 65536 in
set_option maxHeartbeats 40000000 in
theorem c_sib1 (l : Launch) (Z : State) (a0 : Array Value) (hw : ∀ d ∈ tables_1, d.before a0 Z = true) (a1 : Addr) (a2 : Addr) (h0 : Heap) (n0 : Nat) (u1 u2 : Value) (b2 : Addr) (K E : Nat) (g : Nat → Int32) (hK : K ≤ 68) (hE : (2 * E) < K) (hB : Byt g K) (ga : n0 ≤ a1) (n12 : a1 ≠ a2) (n1b : a1 ≠ b2) (Zn : n0 ≤ h0.size) (cs : Int32) (hcs : ¬ cs = 0) (S_COMPACT_STRINGS : Sta Z h0 "java/lang/String" "COMPACT_STRINGS" "Z" (.int cs)) (X_a1 : Exa Z h0 a1 "java/lang/String") (F_value_a1 : Fld Z h0 a1 "java/lang/String" "value" "[B" u1) (F_coder_a1 : Fld Z h0 a1 "java/lang/String" "coder" "B" u2) (X_a2 : Exa Z h0 a2 "java/lang/StringBuilder") (F_value_a2 : Fld Z h0 a2 "java/lang/AbstractStringBuilder" "value" "[B" (.ref b2)) (F_coder_a2 : Fld Z h0 a2 "java/lang/AbstractStringBuilder" "coder" "B" (.int (1 : Int32))) (F_count_a2 : Fld Z h0 a2 "java/lang/AbstractStringBuilder" "count" "I" (.int (Int32.ofNat E))) (F_maybeLatin1_a2 : Fld Z h0 a2 "java/lang/AbstractStringBuilder" "maybeLatin1" "Z" (.int (0 : Int32))) (A_b2 : Ary Z h0 b2 .byte K (fun q => .int (g q))) :
    Con l Z consts_1 [a1] (⟨"java/lang/String", "<init>", "(Ljava/lang/StringBuilder;)V"⟩ : MethodName) jdk_42_method_53_code 2 none ({ frames := 4, cells := 1, slots := 68, locals := 69 } : Room) #[(.ref a1), (.ref a2)] h0 n0 (fun v h _ => v = none ∧ Keep h0 h [a1] ∧ ∃ b, Exa Z h a1 "java/lang/String" ∧ Fld Z h a1 "java/lang/String" "coder" "B" (.int (1 : Int32)) ∧ Fld Z h a1 "java/lang/String" "value" "[B" (.ref b) ∧ Ary Z h b .byte (2 * E) (fun q => .int (g q))) := by
  refine Con.of (plainFor_of_name (by first | (simp [plainName, overriddenIn]; done) | decide +kernel)) (elw hw) (L0 := #[.val (.ref a1), .val (.ref a2)]) (fun m => by first | (simp [entryFrame, mkF, argsToLocals, Value.category]; done) | rfl) ?_
  intro p e s m below meth c T C S
  have pm_a1 : a1 ∈ [a1] := List.mem_of_getElem? (i := 0) rfl
  refine g_aloadN C S dsib_0 (pc' := 1) rfl rfl rfl ?_
  refine g_aloadN C S dsib_1 (pc' := 2) rfl rfl rfl ?_
  refine g_aconst_null C S dsib_2 (pc' := 3) rfl ?_
  refine g_callI C S (rm := ({ frames := 3, cells := 1, slots := 68, locals := 53 } : Room)) (W := 0) dsib_3 rfl (hw _ (List.mem_of_getElem? (i := 165) rfl)) (hw _ (List.mem_of_getElem? (i := 166) rfl)) (hw _ (List.mem_of_getElem? (i := 4) rfl)) (hw _ (List.mem_of_getElem? (i := 167) rfl)) (by decide) (c_sia1 l Z a0 hw a1 a2 h0 n0 u1 u2 b2 K E g hK hE hB ga n12 n1b Zn cs hcs S_COMPACT_STRINGS X_a1 F_value_a1 F_coder_a1 X_a2 F_value_a2 F_coder_a2 F_count_a2 F_maybeLatin1_a2 A_b2) (argsL := [(.ref a2), .null]) (r := []) rfl (allS pm_a1 all0) (lenOf pd_28 rfl) rfl (Nat.le_of_eq rfl) (by decide) (by decide) (by decide) (by decide) (pc' := 6) rfl (fun T178 h178 v178 P178 q178 S => ?_)
  have pm_a1 := List.mem_append_right P178 pm_a1
  obtain ⟨rfl, q178⟩ := q178
  show Gl p e below s Z consts_1 _ n0 _ T178 (mkF m 6 #[.val (.ref a1), .val (.ref a2)] [])
  exact g_return C S dsib_6 (by decide) (by decide) (⟨rfl, q178⟩)
set_option maxRecDepth 65536 in
set_option maxHeartbeats 40000000 in
theorem c_ts1 (l : Launch) (Z : State) (a0 : Array Value) (hw : ∀ d ∈ tables_1, d.before a0 Z = true) (a1 : Addr) (h0 : Heap) (n0 : Nat) (b2 : Addr) (K E : Nat) (g : Nat → Int32) (hK : K ≤ 68) (hE : (2 * E) < K) (hB : Byt g K) (Zn : n0 ≤ h0.size) (cs : Int32) (hcs : ¬ cs = 0) (S_COMPACT_STRINGS : Sta Z h0 "java/lang/String" "COMPACT_STRINGS" "Z" (.int cs)) (X_a1 : Exa Z h0 a1 "java/lang/StringBuilder") (F_value_a1 : Fld Z h0 a1 "java/lang/AbstractStringBuilder" "value" "[B" (.ref b2)) (F_coder_a1 : Fld Z h0 a1 "java/lang/AbstractStringBuilder" "coder" "B" (.int (1 : Int32))) (F_count_a1 : Fld Z h0 a1 "java/lang/AbstractStringBuilder" "count" "I" (.int (Int32.ofNat E))) (F_maybeLatin1_a1 : Fld Z h0 a1 "java/lang/AbstractStringBuilder" "maybeLatin1" "Z" (.int (0 : Int32))) (A_b2 : Ary Z h0 b2 .byte K (fun q => .int (g q))) :
    Con l Z consts_1 [] (⟨"java/lang/StringBuilder", "toString", "()Ljava/lang/String;"⟩ : MethodName) jdk_67_method_42_code 1 (some (.object "java/lang/String")) ({ frames := 5, cells := 2, slots := 72, locals := 83 } : Room) #[(.ref a1)] h0 n0 (fun v h _ => ∃ a b, v = some (.ref a) ∧ Keep h0 h [] ∧ Exa Z h a "java/lang/String" ∧ Fld Z h a "java/lang/String" "coder" "B" (.int (1 : Int32)) ∧ Fld Z h a "java/lang/String" "value" "[B" (.ref b) ∧ Ary Z h b .byte (2 * E) (fun q => .int (g q))) := by
  refine Con.of (plainFor_of_name (by first | (simp [plainName, overriddenIn]; done) | decide +kernel)) (elw hw) (L0 := #[.val (.ref a1)]) (fun m => by first | (simp [entryFrame, mkF, argsToLocals, Value.category]; done) | rfl) ?_
  intro p e s m below meth c T C S
  have Kp := Keep.refl h0 []
  refine g_new C S dts_0 (hw _ (List.mem_of_getElem? (i := 161) rfl)) (hw _ (List.mem_of_getElem? (i := 3) rfl)) (hw _ (List.mem_of_getElem? (i := 4) rfl)) (by decide) (by decide) (pc' := 3) rfl (fun T179 h179 a179 S g179 E179 X179 D179 => ?_)
  have ne_a1_a179 : a1 ≠ a179 := ne_new g179 X_a1.lt
  have ne_b2_a179 : b2 ≠ a179 := ne_new g179 A_b2.lt
  have sz_a179 : h0.size ≤ a179 := ge_of g179 Kp.1
  have ge_a179 : n0 ≤ a179 := ge_of g179 Zn
  have pm_a179 := On.hd S
  have Kp := Kp.ext E179
  have X_a1 := X_a1.ext E179
  have F_value_a1 := F_value_a1.ext E179
  have F_coder_a1 := F_coder_a1.ext E179
  have F_count_a1 := F_count_a1.ext E179
  have F_maybeLatin1_a1 := F_maybeLatin1_a1.ext E179
  have A_b2 := A_b2.ext E179
  have S_COMPACT_STRINGS := S_COMPACT_STRINGS.ext E179
  have Zn := Nat.le_trans Zn E179.1
  have F_value_a179 : Fld Z h179 a179 "java/lang/String" "value" "[B" .null := D179 (Or.inr (hw _ (List.mem_of_getElem? (i := 17) rfl))) (ty := (.array .byte)) (by decide)
  have F_coder_a179 : Fld Z h179 a179 "java/lang/String" "coder" "B" (.int (0 : Int32)) := D179 (Or.inr (hw _ (List.mem_of_getElem? (i := 18) rfl))) (ty := .byte) (by decide)
  refine g_dup C S dts_3 (pc' := 4) rfl rfl ?_
  refine g_aloadN C S dts_4 (pc' := 5) rfl rfl rfl ?_
  refine g_callI C S (rm := ({ frames := 4, cells := 1, slots := 68, locals := 69 } : Room)) (W := 1) dts_5 rfl (hw _ (List.mem_of_getElem? (i := 162) rfl)) (hw _ (List.mem_of_getElem? (i := 163) rfl)) (hw _ (List.mem_of_getElem? (i := 4) rfl)) (hw _ (List.mem_of_getElem? (i := 164) rfl)) (by decide) (c_sib1 l Z a0 hw a179 a1 h179 n0 _ _ b2 K E g hK hE hB ge_a179 (Ne.symm ne_a1_a179) (Ne.symm ne_b2_a179) Zn cs hcs S_COMPACT_STRINGS X179 F_value_a179 F_coder_a179 X_a1 F_value_a1 F_coder_a1 F_count_a1 F_maybeLatin1_a1 A_b2) (argsL := [(.ref a1)]) (r := [(.ref a179)]) rfl (allS pm_a179 all0) (lenOf pd_29 rfl) rfl (Nat.le_of_eq rfl) (by decide) (by decide) (by decide) (by decide) (pc' := 8) rfl (fun T180 h180 v180 P180 q180 S => ?_)
  have pm_a179 := List.mem_append_right P180 pm_a179
  obtain ⟨rfl, K180, b3, q180⟩ := q180
  have Kp := Kp.trans K180 (allS (Or.inr sz_a179) all0)
  show Gl p e below s Z consts_1 _ n0 _ T180 (mkF m 8 #[.val (.ref a1)] [(.ref a179)])
  exact g_retA C S dts_8 rfl rfl rfl (by decide) (by decide) (⟨_, _, rfl, Kp, q180⟩)
theorem drn_0 : decode jdk_31_method_11_code 0 = .ok (.aload_n 0, 1) := by decide +kernel
theorem drn_1 : decode jdk_31_method_11_code 1 = .ok (.ifnonnull 12, 3) := by decide +kernel
theorem drn_13 : decode jdk_31_method_11_code 13 = .ok (.aload_n 0, 1) := by decide +kernel
theorem drn_14 : decode jdk_31_method_11_code 14 = .ok (.areturn, 1) := by decide +kernel
set_option maxRecDepth 65536 in
set_option maxHeartbeats 40000000 in
theorem c_rnn (l : Launch) (Z : State) (a0 : Array Value) (hw : ∀ d ∈ tables_1, d.before a0 Z = true) (a1 : Addr) (a2 : Addr) (h0 : Heap) (n0 : Nat) :
    Con l Z consts_1 [] (⟨"java/util/Objects", "requireNonNull", "(Ljava/lang/Object;Ljava/lang/String;)Ljava/lang/Object;"⟩ : MethodName) jdk_31_method_11_code 2 (some (.object "java/lang/Object")) ({ frames := 0, cells := 0, slots := 0, locals := 0 } : Room) #[(.ref a1), (.ref a2)] h0 n0 (fun v h _ => v = some (.ref a1) ∧ h = h0) := by
  refine Con.of (plainFor_of_name (by first | (simp [plainName, overriddenIn]; done) | decide +kernel)) (elw hw) (L0 := #[.val (.ref a1), .val (.ref a2)]) (fun m => by first | (simp [entryFrame, mkF, argsToLocals, Value.category]; done) | rfl) ?_
  intro p e s m below meth c T C S
  refine g_aloadN C S drn_0 (pc' := 1) rfl rfl rfl ?_
  refine g_ifnonnull_ref C S drn_1 (pc' := 13) (by decide) (by decide) ?_
  refine g_aloadN C S drn_13 (pc' := 14) rfl rfl rfl ?_
  exact g_retA C S drn_14 rfl rfl rfl (by decide) (by decide) (⟨rfl, rfl⟩)
theorem pd_30 : parseMethodDescriptor "(Ljava/lang/Object;Ljava/lang/String;)Ljava/lang/Object;" = some ⟨[(.object "java/lang/Object"), (.object "java/lang/String")], some (.object "java/lang/Object")⟩ := by decide +kernel
theorem pd_31 : parseMethodDescriptor "(Ljava/lang/String;)Ljava/lang/StringBuilder;" = some ⟨[(.object "java/lang/String")], some (.object "java/lang/StringBuilder")⟩ := by decide +kernel
theorem pd_32 : parseMethodDescriptor "()Ljava/lang/String;" = some ⟨[], some (.object "java/lang/String")⟩ := by decide +kernel
theorem dcn_0 : decode prog_48_method_4_code 0 = .ok (.aload_n 0, 1) := by decide +kernel
theorem dcn_1 : decode prog_48_method_4_code 1 = .ok (.ldc 61, 2) := by decide +kernel
theorem dcn_3 : decode prog_48_method_4_code 3 = .ok (.invokestatic 9, 3) := by decide +kernel
theorem dcn_6 : decode prog_48_method_4_code 6 = .ok (.pop, 1) := by decide +kernel
theorem dcn_7 : decode prog_48_method_4_code 7 = .ok (.new 20, 3) := by decide +kernel
theorem dcn_10 : decode prog_48_method_4_code 10 = .ok (.dup, 1) := by decide +kernel
theorem dcn_11 : decode prog_48_method_4_code 11 = .ok (.invokespecial 22, 3) := by decide +kernel
theorem dcn_14 : decode prog_48_method_4_code 14 = .ok (.ldc 63, 2) := by decide +kernel
theorem dcn_16 : decode prog_48_method_4_code 16 = .ok (.invokevirtual 25, 3) := by decide +kernel
theorem dcn_19 : decode prog_48_method_4_code 19 = .ok (.aload_n 0, 1) := by decide +kernel
theorem dcn_20 : decode prog_48_method_4_code 20 = .ok (.invokevirtual 25, 3) := by decide +kernel
theorem dcn_23 : decode prog_48_method_4_code 23 = .ok (.invokevirtual 32, 3) := by decide +kernel
theorem dcn_26 : decode prog_48_method_4_code 26 = .ok (.areturn, 1) := by decide +kernel
set_option maxRecDepth 65536 in
set_option maxHeartbeats 40000000 in
theorem c_cn0 (l : Launch) (Z : State) (a0 : Array Value) (hw : ∀ d ∈ tables_1, d.before a0 Z = true) (a1 : Addr) (h0 : Heap) (n0 : Nat) (b1 : Addr) (n : Nat) (cf g : Nat → Int32) (hn : n ≤ 3) (hL : Lat cf n) (hg : ∀ q, q < n → g q = bt (cf q)) (Zn : n0 ≤ h0.size) (cs : Int32) (hcs : ¬ cs = 0) (S_COMPACT_STRINGS : Sta Z h0 "java/lang/String" "COMPACT_STRINGS" "Z" (.int cs)) (S_assertionsDisabled : Sta Z h0 "java/lang/StringUTF16" "$assertionsDisabled" "Z" (.int (1 : Int32))) (S_HI_BYTE_SHIFT : Sta Z h0 "java/lang/StringUTF16" "HI_BYTE_SHIFT" "I" (.int (0 : Int32))) (S_LO_BYTE_SHIFT : Sta Z h0 "java/lang/StringUTF16" "LO_BYTE_SHIFT" "I" (.int (8 : Int32))) (fm : Value) (hfm : fm.isRef = true) (S_SIOOBE_FORMATTER : Sta Z h0 "jdk/internal/util/Preconditions" "SIOOBE_FORMATTER" "Ljava/util/function/BiFunction;" fm) (X_a1 : Exa Z h0 a1 "java/lang/String") (F_coder_a1 : Fld Z h0 a1 "java/lang/String" "coder" "B" (.int (0 : Int32))) (F_value_a1 : Fld Z h0 a1 "java/lang/String" "value" "[B" (.ref b1)) (A_b1 : Ary Z h0 b1 .byte n (fun q => .int (g q))) :
    Con l Z consts_1 [] (⟨"com/example/kindling/kindling/context/StartupMessages", "couldNotStart", "(Ljava/lang/String;)Ljava/lang/String;"⟩ : MethodName) prog_48_method_4_code 1 (some (.object "java/lang/String")) ({ frames := 10, cells := 12, slots := 360, locals := 160 } : Room) #[(.ref a1)] h0 n0 (fun v h _ => ∃ a b cd M g', v = some (.ref a) ∧ Keep h0 h [] ∧ (Exa Z h a "java/lang/String" ∧ Fld Z h a "java/lang/String" "coder" "B" (.int cd) ∧ Fld Z h a "java/lang/String" "value" "[B" (.ref b) ∧ Ary Z h b .byte M (fun q => .int (g' q))) ∧ Enc (kc cf) (26 + n) cd M g') := by
  refine Con.of (plainFor_of_name (by first | (simp [plainName, overriddenIn]; done) | decide +kernel)) (elw hw) (L0 := #[.val (.ref a1)]) (fun m => by first | (simp [entryFrame, mkF, argsToLocals, Value.category]; done) | rfl) ?_
  intro p e s m below meth c T C S
  have Kp := Keep.refl h0 []
  have hB : Byt g n := byt_bt hg
  refine g_aloadN C S dcn_0 (pc' := 1) rfl rfl rfl ?_
  refine g_ldcS C S (vs := [.int 99, .int 97, .int 117, .int 115, .int 101]) (zz := 5) (N := 5) (nn := 20) dcn_1 (hw _ (List.mem_of_getElem? (i := 71) rfl)) (List.mem_of_getElem? (i := 0) rfl) ⟨(by decide), rfl⟩ (by decide) (by decide) rfl (by decide) (by decide) (by decide) (by decide) (pc' := 3) rfl (fun T181 h181 a181 b181 S E181 X_a181 F_coder_a181 F_value_a181 A_b181 ns181 => ?_)
  have Kp := Kp.ext E181
  have X_a1 := X_a1.ext E181
  have F_coder_a1 := F_coder_a1.ext E181
  have F_value_a1 := F_value_a1.ext E181
  have A_b1 := A_b1.ext E181
  have S_COMPACT_STRINGS := S_COMPACT_STRINGS.ext E181
  have S_assertionsDisabled := S_assertionsDisabled.ext E181
  have S_HI_BYTE_SHIFT := S_HI_BYTE_SHIFT.ext E181
  have S_LO_BYTE_SHIFT := S_LO_BYTE_SHIFT.ext E181
  have S_SIOOBE_FORMATTER := S_SIOOBE_FORMATTER.ext E181
  have Zn := Nat.le_trans Zn E181.1
  refine g_callS C S (rm := ({ frames := 0, cells := 0, slots := 0, locals := 0 } : Room)) (W := 0) dcn_3 (hw _ (List.mem_of_getElem? (i := 72) rfl)) (hw _ (List.mem_of_getElem? (i := 73) rfl)) (hw _ (List.mem_of_getElem? (i := 74) rfl)) (hw _ (List.mem_of_getElem? (i := 75) rfl)) (by decide) (c_rnn l Z a0 hw a1 a181 h181 n0) (argsL := [(.ref a1), (.ref a181)]) (r := []) rfl all0 (lenOf pd_30 rfl) rfl (Nat.le_of_eq rfl) (by decide) (by decide) (by decide) (by decide) (pc' := 6) rfl (fun T182 h182 v182 P182 q182 S => ?_)
  obtain ⟨rfl, e182⟩ := q182; rw [e182] at S
  show Gl p e below s Z consts_1 _ n0 _ T182 (mkF m 6 #[.val (.ref a1)] [(.ref a1)])
  refine g_pop C S dcn_6 (pc' := 7) rfl rfl ?_
  refine g_new C S dcn_7 (hw _ (List.mem_of_getElem? (i := 76) rfl)) (hw _ (List.mem_of_getElem? (i := 77) rfl)) (hw _ (List.mem_of_getElem? (i := 78) rfl)) (by decide) (by decide) (pc' := 10) rfl (fun T183 h183 a183 S g183 E183 X183 D183 => ?_)
  have ne_a1_a183 : a1 ≠ a183 := ne_new g183 X_a1.lt
  have ne_b1_a183 : b1 ≠ a183 := ne_new g183 A_b1.lt
  have ne_a181_a183 : a181 ≠ a183 := ne_new g183 X_a181.lt
  have ne_b181_a183 : b181 ≠ a183 := ne_new g183 A_b181.lt
  have sz_a183 : h0.size ≤ a183 := ge_of g183 Kp.1
  have ge_a183 : n0 ≤ a183 := ge_of g183 Zn
  have pm_a183 := On.hd S
  have Kp := Kp.ext E183
  have X_a1 := X_a1.ext E183
  have F_coder_a1 := F_coder_a1.ext E183
  have F_value_a1 := F_value_a1.ext E183
  have A_b1 := A_b1.ext E183
  have S_COMPACT_STRINGS := S_COMPACT_STRINGS.ext E183
  have S_assertionsDisabled := S_assertionsDisabled.ext E183
  have S_HI_BYTE_SHIFT := S_HI_BYTE_SHIFT.ext E183
  have S_LO_BYTE_SHIFT := S_LO_BYTE_SHIFT.ext E183
  have S_SIOOBE_FORMATTER := S_SIOOBE_FORMATTER.ext E183
  have Zn := Nat.le_trans Zn E183.1
  have X_a181 := X_a181.ext E183
  have F_coder_a181 := F_coder_a181.ext E183
  have F_value_a181 := F_value_a181.ext E183
  have A_b181 := A_b181.ext E183
  have F_value_a183 : Fld Z h183 a183 "java/lang/AbstractStringBuilder" "value" "[B" .null := D183 (Or.inl (hw _ (List.mem_of_getElem? (i := 91) rfl))) (ty := (.array .byte)) (by decide)
  have F_coder_a183 : Fld Z h183 a183 "java/lang/AbstractStringBuilder" "coder" "B" (.int (0 : Int32)) := D183 (Or.inl (hw _ (List.mem_of_getElem? (i := 93) rfl))) (ty := .byte) (by decide)
  have F_count_a183 : Fld Z h183 a183 "java/lang/AbstractStringBuilder" "count" "I" (.int (0 : Int32)) := D183 (Or.inl (hw _ (List.mem_of_getElem? (i := 107) rfl))) (ty := .int) (by decide)
  have F_maybeLatin1_a183 : Fld Z h183 a183 "java/lang/AbstractStringBuilder" "maybeLatin1" "Z" (.int (0 : Int32)) := D183 (Or.inl (hw _ (List.mem_of_getElem? (i := 249) rfl))) (ty := .boolean) (by decide)
  refine g_dup C S dcn_10 (pc' := 11) rfl rfl ?_
  refine g_callI C S (rm := ({ frames := 2, cells := 1, slots := 16, locals := 26 } : Room)) (W := 1) dcn_11 rfl (hw _ (List.mem_of_getElem? (i := 79) rfl)) (hw _ (List.mem_of_getElem? (i := 80) rfl)) (hw _ (List.mem_of_getElem? (i := 78) rfl)) (hw _ (List.mem_of_getElem? (i := 81) rfl)) (by decide) (c_sbi l Z a0 hw a183 h183 n0 _ ge_a183 Zn cs hcs S_COMPACT_STRINGS X183 F_value_a183 F_coder_a183 F_count_a183 F_maybeLatin1_a183) (argsL := []) (r := [(.ref a183)]) rfl all0 (lenOf pd_19 rfl) rfl (Nat.le_of_eq rfl) (by decide) (by decide) (by decide) (by decide) (pc' := 14) rfl (fun T184 h184 v184 P184 q184 S => ?_)
  have pm_a183 := List.mem_append_right P184 pm_a183
  have X0 := X183
  obtain ⟨rfl, K184, b16, pm_b16, ge_b16, sz_b16, ⟨X_a183, F_value_a183, F_coder_a183, F_count_a183, F_maybeLatin1_a183⟩, A_b16⟩ := q184
  have ne_a1_b16 : a1 ≠ b16 := ne_ge sz_b16 X_a1.lt
  have ne_b1_b16 : b1 ≠ b16 := ne_ge sz_b16 A_b1.lt
  have ne_a181_b16 : a181 ≠ b16 := ne_ge sz_b16 X_a181.lt
  have ne_b181_b16 : b181 ≠ b16 := ne_ge sz_b16 A_b181.lt
  have ne_a183_b16 : a183 ≠ b16 := ne_ge sz_b16 X0.lt
  have sz_b16 := Nat.le_trans Kp.1 sz_b16
  have pm_b16 := On.ml S pm_b16
  have Kp := Kp.trans K184 (allS (Or.inr sz_a183) all0)
  have S_COMPACT_STRINGS := Sta.keep1 S_COMPACT_STRINGS K184 (X0.nostat)
  have S_assertionsDisabled := Sta.keep1 S_assertionsDisabled K184 (X0.nostat)
  have S_HI_BYTE_SHIFT := Sta.keep1 S_HI_BYTE_SHIFT K184 (X0.nostat)
  have S_LO_BYTE_SHIFT := Sta.keep1 S_LO_BYTE_SHIFT K184 (X0.nostat)
  have S_SIOOBE_FORMATTER := Sta.keep1 S_SIOOBE_FORMATTER K184 (X0.nostat)
  have X_a1 := X_a1.keep K184
  have F_coder_a1 := F_coder_a1.keep K184 (ninS ne_a1_a183 nin0)
  have F_value_a1 := F_value_a1.keep K184 (ninS ne_a1_a183 nin0)
  have A_b1 := A_b1.keep K184 (ninS ne_b1_a183 nin0)
  have Zn := Nat.le_trans Zn K184.1
  have X_a181 := X_a181.keep K184
  have F_coder_a181 := F_coder_a181.keep K184 (ninS ne_a181_a183 nin0)
  have F_value_a181 := F_value_a181.keep K184 (ninS ne_a181_a183 nin0)
  have A_b181 := A_b181.keep K184 (ninS ne_b181_a183 nin0)
  show Gl p e below s Z consts_1 _ n0 _ T184 (mkF m 14 #[.val (.ref a1)] [(.ref a183)])
  refine g_ldcS C S (vs := [.int 75, .int 105, .int 110, .int 100, .int 108, .int 105, .int 110, .int 103, .int 32, .int 99, .int 111, .int 117, .int 108, .int 100, .int 32, .int 110, .int 111, .int 116, .int 32, .int 115, .int 116, .int 97, .int 114, .int 116, .int 58, .int 32]) (zz := 26) (N := 26) (nn := 104) dcn_14 (hw _ (List.mem_of_getElem? (i := 94) rfl)) (List.mem_of_getElem? (i := 1) rfl) ⟨(by decide), rfl⟩ (by decide) (by decide) rfl (by decide) (by decide) (by decide) (by decide) (pc' := 16) rfl (fun T185 h185 a185 b185 S E185 X_a185 F_coder_a185 F_value_a185 A_b185 ns185 => ?_)
  have Kp := Kp.ext E185
  have X_a1 := X_a1.ext E185
  have F_coder_a1 := F_coder_a1.ext E185
  have F_value_a1 := F_value_a1.ext E185
  have A_b1 := A_b1.ext E185
  have S_COMPACT_STRINGS := S_COMPACT_STRINGS.ext E185
  have S_assertionsDisabled := S_assertionsDisabled.ext E185
  have S_HI_BYTE_SHIFT := S_HI_BYTE_SHIFT.ext E185
  have S_LO_BYTE_SHIFT := S_LO_BYTE_SHIFT.ext E185
  have S_SIOOBE_FORMATTER := S_SIOOBE_FORMATTER.ext E185
  have Zn := Nat.le_trans Zn E185.1
  have X_a181 := X_a181.ext E185
  have F_coder_a181 := F_coder_a181.ext E185
  have F_value_a181 := F_value_a181.ext E185
  have A_b181 := A_b181.ext E185
  have X_a183 := X_a183.ext E185
  have F_value_a183 := F_value_a183.ext E185
  have F_coder_a183 := F_coder_a183.ext E185
  have F_count_a183 := F_count_a183.ext E185
  have F_maybeLatin1_a183 := F_maybeLatin1_a183.ext E185
  have A_b16 := A_b16.ext E185
  have ne_a183_a185 := (ns185 _ pm_a183).1
  have ne_a183_b185 := (ns185 _ pm_a183).2
  have ne_b16_a185 := (ns185 _ pm_b16).1
  have ne_b16_b185 := (ns185 _ pm_b16).2
  have A_b185 := A_b185.cg pw_ldc
  refine g_callV C S (rm := ({ frames := 5, cells := 1, slots := 34, locals := 77 } : Room)) (W := 0) dcn_16 (hw _ (List.mem_of_getElem? (i := 95) rfl)) (hw _ (List.mem_of_getElem? (i := 96) rfl)) (fun _ hZ => notFace_of_selects (args := #[]) (mvT hZ (hw _ (List.mem_of_getElem? (i := 98) rfl)))) (hw _ (List.mem_of_getElem? (i := 98) rfl)) (hw _ (List.mem_of_getElem? (i := 97) rfl)) (hw _ (List.mem_of_getElem? (i := 78) rfl)) (hw _ (List.mem_of_getElem? (i := 99) rfl)) (by decide) rfl X_a183 (c_spA l Z a0 hw a183 a185 h185 n0 b16 b185 pW (fun i hi => pw_fits i hi) ge_a183 ne_a183_b16 ne_a183_a185 ne_a183_b185 Zn cs hcs S_COMPACT_STRINGS X_a183 F_value_a183 F_coder_a183 F_count_a183 F_maybeLatin1_a183 X_a185 F_coder_a185 F_value_a185 A_b185 A_b16) (argsL := [(.ref a185)]) (r := []) rfl all0 (lenOf pd_31 rfl) rfl (Nat.le_of_eq rfl) (by decide) (by decide) (by decide) (by decide) (pc' := 19) rfl (fun T186 h186 v186 P186 q186 S => ?_)
  have pm_a183 := List.mem_append_right P186 pm_a183
  have pm_b16 := List.mem_append_right P186 pm_b16
  have X0 := X_a183
  obtain ⟨rfl, K186, b34, pm_b34, ge_b34, sz_b34, ⟨X_a183', F_value_a183, F_coder_a183, F_count_a183, F_maybeLatin1_a183⟩, A_b34⟩ := q186
  have ne_a1_b34 : a1 ≠ b34 := ne_ge sz_b34 X_a1.lt
  have ne_b1_b34 : b1 ≠ b34 := ne_ge sz_b34 A_b1.lt
  have ne_a181_b34 : a181 ≠ b34 := ne_ge sz_b34 X_a181.lt
  have ne_b181_b34 : b181 ≠ b34 := ne_ge sz_b34 A_b181.lt
  have ne_b16_b34 : b16 ≠ b34 := ne_ge sz_b34 A_b16.lt
  have ne_a185_b34 : a185 ≠ b34 := ne_ge sz_b34 X_a185.lt
  have ne_b185_b34 : b185 ≠ b34 := ne_ge sz_b34 A_b185.lt
  have ne_a183_b34 : a183 ≠ b34 := ne_ge sz_b34 X0.lt
  have sz_b34 := Nat.le_trans Kp.1 sz_b34
  have pm_b34 := On.ml S pm_b34
  have Kp := Kp.trans K186 (allS (Or.inr sz_a183) all0)
  have S_COMPACT_STRINGS := Sta.keep1 S_COMPACT_STRINGS K186 (X0.nostat)
  have S_assertionsDisabled := Sta.keep1 S_assertionsDisabled K186 (X0.nostat)
  have S_HI_BYTE_SHIFT := Sta.keep1 S_HI_BYTE_SHIFT K186 (X0.nostat)
  have S_LO_BYTE_SHIFT := Sta.keep1 S_LO_BYTE_SHIFT K186 (X0.nostat)
  have S_SIOOBE_FORMATTER := Sta.keep1 S_SIOOBE_FORMATTER K186 (X0.nostat)
  have X_a1 := X_a1.keep K186
  have F_coder_a1 := F_coder_a1.keep K186 (ninS ne_a1_a183 nin0)
  have F_value_a1 := F_value_a1.keep K186 (ninS ne_a1_a183 nin0)
  have A_b1 := A_b1.keep K186 (ninS ne_b1_a183 nin0)
  have Zn := Nat.le_trans Zn K186.1
  have X_a181 := X_a181.keep K186
  have F_coder_a181 := F_coder_a181.keep K186 (ninS ne_a181_a183 nin0)
  have F_value_a181 := F_value_a181.keep K186 (ninS ne_a181_a183 nin0)
  have A_b181 := A_b181.keep K186 (ninS ne_b181_a183 nin0)
  have X_a183 := X_a183'
  have A_b34 : Ary Z h186 b34 .byte 34 (fun q => .int (pZ q)) := A_b34
  show Gl p e below s Z consts_1 _ n0 _ T186 (mkF m 19 #[.val (.ref a1)] [(.ref a183)])
  refine g_aloadN C S dcn_19 (pc' := 20) rfl rfl rfl ?_
  refine g_callV C S (rm := ({ frames := 4, cells := 0, slots := 0, locals := 61 } : Room)) (W := 0) dcn_20 (hw _ (List.mem_of_getElem? (i := 95) rfl)) (hw _ (List.mem_of_getElem? (i := 96) rfl)) (fun _ hZ => notFace_of_selects (args := #[]) (mvT hZ (hw _ (List.mem_of_getElem? (i := 98) rfl)))) (hw _ (List.mem_of_getElem? (i := 98) rfl)) (hw _ (List.mem_of_getElem? (i := 97) rfl)) (hw _ (List.mem_of_getElem? (i := 78) rfl)) (hw _ (List.mem_of_getElem? (i := 99) rfl)) (by decide) rfl X_a183 (c_sp0 l Z a0 hw a183 a1 h186 n0 b34 b1 n g pZ hn hB (pZ_byt 34) ge_a183 ge_b34 ne_a183_b34 (Ne.symm ne_a1_a183) (Ne.symm ne_b1_a183) (Ne.symm ne_a1_b34) (Ne.symm ne_b1_b34) cs hcs S_COMPACT_STRINGS X_a183 F_value_a183 F_coder_a183 F_count_a183 F_maybeLatin1_a183 X_a1 F_coder_a1 F_value_a1 A_b1 A_b34) (argsL := [(.ref a1)]) (r := []) rfl (allS pm_b34 all0) (lenOf pd_31 rfl) rfl (Nat.le_of_eq rfl) (by decide) (by decide) (by decide) (by decide) (pc' := 23) rfl (fun T187 h187 v187 P187 q187 S => ?_)
  have pm_a183 := List.mem_append_right P187 pm_a183
  have pm_b16 := List.mem_append_right P187 pm_b16
  have pm_b34 := List.mem_append_right P187 pm_b34
  have X0 := X_a183
  have A0 := A_b34
  obtain ⟨rfl, K187, ⟨X_a183', F_value_a183, F_coder_a183, F_count_a183, F_maybeLatin1_a183⟩, A_b34⟩ := q187
  have S_COMPACT_STRINGS := Sta.keep2 S_COMPACT_STRINGS K187 (X0.nostat) (Ary.nostat A0)
  have S_assertionsDisabled := Sta.keep2 S_assertionsDisabled K187 (X0.nostat) (Ary.nostat A0)
  have S_HI_BYTE_SHIFT := Sta.keep2 S_HI_BYTE_SHIFT K187 (X0.nostat) (Ary.nostat A0)
  have S_LO_BYTE_SHIFT := Sta.keep2 S_LO_BYTE_SHIFT K187 (X0.nostat) (Ary.nostat A0)
  have S_SIOOBE_FORMATTER := Sta.keep2 S_SIOOBE_FORMATTER K187 (X0.nostat) (Ary.nostat A0)
  have Kp := Kp.trans K187 (allS (Or.inr sz_a183) (allS (Or.inr sz_b34) all0))
  have X_a1 := X_a1.keep K187
  have F_coder_a1 := F_coder_a1.keep K187 (ninS ne_a1_a183 (ninS ne_a1_b34 nin0))
  have F_value_a1 := F_value_a1.keep K187 (ninS ne_a1_a183 (ninS ne_a1_b34 nin0))
  have A_b1 := A_b1.keep K187 (ninS ne_b1_a183 (ninS ne_b1_b34 nin0))
  have Zn := Nat.le_trans Zn K187.1
  have X_a181 := X_a181.keep K187
  have F_coder_a181 := F_coder_a181.keep K187 (ninS ne_a181_a183 (ninS ne_a181_b34 nin0))
  have F_value_a181 := F_value_a181.keep K187 (ninS ne_a181_a183 (ninS ne_a181_b34 nin0))
  have A_b181 := A_b181.keep K187 (ninS ne_b181_a183 (ninS ne_b181_b34 nin0))
  have X_a183 := X_a183'
  have A_b34 : Ary Z h187 b34 .byte 34 (fun q => .int ((g0 n g) q)) := A_b34
  show Gl p e below s Z consts_1 _ n0 _ T187 (mkF m 23 #[.val (.ref a1)] [(.ref a183)])
  refine g_callV C S (rm := ({ frames := 5, cells := 2, slots := 72, locals := 83 } : Room)) (W := 0) dcn_23 (hw _ (List.mem_of_getElem? (i := 156) rfl)) (hw _ (List.mem_of_getElem? (i := 157) rfl)) (fun _ hZ => notFace_of_selects (args := #[]) (mvT hZ (hw _ (List.mem_of_getElem? (i := 159) rfl)))) (hw _ (List.mem_of_getElem? (i := 159) rfl)) (hw _ (List.mem_of_getElem? (i := 158) rfl)) (hw _ (List.mem_of_getElem? (i := 78) rfl)) (hw _ (List.mem_of_getElem? (i := 160) rfl)) (by decide) rfl X_a183 (c_ts0 l Z a0 hw a183 h187 n0 b34 34 (26 + n) (g0 n g) (by omega) (by omega) (g0_byt hB _) Zn cs hcs S_COMPACT_STRINGS X_a183 F_value_a183 F_coder_a183 F_count_a183 F_maybeLatin1_a183 A_b34) (argsL := []) (r := []) rfl all0 (lenOf pd_32 rfl) rfl (Nat.le_of_eq rfl) (by decide) (by decide) (by decide) (by decide) (pc' := 26) rfl (fun T188 h188 v188 P188 q188 S => ?_)
  have pm_a183 := List.mem_append_right P188 pm_a183
  have pm_b16 := List.mem_append_right P188 pm_b16
  have pm_b34 := List.mem_append_right P188 pm_b34
  obtain ⟨a9, b9, rfl, K188, q188⟩ := q188
  have Kp := Kp.trans K188 all0
  show Gl p e below s Z consts_1 _ n0 _ T188 (mkF m 26 #[.val (.ref a1)] [(.ref a9)])
  exact g_retA C S dcn_26 rfl rfl rfl (by decide) (by decide) (⟨a9, b9, _, _, _, rfl, Kp, q188, g0_enc hL hg⟩)
set_option maxRecDepth 65536 in
set_option maxHeartbeats 40000000 in
theorem c_cn1 (l : Launch) (Z : State) (a0 : Array Value) (hw : ∀ d ∈ tables_1, d.before a0 Z = true) (a1 : Addr) (h0 : Heap) (n0 : Nat) (b1 : Addr) (n : Nat) (cf g : Nat → Int32) (hn : n ≤ 3) (hL : ¬ Lat cf n) (hg : ∀ q, q < (2 * n) → g q = ub cf q) (Zn : n0 ≤ h0.size) (cs : Int32) (hcs : ¬ cs = 0) (S_COMPACT_STRINGS : Sta Z h0 "java/lang/String" "COMPACT_STRINGS" "Z" (.int cs)) (S_assertionsDisabled : Sta Z h0 "java/lang/StringUTF16" "$assertionsDisabled" "Z" (.int (1 : Int32))) (S_HI_BYTE_SHIFT : Sta Z h0 "java/lang/StringUTF16" "HI_BYTE_SHIFT" "I" (.int (0 : Int32))) (S_LO_BYTE_SHIFT : Sta Z h0 "java/lang/StringUTF16" "LO_BYTE_SHIFT" "I" (.int (8 : Int32))) (fm : Value) (hfm : fm.isRef = true) (S_SIOOBE_FORMATTER : Sta Z h0 "jdk/internal/util/Preconditions" "SIOOBE_FORMATTER" "Ljava/util/function/BiFunction;" fm) (X_a1 : Exa Z h0 a1 "java/lang/String") (F_coder_a1 : Fld Z h0 a1 "java/lang/String" "coder" "B" (.int (1 : Int32))) (F_value_a1 : Fld Z h0 a1 "java/lang/String" "value" "[B" (.ref b1)) (A_b1 : Ary Z h0 b1 .byte (2 * n) (fun q => .int (g q))) :
    Con l Z consts_1 [] (⟨"com/example/kindling/kindling/context/StartupMessages", "couldNotStart", "(Ljava/lang/String;)Ljava/lang/String;"⟩ : MethodName) prog_48_method_4_code 1 (some (.object "java/lang/String")) ({ frames := 10, cells := 12, slots := 360, locals := 160 } : Room) #[(.ref a1)] h0 n0 (fun v h _ => ∃ a b cd M g', v = some (.ref a) ∧ Keep h0 h [] ∧ (Exa Z h a "java/lang/String" ∧ Fld Z h a "java/lang/String" "coder" "B" (.int cd) ∧ Fld Z h a "java/lang/String" "value" "[B" (.ref b) ∧ Ary Z h b .byte M (fun q => .int (g' q))) ∧ Enc (kc cf) (26 + n) cd M g') := by
  refine Con.of (plainFor_of_name (by first | (simp [plainName, overriddenIn]; done) | decide +kernel)) (elw hw) (L0 := #[.val (.ref a1)]) (fun m => by first | (simp [entryFrame, mkF, argsToLocals, Value.category]; done) | rfl) ?_
  intro p e s m below meth c T C S
  have Kp := Keep.refl h0 []
  have hB : Byt g (2 * n) := byt_ub hg
  refine g_aloadN C S dcn_0 (pc' := 1) rfl rfl rfl ?_
  refine g_ldcS C S (vs := [.int 99, .int 97, .int 117, .int 115, .int 101]) (zz := 5) (N := 5) (nn := 20) dcn_1 (hw _ (List.mem_of_getElem? (i := 71) rfl)) (List.mem_of_getElem? (i := 0) rfl) ⟨(by decide), rfl⟩ (by decide) (by decide) rfl (by decide) (by decide) (by decide) (by decide) (pc' := 3) rfl (fun T189 h189 a189 b189 S E189 X_a189 F_coder_a189 F_value_a189 A_b189 ns189 => ?_)
  have Kp := Kp.ext E189
  have X_a1 := X_a1.ext E189
  have F_coder_a1 := F_coder_a1.ext E189
  have F_value_a1 := F_value_a1.ext E189
  have A_b1 := A_b1.ext E189
  have S_COMPACT_STRINGS := S_COMPACT_STRINGS.ext E189
  have S_assertionsDisabled := S_assertionsDisabled.ext E189
  have S_HI_BYTE_SHIFT := S_HI_BYTE_SHIFT.ext E189
  have S_LO_BYTE_SHIFT := S_LO_BYTE_SHIFT.ext E189
  have S_SIOOBE_FORMATTER := S_SIOOBE_FORMATTER.ext E189
  have Zn := Nat.le_trans Zn E189.1
  refine g_callS C S (rm := ({ frames := 0, cells := 0, slots := 0, locals := 0 } : Room)) (W := 0) dcn_3 (hw _ (List.mem_of_getElem? (i := 72) rfl)) (hw _ (List.mem_of_getElem? (i := 73) rfl)) (hw _ (List.mem_of_getElem? (i := 74) rfl)) (hw _ (List.mem_of_getElem? (i := 75) rfl)) (by decide) (c_rnn l Z a0 hw a1 a189 h189 n0) (argsL := [(.ref a1), (.ref a189)]) (r := []) rfl all0 (lenOf pd_30 rfl) rfl (Nat.le_of_eq rfl) (by decide) (by decide) (by decide) (by decide) (pc' := 6) rfl (fun T190 h190 v190 P190 q190 S => ?_)
  obtain ⟨rfl, e190⟩ := q190; rw [e190] at S
  show Gl p e below s Z consts_1 _ n0 _ T190 (mkF m 6 #[.val (.ref a1)] [(.ref a1)])
  refine g_pop C S dcn_6 (pc' := 7) rfl rfl ?_
  refine g_new C S dcn_7 (hw _ (List.mem_of_getElem? (i := 76) rfl)) (hw _ (List.mem_of_getElem? (i := 77) rfl)) (hw _ (List.mem_of_getElem? (i := 78) rfl)) (by decide) (by decide) (pc' := 10) rfl (fun T191 h191 a191 S g191 E191 X191 D191 => ?_)
  have ne_a1_a191 : a1 ≠ a191 := ne_new g191 X_a1.lt
  have ne_b1_a191 : b1 ≠ a191 := ne_new g191 A_b1.lt
  have ne_a189_a191 : a189 ≠ a191 := ne_new g191 X_a189.lt
  have ne_b189_a191 : b189 ≠ a191 := ne_new g191 A_b189.lt
  have sz_a191 : h0.size ≤ a191 := ge_of g191 Kp.1
  have ge_a191 : n0 ≤ a191 := ge_of g191 Zn
  have pm_a191 := On.hd S
  have Kp := Kp.ext E191
  have X_a1 := X_a1.ext E191
  have F_coder_a1 := F_coder_a1.ext E191
  have F_value_a1 := F_value_a1.ext E191
  have A_b1 := A_b1.ext E191
  have S_COMPACT_STRINGS := S_COMPACT_STRINGS.ext E191
  have S_assertionsDisabled := S_assertionsDisabled.ext E191
  have S_HI_BYTE_SHIFT := S_HI_BYTE_SHIFT.ext E191
  have S_LO_BYTE_SHIFT := S_LO_BYTE_SHIFT.ext E191
  have S_SIOOBE_FORMATTER := S_SIOOBE_FORMATTER.ext E191
  have Zn := Nat.le_trans Zn E191.1
  have X_a189 := X_a189.ext E191
  have F_coder_a189 := F_coder_a189.ext E191
  have F_value_a189 := F_value_a189.ext E191
  have A_b189 := A_b189.ext E191
  have F_value_a191 : Fld Z h191 a191 "java/lang/AbstractStringBuilder" "value" "[B" .null := D191 (Or.inl (hw _ (List.mem_of_getElem? (i := 91) rfl))) (ty := (.array .byte)) (by decide)
  have F_coder_a191 : Fld Z h191 a191 "java/lang/AbstractStringBuilder" "coder" "B" (.int (0 : Int32)) := D191 (Or.inl (hw _ (List.mem_of_getElem? (i := 93) rfl))) (ty := .byte) (by decide)
  have F_count_a191 : Fld Z h191 a191 "java/lang/AbstractStringBuilder" "count" "I" (.int (0 : Int32)) := D191 (Or.inl (hw _ (List.mem_of_getElem? (i := 107) rfl))) (ty := .int) (by decide)
  have F_maybeLatin1_a191 : Fld Z h191 a191 "java/lang/AbstractStringBuilder" "maybeLatin1" "Z" (.int (0 : Int32)) := D191 (Or.inl (hw _ (List.mem_of_getElem? (i := 249) rfl))) (ty := .boolean) (by decide)
  refine g_dup C S dcn_10 (pc' := 11) rfl rfl ?_
  refine g_callI C S (rm := ({ frames := 2, cells := 1, slots := 16, locals := 26 } : Room)) (W := 1) dcn_11 rfl (hw _ (List.mem_of_getElem? (i := 79) rfl)) (hw _ (List.mem_of_getElem? (i := 80) rfl)) (hw _ (List.mem_of_getElem? (i := 78) rfl)) (hw _ (List.mem_of_getElem? (i := 81) rfl)) (by decide) (c_sbi l Z a0 hw a191 h191 n0 _ ge_a191 Zn cs hcs S_COMPACT_STRINGS X191 F_value_a191 F_coder_a191 F_count_a191 F_maybeLatin1_a191) (argsL := []) (r := [(.ref a191)]) rfl all0 (lenOf pd_19 rfl) rfl (Nat.le_of_eq rfl) (by decide) (by decide) (by decide) (by decide) (pc' := 14) rfl (fun T192 h192 v192 P192 q192 S => ?_)
  have pm_a191 := List.mem_append_right P192 pm_a191
  have X0 := X191
  obtain ⟨rfl, K192, b16, pm_b16, ge_b16, sz_b16, ⟨X_a191, F_value_a191, F_coder_a191, F_count_a191, F_maybeLatin1_a191⟩, A_b16⟩ := q192
  have ne_a1_b16 : a1 ≠ b16 := ne_ge sz_b16 X_a1.lt
  have ne_b1_b16 : b1 ≠ b16 := ne_ge sz_b16 A_b1.lt
  have ne_a189_b16 : a189 ≠ b16 := ne_ge sz_b16 X_a189.lt
  have ne_b189_b16 : b189 ≠ b16 := ne_ge sz_b16 A_b189.lt
  have ne_a191_b16 : a191 ≠ b16 := ne_ge sz_b16 X0.lt
  have sz_b16 := Nat.le_trans Kp.1 sz_b16
  have pm_b16 := On.ml S pm_b16
  have Kp := Kp.trans K192 (allS (Or.inr sz_a191) all0)
  have S_COMPACT_STRINGS := Sta.keep1 S_COMPACT_STRINGS K192 (X0.nostat)
  have S_assertionsDisabled := Sta.keep1 S_assertionsDisabled K192 (X0.nostat)
  have S_HI_BYTE_SHIFT := Sta.keep1 S_HI_BYTE_SHIFT K192 (X0.nostat)
  have S_LO_BYTE_SHIFT := Sta.keep1 S_LO_BYTE_SHIFT K192 (X0.nostat)
  have S_SIOOBE_FORMATTER := Sta.keep1 S_SIOOBE_FORMATTER K192 (X0.nostat)
  have X_a1 := X_a1.keep K192
  have F_coder_a1 := F_coder_a1.keep K192 (ninS ne_a1_a191 nin0)
  have F_value_a1 := F_value_a1.keep K192 (ninS ne_a1_a191 nin0)
  have A_b1 := A_b1.keep K192 (ninS ne_b1_a191 nin0)
  have Zn := Nat.le_trans Zn K192.1
  have X_a189 := X_a189.keep K192
  have F_coder_a189 := F_coder_a189.keep K192 (ninS ne_a189_a191 nin0)
  have F_value_a189 := F_value_a189.keep K192 (ninS ne_a189_a191 nin0)
  have A_b189 := A_b189.keep K192 (ninS ne_b189_a191 nin0)
  show Gl p e below s Z consts_1 _ n0 _ T192 (mkF m 14 #[.val (.ref a1)] [(.ref a191)])
  refine g_ldcS C S (vs := [.int 75, .int 105, .int 110, .int 100, .int 108, .int 105, .int 110, .int 103, .int 32, .int 99, .int 111, .int 117, .int 108, .int 100, .int 32, .int 110, .int 111, .int 116, .int 32, .int 115, .int 116, .int 97, .int 114, .int 116, .int 58, .int 32]) (zz := 26) (N := 26) (nn := 104) dcn_14 (hw _ (List.mem_of_getElem? (i := 94) rfl)) (List.mem_of_getElem? (i := 1) rfl) ⟨(by decide), rfl⟩ (by decide) (by decide) rfl (by decide) (by decide) (by decide) (by decide) (pc' := 16) rfl (fun T193 h193 a193 b193 S E193 X_a193 F_coder_a193 F_value_a193 A_b193 ns193 => ?_)
  have Kp := Kp.ext E193
  have X_a1 := X_a1.ext E193
  have F_coder_a1 := F_coder_a1.ext E193
  have F_value_a1 := F_value_a1.ext E193
  have A_b1 := A_b1.ext E193
  have S_COMPACT_STRINGS := S_COMPACT_STRINGS.ext E193
  have S_assertionsDisabled := S_assertionsDisabled.ext E193
  have S_HI_BYTE_SHIFT := S_HI_BYTE_SHIFT.ext E193
  have S_LO_BYTE_SHIFT := S_LO_BYTE_SHIFT.ext E193
  have S_SIOOBE_FORMATTER := S_SIOOBE_FORMATTER.ext E193
  have Zn := Nat.le_trans Zn E193.1
  have X_a189 := X_a189.ext E193
  have F_coder_a189 := F_coder_a189.ext E193
  have F_value_a189 := F_value_a189.ext E193
  have A_b189 := A_b189.ext E193
  have X_a191 := X_a191.ext E193
  have F_value_a191 := F_value_a191.ext E193
  have F_coder_a191 := F_coder_a191.ext E193
  have F_count_a191 := F_count_a191.ext E193
  have F_maybeLatin1_a191 := F_maybeLatin1_a191.ext E193
  have A_b16 := A_b16.ext E193
  have ne_a191_a193 := (ns193 _ pm_a191).1
  have ne_a191_b193 := (ns193 _ pm_a191).2
  have ne_b16_a193 := (ns193 _ pm_b16).1
  have ne_b16_b193 := (ns193 _ pm_b16).2
  have A_b193 := A_b193.cg pw_ldc
  refine g_callV C S (rm := ({ frames := 5, cells := 1, slots := 34, locals := 77 } : Room)) (W := 0) dcn_16 (hw _ (List.mem_of_getElem? (i := 95) rfl)) (hw _ (List.mem_of_getElem? (i := 96) rfl)) (fun _ hZ => notFace_of_selects (args := #[]) (mvT hZ (hw _ (List.mem_of_getElem? (i := 98) rfl)))) (hw _ (List.mem_of_getElem? (i := 98) rfl)) (hw _ (List.mem_of_getElem? (i := 97) rfl)) (hw _ (List.mem_of_getElem? (i := 78) rfl)) (hw _ (List.mem_of_getElem? (i := 99) rfl)) (by decide) rfl X_a191 (c_spA l Z a0 hw a191 a193 h193 n0 b16 b193 pW (fun i hi => pw_fits i hi) ge_a191 ne_a191_b16 ne_a191_a193 ne_a191_b193 Zn cs hcs S_COMPACT_STRINGS X_a191 F_value_a191 F_coder_a191 F_count_a191 F_maybeLatin1_a191 X_a193 F_coder_a193 F_value_a193 A_b193 A_b16) (argsL := [(.ref a193)]) (r := []) rfl all0 (lenOf pd_31 rfl) rfl (Nat.le_of_eq rfl) (by decide) (by decide) (by decide) (by decide) (pc' := 19) rfl (fun T194 h194 v194 P194 q194 S => ?_)
  have pm_a191 := List.mem_append_right P194 pm_a191
  have pm_b16 := List.mem_append_right P194 pm_b16
  have X0 := X_a191
  obtain ⟨rfl, K194, b34, pm_b34, ge_b34, sz_b34, ⟨X_a191', F_value_a191, F_coder_a191, F_count_a191, F_maybeLatin1_a191⟩, A_b34⟩ := q194
  have ne_a1_b34 : a1 ≠ b34 := ne_ge sz_b34 X_a1.lt
  have ne_b1_b34 : b1 ≠ b34 := ne_ge sz_b34 A_b1.lt
  have ne_a189_b34 : a189 ≠ b34 := ne_ge sz_b34 X_a189.lt
  have ne_b189_b34 : b189 ≠ b34 := ne_ge sz_b34 A_b189.lt
  have ne_b16_b34 : b16 ≠ b34 := ne_ge sz_b34 A_b16.lt
  have ne_a193_b34 : a193 ≠ b34 := ne_ge sz_b34 X_a193.lt
  have ne_b193_b34 : b193 ≠ b34 := ne_ge sz_b34 A_b193.lt
  have ne_a191_b34 : a191 ≠ b34 := ne_ge sz_b34 X0.lt
  have sz_b34 := Nat.le_trans Kp.1 sz_b34
  have pm_b34 := On.ml S pm_b34
  have Kp := Kp.trans K194 (allS (Or.inr sz_a191) all0)
  have S_COMPACT_STRINGS := Sta.keep1 S_COMPACT_STRINGS K194 (X0.nostat)
  have S_assertionsDisabled := Sta.keep1 S_assertionsDisabled K194 (X0.nostat)
  have S_HI_BYTE_SHIFT := Sta.keep1 S_HI_BYTE_SHIFT K194 (X0.nostat)
  have S_LO_BYTE_SHIFT := Sta.keep1 S_LO_BYTE_SHIFT K194 (X0.nostat)
  have S_SIOOBE_FORMATTER := Sta.keep1 S_SIOOBE_FORMATTER K194 (X0.nostat)
  have X_a1 := X_a1.keep K194
  have F_coder_a1 := F_coder_a1.keep K194 (ninS ne_a1_a191 nin0)
  have F_value_a1 := F_value_a1.keep K194 (ninS ne_a1_a191 nin0)
  have A_b1 := A_b1.keep K194 (ninS ne_b1_a191 nin0)
  have Zn := Nat.le_trans Zn K194.1
  have X_a189 := X_a189.keep K194
  have F_coder_a189 := F_coder_a189.keep K194 (ninS ne_a189_a191 nin0)
  have F_value_a189 := F_value_a189.keep K194 (ninS ne_a189_a191 nin0)
  have A_b189 := A_b189.keep K194 (ninS ne_b189_a191 nin0)
  have X_a191 := X_a191'
  have A_b34 : Ary Z h194 b34 .byte 34 (fun q => .int (pZ q)) := A_b34
  show Gl p e below s Z consts_1 _ n0 _ T194 (mkF m 19 #[.val (.ref a1)] [(.ref a191)])
  refine g_aloadN C S dcn_19 (pc' := 20) rfl rfl rfl ?_
  refine g_callV C S (rm := ({ frames := 9, cells := 1, slots := 80, locals := 130 } : Room)) (W := 0) dcn_20 (hw _ (List.mem_of_getElem? (i := 95) rfl)) (hw _ (List.mem_of_getElem? (i := 96) rfl)) (fun _ hZ => notFace_of_selects (args := #[]) (mvT hZ (hw _ (List.mem_of_getElem? (i := 98) rfl)))) (hw _ (List.mem_of_getElem? (i := 98) rfl)) (hw _ (List.mem_of_getElem? (i := 97) rfl)) (hw _ (List.mem_of_getElem? (i := 78) rfl)) (hw _ (List.mem_of_getElem? (i := 99) rfl)) (by decide) rfl X_a191 (c_sp1 l Z a0 hw a191 a1 h194 n0 b34 b1 n g pZ hn hB ge_a191 ne_a191_b34 (Ne.symm ne_a1_a191) (Ne.symm ne_b1_a191) Zn cs hcs S_COMPACT_STRINGS S_assertionsDisabled S_HI_BYTE_SHIFT S_LO_BYTE_SHIFT fm hfm S_SIOOBE_FORMATTER X_a191 F_value_a191 F_coder_a191 F_count_a191 F_maybeLatin1_a191 X_a1 F_coder_a1 F_value_a1 A_b1 A_b34) (argsL := [(.ref a1)]) (r := []) rfl all0 (lenOf pd_31 rfl) rfl (Nat.le_of_eq rfl) (by decide) (by decide) (by decide) (by decide) (pc' := 23) rfl (fun T195 h195 v195 P195 q195 S => ?_)
  have pm_a191 := List.mem_append_right P195 pm_a191
  have pm_b16 := List.mem_append_right P195 pm_b16
  have pm_b34 := List.mem_append_right P195 pm_b34
  have X0 := X_a191
  obtain ⟨rfl, K195, b68, ⟨X_a191', F_value_a191, F_coder_a191, F_count_a191, F_maybeLatin1_a191⟩, A_b68⟩ := q195
  have Kp := Kp.trans K195 (allS (Or.inr sz_a191) all0)
  have S_COMPACT_STRINGS := Sta.keep1 S_COMPACT_STRINGS K195 (X0.nostat)
  have S_assertionsDisabled := Sta.keep1 S_assertionsDisabled K195 (X0.nostat)
  have S_HI_BYTE_SHIFT := Sta.keep1 S_HI_BYTE_SHIFT K195 (X0.nostat)
  have S_LO_BYTE_SHIFT := Sta.keep1 S_LO_BYTE_SHIFT K195 (X0.nostat)
  have S_SIOOBE_FORMATTER := Sta.keep1 S_SIOOBE_FORMATTER K195 (X0.nostat)
  have X_a1 := X_a1.keep K195
  have F_coder_a1 := F_coder_a1.keep K195 (ninS ne_a1_a191 nin0)
  have F_value_a1 := F_value_a1.keep K195 (ninS ne_a1_a191 nin0)
  have A_b1 := A_b1.keep K195 (ninS ne_b1_a191 nin0)
  have Zn := Nat.le_trans Zn K195.1
  have X_a189 := X_a189.keep K195
  have F_coder_a189 := F_coder_a189.keep K195 (ninS ne_a189_a191 nin0)
  have F_value_a189 := F_value_a189.keep K195 (ninS ne_a189_a191 nin0)
  have A_b189 := A_b189.keep K195 (ninS ne_b189_a191 nin0)
  have X_a191 := X_a191'
  have A_b68 : Ary Z h195 b68 .byte 68 (fun q => .int ((g1 n g) q)) := A_b68
  show Gl p e below s Z consts_1 _ n0 _ T195 (mkF m 23 #[.val (.ref a1)] [(.ref a191)])
  refine g_callV C S (rm := ({ frames := 5, cells := 2, slots := 72, locals := 83 } : Room)) (W := 0) dcn_23 (hw _ (List.mem_of_getElem? (i := 156) rfl)) (hw _ (List.mem_of_getElem? (i := 157) rfl)) (fun _ hZ => notFace_of_selects (args := #[]) (mvT hZ (hw _ (List.mem_of_getElem? (i := 159) rfl)))) (hw _ (List.mem_of_getElem? (i := 159) rfl)) (hw _ (List.mem_of_getElem? (i := 158) rfl)) (hw _ (List.mem_of_getElem? (i := 78) rfl)) (hw _ (List.mem_of_getElem? (i := 160) rfl)) (by decide) rfl X_a191 (c_ts1 l Z a0 hw a191 h195 n0 b68 68 (26 + n) (g1 n g) (by omega) (by omega) (g1_byt hB _) Zn cs hcs S_COMPACT_STRINGS X_a191 F_value_a191 F_coder_a191 F_count_a191 F_maybeLatin1_a191 A_b68) (argsL := []) (r := []) rfl all0 (lenOf pd_32 rfl) rfl (Nat.le_of_eq rfl) (by decide) (by decide) (by decide) (by decide) (pc' := 26) rfl (fun T196 h196 v196 P196 q196 S => ?_)
  have pm_a191 := List.mem_append_right P196 pm_a191
  have pm_b16 := List.mem_append_right P196 pm_b16
  have pm_b34 := List.mem_append_right P196 pm_b34
  obtain ⟨a9, b9, rfl, K196, q196⟩ := q196
  have Kp := Kp.trans K196 all0
  show Gl p e below s Z consts_1 _ n0 _ T196 (mkF m 26 #[.val (.ref a1)] [(.ref a9)])
  exact g_retA C S dcn_26 rfl rfl rfl (by decide) (by decide) (⟨a9, b9, _, _, _, rfl, Kp, q196, g1_enc hL hg⟩)
theorem c_cns (l : Launch) (Z : State) (a0 : Array Value) (hw : ∀ d ∈ tables_1, d.before a0 Z = true) (a1 : Addr) (h0 : Heap) (n0 : Nat) (b1 : Addr) (n : Nat) (cd : Int32) (M : Nat) (cf g : Nat → Int32) (hn : n ≤ 3) (hE : Enc cf n cd M g) (Zn : n0 ≤ h0.size) (cs : Int32) (hcs : ¬ cs = 0) (S_COMPACT_STRINGS : Sta Z h0 "java/lang/String" "COMPACT_STRINGS" "Z" (.int cs)) (S_assertionsDisabled : Sta Z h0 "java/lang/StringUTF16" "$assertionsDisabled" "Z" (.int (1 : Int32))) (S_HI_BYTE_SHIFT : Sta Z h0 "java/lang/StringUTF16" "HI_BYTE_SHIFT" "I" (.int (0 : Int32))) (S_LO_BYTE_SHIFT : Sta Z h0 "java/lang/StringUTF16" "LO_BYTE_SHIFT" "I" (.int (8 : Int32))) (fm : Value) (hfm : fm.isRef = true) (S_SIOOBE_FORMATTER : Sta Z h0 "jdk/internal/util/Preconditions" "SIOOBE_FORMATTER" "Ljava/util/function/BiFunction;" fm) (X_a1 : Exa Z h0 a1 "java/lang/String") (F_coder_a1 : Fld Z h0 a1 "java/lang/String" "coder" "B" (.int cd)) (F_value_a1 : Fld Z h0 a1 "java/lang/String" "value" "[B" (.ref b1)) (A_b1 : Ary Z h0 b1 .byte M (fun q => .int (g q))) :
    Con l Z consts_1 [] (⟨"com/example/kindling/kindling/context/StartupMessages", "couldNotStart", "(Ljava/lang/String;)Ljava/lang/String;"⟩ : MethodName) prog_48_method_4_code 1 (some (.object "java/lang/String")) ({ frames := 10, cells := 12, slots := 360, locals := 160 } : Room) #[.ref a1] h0 n0 (fun v h _ => ∃ a b cd M g', v = some (.ref a) ∧ Keep h0 h [] ∧ (Exa Z h a "java/lang/String" ∧ Fld Z h a "java/lang/String" "coder" "B" (.int cd) ∧ Fld Z h a "java/lang/String" "value" "[B" (.ref b) ∧ Ary Z h b .byte M (fun q => .int (g' q))) ∧ Enc (kc cf) (26 + n) cd M g') := by
  rcases hE with ⟨hL, rfl, rfl, hg⟩ | ⟨hL, rfl, rfl, hg⟩
  · exact c_cn0 l Z a0 hw a1 h0 n0 b1 _ cf g hn hL hg Zn cs hcs S_COMPACT_STRINGS S_assertionsDisabled S_HI_BYTE_SHIFT S_LO_BYTE_SHIFT fm hfm S_SIOOBE_FORMATTER X_a1 F_coder_a1 F_value_a1 A_b1
  · exact c_cn1 l Z a0 hw a1 h0 n0 b1 _ cf g hn hL hg Zn cs hcs S_COMPACT_STRINGS S_assertionsDisabled S_HI_BYTE_SHIFT S_LO_BYTE_SHIFT fm hfm S_SIOOBE_FORMATTER X_a1 F_coder_a1 F_value_a1 A_b1
theorem dki_0 : decode jdk_41_method_11_code 0 = .ok (.iload_n 0, 1) := by decide +kernel
theorem dki_1 : decode jdk_41_method_11_code 1 = .ok (.ifCond .lt 8, 3) := by decide +kernel
theorem dki_4 : decode jdk_41_method_11_code 4 = .ok (.iload_n 0, 1) := by decide +kernel
theorem dki_5 : decode jdk_41_method_11_code 5 = .ok (.iload_n 1, 1) := by decide +kernel
theorem dki_6 : decode jdk_41_method_11_code 6 = .ok (.if_icmp .lt 10, 3) := by decide +kernel
theorem dki_16 : decode jdk_41_method_11_code 16 = .ok (.iload_n 0, 1) := by decide +kernel
theorem dki_17 : decode jdk_41_method_11_code 17 = .ok (.ireturn, 1) := by decide +kernel
set_option maxRecDepth 65536 in
set_option maxHeartbeats 40000000 in
theorem c_cki (l : Launch) (Z : State) (a0 : Array Value) (hw : ∀ d ∈ tables_1, d.before a0 Z = true) (fm : Value) (h0 : Heap) (n0 : Nat) (I N : Nat) (hI : I < N) (hN : N < 2 ^ 30) (hfm : fm.isRef = true) :
    Con l Z consts_1 [] (⟨"jdk/internal/util/Preconditions", "checkIndex", "(IILjava/util/function/BiFunction;)I"⟩ : MethodName) jdk_41_method_11_code 3 (some .int) ({ frames := 0, cells := 0, slots := 0, locals := 0 } : Room) #[(.int (Int32.ofNat I)), (.int (Int32.ofNat N)), fm] h0 n0 (fun v h _ => v = some (.int (Int32.ofNat I)) ∧ h = h0) := by
  refine Con.of (plainFor_of_name (by first | (simp [plainName, overriddenIn]; done) | decide +kernel)) (elw hw) (L0 := #[.val (.int (Int32.ofNat I)), .val (.int (Int32.ofNat N)), .val fm]) (fun m => by first | (simp [entryFrame, mkF, argsToLocals, Value.category]; done) | rfl | (cases fm <;> first | rfl | (simp [Value.isRef] at hfm; done))) ?_
  intro p e s m below meth c T C S
  refine g_iloadN C S dki_0 (pc' := 1) rfl rfl ?_
  refine g_if_lt C S dki_1 (pc' := 9) (pf := 4) (by decide) (by decide) rfl (fun hc1 => absurd hc1 (o32_neg (by omega))) (fun hc1 => ?_)
  refine g_iloadN C S dki_4 (pc' := 5) rfl rfl ?_
  refine g_iloadN C S dki_5 (pc' := 6) rfl rfl ?_
  refine g_icmp_lt C S dki_6 (pc' := 16) (pf := 9) (by decide) (by decide) rfl (fun hc6 => ?_) (fun hc6 => absurd ((o32_lt (by omega) (by omega)).mpr hI) hc6)
  refine g_iloadN C S dki_16 (pc' := 17) rfl rfl ?_
  exact g_retI C S dki_17 (by decide) (by decide) (⟨rfl, rfl⟩)
theorem pd_33 : parseMethodDescriptor "(IILjava/util/function/BiFunction;)I" = some ⟨[.int, .int, (.object "java/util/function/BiFunction")], some .int⟩ := by decide +kernel
theorem dks_0 : decode jdk_42_method_155_code 0 = .ok (.iload_n 0, 1) := by decide +kernel
theorem dks_1 : decode jdk_42_method_155_code 1 = .ok (.iload_n 1, 1) := by decide +kernel
theorem dks_2 : decode jdk_42_method_155_code 2 = .ok (.getstatic 1053, 3) := by decide +kernel
theorem dks_5 : decode jdk_42_method_155_code 5 = .ok (.invokestatic 1059, 3) := by decide +kernel
theorem dks_8 : decode jdk_42_method_155_code 8 = .ok (.pop, 1) := by decide +kernel
theorem dks_9 : decode jdk_42_method_155_code 9 = .ok (.return_, 1) := by decide +kernel
set_option maxRecDepth 65536 in
set_option maxHeartbeats 40000000 in
theorem c_cks (l : Launch) (Z : State) (a0 : Array Value) (hw : ∀ d ∈ tables_1, d.before a0 Z = true)  (h0 : Heap) (n0 : Nat) (I N : Nat) (hI : I < N) (hN : N < 2 ^ 30) (fm : Value) (hfm : fm.isRef = true) (S_SIOOBE_FORMATTER : Sta Z h0 "jdk/internal/util/Preconditions" "SIOOBE_FORMATTER" "Ljava/util/function/BiFunction;" fm) :
    Con l Z consts_1 [] (⟨"java/lang/String", "checkIndex", "(II)V"⟩ : MethodName) jdk_42_method_155_code 2 none ({ frames := 1, cells := 0, slots := 0, locals := 14 } : Room) #[(.int (Int32.ofNat I)), (.int (Int32.ofNat N))] h0 n0 (fun v h _ => v = none ∧ h = h0) := by
  refine Con.of (plainFor_of_name (by first | (simp [plainName, overriddenIn]; done) | decide +kernel)) (elw hw) (L0 := #[.val (.int (Int32.ofNat I)), .val (.int (Int32.ofNat N))]) (fun m => by first | (simp [entryFrame, mkF, argsToLocals, Value.category]; done) | rfl) ?_
  intro p e s m below meth c T C S
  refine g_iloadN C S dks_0 (pc' := 1) rfl rfl ?_
  refine g_iloadN C S dks_1 (pc' := 2) rfl rfl ?_
  refine g_getS C S dks_2 (host := "") (Or.inl (hw _ (List.mem_of_getElem? (i := 52) rfl))) Via.refl S_SIOOBE_FORMATTER (pc' := 5) rfl (fun T197 S => ?_)
  refine g_callS C S (rm := ({ frames := 0, cells := 0, slots := 0, locals := 0 } : Room)) (W := 0) dks_5 (hw _ (List.mem_of_getElem? (i := 54) rfl)) (hw _ (List.mem_of_getElem? (i := 55) rfl)) (hw _ (List.mem_of_getElem? (i := 53) rfl)) (hw _ (List.mem_of_getElem? (i := 56) rfl)) (by decide) (c_cki l Z a0 hw fm h0 n0 I N hI hN hfm) (argsL := [(.int (Int32.ofNat I)), (.int (Int32.ofNat N)), fm]) (r := []) rfl all0 (lenOf pd_33 rfl) rfl (Nat.le_of_eq rfl) (by decide) (by decide) (by decide) (by decide) (pc' := 8) rfl (fun T198 h198 v198 P198 q198 S => ?_)
  obtain ⟨rfl, e198⟩ := q198; rw [e198] at S
  show Gl p e below s Z consts_1 _ n0 _ T198 (mkF m 8 #[.val (.int (Int32.ofNat I)), .val (.int (Int32.ofNat N))] [(.int (Int32.ofNat I))])
  refine g_pop C S dks_8 (pc' := 9) rfl rfl ?_
  exact g_return C S dks_9 (by decide) (by decide) (⟨rfl, rfl⟩)
theorem dch_0 : decode jdk_43_method_2_code 0 = .ok (.iload_n 1, 1) := by decide +kernel
theorem dch_1 : decode jdk_43_method_2_code 1 = .ok (.aload_n 0, 1) := by decide +kernel
theorem dch_2 : decode jdk_43_method_2_code 2 = .ok (.arraylength, 1) := by decide +kernel
theorem dch_3 : decode jdk_43_method_2_code 3 = .ok (.invokestatic 9, 3) := by decide +kernel
theorem dch_6 : decode jdk_43_method_2_code 6 = .ok (.aload_n 0, 1) := by decide +kernel
theorem dch_7 : decode jdk_43_method_2_code 7 = .ok (.iload_n 1, 1) := by decide +kernel
theorem dch_8 : decode jdk_43_method_2_code 8 = .ok (.baload, 1) := by decide +kernel
theorem dch_9 : decode jdk_43_method_2_code 9 = .ok (.sipush 255, 3) := by decide +kernel
theorem dch_12 : decode jdk_43_method_2_code 12 = .ok (.iand, 1) := by decide +kernel
theorem dch_13 : decode jdk_43_method_2_code 13 = .ok (.i2c, 1) := by decide +kernel
theorem dch_14 : decode jdk_43_method_2_code 14 = .ok (.ireturn, 1) := by decide +kernel
set_option maxRecDepth 65536 in
set_option maxHeartbeats 40000000 in
theorem c_chL (l : Launch) (Z : State) (a0 : Array Value) (hw : ∀ d ∈ tables_1, d.before a0 Z = true) (a1 : Addr) (h0 : Heap) (n0 : Nat) (I N : Nat) (g : Nat → Int32) (x : Int32) (hx : (g I &&& 255).toUInt32.toUInt16.toUInt32.toInt32 = x) (hI : I < N) (hN : N < 2 ^ 30) (fm : Value) (hfm : fm.isRef = true) (S_SIOOBE_FORMATTER : Sta Z h0 "jdk/internal/util/Preconditions" "SIOOBE_FORMATTER" "Ljava/util/function/BiFunction;" fm) (A_a1 : Ary Z h0 a1 .byte N (fun q => .int (g q))) :
    Con l Z consts_1 [] (⟨"java/lang/StringLatin1", "charAt", "([BI)C"⟩ : MethodName) jdk_43_method_2_code 2 (some .char) ({ frames := 2, cells := 0, slots := 0, locals := 27 } : Room) #[(.ref a1), (.int (Int32.ofNat I))] h0 n0 (fun v h _ => v = some (.int x) ∧ h = h0) := by
  refine Con.of (plainFor_of_name (by first | (simp [plainName, overriddenIn]; done) | decide +kernel)) (elw hw) (L0 := #[.val (.ref a1), .val (.int (Int32.ofNat I))]) (fun m => by first | (simp [entryFrame, mkF, argsToLocals, Value.category]; done) | rfl) ?_
  intro p e s m below meth c T C S
  refine g_iloadN C S dch_0 (pc' := 1) rfl rfl ?_
  refine g_aloadN C S dch_1 (pc' := 2) rfl rfl rfl ?_
  refine g_arraylength C S (x := (Int32.ofNat N)) dch_2 A_a1 rfl (pc' := 3) rfl ?_
  refine g_callS C S (rm := ({ frames := 1, cells := 0, slots := 0, locals := 14 } : Room)) (W := 0) dch_3 (hw _ (List.mem_of_getElem? (i := 49) rfl)) (hw _ (List.mem_of_getElem? (i := 50) rfl)) (hw _ (List.mem_of_getElem? (i := 4) rfl)) (hw _ (List.mem_of_getElem? (i := 51) rfl)) (by decide) (c_cks l Z a0 hw h0 n0 I N hI hN fm hfm S_SIOOBE_FORMATTER) (argsL := [(.int (Int32.ofNat I)), (.int (Int32.ofNat N))]) (r := []) rfl all0 (lenOf pd_25 rfl) rfl (Nat.le_of_eq rfl) (by decide) (by decide) (by decide) (by decide) (pc' := 6) rfl (fun T199 h199 v199 P199 q199 S => ?_)
  obtain ⟨rfl, e199⟩ := q199; rw [e199] at S
  show Gl p e below s Z consts_1 _ n0 _ T199 (mkF m 6 #[.val (.ref a1), .val (.int (Int32.ofNat I))] [])
  refine g_aloadN C S dch_6 (pc' := 7) rfl rfl rfl ?_
  refine g_iloadN C S dch_7 (pc' := 8) rfl rfl ?_
  refine g_baloadB C S (i := I) (v := (.int (g I))) dch_8 A_a1 (o32 (by omega)) hI rfl (pc' := 9) rfl ?_
  refine g_sipush C S (255 : Int32) dch_9 (pc' := 12) rfl rfl ?_
  refine g_iand C S dch_12 (pc' := 13) rfl ?_
  refine g_i2c C S dch_13 (pc' := 14) rfl ?_
  exact g_retC C S dch_14 (char_nar (draw_lat _)) (by decide) (by decide) (⟨by rw [hx], rfl⟩)
theorem dcs_0 : decode jdk_42_method_56_code 0 = .ok (.aload_n 0, 1) := by decide +kernel
theorem dcs_1 : decode jdk_42_method_56_code 1 = .ok (.invokevirtual 492, 3) := by decide +kernel
theorem dcs_4 : decode jdk_42_method_56_code 4 = .ok (.ifCond .eq 12, 3) := by decide +kernel
theorem dcs_7 : decode jdk_42_method_56_code 7 = .ok (.aload_n 0, 1) := by decide +kernel
theorem dcs_8 : decode jdk_42_method_56_code 8 = .ok (.getfield 9, 3) := by decide +kernel
theorem dcs_11 : decode jdk_42_method_56_code 11 = .ok (.iload_n 1, 1) := by decide +kernel
theorem dcs_12 : decode jdk_42_method_56_code 12 = .ok (.invokestatic 495, 3) := by decide +kernel
theorem dcs_15 : decode jdk_42_method_56_code 15 = .ok (.ireturn, 1) := by decide +kernel
set_option maxRecDepth 65536 in
set_option maxHeartbeats 40000000 in
theorem c_chS (l : Launch) (Z : State) (a0 : Array Value) (hw : ∀ d ∈ tables_1, d.before a0 Z = true) (a1 : Addr) (h0 : Heap) (n0 : Nat) (b1 : Addr) (I N : Nat) (g : Nat → Int32) (x : Int32) (hx : (g I &&& 255).toUInt32.toUInt16.toUInt32.toInt32 = x) (hI : I < N) (hN : N < 2 ^ 30) (cs : Int32) (hcs : ¬ cs = 0) (S_COMPACT_STRINGS : Sta Z h0 "java/lang/String" "COMPACT_STRINGS" "Z" (.int cs)) (fm : Value) (hfm : fm.isRef = true) (S_SIOOBE_FORMATTER : Sta Z h0 "jdk/internal/util/Preconditions" "SIOOBE_FORMATTER" "Ljava/util/function/BiFunction;" fm) (X_a1 : Exa Z h0 a1 "java/lang/String") (F_coder_a1 : Fld Z h0 a1 "java/lang/String" "coder" "B" (.int (0 : Int32))) (F_value_a1 : Fld Z h0 a1 "java/lang/String" "value" "[B" (.ref b1)) (A_b1 : Ary Z h0 b1 .byte N (fun q => .int (g q))) :
    Con l Z consts_1 [] (⟨"java/lang/String", "charAt", "(I)C"⟩ : MethodName) jdk_42_method_56_code 2 (some .char) ({ frames := 3, cells := 0, slots := 0, locals := 40 } : Room) #[(.ref a1), (.int (Int32.ofNat I))] h0 n0 (fun v h _ => v = some (.int x) ∧ h = h0) := by
  refine Con.of (plainFor_of_name (by first | (simp [plainName, overriddenIn]; done) | decide +kernel)) (elw hw) (L0 := #[.val (.ref a1), .val (.int (Int32.ofNat I))]) (fun m => by first | (simp [entryFrame, mkF, argsToLocals, Value.category]; done) | rfl) ?_
  intro p e s m below meth c T C S
  refine g_aloadN C S dcs_0 (pc' := 1) rfl rfl rfl ?_
  refine g_callV C S (rm := ({ frames := 0, cells := 0, slots := 0, locals := 0 } : Room)) (W := 0) dcs_1 (hw _ (List.mem_of_getElem? (i := 40) rfl)) (hw _ (List.mem_of_getElem? (i := 41) rfl)) (fun _ hZ => notFace_of_selects (args := #[]) (mvT hZ (hw _ (List.mem_of_getElem? (i := 43) rfl)))) (hw _ (List.mem_of_getElem? (i := 43) rfl)) (hw _ (List.mem_of_getElem? (i := 42) rfl)) (hw _ (List.mem_of_getElem? (i := 4) rfl)) (hw _ (List.mem_of_getElem? (i := 44) rfl)) (by decide) rfl X_a1 (c_lat l Z a0 hw a1 h0 n0 cs hcs S_COMPACT_STRINGS F_coder_a1) (argsL := []) (r := []) rfl all0 (lenOf pd_18 rfl) rfl (Nat.le_of_eq rfl) (by decide) (by decide) (by decide) (by decide) (pc' := 4) rfl (fun T200 h200 v200 P200 q200 S => ?_)
  obtain ⟨rfl, e200⟩ := q200; rw [e200] at S
  show Gl p e below s Z consts_1 _ n0 _ T200 (mkF m 4 #[.val (.ref a1), .val (.int (Int32.ofNat I))] [(.int (1 : Int32))])
  refine g_if_eq C S dcs_4 (pc' := 16) (pf := 7) (by decide) (by decide) rfl (fun hc4 => absurd hc4 (by decide)) (fun hc4 => ?_)
  refine g_aloadN C S dcs_7 (pc' := 8) rfl rfl rfl ?_
  refine g_getF C S dcs_8 (host := "") (Or.inl (hw _ (List.mem_of_getElem? (i := 21) rfl))) Via.refl F_value_a1 (pc' := 11) rfl (fun T201 S => ?_)
  refine g_iloadN C S dcs_11 (pc' := 12) rfl rfl ?_
  refine g_callS C S (rm := ({ frames := 2, cells := 0, slots := 0, locals := 27 } : Room)) (W := 0) dcs_12 (hw _ (List.mem_of_getElem? (i := 45) rfl)) (hw _ (List.mem_of_getElem? (i := 46) rfl)) (hw _ (List.mem_of_getElem? (i := 47) rfl)) (hw _ (List.mem_of_getElem? (i := 48) rfl)) (by decide) (c_chL l Z a0 hw b1 h0 n0 I N g x hx hI hN fm hfm S_SIOOBE_FORMATTER A_b1) (argsL := [(.ref b1), (.int (Int32.ofNat I))]) (r := []) rfl all0 (lenOf pd_5 rfl) rfl (Nat.le_of_eq rfl) (by decide) (by decide) (by decide) (by decide) (pc' := 15) rfl (fun T202 h202 v202 P202 q202 S => ?_)
  obtain ⟨rfl, e202⟩ := q202; rw [e202] at S
  show Gl p e below s Z consts_1 _ n0 _ T202 (mkF m 15 #[.val (.ref a1), .val (.int (Int32.ofNat I))] [(.int x)])
  exact g_retC C S dcs_15 (by rw [← hx]; exact char_nar (draw_lat _)) (by decide) (by decide) (⟨rfl, rfl⟩)
theorem and3 (z : Int32) : z &&& 3 = 0 ∨ z &&& 3 = 1 ∨ z &&& 3 = 2 ∨ z &&& 3 = 3 := by
  have e : (z &&& 3).toInt = z.toInt % 4 := Jvm.Kit.i32_mask z 3 (k := 2) (by decide) (by decide)
  have h : (z &&& 3).toInt = 0 ∨ (z &&& 3).toInt = 1 ∨ (z &&& 3).toInt = 2 ∨ (z &&& 3).toInt = 3 := by omega
  rcases h with h | h | h | h
  · exact Or.inl (Int32.toInt_inj.mp h)
  · exact Or.inr (Or.inl (Int32.toInt_inj.mp h))
  · exact Or.inr (Or.inr (Or.inl (Int32.toInt_inj.mp h)))
  · exact Or.inr (Or.inr (Or.inr (Int32.toInt_inj.mp h)))
theorem c16_of {x c : Int32} (h : (x &&& 65535).toUInt32.toUInt16.toUInt32.toInt32 = c) : 0 ≤ c.toInt ∧ c.toInt ≤ 65535 := by
  have e : (x &&& 65535).toInt = x.toInt % 65536 := Jvm.Kit.i32_mask x 65535 (k := 16) (by decide) (by decide)
  have h1 : 0 ≤ (x &&& 65535).toInt ∧ (x &&& 65535).toInt ≤ 65535 := by omega
  rw [char_back (x &&& 65535) (by rw [Int32.le_iff_toInt_le]; exact h1.1) (by rw [Int32.le_iff_toInt_le]; exact h1.2)] at h
  rw [← h]; exact h1
theorem nar16 {c : Int32} (h : 0 ≤ c.toInt ∧ c.toInt ≤ 65535) : nar .char c = c := Value.int.inj (char16_nar h)
/-- the cause's chars -/
def cX (ca cb cc : Int32) (q : Nat) : Int32 := if q = 0 then ca else if q = 1 then cb else cc
theorem cX_16 {ca cb cc : Int32} (a : 0 ≤ ca.toInt ∧ ca.toInt ≤ 65535) (b : 0 ≤ cb.toInt ∧ cb.toInt ≤ 65535) (c : 0 ≤ cc.toInt ∧ cc.toInt ≤ 65535) (n : Nat) : C16 (cX ca cb cc) n := fun i _ => by
  unfold cX; split
  · exact a
  · split
    · exact b
    · exact c
theorem pst {v : Int32} (N i : Nat) (hv : nar .char v = pW i) : ∀ q, q < N → (if q = i then Value.int (nar .char v) else .int (if q < i then pW q else 0)) = .int (if q < i + 1 then pW q else 0) := fun q _ => by
  by_cases u : q = i
  · subst u; rw [if_pos rfl, if_pos (Nat.lt_succ_self _), hv]
  · rw [if_neg u]
    by_cases w : q < i
    · rw [if_pos w, if_pos (by omega)]
    · rw [if_neg w, if_neg (by omega)]
theorem EqAt.yes {g g' : Nat → Int32} {N : Nat} {z : Int32} (h : EqAt g g' N N (some (.int z))) (q : ∀ i, i < N → g i = g' i) : ¬ z = 0 := by
  rcases h with ⟨e, -⟩ | ⟨e, n⟩
  · rw [Value.int.inj (Option.some.inj e)]; decide
  · exact absurd ⟨rfl, q⟩ n
theorem Enc.small {cf g : Nat → Int32} {N M : Nat} {cd : Int32} (h : Enc cf N cd M g) (hN : N ≤ 32) : M < 2 ^ 30 := by rcases h with ⟨-, -, e, -⟩ | ⟨-, -, e, -⟩ <;> omega
theorem upto3 {n : Nat} (h : n ≤ 3) : n = 0 ∨ n = 1 ∨ n = 2 ∨ n = 3 := by omega
theorem pd_34 : parseMethodDescriptor "([C)V" = some ⟨[(.array .char)], none⟩ := by decide +kernel
theorem pd_35 : parseMethodDescriptor "(Ljava/lang/String;)Ljava/lang/String;" = some ⟨[(.object "java/lang/String")], some (.object "java/lang/String")⟩ := by decide +kernel
theorem pd_36 : parseMethodDescriptor "(Ljava/lang/Object;)Z" = some ⟨[(.object "java/lang/Object")], some .boolean⟩ := by decide +kernel
theorem pd_37 : parseMethodDescriptor "(I)C" = some ⟨[.int], some .char⟩ := by decide +kernel
set_option maxRecDepth 65536 in
set_option maxHeartbeats 40000000 in
theorem c_law (l : Launch) (Z : State) (a0 : Array Value) (hw : ∀ d ∈ tables_1, d.before a0 Z = true) (p1 : Int32) (p2 : Int32) (p3 : Int32) (p4 : Int32) (h0 : Heap) (n0 : Nat) (Zn : n0 ≤ h0.size) (cs : Int32) (hcs : ¬ cs = 0) (S_COMPACT_STRINGS : Sta Z h0 "java/lang/String" "COMPACT_STRINGS" "Z" (.int cs)) (S_assertionsDisabled : Sta Z h0 "java/lang/StringUTF16" "$assertionsDisabled" "Z" (.int (1 : Int32))) (S_HI_BYTE_SHIFT : Sta Z h0 "java/lang/StringUTF16" "HI_BYTE_SHIFT" "I" (.int (0 : Int32))) (S_LO_BYTE_SHIFT : Sta Z h0 "java/lang/StringUTF16" "LO_BYTE_SHIFT" "I" (.int (8 : Int32))) (fm : Value) (hfm : fm.isRef = true) (S_SIOOBE_FORMATTER : Sta Z h0 "jdk/internal/util/Preconditions" "SIOOBE_FORMATTER" "Ljava/util/function/BiFunction;" fm) :
    Con l Z consts_1 [] x code maxLocals ret room_1 #[(.int p1), (.int p2), (.int p3), (.int p4)] h0 n0 (fun v h _ => v = some (.int 1)) := by
  refine Con.of (plainFor_of_name (by first | (simp [plainName, overriddenIn, x]; done) | decide +kernel)) (elw hw) (L0 := #[.val (.int p1), .val (.int p2), .val (.int p3), .val (.int p4), .unset, .unset, .unset, .unset, .unset, .unset, .unset, .unset, .unset, .unset]) (fun m => by first | (simp [entryFrame, mkF, argsToLocals, Value.category, maxLocals]; done) | rfl) ?_
  intro p e s m below meth c T C S
  refine g_iloadN C S at_0 (pc' := 1) rfl rfl ?_
  refine g_iconst C S (3 : Int32) at_1 (pc' := 2) rfl rfl ?_
  refine g_iand C S at_2 (pc' := 3) rfl ?_
  refine g_istore C S at_3 (pc' := 5) rfl (L' := #[.val (.int p1), .val (.int p2), .val (.int p3), .val (.int p4), .val (.int (p1 &&& (3 : Int32))), .unset, .unset, .unset, .unset, .unset, .unset, .unset, .unset, .unset]) rfl ?_
  refine g_iloadN C S at_5 (pc' := 6) rfl rfl ?_
  refine g_ldc C S at_6 (hw _ (List.mem_of_getElem? (i := 0) rfl)) (pc' := 8) rfl ?_
  refine g_iand C S at_8 (pc' := 9) rfl ?_
  refine g_i2c C S at_9 (pc' := 10) rfl ?_
  generalize hxa : ((p2 &&& (65535 : Int32)).toUInt32.toUInt16.toUInt32.toInt32) = ca
  have c_a := c16_of hxa
  refine g_istore C S at_10 (pc' := 12) rfl (L' := #[.val (.int p1), .val (.int p2), .val (.int p3), .val (.int p4), .val (.int (p1 &&& (3 : Int32))), .val (.int ca), .unset, .unset, .unset, .unset, .unset, .unset, .unset, .unset]) rfl ?_
  refine g_iloadN C S at_12 (pc' := 13) rfl rfl ?_
  refine g_ldc C S at_13 (hw _ (List.mem_of_getElem? (i := 0) rfl)) (pc' := 15) rfl ?_
  refine g_iand C S at_15 (pc' := 16) rfl ?_
  refine g_i2c C S at_16 (pc' := 17) rfl ?_
  generalize hxb : ((p3 &&& (65535 : Int32)).toUInt32.toUInt16.toUInt32.toInt32) = cb
  have c_b := c16_of hxb
  refine g_istore C S at_17 (pc' := 19) rfl (L' := #[.val (.int p1), .val (.int p2), .val (.int p3), .val (.int p4), .val (.int (p1 &&& (3 : Int32))), .val (.int ca), .val (.int cb), .unset, .unset, .unset, .unset, .unset, .unset, .unset]) rfl ?_
  refine g_iloadN C S at_19 (pc' := 20) rfl rfl ?_
  refine g_ldc C S at_20 (hw _ (List.mem_of_getElem? (i := 0) rfl)) (pc' := 22) rfl ?_
  refine g_iand C S at_22 (pc' := 23) rfl ?_
  refine g_i2c C S at_23 (pc' := 24) rfl ?_
  generalize hxc : ((p4 &&& (65535 : Int32)).toUInt32.toUInt16.toUInt32.toInt32) = cc
  have c_c := c16_of hxc
  refine g_istore C S at_24 (pc' := 26) rfl (L' := #[.val (.int p1), .val (.int p2), .val (.int p3), .val (.int p4), .val (.int (p1 &&& (3 : Int32))), .val (.int ca), .val (.int cb), .val (.int cc), .unset, .unset, .unset, .unset, .unset, .unset]) rfl ?_
  have J512 : ∀ (n : Nat) (a8 : Addr) (s9 : Addr) (b9 : Addr) (cd9 : Int32) (M9 : Nat) (g9 : Nat → Int32) (a10 : Addr) (b10 : Addr) (a11 : Addr) (hn : n ≤ 3) (hE9 : Enc (cX ca cb cc) n cd9 M9 g9)  (T : State) (h : Heap) (PS : List Addr), On p l e room_1 s m #[(.int p1), (.int p2), (.int p3), (.int p4)] below meth c Z consts_1 "com/example/kindling/kindling/context/StartupMessagesCouldNotStartPinLaw" n0 T h PS 10 300 → n0 ≤ h.size → Sta Z h "java/lang/String" "COMPACT_STRINGS" "Z" (.int cs) → Sta Z h "java/lang/StringUTF16" "$assertionsDisabled" "Z" (.int (1 : Int32)) → Sta Z h "java/lang/StringUTF16" "HI_BYTE_SHIFT" "I" (.int (0 : Int32)) → Sta Z h "java/lang/StringUTF16" "LO_BYTE_SHIFT" "I" (.int (8 : Int32)) → Sta Z h "jdk/internal/util/Preconditions" "SIOOBE_FORMATTER" "Ljava/util/function/BiFunction;" fm → Exa Z h s9 "java/lang/String" → Fld Z h s9 "java/lang/String" "coder" "B" (.int cd9) → Fld Z h s9 "java/lang/String" "value" "[B" (.ref b9) → Ary Z h b9 .byte M9 (fun q => .int (g9 q)) → Ary Z h a11 .char (26 + n) (fun q => .int (kc (cX ca cb cc) q)) → Gl p e below s Z consts_1 room_1 n0 (fun v h _ => v = some (.int 1)) T (mkF m 512 #[.val (.int p1), .val (.int p2), .val (.int p3), .val (.int p4), .val (.int (Int32.ofNat n)), .val (.int ca), .val (.int cb), .val (.int cc), .val (.ref a8), .val (.ref s9), .val (.ref a10), .val (.ref a11), .unset, .unset] []) := by
    intro n a8 s9 b9 cd9 M9 g9 a10 b10 a11 hn hE9 T h PS S Zn S_COMPACT_STRINGS S_assertionsDisabled S_HI_BYTE_SHIFT S_LO_BYTE_SHIFT S_SIOOBE_FORMATTER X_s9 F_coder_s9 F_value_s9 A_b9 A_a11
    refine g_new C S at_512 (hw _ (List.mem_of_getElem? (i := 2) rfl)) (hw _ (List.mem_of_getElem? (i := 3) rfl)) (hw _ (List.mem_of_getElem? (i := 4) rfl)) (by decide) (by decide) (pc' := 515) rfl (fun T203 h203 a203 S g203 E203 X203 D203 => ?_)
    have ne_s9_a203 : s9 ≠ a203 := ne_new g203 X_s9.lt
    have ne_b9_a203 : b9 ≠ a203 := ne_new g203 A_b9.lt
    have ne_a11_a203 : a11 ≠ a203 := ne_new g203 A_a11.lt
    have ge_a203 : n0 ≤ a203 := ge_of g203 Zn
    have pm_a203 := On.hd S
    have Zn := Nat.le_trans Zn E203.1
    have S_COMPACT_STRINGS := S_COMPACT_STRINGS.ext E203
    have S_assertionsDisabled := S_assertionsDisabled.ext E203
    have S_HI_BYTE_SHIFT := S_HI_BYTE_SHIFT.ext E203
    have S_LO_BYTE_SHIFT := S_LO_BYTE_SHIFT.ext E203
    have S_SIOOBE_FORMATTER := S_SIOOBE_FORMATTER.ext E203
    have X_s9 := X_s9.ext E203
    have F_coder_s9 := F_coder_s9.ext E203
    have F_value_s9 := F_value_s9.ext E203
    have A_b9 := A_b9.ext E203
    have A_a11 := A_a11.ext E203
    have F_value_a203 : Fld Z h203 a203 "java/lang/String" "value" "[B" .null := D203 (Or.inr (hw _ (List.mem_of_getElem? (i := 17) rfl))) (ty := (.array .byte)) (by decide)
    have F_coder_a203 : Fld Z h203 a203 "java/lang/String" "coder" "B" (.int (0 : Int32)) := D203 (Or.inr (hw _ (List.mem_of_getElem? (i := 18) rfl))) (ty := .byte) (by decide)
    refine g_dup C S at_515 (pc' := 516) rfl rfl ?_
    refine g_aload C S at_516 (pc' := 518) rfl rfl rfl ?_
    refine g_callI C S (rm := ({ frames := 5, cells := 4, slots := 112, locals := 75 } : Room)) (W := 1) at_518 rfl (hw _ (List.mem_of_getElem? (i := 5) rfl)) (hw _ (List.mem_of_getElem? (i := 6) rfl)) (hw _ (List.mem_of_getElem? (i := 4) rfl)) (hw _ (List.mem_of_getElem? (i := 7) rfl)) (by decide) (c_ini l Z a0 hw a203 a11 h203 n0 _ _ (26 + n) (kc (cX ca cb cc)) (by omega) (kc_c16 (cX_16 c_a c_b c_c n)) ge_a203 (Ne.symm ne_a11_a203) Zn cs hcs S_COMPACT_STRINGS S_assertionsDisabled S_HI_BYTE_SHIFT S_LO_BYTE_SHIFT X203 F_value_a203 F_coder_a203 A_a11) (argsL := [(.ref a11)]) (r := [(.ref a203)]) rfl (allS pm_a203 all0) (lenOf pd_34 rfl) rfl (Nat.le_of_eq rfl) (by decide) (by decide) (by decide) (by decide) (pc' := 521) rfl (fun T204 h204 v204 P204 q204 S => ?_)
    have pm_a203 := List.mem_append_right P204 pm_a203
    have X0 := X203
    obtain ⟨rfl, K204, b12, cd12, M12, g12, ⟨X_a203, F_coder_a203, F_value_a203, A_b12⟩, hE12⟩ := q204
    have S_COMPACT_STRINGS := Sta.keep1 S_COMPACT_STRINGS K204 (X0.nostat)
    have S_assertionsDisabled := Sta.keep1 S_assertionsDisabled K204 (X0.nostat)
    have S_HI_BYTE_SHIFT := Sta.keep1 S_HI_BYTE_SHIFT K204 (X0.nostat)
    have S_LO_BYTE_SHIFT := Sta.keep1 S_LO_BYTE_SHIFT K204 (X0.nostat)
    have S_SIOOBE_FORMATTER := Sta.keep1 S_SIOOBE_FORMATTER K204 (X0.nostat)
    have Zn := Nat.le_trans Zn K204.1
    have X_s9 := X_s9.keep K204
    have F_coder_s9 := F_coder_s9.keep K204 (ninS ne_s9_a203 nin0)
    have F_value_s9 := F_value_s9.keep K204 (ninS ne_s9_a203 nin0)
    have A_b9 := A_b9.keep K204 (ninS ne_b9_a203 nin0)
    have A_a11 := A_a11.keep K204 (ninS ne_a11_a203 nin0)
    show Gl p e below s Z consts_1 _ n0 _ T204 (mkF m 521 #[.val (.int p1), .val (.int p2), .val (.int p3), .val (.int p4), .val (.int (Int32.ofNat n)), .val (.int ca), .val (.int cb), .val (.int cc), .val (.ref a8), .val (.ref s9), .val (.ref a10), .val (.ref a11), .unset, .unset] [(.ref a203)])
    refine g_astore C S at_521 (pc' := 523) rfl rfl (L' := #[.val (.int p1), .val (.int p2), .val (.int p3), .val (.int p4), .val (.int (Int32.ofNat n)), .val (.int ca), .val (.int cb), .val (.int cc), .val (.ref a8), .val (.ref s9), .val (.ref a10), .val (.ref a11), .val (.ref a203), .unset]) rfl ?_
    refine g_aload C S at_523 (pc' := 525) rfl rfl rfl ?_
    refine g_callS C S (rm := ({ frames := 10, cells := 12, slots := 360, locals := 160 } : Room)) (W := 0) at_525 (hw _ (List.mem_of_getElem? (i := 67) rfl)) (hw _ (List.mem_of_getElem? (i := 68) rfl)) (hw _ (List.mem_of_getElem? (i := 69) rfl)) (hw _ (List.mem_of_getElem? (i := 70) rfl)) (by decide) (c_cns l Z a0 hw s9 h204 n0 b9 n cd9 M9 (cX ca cb cc) g9 hn hE9 Zn cs hcs S_COMPACT_STRINGS S_assertionsDisabled S_HI_BYTE_SHIFT S_LO_BYTE_SHIFT fm hfm S_SIOOBE_FORMATTER X_s9 F_coder_s9 F_value_s9 A_b9) (argsL := [(.ref s9)]) (r := []) rfl all0 (lenOf pd_35 rfl) rfl (Nat.le_of_eq rfl) (by decide) (by decide) (by decide) (by decide) (pc' := 528) rfl (fun T205 h205 v205 P205 q205 S => ?_)
    have pm_a203 := List.mem_append_right P205 pm_a203
    obtain ⟨a13, b13, cd13, M13, g13, rfl, K205, ⟨X_a13, F_coder_a13, F_value_a13, A_b13⟩, hE13⟩ := q205
    have S_COMPACT_STRINGS := Sta.keep0 S_COMPACT_STRINGS K205
    have S_assertionsDisabled := Sta.keep0 S_assertionsDisabled K205
    have S_HI_BYTE_SHIFT := Sta.keep0 S_HI_BYTE_SHIFT K205
    have S_LO_BYTE_SHIFT := Sta.keep0 S_LO_BYTE_SHIFT K205
    have S_SIOOBE_FORMATTER := Sta.keep0 S_SIOOBE_FORMATTER K205
    have Zn := Nat.le_trans Zn K205.1
    have X_s9 := X_s9.keep K205
    have F_coder_s9 := F_coder_s9.keep K205 nin0
    have F_value_s9 := F_value_s9.keep K205 nin0
    have A_b9 := A_b9.keep K205 nin0
    have A_a11 := A_a11.keep K205 nin0
    have X_a203 := X_a203.keep K205
    have F_coder_a203 := F_coder_a203.keep K205 nin0
    have F_value_a203 := F_value_a203.keep K205 nin0
    have A_b12 := A_b12.keep K205 nin0
    show Gl p e below s Z consts_1 _ n0 _ T205 (mkF m 528 #[.val (.int p1), .val (.int p2), .val (.int p3), .val (.int p4), .val (.int (Int32.ofNat n)), .val (.int ca), .val (.int cb), .val (.int cc), .val (.ref a8), .val (.ref s9), .val (.ref a10), .val (.ref a11), .val (.ref a203), .unset] [(.ref a13)])
    refine g_astore C S at_528 (pc' := 530) rfl rfl (L' := #[.val (.int p1), .val (.int p2), .val (.int p3), .val (.int p4), .val (.int (Int32.ofNat n)), .val (.int ca), .val (.int cb), .val (.int cc), .val (.ref a8), .val (.ref s9), .val (.ref a10), .val (.ref a11), .val (.ref a203), .val (.ref a13)]) rfl ?_
    refine g_aload C S at_530 (pc' := 532) rfl rfl rfl ?_
    refine g_ifnull_ref C S at_532 (pf := 535) rfl ?_
    refine g_aload C S at_535 (pc' := 537) rfl rfl rfl ?_
    refine g_aload C S at_537 (pc' := 539) rfl rfl rfl ?_
    obtain ⟨rfl, rfl, hgg⟩ := Enc.same hE13 hE12
    refine g_callV C S (rm := ({ frames := 1, cells := 0, slots := 0, locals := 14 } : Room)) (W := 0) at_539 (hw _ (List.mem_of_getElem? (i := 195) rfl)) (hw _ (List.mem_of_getElem? (i := 196) rfl)) (fun _ hZ => notFace_of_selects (args := #[]) (mvT hZ (hw _ (List.mem_of_getElem? (i := 198) rfl)))) (hw _ (List.mem_of_getElem? (i := 198) rfl)) (hw _ (List.mem_of_getElem? (i := 197) rfl)) (hw _ (List.mem_of_getElem? (i := 4) rfl)) (hw _ (List.mem_of_getElem? (i := 199) rfl)) (by decide) rfl X_a13 (c_eqS l Z a0 hw a13 a203 h205 n0 b13 b12 _ _ _ _ _ (hE13.small (by omega)) (hE13.small (by omega)) cs hcs S_COMPACT_STRINGS X_a13 F_coder_a13 F_value_a13 A_b13 X_a203 F_coder_a203 F_value_a203 A_b12) (argsL := [(.ref a203)]) (r := []) rfl all0 (lenOf pd_36 rfl) rfl (Nat.le_of_eq rfl) (by decide) (by decide) (by decide) (by decide) (pc' := 542) rfl (fun T206 h206 v206 P206 q206 S => ?_)
    have pm_a203 := List.mem_append_right P206 pm_a203
    obtain ⟨e206, q206⟩ := q206; rw [e206] at S
    obtain ⟨zz, rfl, hzz⟩ := EqAt.val q206
    show Gl p e below s Z consts_1 _ n0 _ T206 (mkF m 542 #[.val (.int p1), .val (.int p2), .val (.int p3), .val (.int p4), .val (.int (Int32.ofNat n)), .val (.int ca), .val (.int cb), .val (.int cc), .val (.ref a8), .val (.ref s9), .val (.ref a10), .val (.ref a11), .val (.ref a203), .val (.ref a13)] [(.int zz)])
    refine g_if_eq C S at_542 (pc' := 549) (pf := 545) (by decide) (by decide) rfl (fun hc542 => absurd hc542 (EqAt.yes hzz hgg)) (fun hc542 => ?_)
    refine g_iconst C S (1 : Int32) at_545 (pc' := 546) rfl rfl ?_
    refine g_goto C S at_546 (pc' := 550) (by decide) (by decide) ?_
    exact g_retZ C S at_550 (by decide) (by decide) (by decide) (rfl)
  have J173 : ∀ (n : Nat) (a8 : Addr) (s9 : Addr) (b9 : Addr) (cd9 : Int32) (M9 : Nat) (g9 : Nat → Int32) (a10 : Addr) (b10 : Addr) (a11 : Addr) (hn : n ≤ 3) (hE9 : Enc (cX ca cb cc) n cd9 M9 g9) (g11 : n0 ≤ a11) (n11a : a11 ≠ s9) (n11b : a11 ≠ b9) (n11c : a11 ≠ a10) (n11d : a11 ≠ b10)  (T : State) (h : Heap) (PS : List Addr), On p l e room_1 s m #[(.int p1), (.int p2), (.int p3), (.int p4)] below meth c Z consts_1 "com/example/kindling/kindling/context/StartupMessagesCouldNotStartPinLaw" n0 T h PS 10 300 → n0 ≤ h.size → Sta Z h "java/lang/String" "COMPACT_STRINGS" "Z" (.int cs) → Sta Z h "java/lang/StringUTF16" "$assertionsDisabled" "Z" (.int (1 : Int32)) → Sta Z h "java/lang/StringUTF16" "HI_BYTE_SHIFT" "I" (.int (0 : Int32)) → Sta Z h "java/lang/StringUTF16" "LO_BYTE_SHIFT" "I" (.int (8 : Int32)) → Sta Z h "jdk/internal/util/Preconditions" "SIOOBE_FORMATTER" "Ljava/util/function/BiFunction;" fm → Exa Z h s9 "java/lang/String" → Fld Z h s9 "java/lang/String" "coder" "B" (.int cd9) → Fld Z h s9 "java/lang/String" "value" "[B" (.ref b9) → Ary Z h b9 .byte M9 (fun q => .int (g9 q)) → Exa Z h a10 "java/lang/String" → Fld Z h a10 "java/lang/String" "coder" "B" (.int (0 : Int32)) → Fld Z h a10 "java/lang/String" "value" "[B" (.ref b10) → Ary Z h b10 .byte 26 (fun q => .int (pW q)) → Ary Z h a11 .char (26 + n) (fun _ => .int (0 : Int32)) → Gl p e below s Z consts_1 room_1 n0 (fun v h _ => v = some (.int 1)) T (mkF m 173 #[.val (.int p1), .val (.int p2), .val (.int p3), .val (.int p4), .val (.int (Int32.ofNat n)), .val (.int ca), .val (.int cb), .val (.int cc), .val (.ref a8), .val (.ref s9), .val (.ref a10), .val (.ref a11), .unset, .unset] []) := by
    intro n a8 s9 b9 cd9 M9 g9 a10 b10 a11 hn hE9 g11 n11a n11b n11c n11d T h PS S Zn S_COMPACT_STRINGS S_assertionsDisabled S_HI_BYTE_SHIFT S_LO_BYTE_SHIFT S_SIOOBE_FORMATTER X_s9 F_coder_s9 F_value_s9 A_b9 X_a10 F_coder_a10 F_value_a10 A_b10 A_a11
    have A_a11 : Ary Z h a11 .char (26 + n) (fun q => .int (if q < 0 then pW q else 0)) := A_a11.cg fun q _ => by rw [if_neg (Nat.not_lt_zero q)]
    refine g_aload C S at_173 (pc' := 175) rfl rfl rfl ?_
    refine g_iconst C S (0 : Int32) at_175 (pc' := 176) rfl rfl ?_
    refine g_aload C S at_176 (pc' := 178) rfl rfl rfl ?_
    refine g_iconst C S (0 : Int32) at_178 (pc' := 179) rfl rfl ?_
    refine g_callV C S (rm := ({ frames := 3, cells := 0, slots := 0, locals := 40 } : Room)) (W := 2) at_179 (hw _ (List.mem_of_getElem? (i := 35) rfl)) (hw _ (List.mem_of_getElem? (i := 36) rfl)) (fun _ hZ => notFace_of_selects (args := #[]) (mvT hZ (hw _ (List.mem_of_getElem? (i := 38) rfl)))) (hw _ (List.mem_of_getElem? (i := 38) rfl)) (hw _ (List.mem_of_getElem? (i := 37) rfl)) (hw _ (List.mem_of_getElem? (i := 4) rfl)) (hw _ (List.mem_of_getElem? (i := 39) rfl)) (by decide) rfl X_a10 (c_chS l Z a0 hw a10 h n0 b10 0 26 pW 75 (by decide) (by decide) (by decide) cs hcs S_COMPACT_STRINGS fm hfm S_SIOOBE_FORMATTER X_a10 F_coder_a10 F_value_a10 A_b10) (argsL := [(.int (0 : Int32))]) (r := [(.int (0 : Int32)), (.ref a11)]) rfl all0 (lenOf pd_37 rfl) rfl (Nat.le_of_eq rfl) (by decide) (by decide) (by decide) (by decide) (pc' := 182) rfl (fun T207 h207 v207 P207 q207 S => ?_)
    obtain ⟨rfl, e207⟩ := q207; rw [e207] at S
    show Gl p e below s Z consts_1 _ n0 _ T207 (mkF m 182 #[.val (.int p1), .val (.int p2), .val (.int p3), .val (.int p4), .val (.int (Int32.ofNat n)), .val (.int ca), .val (.int cb), .val (.int cc), .val (.ref a8), .val (.ref s9), .val (.ref a10), .val (.ref a11), .unset, .unset] [(.int (75 : Int32)), (.int (0 : Int32)), (.ref a11)])
    refine g_castore C S (i := 0) at_182 A_a11 (by decide) (by omega) g11 (pc' := 183) rfl (fun T208 h208 S W208 B208 => ?_)
    have Zn := Nat.le_trans Zn (Nat.le_of_eq W208.size.symm)
    have S_COMPACT_STRINGS := S_COMPACT_STRINGS.wr W208
    have S_assertionsDisabled := S_assertionsDisabled.wr W208
    have S_HI_BYTE_SHIFT := S_HI_BYTE_SHIFT.wr W208
    have S_LO_BYTE_SHIFT := S_LO_BYTE_SHIFT.wr W208
    have S_SIOOBE_FORMATTER := S_SIOOBE_FORMATTER.wr W208
    have X_s9 := X_s9.wr W208
    have F_coder_s9 := F_coder_s9.other W208 (Or.inl (Ne.symm n11a))
    have F_value_s9 := F_value_s9.other W208 (Or.inl (Ne.symm n11a))
    have A_b9 := A_b9.other W208 (Ne.symm n11b)
    have X_a10 := X_a10.wr W208
    have F_coder_a10 := F_coder_a10.other W208 (Or.inl (Ne.symm n11c))
    have F_value_a10 := F_value_a10.other W208 (Or.inl (Ne.symm n11c))
    have A_b10 := A_b10.other W208 (Ne.symm n11d)
    have A_a11 := B208
    have A_a11 : Ary Z h208 a11 .char (26 + n) (fun q => .int (if q < 1 then pW q else 0)) := A_a11.cg (pst (26 + n) 0 (by decide))
    refine g_aload C S at_183 (pc' := 185) rfl rfl rfl ?_
    refine g_iconst C S (1 : Int32) at_185 (pc' := 186) rfl rfl ?_
    refine g_aload C S at_186 (pc' := 188) rfl rfl rfl ?_
    refine g_iconst C S (1 : Int32) at_188 (pc' := 189) rfl rfl ?_
    refine g_callV C S (rm := ({ frames := 3, cells := 0, slots := 0, locals := 40 } : Room)) (W := 2) at_189 (hw _ (List.mem_of_getElem? (i := 35) rfl)) (hw _ (List.mem_of_getElem? (i := 36) rfl)) (fun _ hZ => notFace_of_selects (args := #[]) (mvT hZ (hw _ (List.mem_of_getElem? (i := 38) rfl)))) (hw _ (List.mem_of_getElem? (i := 38) rfl)) (hw _ (List.mem_of_getElem? (i := 37) rfl)) (hw _ (List.mem_of_getElem? (i := 4) rfl)) (hw _ (List.mem_of_getElem? (i := 39) rfl)) (by decide) rfl X_a10 (c_chS l Z a0 hw a10 h208 n0 b10 1 26 pW 105 (by decide) (by decide) (by decide) cs hcs S_COMPACT_STRINGS fm hfm S_SIOOBE_FORMATTER X_a10 F_coder_a10 F_value_a10 A_b10) (argsL := [(.int (1 : Int32))]) (r := [(.int (1 : Int32)), (.ref a11)]) rfl all0 (lenOf pd_37 rfl) rfl (Nat.le_of_eq rfl) (by decide) (by decide) (by decide) (by decide) (pc' := 192) rfl (fun T209 h209 v209 P209 q209 S => ?_)
    obtain ⟨rfl, e209⟩ := q209; rw [e209] at S
    show Gl p e below s Z consts_1 _ n0 _ T209 (mkF m 192 #[.val (.int p1), .val (.int p2), .val (.int p3), .val (.int p4), .val (.int (Int32.ofNat n)), .val (.int ca), .val (.int cb), .val (.int cc), .val (.ref a8), .val (.ref s9), .val (.ref a10), .val (.ref a11), .unset, .unset] [(.int (105 : Int32)), (.int (1 : Int32)), (.ref a11)])
    refine g_castore C S (i := 1) at_192 A_a11 (by decide) (by omega) g11 (pc' := 193) rfl (fun T210 h210 S W210 B210 => ?_)
    have Zn := Nat.le_trans Zn (Nat.le_of_eq W210.size.symm)
    have S_COMPACT_STRINGS := S_COMPACT_STRINGS.wr W210
    have S_assertionsDisabled := S_assertionsDisabled.wr W210
    have S_HI_BYTE_SHIFT := S_HI_BYTE_SHIFT.wr W210
    have S_LO_BYTE_SHIFT := S_LO_BYTE_SHIFT.wr W210
    have S_SIOOBE_FORMATTER := S_SIOOBE_FORMATTER.wr W210
    have X_s9 := X_s9.wr W210
    have F_coder_s9 := F_coder_s9.other W210 (Or.inl (Ne.symm n11a))
    have F_value_s9 := F_value_s9.other W210 (Or.inl (Ne.symm n11a))
    have A_b9 := A_b9.other W210 (Ne.symm n11b)
    have X_a10 := X_a10.wr W210
    have F_coder_a10 := F_coder_a10.other W210 (Or.inl (Ne.symm n11c))
    have F_value_a10 := F_value_a10.other W210 (Or.inl (Ne.symm n11c))
    have A_b10 := A_b10.other W210 (Ne.symm n11d)
    have A_a11 := B210
    have A_a11 : Ary Z h210 a11 .char (26 + n) (fun q => .int (if q < 2 then pW q else 0)) := A_a11.cg (pst (26 + n) 1 (by decide))
    refine g_aload C S at_193 (pc' := 195) rfl rfl rfl ?_
    refine g_iconst C S (2 : Int32) at_195 (pc' := 196) rfl rfl ?_
    refine g_aload C S at_196 (pc' := 198) rfl rfl rfl ?_
    refine g_iconst C S (2 : Int32) at_198 (pc' := 199) rfl rfl ?_
    refine g_callV C S (rm := ({ frames := 3, cells := 0, slots := 0, locals := 40 } : Room)) (W := 2) at_199 (hw _ (List.mem_of_getElem? (i := 35) rfl)) (hw _ (List.mem_of_getElem? (i := 36) rfl)) (fun _ hZ => notFace_of_selects (args := #[]) (mvT hZ (hw _ (List.mem_of_getElem? (i := 38) rfl)))) (hw _ (List.mem_of_getElem? (i := 38) rfl)) (hw _ (List.mem_of_getElem? (i := 37) rfl)) (hw _ (List.mem_of_getElem? (i := 4) rfl)) (hw _ (List.mem_of_getElem? (i := 39) rfl)) (by decide) rfl X_a10 (c_chS l Z a0 hw a10 h210 n0 b10 2 26 pW 110 (by decide) (by decide) (by decide) cs hcs S_COMPACT_STRINGS fm hfm S_SIOOBE_FORMATTER X_a10 F_coder_a10 F_value_a10 A_b10) (argsL := [(.int (2 : Int32))]) (r := [(.int (2 : Int32)), (.ref a11)]) rfl all0 (lenOf pd_37 rfl) rfl (Nat.le_of_eq rfl) (by decide) (by decide) (by decide) (by decide) (pc' := 202) rfl (fun T211 h211 v211 P211 q211 S => ?_)
    obtain ⟨rfl, e211⟩ := q211; rw [e211] at S
    show Gl p e below s Z consts_1 _ n0 _ T211 (mkF m 202 #[.val (.int p1), .val (.int p2), .val (.int p3), .val (.int p4), .val (.int (Int32.ofNat n)), .val (.int ca), .val (.int cb), .val (.int cc), .val (.ref a8), .val (.ref s9), .val (.ref a10), .val (.ref a11), .unset, .unset] [(.int (110 : Int32)), (.int (2 : Int32)), (.ref a11)])
    refine g_castore C S (i := 2) at_202 A_a11 (by decide) (by omega) g11 (pc' := 203) rfl (fun T212 h212 S W212 B212 => ?_)
    have Zn := Nat.le_trans Zn (Nat.le_of_eq W212.size.symm)
    have S_COMPACT_STRINGS := S_COMPACT_STRINGS.wr W212
    have S_assertionsDisabled := S_assertionsDisabled.wr W212
    have S_HI_BYTE_SHIFT := S_HI_BYTE_SHIFT.wr W212
    have S_LO_BYTE_SHIFT := S_LO_BYTE_SHIFT.wr W212
    have S_SIOOBE_FORMATTER := S_SIOOBE_FORMATTER.wr W212
    have X_s9 := X_s9.wr W212
    have F_coder_s9 := F_coder_s9.other W212 (Or.inl (Ne.symm n11a))
    have F_value_s9 := F_value_s9.other W212 (Or.inl (Ne.symm n11a))
    have A_b9 := A_b9.other W212 (Ne.symm n11b)
    have X_a10 := X_a10.wr W212
    have F_coder_a10 := F_coder_a10.other W212 (Or.inl (Ne.symm n11c))
    have F_value_a10 := F_value_a10.other W212 (Or.inl (Ne.symm n11c))
    have A_b10 := A_b10.other W212 (Ne.symm n11d)
    have A_a11 := B212
    have A_a11 : Ary Z h212 a11 .char (26 + n) (fun q => .int (if q < 3 then pW q else 0)) := A_a11.cg (pst (26 + n) 2 (by decide))
    refine g_aload C S at_203 (pc' := 205) rfl rfl rfl ?_
    refine g_iconst C S (3 : Int32) at_205 (pc' := 206) rfl rfl ?_
    refine g_aload C S at_206 (pc' := 208) rfl rfl rfl ?_
    refine g_iconst C S (3 : Int32) at_208 (pc' := 209) rfl rfl ?_
    refine g_callV C S (rm := ({ frames := 3, cells := 0, slots := 0, locals := 40 } : Room)) (W := 2) at_209 (hw _ (List.mem_of_getElem? (i := 35) rfl)) (hw _ (List.mem_of_getElem? (i := 36) rfl)) (fun _ hZ => notFace_of_selects (args := #[]) (mvT hZ (hw _ (List.mem_of_getElem? (i := 38) rfl)))) (hw _ (List.mem_of_getElem? (i := 38) rfl)) (hw _ (List.mem_of_getElem? (i := 37) rfl)) (hw _ (List.mem_of_getElem? (i := 4) rfl)) (hw _ (List.mem_of_getElem? (i := 39) rfl)) (by decide) rfl X_a10 (c_chS l Z a0 hw a10 h212 n0 b10 3 26 pW 100 (by decide) (by decide) (by decide) cs hcs S_COMPACT_STRINGS fm hfm S_SIOOBE_FORMATTER X_a10 F_coder_a10 F_value_a10 A_b10) (argsL := [(.int (3 : Int32))]) (r := [(.int (3 : Int32)), (.ref a11)]) rfl all0 (lenOf pd_37 rfl) rfl (Nat.le_of_eq rfl) (by decide) (by decide) (by decide) (by decide) (pc' := 212) rfl (fun T213 h213 v213 P213 q213 S => ?_)
    obtain ⟨rfl, e213⟩ := q213; rw [e213] at S
    show Gl p e below s Z consts_1 _ n0 _ T213 (mkF m 212 #[.val (.int p1), .val (.int p2), .val (.int p3), .val (.int p4), .val (.int (Int32.ofNat n)), .val (.int ca), .val (.int cb), .val (.int cc), .val (.ref a8), .val (.ref s9), .val (.ref a10), .val (.ref a11), .unset, .unset] [(.int (100 : Int32)), (.int (3 : Int32)), (.ref a11)])
    refine g_castore C S (i := 3) at_212 A_a11 (by decide) (by omega) g11 (pc' := 213) rfl (fun T214 h214 S W214 B214 => ?_)
    have Zn := Nat.le_trans Zn (Nat.le_of_eq W214.size.symm)
    have S_COMPACT_STRINGS := S_COMPACT_STRINGS.wr W214
    have S_assertionsDisabled := S_assertionsDisabled.wr W214
    have S_HI_BYTE_SHIFT := S_HI_BYTE_SHIFT.wr W214
    have S_LO_BYTE_SHIFT := S_LO_BYTE_SHIFT.wr W214
    have S_SIOOBE_FORMATTER := S_SIOOBE_FORMATTER.wr W214
    have X_s9 := X_s9.wr W214
    have F_coder_s9 := F_coder_s9.other W214 (Or.inl (Ne.symm n11a))
    have F_value_s9 := F_value_s9.other W214 (Or.inl (Ne.symm n11a))
    have A_b9 := A_b9.other W214 (Ne.symm n11b)
    have X_a10 := X_a10.wr W214
    have F_coder_a10 := F_coder_a10.other W214 (Or.inl (Ne.symm n11c))
    have F_value_a10 := F_value_a10.other W214 (Or.inl (Ne.symm n11c))
    have A_b10 := A_b10.other W214 (Ne.symm n11d)
    have A_a11 := B214
    have A_a11 : Ary Z h214 a11 .char (26 + n) (fun q => .int (if q < 4 then pW q else 0)) := A_a11.cg (pst (26 + n) 3 (by decide))
    refine g_aload C S at_213 (pc' := 215) rfl rfl rfl ?_
    refine g_iconst C S (4 : Int32) at_215 (pc' := 216) rfl rfl ?_
    refine g_aload C S at_216 (pc' := 218) rfl rfl rfl ?_
    refine g_iconst C S (4 : Int32) at_218 (pc' := 219) rfl rfl ?_
    refine g_callV C S (rm := ({ frames := 3, cells := 0, slots := 0, locals := 40 } : Room)) (W := 2) at_219 (hw _ (List.mem_of_getElem? (i := 35) rfl)) (hw _ (List.mem_of_getElem? (i := 36) rfl)) (fun _ hZ => notFace_of_selects (args := #[]) (mvT hZ (hw _ (List.mem_of_getElem? (i := 38) rfl)))) (hw _ (List.mem_of_getElem? (i := 38) rfl)) (hw _ (List.mem_of_getElem? (i := 37) rfl)) (hw _ (List.mem_of_getElem? (i := 4) rfl)) (hw _ (List.mem_of_getElem? (i := 39) rfl)) (by decide) rfl X_a10 (c_chS l Z a0 hw a10 h214 n0 b10 4 26 pW 108 (by decide) (by decide) (by decide) cs hcs S_COMPACT_STRINGS fm hfm S_SIOOBE_FORMATTER X_a10 F_coder_a10 F_value_a10 A_b10) (argsL := [(.int (4 : Int32))]) (r := [(.int (4 : Int32)), (.ref a11)]) rfl all0 (lenOf pd_37 rfl) rfl (Nat.le_of_eq rfl) (by decide) (by decide) (by decide) (by decide) (pc' := 222) rfl (fun T215 h215 v215 P215 q215 S => ?_)
    obtain ⟨rfl, e215⟩ := q215; rw [e215] at S
    show Gl p e below s Z consts_1 _ n0 _ T215 (mkF m 222 #[.val (.int p1), .val (.int p2), .val (.int p3), .val (.int p4), .val (.int (Int32.ofNat n)), .val (.int ca), .val (.int cb), .val (.int cc), .val (.ref a8), .val (.ref s9), .val (.ref a10), .val (.ref a11), .unset, .unset] [(.int (108 : Int32)), (.int (4 : Int32)), (.ref a11)])
    refine g_castore C S (i := 4) at_222 A_a11 (by decide) (by omega) g11 (pc' := 223) rfl (fun T216 h216 S W216 B216 => ?_)
    have Zn := Nat.le_trans Zn (Nat.le_of_eq W216.size.symm)
    have S_COMPACT_STRINGS := S_COMPACT_STRINGS.wr W216
    have S_assertionsDisabled := S_assertionsDisabled.wr W216
    have S_HI_BYTE_SHIFT := S_HI_BYTE_SHIFT.wr W216
    have S_LO_BYTE_SHIFT := S_LO_BYTE_SHIFT.wr W216
    have S_SIOOBE_FORMATTER := S_SIOOBE_FORMATTER.wr W216
    have X_s9 := X_s9.wr W216
    have F_coder_s9 := F_coder_s9.other W216 (Or.inl (Ne.symm n11a))
    have F_value_s9 := F_value_s9.other W216 (Or.inl (Ne.symm n11a))
    have A_b9 := A_b9.other W216 (Ne.symm n11b)
    have X_a10 := X_a10.wr W216
    have F_coder_a10 := F_coder_a10.other W216 (Or.inl (Ne.symm n11c))
    have F_value_a10 := F_value_a10.other W216 (Or.inl (Ne.symm n11c))
    have A_b10 := A_b10.other W216 (Ne.symm n11d)
    have A_a11 := B216
    have A_a11 : Ary Z h216 a11 .char (26 + n) (fun q => .int (if q < 5 then pW q else 0)) := A_a11.cg (pst (26 + n) 4 (by decide))
    refine g_aload C S at_223 (pc' := 225) rfl rfl rfl ?_
    refine g_iconst C S (5 : Int32) at_225 (pc' := 226) rfl rfl ?_
    refine g_aload C S at_226 (pc' := 228) rfl rfl rfl ?_
    refine g_iconst C S (5 : Int32) at_228 (pc' := 229) rfl rfl ?_
    refine g_callV C S (rm := ({ frames := 3, cells := 0, slots := 0, locals := 40 } : Room)) (W := 2) at_229 (hw _ (List.mem_of_getElem? (i := 35) rfl)) (hw _ (List.mem_of_getElem? (i := 36) rfl)) (fun _ hZ => notFace_of_selects (args := #[]) (mvT hZ (hw _ (List.mem_of_getElem? (i := 38) rfl)))) (hw _ (List.mem_of_getElem? (i := 38) rfl)) (hw _ (List.mem_of_getElem? (i := 37) rfl)) (hw _ (List.mem_of_getElem? (i := 4) rfl)) (hw _ (List.mem_of_getElem? (i := 39) rfl)) (by decide) rfl X_a10 (c_chS l Z a0 hw a10 h216 n0 b10 5 26 pW 105 (by decide) (by decide) (by decide) cs hcs S_COMPACT_STRINGS fm hfm S_SIOOBE_FORMATTER X_a10 F_coder_a10 F_value_a10 A_b10) (argsL := [(.int (5 : Int32))]) (r := [(.int (5 : Int32)), (.ref a11)]) rfl all0 (lenOf pd_37 rfl) rfl (Nat.le_of_eq rfl) (by decide) (by decide) (by decide) (by decide) (pc' := 232) rfl (fun T217 h217 v217 P217 q217 S => ?_)
    obtain ⟨rfl, e217⟩ := q217; rw [e217] at S
    show Gl p e below s Z consts_1 _ n0 _ T217 (mkF m 232 #[.val (.int p1), .val (.int p2), .val (.int p3), .val (.int p4), .val (.int (Int32.ofNat n)), .val (.int ca), .val (.int cb), .val (.int cc), .val (.ref a8), .val (.ref s9), .val (.ref a10), .val (.ref a11), .unset, .unset] [(.int (105 : Int32)), (.int (5 : Int32)), (.ref a11)])
    refine g_castore C S (i := 5) at_232 A_a11 (by decide) (by omega) g11 (pc' := 233) rfl (fun T218 h218 S W218 B218 => ?_)
    have Zn := Nat.le_trans Zn (Nat.le_of_eq W218.size.symm)
    have S_COMPACT_STRINGS := S_COMPACT_STRINGS.wr W218
    have S_assertionsDisabled := S_assertionsDisabled.wr W218
    have S_HI_BYTE_SHIFT := S_HI_BYTE_SHIFT.wr W218
    have S_LO_BYTE_SHIFT := S_LO_BYTE_SHIFT.wr W218
    have S_SIOOBE_FORMATTER := S_SIOOBE_FORMATTER.wr W218
    have X_s9 := X_s9.wr W218
    have F_coder_s9 := F_coder_s9.other W218 (Or.inl (Ne.symm n11a))
    have F_value_s9 := F_value_s9.other W218 (Or.inl (Ne.symm n11a))
    have A_b9 := A_b9.other W218 (Ne.symm n11b)
    have X_a10 := X_a10.wr W218
    have F_coder_a10 := F_coder_a10.other W218 (Or.inl (Ne.symm n11c))
    have F_value_a10 := F_value_a10.other W218 (Or.inl (Ne.symm n11c))
    have A_b10 := A_b10.other W218 (Ne.symm n11d)
    have A_a11 := B218
    have A_a11 : Ary Z h218 a11 .char (26 + n) (fun q => .int (if q < 6 then pW q else 0)) := A_a11.cg (pst (26 + n) 5 (by decide))
    refine g_aload C S at_233 (pc' := 235) rfl rfl rfl ?_
    refine g_bipush C S (6 : Int32) at_235 (pc' := 237) rfl rfl ?_
    refine g_aload C S at_237 (pc' := 239) rfl rfl rfl ?_
    refine g_bipush C S (6 : Int32) at_239 (pc' := 241) rfl rfl ?_
    refine g_callV C S (rm := ({ frames := 3, cells := 0, slots := 0, locals := 40 } : Room)) (W := 2) at_241 (hw _ (List.mem_of_getElem? (i := 35) rfl)) (hw _ (List.mem_of_getElem? (i := 36) rfl)) (fun _ hZ => notFace_of_selects (args := #[]) (mvT hZ (hw _ (List.mem_of_getElem? (i := 38) rfl)))) (hw _ (List.mem_of_getElem? (i := 38) rfl)) (hw _ (List.mem_of_getElem? (i := 37) rfl)) (hw _ (List.mem_of_getElem? (i := 4) rfl)) (hw _ (List.mem_of_getElem? (i := 39) rfl)) (by decide) rfl X_a10 (c_chS l Z a0 hw a10 h218 n0 b10 6 26 pW 110 (by decide) (by decide) (by decide) cs hcs S_COMPACT_STRINGS fm hfm S_SIOOBE_FORMATTER X_a10 F_coder_a10 F_value_a10 A_b10) (argsL := [(.int (6 : Int32))]) (r := [(.int (6 : Int32)), (.ref a11)]) rfl all0 (lenOf pd_37 rfl) rfl (Nat.le_of_eq rfl) (by decide) (by decide) (by decide) (by decide) (pc' := 244) rfl (fun T219 h219 v219 P219 q219 S => ?_)
    obtain ⟨rfl, e219⟩ := q219; rw [e219] at S
    show Gl p e below s Z consts_1 _ n0 _ T219 (mkF m 244 #[.val (.int p1), .val (.int p2), .val (.int p3), .val (.int p4), .val (.int (Int32.ofNat n)), .val (.int ca), .val (.int cb), .val (.int cc), .val (.ref a8), .val (.ref s9), .val (.ref a10), .val (.ref a11), .unset, .unset] [(.int (110 : Int32)), (.int (6 : Int32)), (.ref a11)])
    refine g_castore C S (i := 6) at_244 A_a11 (by decide) (by omega) g11 (pc' := 245) rfl (fun T220 h220 S W220 B220 => ?_)
    have Zn := Nat.le_trans Zn (Nat.le_of_eq W220.size.symm)
    have S_COMPACT_STRINGS := S_COMPACT_STRINGS.wr W220
    have S_assertionsDisabled := S_assertionsDisabled.wr W220
    have S_HI_BYTE_SHIFT := S_HI_BYTE_SHIFT.wr W220
    have S_LO_BYTE_SHIFT := S_LO_BYTE_SHIFT.wr W220
    have S_SIOOBE_FORMATTER := S_SIOOBE_FORMATTER.wr W220
    have X_s9 := X_s9.wr W220
    have F_coder_s9 := F_coder_s9.other W220 (Or.inl (Ne.symm n11a))
    have F_value_s9 := F_value_s9.other W220 (Or.inl (Ne.symm n11a))
    have A_b9 := A_b9.other W220 (Ne.symm n11b)
    have X_a10 := X_a10.wr W220
    have F_coder_a10 := F_coder_a10.other W220 (Or.inl (Ne.symm n11c))
    have F_value_a10 := F_value_a10.other W220 (Or.inl (Ne.symm n11c))
    have A_b10 := A_b10.other W220 (Ne.symm n11d)
    have A_a11 := B220
    have A_a11 : Ary Z h220 a11 .char (26 + n) (fun q => .int (if q < 7 then pW q else 0)) := A_a11.cg (pst (26 + n) 6 (by decide))
    refine g_aload C S at_245 (pc' := 247) rfl rfl rfl ?_
    refine g_bipush C S (7 : Int32) at_247 (pc' := 249) rfl rfl ?_
    refine g_aload C S at_249 (pc' := 251) rfl rfl rfl ?_
    refine g_bipush C S (7 : Int32) at_251 (pc' := 253) rfl rfl ?_
    refine g_callV C S (rm := ({ frames := 3, cells := 0, slots := 0, locals := 40 } : Room)) (W := 2) at_253 (hw _ (List.mem_of_getElem? (i := 35) rfl)) (hw _ (List.mem_of_getElem? (i := 36) rfl)) (fun _ hZ => notFace_of_selects (args := #[]) (mvT hZ (hw _ (List.mem_of_getElem? (i := 38) rfl)))) (hw _ (List.mem_of_getElem? (i := 38) rfl)) (hw _ (List.mem_of_getElem? (i := 37) rfl)) (hw _ (List.mem_of_getElem? (i := 4) rfl)) (hw _ (List.mem_of_getElem? (i := 39) rfl)) (by decide) rfl X_a10 (c_chS l Z a0 hw a10 h220 n0 b10 7 26 pW 103 (by decide) (by decide) (by decide) cs hcs S_COMPACT_STRINGS fm hfm S_SIOOBE_FORMATTER X_a10 F_coder_a10 F_value_a10 A_b10) (argsL := [(.int (7 : Int32))]) (r := [(.int (7 : Int32)), (.ref a11)]) rfl all0 (lenOf pd_37 rfl) rfl (Nat.le_of_eq rfl) (by decide) (by decide) (by decide) (by decide) (pc' := 256) rfl (fun T221 h221 v221 P221 q221 S => ?_)
    obtain ⟨rfl, e221⟩ := q221; rw [e221] at S
    show Gl p e below s Z consts_1 _ n0 _ T221 (mkF m 256 #[.val (.int p1), .val (.int p2), .val (.int p3), .val (.int p4), .val (.int (Int32.ofNat n)), .val (.int ca), .val (.int cb), .val (.int cc), .val (.ref a8), .val (.ref s9), .val (.ref a10), .val (.ref a11), .unset, .unset] [(.int (103 : Int32)), (.int (7 : Int32)), (.ref a11)])
    refine g_castore C S (i := 7) at_256 A_a11 (by decide) (by omega) g11 (pc' := 257) rfl (fun T222 h222 S W222 B222 => ?_)
    have Zn := Nat.le_trans Zn (Nat.le_of_eq W222.size.symm)
    have S_COMPACT_STRINGS := S_COMPACT_STRINGS.wr W222
    have S_assertionsDisabled := S_assertionsDisabled.wr W222
    have S_HI_BYTE_SHIFT := S_HI_BYTE_SHIFT.wr W222
    have S_LO_BYTE_SHIFT := S_LO_BYTE_SHIFT.wr W222
    have S_SIOOBE_FORMATTER := S_SIOOBE_FORMATTER.wr W222
    have X_s9 := X_s9.wr W222
    have F_coder_s9 := F_coder_s9.other W222 (Or.inl (Ne.symm n11a))
    have F_value_s9 := F_value_s9.other W222 (Or.inl (Ne.symm n11a))
    have A_b9 := A_b9.other W222 (Ne.symm n11b)
    have X_a10 := X_a10.wr W222
    have F_coder_a10 := F_coder_a10.other W222 (Or.inl (Ne.symm n11c))
    have F_value_a10 := F_value_a10.other W222 (Or.inl (Ne.symm n11c))
    have A_b10 := A_b10.other W222 (Ne.symm n11d)
    have A_a11 := B222
    have A_a11 : Ary Z h222 a11 .char (26 + n) (fun q => .int (if q < 8 then pW q else 0)) := A_a11.cg (pst (26 + n) 7 (by decide))
    refine g_aload C S at_257 (pc' := 259) rfl rfl rfl ?_
    refine g_bipush C S (8 : Int32) at_259 (pc' := 261) rfl rfl ?_
    refine g_aload C S at_261 (pc' := 263) rfl rfl rfl ?_
    refine g_bipush C S (8 : Int32) at_263 (pc' := 265) rfl rfl ?_
    refine g_callV C S (rm := ({ frames := 3, cells := 0, slots := 0, locals := 40 } : Room)) (W := 2) at_265 (hw _ (List.mem_of_getElem? (i := 35) rfl)) (hw _ (List.mem_of_getElem? (i := 36) rfl)) (fun _ hZ => notFace_of_selects (args := #[]) (mvT hZ (hw _ (List.mem_of_getElem? (i := 38) rfl)))) (hw _ (List.mem_of_getElem? (i := 38) rfl)) (hw _ (List.mem_of_getElem? (i := 37) rfl)) (hw _ (List.mem_of_getElem? (i := 4) rfl)) (hw _ (List.mem_of_getElem? (i := 39) rfl)) (by decide) rfl X_a10 (c_chS l Z a0 hw a10 h222 n0 b10 8 26 pW 32 (by decide) (by decide) (by decide) cs hcs S_COMPACT_STRINGS fm hfm S_SIOOBE_FORMATTER X_a10 F_coder_a10 F_value_a10 A_b10) (argsL := [(.int (8 : Int32))]) (r := [(.int (8 : Int32)), (.ref a11)]) rfl all0 (lenOf pd_37 rfl) rfl (Nat.le_of_eq rfl) (by decide) (by decide) (by decide) (by decide) (pc' := 268) rfl (fun T223 h223 v223 P223 q223 S => ?_)
    obtain ⟨rfl, e223⟩ := q223; rw [e223] at S
    show Gl p e below s Z consts_1 _ n0 _ T223 (mkF m 268 #[.val (.int p1), .val (.int p2), .val (.int p3), .val (.int p4), .val (.int (Int32.ofNat n)), .val (.int ca), .val (.int cb), .val (.int cc), .val (.ref a8), .val (.ref s9), .val (.ref a10), .val (.ref a11), .unset, .unset] [(.int (32 : Int32)), (.int (8 : Int32)), (.ref a11)])
    refine g_castore C S (i := 8) at_268 A_a11 (by decide) (by omega) g11 (pc' := 269) rfl (fun T224 h224 S W224 B224 => ?_)
    have Zn := Nat.le_trans Zn (Nat.le_of_eq W224.size.symm)
    have S_COMPACT_STRINGS := S_COMPACT_STRINGS.wr W224
    have S_assertionsDisabled := S_assertionsDisabled.wr W224
    have S_HI_BYTE_SHIFT := S_HI_BYTE_SHIFT.wr W224
    have S_LO_BYTE_SHIFT := S_LO_BYTE_SHIFT.wr W224
    have S_SIOOBE_FORMATTER := S_SIOOBE_FORMATTER.wr W224
    have X_s9 := X_s9.wr W224
    have F_coder_s9 := F_coder_s9.other W224 (Or.inl (Ne.symm n11a))
    have F_value_s9 := F_value_s9.other W224 (Or.inl (Ne.symm n11a))
    have A_b9 := A_b9.other W224 (Ne.symm n11b)
    have X_a10 := X_a10.wr W224
    have F_coder_a10 := F_coder_a10.other W224 (Or.inl (Ne.symm n11c))
    have F_value_a10 := F_value_a10.other W224 (Or.inl (Ne.symm n11c))
    have A_b10 := A_b10.other W224 (Ne.symm n11d)
    have A_a11 := B224
    have A_a11 : Ary Z h224 a11 .char (26 + n) (fun q => .int (if q < 9 then pW q else 0)) := A_a11.cg (pst (26 + n) 8 (by decide))
    refine g_aload C S at_269 (pc' := 271) rfl rfl rfl ?_
    refine g_bipush C S (9 : Int32) at_271 (pc' := 273) rfl rfl ?_
    refine g_aload C S at_273 (pc' := 275) rfl rfl rfl ?_
    refine g_bipush C S (9 : Int32) at_275 (pc' := 277) rfl rfl ?_
    refine g_callV C S (rm := ({ frames := 3, cells := 0, slots := 0, locals := 40 } : Room)) (W := 2) at_277 (hw _ (List.mem_of_getElem? (i := 35) rfl)) (hw _ (List.mem_of_getElem? (i := 36) rfl)) (fun _ hZ => notFace_of_selects (args := #[]) (mvT hZ (hw _ (List.mem_of_getElem? (i := 38) rfl)))) (hw _ (List.mem_of_getElem? (i := 38) rfl)) (hw _ (List.mem_of_getElem? (i := 37) rfl)) (hw _ (List.mem_of_getElem? (i := 4) rfl)) (hw _ (List.mem_of_getElem? (i := 39) rfl)) (by decide) rfl X_a10 (c_chS l Z a0 hw a10 h224 n0 b10 9 26 pW 99 (by decide) (by decide) (by decide) cs hcs S_COMPACT_STRINGS fm hfm S_SIOOBE_FORMATTER X_a10 F_coder_a10 F_value_a10 A_b10) (argsL := [(.int (9 : Int32))]) (r := [(.int (9 : Int32)), (.ref a11)]) rfl all0 (lenOf pd_37 rfl) rfl (Nat.le_of_eq rfl) (by decide) (by decide) (by decide) (by decide) (pc' := 280) rfl (fun T225 h225 v225 P225 q225 S => ?_)
    obtain ⟨rfl, e225⟩ := q225; rw [e225] at S
    show Gl p e below s Z consts_1 _ n0 _ T225 (mkF m 280 #[.val (.int p1), .val (.int p2), .val (.int p3), .val (.int p4), .val (.int (Int32.ofNat n)), .val (.int ca), .val (.int cb), .val (.int cc), .val (.ref a8), .val (.ref s9), .val (.ref a10), .val (.ref a11), .unset, .unset] [(.int (99 : Int32)), (.int (9 : Int32)), (.ref a11)])
    refine g_castore C S (i := 9) at_280 A_a11 (by decide) (by omega) g11 (pc' := 281) rfl (fun T226 h226 S W226 B226 => ?_)
    have Zn := Nat.le_trans Zn (Nat.le_of_eq W226.size.symm)
    have S_COMPACT_STRINGS := S_COMPACT_STRINGS.wr W226
    have S_assertionsDisabled := S_assertionsDisabled.wr W226
    have S_HI_BYTE_SHIFT := S_HI_BYTE_SHIFT.wr W226
    have S_LO_BYTE_SHIFT := S_LO_BYTE_SHIFT.wr W226
    have S_SIOOBE_FORMATTER := S_SIOOBE_FORMATTER.wr W226
    have X_s9 := X_s9.wr W226
    have F_coder_s9 := F_coder_s9.other W226 (Or.inl (Ne.symm n11a))
    have F_value_s9 := F_value_s9.other W226 (Or.inl (Ne.symm n11a))
    have A_b9 := A_b9.other W226 (Ne.symm n11b)
    have X_a10 := X_a10.wr W226
    have F_coder_a10 := F_coder_a10.other W226 (Or.inl (Ne.symm n11c))
    have F_value_a10 := F_value_a10.other W226 (Or.inl (Ne.symm n11c))
    have A_b10 := A_b10.other W226 (Ne.symm n11d)
    have A_a11 := B226
    have A_a11 : Ary Z h226 a11 .char (26 + n) (fun q => .int (if q < 10 then pW q else 0)) := A_a11.cg (pst (26 + n) 9 (by decide))
    refine g_aload C S at_281 (pc' := 283) rfl rfl rfl ?_
    refine g_bipush C S (10 : Int32) at_283 (pc' := 285) rfl rfl ?_
    refine g_aload C S at_285 (pc' := 287) rfl rfl rfl ?_
    refine g_bipush C S (10 : Int32) at_287 (pc' := 289) rfl rfl ?_
    refine g_callV C S (rm := ({ frames := 3, cells := 0, slots := 0, locals := 40 } : Room)) (W := 2) at_289 (hw _ (List.mem_of_getElem? (i := 35) rfl)) (hw _ (List.mem_of_getElem? (i := 36) rfl)) (fun _ hZ => notFace_of_selects (args := #[]) (mvT hZ (hw _ (List.mem_of_getElem? (i := 38) rfl)))) (hw _ (List.mem_of_getElem? (i := 38) rfl)) (hw _ (List.mem_of_getElem? (i := 37) rfl)) (hw _ (List.mem_of_getElem? (i := 4) rfl)) (hw _ (List.mem_of_getElem? (i := 39) rfl)) (by decide) rfl X_a10 (c_chS l Z a0 hw a10 h226 n0 b10 10 26 pW 111 (by decide) (by decide) (by decide) cs hcs S_COMPACT_STRINGS fm hfm S_SIOOBE_FORMATTER X_a10 F_coder_a10 F_value_a10 A_b10) (argsL := [(.int (10 : Int32))]) (r := [(.int (10 : Int32)), (.ref a11)]) rfl all0 (lenOf pd_37 rfl) rfl (Nat.le_of_eq rfl) (by decide) (by decide) (by decide) (by decide) (pc' := 292) rfl (fun T227 h227 v227 P227 q227 S => ?_)
    obtain ⟨rfl, e227⟩ := q227; rw [e227] at S
    show Gl p e below s Z consts_1 _ n0 _ T227 (mkF m 292 #[.val (.int p1), .val (.int p2), .val (.int p3), .val (.int p4), .val (.int (Int32.ofNat n)), .val (.int ca), .val (.int cb), .val (.int cc), .val (.ref a8), .val (.ref s9), .val (.ref a10), .val (.ref a11), .unset, .unset] [(.int (111 : Int32)), (.int (10 : Int32)), (.ref a11)])
    refine g_castore C S (i := 10) at_292 A_a11 (by decide) (by omega) g11 (pc' := 293) rfl (fun T228 h228 S W228 B228 => ?_)
    have Zn := Nat.le_trans Zn (Nat.le_of_eq W228.size.symm)
    have S_COMPACT_STRINGS := S_COMPACT_STRINGS.wr W228
    have S_assertionsDisabled := S_assertionsDisabled.wr W228
    have S_HI_BYTE_SHIFT := S_HI_BYTE_SHIFT.wr W228
    have S_LO_BYTE_SHIFT := S_LO_BYTE_SHIFT.wr W228
    have S_SIOOBE_FORMATTER := S_SIOOBE_FORMATTER.wr W228
    have X_s9 := X_s9.wr W228
    have F_coder_s9 := F_coder_s9.other W228 (Or.inl (Ne.symm n11a))
    have F_value_s9 := F_value_s9.other W228 (Or.inl (Ne.symm n11a))
    have A_b9 := A_b9.other W228 (Ne.symm n11b)
    have X_a10 := X_a10.wr W228
    have F_coder_a10 := F_coder_a10.other W228 (Or.inl (Ne.symm n11c))
    have F_value_a10 := F_value_a10.other W228 (Or.inl (Ne.symm n11c))
    have A_b10 := A_b10.other W228 (Ne.symm n11d)
    have A_a11 := B228
    have A_a11 : Ary Z h228 a11 .char (26 + n) (fun q => .int (if q < 11 then pW q else 0)) := A_a11.cg (pst (26 + n) 10 (by decide))
    refine g_aload C S at_293 (pc' := 295) rfl rfl rfl ?_
    refine g_bipush C S (11 : Int32) at_295 (pc' := 297) rfl rfl ?_
    refine g_aload C S at_297 (pc' := 299) rfl rfl rfl ?_
    refine g_bipush C S (11 : Int32) at_299 (pc' := 301) rfl rfl ?_
    refine g_callV C S (rm := ({ frames := 3, cells := 0, slots := 0, locals := 40 } : Room)) (W := 2) at_301 (hw _ (List.mem_of_getElem? (i := 35) rfl)) (hw _ (List.mem_of_getElem? (i := 36) rfl)) (fun _ hZ => notFace_of_selects (args := #[]) (mvT hZ (hw _ (List.mem_of_getElem? (i := 38) rfl)))) (hw _ (List.mem_of_getElem? (i := 38) rfl)) (hw _ (List.mem_of_getElem? (i := 37) rfl)) (hw _ (List.mem_of_getElem? (i := 4) rfl)) (hw _ (List.mem_of_getElem? (i := 39) rfl)) (by decide) rfl X_a10 (c_chS l Z a0 hw a10 h228 n0 b10 11 26 pW 117 (by decide) (by decide) (by decide) cs hcs S_COMPACT_STRINGS fm hfm S_SIOOBE_FORMATTER X_a10 F_coder_a10 F_value_a10 A_b10) (argsL := [(.int (11 : Int32))]) (r := [(.int (11 : Int32)), (.ref a11)]) rfl all0 (lenOf pd_37 rfl) rfl (Nat.le_of_eq rfl) (by decide) (by decide) (by decide) (by decide) (pc' := 304) rfl (fun T229 h229 v229 P229 q229 S => ?_)
    obtain ⟨rfl, e229⟩ := q229; rw [e229] at S
    show Gl p e below s Z consts_1 _ n0 _ T229 (mkF m 304 #[.val (.int p1), .val (.int p2), .val (.int p3), .val (.int p4), .val (.int (Int32.ofNat n)), .val (.int ca), .val (.int cb), .val (.int cc), .val (.ref a8), .val (.ref s9), .val (.ref a10), .val (.ref a11), .unset, .unset] [(.int (117 : Int32)), (.int (11 : Int32)), (.ref a11)])
    refine g_castore C S (i := 11) at_304 A_a11 (by decide) (by omega) g11 (pc' := 305) rfl (fun T230 h230 S W230 B230 => ?_)
    have Zn := Nat.le_trans Zn (Nat.le_of_eq W230.size.symm)
    have S_COMPACT_STRINGS := S_COMPACT_STRINGS.wr W230
    have S_assertionsDisabled := S_assertionsDisabled.wr W230
    have S_HI_BYTE_SHIFT := S_HI_BYTE_SHIFT.wr W230
    have S_LO_BYTE_SHIFT := S_LO_BYTE_SHIFT.wr W230
    have S_SIOOBE_FORMATTER := S_SIOOBE_FORMATTER.wr W230
    have X_s9 := X_s9.wr W230
    have F_coder_s9 := F_coder_s9.other W230 (Or.inl (Ne.symm n11a))
    have F_value_s9 := F_value_s9.other W230 (Or.inl (Ne.symm n11a))
    have A_b9 := A_b9.other W230 (Ne.symm n11b)
    have X_a10 := X_a10.wr W230
    have F_coder_a10 := F_coder_a10.other W230 (Or.inl (Ne.symm n11c))
    have F_value_a10 := F_value_a10.other W230 (Or.inl (Ne.symm n11c))
    have A_b10 := A_b10.other W230 (Ne.symm n11d)
    have A_a11 := B230
    have A_a11 : Ary Z h230 a11 .char (26 + n) (fun q => .int (if q < 12 then pW q else 0)) := A_a11.cg (pst (26 + n) 11 (by decide))
    refine g_aload C S at_305 (pc' := 307) rfl rfl rfl ?_
    refine g_bipush C S (12 : Int32) at_307 (pc' := 309) rfl rfl ?_
    refine g_aload C S at_309 (pc' := 311) rfl rfl rfl ?_
    refine g_bipush C S (12 : Int32) at_311 (pc' := 313) rfl rfl ?_
    refine g_callV C S (rm := ({ frames := 3, cells := 0, slots := 0, locals := 40 } : Room)) (W := 2) at_313 (hw _ (List.mem_of_getElem? (i := 35) rfl)) (hw _ (List.mem_of_getElem? (i := 36) rfl)) (fun _ hZ => notFace_of_selects (args := #[]) (mvT hZ (hw _ (List.mem_of_getElem? (i := 38) rfl)))) (hw _ (List.mem_of_getElem? (i := 38) rfl)) (hw _ (List.mem_of_getElem? (i := 37) rfl)) (hw _ (List.mem_of_getElem? (i := 4) rfl)) (hw _ (List.mem_of_getElem? (i := 39) rfl)) (by decide) rfl X_a10 (c_chS l Z a0 hw a10 h230 n0 b10 12 26 pW 108 (by decide) (by decide) (by decide) cs hcs S_COMPACT_STRINGS fm hfm S_SIOOBE_FORMATTER X_a10 F_coder_a10 F_value_a10 A_b10) (argsL := [(.int (12 : Int32))]) (r := [(.int (12 : Int32)), (.ref a11)]) rfl all0 (lenOf pd_37 rfl) rfl (Nat.le_of_eq rfl) (by decide) (by decide) (by decide) (by decide) (pc' := 316) rfl (fun T231 h231 v231 P231 q231 S => ?_)
    obtain ⟨rfl, e231⟩ := q231; rw [e231] at S
    show Gl p e below s Z consts_1 _ n0 _ T231 (mkF m 316 #[.val (.int p1), .val (.int p2), .val (.int p3), .val (.int p4), .val (.int (Int32.ofNat n)), .val (.int ca), .val (.int cb), .val (.int cc), .val (.ref a8), .val (.ref s9), .val (.ref a10), .val (.ref a11), .unset, .unset] [(.int (108 : Int32)), (.int (12 : Int32)), (.ref a11)])
    refine g_castore C S (i := 12) at_316 A_a11 (by decide) (by omega) g11 (pc' := 317) rfl (fun T232 h232 S W232 B232 => ?_)
    have Zn := Nat.le_trans Zn (Nat.le_of_eq W232.size.symm)
    have S_COMPACT_STRINGS := S_COMPACT_STRINGS.wr W232
    have S_assertionsDisabled := S_assertionsDisabled.wr W232
    have S_HI_BYTE_SHIFT := S_HI_BYTE_SHIFT.wr W232
    have S_LO_BYTE_SHIFT := S_LO_BYTE_SHIFT.wr W232
    have S_SIOOBE_FORMATTER := S_SIOOBE_FORMATTER.wr W232
    have X_s9 := X_s9.wr W232
    have F_coder_s9 := F_coder_s9.other W232 (Or.inl (Ne.symm n11a))
    have F_value_s9 := F_value_s9.other W232 (Or.inl (Ne.symm n11a))
    have A_b9 := A_b9.other W232 (Ne.symm n11b)
    have X_a10 := X_a10.wr W232
    have F_coder_a10 := F_coder_a10.other W232 (Or.inl (Ne.symm n11c))
    have F_value_a10 := F_value_a10.other W232 (Or.inl (Ne.symm n11c))
    have A_b10 := A_b10.other W232 (Ne.symm n11d)
    have A_a11 := B232
    have A_a11 : Ary Z h232 a11 .char (26 + n) (fun q => .int (if q < 13 then pW q else 0)) := A_a11.cg (pst (26 + n) 12 (by decide))
    refine g_aload C S at_317 (pc' := 319) rfl rfl rfl ?_
    refine g_bipush C S (13 : Int32) at_319 (pc' := 321) rfl rfl ?_
    refine g_aload C S at_321 (pc' := 323) rfl rfl rfl ?_
    refine g_bipush C S (13 : Int32) at_323 (pc' := 325) rfl rfl ?_
    refine g_callV C S (rm := ({ frames := 3, cells := 0, slots := 0, locals := 40 } : Room)) (W := 2) at_325 (hw _ (List.mem_of_getElem? (i := 35) rfl)) (hw _ (List.mem_of_getElem? (i := 36) rfl)) (fun _ hZ => notFace_of_selects (args := #[]) (mvT hZ (hw _ (List.mem_of_getElem? (i := 38) rfl)))) (hw _ (List.mem_of_getElem? (i := 38) rfl)) (hw _ (List.mem_of_getElem? (i := 37) rfl)) (hw _ (List.mem_of_getElem? (i := 4) rfl)) (hw _ (List.mem_of_getElem? (i := 39) rfl)) (by decide) rfl X_a10 (c_chS l Z a0 hw a10 h232 n0 b10 13 26 pW 100 (by decide) (by decide) (by decide) cs hcs S_COMPACT_STRINGS fm hfm S_SIOOBE_FORMATTER X_a10 F_coder_a10 F_value_a10 A_b10) (argsL := [(.int (13 : Int32))]) (r := [(.int (13 : Int32)), (.ref a11)]) rfl all0 (lenOf pd_37 rfl) rfl (Nat.le_of_eq rfl) (by decide) (by decide) (by decide) (by decide) (pc' := 328) rfl (fun T233 h233 v233 P233 q233 S => ?_)
    obtain ⟨rfl, e233⟩ := q233; rw [e233] at S
    show Gl p e below s Z consts_1 _ n0 _ T233 (mkF m 328 #[.val (.int p1), .val (.int p2), .val (.int p3), .val (.int p4), .val (.int (Int32.ofNat n)), .val (.int ca), .val (.int cb), .val (.int cc), .val (.ref a8), .val (.ref s9), .val (.ref a10), .val (.ref a11), .unset, .unset] [(.int (100 : Int32)), (.int (13 : Int32)), (.ref a11)])
    refine g_castore C S (i := 13) at_328 A_a11 (by decide) (by omega) g11 (pc' := 329) rfl (fun T234 h234 S W234 B234 => ?_)
    have Zn := Nat.le_trans Zn (Nat.le_of_eq W234.size.symm)
    have S_COMPACT_STRINGS := S_COMPACT_STRINGS.wr W234
    have S_assertionsDisabled := S_assertionsDisabled.wr W234
    have S_HI_BYTE_SHIFT := S_HI_BYTE_SHIFT.wr W234
    have S_LO_BYTE_SHIFT := S_LO_BYTE_SHIFT.wr W234
    have S_SIOOBE_FORMATTER := S_SIOOBE_FORMATTER.wr W234
    have X_s9 := X_s9.wr W234
    have F_coder_s9 := F_coder_s9.other W234 (Or.inl (Ne.symm n11a))
    have F_value_s9 := F_value_s9.other W234 (Or.inl (Ne.symm n11a))
    have A_b9 := A_b9.other W234 (Ne.symm n11b)
    have X_a10 := X_a10.wr W234
    have F_coder_a10 := F_coder_a10.other W234 (Or.inl (Ne.symm n11c))
    have F_value_a10 := F_value_a10.other W234 (Or.inl (Ne.symm n11c))
    have A_b10 := A_b10.other W234 (Ne.symm n11d)
    have A_a11 := B234
    have A_a11 : Ary Z h234 a11 .char (26 + n) (fun q => .int (if q < 14 then pW q else 0)) := A_a11.cg (pst (26 + n) 13 (by decide))
    refine g_aload C S at_329 (pc' := 331) rfl rfl rfl ?_
    refine g_bipush C S (14 : Int32) at_331 (pc' := 333) rfl rfl ?_
    refine g_aload C S at_333 (pc' := 335) rfl rfl rfl ?_
    refine g_bipush C S (14 : Int32) at_335 (pc' := 337) rfl rfl ?_
    refine g_callV C S (rm := ({ frames := 3, cells := 0, slots := 0, locals := 40 } : Room)) (W := 2) at_337 (hw _ (List.mem_of_getElem? (i := 35) rfl)) (hw _ (List.mem_of_getElem? (i := 36) rfl)) (fun _ hZ => notFace_of_selects (args := #[]) (mvT hZ (hw _ (List.mem_of_getElem? (i := 38) rfl)))) (hw _ (List.mem_of_getElem? (i := 38) rfl)) (hw _ (List.mem_of_getElem? (i := 37) rfl)) (hw _ (List.mem_of_getElem? (i := 4) rfl)) (hw _ (List.mem_of_getElem? (i := 39) rfl)) (by decide) rfl X_a10 (c_chS l Z a0 hw a10 h234 n0 b10 14 26 pW 32 (by decide) (by decide) (by decide) cs hcs S_COMPACT_STRINGS fm hfm S_SIOOBE_FORMATTER X_a10 F_coder_a10 F_value_a10 A_b10) (argsL := [(.int (14 : Int32))]) (r := [(.int (14 : Int32)), (.ref a11)]) rfl all0 (lenOf pd_37 rfl) rfl (Nat.le_of_eq rfl) (by decide) (by decide) (by decide) (by decide) (pc' := 340) rfl (fun T235 h235 v235 P235 q235 S => ?_)
    obtain ⟨rfl, e235⟩ := q235; rw [e235] at S
    show Gl p e below s Z consts_1 _ n0 _ T235 (mkF m 340 #[.val (.int p1), .val (.int p2), .val (.int p3), .val (.int p4), .val (.int (Int32.ofNat n)), .val (.int ca), .val (.int cb), .val (.int cc), .val (.ref a8), .val (.ref s9), .val (.ref a10), .val (.ref a11), .unset, .unset] [(.int (32 : Int32)), (.int (14 : Int32)), (.ref a11)])
    refine g_castore C S (i := 14) at_340 A_a11 (by decide) (by omega) g11 (pc' := 341) rfl (fun T236 h236 S W236 B236 => ?_)
    have Zn := Nat.le_trans Zn (Nat.le_of_eq W236.size.symm)
    have S_COMPACT_STRINGS := S_COMPACT_STRINGS.wr W236
    have S_assertionsDisabled := S_assertionsDisabled.wr W236
    have S_HI_BYTE_SHIFT := S_HI_BYTE_SHIFT.wr W236
    have S_LO_BYTE_SHIFT := S_LO_BYTE_SHIFT.wr W236
    have S_SIOOBE_FORMATTER := S_SIOOBE_FORMATTER.wr W236
    have X_s9 := X_s9.wr W236
    have F_coder_s9 := F_coder_s9.other W236 (Or.inl (Ne.symm n11a))
    have F_value_s9 := F_value_s9.other W236 (Or.inl (Ne.symm n11a))
    have A_b9 := A_b9.other W236 (Ne.symm n11b)
    have X_a10 := X_a10.wr W236
    have F_coder_a10 := F_coder_a10.other W236 (Or.inl (Ne.symm n11c))
    have F_value_a10 := F_value_a10.other W236 (Or.inl (Ne.symm n11c))
    have A_b10 := A_b10.other W236 (Ne.symm n11d)
    have A_a11 := B236
    have A_a11 : Ary Z h236 a11 .char (26 + n) (fun q => .int (if q < 15 then pW q else 0)) := A_a11.cg (pst (26 + n) 14 (by decide))
    refine g_aload C S at_341 (pc' := 343) rfl rfl rfl ?_
    refine g_bipush C S (15 : Int32) at_343 (pc' := 345) rfl rfl ?_
    refine g_aload C S at_345 (pc' := 347) rfl rfl rfl ?_
    refine g_bipush C S (15 : Int32) at_347 (pc' := 349) rfl rfl ?_
    refine g_callV C S (rm := ({ frames := 3, cells := 0, slots := 0, locals := 40 } : Room)) (W := 2) at_349 (hw _ (List.mem_of_getElem? (i := 35) rfl)) (hw _ (List.mem_of_getElem? (i := 36) rfl)) (fun _ hZ => notFace_of_selects (args := #[]) (mvT hZ (hw _ (List.mem_of_getElem? (i := 38) rfl)))) (hw _ (List.mem_of_getElem? (i := 38) rfl)) (hw _ (List.mem_of_getElem? (i := 37) rfl)) (hw _ (List.mem_of_getElem? (i := 4) rfl)) (hw _ (List.mem_of_getElem? (i := 39) rfl)) (by decide) rfl X_a10 (c_chS l Z a0 hw a10 h236 n0 b10 15 26 pW 110 (by decide) (by decide) (by decide) cs hcs S_COMPACT_STRINGS fm hfm S_SIOOBE_FORMATTER X_a10 F_coder_a10 F_value_a10 A_b10) (argsL := [(.int (15 : Int32))]) (r := [(.int (15 : Int32)), (.ref a11)]) rfl all0 (lenOf pd_37 rfl) rfl (Nat.le_of_eq rfl) (by decide) (by decide) (by decide) (by decide) (pc' := 352) rfl (fun T237 h237 v237 P237 q237 S => ?_)
    obtain ⟨rfl, e237⟩ := q237; rw [e237] at S
    show Gl p e below s Z consts_1 _ n0 _ T237 (mkF m 352 #[.val (.int p1), .val (.int p2), .val (.int p3), .val (.int p4), .val (.int (Int32.ofNat n)), .val (.int ca), .val (.int cb), .val (.int cc), .val (.ref a8), .val (.ref s9), .val (.ref a10), .val (.ref a11), .unset, .unset] [(.int (110 : Int32)), (.int (15 : Int32)), (.ref a11)])
    refine g_castore C S (i := 15) at_352 A_a11 (by decide) (by omega) g11 (pc' := 353) rfl (fun T238 h238 S W238 B238 => ?_)
    have Zn := Nat.le_trans Zn (Nat.le_of_eq W238.size.symm)
    have S_COMPACT_STRINGS := S_COMPACT_STRINGS.wr W238
    have S_assertionsDisabled := S_assertionsDisabled.wr W238
    have S_HI_BYTE_SHIFT := S_HI_BYTE_SHIFT.wr W238
    have S_LO_BYTE_SHIFT := S_LO_BYTE_SHIFT.wr W238
    have S_SIOOBE_FORMATTER := S_SIOOBE_FORMATTER.wr W238
    have X_s9 := X_s9.wr W238
    have F_coder_s9 := F_coder_s9.other W238 (Or.inl (Ne.symm n11a))
    have F_value_s9 := F_value_s9.other W238 (Or.inl (Ne.symm n11a))
    have A_b9 := A_b9.other W238 (Ne.symm n11b)
    have X_a10 := X_a10.wr W238
    have F_coder_a10 := F_coder_a10.other W238 (Or.inl (Ne.symm n11c))
    have F_value_a10 := F_value_a10.other W238 (Or.inl (Ne.symm n11c))
    have A_b10 := A_b10.other W238 (Ne.symm n11d)
    have A_a11 := B238
    have A_a11 : Ary Z h238 a11 .char (26 + n) (fun q => .int (if q < 16 then pW q else 0)) := A_a11.cg (pst (26 + n) 15 (by decide))
    refine g_aload C S at_353 (pc' := 355) rfl rfl rfl ?_
    refine g_bipush C S (16 : Int32) at_355 (pc' := 357) rfl rfl ?_
    refine g_aload C S at_357 (pc' := 359) rfl rfl rfl ?_
    refine g_bipush C S (16 : Int32) at_359 (pc' := 361) rfl rfl ?_
    refine g_callV C S (rm := ({ frames := 3, cells := 0, slots := 0, locals := 40 } : Room)) (W := 2) at_361 (hw _ (List.mem_of_getElem? (i := 35) rfl)) (hw _ (List.mem_of_getElem? (i := 36) rfl)) (fun _ hZ => notFace_of_selects (args := #[]) (mvT hZ (hw _ (List.mem_of_getElem? (i := 38) rfl)))) (hw _ (List.mem_of_getElem? (i := 38) rfl)) (hw _ (List.mem_of_getElem? (i := 37) rfl)) (hw _ (List.mem_of_getElem? (i := 4) rfl)) (hw _ (List.mem_of_getElem? (i := 39) rfl)) (by decide) rfl X_a10 (c_chS l Z a0 hw a10 h238 n0 b10 16 26 pW 111 (by decide) (by decide) (by decide) cs hcs S_COMPACT_STRINGS fm hfm S_SIOOBE_FORMATTER X_a10 F_coder_a10 F_value_a10 A_b10) (argsL := [(.int (16 : Int32))]) (r := [(.int (16 : Int32)), (.ref a11)]) rfl all0 (lenOf pd_37 rfl) rfl (Nat.le_of_eq rfl) (by decide) (by decide) (by decide) (by decide) (pc' := 364) rfl (fun T239 h239 v239 P239 q239 S => ?_)
    obtain ⟨rfl, e239⟩ := q239; rw [e239] at S
    show Gl p e below s Z consts_1 _ n0 _ T239 (mkF m 364 #[.val (.int p1), .val (.int p2), .val (.int p3), .val (.int p4), .val (.int (Int32.ofNat n)), .val (.int ca), .val (.int cb), .val (.int cc), .val (.ref a8), .val (.ref s9), .val (.ref a10), .val (.ref a11), .unset, .unset] [(.int (111 : Int32)), (.int (16 : Int32)), (.ref a11)])
    refine g_castore C S (i := 16) at_364 A_a11 (by decide) (by omega) g11 (pc' := 365) rfl (fun T240 h240 S W240 B240 => ?_)
    have Zn := Nat.le_trans Zn (Nat.le_of_eq W240.size.symm)
    have S_COMPACT_STRINGS := S_COMPACT_STRINGS.wr W240
    have S_assertionsDisabled := S_assertionsDisabled.wr W240
    have S_HI_BYTE_SHIFT := S_HI_BYTE_SHIFT.wr W240
    have S_LO_BYTE_SHIFT := S_LO_BYTE_SHIFT.wr W240
    have S_SIOOBE_FORMATTER := S_SIOOBE_FORMATTER.wr W240
    have X_s9 := X_s9.wr W240
    have F_coder_s9 := F_coder_s9.other W240 (Or.inl (Ne.symm n11a))
    have F_value_s9 := F_value_s9.other W240 (Or.inl (Ne.symm n11a))
    have A_b9 := A_b9.other W240 (Ne.symm n11b)
    have X_a10 := X_a10.wr W240
    have F_coder_a10 := F_coder_a10.other W240 (Or.inl (Ne.symm n11c))
    have F_value_a10 := F_value_a10.other W240 (Or.inl (Ne.symm n11c))
    have A_b10 := A_b10.other W240 (Ne.symm n11d)
    have A_a11 := B240
    have A_a11 : Ary Z h240 a11 .char (26 + n) (fun q => .int (if q < 17 then pW q else 0)) := A_a11.cg (pst (26 + n) 16 (by decide))
    refine g_aload C S at_365 (pc' := 367) rfl rfl rfl ?_
    refine g_bipush C S (17 : Int32) at_367 (pc' := 369) rfl rfl ?_
    refine g_aload C S at_369 (pc' := 371) rfl rfl rfl ?_
    refine g_bipush C S (17 : Int32) at_371 (pc' := 373) rfl rfl ?_
    refine g_callV C S (rm := ({ frames := 3, cells := 0, slots := 0, locals := 40 } : Room)) (W := 2) at_373 (hw _ (List.mem_of_getElem? (i := 35) rfl)) (hw _ (List.mem_of_getElem? (i := 36) rfl)) (fun _ hZ => notFace_of_selects (args := #[]) (mvT hZ (hw _ (List.mem_of_getElem? (i := 38) rfl)))) (hw _ (List.mem_of_getElem? (i := 38) rfl)) (hw _ (List.mem_of_getElem? (i := 37) rfl)) (hw _ (List.mem_of_getElem? (i := 4) rfl)) (hw _ (List.mem_of_getElem? (i := 39) rfl)) (by decide) rfl X_a10 (c_chS l Z a0 hw a10 h240 n0 b10 17 26 pW 116 (by decide) (by decide) (by decide) cs hcs S_COMPACT_STRINGS fm hfm S_SIOOBE_FORMATTER X_a10 F_coder_a10 F_value_a10 A_b10) (argsL := [(.int (17 : Int32))]) (r := [(.int (17 : Int32)), (.ref a11)]) rfl all0 (lenOf pd_37 rfl) rfl (Nat.le_of_eq rfl) (by decide) (by decide) (by decide) (by decide) (pc' := 376) rfl (fun T241 h241 v241 P241 q241 S => ?_)
    obtain ⟨rfl, e241⟩ := q241; rw [e241] at S
    show Gl p e below s Z consts_1 _ n0 _ T241 (mkF m 376 #[.val (.int p1), .val (.int p2), .val (.int p3), .val (.int p4), .val (.int (Int32.ofNat n)), .val (.int ca), .val (.int cb), .val (.int cc), .val (.ref a8), .val (.ref s9), .val (.ref a10), .val (.ref a11), .unset, .unset] [(.int (116 : Int32)), (.int (17 : Int32)), (.ref a11)])
    refine g_castore C S (i := 17) at_376 A_a11 (by decide) (by omega) g11 (pc' := 377) rfl (fun T242 h242 S W242 B242 => ?_)
    have Zn := Nat.le_trans Zn (Nat.le_of_eq W242.size.symm)
    have S_COMPACT_STRINGS := S_COMPACT_STRINGS.wr W242
    have S_assertionsDisabled := S_assertionsDisabled.wr W242
    have S_HI_BYTE_SHIFT := S_HI_BYTE_SHIFT.wr W242
    have S_LO_BYTE_SHIFT := S_LO_BYTE_SHIFT.wr W242
    have S_SIOOBE_FORMATTER := S_SIOOBE_FORMATTER.wr W242
    have X_s9 := X_s9.wr W242
    have F_coder_s9 := F_coder_s9.other W242 (Or.inl (Ne.symm n11a))
    have F_value_s9 := F_value_s9.other W242 (Or.inl (Ne.symm n11a))
    have A_b9 := A_b9.other W242 (Ne.symm n11b)
    have X_a10 := X_a10.wr W242
    have F_coder_a10 := F_coder_a10.other W242 (Or.inl (Ne.symm n11c))
    have F_value_a10 := F_value_a10.other W242 (Or.inl (Ne.symm n11c))
    have A_b10 := A_b10.other W242 (Ne.symm n11d)
    have A_a11 := B242
    have A_a11 : Ary Z h242 a11 .char (26 + n) (fun q => .int (if q < 18 then pW q else 0)) := A_a11.cg (pst (26 + n) 17 (by decide))
    refine g_aload C S at_377 (pc' := 379) rfl rfl rfl ?_
    refine g_bipush C S (18 : Int32) at_379 (pc' := 381) rfl rfl ?_
    refine g_aload C S at_381 (pc' := 383) rfl rfl rfl ?_
    refine g_bipush C S (18 : Int32) at_383 (pc' := 385) rfl rfl ?_
    refine g_callV C S (rm := ({ frames := 3, cells := 0, slots := 0, locals := 40 } : Room)) (W := 2) at_385 (hw _ (List.mem_of_getElem? (i := 35) rfl)) (hw _ (List.mem_of_getElem? (i := 36) rfl)) (fun _ hZ => notFace_of_selects (args := #[]) (mvT hZ (hw _ (List.mem_of_getElem? (i := 38) rfl)))) (hw _ (List.mem_of_getElem? (i := 38) rfl)) (hw _ (List.mem_of_getElem? (i := 37) rfl)) (hw _ (List.mem_of_getElem? (i := 4) rfl)) (hw _ (List.mem_of_getElem? (i := 39) rfl)) (by decide) rfl X_a10 (c_chS l Z a0 hw a10 h242 n0 b10 18 26 pW 32 (by decide) (by decide) (by decide) cs hcs S_COMPACT_STRINGS fm hfm S_SIOOBE_FORMATTER X_a10 F_coder_a10 F_value_a10 A_b10) (argsL := [(.int (18 : Int32))]) (r := [(.int (18 : Int32)), (.ref a11)]) rfl all0 (lenOf pd_37 rfl) rfl (Nat.le_of_eq rfl) (by decide) (by decide) (by decide) (by decide) (pc' := 388) rfl (fun T243 h243 v243 P243 q243 S => ?_)
    obtain ⟨rfl, e243⟩ := q243; rw [e243] at S
    show Gl p e below s Z consts_1 _ n0 _ T243 (mkF m 388 #[.val (.int p1), .val (.int p2), .val (.int p3), .val (.int p4), .val (.int (Int32.ofNat n)), .val (.int ca), .val (.int cb), .val (.int cc), .val (.ref a8), .val (.ref s9), .val (.ref a10), .val (.ref a11), .unset, .unset] [(.int (32 : Int32)), (.int (18 : Int32)), (.ref a11)])
    refine g_castore C S (i := 18) at_388 A_a11 (by decide) (by omega) g11 (pc' := 389) rfl (fun T244 h244 S W244 B244 => ?_)
    have Zn := Nat.le_trans Zn (Nat.le_of_eq W244.size.symm)
    have S_COMPACT_STRINGS := S_COMPACT_STRINGS.wr W244
    have S_assertionsDisabled := S_assertionsDisabled.wr W244
    have S_HI_BYTE_SHIFT := S_HI_BYTE_SHIFT.wr W244
    have S_LO_BYTE_SHIFT := S_LO_BYTE_SHIFT.wr W244
    have S_SIOOBE_FORMATTER := S_SIOOBE_FORMATTER.wr W244
    have X_s9 := X_s9.wr W244
    have F_coder_s9 := F_coder_s9.other W244 (Or.inl (Ne.symm n11a))
    have F_value_s9 := F_value_s9.other W244 (Or.inl (Ne.symm n11a))
    have A_b9 := A_b9.other W244 (Ne.symm n11b)
    have X_a10 := X_a10.wr W244
    have F_coder_a10 := F_coder_a10.other W244 (Or.inl (Ne.symm n11c))
    have F_value_a10 := F_value_a10.other W244 (Or.inl (Ne.symm n11c))
    have A_b10 := A_b10.other W244 (Ne.symm n11d)
    have A_a11 := B244
    have A_a11 : Ary Z h244 a11 .char (26 + n) (fun q => .int (if q < 19 then pW q else 0)) := A_a11.cg (pst (26 + n) 18 (by decide))
    refine g_aload C S at_389 (pc' := 391) rfl rfl rfl ?_
    refine g_bipush C S (19 : Int32) at_391 (pc' := 393) rfl rfl ?_
    refine g_aload C S at_393 (pc' := 395) rfl rfl rfl ?_
    refine g_bipush C S (19 : Int32) at_395 (pc' := 397) rfl rfl ?_
    refine g_callV C S (rm := ({ frames := 3, cells := 0, slots := 0, locals := 40 } : Room)) (W := 2) at_397 (hw _ (List.mem_of_getElem? (i := 35) rfl)) (hw _ (List.mem_of_getElem? (i := 36) rfl)) (fun _ hZ => notFace_of_selects (args := #[]) (mvT hZ (hw _ (List.mem_of_getElem? (i := 38) rfl)))) (hw _ (List.mem_of_getElem? (i := 38) rfl)) (hw _ (List.mem_of_getElem? (i := 37) rfl)) (hw _ (List.mem_of_getElem? (i := 4) rfl)) (hw _ (List.mem_of_getElem? (i := 39) rfl)) (by decide) rfl X_a10 (c_chS l Z a0 hw a10 h244 n0 b10 19 26 pW 115 (by decide) (by decide) (by decide) cs hcs S_COMPACT_STRINGS fm hfm S_SIOOBE_FORMATTER X_a10 F_coder_a10 F_value_a10 A_b10) (argsL := [(.int (19 : Int32))]) (r := [(.int (19 : Int32)), (.ref a11)]) rfl all0 (lenOf pd_37 rfl) rfl (Nat.le_of_eq rfl) (by decide) (by decide) (by decide) (by decide) (pc' := 400) rfl (fun T245 h245 v245 P245 q245 S => ?_)
    obtain ⟨rfl, e245⟩ := q245; rw [e245] at S
    show Gl p e below s Z consts_1 _ n0 _ T245 (mkF m 400 #[.val (.int p1), .val (.int p2), .val (.int p3), .val (.int p4), .val (.int (Int32.ofNat n)), .val (.int ca), .val (.int cb), .val (.int cc), .val (.ref a8), .val (.ref s9), .val (.ref a10), .val (.ref a11), .unset, .unset] [(.int (115 : Int32)), (.int (19 : Int32)), (.ref a11)])
    refine g_castore C S (i := 19) at_400 A_a11 (by decide) (by omega) g11 (pc' := 401) rfl (fun T246 h246 S W246 B246 => ?_)
    have Zn := Nat.le_trans Zn (Nat.le_of_eq W246.size.symm)
    have S_COMPACT_STRINGS := S_COMPACT_STRINGS.wr W246
    have S_assertionsDisabled := S_assertionsDisabled.wr W246
    have S_HI_BYTE_SHIFT := S_HI_BYTE_SHIFT.wr W246
    have S_LO_BYTE_SHIFT := S_LO_BYTE_SHIFT.wr W246
    have S_SIOOBE_FORMATTER := S_SIOOBE_FORMATTER.wr W246
    have X_s9 := X_s9.wr W246
    have F_coder_s9 := F_coder_s9.other W246 (Or.inl (Ne.symm n11a))
    have F_value_s9 := F_value_s9.other W246 (Or.inl (Ne.symm n11a))
    have A_b9 := A_b9.other W246 (Ne.symm n11b)
    have X_a10 := X_a10.wr W246
    have F_coder_a10 := F_coder_a10.other W246 (Or.inl (Ne.symm n11c))
    have F_value_a10 := F_value_a10.other W246 (Or.inl (Ne.symm n11c))
    have A_b10 := A_b10.other W246 (Ne.symm n11d)
    have A_a11 := B246
    have A_a11 : Ary Z h246 a11 .char (26 + n) (fun q => .int (if q < 20 then pW q else 0)) := A_a11.cg (pst (26 + n) 19 (by decide))
    refine g_aload C S at_401 (pc' := 403) rfl rfl rfl ?_
    refine g_bipush C S (20 : Int32) at_403 (pc' := 405) rfl rfl ?_
    refine g_aload C S at_405 (pc' := 407) rfl rfl rfl ?_
    refine g_bipush C S (20 : Int32) at_407 (pc' := 409) rfl rfl ?_
    refine g_callV C S (rm := ({ frames := 3, cells := 0, slots := 0, locals := 40 } : Room)) (W := 2) at_409 (hw _ (List.mem_of_getElem? (i := 35) rfl)) (hw _ (List.mem_of_getElem? (i := 36) rfl)) (fun _ hZ => notFace_of_selects (args := #[]) (mvT hZ (hw _ (List.mem_of_getElem? (i := 38) rfl)))) (hw _ (List.mem_of_getElem? (i := 38) rfl)) (hw _ (List.mem_of_getElem? (i := 37) rfl)) (hw _ (List.mem_of_getElem? (i := 4) rfl)) (hw _ (List.mem_of_getElem? (i := 39) rfl)) (by decide) rfl X_a10 (c_chS l Z a0 hw a10 h246 n0 b10 20 26 pW 116 (by decide) (by decide) (by decide) cs hcs S_COMPACT_STRINGS fm hfm S_SIOOBE_FORMATTER X_a10 F_coder_a10 F_value_a10 A_b10) (argsL := [(.int (20 : Int32))]) (r := [(.int (20 : Int32)), (.ref a11)]) rfl all0 (lenOf pd_37 rfl) rfl (Nat.le_of_eq rfl) (by decide) (by decide) (by decide) (by decide) (pc' := 412) rfl (fun T247 h247 v247 P247 q247 S => ?_)
    obtain ⟨rfl, e247⟩ := q247; rw [e247] at S
    show Gl p e below s Z consts_1 _ n0 _ T247 (mkF m 412 #[.val (.int p1), .val (.int p2), .val (.int p3), .val (.int p4), .val (.int (Int32.ofNat n)), .val (.int ca), .val (.int cb), .val (.int cc), .val (.ref a8), .val (.ref s9), .val (.ref a10), .val (.ref a11), .unset, .unset] [(.int (116 : Int32)), (.int (20 : Int32)), (.ref a11)])
    refine g_castore C S (i := 20) at_412 A_a11 (by decide) (by omega) g11 (pc' := 413) rfl (fun T248 h248 S W248 B248 => ?_)
    have Zn := Nat.le_trans Zn (Nat.le_of_eq W248.size.symm)
    have S_COMPACT_STRINGS := S_COMPACT_STRINGS.wr W248
    have S_assertionsDisabled := S_assertionsDisabled.wr W248
    have S_HI_BYTE_SHIFT := S_HI_BYTE_SHIFT.wr W248
    have S_LO_BYTE_SHIFT := S_LO_BYTE_SHIFT.wr W248
    have S_SIOOBE_FORMATTER := S_SIOOBE_FORMATTER.wr W248
    have X_s9 := X_s9.wr W248
    have F_coder_s9 := F_coder_s9.other W248 (Or.inl (Ne.symm n11a))
    have F_value_s9 := F_value_s9.other W248 (Or.inl (Ne.symm n11a))
    have A_b9 := A_b9.other W248 (Ne.symm n11b)
    have X_a10 := X_a10.wr W248
    have F_coder_a10 := F_coder_a10.other W248 (Or.inl (Ne.symm n11c))
    have F_value_a10 := F_value_a10.other W248 (Or.inl (Ne.symm n11c))
    have A_b10 := A_b10.other W248 (Ne.symm n11d)
    have A_a11 := B248
    have A_a11 : Ary Z h248 a11 .char (26 + n) (fun q => .int (if q < 21 then pW q else 0)) := A_a11.cg (pst (26 + n) 20 (by decide))
    refine g_aload C S at_413 (pc' := 415) rfl rfl rfl ?_
    refine g_bipush C S (21 : Int32) at_415 (pc' := 417) rfl rfl ?_
    refine g_aload C S at_417 (pc' := 419) rfl rfl rfl ?_
    refine g_bipush C S (21 : Int32) at_419 (pc' := 421) rfl rfl ?_
    refine g_callV C S (rm := ({ frames := 3, cells := 0, slots := 0, locals := 40 } : Room)) (W := 2) at_421 (hw _ (List.mem_of_getElem? (i := 35) rfl)) (hw _ (List.mem_of_getElem? (i := 36) rfl)) (fun _ hZ => notFace_of_selects (args := #[]) (mvT hZ (hw _ (List.mem_of_getElem? (i := 38) rfl)))) (hw _ (List.mem_of_getElem? (i := 38) rfl)) (hw _ (List.mem_of_getElem? (i := 37) rfl)) (hw _ (List.mem_of_getElem? (i := 4) rfl)) (hw _ (List.mem_of_getElem? (i := 39) rfl)) (by decide) rfl X_a10 (c_chS l Z a0 hw a10 h248 n0 b10 21 26 pW 97 (by decide) (by decide) (by decide) cs hcs S_COMPACT_STRINGS fm hfm S_SIOOBE_FORMATTER X_a10 F_coder_a10 F_value_a10 A_b10) (argsL := [(.int (21 : Int32))]) (r := [(.int (21 : Int32)), (.ref a11)]) rfl all0 (lenOf pd_37 rfl) rfl (Nat.le_of_eq rfl) (by decide) (by decide) (by decide) (by decide) (pc' := 424) rfl (fun T249 h249 v249 P249 q249 S => ?_)
    obtain ⟨rfl, e249⟩ := q249; rw [e249] at S
    show Gl p e below s Z consts_1 _ n0 _ T249 (mkF m 424 #[.val (.int p1), .val (.int p2), .val (.int p3), .val (.int p4), .val (.int (Int32.ofNat n)), .val (.int ca), .val (.int cb), .val (.int cc), .val (.ref a8), .val (.ref s9), .val (.ref a10), .val (.ref a11), .unset, .unset] [(.int (97 : Int32)), (.int (21 : Int32)), (.ref a11)])
    refine g_castore C S (i := 21) at_424 A_a11 (by decide) (by omega) g11 (pc' := 425) rfl (fun T250 h250 S W250 B250 => ?_)
    have Zn := Nat.le_trans Zn (Nat.le_of_eq W250.size.symm)
    have S_COMPACT_STRINGS := S_COMPACT_STRINGS.wr W250
    have S_assertionsDisabled := S_assertionsDisabled.wr W250
    have S_HI_BYTE_SHIFT := S_HI_BYTE_SHIFT.wr W250
    have S_LO_BYTE_SHIFT := S_LO_BYTE_SHIFT.wr W250
    have S_SIOOBE_FORMATTER := S_SIOOBE_FORMATTER.wr W250
    have X_s9 := X_s9.wr W250
    have F_coder_s9 := F_coder_s9.other W250 (Or.inl (Ne.symm n11a))
    have F_value_s9 := F_value_s9.other W250 (Or.inl (Ne.symm n11a))
    have A_b9 := A_b9.other W250 (Ne.symm n11b)
    have X_a10 := X_a10.wr W250
    have F_coder_a10 := F_coder_a10.other W250 (Or.inl (Ne.symm n11c))
    have F_value_a10 := F_value_a10.other W250 (Or.inl (Ne.symm n11c))
    have A_b10 := A_b10.other W250 (Ne.symm n11d)
    have A_a11 := B250
    have A_a11 : Ary Z h250 a11 .char (26 + n) (fun q => .int (if q < 22 then pW q else 0)) := A_a11.cg (pst (26 + n) 21 (by decide))
    refine g_aload C S at_425 (pc' := 427) rfl rfl rfl ?_
    refine g_bipush C S (22 : Int32) at_427 (pc' := 429) rfl rfl ?_
    refine g_aload C S at_429 (pc' := 431) rfl rfl rfl ?_
    refine g_bipush C S (22 : Int32) at_431 (pc' := 433) rfl rfl ?_
    refine g_callV C S (rm := ({ frames := 3, cells := 0, slots := 0, locals := 40 } : Room)) (W := 2) at_433 (hw _ (List.mem_of_getElem? (i := 35) rfl)) (hw _ (List.mem_of_getElem? (i := 36) rfl)) (fun _ hZ => notFace_of_selects (args := #[]) (mvT hZ (hw _ (List.mem_of_getElem? (i := 38) rfl)))) (hw _ (List.mem_of_getElem? (i := 38) rfl)) (hw _ (List.mem_of_getElem? (i := 37) rfl)) (hw _ (List.mem_of_getElem? (i := 4) rfl)) (hw _ (List.mem_of_getElem? (i := 39) rfl)) (by decide) rfl X_a10 (c_chS l Z a0 hw a10 h250 n0 b10 22 26 pW 114 (by decide) (by decide) (by decide) cs hcs S_COMPACT_STRINGS fm hfm S_SIOOBE_FORMATTER X_a10 F_coder_a10 F_value_a10 A_b10) (argsL := [(.int (22 : Int32))]) (r := [(.int (22 : Int32)), (.ref a11)]) rfl all0 (lenOf pd_37 rfl) rfl (Nat.le_of_eq rfl) (by decide) (by decide) (by decide) (by decide) (pc' := 436) rfl (fun T251 h251 v251 P251 q251 S => ?_)
    obtain ⟨rfl, e251⟩ := q251; rw [e251] at S
    show Gl p e below s Z consts_1 _ n0 _ T251 (mkF m 436 #[.val (.int p1), .val (.int p2), .val (.int p3), .val (.int p4), .val (.int (Int32.ofNat n)), .val (.int ca), .val (.int cb), .val (.int cc), .val (.ref a8), .val (.ref s9), .val (.ref a10), .val (.ref a11), .unset, .unset] [(.int (114 : Int32)), (.int (22 : Int32)), (.ref a11)])
    refine g_castore C S (i := 22) at_436 A_a11 (by decide) (by omega) g11 (pc' := 437) rfl (fun T252 h252 S W252 B252 => ?_)
    have Zn := Nat.le_trans Zn (Nat.le_of_eq W252.size.symm)
    have S_COMPACT_STRINGS := S_COMPACT_STRINGS.wr W252
    have S_assertionsDisabled := S_assertionsDisabled.wr W252
    have S_HI_BYTE_SHIFT := S_HI_BYTE_SHIFT.wr W252
    have S_LO_BYTE_SHIFT := S_LO_BYTE_SHIFT.wr W252
    have S_SIOOBE_FORMATTER := S_SIOOBE_FORMATTER.wr W252
    have X_s9 := X_s9.wr W252
    have F_coder_s9 := F_coder_s9.other W252 (Or.inl (Ne.symm n11a))
    have F_value_s9 := F_value_s9.other W252 (Or.inl (Ne.symm n11a))
    have A_b9 := A_b9.other W252 (Ne.symm n11b)
    have X_a10 := X_a10.wr W252
    have F_coder_a10 := F_coder_a10.other W252 (Or.inl (Ne.symm n11c))
    have F_value_a10 := F_value_a10.other W252 (Or.inl (Ne.symm n11c))
    have A_b10 := A_b10.other W252 (Ne.symm n11d)
    have A_a11 := B252
    have A_a11 : Ary Z h252 a11 .char (26 + n) (fun q => .int (if q < 23 then pW q else 0)) := A_a11.cg (pst (26 + n) 22 (by decide))
    refine g_aload C S at_437 (pc' := 439) rfl rfl rfl ?_
    refine g_bipush C S (23 : Int32) at_439 (pc' := 441) rfl rfl ?_
    refine g_aload C S at_441 (pc' := 443) rfl rfl rfl ?_
    refine g_bipush C S (23 : Int32) at_443 (pc' := 445) rfl rfl ?_
    refine g_callV C S (rm := ({ frames := 3, cells := 0, slots := 0, locals := 40 } : Room)) (W := 2) at_445 (hw _ (List.mem_of_getElem? (i := 35) rfl)) (hw _ (List.mem_of_getElem? (i := 36) rfl)) (fun _ hZ => notFace_of_selects (args := #[]) (mvT hZ (hw _ (List.mem_of_getElem? (i := 38) rfl)))) (hw _ (List.mem_of_getElem? (i := 38) rfl)) (hw _ (List.mem_of_getElem? (i := 37) rfl)) (hw _ (List.mem_of_getElem? (i := 4) rfl)) (hw _ (List.mem_of_getElem? (i := 39) rfl)) (by decide) rfl X_a10 (c_chS l Z a0 hw a10 h252 n0 b10 23 26 pW 116 (by decide) (by decide) (by decide) cs hcs S_COMPACT_STRINGS fm hfm S_SIOOBE_FORMATTER X_a10 F_coder_a10 F_value_a10 A_b10) (argsL := [(.int (23 : Int32))]) (r := [(.int (23 : Int32)), (.ref a11)]) rfl all0 (lenOf pd_37 rfl) rfl (Nat.le_of_eq rfl) (by decide) (by decide) (by decide) (by decide) (pc' := 448) rfl (fun T253 h253 v253 P253 q253 S => ?_)
    obtain ⟨rfl, e253⟩ := q253; rw [e253] at S
    show Gl p e below s Z consts_1 _ n0 _ T253 (mkF m 448 #[.val (.int p1), .val (.int p2), .val (.int p3), .val (.int p4), .val (.int (Int32.ofNat n)), .val (.int ca), .val (.int cb), .val (.int cc), .val (.ref a8), .val (.ref s9), .val (.ref a10), .val (.ref a11), .unset, .unset] [(.int (116 : Int32)), (.int (23 : Int32)), (.ref a11)])
    refine g_castore C S (i := 23) at_448 A_a11 (by decide) (by omega) g11 (pc' := 449) rfl (fun T254 h254 S W254 B254 => ?_)
    have Zn := Nat.le_trans Zn (Nat.le_of_eq W254.size.symm)
    have S_COMPACT_STRINGS := S_COMPACT_STRINGS.wr W254
    have S_assertionsDisabled := S_assertionsDisabled.wr W254
    have S_HI_BYTE_SHIFT := S_HI_BYTE_SHIFT.wr W254
    have S_LO_BYTE_SHIFT := S_LO_BYTE_SHIFT.wr W254
    have S_SIOOBE_FORMATTER := S_SIOOBE_FORMATTER.wr W254
    have X_s9 := X_s9.wr W254
    have F_coder_s9 := F_coder_s9.other W254 (Or.inl (Ne.symm n11a))
    have F_value_s9 := F_value_s9.other W254 (Or.inl (Ne.symm n11a))
    have A_b9 := A_b9.other W254 (Ne.symm n11b)
    have X_a10 := X_a10.wr W254
    have F_coder_a10 := F_coder_a10.other W254 (Or.inl (Ne.symm n11c))
    have F_value_a10 := F_value_a10.other W254 (Or.inl (Ne.symm n11c))
    have A_b10 := A_b10.other W254 (Ne.symm n11d)
    have A_a11 := B254
    have A_a11 : Ary Z h254 a11 .char (26 + n) (fun q => .int (if q < 24 then pW q else 0)) := A_a11.cg (pst (26 + n) 23 (by decide))
    refine g_aload C S at_449 (pc' := 451) rfl rfl rfl ?_
    refine g_bipush C S (24 : Int32) at_451 (pc' := 453) rfl rfl ?_
    refine g_aload C S at_453 (pc' := 455) rfl rfl rfl ?_
    refine g_bipush C S (24 : Int32) at_455 (pc' := 457) rfl rfl ?_
    refine g_callV C S (rm := ({ frames := 3, cells := 0, slots := 0, locals := 40 } : Room)) (W := 2) at_457 (hw _ (List.mem_of_getElem? (i := 35) rfl)) (hw _ (List.mem_of_getElem? (i := 36) rfl)) (fun _ hZ => notFace_of_selects (args := #[]) (mvT hZ (hw _ (List.mem_of_getElem? (i := 38) rfl)))) (hw _ (List.mem_of_getElem? (i := 38) rfl)) (hw _ (List.mem_of_getElem? (i := 37) rfl)) (hw _ (List.mem_of_getElem? (i := 4) rfl)) (hw _ (List.mem_of_getElem? (i := 39) rfl)) (by decide) rfl X_a10 (c_chS l Z a0 hw a10 h254 n0 b10 24 26 pW 58 (by decide) (by decide) (by decide) cs hcs S_COMPACT_STRINGS fm hfm S_SIOOBE_FORMATTER X_a10 F_coder_a10 F_value_a10 A_b10) (argsL := [(.int (24 : Int32))]) (r := [(.int (24 : Int32)), (.ref a11)]) rfl all0 (lenOf pd_37 rfl) rfl (Nat.le_of_eq rfl) (by decide) (by decide) (by decide) (by decide) (pc' := 460) rfl (fun T255 h255 v255 P255 q255 S => ?_)
    obtain ⟨rfl, e255⟩ := q255; rw [e255] at S
    show Gl p e below s Z consts_1 _ n0 _ T255 (mkF m 460 #[.val (.int p1), .val (.int p2), .val (.int p3), .val (.int p4), .val (.int (Int32.ofNat n)), .val (.int ca), .val (.int cb), .val (.int cc), .val (.ref a8), .val (.ref s9), .val (.ref a10), .val (.ref a11), .unset, .unset] [(.int (58 : Int32)), (.int (24 : Int32)), (.ref a11)])
    refine g_castore C S (i := 24) at_460 A_a11 (by decide) (by omega) g11 (pc' := 461) rfl (fun T256 h256 S W256 B256 => ?_)
    have Zn := Nat.le_trans Zn (Nat.le_of_eq W256.size.symm)
    have S_COMPACT_STRINGS := S_COMPACT_STRINGS.wr W256
    have S_assertionsDisabled := S_assertionsDisabled.wr W256
    have S_HI_BYTE_SHIFT := S_HI_BYTE_SHIFT.wr W256
    have S_LO_BYTE_SHIFT := S_LO_BYTE_SHIFT.wr W256
    have S_SIOOBE_FORMATTER := S_SIOOBE_FORMATTER.wr W256
    have X_s9 := X_s9.wr W256
    have F_coder_s9 := F_coder_s9.other W256 (Or.inl (Ne.symm n11a))
    have F_value_s9 := F_value_s9.other W256 (Or.inl (Ne.symm n11a))
    have A_b9 := A_b9.other W256 (Ne.symm n11b)
    have X_a10 := X_a10.wr W256
    have F_coder_a10 := F_coder_a10.other W256 (Or.inl (Ne.symm n11c))
    have F_value_a10 := F_value_a10.other W256 (Or.inl (Ne.symm n11c))
    have A_b10 := A_b10.other W256 (Ne.symm n11d)
    have A_a11 := B256
    have A_a11 : Ary Z h256 a11 .char (26 + n) (fun q => .int (if q < 25 then pW q else 0)) := A_a11.cg (pst (26 + n) 24 (by decide))
    refine g_aload C S at_461 (pc' := 463) rfl rfl rfl ?_
    refine g_bipush C S (25 : Int32) at_463 (pc' := 465) rfl rfl ?_
    refine g_aload C S at_465 (pc' := 467) rfl rfl rfl ?_
    refine g_bipush C S (25 : Int32) at_467 (pc' := 469) rfl rfl ?_
    refine g_callV C S (rm := ({ frames := 3, cells := 0, slots := 0, locals := 40 } : Room)) (W := 2) at_469 (hw _ (List.mem_of_getElem? (i := 35) rfl)) (hw _ (List.mem_of_getElem? (i := 36) rfl)) (fun _ hZ => notFace_of_selects (args := #[]) (mvT hZ (hw _ (List.mem_of_getElem? (i := 38) rfl)))) (hw _ (List.mem_of_getElem? (i := 38) rfl)) (hw _ (List.mem_of_getElem? (i := 37) rfl)) (hw _ (List.mem_of_getElem? (i := 4) rfl)) (hw _ (List.mem_of_getElem? (i := 39) rfl)) (by decide) rfl X_a10 (c_chS l Z a0 hw a10 h256 n0 b10 25 26 pW 32 (by decide) (by decide) (by decide) cs hcs S_COMPACT_STRINGS fm hfm S_SIOOBE_FORMATTER X_a10 F_coder_a10 F_value_a10 A_b10) (argsL := [(.int (25 : Int32))]) (r := [(.int (25 : Int32)), (.ref a11)]) rfl all0 (lenOf pd_37 rfl) rfl (Nat.le_of_eq rfl) (by decide) (by decide) (by decide) (by decide) (pc' := 472) rfl (fun T257 h257 v257 P257 q257 S => ?_)
    obtain ⟨rfl, e257⟩ := q257; rw [e257] at S
    show Gl p e below s Z consts_1 _ n0 _ T257 (mkF m 472 #[.val (.int p1), .val (.int p2), .val (.int p3), .val (.int p4), .val (.int (Int32.ofNat n)), .val (.int ca), .val (.int cb), .val (.int cc), .val (.ref a8), .val (.ref s9), .val (.ref a10), .val (.ref a11), .unset, .unset] [(.int (32 : Int32)), (.int (25 : Int32)), (.ref a11)])
    refine g_castore C S (i := 25) at_472 A_a11 (by decide) (by omega) g11 (pc' := 473) rfl (fun T258 h258 S W258 B258 => ?_)
    have Zn := Nat.le_trans Zn (Nat.le_of_eq W258.size.symm)
    have S_COMPACT_STRINGS := S_COMPACT_STRINGS.wr W258
    have S_assertionsDisabled := S_assertionsDisabled.wr W258
    have S_HI_BYTE_SHIFT := S_HI_BYTE_SHIFT.wr W258
    have S_LO_BYTE_SHIFT := S_LO_BYTE_SHIFT.wr W258
    have S_SIOOBE_FORMATTER := S_SIOOBE_FORMATTER.wr W258
    have X_s9 := X_s9.wr W258
    have F_coder_s9 := F_coder_s9.other W258 (Or.inl (Ne.symm n11a))
    have F_value_s9 := F_value_s9.other W258 (Or.inl (Ne.symm n11a))
    have A_b9 := A_b9.other W258 (Ne.symm n11b)
    have X_a10 := X_a10.wr W258
    have F_coder_a10 := F_coder_a10.other W258 (Or.inl (Ne.symm n11c))
    have F_value_a10 := F_value_a10.other W258 (Or.inl (Ne.symm n11c))
    have A_b10 := A_b10.other W258 (Ne.symm n11d)
    have A_a11 := B258
    have A_a11 : Ary Z h258 a11 .char (26 + n) (fun q => .int (if q < 26 then pW q else 0)) := A_a11.cg (pst (26 + n) 25 (by decide))
    rcases upto3 hn with rfl | rfl | rfl | rfl
    · show Gl p e below s Z consts_1 _ n0 _ T258 (mkF m 473 #[.val (.int p1), .val (.int p2), .val (.int p3), .val (.int p4), .val (.int (0 : Int32)), .val (.int ca), .val (.int cb), .val (.int cc), .val (.ref a8), .val (.ref s9), .val (.ref a10), .val (.ref a11), .unset, .unset] [])
      refine g_iload C S at_473 (pc' := 475) rfl rfl ?_
      refine g_iconst C S (1 : Int32) at_475 (pc' := 476) rfl rfl ?_
      refine g_icmp_lt C S at_476 (pc' := 486) (pf := 479) (by decide) (by decide) rfl (fun hc476 => ?_) (fun hc476 => absurd (by decide) hc476)
      refine g_iload C S at_486 (pc' := 488) rfl rfl ?_
      refine g_iconst C S (2 : Int32) at_488 (pc' := 489) rfl rfl ?_
      refine g_icmp_lt C S at_489 (pc' := 499) (pf := 492) (by decide) (by decide) rfl (fun hc489 => ?_) (fun hc489 => absurd (by decide) hc489)
      refine g_iload C S at_499 (pc' := 501) rfl rfl ?_
      refine g_iconst C S (3 : Int32) at_501 (pc' := 502) rfl rfl ?_
      refine g_icmp_lt C S at_502 (pc' := 512) (pf := 505) (by decide) (by decide) rfl (fun hc502 => ?_) (fun hc502 => absurd (by decide) hc502)
      have A_a11 : Ary Z h258 a11 .char (26 + 0) (fun q => .int (kc (cX ca cb cc) q)) := A_a11.cg fun q hq => by
        by_cases u : q < 26
        · simp [kc, u, show ¬ q = 26 by omega, show ¬ q = 27 by omega, show ¬ q = 28 by omega]
        · omega
      exact J512 0 a8 s9 b9 cd9 M9 g9 a10 b10 a11 (by decide) hE9 _ _ _ S Zn S_COMPACT_STRINGS S_assertionsDisabled S_HI_BYTE_SHIFT S_LO_BYTE_SHIFT S_SIOOBE_FORMATTER X_s9 F_coder_s9 F_value_s9 A_b9 A_a11
    · show Gl p e below s Z consts_1 _ n0 _ T258 (mkF m 473 #[.val (.int p1), .val (.int p2), .val (.int p3), .val (.int p4), .val (.int (1 : Int32)), .val (.int ca), .val (.int cb), .val (.int cc), .val (.ref a8), .val (.ref s9), .val (.ref a10), .val (.ref a11), .unset, .unset] [])
      refine g_iload C S at_473 (pc' := 475) rfl rfl ?_
      refine g_iconst C S (1 : Int32) at_475 (pc' := 476) rfl rfl ?_
      refine g_icmp_lt C S at_476 (pc' := 486) (pf := 479) (by decide) (by decide) rfl (fun hc476 => absurd hc476 (by decide)) (fun hc476 => ?_)
      refine g_aload C S at_479 (pc' := 481) rfl rfl rfl ?_
      refine g_bipush C S (26 : Int32) at_481 (pc' := 483) rfl rfl ?_
      refine g_iload C S at_483 (pc' := 485) rfl rfl ?_
      refine g_castore C S (i := 26) at_485 A_a11 (by decide) (by decide) g11 (pc' := 486) rfl (fun T259 h259 S W259 B259 => ?_)
      have Zn := Nat.le_trans Zn (Nat.le_of_eq W259.size.symm)
      have S_COMPACT_STRINGS := S_COMPACT_STRINGS.wr W259
      have S_assertionsDisabled := S_assertionsDisabled.wr W259
      have S_HI_BYTE_SHIFT := S_HI_BYTE_SHIFT.wr W259
      have S_LO_BYTE_SHIFT := S_LO_BYTE_SHIFT.wr W259
      have S_SIOOBE_FORMATTER := S_SIOOBE_FORMATTER.wr W259
      have X_s9 := X_s9.wr W259
      have F_coder_s9 := F_coder_s9.other W259 (Or.inl (Ne.symm n11a))
      have F_value_s9 := F_value_s9.other W259 (Or.inl (Ne.symm n11a))
      have A_b9 := A_b9.other W259 (Ne.symm n11b)
      have X_a10 := X_a10.wr W259
      have F_coder_a10 := F_coder_a10.other W259 (Or.inl (Ne.symm n11c))
      have F_value_a10 := F_value_a10.other W259 (Or.inl (Ne.symm n11c))
      have A_b10 := A_b10.other W259 (Ne.symm n11d)
      have A_a11 := B259
      refine g_iload C S at_486 (pc' := 488) rfl rfl ?_
      refine g_iconst C S (2 : Int32) at_488 (pc' := 489) rfl rfl ?_
      refine g_icmp_lt C S at_489 (pc' := 499) (pf := 492) (by decide) (by decide) rfl (fun hc489 => ?_) (fun hc489 => absurd (by decide) hc489)
      refine g_iload C S at_499 (pc' := 501) rfl rfl ?_
      refine g_iconst C S (3 : Int32) at_501 (pc' := 502) rfl rfl ?_
      refine g_icmp_lt C S at_502 (pc' := 512) (pf := 505) (by decide) (by decide) rfl (fun hc502 => ?_) (fun hc502 => absurd (by decide) hc502)
      have A_a11 : Ary Z h259 a11 .char (26 + 1) (fun q => .int (kc (cX ca cb cc) q)) := A_a11.cg fun q hq => by
        by_cases u : q < 26
        · simp [kc, u, show ¬ q = 26 by omega, show ¬ q = 27 by omega, show ¬ q = 28 by omega]
        · have : q = 26 := by omega
          subst this; simp [kc, cX, nar16 c_a, nar16 c_b, nar16 c_c]
      exact J512 1 a8 s9 b9 cd9 M9 g9 a10 b10 a11 (by decide) hE9 _ _ _ S Zn S_COMPACT_STRINGS S_assertionsDisabled S_HI_BYTE_SHIFT S_LO_BYTE_SHIFT S_SIOOBE_FORMATTER X_s9 F_coder_s9 F_value_s9 A_b9 A_a11
    · show Gl p e below s Z consts_1 _ n0 _ T258 (mkF m 473 #[.val (.int p1), .val (.int p2), .val (.int p3), .val (.int p4), .val (.int (2 : Int32)), .val (.int ca), .val (.int cb), .val (.int cc), .val (.ref a8), .val (.ref s9), .val (.ref a10), .val (.ref a11), .unset, .unset] [])
      refine g_iload C S at_473 (pc' := 475) rfl rfl ?_
      refine g_iconst C S (1 : Int32) at_475 (pc' := 476) rfl rfl ?_
      refine g_icmp_lt C S at_476 (pc' := 486) (pf := 479) (by decide) (by decide) rfl (fun hc476 => absurd hc476 (by decide)) (fun hc476 => ?_)
      refine g_aload C S at_479 (pc' := 481) rfl rfl rfl ?_
      refine g_bipush C S (26 : Int32) at_481 (pc' := 483) rfl rfl ?_
      refine g_iload C S at_483 (pc' := 485) rfl rfl ?_
      refine g_castore C S (i := 26) at_485 A_a11 (by decide) (by decide) g11 (pc' := 486) rfl (fun T260 h260 S W260 B260 => ?_)
      have Zn := Nat.le_trans Zn (Nat.le_of_eq W260.size.symm)
      have S_COMPACT_STRINGS := S_COMPACT_STRINGS.wr W260
      have S_assertionsDisabled := S_assertionsDisabled.wr W260
      have S_HI_BYTE_SHIFT := S_HI_BYTE_SHIFT.wr W260
      have S_LO_BYTE_SHIFT := S_LO_BYTE_SHIFT.wr W260
      have S_SIOOBE_FORMATTER := S_SIOOBE_FORMATTER.wr W260
      have X_s9 := X_s9.wr W260
      have F_coder_s9 := F_coder_s9.other W260 (Or.inl (Ne.symm n11a))
      have F_value_s9 := F_value_s9.other W260 (Or.inl (Ne.symm n11a))
      have A_b9 := A_b9.other W260 (Ne.symm n11b)
      have X_a10 := X_a10.wr W260
      have F_coder_a10 := F_coder_a10.other W260 (Or.inl (Ne.symm n11c))
      have F_value_a10 := F_value_a10.other W260 (Or.inl (Ne.symm n11c))
      have A_b10 := A_b10.other W260 (Ne.symm n11d)
      have A_a11 := B260
      refine g_iload C S at_486 (pc' := 488) rfl rfl ?_
      refine g_iconst C S (2 : Int32) at_488 (pc' := 489) rfl rfl ?_
      refine g_icmp_lt C S at_489 (pc' := 499) (pf := 492) (by decide) (by decide) rfl (fun hc489 => absurd hc489 (by decide)) (fun hc489 => ?_)
      refine g_aload C S at_492 (pc' := 494) rfl rfl rfl ?_
      refine g_bipush C S (27 : Int32) at_494 (pc' := 496) rfl rfl ?_
      refine g_iload C S at_496 (pc' := 498) rfl rfl ?_
      refine g_castore C S (i := 27) at_498 A_a11 (by decide) (by decide) g11 (pc' := 499) rfl (fun T261 h261 S W261 B261 => ?_)
      have Zn := Nat.le_trans Zn (Nat.le_of_eq W261.size.symm)
      have S_COMPACT_STRINGS := S_COMPACT_STRINGS.wr W261
      have S_assertionsDisabled := S_assertionsDisabled.wr W261
      have S_HI_BYTE_SHIFT := S_HI_BYTE_SHIFT.wr W261
      have S_LO_BYTE_SHIFT := S_LO_BYTE_SHIFT.wr W261
      have S_SIOOBE_FORMATTER := S_SIOOBE_FORMATTER.wr W261
      have X_s9 := X_s9.wr W261
      have F_coder_s9 := F_coder_s9.other W261 (Or.inl (Ne.symm n11a))
      have F_value_s9 := F_value_s9.other W261 (Or.inl (Ne.symm n11a))
      have A_b9 := A_b9.other W261 (Ne.symm n11b)
      have X_a10 := X_a10.wr W261
      have F_coder_a10 := F_coder_a10.other W261 (Or.inl (Ne.symm n11c))
      have F_value_a10 := F_value_a10.other W261 (Or.inl (Ne.symm n11c))
      have A_b10 := A_b10.other W261 (Ne.symm n11d)
      have A_a11 := B261
      refine g_iload C S at_499 (pc' := 501) rfl rfl ?_
      refine g_iconst C S (3 : Int32) at_501 (pc' := 502) rfl rfl ?_
      refine g_icmp_lt C S at_502 (pc' := 512) (pf := 505) (by decide) (by decide) rfl (fun hc502 => ?_) (fun hc502 => absurd (by decide) hc502)
      have A_a11 : Ary Z h261 a11 .char (26 + 2) (fun q => .int (kc (cX ca cb cc) q)) := A_a11.cg fun q hq => by
        by_cases u : q < 26
        · simp [kc, u, show ¬ q = 26 by omega, show ¬ q = 27 by omega, show ¬ q = 28 by omega]
        · have : q = 26 ∨ q = 27 := by omega
          rcases this with rfl | rfl <;> simp [kc, cX, nar16 c_a, nar16 c_b, nar16 c_c]
      exact J512 2 a8 s9 b9 cd9 M9 g9 a10 b10 a11 (by decide) hE9 _ _ _ S Zn S_COMPACT_STRINGS S_assertionsDisabled S_HI_BYTE_SHIFT S_LO_BYTE_SHIFT S_SIOOBE_FORMATTER X_s9 F_coder_s9 F_value_s9 A_b9 A_a11
    · show Gl p e below s Z consts_1 _ n0 _ T258 (mkF m 473 #[.val (.int p1), .val (.int p2), .val (.int p3), .val (.int p4), .val (.int (3 : Int32)), .val (.int ca), .val (.int cb), .val (.int cc), .val (.ref a8), .val (.ref s9), .val (.ref a10), .val (.ref a11), .unset, .unset] [])
      refine g_iload C S at_473 (pc' := 475) rfl rfl ?_
      refine g_iconst C S (1 : Int32) at_475 (pc' := 476) rfl rfl ?_
      refine g_icmp_lt C S at_476 (pc' := 486) (pf := 479) (by decide) (by decide) rfl (fun hc476 => absurd hc476 (by decide)) (fun hc476 => ?_)
      refine g_aload C S at_479 (pc' := 481) rfl rfl rfl ?_
      refine g_bipush C S (26 : Int32) at_481 (pc' := 483) rfl rfl ?_
      refine g_iload C S at_483 (pc' := 485) rfl rfl ?_
      refine g_castore C S (i := 26) at_485 A_a11 (by decide) (by decide) g11 (pc' := 486) rfl (fun T262 h262 S W262 B262 => ?_)
      have Zn := Nat.le_trans Zn (Nat.le_of_eq W262.size.symm)
      have S_COMPACT_STRINGS := S_COMPACT_STRINGS.wr W262
      have S_assertionsDisabled := S_assertionsDisabled.wr W262
      have S_HI_BYTE_SHIFT := S_HI_BYTE_SHIFT.wr W262
      have S_LO_BYTE_SHIFT := S_LO_BYTE_SHIFT.wr W262
      have S_SIOOBE_FORMATTER := S_SIOOBE_FORMATTER.wr W262
      have X_s9 := X_s9.wr W262
      have F_coder_s9 := F_coder_s9.other W262 (Or.inl (Ne.symm n11a))
      have F_value_s9 := F_value_s9.other W262 (Or.inl (Ne.symm n11a))
      have A_b9 := A_b9.other W262 (Ne.symm n11b)
      have X_a10 := X_a10.wr W262
      have F_coder_a10 := F_coder_a10.other W262 (Or.inl (Ne.symm n11c))
      have F_value_a10 := F_value_a10.other W262 (Or.inl (Ne.symm n11c))
      have A_b10 := A_b10.other W262 (Ne.symm n11d)
      have A_a11 := B262
      refine g_iload C S at_486 (pc' := 488) rfl rfl ?_
      refine g_iconst C S (2 : Int32) at_488 (pc' := 489) rfl rfl ?_
      refine g_icmp_lt C S at_489 (pc' := 499) (pf := 492) (by decide) (by decide) rfl (fun hc489 => absurd hc489 (by decide)) (fun hc489 => ?_)
      refine g_aload C S at_492 (pc' := 494) rfl rfl rfl ?_
      refine g_bipush C S (27 : Int32) at_494 (pc' := 496) rfl rfl ?_
      refine g_iload C S at_496 (pc' := 498) rfl rfl ?_
      refine g_castore C S (i := 27) at_498 A_a11 (by decide) (by decide) g11 (pc' := 499) rfl (fun T263 h263 S W263 B263 => ?_)
      have Zn := Nat.le_trans Zn (Nat.le_of_eq W263.size.symm)
      have S_COMPACT_STRINGS := S_COMPACT_STRINGS.wr W263
      have S_assertionsDisabled := S_assertionsDisabled.wr W263
      have S_HI_BYTE_SHIFT := S_HI_BYTE_SHIFT.wr W263
      have S_LO_BYTE_SHIFT := S_LO_BYTE_SHIFT.wr W263
      have S_SIOOBE_FORMATTER := S_SIOOBE_FORMATTER.wr W263
      have X_s9 := X_s9.wr W263
      have F_coder_s9 := F_coder_s9.other W263 (Or.inl (Ne.symm n11a))
      have F_value_s9 := F_value_s9.other W263 (Or.inl (Ne.symm n11a))
      have A_b9 := A_b9.other W263 (Ne.symm n11b)
      have X_a10 := X_a10.wr W263
      have F_coder_a10 := F_coder_a10.other W263 (Or.inl (Ne.symm n11c))
      have F_value_a10 := F_value_a10.other W263 (Or.inl (Ne.symm n11c))
      have A_b10 := A_b10.other W263 (Ne.symm n11d)
      have A_a11 := B263
      refine g_iload C S at_499 (pc' := 501) rfl rfl ?_
      refine g_iconst C S (3 : Int32) at_501 (pc' := 502) rfl rfl ?_
      refine g_icmp_lt C S at_502 (pc' := 512) (pf := 505) (by decide) (by decide) rfl (fun hc502 => absurd hc502 (by decide)) (fun hc502 => ?_)
      refine g_aload C S at_505 (pc' := 507) rfl rfl rfl ?_
      refine g_bipush C S (28 : Int32) at_507 (pc' := 509) rfl rfl ?_
      refine g_iload C S at_509 (pc' := 511) rfl rfl ?_
      refine g_castore C S (i := 28) at_511 A_a11 (by decide) (by decide) g11 (pc' := 512) rfl (fun T264 h264 S W264 B264 => ?_)
      have Zn := Nat.le_trans Zn (Nat.le_of_eq W264.size.symm)
      have S_COMPACT_STRINGS := S_COMPACT_STRINGS.wr W264
      have S_assertionsDisabled := S_assertionsDisabled.wr W264
      have S_HI_BYTE_SHIFT := S_HI_BYTE_SHIFT.wr W264
      have S_LO_BYTE_SHIFT := S_LO_BYTE_SHIFT.wr W264
      have S_SIOOBE_FORMATTER := S_SIOOBE_FORMATTER.wr W264
      have X_s9 := X_s9.wr W264
      have F_coder_s9 := F_coder_s9.other W264 (Or.inl (Ne.symm n11a))
      have F_value_s9 := F_value_s9.other W264 (Or.inl (Ne.symm n11a))
      have A_b9 := A_b9.other W264 (Ne.symm n11b)
      have X_a10 := X_a10.wr W264
      have F_coder_a10 := F_coder_a10.other W264 (Or.inl (Ne.symm n11c))
      have F_value_a10 := F_value_a10.other W264 (Or.inl (Ne.symm n11c))
      have A_b10 := A_b10.other W264 (Ne.symm n11d)
      have A_a11 := B264
      have A_a11 : Ary Z h264 a11 .char (26 + 3) (fun q => .int (kc (cX ca cb cc) q)) := A_a11.cg fun q hq => by
        by_cases u : q < 26
        · simp [kc, u, show ¬ q = 26 by omega, show ¬ q = 27 by omega, show ¬ q = 28 by omega]
        · have : q = 26 ∨ q = 27 ∨ q = 28 := by omega
          rcases this with rfl | rfl | rfl <;> simp [kc, cX, nar16 c_a, nar16 c_b, nar16 c_c]
      exact J512 3 a8 s9 b9 cd9 M9 g9 a10 b10 a11 (by decide) hE9 _ _ _ S Zn S_COMPACT_STRINGS S_assertionsDisabled S_HI_BYTE_SHIFT S_LO_BYTE_SHIFT S_SIOOBE_FORMATTER X_s9 F_coder_s9 F_value_s9 A_b9 A_a11
  rcases and3 p1 with e3 | e3 | e3 | e3
  · rw [e3]
    refine g_iload C S at_26 (pc' := 28) rfl rfl ?_
    refine g_if_ne C S at_28 (pc' := 37) (pf := 31) (by decide) (by decide) rfl (fun hc28 => absurd rfl hc28) (fun hc28 => ?_)
    refine g_iconst C S (0 : Int32) at_31 (pc' := 32) rfl rfl ?_
    refine g_newarray C S (N := 0) (cap := 0) at_32 (hw _ (List.mem_of_getElem? (i := 1) rfl)) (by decide) (by decide) (by decide) (by decide) (by decide) (pc' := 34) rfl (fun T265 h265 a265 S g265 E265 A_a265 => ?_)
    have ge_a265 : n0 ≤ a265 := ge_of g265 Zn
    have pm_a265 := On.hd S
    have S_COMPACT_STRINGS := S_COMPACT_STRINGS.ext E265
    have S_assertionsDisabled := S_assertionsDisabled.ext E265
    have S_HI_BYTE_SHIFT := S_HI_BYTE_SHIFT.ext E265
    have S_LO_BYTE_SHIFT := S_LO_BYTE_SHIFT.ext E265
    have S_SIOOBE_FORMATTER := S_SIOOBE_FORMATTER.ext E265
    have Zn := Nat.le_trans Zn E265.1
    have A_a265 : Ary Z h265 a265 .char 0 (fun _ => (.int (0 : Int32))) := A_a265
    refine g_goto C S at_34 (pc' := 64) (by decide) (by decide) ?_
    refine g_astore C S at_64 (pc' := 66) rfl rfl (L' := #[.val (.int p1), .val (.int p2), .val (.int p3), .val (.int p4), .val (.int (0 : Int32)), .val (.int ca), .val (.int cb), .val (.int cc), .val (.ref a265), .unset, .unset, .unset, .unset, .unset]) rfl ?_
    refine g_iload C S at_66 (pc' := 68) rfl rfl ?_
    refine g_iconst C S (1 : Int32) at_68 (pc' := 69) rfl rfl ?_
    refine g_icmp_lt C S at_69 (pc' := 78) (pf := 72) (by decide) (by decide) rfl (fun hc69 => ?_) (fun hc69 => absurd (by decide) hc69)
    refine g_iload C S at_78 (pc' := 80) rfl rfl ?_
    refine g_iconst C S (2 : Int32) at_80 (pc' := 81) rfl rfl ?_
    refine g_icmp_lt C S at_81 (pc' := 90) (pf := 84) (by decide) (by decide) rfl (fun hc81 => ?_) (fun hc81 => absurd (by decide) hc81)
    refine g_iload C S at_90 (pc' := 92) rfl rfl ?_
    refine g_iconst C S (3 : Int32) at_92 (pc' := 93) rfl rfl ?_
    refine g_icmp_lt C S at_93 (pc' := 102) (pf := 96) (by decide) (by decide) rfl (fun hc93 => ?_) (fun hc93 => absurd (by decide) hc93)
    have A_a265 : Ary Z h265 a265 .char 0 (fun q => .int ((cX ca cb cc) q)) := A_a265.cg fun q hq => by
      match q, hq with
      | q + 0, hq => omega
    refine g_new C S at_102 (hw _ (List.mem_of_getElem? (i := 2) rfl)) (hw _ (List.mem_of_getElem? (i := 3) rfl)) (hw _ (List.mem_of_getElem? (i := 4) rfl)) (by decide) (by decide) (pc' := 105) rfl (fun T266 h266 a266 S g266 E266 X266 D266 => ?_)
    have ne_a265_a266 : a265 ≠ a266 := ne_new g266 A_a265.lt
    have ge_a266 : n0 ≤ a266 := ge_of g266 Zn
    have pm_a265 := List.mem_cons_of_mem a266 pm_a265
    have pm_a266 := On.hd S
    have S_COMPACT_STRINGS := S_COMPACT_STRINGS.ext E266
    have S_assertionsDisabled := S_assertionsDisabled.ext E266
    have S_HI_BYTE_SHIFT := S_HI_BYTE_SHIFT.ext E266
    have S_LO_BYTE_SHIFT := S_LO_BYTE_SHIFT.ext E266
    have S_SIOOBE_FORMATTER := S_SIOOBE_FORMATTER.ext E266
    have Zn := Nat.le_trans Zn E266.1
    have A_a265 := A_a265.ext E266
    have F_value_a266 : Fld Z h266 a266 "java/lang/String" "value" "[B" .null := D266 (Or.inr (hw _ (List.mem_of_getElem? (i := 17) rfl))) (ty := (.array .byte)) (by decide)
    have F_coder_a266 : Fld Z h266 a266 "java/lang/String" "coder" "B" (.int (0 : Int32)) := D266 (Or.inr (hw _ (List.mem_of_getElem? (i := 18) rfl))) (ty := .byte) (by decide)
    refine g_dup C S at_105 (pc' := 106) rfl rfl ?_
    refine g_aload C S at_106 (pc' := 108) rfl rfl rfl ?_
    refine g_callI C S (rm := ({ frames := 5, cells := 4, slots := 112, locals := 75 } : Room)) (W := 1) at_108 rfl (hw _ (List.mem_of_getElem? (i := 5) rfl)) (hw _ (List.mem_of_getElem? (i := 6) rfl)) (hw _ (List.mem_of_getElem? (i := 4) rfl)) (hw _ (List.mem_of_getElem? (i := 7) rfl)) (by decide) (c_ini l Z a0 hw a266 a265 h266 n0 _ _ 0 (cX ca cb cc) (by decide) (cX_16 c_a c_b c_c 0) ge_a266 (Ne.symm ne_a265_a266) Zn cs hcs S_COMPACT_STRINGS S_assertionsDisabled S_HI_BYTE_SHIFT S_LO_BYTE_SHIFT X266 F_value_a266 F_coder_a266 A_a265) (argsL := [(.ref a265)]) (r := [(.ref a266)]) rfl (allS pm_a266 all0) (lenOf pd_34 rfl) rfl (Nat.le_of_eq rfl) (by decide) (by decide) (by decide) (by decide) (pc' := 111) rfl (fun T267 h267 v267 P267 q267 S => ?_)
    have pm_a265 := List.mem_append_right P267 pm_a265
    have pm_a266 := List.mem_append_right P267 pm_a266
    have X0 := X266
    obtain ⟨rfl, K267, b9, cd9, M9, g9, ⟨X_a266, F_coder_a266, F_value_a266, A_b9⟩, hE9⟩ := q267
    have S_COMPACT_STRINGS := Sta.keep1 S_COMPACT_STRINGS K267 (X0.nostat)
    have S_assertionsDisabled := Sta.keep1 S_assertionsDisabled K267 (X0.nostat)
    have S_HI_BYTE_SHIFT := Sta.keep1 S_HI_BYTE_SHIFT K267 (X0.nostat)
    have S_LO_BYTE_SHIFT := Sta.keep1 S_LO_BYTE_SHIFT K267 (X0.nostat)
    have S_SIOOBE_FORMATTER := Sta.keep1 S_SIOOBE_FORMATTER K267 (X0.nostat)
    have Zn := Nat.le_trans Zn K267.1
    have A_a265 := A_a265.keep K267 (ninS ne_a265_a266 nin0)
    show Gl p e below s Z consts_1 _ n0 _ T267 (mkF m 111 #[.val (.int p1), .val (.int p2), .val (.int p3), .val (.int p4), .val (.int (0 : Int32)), .val (.int ca), .val (.int cb), .val (.int cc), .val (.ref a265), .unset, .unset, .unset, .unset, .unset] [(.ref a266)])
    refine g_astore C S at_111 (pc' := 113) rfl rfl (L' := #[.val (.int p1), .val (.int p2), .val (.int p3), .val (.int p4), .val (.int (0 : Int32)), .val (.int ca), .val (.int cb), .val (.int cc), .val (.ref a265), .val (.ref a266), .unset, .unset, .unset, .unset]) rfl ?_
    refine g_ldcS C S (vs := [.int 75, .int 105, .int 110, .int 100, .int 108, .int 105, .int 110, .int 103, .int 32, .int 99, .int 111, .int 117, .int 108, .int 100, .int 32, .int 110, .int 111, .int 116, .int 32, .int 115, .int 116, .int 97, .int 114, .int 116, .int 58, .int 32]) (zz := 26) (N := 26) (nn := 104) at_113 (hw _ (List.mem_of_getElem? (i := 23) rfl)) (List.mem_of_getElem? (i := 2) rfl) ⟨(by decide), rfl⟩ (by decide) (by decide) rfl (by decide) (by decide) (by decide) (by decide) (pc' := 115) rfl (fun T268 h268 a268 b268 S E268 X_a268 F_coder_a268 F_value_a268 A_b268 ns268 => ?_)
    have S_COMPACT_STRINGS := S_COMPACT_STRINGS.ext E268
    have S_assertionsDisabled := S_assertionsDisabled.ext E268
    have S_HI_BYTE_SHIFT := S_HI_BYTE_SHIFT.ext E268
    have S_LO_BYTE_SHIFT := S_LO_BYTE_SHIFT.ext E268
    have S_SIOOBE_FORMATTER := S_SIOOBE_FORMATTER.ext E268
    have Zn := Nat.le_trans Zn E268.1
    have A_a265 := A_a265.ext E268
    have X_a266 := X_a266.ext E268
    have F_coder_a266 := F_coder_a266.ext E268
    have F_value_a266 := F_value_a266.ext E268
    have A_b9 := A_b9.ext E268
    have ne_a265_a268 := (ns268 _ pm_a265).1
    have ne_a265_b268 := (ns268 _ pm_a265).2
    have ne_a266_a268 := (ns268 _ pm_a266).1
    have ne_a266_b268 := (ns268 _ pm_a266).2
    have A_b268 := A_b268.cg pw_ldc
    refine g_astore C S at_115 (pc' := 117) rfl rfl (L' := #[.val (.int p1), .val (.int p2), .val (.int p3), .val (.int p4), .val (.int (0 : Int32)), .val (.int ca), .val (.int cb), .val (.int cc), .val (.ref a265), .val (.ref a266), .val (.ref a268), .unset, .unset, .unset]) rfl ?_
    refine g_aload C S at_117 (pc' := 119) rfl rfl rfl ?_
    refine g_callV C S (rm := ({ frames := 1, cells := 0, slots := 0, locals := 13 } : Room)) (W := 0) at_119 (hw _ (List.mem_of_getElem? (i := 24) rfl)) (hw _ (List.mem_of_getElem? (i := 25) rfl)) (fun _ hZ => notFace_of_selects (args := #[]) (mvT hZ (hw _ (List.mem_of_getElem? (i := 27) rfl)))) (hw _ (List.mem_of_getElem? (i := 27) rfl)) (hw _ (List.mem_of_getElem? (i := 26) rfl)) (hw _ (List.mem_of_getElem? (i := 4) rfl)) (hw _ (List.mem_of_getElem? (i := 28) rfl)) (by decide) rfl X_a268 (c_len l Z a0 hw a268 h268 n0 b268 0 26 26 _ (Or.inl ⟨rfl, rfl⟩) (by decide) cs hcs S_COMPACT_STRINGS X_a268 F_coder_a268 F_value_a268 A_b268) (argsL := []) (r := []) rfl all0 (lenOf pd_22 rfl) rfl (Nat.le_of_eq rfl) (by decide) (by decide) (by decide) (by decide) (pc' := 122) rfl (fun T269 h269 v269 P269 q269 S => ?_)
    have pm_a265 := List.mem_append_right P269 pm_a265
    have pm_a266 := List.mem_append_right P269 pm_a266
    obtain ⟨rfl, e269⟩ := q269; rw [e269] at S
    show Gl p e below s Z consts_1 _ n0 _ T269 (mkF m 122 #[.val (.int p1), .val (.int p2), .val (.int p3), .val (.int p4), .val (.int (0 : Int32)), .val (.int ca), .val (.int cb), .val (.int cc), .val (.ref a265), .val (.ref a266), .val (.ref a268), .unset, .unset, .unset] [(.int (26 : Int32))])
    refine g_bipush C S (26 : Int32) at_122 (pc' := 124) rfl rfl ?_
    refine g_icmp_eq C S at_124 (pc' := 129) (pf := 127) (by decide) (by decide) rfl (fun hc124 => ?_) (fun hc124 => absurd rfl hc124)
    refine g_iload C S at_129 (pc' := 131) rfl rfl ?_
    refine g_if_ne C S at_131 (pc' := 141) (pf := 134) (by decide) (by decide) rfl (fun hc131 => absurd rfl hc131) (fun hc131 => ?_)
    refine g_bipush C S (26 : Int32) at_134 (pc' := 136) rfl rfl ?_
    refine g_newarray C S (N := 26) (cap := 26) at_136 (hw _ (List.mem_of_getElem? (i := 1) rfl)) (by decide) (by decide) (by decide) (by decide) (by decide) (pc' := 138) rfl (fun T270 h270 a270 S g270 E270 A_a270 => ?_)
    have ne_a265_a270 : a265 ≠ a270 := ne_new g270 A_a265.lt
    have ne_a266_a270 : a266 ≠ a270 := ne_new g270 X_a266.lt
    have ne_b9_a270 : b9 ≠ a270 := ne_new g270 A_b9.lt
    have ne_a268_a270 : a268 ≠ a270 := ne_new g270 X_a268.lt
    have ne_b268_a270 : b268 ≠ a270 := ne_new g270 A_b268.lt
    have ge_a270 : n0 ≤ a270 := ge_of g270 Zn
    have pm_a265 := List.mem_cons_of_mem a270 pm_a265
    have pm_a266 := List.mem_cons_of_mem a270 pm_a266
    have pm_a270 := On.hd S
    have S_COMPACT_STRINGS := S_COMPACT_STRINGS.ext E270
    have S_assertionsDisabled := S_assertionsDisabled.ext E270
    have S_HI_BYTE_SHIFT := S_HI_BYTE_SHIFT.ext E270
    have S_LO_BYTE_SHIFT := S_LO_BYTE_SHIFT.ext E270
    have S_SIOOBE_FORMATTER := S_SIOOBE_FORMATTER.ext E270
    have Zn := Nat.le_trans Zn E270.1
    have A_a265 := A_a265.ext E270
    have X_a266 := X_a266.ext E270
    have F_coder_a266 := F_coder_a266.ext E270
    have F_value_a266 := F_value_a266.ext E270
    have A_b9 := A_b9.ext E270
    have X_a268 := X_a268.ext E270
    have F_coder_a268 := F_coder_a268.ext E270
    have F_value_a268 := F_value_a268.ext E270
    have A_b268 := A_b268.ext E270
    have A_a270 : Ary Z h270 a270 .char 26 (fun _ => (.int (0 : Int32))) := A_a270
    refine g_goto C S at_138 (pc' := 171) (by decide) (by decide) ?_
    refine g_astore C S at_171 (pc' := 173) rfl rfl (L' := #[.val (.int p1), .val (.int p2), .val (.int p3), .val (.int p4), .val (.int (0 : Int32)), .val (.int ca), .val (.int cb), .val (.int cc), .val (.ref a265), .val (.ref a266), .val (.ref a268), .val (.ref a270), .unset, .unset]) rfl ?_
    exact J173 0 a265 a266 b9 cd9 M9 g9 a268 b268 a270 (by decide) hE9 ge_a270 (Ne.symm ne_a266_a270) (Ne.symm ne_b9_a270) (Ne.symm ne_a268_a270) (Ne.symm ne_b268_a270) _ _ _ (S.mono (by decide) (by decide)) Zn S_COMPACT_STRINGS S_assertionsDisabled S_HI_BYTE_SHIFT S_LO_BYTE_SHIFT S_SIOOBE_FORMATTER X_a266 F_coder_a266 F_value_a266 A_b9 X_a268 F_coder_a268 F_value_a268 A_b268 A_a270
  · rw [e3]
    refine g_iload C S at_26 (pc' := 28) rfl rfl ?_
    refine g_if_ne C S at_28 (pc' := 37) (pf := 31) (by decide) (by decide) rfl (fun hc28 => ?_) (fun hc28 => absurd hc28 (by decide))
    refine g_iload C S at_37 (pc' := 39) rfl rfl ?_
    refine g_iconst C S (1 : Int32) at_39 (pc' := 40) rfl rfl ?_
    refine g_icmp_ne C S at_40 (pc' := 49) (pf := 43) (by decide) (by decide) rfl (fun hc40 => absurd rfl hc40) (fun hc40 => ?_)
    refine g_iconst C S (1 : Int32) at_43 (pc' := 44) rfl rfl ?_
    refine g_newarray C S (N := 1) (cap := 1) at_44 (hw _ (List.mem_of_getElem? (i := 1) rfl)) (by decide) (by decide) (by decide) (by decide) (by decide) (pc' := 46) rfl (fun T271 h271 a271 S g271 E271 A_a271 => ?_)
    have ge_a271 : n0 ≤ a271 := ge_of g271 Zn
    have pm_a271 := On.hd S
    have S_COMPACT_STRINGS := S_COMPACT_STRINGS.ext E271
    have S_assertionsDisabled := S_assertionsDisabled.ext E271
    have S_HI_BYTE_SHIFT := S_HI_BYTE_SHIFT.ext E271
    have S_LO_BYTE_SHIFT := S_LO_BYTE_SHIFT.ext E271
    have S_SIOOBE_FORMATTER := S_SIOOBE_FORMATTER.ext E271
    have Zn := Nat.le_trans Zn E271.1
    have A_a271 : Ary Z h271 a271 .char 1 (fun _ => (.int (0 : Int32))) := A_a271
    refine g_goto C S at_46 (pc' := 64) (by decide) (by decide) ?_
    refine g_astore C S at_64 (pc' := 66) rfl rfl (L' := #[.val (.int p1), .val (.int p2), .val (.int p3), .val (.int p4), .val (.int (1 : Int32)), .val (.int ca), .val (.int cb), .val (.int cc), .val (.ref a271), .unset, .unset, .unset, .unset, .unset]) rfl ?_
    refine g_iload C S at_66 (pc' := 68) rfl rfl ?_
    refine g_iconst C S (1 : Int32) at_68 (pc' := 69) rfl rfl ?_
    refine g_icmp_lt C S at_69 (pc' := 78) (pf := 72) (by decide) (by decide) rfl (fun hc69 => absurd hc69 (by decide)) (fun hc69 => ?_)
    refine g_aload C S at_72 (pc' := 74) rfl rfl rfl ?_
    refine g_iconst C S (0 : Int32) at_74 (pc' := 75) rfl rfl ?_
    refine g_iload C S at_75 (pc' := 77) rfl rfl ?_
    refine g_castore C S (i := 0) at_77 A_a271 (by decide) (by decide) ge_a271 (pc' := 78) rfl (fun T272 h272 S W272 B272 => ?_)
    have S_COMPACT_STRINGS := S_COMPACT_STRINGS.wr W272
    have S_assertionsDisabled := S_assertionsDisabled.wr W272
    have S_HI_BYTE_SHIFT := S_HI_BYTE_SHIFT.wr W272
    have S_LO_BYTE_SHIFT := S_LO_BYTE_SHIFT.wr W272
    have S_SIOOBE_FORMATTER := S_SIOOBE_FORMATTER.wr W272
    have Zn := Nat.le_trans Zn (Nat.le_of_eq W272.size.symm)
    have A_a271 := B272
    refine g_iload C S at_78 (pc' := 80) rfl rfl ?_
    refine g_iconst C S (2 : Int32) at_80 (pc' := 81) rfl rfl ?_
    refine g_icmp_lt C S at_81 (pc' := 90) (pf := 84) (by decide) (by decide) rfl (fun hc81 => ?_) (fun hc81 => absurd (by decide) hc81)
    refine g_iload C S at_90 (pc' := 92) rfl rfl ?_
    refine g_iconst C S (3 : Int32) at_92 (pc' := 93) rfl rfl ?_
    refine g_icmp_lt C S at_93 (pc' := 102) (pf := 96) (by decide) (by decide) rfl (fun hc93 => ?_) (fun hc93 => absurd (by decide) hc93)
    have A_a271 : Ary Z h272 a271 .char 1 (fun q => .int ((cX ca cb cc) q)) := A_a271.cg fun q hq => by
      match q, hq with
      | 0, _ => simp [cX, nar16 c_a, nar16 c_b, nar16 c_c]
      | q + 1, hq => omega
    refine g_new C S at_102 (hw _ (List.mem_of_getElem? (i := 2) rfl)) (hw _ (List.mem_of_getElem? (i := 3) rfl)) (hw _ (List.mem_of_getElem? (i := 4) rfl)) (by decide) (by decide) (pc' := 105) rfl (fun T273 h273 a273 S g273 E273 X273 D273 => ?_)
    have ne_a271_a273 : a271 ≠ a273 := ne_new g273 A_a271.lt
    have ge_a273 : n0 ≤ a273 := ge_of g273 Zn
    have pm_a271 := List.mem_cons_of_mem a273 pm_a271
    have pm_a273 := On.hd S
    have S_COMPACT_STRINGS := S_COMPACT_STRINGS.ext E273
    have S_assertionsDisabled := S_assertionsDisabled.ext E273
    have S_HI_BYTE_SHIFT := S_HI_BYTE_SHIFT.ext E273
    have S_LO_BYTE_SHIFT := S_LO_BYTE_SHIFT.ext E273
    have S_SIOOBE_FORMATTER := S_SIOOBE_FORMATTER.ext E273
    have Zn := Nat.le_trans Zn E273.1
    have A_a271 := A_a271.ext E273
    have F_value_a273 : Fld Z h273 a273 "java/lang/String" "value" "[B" .null := D273 (Or.inr (hw _ (List.mem_of_getElem? (i := 17) rfl))) (ty := (.array .byte)) (by decide)
    have F_coder_a273 : Fld Z h273 a273 "java/lang/String" "coder" "B" (.int (0 : Int32)) := D273 (Or.inr (hw _ (List.mem_of_getElem? (i := 18) rfl))) (ty := .byte) (by decide)
    refine g_dup C S at_105 (pc' := 106) rfl rfl ?_
    refine g_aload C S at_106 (pc' := 108) rfl rfl rfl ?_
    refine g_callI C S (rm := ({ frames := 5, cells := 4, slots := 112, locals := 75 } : Room)) (W := 1) at_108 rfl (hw _ (List.mem_of_getElem? (i := 5) rfl)) (hw _ (List.mem_of_getElem? (i := 6) rfl)) (hw _ (List.mem_of_getElem? (i := 4) rfl)) (hw _ (List.mem_of_getElem? (i := 7) rfl)) (by decide) (c_ini l Z a0 hw a273 a271 h273 n0 _ _ 1 (cX ca cb cc) (by decide) (cX_16 c_a c_b c_c 1) ge_a273 (Ne.symm ne_a271_a273) Zn cs hcs S_COMPACT_STRINGS S_assertionsDisabled S_HI_BYTE_SHIFT S_LO_BYTE_SHIFT X273 F_value_a273 F_coder_a273 A_a271) (argsL := [(.ref a271)]) (r := [(.ref a273)]) rfl (allS pm_a273 all0) (lenOf pd_34 rfl) rfl (Nat.le_of_eq rfl) (by decide) (by decide) (by decide) (by decide) (pc' := 111) rfl (fun T274 h274 v274 P274 q274 S => ?_)
    have pm_a271 := List.mem_append_right P274 pm_a271
    have pm_a273 := List.mem_append_right P274 pm_a273
    have X0 := X273
    obtain ⟨rfl, K274, b9, cd9, M9, g9, ⟨X_a273, F_coder_a273, F_value_a273, A_b9⟩, hE9⟩ := q274
    have S_COMPACT_STRINGS := Sta.keep1 S_COMPACT_STRINGS K274 (X0.nostat)
    have S_assertionsDisabled := Sta.keep1 S_assertionsDisabled K274 (X0.nostat)
    have S_HI_BYTE_SHIFT := Sta.keep1 S_HI_BYTE_SHIFT K274 (X0.nostat)
    have S_LO_BYTE_SHIFT := Sta.keep1 S_LO_BYTE_SHIFT K274 (X0.nostat)
    have S_SIOOBE_FORMATTER := Sta.keep1 S_SIOOBE_FORMATTER K274 (X0.nostat)
    have Zn := Nat.le_trans Zn K274.1
    have A_a271 := A_a271.keep K274 (ninS ne_a271_a273 nin0)
    show Gl p e below s Z consts_1 _ n0 _ T274 (mkF m 111 #[.val (.int p1), .val (.int p2), .val (.int p3), .val (.int p4), .val (.int (1 : Int32)), .val (.int ca), .val (.int cb), .val (.int cc), .val (.ref a271), .unset, .unset, .unset, .unset, .unset] [(.ref a273)])
    refine g_astore C S at_111 (pc' := 113) rfl rfl (L' := #[.val (.int p1), .val (.int p2), .val (.int p3), .val (.int p4), .val (.int (1 : Int32)), .val (.int ca), .val (.int cb), .val (.int cc), .val (.ref a271), .val (.ref a273), .unset, .unset, .unset, .unset]) rfl ?_
    refine g_ldcS C S (vs := [.int 75, .int 105, .int 110, .int 100, .int 108, .int 105, .int 110, .int 103, .int 32, .int 99, .int 111, .int 117, .int 108, .int 100, .int 32, .int 110, .int 111, .int 116, .int 32, .int 115, .int 116, .int 97, .int 114, .int 116, .int 58, .int 32]) (zz := 26) (N := 26) (nn := 104) at_113 (hw _ (List.mem_of_getElem? (i := 23) rfl)) (List.mem_of_getElem? (i := 2) rfl) ⟨(by decide), rfl⟩ (by decide) (by decide) rfl (by decide) (by decide) (by decide) (by decide) (pc' := 115) rfl (fun T275 h275 a275 b275 S E275 X_a275 F_coder_a275 F_value_a275 A_b275 ns275 => ?_)
    have S_COMPACT_STRINGS := S_COMPACT_STRINGS.ext E275
    have S_assertionsDisabled := S_assertionsDisabled.ext E275
    have S_HI_BYTE_SHIFT := S_HI_BYTE_SHIFT.ext E275
    have S_LO_BYTE_SHIFT := S_LO_BYTE_SHIFT.ext E275
    have S_SIOOBE_FORMATTER := S_SIOOBE_FORMATTER.ext E275
    have Zn := Nat.le_trans Zn E275.1
    have A_a271 := A_a271.ext E275
    have X_a273 := X_a273.ext E275
    have F_coder_a273 := F_coder_a273.ext E275
    have F_value_a273 := F_value_a273.ext E275
    have A_b9 := A_b9.ext E275
    have ne_a271_a275 := (ns275 _ pm_a271).1
    have ne_a271_b275 := (ns275 _ pm_a271).2
    have ne_a273_a275 := (ns275 _ pm_a273).1
    have ne_a273_b275 := (ns275 _ pm_a273).2
    have A_b275 := A_b275.cg pw_ldc
    refine g_astore C S at_115 (pc' := 117) rfl rfl (L' := #[.val (.int p1), .val (.int p2), .val (.int p3), .val (.int p4), .val (.int (1 : Int32)), .val (.int ca), .val (.int cb), .val (.int cc), .val (.ref a271), .val (.ref a273), .val (.ref a275), .unset, .unset, .unset]) rfl ?_
    refine g_aload C S at_117 (pc' := 119) rfl rfl rfl ?_
    refine g_callV C S (rm := ({ frames := 1, cells := 0, slots := 0, locals := 13 } : Room)) (W := 0) at_119 (hw _ (List.mem_of_getElem? (i := 24) rfl)) (hw _ (List.mem_of_getElem? (i := 25) rfl)) (fun _ hZ => notFace_of_selects (args := #[]) (mvT hZ (hw _ (List.mem_of_getElem? (i := 27) rfl)))) (hw _ (List.mem_of_getElem? (i := 27) rfl)) (hw _ (List.mem_of_getElem? (i := 26) rfl)) (hw _ (List.mem_of_getElem? (i := 4) rfl)) (hw _ (List.mem_of_getElem? (i := 28) rfl)) (by decide) rfl X_a275 (c_len l Z a0 hw a275 h275 n0 b275 0 26 26 _ (Or.inl ⟨rfl, rfl⟩) (by decide) cs hcs S_COMPACT_STRINGS X_a275 F_coder_a275 F_value_a275 A_b275) (argsL := []) (r := []) rfl all0 (lenOf pd_22 rfl) rfl (Nat.le_of_eq rfl) (by decide) (by decide) (by decide) (by decide) (pc' := 122) rfl (fun T276 h276 v276 P276 q276 S => ?_)
    have pm_a271 := List.mem_append_right P276 pm_a271
    have pm_a273 := List.mem_append_right P276 pm_a273
    obtain ⟨rfl, e276⟩ := q276; rw [e276] at S
    show Gl p e below s Z consts_1 _ n0 _ T276 (mkF m 122 #[.val (.int p1), .val (.int p2), .val (.int p3), .val (.int p4), .val (.int (1 : Int32)), .val (.int ca), .val (.int cb), .val (.int cc), .val (.ref a271), .val (.ref a273), .val (.ref a275), .unset, .unset, .unset] [(.int (26 : Int32))])
    refine g_bipush C S (26 : Int32) at_122 (pc' := 124) rfl rfl ?_
    refine g_icmp_eq C S at_124 (pc' := 129) (pf := 127) (by decide) (by decide) rfl (fun hc124 => ?_) (fun hc124 => absurd rfl hc124)
    refine g_iload C S at_129 (pc' := 131) rfl rfl ?_
    refine g_if_ne C S at_131 (pc' := 141) (pf := 134) (by decide) (by decide) rfl (fun hc131 => ?_) (fun hc131 => absurd hc131 (by decide))
    refine g_iload C S at_141 (pc' := 143) rfl rfl ?_
    refine g_iconst C S (1 : Int32) at_143 (pc' := 144) rfl rfl ?_
    refine g_icmp_ne C S at_144 (pc' := 154) (pf := 147) (by decide) (by decide) rfl (fun hc144 => absurd rfl hc144) (fun hc144 => ?_)
    refine g_bipush C S (27 : Int32) at_147 (pc' := 149) rfl rfl ?_
    refine g_newarray C S (N := 27) (cap := 27) at_149 (hw _ (List.mem_of_getElem? (i := 1) rfl)) (by decide) (by decide) (by decide) (by decide) (by decide) (pc' := 151) rfl (fun T277 h277 a277 S g277 E277 A_a277 => ?_)
    have ne_a271_a277 : a271 ≠ a277 := ne_new g277 A_a271.lt
    have ne_a273_a277 : a273 ≠ a277 := ne_new g277 X_a273.lt
    have ne_b9_a277 : b9 ≠ a277 := ne_new g277 A_b9.lt
    have ne_a275_a277 : a275 ≠ a277 := ne_new g277 X_a275.lt
    have ne_b275_a277 : b275 ≠ a277 := ne_new g277 A_b275.lt
    have ge_a277 : n0 ≤ a277 := ge_of g277 Zn
    have pm_a271 := List.mem_cons_of_mem a277 pm_a271
    have pm_a273 := List.mem_cons_of_mem a277 pm_a273
    have pm_a277 := On.hd S
    have S_COMPACT_STRINGS := S_COMPACT_STRINGS.ext E277
    have S_assertionsDisabled := S_assertionsDisabled.ext E277
    have S_HI_BYTE_SHIFT := S_HI_BYTE_SHIFT.ext E277
    have S_LO_BYTE_SHIFT := S_LO_BYTE_SHIFT.ext E277
    have S_SIOOBE_FORMATTER := S_SIOOBE_FORMATTER.ext E277
    have Zn := Nat.le_trans Zn E277.1
    have A_a271 := A_a271.ext E277
    have X_a273 := X_a273.ext E277
    have F_coder_a273 := F_coder_a273.ext E277
    have F_value_a273 := F_value_a273.ext E277
    have A_b9 := A_b9.ext E277
    have X_a275 := X_a275.ext E277
    have F_coder_a275 := F_coder_a275.ext E277
    have F_value_a275 := F_value_a275.ext E277
    have A_b275 := A_b275.ext E277
    have A_a277 : Ary Z h277 a277 .char 27 (fun _ => (.int (0 : Int32))) := A_a277
    refine g_goto C S at_151 (pc' := 171) (by decide) (by decide) ?_
    refine g_astore C S at_171 (pc' := 173) rfl rfl (L' := #[.val (.int p1), .val (.int p2), .val (.int p3), .val (.int p4), .val (.int (1 : Int32)), .val (.int ca), .val (.int cb), .val (.int cc), .val (.ref a271), .val (.ref a273), .val (.ref a275), .val (.ref a277), .unset, .unset]) rfl ?_
    exact J173 1 a271 a273 b9 cd9 M9 g9 a275 b275 a277 (by decide) hE9 ge_a277 (Ne.symm ne_a273_a277) (Ne.symm ne_b9_a277) (Ne.symm ne_a275_a277) (Ne.symm ne_b275_a277) _ _ _ (S.mono (by decide) (by decide)) Zn S_COMPACT_STRINGS S_assertionsDisabled S_HI_BYTE_SHIFT S_LO_BYTE_SHIFT S_SIOOBE_FORMATTER X_a273 F_coder_a273 F_value_a273 A_b9 X_a275 F_coder_a275 F_value_a275 A_b275 A_a277
  · rw [e3]
    refine g_iload C S at_26 (pc' := 28) rfl rfl ?_
    refine g_if_ne C S at_28 (pc' := 37) (pf := 31) (by decide) (by decide) rfl (fun hc28 => ?_) (fun hc28 => absurd hc28 (by decide))
    refine g_iload C S at_37 (pc' := 39) rfl rfl ?_
    refine g_iconst C S (1 : Int32) at_39 (pc' := 40) rfl rfl ?_
    refine g_icmp_ne C S at_40 (pc' := 49) (pf := 43) (by decide) (by decide) rfl (fun hc40 => ?_) (fun hc40 => absurd hc40 (by decide))
    refine g_iload C S at_49 (pc' := 51) rfl rfl ?_
    refine g_iconst C S (2 : Int32) at_51 (pc' := 52) rfl rfl ?_
    refine g_icmp_ne C S at_52 (pc' := 61) (pf := 55) (by decide) (by decide) rfl (fun hc52 => absurd rfl hc52) (fun hc52 => ?_)
    refine g_iconst C S (2 : Int32) at_55 (pc' := 56) rfl rfl ?_
    refine g_newarray C S (N := 2) (cap := 2) at_56 (hw _ (List.mem_of_getElem? (i := 1) rfl)) (by decide) (by decide) (by decide) (by decide) (by decide) (pc' := 58) rfl (fun T278 h278 a278 S g278 E278 A_a278 => ?_)
    have ge_a278 : n0 ≤ a278 := ge_of g278 Zn
    have pm_a278 := On.hd S
    have S_COMPACT_STRINGS := S_COMPACT_STRINGS.ext E278
    have S_assertionsDisabled := S_assertionsDisabled.ext E278
    have S_HI_BYTE_SHIFT := S_HI_BYTE_SHIFT.ext E278
    have S_LO_BYTE_SHIFT := S_LO_BYTE_SHIFT.ext E278
    have S_SIOOBE_FORMATTER := S_SIOOBE_FORMATTER.ext E278
    have Zn := Nat.le_trans Zn E278.1
    have A_a278 : Ary Z h278 a278 .char 2 (fun _ => (.int (0 : Int32))) := A_a278
    refine g_goto C S at_58 (pc' := 64) (by decide) (by decide) ?_
    refine g_astore C S at_64 (pc' := 66) rfl rfl (L' := #[.val (.int p1), .val (.int p2), .val (.int p3), .val (.int p4), .val (.int (2 : Int32)), .val (.int ca), .val (.int cb), .val (.int cc), .val (.ref a278), .unset, .unset, .unset, .unset, .unset]) rfl ?_
    refine g_iload C S at_66 (pc' := 68) rfl rfl ?_
    refine g_iconst C S (1 : Int32) at_68 (pc' := 69) rfl rfl ?_
    refine g_icmp_lt C S at_69 (pc' := 78) (pf := 72) (by decide) (by decide) rfl (fun hc69 => absurd hc69 (by decide)) (fun hc69 => ?_)
    refine g_aload C S at_72 (pc' := 74) rfl rfl rfl ?_
    refine g_iconst C S (0 : Int32) at_74 (pc' := 75) rfl rfl ?_
    refine g_iload C S at_75 (pc' := 77) rfl rfl ?_
    refine g_castore C S (i := 0) at_77 A_a278 (by decide) (by decide) ge_a278 (pc' := 78) rfl (fun T279 h279 S W279 B279 => ?_)
    have S_COMPACT_STRINGS := S_COMPACT_STRINGS.wr W279
    have S_assertionsDisabled := S_assertionsDisabled.wr W279
    have S_HI_BYTE_SHIFT := S_HI_BYTE_SHIFT.wr W279
    have S_LO_BYTE_SHIFT := S_LO_BYTE_SHIFT.wr W279
    have S_SIOOBE_FORMATTER := S_SIOOBE_FORMATTER.wr W279
    have Zn := Nat.le_trans Zn (Nat.le_of_eq W279.size.symm)
    have A_a278 := B279
    refine g_iload C S at_78 (pc' := 80) rfl rfl ?_
    refine g_iconst C S (2 : Int32) at_80 (pc' := 81) rfl rfl ?_
    refine g_icmp_lt C S at_81 (pc' := 90) (pf := 84) (by decide) (by decide) rfl (fun hc81 => absurd hc81 (by decide)) (fun hc81 => ?_)
    refine g_aload C S at_84 (pc' := 86) rfl rfl rfl ?_
    refine g_iconst C S (1 : Int32) at_86 (pc' := 87) rfl rfl ?_
    refine g_iload C S at_87 (pc' := 89) rfl rfl ?_
    refine g_castore C S (i := 1) at_89 A_a278 (by decide) (by decide) ge_a278 (pc' := 90) rfl (fun T280 h280 S W280 B280 => ?_)
    have S_COMPACT_STRINGS := S_COMPACT_STRINGS.wr W280
    have S_assertionsDisabled := S_assertionsDisabled.wr W280
    have S_HI_BYTE_SHIFT := S_HI_BYTE_SHIFT.wr W280
    have S_LO_BYTE_SHIFT := S_LO_BYTE_SHIFT.wr W280
    have S_SIOOBE_FORMATTER := S_SIOOBE_FORMATTER.wr W280
    have Zn := Nat.le_trans Zn (Nat.le_of_eq W280.size.symm)
    have A_a278 := B280
    refine g_iload C S at_90 (pc' := 92) rfl rfl ?_
    refine g_iconst C S (3 : Int32) at_92 (pc' := 93) rfl rfl ?_
    refine g_icmp_lt C S at_93 (pc' := 102) (pf := 96) (by decide) (by decide) rfl (fun hc93 => ?_) (fun hc93 => absurd (by decide) hc93)
    have A_a278 : Ary Z h280 a278 .char 2 (fun q => .int ((cX ca cb cc) q)) := A_a278.cg fun q hq => by
      match q, hq with
      | 0, _ => simp [cX, nar16 c_a, nar16 c_b, nar16 c_c]
      | 1, _ => simp [cX, nar16 c_a, nar16 c_b, nar16 c_c]
      | q + 2, hq => omega
    refine g_new C S at_102 (hw _ (List.mem_of_getElem? (i := 2) rfl)) (hw _ (List.mem_of_getElem? (i := 3) rfl)) (hw _ (List.mem_of_getElem? (i := 4) rfl)) (by decide) (by decide) (pc' := 105) rfl (fun T281 h281 a281 S g281 E281 X281 D281 => ?_)
    have ne_a278_a281 : a278 ≠ a281 := ne_new g281 A_a278.lt
    have ge_a281 : n0 ≤ a281 := ge_of g281 Zn
    have pm_a278 := List.mem_cons_of_mem a281 pm_a278
    have pm_a281 := On.hd S
    have S_COMPACT_STRINGS := S_COMPACT_STRINGS.ext E281
    have S_assertionsDisabled := S_assertionsDisabled.ext E281
    have S_HI_BYTE_SHIFT := S_HI_BYTE_SHIFT.ext E281
    have S_LO_BYTE_SHIFT := S_LO_BYTE_SHIFT.ext E281
    have S_SIOOBE_FORMATTER := S_SIOOBE_FORMATTER.ext E281
    have Zn := Nat.le_trans Zn E281.1
    have A_a278 := A_a278.ext E281
    have F_value_a281 : Fld Z h281 a281 "java/lang/String" "value" "[B" .null := D281 (Or.inr (hw _ (List.mem_of_getElem? (i := 17) rfl))) (ty := (.array .byte)) (by decide)
    have F_coder_a281 : Fld Z h281 a281 "java/lang/String" "coder" "B" (.int (0 : Int32)) := D281 (Or.inr (hw _ (List.mem_of_getElem? (i := 18) rfl))) (ty := .byte) (by decide)
    refine g_dup C S at_105 (pc' := 106) rfl rfl ?_
    refine g_aload C S at_106 (pc' := 108) rfl rfl rfl ?_
    refine g_callI C S (rm := ({ frames := 5, cells := 4, slots := 112, locals := 75 } : Room)) (W := 1) at_108 rfl (hw _ (List.mem_of_getElem? (i := 5) rfl)) (hw _ (List.mem_of_getElem? (i := 6) rfl)) (hw _ (List.mem_of_getElem? (i := 4) rfl)) (hw _ (List.mem_of_getElem? (i := 7) rfl)) (by decide) (c_ini l Z a0 hw a281 a278 h281 n0 _ _ 2 (cX ca cb cc) (by decide) (cX_16 c_a c_b c_c 2) ge_a281 (Ne.symm ne_a278_a281) Zn cs hcs S_COMPACT_STRINGS S_assertionsDisabled S_HI_BYTE_SHIFT S_LO_BYTE_SHIFT X281 F_value_a281 F_coder_a281 A_a278) (argsL := [(.ref a278)]) (r := [(.ref a281)]) rfl (allS pm_a281 all0) (lenOf pd_34 rfl) rfl (Nat.le_of_eq rfl) (by decide) (by decide) (by decide) (by decide) (pc' := 111) rfl (fun T282 h282 v282 P282 q282 S => ?_)
    have pm_a278 := List.mem_append_right P282 pm_a278
    have pm_a281 := List.mem_append_right P282 pm_a281
    have X0 := X281
    obtain ⟨rfl, K282, b9, cd9, M9, g9, ⟨X_a281, F_coder_a281, F_value_a281, A_b9⟩, hE9⟩ := q282
    have S_COMPACT_STRINGS := Sta.keep1 S_COMPACT_STRINGS K282 (X0.nostat)
    have S_assertionsDisabled := Sta.keep1 S_assertionsDisabled K282 (X0.nostat)
    have S_HI_BYTE_SHIFT := Sta.keep1 S_HI_BYTE_SHIFT K282 (X0.nostat)
    have S_LO_BYTE_SHIFT := Sta.keep1 S_LO_BYTE_SHIFT K282 (X0.nostat)
    have S_SIOOBE_FORMATTER := Sta.keep1 S_SIOOBE_FORMATTER K282 (X0.nostat)
    have Zn := Nat.le_trans Zn K282.1
    have A_a278 := A_a278.keep K282 (ninS ne_a278_a281 nin0)
    show Gl p e below s Z consts_1 _ n0 _ T282 (mkF m 111 #[.val (.int p1), .val (.int p2), .val (.int p3), .val (.int p4), .val (.int (2 : Int32)), .val (.int ca), .val (.int cb), .val (.int cc), .val (.ref a278), .unset, .unset, .unset, .unset, .unset] [(.ref a281)])
    refine g_astore C S at_111 (pc' := 113) rfl rfl (L' := #[.val (.int p1), .val (.int p2), .val (.int p3), .val (.int p4), .val (.int (2 : Int32)), .val (.int ca), .val (.int cb), .val (.int cc), .val (.ref a278), .val (.ref a281), .unset, .unset, .unset, .unset]) rfl ?_
    refine g_ldcS C S (vs := [.int 75, .int 105, .int 110, .int 100, .int 108, .int 105, .int 110, .int 103, .int 32, .int 99, .int 111, .int 117, .int 108, .int 100, .int 32, .int 110, .int 111, .int 116, .int 32, .int 115, .int 116, .int 97, .int 114, .int 116, .int 58, .int 32]) (zz := 26) (N := 26) (nn := 104) at_113 (hw _ (List.mem_of_getElem? (i := 23) rfl)) (List.mem_of_getElem? (i := 2) rfl) ⟨(by decide), rfl⟩ (by decide) (by decide) rfl (by decide) (by decide) (by decide) (by decide) (pc' := 115) rfl (fun T283 h283 a283 b283 S E283 X_a283 F_coder_a283 F_value_a283 A_b283 ns283 => ?_)
    have S_COMPACT_STRINGS := S_COMPACT_STRINGS.ext E283
    have S_assertionsDisabled := S_assertionsDisabled.ext E283
    have S_HI_BYTE_SHIFT := S_HI_BYTE_SHIFT.ext E283
    have S_LO_BYTE_SHIFT := S_LO_BYTE_SHIFT.ext E283
    have S_SIOOBE_FORMATTER := S_SIOOBE_FORMATTER.ext E283
    have Zn := Nat.le_trans Zn E283.1
    have A_a278 := A_a278.ext E283
    have X_a281 := X_a281.ext E283
    have F_coder_a281 := F_coder_a281.ext E283
    have F_value_a281 := F_value_a281.ext E283
    have A_b9 := A_b9.ext E283
    have ne_a278_a283 := (ns283 _ pm_a278).1
    have ne_a278_b283 := (ns283 _ pm_a278).2
    have ne_a281_a283 := (ns283 _ pm_a281).1
    have ne_a281_b283 := (ns283 _ pm_a281).2
    have A_b283 := A_b283.cg pw_ldc
    refine g_astore C S at_115 (pc' := 117) rfl rfl (L' := #[.val (.int p1), .val (.int p2), .val (.int p3), .val (.int p4), .val (.int (2 : Int32)), .val (.int ca), .val (.int cb), .val (.int cc), .val (.ref a278), .val (.ref a281), .val (.ref a283), .unset, .unset, .unset]) rfl ?_
    refine g_aload C S at_117 (pc' := 119) rfl rfl rfl ?_
    refine g_callV C S (rm := ({ frames := 1, cells := 0, slots := 0, locals := 13 } : Room)) (W := 0) at_119 (hw _ (List.mem_of_getElem? (i := 24) rfl)) (hw _ (List.mem_of_getElem? (i := 25) rfl)) (fun _ hZ => notFace_of_selects (args := #[]) (mvT hZ (hw _ (List.mem_of_getElem? (i := 27) rfl)))) (hw _ (List.mem_of_getElem? (i := 27) rfl)) (hw _ (List.mem_of_getElem? (i := 26) rfl)) (hw _ (List.mem_of_getElem? (i := 4) rfl)) (hw _ (List.mem_of_getElem? (i := 28) rfl)) (by decide) rfl X_a283 (c_len l Z a0 hw a283 h283 n0 b283 0 26 26 _ (Or.inl ⟨rfl, rfl⟩) (by decide) cs hcs S_COMPACT_STRINGS X_a283 F_coder_a283 F_value_a283 A_b283) (argsL := []) (r := []) rfl all0 (lenOf pd_22 rfl) rfl (Nat.le_of_eq rfl) (by decide) (by decide) (by decide) (by decide) (pc' := 122) rfl (fun T284 h284 v284 P284 q284 S => ?_)
    have pm_a278 := List.mem_append_right P284 pm_a278
    have pm_a281 := List.mem_append_right P284 pm_a281
    obtain ⟨rfl, e284⟩ := q284; rw [e284] at S
    show Gl p e below s Z consts_1 _ n0 _ T284 (mkF m 122 #[.val (.int p1), .val (.int p2), .val (.int p3), .val (.int p4), .val (.int (2 : Int32)), .val (.int ca), .val (.int cb), .val (.int cc), .val (.ref a278), .val (.ref a281), .val (.ref a283), .unset, .unset, .unset] [(.int (26 : Int32))])
    refine g_bipush C S (26 : Int32) at_122 (pc' := 124) rfl rfl ?_
    refine g_icmp_eq C S at_124 (pc' := 129) (pf := 127) (by decide) (by decide) rfl (fun hc124 => ?_) (fun hc124 => absurd rfl hc124)
    refine g_iload C S at_129 (pc' := 131) rfl rfl ?_
    refine g_if_ne C S at_131 (pc' := 141) (pf := 134) (by decide) (by decide) rfl (fun hc131 => ?_) (fun hc131 => absurd hc131 (by decide))
    refine g_iload C S at_141 (pc' := 143) rfl rfl ?_
    refine g_iconst C S (1 : Int32) at_143 (pc' := 144) rfl rfl ?_
    refine g_icmp_ne C S at_144 (pc' := 154) (pf := 147) (by decide) (by decide) rfl (fun hc144 => ?_) (fun hc144 => absurd hc144 (by decide))
    refine g_iload C S at_154 (pc' := 156) rfl rfl ?_
    refine g_iconst C S (2 : Int32) at_156 (pc' := 157) rfl rfl ?_
    refine g_icmp_ne C S at_157 (pc' := 167) (pf := 160) (by decide) (by decide) rfl (fun hc157 => absurd rfl hc157) (fun hc157 => ?_)
    refine g_bipush C S (28 : Int32) at_160 (pc' := 162) rfl rfl ?_
    refine g_newarray C S (N := 28) (cap := 28) at_162 (hw _ (List.mem_of_getElem? (i := 1) rfl)) (by decide) (by decide) (by decide) (by decide) (by decide) (pc' := 164) rfl (fun T285 h285 a285 S g285 E285 A_a285 => ?_)
    have ne_a278_a285 : a278 ≠ a285 := ne_new g285 A_a278.lt
    have ne_a281_a285 : a281 ≠ a285 := ne_new g285 X_a281.lt
    have ne_b9_a285 : b9 ≠ a285 := ne_new g285 A_b9.lt
    have ne_a283_a285 : a283 ≠ a285 := ne_new g285 X_a283.lt
    have ne_b283_a285 : b283 ≠ a285 := ne_new g285 A_b283.lt
    have ge_a285 : n0 ≤ a285 := ge_of g285 Zn
    have pm_a278 := List.mem_cons_of_mem a285 pm_a278
    have pm_a281 := List.mem_cons_of_mem a285 pm_a281
    have pm_a285 := On.hd S
    have S_COMPACT_STRINGS := S_COMPACT_STRINGS.ext E285
    have S_assertionsDisabled := S_assertionsDisabled.ext E285
    have S_HI_BYTE_SHIFT := S_HI_BYTE_SHIFT.ext E285
    have S_LO_BYTE_SHIFT := S_LO_BYTE_SHIFT.ext E285
    have S_SIOOBE_FORMATTER := S_SIOOBE_FORMATTER.ext E285
    have Zn := Nat.le_trans Zn E285.1
    have A_a278 := A_a278.ext E285
    have X_a281 := X_a281.ext E285
    have F_coder_a281 := F_coder_a281.ext E285
    have F_value_a281 := F_value_a281.ext E285
    have A_b9 := A_b9.ext E285
    have X_a283 := X_a283.ext E285
    have F_coder_a283 := F_coder_a283.ext E285
    have F_value_a283 := F_value_a283.ext E285
    have A_b283 := A_b283.ext E285
    have A_a285 : Ary Z h285 a285 .char 28 (fun _ => (.int (0 : Int32))) := A_a285
    refine g_goto C S at_164 (pc' := 171) (by decide) (by decide) ?_
    refine g_astore C S at_171 (pc' := 173) rfl rfl (L' := #[.val (.int p1), .val (.int p2), .val (.int p3), .val (.int p4), .val (.int (2 : Int32)), .val (.int ca), .val (.int cb), .val (.int cc), .val (.ref a278), .val (.ref a281), .val (.ref a283), .val (.ref a285), .unset, .unset]) rfl ?_
    exact J173 2 a278 a281 b9 cd9 M9 g9 a283 b283 a285 (by decide) hE9 ge_a285 (Ne.symm ne_a281_a285) (Ne.symm ne_b9_a285) (Ne.symm ne_a283_a285) (Ne.symm ne_b283_a285) _ _ _ (S.mono (by decide) (by decide)) Zn S_COMPACT_STRINGS S_assertionsDisabled S_HI_BYTE_SHIFT S_LO_BYTE_SHIFT S_SIOOBE_FORMATTER X_a281 F_coder_a281 F_value_a281 A_b9 X_a283 F_coder_a283 F_value_a283 A_b283 A_a285
  · rw [e3]
    refine g_iload C S at_26 (pc' := 28) rfl rfl ?_
    refine g_if_ne C S at_28 (pc' := 37) (pf := 31) (by decide) (by decide) rfl (fun hc28 => ?_) (fun hc28 => absurd hc28 (by decide))
    refine g_iload C S at_37 (pc' := 39) rfl rfl ?_
    refine g_iconst C S (1 : Int32) at_39 (pc' := 40) rfl rfl ?_
    refine g_icmp_ne C S at_40 (pc' := 49) (pf := 43) (by decide) (by decide) rfl (fun hc40 => ?_) (fun hc40 => absurd hc40 (by decide))
    refine g_iload C S at_49 (pc' := 51) rfl rfl ?_
    refine g_iconst C S (2 : Int32) at_51 (pc' := 52) rfl rfl ?_
    refine g_icmp_ne C S at_52 (pc' := 61) (pf := 55) (by decide) (by decide) rfl (fun hc52 => ?_) (fun hc52 => absurd hc52 (by decide))
    refine g_iconst C S (3 : Int32) at_61 (pc' := 62) rfl rfl ?_
    refine g_newarray C S (N := 3) (cap := 3) at_62 (hw _ (List.mem_of_getElem? (i := 1) rfl)) (by decide) (by decide) (by decide) (by decide) (by decide) (pc' := 64) rfl (fun T286 h286 a286 S g286 E286 A_a286 => ?_)
    have ge_a286 : n0 ≤ a286 := ge_of g286 Zn
    have pm_a286 := On.hd S
    have S_COMPACT_STRINGS := S_COMPACT_STRINGS.ext E286
    have S_assertionsDisabled := S_assertionsDisabled.ext E286
    have S_HI_BYTE_SHIFT := S_HI_BYTE_SHIFT.ext E286
    have S_LO_BYTE_SHIFT := S_LO_BYTE_SHIFT.ext E286
    have S_SIOOBE_FORMATTER := S_SIOOBE_FORMATTER.ext E286
    have Zn := Nat.le_trans Zn E286.1
    have A_a286 : Ary Z h286 a286 .char 3 (fun _ => (.int (0 : Int32))) := A_a286
    refine g_astore C S at_64 (pc' := 66) rfl rfl (L' := #[.val (.int p1), .val (.int p2), .val (.int p3), .val (.int p4), .val (.int (3 : Int32)), .val (.int ca), .val (.int cb), .val (.int cc), .val (.ref a286), .unset, .unset, .unset, .unset, .unset]) rfl ?_
    refine g_iload C S at_66 (pc' := 68) rfl rfl ?_
    refine g_iconst C S (1 : Int32) at_68 (pc' := 69) rfl rfl ?_
    refine g_icmp_lt C S at_69 (pc' := 78) (pf := 72) (by decide) (by decide) rfl (fun hc69 => absurd hc69 (by decide)) (fun hc69 => ?_)
    refine g_aload C S at_72 (pc' := 74) rfl rfl rfl ?_
    refine g_iconst C S (0 : Int32) at_74 (pc' := 75) rfl rfl ?_
    refine g_iload C S at_75 (pc' := 77) rfl rfl ?_
    refine g_castore C S (i := 0) at_77 A_a286 (by decide) (by decide) ge_a286 (pc' := 78) rfl (fun T287 h287 S W287 B287 => ?_)
    have S_COMPACT_STRINGS := S_COMPACT_STRINGS.wr W287
    have S_assertionsDisabled := S_assertionsDisabled.wr W287
    have S_HI_BYTE_SHIFT := S_HI_BYTE_SHIFT.wr W287
    have S_LO_BYTE_SHIFT := S_LO_BYTE_SHIFT.wr W287
    have S_SIOOBE_FORMATTER := S_SIOOBE_FORMATTER.wr W287
    have Zn := Nat.le_trans Zn (Nat.le_of_eq W287.size.symm)
    have A_a286 := B287
    refine g_iload C S at_78 (pc' := 80) rfl rfl ?_
    refine g_iconst C S (2 : Int32) at_80 (pc' := 81) rfl rfl ?_
    refine g_icmp_lt C S at_81 (pc' := 90) (pf := 84) (by decide) (by decide) rfl (fun hc81 => absurd hc81 (by decide)) (fun hc81 => ?_)
    refine g_aload C S at_84 (pc' := 86) rfl rfl rfl ?_
    refine g_iconst C S (1 : Int32) at_86 (pc' := 87) rfl rfl ?_
    refine g_iload C S at_87 (pc' := 89) rfl rfl ?_
    refine g_castore C S (i := 1) at_89 A_a286 (by decide) (by decide) ge_a286 (pc' := 90) rfl (fun T288 h288 S W288 B288 => ?_)
    have S_COMPACT_STRINGS := S_COMPACT_STRINGS.wr W288
    have S_assertionsDisabled := S_assertionsDisabled.wr W288
    have S_HI_BYTE_SHIFT := S_HI_BYTE_SHIFT.wr W288
    have S_LO_BYTE_SHIFT := S_LO_BYTE_SHIFT.wr W288
    have S_SIOOBE_FORMATTER := S_SIOOBE_FORMATTER.wr W288
    have Zn := Nat.le_trans Zn (Nat.le_of_eq W288.size.symm)
    have A_a286 := B288
    refine g_iload C S at_90 (pc' := 92) rfl rfl ?_
    refine g_iconst C S (3 : Int32) at_92 (pc' := 93) rfl rfl ?_
    refine g_icmp_lt C S at_93 (pc' := 102) (pf := 96) (by decide) (by decide) rfl (fun hc93 => absurd hc93 (by decide)) (fun hc93 => ?_)
    refine g_aload C S at_96 (pc' := 98) rfl rfl rfl ?_
    refine g_iconst C S (2 : Int32) at_98 (pc' := 99) rfl rfl ?_
    refine g_iload C S at_99 (pc' := 101) rfl rfl ?_
    refine g_castore C S (i := 2) at_101 A_a286 (by decide) (by decide) ge_a286 (pc' := 102) rfl (fun T289 h289 S W289 B289 => ?_)
    have S_COMPACT_STRINGS := S_COMPACT_STRINGS.wr W289
    have S_assertionsDisabled := S_assertionsDisabled.wr W289
    have S_HI_BYTE_SHIFT := S_HI_BYTE_SHIFT.wr W289
    have S_LO_BYTE_SHIFT := S_LO_BYTE_SHIFT.wr W289
    have S_SIOOBE_FORMATTER := S_SIOOBE_FORMATTER.wr W289
    have Zn := Nat.le_trans Zn (Nat.le_of_eq W289.size.symm)
    have A_a286 := B289
    have A_a286 : Ary Z h289 a286 .char 3 (fun q => .int ((cX ca cb cc) q)) := A_a286.cg fun q hq => by
      match q, hq with
      | 0, _ => simp [cX, nar16 c_a, nar16 c_b, nar16 c_c]
      | 1, _ => simp [cX, nar16 c_a, nar16 c_b, nar16 c_c]
      | 2, _ => simp [cX, nar16 c_a, nar16 c_b, nar16 c_c]
      | q + 3, hq => omega
    refine g_new C S at_102 (hw _ (List.mem_of_getElem? (i := 2) rfl)) (hw _ (List.mem_of_getElem? (i := 3) rfl)) (hw _ (List.mem_of_getElem? (i := 4) rfl)) (by decide) (by decide) (pc' := 105) rfl (fun T290 h290 a290 S g290 E290 X290 D290 => ?_)
    have ne_a286_a290 : a286 ≠ a290 := ne_new g290 A_a286.lt
    have ge_a290 : n0 ≤ a290 := ge_of g290 Zn
    have pm_a286 := List.mem_cons_of_mem a290 pm_a286
    have pm_a290 := On.hd S
    have S_COMPACT_STRINGS := S_COMPACT_STRINGS.ext E290
    have S_assertionsDisabled := S_assertionsDisabled.ext E290
    have S_HI_BYTE_SHIFT := S_HI_BYTE_SHIFT.ext E290
    have S_LO_BYTE_SHIFT := S_LO_BYTE_SHIFT.ext E290
    have S_SIOOBE_FORMATTER := S_SIOOBE_FORMATTER.ext E290
    have Zn := Nat.le_trans Zn E290.1
    have A_a286 := A_a286.ext E290
    have F_value_a290 : Fld Z h290 a290 "java/lang/String" "value" "[B" .null := D290 (Or.inr (hw _ (List.mem_of_getElem? (i := 17) rfl))) (ty := (.array .byte)) (by decide)
    have F_coder_a290 : Fld Z h290 a290 "java/lang/String" "coder" "B" (.int (0 : Int32)) := D290 (Or.inr (hw _ (List.mem_of_getElem? (i := 18) rfl))) (ty := .byte) (by decide)
    refine g_dup C S at_105 (pc' := 106) rfl rfl ?_
    refine g_aload C S at_106 (pc' := 108) rfl rfl rfl ?_
    refine g_callI C S (rm := ({ frames := 5, cells := 4, slots := 112, locals := 75 } : Room)) (W := 1) at_108 rfl (hw _ (List.mem_of_getElem? (i := 5) rfl)) (hw _ (List.mem_of_getElem? (i := 6) rfl)) (hw _ (List.mem_of_getElem? (i := 4) rfl)) (hw _ (List.mem_of_getElem? (i := 7) rfl)) (by decide) (c_ini l Z a0 hw a290 a286 h290 n0 _ _ 3 (cX ca cb cc) (by decide) (cX_16 c_a c_b c_c 3) ge_a290 (Ne.symm ne_a286_a290) Zn cs hcs S_COMPACT_STRINGS S_assertionsDisabled S_HI_BYTE_SHIFT S_LO_BYTE_SHIFT X290 F_value_a290 F_coder_a290 A_a286) (argsL := [(.ref a286)]) (r := [(.ref a290)]) rfl (allS pm_a290 all0) (lenOf pd_34 rfl) rfl (Nat.le_of_eq rfl) (by decide) (by decide) (by decide) (by decide) (pc' := 111) rfl (fun T291 h291 v291 P291 q291 S => ?_)
    have pm_a286 := List.mem_append_right P291 pm_a286
    have pm_a290 := List.mem_append_right P291 pm_a290
    have X0 := X290
    obtain ⟨rfl, K291, b9, cd9, M9, g9, ⟨X_a290, F_coder_a290, F_value_a290, A_b9⟩, hE9⟩ := q291
    have S_COMPACT_STRINGS := Sta.keep1 S_COMPACT_STRINGS K291 (X0.nostat)
    have S_assertionsDisabled := Sta.keep1 S_assertionsDisabled K291 (X0.nostat)
    have S_HI_BYTE_SHIFT := Sta.keep1 S_HI_BYTE_SHIFT K291 (X0.nostat)
    have S_LO_BYTE_SHIFT := Sta.keep1 S_LO_BYTE_SHIFT K291 (X0.nostat)
    have S_SIOOBE_FORMATTER := Sta.keep1 S_SIOOBE_FORMATTER K291 (X0.nostat)
    have Zn := Nat.le_trans Zn K291.1
    have A_a286 := A_a286.keep K291 (ninS ne_a286_a290 nin0)
    show Gl p e below s Z consts_1 _ n0 _ T291 (mkF m 111 #[.val (.int p1), .val (.int p2), .val (.int p3), .val (.int p4), .val (.int (3 : Int32)), .val (.int ca), .val (.int cb), .val (.int cc), .val (.ref a286), .unset, .unset, .unset, .unset, .unset] [(.ref a290)])
    refine g_astore C S at_111 (pc' := 113) rfl rfl (L' := #[.val (.int p1), .val (.int p2), .val (.int p3), .val (.int p4), .val (.int (3 : Int32)), .val (.int ca), .val (.int cb), .val (.int cc), .val (.ref a286), .val (.ref a290), .unset, .unset, .unset, .unset]) rfl ?_
    refine g_ldcS C S (vs := [.int 75, .int 105, .int 110, .int 100, .int 108, .int 105, .int 110, .int 103, .int 32, .int 99, .int 111, .int 117, .int 108, .int 100, .int 32, .int 110, .int 111, .int 116, .int 32, .int 115, .int 116, .int 97, .int 114, .int 116, .int 58, .int 32]) (zz := 26) (N := 26) (nn := 104) at_113 (hw _ (List.mem_of_getElem? (i := 23) rfl)) (List.mem_of_getElem? (i := 2) rfl) ⟨(by decide), rfl⟩ (by decide) (by decide) rfl (by decide) (by decide) (by decide) (by decide) (pc' := 115) rfl (fun T292 h292 a292 b292 S E292 X_a292 F_coder_a292 F_value_a292 A_b292 ns292 => ?_)
    have S_COMPACT_STRINGS := S_COMPACT_STRINGS.ext E292
    have S_assertionsDisabled := S_assertionsDisabled.ext E292
    have S_HI_BYTE_SHIFT := S_HI_BYTE_SHIFT.ext E292
    have S_LO_BYTE_SHIFT := S_LO_BYTE_SHIFT.ext E292
    have S_SIOOBE_FORMATTER := S_SIOOBE_FORMATTER.ext E292
    have Zn := Nat.le_trans Zn E292.1
    have A_a286 := A_a286.ext E292
    have X_a290 := X_a290.ext E292
    have F_coder_a290 := F_coder_a290.ext E292
    have F_value_a290 := F_value_a290.ext E292
    have A_b9 := A_b9.ext E292
    have ne_a286_a292 := (ns292 _ pm_a286).1
    have ne_a286_b292 := (ns292 _ pm_a286).2
    have ne_a290_a292 := (ns292 _ pm_a290).1
    have ne_a290_b292 := (ns292 _ pm_a290).2
    have A_b292 := A_b292.cg pw_ldc
    refine g_astore C S at_115 (pc' := 117) rfl rfl (L' := #[.val (.int p1), .val (.int p2), .val (.int p3), .val (.int p4), .val (.int (3 : Int32)), .val (.int ca), .val (.int cb), .val (.int cc), .val (.ref a286), .val (.ref a290), .val (.ref a292), .unset, .unset, .unset]) rfl ?_
    refine g_aload C S at_117 (pc' := 119) rfl rfl rfl ?_
    refine g_callV C S (rm := ({ frames := 1, cells := 0, slots := 0, locals := 13 } : Room)) (W := 0) at_119 (hw _ (List.mem_of_getElem? (i := 24) rfl)) (hw _ (List.mem_of_getElem? (i := 25) rfl)) (fun _ hZ => notFace_of_selects (args := #[]) (mvT hZ (hw _ (List.mem_of_getElem? (i := 27) rfl)))) (hw _ (List.mem_of_getElem? (i := 27) rfl)) (hw _ (List.mem_of_getElem? (i := 26) rfl)) (hw _ (List.mem_of_getElem? (i := 4) rfl)) (hw _ (List.mem_of_getElem? (i := 28) rfl)) (by decide) rfl X_a292 (c_len l Z a0 hw a292 h292 n0 b292 0 26 26 _ (Or.inl ⟨rfl, rfl⟩) (by decide) cs hcs S_COMPACT_STRINGS X_a292 F_coder_a292 F_value_a292 A_b292) (argsL := []) (r := []) rfl all0 (lenOf pd_22 rfl) rfl (Nat.le_of_eq rfl) (by decide) (by decide) (by decide) (by decide) (pc' := 122) rfl (fun T293 h293 v293 P293 q293 S => ?_)
    have pm_a286 := List.mem_append_right P293 pm_a286
    have pm_a290 := List.mem_append_right P293 pm_a290
    obtain ⟨rfl, e293⟩ := q293; rw [e293] at S
    show Gl p e below s Z consts_1 _ n0 _ T293 (mkF m 122 #[.val (.int p1), .val (.int p2), .val (.int p3), .val (.int p4), .val (.int (3 : Int32)), .val (.int ca), .val (.int cb), .val (.int cc), .val (.ref a286), .val (.ref a290), .val (.ref a292), .unset, .unset, .unset] [(.int (26 : Int32))])
    refine g_bipush C S (26 : Int32) at_122 (pc' := 124) rfl rfl ?_
    refine g_icmp_eq C S at_124 (pc' := 129) (pf := 127) (by decide) (by decide) rfl (fun hc124 => ?_) (fun hc124 => absurd rfl hc124)
    refine g_iload C S at_129 (pc' := 131) rfl rfl ?_
    refine g_if_ne C S at_131 (pc' := 141) (pf := 134) (by decide) (by decide) rfl (fun hc131 => ?_) (fun hc131 => absurd hc131 (by decide))
    refine g_iload C S at_141 (pc' := 143) rfl rfl ?_
    refine g_iconst C S (1 : Int32) at_143 (pc' := 144) rfl rfl ?_
    refine g_icmp_ne C S at_144 (pc' := 154) (pf := 147) (by decide) (by decide) rfl (fun hc144 => ?_) (fun hc144 => absurd hc144 (by decide))
    refine g_iload C S at_154 (pc' := 156) rfl rfl ?_
    refine g_iconst C S (2 : Int32) at_156 (pc' := 157) rfl rfl ?_
    refine g_icmp_ne C S at_157 (pc' := 167) (pf := 160) (by decide) (by decide) rfl (fun hc157 => ?_) (fun hc157 => absurd hc157 (by decide))
    refine g_bipush C S (29 : Int32) at_167 (pc' := 169) rfl rfl ?_
    refine g_newarray C S (N := 29) (cap := 29) at_169 (hw _ (List.mem_of_getElem? (i := 1) rfl)) (by decide) (by decide) (by decide) (by decide) (by decide) (pc' := 171) rfl (fun T294 h294 a294 S g294 E294 A_a294 => ?_)
    have ne_a286_a294 : a286 ≠ a294 := ne_new g294 A_a286.lt
    have ne_a290_a294 : a290 ≠ a294 := ne_new g294 X_a290.lt
    have ne_b9_a294 : b9 ≠ a294 := ne_new g294 A_b9.lt
    have ne_a292_a294 : a292 ≠ a294 := ne_new g294 X_a292.lt
    have ne_b292_a294 : b292 ≠ a294 := ne_new g294 A_b292.lt
    have ge_a294 : n0 ≤ a294 := ge_of g294 Zn
    have pm_a286 := List.mem_cons_of_mem a294 pm_a286
    have pm_a290 := List.mem_cons_of_mem a294 pm_a290
    have pm_a294 := On.hd S
    have S_COMPACT_STRINGS := S_COMPACT_STRINGS.ext E294
    have S_assertionsDisabled := S_assertionsDisabled.ext E294
    have S_HI_BYTE_SHIFT := S_HI_BYTE_SHIFT.ext E294
    have S_LO_BYTE_SHIFT := S_LO_BYTE_SHIFT.ext E294
    have S_SIOOBE_FORMATTER := S_SIOOBE_FORMATTER.ext E294
    have Zn := Nat.le_trans Zn E294.1
    have A_a286 := A_a286.ext E294
    have X_a290 := X_a290.ext E294
    have F_coder_a290 := F_coder_a290.ext E294
    have F_value_a290 := F_value_a290.ext E294
    have A_b9 := A_b9.ext E294
    have X_a292 := X_a292.ext E294
    have F_coder_a292 := F_coder_a292.ext E294
    have F_value_a292 := F_value_a292.ext E294
    have A_b292 := A_b292.ext E294
    have A_a294 : Ary Z h294 a294 .char 29 (fun _ => (.int (0 : Int32))) := A_a294
    refine g_astore C S at_171 (pc' := 173) rfl rfl (L' := #[.val (.int p1), .val (.int p2), .val (.int p3), .val (.int p4), .val (.int (3 : Int32)), .val (.int ca), .val (.int cb), .val (.int cc), .val (.ref a286), .val (.ref a290), .val (.ref a292), .val (.ref a294), .unset, .unset]) rfl ?_
    exact J173 3 a286 a290 b9 cd9 M9 g9 a292 b292 a294 (by decide) hE9 ge_a294 (Ne.symm ne_a290_a294) (Ne.symm ne_b9_a294) (Ne.symm ne_a292_a294) (Ne.symm ne_b292_a294) _ _ _ (S.mono (by decide) (by decide)) Zn S_COMPACT_STRINGS S_assertionsDisabled S_HI_BYTE_SHIFT S_LO_BYTE_SHIFT S_SIOOBE_FORMATTER X_a290 F_coder_a290 F_value_a290 A_b9 X_a292 F_coder_a292 F_value_a292 A_b292 A_a294
set_option maxRecDepth 65536 in
set_option maxHeartbeats 40000000 in
theorem comes_1 {Post : Tables → Env → Array Value → State → Outcome → State → Prop} (hpost : ∀ tb e args s v u, (limb_1_1.after args s (.returned v) u = true ∧ limb_1_2.after args s (.returned v) u = true ∧ True) → FramedW s (.returned v) u (Jvm.fieldLocs frame_1_writes args s ++ Jvm.arrayLocs frame_1_arrays args s ++ Jvm.staticLocs frame_1_statics s) 48 4864 → Post tb e args s (.returned v) u) :
    ArmFor flags0 classFile x code maxLocals ret World_1 tables_1 room_1 Calls_1 rest_1 Pre_1 Post := by
  intro l hfl _ _ p e ha hc hk s m args below hf hA hF happ hP
  obtain ⟨hcalls, hrest, hpre⟩ := hP
  obtain ⟨-, -, -, hnamed, -, -, -, hat⟩ := (Spec.applies_iff hf).mp happ
  obtain ⟨hg, hn⟩ := and_e (Cond.before_iff.mp (show (Jvm.Cond.and given_1 narrow_1).before args s = true from hpre))
  obtain ⟨hcount, hg0⟩ := and_e hg
  obtain ⟨ha0, hg1⟩ := and_e hg0
  obtain ⟨ha1, hg2⟩ := and_e hg1
  obtain ⟨ha2, hg3⟩ := and_e hg2
  have ha3 := hg3
  obtain ⟨w0, w1, w2, w3, rfl⟩ : ∃ w0 w1 w2 w3 : Value, args = #[w0, w1, w2, w3] := by
    have hs : args.size = 4 := by simpa [Cond.value, given_1] using hcount
    obtain ⟨L⟩ := args
    match L, hs with
    | [w0, w1, w2, w3], _ => exact ⟨w0, w1, w2, w3, rfl⟩
  have hw := fun d (hd : d ∈ tables_1) => atoms_spec (ws := Jvm.Cond.code x code maxLocals ret :: tables_1) hat d (List.mem_cons_of_mem _ hd)
  have hsets := (atoms_of _ (rest_1_c_eq ▸ (show rest_1_c.before _ s = true from hrest))).1
  have hcst : ∀ q ∈ consts_1, Jvm.Lit.constHeld s q.1 q.2 := fun q hq => hcalls.1 q hq
  have hCH : CHv s consts_1 s.vm s.heap := CHv.start (elw hw).1 hcst (hsets _ (List.mem_of_getElem? (i := 2) rfl)) (hw _ (List.mem_of_getElem? (i := 16) rfl)) (hw _ (List.mem_of_getElem? (i := 3) rfl))
  obtain ⟨i0, ei0⟩ := is_v ha0
  obtain rfl : w0 = (.int i0) := Option.some.inj ei0
  obtain ⟨i1, ei1⟩ := is_v ha1
  obtain rfl : w1 = (.int i1) := Option.some.inj ei1
  obtain ⟨i2, ei2⟩ := is_v ha2
  obtain rfl : w2 = (.int i2) := Option.some.inj ei2
  obtain ⟨i3, ei3⟩ := is_v ha3
  obtain rfl : w3 = (.int i3) := Option.some.inj ei3
  obtain ⟨cs, ecs⟩ := is_v (Cond.before_iff.mp (hsets _ (List.mem_of_getElem? (i := 1) rfl)))
  have S_CS := Sta.start ecs (Or.inl (hsets _ (List.mem_of_getElem? (i := 0) rfl)))
  have hcs : ¬ cs = 0 := fun z => by
    have q := (hsets _ (List.mem_of_getElem? (i := 2) rfl))
    rw [z] at ecs
    simp [Cond.before, Cond.holds, Cond.value, ecs, Term.int_eval] at q
  obtain ⟨fm, efm, hfm⟩ := isR_v (Cond.before_iff.mp (hsets _ (List.mem_of_getElem? (i := 8) rfl)))
  have S_FM := Sta.start efm (Or.inl (hsets _ (List.mem_of_getElem? (i := 7) rfl)))
  have e_assertionsDisabled := Cond.eq_int (hsets _ (List.mem_of_getElem? (i := 12) rfl)) rfl
  have S_assertionsDisabled := Sta.start e_assertionsDisabled (Or.inl (hsets _ (List.mem_of_getElem? (i := 11) rfl)))
  have e_HI_BYTE_SHIFT := Cond.eq_int (hsets _ (List.mem_of_getElem? (i := 15) rfl)) rfl
  have S_HI_BYTE_SHIFT := Sta.start e_HI_BYTE_SHIFT (Or.inl (hsets _ (List.mem_of_getElem? (i := 14) rfl)))
  have e_LO_BYTE_SHIFT := Cond.eq_int (hsets _ (List.mem_of_getElem? (i := 18) rfl)) rfl
  have S_LO_BYTE_SHIFT := Sta.start e_LO_BYTE_SHIFT (Or.inl (hsets _ (List.mem_of_getElem? (i := 17) rfl)))
  obtain ⟨n, o, h1, h2, h3, _, L, rfl, ⟨_, rfl, N, -⟩, -, hq⟩ := c_law l s _ hw i0 i1 i2 i3 s.heap s.heap.size (Nat.le_refl _) cs hcs S_CS S_assertionsDisabled S_HI_BYTE_SHIFT S_LO_BYTE_SHIFT fm hfm S_FM tables_1 p e ha hc hk s m _ below hf ((Spec.applies_iff_loose hf).mp happ).1 ⟨rfl, State.Warmed39.refl s, rfl, hCH, all0⟩ trivial
  refine ⟨n, _, h1, h2, h3, hpost _ _ _ _ _ _ ⟨Cond.after_iff.mpr rfl, Cond.after_iff.mpr (eq_i res_at (Term.int_eval (1)) rfl), trivial⟩ ⟨hq.1, hq.2.1, hq.2.2.1, (hq.2.2.2.sift fun y hy => Or.inr (N y hy)).mono (by decide) (by decide)⟩⟩
theorem main_1_1 : Claimed_1_1 := comes_1 fun _ _ _ _ _ _ h hF => ⟨h.1, hF⟩
theorem main_1_2 : Claimed_1_2 := comes_1 fun _ _ _ _ _ _ h hF => ⟨h.2.1, hF⟩
end Jvm.Pilot.@@N@@
namespace Jvm.Pilot.@@N@@
open Jvm Jvm.ClassFile Sem Op Lib Jvm.Free Jvm.Stand Jvm.Pilot.@@N@@.Jvm.D
/-! MADE BY PROGRAM (witnessworld.py) out of the Statement's table words and the real class files: 27 classes; the members and pool entries that the words name. The judged class is class 1, her method 1. -/
namespace start1
open Jvm.ClassFile
def u (s : String) : CpInfo := .utf8 (stringToUtf16 s)
/-- a pool by its gaps: so many unusable entries, then the entry; so many at the end -/
def gap : Nat → List CpInfo → List CpInfo
  | 0, r => r
  | n + 1, r => .unusable :: gap n r
def poolList (es : List (Nat × CpInfo)) (last : Nat) : List CpInfo := es.foldr (fun e r => gap e.1 (e.2 :: r)) (gap last [])
def pool (es : List (Nat × CpInfo)) (last : Nat) : Array CpInfo := ⟨poolList es last⟩
def fileOf (pool : Array CpInfo) (this : Nat) (attrs : Array Attribute := #[]) (ms : Array MethodInfo := #[]) (fl : Nat := 33) (sup : Nat := 0) (ifs : Array Nat := #[]) (fds : Array FieldInfo := #[]) : ClassFile where
  minorVersion := 0
  majorVersion := 65
  constantPool := pool
  accessFlags := fl
  thisClass := this
  superClass := sup
  interfaces := ifs
  fields := fds
  methods := ms
  attributes := attrs
def plain (name : String) (sup : Option ClassId) : Class where
  name := name
  kind := .ordinary
  loader := none
  accessFlags := 33
  super := sup
  interfaces := #[]
  cf := none
  fields := #[]
  methods := #[]
  instanceTypes := #[]
  staticTypes := #[]
  resolved := #[]
  callSites := []
  init := .initialized
  statics := none
  mirror := none

def pool0 : Array CpInfo := pool [(5, u "<init>"), (0, u "()V"), (1, .class_ 10), (1, u "java/lang/Object")] 113

def k0c0 : Code := { maxStack := 0, maxLocals := 1, code := object_method_1_code, exceptionTable := #[], attributes := #[] }
def k0m0 : Method := { name := "<init>", desc := "()V", sig := { parameters := [], returnType := none }, accessFlags := 1, code := some k0c0 }
/-- java/lang/Object -/
def k0 : Class := { plain "java/lang/Object" none with
  accessFlags := 33
  interfaces := #[]
  cf := some (fileOf pool0 8 #[] #[{ accessFlags := 1, nameIndex := 5, descriptorIndex := 6, attributes := #[] }] 33 0 #[] #[])
  fields := #[]
  methods := #[k0m0]
  instanceTypes := #[]
  staticTypes := #[]
  resolved := Array.replicate 124 none
  statics := none }

def pool1 : Array CpInfo := pool [(2, .class_ 4), (1, u "java/lang/Object"), (0, u "<init>"), (0, u "()V"), (0, .integer 65535), (0, .class_ 9), (0, u "java/lang/String"), (0, .methodref 8 11), (0, .nameAndType 5 12), (0, u "([C)V"), (0, .string 14), (0, u "Kindling could not start: "), (0, .methodref 8 16), (0, .nameAndType 17 18), (0, u "length"), (0, u "()I"), (0, .methodref 8 20), (0, .nameAndType 21 22), (0, u "charAt"), (0, u "(I)C"), (0, .methodref 24 25), (0, .class_ 26), (0, .nameAndType 27 28), (0, u "com/example/kindling/kindling/context/StartupMessages"), (0, u "couldNotStart"), (0, u "(Ljava/lang/String;)Ljava/lang/String;"), (0, .methodref 8 30), (0, .nameAndType 31 32), (0, u "equals"), (0, u "(Ljava/lang/Object;)Z"), (0, .class_ 34), (0, u "com/example/kindling/kindling/context/StartupMessagesCouldNotStartPinLaw"), (2, u "law"), (0, u "(IIII)Z")] 5

def k1m0 : Method := { name := "<init>", desc := "()V", sig := { parameters := [], returnType := none }, accessFlags := 2, code := none }
def k1c1 : Code := { maxStack := 4, maxLocals := 14, code := code, exceptionTable := #[], attributes := #[] }
def k1m1 : Method := { name := "law", desc := "(IIII)Z", sig := { parameters := [.int, .int, .int, .int], returnType := some .boolean }, accessFlags := 9, code := some k1c1 }
/-- com/example/kindling/kindling/context/StartupMessagesCouldNotStartPinLaw -/
def k1 : Class := { plain "com/example/kindling/kindling/context/StartupMessagesCouldNotStartPinLaw" (some 0) with
  accessFlags := 49
  interfaces := #[]
  cf := some (fileOf pool1 33 #[] #[{ accessFlags := 2, nameIndex := 5, descriptorIndex := 6, attributes := #[] }, { accessFlags := 9, nameIndex := 37, descriptorIndex := 38, attributes := #[] }] 49 2 #[] #[])
  fields := #[]
  methods := #[k1m0, k1m1]
  instanceTypes := #[]
  staticTypes := #[]
  resolved := Array.replicate 44 none
  statics := none }

def pool2 : Array CpInfo := pool [(1, .class_ 2), (0, u "java/io/Serializable"), (0, .class_ 4), (0, u "java/lang/Object")] 2

/-- java/io/Serializable -/
def k2 : Class := { plain "java/io/Serializable" (some 0) with
  accessFlags := 1537
  interfaces := #[]
  cf := some (fileOf pool2 1 #[] #[] 1537 3 #[] #[])
  fields := #[]
  methods := #[]
  instanceTypes := #[]
  staticTypes := #[]
  resolved := Array.replicate 7 none
  statics := none }

def pool3 : Array CpInfo := pool [(1, .class_ 2), (0, u "java/lang/Comparable"), (0, .class_ 4), (0, u "java/lang/Object")] 7

/-- java/lang/Comparable -/
def k3 : Class := { plain "java/lang/Comparable" (some 0) with
  accessFlags := 1537
  interfaces := #[]
  cf := some (fileOf pool3 1 #[] #[] 1537 3 #[] #[])
  fields := #[]
  methods := #[]
  instanceTypes := #[]
  staticTypes := #[]
  resolved := Array.replicate 12 none
  statics := none }

def pool4 : Array CpInfo := pool [(2, .class_ 4), (1, u "java/lang/CharSequence"), (42, .class_ 48), (0, u "java/lang/CharSequence$1CodePointIterator"), (10, .class_ 60), (0, u "java/lang/CharSequence$1CharIterator"), (5, .class_ 67), (0, u "java/lang/Object")] 63

/-- java/lang/CharSequence -/
def k4 : Class := { plain "java/lang/CharSequence" (some 0) with
  accessFlags := 1537
  interfaces := #[]
  cf := some (fileOf pool4 2 #[.nestMembers #[47, 59]] #[] 1537 66 #[] #[])
  fields := #[]
  methods := #[]
  instanceTypes := #[]
  staticTypes := #[]
  resolved := Array.replicate 131 none
  statics := none }

def pool5 : Array CpInfo := pool [(1, .class_ 2), (0, u "java/lang/constant/Constable"), (0, .class_ 4), (0, u "java/lang/Object")] 6

/-- java/lang/constant/Constable -/
def k5 : Class := { plain "java/lang/constant/Constable" (some 0) with
  accessFlags := 1537
  interfaces := #[]
  cf := some (fileOf pool5 1 #[] #[] 1537 3 #[] #[])
  fields := #[]
  methods := #[]
  instanceTypes := #[]
  staticTypes := #[]
  resolved := Array.replicate 11 none
  statics := none }

def pool6 : Array CpInfo := pool [(1, .class_ 2), (0, u "java/lang/constant/ConstantDesc"), (0, .class_ 4), (0, u "java/lang/Object")] 32

/-- java/lang/constant/ConstantDesc -/
def k6 : Class := { plain "java/lang/constant/ConstantDesc" (some 0) with
  accessFlags := 1537
  interfaces := #[]
  cf := some (fileOf pool6 1 #[] #[] 1537 3 #[] #[])
  fields := #[]
  methods := #[]
  instanceTypes := #[]
  staticTypes := #[]
  resolved := Array.replicate 37 none
  statics := none }

def pool7 : Array CpInfo := pool [(1, .methodref 2 3), (0, .class_ 4), (0, .nameAndType 5 6), (0, u "java/lang/Object"), (0, u "<init>"), (0, u "()V"), (0, .string 8), (0, u ""), (0, .fieldref 10 11), (0, .class_ 12), (0, .nameAndType 13 14), (0, u "java/lang/String"), (0, u "value"), (0, u "[B"), (0, .fieldref 10 16), (0, .nameAndType 17 18), (0, u "coder"), (0, u "B"), (2, u "hash"), (0, u "I"), (2, u "hashIsZero"), (0, u "Z"), (0, .methodref 10 28), (0, .nameAndType 5 29), (0, u "([CIILjava/lang/Void;)V"), (6, u "checkBoundsOffCount"), (0, u "(III)I"), (0, .fieldref 10 39), (0, .nameAndType 40 26), (0, u "COMPACT_STRINGS"), (1, .class_ 44), (1, u "java/lang/StringUTF16"), (0, u "compress"), (1, .methodref 42 48), (0, .nameAndType 49 50), (0, u "coderFromArrayLen"), (0, u "([BI)B"), (3, .methodref 55 56), (0, .class_ 57), (0, .nameAndType 58 59), (0, u "java/util/Arrays"), (0, u "copyOfRange"), (0, u "([BII)[B"), (47, .class_ 109), (1, u "java/lang/StringLatin1"), (32, u "()Z"), (34, .methodref 42 178), (0, .nameAndType 45 179), (0, u "([CII)[B"), (13, .class_ 195), (1, u "java/lang/System"), (16, .methodref 193 213), (0, .nameAndType 214 215), (0, u "arraycopy"), (0, u "(Ljava/lang/Object;ILjava/lang/Object;II)V"), (118, u "()I"), (0, .methodref 10 336), (0, .nameAndType 17 337), (0, u "()B"), (2, u "()[B"), (22, u "([BI)C"), (27, u "(II)V"), (35, u "(I)C"), (61, .methodref 10 490), (0, .nameAndType 5 491), (0, u "(Ljava/lang/AbstractStringBuilder;Ljava/lang/Void;)V"), (0, .methodref 10 493), (0, .nameAndType 494 142), (0, u "isLatin1"), (0, .methodref 107 496), (0, .nameAndType 497 363), (0, u "charAt"), (3, u "checkIndex"), (4, .nameAndType 507 334), (0, u "length"), (24, u "getBytes"), (8, .methodref 107 542), (0, .nameAndType 543 544), (0, u "equals"), (0, u "([B[B)Z"), (4, .methodref 550 506), (0, .class_ 551), (0, u "java/lang/AbstractStringBuilder"), (0, .methodref 550 553), (0, .nameAndType 554 340), (0, u "getValue"), (18, u "(Ljava/lang/Object;)Z"), (1, .class_ 576), (0, u "java/lang/CharSequence"), (22, u "CASE_INSENSITIVE_ORDER"), (0, u "Ljava/util/Comparator;"), (220, u "([BIB)V"), (188, u "([C)V"), (36, .methodref 550 493), (0, .fieldref 550 1049), (0, .nameAndType 1050 26), (0, u "maybeLatin1"), (2, .fieldref 1054 1055), (0, .class_ 1056), (0, .nameAndType 1057 1058), (0, u "jdk/internal/util/Preconditions"), (0, u "SIOOBE_FORMATTER"), (0, u "Ljava/util/function/BiFunction;"), (0, .methodref 1054 1060), (0, .nameAndType 501 1061), (0, u "(IILjava/util/function/BiFunction;)I"), (2, u "(IIILjava/util/function/BiFunction;)I"), (0, .methodref 1054 1066), (0, .nameAndType 1067 1064), (0, u "checkFromIndexSize"), (33, u "serialPersistentFields"), (0, u "[Ljava/io/ObjectStreamField;"), (0, .class_ 1104), (0, u "java/lang/String$CaseInsensitiveComparator"), (1, .class_ 1107), (0, u "java/io/Serializable"), (0, .class_ 1109), (0, u "java/lang/Comparable"), (0, .class_ 1111), (0, u "java/lang/constant/Constable"), (0, .class_ 1113), (0, u "java/lang/constant/ConstantDesc"), (2, u "serialVersionUID"), (0, u "J"), (3, u "REPL"), (0, u "C"), (2, u "LATIN1"), (1, u "UTF16"), (105, u "(Ljava/lang/StringBuilder;)V")] 217

def k7m0 : Method := { name := "<init>", desc := "()V", sig := { parameters := [], returnType := none }, accessFlags := 1, code := none }
def k7c1 : Code := { maxStack := 5, maxLocals := 2, code := jdk_42_method_3_code, exceptionTable := #[], attributes := #[] }
def k7m1 : Method := { name := "<init>", desc := "([C)V", sig := { parameters := [(.array .char)], returnType := none }, accessFlags := 1, code := some k7c1 }
def k7c2 : Code := { maxStack := 3, maxLocals := 2, code := jdk_42_method_53_code, exceptionTable := #[], attributes := #[] }
def k7m2 : Method := { name := "<init>", desc := "(Ljava/lang/StringBuilder;)V", sig := { parameters := [(.object "java/lang/StringBuilder")], returnType := none }, accessFlags := 1, code := some k7c2 }
def k7c3 : Code := { maxStack := 2, maxLocals := 1, code := jdk_42_method_54_code, exceptionTable := #[], attributes := #[] }
def k7m3 : Method := { name := "length", desc := "()I", sig := { parameters := [], returnType := some .int }, accessFlags := 1, code := some k7c3 }
def k7c4 : Code := { maxStack := 2, maxLocals := 2, code := jdk_42_method_56_code, exceptionTable := #[], attributes := #[] }
def k7m4 : Method := { name := "charAt", desc := "(I)C", sig := { parameters := [.int], returnType := some .char }, accessFlags := 1, code := some k7c4 }
def k7c5 : Code := { maxStack := 2, maxLocals := 3, code := jdk_42_method_66_code, exceptionTable := #[], attributes := #[] }
def k7m5 : Method := { name := "equals", desc := "(Ljava/lang/Object;)Z", sig := { parameters := [(.object "java/lang/Object")], returnType := some .boolean }, accessFlags := 1, code := some k7c5 }
def k7c6 : Code := { maxStack := 5, maxLocals := 4, code := jdk_42_method_147_code, exceptionTable := #[], attributes := #[] }
def k7m6 : Method := { name := "getBytes", desc := "([BIB)V", sig := { parameters := [(.array .byte), .int, .byte], returnType := none }, accessFlags := 0, code := some k7c6 }
def k7c7 : Code := { maxStack := 4, maxLocals := 6, code := jdk_42_method_149_code, exceptionTable := #[], attributes := #[] }
def k7m7 : Method := { name := "<init>", desc := "([CIILjava/lang/Void;)V", sig := { parameters := [(.array .char), .int, .int, (.object "java/lang/Void")], returnType := none }, accessFlags := 2, code := some k7c7 }
def k7c8 : Code := { maxStack := 5, maxLocals := 5, code := jdk_42_method_150_code, exceptionTable := #[], attributes := #[] }
def k7m8 : Method := { name := "<init>", desc := "(Ljava/lang/AbstractStringBuilder;Ljava/lang/Void;)V", sig := { parameters := [(.object "java/lang/AbstractStringBuilder"), (.object "java/lang/Void")], returnType := none }, accessFlags := 0, code := some k7c8 }
def k7c9 : Code := { maxStack := 1, maxLocals := 1, code := jdk_42_method_152_code, exceptionTable := #[], attributes := #[] }
def k7m9 : Method := { name := "coder", desc := "()B", sig := { parameters := [], returnType := some .byte }, accessFlags := 0, code := some k7c9 }
def k7c10 : Code := { maxStack := 1, maxLocals := 1, code := jdk_42_method_154_code, exceptionTable := #[], attributes := #[] }
def k7m10 : Method := { name := "isLatin1", desc := "()Z", sig := { parameters := [], returnType := some .boolean }, accessFlags := 0, code := some k7c10 }
def k7c11 : Code := { maxStack := 3, maxLocals := 2, code := jdk_42_method_155_code, exceptionTable := #[], attributes := #[] }
def k7m11 : Method := { name := "checkIndex", desc := "(II)V", sig := { parameters := [.int, .int], returnType := none }, accessFlags := 8, code := some k7c11 }
def k7c12 : Code := { maxStack := 4, maxLocals := 3, code := jdk_42_method_157_code, exceptionTable := #[], attributes := #[] }
def k7m12 : Method := { name := "checkBoundsOffCount", desc := "(III)I", sig := { parameters := [.int, .int, .int], returnType := some .int }, accessFlags := 8, code := some k7c12 }
/-- java/lang/String -/
def k7 : Class := { plain "java/lang/String" (some 0) with
  accessFlags := 49
  interfaces := #[2, 3, 4, 5, 6]
  cf := some (fileOf pool7 10 #[.nestMembers #[1103]] #[{ accessFlags := 1, nameIndex := 5, descriptorIndex := 6, attributes := #[] }, { accessFlags := 1, nameIndex := 5, descriptorIndex := 1010, attributes := #[] }, { accessFlags := 1, nameIndex := 5, descriptorIndex := 1233, attributes := #[] }, { accessFlags := 1, nameIndex := 507, descriptorIndex := 334, attributes := #[] }, { accessFlags := 1, nameIndex := 497, descriptorIndex := 427, attributes := #[] }, { accessFlags := 1, nameIndex := 543, descriptorIndex := 573, attributes := #[] }, { accessFlags := 0, nameIndex := 532, descriptorIndex := 821, attributes := #[] }, { accessFlags := 2, nameIndex := 5, descriptorIndex := 29, attributes := #[] }, { accessFlags := 0, nameIndex := 5, descriptorIndex := 491, attributes := #[] }, { accessFlags := 0, nameIndex := 17, descriptorIndex := 337, attributes := #[] }, { accessFlags := 0, nameIndex := 494, descriptorIndex := 142, attributes := #[] }, { accessFlags := 8, nameIndex := 501, descriptorIndex := 391, attributes := #[] }, { accessFlags := 8, nameIndex := 36, descriptorIndex := 37, attributes := #[] }] 49 2 #[1106, 1108, 575, 1110, 1112] #[{ accessFlags := 18, nameIndex := 13, descriptorIndex := 14, attributes := #[] }, { accessFlags := 18, nameIndex := 17, descriptorIndex := 18, attributes := #[] }, { accessFlags := 2, nameIndex := 21, descriptorIndex := 22, attributes := #[] }, { accessFlags := 2, nameIndex := 25, descriptorIndex := 26, attributes := #[] }, { accessFlags := 26, nameIndex := 1116, descriptorIndex := 1117, attributes := #[] }, { accessFlags := 24, nameIndex := 40, descriptorIndex := 26, attributes := #[] }, { accessFlags := 26, nameIndex := 1101, descriptorIndex := 1102, attributes := #[] }, { accessFlags := 26, nameIndex := 1121, descriptorIndex := 1122, attributes := #[] }, { accessFlags := 25, nameIndex := 599, descriptorIndex := 600, attributes := #[] }, { accessFlags := 24, nameIndex := 1125, descriptorIndex := 18, attributes := #[] }, { accessFlags := 24, nameIndex := 1127, descriptorIndex := 18, attributes := #[] }])
  fields := #[{ name := "value", type := (.array .byte), accessFlags := 18, slot := 0, constantValue := 0 }, { name := "coder", type := .byte, accessFlags := 18, slot := 1, constantValue := 0 }, { name := "hash", type := .int, accessFlags := 2, slot := 2, constantValue := 0 }, { name := "hashIsZero", type := .boolean, accessFlags := 2, slot := 3, constantValue := 0 }, { name := "serialVersionUID", type := .long, accessFlags := 26, slot := 0, constantValue := 0 }, { name := "COMPACT_STRINGS", type := .boolean, accessFlags := 24, slot := 1, constantValue := 0 }, { name := "serialPersistentFields", type := (.array (.object "java/io/ObjectStreamField")), accessFlags := 26, slot := 2, constantValue := 0 }, { name := "REPL", type := .char, accessFlags := 26, slot := 3, constantValue := 0 }, { name := "CASE_INSENSITIVE_ORDER", type := (.object "java/util/Comparator"), accessFlags := 25, slot := 4, constantValue := 0 }, { name := "LATIN1", type := .byte, accessFlags := 24, slot := 5, constantValue := 0 }, { name := "UTF16", type := .byte, accessFlags := 24, slot := 6, constantValue := 0 }]
  methods := #[k7m0, k7m1, k7m2, k7m3, k7m4, k7m5, k7m6, k7m7, k7m8, k7m9, k7m10, k7m11, k7m12]
  instanceTypes := #[(.array .byte), .byte, .int, .boolean]
  staticTypes := #[.long, .boolean, (.array (.object "java/io/ObjectStreamField")), .char, (.object "java/util/Comparator"), .byte, .byte]
  resolved := Array.replicate 1451 none
  statics := some 0 }

def pool8 : Array CpInfo := pool [(1, .class_ 2), (0, u "java/lang/String"), (1, .class_ 6), (1, u "java/lang/Object"), (0, u "<init>"), (0, u "()V"), (0, .methodref 1 10), (0, .nameAndType 11 12), (0, u "checkIndex"), (0, u "(II)V"), (1, .class_ 16), (1, u "java/lang/StringLatin1"), (0, u "inflate"), (2, .class_ 22), (1, u "java/lang/StringUTF16"), (3, .nameAndType 17 27), (0, u "([BI[BII)V"), (25, u "([BI)C"), (67, u "$assertionsDisabled"), (0, u "Z"), (98, .class_ 223), (1, u "java/lang/StringLatin1$LinesSpliterator"), (16, .methodref 20 26), (11, u "charAt"), (28, u "equals"), (0, u "([B[B)Z"), (107, .class_ 391), (0, u "java/lang/StringLatin1$CharsSpliterator")] 3

def k8m0 : Method := { name := "<init>", desc := "()V", sig := { parameters := [], returnType := none }, accessFlags := 0, code := none }
def k8c1 : Code := { maxStack := 2, maxLocals := 2, code := jdk_43_method_2_code, exceptionTable := #[], attributes := #[] }
def k8m1 : Method := { name := "charAt", desc := "([BI)C", sig := { parameters := [(.array .byte), .int], returnType := some .char }, accessFlags := 9, code := some k8c1 }
def k8c2 : Code := { maxStack := 3, maxLocals := 3, code := jdk_43_method_13_code, exceptionTable := #[], attributes := #[] }
def k8m2 : Method := { name := "equals", desc := "([B[B)Z", sig := { parameters := [(.array .byte), (.array .byte)], returnType := some .boolean }, accessFlags := 9, code := some k8c2 }
def k8c3 : Code := { maxStack := 5, maxLocals := 5, code := jdk_43_method_50_code, exceptionTable := #[], attributes := #[] }
def k8m3 : Method := { name := "inflate", desc := "([BI[BII)V", sig := { parameters := [(.array .byte), .int, (.array .byte), .int, .int], returnType := none }, accessFlags := 9, code := some k8c3 }
/-- java/lang/StringLatin1 -/
def k8 : Class := { plain "java/lang/StringLatin1" (some 0) with
  accessFlags := 48
  interfaces := #[]
  cf := some (fileOf pool8 14 #[.nestMembers #[390, 221]] #[{ accessFlags := 0, nameIndex := 7, descriptorIndex := 8, attributes := #[] }, { accessFlags := 9, nameIndex := 252, descriptorIndex := 53, attributes := #[] }, { accessFlags := 9, nameIndex := 281, descriptorIndex := 282, attributes := #[] }, { accessFlags := 9, nameIndex := 17, descriptorIndex := 27, attributes := #[] }] 48 4 #[] #[{ accessFlags := 4120, nameIndex := 121, descriptorIndex := 122, attributes := #[] }])
  fields := #[{ name := "$assertionsDisabled", type := .boolean, accessFlags := 4120, slot := 0, constantValue := 0 }]
  methods := #[k8m0, k8m1, k8m2, k8m3]
  instanceTypes := #[]
  staticTypes := #[.boolean]
  resolved := Array.replicate 395 none
  statics := none }

def pool9 : Array CpInfo := pool [(2, .class_ 4), (1, u "java/lang/Object"), (0, u "<init>"), (0, u "()V"), (17, .class_ 26), (1, u "jdk/internal/util/Preconditions"), (6, u "checkIndex"), (15, u "checkFromIndexSize"), (5, .class_ 56), (0, u "jdk/internal/util/Preconditions$4"), (57, .class_ 115), (0, u "jdk/internal/util/Preconditions$1"), (7, u "SIOOBE_FORMATTER"), (0, u "Ljava/util/function/BiFunction;"), (0, .class_ 126), (0, u "jdk/internal/util/Preconditions$2"), (3, u "AIOOBE_FORMATTER"), (0, .class_ 132), (0, u "jdk/internal/util/Preconditions$3"), (3, u "IOOBE_FORMATTER"), (41, u "(IILjava/util/function/BiFunction;)I"), (4, u "(IIILjava/util/function/BiFunction;)I")] 10

def k9m0 : Method := { name := "<init>", desc := "()V", sig := { parameters := [], returnType := none }, accessFlags := 1, code := none }
def k9c1 : Code := { maxStack := 3, maxLocals := 3, code := jdk_41_method_11_code, exceptionTable := #[], attributes := #[] }
def k9m1 : Method := { name := "checkIndex", desc := "(IILjava/util/function/BiFunction;)I", sig := { parameters := [.int, .int, (.object "java/util/function/BiFunction")], returnType := some .int }, accessFlags := 9, code := some k9c1 }
def k9c2 : Code := { maxStack := 4, maxLocals := 4, code := jdk_41_method_13_code, exceptionTable := #[], attributes := #[] }
def k9m2 : Method := { name := "checkFromIndexSize", desc := "(IIILjava/util/function/BiFunction;)I", sig := { parameters := [.int, .int, .int, (.object "java/util/function/BiFunction")], returnType := some .int }, accessFlags := 9, code := some k9c2 }
/-- jdk/internal/util/Preconditions -/
def k9 : Class := { plain "jdk/internal/util/Preconditions" (some 0) with
  accessFlags := 33
  interfaces := #[]
  cf := some (fileOf pool9 24 #[.nestMembers #[55, 131, 125, 114]] #[{ accessFlags := 1, nameIndex := 5, descriptorIndex := 6, attributes := #[] }, { accessFlags := 9, nameIndex := 33, descriptorIndex := 178, attributes := #[] }, { accessFlags := 9, nameIndex := 49, descriptorIndex := 183, attributes := #[] }] 33 2 #[] #[{ accessFlags := 25, nameIndex := 123, descriptorIndex := 124, attributes := #[] }, { accessFlags := 25, nameIndex := 130, descriptorIndex := 124, attributes := #[] }, { accessFlags := 25, nameIndex := 136, descriptorIndex := 124, attributes := #[] }])
  fields := #[{ name := "SIOOBE_FORMATTER", type := (.object "java/util/function/BiFunction"), accessFlags := 25, slot := 0, constantValue := 0 }, { name := "AIOOBE_FORMATTER", type := (.object "java/util/function/BiFunction"), accessFlags := 25, slot := 1, constantValue := 0 }, { name := "IOOBE_FORMATTER", type := (.object "java/util/function/BiFunction"), accessFlags := 25, slot := 2, constantValue := 0 }]
  methods := #[k9m0, k9m1, k9m2]
  instanceTypes := #[]
  staticTypes := #[(.object "java/util/function/BiFunction"), (.object "java/util/function/BiFunction"), (.object "java/util/function/BiFunction")]
  resolved := Array.replicate 194 none
  statics := some 1 }

def pool10 : Array CpInfo := pool [(3, .class_ 4), (0, u "java/lang/String"), (1, .class_ 8), (1, u "java/lang/Object"), (0, u "<init>"), (0, u "()V"), (0, .methodref 12 13), (0, .class_ 14), (0, .nameAndType 15 16), (0, u "java/lang/StringUTF16"), (0, u "newBytesLength"), (0, u "(I)I"), (3, .integer 1073741823), (23, .fieldref 12 45), (0, .nameAndType 46 47), (0, u "$assertionsDisabled"), (0, u "Z"), (0, .methodref 12 49), (0, .nameAndType 50 51), (0, u "length"), (0, u "([B)I"), (7, .fieldref 12 60), (0, .nameAndType 61 62), (0, u "HI_BYTE_SHIFT"), (0, u "I"), (0, .fieldref 12 64), (0, .nameAndType 65 62), (0, u "LO_BYTE_SHIFT"), (5, .methodref 12 72), (0, .nameAndType 73 74), (0, u "getChar"), (0, u "([BI)C"), (24, u "(II[B)V"), (7, .methodref 12 108), (0, .nameAndType 109 110), (0, u "newBytesFor"), (0, u "(I)[B"), (0, .methodref 12 112), (0, .nameAndType 113 114), (0, u "putChar"), (0, u "([BII)V"), (0, .methodref 12 116), (0, .nameAndType 117 118), (0, u "compress"), (0, u "([CI[BII)I"), (0, .methodref 12 120), (0, .nameAndType 121 122), (0, u "toBytes"), (0, u "([CII)[B"), (17, u "inflate"), (0, u "([BI[BII)V"), (31, .methodref 12 174), (0, .nameAndType 175 99), (0, u "checkBoundsOffCount"), (85, u "coderFromArrayLen"), (0, u "([BI)B"), (18, u "(III)I"), (87, .class_ 371), (1, u "java/lang/StringUTF16$LinesSpliterator"), (47, .methodref 3 420), (0, .nameAndType 175 281), (9, u "MAX_LENGTH"), (196, .class_ 628), (0, u "java/lang/StringUTF16$CodePointsSpliterator"), (0, .class_ 630), (0, u "java/lang/StringUTF16$CharsSpliterator")] 4

def k10m0 : Method := { name := "<init>", desc := "()V", sig := { parameters := [], returnType := none }, accessFlags := 0, code := none }
def k10c1 : Code := { maxStack := 1, maxLocals := 1, code := jdk_52_method_2_code, exceptionTable := #[], attributes := #[] }
def k10m1 : Method := { name := "newBytesFor", desc := "(I)[B", sig := { parameters := [.int], returnType := some (.array .byte) }, accessFlags := 9, code := some k10c1 }
def k10c2 : Code := { maxStack := 4, maxLocals := 1, code := jdk_52_method_3_code, exceptionTable := #[], attributes := #[] }
def k10m2 : Method := { name := "newBytesLength", desc := "(I)I", sig := { parameters := [.int], returnType := some .int }, accessFlags := 9, code := some k10c2 }
def k10c3 : Code := { maxStack := 4, maxLocals := 3, code := jdk_52_method_4_code, exceptionTable := #[], attributes := #[] }
def k10m3 : Method := { name := "putChar", desc := "([BII)V", sig := { parameters := [(.array .byte), .int, .int], returnType := none }, accessFlags := 8, code := some k10c3 }
def k10c4 : Code := { maxStack := 3, maxLocals := 2, code := jdk_52_method_5_code, exceptionTable := #[], attributes := #[] }
def k10m4 : Method := { name := "getChar", desc := "([BI)C", sig := { parameters := [(.array .byte), .int], returnType := some .char }, accessFlags := 8, code := some k10c4 }
def k10c5 : Code := { maxStack := 2, maxLocals := 1, code := jdk_52_method_6_code, exceptionTable := #[], attributes := #[] }
def k10m5 : Method := { name := "length", desc := "([B)I", sig := { parameters := [(.array .byte)], returnType := some .int }, accessFlags := 9, code := some k10c5 }
def k10c6 : Code := { maxStack := 4, maxLocals := 5, code := jdk_52_method_14_code, exceptionTable := #[], attributes := #[] }
def k10m6 : Method := { name := "toBytes", desc := "([CII)[B", sig := { parameters := [(.array .char), .int, .int], returnType := some (.array .byte) }, accessFlags := 9, code := some k10c6 }
def k10c7 : Code := { maxStack := 2, maxLocals := 2, code := jdk_52_method_15_code, exceptionTable := #[], attributes := #[] }
def k10m7 : Method := { name := "coderFromArrayLen", desc := "([BI)B", sig := { parameters := [(.array .byte), .int], returnType := some .byte }, accessFlags := 8, code := some k10c7 }
def k10c8 : Code := { maxStack := 5, maxLocals := 6, code := jdk_52_method_16_code, exceptionTable := #[], attributes := #[] }
def k10m8 : Method := { name := "compress", desc := "([CII)[B", sig := { parameters := [(.array .char), .int, .int], returnType := some (.array .byte) }, accessFlags := 9, code := some k10c8 }
def k10c9 : Code := { maxStack := 3, maxLocals := 7, code := jdk_52_method_21_code, exceptionTable := #[], attributes := #[] }
def k10m9 : Method := { name := "compress", desc := "([CI[BII)I", sig := { parameters := [(.array .char), .int, (.array .byte), .int, .int], returnType := some .int }, accessFlags := 9, code := some k10c9 }
def k10c10 : Code := { maxStack := 4, maxLocals := 6, code := jdk_52_method_86_code, exceptionTable := #[], attributes := #[] }
def k10m10 : Method := { name := "inflate", desc := "([BI[BII)V", sig := { parameters := [(.array .byte), .int, (.array .byte), .int, .int], returnType := none }, accessFlags := 9, code := some k10c10 }
def k10c11 : Code := { maxStack := 3, maxLocals := 3, code := jdk_52_method_94_code, exceptionTable := #[], attributes := #[] }
def k10m11 : Method := { name := "checkBoundsOffCount", desc := "(II[B)V", sig := { parameters := [.int, .int, (.array .byte)], returnType := none }, accessFlags := 9, code := some k10c11 }
/-- java/lang/StringUTF16 -/
def k10 : Class := { plain "java/lang/StringUTF16" (some 0) with
  accessFlags := 48
  interfaces := #[]
  cf := some (fileOf pool10 12 #[.nestMembers #[627, 629, 369]] #[{ accessFlags := 0, nameIndex := 9, descriptorIndex := 10, attributes := #[] }, { accessFlags := 9, nameIndex := 109, descriptorIndex := 110, attributes := #[] }, { accessFlags := 9, nameIndex := 15, descriptorIndex := 16, attributes := #[] }, { accessFlags := 8, nameIndex := 113, descriptorIndex := 114, attributes := #[] }, { accessFlags := 8, nameIndex := 73, descriptorIndex := 74, attributes := #[] }, { accessFlags := 9, nameIndex := 50, descriptorIndex := 51, attributes := #[] }, { accessFlags := 9, nameIndex := 121, descriptorIndex := 122, attributes := #[] }, { accessFlags := 8, nameIndex := 261, descriptorIndex := 262, attributes := #[] }, { accessFlags := 9, nameIndex := 117, descriptorIndex := 122, attributes := #[] }, { accessFlags := 9, nameIndex := 117, descriptorIndex := 118, attributes := #[] }, { accessFlags := 9, nameIndex := 140, descriptorIndex := 141, attributes := #[] }, { accessFlags := 9, nameIndex := 175, descriptorIndex := 99, attributes := #[] }] 48 6 #[] #[{ accessFlags := 26, nameIndex := 61, descriptorIndex := 62, attributes := #[] }, { accessFlags := 26, nameIndex := 65, descriptorIndex := 62, attributes := #[] }, { accessFlags := 24, nameIndex := 430, descriptorIndex := 62, attributes := #[] }, { accessFlags := 4120, nameIndex := 46, descriptorIndex := 47, attributes := #[] }])
  fields := #[{ name := "HI_BYTE_SHIFT", type := .int, accessFlags := 26, slot := 0, constantValue := 0 }, { name := "LO_BYTE_SHIFT", type := .int, accessFlags := 26, slot := 1, constantValue := 0 }, { name := "MAX_LENGTH", type := .int, accessFlags := 24, slot := 2, constantValue := 0 }, { name := "$assertionsDisabled", type := .boolean, accessFlags := 4120, slot := 3, constantValue := 0 }]
  methods := #[k10m0, k10m1, k10m2, k10m3, k10m4, k10m5, k10m6, k10m7, k10m8, k10m9, k10m10, k10m11]
  instanceTypes := #[]
  staticTypes := #[.int, .int, .int, .boolean]
  resolved := Array.replicate 635 none
  statics := some 2 }

def pool11 : Array CpInfo := pool [(2, .class_ 4), (0, .nameAndType 5 6), (0, u "java/lang/Object"), (0, u "<init>"), (0, u "()V"), (2, .methodref 10 11), (0, .class_ 12), (0, .nameAndType 13 14), (0, u "java/util/Objects"), (0, u "requireNonNull"), (0, u "(Ljava/lang/Object;Ljava/lang/String;)Ljava/lang/Object;"), (0, .class_ 16), (0, u "com/example/kindling/kindling/context/StartupMessages"), (3, .class_ 21), (0, u "java/lang/StringBuilder"), (0, .methodref 20 3), (2, .methodref 20 26), (0, .nameAndType 27 28), (0, u "append"), (0, u "(Ljava/lang/String;)Ljava/lang/StringBuilder;"), (3, .methodref 20 33), (0, .nameAndType 34 35), (0, u "toString"), (0, u "()Ljava/lang/String;"), (25, .string 62), (0, u "cause"), (0, .string 64), (0, u "Kindling could not start: "), (0, u "NO_HTTP_PORT"), (0, u "I"), (14, u "couldNotStart"), (0, u "(Ljava/lang/String;)Ljava/lang/String;")] 2

def k11m0 : Method := { name := "<init>", desc := "()V", sig := { parameters := [], returnType := none }, accessFlags := 2, code := none }
def k11c1 : Code := { maxStack := 2, maxLocals := 1, code := prog_48_method_4_code, exceptionTable := #[], attributes := #[] }
def k11m1 : Method := { name := "couldNotStart", desc := "(Ljava/lang/String;)Ljava/lang/String;", sig := { parameters := [(.object "java/lang/String")], returnType := some (.object "java/lang/String") }, accessFlags := 8, code := some k11c1 }
/-- com/example/kindling/kindling/context/StartupMessages -/
def k11 : Class := { plain "com/example/kindling/kindling/context/StartupMessages" (some 0) with
  accessFlags := 48
  interfaces := #[]
  cf := some (fileOf pool11 15 #[] #[{ accessFlags := 2, nameIndex := 5, descriptorIndex := 6, attributes := #[] }, { accessFlags := 8, nameIndex := 81, descriptorIndex := 82, attributes := #[] }] 48 2 #[] #[{ accessFlags := 24, nameIndex := 65, descriptorIndex := 66, attributes := #[] }])
  fields := #[{ name := "NO_HTTP_PORT", type := .int, accessFlags := 24, slot := 0, constantValue := 0 }]
  methods := #[k11m0, k11m1]
  instanceTypes := #[]
  staticTypes := #[.int]
  resolved := Array.replicate 85 none
  statics := none }

def pool12 : Array CpInfo := pool [(2, .class_ 4), (1, u "java/lang/Object"), (0, u "<init>"), (0, u "()V"), (35, .class_ 44), (1, u "java/util/Objects"), (0, u "requireNonNull"), (48, u "(Ljava/lang/Object;Ljava/lang/String;)Ljava/lang/Object;")] 89

def k12m0 : Method := { name := "<init>", desc := "()V", sig := { parameters := [], returnType := none }, accessFlags := 2, code := none }
def k12c1 : Code := { maxStack := 3, maxLocals := 2, code := jdk_31_method_11_code, exceptionTable := #[], attributes := #[] }
def k12m1 : Method := { name := "requireNonNull", desc := "(Ljava/lang/Object;Ljava/lang/String;)Ljava/lang/Object;", sig := { parameters := [(.object "java/lang/Object"), (.object "java/lang/String")], returnType := some (.object "java/lang/Object") }, accessFlags := 9, code := some k12c1 }
/-- java/util/Objects -/
def k12 : Class := { plain "java/util/Objects" (some 0) with
  accessFlags := 49
  interfaces := #[]
  cf := some (fileOf pool12 42 #[] #[{ accessFlags := 2, nameIndex := 5, descriptorIndex := 6, attributes := #[] }, { accessFlags := 9, nameIndex := 45, descriptorIndex := 94, attributes := #[] }] 49 2 #[] #[])
  fields := #[]
  methods := #[k12m0, k12m1]
  instanceTypes := #[]
  staticTypes := #[]
  resolved := Array.replicate 184 none
  statics := none }

def pool13 : Array CpInfo := pool [(1, .class_ 2), (0, u "java/lang/Appendable"), (0, .class_ 4), (0, u "java/lang/Object")] 9

/-- java/lang/Appendable -/
def k13 : Class := { plain "java/lang/Appendable" (some 0) with
  accessFlags := 1537
  interfaces := #[]
  cf := some (fileOf pool13 1 #[] #[] 1537 3 #[] #[])
  fields := #[]
  methods := #[]
  instanceTypes := #[]
  staticTypes := #[]
  resolved := Array.replicate 14 none
  statics := none }

def pool14 : Array CpInfo := pool [(1, .class_ 2), (0, u "java/lang/String"), (0, .methodref 4 5), (0, .class_ 6), (0, .nameAndType 7 8), (0, u "java/lang/Object"), (0, u "<init>"), (0, u "()V"), (1, .class_ 12), (1, u "java/lang/AbstractStringBuilder"), (0, u "EMPTYVALUE"), (0, u "[B"), (0, .fieldref 10 16), (0, .nameAndType 17 14), (0, u "value"), (0, .fieldref 1 19), (0, .nameAndType 20 21), (0, u "COMPACT_STRINGS"), (0, u "Z"), (0, .fieldref 10 23), (0, .nameAndType 24 25), (0, u "coder"), (0, u "B"), (0, .methodref 27 28), (0, .class_ 29), (0, .nameAndType 30 31), (0, u "java/lang/StringUTF16"), (0, u "newBytesFor"), (0, u "(I)[B"), (0, .methodref 1 33), (0, .nameAndType 34 35), (0, u "length"), (0, u "()I"), (3, .integer 2147483647), (0, .methodref 1 41), (0, .nameAndType 24 42), (0, u "()B"), (2, u "append"), (0, u "(Ljava/lang/String;)Ljava/lang/AbstractStringBuilder;"), (1, .class_ 49), (0, u "java/lang/CharSequence"), (19, u "(Ljava/lang/String;)V"), (5, u "maybeLatin1"), (3, .fieldref 10 80), (0, .nameAndType 81 82), (0, u "count"), (0, u "I"), (0, .methodref 10 84), (0, .nameAndType 85 86), (0, u "isLatin1"), (0, u "()Z"), (1, .class_ 90), (1, u "java/lang/StringLatin1"), (9, .methodref 10 101), (0, .nameAndType 102 103), (0, u "ensureCapacityInternal"), (0, u "(I)V"), (0, .methodref 10 105), (0, .nameAndType 106 107), (0, u "newCapacity"), (0, u "(I)I"), (0, .methodref 109 110), (0, .class_ 111), (0, .nameAndType 112 113), (0, u "java/util/Arrays"), (0, u "copyOf"), (0, u "([BI)[B"), (0, .methodref 115 116), (0, .class_ 117), (0, .nameAndType 118 119), (0, u "jdk/internal/util/ArraysSupport"), (0, u "newLength"), (0, u "(III)I"), (5, .methodref 88 126), (0, .nameAndType 127 128), (0, u "inflate"), (0, u "([BI[BII)V"), (66, .methodref 10 196), (0, .nameAndType 127 8), (11, .methodref 10 209), (0, .nameAndType 210 211), (0, u "putStringAt"), (0, u "(ILjava/lang/String;)V"), (5, u "inflateIfNeededFor"), (2, .nameAndType 221 222), (0, u "getBytes"), (0, u "([BIB)V"), (174, .methodref 10 398), (0, .nameAndType 217 69), (0, .methodref 1 220), (3, u "()[B"), (40, .class_ 445), (0, u "java/lang/Appendable"), (106, u "getValue")] 56

def k14m0 : Method := { name := "<init>", desc := "()V", sig := { parameters := [], returnType := none }, accessFlags := 0, code := none }
def k14c1 : Code := { maxStack := 2, maxLocals := 2, code := jdk_68_method_2_code, exceptionTable := #[], attributes := #[] }
def k14m1 : Method := { name := "<init>", desc := "(I)V", sig := { parameters := [.int], returnType := none }, accessFlags := 0, code := some k14c1 }
def k14c2 : Code := { maxStack := 1, maxLocals := 1, code := jdk_68_method_6_code, exceptionTable := #[], attributes := #[] }
def k14m2 : Method := { name := "length", desc := "()I", sig := { parameters := [], returnType := some .int }, accessFlags := 1, code := some k14c2 }
def k14c3 : Code := { maxStack := 4, maxLocals := 3, code := jdk_68_method_9_code, exceptionTable := #[], attributes := #[] }
def k14m3 : Method := { name := "ensureCapacityInternal", desc := "(I)V", sig := { parameters := [.int], returnType := none }, accessFlags := 2, code := some k14c3 }
def k14c4 : Code := { maxStack := 5, maxLocals := 6, code := jdk_68_method_10_code, exceptionTable := #[], attributes := #[] }
def k14m4 : Method := { name := "newCapacity", desc := "(I)I", sig := { parameters := [.int], returnType := some .int }, accessFlags := 2, code := some k14c4 }
def k14c5 : Code := { maxStack := 5, maxLocals := 2, code := jdk_68_method_11_code, exceptionTable := #[], attributes := #[] }
def k14m5 : Method := { name := "inflate", desc := "()V", sig := { parameters := [], returnType := none }, accessFlags := 2, code := some k14c5 }
def k14c6 : Code := { maxStack := 3, maxLocals := 3, code := jdk_68_method_22_code, exceptionTable := #[], attributes := #[] }
def k14m6 : Method := { name := "append", desc := "(Ljava/lang/String;)Ljava/lang/AbstractStringBuilder;", sig := { parameters := [(.object "java/lang/String")], returnType := some (.object "java/lang/AbstractStringBuilder") }, accessFlags := 1, code := some k14c6 }
def k14c7 : Code := { maxStack := 1, maxLocals := 1, code := jdk_68_method_64_code, exceptionTable := #[], attributes := #[] }
def k14m7 : Method := { name := "getValue", desc := "()[B", sig := { parameters := [], returnType := some (.array .byte) }, accessFlags := 16, code := some k14c7 }
def k14c8 : Code := { maxStack := 1, maxLocals := 1, code := jdk_68_method_68_code, exceptionTable := #[], attributes := #[] }
def k14m8 : Method := { name := "isLatin1", desc := "()Z", sig := { parameters := [], returnType := some .boolean }, accessFlags := 16, code := some k14c8 }
def k14c9 : Code := { maxStack := 2, maxLocals := 2, code := jdk_68_method_71_code, exceptionTable := #[], attributes := #[] }
def k14m9 : Method := { name := "inflateIfNeededFor", desc := "(Ljava/lang/String;)V", sig := { parameters := [(.object "java/lang/String")], returnType := none }, accessFlags := 2, code := some k14c9 }
def k14c10 : Code := { maxStack := 4, maxLocals := 3, code := jdk_68_method_73_code, exceptionTable := #[], attributes := #[] }
def k14m10 : Method := { name := "putStringAt", desc := "(ILjava/lang/String;)V", sig := { parameters := [.int, (.object "java/lang/String")], returnType := none }, accessFlags := 2, code := some k14c10 }
/-- java/lang/AbstractStringBuilder -/
def k14 : Class := { plain "java/lang/AbstractStringBuilder" (some 0) with
  accessFlags := 1056
  interfaces := #[13, 4]
  cf := some (fileOf pool14 10 #[] #[{ accessFlags := 0, nameIndex := 7, descriptorIndex := 8, attributes := #[] }, { accessFlags := 0, nameIndex := 7, descriptorIndex := 103, attributes := #[] }, { accessFlags := 1, nameIndex := 34, descriptorIndex := 35, attributes := #[] }, { accessFlags := 2, nameIndex := 102, descriptorIndex := 103, attributes := #[] }, { accessFlags := 2, nameIndex := 106, descriptorIndex := 107, attributes := #[] }, { accessFlags := 2, nameIndex := 127, descriptorIndex := 8, attributes := #[] }, { accessFlags := 1, nameIndex := 45, descriptorIndex := 46, attributes := #[] }, { accessFlags := 16, nameIndex := 552, descriptorIndex := 403, attributes := #[] }, { accessFlags := 16, nameIndex := 85, descriptorIndex := 86, attributes := #[] }, { accessFlags := 2, nameIndex := 217, descriptorIndex := 69, attributes := #[] }, { accessFlags := 2, nameIndex := 210, descriptorIndex := 211, attributes := #[] }] 1056 4 #[444, 48] #[{ accessFlags := 0, nameIndex := 17, descriptorIndex := 14, attributes := #[] }, { accessFlags := 0, nameIndex := 24, descriptorIndex := 25, attributes := #[] }, { accessFlags := 0, nameIndex := 75, descriptorIndex := 21, attributes := #[] }, { accessFlags := 0, nameIndex := 81, descriptorIndex := 82, attributes := #[] }, { accessFlags := 26, nameIndex := 13, descriptorIndex := 14, attributes := #[] }])
  fields := #[{ name := "value", type := (.array .byte), accessFlags := 0, slot := 0, constantValue := 0 }, { name := "coder", type := .byte, accessFlags := 0, slot := 1, constantValue := 0 }, { name := "maybeLatin1", type := .boolean, accessFlags := 0, slot := 2, constantValue := 0 }, { name := "count", type := .int, accessFlags := 0, slot := 3, constantValue := 0 }, { name := "EMPTYVALUE", type := (.array .byte), accessFlags := 26, slot := 0, constantValue := 0 }]
  methods := #[k14m0, k14m1, k14m2, k14m3, k14m4, k14m5, k14m6, k14m7, k14m8, k14m9, k14m10]
  instanceTypes := #[(.array .byte), .byte, .boolean, .int]
  staticTypes := #[(.array .byte)]
  resolved := Array.replicate 609 none
  statics := none }

def pool15 : Array CpInfo := pool [(1, .methodref 2 3), (0, .class_ 4), (0, .nameAndType 5 6), (0, u "java/lang/AbstractStringBuilder"), (0, u "<init>"), (0, u "(I)V"), (11, .class_ 20), (1, u "java/lang/String"), (3, .class_ 26), (1, u "java/lang/StringBuilder"), (0, u "append"), (0, u "(Ljava/lang/String;)Ljava/lang/StringBuilder;"), (0, .methodref 2 30), (0, .nameAndType 27 31), (0, u "(Ljava/lang/String;)Ljava/lang/AbstractStringBuilder;"), (105, .methodref 18 138), (0, .nameAndType 5 139), (0, u "(Ljava/lang/StringBuilder;)V"), (5, u "()V"), (10, u "()I"), (186, .methodref 2 344), (0, .nameAndType 345 156), (0, u "length"), (3, .class_ 350), (0, u "java/lang/Appendable"), (0, .class_ 352), (0, u "java/io/Serializable"), (0, .class_ 354), (0, u "java/lang/Comparable"), (0, .class_ 356), (0, u "java/lang/CharSequence"), (0, u "serialVersionUID"), (0, u "J"), (40, u "toString"), (0, u "()Ljava/lang/String;")] 21

def k15c0 : Code := { maxStack := 2, maxLocals := 1, code := jdk_67_method_1_code, exceptionTable := #[], attributes := #[] }
def k15m0 : Method := { name := "<init>", desc := "()V", sig := { parameters := [], returnType := none }, accessFlags := 1, code := some k15c0 }
def k15c1 : Code := { maxStack := 2, maxLocals := 2, code := jdk_67_method_7_code, exceptionTable := #[], attributes := #[] }
def k15m1 : Method := { name := "append", desc := "(Ljava/lang/String;)Ljava/lang/StringBuilder;", sig := { parameters := [(.object "java/lang/String")], returnType := some (.object "java/lang/StringBuilder") }, accessFlags := 1, code := some k15c1 }
def k15c2 : Code := { maxStack := 3, maxLocals := 1, code := jdk_67_method_42_code, exceptionTable := #[], attributes := #[] }
def k15m2 : Method := { name := "toString", desc := "()Ljava/lang/String;", sig := { parameters := [], returnType := some (.object "java/lang/String") }, accessFlags := 1, code := some k15c2 }
def k15c3 : Code := { maxStack := 1, maxLocals := 1, code := jdk_67_method_93_code, exceptionTable := #[], attributes := #[] }
def k15m3 : Method := { name := "length", desc := "()I", sig := { parameters := [], returnType := some .int }, accessFlags := 4161, code := some k15c3 }
/-- java/lang/StringBuilder -/
def k15 : Class := { plain "java/lang/StringBuilder" (some 14) with
  accessFlags := 49
  interfaces := #[13, 2, 3, 4]
  cf := some (fileOf pool15 24 #[] #[{ accessFlags := 1, nameIndex := 5, descriptorIndex := 145, attributes := #[] }, { accessFlags := 1, nameIndex := 27, descriptorIndex := 28, attributes := #[] }, { accessFlags := 1, nameIndex := 399, descriptorIndex := 400, attributes := #[] }, { accessFlags := 4161, nameIndex := 345, descriptorIndex := 156, attributes := #[] }] 49 2 #[349, 351, 353, 355] #[{ accessFlags := 24, nameIndex := 357, descriptorIndex := 358, attributes := #[] }])
  fields := #[{ name := "serialVersionUID", type := .long, accessFlags := 24, slot := 0, constantValue := 0 }]
  methods := #[k15m0, k15m1, k15m2, k15m3]
  instanceTypes := #[(.array .byte), .byte, .boolean, .int]
  staticTypes := #[.long]
  resolved := Array.replicate 422 none
  statics := none }

def pool16 : Array CpInfo := pool [(9, u "<init>"), (6, .class_ 18), (1, u "java/lang/Object"), (0, u "()V"), (1, .class_ 23), (1, u "jdk/internal/util/ArraysSupport"), (0, u "LOG2_ARRAY_LONG_INDEX_SCALE"), (0, u "I"), (2, u "U"), (0, u "Ljdk/internal/misc/Unsafe;"), (8, u "BIG_ENDIAN"), (0, u "Z"), (8, u "LOG2_BYTE_BIT_SIZE"), (4, u "LOG2_ARRAY_INT_INDEX_SCALE"), (54, u "JLA"), (0, u "Ljdk/internal/access/JavaLangAccess;"), (11, u "LOG2_ARRAY_BOOLEAN_INDEX_SCALE"), (9, u "LOG2_ARRAY_BYTE_INDEX_SCALE"), (5, u "LOG2_ARRAY_CHAR_INDEX_SCALE"), (5, u "LOG2_ARRAY_SHORT_INDEX_SCALE"), (18, u "LOG2_ARRAY_FLOAT_INDEX_SCALE"), (24, u "LOG2_ARRAY_DOUBLE_INDEX_SCALE"), (6, .methodref 195 196), (0, .class_ 197), (0, .nameAndType 198 199), (0, u "java/lang/Math"), (0, u "max"), (0, u "(II)I"), (0, .integer 2147483639), (76, u "T_BOOLEAN"), (2, u "T_CHAR"), (1, u "T_FLOAT"), (1, u "T_DOUBLE"), (1, u "T_BYTE"), (1, u "T_SHORT"), (1, u "T_INT"), (1, u "T_LONG"), (1, u "SOFT_MAX_ARRAY_LENGTH"), (56, u "newLength"), (0, u "(III)I")] 25

def k16m0 : Method := { name := "<init>", desc := "()V", sig := { parameters := [], returnType := none }, accessFlags := 2, code := none }
def k16c1 : Code := { maxStack := 3, maxLocals := 4, code := jdk_48_method_27_code, exceptionTable := #[], attributes := #[] }
def k16m1 : Method := { name := "newLength", desc := "(III)I", sig := { parameters := [.int, .int, .int], returnType := some .int }, accessFlags := 9, code := some k16c1 }
/-- jdk/internal/util/ArraysSupport -/
def k16 : Class := { plain "jdk/internal/util/ArraysSupport" (some 0) with
  accessFlags := 33
  interfaces := #[]
  cf := some (fileOf pool16 21 #[] #[{ accessFlags := 2, nameIndex := 9, descriptorIndex := 19, attributes := #[] }, { accessFlags := 9, nameIndex := 351, descriptorIndex := 352, attributes := #[] }] 33 16 #[] #[{ accessFlags := 24, nameIndex := 28, descriptorIndex := 29, attributes := #[] }, { accessFlags := 26, nameIndex := 38, descriptorIndex := 39, attributes := #[] }, { accessFlags := 25, nameIndex := 121, descriptorIndex := 25, attributes := #[] }, { accessFlags := 25, nameIndex := 131, descriptorIndex := 25, attributes := #[] }, { accessFlags := 25, nameIndex := 137, descriptorIndex := 25, attributes := #[] }, { accessFlags := 25, nameIndex := 143, descriptorIndex := 25, attributes := #[] }, { accessFlags := 25, nameIndex := 53, descriptorIndex := 25, attributes := #[] }, { accessFlags := 25, nameIndex := 24, descriptorIndex := 25, attributes := #[] }, { accessFlags := 25, nameIndex := 162, descriptorIndex := 25, attributes := #[] }, { accessFlags := 25, nameIndex := 187, descriptorIndex := 25, attributes := #[] }, { accessFlags := 26, nameIndex := 48, descriptorIndex := 25, attributes := #[] }, { accessFlags := 25, nameIndex := 277, descriptorIndex := 25, attributes := #[] }, { accessFlags := 25, nameIndex := 280, descriptorIndex := 25, attributes := #[] }, { accessFlags := 25, nameIndex := 282, descriptorIndex := 25, attributes := #[] }, { accessFlags := 25, nameIndex := 284, descriptorIndex := 25, attributes := #[] }, { accessFlags := 25, nameIndex := 286, descriptorIndex := 25, attributes := #[] }, { accessFlags := 25, nameIndex := 288, descriptorIndex := 25, attributes := #[] }, { accessFlags := 25, nameIndex := 290, descriptorIndex := 25, attributes := #[] }, { accessFlags := 25, nameIndex := 292, descriptorIndex := 25, attributes := #[] }, { accessFlags := 26, nameIndex := 108, descriptorIndex := 109, attributes := #[] }, { accessFlags := 25, nameIndex := 294, descriptorIndex := 25, attributes := #[] }])
  fields := #[{ name := "U", type := (.object "jdk/internal/misc/Unsafe"), accessFlags := 24, slot := 0, constantValue := 0 }, { name := "BIG_ENDIAN", type := .boolean, accessFlags := 26, slot := 1, constantValue := 0 }, { name := "LOG2_ARRAY_BOOLEAN_INDEX_SCALE", type := .int, accessFlags := 25, slot := 2, constantValue := 0 }, { name := "LOG2_ARRAY_BYTE_INDEX_SCALE", type := .int, accessFlags := 25, slot := 3, constantValue := 0 }, { name := "LOG2_ARRAY_CHAR_INDEX_SCALE", type := .int, accessFlags := 25, slot := 4, constantValue := 0 }, { name := "LOG2_ARRAY_SHORT_INDEX_SCALE", type := .int, accessFlags := 25, slot := 5, constantValue := 0 }, { name := "LOG2_ARRAY_INT_INDEX_SCALE", type := .int, accessFlags := 25, slot := 6, constantValue := 0 }, { name := "LOG2_ARRAY_LONG_INDEX_SCALE", type := .int, accessFlags := 25, slot := 7, constantValue := 0 }, { name := "LOG2_ARRAY_FLOAT_INDEX_SCALE", type := .int, accessFlags := 25, slot := 8, constantValue := 0 }, { name := "LOG2_ARRAY_DOUBLE_INDEX_SCALE", type := .int, accessFlags := 25, slot := 9, constantValue := 0 }, { name := "LOG2_BYTE_BIT_SIZE", type := .int, accessFlags := 26, slot := 10, constantValue := 0 }, { name := "T_BOOLEAN", type := .int, accessFlags := 25, slot := 11, constantValue := 0 }, { name := "T_CHAR", type := .int, accessFlags := 25, slot := 12, constantValue := 0 }, { name := "T_FLOAT", type := .int, accessFlags := 25, slot := 13, constantValue := 0 }, { name := "T_DOUBLE", type := .int, accessFlags := 25, slot := 14, constantValue := 0 }, { name := "T_BYTE", type := .int, accessFlags := 25, slot := 15, constantValue := 0 }, { name := "T_SHORT", type := .int, accessFlags := 25, slot := 16, constantValue := 0 }, { name := "T_INT", type := .int, accessFlags := 25, slot := 17, constantValue := 0 }, { name := "T_LONG", type := .int, accessFlags := 25, slot := 18, constantValue := 0 }, { name := "JLA", type := (.object "jdk/internal/access/JavaLangAccess"), accessFlags := 26, slot := 19, constantValue := 0 }, { name := "SOFT_MAX_ARRAY_LENGTH", type := .int, accessFlags := 25, slot := 20, constantValue := 0 }]
  methods := #[k16m0, k16m1]
  instanceTypes := #[]
  staticTypes := #[(.object "jdk/internal/misc/Unsafe"), .boolean, .int, .int, .int, .int, .int, .int, .int, .int, .int, .int, .int, .int, .int, .int, .int, .int, .int, (.object "jdk/internal/access/JavaLangAccess"), .int]
  resolved := Array.replicate 378 none
  statics := none }

def pool17 : Array CpInfo := pool [(1, .class_ 2), (0, u "java/lang/Math"), (1, .class_ 6), (1, u "java/lang/Object"), (0, u "<init>"), (0, u "()V"), (89, .class_ 100), (1, u "java/lang/Math$RandomNumberGeneratorHolder"), (71, u "negativeZeroFloatBits"), (0, u "J"), (2, u "negativeZeroDoubleBits"), (21, u "max"), (2, u "min"), (43, u "$assertionsDisabled"), (0, u "Z"), (88, u "(II)I"), (2, u "twoToTheDoubleScaleDown"), (0, u "D"), (4, u "twoToTheDoubleScaleUp"), (9, u "E"), (3, u "PI"), (2, u "TAU"), (2, u "DEGREES_TO_RADIANS"), (0, u "RADIANS_TO_DEGREES")] 94

def k17m0 : Method := { name := "<init>", desc := "()V", sig := { parameters := [], returnType := none }, accessFlags := 2, code := none }
def k17c1 : Code := { maxStack := 2, maxLocals := 2, code := jdk_29_method_65_code, exceptionTable := #[], attributes := #[] }
def k17m1 : Method := { name := "max", desc := "(II)I", sig := { parameters := [.int, .int], returnType := some .int }, accessFlags := 9, code := some k17c1 }
def k17c2 : Code := { maxStack := 2, maxLocals := 2, code := jdk_29_method_69_code, exceptionTable := #[], attributes := #[] }
def k17m2 : Method := { name := "min", desc := "(II)I", sig := { parameters := [.int, .int], returnType := some .int }, accessFlags := 9, code := some k17c2 }
/-- java/lang/Math -/
def k17 : Class := { plain "java/lang/Math" (some 0) with
  accessFlags := 49
  interfaces := #[]
  cf := some (fileOf pool17 1 #[.nestMembers #[98]] #[{ accessFlags := 2, nameIndex := 7, descriptorIndex := 8, attributes := #[] }, { accessFlags := 9, nameIndex := 198, descriptorIndex := 335, attributes := #[] }, { accessFlags := 9, nameIndex := 201, descriptorIndex := 335, attributes := #[] }] 49 4 #[] #[{ accessFlags := 25, nameIndex := 354, descriptorIndex := 339, attributes := #[] }, { accessFlags := 25, nameIndex := 358, descriptorIndex := 339, attributes := #[] }, { accessFlags := 25, nameIndex := 361, descriptorIndex := 339, attributes := #[] }, { accessFlags := 26, nameIndex := 364, descriptorIndex := 339, attributes := #[] }, { accessFlags := 26, nameIndex := 365, descriptorIndex := 339, attributes := #[] }, { accessFlags := 26, nameIndex := 172, descriptorIndex := 173, attributes := #[] }, { accessFlags := 26, nameIndex := 176, descriptorIndex := 173, attributes := #[] }, { accessFlags := 8, nameIndex := 344, descriptorIndex := 339, attributes := #[] }, { accessFlags := 8, nameIndex := 338, descriptorIndex := 339, attributes := #[] }, { accessFlags := 4120, nameIndex := 245, descriptorIndex := 246, attributes := #[] }])
  fields := #[{ name := "E", type := .double, accessFlags := 25, slot := 0, constantValue := 0 }, { name := "PI", type := .double, accessFlags := 25, slot := 1, constantValue := 0 }, { name := "TAU", type := .double, accessFlags := 25, slot := 2, constantValue := 0 }, { name := "DEGREES_TO_RADIANS", type := .double, accessFlags := 26, slot := 3, constantValue := 0 }, { name := "RADIANS_TO_DEGREES", type := .double, accessFlags := 26, slot := 4, constantValue := 0 }, { name := "negativeZeroFloatBits", type := .long, accessFlags := 26, slot := 5, constantValue := 0 }, { name := "negativeZeroDoubleBits", type := .long, accessFlags := 26, slot := 6, constantValue := 0 }, { name := "twoToTheDoubleScaleUp", type := .double, accessFlags := 8, slot := 7, constantValue := 0 }, { name := "twoToTheDoubleScaleDown", type := .double, accessFlags := 8, slot := 8, constantValue := 0 }, { name := "$assertionsDisabled", type := .boolean, accessFlags := 4120, slot := 9, constantValue := 0 }]
  methods := #[k17m0, k17m1, k17m2]
  instanceTypes := #[]
  staticTypes := #[.double, .double, .double, .double, .double, .long, .long, .double, .double, .boolean]
  resolved := Array.replicate 460 none
  statics := none }

def pool18 : Array CpInfo := pool [(2, .class_ 4), (1, u "java/lang/Object"), (0, u "<init>"), (0, u "()V"), (7, .class_ 16), (1, u "java/util/Arrays"), (57, .class_ 76), (1, u "java/util/Arrays$NaturalOrder"), (36, .class_ 115), (1, u "java/util/Arrays$LegacyMergeSort"), (1, u "Z"), (21, u "copyOfRange"), (10, .methodref 151 152), (0, .class_ 153), (0, .nameAndType 154 155), (0, u "java/lang/System"), (0, u "arraycopy"), (0, u "(Ljava/lang/Object;ILjava/lang/Object;II)V"), (146, u "copyOf"), (1, .methodref 305 306), (0, .class_ 307), (0, .nameAndType 308 309), (0, u "java/lang/Math"), (0, u "min"), (0, u "(II)I"), (29, .methodref 14 340), (0, .nameAndType 341 342), (0, u "copyOfRangeByte"), (0, u "([BII)[B"), (0, .methodref 14 344), (0, .nameAndType 345 346), (0, u "checkLength"), (0, u "(II)V"), (28, .class_ 376), (0, u "java/util/Arrays$ArrayList"), (68, u "$assertionsDisabled"), (269, u "MIN_ARRAY_SORT_GRAN"), (0, u "I"), (2, u "INSERTIONSORT_THRESHOLD"), (149, u "([BI)[B"), (105, .class_ 976), (0, u "java/util/Arrays$ArrayItr")] 52

def k18m0 : Method := { name := "<init>", desc := "()V", sig := { parameters := [], returnType := none }, accessFlags := 2, code := none }
def k18c1 : Code := { maxStack := 6, maxLocals := 3, code := jdk_65_method_121_code, exceptionTable := #[], attributes := #[] }
def k18m1 : Method := { name := "copyOf", desc := "([BI)[B", sig := { parameters := [(.array .byte), .int], returnType := some (.array .byte) }, accessFlags := 9, code := some k18c1 }
def k18c2 : Code := { maxStack := 4, maxLocals := 2, code := jdk_65_method_131_code, exceptionTable := #[], attributes := #[] }
def k18m2 : Method := { name := "checkLength", desc := "(II)V", sig := { parameters := [.int, .int], returnType := none }, accessFlags := 10, code := some k18c2 }
def k18c3 : Code := { maxStack := 3, maxLocals := 3, code := jdk_65_method_132_code, exceptionTable := #[], attributes := #[] }
def k18m3 : Method := { name := "copyOfRange", desc := "([BII)[B", sig := { parameters := [(.array .byte), .int, .int], returnType := some (.array .byte) }, accessFlags := 9, code := some k18c3 }
def k18c4 : Code := { maxStack := 6, maxLocals := 5, code := jdk_65_method_133_code, exceptionTable := #[], attributes := #[] }
def k18m4 : Method := { name := "copyOfRangeByte", desc := "([BII)[B", sig := { parameters := [(.array .byte), .int, .int], returnType := some (.array .byte) }, accessFlags := 10, code := some k18c4 }
/-- java/util/Arrays -/
def k18 : Class := { plain "java/util/Arrays" (some 0) with
  accessFlags := 49
  interfaces := #[]
  cf := some (fileOf pool18 14 #[.nestMembers #[975, 375, 113, 74]] #[{ accessFlags := 2, nameIndex := 5, descriptorIndex := 6, attributes := #[] }, { accessFlags := 9, nameIndex := 302, descriptorIndex := 869, attributes := #[] }, { accessFlags := 10, nameIndex := 345, descriptorIndex := 346, attributes := #[] }, { accessFlags := 9, nameIndex := 139, descriptorIndex := 342, attributes := #[] }, { accessFlags := 10, nameIndex := 341, descriptorIndex := 342, attributes := #[] }] 49 2 #[] #[{ accessFlags := 26, nameIndex := 715, descriptorIndex := 716, attributes := #[] }, { accessFlags := 26, nameIndex := 719, descriptorIndex := 716, attributes := #[] }, { accessFlags := 4120, nameIndex := 445, descriptorIndex := 117, attributes := #[] }])
  fields := #[{ name := "MIN_ARRAY_SORT_GRAN", type := .int, accessFlags := 26, slot := 0, constantValue := 0 }, { name := "INSERTIONSORT_THRESHOLD", type := .int, accessFlags := 26, slot := 1, constantValue := 0 }, { name := "$assertionsDisabled", type := .boolean, accessFlags := 4120, slot := 2, constantValue := 0 }]
  methods := #[k18m0, k18m1, k18m2, k18m3, k18m4]
  instanceTypes := #[]
  staticTypes := #[.int, .int, .boolean]
  resolved := Array.replicate 1029 none
  statics := none }

def pool19 : Array CpInfo := pool [(2, .class_ 4), (1, u "java/lang/Object"), (0, u "<init>"), (0, u "()V"), (1, .class_ 10), (1, u "java/lang/System"), (0, u "allowSecurityManager"), (0, u "I"), (16, u "cons"), (0, u "Ljava/io/Console;"), (77, .class_ 110), (1, u "java/lang/System$CallersHolder"), (43, u "initialErrStream"), (0, u "Ljava/io/PrintStream;"), (19, u "security"), (0, u "Ljava/lang/SecurityManager;"), (31, .class_ 209), (0, u "java/lang/System$1"), (7, u "props"), (0, u "Ljava/util/Properties;"), (2, u "lineSeparator"), (0, u "Ljava/lang/String;"), (96, .class_ 321), (1, u "java/lang/System$LoggerFinder"), (5, .class_ 328), (0, u "java/lang/System$Logger"), (67, u "err"), (2, u "out"), (91, u "notSupportedJnuEncoding"), (15, u "in"), (17, u "initialIn"), (0, u "Ljava/io/InputStream;"), (35, u "bootLayer"), (0, u "Ljava/lang/ModuleLayer;"), (99, .class_ 664), (0, u "java/lang/System$2"), (9, u "NEVER"), (2, u "MAYBE"), (49, u "arraycopy"), (0, u "(Ljava/lang/Object;ILjava/lang/Object;II)V"), (72, .class_ 802), (0, u "java/lang/System$Logger$Level")] 31

def k19m0 : Method := { name := "<init>", desc := "()V", sig := { parameters := [], returnType := none }, accessFlags := 2, code := none }
def k19m1 : Method := { name := "arraycopy", desc := "(Ljava/lang/Object;ILjava/lang/Object;II)V", sig := { parameters := [(.object "java/lang/Object"), .int, (.object "java/lang/Object"), .int, .int], returnType := none }, accessFlags := 265, code := none }
/-- java/lang/System -/
def k19 : Class := { plain "java/lang/System" (some 0) with
  accessFlags := 49
  interfaces := #[]
  cf := some (fileOf pool19 8 #[.nestMembers #[319, 327, 801, 108, 663, 208]] #[{ accessFlags := 2, nameIndex := 5, descriptorIndex := 6, attributes := #[] }, { accessFlags := 265, nameIndex := 727, descriptorIndex := 728, attributes := #[] }] 49 2 #[] #[{ accessFlags := 25, nameIndex := 507, descriptorIndex := 526, attributes := #[] }, { accessFlags := 25, nameIndex := 399, descriptorIndex := 155, attributes := #[] }, { accessFlags := 25, nameIndex := 396, descriptorIndex := 155, attributes := #[] }, { accessFlags := 10, nameIndex := 525, descriptorIndex := 526, attributes := #[] }, { accessFlags := 26, nameIndex := 674, descriptorIndex := 12, attributes := #[] }, { accessFlags := 26, nameIndex := 677, descriptorIndex := 12, attributes := #[] }, { accessFlags := 10, nameIndex := 11, descriptorIndex := 12, attributes := #[] }, { accessFlags := 74, nameIndex := 175, descriptorIndex := 176, attributes := #[] }, { accessFlags := 10, nameIndex := 491, descriptorIndex := 222, attributes := #[] }, { accessFlags := 74, nameIndex := 29, descriptorIndex := 30, attributes := #[] }, { accessFlags := 74, nameIndex := 154, descriptorIndex := 155, attributes := #[] }, { accessFlags := 10, nameIndex := 217, descriptorIndex := 218, attributes := #[] }, { accessFlags := 10, nameIndex := 221, descriptorIndex := 222, attributes := #[] }, { accessFlags := 8, nameIndex := 562, descriptorIndex := 563, attributes := #[] }])
  fields := #[{ name := "in", type := (.object "java/io/InputStream"), accessFlags := 25, slot := 0, constantValue := 0 }, { name := "out", type := (.object "java/io/PrintStream"), accessFlags := 25, slot := 1, constantValue := 0 }, { name := "err", type := (.object "java/io/PrintStream"), accessFlags := 25, slot := 2, constantValue := 0 }, { name := "initialIn", type := (.object "java/io/InputStream"), accessFlags := 10, slot := 3, constantValue := 0 }, { name := "NEVER", type := .int, accessFlags := 26, slot := 4, constantValue := 0 }, { name := "MAYBE", type := .int, accessFlags := 26, slot := 5, constantValue := 0 }, { name := "allowSecurityManager", type := .int, accessFlags := 10, slot := 6, constantValue := 0 }, { name := "security", type := (.object "java/lang/SecurityManager"), accessFlags := 74, slot := 7, constantValue := 0 }, { name := "notSupportedJnuEncoding", type := (.object "java/lang/String"), accessFlags := 10, slot := 8, constantValue := 0 }, { name := "cons", type := (.object "java/io/Console"), accessFlags := 74, slot := 9, constantValue := 0 }, { name := "initialErrStream", type := (.object "java/io/PrintStream"), accessFlags := 74, slot := 10, constantValue := 0 }, { name := "props", type := (.object "java/util/Properties"), accessFlags := 10, slot := 11, constantValue := 0 }, { name := "lineSeparator", type := (.object "java/lang/String"), accessFlags := 10, slot := 12, constantValue := 0 }, { name := "bootLayer", type := (.object "java/lang/ModuleLayer"), accessFlags := 8, slot := 13, constantValue := 0 }]
  methods := #[k19m0, k19m1]
  instanceTypes := #[]
  staticTypes := #[(.object "java/io/InputStream"), (.object "java/io/PrintStream"), (.object "java/io/PrintStream"), (.object "java/io/InputStream"), .int, .int, .int, (.object "java/lang/SecurityManager"), (.object "java/lang/String"), (.object "java/io/Console"), (.object "java/io/PrintStream"), (.object "java/util/Properties"), (.object "java/lang/String"), (.object "java/lang/ModuleLayer")]
  resolved := Array.replicate 834 none
  statics := none }

def pool20 : Array CpInfo := pool [(1, u "java/lang/Cloneable"), (0, .class_ 1), (0, u "java/lang/Object"), (0, .class_ 3)] 3

/-- java/lang/Cloneable -/
def k20 : Class := { plain "java/lang/Cloneable" (some 0) with
  accessFlags := 1537
  interfaces := #[]
  cf := some (fileOf pool20 2 #[] #[] 1537 4 #[] #[])
  fields := #[]
  methods := #[]
  instanceTypes := #[]
  staticTypes := #[]
  resolved := Array.replicate 8 none
  statics := none }

/-- the primitive byte -/
def k21 : Class := { plain "byte" none with kind := .primitive 'B', accessFlags := 0x411 }
/-- [B -/
def k22 : Class := { plain "[B" (some 0) with kind := .array 21 .byte, interfaces := #[20, 2], accessFlags := 1041 }

/-- the primitive char -/
def k23 : Class := { plain "char" none with kind := .primitive 'C', accessFlags := 0x411 }
/-- [C -/
def k24 : Class := { plain "[C" (some 0) with kind := .array 23 .char, interfaces := #[20, 2], accessFlags := 1041 }

/-- the primitive int -/
def k25 : Class := { plain "int" none with kind := .primitive 'I', accessFlags := 0x411 }
/-- [I -/
def k26 : Class := { plain "[I" (some 0) with kind := .array 25 .int, interfaces := #[20, 2], accessFlags := 1041 }

def heap : Heap := #[{ cls := 7, slots := #[.long 0, .int 1, .null, .int 0, .null, .int 0, .int 0], vm := .statics 7 },
  { cls := 9, slots := #[.null, .null, .null], vm := .statics 9 },
  { cls := 10, slots := #[.int 0, .int 8, .int 0, .int 1], vm := .statics 10 }]
def classes : Array Class := #[k0, k1, k2, k3, k4, k5, k6, k7, k8, k9, k10, k11, k12, k13, k14, k15, k16, k17, k18, k19, k20, k21, k22, k23, k24, k25, k26]
def interned : List (Array UInt16 × Addr) := []
def slotsUsed : Nat := 14
def theMethod : MethodId := ⟨1, 1⟩
def args0 : Array Value := #[.int 1, .int 70, .int 300, .int 5]
def aboutOver (below : List Frame) : State where
  vm := { classes := classes, interned := interned.toArray }
  heap := heap
  slotsUsed := slotsUsed
  threads := #[{ frames := .invoking theMethod args0 :: below }]
def below0 : List Frame := [.native { method := ⟨0, 0⟩, args := #[] }]
def about1 : State := aboutOver below0
def p0 : Program := .bare "" "" ""
def e0 : Env := launch0.env 0 0 0
theorem w_frames : about1.frames = Frame.invoking theMethod args0 :: below0 := rfl
set_option maxRecDepth 65536 in
theorem w_args : argsFit about1.vm theMethod args0 = true := by decide +kernel
set_option maxRecDepth 65536 in
theorem w_heap : heapFits about1 = true := by decide +kernel
set_option maxRecDepth 65536 in
theorem w_runnable : about1.curStatus? = some .runnable := by decide +kernel
set_option maxRecDepth 65536 in
theorem w_alone : about1.alone = true := by decide +kernel
set_option maxRecDepth 65536 in
theorem w_named : about1.methodNamed? x = some theMethod := by decide +kernel
set_option maxRecDepth 65536 in
theorem w_hears : about1.hears theMethod below0 = true := by decide +kernel
set_option maxRecDepth 65536 in
theorem w_ripe : about1.ripe theMethod args0 below0 = true := by decide +kernel
theorem w_running : about1.status = .running := rfl
set_option maxRecDepth 65536 in
theorem w_room : about1.hasRoom e0.platform room_1 = true :=
  launch0.hasRoom_least _ room_1 (by decide +kernel) (by decide +kernel) (by decide +kernel) (by decide +kernel) (by decide +kernel) (by decide +kernel)
theorem allAtoms_all (ts : List Jvm.Cond) (a : Array Jvm.Value) (st : Jvm.State) : (allAtoms ts).before a st = ts.all (fun c => c.before a st) := by
  induction ts with
  | nil => rfl
  | cons c t ih =>
    show (Jvm.Cond.and c (allAtoms t)).before a st = _
    rw [Jvm.Cond.before_and, ih, List.all_cons]
def words1 : List Jvm.Cond := Jvm.Cond.code x code maxLocals ret :: tables_1
/-- a 'code' word, met by the world's own term for the bytes: nothing is compared byte by byte -/
theorem code_word {y : MethodName} {bytes : ByteArray} {mx : Nat} {rt : Option FieldType} {a : Array Value} {s : State} {m : MethodId} {meth : Method} {c : Code} (h1 : s.methodNamed? y = some m) (h2 : s.vm.method? m = some meth) (h3 : meth.code = some c) (h4 : c.code = bytes)
    (h5 : (c.maxLocals == mx && c.exceptionTable.isEmpty && decide (c.maxStack ≤ mostOperands) && decide (meth.sig.returnType = rt) && !meth.locks && decide (parseMethodDescriptor y.desc = some meth.sig)) = true) : (Jvm.Cond.code y bytes mx rt).before a s = true := by
  simp only [Bool.and_eq_true, beq_iff_eq, Bool.not_eq_true', decide_eq_true_eq] at h5
  obtain ⟨⟨⟨⟨⟨g1, g2⟩, g3⟩, g4⟩, g5⟩, g6⟩ := h5
  simp [Cond.before, Cond.holds, Cond.value, h1, h2, h3, h4, g1, g2, g3, g4, g5, g6]
def isCode : Jvm.Cond → Bool
  | .code _ _ _ _ => true
  | _ => false
theorem all_split {L : List Jvm.Cond} {P : Jvm.Cond → Bool} (h1 : L.all (fun c => isCode c || P c) = true) (h2 : ∀ c ∈ L.filter isCode, P c = true) : L.all P = true := by
  refine List.all_eq_true.mpr fun c hc => ?_
  have h := List.all_eq_true.mp h1 c hc
  rcases Bool.eq_false_or_eq_true (isCode c) with hi | hi
  · exact h2 c (List.mem_filter.mpr ⟨hc, hi⟩)
  · simpa [hi] using h
set_option maxRecDepth 65536 in
theorem w_c0 : (Jvm.Cond.code x code maxLocals ret).before args0 about1 = true := code_word (m := ⟨1, 1⟩) (meth := k1m1) (c := k1c1) (by decide +kernel) rfl rfl rfl (by decide +kernel)
set_option maxRecDepth 65536 in
theorem w_c1 : (Jvm.Cond.code ({ cls := "java/lang/String", name := "<init>", desc := "([C)V" } : Jvm.MethodName) jdk_42_method_3_code (2 : Nat) (Option.none : Option Jvm.ClassFile.FieldType)).before args0 about1 = true := code_word (m := ⟨7, 1⟩) (meth := k7m1) (c := k7c1) (by decide +kernel) rfl rfl rfl (by decide +kernel)
set_option maxRecDepth 65536 in
theorem w_c2 : (Jvm.Cond.code ({ cls := "java/lang/String", name := "<init>", desc := "([CIILjava/lang/Void;)V" } : Jvm.MethodName) jdk_42_method_149_code (6 : Nat) (Option.none : Option Jvm.ClassFile.FieldType)).before args0 about1 = true := code_word (m := ⟨7, 7⟩) (meth := k7m7) (c := k7c7) (by decide +kernel) rfl rfl rfl (by decide +kernel)
set_option maxRecDepth 65536 in
theorem w_c3 : (Jvm.Cond.code ({ cls := "java/lang/Object", name := "<init>", desc := "()V" } : Jvm.MethodName) object_method_1_code (1 : Nat) (Option.none : Option Jvm.ClassFile.FieldType)).before args0 about1 = true := code_word (m := ⟨0, 0⟩) (meth := k0m0) (c := k0c0) (by decide +kernel) rfl rfl rfl (by decide +kernel)
set_option maxRecDepth 65536 in
theorem w_c4 : (Jvm.Cond.code ({ cls := "java/lang/String", name := "length", desc := "()I" } : Jvm.MethodName) jdk_42_method_54_code (1 : Nat) (Option.some Jvm.ClassFile.FieldType.int)).before args0 about1 = true := code_word (m := ⟨7, 3⟩) (meth := k7m3) (c := k7c3) (by decide +kernel) rfl rfl rfl (by decide +kernel)
set_option maxRecDepth 65536 in
theorem w_c5 : (Jvm.Cond.code ({ cls := "java/lang/String", name := "coder", desc := "()B" } : Jvm.MethodName) jdk_42_method_152_code (1 : Nat) (Option.some Jvm.ClassFile.FieldType.byte)).before args0 about1 = true := code_word (m := ⟨7, 9⟩) (meth := k7m9) (c := k7c9) (by decide +kernel) rfl rfl rfl (by decide +kernel)
set_option maxRecDepth 65536 in
theorem w_c6 : (Jvm.Cond.code ({ cls := "java/lang/String", name := "charAt", desc := "(I)C" } : Jvm.MethodName) jdk_42_method_56_code (2 : Nat) (Option.some Jvm.ClassFile.FieldType.char)).before args0 about1 = true := code_word (m := ⟨7, 4⟩) (meth := k7m4) (c := k7c4) (by decide +kernel) rfl rfl rfl (by decide +kernel)
set_option maxRecDepth 65536 in
theorem w_c7 : (Jvm.Cond.code ({ cls := "java/lang/String", name := "isLatin1", desc := "()Z" } : Jvm.MethodName) jdk_42_method_154_code (1 : Nat) (Option.some Jvm.ClassFile.FieldType.boolean)).before args0 about1 = true := code_word (m := ⟨7, 10⟩) (meth := k7m10) (c := k7c10) (by decide +kernel) rfl rfl rfl (by decide +kernel)
set_option maxRecDepth 65536 in
theorem w_c8 : (Jvm.Cond.code ({ cls := "java/lang/StringLatin1", name := "charAt", desc := "([BI)C" } : Jvm.MethodName) jdk_43_method_2_code (2 : Nat) (Option.some Jvm.ClassFile.FieldType.char)).before args0 about1 = true := code_word (m := ⟨8, 1⟩) (meth := k8m1) (c := k8c1) (by decide +kernel) rfl rfl rfl (by decide +kernel)
set_option maxRecDepth 65536 in
theorem w_c9 : (Jvm.Cond.code ({ cls := "java/lang/String", name := "checkIndex", desc := "(II)V" } : Jvm.MethodName) jdk_42_method_155_code (2 : Nat) (Option.none : Option Jvm.ClassFile.FieldType)).before args0 about1 = true := code_word (m := ⟨7, 11⟩) (meth := k7m11) (c := k7c11) (by decide +kernel) rfl rfl rfl (by decide +kernel)
set_option maxRecDepth 65536 in
theorem w_c10 : (Jvm.Cond.code ({ cls := "jdk/internal/util/Preconditions", name := "checkIndex", desc := "(IILjava/util/function/BiFunction;)I" } : Jvm.MethodName) jdk_41_method_11_code (3 : Nat) (Option.some Jvm.ClassFile.FieldType.int)).before args0 about1 = true := code_word (m := ⟨9, 1⟩) (meth := k9m1) (c := k9c1) (by decide +kernel) rfl rfl rfl (by decide +kernel)
set_option maxRecDepth 65536 in
theorem w_c11 : (Jvm.Cond.code ({ cls := "java/lang/StringUTF16", name := "compress", desc := "([CII)[B" } : Jvm.MethodName) jdk_52_method_16_code (6 : Nat) (Option.some (Jvm.ClassFile.FieldType.array Jvm.ClassFile.FieldType.byte))).before args0 about1 = true := code_word (m := ⟨10, 8⟩) (meth := k10m8) (c := k10c8) (by decide +kernel) rfl rfl rfl (by decide +kernel)
set_option maxRecDepth 65536 in
theorem w_c12 : (Jvm.Cond.code ({ cls := "java/lang/StringUTF16", name := "compress", desc := "([CI[BII)I" } : Jvm.MethodName) jdk_52_method_21_code (7 : Nat) (Option.some Jvm.ClassFile.FieldType.int)).before args0 about1 = true := code_word (m := ⟨10, 9⟩) (meth := k10m9) (c := k10c9) (by decide +kernel) rfl rfl rfl (by decide +kernel)
set_option maxRecDepth 65536 in
theorem w_c13 : (Jvm.Cond.code ({ cls := "java/lang/StringUTF16", name := "coderFromArrayLen", desc := "([BI)B" } : Jvm.MethodName) jdk_52_method_15_code (2 : Nat) (Option.some Jvm.ClassFile.FieldType.byte)).before args0 about1 = true := code_word (m := ⟨10, 7⟩) (meth := k10m7) (c := k10c7) (by decide +kernel) rfl rfl rfl (by decide +kernel)
set_option maxRecDepth 65536 in
theorem w_c14 : (Jvm.Cond.code ({ cls := "com/example/kindling/kindling/context/StartupMessages", name := "couldNotStart", desc := "(Ljava/lang/String;)Ljava/lang/String;" } : Jvm.MethodName) prog_48_method_4_code (1 : Nat) (Option.some (Jvm.ClassFile.FieldType.object "java/lang/String"))).before args0 about1 = true := code_word (m := ⟨11, 1⟩) (meth := k11m1) (c := k11c1) (by decide +kernel) rfl rfl rfl (by decide +kernel)
set_option maxRecDepth 65536 in
theorem w_c15 : (Jvm.Cond.code ({ cls := "java/util/Objects", name := "requireNonNull", desc := "(Ljava/lang/Object;Ljava/lang/String;)Ljava/lang/Object;" } : Jvm.MethodName) jdk_31_method_11_code (2 : Nat) (Option.some (Jvm.ClassFile.FieldType.object "java/lang/Object"))).before args0 about1 = true := code_word (m := ⟨12, 1⟩) (meth := k12m1) (c := k12c1) (by decide +kernel) rfl rfl rfl (by decide +kernel)
set_option maxRecDepth 65536 in
theorem w_c16 : (Jvm.Cond.code ({ cls := "java/lang/StringBuilder", name := "<init>", desc := "()V" } : Jvm.MethodName) jdk_67_method_1_code (1 : Nat) (Option.none : Option Jvm.ClassFile.FieldType)).before args0 about1 = true := code_word (m := ⟨15, 0⟩) (meth := k15m0) (c := k15c0) (by decide +kernel) rfl rfl rfl (by decide +kernel)
set_option maxRecDepth 65536 in
theorem w_c17 : (Jvm.Cond.code ({ cls := "java/lang/AbstractStringBuilder", name := "<init>", desc := "(I)V" } : Jvm.MethodName) jdk_68_method_2_code (2 : Nat) (Option.none : Option Jvm.ClassFile.FieldType)).before args0 about1 = true := code_word (m := ⟨14, 1⟩) (meth := k14m1) (c := k14c1) (by decide +kernel) rfl rfl rfl (by decide +kernel)
set_option maxRecDepth 65536 in
theorem w_c18 : (Jvm.Cond.code ({ cls := "java/lang/StringBuilder", name := "append", desc := "(Ljava/lang/String;)Ljava/lang/StringBuilder;" } : Jvm.MethodName) jdk_67_method_7_code (2 : Nat) (Option.some (Jvm.ClassFile.FieldType.object "java/lang/StringBuilder"))).before args0 about1 = true := code_word (m := ⟨15, 1⟩) (meth := k15m1) (c := k15c1) (by decide +kernel) rfl rfl rfl (by decide +kernel)
set_option maxRecDepth 65536 in
theorem w_c19 : (Jvm.Cond.code ({ cls := "java/lang/AbstractStringBuilder", name := "append", desc := "(Ljava/lang/String;)Ljava/lang/AbstractStringBuilder;" } : Jvm.MethodName) jdk_68_method_22_code (3 : Nat) (Option.some (Jvm.ClassFile.FieldType.object "java/lang/AbstractStringBuilder"))).before args0 about1 = true := code_word (m := ⟨14, 6⟩) (meth := k14m6) (c := k14c6) (by decide +kernel) rfl rfl rfl (by decide +kernel)
set_option maxRecDepth 65536 in
theorem w_c20 : (Jvm.Cond.code ({ cls := "java/lang/AbstractStringBuilder", name := "ensureCapacityInternal", desc := "(I)V" } : Jvm.MethodName) jdk_68_method_9_code (3 : Nat) (Option.none : Option Jvm.ClassFile.FieldType)).before args0 about1 = true := code_word (m := ⟨14, 3⟩) (meth := k14m3) (c := k14c3) (by decide +kernel) rfl rfl rfl (by decide +kernel)
set_option maxRecDepth 65536 in
theorem w_c21 : (Jvm.Cond.code ({ cls := "java/lang/AbstractStringBuilder", name := "newCapacity", desc := "(I)I" } : Jvm.MethodName) jdk_68_method_10_code (6 : Nat) (Option.some Jvm.ClassFile.FieldType.int)).before args0 about1 = true := code_word (m := ⟨14, 4⟩) (meth := k14m4) (c := k14c4) (by decide +kernel) rfl rfl rfl (by decide +kernel)
set_option maxRecDepth 65536 in
theorem w_c22 : (Jvm.Cond.code ({ cls := "jdk/internal/util/ArraysSupport", name := "newLength", desc := "(III)I" } : Jvm.MethodName) jdk_48_method_27_code (4 : Nat) (Option.some Jvm.ClassFile.FieldType.int)).before args0 about1 = true := code_word (m := ⟨16, 1⟩) (meth := k16m1) (c := k16c1) (by decide +kernel) rfl rfl rfl (by decide +kernel)
set_option maxRecDepth 65536 in
theorem w_c23 : (Jvm.Cond.code ({ cls := "java/lang/Math", name := "max", desc := "(II)I" } : Jvm.MethodName) jdk_29_method_65_code (2 : Nat) (Option.some Jvm.ClassFile.FieldType.int)).before args0 about1 = true := code_word (m := ⟨17, 1⟩) (meth := k17m1) (c := k17c1) (by decide +kernel) rfl rfl rfl (by decide +kernel)
set_option maxRecDepth 65536 in
theorem w_c24 : (Jvm.Cond.code ({ cls := "java/util/Arrays", name := "copyOf", desc := "([BI)[B" } : Jvm.MethodName) jdk_65_method_121_code (3 : Nat) (Option.some (Jvm.ClassFile.FieldType.array Jvm.ClassFile.FieldType.byte))).before args0 about1 = true := code_word (m := ⟨18, 1⟩) (meth := k18m1) (c := k18c1) (by decide +kernel) rfl rfl rfl (by decide +kernel)
set_option maxRecDepth 65536 in
theorem w_c25 : (Jvm.Cond.code ({ cls := "java/lang/Math", name := "min", desc := "(II)I" } : Jvm.MethodName) jdk_29_method_69_code (2 : Nat) (Option.some Jvm.ClassFile.FieldType.int)).before args0 about1 = true := code_word (m := ⟨17, 2⟩) (meth := k17m2) (c := k17c2) (by decide +kernel) rfl rfl rfl (by decide +kernel)
set_option maxRecDepth 65536 in
theorem w_c26 : (Jvm.Cond.code ({ cls := "java/lang/AbstractStringBuilder", name := "putStringAt", desc := "(ILjava/lang/String;)V" } : Jvm.MethodName) jdk_68_method_73_code (3 : Nat) (Option.none : Option Jvm.ClassFile.FieldType)).before args0 about1 = true := code_word (m := ⟨14, 10⟩) (meth := k14m10) (c := k14c10) (by decide +kernel) rfl rfl rfl (by decide +kernel)
set_option maxRecDepth 65536 in
theorem w_c27 : (Jvm.Cond.code ({ cls := "java/lang/AbstractStringBuilder", name := "inflateIfNeededFor", desc := "(Ljava/lang/String;)V" } : Jvm.MethodName) jdk_68_method_71_code (2 : Nat) (Option.none : Option Jvm.ClassFile.FieldType)).before args0 about1 = true := code_word (m := ⟨14, 9⟩) (meth := k14m9) (c := k14c9) (by decide +kernel) rfl rfl rfl (by decide +kernel)
set_option maxRecDepth 65536 in
theorem w_c28 : (Jvm.Cond.code ({ cls := "java/lang/String", name := "getBytes", desc := "([BIB)V" } : Jvm.MethodName) jdk_42_method_147_code (4 : Nat) (Option.none : Option Jvm.ClassFile.FieldType)).before args0 about1 = true := code_word (m := ⟨7, 6⟩) (meth := k7m6) (c := k7c6) (by decide +kernel) rfl rfl rfl (by decide +kernel)
set_option maxRecDepth 65536 in
theorem w_c29 : (Jvm.Cond.code ({ cls := "java/lang/StringBuilder", name := "toString", desc := "()Ljava/lang/String;" } : Jvm.MethodName) jdk_67_method_42_code (1 : Nat) (Option.some (Jvm.ClassFile.FieldType.object "java/lang/String"))).before args0 about1 = true := code_word (m := ⟨15, 2⟩) (meth := k15m2) (c := k15c2) (by decide +kernel) rfl rfl rfl (by decide +kernel)
set_option maxRecDepth 65536 in
theorem w_c30 : (Jvm.Cond.code ({ cls := "java/lang/String", name := "<init>", desc := "(Ljava/lang/StringBuilder;)V" } : Jvm.MethodName) jdk_42_method_53_code (2 : Nat) (Option.none : Option Jvm.ClassFile.FieldType)).before args0 about1 = true := code_word (m := ⟨7, 2⟩) (meth := k7m2) (c := k7c2) (by decide +kernel) rfl rfl rfl (by decide +kernel)
set_option maxRecDepth 65536 in
theorem w_c31 : (Jvm.Cond.code ({ cls := "java/lang/String", name := "<init>", desc := "(Ljava/lang/AbstractStringBuilder;Ljava/lang/Void;)V" } : Jvm.MethodName) jdk_42_method_150_code (5 : Nat) (Option.none : Option Jvm.ClassFile.FieldType)).before args0 about1 = true := code_word (m := ⟨7, 8⟩) (meth := k7m8) (c := k7c8) (by decide +kernel) rfl rfl rfl (by decide +kernel)
set_option maxRecDepth 65536 in
theorem w_c32 : (Jvm.Cond.code ({ cls := "java/lang/AbstractStringBuilder", name := "getValue", desc := "()[B" } : Jvm.MethodName) jdk_68_method_64_code (1 : Nat) (Option.some (Jvm.ClassFile.FieldType.array Jvm.ClassFile.FieldType.byte))).before args0 about1 = true := code_word (m := ⟨14, 7⟩) (meth := k14m7) (c := k14c7) (by decide +kernel) rfl rfl rfl (by decide +kernel)
set_option maxRecDepth 65536 in
theorem w_c33 : (Jvm.Cond.code ({ cls := "java/lang/StringBuilder", name := "length", desc := "()I" } : Jvm.MethodName) jdk_67_method_93_code (1 : Nat) (Option.some Jvm.ClassFile.FieldType.int)).before args0 about1 = true := code_word (m := ⟨15, 3⟩) (meth := k15m3) (c := k15c3) (by decide +kernel) rfl rfl rfl (by decide +kernel)
set_option maxRecDepth 65536 in
theorem w_c34 : (Jvm.Cond.code ({ cls := "java/lang/AbstractStringBuilder", name := "length", desc := "()I" } : Jvm.MethodName) jdk_68_method_6_code (1 : Nat) (Option.some Jvm.ClassFile.FieldType.int)).before args0 about1 = true := code_word (m := ⟨14, 2⟩) (meth := k14m2) (c := k14c2) (by decide +kernel) rfl rfl rfl (by decide +kernel)
set_option maxRecDepth 65536 in
theorem w_c35 : (Jvm.Cond.code ({ cls := "java/lang/AbstractStringBuilder", name := "isLatin1", desc := "()Z" } : Jvm.MethodName) jdk_68_method_68_code (1 : Nat) (Option.some Jvm.ClassFile.FieldType.boolean)).before args0 about1 = true := code_word (m := ⟨14, 8⟩) (meth := k14m8) (c := k14c8) (by decide +kernel) rfl rfl rfl (by decide +kernel)
set_option maxRecDepth 65536 in
theorem w_c36 : (Jvm.Cond.code ({ cls := "java/util/Arrays", name := "copyOfRange", desc := "([BII)[B" } : Jvm.MethodName) jdk_65_method_132_code (3 : Nat) (Option.some (Jvm.ClassFile.FieldType.array Jvm.ClassFile.FieldType.byte))).before args0 about1 = true := code_word (m := ⟨18, 3⟩) (meth := k18m3) (c := k18c3) (by decide +kernel) rfl rfl rfl (by decide +kernel)
set_option maxRecDepth 65536 in
theorem w_c37 : (Jvm.Cond.code ({ cls := "java/util/Arrays", name := "copyOfRangeByte", desc := "([BII)[B" } : Jvm.MethodName) jdk_65_method_133_code (5 : Nat) (Option.some (Jvm.ClassFile.FieldType.array Jvm.ClassFile.FieldType.byte))).before args0 about1 = true := code_word (m := ⟨18, 4⟩) (meth := k18m4) (c := k18c4) (by decide +kernel) rfl rfl rfl (by decide +kernel)
set_option maxRecDepth 65536 in
theorem w_c38 : (Jvm.Cond.code ({ cls := "java/util/Arrays", name := "checkLength", desc := "(II)V" } : Jvm.MethodName) jdk_65_method_131_code (2 : Nat) (Option.none : Option Jvm.ClassFile.FieldType)).before args0 about1 = true := code_word (m := ⟨18, 2⟩) (meth := k18m2) (c := k18c2) (by decide +kernel) rfl rfl rfl (by decide +kernel)
set_option maxRecDepth 65536 in
theorem w_c39 : (Jvm.Cond.code ({ cls := "java/lang/String", name := "equals", desc := "(Ljava/lang/Object;)Z" } : Jvm.MethodName) jdk_42_method_66_code (3 : Nat) (Option.some Jvm.ClassFile.FieldType.boolean)).before args0 about1 = true := code_word (m := ⟨7, 5⟩) (meth := k7m5) (c := k7c5) (by decide +kernel) rfl rfl rfl (by decide +kernel)
set_option maxRecDepth 65536 in
theorem w_c40 : (Jvm.Cond.code ({ cls := "java/lang/StringLatin1", name := "equals", desc := "([B[B)Z" } : Jvm.MethodName) jdk_43_method_13_code (3 : Nat) (Option.some Jvm.ClassFile.FieldType.boolean)).before args0 about1 = true := code_word (m := ⟨8, 2⟩) (meth := k8m2) (c := k8c2) (by decide +kernel) rfl rfl rfl (by decide +kernel)
set_option maxRecDepth 65536 in
theorem w_c41 : (Jvm.Cond.code ({ cls := "java/lang/StringUTF16", name := "toBytes", desc := "([CII)[B" } : Jvm.MethodName) jdk_52_method_14_code (5 : Nat) (Option.some (Jvm.ClassFile.FieldType.array Jvm.ClassFile.FieldType.byte))).before args0 about1 = true := code_word (m := ⟨10, 6⟩) (meth := k10m6) (c := k10c6) (by decide +kernel) rfl rfl rfl (by decide +kernel)
set_option maxRecDepth 65536 in
theorem w_c42 : (Jvm.Cond.code ({ cls := "java/lang/StringUTF16", name := "newBytesFor", desc := "(I)[B" } : Jvm.MethodName) jdk_52_method_2_code (1 : Nat) (Option.some (Jvm.ClassFile.FieldType.array Jvm.ClassFile.FieldType.byte))).before args0 about1 = true := code_word (m := ⟨10, 1⟩) (meth := k10m1) (c := k10c1) (by decide +kernel) rfl rfl rfl (by decide +kernel)
set_option maxRecDepth 65536 in
theorem w_c43 : (Jvm.Cond.code ({ cls := "java/lang/StringUTF16", name := "newBytesLength", desc := "(I)I" } : Jvm.MethodName) jdk_52_method_3_code (1 : Nat) (Option.some Jvm.ClassFile.FieldType.int)).before args0 about1 = true := code_word (m := ⟨10, 2⟩) (meth := k10m2) (c := k10c2) (by decide +kernel) rfl rfl rfl (by decide +kernel)
set_option maxRecDepth 65536 in
theorem w_c44 : (Jvm.Cond.code ({ cls := "java/lang/StringUTF16", name := "putChar", desc := "([BII)V" } : Jvm.MethodName) jdk_52_method_4_code (3 : Nat) (Option.none : Option Jvm.ClassFile.FieldType)).before args0 about1 = true := code_word (m := ⟨10, 3⟩) (meth := k10m3) (c := k10c3) (by decide +kernel) rfl rfl rfl (by decide +kernel)
set_option maxRecDepth 65536 in
theorem w_c45 : (Jvm.Cond.code ({ cls := "java/lang/StringUTF16", name := "getChar", desc := "([BI)C" } : Jvm.MethodName) jdk_52_method_5_code (2 : Nat) (Option.some Jvm.ClassFile.FieldType.char)).before args0 about1 = true := code_word (m := ⟨10, 4⟩) (meth := k10m4) (c := k10c4) (by decide +kernel) rfl rfl rfl (by decide +kernel)
set_option maxRecDepth 65536 in
theorem w_c46 : (Jvm.Cond.code ({ cls := "java/lang/AbstractStringBuilder", name := "inflate", desc := "()V" } : Jvm.MethodName) jdk_68_method_11_code (2 : Nat) (Option.none : Option Jvm.ClassFile.FieldType)).before args0 about1 = true := code_word (m := ⟨14, 5⟩) (meth := k14m5) (c := k14c5) (by decide +kernel) rfl rfl rfl (by decide +kernel)
set_option maxRecDepth 65536 in
theorem w_c47 : (Jvm.Cond.code ({ cls := "java/lang/StringLatin1", name := "inflate", desc := "([BI[BII)V" } : Jvm.MethodName) jdk_43_method_50_code (5 : Nat) (Option.none : Option Jvm.ClassFile.FieldType)).before args0 about1 = true := code_word (m := ⟨8, 3⟩) (meth := k8m3) (c := k8c3) (by decide +kernel) rfl rfl rfl (by decide +kernel)
set_option maxRecDepth 65536 in
theorem w_c48 : (Jvm.Cond.code ({ cls := "java/lang/StringUTF16", name := "inflate", desc := "([BI[BII)V" } : Jvm.MethodName) jdk_52_method_86_code (6 : Nat) (Option.none : Option Jvm.ClassFile.FieldType)).before args0 about1 = true := code_word (m := ⟨10, 10⟩) (meth := k10m10) (c := k10c10) (by decide +kernel) rfl rfl rfl (by decide +kernel)
set_option maxRecDepth 65536 in
theorem w_c49 : (Jvm.Cond.code ({ cls := "java/lang/StringUTF16", name := "checkBoundsOffCount", desc := "(II[B)V" } : Jvm.MethodName) jdk_52_method_94_code (3 : Nat) (Option.none : Option Jvm.ClassFile.FieldType)).before args0 about1 = true := code_word (m := ⟨10, 11⟩) (meth := k10m11) (c := k10c11) (by decide +kernel) rfl rfl rfl (by decide +kernel)
set_option maxRecDepth 65536 in
theorem w_c50 : (Jvm.Cond.code ({ cls := "java/lang/StringUTF16", name := "length", desc := "([B)I" } : Jvm.MethodName) jdk_52_method_6_code (1 : Nat) (Option.some Jvm.ClassFile.FieldType.int)).before args0 about1 = true := code_word (m := ⟨10, 5⟩) (meth := k10m5) (c := k10c5) (by decide +kernel) rfl rfl rfl (by decide +kernel)
set_option maxRecDepth 65536 in
theorem w_c51 : (Jvm.Cond.code ({ cls := "java/lang/String", name := "checkBoundsOffCount", desc := "(III)I" } : Jvm.MethodName) jdk_42_method_157_code (3 : Nat) (Option.some Jvm.ClassFile.FieldType.int)).before args0 about1 = true := code_word (m := ⟨7, 12⟩) (meth := k7m12) (c := k7c12) (by decide +kernel) rfl rfl rfl (by decide +kernel)
set_option maxRecDepth 65536 in
theorem w_c52 : (Jvm.Cond.code ({ cls := "jdk/internal/util/Preconditions", name := "checkFromIndexSize", desc := "(IIILjava/util/function/BiFunction;)I" } : Jvm.MethodName) jdk_41_method_13_code (4 : Nat) (Option.some Jvm.ClassFile.FieldType.int)).before args0 about1 = true := code_word (m := ⟨9, 2⟩) (meth := k9m2) (c := k9c2) (by decide +kernel) rfl rfl rfl (by decide +kernel)
def codes1 : List Jvm.Cond := [Jvm.Cond.code x code maxLocals ret, Jvm.Cond.code ({ cls := "java/lang/String", name := "<init>", desc := "([C)V" } : Jvm.MethodName) jdk_42_method_3_code (2 : Nat) (Option.none : Option Jvm.ClassFile.FieldType), Jvm.Cond.code ({ cls := "java/lang/String", name := "<init>", desc := "([CIILjava/lang/Void;)V" } : Jvm.MethodName) jdk_42_method_149_code (6 : Nat) (Option.none : Option Jvm.ClassFile.FieldType), Jvm.Cond.code ({ cls := "java/lang/Object", name := "<init>", desc := "()V" } : Jvm.MethodName) object_method_1_code (1 : Nat) (Option.none : Option Jvm.ClassFile.FieldType), Jvm.Cond.code ({ cls := "java/lang/String", name := "length", desc := "()I" } : Jvm.MethodName) jdk_42_method_54_code (1 : Nat) (Option.some Jvm.ClassFile.FieldType.int), Jvm.Cond.code ({ cls := "java/lang/String", name := "coder", desc := "()B" } : Jvm.MethodName) jdk_42_method_152_code (1 : Nat) (Option.some Jvm.ClassFile.FieldType.byte), Jvm.Cond.code ({ cls := "java/lang/String", name := "charAt", desc := "(I)C" } : Jvm.MethodName) jdk_42_method_56_code (2 : Nat) (Option.some Jvm.ClassFile.FieldType.char), Jvm.Cond.code ({ cls := "java/lang/String", name := "isLatin1", desc := "()Z" } : Jvm.MethodName) jdk_42_method_154_code (1 : Nat) (Option.some Jvm.ClassFile.FieldType.boolean), Jvm.Cond.code ({ cls := "java/lang/StringLatin1", name := "charAt", desc := "([BI)C" } : Jvm.MethodName) jdk_43_method_2_code (2 : Nat) (Option.some Jvm.ClassFile.FieldType.char), Jvm.Cond.code ({ cls := "java/lang/String", name := "checkIndex", desc := "(II)V" } : Jvm.MethodName) jdk_42_method_155_code (2 : Nat) (Option.none : Option Jvm.ClassFile.FieldType), Jvm.Cond.code ({ cls := "jdk/internal/util/Preconditions", name := "checkIndex", desc := "(IILjava/util/function/BiFunction;)I" } : Jvm.MethodName) jdk_41_method_11_code (3 : Nat) (Option.some Jvm.ClassFile.FieldType.int), Jvm.Cond.code ({ cls := "java/lang/StringUTF16", name := "compress", desc := "([CII)[B" } : Jvm.MethodName) jdk_52_method_16_code (6 : Nat) (Option.some (Jvm.ClassFile.FieldType.array Jvm.ClassFile.FieldType.byte)), Jvm.Cond.code ({ cls := "java/lang/StringUTF16", name := "compress", desc := "([CI[BII)I" } : Jvm.MethodName) jdk_52_method_21_code (7 : Nat) (Option.some Jvm.ClassFile.FieldType.int), Jvm.Cond.code ({ cls := "java/lang/StringUTF16", name := "coderFromArrayLen", desc := "([BI)B" } : Jvm.MethodName) jdk_52_method_15_code (2 : Nat) (Option.some Jvm.ClassFile.FieldType.byte), Jvm.Cond.code ({ cls := "com/example/kindling/kindling/context/StartupMessages", name := "couldNotStart", desc := "(Ljava/lang/String;)Ljava/lang/String;" } : Jvm.MethodName) prog_48_method_4_code (1 : Nat) (Option.some (Jvm.ClassFile.FieldType.object "java/lang/String")), Jvm.Cond.code ({ cls := "java/util/Objects", name := "requireNonNull", desc := "(Ljava/lang/Object;Ljava/lang/String;)Ljava/lang/Object;" } : Jvm.MethodName) jdk_31_method_11_code (2 : Nat) (Option.some (Jvm.ClassFile.FieldType.object "java/lang/Object")), Jvm.Cond.code ({ cls := "java/lang/StringBuilder", name := "<init>", desc := "()V" } : Jvm.MethodName) jdk_67_method_1_code (1 : Nat) (Option.none : Option Jvm.ClassFile.FieldType), Jvm.Cond.code ({ cls := "java/lang/AbstractStringBuilder", name := "<init>", desc := "(I)V" } : Jvm.MethodName) jdk_68_method_2_code (2 : Nat) (Option.none : Option Jvm.ClassFile.FieldType), Jvm.Cond.code ({ cls := "java/lang/StringBuilder", name := "append", desc := "(Ljava/lang/String;)Ljava/lang/StringBuilder;" } : Jvm.MethodName) jdk_67_method_7_code (2 : Nat) (Option.some (Jvm.ClassFile.FieldType.object "java/lang/StringBuilder")), Jvm.Cond.code ({ cls := "java/lang/AbstractStringBuilder", name := "append", desc := "(Ljava/lang/String;)Ljava/lang/AbstractStringBuilder;" } : Jvm.MethodName) jdk_68_method_22_code (3 : Nat) (Option.some (Jvm.ClassFile.FieldType.object "java/lang/AbstractStringBuilder")), Jvm.Cond.code ({ cls := "java/lang/AbstractStringBuilder", name := "ensureCapacityInternal", desc := "(I)V" } : Jvm.MethodName) jdk_68_method_9_code (3 : Nat) (Option.none : Option Jvm.ClassFile.FieldType), Jvm.Cond.code ({ cls := "java/lang/AbstractStringBuilder", name := "newCapacity", desc := "(I)I" } : Jvm.MethodName) jdk_68_method_10_code (6 : Nat) (Option.some Jvm.ClassFile.FieldType.int), Jvm.Cond.code ({ cls := "jdk/internal/util/ArraysSupport", name := "newLength", desc := "(III)I" } : Jvm.MethodName) jdk_48_method_27_code (4 : Nat) (Option.some Jvm.ClassFile.FieldType.int), Jvm.Cond.code ({ cls := "java/lang/Math", name := "max", desc := "(II)I" } : Jvm.MethodName) jdk_29_method_65_code (2 : Nat) (Option.some Jvm.ClassFile.FieldType.int), Jvm.Cond.code ({ cls := "java/util/Arrays", name := "copyOf", desc := "([BI)[B" } : Jvm.MethodName) jdk_65_method_121_code (3 : Nat) (Option.some (Jvm.ClassFile.FieldType.array Jvm.ClassFile.FieldType.byte)), Jvm.Cond.code ({ cls := "java/lang/Math", name := "min", desc := "(II)I" } : Jvm.MethodName) jdk_29_method_69_code (2 : Nat) (Option.some Jvm.ClassFile.FieldType.int), Jvm.Cond.code ({ cls := "java/lang/AbstractStringBuilder", name := "putStringAt", desc := "(ILjava/lang/String;)V" } : Jvm.MethodName) jdk_68_method_73_code (3 : Nat) (Option.none : Option Jvm.ClassFile.FieldType), Jvm.Cond.code ({ cls := "java/lang/AbstractStringBuilder", name := "inflateIfNeededFor", desc := "(Ljava/lang/String;)V" } : Jvm.MethodName) jdk_68_method_71_code (2 : Nat) (Option.none : Option Jvm.ClassFile.FieldType), Jvm.Cond.code ({ cls := "java/lang/String", name := "getBytes", desc := "([BIB)V" } : Jvm.MethodName) jdk_42_method_147_code (4 : Nat) (Option.none : Option Jvm.ClassFile.FieldType), Jvm.Cond.code ({ cls := "java/lang/StringBuilder", name := "toString", desc := "()Ljava/lang/String;" } : Jvm.MethodName) jdk_67_method_42_code (1 : Nat) (Option.some (Jvm.ClassFile.FieldType.object "java/lang/String")), Jvm.Cond.code ({ cls := "java/lang/String", name := "<init>", desc := "(Ljava/lang/StringBuilder;)V" } : Jvm.MethodName) jdk_42_method_53_code (2 : Nat) (Option.none : Option Jvm.ClassFile.FieldType), Jvm.Cond.code ({ cls := "java/lang/String", name := "<init>", desc := "(Ljava/lang/AbstractStringBuilder;Ljava/lang/Void;)V" } : Jvm.MethodName) jdk_42_method_150_code (5 : Nat) (Option.none : Option Jvm.ClassFile.FieldType), Jvm.Cond.code ({ cls := "java/lang/AbstractStringBuilder", name := "getValue", desc := "()[B" } : Jvm.MethodName) jdk_68_method_64_code (1 : Nat) (Option.some (Jvm.ClassFile.FieldType.array Jvm.ClassFile.FieldType.byte)), Jvm.Cond.code ({ cls := "java/lang/StringBuilder", name := "length", desc := "()I" } : Jvm.MethodName) jdk_67_method_93_code (1 : Nat) (Option.some Jvm.ClassFile.FieldType.int), Jvm.Cond.code ({ cls := "java/lang/AbstractStringBuilder", name := "length", desc := "()I" } : Jvm.MethodName) jdk_68_method_6_code (1 : Nat) (Option.some Jvm.ClassFile.FieldType.int), Jvm.Cond.code ({ cls := "java/lang/AbstractStringBuilder", name := "isLatin1", desc := "()Z" } : Jvm.MethodName) jdk_68_method_68_code (1 : Nat) (Option.some Jvm.ClassFile.FieldType.boolean), Jvm.Cond.code ({ cls := "java/util/Arrays", name := "copyOfRange", desc := "([BII)[B" } : Jvm.MethodName) jdk_65_method_132_code (3 : Nat) (Option.some (Jvm.ClassFile.FieldType.array Jvm.ClassFile.FieldType.byte)), Jvm.Cond.code ({ cls := "java/util/Arrays", name := "copyOfRangeByte", desc := "([BII)[B" } : Jvm.MethodName) jdk_65_method_133_code (5 : Nat) (Option.some (Jvm.ClassFile.FieldType.array Jvm.ClassFile.FieldType.byte)), Jvm.Cond.code ({ cls := "java/util/Arrays", name := "checkLength", desc := "(II)V" } : Jvm.MethodName) jdk_65_method_131_code (2 : Nat) (Option.none : Option Jvm.ClassFile.FieldType), Jvm.Cond.code ({ cls := "java/lang/String", name := "equals", desc := "(Ljava/lang/Object;)Z" } : Jvm.MethodName) jdk_42_method_66_code (3 : Nat) (Option.some Jvm.ClassFile.FieldType.boolean), Jvm.Cond.code ({ cls := "java/lang/StringLatin1", name := "equals", desc := "([B[B)Z" } : Jvm.MethodName) jdk_43_method_13_code (3 : Nat) (Option.some Jvm.ClassFile.FieldType.boolean), Jvm.Cond.code ({ cls := "java/lang/StringUTF16", name := "toBytes", desc := "([CII)[B" } : Jvm.MethodName) jdk_52_method_14_code (5 : Nat) (Option.some (Jvm.ClassFile.FieldType.array Jvm.ClassFile.FieldType.byte)), Jvm.Cond.code ({ cls := "java/lang/StringUTF16", name := "newBytesFor", desc := "(I)[B" } : Jvm.MethodName) jdk_52_method_2_code (1 : Nat) (Option.some (Jvm.ClassFile.FieldType.array Jvm.ClassFile.FieldType.byte)), Jvm.Cond.code ({ cls := "java/lang/StringUTF16", name := "newBytesLength", desc := "(I)I" } : Jvm.MethodName) jdk_52_method_3_code (1 : Nat) (Option.some Jvm.ClassFile.FieldType.int), Jvm.Cond.code ({ cls := "java/lang/StringUTF16", name := "putChar", desc := "([BII)V" } : Jvm.MethodName) jdk_52_method_4_code (3 : Nat) (Option.none : Option Jvm.ClassFile.FieldType), Jvm.Cond.code ({ cls := "java/lang/StringUTF16", name := "getChar", desc := "([BI)C" } : Jvm.MethodName) jdk_52_method_5_code (2 : Nat) (Option.some Jvm.ClassFile.FieldType.char), Jvm.Cond.code ({ cls := "java/lang/AbstractStringBuilder", name := "inflate", desc := "()V" } : Jvm.MethodName) jdk_68_method_11_code (2 : Nat) (Option.none : Option Jvm.ClassFile.FieldType), Jvm.Cond.code ({ cls := "java/lang/StringLatin1", name := "inflate", desc := "([BI[BII)V" } : Jvm.MethodName) jdk_43_method_50_code (5 : Nat) (Option.none : Option Jvm.ClassFile.FieldType), Jvm.Cond.code ({ cls := "java/lang/StringUTF16", name := "inflate", desc := "([BI[BII)V" } : Jvm.MethodName) jdk_52_method_86_code (6 : Nat) (Option.none : Option Jvm.ClassFile.FieldType), Jvm.Cond.code ({ cls := "java/lang/StringUTF16", name := "checkBoundsOffCount", desc := "(II[B)V" } : Jvm.MethodName) jdk_52_method_94_code (3 : Nat) (Option.none : Option Jvm.ClassFile.FieldType), Jvm.Cond.code ({ cls := "java/lang/StringUTF16", name := "length", desc := "([B)I" } : Jvm.MethodName) jdk_52_method_6_code (1 : Nat) (Option.some Jvm.ClassFile.FieldType.int), Jvm.Cond.code ({ cls := "java/lang/String", name := "checkBoundsOffCount", desc := "(III)I" } : Jvm.MethodName) jdk_42_method_157_code (3 : Nat) (Option.some Jvm.ClassFile.FieldType.int), Jvm.Cond.code ({ cls := "jdk/internal/util/Preconditions", name := "checkFromIndexSize", desc := "(IIILjava/util/function/BiFunction;)I" } : Jvm.MethodName) jdk_41_method_13_code (4 : Nat) (Option.some Jvm.ClassFile.FieldType.int)]
set_option maxRecDepth 65536 in
theorem codes_eq : words1.filter isCode = codes1 := rfl
theorem w_codes : ∀ c ∈ words1.filter isCode, c.before args0 about1 = true := by
  rw [codes_eq]
  intro c hc
  simp only [codes1, List.mem_cons, List.not_mem_nil, or_false] at hc
  rcases hc with rfl | rfl | rfl | rfl | rfl | rfl | rfl | rfl | rfl | rfl | rfl | rfl | rfl | rfl | rfl | rfl | rfl | rfl | rfl | rfl | rfl | rfl | rfl | rfl | rfl | rfl | rfl | rfl | rfl | rfl | rfl | rfl | rfl | rfl | rfl | rfl | rfl | rfl | rfl | rfl | rfl | rfl | rfl | rfl | rfl | rfl | rfl | rfl | rfl | rfl | rfl | rfl | rfl
  · exact w_c0
  · exact w_c1
  · exact w_c2
  · exact w_c3
  · exact w_c4
  · exact w_c5
  · exact w_c6
  · exact w_c7
  · exact w_c8
  · exact w_c9
  · exact w_c10
  · exact w_c11
  · exact w_c12
  · exact w_c13
  · exact w_c14
  · exact w_c15
  · exact w_c16
  · exact w_c17
  · exact w_c18
  · exact w_c19
  · exact w_c20
  · exact w_c21
  · exact w_c22
  · exact w_c23
  · exact w_c24
  · exact w_c25
  · exact w_c26
  · exact w_c27
  · exact w_c28
  · exact w_c29
  · exact w_c30
  · exact w_c31
  · exact w_c32
  · exact w_c33
  · exact w_c34
  · exact w_c35
  · exact w_c36
  · exact w_c37
  · exact w_c38
  · exact w_c39
  · exact w_c40
  · exact w_c41
  · exact w_c42
  · exact w_c43
  · exact w_c44
  · exact w_c45
  · exact w_c46
  · exact w_c47
  · exact w_c48
  · exact w_c49
  · exact w_c50
  · exact w_c51
  · exact w_c52
set_option maxRecDepth 65536 in
theorem w_t1 : (words1.take 24).all (fun c => isCode c || c.before args0 about1) = true := by decide +kernel
set_option maxRecDepth 65536 in
theorem w_t2 : ((words1.drop 24).take 24).all (fun c => isCode c || c.before args0 about1) = true := by decide +kernel
set_option maxRecDepth 65536 in
theorem w_t3 : (((words1.drop 24).drop 24).take 24).all (fun c => isCode c || c.before args0 about1) = true := by decide +kernel
set_option maxRecDepth 65536 in
theorem w_t4 : ((((words1.drop 24).drop 24).drop 24).take 24).all (fun c => isCode c || c.before args0 about1) = true := by decide +kernel
set_option maxRecDepth 65536 in
theorem w_t5 : (((((words1.drop 24).drop 24).drop 24).drop 24).take 24).all (fun c => isCode c || c.before args0 about1) = true := by decide +kernel
set_option maxRecDepth 65536 in
theorem w_t6 : ((((((words1.drop 24).drop 24).drop 24).drop 24).drop 24).take 24).all (fun c => isCode c || c.before args0 about1) = true := by decide +kernel
set_option maxRecDepth 65536 in
theorem w_t7 : (((((((words1.drop 24).drop 24).drop 24).drop 24).drop 24).drop 24).take 24).all (fun c => isCode c || c.before args0 about1) = true := by decide +kernel
set_option maxRecDepth 65536 in
theorem w_t8 : ((((((((words1.drop 24).drop 24).drop 24).drop 24).drop 24).drop 24).drop 24).take 24).all (fun c => isCode c || c.before args0 about1) = true := by decide +kernel
set_option maxRecDepth 65536 in
theorem w_t9 : (((((((((words1.drop 24).drop 24).drop 24).drop 24).drop 24).drop 24).drop 24).drop 24).take 24).all (fun c => isCode c || c.before args0 about1) = true := by decide +kernel
set_option maxRecDepth 65536 in
theorem w_t10 : ((((((((((words1.drop 24).drop 24).drop 24).drop 24).drop 24).drop 24).drop 24).drop 24).drop 24).take 24).all (fun c => isCode c || c.before args0 about1) = true := by decide +kernel
set_option maxRecDepth 65536 in
theorem w_t11 : ((((((((((words1.drop 24).drop 24).drop 24).drop 24).drop 24).drop 24).drop 24).drop 24).drop 24).drop 24).all (fun c => isCode c || c.before args0 about1) = true := by decide +kernel
theorem w_tables : (allAtoms (Jvm.Cond.code x code maxLocals ret :: tables_1)).before args0 about1 = true := by
  rw [allAtoms_all]
  show words1.all (fun c => c.before args0 about1) = true
  refine all_split ?_ w_codes
  rw [← List.take_append_drop 24 words1, List.all_append, w_t1, ← List.take_append_drop 24 (words1.drop 24), List.all_append, w_t2, ← List.take_append_drop 24 ((words1.drop 24).drop 24), List.all_append, w_t3, ← List.take_append_drop 24 (((words1.drop 24).drop 24).drop 24), List.all_append, w_t4, ← List.take_append_drop 24 ((((words1.drop 24).drop 24).drop 24).drop 24), List.all_append, w_t5, ← List.take_append_drop 24 (((((words1.drop 24).drop 24).drop 24).drop 24).drop 24), List.all_append, w_t6, ← List.take_append_drop 24 ((((((words1.drop 24).drop 24).drop 24).drop 24).drop 24).drop 24), List.all_append, w_t7, ← List.take_append_drop 24 (((((((words1.drop 24).drop 24).drop 24).drop 24).drop 24).drop 24).drop 24), List.all_append, w_t8, ← List.take_append_drop 24 ((((((((words1.drop 24).drop 24).drop 24).drop 24).drop 24).drop 24).drop 24).drop 24), List.all_append, w_t9, ← List.take_append_drop 24 (((((((((words1.drop 24).drop 24).drop 24).drop 24).drop 24).drop 24).drop 24).drop 24).drop 24), List.all_append, w_t10, w_t11]
  rfl
set_option maxRecDepth 65536 in
theorem w_rest : rest_1_c.before args0 about1 = true := by decide +kernel
set_option maxRecDepth 65536 in
theorem w_case : (Jvm.Cond.and given_1 narrow_1).before args0 about1 = true := by decide +kernel
set_option maxRecDepth 65536 in
theorem w_consts : constsHeld consts_1 about1 := Jvm.Lit.constsHeldB_iff.mp (by decide +kernel)
theorem w_applies : (headSpec (Jvm.Cond.code x code maxLocals ret :: tables_1) room_1).applies x e0.platform about1 = true :=
  (Spec.applies_iff w_frames).mpr ⟨w_running, w_runnable, w_alone, w_named, w_hears, w_ripe, w_room, w_tables⟩
theorem atStart : AtStart classFile x code maxLocals ret World_1 tables_1 room_1 Calls_1 rest_1 Pre_1 launch0 p0 e0 about1 theMethod args0 below0 :=
  ⟨lists_1, trivial, launch0.admits_env _ _ _, launch0.least_env, fairChoices_fair.cas, fairChoices_fair.clock, w_frames, w_args, w_heap, w_applies, ⟨w_consts, trivial⟩, w_rest, w_case⟩
end start1
theorem witness_1 : WitnessClaimed_1 := ⟨start1.p0, start1.e0, start1.about1, start1.theMethod, start1.args0, start1.below0, start1.atStart⟩
end Jvm.Pilot.@@N@@
