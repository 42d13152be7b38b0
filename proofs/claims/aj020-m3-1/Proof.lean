import JvmDerived
import JvmDerived.Pilot.@@N@@Statement
import JvmDerived.Pilot.@@N@@Code
set_option linter.unusedVariables false
set_option linter.unusedSimpArgs false
@@BLOCK:NumsL.lean.txt@@
namespace Jvm.Pilot.@@N@@
open Jvm Jvm.ClassFile Sem Op Lib Jvm.Free Jvm.Stand Jvm.LawKit Jvm.RoadKit Bundle Jvm.Pilot.@@N@@.Jvm.D
/-! ## The walk layer: where a walk stands (On), what is fixed in it (Cx), the goal (Gl), a method's contract (Con) -/
def On (p : Program) (l : Launch) (e : Env) (R : Room) (s : State) (m : MethodId) (args : Array Value) (below : List Frame) (meth : Method) (c : Code) (n0 : Nat) (T : State) (h : Heap) (k n : Nat) : Prop :=
  ∃ locs, Stand p l e R s m args below meth c T locs k n ∧ Fr n0 locs ∧ T.heap = h
def Cx (p : Program) (s : State) (m : MethodId) (meth : Method) (c : Code) (Z : State) (own name : String) (cod : ByteArray) (maxL : Nat) (ret : Option FieldType) : Prop :=
  p.tables.exec = Jvm.exec ∧ Z.Warmed39 s.vm ∧ c.code = cod ∧ c.maxLocals = maxL ∧ s.vm.findClass own = some m.cls ∧ meth.name = name ∧ meth.sig.returnType = ret ∧ meth.locks = false
def Gl (p : Program) (e : Env) (below : List Frame) (s : State) (R : Room) (n0 : Nat) (Q : Option Value → Heap → Prop) (T : State) (g : JFrame) : Prop :=
  ∃ s₂ o, Steps p.tables e below (T.setTop g) s₂ ∧ s₂.status = .running ∧ Ended s₂ below o ∧ ∃ v L, o = .returned v ∧ (Q v s₂.heap ∧ Fr n0 L) ∧ FrameEnd s o s₂ L R.cells R.slots
def Con (l : Launch) (Z : State) (y : MethodName) (cod : ByteArray) (maxL : Nat) (ret : Option FieldType) (rm : Room) (as : Array Value) (h0 : Heap) (n0 : Nat) (Q : Option Value → Heap → Prop) : Prop :=
  ∀ ws, MetFree l y (head1 (Jvm.Cond.code y cod maxL ret :: ws) rm) (fun a U => a = as ∧ Z.Warmed39 U.vm ∧ U.heap = h0) (fun _ _ _ _ _ => True) (fun _ U o U' => ∃ v L, o = .returned v ∧ (Q v U'.heap ∧ Fr n0 L) ∧ FrameEnd U o U' L rm.cells rm.slots)
section OwnKit
variable {p : Program} {l : Launch} {e : Env} {R : Room} {s : State} {m : MethodId} {args : Array Value} {below : List Frame} {meth : Method} {c : Code} {Z : State} {a0 : Array Value} {n0 : Nat} {T : State} {h h' h0 : Heap} {k n : Nat} {own name : String} {cod : ByteArray} {maxL : Nat} {ret : Option FieldType} {Q : Option Value → Heap → Prop} {pc pc' pf : Nat} {L L' : Array Slot} {r : List Value} {a b : Addr}
theorem Gl.st {T' : State} {g g' : JFrame} (kk : Gl p e below s R n0 Q T' g') (hs : ∀ t, Steps p.tables e below (T'.setTop g') t → Steps p.tables e below (T.setTop g) t) : Gl p e below s R n0 Q T g := by
  obtain ⟨s2, o, h1, q⟩ := kk; exact ⟨s2, o, hs _ h1, q⟩
theorem Con.of {y : MethodName} {rm : Room} {as : Array Value} (hpl : plainFor y = true) {L0 : Array Slot} (hef : ∀ m, entryFrame m as maxL = mkF m 0 L0 [])
    (body : ∀ (p : Program) (e : Env) (s : State) (m : MethodId) (below : List Frame) (meth : Method) (c : Code) (T : State), Cx p s m meth c Z y.cls y.name cod maxL ret → On p l e rm s m as below meth c n0 T h0 0 0 → Gl p e below s rm n0 Q T (mkF m 0 L0 [])) :
    Con l Z y cod maxL ret rm as h0 n0 Q := by
  intro ws
  refine MetFree.of_bodySF hpl hisR ?_
  intro p e s m args below meth c s₁ Bd hml0 hP hK
  obtain ⟨rfl, hZ, hh⟩ := hP
  have e0 : s₁.heap = h0 := by rw [← hh, Bd.state]; rfl
  have q := body p e s m below meth c s₁ ⟨Bd.exec, hZ, Bd.bytes, hml0, findClass_of_methodNamed Bd.named, (name_of_methodNamed Bd.named Bd.method).1, Bd.returns, Bd.notSynchronized⟩ ⟨[], Stand.of_body Bd, Fr.nil n0, e0⟩
  rw [← hef m] at q
  exact q
theorem Con.imp {y : MethodName} {rm : Room} {as : Array Value} {Q' : Option Value → Heap → Prop} (K : Con l Z y cod maxL ret rm as h0 n0 Q) (hq : ∀ v h, Q v h → Q' v h) : Con l Z y cod maxL ret rm as h0 n0 Q' := by
  intro ws p e ha hc hk s m args below hf happ hP hK
  obtain ⟨n, o, h1, h2, h3, v, L, h4, ⟨h5, h6⟩, h7⟩ := K ws p e ha hc hk s m args below hf happ hP hK
  exact ⟨n, o, h1, h2, h3, v, L, h4, ⟨hq _ _ h5, h6⟩, h7⟩
theorem g_iload (C : Cx p s m meth c Z own name cod maxL ret) (S : On p l e R s m args below meth c n0 T h k n) {i : Nat} {v : Int32} (hd : decode cod pc = .ok (.iload i, 2)) (hp : pc + 2 = pc') (hl : L[i]? = some (.val (.int v))) (kk : Gl p e below s R n0 Q T (mkF m pc' L (.int v :: r))) : Gl p e below s R n0 Q T (mkF m pc L r) := by
  obtain ⟨locs, X, -⟩ := S; subst hp
  exact kk.st fun _ q => XS.iload X.here C.1 rfl (hb C.2.2.1 hd) hl q
theorem g_iloadN (C : Cx p s m meth c Z own name cod maxL ret) (S : On p l e R s m args below meth c n0 T h k n) {i : Fin 4} {v : Int32} (hd : decode cod pc = .ok (.iload_n i, 1)) (hp : pc + 1 = pc') (hl : L[i.val]? = some (.val (.int v))) (kk : Gl p e below s R n0 Q T (mkF m pc' L (.int v :: r))) : Gl p e below s R n0 Q T (mkF m pc L r) := by
  obtain ⟨locs, X, -⟩ := S; subst hp
  exact kk.st fun _ q => XS.iloadN X.here C.1 rfl (hb C.2.2.1 hd) hl q
theorem g_istore (C : Cx p s m meth c Z own name cod maxL ret) (S : On p l e R s m args below meth c n0 T h k n) {i : Nat} {v : Int32} (hd : decode cod pc = .ok (.istore i, 2)) (hp : pc + 2 = pc') (hl : storeLocals L i (.int v) = some L') (kk : Gl p e below s R n0 Q T (mkF m pc' L' r)) : Gl p e below s R n0 Q T (mkF m pc L (.int v :: r)) := by
  obtain ⟨locs, X, -⟩ := S; subst hp
  exact kk.st fun _ q => XS.istore X.here C.1 rfl (hb C.2.2.1 hd) rfl hl q
theorem g_istoreN (C : Cx p s m meth c Z own name cod maxL ret) (S : On p l e R s m args below meth c n0 T h k n) {i : Fin 4} {v : Int32} (hd : decode cod pc = .ok (.istore_n i, 1)) (hp : pc + 1 = pc') (hl : storeLocals L i.val (.int v) = some L') (kk : Gl p e below s R n0 Q T (mkF m pc' L' r)) : Gl p e below s R n0 Q T (mkF m pc L (.int v :: r)) := by
  obtain ⟨locs, X, -⟩ := S; subst hp
  exact kk.st fun _ q => XS.istoreN X.here C.1 rfl (hb C.2.2.1 hd) rfl hl q
theorem g_lload (C : Cx p s m meth c Z own name cod maxL ret) (S : On p l e R s m args below meth c n0 T h k n) {i : Nat} {v : Int64} (hd : decode cod pc = .ok (.lload i, 2)) (hp : pc + 2 = pc') (hl : L[i]? = some (.val (.long v))) (kk : Gl p e below s R n0 Q T (mkF m pc' L (.long v :: r))) : Gl p e below s R n0 Q T (mkF m pc L r) := by
  obtain ⟨locs, X, -⟩ := S; subst hp
  exact kk.st fun _ q => XS.lload X.here C.1 rfl (hb C.2.2.1 hd) hl q
theorem g_lloadN (C : Cx p s m meth c Z own name cod maxL ret) (S : On p l e R s m args below meth c n0 T h k n) {i : Fin 4} {v : Int64} (hd : decode cod pc = .ok (.lload_n i, 1)) (hp : pc + 1 = pc') (hl : L[i.val]? = some (.val (.long v))) (kk : Gl p e below s R n0 Q T (mkF m pc' L (.long v :: r))) : Gl p e below s R n0 Q T (mkF m pc L r) := by
  obtain ⟨locs, X, -⟩ := S; subst hp
  exact kk.st fun _ q => XS.lloadN X.here C.1 rfl (hb C.2.2.1 hd) hl q
theorem g_lstore (C : Cx p s m meth c Z own name cod maxL ret) (S : On p l e R s m args below meth c n0 T h k n) {i : Nat} {v : Int64} (hd : decode cod pc = .ok (.lstore i, 2)) (hp : pc + 2 = pc') (hl : storeLocals L i (.long v) = some L') (kk : Gl p e below s R n0 Q T (mkF m pc' L' r)) : Gl p e below s R n0 Q T (mkF m pc L (.long v :: r)) := by
  obtain ⟨locs, X, -⟩ := S; subst hp
  exact kk.st fun _ q => XS.lstore X.here C.1 rfl (hb C.2.2.1 hd) rfl hl q
theorem g_lstoreN (C : Cx p s m meth c Z own name cod maxL ret) (S : On p l e R s m args below meth c n0 T h k n) {i : Fin 4} {v : Int64} (hd : decode cod pc = .ok (.lstore_n i, 1)) (hp : pc + 1 = pc') (hl : storeLocals L i.val (.long v) = some L') (kk : Gl p e below s R n0 Q T (mkF m pc' L' r)) : Gl p e below s R n0 Q T (mkF m pc L (.long v :: r)) := by
  obtain ⟨locs, X, -⟩ := S; subst hp
  exact kk.st fun _ q => XS.lstoreN X.here C.1 rfl (hb C.2.2.1 hd) rfl hl q
theorem g_aload (C : Cx p s m meth c Z own name cod maxL ret) (S : On p l e R s m args below meth c n0 T h k n) {i : Nat} {v : Value} (hd : decode cod pc = .ok (.aload i, 2)) (hp : pc + 2 = pc') (hl : L[i]? = some (.val v)) (hv : v.isRef = true) (kk : Gl p e below s R n0 Q T (mkF m pc' L (v :: r))) : Gl p e below s R n0 Q T (mkF m pc L r) := by
  obtain ⟨locs, X, -⟩ := S; subst hp
  exact kk.st fun _ q => XS.aload X.here C.1 rfl (hb C.2.2.1 hd) hl hv q
theorem g_aloadN (C : Cx p s m meth c Z own name cod maxL ret) (S : On p l e R s m args below meth c n0 T h k n) {i : Fin 4} {v : Value} (hd : decode cod pc = .ok (.aload_n i, 1)) (hp : pc + 1 = pc') (hl : L[i.val]? = some (.val v)) (hv : v.isRef = true) (kk : Gl p e below s R n0 Q T (mkF m pc' L (v :: r))) : Gl p e below s R n0 Q T (mkF m pc L r) := by
  obtain ⟨locs, X, -⟩ := S; subst hp
  exact kk.st fun _ q => XS.aloadN X.here C.1 rfl (hb C.2.2.1 hd) hl hv q
theorem g_astore (C : Cx p s m meth c Z own name cod maxL ret) (S : On p l e R s m args below meth c n0 T h k n) {i : Nat} {v : Value} (hd : decode cod pc = .ok (.astore i, 2)) (hp : pc + 2 = pc') (hv : v.isRef = true) (hl : storeLocals L i v = some L') (kk : Gl p e below s R n0 Q T (mkF m pc' L' r)) : Gl p e below s R n0 Q T (mkF m pc L (v :: r)) := by
  obtain ⟨locs, X, -⟩ := S; subst hp
  exact kk.st fun _ q => XS.astore X.here C.1 rfl (hb C.2.2.1 hd) rfl hv hl q
theorem g_astoreN (C : Cx p s m meth c Z own name cod maxL ret) (S : On p l e R s m args below meth c n0 T h k n) {i : Fin 4} {v : Value} (hd : decode cod pc = .ok (.astore_n i, 1)) (hp : pc + 1 = pc') (hv : v.isRef = true) (hl : storeLocals L i.val v = some L') (kk : Gl p e below s R n0 Q T (mkF m pc' L' r)) : Gl p e below s R n0 Q T (mkF m pc L (v :: r)) := by
  obtain ⟨locs, X, -⟩ := S; subst hp
  exact kk.st fun _ q => XS.astoreN X.here C.1 rfl (hb C.2.2.1 hd) rfl hv hl q
theorem g_iconst (C : Cx p s m meth c Z own name cod maxL ret) (S : On p l e R s m args below meth c n0 T h k n) {i : Int} (v : Int32) (hd : decode cod pc = .ok (.iconst i, 1)) (hp : pc + 1 = pc') (hv : Int32.ofInt i = v) (kk : Gl p e below s R n0 Q T (mkF m pc' L (.int v :: r))) : Gl p e below s R n0 Q T (mkF m pc L r) := by
  obtain ⟨locs, X, -⟩ := S; subst hp hv
  exact kk.st fun _ q => XS.iconst X.here C.1 rfl (hb C.2.2.1 hd) q
theorem g_bipush (C : Cx p s m meth c Z own name cod maxL ret) (S : On p l e R s m args below meth c n0 T h k n) {i : Int} (v : Int32) (hd : decode cod pc = .ok (.bipush i, 2)) (hp : pc + 2 = pc') (hv : (Int8.ofInt i).toInt32 = v) (kk : Gl p e below s R n0 Q T (mkF m pc' L (.int v :: r))) : Gl p e below s R n0 Q T (mkF m pc L r) := by
  obtain ⟨locs, X, -⟩ := S; subst hp hv
  exact kk.st fun _ q => XS.bipush X.here C.1 rfl (hb C.2.2.1 hd) q
theorem g_sipush (C : Cx p s m meth c Z own name cod maxL ret) (S : On p l e R s m args below meth c n0 T h k n) {i : Int} (v : Int32) (hd : decode cod pc = .ok (.sipush i, 3)) (hp : pc + 3 = pc') (hv : (Int16.ofInt i).toInt32 = v) (kk : Gl p e below s R n0 Q T (mkF m pc' L (.int v :: r))) : Gl p e below s R n0 Q T (mkF m pc L r) := by
  obtain ⟨locs, X, -⟩ := S; subst hp hv
  exact kk.st fun _ q => XS.sipush X.here C.1 rfl (hb C.2.2.1 hd) q
theorem g_lconst (C : Cx p s m meth c Z own name cod maxL ret) (S : On p l e R s m args below meth c n0 T h k n) {i : Fin 2} (v : Int64) (hd : decode cod pc = .ok (.lconst i, 1)) (hp : pc + 1 = pc') (hv : Int64.ofNat i = v) (kk : Gl p e below s R n0 Q T (mkF m pc' L (.long v :: r))) : Gl p e below s R n0 Q T (mkF m pc L r) := by
  obtain ⟨locs, X, -⟩ := S; subst hp hv
  exact kk.st fun _ q => XS.lconst X.here C.1 rfl (hb C.2.2.1 hd) q
theorem g_aconst_null (C : Cx p s m meth c Z own name cod maxL ret) (S : On p l e R s m args below meth c n0 T h k n) (hd : decode cod pc = .ok (.aconst_null, 1)) (hp : pc + 1 = pc') (kk : Gl p e below s R n0 Q T (mkF m pc' L (.null :: r))) : Gl p e below s R n0 Q T (mkF m pc L r) := by
  obtain ⟨locs, X, -⟩ := S; subst hp
  exact kk.st fun _ q => XS.aconstNull X.here C.1 rfl (hb C.2.2.1 hd) q
theorem g_iadd (C : Cx p s m meth c Z own name cod maxL ret) (S : On p l e R s m args below meth c n0 T h k n) {x y : Int32} (hd : decode cod pc = .ok (.iadd, 1)) (hp : pc + 1 = pc') (kk : Gl p e below s R n0 Q T (mkF m pc' L (.int (x + y) :: r))) : Gl p e below s R n0 Q T (mkF m pc L (.int y :: .int x :: r)) := by
  obtain ⟨locs, X, -⟩ := S; subst hp
  exact kk.st fun _ q => XS.iadd X.here C.1 rfl (hb C.2.2.1 hd) rfl q
theorem g_isub (C : Cx p s m meth c Z own name cod maxL ret) (S : On p l e R s m args below meth c n0 T h k n) {x y : Int32} (hd : decode cod pc = .ok (.isub, 1)) (hp : pc + 1 = pc') (kk : Gl p e below s R n0 Q T (mkF m pc' L (.int (x - y) :: r))) : Gl p e below s R n0 Q T (mkF m pc L (.int y :: .int x :: r)) := by
  obtain ⟨locs, X, -⟩ := S; subst hp
  exact kk.st fun _ q => XS.isub X.here C.1 rfl (hb C.2.2.1 hd) rfl q
theorem g_imul (C : Cx p s m meth c Z own name cod maxL ret) (S : On p l e R s m args below meth c n0 T h k n) {x y : Int32} (hd : decode cod pc = .ok (.imul, 1)) (hp : pc + 1 = pc') (kk : Gl p e below s R n0 Q T (mkF m pc' L (.int (x * y) :: r))) : Gl p e below s R n0 Q T (mkF m pc L (.int y :: .int x :: r)) := by
  obtain ⟨locs, X, -⟩ := S; subst hp
  exact kk.st fun _ q => XS.imul X.here C.1 rfl (hb C.2.2.1 hd) rfl q
theorem g_iand (C : Cx p s m meth c Z own name cod maxL ret) (S : On p l e R s m args below meth c n0 T h k n) {x y : Int32} (hd : decode cod pc = .ok (.iand, 1)) (hp : pc + 1 = pc') (kk : Gl p e below s R n0 Q T (mkF m pc' L (.int (x &&& y) :: r))) : Gl p e below s R n0 Q T (mkF m pc L (.int y :: .int x :: r)) := by
  obtain ⟨locs, X, -⟩ := S; subst hp
  exact kk.st fun _ q => XS.iand X.here C.1 rfl (hb C.2.2.1 hd) rfl q
theorem g_ior (C : Cx p s m meth c Z own name cod maxL ret) (S : On p l e R s m args below meth c n0 T h k n) {x y : Int32} (hd : decode cod pc = .ok (.ior, 1)) (hp : pc + 1 = pc') (kk : Gl p e below s R n0 Q T (mkF m pc' L (.int (x ||| y) :: r))) : Gl p e below s R n0 Q T (mkF m pc L (.int y :: .int x :: r)) := by
  obtain ⟨locs, X, -⟩ := S; subst hp
  exact kk.st fun _ q => XS.ior X.here C.1 rfl (hb C.2.2.1 hd) rfl q
theorem g_ixor (C : Cx p s m meth c Z own name cod maxL ret) (S : On p l e R s m args below meth c n0 T h k n) {x y : Int32} (hd : decode cod pc = .ok (.ixor, 1)) (hp : pc + 1 = pc') (kk : Gl p e below s R n0 Q T (mkF m pc' L (.int (x ^^^ y) :: r))) : Gl p e below s R n0 Q T (mkF m pc L (.int y :: .int x :: r)) := by
  obtain ⟨locs, X, -⟩ := S; subst hp
  exact kk.st fun _ q => XS.ixor X.here C.1 rfl (hb C.2.2.1 hd) rfl q
theorem g_ladd (C : Cx p s m meth c Z own name cod maxL ret) (S : On p l e R s m args below meth c n0 T h k n) {x y : Int64} (hd : decode cod pc = .ok (.ladd, 1)) (hp : pc + 1 = pc') (kk : Gl p e below s R n0 Q T (mkF m pc' L (.long (x + y) :: r))) : Gl p e below s R n0 Q T (mkF m pc L (.long y :: .long x :: r)) := by
  obtain ⟨locs, X, -⟩ := S; subst hp
  exact kk.st fun _ q => XS.ladd X.here C.1 rfl (hb C.2.2.1 hd) rfl q
theorem g_lsub (C : Cx p s m meth c Z own name cod maxL ret) (S : On p l e R s m args below meth c n0 T h k n) {x y : Int64} (hd : decode cod pc = .ok (.lsub, 1)) (hp : pc + 1 = pc') (kk : Gl p e below s R n0 Q T (mkF m pc' L (.long (x - y) :: r))) : Gl p e below s R n0 Q T (mkF m pc L (.long y :: .long x :: r)) := by
  obtain ⟨locs, X, -⟩ := S; subst hp
  exact kk.st fun _ q => XS.lsub X.here C.1 rfl (hb C.2.2.1 hd) rfl q
theorem g_lmul (C : Cx p s m meth c Z own name cod maxL ret) (S : On p l e R s m args below meth c n0 T h k n) {x y : Int64} (hd : decode cod pc = .ok (.lmul, 1)) (hp : pc + 1 = pc') (kk : Gl p e below s R n0 Q T (mkF m pc' L (.long (x * y) :: r))) : Gl p e below s R n0 Q T (mkF m pc L (.long y :: .long x :: r)) := by
  obtain ⟨locs, X, -⟩ := S; subst hp
  exact kk.st fun _ q => XS.lmul X.here C.1 rfl (hb C.2.2.1 hd) rfl q
theorem g_land (C : Cx p s m meth c Z own name cod maxL ret) (S : On p l e R s m args below meth c n0 T h k n) {x y : Int64} (hd : decode cod pc = .ok (.land, 1)) (hp : pc + 1 = pc') (kk : Gl p e below s R n0 Q T (mkF m pc' L (.long (x &&& y) :: r))) : Gl p e below s R n0 Q T (mkF m pc L (.long y :: .long x :: r)) := by
  obtain ⟨locs, X, -⟩ := S; subst hp
  exact kk.st fun _ q => XS.land X.here C.1 rfl (hb C.2.2.1 hd) rfl q
theorem g_lor (C : Cx p s m meth c Z own name cod maxL ret) (S : On p l e R s m args below meth c n0 T h k n) {x y : Int64} (hd : decode cod pc = .ok (.lor, 1)) (hp : pc + 1 = pc') (kk : Gl p e below s R n0 Q T (mkF m pc' L (.long (x ||| y) :: r))) : Gl p e below s R n0 Q T (mkF m pc L (.long y :: .long x :: r)) := by
  obtain ⟨locs, X, -⟩ := S; subst hp
  exact kk.st fun _ q => XS.lor X.here C.1 rfl (hb C.2.2.1 hd) rfl q
theorem g_lxor (C : Cx p s m meth c Z own name cod maxL ret) (S : On p l e R s m args below meth c n0 T h k n) {x y : Int64} (hd : decode cod pc = .ok (.lxor, 1)) (hp : pc + 1 = pc') (kk : Gl p e below s R n0 Q T (mkF m pc' L (.long (x ^^^ y) :: r))) : Gl p e below s R n0 Q T (mkF m pc L (.long y :: .long x :: r)) := by
  obtain ⟨locs, X, -⟩ := S; subst hp
  exact kk.st fun _ q => XS.lxor X.here C.1 rfl (hb C.2.2.1 hd) rfl q
theorem g_ishl (C : Cx p s m meth c Z own name cod maxL ret) (S : On p l e R s m args below meth c n0 T h k n) {x y : Int32} (hd : decode cod pc = .ok (.ishl, 1)) (hp : pc + 1 = pc') (kk : Gl p e below s R n0 Q T (mkF m pc' L (.int (x <<< (y &&& 31)) :: r))) : Gl p e below s R n0 Q T (mkF m pc L (.int y :: .int x :: r)) := by
  obtain ⟨locs, X, -⟩ := S; subst hp
  exact kk.st fun _ q => XS.ishl X.here C.1 rfl (hb C.2.2.1 hd) rfl q
theorem g_ishr (C : Cx p s m meth c Z own name cod maxL ret) (S : On p l e R s m args below meth c n0 T h k n) {x y : Int32} (hd : decode cod pc = .ok (.ishr, 1)) (hp : pc + 1 = pc') (kk : Gl p e below s R n0 Q T (mkF m pc' L (.int (x >>> (y &&& 31)) :: r))) : Gl p e below s R n0 Q T (mkF m pc L (.int y :: .int x :: r)) := by
  obtain ⟨locs, X, -⟩ := S; subst hp
  exact kk.st fun _ q => XS.ishr X.here C.1 rfl (hb C.2.2.1 hd) rfl q
theorem g_iushr (C : Cx p s m meth c Z own name cod maxL ret) (S : On p l e R s m args below meth c n0 T h k n) {x y : Int32} (hd : decode cod pc = .ok (.iushr, 1)) (hp : pc + 1 = pc') (kk : Gl p e below s R n0 Q T (mkF m pc' L (.int ((x.toUInt32 >>> (y &&& 31).toUInt32).toInt32) :: r))) : Gl p e below s R n0 Q T (mkF m pc L (.int y :: .int x :: r)) := by
  obtain ⟨locs, X, -⟩ := S; subst hp
  exact kk.st fun _ q => XS.iushr X.here C.1 rfl (hb C.2.2.1 hd) rfl q
theorem g_lshl (C : Cx p s m meth c Z own name cod maxL ret) (S : On p l e R s m args below meth c n0 T h k n) {x : Int64} {y : Int32} (hd : decode cod pc = .ok (.lshl, 1)) (hp : pc + 1 = pc') (kk : Gl p e below s R n0 Q T (mkF m pc' L (.long (x <<< (y &&& 0x3f).toInt64) :: r))) : Gl p e below s R n0 Q T (mkF m pc L (.int y :: .long x :: r)) := by
  obtain ⟨locs, X, -⟩ := S; subst hp
  exact kk.st fun _ q => XS.lshl X.here C.1 rfl (hb C.2.2.1 hd) rfl q
theorem g_lshr (C : Cx p s m meth c Z own name cod maxL ret) (S : On p l e R s m args below meth c n0 T h k n) {x : Int64} {y : Int32} (hd : decode cod pc = .ok (.lshr, 1)) (hp : pc + 1 = pc') (kk : Gl p e below s R n0 Q T (mkF m pc' L (.long (x >>> (y &&& 0x3f).toInt64) :: r))) : Gl p e below s R n0 Q T (mkF m pc L (.int y :: .long x :: r)) := by
  obtain ⟨locs, X, -⟩ := S; subst hp
  exact kk.st fun _ q => XS.lshr X.here C.1 rfl (hb C.2.2.1 hd) rfl q
theorem g_lushr (C : Cx p s m meth c Z own name cod maxL ret) (S : On p l e R s m args below meth c n0 T h k n) {x : Int64} {y : Int32} (hd : decode cod pc = .ok (.lushr, 1)) (hp : pc + 1 = pc') (kk : Gl p e below s R n0 Q T (mkF m pc' L (.long ((x.toUInt64 >>> (y &&& 0x3f).toInt64.toUInt64).toInt64) :: r))) : Gl p e below s R n0 Q T (mkF m pc L (.int y :: .long x :: r)) := by
  obtain ⟨locs, X, -⟩ := S; subst hp
  exact kk.st fun _ q => XS.lushr X.here C.1 rfl (hb C.2.2.1 hd) rfl q
theorem g_i2l (C : Cx p s m meth c Z own name cod maxL ret) (S : On p l e R s m args below meth c n0 T h k n) {x : Int32} (hd : decode cod pc = .ok (.i2l, 1)) (hp : pc + 1 = pc') (kk : Gl p e below s R n0 Q T (mkF m pc' L (.long (x.toInt64) :: r))) : Gl p e below s R n0 Q T (mkF m pc L (.int x :: r)) := by
  obtain ⟨locs, X, -⟩ := S; subst hp
  exact kk.st fun _ q => XS.i2l X.here C.1 rfl (hb C.2.2.1 hd) rfl q
theorem g_l2i (C : Cx p s m meth c Z own name cod maxL ret) (S : On p l e R s m args below meth c n0 T h k n) {x : Int64} (hd : decode cod pc = .ok (.l2i, 1)) (hp : pc + 1 = pc') (kk : Gl p e below s R n0 Q T (mkF m pc' L (.int (x.toInt32) :: r))) : Gl p e below s R n0 Q T (mkF m pc L (.long x :: r)) := by
  obtain ⟨locs, X, -⟩ := S; subst hp
  exact kk.st fun _ q => XS.l2i X.here C.1 rfl (hb C.2.2.1 hd) rfl q
theorem g_i2b (C : Cx p s m meth c Z own name cod maxL ret) (S : On p l e R s m args below meth c n0 T h k n) {x : Int32} (hd : decode cod pc = .ok (.i2b, 1)) (hp : pc + 1 = pc') (kk : Gl p e below s R n0 Q T (mkF m pc' L (.int (x.toInt8.toInt32) :: r))) : Gl p e below s R n0 Q T (mkF m pc L (.int x :: r)) := by
  obtain ⟨locs, X, -⟩ := S; subst hp
  exact kk.st fun _ q => XS.i2b X.here C.1 rfl (hb C.2.2.1 hd) rfl q
theorem g_i2c (C : Cx p s m meth c Z own name cod maxL ret) (S : On p l e R s m args below meth c n0 T h k n) {x : Int32} (hd : decode cod pc = .ok (.i2c, 1)) (hp : pc + 1 = pc') (kk : Gl p e below s R n0 Q T (mkF m pc' L (.int (x.toUInt32.toUInt16.toUInt32.toInt32) :: r))) : Gl p e below s R n0 Q T (mkF m pc L (.int x :: r)) := by
  obtain ⟨locs, X, -⟩ := S; subst hp
  exact kk.st fun _ q => XS.i2c X.here C.1 rfl (hb C.2.2.1 hd) rfl q
theorem g_i2s (C : Cx p s m meth c Z own name cod maxL ret) (S : On p l e R s m args below meth c n0 T h k n) {x : Int32} (hd : decode cod pc = .ok (.i2s, 1)) (hp : pc + 1 = pc') (kk : Gl p e below s R n0 Q T (mkF m pc' L (.int (x.toInt16.toInt32) :: r))) : Gl p e below s R n0 Q T (mkF m pc L (.int x :: r)) := by
  obtain ⟨locs, X, -⟩ := S; subst hp
  exact kk.st fun _ q => XS.i2s X.here C.1 rfl (hb C.2.2.1 hd) rfl q
theorem g_lneg (C : Cx p s m meth c Z own name cod maxL ret) (S : On p l e R s m args below meth c n0 T h k n) {x : Int64} (hd : decode cod pc = .ok (.lneg, 1)) (hp : pc + 1 = pc') (kk : Gl p e below s R n0 Q T (mkF m pc' L (.long (-x) :: r))) : Gl p e below s R n0 Q T (mkF m pc L (.long x :: r)) := by
  obtain ⟨locs, X, -⟩ := S; subst hp
  exact kk.st fun _ q => XS.lneg X.here C.1 rfl (hb C.2.2.1 hd) rfl q
theorem g_ineg (C : Cx p s m meth c Z own name cod maxL ret) (S : On p l e R s m args below meth c n0 T h k n) {x : Int32} (hd : decode cod pc = .ok (.ineg, 1)) (hp : pc + 1 = pc') (kk : Gl p e below s R n0 Q T (mkF m pc' L (.int (-x) :: r))) : Gl p e below s R n0 Q T (mkF m pc L (.int x :: r)) := by
  obtain ⟨locs, X, -⟩ := S; subst hp
  exact kk.st fun _ q => XS.ineg X.here C.1 rfl (hb C.2.2.1 hd) rfl q
theorem g_irem (C : Cx p s m meth c Z own name cod maxL ret) (S : On p l e R s m args below meth c n0 T h k n) {x y : Int32} (hd : decode cod pc = .ok (.irem, 1)) (hp : pc + 1 = pc') (hy : y ≠ 0) (kk : Gl p e below s R n0 Q T (mkF m pc' L (.int (x % y) :: r))) : Gl p e below s R n0 Q T (mkF m pc L (.int y :: .int x :: r)) := by
  obtain ⟨locs, X, -⟩ := S; subst hp
  exact kk.st fun _ q => iremM X C.1 rfl (hb C.2.2.1 hd) rfl hy q
theorem g_idiv (C : Cx p s m meth c Z own name cod maxL ret) (S : On p l e R s m args below meth c n0 T h k n) {x y : Int32} (hd : decode cod pc = .ok (.idiv, 1)) (hp : pc + 1 = pc') (hy : y ≠ 0) (kk : Gl p e below s R n0 Q T (mkF m pc' L (.int (x / y) :: r))) : Gl p e below s R n0 Q T (mkF m pc L (.int y :: .int x :: r)) := by
  obtain ⟨locs, X, -⟩ := S; subst hp
  exact kk.st fun _ q => XS.idiv X.here C.1 rfl (hb C.2.2.1 hd) rfl hy q
theorem g_lcmp (C : Cx p s m meth c Z own name cod maxL ret) (S : On p l e R s m args below meth c n0 T h k n) {x y : Int64} (hd : decode cod pc = .ok (.lcmp, 1)) (hp : pc + 1 = pc') (kk : Gl p e below s R n0 Q T (mkF m pc' L (.int (lcmpW x y) :: r))) : Gl p e below s R n0 Q T (mkF m pc L (.long y :: .long x :: r)) := by
  obtain ⟨locs, X, -⟩ := S; subst hp
  exact kk.st fun _ q => XS.lcmp X.here C.1 rfl (hb C.2.2.1 hd) rfl q
theorem g_dup (C : Cx p s m meth c Z own name cod maxL ret) (S : On p l e R s m args below meth c n0 T h k n) {x : Value} (hd : decode cod pc = .ok (.dup, 1)) (hp : pc + 1 = pc') (hc : x.category = 1) (kk : Gl p e below s R n0 Q T (mkF m pc' L (x :: x :: r))) : Gl p e below s R n0 Q T (mkF m pc L (x :: r)) := by
  obtain ⟨locs, X, -⟩ := S; subst hp
  exact kk.st fun _ q => XS.dup X.here C.1 rfl (hb C.2.2.1 hd) rfl hc q
theorem g_pop (C : Cx p s m meth c Z own name cod maxL ret) (S : On p l e R s m args below meth c n0 T h k n) {x : Value} (hd : decode cod pc = .ok (.pop, 1)) (hp : pc + 1 = pc') (hc : x.category = 1) (kk : Gl p e below s R n0 Q T (mkF m pc' L r)) : Gl p e below s R n0 Q T (mkF m pc L (x :: r)) := by
  obtain ⟨locs, X, -⟩ := S; subst hp
  exact kk.st fun _ q => XS.pop X.here C.1 rfl (hb C.2.2.1 hd) rfl hc q
theorem g_dup_x1 (C : Cx p s m meth c Z own name cod maxL ret) (S : On p l e R s m args below meth c n0 T h k n) {x y : Value} (hd : decode cod pc = .ok (.dup_x1, 1)) (hp : pc + 1 = pc') (hc : x.category = 1) (hc2 : y.category = 1) (kk : Gl p e below s R n0 Q T (mkF m pc' L (x :: y :: x :: r))) : Gl p e below s R n0 Q T (mkF m pc L (x :: y :: r)) := by
  obtain ⟨locs, X, -⟩ := S; subst hp
  exact kk.st fun _ q => XS.dupX1 X.here C.1 rfl (hb C.2.2.1 hd) rfl hc hc2 q
theorem g_dup2 (C : Cx p s m meth c Z own name cod maxL ret) (S : On p l e R s m args below meth c n0 T h k n) {x y : Value} (hd : decode cod pc = .ok (.dup2, 1)) (hp : pc + 1 = pc') (hc : x.category = 1) (hc2 : y.category = 1) (kk : Gl p e below s R n0 Q T (mkF m pc' L (x :: y :: x :: y :: r))) : Gl p e below s R n0 Q T (mkF m pc L (x :: y :: r)) := by
  obtain ⟨locs, X, -⟩ := S; subst hp
  exact kk.st fun _ q => XT.dup2 X.here C.1 rfl (hb C.2.2.1 hd) rfl hc hc2 q
theorem g_iinc (C : Cx p s m meth c Z own name cod maxL ret) (S : On p l e R s m args below meth c n0 T h k n) {i : Nat} {cst : Int} {x : Int32} (v : Int32) (hd : decode cod pc = .ok (.iinc i cst, 3)) (hp : pc + 3 = pc') (hv : Int32.ofInt cst = v) (hl : L[i]? = some (.val (.int x))) (hl' : storeLocals L i (.int (x + v)) = some L') (kk : Gl p e below s R n0 Q T (mkF m pc' L' r)) : Gl p e below s R n0 Q T (mkF m pc L r) := by
  obtain ⟨locs, X, -⟩ := S; subst hp hv
  exact kk.st fun _ q => XS.iinc X.here C.1 rfl (hb C.2.2.1 hd) hl hl' q
theorem g_goto (C : Cx p s m meth c Z own name cod maxL ret) (S : On p l e R s m args below meth c n0 T h k n) {o : Int} (hd : decode cod pc = .ok (.goto o, 3)) (ho : 0 ≤ (pc : Int) + o) (hp : ((pc : Int) + o).toNat = pc') (kk : Gl p e below s R n0 Q T (mkF m pc' L r)) : Gl p e below s R n0 Q T (mkF m pc L r) := by
  obtain ⟨locs, X, -⟩ := S
  exact kk.st fun _ q => XS.goto X.here C.1 rfl rfl (hb C.2.2.1 hd) ho hp q
theorem g_icmp_lt (C : Cx p s m meth c Z own name cod maxL ret) (S : On p l e R s m args below meth c n0 T h k n) {x y : Int32} {o : Int} (hd : decode cod pc = .ok (.if_icmp .lt o, 3)) (ho : 0 ≤ (pc : Int) + o) (hp : ((pc : Int) + o).toNat = pc') (hq : pc + 3 = pf) (ht : x < y → Gl p e below s R n0 Q T (mkF m pc' L r)) (hf : ¬ x < y → Gl p e below s R n0 Q T (mkF m pf L r)) : Gl p e below s R n0 Q T (mkF m pc L (.int y :: .int x :: r)) := by
  obtain ⟨locs, X, -⟩ := S; subst hq
  by_cases q : x < y
  · exact (ht q).st fun _ z => XS.icmpYes X.here C.1 rfl rfl (hb C.2.2.1 hd) rfl ((tlt q).1) ho hp z
  · exact (hf q).st fun _ z => XS.icmpNo X.here C.1 rfl (hb C.2.2.1 hd) rfl ((flt q).1) z
theorem g_if_lt (C : Cx p s m meth c Z own name cod maxL ret) (S : On p l e R s m args below meth c n0 T h k n) {x : Int32} {o : Int} (hd : decode cod pc = .ok (.ifCond .lt o, 3)) (ho : 0 ≤ (pc : Int) + o) (hp : ((pc : Int) + o).toNat = pc') (hq : pc + 3 = pf) (ht : x < (0 : Int32) → Gl p e below s R n0 Q T (mkF m pc' L r)) (hf : ¬ x < (0 : Int32) → Gl p e below s R n0 Q T (mkF m pf L r)) : Gl p e below s R n0 Q T (mkF m pc L (.int x :: r)) := by
  obtain ⟨locs, X, -⟩ := S; subst hq
  by_cases q : x < (0 : Int32)
  · exact (ht q).st fun _ z => XS.ifYes X.here C.1 rfl rfl (hb C.2.2.1 hd) rfl ((if0 _ _).trans (tlt q).1) ho hp z
  · exact (hf q).st fun _ z => XS.ifNo X.here C.1 rfl (hb C.2.2.1 hd) rfl ((if0 _ _).trans (flt q).1) z
theorem g_lif_lt (C : Cx p s m meth c Z own name cod maxL ret) (S : On p l e R s m args below meth c n0 T h k n) {x y : Int64} {o : Int} (hd : decode cod pc = .ok (.ifCond .lt o, 3)) (ho : 0 ≤ (pc : Int) + o) (hp : ((pc : Int) + o).toNat = pc') (hq : pc + 3 = pf) (ht : x < y → Gl p e below s R n0 Q T (mkF m pc' L r)) (hf : ¬ x < y → Gl p e below s R n0 Q T (mkF m pf L r)) : Gl p e below s R n0 Q T (mkF m pc L (.int (lcmpW x y) :: r)) := by
  obtain ⟨locs, X, -⟩ := S; subst hq
  by_cases q : x < y
  · exact (ht q).st fun _ z => XS.ifYes X.here C.1 rfl rfl (hb C.2.2.1 hd) rfl ((if0 _ _).trans (tlt ((lw_lt x y).mpr q)).1) ho hp z
  · exact (hf q).st fun _ z => XS.ifNo X.here C.1 rfl (hb C.2.2.1 hd) rfl ((if0 _ _).trans (flt (fun z => q ((lw_lt x y).mp z))).1) z
theorem g_icmp_ge (C : Cx p s m meth c Z own name cod maxL ret) (S : On p l e R s m args below meth c n0 T h k n) {x y : Int32} {o : Int} (hd : decode cod pc = .ok (.if_icmp .ge o, 3)) (ho : 0 ≤ (pc : Int) + o) (hp : ((pc : Int) + o).toNat = pc') (hq : pc + 3 = pf) (ht : ¬ x < y → Gl p e below s R n0 Q T (mkF m pc' L r)) (hf : x < y → Gl p e below s R n0 Q T (mkF m pf L r)) : Gl p e below s R n0 Q T (mkF m pc L (.int y :: .int x :: r)) := by
  obtain ⟨locs, X, -⟩ := S; subst hq
  by_cases q : x < y
  · exact (hf q).st fun _ z => XS.icmpNo X.here C.1 rfl (hb C.2.2.1 hd) rfl ((tlt q).2.1) z
  · exact (ht q).st fun _ z => XS.icmpYes X.here C.1 rfl rfl (hb C.2.2.1 hd) rfl ((flt q).2.1) ho hp z
theorem g_if_ge (C : Cx p s m meth c Z own name cod maxL ret) (S : On p l e R s m args below meth c n0 T h k n) {x : Int32} {o : Int} (hd : decode cod pc = .ok (.ifCond .ge o, 3)) (ho : 0 ≤ (pc : Int) + o) (hp : ((pc : Int) + o).toNat = pc') (hq : pc + 3 = pf) (ht : ¬ x < (0 : Int32) → Gl p e below s R n0 Q T (mkF m pc' L r)) (hf : x < (0 : Int32) → Gl p e below s R n0 Q T (mkF m pf L r)) : Gl p e below s R n0 Q T (mkF m pc L (.int x :: r)) := by
  obtain ⟨locs, X, -⟩ := S; subst hq
  by_cases q : x < (0 : Int32)
  · exact (hf q).st fun _ z => XS.ifNo X.here C.1 rfl (hb C.2.2.1 hd) rfl ((if0 _ _).trans (tlt q).2.1) z
  · exact (ht q).st fun _ z => XS.ifYes X.here C.1 rfl rfl (hb C.2.2.1 hd) rfl ((if0 _ _).trans (flt q).2.1) ho hp z
theorem g_lif_ge (C : Cx p s m meth c Z own name cod maxL ret) (S : On p l e R s m args below meth c n0 T h k n) {x y : Int64} {o : Int} (hd : decode cod pc = .ok (.ifCond .ge o, 3)) (ho : 0 ≤ (pc : Int) + o) (hp : ((pc : Int) + o).toNat = pc') (hq : pc + 3 = pf) (ht : ¬ x < y → Gl p e below s R n0 Q T (mkF m pc' L r)) (hf : x < y → Gl p e below s R n0 Q T (mkF m pf L r)) : Gl p e below s R n0 Q T (mkF m pc L (.int (lcmpW x y) :: r)) := by
  obtain ⟨locs, X, -⟩ := S; subst hq
  by_cases q : x < y
  · exact (hf q).st fun _ z => XS.ifNo X.here C.1 rfl (hb C.2.2.1 hd) rfl ((if0 _ _).trans (tlt ((lw_lt x y).mpr q)).2.1) z
  · exact (ht q).st fun _ z => XS.ifYes X.here C.1 rfl rfl (hb C.2.2.1 hd) rfl ((if0 _ _).trans (flt (fun z => q ((lw_lt x y).mp z))).2.1) ho hp z
theorem g_icmp_gt (C : Cx p s m meth c Z own name cod maxL ret) (S : On p l e R s m args below meth c n0 T h k n) {x y : Int32} {o : Int} (hd : decode cod pc = .ok (.if_icmp .gt o, 3)) (ho : 0 ≤ (pc : Int) + o) (hp : ((pc : Int) + o).toNat = pc') (hq : pc + 3 = pf) (ht : y < x → Gl p e below s R n0 Q T (mkF m pc' L r)) (hf : ¬ y < x → Gl p e below s R n0 Q T (mkF m pf L r)) : Gl p e below s R n0 Q T (mkF m pc L (.int y :: .int x :: r)) := by
  obtain ⟨locs, X, -⟩ := S; subst hq
  by_cases q : y < x
  · exact (ht q).st fun _ z => XS.icmpYes X.here C.1 rfl rfl (hb C.2.2.1 hd) rfl ((tlt q).2.2.1) ho hp z
  · exact (hf q).st fun _ z => XS.icmpNo X.here C.1 rfl (hb C.2.2.1 hd) rfl ((flt q).2.2.1) z
theorem g_if_gt (C : Cx p s m meth c Z own name cod maxL ret) (S : On p l e R s m args below meth c n0 T h k n) {x : Int32} {o : Int} (hd : decode cod pc = .ok (.ifCond .gt o, 3)) (ho : 0 ≤ (pc : Int) + o) (hp : ((pc : Int) + o).toNat = pc') (hq : pc + 3 = pf) (ht : (0 : Int32) < x → Gl p e below s R n0 Q T (mkF m pc' L r)) (hf : ¬ (0 : Int32) < x → Gl p e below s R n0 Q T (mkF m pf L r)) : Gl p e below s R n0 Q T (mkF m pc L (.int x :: r)) := by
  obtain ⟨locs, X, -⟩ := S; subst hq
  by_cases q : (0 : Int32) < x
  · exact (ht q).st fun _ z => XS.ifYes X.here C.1 rfl rfl (hb C.2.2.1 hd) rfl ((if0 _ _).trans (tlt q).2.2.1) ho hp z
  · exact (hf q).st fun _ z => XS.ifNo X.here C.1 rfl (hb C.2.2.1 hd) rfl ((if0 _ _).trans (flt q).2.2.1) z
theorem g_lif_gt (C : Cx p s m meth c Z own name cod maxL ret) (S : On p l e R s m args below meth c n0 T h k n) {x y : Int64} {o : Int} (hd : decode cod pc = .ok (.ifCond .gt o, 3)) (ho : 0 ≤ (pc : Int) + o) (hp : ((pc : Int) + o).toNat = pc') (hq : pc + 3 = pf) (ht : y < x → Gl p e below s R n0 Q T (mkF m pc' L r)) (hf : ¬ y < x → Gl p e below s R n0 Q T (mkF m pf L r)) : Gl p e below s R n0 Q T (mkF m pc L (.int (lcmpW x y) :: r)) := by
  obtain ⟨locs, X, -⟩ := S; subst hq
  by_cases q : y < x
  · exact (ht q).st fun _ z => XS.ifYes X.here C.1 rfl rfl (hb C.2.2.1 hd) rfl ((if0 _ _).trans (tlt ((lw_gt x y).mpr q)).2.2.1) ho hp z
  · exact (hf q).st fun _ z => XS.ifNo X.here C.1 rfl (hb C.2.2.1 hd) rfl ((if0 _ _).trans (flt (fun z => q ((lw_gt x y).mp z))).2.2.1) z
theorem g_icmp_le (C : Cx p s m meth c Z own name cod maxL ret) (S : On p l e R s m args below meth c n0 T h k n) {x y : Int32} {o : Int} (hd : decode cod pc = .ok (.if_icmp .le o, 3)) (ho : 0 ≤ (pc : Int) + o) (hp : ((pc : Int) + o).toNat = pc') (hq : pc + 3 = pf) (ht : ¬ y < x → Gl p e below s R n0 Q T (mkF m pc' L r)) (hf : y < x → Gl p e below s R n0 Q T (mkF m pf L r)) : Gl p e below s R n0 Q T (mkF m pc L (.int y :: .int x :: r)) := by
  obtain ⟨locs, X, -⟩ := S; subst hq
  by_cases q : y < x
  · exact (hf q).st fun _ z => XS.icmpNo X.here C.1 rfl (hb C.2.2.1 hd) rfl ((tlt q).2.2.2) z
  · exact (ht q).st fun _ z => XS.icmpYes X.here C.1 rfl rfl (hb C.2.2.1 hd) rfl ((flt q).2.2.2) ho hp z
theorem g_if_le (C : Cx p s m meth c Z own name cod maxL ret) (S : On p l e R s m args below meth c n0 T h k n) {x : Int32} {o : Int} (hd : decode cod pc = .ok (.ifCond .le o, 3)) (ho : 0 ≤ (pc : Int) + o) (hp : ((pc : Int) + o).toNat = pc') (hq : pc + 3 = pf) (ht : ¬ (0 : Int32) < x → Gl p e below s R n0 Q T (mkF m pc' L r)) (hf : (0 : Int32) < x → Gl p e below s R n0 Q T (mkF m pf L r)) : Gl p e below s R n0 Q T (mkF m pc L (.int x :: r)) := by
  obtain ⟨locs, X, -⟩ := S; subst hq
  by_cases q : (0 : Int32) < x
  · exact (hf q).st fun _ z => XS.ifNo X.here C.1 rfl (hb C.2.2.1 hd) rfl ((if0 _ _).trans (tlt q).2.2.2) z
  · exact (ht q).st fun _ z => XS.ifYes X.here C.1 rfl rfl (hb C.2.2.1 hd) rfl ((if0 _ _).trans (flt q).2.2.2) ho hp z
theorem g_lif_le (C : Cx p s m meth c Z own name cod maxL ret) (S : On p l e R s m args below meth c n0 T h k n) {x y : Int64} {o : Int} (hd : decode cod pc = .ok (.ifCond .le o, 3)) (ho : 0 ≤ (pc : Int) + o) (hp : ((pc : Int) + o).toNat = pc') (hq : pc + 3 = pf) (ht : ¬ y < x → Gl p e below s R n0 Q T (mkF m pc' L r)) (hf : y < x → Gl p e below s R n0 Q T (mkF m pf L r)) : Gl p e below s R n0 Q T (mkF m pc L (.int (lcmpW x y) :: r)) := by
  obtain ⟨locs, X, -⟩ := S; subst hq
  by_cases q : y < x
  · exact (hf q).st fun _ z => XS.ifNo X.here C.1 rfl (hb C.2.2.1 hd) rfl ((if0 _ _).trans (tlt ((lw_gt x y).mpr q)).2.2.2) z
  · exact (ht q).st fun _ z => XS.ifYes X.here C.1 rfl rfl (hb C.2.2.1 hd) rfl ((if0 _ _).trans (flt (fun z => q ((lw_gt x y).mp z))).2.2.2) ho hp z
theorem g_icmp_eq (C : Cx p s m meth c Z own name cod maxL ret) (S : On p l e R s m args below meth c n0 T h k n) {x y : Int32} {o : Int} (hd : decode cod pc = .ok (.if_icmp .eq o, 3)) (ho : 0 ≤ (pc : Int) + o) (hp : ((pc : Int) + o).toNat = pc') (hq : pc + 3 = pf) (ht : x = y → Gl p e below s R n0 Q T (mkF m pc' L r)) (hf : ¬ x = y → Gl p e below s R n0 Q T (mkF m pf L r)) : Gl p e below s R n0 Q T (mkF m pc L (.int y :: .int x :: r)) := by
  obtain ⟨locs, X, -⟩ := S; subst hq
  by_cases q : x = y
  · exact (ht q).st fun _ z => XS.icmpYes X.here C.1 rfl rfl (hb C.2.2.1 hd) rfl ((teq q).1) ho hp z
  · exact (hf q).st fun _ z => XS.icmpNo X.here C.1 rfl (hb C.2.2.1 hd) rfl ((feq q).1) z
theorem g_if_eq (C : Cx p s m meth c Z own name cod maxL ret) (S : On p l e R s m args below meth c n0 T h k n) {x : Int32} {o : Int} (hd : decode cod pc = .ok (.ifCond .eq o, 3)) (ho : 0 ≤ (pc : Int) + o) (hp : ((pc : Int) + o).toNat = pc') (hq : pc + 3 = pf) (ht : x = (0 : Int32) → Gl p e below s R n0 Q T (mkF m pc' L r)) (hf : ¬ x = (0 : Int32) → Gl p e below s R n0 Q T (mkF m pf L r)) : Gl p e below s R n0 Q T (mkF m pc L (.int x :: r)) := by
  obtain ⟨locs, X, -⟩ := S; subst hq
  by_cases q : x = (0 : Int32)
  · exact (ht q).st fun _ z => XS.ifYes X.here C.1 rfl rfl (hb C.2.2.1 hd) rfl ((if0 _ _).trans (teq q).1) ho hp z
  · exact (hf q).st fun _ z => XS.ifNo X.here C.1 rfl (hb C.2.2.1 hd) rfl ((if0 _ _).trans (feq q).1) z
theorem g_lif_eq (C : Cx p s m meth c Z own name cod maxL ret) (S : On p l e R s m args below meth c n0 T h k n) {x y : Int64} {o : Int} (hd : decode cod pc = .ok (.ifCond .eq o, 3)) (ho : 0 ≤ (pc : Int) + o) (hp : ((pc : Int) + o).toNat = pc') (hq : pc + 3 = pf) (ht : x = y → Gl p e below s R n0 Q T (mkF m pc' L r)) (hf : ¬ x = y → Gl p e below s R n0 Q T (mkF m pf L r)) : Gl p e below s R n0 Q T (mkF m pc L (.int (lcmpW x y) :: r)) := by
  obtain ⟨locs, X, -⟩ := S; subst hq
  by_cases q : x = y
  · exact (ht q).st fun _ z => XS.ifYes X.here C.1 rfl rfl (hb C.2.2.1 hd) rfl ((if0 _ _).trans (teq ((lw_eq x y).mpr q)).1) ho hp z
  · exact (hf q).st fun _ z => XS.ifNo X.here C.1 rfl (hb C.2.2.1 hd) rfl ((if0 _ _).trans (feq (fun z => q ((lw_eq x y).mp z))).1) z
theorem g_icmp_ne (C : Cx p s m meth c Z own name cod maxL ret) (S : On p l e R s m args below meth c n0 T h k n) {x y : Int32} {o : Int} (hd : decode cod pc = .ok (.if_icmp .ne o, 3)) (ho : 0 ≤ (pc : Int) + o) (hp : ((pc : Int) + o).toNat = pc') (hq : pc + 3 = pf) (ht : ¬ x = y → Gl p e below s R n0 Q T (mkF m pc' L r)) (hf : x = y → Gl p e below s R n0 Q T (mkF m pf L r)) : Gl p e below s R n0 Q T (mkF m pc L (.int y :: .int x :: r)) := by
  obtain ⟨locs, X, -⟩ := S; subst hq
  by_cases q : x = y
  · exact (hf q).st fun _ z => XS.icmpNo X.here C.1 rfl (hb C.2.2.1 hd) rfl ((teq q).2) z
  · exact (ht q).st fun _ z => XS.icmpYes X.here C.1 rfl rfl (hb C.2.2.1 hd) rfl ((feq q).2) ho hp z
theorem g_if_ne (C : Cx p s m meth c Z own name cod maxL ret) (S : On p l e R s m args below meth c n0 T h k n) {x : Int32} {o : Int} (hd : decode cod pc = .ok (.ifCond .ne o, 3)) (ho : 0 ≤ (pc : Int) + o) (hp : ((pc : Int) + o).toNat = pc') (hq : pc + 3 = pf) (ht : ¬ x = (0 : Int32) → Gl p e below s R n0 Q T (mkF m pc' L r)) (hf : x = (0 : Int32) → Gl p e below s R n0 Q T (mkF m pf L r)) : Gl p e below s R n0 Q T (mkF m pc L (.int x :: r)) := by
  obtain ⟨locs, X, -⟩ := S; subst hq
  by_cases q : x = (0 : Int32)
  · exact (hf q).st fun _ z => XS.ifNo X.here C.1 rfl (hb C.2.2.1 hd) rfl ((if0 _ _).trans (teq q).2) z
  · exact (ht q).st fun _ z => XS.ifYes X.here C.1 rfl rfl (hb C.2.2.1 hd) rfl ((if0 _ _).trans (feq q).2) ho hp z
theorem g_lif_ne (C : Cx p s m meth c Z own name cod maxL ret) (S : On p l e R s m args below meth c n0 T h k n) {x y : Int64} {o : Int} (hd : decode cod pc = .ok (.ifCond .ne o, 3)) (ho : 0 ≤ (pc : Int) + o) (hp : ((pc : Int) + o).toNat = pc') (hq : pc + 3 = pf) (ht : ¬ x = y → Gl p e below s R n0 Q T (mkF m pc' L r)) (hf : x = y → Gl p e below s R n0 Q T (mkF m pf L r)) : Gl p e below s R n0 Q T (mkF m pc L (.int (lcmpW x y) :: r)) := by
  obtain ⟨locs, X, -⟩ := S; subst hq
  by_cases q : x = y
  · exact (hf q).st fun _ z => XS.ifNo X.here C.1 rfl (hb C.2.2.1 hd) rfl ((if0 _ _).trans (teq ((lw_eq x y).mpr q)).2) z
  · exact (ht q).st fun _ z => XS.ifYes X.here C.1 rfl rfl (hb C.2.2.1 hd) rfl ((if0 _ _).trans (feq (fun z => q ((lw_eq x y).mp z))).2) ho hp z
theorem g_ifnonnull_ref (C : Cx p s m meth c Z own name cod maxL ret) (S : On p l e R s m args below meth c n0 T h k n) {o : Int} (hd : decode cod pc = .ok (.ifnonnull o, 3)) (ho : 0 ≤ (pc : Int) + o) (hp : ((pc : Int) + o).toNat = pc') (kk : Gl p e below s R n0 Q T (mkF m pc' L r)) : Gl p e below s R n0 Q T (mkF m pc L (.ref a :: r)) := by
  obtain ⟨locs, X, -⟩ := S
  exact kk.st fun _ q => XS.ifnonnullYes X.here C.1 rfl rfl (hb C.2.2.1 hd) rfl ho hp q
theorem g_ifnonnull_null (C : Cx p s m meth c Z own name cod maxL ret) (S : On p l e R s m args below meth c n0 T h k n) {o : Int} (hd : decode cod pc = .ok (.ifnonnull o, 3)) (hq : pc + 3 = pf) (kk : Gl p e below s R n0 Q T (mkF m pf L r)) : Gl p e below s R n0 Q T (mkF m pc L (.null :: r)) := by
  obtain ⟨locs, X, -⟩ := S; subst hq
  exact kk.st fun _ q => XS.ifnonnullNo X.here C.1 rfl (hb C.2.2.1 hd) rfl q
theorem g_ifnull_null (C : Cx p s m meth c Z own name cod maxL ret) (S : On p l e R s m args below meth c n0 T h k n) {o : Int} (hd : decode cod pc = .ok (.ifnull o, 3)) (ho : 0 ≤ (pc : Int) + o) (hp : ((pc : Int) + o).toNat = pc') (kk : Gl p e below s R n0 Q T (mkF m pc' L r)) : Gl p e below s R n0 Q T (mkF m pc L (.null :: r)) := by
  obtain ⟨locs, X, -⟩ := S
  exact kk.st fun _ q => XS.ifnullYes X.here C.1 rfl rfl (hb C.2.2.1 hd) rfl ho hp q
theorem g_ifnull_ref (C : Cx p s m meth c Z own name cod maxL ret) (S : On p l e R s m args below meth c n0 T h k n) {o : Int} (hd : decode cod pc = .ok (.ifnull o, 3)) (hq : pc + 3 = pf) (kk : Gl p e below s R n0 Q T (mkF m pf L r)) : Gl p e below s R n0 Q T (mkF m pc L (.ref a :: r)) := by
  obtain ⟨locs, X, -⟩ := S; subst hq
  exact kk.st fun _ q => XS.ifnullNo X.here C.1 rfl (hb C.2.2.1 hd) rfl q
theorem g_acmp_eq (C : Cx p s m meth c Z own name cod maxL ret) (S : On p l e R s m args below meth c n0 T h k n) {x y : Value} (hx : x.isRef = true) (hy : y.isRef = true) {o : Int} (hd : decode cod pc = .ok (.if_acmp .eq o, 3)) (ho : 0 ≤ (pc : Int) + o) (hp : ((pc : Int) + o).toNat = pc') (hq : pc + 3 = pf) (ht : x = y → Gl p e below s R n0 Q T (mkF m pc' L r)) (hf : ¬ x = y → Gl p e below s R n0 Q T (mkF m pf L r)) : Gl p e below s R n0 Q T (mkF m pc L (y :: x :: r)) := by
  obtain ⟨locs, X, -⟩ := S; subst hq hp
  by_cases q : x = y
  · exact (ht q).st fun _ z => Jvm.RoadKit.acmp X C.1 rfl hx hy (same := true) rfl (hb C.2.2.1 hd) rfl (decide_eq_true q) ho (by simp [acV]) z
  · exact (hf q).st fun _ z => Jvm.RoadKit.acmp X C.1 rfl hx hy (same := false) rfl (hb C.2.2.1 hd) rfl (decide_eq_false q) ho (by simp [acV]) z
theorem g_acmp_ne (C : Cx p s m meth c Z own name cod maxL ret) (S : On p l e R s m args below meth c n0 T h k n) {x y : Value} (hx : x.isRef = true) (hy : y.isRef = true) {o : Int} (hd : decode cod pc = .ok (.if_acmp .ne o, 3)) (ho : 0 ≤ (pc : Int) + o) (hp : ((pc : Int) + o).toNat = pc') (hq : pc + 3 = pf) (ht : ¬ x = y → Gl p e below s R n0 Q T (mkF m pc' L r)) (hf : x = y → Gl p e below s R n0 Q T (mkF m pf L r)) : Gl p e below s R n0 Q T (mkF m pc L (y :: x :: r)) := by
  obtain ⟨locs, X, -⟩ := S; subst hq hp
  by_cases q : x = y
  · exact (hf q).st fun _ z => Jvm.RoadKit.acmp X C.1 rfl hx hy (same := true) rfl (hb C.2.2.1 hd) rfl (decide_eq_true q) ho (by simp [acV]) z
  · exact (ht q).st fun _ z => Jvm.RoadKit.acmp X C.1 rfl hx hy (same := false) rfl (hb C.2.2.1 hd) rfl (decide_eq_false q) ho (by simp [acV]) z
theorem g_ldc (C : Cx p s m meth c Z own name cod maxL ret) (S : On p l e R s m args below meth c n0 T h k n) {v : Int32} {i : Nat} (hd : decode cod pc = .ok (.ldc i, 2)) (w : (Jvm.Cond.constant own i v).before a0 Z = true) (hp : pc + 2 = pc') (kk : Gl p e below s R n0 Q T (mkF m pc' L (.int v :: r))) : Gl p e below s R n0 Q T (mkF m pc L r) := by
  obtain ⟨locs, X, -⟩ := S; subst hp
  exact kk.st fun t q => X.ldcInt (g := mkF m pc L r) C.1 C.2.2.2.2.1 (mvT C.2.1 w) rfl (hb C.2.2.1 hd) t q
theorem g_ldc2 (C : Cx p s m meth c Z own name cod maxL ret) (S : On p l e R s m args below meth c n0 T h k n) {v : Int64} {i : Nat} (hd : decode cod pc = .ok (.ldc2_w i, 3)) (w : (Jvm.Cond.constantLong own i v).before a0 Z = true) (hp : pc + 3 = pc') (kk : Gl p e below s R n0 Q T (mkF m pc' L (.long v :: r))) : Gl p e below s R n0 Q T (mkF m pc L r) := by
  obtain ⟨locs, X, -⟩ := S; subst hp
  exact kk.st fun t q => X.ldc2Long (g := mkF m pc L r) C.1 C.2.2.2.2.1 (mvT C.2.1 w) rfl (hb C.2.2.1 hd) t q
theorem g_leave (C : Cx p s m meth c Z own name cod maxL ret) (S : On p l e R s m args below meth c n0 T h k n) {v : Option Value} (hk : k ≤ R.cells) (hn : n ≤ R.slots) (hv : meth.sig.returnType = none → v = none) (q : Q v h)
    (hst : ∀ fs, (∀ (f : JFrame) (acts : List Action), f.method = m → f.locked = none → f.entered = [] → (doReturn e (T.setTop f) acts v).1 = T.setFrames fs) → ∀ locs, Stand p l e R s m args below meth c T locs k n → Steps p.tables e below (T.setTop (mkF m pc L r)) (T.setFrames fs)) : Gl p e below s R n0 Q T (mkF m pc L r) := by
  obtain ⟨locs, X, N, eh⟩ := S
  obtain ⟨fs, hr, hrun, hended, hW, hsame⟩ := X.leave (v := v) hv C.2.2.2.2.2.2.2
  have q' : Q v (T.setFrames fs).heap := by show Q v T.heap; rw [eh]; exact q
  exact ⟨_, _, hst fs hr locs X, hrun, hended, _, _, rfl, ⟨q', N⟩, ⟨_, rfl⟩, hW, hsame.mono hk hn⟩
theorem g_return (C : Cx p s m meth c Z own name cod maxL none) (S : On p l e R s m args below meth c n0 T h k n) (hd : decode cod pc = .ok (.return_, 1)) (hk : k ≤ R.cells) (hn : n ≤ R.slots) (q : Q none h) : Gl p e below s R n0 Q T (mkF m pc L []) :=
  g_leave C S (v := none) hk hn (fun _ => rfl) q fun fs hr locs X => X.returnOut C.1 C.2.2.2.2.2.2.1 (hb C.2.2.1 hd) hr
theorem g_retv {t : FieldType} {w : Value} {i : Instr} (C : Cx p s m meth c Z own name cod maxL (some t)) (S : On p l e R s m args below meth c n0 T h k n) (hd : decode cod pc = .ok (i, 1)) (hn' : narrow t w = w) (hi : (i = .ireturn ∧ (t = .int ∨ t = .boolean ∨ t = .byte ∨ t = .char ∨ t = .short) ∧ ∃ z, w = .int z) ∨ (i = .lreturn ∧ t = .long ∧ ∃ z, w = .long z) ∨ (i = .dreturn ∧ t = .double ∧ ∃ z, w = .double z) ∨ (i = .freturn ∧ t = .float ∧ ∃ z, w = .float z) ∨ (i = .areturn ∧ t.isReference = true ∧ w.isRef = true)) (hk : k ≤ R.cells) (hn : n ≤ R.slots) (q : Q (some w) h) : Gl p e below s R n0 Q T (mkF m pc L (w :: r)) :=
  g_leave C S (v := some w) hk hn (fun z => by rw [C.2.2.2.2.2.2.1] at z; cases z) q fun fs hr locs X => retOut X C.1 C.2.2.2.2.2.2.1 hn' hi (hb C.2.2.1 hd) hr
theorem g_retI {z : Int32} (C : Cx p s m meth c Z own name cod maxL (some .int)) (S : On p l e R s m args below meth c n0 T h k n) (hd : decode cod pc = .ok (.ireturn, 1)) (hk : k ≤ R.cells) (hn : n ≤ R.slots) (q : Q (some (.int z)) h) : Gl p e below s R n0 Q T (mkF m pc L (.int z :: r)) := g_retv C S hd rfl (Or.inl ⟨rfl, Or.inl rfl, z, rfl⟩) hk hn q
theorem g_retZ {z : Int32} (C : Cx p s m meth c Z own name cod maxL (some .boolean)) (S : On p l e R s m args below meth c n0 T h k n) (hd : decode cod pc = .ok (.ireturn, 1)) (hz : z &&& 1 = z) (hk : k ≤ R.cells) (hn : n ≤ R.slots) (q : Q (some (.int z)) h) : Gl p e below s R n0 Q T (mkF m pc L (.int z :: r)) := g_retv C S hd (congrArg Value.int hz) (Or.inl ⟨rfl, Or.inr (Or.inl rfl), z, rfl⟩) hk hn q
theorem g_retJ {z : Int64} (C : Cx p s m meth c Z own name cod maxL (some .long)) (S : On p l e R s m args below meth c n0 T h k n) (hd : decode cod pc = .ok (.lreturn, 1)) (hk : k ≤ R.cells) (hn : n ≤ R.slots) (q : Q (some (.long z)) h) : Gl p e below s R n0 Q T (mkF m pc L (.long z :: r)) := g_retv C S hd rfl (Or.inr (Or.inl ⟨rfl, rfl, z, rfl⟩)) hk hn q
theorem g_retA {t : FieldType} {w : Value} (C : Cx p s m meth c Z own name cod maxL (some t)) (S : On p l e R s m args below meth c n0 T h k n) (hd : decode cod pc = .ok (.areturn, 1)) (ht : t.isReference = true) (hw : w.isRef = true) (hnw : narrow t w = w) (hk : k ≤ R.cells) (hn : n ≤ R.slots) (q : Q (some w) h) : Gl p e below s R n0 Q T (mkF m pc L (w :: r)) := g_retv C S hd hnw (Or.inr (Or.inr (Or.inr (Or.inr ⟨rfl, ht, hw⟩)))) hk hn q
theorem g_getF (C : Cx p s m meth c Z own name cod maxL ret) (S : On p l e R s m args below meth c n0 T h k n) {R0 O nm d host : String} {i : Nat} {v : Value} (hd : decode cod pc = .ok (.getfield i, 3)) (w : (Jvm.Cond.fieldLink own i R0 nm d).before a0 Z = true ∨ (Jvm.Cond.fieldLinkNest own i R0 nm d host).before a0 Z = true) (via : Via Z R0 O nm d) (F : Fld Z h a O nm d v) (hp : pc + 3 = pc') (kk : ∀ T', On p l e R s m args below meth c n0 T' h k n → Gl p e below s R n0 Q T' (mkF m pc' L (v :: r))) : Gl p e below s R n0 Q T (mkF m pc L (.ref a :: r)) := by
  obtain ⟨locs, X, N, eh⟩ := S; subst hp
  obtain ⟨T', X', eT, st⟩ := getF X C.1 C.2.1 C.2.2.2.2.1 w via eh F (g := mkF m pc L (.ref a :: r)) rfl rfl (hb C.2.2.1 hd)
  exact (kk T' ⟨locs, X', N, eT⟩).st st
theorem g_getS (C : Cx p s m meth c Z own name cod maxL ret) (S : On p l e R s m args below meth c n0 T h k n) {R0 O nm d host : String} {i : Nat} {v : Value} (hd : decode cod pc = .ok (.getstatic i, 3)) (w : (Jvm.Cond.fieldLink own i R0 nm d).before a0 Z = true ∨ (Jvm.Cond.fieldLinkNest own i R0 nm d host).before a0 Z = true) (via : Via Z R0 O nm d) (F : Sta Z h O nm d v) (hp : pc + 3 = pc') (kk : ∀ T', On p l e R s m args below meth c n0 T' h k n → Gl p e below s R n0 Q T' (mkF m pc' L (v :: r))) : Gl p e below s R n0 Q T (mkF m pc L r) := by
  obtain ⟨locs, X, N, eh⟩ := S; subst hp
  obtain ⟨T', X', eT, st⟩ := getS2 X C.1 C.2.1 C.2.2.2.2.1 w via eh F (g := mkF m pc L r) rfl (hb C.2.2.1 hd)
  exact (kk T' ⟨locs, X', N, eT⟩).st st
theorem g_putF (C : Cx p s m meth c Z own name cod maxL ret) (S : On p l e R s m args below meth c n0 T h k n) {R0 O nm d host K : String} {i kk0 : Nat} {ty : FieldType} {v old : Value} (hd : decode cod pc = .ok (.putfield i, 3)) (w : (Jvm.Cond.fieldLink own i R0 nm d).before a0 Z = true ∨ (Jvm.Cond.fieldLinkNest own i R0 nm d host).before a0 Z = true) (via : Via Z R0 O nm d) (F : Fld Z h a O nm d old) (E : Exa Z h a K) (Ly : (Jvm.Cond.lays K O nm d).before a0 Z = true ∨ ((Jvm.Cond.laysFinal K O nm d).before a0 Z = true ∧ own = O ∧ name = "<init>")) (wi : (Jvm.Cond.instantiable K kk0).before a0 Z = true) (hty : parseFieldDescriptor d = some ty) (hnr : narrow ty v = v) (hft : fits ty v = true) (ga : n0 ≤ a) (hp : pc + 3 = pc') (kk : ∀ T' h', On p l e R s m args below meth c n0 T' h' k n → Wr h h' a (Jvm.RoadKit.slotOf Z O nm d) v → Gl p e below s R n0 Q T' (mkF m pc' L r)) : Gl p e below s R n0 Q T (mkF m pc L (v :: .ref a :: r)) := by
  obtain ⟨locs, X, N, eh⟩ := S; subst hp
  obtain ⟨T', h', X', eT, W, st⟩ := putF X C.1 C.2.1 C.2.2.2.2.1 w via eh F E (Ly.imp id fun q => ⟨q.1, q.2.1, C.2.2.2.2.2.1.trans q.2.2⟩) wi hty hnr hft (g := mkF m pc L (v :: .ref a :: r)) rfl rfl (hb C.2.2.1 hd)
  exact (kk T' h' ⟨_, X', Fr.snoc X' N ga, eT⟩ W).st st
theorem g_new (C : Cx p s m meth c Z own name cod maxL ret) (S : On p l e R s m args below meth c n0 T h k n) {K : String} {i sz : Nat} (hd : decode cod pc = .ok (.new i, 3)) (w : (Jvm.Cond.classLink own i K).before a0 Z = true) (wi : (Jvm.Cond.instantiable K sz).before a0 Z = true) (wz : (Jvm.Cond.initialized K).before a0 Z = true) (hc : k + 1 ≤ R.cells) (hl : n + sz ≤ R.slots) (hp : pc + 3 = pc') (kk : ∀ T' h' a, On p l e R s m args below meth c n0 T' h' (k + 1) (n + sz) → a = h.size → Ext h h' → Exa Z h' a K → (∀ {O nm d : String} {ty : FieldType}, Laid Z a0 K O nm d → parseFieldDescriptor d = some ty → Fld Z h' a O nm d (defaultValue ty)) → Gl p e below s R n0 Q T' (mkF m pc' L (.ref a :: r))) : Gl p e below s R n0 Q T (mkF m pc L r) := by
  obtain ⟨locs, X, N, eh⟩ := S; subst hp
  obtain ⟨T', h', X', eT, E, A, D, -, st⟩ := newO X C.1 C.2.1 C.2.2.2.2.1 w wi wz eh (g := mkF m pc L r) rfl (hb C.2.2.1 hd) hc hl
  exact (kk T' h' h.size ⟨_, X', N, eT⟩ rfl E A D).st st
theorem g_initO (C : Cx p s m meth c Z own name cod maxL ret) (S : On p l e R s m args below meth c n0 T h k n) {i W : Nat} (hd : decode cod pc = .ok (.invokespecial i, 3)) (w1 : (Jvm.Cond.methodLink own i Lib.objectInit).before a0 Z = true) (w2 : (Jvm.Cond.instanceMethod Lib.objectInit).before a0 Z = true) (w3 : (Jvm.Cond.code Lib.objectInit ⟨#[0xb1]⟩ 1 none).before a0 Z = true) (hsz : L.size = maxL) (hf : 1 ≤ R.frames) (hW : (r.map fun v => v.category).sum ≤ W) (hl : W + 12 ≤ R.locals) (hp : pc + 3 = pc') (kk : ∀ T', On p l e R s m args below meth c n0 T' h k n → Gl p e below s R n0 Q T' (mkF m pc' L r)) : Gl p e below s R n0 Q T (mkF m pc L (.ref a :: r)) := by
  obtain ⟨locs, X, N, eh⟩ := S; subst hp
  obtain ⟨T', X', eT, st⟩ := initO X C.1 C.2.1 C.2.2.2.2.1 w1 w2 w3 eh (g := mkF m pc L (.ref a :: r)) rfl (hsz.trans C.2.2.2.1.symm) rfl (hb C.2.2.1 hd) hf (W := W) (by simpa using hW) hl
  exact (kk T' ⟨locs, X', N, eT⟩).st st
theorem notFace_of_inst {y : MethodName} {sz : Nat} (hZ : Z.Warmed39 s.vm) (wi : (Jvm.Cond.instantiable y.cls sz).before a0 Z = true) : NotFace s y := fun r0 h0 => by
  obtain ⟨c0, k0, i1, i2, -, i4, -⟩ := Cond.instantiable_spec (mvT (s := s) (args := #[]) hZ wi)
  have q := findClass_of_methodNamed h0
  rw [i1] at q; cases q
  exact ⟨k0, i2, (Bool.or_eq_false_iff.mp i4).1⟩
theorem g_callS (C : Cx p s m meth c Z own name cod maxL ret) (S : On p l e R s m args below meth c n0 T h k n) {y : MethodName} {bytes : ByteArray} {mx i W : Nat} {rt : Option FieldType} {rm : Room} {Q' : Option Value → Heap → Prop} {argsL stk : List Value} (hd : decode cod pc = .ok (.invokestatic i, 3)) (w1 : (Jvm.Cond.methodLink own i y).before a0 Z = true) (w2 : (Jvm.Cond.static y).before a0 Z = true) (w3 : (Jvm.Cond.initialized y.cls).before a0 Z = true) (w4 : (Jvm.Cond.code y bytes mx rt).before a0 Z = true) (hy : y.cls ≠ "java/lang/invoke/MethodHandle" ∧ y.cls ≠ "java/lang/invoke/VarHandle") (K : Con l Z y bytes mx rt rm argsL.toArray h n0 Q') (hst : stk = argsL.reverse ++ r) (hlen : ∀ sig, parseMethodDescriptor y.desc = some sig → argsL.length = sig.parameters.length) (hsz : L.size = maxL) (hW : (r.map fun v => v.category).sum ≤ W) (hf : rm.frames + 1 ≤ R.frames) (hlo : W + (mx + 11) + rm.locals ≤ R.locals) (hce : k + rm.cells ≤ R.cells) (hsl : n + rm.slots ≤ R.slots) (hp : pc + 3 = pc') (kk : ∀ T' h' v, Q' v h' → On p l e R s m args below meth c n0 T' h' (k + rm.cells) (n + rm.slots) → Gl p e below s R n0 Q T' (mkF m pc' L (v.toList ++ r))) : Gl p e below s R n0 Q T (mkF m pc L stk) := by
  obtain ⟨locs, X, N, eh⟩ := S; subst hp
  obtain ⟨v, vm1, ⟨T', L1, k1, n1⟩, -, X', ⟨Lc, hQ, l', y', z'⟩, st⟩ := Jvm.LawKit.callS X C.1 (y := y) C.2.2.2.2.1 (mvT C.2.1 w1) (mvT C.2.1 w2) (mvT C.2.1 w3) (mvT C.2.1 w4) hy (backOf (W := W) (Q := fun v h L => Q' v h ∧ Fr n0 L) (K []) C.2.1 w4 w3 hf hlo) (g := mkF m pc L stk) rfl (hsz.trans C.2.2.2.1.symm) (argsL := argsL) (rest := r) hlen hst (by simpa using hW) (hb C.2.2.1 hd) (fun _ _ => ⟨rfl, eh, hce, hsl⟩)
  dsimp only [Pt.U, Pt.locs, Pt.cells, Pt.slots] at X' st hQ l' y' z'
  subst l' y' z'
  exact (kk T' T'.heap v hQ.1 ⟨_, X', N.app hQ.2, rfl⟩).st st
theorem g_callI (C : Cx p s m meth c Z own name cod maxL ret) (S : On p l e R s m args below meth c n0 T h k n) {y : MethodName} {bytes : ByteArray} {mx i W : Nat} {rm : Room} {Q' : Option Value → Heap → Prop} {argsL stk : List Value} (hd : decode cod pc = .ok (.invokespecial i, 3)) (hy1 : y.name = "<init>") (w1 : (Jvm.Cond.methodLink own i y).before a0 Z = true) (w2 : (Jvm.Cond.instanceMethod y).before a0 Z = true) (w3 : (Jvm.Cond.initialized y.cls).before a0 Z = true) (w4 : (Jvm.Cond.code y bytes mx none).before a0 Z = true) (hy : y.cls ≠ "java/lang/invoke/MethodHandle" ∧ y.cls ≠ "java/lang/invoke/VarHandle") (K : Con l Z y bytes mx none rm (.ref a :: argsL).toArray h n0 Q') (hst : stk = argsL.reverse ++ .ref a :: r) (hlen : ∀ sig, parseMethodDescriptor y.desc = some sig → argsL.length = sig.parameters.length) (hsz : L.size = maxL) (hW : (r.map fun v => v.category).sum ≤ W) (hf : rm.frames + 1 ≤ R.frames) (hlo : W + (mx + 11) + rm.locals ≤ R.locals) (hce : k + rm.cells ≤ R.cells) (hsl : n + rm.slots ≤ R.slots) (hp : pc + 3 = pc') (kk : ∀ T' h' v, Q' v h' → On p l e R s m args below meth c n0 T' h' (k + rm.cells) (n + rm.slots) → Gl p e below s R n0 Q T' (mkF m pc' L (v.toList ++ r))) : Gl p e below s R n0 Q T (mkF m pc L stk) := by
  obtain ⟨locs, X, N, eh⟩ := S; subst hp
  obtain ⟨v, vm1, ⟨T', L1, k1, n1⟩, -, X', ⟨Lc, hQ, l', y', z'⟩, st⟩ := X.specialBack C.1 (y := y) hy1 C.2.2.2.2.1 (mvT C.2.1 w1) (mvT C.2.1 w2) (mvT C.2.1 w4) hy (backOf (W := W) (Q := fun v h L => Q' v h ∧ Fr n0 L) (K []) C.2.1 w4 w3 hf hlo) (g := mkF m pc L stk) rfl (hsz.trans C.2.2.2.1.symm) (Steps.refl _) (a := a) (argsL := argsL) (rest := r) hlen hst (by simpa using hW) (hb C.2.2.1 hd) (fun _ _ => ⟨rfl, eh, hce, hsl⟩)
  dsimp only [Pt.U, Pt.locs, Pt.cells, Pt.slots] at X' st hQ l' y' z'
  subst l' y' z'
  exact (kk T' T'.heap v hQ.1 ⟨_, X', N.app hQ.2, rfl⟩).st fun _ q => st.trans q
theorem g_callV (C : Cx p s m meth c Z own name cod maxL ret) (S : On p l e R s m args below meth c n0 T h k n) {K : String} {y z : MethodName} {bytes : ByteArray} {mx i W : Nat} {rt : Option FieldType} {rm : Room} {Q' : Option Value → Heap → Prop} {argsL stk : List Value} (hd : decode cod pc = .ok (.invokevirtual i, 3)) (w1 : (Jvm.Cond.methodLink own i y).before a0 Z = true) (w2 : (Jvm.Cond.declares y).before a0 Z = true) (hnf : NotFace s y) (w5 : (Jvm.Cond.selects K y z).before a0 Z = true) (w6 : (Jvm.Cond.instanceMethod z).before a0 Z = true) (w3 : (Jvm.Cond.initialized z.cls).before a0 Z = true) (w4 : (Jvm.Cond.code z bytes mx rt).before a0 Z = true) (hy : y.cls ≠ "java/lang/invoke/MethodHandle" ∧ y.cls ≠ "java/lang/invoke/VarHandle") (hyK : y.cls = K) (E : Exa Z h a K) (Kc : Con l Z z bytes mx rt rm (.ref a :: argsL).toArray h n0 Q') (hst : stk = argsL.reverse ++ .ref a :: r) (hlen : ∀ sig, parseMethodDescriptor y.desc = some sig → argsL.length = sig.parameters.length) (hsz : L.size = maxL) (hW : (r.map fun v => v.category).sum ≤ W) (hf : rm.frames + 1 ≤ R.frames) (hlo : W + (mx + 11) + rm.locals ≤ R.locals) (hce : k + rm.cells ≤ R.cells) (hsl : n + rm.slots ≤ R.slots) (hp : pc + 3 = pc') (kk : ∀ T' h' v, Q' v h' → On p l e R s m args below meth c n0 T' h' (k + rm.cells) (n + rm.slots) → Gl p e below s R n0 Q T' (mkF m pc' L (v.toList ++ r))) : Gl p e below s R n0 Q T (mkF m pc L stk) := by
  obtain ⟨locs, X, N, eh⟩ := S; subst hp hyK
  obtain ⟨cq, kq, qa, qb, qc⟩ := isOf C.2.1 eh E
  obtain ⟨v, vm1, ⟨T', L1, k1, n1⟩, -, X', ⟨Lc, hQ, l', y', z'⟩, st⟩ := X.virtualBack C.1 (y := y) (z := z) C.2.2.2.2.1 (mvT C.2.1 w1) (mvT C.2.1 w2) hnf (mvT C.2.1 w5) (mvT C.2.1 w6) hy (backOf (W := W) (Q := fun v h L => Q' v h ∧ Fr n0 L) (Kc []) C.2.1 w4 w3 hf hlo) qa qc (g := mkF m pc L stk) rfl (hsz.trans C.2.2.2.1.symm) (Steps.refl _) (argsL := argsL) (rest := r) hlen hst (by simpa using hW) (hb C.2.2.1 hd) (fun _ _ => ⟨rfl, eh, hce, hsl⟩)
  dsimp only [Pt.U, Pt.locs, Pt.cells, Pt.slots] at X' st hQ l' y' z'
  subst l' y' z'
  exact (kk T' T'.heap v hQ.1 ⟨_, X', N.app hQ.2, rfl⟩).st fun _ q => st.trans q
theorem g_callP (C : Cx p s m meth c Z own name cod maxL ret) (S : On p l e R s m args below meth c n0 T h k n) {y : MethodName} {bytes : ByteArray} {mx i W sz : Nat} {rt : Option FieldType} {rm : Room} {Q' : Option Value → Heap → Prop} {argsL stk : List Value} (hd : decode cod pc = .ok (.invokevirtual i, 3)) (w1 : (Jvm.Cond.methodLink own i y).before a0 Z = true) (w2 : (Jvm.Cond.instanceMethod y).before a0 Z = true) (wp : (Jvm.Cond.privateMethod y).before a0 Z = true) (wi : (Jvm.Cond.instantiable y.cls sz).before a0 Z = true) (w3 : (Jvm.Cond.initialized y.cls).before a0 Z = true) (w4 : (Jvm.Cond.code y bytes mx rt).before a0 Z = true) (hy : y.cls ≠ "java/lang/invoke/MethodHandle" ∧ y.cls ≠ "java/lang/invoke/VarHandle") (E : Exa Z h a y.cls) (Kc : Con l Z y bytes mx rt rm (.ref a :: argsL).toArray h n0 Q') (hst : stk = argsL.reverse ++ .ref a :: r) (hlen : ∀ sig, parseMethodDescriptor y.desc = some sig → argsL.length = sig.parameters.length) (hsz : L.size = maxL) (hW : (r.map fun v => v.category).sum ≤ W) (hf : rm.frames + 1 ≤ R.frames) (hlo : W + (mx + 11) + rm.locals ≤ R.locals) (hce : k + rm.cells ≤ R.cells) (hsl : n + rm.slots ≤ R.slots) (hp : pc + 3 = pc') (kk : ∀ T' h' v, Q' v h' → On p l e R s m args below meth c n0 T' h' (k + rm.cells) (n + rm.slots) → Gl p e below s R n0 Q T' (mkF m pc' L (v.toList ++ r))) : Gl p e below s R n0 Q T (mkF m pc L stk) := by
  obtain ⟨locs, X, N, eh⟩ := S; subst hp
  obtain ⟨cq, q1, q2⟩ := E.cell
  obtain ⟨c0, k0, i1, i2, i3, i4, -⟩ := Cond.instantiable_spec (mvT (s := s) (args := args) C.2.1 wi)
  have hpr := Cond.privateMethod_at (mvP (s := s) (args := args) C.2.1 wp)
  have hs := selects_self_of_private (args := args) i1 i2 (Bool.or_eq_false_iff.mp i4).1 hpr (mvT C.2.1 w2) hy
  obtain ⟨v, vm1, ⟨T', L1, k1, n1⟩, -, X', ⟨Lc, hQ, l', y', z'⟩, st⟩ := X.privateBack C.1 (y := y) C.2.2.2.2.1 (mvT C.2.1 w1) (mvT C.2.1 w2) hs hpr (mvT C.2.1 w4) hy (backOf (W := W) (Q := fun v h L => Q' v h ∧ Fr n0 L) (Kc []) C.2.1 w4 w3 hf hlo) (g := mkF m pc L stk) rfl (hsz.trans C.2.2.2.1.symm) (Steps.refl _) (a := a) (by rw [eh]; exact q1) q2 (argsL := argsL) (rest := r) hlen hst (by simpa using hW) (hb C.2.2.1 hd) (fun _ _ => ⟨rfl, eh, hce, hsl⟩)
  dsimp only [Pt.U, Pt.locs, Pt.cells, Pt.slots] at X' st hQ l' y' z'
  subst l' y' z'
  exact (kk T' T'.heap v hQ.1 ⟨_, X', N.app hQ.2, rfl⟩).st fun _ q => st.trans q
/-- an array: its length and what each place holds -/
def Ary (Z : State) (h : Heap) (a : Addr) (ty : FieldType) (n : Nat) (f : Nat → Value) : Prop := ∃ c : Cell, Arr Z h a c ty ∧ c.slots.size = n ∧ ∀ i, i < n → c.slots[i]? = some (f i)
variable {ty : FieldType} {N i : Nat} {f : Nat → Value} {v : Value} {sl : Nat} {j x : Int32} {ws : List Addr}
theorem Ary.lt (A : Ary Z h a ty N f) : a < h.size := by obtain ⟨c, A, -⟩ := A; exact A.lt
theorem Ary.ext (A : Ary Z h a ty N f) (E : Ext h h') : Ary Z h' a ty N f := by obtain ⟨c, A, q⟩ := A; exact ⟨c, A.ext E, q⟩
theorem Ary.other (A : Ary Z h a ty N f) (W : Wr h h' b sl v) (q : a ≠ b) : Ary Z h' a ty N f := by obtain ⟨c, A, z⟩ := A; exact ⟨c, A.other W q, z⟩
theorem Ary.keep (A : Ary Z h a ty N f) (K : Keep h h' ws) (q : a ∉ ws) : Ary Z h' a ty N f := by obtain ⟨c, A, z⟩ := A; exact ⟨c, ⟨K.2.1 a c A.1 q, A.2⟩, z⟩
theorem Ary.cg {f' : Nat → Value} (A : Ary Z h a ty N f) (q : ∀ i, i < N → f i = f' i) : Ary Z h a ty N f' := by obtain ⟨c, A, s, z⟩ := A; exact ⟨c, A, s, fun i hi => by rw [← q i hi]; exact z i hi⟩
theorem Ary.same (A : Ary Z h a ty N f) (W : Wr h h' a i v) : Ary Z h' a ty N (fun q => if q = i then v else f q) := by
  obtain ⟨c, A, s, z⟩ := A
  refine ⟨_, A.same W, by rw [sz_set]; exact s, fun q hq => ?_⟩
  by_cases u : q = i
  · subst u; simp [Cell.setSlot, s, hq]
  · simp only [u, if_false]; simp only [Cell.setSlot]; rw [Array.getElem?_setIfInBounds_ne (fun w => u w.symm)]; exact z q hq
theorem idx_nat {c : Cell} (hj : j.toInt = (i : Int)) (hi : i < c.slots.size) : ¬ (j < 0 ∨ c.slots.size ≤ j.toNatClampNeg) ∧ j.toNatClampNeg = i := by
  have e : j.toNatClampNeg = i := by simp only [Int32.toNatClampNeg, hj]; omega
  refine ⟨?_, e⟩
  rw [e, Int32.lt_iff_toInt_lt, hj]
  have : (0 : Int32).toInt = 0 := rfl
  omega
theorem g_iaload (C : Cx p s m meth c Z own name cod maxL ret) (S : On p l e R s m args below meth c n0 T h k n) (hd : decode cod pc = .ok (.iaload, 1)) (A : Ary Z h a .int N f) (hj : j.toInt = (i : Int)) (hi : i < N) (hv : f i = v) (hp : pc + 1 = pc') (kk : Gl p e below s R n0 Q T (mkF m pc' L (v :: r))) : Gl p e below s R n0 Q T (mkF m pc L (.int j :: .ref a :: r)) := by
  obtain ⟨locs, X, N, eh⟩ := S; subst hp
  obtain ⟨cl, A, sz, z⟩ := A
  obtain ⟨q1, q2⟩ := idx_nat (c := cl) hj (by rw [sz]; exact hi)
  exact kk.st fun t q => X.iaload (g := mkF m pc L (.int j :: .ref a :: r)) C.1 (by rw [eh]; exact A.1) (State.isArrayOf_alike C.2.1.alike A.2.1) A.2.2 q1 (by rw [q2, ← hv]; exact z i hi) rfl rfl (hb C.2.2.1 hd) t q
theorem g_laload (C : Cx p s m meth c Z own name cod maxL ret) (S : On p l e R s m args below meth c n0 T h k n) (hd : decode cod pc = .ok (.laload, 1)) (A : Ary Z h a .long N f) (hj : j.toInt = (i : Int)) (hi : i < N) (hv : f i = v) (hp : pc + 1 = pc') (kk : Gl p e below s R n0 Q T (mkF m pc' L (v :: r))) : Gl p e below s R n0 Q T (mkF m pc L (.int j :: .ref a :: r)) := by
  obtain ⟨locs, X, N, eh⟩ := S; subst hp
  obtain ⟨cl, A, sz, z⟩ := A
  obtain ⟨q1, q2⟩ := idx_nat (c := cl) hj (by rw [sz]; exact hi)
  exact kk.st fun t q => X.laload (g := mkF m pc L (.int j :: .ref a :: r)) C.1 (by rw [eh]; exact A.1) (State.isArrayOf_alike C.2.1.alike A.2.1) A.2.2 q1 (by rw [q2, ← hv]; exact z i hi) rfl rfl (hb C.2.2.1 hd) t q
theorem g_caload (C : Cx p s m meth c Z own name cod maxL ret) (S : On p l e R s m args below meth c n0 T h k n) (hd : decode cod pc = .ok (.caload, 1)) (A : Ary Z h a .char N f) (hj : j.toInt = (i : Int)) (hi : i < N) (hv : f i = v) (hp : pc + 1 = pc') (kk : Gl p e below s R n0 Q T (mkF m pc' L (v :: r))) : Gl p e below s R n0 Q T (mkF m pc L (.int j :: .ref a :: r)) := by
  obtain ⟨locs, X, N, eh⟩ := S; subst hp
  obtain ⟨cl, A, sz, z⟩ := A
  obtain ⟨q1, q2⟩ := idx_nat (c := cl) hj (by rw [sz]; exact hi)
  exact kk.st fun t q => X.caload (g := mkF m pc L (.int j :: .ref a :: r)) C.1 (by rw [eh]; exact A.1) (State.isArrayOf_alike C.2.1.alike A.2.1) A.2.2 q1 (by rw [q2, ← hv]; exact z i hi) rfl rfl (hb C.2.2.1 hd) t q
theorem g_saload (C : Cx p s m meth c Z own name cod maxL ret) (S : On p l e R s m args below meth c n0 T h k n) (hd : decode cod pc = .ok (.saload, 1)) (A : Ary Z h a .short N f) (hj : j.toInt = (i : Int)) (hi : i < N) (hv : f i = v) (hp : pc + 1 = pc') (kk : Gl p e below s R n0 Q T (mkF m pc' L (v :: r))) : Gl p e below s R n0 Q T (mkF m pc L (.int j :: .ref a :: r)) := by
  obtain ⟨locs, X, N, eh⟩ := S; subst hp
  obtain ⟨cl, A, sz, z⟩ := A
  obtain ⟨q1, q2⟩ := idx_nat (c := cl) hj (by rw [sz]; exact hi)
  exact kk.st fun t q => X.saload (g := mkF m pc L (.int j :: .ref a :: r)) C.1 (by rw [eh]; exact A.1) (State.isArrayOf_alike C.2.1.alike A.2.1) A.2.2 q1 (by rw [q2, ← hv]; exact z i hi) rfl rfl (hb C.2.2.1 hd) t q
theorem g_baloadB (C : Cx p s m meth c Z own name cod maxL ret) (S : On p l e R s m args below meth c n0 T h k n) (hd : decode cod pc = .ok (.baload, 1)) (A : Ary Z h a .byte N f) (hj : j.toInt = (i : Int)) (hi : i < N) (hv : f i = v) (hp : pc + 1 = pc') (kk : Gl p e below s R n0 Q T (mkF m pc' L (v :: r))) : Gl p e below s R n0 Q T (mkF m pc L (.int j :: .ref a :: r)) := by
  obtain ⟨locs, X, N, eh⟩ := S; subst hp
  obtain ⟨cl, A, sz, z⟩ := A
  obtain ⟨q1, q2⟩ := idx_nat (c := cl) hj (by rw [sz]; exact hi)
  exact kk.st fun t q => X.baloadBytes (g := mkF m pc L (.int j :: .ref a :: r)) C.1 (by rw [eh]; exact A.1) (State.isArrayOf_alike C.2.1.alike A.2.1) A.2.2 q1 (by rw [q2, ← hv]; exact z i hi) rfl rfl (hb C.2.2.1 hd) t q
theorem g_baloadZ (C : Cx p s m meth c Z own name cod maxL ret) (S : On p l e R s m args below meth c n0 T h k n) (hd : decode cod pc = .ok (.baload, 1)) (A : Ary Z h a .boolean N f) (hj : j.toInt = (i : Int)) (hi : i < N) (hv : f i = v) (hp : pc + 1 = pc') (kk : Gl p e below s R n0 Q T (mkF m pc' L (v :: r))) : Gl p e below s R n0 Q T (mkF m pc L (.int j :: .ref a :: r)) := by
  obtain ⟨locs, X, N, eh⟩ := S; subst hp
  obtain ⟨cl, A, sz, z⟩ := A
  obtain ⟨q1, q2⟩ := idx_nat (c := cl) hj (by rw [sz]; exact hi)
  exact kk.st fun t q => X.baloadBooleans (g := mkF m pc L (.int j :: .ref a :: r)) C.1 (by rw [eh]; exact A.1) (State.isArrayOf_alike C.2.1.alike A.2.1) A.2.2 q1 (by rw [q2, ← hv]; exact z i hi) rfl rfl (hb C.2.2.1 hd) t q
theorem g_daload (C : Cx p s m meth c Z own name cod maxL ret) (S : On p l e R s m args below meth c n0 T h k n) (hd : decode cod pc = .ok (.daload, 1)) (A : Ary Z h a .double N f) (hj : j.toInt = (i : Int)) (hi : i < N) (hv : f i = v) (hp : pc + 1 = pc') (kk : Gl p e below s R n0 Q T (mkF m pc' L (v :: r))) : Gl p e below s R n0 Q T (mkF m pc L (.int j :: .ref a :: r)) := by
  obtain ⟨locs, X, N, eh⟩ := S; subst hp
  obtain ⟨cl, A, sz, z⟩ := A
  obtain ⟨q1, q2⟩ := idx_nat (c := cl) hj (by rw [sz]; exact hi)
  exact kk.st fun t q => X.daload (g := mkF m pc L (.int j :: .ref a :: r)) C.1 (by rw [eh]; exact A.1) (State.isArrayOf_alike C.2.1.alike A.2.1) A.2.2 q1 (by rw [q2, ← hv]; exact z i hi) rfl rfl (hb C.2.2.1 hd) t q
theorem g_aaload (C : Cx p s m meth c Z own name cod maxL ret) (S : On p l e R s m args below meth c n0 T h k n) (hd : decode cod pc = .ok (.aaload, 1)) (A : Ary Z h a ty N f) (hty : ty.isReference = true) (hj : j.toInt = (i : Int)) (hi : i < N) (hv : f i = v) (hp : pc + 1 = pc') (kk : Gl p e below s R n0 Q T (mkF m pc' L (v :: r))) : Gl p e below s R n0 Q T (mkF m pc L (.int j :: .ref a :: r)) := by
  obtain ⟨locs, X, N, eh⟩ := S; subst hp
  obtain ⟨cl, A, sz, z⟩ := A
  obtain ⟨q1, q2⟩ := idx_nat (c := cl) hj (by rw [sz]; exact hi)
  exact kk.st fun t q => X.aaload (g := mkF m pc L (.int j :: .ref a :: r)) C.1 (by rw [eh]; exact A.1) (State.isArrayOf_alike C.2.1.alike A.2.1) hty A.2.2 q1 (by rw [q2, ← hv]; exact z i hi) rfl rfl (hb C.2.2.1 hd) t q
theorem g_arraylength (C : Cx p s m meth c Z own name cod maxL ret) (S : On p l e R s m args below meth c n0 T h k n) (hd : decode cod pc = .ok (.arraylength, 1)) (A : Ary Z h a ty N f) (hx : N.toInt32 = x) (hp : pc + 1 = pc') (kk : Gl p e below s R n0 Q T (mkF m pc' L (.int x :: r))) : Gl p e below s R n0 Q T (mkF m pc L (.ref a :: r)) := by
  obtain ⟨locs, X, _, eh⟩ := S; subst hp
  obtain ⟨cl, A, sz, z⟩ := A
  subst hx
  rw [← sz] at kk
  exact kk.st fun t q => X.arraylength (g := mkF m pc L (.ref a :: r)) C.1 (by rw [eh]; exact A.1) (State.isArrayOf_alike C.2.1.alike A.2.1) rfl rfl (hb C.2.2.1 hd) t q
theorem g_iastore (C : Cx p s m meth c Z own name cod maxL ret) (S : On p l e R s m args below meth c n0 T h k n) {y : Int32} (hd : decode cod pc = .ok (.iastore, 1)) (A : Ary Z h a .int N f) (hj : j.toInt = (i : Int)) (hi : i < N) (ga : n0 ≤ a) (hp : pc + 1 = pc') (kk : ∀ T' h', On p l e R s m args below meth c n0 T' h' k n → Wr h h' a i (.int y) → Ary Z h' a .int N (fun q => if q = i then .int y else f q) → Gl p e below s R n0 Q T' (mkF m pc' L r)) : Gl p e below s R n0 Q T (mkF m pc L (.int y :: .int j :: .ref a :: r)) := by
  obtain ⟨locs, X, N, eh⟩ := S; subst hp
  have A0 := A
  obtain ⟨cl, A, sz, z⟩ := A
  obtain ⟨q1, q2⟩ := idx_nat (c := cl) hj (by rw [sz]; exact hi)
  obtain ⟨T', h', X', eT, W, st⟩ := stI X C.1 C.2.1 eh A q1 (g := mkF m pc L (.int y :: .int j :: .ref a :: r)) rfl rfl (hb C.2.2.1 hd)
  have N' := Fr.snoc X' N ga
  rw [q2] at W
  exact (kk T' h' ⟨_, X', N', eT⟩ W (A0.same W)).st st
theorem g_lastore (C : Cx p s m meth c Z own name cod maxL ret) (S : On p l e R s m args below meth c n0 T h k n) {y : Int64} (hd : decode cod pc = .ok (.lastore, 1)) (A : Ary Z h a .long N f) (hj : j.toInt = (i : Int)) (hi : i < N) (ga : n0 ≤ a) (hp : pc + 1 = pc') (kk : ∀ T' h', On p l e R s m args below meth c n0 T' h' k n → Wr h h' a i (.long y) → Ary Z h' a .long N (fun q => if q = i then .long y else f q) → Gl p e below s R n0 Q T' (mkF m pc' L r)) : Gl p e below s R n0 Q T (mkF m pc L (.long y :: .int j :: .ref a :: r)) := by
  obtain ⟨locs, X, N, eh⟩ := S; subst hp
  have A0 := A
  obtain ⟨cl, A, sz, z⟩ := A
  obtain ⟨q1, q2⟩ := idx_nat (c := cl) hj (by rw [sz]; exact hi)
  obtain ⟨T', h', X', eT, W, st⟩ := stJ X C.1 C.2.1 eh A q1 (g := mkF m pc L (.long y :: .int j :: .ref a :: r)) rfl rfl (hb C.2.2.1 hd)
  have N' := Fr.snoc X' N ga
  rw [q2] at W
  exact (kk T' h' ⟨_, X', N', eT⟩ W (A0.same W)).st st
theorem g_castore (C : Cx p s m meth c Z own name cod maxL ret) (S : On p l e R s m args below meth c n0 T h k n) {y : Int32} (hd : decode cod pc = .ok (.castore, 1)) (A : Ary Z h a .char N f) (hj : j.toInt = (i : Int)) (hi : i < N) (ga : n0 ≤ a) (hp : pc + 1 = pc') (kk : ∀ T' h', On p l e R s m args below meth c n0 T' h' k n → Wr h h' a i (.int (nar .char y)) → Ary Z h' a .char N (fun q => if q = i then .int (nar .char y) else f q) → Gl p e below s R n0 Q T' (mkF m pc' L r)) : Gl p e below s R n0 Q T (mkF m pc L (.int y :: .int j :: .ref a :: r)) := by
  obtain ⟨locs, X, N, eh⟩ := S; subst hp
  have A0 := A
  obtain ⟨cl, A, sz, z⟩ := A
  obtain ⟨q1, q2⟩ := idx_nat (c := cl) hj (by rw [sz]; exact hi)
  obtain ⟨T', h', X', eT, W, st⟩ := stC X C.1 C.2.1 eh A q1 (g := mkF m pc L (.int y :: .int j :: .ref a :: r)) rfl rfl (hb C.2.2.1 hd)
  have N' := Fr.snoc X' N ga
  rw [q2] at W
  exact (kk T' h' ⟨_, X', N', eT⟩ W (A0.same W)).st st
theorem g_bastoreB (C : Cx p s m meth c Z own name cod maxL ret) (S : On p l e R s m args below meth c n0 T h k n) {y : Int32} (hd : decode cod pc = .ok (.bastore, 1)) (A : Ary Z h a .byte N f) (hj : j.toInt = (i : Int)) (hi : i < N) (ga : n0 ≤ a) (hp : pc + 1 = pc') (kk : ∀ T' h', On p l e R s m args below meth c n0 T' h' k n → Wr h h' a i (.int (nar .byte y)) → Ary Z h' a .byte N (fun q => if q = i then .int (nar .byte y) else f q) → Gl p e below s R n0 Q T' (mkF m pc' L r)) : Gl p e below s R n0 Q T (mkF m pc L (.int y :: .int j :: .ref a :: r)) := by
  obtain ⟨locs, X, N, eh⟩ := S; subst hp
  have A0 := A
  obtain ⟨cl, A, sz, z⟩ := A
  obtain ⟨q1, q2⟩ := idx_nat (c := cl) hj (by rw [sz]; exact hi)
  obtain ⟨T', h', X', eT, W, st⟩ := stB X C.1 C.2.1 eh A q1 (g := mkF m pc L (.int y :: .int j :: .ref a :: r)) rfl rfl (hb C.2.2.1 hd)
  have N' := Fr.snoc X' N ga
  rw [q2] at W
  exact (kk T' h' ⟨_, X', N', eT⟩ W (A0.same W)).st st
theorem g_bastoreZ (C : Cx p s m meth c Z own name cod maxL ret) (S : On p l e R s m args below meth c n0 T h k n) {y : Int32} (hd : decode cod pc = .ok (.bastore, 1)) (A : Ary Z h a .boolean N f) (hj : j.toInt = (i : Int)) (hi : i < N) (ga : n0 ≤ a) (hp : pc + 1 = pc') (kk : ∀ T' h', On p l e R s m args below meth c n0 T' h' k n → Wr h h' a i (.int (nar .boolean y)) → Ary Z h' a .boolean N (fun q => if q = i then .int (nar .boolean y) else f q) → Gl p e below s R n0 Q T' (mkF m pc' L r)) : Gl p e below s R n0 Q T (mkF m pc L (.int y :: .int j :: .ref a :: r)) := by
  obtain ⟨locs, X, N, eh⟩ := S; subst hp
  have A0 := A
  obtain ⟨cl, A, sz, z⟩ := A
  obtain ⟨q1, q2⟩ := idx_nat (c := cl) hj (by rw [sz]; exact hi)
  obtain ⟨T', h', X', eT, W, st⟩ := stZ X C.1 C.2.1 eh A q1 (g := mkF m pc L (.int y :: .int j :: .ref a :: r)) rfl rfl (hb C.2.2.1 hd)
  have N' := Fr.snoc X' N ga
  rw [q2] at W
  exact (kk T' h' ⟨_, X', N', eT⟩ W (A0.same W)).st st
theorem g_dastore (C : Cx p s m meth c Z own name cod maxL ret) (S : On p l e R s m args below meth c n0 T h k n) {y : UInt64} (hd : decode cod pc = .ok (.dastore, 1)) (A : Ary Z h a .double N f) (hj : j.toInt = (i : Int)) (hi : i < N) (ga : n0 ≤ a) (hp : pc + 1 = pc') (kk : ∀ T' h', On p l e R s m args below meth c n0 T' h' k n → Wr h h' a i (.double y) → Ary Z h' a .double N (fun q => if q = i then .double y else f q) → Gl p e below s R n0 Q T' (mkF m pc' L r)) : Gl p e below s R n0 Q T (mkF m pc L (.double y :: .int j :: .ref a :: r)) := by
  obtain ⟨locs, X, N, eh⟩ := S; subst hp
  have A0 := A
  obtain ⟨cl, A, sz, z⟩ := A
  obtain ⟨q1, q2⟩ := idx_nat (c := cl) hj (by rw [sz]; exact hi)
  obtain ⟨T', h', X', eT, W, st⟩ := stD X C.1 C.2.1 eh A q1 (g := mkF m pc L (.double y :: .int j :: .ref a :: r)) rfl rfl (hb C.2.2.1 hd)
  have N' := Fr.snoc X' N ga
  rw [q2] at W
  exact (kk T' h' ⟨_, X', N', eT⟩ W (A0.same W)).st st
theorem g_newarray (C : Cx p s m meth c Z own name cod maxL ret) (S : On p l e R s m args below meth c n0 T h k n) {aty : ArrayType} {cap : Nat} (hd : decode cod pc = .ok (.newarray aty, 2)) (w : (Jvm.Cond.arrayClass (newarray.typeOf aty)).before a0 Z = true) (hj : j.toInt = (N : Int)) (hcap : N ≤ cap) (hbig : cap * 8 ≤ 536870912) (hc : k + 1 ≤ R.cells) (hl : n + cap ≤ R.slots) (hp : pc + 2 = pc') (kk : ∀ T' h' a, On p l e R s m args below meth c n0 T' h' (k + 1) (n + cap) → a = h.size → Ext h h' → Ary Z h' a (newarray.typeOf aty) N (fun _ => defaultValue (newarray.typeOf aty)) → Gl p e below s R n0 Q T' (mkF m pc' L (.ref a :: r))) : Gl p e below s R n0 Q T (mkF m pc L (.int j :: r)) := by
  obtain ⟨locs, X, Nn, eh⟩ := S; subst hp
  have e1 : j.toNatClampNeg = N := by simp only [Int32.toNatClampNeg, hj]; omega
  have e2 : ¬ j < 0 := by rw [Int32.lt_iff_toInt_lt, hj]; have : (0 : Int32).toInt = 0 := rfl; omega
  obtain ⟨T', h', cA, X', eT, E, A, st⟩ := newP X C.1 C.2.1 w eh (g := mkF m pc L (.int j :: r)) rfl (hb C.2.2.1 hd) rfl e2 (cap := cap) (by rw [e1]; exact hcap) hbig hc hl
  refine (kk T' h' h.size ⟨_, X', Nn, eT⟩ rfl E ⟨_, A, by rw [sz_new]; exact e1, fun i hi => ?_⟩).st st
  simp [newA, e1, hi]
theorem ge_of {z : Nat} (e1 : a = z) (q : n0 ≤ z) : n0 ≤ a := e1 ▸ q
theorem ne_new (e1 : b = h.size) (q : a < h.size) : a ≠ b := fun e => by rw [e, e1] at q; exact Nat.lt_irrefl _ q
end OwnKit
theorem dr_0 : decode jdk_30_method_1_code 0 = .ok (.aload_n 0, 1) := by decide +kernel
theorem dr_1 : decode jdk_30_method_1_code 1 = .ok (.invokespecial 1, 3) := by decide +kernel
theorem dr_4 : decode jdk_30_method_1_code 4 = .ok (.return_, 1) := by decide +kernel
set_option maxRecDepth 65536 in
set_option maxHeartbeats 40000000 in
theorem c_rec (l : Launch) (Z : State) (a0 : Array Value) (hw : ∀ d ∈ tables_1, d.before a0 Z = true) (a1 : Addr) (h0 : Heap) (n0 : Nat) :
    Con l Z (⟨"java/lang/Record", "<init>", "()V"⟩ : MethodName) jdk_30_method_1_code 1 none ({ frames := 1, cells := 0, slots := 0, locals := 12 } : Room) #[(.ref a1)] h0 n0 (fun v h => v = none ∧ h = h0) := by
  refine Con.of (plainFor_of_name (by first | (simp [plainName, overriddenIn]; done) | decide +kernel)) (L0 := #[.val (.ref a1)]) (fun m => by first | (simp [entryFrame, mkF, argsToLocals, Value.category]; done) | rfl) ?_
  intro p e s m below meth c T C S
  refine g_aloadN C S dr_0 (pc' := 1) rfl rfl rfl ?_
  refine g_initO C S (W := 0) dr_1 (hw _ (List.mem_of_getElem? (i := 13) rfl)) (hw _ (List.mem_of_getElem? (i := 14) rfl)) (hw _ (List.mem_of_getElem? (i := 15) rfl)) rfl (by decide) (Nat.le_of_eq rfl) (by decide) (pc' := 4) rfl (fun T1 S => ?_)
  exact g_return C S dr_4 (by decide) (by decide) (⟨rfl, rfl⟩)
theorem pd_0 : parseMethodDescriptor "()V" = some ⟨[], none⟩ := by decide +kernel
theorem di_0 : decode prog_55_method_1_code 0 = .ok (.aload_n 0, 1) := by decide +kernel
theorem di_1 : decode prog_55_method_1_code 1 = .ok (.invokespecial 1, 3) := by decide +kernel
theorem di_4 : decode prog_55_method_1_code 4 = .ok (.aload_n 0, 1) := by decide +kernel
theorem di_5 : decode prog_55_method_1_code 5 = .ok (.iload_n 1, 1) := by decide +kernel
theorem di_6 : decode prog_55_method_1_code 6 = .ok (.putfield 7, 3) := by decide +kernel
theorem di_9 : decode prog_55_method_1_code 9 = .ok (.aload_n 0, 1) := by decide +kernel
theorem di_10 : decode prog_55_method_1_code 10 = .ok (.aload_n 2, 1) := by decide +kernel
theorem di_11 : decode prog_55_method_1_code 11 = .ok (.putfield 13, 3) := by decide +kernel
theorem di_14 : decode prog_55_method_1_code 14 = .ok (.aload_n 0, 1) := by decide +kernel
theorem di_15 : decode prog_55_method_1_code 15 = .ok (.iload_n 3, 1) := by decide +kernel
theorem di_16 : decode prog_55_method_1_code 16 = .ok (.putfield 17, 3) := by decide +kernel
theorem di_19 : decode prog_55_method_1_code 19 = .ok (.aload_n 0, 1) := by decide +kernel
theorem di_20 : decode prog_55_method_1_code 20 = .ok (.aload 4, 2) := by decide +kernel
theorem di_22 : decode prog_55_method_1_code 22 = .ok (.putfield 20, 3) := by decide +kernel
theorem di_25 : decode prog_55_method_1_code 25 = .ok (.return_, 1) := by decide +kernel
set_option maxRecDepth 65536 in
set_option maxHeartbeats 40000000 in
theorem c_ini (l : Launch) (Z : State) (a0 : Array Value) (hw : ∀ d ∈ tables_1, d.before a0 Z = true) (a1 : Addr) (p2 : Int32) (a3 : Addr) (p4 : Int32) (a5 : Addr) (h0 : Heap) (n0 : Nat) (u1 u2 u3 u4 : Value) (ga : n0 ≤ a1) (X_a1 : Exa Z h0 a1 "com/example/nodelta/nodelta/SiblingSearch$Places") (F_oldFrom_a1 : Fld Z h0 a1 "com/example/nodelta/nodelta/SiblingSearch$Places" "oldFrom" "I" u1) (F_olds_a1 : Fld Z h0 a1 "com/example/nodelta/nodelta/SiblingSearch$Places" "olds" "[I" u2) (F_newFrom_a1 : Fld Z h0 a1 "com/example/nodelta/nodelta/SiblingSearch$Places" "newFrom" "I" u3) (F_news_a1 : Fld Z h0 a1 "com/example/nodelta/nodelta/SiblingSearch$Places" "news" "[I" u4) :
    Con l Z (⟨"com/example/nodelta/nodelta/SiblingSearch$Places", "<init>", "(I[II[I)V"⟩ : MethodName) prog_55_method_1_code 5 none ({ frames := 2, cells := 0, slots := 0, locals := 24 } : Room) #[(.ref a1), (.int p2), (.ref a3), (.int p4), (.ref a5)] h0 n0 (fun v h => v = none ∧ Keep h0 h [a1] ∧ Exa Z h a1 "com/example/nodelta/nodelta/SiblingSearch$Places" ∧ Fld Z h a1 "com/example/nodelta/nodelta/SiblingSearch$Places" "oldFrom" "I" (.int p2) ∧ Fld Z h a1 "com/example/nodelta/nodelta/SiblingSearch$Places" "olds" "[I" (.ref a3) ∧ Fld Z h a1 "com/example/nodelta/nodelta/SiblingSearch$Places" "newFrom" "I" (.int p4) ∧ Fld Z h a1 "com/example/nodelta/nodelta/SiblingSearch$Places" "news" "[I" (.ref a5)) := by
  refine Con.of (plainFor_of_name (by first | (simp [plainName, overriddenIn]; done) | decide +kernel)) (L0 := #[.val (.ref a1), .val (.int p2), .val (.ref a3), .val (.int p4), .val (.ref a5)]) (fun m => by first | (simp [entryFrame, mkF, argsToLocals, Value.category]; done) | rfl) ?_
  intro p e s m below meth c T C S
  have Kp := Keep.refl h0 [a1]
  refine g_aloadN C S di_0 (pc' := 1) rfl rfl rfl ?_
  refine g_callI C S (rm := ({ frames := 1, cells := 0, slots := 0, locals := 12 } : Room)) (W := 0) di_1 rfl (hw _ (List.mem_of_getElem? (i := 8) rfl)) (hw _ (List.mem_of_getElem? (i := 9) rfl)) (hw _ (List.mem_of_getElem? (i := 11) rfl)) (hw _ (List.mem_of_getElem? (i := 12) rfl)) (by decide) (c_rec l Z a0 hw a1 h0 n0) (argsL := []) (r := []) rfl (lenOf pd_0 rfl) rfl (Nat.le_of_eq rfl) (by decide) (by decide) (by decide) (by decide) (pc' := 4) rfl (fun T2 h2 v2 q2 S => ?_)
  obtain ⟨rfl, e2⟩ := q2; rw [e2] at S
  show Gl p e below s _ n0 _ T2 (mkF m 4 #[.val (.ref a1), .val (.int p2), .val (.ref a3), .val (.int p4), .val (.ref a5)] [])
  refine g_aloadN C S di_4 (pc' := 5) rfl rfl rfl ?_
  refine g_iloadN C S di_5 (pc' := 6) rfl rfl ?_
  refine g_putF C S di_6 (host := "") (Or.inl (hw _ (List.mem_of_getElem? (i := 16) rfl))) Via.refl F_oldFrom_a1 X_a1 (Or.inr ⟨(hw _ (List.mem_of_getElem? (i := 17) rfl)), rfl, rfl⟩) (hw _ (List.mem_of_getElem? (i := 3) rfl)) (ty := .int) (by decide) rfl rfl ga (pc' := 9) rfl (fun T3 h3 S W3 => ?_)
  have X_a1 := X_a1.wr W3
  have F_oldFrom_a1 := F_oldFrom_a1.same W3
  have F_olds_a1 := F_olds_a1.other W3 (Or.inr (slot_ne (a0 := a0) (t := (.array .int)) (t' := .int) (Or.inr (hw _ (List.mem_of_getElem? (i := 19) rfl))) (Or.inr (hw _ (List.mem_of_getElem? (i := 17) rfl))) (by decide) (by decide) (by decide)))
  have F_newFrom_a1 := F_newFrom_a1.other W3 (Or.inr (slot_ne (a0 := a0) (t := .int) (t' := .int) (Or.inr (hw _ (List.mem_of_getElem? (i := 21) rfl))) (Or.inr (hw _ (List.mem_of_getElem? (i := 17) rfl))) (by decide) (by decide) (by decide)))
  have F_news_a1 := F_news_a1.other W3 (Or.inr (slot_ne (a0 := a0) (t := (.array .int)) (t' := .int) (Or.inr (hw _ (List.mem_of_getElem? (i := 23) rfl))) (Or.inr (hw _ (List.mem_of_getElem? (i := 17) rfl))) (by decide) (by decide) (by decide)))
  have Kp := Kp.wr W3 (Or.inl (List.mem_of_getElem? (i := 0) rfl))
  refine g_aloadN C S di_9 (pc' := 10) rfl rfl rfl ?_
  refine g_aloadN C S di_10 (pc' := 11) rfl rfl rfl ?_
  refine g_putF C S di_11 (host := "") (Or.inl (hw _ (List.mem_of_getElem? (i := 18) rfl))) Via.refl F_olds_a1 X_a1 (Or.inr ⟨(hw _ (List.mem_of_getElem? (i := 19) rfl)), rfl, rfl⟩) (hw _ (List.mem_of_getElem? (i := 3) rfl)) (ty := (.array .int)) (by decide) rfl rfl ga (pc' := 14) rfl (fun T4 h4 S W4 => ?_)
  have X_a1 := X_a1.wr W4
  have F_oldFrom_a1 := F_oldFrom_a1.other W4 (Or.inr (slot_ne (a0 := a0) (t := .int) (t' := (.array .int)) (Or.inr (hw _ (List.mem_of_getElem? (i := 17) rfl))) (Or.inr (hw _ (List.mem_of_getElem? (i := 19) rfl))) (by decide) (by decide) (by decide)))
  have F_olds_a1 := F_olds_a1.same W4
  have F_newFrom_a1 := F_newFrom_a1.other W4 (Or.inr (slot_ne (a0 := a0) (t := .int) (t' := (.array .int)) (Or.inr (hw _ (List.mem_of_getElem? (i := 21) rfl))) (Or.inr (hw _ (List.mem_of_getElem? (i := 19) rfl))) (by decide) (by decide) (by decide)))
  have F_news_a1 := F_news_a1.other W4 (Or.inr (slot_ne (a0 := a0) (t := (.array .int)) (t' := (.array .int)) (Or.inr (hw _ (List.mem_of_getElem? (i := 23) rfl))) (Or.inr (hw _ (List.mem_of_getElem? (i := 19) rfl))) (by decide) (by decide) (by decide)))
  have Kp := Kp.wr W4 (Or.inl (List.mem_of_getElem? (i := 0) rfl))
  refine g_aloadN C S di_14 (pc' := 15) rfl rfl rfl ?_
  refine g_iloadN C S di_15 (pc' := 16) rfl rfl ?_
  refine g_putF C S di_16 (host := "") (Or.inl (hw _ (List.mem_of_getElem? (i := 20) rfl))) Via.refl F_newFrom_a1 X_a1 (Or.inr ⟨(hw _ (List.mem_of_getElem? (i := 21) rfl)), rfl, rfl⟩) (hw _ (List.mem_of_getElem? (i := 3) rfl)) (ty := .int) (by decide) rfl rfl ga (pc' := 19) rfl (fun T5 h5 S W5 => ?_)
  have X_a1 := X_a1.wr W5
  have F_oldFrom_a1 := F_oldFrom_a1.other W5 (Or.inr (slot_ne (a0 := a0) (t := .int) (t' := .int) (Or.inr (hw _ (List.mem_of_getElem? (i := 17) rfl))) (Or.inr (hw _ (List.mem_of_getElem? (i := 21) rfl))) (by decide) (by decide) (by decide)))
  have F_olds_a1 := F_olds_a1.other W5 (Or.inr (slot_ne (a0 := a0) (t := (.array .int)) (t' := .int) (Or.inr (hw _ (List.mem_of_getElem? (i := 19) rfl))) (Or.inr (hw _ (List.mem_of_getElem? (i := 21) rfl))) (by decide) (by decide) (by decide)))
  have F_newFrom_a1 := F_newFrom_a1.same W5
  have F_news_a1 := F_news_a1.other W5 (Or.inr (slot_ne (a0 := a0) (t := (.array .int)) (t' := .int) (Or.inr (hw _ (List.mem_of_getElem? (i := 23) rfl))) (Or.inr (hw _ (List.mem_of_getElem? (i := 21) rfl))) (by decide) (by decide) (by decide)))
  have Kp := Kp.wr W5 (Or.inl (List.mem_of_getElem? (i := 0) rfl))
  refine g_aloadN C S di_19 (pc' := 20) rfl rfl rfl ?_
  refine g_aload C S di_20 (pc' := 22) rfl rfl rfl ?_
  refine g_putF C S di_22 (host := "") (Or.inl (hw _ (List.mem_of_getElem? (i := 22) rfl))) Via.refl F_news_a1 X_a1 (Or.inr ⟨(hw _ (List.mem_of_getElem? (i := 23) rfl)), rfl, rfl⟩) (hw _ (List.mem_of_getElem? (i := 3) rfl)) (ty := (.array .int)) (by decide) rfl rfl ga (pc' := 25) rfl (fun T6 h6 S W6 => ?_)
  have X_a1 := X_a1.wr W6
  have F_oldFrom_a1 := F_oldFrom_a1.other W6 (Or.inr (slot_ne (a0 := a0) (t := .int) (t' := (.array .int)) (Or.inr (hw _ (List.mem_of_getElem? (i := 17) rfl))) (Or.inr (hw _ (List.mem_of_getElem? (i := 23) rfl))) (by decide) (by decide) (by decide)))
  have F_olds_a1 := F_olds_a1.other W6 (Or.inr (slot_ne (a0 := a0) (t := (.array .int)) (t' := (.array .int)) (Or.inr (hw _ (List.mem_of_getElem? (i := 19) rfl))) (Or.inr (hw _ (List.mem_of_getElem? (i := 23) rfl))) (by decide) (by decide) (by decide)))
  have F_newFrom_a1 := F_newFrom_a1.other W6 (Or.inr (slot_ne (a0 := a0) (t := .int) (t' := (.array .int)) (Or.inr (hw _ (List.mem_of_getElem? (i := 21) rfl))) (Or.inr (hw _ (List.mem_of_getElem? (i := 23) rfl))) (by decide) (by decide) (by decide)))
  have F_news_a1 := F_news_a1.same W6
  have Kp := Kp.wr W6 (Or.inl (List.mem_of_getElem? (i := 0) rfl))
  exact g_return C S di_25 (by decide) (by decide) (⟨rfl, Kp, X_a1, F_oldFrom_a1, F_olds_a1, F_newFrom_a1, F_news_a1⟩)
theorem df_0 : decode prog_55_method_3_code 0 = .ok (.aload_n 0, 1) := by decide +kernel
theorem df_1 : decode prog_55_method_3_code 1 = .ok (.getfield 20, 3) := by decide +kernel
theorem df_4 : decode prog_55_method_3_code 4 = .ok (.iload_n 1, 1) := by decide +kernel
theorem df_5 : decode prog_55_method_3_code 5 = .ok (.aload_n 0, 1) := by decide +kernel
theorem df_6 : decode prog_55_method_3_code 6 = .ok (.getfield 17, 3) := by decide +kernel
theorem df_9 : decode prog_55_method_3_code 9 = .ok (.isub, 1) := by decide +kernel
theorem df_10 : decode prog_55_method_3_code 10 = .ok (.iaload, 1) := by decide +kernel
theorem df_11 : decode prog_55_method_3_code 11 = .ok (.ireturn, 1) := by decide +kernel
set_option maxRecDepth 65536 in
set_option maxHeartbeats 40000000 in
theorem c_ofn (l : Launch) (Z : State) (a0 : Array Value) (hw : ∀ d ∈ tables_1, d.before a0 Z = true) (a1 : Addr) (p2 : Int32) (h0 : Heap) (n0 : Nat) (a3 : Addr) (p4 z : Int32) (i : Nat) (f : Nat → Value) (F_news_a1 : Fld Z h0 a1 "com/example/nodelta/nodelta/SiblingSearch$Places" "news" "[I" (.ref a3)) (F_newFrom_a1 : Fld Z h0 a1 "com/example/nodelta/nodelta/SiblingSearch$Places" "newFrom" "I" (.int p4)) (A_a3 : Ary Z h0 a3 .int 3 f) (hj : (p2 - p4).toInt = (i : Int)) (hi : i < 3) (hv : f i = .int z) :
    Con l Z (⟨"com/example/nodelta/nodelta/SiblingSearch$Places", "ofNew", "(I)I"⟩ : MethodName) prog_55_method_3_code 2 (some .int) ({ frames := 0, cells := 0, slots := 0, locals := 0 } : Room) #[(.ref a1), (.int p2)] h0 n0 (fun v h => v = some (.int z) ∧ h = h0) := by
  refine Con.of (plainFor_of_name (by first | (simp [plainName, overriddenIn]; done) | decide +kernel)) (L0 := #[.val (.ref a1), .val (.int p2)]) (fun m => by first | (simp [entryFrame, mkF, argsToLocals, Value.category]; done) | rfl) ?_
  intro p e s m below meth c T C S
  refine g_aloadN C S df_0 (pc' := 1) rfl rfl rfl ?_
  refine g_getF C S df_1 (host := "") (Or.inl (hw _ (List.mem_of_getElem? (i := 22) rfl))) Via.refl F_news_a1 (pc' := 4) rfl (fun T7 S => ?_)
  refine g_iloadN C S df_4 (pc' := 5) rfl rfl ?_
  refine g_aloadN C S df_5 (pc' := 6) rfl rfl rfl ?_
  refine g_getF C S df_6 (host := "") (Or.inl (hw _ (List.mem_of_getElem? (i := 20) rfl))) Via.refl F_newFrom_a1 (pc' := 9) rfl (fun T8 S => ?_)
  refine g_isub C S df_9 (pc' := 10) rfl ?_
  refine g_iaload C S (i := i) (v := (.int z)) df_10 A_a3 hj hi hv (pc' := 11) rfl ?_
  exact g_retI C S df_11 (by decide) (by decide) (⟨rfl, rfl⟩)
theorem own_sel (p6 : Int32) : 0 ≤ ((p6 &&& (2147483647 : Int32)) % (3 : Int32)).toInt ∧ ((p6 &&& (2147483647 : Int32)) % (3 : Int32)).toInt < 3 := by
  have e1 : (p6 &&& (2147483647 : Int32)).toInt = p6.toInt % 2 ^ 31 := Jvm.Kit.i32_mask p6 _ (k := 31) (by decide) (by decide)
  have e2 : ((p6 &&& (2147483647 : Int32)) % (3 : Int32)).toInt = (p6 &&& (2147483647 : Int32)).toInt % 3 := Jvm.Kit.i32_rem_nonneg (by rw [e1]; omega)
  omega
theorem own_cancel (a b : Int32) : a + b - a = b := by rw [Int32.add_comm, Int32.add_sub_cancel]
theorem own_two (z : Int32) (h : 0 ≤ z.toInt ∧ z.toInt < 3) (h0 : ¬ z = 0) (h1 : ¬ z = 1) : z = 2 := by
  simp only [← Int32.toInt_inj] at *
  have q0 : (0 : Int32).toInt = 0 := by decide
  have q1 : (1 : Int32).toInt = 1 := by decide
  have q2 : (2 : Int32).toInt = 2 := by decide
  omega
theorem own_at {a b : Int32} {i : Nat} (h : b.toInt = i) : (a + b - a).toInt = (i : Int) := by rw [own_cancel]; exact h
theorem pd_1 : parseMethodDescriptor "(I[II[I)V" = some ⟨[.int, (.array .int), .int, (.array .int)], none⟩ := by decide +kernel
theorem pd_2 : parseMethodDescriptor "(I)I" = some ⟨[.int], some .int⟩ := by decide +kernel
set_option maxRecDepth 65536 in
set_option maxHeartbeats 40000000 in
theorem c_law (l : Launch) (Z : State) (a0 : Array Value) (hw : ∀ d ∈ tables_1, d.before a0 Z = true) (p1 : Int32) (p2 : Int32) (p3 : Int32) (p4 : Int32) (p5 : Int32) (p6 : Int32) (h0 : Heap) (n0 : Nat) (Zn : n0 ≤ h0.size) :
    Con l Z x code maxLocals ret room_1 #[(.int p1), (.int p2), (.int p3), (.int p4), (.int p5), (.int p6)] h0 n0 (fun v h => v = some (.int 1)) := by
  refine Con.of (plainFor_of_name (by first | (simp [plainName, overriddenIn, x]; done) | decide +kernel)) (L0 := #[.val (.int p1), .val (.int p2), .val (.int p3), .val (.int p4), .val (.int p5), .val (.int p6), .unset, .unset, .unset, .unset, .unset, .unset]) (fun m => by first | (simp [entryFrame, mkF, argsToLocals, Value.category, maxLocals]; done) | rfl) ?_
  intro p e s m below meth c T C S
  refine g_iload C S at_0 (pc' := 2) rfl rfl ?_
  refine g_ldc C S at_2 (hw _ (List.mem_of_getElem? (i := 0) rfl)) (pc' := 4) rfl ?_
  refine g_iand C S at_4 (pc' := 5) rfl ?_
  refine g_iconst C S (3 : Int32) at_5 (pc' := 6) rfl rfl ?_
  refine g_irem C S at_6 (pc' := 7) rfl (by decide) ?_
  refine g_istore C S at_7 (pc' := 9) rfl (L' := #[.val (.int p1), .val (.int p2), .val (.int p3), .val (.int p4), .val (.int p5), .val (.int p6), .val (.int ((p6 &&& (2147483647 : Int32)) % (3 : Int32))), .unset, .unset, .unset, .unset, .unset]) rfl ?_
  refine g_iconst C S (3 : Int32) at_9 (pc' := 10) rfl rfl ?_
  refine g_newarray C S (N := 3) (cap := 3) at_10 (hw _ (List.mem_of_getElem? (i := 1) rfl)) (by decide) (by decide) (by decide) (by decide) (by decide) (pc' := 12) rfl (fun T9 h9 a9 S g9 E9 A_a9 => ?_)
  have ge_a9 : n0 ≤ a9 := ge_of g9 Zn
  have Zn := Nat.le_trans Zn E9.1
  have A_a9 : Ary Z h9 a9 .int 3 (fun _ => (.int (0 : Int32))) := A_a9
  refine g_dup C S at_12 (pc' := 13) rfl rfl ?_
  refine g_iconst C S (0 : Int32) at_13 (pc' := 14) rfl rfl ?_
  refine g_iloadN C S at_14 (pc' := 15) rfl rfl ?_
  refine g_iastore C S (i := 0) at_15 A_a9 (by decide) (by decide) ge_a9 (pc' := 16) rfl (fun T10 h10 S W10 B10 => ?_)
  have Zn := Nat.le_trans Zn (Nat.le_of_eq W10.size.symm)
  have A_a9 := B10
  refine g_dup C S at_16 (pc' := 17) rfl rfl ?_
  refine g_iconst C S (1 : Int32) at_17 (pc' := 18) rfl rfl ?_
  refine g_iloadN C S at_18 (pc' := 19) rfl rfl ?_
  refine g_iastore C S (i := 1) at_19 A_a9 (by decide) (by decide) ge_a9 (pc' := 20) rfl (fun T11 h11 S W11 B11 => ?_)
  have Zn := Nat.le_trans Zn (Nat.le_of_eq W11.size.symm)
  have A_a9 := B11
  refine g_dup C S at_20 (pc' := 21) rfl rfl ?_
  refine g_iconst C S (2 : Int32) at_21 (pc' := 22) rfl rfl ?_
  refine g_iload C S at_22 (pc' := 24) rfl rfl ?_
  refine g_iastore C S (i := 2) at_24 A_a9 (by decide) (by decide) ge_a9 (pc' := 25) rfl (fun T12 h12 S W12 B12 => ?_)
  have Zn := Nat.le_trans Zn (Nat.le_of_eq W12.size.symm)
  have A_a9 := B12
  refine g_astore C S at_25 (pc' := 27) rfl rfl (L' := #[.val (.int p1), .val (.int p2), .val (.int p3), .val (.int p4), .val (.int p5), .val (.int p6), .val (.int ((p6 &&& (2147483647 : Int32)) % (3 : Int32))), .val (.ref a9), .unset, .unset, .unset, .unset]) rfl ?_
  refine g_iconst C S (3 : Int32) at_27 (pc' := 28) rfl rfl ?_
  refine g_newarray C S (N := 3) (cap := 3) at_28 (hw _ (List.mem_of_getElem? (i := 1) rfl)) (by decide) (by decide) (by decide) (by decide) (by decide) (pc' := 30) rfl (fun T13 h13 a13 S g13 E13 A_a13 => ?_)
  have ne_a9_a13 : a9 ≠ a13 := ne_new g13 A_a9.lt
  have ge_a13 : n0 ≤ a13 := ge_of g13 Zn
  have Zn := Nat.le_trans Zn E13.1
  have A_a9 := A_a9.ext E13
  have A_a13 : Ary Z h13 a13 .int 3 (fun _ => (.int (0 : Int32))) := A_a13
  refine g_dup C S at_30 (pc' := 31) rfl rfl ?_
  refine g_iconst C S (0 : Int32) at_31 (pc' := 32) rfl rfl ?_
  refine g_iloadN C S at_32 (pc' := 33) rfl rfl ?_
  refine g_iconst C S (-1 : Int32) at_33 (pc' := 34) rfl rfl ?_
  refine g_ixor C S at_34 (pc' := 35) rfl ?_
  refine g_iastore C S (i := 0) at_35 A_a13 (by decide) (by decide) ge_a13 (pc' := 36) rfl (fun T14 h14 S W14 B14 => ?_)
  have Zn := Nat.le_trans Zn (Nat.le_of_eq W14.size.symm)
  have A_a9 := A_a9.other W14 ne_a9_a13
  have A_a13 := B14
  refine g_dup C S at_36 (pc' := 37) rfl rfl ?_
  refine g_iconst C S (1 : Int32) at_37 (pc' := 38) rfl rfl ?_
  refine g_iloadN C S at_38 (pc' := 39) rfl rfl ?_
  refine g_iconst C S (-1 : Int32) at_39 (pc' := 40) rfl rfl ?_
  refine g_ixor C S at_40 (pc' := 41) rfl ?_
  refine g_iastore C S (i := 1) at_41 A_a13 (by decide) (by decide) ge_a13 (pc' := 42) rfl (fun T15 h15 S W15 B15 => ?_)
  have Zn := Nat.le_trans Zn (Nat.le_of_eq W15.size.symm)
  have A_a9 := A_a9.other W15 ne_a9_a13
  have A_a13 := B15
  refine g_dup C S at_42 (pc' := 43) rfl rfl ?_
  refine g_iconst C S (2 : Int32) at_43 (pc' := 44) rfl rfl ?_
  refine g_iload C S at_44 (pc' := 46) rfl rfl ?_
  refine g_iconst C S (-1 : Int32) at_46 (pc' := 47) rfl rfl ?_
  refine g_ixor C S at_47 (pc' := 48) rfl ?_
  refine g_iastore C S (i := 2) at_48 A_a13 (by decide) (by decide) ge_a13 (pc' := 49) rfl (fun T16 h16 S W16 B16 => ?_)
  have Zn := Nat.le_trans Zn (Nat.le_of_eq W16.size.symm)
  have A_a9 := A_a9.other W16 ne_a9_a13
  have A_a13 := B16
  refine g_astore C S at_49 (pc' := 51) rfl rfl (L' := #[.val (.int p1), .val (.int p2), .val (.int p3), .val (.int p4), .val (.int p5), .val (.int p6), .val (.int ((p6 &&& (2147483647 : Int32)) % (3 : Int32))), .val (.ref a9), .val (.ref a13), .unset, .unset, .unset]) rfl ?_
  refine g_new C S at_51 (hw _ (List.mem_of_getElem? (i := 2) rfl)) (hw _ (List.mem_of_getElem? (i := 3) rfl)) (hw _ (List.mem_of_getElem? (i := 4) rfl)) (by decide) (by decide) (pc' := 54) rfl (fun T17 h17 a17 S g17 E17 X17 D17 => ?_)
  have ne_a9_a17 : a9 ≠ a17 := ne_new g17 A_a9.lt
  have ne_a13_a17 : a13 ≠ a17 := ne_new g17 A_a13.lt
  have ge_a17 : n0 ≤ a17 := ge_of g17 Zn
  have Zn := Nat.le_trans Zn E17.1
  have A_a9 := A_a9.ext E17
  have A_a13 := A_a13.ext E17
  have F_oldFrom_a17 : Fld Z h17 a17 "com/example/nodelta/nodelta/SiblingSearch$Places" "oldFrom" "I" (.int (0 : Int32)) := D17 (Or.inr (hw _ (List.mem_of_getElem? (i := 17) rfl))) (ty := .int) (by decide)
  have F_olds_a17 : Fld Z h17 a17 "com/example/nodelta/nodelta/SiblingSearch$Places" "olds" "[I" .null := D17 (Or.inr (hw _ (List.mem_of_getElem? (i := 19) rfl))) (ty := (.array .int)) (by decide)
  have F_newFrom_a17 : Fld Z h17 a17 "com/example/nodelta/nodelta/SiblingSearch$Places" "newFrom" "I" (.int (0 : Int32)) := D17 (Or.inr (hw _ (List.mem_of_getElem? (i := 21) rfl))) (ty := .int) (by decide)
  have F_news_a17 : Fld Z h17 a17 "com/example/nodelta/nodelta/SiblingSearch$Places" "news" "[I" .null := D17 (Or.inr (hw _ (List.mem_of_getElem? (i := 23) rfl))) (ty := (.array .int)) (by decide)
  refine g_dup C S at_54 (pc' := 55) rfl rfl ?_
  refine g_iloadN C S at_55 (pc' := 56) rfl rfl ?_
  refine g_aload C S at_56 (pc' := 58) rfl rfl rfl ?_
  refine g_iloadN C S at_58 (pc' := 59) rfl rfl ?_
  refine g_aload C S at_59 (pc' := 61) rfl rfl rfl ?_
  refine g_callI C S (rm := ({ frames := 2, cells := 0, slots := 0, locals := 24 } : Room)) (W := 1) at_61 rfl (hw _ (List.mem_of_getElem? (i := 5) rfl)) (hw _ (List.mem_of_getElem? (i := 6) rfl)) (hw _ (List.mem_of_getElem? (i := 4) rfl)) (hw _ (List.mem_of_getElem? (i := 7) rfl)) (by decide) (c_ini l Z a0 hw a17 p2 a13 p1 a9 h17 n0 _ _ _ _ ge_a17 X17 F_oldFrom_a17 F_olds_a17 F_newFrom_a17 F_news_a17) (argsL := [(.int p2), (.ref a13), (.int p1), (.ref a9)]) (r := [(.ref a17)]) rfl (lenOf pd_1 rfl) rfl (Nat.le_of_eq rfl) (by decide) (by decide) (by decide) (by decide) (pc' := 64) rfl (fun T18 h18 v18 q18 S => ?_)
  obtain ⟨rfl, K18, X18, F_oldFrom_a17, F_olds_a17, F_newFrom_a17, F_news_a17⟩ := q18
  have Zn := Nat.le_trans Zn K18.1
  have A_a9 := A_a9.keep K18 (ninS ne_a9_a17 nin0)
  have A_a13 := A_a13.keep K18 (ninS ne_a13_a17 nin0)
  show Gl p e below s _ n0 _ T18 (mkF m 64 #[.val (.int p1), .val (.int p2), .val (.int p3), .val (.int p4), .val (.int p5), .val (.int p6), .val (.int ((p6 &&& (2147483647 : Int32)) % (3 : Int32))), .val (.ref a9), .val (.ref a13), .unset, .unset, .unset] [(.ref a17)])
  refine g_astore C S at_64 (pc' := 66) rfl rfl (L' := #[.val (.int p1), .val (.int p2), .val (.int p3), .val (.int p4), .val (.int p5), .val (.int p6), .val (.int ((p6 &&& (2147483647 : Int32)) % (3 : Int32))), .val (.ref a9), .val (.ref a13), .val (.ref a17), .unset, .unset]) rfl ?_
  refine g_iloadN C S at_66 (pc' := 67) rfl rfl ?_
  refine g_iload C S at_67 (pc' := 69) rfl rfl ?_
  refine g_iadd C S at_69 (pc' := 70) rfl ?_
  refine g_istore C S at_70 (pc' := 72) rfl (L' := #[.val (.int p1), .val (.int p2), .val (.int p3), .val (.int p4), .val (.int p5), .val (.int p6), .val (.int ((p6 &&& (2147483647 : Int32)) % (3 : Int32))), .val (.ref a9), .val (.ref a13), .val (.ref a17), .val (.int (p1 + ((p6 &&& (2147483647 : Int32)) % (3 : Int32)))), .unset]) rfl ?_
  refine g_iload C S at_72 (pc' := 74) rfl rfl ?_
  refine g_if_ne C S at_74 (pc' := 83) (pf := 77) (by decide) (by decide) rfl (fun hc74 => ?_) (fun hc74 => ?_)
  · refine g_iload C S at_83 (pc' := 85) rfl rfl ?_
    refine g_iconst C S (1 : Int32) at_85 (pc' := 86) rfl rfl ?_
    refine g_icmp_ne C S at_86 (pc' := 95) (pf := 89) (by decide) (by decide) rfl (fun hc86 => ?_) (fun hc86 => ?_)
    · refine g_iload C S at_95 (pc' := 97) rfl rfl ?_
      refine g_istore C S at_97 (pc' := 99) rfl (L' := #[.val (.int p1), .val (.int p2), .val (.int p3), .val (.int p4), .val (.int p5), .val (.int p6), .val (.int ((p6 &&& (2147483647 : Int32)) % (3 : Int32))), .val (.ref a9), .val (.ref a13), .val (.ref a17), .val (.int (p1 + ((p6 &&& (2147483647 : Int32)) % (3 : Int32)))), .val (.int p5)]) rfl ?_
      refine g_aload C S at_99 (pc' := 101) rfl rfl rfl ?_
      refine g_iload C S at_101 (pc' := 103) rfl rfl ?_
      refine g_callV C S (rm := ({ frames := 0, cells := 0, slots := 0, locals := 0 } : Room)) (W := 0) at_103 (hw _ (List.mem_of_getElem? (i := 24) rfl)) (hw _ (List.mem_of_getElem? (i := 25) rfl)) (notFace_of_selects (args := #[]) (mvT C.2.1 (hw _ (List.mem_of_getElem? (i := 27) rfl)))) (hw _ (List.mem_of_getElem? (i := 27) rfl)) (hw _ (List.mem_of_getElem? (i := 26) rfl)) (hw _ (List.mem_of_getElem? (i := 4) rfl)) (hw _ (List.mem_of_getElem? (i := 28) rfl)) (by decide) rfl X18 (c_ofn l Z a0 hw a17 (p1 + ((p6 &&& (2147483647 : Int32)) % (3 : Int32))) h18 n0 a9 p1 p5 2 _ F_news_a17 F_newFrom_a17 A_a9 (own_at (congrArg Int32.toInt (own_two _ (own_sel p6) hc74 hc86))) (by decide) rfl) (argsL := [(.int (p1 + ((p6 &&& (2147483647 : Int32)) % (3 : Int32))))]) (r := []) rfl (lenOf pd_2 rfl) rfl (Nat.le_of_eq rfl) (by decide) (by decide) (by decide) (by decide) (pc' := 106) rfl (fun T19 h19 v19 q19 S => ?_)
      obtain ⟨rfl, e19⟩ := q19; rw [e19] at S
      show Gl p e below s _ n0 _ T19 (mkF m 106 #[.val (.int p1), .val (.int p2), .val (.int p3), .val (.int p4), .val (.int p5), .val (.int p6), .val (.int ((p6 &&& (2147483647 : Int32)) % (3 : Int32))), .val (.ref a9), .val (.ref a13), .val (.ref a17), .val (.int (p1 + ((p6 &&& (2147483647 : Int32)) % (3 : Int32)))), .val (.int p5)] [(.int p5)])
      refine g_iload C S at_106 (pc' := 108) rfl rfl ?_
      refine g_icmp_ne C S at_108 (pc' := 115) (pf := 111) (by decide) (by decide) rfl (fun hc108 => absurd rfl hc108) (fun hc108 => ?_)
      refine g_iconst C S (1 : Int32) at_111 (pc' := 112) rfl rfl ?_
      refine g_goto C S at_112 (pc' := 116) (by decide) (by decide) ?_
      exact g_retZ C S at_116 (by decide) (by decide) (by decide) (rfl)
    · refine g_iloadN C S at_89 (pc' := 90) rfl rfl ?_
      refine g_istore C S at_90 (pc' := 92) rfl (L' := #[.val (.int p1), .val (.int p2), .val (.int p3), .val (.int p4), .val (.int p5), .val (.int p6), .val (.int ((p6 &&& (2147483647 : Int32)) % (3 : Int32))), .val (.ref a9), .val (.ref a13), .val (.ref a17), .val (.int (p1 + ((p6 &&& (2147483647 : Int32)) % (3 : Int32)))), .val (.int p4)]) rfl ?_
      refine g_goto C S at_92 (pc' := 99) (by decide) (by decide) ?_
      refine g_aload C S at_99 (pc' := 101) rfl rfl rfl ?_
      refine g_iload C S at_101 (pc' := 103) rfl rfl ?_
      refine g_callV C S (rm := ({ frames := 0, cells := 0, slots := 0, locals := 0 } : Room)) (W := 0) at_103 (hw _ (List.mem_of_getElem? (i := 24) rfl)) (hw _ (List.mem_of_getElem? (i := 25) rfl)) (notFace_of_selects (args := #[]) (mvT C.2.1 (hw _ (List.mem_of_getElem? (i := 27) rfl)))) (hw _ (List.mem_of_getElem? (i := 27) rfl)) (hw _ (List.mem_of_getElem? (i := 26) rfl)) (hw _ (List.mem_of_getElem? (i := 4) rfl)) (hw _ (List.mem_of_getElem? (i := 28) rfl)) (by decide) rfl X18 (c_ofn l Z a0 hw a17 (p1 + ((p6 &&& (2147483647 : Int32)) % (3 : Int32))) h18 n0 a9 p1 p4 1 _ F_news_a17 F_newFrom_a17 A_a9 (own_at (congrArg Int32.toInt hc86)) (by decide) rfl) (argsL := [(.int (p1 + ((p6 &&& (2147483647 : Int32)) % (3 : Int32))))]) (r := []) rfl (lenOf pd_2 rfl) rfl (Nat.le_of_eq rfl) (by decide) (by decide) (by decide) (by decide) (pc' := 106) rfl (fun T20 h20 v20 q20 S => ?_)
      obtain ⟨rfl, e20⟩ := q20; rw [e20] at S
      show Gl p e below s _ n0 _ T20 (mkF m 106 #[.val (.int p1), .val (.int p2), .val (.int p3), .val (.int p4), .val (.int p5), .val (.int p6), .val (.int ((p6 &&& (2147483647 : Int32)) % (3 : Int32))), .val (.ref a9), .val (.ref a13), .val (.ref a17), .val (.int (p1 + ((p6 &&& (2147483647 : Int32)) % (3 : Int32)))), .val (.int p4)] [(.int p4)])
      refine g_iload C S at_106 (pc' := 108) rfl rfl ?_
      refine g_icmp_ne C S at_108 (pc' := 115) (pf := 111) (by decide) (by decide) rfl (fun hc108 => absurd rfl hc108) (fun hc108 => ?_)
      refine g_iconst C S (1 : Int32) at_111 (pc' := 112) rfl rfl ?_
      refine g_goto C S at_112 (pc' := 116) (by decide) (by decide) ?_
      exact g_retZ C S at_116 (by decide) (by decide) (by decide) (rfl)
  · refine g_iloadN C S at_77 (pc' := 78) rfl rfl ?_
    refine g_istore C S at_78 (pc' := 80) rfl (L' := #[.val (.int p1), .val (.int p2), .val (.int p3), .val (.int p4), .val (.int p5), .val (.int p6), .val (.int ((p6 &&& (2147483647 : Int32)) % (3 : Int32))), .val (.ref a9), .val (.ref a13), .val (.ref a17), .val (.int (p1 + ((p6 &&& (2147483647 : Int32)) % (3 : Int32)))), .val (.int p3)]) rfl ?_
    refine g_goto C S at_80 (pc' := 99) (by decide) (by decide) ?_
    refine g_aload C S at_99 (pc' := 101) rfl rfl rfl ?_
    refine g_iload C S at_101 (pc' := 103) rfl rfl ?_
    refine g_callV C S (rm := ({ frames := 0, cells := 0, slots := 0, locals := 0 } : Room)) (W := 0) at_103 (hw _ (List.mem_of_getElem? (i := 24) rfl)) (hw _ (List.mem_of_getElem? (i := 25) rfl)) (notFace_of_selects (args := #[]) (mvT C.2.1 (hw _ (List.mem_of_getElem? (i := 27) rfl)))) (hw _ (List.mem_of_getElem? (i := 27) rfl)) (hw _ (List.mem_of_getElem? (i := 26) rfl)) (hw _ (List.mem_of_getElem? (i := 4) rfl)) (hw _ (List.mem_of_getElem? (i := 28) rfl)) (by decide) rfl X18 (c_ofn l Z a0 hw a17 (p1 + ((p6 &&& (2147483647 : Int32)) % (3 : Int32))) h18 n0 a9 p1 p3 0 _ F_news_a17 F_newFrom_a17 A_a9 (own_at (congrArg Int32.toInt hc74)) (by decide) rfl) (argsL := [(.int (p1 + ((p6 &&& (2147483647 : Int32)) % (3 : Int32))))]) (r := []) rfl (lenOf pd_2 rfl) rfl (Nat.le_of_eq rfl) (by decide) (by decide) (by decide) (by decide) (pc' := 106) rfl (fun T21 h21 v21 q21 S => ?_)
    obtain ⟨rfl, e21⟩ := q21; rw [e21] at S
    show Gl p e below s _ n0 _ T21 (mkF m 106 #[.val (.int p1), .val (.int p2), .val (.int p3), .val (.int p4), .val (.int p5), .val (.int p6), .val (.int ((p6 &&& (2147483647 : Int32)) % (3 : Int32))), .val (.ref a9), .val (.ref a13), .val (.ref a17), .val (.int (p1 + ((p6 &&& (2147483647 : Int32)) % (3 : Int32)))), .val (.int p3)] [(.int p3)])
    refine g_iload C S at_106 (pc' := 108) rfl rfl ?_
    refine g_icmp_ne C S at_108 (pc' := 115) (pf := 111) (by decide) (by decide) rfl (fun hc108 => absurd rfl hc108) (fun hc108 => ?_)
    refine g_iconst C S (1 : Int32) at_111 (pc' := 112) rfl rfl ?_
    refine g_goto C S at_112 (pc' := 116) (by decide) (by decide) ?_
    exact g_retZ C S at_116 (by decide) (by decide) (by decide) (rfl)
set_option maxRecDepth 65536 in
set_option maxHeartbeats 40000000 in
theorem comes_1 {Post : Tables → Env → Array Value → State → Outcome → State → Prop} (hpost : ∀ tb e args s v u, (limb_1_1.after args s (.returned v) u = true ∧ limb_1_2.after args s (.returned v) u = true ∧ True) → FrameEnd s (.returned v) u (Jvm.fieldLocs frame_1_writes args s ++ Jvm.arrayLocs frame_1_arrays args s ++ Jvm.staticLocs frame_1_statics s) 16 128 → Post tb e args s (.returned v) u) :
    ArmFor flags0 classFile x code maxLocals ret World_1 tables_1 room_1 Calls_1 rest_1 Pre_1 Post := by
  intro l hfl _ _ p e ha hc hk s m args below hf hA hF happ hP
  obtain ⟨hcalls, hrest, hpre⟩ := hP
  obtain ⟨-, -, -, hnamed, -, -, -, hat⟩ := (Spec.applies_iff hf).mp happ
  obtain ⟨hg, hn⟩ := and_e (Cond.before_iff.mp (show (Jvm.Cond.and given_1 narrow_1).before args s = true from hpre))
  obtain ⟨hcount, hg0⟩ := and_e hg
  obtain ⟨ha0, hg1⟩ := and_e hg0
  obtain ⟨ha1, hg2⟩ := and_e hg1
  obtain ⟨ha2, hg3⟩ := and_e hg2
  obtain ⟨ha3, hg4⟩ := and_e hg3
  obtain ⟨ha4, hg5⟩ := and_e hg4
  have ha5 := hg5
  obtain ⟨w0, w1, w2, w3, w4, w5, rfl⟩ : ∃ w0 w1 w2 w3 w4 w5 : Value, args = #[w0, w1, w2, w3, w4, w5] := by
    have hs : args.size = 6 := by simpa [Cond.value, given_1] using hcount
    obtain ⟨L⟩ := args
    match L, hs with
    | [w0, w1, w2, w3, w4, w5], _ => exact ⟨w0, w1, w2, w3, w4, w5, rfl⟩
  have hw := fun d (hd : d ∈ tables_1) => atoms_spec (ws := Jvm.Cond.code x code maxLocals ret :: tables_1) hat d (List.mem_cons_of_mem _ hd)
  obtain ⟨i0, ei0⟩ := is_v ha0
  obtain rfl : w0 = (.int i0) := Option.some.inj ei0
  obtain ⟨i1, ei1⟩ := is_v ha1
  obtain rfl : w1 = (.int i1) := Option.some.inj ei1
  obtain ⟨i2, ei2⟩ := is_v ha2
  obtain rfl : w2 = (.int i2) := Option.some.inj ei2
  obtain ⟨i3, ei3⟩ := is_v ha3
  obtain rfl : w3 = (.int i3) := Option.some.inj ei3
  obtain ⟨i4, ei4⟩ := is_v ha4
  obtain rfl : w4 = (.int i4) := Option.some.inj ei4
  obtain ⟨i5, ei5⟩ := is_v ha5
  obtain rfl : w5 = (.int i5) := Option.some.inj ei5
  obtain ⟨n, o, h1, h2, h3, _, L, rfl, ⟨rfl, N⟩, hq⟩ := c_law l s _ hw i0 i1 i2 i3 i4 i5 s.heap s.heap.size (Nat.le_refl _) tables_1 p e ha hc hk s m _ below hf ((Spec.applies_iff_loose hf).mp happ).1 ⟨rfl, State.Warmed39.refl s, rfl⟩ trivial
  refine ⟨n, _, h1, h2, h3, hpost _ _ _ _ _ _ ⟨Cond.after_iff.mpr rfl, Cond.after_iff.mpr (eq_i res_at (Term.int_eval (1)) rfl), trivial⟩ ⟨hq.1, hq.2.1, (hq.2.2.sift fun y hy => Or.inr (N y hy)).mono (by decide) (by decide)⟩⟩
theorem main_1_1 : Claimed_1_1 := comes_1 fun _ _ _ _ _ _ h hF => ⟨h.1, hF⟩
theorem main_1_2 : Claimed_1_2 := comes_1 fun _ _ _ _ _ _ h hF => ⟨h.2.1, hF⟩
end Jvm.Pilot.@@N@@
namespace Jvm.Pilot.@@N@@
open Jvm Jvm.ClassFile Sem Op Lib Jvm.Free Jvm.Stand Jvm.Pilot.@@N@@.Jvm.D
/-! MADE BY PROGRAM (witnessworld.py) out of the Statement's table words and the real class files: 10 classes; the members and pool entries that the words name. The judged class is class 1, her method 1. -/
namespace start1
open Jvm.ClassFile
def u (s : String) : CpInfo := .utf8 (stringToUtf16 s)
/-- a pool by its gaps: so many unusable entries, then the entry; so many at the end -/
def gap : Nat → List CpInfo → List CpInfo
  | 0, r => r
  | n + 1, r => .unusable :: gap n r
def poolList (es : List (Nat × CpInfo)) (last : Nat) : List CpInfo := es.foldr (fun e r => gap e.1 (e.2 :: r)) (gap last [])
def pool (es : List (Nat × CpInfo)) (last : Nat) : Array CpInfo := ⟨poolList es last⟩
def fileOf (pool : Array CpInfo) (this : Nat) (attrs : Array Attribute := #[]) (ms : Array MethodInfo := #[]) (fl : Nat := 33) (sup : Nat := 0) (ifs : Array Nat := #[]) (fds : Array FieldInfo := #[]) : ClassFile where
  minorVersion := 0
  majorVersion := 65
  constantPool := pool
  accessFlags := fl
  thisClass := this
  superClass := sup
  interfaces := ifs
  fields := fds
  methods := ms
  attributes := attrs
def plain (name : String) (sup : Option ClassId) : Class where
  name := name
  kind := .ordinary
  loader := none
  accessFlags := 33
  super := sup
  interfaces := #[]
  cf := none
  fields := #[]
  methods := #[]
  instanceTypes := #[]
  staticTypes := #[]
  resolved := #[]
  callSites := []
  init := .initialized
  statics := none
  mirror := none

def pool0 : Array CpInfo := pool [(5, u "<init>"), (0, u "()V"), (1, .class_ 10), (1, u "java/lang/Object")] 113

def k0c0 : Code := { maxStack := 0, maxLocals := 1, code := object_method_1_code, exceptionTable := #[], attributes := #[] }
def k0m0 : Method := { name := "<init>", desc := "()V", sig := { parameters := [], returnType := none }, accessFlags := 1, code := some k0c0 }
/-- java/lang/Object -/
def k0 : Class := { plain "java/lang/Object" none with
  accessFlags := 33
  interfaces := #[]
  cf := some (fileOf pool0 8 #[] #[{ accessFlags := 1, nameIndex := 5, descriptorIndex := 6, attributes := #[] }] 33 0 #[] #[])
  fields := #[]
  methods := #[k0m0]
  instanceTypes := #[]
  staticTypes := #[]
  resolved := Array.replicate 124 none
  statics := none }

def pool1 : Array CpInfo := pool [(2, .class_ 4), (1, u "java/lang/Object"), (0, u "<init>"), (0, u "()V"), (0, .integer 2147483647), (0, .class_ 9), (0, u "com/example/nodelta/nodelta/SiblingSearch$Places"), (0, .methodref 8 11), (0, .nameAndType 5 12), (0, u "(I[II[I)V"), (0, .methodref 8 14), (0, .nameAndType 15 16), (0, u "ofNew"), (0, u "(I)I"), (0, .class_ 18), (0, u "com/example/nodelta/nodelta/PlacesOfNewPinLaw"), (2, u "law"), (0, u "(IIIIII)Z")] 9

def k1m0 : Method := { name := "<init>", desc := "()V", sig := { parameters := [], returnType := none }, accessFlags := 1, code := none }
def k1c1 : Code := { maxStack := 6, maxLocals := 12, code := code, exceptionTable := #[], attributes := #[] }
def k1m1 : Method := { name := "law", desc := "(IIIIII)Z", sig := { parameters := [.int, .int, .int, .int, .int, .int], returnType := some .boolean }, accessFlags := 9, code := some k1c1 }
/-- com/example/nodelta/nodelta/PlacesOfNewPinLaw -/
def k1 : Class := { plain "com/example/nodelta/nodelta/PlacesOfNewPinLaw" (some 0) with
  accessFlags := 49
  interfaces := #[]
  cf := some (fileOf pool1 17 #[] #[{ accessFlags := 1, nameIndex := 5, descriptorIndex := 6, attributes := #[] }, { accessFlags := 9, nameIndex := 21, descriptorIndex := 22, attributes := #[] }] 49 2 #[] #[])
  fields := #[]
  methods := #[k1m0, k1m1]
  instanceTypes := #[]
  staticTypes := #[]
  resolved := Array.replicate 32 none
  statics := none }

def pool2 : Array CpInfo := pool [(1, .methodref 2 3), (0, .class_ 4), (0, .nameAndType 5 6), (0, u "java/lang/Object"), (0, u "<init>"), (0, u "()V"), (0, .class_ 8), (0, u "java/lang/Record")] 13

def k2c0 : Code := { maxStack := 1, maxLocals := 1, code := jdk_30_method_1_code, exceptionTable := #[], attributes := #[] }
def k2m0 : Method := { name := "<init>", desc := "()V", sig := { parameters := [], returnType := none }, accessFlags := 4, code := some k2c0 }
/-- java/lang/Record -/
def k2 : Class := { plain "java/lang/Record" (some 0) with
  accessFlags := 1057
  interfaces := #[]
  cf := some (fileOf pool2 7 #[] #[{ accessFlags := 4, nameIndex := 5, descriptorIndex := 6, attributes := #[] }] 1057 2 #[] #[])
  fields := #[]
  methods := #[k2m0]
  instanceTypes := #[]
  staticTypes := #[]
  resolved := Array.replicate 22 none
  statics := none }

def pool3 : Array CpInfo := pool [(1, .methodref 2 3), (0, .class_ 4), (0, .nameAndType 5 6), (0, u "java/lang/Record"), (0, u "<init>"), (0, u "()V"), (0, .fieldref 8 9), (0, .class_ 10), (0, .nameAndType 11 12), (0, u "com/example/nodelta/nodelta/SiblingSearch$Places"), (0, u "oldFrom"), (0, u "I"), (0, .fieldref 8 14), (0, .nameAndType 15 16), (0, u "olds"), (0, u "[I"), (0, .fieldref 8 18), (0, .nameAndType 19 12), (0, u "newFrom"), (0, .fieldref 8 21), (0, .nameAndType 22 16), (0, u "news"), (12, u "(I[II[I)V"), (4, u "(I)I"), (0, u "ofNew"), (7, .class_ 50), (0, u "com/example/nodelta/nodelta/SiblingSearch")] 22

def k3c0 : Code := { maxStack := 2, maxLocals := 5, code := prog_55_method_1_code, exceptionTable := #[], attributes := #[] }
def k3m0 : Method := { name := "<init>", desc := "(I[II[I)V", sig := { parameters := [.int, (.array .int), .int, (.array .int)], returnType := none }, accessFlags := 0, code := some k3c0 }
def k3c1 : Code := { maxStack := 3, maxLocals := 2, code := prog_55_method_3_code, exceptionTable := #[], attributes := #[] }
def k3m1 : Method := { name := "ofNew", desc := "(I)I", sig := { parameters := [.int], returnType := some .int }, accessFlags := 0, code := some k3c1 }
/-- com/example/nodelta/nodelta/SiblingSearch$Places -/
def k3 : Class := { plain "com/example/nodelta/nodelta/SiblingSearch$Places" (some 2) with
  accessFlags := 48
  interfaces := #[]
  cf := some (fileOf pool3 8 #[.nestHost 49] #[{ accessFlags := 0, nameIndex := 5, descriptorIndex := 35, attributes := #[] }, { accessFlags := 0, nameIndex := 41, descriptorIndex := 40, attributes := #[] }] 48 2 #[] #[{ accessFlags := 18, nameIndex := 11, descriptorIndex := 12, attributes := #[] }, { accessFlags := 18, nameIndex := 15, descriptorIndex := 16, attributes := #[] }, { accessFlags := 18, nameIndex := 19, descriptorIndex := 12, attributes := #[] }, { accessFlags := 18, nameIndex := 22, descriptorIndex := 16, attributes := #[] }])
  fields := #[{ name := "oldFrom", type := .int, accessFlags := 18, slot := 0, constantValue := 0 }, { name := "olds", type := (.array .int), accessFlags := 18, slot := 1, constantValue := 0 }, { name := "newFrom", type := .int, accessFlags := 18, slot := 2, constantValue := 0 }, { name := "news", type := (.array .int), accessFlags := 18, slot := 3, constantValue := 0 }]
  methods := #[k3m0, k3m1]
  instanceTypes := #[.int, (.array .int), .int, (.array .int)]
  staticTypes := #[]
  resolved := Array.replicate 73 none
  statics := none }

def pool4 : Array CpInfo := pool [(1, u "java/lang/Cloneable"), (0, .class_ 1), (0, u "java/lang/Object"), (0, .class_ 3)] 3

/-- java/lang/Cloneable -/
def k4 : Class := { plain "java/lang/Cloneable" (some 0) with
  accessFlags := 1537
  interfaces := #[]
  cf := some (fileOf pool4 2 #[] #[] 1537 4 #[] #[])
  fields := #[]
  methods := #[]
  instanceTypes := #[]
  staticTypes := #[]
  resolved := Array.replicate 8 none
  statics := none }

def pool5 : Array CpInfo := pool [(1, u "java/io/Serializable"), (0, .class_ 1), (0, u "java/lang/Object"), (0, .class_ 3)] 3

/-- java/io/Serializable -/
def k5 : Class := { plain "java/io/Serializable" (some 0) with
  accessFlags := 1537
  interfaces := #[]
  cf := some (fileOf pool5 2 #[] #[] 1537 4 #[] #[])
  fields := #[]
  methods := #[]
  instanceTypes := #[]
  staticTypes := #[]
  resolved := Array.replicate 8 none
  statics := none }

/-- the primitive byte -/
def k6 : Class := { plain "byte" none with kind := .primitive 'B', accessFlags := 0x411 }
/-- [B -/
def k7 : Class := { plain "[B" (some 0) with kind := .array 6 .byte, interfaces := #[4, 5], accessFlags := 1041 }

/-- the primitive int -/
def k8 : Class := { plain "int" none with kind := .primitive 'I', accessFlags := 0x411 }
/-- [I -/
def k9 : Class := { plain "[I" (some 0) with kind := .array 8 .int, interfaces := #[4, 5], accessFlags := 1041 }

def heap : Heap := #[]
def classes : Array Class := #[k0, k1, k2, k3, k4, k5, k6, k7, k8, k9]
def interned : List (Array UInt16 × Addr) := []
def slotsUsed : Nat := 0
def theMethod : MethodId := ⟨1, 1⟩
def args0 : Array Value := #[.int 5, .int 300, .int 7, .int 1, .int 2, .int 3]
def aboutOver (below : List Frame) : State where
  vm := { classes := classes, interned := interned.toArray }
  heap := heap
  slotsUsed := slotsUsed
  threads := #[{ frames := .invoking theMethod args0 :: below }]
def below0 : List Frame := [.native { method := ⟨0, 0⟩, args := #[] }]
def about1 : State := aboutOver below0
def p0 : Program := .bare "" "" ""
def e0 : Env := launch0.env 0 0 0
theorem w_frames : about1.frames = Frame.invoking theMethod args0 :: below0 := rfl
set_option maxRecDepth 65536 in
theorem w_args : argsFit about1.vm theMethod args0 = true := by decide +kernel
set_option maxRecDepth 65536 in
theorem w_heap : heapFits about1 = true := by decide +kernel
set_option maxRecDepth 65536 in
theorem w_runnable : about1.curStatus? = some .runnable := by decide +kernel
set_option maxRecDepth 65536 in
theorem w_alone : about1.alone = true := by decide +kernel
set_option maxRecDepth 65536 in
theorem w_named : about1.methodNamed? x = some theMethod := by decide +kernel
set_option maxRecDepth 65536 in
theorem w_hears : about1.hears theMethod below0 = true := by decide +kernel
set_option maxRecDepth 65536 in
theorem w_ripe : about1.ripe theMethod args0 below0 = true := by decide +kernel
theorem w_running : about1.status = .running := rfl
set_option maxRecDepth 65536 in
theorem w_room : about1.hasRoom e0.platform room_1 = true :=
  launch0.hasRoom_least _ room_1 (by decide +kernel) (by decide +kernel) (by decide +kernel) (by decide +kernel) (by decide +kernel) (by decide +kernel)
theorem allAtoms_all (ts : List Jvm.Cond) (a : Array Jvm.Value) (st : Jvm.State) : (allAtoms ts).before a st = ts.all (fun c => c.before a st) := by
  induction ts with
  | nil => rfl
  | cons c t ih =>
    show (Jvm.Cond.and c (allAtoms t)).before a st = _
    rw [Jvm.Cond.before_and, ih, List.all_cons]
def words1 : List Jvm.Cond := Jvm.Cond.code x code maxLocals ret :: tables_1
/-- a 'code' word, met by the world's own term for the bytes: nothing is compared byte by byte -/
theorem code_word {y : MethodName} {bytes : ByteArray} {mx : Nat} {rt : Option FieldType} {a : Array Value} {s : State} {m : MethodId} {meth : Method} {c : Code} (h1 : s.methodNamed? y = some m) (h2 : s.vm.method? m = some meth) (h3 : meth.code = some c) (h4 : c.code = bytes)
    (h5 : (c.maxLocals == mx && c.exceptionTable.isEmpty && decide (c.maxStack ≤ mostOperands) && decide (meth.sig.returnType = rt) && !meth.locks && decide (parseMethodDescriptor y.desc = some meth.sig)) = true) : (Jvm.Cond.code y bytes mx rt).before a s = true := by
  simp only [Bool.and_eq_true, beq_iff_eq, Bool.not_eq_true', decide_eq_true_eq] at h5
  obtain ⟨⟨⟨⟨⟨g1, g2⟩, g3⟩, g4⟩, g5⟩, g6⟩ := h5
  simp [Cond.before, Cond.holds, Cond.value, h1, h2, h3, h4, g1, g2, g3, g4, g5, g6]
def isCode : Jvm.Cond → Bool
  | .code _ _ _ _ => true
  | _ => false
theorem all_split {L : List Jvm.Cond} {P : Jvm.Cond → Bool} (h1 : L.all (fun c => isCode c || P c) = true) (h2 : ∀ c ∈ L.filter isCode, P c = true) : L.all P = true := by
  refine List.all_eq_true.mpr fun c hc => ?_
  have h := List.all_eq_true.mp h1 c hc
  rcases Bool.eq_false_or_eq_true (isCode c) with hi | hi
  · exact h2 c (List.mem_filter.mpr ⟨hc, hi⟩)
  · simpa [hi] using h
set_option maxRecDepth 65536 in
theorem w_c0 : (Jvm.Cond.code x code maxLocals ret).before args0 about1 = true := code_word (m := ⟨1, 1⟩) (meth := k1m1) (c := k1c1) (by decide +kernel) rfl rfl rfl (by decide +kernel)
set_option maxRecDepth 65536 in
theorem w_c1 : (Jvm.Cond.code ({ cls := "com/example/nodelta/nodelta/SiblingSearch$Places", name := "<init>", desc := "(I[II[I)V" } : Jvm.MethodName) prog_55_method_1_code (5 : Nat) (Option.none : Option Jvm.ClassFile.FieldType)).before args0 about1 = true := code_word (m := ⟨3, 0⟩) (meth := k3m0) (c := k3c0) (by decide +kernel) rfl rfl rfl (by decide +kernel)
set_option maxRecDepth 65536 in
theorem w_c2 : (Jvm.Cond.code ({ cls := "java/lang/Record", name := "<init>", desc := "()V" } : Jvm.MethodName) jdk_30_method_1_code (1 : Nat) (Option.none : Option Jvm.ClassFile.FieldType)).before args0 about1 = true := code_word (m := ⟨2, 0⟩) (meth := k2m0) (c := k2c0) (by decide +kernel) rfl rfl rfl (by decide +kernel)
set_option maxRecDepth 65536 in
theorem w_c3 : (Jvm.Cond.code ({ cls := "java/lang/Object", name := "<init>", desc := "()V" } : Jvm.MethodName) object_method_1_code (1 : Nat) (Option.none : Option Jvm.ClassFile.FieldType)).before args0 about1 = true := code_word (m := ⟨0, 0⟩) (meth := k0m0) (c := k0c0) (by decide +kernel) rfl rfl rfl (by decide +kernel)
set_option maxRecDepth 65536 in
theorem w_c4 : (Jvm.Cond.code ({ cls := "com/example/nodelta/nodelta/SiblingSearch$Places", name := "ofNew", desc := "(I)I" } : Jvm.MethodName) prog_55_method_3_code (2 : Nat) (Option.some Jvm.ClassFile.FieldType.int)).before args0 about1 = true := code_word (m := ⟨3, 1⟩) (meth := k3m1) (c := k3c1) (by decide +kernel) rfl rfl rfl (by decide +kernel)
def codes1 : List Jvm.Cond := [Jvm.Cond.code x code maxLocals ret, Jvm.Cond.code ({ cls := "com/example/nodelta/nodelta/SiblingSearch$Places", name := "<init>", desc := "(I[II[I)V" } : Jvm.MethodName) prog_55_method_1_code (5 : Nat) (Option.none : Option Jvm.ClassFile.FieldType), Jvm.Cond.code ({ cls := "java/lang/Record", name := "<init>", desc := "()V" } : Jvm.MethodName) jdk_30_method_1_code (1 : Nat) (Option.none : Option Jvm.ClassFile.FieldType), Jvm.Cond.code ({ cls := "java/lang/Object", name := "<init>", desc := "()V" } : Jvm.MethodName) object_method_1_code (1 : Nat) (Option.none : Option Jvm.ClassFile.FieldType), Jvm.Cond.code ({ cls := "com/example/nodelta/nodelta/SiblingSearch$Places", name := "ofNew", desc := "(I)I" } : Jvm.MethodName) prog_55_method_3_code (2 : Nat) (Option.some Jvm.ClassFile.FieldType.int)]
set_option maxRecDepth 65536 in
theorem codes_eq : words1.filter isCode = codes1 := rfl
theorem w_codes : ∀ c ∈ words1.filter isCode, c.before args0 about1 = true := by
  rw [codes_eq]
  intro c hc
  simp only [codes1, List.mem_cons, List.not_mem_nil, or_false] at hc
  rcases hc with rfl | rfl | rfl | rfl | rfl
  · exact w_c0
  · exact w_c1
  · exact w_c2
  · exact w_c3
  · exact w_c4
set_option maxRecDepth 65536 in
theorem w_t1 : (words1.take 24).all (fun c => isCode c || c.before args0 about1) = true := by decide +kernel
set_option maxRecDepth 65536 in
theorem w_t2 : (words1.drop 24).all (fun c => isCode c || c.before args0 about1) = true := by decide +kernel
theorem w_tables : (allAtoms (Jvm.Cond.code x code maxLocals ret :: tables_1)).before args0 about1 = true := by
  rw [allAtoms_all]
  show words1.all (fun c => c.before args0 about1) = true
  refine all_split ?_ w_codes
  rw [← List.take_append_drop 24 words1, List.all_append, w_t1, w_t2]
  rfl
set_option maxRecDepth 65536 in
theorem w_case : (Jvm.Cond.and given_1 narrow_1).before args0 about1 = true := by decide +kernel
theorem w_applies : (headSpec (Jvm.Cond.code x code maxLocals ret :: tables_1) room_1).applies x e0.platform about1 = true :=
  (Spec.applies_iff w_frames).mpr ⟨w_running, w_runnable, w_alone, w_named, w_hears, w_ripe, w_room, w_tables⟩
theorem atStart : AtStart classFile x code maxLocals ret World_1 tables_1 room_1 Calls_1 rest_1 Pre_1 launch0 p0 e0 about1 theMethod args0 below0 :=
  ⟨lists_1, trivial, launch0.admits_env _ _ _, launch0.least_env, fairChoices_fair.cas, fairChoices_fair.clock, w_frames, w_args, w_heap, w_applies, trivial, trivial, w_case⟩
end start1
theorem witness_1 : WitnessClaimed_1 := ⟨start1.p0, start1.e0, start1.about1, start1.theMethod, start1.args0, start1.below0, start1.atStart⟩
end Jvm.Pilot.@@N@@
