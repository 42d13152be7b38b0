import JvmDerived
import JvmDerived.Pilot.@@N@@Statement
import JvmDerived.Pilot.@@N@@Code
set_option linter.unusedVariables false
set_option linter.unusedSimpArgs false
@@BLOCK:NumsL.lean.txt@@
namespace Jvm.Pilot.@@N@@
open Jvm Jvm.ClassFile Sem Op Lib Jvm.Free Jvm.Stand Jvm.LawKit Jvm.RoadKit Bundle Jvm.Pilot.@@N@@.Jvm.D
/-! ## The walk layer: where a walk stands (On), what is fixed in it (Cx), the goal (Gl), a method's contract (Con) -/
def On (p : Program) (l : Launch) (e : Env) (R : Room) (s : State) (m : MethodId) (args : Array Value) (below : List Frame) (meth : Method) (c : Code) (n0 : Nat) (T : State) (h : Heap) (k n : Nat) : Prop :=
  ∃ locs, Stand p l e R s m args below meth c T locs k n ∧ Fr n0 locs ∧ T.heap = h
def Cx (p : Program) (s : State) (m : MethodId) (meth : Method) (c : Code) (Z : State) (own name : String) (cod : ByteArray) (maxL : Nat) (ret : Option FieldType) : Prop :=
  p.tables.exec = Jvm.exec ∧ Z.Warmed39 s.vm ∧ c.code = cod ∧ c.maxLocals = maxL ∧ s.vm.findClass own = some m.cls ∧ meth.name = name ∧ meth.sig.returnType = ret ∧ meth.locks = false
def Gl (p : Program) (e : Env) (below : List Frame) (s : State) (R : Room) (n0 : Nat) (Q : Option Value → Heap → Prop) (T : State) (g : JFrame) : Prop :=
  ∃ s₂ o, Steps p.tables e below (T.setTop g) s₂ ∧ s₂.status = .running ∧ Ended s₂ below o ∧ ∃ v L, o = .returned v ∧ (Q v s₂.heap ∧ Fr n0 L) ∧ FrameEnd s o s₂ L R.cells R.slots
def Con (l : Launch) (Z : State) (y : MethodName) (cod : ByteArray) (maxL : Nat) (ret : Option FieldType) (rm : Room) (as : Array Value) (h0 : Heap) (n0 : Nat) (Q : Option Value → Heap → Prop) : Prop :=
  ∀ ws, MetFree l y (head1 (Jvm.Cond.code y cod maxL ret :: ws) rm) (fun a U => a = as ∧ Z.Warmed39 U.vm ∧ U.heap = h0) (fun _ _ _ _ _ => True) (fun _ U o U' => ∃ v L, o = .returned v ∧ (Q v U'.heap ∧ Fr n0 L) ∧ FrameEnd U o U' L rm.cells rm.slots)
section OwnKit
variable {p : Program} {l : Launch} {e : Env} {R : Room} {s : State} {m : MethodId} {args : Array Value} {below : List Frame} {meth : Method} {c : Code} {Z : State} {a0 : Array Value} {n0 : Nat} {T : State} {h h' h0 : Heap} {k n : Nat} {own name : String} {cod : ByteArray} {maxL : Nat} {ret : Option FieldType} {Q : Option Value → Heap → Prop} {pc pc' pf : Nat} {L L' : Array Slot} {r : List Value} {a b : Addr}
theorem Gl.st {T' : State} {g g' : JFrame} (kk : Gl p e below s R n0 Q T' g') (hs : ∀ t, Steps p.tables e below (T'.setTop g') t → Steps p.tables e below (T.setTop g) t) : Gl p e below s R n0 Q T g := by
  obtain ⟨s2, o, h1, q⟩ := kk; exact ⟨s2, o, hs _ h1, q⟩
theorem Con.of {y : MethodName} {rm : Room} {as : Array Value} (hpl : plainFor y = true) {L0 : Array Slot} (hef : ∀ m, entryFrame m as maxL = mkF m 0 L0 [])
    (body : ∀ (p : Program) (e : Env) (s : State) (m : MethodId) (below : List Frame) (meth : Method) (c : Code) (T : State), Cx p s m meth c Z y.cls y.name cod maxL ret → On p l e rm s m as below meth c n0 T h0 0 0 → Gl p e below s rm n0 Q T (mkF m 0 L0 [])) :
    Con l Z y cod maxL ret rm as h0 n0 Q := by
  intro ws
  refine MetFree.of_bodySF hpl hisR ?_
  intro p e s m args below meth c s₁ Bd hml0 hP hK
  obtain ⟨rfl, hZ, hh⟩ := hP
  have e0 : s₁.heap = h0 := by rw [← hh, Bd.state]; rfl
  have q := body p e s m below meth c s₁ ⟨Bd.exec, hZ, Bd.bytes, hml0, findClass_of_methodNamed Bd.named, (name_of_methodNamed Bd.named Bd.method).1, Bd.returns, Bd.notSynchronized⟩ ⟨[], Stand.of_body Bd, Fr.nil n0, e0⟩
  rw [← hef m] at q
  exact q
theorem Con.imp {y : MethodName} {rm : Room} {as : Array Value} {Q' : Option Value → Heap → Prop} (K : Con l Z y cod maxL ret rm as h0 n0 Q) (hq : ∀ v h, Q v h → Q' v h) : Con l Z y cod maxL ret rm as h0 n0 Q' := by
  intro ws p e ha hc hk s m args below hf happ hP hK
  obtain ⟨n, o, h1, h2, h3, v, L, h4, ⟨h5, h6⟩, h7⟩ := K ws p e ha hc hk s m args below hf happ hP hK
  exact ⟨n, o, h1, h2, h3, v, L, h4, ⟨hq _ _ h5, h6⟩, h7⟩
theorem g_iload (C : Cx p s m meth c Z own name cod maxL ret) (S : On p l e R s m args below meth c n0 T h k n) {i : Nat} {v : Int32} (hd : decode cod pc = .ok (.iload i, 2)) (hp : pc + 2 = pc') (hl : L[i]? = some (.val (.int v))) (kk : Gl p e below s R n0 Q T (mkF m pc' L (.int v :: r))) : Gl p e below s R n0 Q T (mkF m pc L r) := by
  obtain ⟨locs, X, -⟩ := S; subst hp
  exact kk.st fun _ q => XS.iload X.here C.1 rfl (hb C.2.2.1 hd) hl q
theorem g_iloadN (C : Cx p s m meth c Z own name cod maxL ret) (S : On p l e R s m args below meth c n0 T h k n) {i : Fin 4} {v : Int32} (hd : decode cod pc = .ok (.iload_n i, 1)) (hp : pc + 1 = pc') (hl : L[i.val]? = some (.val (.int v))) (kk : Gl p e below s R n0 Q T (mkF m pc' L (.int v :: r))) : Gl p e below s R n0 Q T (mkF m pc L r) := by
  obtain ⟨locs, X, -⟩ := S; subst hp
  exact kk.st fun _ q => XS.iloadN X.here C.1 rfl (hb C.2.2.1 hd) hl q
theorem g_istore (C : Cx p s m meth c Z own name cod maxL ret) (S : On p l e R s m args below meth c n0 T h k n) {i : Nat} {v : Int32} (hd : decode cod pc = .ok (.istore i, 2)) (hp : pc + 2 = pc') (hl : storeLocals L i (.int v) = some L') (kk : Gl p e below s R n0 Q T (mkF m pc' L' r)) : Gl p e below s R n0 Q T (mkF m pc L (.int v :: r)) := by
  obtain ⟨locs, X, -⟩ := S; subst hp
  exact kk.st fun _ q => XS.istore X.here C.1 rfl (hb C.2.2.1 hd) rfl hl q
theorem g_istoreN (C : Cx p s m meth c Z own name cod maxL ret) (S : On p l e R s m args below meth c n0 T h k n) {i : Fin 4} {v : Int32} (hd : decode cod pc = .ok (.istore_n i, 1)) (hp : pc + 1 = pc') (hl : storeLocals L i.val (.int v) = some L') (kk : Gl p e below s R n0 Q T (mkF m pc' L' r)) : Gl p e below s R n0 Q T (mkF m pc L (.int v :: r)) := by
  obtain ⟨locs, X, -⟩ := S; subst hp
  exact kk.st fun _ q => XS.istoreN X.here C.1 rfl (hb C.2.2.1 hd) rfl hl q
theorem g_lload (C : Cx p s m meth c Z own name cod maxL ret) (S : On p l e R s m args below meth c n0 T h k n) {i : Nat} {v : Int64} (hd : decode cod pc = .ok (.lload i, 2)) (hp : pc + 2 = pc') (hl : L[i]? = some (.val (.long v))) (kk : Gl p e below s R n0 Q T (mkF m pc' L (.long v :: r))) : Gl p e below s R n0 Q T (mkF m pc L r) := by
  obtain ⟨locs, X, -⟩ := S; subst hp
  exact kk.st fun _ q => XS.lload X.here C.1 rfl (hb C.2.2.1 hd) hl q
theorem g_lloadN (C : Cx p s m meth c Z own name cod maxL ret) (S : On p l e R s m args below meth c n0 T h k n) {i : Fin 4} {v : Int64} (hd : decode cod pc = .ok (.lload_n i, 1)) (hp : pc + 1 = pc') (hl : L[i.val]? = some (.val (.long v))) (kk : Gl p e below s R n0 Q T (mkF m pc' L (.long v :: r))) : Gl p e below s R n0 Q T (mkF m pc L r) := by
  obtain ⟨locs, X, -⟩ := S; subst hp
  exact kk.st fun _ q => XS.lloadN X.here C.1 rfl (hb C.2.2.1 hd) hl q
theorem g_lstore (C : Cx p s m meth c Z own name cod maxL ret) (S : On p l e R s m args below meth c n0 T h k n) {i : Nat} {v : Int64} (hd : decode cod pc = .ok (.lstore i, 2)) (hp : pc + 2 = pc') (hl : storeLocals L i (.long v) = some L') (kk : Gl p e below s R n0 Q T (mkF m pc' L' r)) : Gl p e below s R n0 Q T (mkF m pc L (.long v :: r)) := by
  obtain ⟨locs, X, -⟩ := S; subst hp
  exact kk.st fun _ q => XS.lstore X.here C.1 rfl (hb C.2.2.1 hd) rfl hl q
theorem g_lstoreN (C : Cx p s m meth c Z own name cod maxL ret) (S : On p l e R s m args below meth c n0 T h k n) {i : Fin 4} {v : Int64} (hd : decode cod pc = .ok (.lstore_n i, 1)) (hp : pc + 1 = pc') (hl : storeLocals L i.val (.long v) = some L') (kk : Gl p e below s R n0 Q T (mkF m pc' L' r)) : Gl p e below s R n0 Q T (mkF m pc L (.long v :: r)) := by
  obtain ⟨locs, X, -⟩ := S; subst hp
  exact kk.st fun _ q => XS.lstoreN X.here C.1 rfl (hb C.2.2.1 hd) rfl hl q
theorem g_aload (C : Cx p s m meth c Z own name cod maxL ret) (S : On p l e R s m args below meth c n0 T h k n) {i : Nat} {v : Value} (hd : decode cod pc = .ok (.aload i, 2)) (hp : pc + 2 = pc') (hl : L[i]? = some (.val v)) (hv : v.isRef = true) (kk : Gl p e below s R n0 Q T (mkF m pc' L (v :: r))) : Gl p e below s R n0 Q T (mkF m pc L r) := by
  obtain ⟨locs, X, -⟩ := S; subst hp
  exact kk.st fun _ q => XS.aload X.here C.1 rfl (hb C.2.2.1 hd) hl hv q
theorem g_aloadN (C : Cx p s m meth c Z own name cod maxL ret) (S : On p l e R s m args below meth c n0 T h k n) {i : Fin 4} {v : Value} (hd : decode cod pc = .ok (.aload_n i, 1)) (hp : pc + 1 = pc') (hl : L[i.val]? = some (.val v)) (hv : v.isRef = true) (kk : Gl p e below s R n0 Q T (mkF m pc' L (v :: r))) : Gl p e below s R n0 Q T (mkF m pc L r) := by
  obtain ⟨locs, X, -⟩ := S; subst hp
  exact kk.st fun _ q => XS.aloadN X.here C.1 rfl (hb C.2.2.1 hd) hl hv q
theorem g_astore (C : Cx p s m meth c Z own name cod maxL ret) (S : On p l e R s m args below meth c n0 T h k n) {i : Nat} {v : Value} (hd : decode cod pc = .ok (.astore i, 2)) (hp : pc + 2 = pc') (hv : v.isRef = true) (hl : storeLocals L i v = some L') (kk : Gl p e below s R n0 Q T (mkF m pc' L' r)) : Gl p e below s R n0 Q T (mkF m pc L (v :: r)) := by
  obtain ⟨locs, X, -⟩ := S; subst hp
  exact kk.st fun _ q => XS.astore X.here C.1 rfl (hb C.2.2.1 hd) rfl hv hl q
theorem g_astoreN (C : Cx p s m meth c Z own name cod maxL ret) (S : On p l e R s m args below meth c n0 T h k n) {i : Fin 4} {v : Value} (hd : decode cod pc = .ok (.astore_n i, 1)) (hp : pc + 1 = pc') (hv : v.isRef = true) (hl : storeLocals L i.val v = some L') (kk : Gl p e below s R n0 Q T (mkF m pc' L' r)) : Gl p e below s R n0 Q T (mkF m pc L (v :: r)) := by
  obtain ⟨locs, X, -⟩ := S; subst hp
  exact kk.st fun _ q => XS.astoreN X.here C.1 rfl (hb C.2.2.1 hd) rfl hv hl q
theorem g_iconst (C : Cx p s m meth c Z own name cod maxL ret) (S : On p l e R s m args below meth c n0 T h k n) {i : Int} (v : Int32) (hd : decode cod pc = .ok (.iconst i, 1)) (hp : pc + 1 = pc') (hv : Int32.ofInt i = v) (kk : Gl p e below s R n0 Q T (mkF m pc' L (.int v :: r))) : Gl p e below s R n0 Q T (mkF m pc L r) := by
  obtain ⟨locs, X, -⟩ := S; subst hp hv
  exact kk.st fun _ q => XS.iconst X.here C.1 rfl (hb C.2.2.1 hd) q
theorem g_bipush (C : Cx p s m meth c Z own name cod maxL ret) (S : On p l e R s m args below meth c n0 T h k n) {i : Int} (v : Int32) (hd : decode cod pc = .ok (.bipush i, 2)) (hp : pc + 2 = pc') (hv : (Int8.ofInt i).toInt32 = v) (kk : Gl p e below s R n0 Q T (mkF m pc' L (.int v :: r))) : Gl p e below s R n0 Q T (mkF m pc L r) := by
  obtain ⟨locs, X, -⟩ := S; subst hp hv
  exact kk.st fun _ q => XS.bipush X.here C.1 rfl (hb C.2.2.1 hd) q
theorem g_sipush (C : Cx p s m meth c Z own name cod maxL ret) (S : On p l e R s m args below meth c n0 T h k n) {i : Int} (v : Int32) (hd : decode cod pc = .ok (.sipush i, 3)) (hp : pc + 3 = pc') (hv : (Int16.ofInt i).toInt32 = v) (kk : Gl p e below s R n0 Q T (mkF m pc' L (.int v :: r))) : Gl p e below s R n0 Q T (mkF m pc L r) := by
  obtain ⟨locs, X, -⟩ := S; subst hp hv
  exact kk.st fun _ q => XS.sipush X.here C.1 rfl (hb C.2.2.1 hd) q
theorem g_lconst (C : Cx p s m meth c Z own name cod maxL ret) (S : On p l e R s m args below meth c n0 T h k n) {i : Fin 2} (v : Int64) (hd : decode cod pc = .ok (.lconst i, 1)) (hp : pc + 1 = pc') (hv : Int64.ofNat i = v) (kk : Gl p e below s R n0 Q T (mkF m pc' L (.long v :: r))) : Gl p e below s R n0 Q T (mkF m pc L r) := by
  obtain ⟨locs, X, -⟩ := S; subst hp hv
  exact kk.st fun _ q => XS.lconst X.here C.1 rfl (hb C.2.2.1 hd) q
theorem g_aconst_null (C : Cx p s m meth c Z own name cod maxL ret) (S : On p l e R s m args below meth c n0 T h k n) (hd : decode cod pc = .ok (.aconst_null, 1)) (hp : pc + 1 = pc') (kk : Gl p e below s R n0 Q T (mkF m pc' L (.null :: r))) : Gl p e below s R n0 Q T (mkF m pc L r) := by
  obtain ⟨locs, X, -⟩ := S; subst hp
  exact kk.st fun _ q => XS.aconstNull X.here C.1 rfl (hb C.2.2.1 hd) q
theorem g_iadd (C : Cx p s m meth c Z own name cod maxL ret) (S : On p l e R s m args below meth c n0 T h k n) {x y : Int32} (hd : decode cod pc = .ok (.iadd, 1)) (hp : pc + 1 = pc') (kk : Gl p e below s R n0 Q T (mkF m pc' L (.int (x + y) :: r))) : Gl p e below s R n0 Q T (mkF m pc L (.int y :: .int x :: r)) := by
  obtain ⟨locs, X, -⟩ := S; subst hp
  exact kk.st fun _ q => XS.iadd X.here C.1 rfl (hb C.2.2.1 hd) rfl q
theorem g_isub (C : Cx p s m meth c Z own name cod maxL ret) (S : On p l e R s m args below meth c n0 T h k n) {x y : Int32} (hd : decode cod pc = .ok (.isub, 1)) (hp : pc + 1 = pc') (kk : Gl p e below s R n0 Q T (mkF m pc' L (.int (x - y) :: r))) : Gl p e below s R n0 Q T (mkF m pc L (.int y :: .int x :: r)) := by
  obtain ⟨locs, X, -⟩ := S; subst hp
  exact kk.st fun _ q => XS.isub X.here C.1 rfl (hb C.2.2.1 hd) rfl q
theorem g_imul (C : Cx p s m meth c Z own name cod maxL ret) (S : On p l e R s m args below meth c n0 T h k n) {x y : Int32} (hd : decode cod pc = .ok (.imul, 1)) (hp : pc + 1 = pc') (kk : Gl p e below s R n0 Q T (mkF m pc' L (.int (x * y) :: r))) : Gl p e below s R n0 Q T (mkF m pc L (.int y :: .int x :: r)) := by
  obtain ⟨locs, X, -⟩ := S; subst hp
  exact kk.st fun _ q => XS.imul X.here C.1 rfl (hb C.2.2.1 hd) rfl q
theorem g_iand (C : Cx p s m meth c Z own name cod maxL ret) (S : On p l e R s m args below meth c n0 T h k n) {x y : Int32} (hd : decode cod pc = .ok (.iand, 1)) (hp : pc + 1 = pc') (kk : Gl p e below s R n0 Q T (mkF m pc' L (.int (x &&& y) :: r))) : Gl p e below s R n0 Q T (mkF m pc L (.int y :: .int x :: r)) := by
  obtain ⟨locs, X, -⟩ := S; subst hp
  exact kk.st fun _ q => XS.iand X.here C.1 rfl (hb C.2.2.1 hd) rfl q
theorem g_ior (C : Cx p s m meth c Z own name cod maxL ret) (S : On p l e R s m args below meth c n0 T h k n) {x y : Int32} (hd : decode cod pc = .ok (.ior, 1)) (hp : pc + 1 = pc') (kk : Gl p e below s R n0 Q T (mkF m pc' L (.int (x ||| y) :: r))) : Gl p e below s R n0 Q T (mkF m pc L (.int y :: .int x :: r)) := by
  obtain ⟨locs, X, -⟩ := S; subst hp
  exact kk.st fun _ q => XS.ior X.here C.1 rfl (hb C.2.2.1 hd) rfl q
theorem g_ixor (C : Cx p s m meth c Z own name cod maxL ret) (S : On p l e R s m args below meth c n0 T h k n) {x y : Int32} (hd : decode cod pc = .ok (.ixor, 1)) (hp : pc + 1 = pc') (kk : Gl p e below s R n0 Q T (mkF m pc' L (.int (x ^^^ y) :: r))) : Gl p e below s R n0 Q T (mkF m pc L (.int y :: .int x :: r)) := by
  obtain ⟨locs, X, -⟩ := S; subst hp
  exact kk.st fun _ q => XS.ixor X.here C.1 rfl (hb C.2.2.1 hd) rfl q
theorem g_ladd (C : Cx p s m meth c Z own name cod maxL ret) (S : On p l e R s m args below meth c n0 T h k n) {x y : Int64} (hd : decode cod pc = .ok (.ladd, 1)) (hp : pc + 1 = pc') (kk : Gl p e below s R n0 Q T (mkF m pc' L (.long (x + y) :: r))) : Gl p e below s R n0 Q T (mkF m pc L (.long y :: .long x :: r)) := by
  obtain ⟨locs, X, -⟩ := S; subst hp
  exact kk.st fun _ q => XS.ladd X.here C.1 rfl (hb C.2.2.1 hd) rfl q
theorem g_lsub (C : Cx p s m meth c Z own name cod maxL ret) (S : On p l e R s m args below meth c n0 T h k n) {x y : Int64} (hd : decode cod pc = .ok (.lsub, 1)) (hp : pc + 1 = pc') (kk : Gl p e below s R n0 Q T (mkF m pc' L (.long (x - y) :: r))) : Gl p e below s R n0 Q T (mkF m pc L (.long y :: .long x :: r)) := by
  obtain ⟨locs, X, -⟩ := S; subst hp
  exact kk.st fun _ q => XS.lsub X.here C.1 rfl (hb C.2.2.1 hd) rfl q
theorem g_lmul (C : Cx p s m meth c Z own name cod maxL ret) (S : On p l e R s m args below meth c n0 T h k n) {x y : Int64} (hd : decode cod pc = .ok (.lmul, 1)) (hp : pc + 1 = pc') (kk : Gl p e below s R n0 Q T (mkF m pc' L (.long (x * y) :: r))) : Gl p e below s R n0 Q T (mkF m pc L (.long y :: .long x :: r)) := by
  obtain ⟨locs, X, -⟩ := S; subst hp
  exact kk.st fun _ q => XS.lmul X.here C.1 rfl (hb C.2.2.1 hd) rfl q
theorem g_land (C : Cx p s m meth c Z own name cod maxL ret) (S : On p l e R s m args below meth c n0 T h k n) {x y : Int64} (hd : decode cod pc = .ok (.land, 1)) (hp : pc + 1 = pc') (kk : Gl p e below s R n0 Q T (mkF m pc' L (.long (x &&& y) :: r))) : Gl p e below s R n0 Q T (mkF m pc L (.long y :: .long x :: r)) := by
  obtain ⟨locs, X, -⟩ := S; subst hp
  exact kk.st fun _ q => XS.land X.here C.1 rfl (hb C.2.2.1 hd) rfl q
theorem g_lor (C : Cx p s m meth c Z own name cod maxL ret) (S : On p l e R s m args below meth c n0 T h k n) {x y : Int64} (hd : decode cod pc = .ok (.lor, 1)) (hp : pc + 1 = pc') (kk : Gl p e below s R n0 Q T (mkF m pc' L (.long (x ||| y) :: r))) : Gl p e below s R n0 Q T (mkF m pc L (.long y :: .long x :: r)) := by
  obtain ⟨locs, X, -⟩ := S; subst hp
  exact kk.st fun _ q => XS.lor X.here C.1 rfl (hb C.2.2.1 hd) rfl q
theorem g_lxor (C : Cx p s m meth c Z own name cod maxL ret) (S : On p l e R s m args below meth c n0 T h k n) {x y : Int64} (hd : decode cod pc = .ok (.lxor, 1)) (hp : pc + 1 = pc') (kk : Gl p e below s R n0 Q T (mkF m pc' L (.long (x ^^^ y) :: r))) : Gl p e below s R n0 Q T (mkF m pc L (.long y :: .long x :: r)) := by
  obtain ⟨locs, X, -⟩ := S; subst hp
  exact kk.st fun _ q => XS.lxor X.here C.1 rfl (hb C.2.2.1 hd) rfl q
theorem g_ishl (C : Cx p s m meth c Z own name cod maxL ret) (S : On p l e R s m args below meth c n0 T h k n) {x y : Int32} (hd : decode cod pc = .ok (.ishl, 1)) (hp : pc + 1 = pc') (kk : Gl p e below s R n0 Q T (mkF m pc' L (.int (x <<< (y &&& 31)) :: r))) : Gl p e below s R n0 Q T (mkF m pc L (.int y :: .int x :: r)) := by
  obtain ⟨locs, X, -⟩ := S; subst hp
  exact kk.st fun _ q => XS.ishl X.here C.1 rfl (hb C.2.2.1 hd) rfl q
theorem g_ishr (C : Cx p s m meth c Z own name cod maxL ret) (S : On p l e R s m args below meth c n0 T h k n) {x y : Int32} (hd : decode cod pc = .ok (.ishr, 1)) (hp : pc + 1 = pc') (kk : Gl p e below s R n0 Q T (mkF m pc' L (.int (x >>> (y &&& 31)) :: r))) : Gl p e below s R n0 Q T (mkF m pc L (.int y :: .int x :: r)) := by
  obtain ⟨locs, X, -⟩ := S; subst hp
  exact kk.st fun _ q => XS.ishr X.here C.1 rfl (hb C.2.2.1 hd) rfl q
theorem g_iushr (C : Cx p s m meth c Z own name cod maxL ret) (S : On p l e R s m args below meth c n0 T h k n) {x y : Int32} (hd : decode cod pc = .ok (.iushr, 1)) (hp : pc + 1 = pc') (kk : Gl p e below s R n0 Q T (mkF m pc' L (.int ((x.toUInt32 >>> (y &&& 31).toUInt32).toInt32) :: r))) : Gl p e below s R n0 Q T (mkF m pc L (.int y :: .int x :: r)) := by
  obtain ⟨locs, X, -⟩ := S; subst hp
  exact kk.st fun _ q => XS.iushr X.here C.1 rfl (hb C.2.2.1 hd) rfl q
theorem g_lshl (C : Cx p s m meth c Z own name cod maxL ret) (S : On p l e R s m args below meth c n0 T h k n) {x : Int64} {y : Int32} (hd : decode cod pc = .ok (.lshl, 1)) (hp : pc + 1 = pc') (kk : Gl p e below s R n0 Q T (mkF m pc' L (.long (x <<< (y &&& 0x3f).toInt64) :: r))) : Gl p e below s R n0 Q T (mkF m pc L (.int y :: .long x :: r)) := by
  obtain ⟨locs, X, -⟩ := S; subst hp
  exact kk.st fun _ q => XS.lshl X.here C.1 rfl (hb C.2.2.1 hd) rfl q
theorem g_lshr (C : Cx p s m meth c Z own name cod maxL ret) (S : On p l e R s m args below meth c n0 T h k n) {x : Int64} {y : Int32} (hd : decode cod pc = .ok (.lshr, 1)) (hp : pc + 1 = pc') (kk : Gl p e below s R n0 Q T (mkF m pc' L (.long (x >>> (y &&& 0x3f).toInt64) :: r))) : Gl p e below s R n0 Q T (mkF m pc L (.int y :: .long x :: r)) := by
  obtain ⟨locs, X, -⟩ := S; subst hp
  exact kk.st fun _ q => XS.lshr X.here C.1 rfl (hb C.2.2.1 hd) rfl q
theorem g_lushr (C : Cx p s m meth c Z own name cod maxL ret) (S : On p l e R s m args below meth c n0 T h k n) {x : Int64} {y : Int32} (hd : decode cod pc = .ok (.lushr, 1)) (hp : pc + 1 = pc') (kk : Gl p e below s R n0 Q T (mkF m pc' L (.long ((x.toUInt64 >>> (y &&& 0x3f).toInt64.toUInt64).toInt64) :: r))) : Gl p e below s R n0 Q T (mkF m pc L (.int y :: .long x :: r)) := by
  obtain ⟨locs, X, -⟩ := S; subst hp
  exact kk.st fun _ q => XS.lushr X.here C.1 rfl (hb C.2.2.1 hd) rfl q
theorem g_i2l (C : Cx p s m meth c Z own name cod maxL ret) (S : On p l e R s m args below meth c n0 T h k n) {x : Int32} (hd : decode cod pc = .ok (.i2l, 1)) (hp : pc + 1 = pc') (kk : Gl p e below s R n0 Q T (mkF m pc' L (.long (x.toInt64) :: r))) : Gl p e below s R n0 Q T (mkF m pc L (.int x :: r)) := by
  obtain ⟨locs, X, -⟩ := S; subst hp
  exact kk.st fun _ q => XS.i2l X.here C.1 rfl (hb C.2.2.1 hd) rfl q
theorem g_l2i (C : Cx p s m meth c Z own name cod maxL ret) (S : On p l e R s m args below meth c n0 T h k n) {x : Int64} (hd : decode cod pc = .ok (.l2i, 1)) (hp : pc + 1 = pc') (kk : Gl p e below s R n0 Q T (mkF m pc' L (.int (x.toInt32) :: r))) : Gl p e below s R n0 Q T (mkF m pc L (.long x :: r)) := by
  obtain ⟨locs, X, -⟩ := S; subst hp
  exact kk.st fun _ q => XS.l2i X.here C.1 rfl (hb C.2.2.1 hd) rfl q
theorem g_i2b (C : Cx p s m meth c Z own name cod maxL ret) (S : On p l e R s m args below meth c n0 T h k n) {x : Int32} (hd : decode cod pc = .ok (.i2b, 1)) (hp : pc + 1 = pc') (kk : Gl p e below s R n0 Q T (mkF m pc' L (.int (x.toInt8.toInt32) :: r))) : Gl p e below s R n0 Q T (mkF m pc L (.int x :: r)) := by
  obtain ⟨locs, X, -⟩ := S; subst hp
  exact kk.st fun _ q => XS.i2b X.here C.1 rfl (hb C.2.2.1 hd) rfl q
theorem g_i2c (C : Cx p s m meth c Z own name cod maxL ret) (S : On p l e R s m args below meth c n0 T h k n) {x : Int32} (hd : decode cod pc = .ok (.i2c, 1)) (hp : pc + 1 = pc') (kk : Gl p e below s R n0 Q T (mkF m pc' L (.int (x.toUInt32.toUInt16.toUInt32.toInt32) :: r))) : Gl p e below s R n0 Q T (mkF m pc L (.int x :: r)) := by
  obtain ⟨locs, X, -⟩ := S; subst hp
  exact kk.st fun _ q => XS.i2c X.here C.1 rfl (hb C.2.2.1 hd) rfl q
theorem g_i2s (C : Cx p s m meth c Z own name cod maxL ret) (S : On p l e R s m args below meth c n0 T h k n) {x : Int32} (hd : decode cod pc = .ok (.i2s, 1)) (hp : pc + 1 = pc') (kk : Gl p e below s R n0 Q T (mkF m pc' L (.int (x.toInt16.toInt32) :: r))) : Gl p e below s R n0 Q T (mkF m pc L (.int x :: r)) := by
  obtain ⟨locs, X, -⟩ := S; subst hp
  exact kk.st fun _ q => XS.i2s X.here C.1 rfl (hb C.2.2.1 hd) rfl q
theorem g_lneg (C : Cx p s m meth c Z own name cod maxL ret) (S : On p l e R s m args below meth c n0 T h k n) {x : Int64} (hd : decode cod pc = .ok (.lneg, 1)) (hp : pc + 1 = pc') (kk : Gl p e below s R n0 Q T (mkF m pc' L (.long (-x) :: r))) : Gl p e below s R n0 Q T (mkF m pc L (.long x :: r)) := by
  obtain ⟨locs, X, -⟩ := S; subst hp
  exact kk.st fun _ q => XS.lneg X.here C.1 rfl (hb C.2.2.1 hd) rfl q
theorem g_ineg (C : Cx p s m meth c Z own name cod maxL ret) (S : On p l e R s m args below meth c n0 T h k n) {x : Int32} (hd : decode cod pc = .ok (.ineg, 1)) (hp : pc + 1 = pc') (kk : Gl p e below s R n0 Q T (mkF m pc' L (.int (-x) :: r))) : Gl p e below s R n0 Q T (mkF m pc L (.int x :: r)) := by
  obtain ⟨locs, X, -⟩ := S; subst hp
  exact kk.st fun _ q => XS.ineg X.here C.1 rfl (hb C.2.2.1 hd) rfl q
theorem g_irem (C : Cx p s m meth c Z own name cod maxL ret) (S : On p l e R s m args below meth c n0 T h k n) {x y : Int32} (hd : decode cod pc = .ok (.irem, 1)) (hp : pc + 1 = pc') (hy : y ≠ 0) (kk : Gl p e below s R n0 Q T (mkF m pc' L (.int (x % y) :: r))) : Gl p e below s R n0 Q T (mkF m pc L (.int y :: .int x :: r)) := by
  obtain ⟨locs, X, -⟩ := S; subst hp
  exact kk.st fun _ q => iremM X C.1 rfl (hb C.2.2.1 hd) rfl hy q
theorem g_idiv (C : Cx p s m meth c Z own name cod maxL ret) (S : On p l e R s m args below meth c n0 T h k n) {x y : Int32} (hd : decode cod pc = .ok (.idiv, 1)) (hp : pc + 1 = pc') (hy : y ≠ 0) (kk : Gl p e below s R n0 Q T (mkF m pc' L (.int (x / y) :: r))) : Gl p e below s R n0 Q T (mkF m pc L (.int y :: .int x :: r)) := by
  obtain ⟨locs, X, -⟩ := S; subst hp
  exact kk.st fun _ q => XS.idiv X.here C.1 rfl (hb C.2.2.1 hd) rfl hy q
theorem g_lcmp (C : Cx p s m meth c Z own name cod maxL ret) (S : On p l e R s m args below meth c n0 T h k n) {x y : Int64} (hd : decode cod pc = .ok (.lcmp, 1)) (hp : pc + 1 = pc') (kk : Gl p e below s R n0 Q T (mkF m pc' L (.int (lcmpW x y) :: r))) : Gl p e below s R n0 Q T (mkF m pc L (.long y :: .long x :: r)) := by
  obtain ⟨locs, X, -⟩ := S; subst hp
  exact kk.st fun _ q => XS.lcmp X.here C.1 rfl (hb C.2.2.1 hd) rfl q
theorem g_dup (C : Cx p s m meth c Z own name cod maxL ret) (S : On p l e R s m args below meth c n0 T h k n) {x : Value} (hd : decode cod pc = .ok (.dup, 1)) (hp : pc + 1 = pc') (hc : x.category = 1) (kk : Gl p e below s R n0 Q T (mkF m pc' L (x :: x :: r))) : Gl p e below s R n0 Q T (mkF m pc L (x :: r)) := by
  obtain ⟨locs, X, -⟩ := S; subst hp
  exact kk.st fun _ q => XS.dup X.here C.1 rfl (hb C.2.2.1 hd) rfl hc q
theorem g_pop (C : Cx p s m meth c Z own name cod maxL ret) (S : On p l e R s m args below meth c n0 T h k n) {x : Value} (hd : decode cod pc = .ok (.pop, 1)) (hp : pc + 1 = pc') (hc : x.category = 1) (kk : Gl p e below s R n0 Q T (mkF m pc' L r)) : Gl p e below s R n0 Q T (mkF m pc L (x :: r)) := by
  obtain ⟨locs, X, -⟩ := S; subst hp
  exact kk.st fun _ q => XS.pop X.here C.1 rfl (hb C.2.2.1 hd) rfl hc q
theorem g_dup_x1 (C : Cx p s m meth c Z own name cod maxL ret) (S : On p l e R s m args below meth c n0 T h k n) {x y : Value} (hd : decode cod pc = .ok (.dup_x1, 1)) (hp : pc + 1 = pc') (hc : x.category = 1) (hc2 : y.category = 1) (kk : Gl p e below s R n0 Q T (mkF m pc' L (x :: y :: x :: r))) : Gl p e below s R n0 Q T (mkF m pc L (x :: y :: r)) := by
  obtain ⟨locs, X, -⟩ := S; subst hp
  exact kk.st fun _ q => XS.dupX1 X.here C.1 rfl (hb C.2.2.1 hd) rfl hc hc2 q
theorem g_dup2 (C : Cx p s m meth c Z own name cod maxL ret) (S : On p l e R s m args below meth c n0 T h k n) {x y : Value} (hd : decode cod pc = .ok (.dup2, 1)) (hp : pc + 1 = pc') (hc : x.category = 1) (hc2 : y.category = 1) (kk : Gl p e below s R n0 Q T (mkF m pc' L (x :: y :: x :: y :: r))) : Gl p e below s R n0 Q T (mkF m pc L (x :: y :: r)) := by
  obtain ⟨locs, X, -⟩ := S; subst hp
  exact kk.st fun _ q => XT.dup2 X.here C.1 rfl (hb C.2.2.1 hd) rfl hc hc2 q
theorem g_dup_x2 (C : Cx p s m meth c Z own name cod maxL ret) (S : On p l e R s m args below meth c n0 T h k n) {x y z : Value} (hd : decode cod pc = .ok (.dup_x2, 1)) (hp : pc + 1 = pc') (hc : x.category = 1) (hc2 : y.category = 1) (hc3 : z.category = 1) (kk : Gl p e below s R n0 Q T (mkF m pc' L (x :: y :: z :: x :: r))) : Gl p e below s R n0 Q T (mkF m pc L (x :: y :: z :: r)) := by
  obtain ⟨locs, X, -⟩ := S; subst hp
  refine kk.st fun _ q => ?_
  have hx := C.1; have hd' := hb C.2.2.1 hd
  jvm_step X.here [X.here.top, hx, hd', hc, hc2, hc3]
  exact q
theorem g_iinc (C : Cx p s m meth c Z own name cod maxL ret) (S : On p l e R s m args below meth c n0 T h k n) {i : Nat} {cst : Int} {x : Int32} (v : Int32) (hd : decode cod pc = .ok (.iinc i cst, 3)) (hp : pc + 3 = pc') (hv : Int32.ofInt cst = v) (hl : L[i]? = some (.val (.int x))) (hl' : storeLocals L i (.int (x + v)) = some L') (kk : Gl p e below s R n0 Q T (mkF m pc' L' r)) : Gl p e below s R n0 Q T (mkF m pc L r) := by
  obtain ⟨locs, X, -⟩ := S; subst hp hv
  exact kk.st fun _ q => XS.iinc X.here C.1 rfl (hb C.2.2.1 hd) hl hl' q
theorem g_goto (C : Cx p s m meth c Z own name cod maxL ret) (S : On p l e R s m args below meth c n0 T h k n) {o : Int} (hd : decode cod pc = .ok (.goto o, 3)) (ho : 0 ≤ (pc : Int) + o) (hp : ((pc : Int) + o).toNat = pc') (kk : Gl p e below s R n0 Q T (mkF m pc' L r)) : Gl p e below s R n0 Q T (mkF m pc L r) := by
  obtain ⟨locs, X, -⟩ := S
  exact kk.st fun _ q => XS.goto X.here C.1 rfl rfl (hb C.2.2.1 hd) ho hp q
theorem g_icmp_lt (C : Cx p s m meth c Z own name cod maxL ret) (S : On p l e R s m args below meth c n0 T h k n) {x y : Int32} {o : Int} (hd : decode cod pc = .ok (.if_icmp .lt o, 3)) (ho : 0 ≤ (pc : Int) + o) (hp : ((pc : Int) + o).toNat = pc') (hq : pc + 3 = pf) (ht : x < y → Gl p e below s R n0 Q T (mkF m pc' L r)) (hf : ¬ x < y → Gl p e below s R n0 Q T (mkF m pf L r)) : Gl p e below s R n0 Q T (mkF m pc L (.int y :: .int x :: r)) := by
  obtain ⟨locs, X, -⟩ := S; subst hq
  by_cases q : x < y
  · exact (ht q).st fun _ z => XS.icmpYes X.here C.1 rfl rfl (hb C.2.2.1 hd) rfl ((tlt q).1) ho hp z
  · exact (hf q).st fun _ z => XS.icmpNo X.here C.1 rfl (hb C.2.2.1 hd) rfl ((flt q).1) z
theorem g_if_lt (C : Cx p s m meth c Z own name cod maxL ret) (S : On p l e R s m args below meth c n0 T h k n) {x : Int32} {o : Int} (hd : decode cod pc = .ok (.ifCond .lt o, 3)) (ho : 0 ≤ (pc : Int) + o) (hp : ((pc : Int) + o).toNat = pc') (hq : pc + 3 = pf) (ht : x < (0 : Int32) → Gl p e below s R n0 Q T (mkF m pc' L r)) (hf : ¬ x < (0 : Int32) → Gl p e below s R n0 Q T (mkF m pf L r)) : Gl p e below s R n0 Q T (mkF m pc L (.int x :: r)) := by
  obtain ⟨locs, X, -⟩ := S; subst hq
  by_cases q : x < (0 : Int32)
  · exact (ht q).st fun _ z => XS.ifYes X.here C.1 rfl rfl (hb C.2.2.1 hd) rfl ((if0 _ _).trans (tlt q).1) ho hp z
  · exact (hf q).st fun _ z => XS.ifNo X.here C.1 rfl (hb C.2.2.1 hd) rfl ((if0 _ _).trans (flt q).1) z
theorem g_lif_lt (C : Cx p s m meth c Z own name cod maxL ret) (S : On p l e R s m args below meth c n0 T h k n) {x y : Int64} {o : Int} (hd : decode cod pc = .ok (.ifCond .lt o, 3)) (ho : 0 ≤ (pc : Int) + o) (hp : ((pc : Int) + o).toNat = pc') (hq : pc + 3 = pf) (ht : x < y → Gl p e below s R n0 Q T (mkF m pc' L r)) (hf : ¬ x < y → Gl p e below s R n0 Q T (mkF m pf L r)) : Gl p e below s R n0 Q T (mkF m pc L (.int (lcmpW x y) :: r)) := by
  obtain ⟨locs, X, -⟩ := S; subst hq
  by_cases q : x < y
  · exact (ht q).st fun _ z => XS.ifYes X.here C.1 rfl rfl (hb C.2.2.1 hd) rfl ((if0 _ _).trans (tlt ((lw_lt x y).mpr q)).1) ho hp z
  · exact (hf q).st fun _ z => XS.ifNo X.here C.1 rfl (hb C.2.2.1 hd) rfl ((if0 _ _).trans (flt (fun z => q ((lw_lt x y).mp z))).1) z
theorem g_icmp_ge (C : Cx p s m meth c Z own name cod maxL ret) (S : On p l e R s m args below meth c n0 T h k n) {x y : Int32} {o : Int} (hd : decode cod pc = .ok (.if_icmp .ge o, 3)) (ho : 0 ≤ (pc : Int) + o) (hp : ((pc : Int) + o).toNat = pc') (hq : pc + 3 = pf) (ht : ¬ x < y → Gl p e below s R n0 Q T (mkF m pc' L r)) (hf : x < y → Gl p e below s R n0 Q T (mkF m pf L r)) : Gl p e below s R n0 Q T (mkF m pc L (.int y :: .int x :: r)) := by
  obtain ⟨locs, X, -⟩ := S; subst hq
  by_cases q : x < y
  · exact (hf q).st fun _ z => XS.icmpNo X.here C.1 rfl (hb C.2.2.1 hd) rfl ((tlt q).2.1) z
  · exact (ht q).st fun _ z => XS.icmpYes X.here C.1 rfl rfl (hb C.2.2.1 hd) rfl ((flt q).2.1) ho hp z
theorem g_if_ge (C : Cx p s m meth c Z own name cod maxL ret) (S : On p l e R s m args below meth c n0 T h k n) {x : Int32} {o : Int} (hd : decode cod pc = .ok (.ifCond .ge o, 3)) (ho : 0 ≤ (pc : Int) + o) (hp : ((pc : Int) + o).toNat = pc') (hq : pc + 3 = pf) (ht : ¬ x < (0 : Int32) → Gl p e below s R n0 Q T (mkF m pc' L r)) (hf : x < (0 : Int32) → Gl p e below s R n0 Q T (mkF m pf L r)) : Gl p e below s R n0 Q T (mkF m pc L (.int x :: r)) := by
  obtain ⟨locs, X, -⟩ := S; subst hq
  by_cases q : x < (0 : Int32)
  · exact (hf q).st fun _ z => XS.ifNo X.here C.1 rfl (hb C.2.2.1 hd) rfl ((if0 _ _).trans (tlt q).2.1) z
  · exact (ht q).st fun _ z => XS.ifYes X.here C.1 rfl rfl (hb C.2.2.1 hd) rfl ((if0 _ _).trans (flt q).2.1) ho hp z
theorem g_lif_ge (C : Cx p s m meth c Z own name cod maxL ret) (S : On p l e R s m args below meth c n0 T h k n) {x y : Int64} {o : Int} (hd : decode cod pc = .ok (.ifCond .ge o, 3)) (ho : 0 ≤ (pc : Int) + o) (hp : ((pc : Int) + o).toNat = pc') (hq : pc + 3 = pf) (ht : ¬ x < y → Gl p e below s R n0 Q T (mkF m pc' L r)) (hf : x < y → Gl p e below s R n0 Q T (mkF m pf L r)) : Gl p e below s R n0 Q T (mkF m pc L (.int (lcmpW x y) :: r)) := by
  obtain ⟨locs, X, -⟩ := S; subst hq
  by_cases q : x < y
  · exact (hf q).st fun _ z => XS.ifNo X.here C.1 rfl (hb C.2.2.1 hd) rfl ((if0 _ _).trans (tlt ((lw_lt x y).mpr q)).2.1) z
  · exact (ht q).st fun _ z => XS.ifYes X.here C.1 rfl rfl (hb C.2.2.1 hd) rfl ((if0 _ _).trans (flt (fun z => q ((lw_lt x y).mp z))).2.1) ho hp z
theorem g_icmp_gt (C : Cx p s m meth c Z own name cod maxL ret) (S : On p l e R s m args below meth c n0 T h k n) {x y : Int32} {o : Int} (hd : decode cod pc = .ok (.if_icmp .gt o, 3)) (ho : 0 ≤ (pc : Int) + o) (hp : ((pc : Int) + o).toNat = pc') (hq : pc + 3 = pf) (ht : y < x → Gl p e below s R n0 Q T (mkF m pc' L r)) (hf : ¬ y < x → Gl p e below s R n0 Q T (mkF m pf L r)) : Gl p e below s R n0 Q T (mkF m pc L (.int y :: .int x :: r)) := by
  obtain ⟨locs, X, -⟩ := S; subst hq
  by_cases q : y < x
  · exact (ht q).st fun _ z => XS.icmpYes X.here C.1 rfl rfl (hb C.2.2.1 hd) rfl ((tlt q).2.2.1) ho hp z
  · exact (hf q).st fun _ z => XS.icmpNo X.here C.1 rfl (hb C.2.2.1 hd) rfl ((flt q).2.2.1) z
theorem g_if_gt (C : Cx p s m meth c Z own name cod maxL ret) (S : On p l e R s m args below meth c n0 T h k n) {x : Int32} {o : Int} (hd : decode cod pc = .ok (.ifCond .gt o, 3)) (ho : 0 ≤ (pc : Int) + o) (hp : ((pc : Int) + o).toNat = pc') (hq : pc + 3 = pf) (ht : (0 : Int32) < x → Gl p e below s R n0 Q T (mkF m pc' L r)) (hf : ¬ (0 : Int32) < x → Gl p e below s R n0 Q T (mkF m pf L r)) : Gl p e below s R n0 Q T (mkF m pc L (.int x :: r)) := by
  obtain ⟨locs, X, -⟩ := S; subst hq
  by_cases q : (0 : Int32) < x
  · exact (ht q).st fun _ z => XS.ifYes X.here C.1 rfl rfl (hb C.2.2.1 hd) rfl ((if0 _ _).trans (tlt q).2.2.1) ho hp z
  · exact (hf q).st fun _ z => XS.ifNo X.here C.1 rfl (hb C.2.2.1 hd) rfl ((if0 _ _).trans (flt q).2.2.1) z
theorem g_lif_gt (C : Cx p s m meth c Z own name cod maxL ret) (S : On p l e R s m args below meth c n0 T h k n) {x y : Int64} {o : Int} (hd : decode cod pc = .ok (.ifCond .gt o, 3)) (ho : 0 ≤ (pc : Int) + o) (hp : ((pc : Int) + o).toNat = pc') (hq : pc + 3 = pf) (ht : y < x → Gl p e below s R n0 Q T (mkF m pc' L r)) (hf : ¬ y < x → Gl p e below s R n0 Q T (mkF m pf L r)) : Gl p e below s R n0 Q T (mkF m pc L (.int (lcmpW x y) :: r)) := by
  obtain ⟨locs, X, -⟩ := S; subst hq
  by_cases q : y < x
  · exact (ht q).st fun _ z => XS.ifYes X.here C.1 rfl rfl (hb C.2.2.1 hd) rfl ((if0 _ _).trans (tlt ((lw_gt x y).mpr q)).2.2.1) ho hp z
  · exact (hf q).st fun _ z => XS.ifNo X.here C.1 rfl (hb C.2.2.1 hd) rfl ((if0 _ _).trans (flt (fun z => q ((lw_gt x y).mp z))).2.2.1) z
theorem g_icmp_le (C : Cx p s m meth c Z own name cod maxL ret) (S : On p l e R s m args below meth c n0 T h k n) {x y : Int32} {o : Int} (hd : decode cod pc = .ok (.if_icmp .le o, 3)) (ho : 0 ≤ (pc : Int) + o) (hp : ((pc : Int) + o).toNat = pc') (hq : pc + 3 = pf) (ht : ¬ y < x → Gl p e below s R n0 Q T (mkF m pc' L r)) (hf : y < x → Gl p e below s R n0 Q T (mkF m pf L r)) : Gl p e below s R n0 Q T (mkF m pc L (.int y :: .int x :: r)) := by
  obtain ⟨locs, X, -⟩ := S; subst hq
  by_cases q : y < x
  · exact (hf q).st fun _ z => XS.icmpNo X.here C.1 rfl (hb C.2.2.1 hd) rfl ((tlt q).2.2.2) z
  · exact (ht q).st fun _ z => XS.icmpYes X.here C.1 rfl rfl (hb C.2.2.1 hd) rfl ((flt q).2.2.2) ho hp z
theorem g_if_le (C : Cx p s m meth c Z own name cod maxL ret) (S : On p l e R s m args below meth c n0 T h k n) {x : Int32} {o : Int} (hd : decode cod pc = .ok (.ifCond .le o, 3)) (ho : 0 ≤ (pc : Int) + o) (hp : ((pc : Int) + o).toNat = pc') (hq : pc + 3 = pf) (ht : ¬ (0 : Int32) < x → Gl p e below s R n0 Q T (mkF m pc' L r)) (hf : (0 : Int32) < x → Gl p e below s R n0 Q T (mkF m pf L r)) : Gl p e below s R n0 Q T (mkF m pc L (.int x :: r)) := by
  obtain ⟨locs, X, -⟩ := S; subst hq
  by_cases q : (0 : Int32) < x
  · exact (hf q).st fun _ z => XS.ifNo X.here C.1 rfl (hb C.2.2.1 hd) rfl ((if0 _ _).trans (tlt q).2.2.2) z
  · exact (ht q).st fun _ z => XS.ifYes X.here C.1 rfl rfl (hb C.2.2.1 hd) rfl ((if0 _ _).trans (flt q).2.2.2) ho hp z
theorem g_lif_le (C : Cx p s m meth c Z own name cod maxL ret) (S : On p l e R s m args below meth c n0 T h k n) {x y : Int64} {o : Int} (hd : decode cod pc = .ok (.ifCond .le o, 3)) (ho : 0 ≤ (pc : Int) + o) (hp : ((pc : Int) + o).toNat = pc') (hq : pc + 3 = pf) (ht : ¬ y < x → Gl p e below s R n0 Q T (mkF m pc' L r)) (hf : y < x → Gl p e below s R n0 Q T (mkF m pf L r)) : Gl p e below s R n0 Q T (mkF m pc L (.int (lcmpW x y) :: r)) := by
  obtain ⟨locs, X, -⟩ := S; subst hq
  by_cases q : y < x
  · exact (hf q).st fun _ z => XS.ifNo X.here C.1 rfl (hb C.2.2.1 hd) rfl ((if0 _ _).trans (tlt ((lw_gt x y).mpr q)).2.2.2) z
  · exact (ht q).st fun _ z => XS.ifYes X.here C.1 rfl rfl (hb C.2.2.1 hd) rfl ((if0 _ _).trans (flt (fun z => q ((lw_gt x y).mp z))).2.2.2) ho hp z
theorem g_icmp_eq (C : Cx p s m meth c Z own name cod maxL ret) (S : On p l e R s m args below meth c n0 T h k n) {x y : Int32} {o : Int} (hd : decode cod pc = .ok (.if_icmp .eq o, 3)) (ho : 0 ≤ (pc : Int) + o) (hp : ((pc : Int) + o).toNat = pc') (hq : pc + 3 = pf) (ht : x = y → Gl p e below s R n0 Q T (mkF m pc' L r)) (hf : ¬ x = y → Gl p e below s R n0 Q T (mkF m pf L r)) : Gl p e below s R n0 Q T (mkF m pc L (.int y :: .int x :: r)) := by
  obtain ⟨locs, X, -⟩ := S; subst hq
  by_cases q : x = y
  · exact (ht q).st fun _ z => XS.icmpYes X.here C.1 rfl rfl (hb C.2.2.1 hd) rfl ((teq q).1) ho hp z
  · exact (hf q).st fun _ z => XS.icmpNo X.here C.1 rfl (hb C.2.2.1 hd) rfl ((feq q).1) z
theorem g_if_eq (C : Cx p s m meth c Z own name cod maxL ret) (S : On p l e R s m args below meth c n0 T h k n) {x : Int32} {o : Int} (hd : decode cod pc = .ok (.ifCond .eq o, 3)) (ho : 0 ≤ (pc : Int) + o) (hp : ((pc : Int) + o).toNat = pc') (hq : pc + 3 = pf) (ht : x = (0 : Int32) → Gl p e below s R n0 Q T (mkF m pc' L r)) (hf : ¬ x = (0 : Int32) → Gl p e below s R n0 Q T (mkF m pf L r)) : Gl p e below s R n0 Q T (mkF m pc L (.int x :: r)) := by
  obtain ⟨locs, X, -⟩ := S; subst hq
  by_cases q : x = (0 : Int32)
  · exact (ht q).st fun _ z => XS.ifYes X.here C.1 rfl rfl (hb C.2.2.1 hd) rfl ((if0 _ _).trans (teq q).1) ho hp z
  · exact (hf q).st fun _ z => XS.ifNo X.here C.1 rfl (hb C.2.2.1 hd) rfl ((if0 _ _).trans (feq q).1) z
theorem g_lif_eq (C : Cx p s m meth c Z own name cod maxL ret) (S : On p l e R s m args below meth c n0 T h k n) {x y : Int64} {o : Int} (hd : decode cod pc = .ok (.ifCond .eq o, 3)) (ho : 0 ≤ (pc : Int) + o) (hp : ((pc : Int) + o).toNat = pc') (hq : pc + 3 = pf) (ht : x = y → Gl p e below s R n0 Q T (mkF m pc' L r)) (hf : ¬ x = y → Gl p e below s R n0 Q T (mkF m pf L r)) : Gl p e below s R n0 Q T (mkF m pc L (.int (lcmpW x y) :: r)) := by
  obtain ⟨locs, X, -⟩ := S; subst hq
  by_cases q : x = y
  · exact (ht q).st fun _ z => XS.ifYes X.here C.1 rfl rfl (hb C.2.2.1 hd) rfl ((if0 _ _).trans (teq ((lw_eq x y).mpr q)).1) ho hp z
  · exact (hf q).st fun _ z => XS.ifNo X.here C.1 rfl (hb C.2.2.1 hd) rfl ((if0 _ _).trans (feq (fun z => q ((lw_eq x y).mp z))).1) z
theorem g_icmp_ne (C : Cx p s m meth c Z own name cod maxL ret) (S : On p l e R s m args below meth c n0 T h k n) {x y : Int32} {o : Int} (hd : decode cod pc = .ok (.if_icmp .ne o, 3)) (ho : 0 ≤ (pc : Int) + o) (hp : ((pc : Int) + o).toNat = pc') (hq : pc + 3 = pf) (ht : ¬ x = y → Gl p e below s R n0 Q T (mkF m pc' L r)) (hf : x = y → Gl p e below s R n0 Q T (mkF m pf L r)) : Gl p e below s R n0 Q T (mkF m pc L (.int y :: .int x :: r)) := by
  obtain ⟨locs, X, -⟩ := S; subst hq
  by_cases q : x = y
  · exact (hf q).st fun _ z => XS.icmpNo X.here C.1 rfl (hb C.2.2.1 hd) rfl ((teq q).2) z
  · exact (ht q).st fun _ z => XS.icmpYes X.here C.1 rfl rfl (hb C.2.2.1 hd) rfl ((feq q).2) ho hp z
theorem g_if_ne (C : Cx p s m meth c Z own name cod maxL ret) (S : On p l e R s m args below meth c n0 T h k n) {x : Int32} {o : Int} (hd : decode cod pc = .ok (.ifCond .ne o, 3)) (ho : 0 ≤ (pc : Int) + o) (hp : ((pc : Int) + o).toNat = pc') (hq : pc + 3 = pf) (ht : ¬ x = (0 : Int32) → Gl p e below s R n0 Q T (mkF m pc' L r)) (hf : x = (0 : Int32) → Gl p e below s R n0 Q T (mkF m pf L r)) : Gl p e below s R n0 Q T (mkF m pc L (.int x :: r)) := by
  obtain ⟨locs, X, -⟩ := S; subst hq
  by_cases q : x = (0 : Int32)
  · exact (hf q).st fun _ z => XS.ifNo X.here C.1 rfl (hb C.2.2.1 hd) rfl ((if0 _ _).trans (teq q).2) z
  · exact (ht q).st fun _ z => XS.ifYes X.here C.1 rfl rfl (hb C.2.2.1 hd) rfl ((if0 _ _).trans (feq q).2) ho hp z
theorem g_lif_ne (C : Cx p s m meth c Z own name cod maxL ret) (S : On p l e R s m args below meth c n0 T h k n) {x y : Int64} {o : Int} (hd : decode cod pc = .ok (.ifCond .ne o, 3)) (ho : 0 ≤ (pc : Int) + o) (hp : ((pc : Int) + o).toNat = pc') (hq : pc + 3 = pf) (ht : ¬ x = y → Gl p e below s R n0 Q T (mkF m pc' L r)) (hf : x = y → Gl p e below s R n0 Q T (mkF m pf L r)) : Gl p e below s R n0 Q T (mkF m pc L (.int (lcmpW x y) :: r)) := by
  obtain ⟨locs, X, -⟩ := S; subst hq
  by_cases q : x = y
  · exact (hf q).st fun _ z => XS.ifNo X.here C.1 rfl (hb C.2.2.1 hd) rfl ((if0 _ _).trans (teq ((lw_eq x y).mpr q)).2) z
  · exact (ht q).st fun _ z => XS.ifYes X.here C.1 rfl rfl (hb C.2.2.1 hd) rfl ((if0 _ _).trans (feq (fun z => q ((lw_eq x y).mp z))).2) ho hp z
theorem g_ifnonnull_ref (C : Cx p s m meth c Z own name cod maxL ret) (S : On p l e R s m args below meth c n0 T h k n) {o : Int} (hd : decode cod pc = .ok (.ifnonnull o, 3)) (ho : 0 ≤ (pc : Int) + o) (hp : ((pc : Int) + o).toNat = pc') (kk : Gl p e below s R n0 Q T (mkF m pc' L r)) : Gl p e below s R n0 Q T (mkF m pc L (.ref a :: r)) := by
  obtain ⟨locs, X, -⟩ := S
  exact kk.st fun _ q => XS.ifnonnullYes X.here C.1 rfl rfl (hb C.2.2.1 hd) rfl ho hp q
theorem g_ifnonnull_null (C : Cx p s m meth c Z own name cod maxL ret) (S : On p l e R s m args below meth c n0 T h k n) {o : Int} (hd : decode cod pc = .ok (.ifnonnull o, 3)) (hq : pc + 3 = pf) (kk : Gl p e below s R n0 Q T (mkF m pf L r)) : Gl p e below s R n0 Q T (mkF m pc L (.null :: r)) := by
  obtain ⟨locs, X, -⟩ := S; subst hq
  exact kk.st fun _ q => XS.ifnonnullNo X.here C.1 rfl (hb C.2.2.1 hd) rfl q
theorem g_ifnull_null (C : Cx p s m meth c Z own name cod maxL ret) (S : On p l e R s m args below meth c n0 T h k n) {o : Int} (hd : decode cod pc = .ok (.ifnull o, 3)) (ho : 0 ≤ (pc : Int) + o) (hp : ((pc : Int) + o).toNat = pc') (kk : Gl p e below s R n0 Q T (mkF m pc' L r)) : Gl p e below s R n0 Q T (mkF m pc L (.null :: r)) := by
  obtain ⟨locs, X, -⟩ := S
  exact kk.st fun _ q => XS.ifnullYes X.here C.1 rfl rfl (hb C.2.2.1 hd) rfl ho hp q
theorem g_ifnull_ref (C : Cx p s m meth c Z own name cod maxL ret) (S : On p l e R s m args below meth c n0 T h k n) {o : Int} (hd : decode cod pc = .ok (.ifnull o, 3)) (hq : pc + 3 = pf) (kk : Gl p e below s R n0 Q T (mkF m pf L r)) : Gl p e below s R n0 Q T (mkF m pc L (.ref a :: r)) := by
  obtain ⟨locs, X, -⟩ := S; subst hq
  exact kk.st fun _ q => XS.ifnullNo X.here C.1 rfl (hb C.2.2.1 hd) rfl q
theorem g_acmp_eq (C : Cx p s m meth c Z own name cod maxL ret) (S : On p l e R s m args below meth c n0 T h k n) {x y : Value} (hx : x.isRef = true) (hy : y.isRef = true) {o : Int} (hd : decode cod pc = .ok (.if_acmp .eq o, 3)) (ho : 0 ≤ (pc : Int) + o) (hp : ((pc : Int) + o).toNat = pc') (hq : pc + 3 = pf) (ht : x = y → Gl p e below s R n0 Q T (mkF m pc' L r)) (hf : ¬ x = y → Gl p e below s R n0 Q T (mkF m pf L r)) : Gl p e below s R n0 Q T (mkF m pc L (y :: x :: r)) := by
  obtain ⟨locs, X, -⟩ := S; subst hq hp
  by_cases q : x = y
  · exact (ht q).st fun _ z => Jvm.RoadKit.acmp X C.1 rfl hx hy (same := true) rfl (hb C.2.2.1 hd) rfl (decide_eq_true q) ho (by simp [acV]) z
  · exact (hf q).st fun _ z => Jvm.RoadKit.acmp X C.1 rfl hx hy (same := false) rfl (hb C.2.2.1 hd) rfl (decide_eq_false q) ho (by simp [acV]) z
theorem g_acmp_ne (C : Cx p s m meth c Z own name cod maxL ret) (S : On p l e R s m args below meth c n0 T h k n) {x y : Value} (hx : x.isRef = true) (hy : y.isRef = true) {o : Int} (hd : decode cod pc = .ok (.if_acmp .ne o, 3)) (ho : 0 ≤ (pc : Int) + o) (hp : ((pc : Int) + o).toNat = pc') (hq : pc + 3 = pf) (ht : ¬ x = y → Gl p e below s R n0 Q T (mkF m pc' L r)) (hf : x = y → Gl p e below s R n0 Q T (mkF m pf L r)) : Gl p e below s R n0 Q T (mkF m pc L (y :: x :: r)) := by
  obtain ⟨locs, X, -⟩ := S; subst hq hp
  by_cases q : x = y
  · exact (hf q).st fun _ z => Jvm.RoadKit.acmp X C.1 rfl hx hy (same := true) rfl (hb C.2.2.1 hd) rfl (decide_eq_true q) ho (by simp [acV]) z
  · exact (ht q).st fun _ z => Jvm.RoadKit.acmp X C.1 rfl hx hy (same := false) rfl (hb C.2.2.1 hd) rfl (decide_eq_false q) ho (by simp [acV]) z
theorem g_ldc (C : Cx p s m meth c Z own name cod maxL ret) (S : On p l e R s m args below meth c n0 T h k n) {v : Int32} {i : Nat} (hd : decode cod pc = .ok (.ldc i, 2)) (w : (Jvm.Cond.constant own i v).before a0 Z = true) (hp : pc + 2 = pc') (kk : Gl p e below s R n0 Q T (mkF m pc' L (.int v :: r))) : Gl p e below s R n0 Q T (mkF m pc L r) := by
  obtain ⟨locs, X, -⟩ := S; subst hp
  exact kk.st fun t q => X.ldcInt (g := mkF m pc L r) C.1 C.2.2.2.2.1 (mvT C.2.1 w) rfl (hb C.2.2.1 hd) t q
theorem g_ldc2 (C : Cx p s m meth c Z own name cod maxL ret) (S : On p l e R s m args below meth c n0 T h k n) {v : Int64} {i : Nat} (hd : decode cod pc = .ok (.ldc2_w i, 3)) (w : (Jvm.Cond.constantLong own i v).before a0 Z = true) (hp : pc + 3 = pc') (kk : Gl p e below s R n0 Q T (mkF m pc' L (.long v :: r))) : Gl p e below s R n0 Q T (mkF m pc L r) := by
  obtain ⟨locs, X, -⟩ := S; subst hp
  exact kk.st fun t q => X.ldc2Long (g := mkF m pc L r) C.1 C.2.2.2.2.1 (mvT C.2.1 w) rfl (hb C.2.2.1 hd) t q
theorem g_leave (C : Cx p s m meth c Z own name cod maxL ret) (S : On p l e R s m args below meth c n0 T h k n) {v : Option Value} (hk : k ≤ R.cells) (hn : n ≤ R.slots) (hv : meth.sig.returnType = none → v = none) (q : Q v h)
    (hst : ∀ fs, (∀ (f : JFrame) (acts : List Action), f.method = m → f.locked = none → f.entered = [] → (doReturn e (T.setTop f) acts v).1 = T.setFrames fs) → ∀ locs, Stand p l e R s m args below meth c T locs k n → Steps p.tables e below (T.setTop (mkF m pc L r)) (T.setFrames fs)) : Gl p e below s R n0 Q T (mkF m pc L r) := by
  obtain ⟨locs, X, N, eh⟩ := S
  obtain ⟨fs, hr, hrun, hended, hW, hsame⟩ := X.leave (v := v) hv C.2.2.2.2.2.2.2
  have q' : Q v (T.setFrames fs).heap := by show Q v T.heap; rw [eh]; exact q
  exact ⟨_, _, hst fs hr locs X, hrun, hended, _, _, rfl, ⟨q', N⟩, ⟨_, rfl⟩, hW, hsame.mono hk hn⟩
theorem g_return (C : Cx p s m meth c Z own name cod maxL none) (S : On p l e R s m args below meth c n0 T h k n) (hd : decode cod pc = .ok (.return_, 1)) (hk : k ≤ R.cells) (hn : n ≤ R.slots) (q : Q none h) : Gl p e below s R n0 Q T (mkF m pc L []) :=
  g_leave C S (v := none) hk hn (fun _ => rfl) q fun fs hr locs X => X.returnOut C.1 C.2.2.2.2.2.2.1 (hb C.2.2.1 hd) hr
theorem g_retv {t : FieldType} {w : Value} {i : Instr} (C : Cx p s m meth c Z own name cod maxL (some t)) (S : On p l e R s m args below meth c n0 T h k n) (hd : decode cod pc = .ok (i, 1)) (hn' : narrow t w = w) (hi : (i = .ireturn ∧ (t = .int ∨ t = .boolean ∨ t = .byte ∨ t = .char ∨ t = .short) ∧ ∃ z, w = .int z) ∨ (i = .lreturn ∧ t = .long ∧ ∃ z, w = .long z) ∨ (i = .dreturn ∧ t = .double ∧ ∃ z, w = .double z) ∨ (i = .freturn ∧ t = .float ∧ ∃ z, w = .float z) ∨ (i = .areturn ∧ t.isReference = true ∧ w.isRef = true)) (hk : k ≤ R.cells) (hn : n ≤ R.slots) (q : Q (some w) h) : Gl p e below s R n0 Q T (mkF m pc L (w :: r)) :=
  g_leave C S (v := some w) hk hn (fun z => by rw [C.2.2.2.2.2.2.1] at z; cases z) q fun fs hr locs X => retOut X C.1 C.2.2.2.2.2.2.1 hn' hi (hb C.2.2.1 hd) hr
theorem g_retI {z : Int32} (C : Cx p s m meth c Z own name cod maxL (some .int)) (S : On p l e R s m args below meth c n0 T h k n) (hd : decode cod pc = .ok (.ireturn, 1)) (hk : k ≤ R.cells) (hn : n ≤ R.slots) (q : Q (some (.int z)) h) : Gl p e below s R n0 Q T (mkF m pc L (.int z :: r)) := g_retv C S hd rfl (Or.inl ⟨rfl, Or.inl rfl, z, rfl⟩) hk hn q
theorem g_retZ {z : Int32} (C : Cx p s m meth c Z own name cod maxL (some .boolean)) (S : On p l e R s m args below meth c n0 T h k n) (hd : decode cod pc = .ok (.ireturn, 1)) (hz : z &&& 1 = z) (hk : k ≤ R.cells) (hn : n ≤ R.slots) (q : Q (some (.int z)) h) : Gl p e below s R n0 Q T (mkF m pc L (.int z :: r)) := g_retv C S hd (congrArg Value.int hz) (Or.inl ⟨rfl, Or.inr (Or.inl rfl), z, rfl⟩) hk hn q
theorem g_retJ {z : Int64} (C : Cx p s m meth c Z own name cod maxL (some .long)) (S : On p l e R s m args below meth c n0 T h k n) (hd : decode cod pc = .ok (.lreturn, 1)) (hk : k ≤ R.cells) (hn : n ≤ R.slots) (q : Q (some (.long z)) h) : Gl p e below s R n0 Q T (mkF m pc L (.long z :: r)) := g_retv C S hd rfl (Or.inr (Or.inl ⟨rfl, rfl, z, rfl⟩)) hk hn q
theorem g_retA {t : FieldType} {w : Value} (C : Cx p s m meth c Z own name cod maxL (some t)) (S : On p l e R s m args below meth c n0 T h k n) (hd : decode cod pc = .ok (.areturn, 1)) (ht : t.isReference = true) (hw : w.isRef = true) (hnw : narrow t w = w) (hk : k ≤ R.cells) (hn : n ≤ R.slots) (q : Q (some w) h) : Gl p e below s R n0 Q T (mkF m pc L (w :: r)) := g_retv C S hd hnw (Or.inr (Or.inr (Or.inr (Or.inr ⟨rfl, ht, hw⟩)))) hk hn q
theorem g_getF (C : Cx p s m meth c Z own name cod maxL ret) (S : On p l e R s m args below meth c n0 T h k n) {R0 O nm d host : String} {i : Nat} {v : Value} (hd : decode cod pc = .ok (.getfield i, 3)) (w : (Jvm.Cond.fieldLink own i R0 nm d).before a0 Z = true ∨ (Jvm.Cond.fieldLinkNest own i R0 nm d host).before a0 Z = true) (via : Via Z R0 O nm d) (F : Fld Z h a O nm d v) (hp : pc + 3 = pc') (kk : ∀ T', On p l e R s m args below meth c n0 T' h k n → Gl p e below s R n0 Q T' (mkF m pc' L (v :: r))) : Gl p e below s R n0 Q T (mkF m pc L (.ref a :: r)) := by
  obtain ⟨locs, X, N, eh⟩ := S; subst hp
  obtain ⟨T', X', eT, st⟩ := getF X C.1 C.2.1 C.2.2.2.2.1 w via eh F (g := mkF m pc L (.ref a :: r)) rfl rfl (hb C.2.2.1 hd)
  exact (kk T' ⟨locs, X', N, eT⟩).st st
theorem g_getS (C : Cx p s m meth c Z own name cod maxL ret) (S : On p l e R s m args below meth c n0 T h k n) {R0 O nm d host : String} {i : Nat} {v : Value} (hd : decode cod pc = .ok (.getstatic i, 3)) (w : (Jvm.Cond.fieldLink own i R0 nm d).before a0 Z = true ∨ (Jvm.Cond.fieldLinkNest own i R0 nm d host).before a0 Z = true) (via : Via Z R0 O nm d) (F : Sta Z h O nm d v) (hp : pc + 3 = pc') (kk : ∀ T', On p l e R s m args below meth c n0 T' h k n → Gl p e below s R n0 Q T' (mkF m pc' L (v :: r))) : Gl p e below s R n0 Q T (mkF m pc L r) := by
  obtain ⟨locs, X, N, eh⟩ := S; subst hp
  obtain ⟨T', X', eT, st⟩ := getS2 X C.1 C.2.1 C.2.2.2.2.1 w via eh F (g := mkF m pc L r) rfl (hb C.2.2.1 hd)
  exact (kk T' ⟨locs, X', N, eT⟩).st st
theorem g_putF (C : Cx p s m meth c Z own name cod maxL ret) (S : On p l e R s m args below meth c n0 T h k n) {R0 O nm d host K : String} {i kk0 : Nat} {ty : FieldType} {v old : Value} (hd : decode cod pc = .ok (.putfield i, 3)) (w : (Jvm.Cond.fieldLink own i R0 nm d).before a0 Z = true ∨ (Jvm.Cond.fieldLinkNest own i R0 nm d host).before a0 Z = true) (via : Via Z R0 O nm d) (F : Fld Z h a O nm d old) (E : Exa Z h a K) (Ly : (Jvm.Cond.lays K O nm d).before a0 Z = true ∨ ((Jvm.Cond.laysFinal K O nm d).before a0 Z = true ∧ own = O ∧ name = "<init>")) (wi : (Jvm.Cond.instantiable K kk0).before a0 Z = true) (hty : parseFieldDescriptor d = some ty) (hnr : narrow ty v = v) (hft : fits ty v = true) (ga : n0 ≤ a) (hp : pc + 3 = pc') (kk : ∀ T' h', On p l e R s m args below meth c n0 T' h' k n → Wr h h' a (Jvm.RoadKit.slotOf Z O nm d) v → Gl p e below s R n0 Q T' (mkF m pc' L r)) : Gl p e below s R n0 Q T (mkF m pc L (v :: .ref a :: r)) := by
  obtain ⟨locs, X, N, eh⟩ := S; subst hp
  obtain ⟨T', h', X', eT, W, st⟩ := putF X C.1 C.2.1 C.2.2.2.2.1 w via eh F E (Ly.imp id fun q => ⟨q.1, q.2.1, C.2.2.2.2.2.1.trans q.2.2⟩) wi hty hnr hft (g := mkF m pc L (v :: .ref a :: r)) rfl rfl (hb C.2.2.1 hd)
  exact (kk T' h' ⟨_, X', Fr.snoc X' N ga, eT⟩ W).st st
theorem g_new (C : Cx p s m meth c Z own name cod maxL ret) (S : On p l e R s m args below meth c n0 T h k n) {K : String} {i sz : Nat} (hd : decode cod pc = .ok (.new i, 3)) (w : (Jvm.Cond.classLink own i K).before a0 Z = true) (wi : (Jvm.Cond.instantiable K sz).before a0 Z = true) (wz : (Jvm.Cond.initialized K).before a0 Z = true) (hc : k + 1 ≤ R.cells) (hl : n + sz ≤ R.slots) (hp : pc + 3 = pc') (kk : ∀ T' h' a, On p l e R s m args below meth c n0 T' h' (k + 1) (n + sz) → a = h.size → Ext h h' → Exa Z h' a K → (∀ {O nm d : String} {ty : FieldType}, Laid Z a0 K O nm d → parseFieldDescriptor d = some ty → Fld Z h' a O nm d (defaultValue ty)) → Gl p e below s R n0 Q T' (mkF m pc' L (.ref a :: r))) : Gl p e below s R n0 Q T (mkF m pc L r) := by
  obtain ⟨locs, X, N, eh⟩ := S; subst hp
  obtain ⟨T', h', X', eT, E, A, D, -, st⟩ := newO X C.1 C.2.1 C.2.2.2.2.1 w wi wz eh (g := mkF m pc L r) rfl (hb C.2.2.1 hd) hc hl
  exact (kk T' h' h.size ⟨_, X', N, eT⟩ rfl E A D).st st
theorem g_initO (C : Cx p s m meth c Z own name cod maxL ret) (S : On p l e R s m args below meth c n0 T h k n) {i W : Nat} (hd : decode cod pc = .ok (.invokespecial i, 3)) (w1 : (Jvm.Cond.methodLink own i Lib.objectInit).before a0 Z = true) (w2 : (Jvm.Cond.instanceMethod Lib.objectInit).before a0 Z = true) (w3 : (Jvm.Cond.code Lib.objectInit ⟨#[0xb1]⟩ 1 none).before a0 Z = true) (hsz : L.size = maxL) (hf : 1 ≤ R.frames) (hW : (r.map fun v => v.category).sum ≤ W) (hl : W + 12 ≤ R.locals) (hp : pc + 3 = pc') (kk : ∀ T', On p l e R s m args below meth c n0 T' h k n → Gl p e below s R n0 Q T' (mkF m pc' L r)) : Gl p e below s R n0 Q T (mkF m pc L (.ref a :: r)) := by
  obtain ⟨locs, X, N, eh⟩ := S; subst hp
  obtain ⟨T', X', eT, st⟩ := initO X C.1 C.2.1 C.2.2.2.2.1 w1 w2 w3 eh (g := mkF m pc L (.ref a :: r)) rfl (hsz.trans C.2.2.2.1.symm) rfl (hb C.2.2.1 hd) hf (W := W) (by simpa using hW) hl
  exact (kk T' ⟨locs, X', N, eT⟩).st st
theorem notFace_of_inst {y : MethodName} {sz : Nat} (hZ : Z.Warmed39 s.vm) (wi : (Jvm.Cond.instantiable y.cls sz).before a0 Z = true) : NotFace s y := fun r0 h0 => by
  obtain ⟨c0, k0, i1, i2, -, i4, -⟩ := Cond.instantiable_spec (mvT (s := s) (args := #[]) hZ wi)
  have q := findClass_of_methodNamed h0
  rw [i1] at q; cases q
  exact ⟨k0, i2, (Bool.or_eq_false_iff.mp i4).1⟩
theorem g_callS (C : Cx p s m meth c Z own name cod maxL ret) (S : On p l e R s m args below meth c n0 T h k n) {y : MethodName} {bytes : ByteArray} {mx i W : Nat} {rt : Option FieldType} {rm : Room} {Q' : Option Value → Heap → Prop} {argsL stk : List Value} (hd : decode cod pc = .ok (.invokestatic i, 3)) (w1 : (Jvm.Cond.methodLink own i y).before a0 Z = true) (w2 : (Jvm.Cond.static y).before a0 Z = true) (w3 : (Jvm.Cond.initialized y.cls).before a0 Z = true) (w4 : (Jvm.Cond.code y bytes mx rt).before a0 Z = true) (hy : y.cls ≠ "java/lang/invoke/MethodHandle" ∧ y.cls ≠ "java/lang/invoke/VarHandle") (K : Con l Z y bytes mx rt rm argsL.toArray h n0 Q') (hst : stk = argsL.reverse ++ r) (hlen : ∀ sig, parseMethodDescriptor y.desc = some sig → argsL.length = sig.parameters.length) (hsz : L.size = maxL) (hW : (r.map fun v => v.category).sum ≤ W) (hf : rm.frames + 1 ≤ R.frames) (hlo : W + (mx + 11) + rm.locals ≤ R.locals) (hce : k + rm.cells ≤ R.cells) (hsl : n + rm.slots ≤ R.slots) (hp : pc + 3 = pc') (kk : ∀ T' h' v, Q' v h' → On p l e R s m args below meth c n0 T' h' (k + rm.cells) (n + rm.slots) → Gl p e below s R n0 Q T' (mkF m pc' L (v.toList ++ r))) : Gl p e below s R n0 Q T (mkF m pc L stk) := by
  obtain ⟨locs, X, N, eh⟩ := S; subst hp
  obtain ⟨v, vm1, ⟨T', L1, k1, n1⟩, -, X', ⟨Lc, hQ, l', y', z'⟩, st⟩ := Jvm.LawKit.callS X C.1 (y := y) C.2.2.2.2.1 (mvT C.2.1 w1) (mvT C.2.1 w2) (mvT C.2.1 w3) (mvT C.2.1 w4) hy (backOf (W := W) (Q := fun v h L => Q' v h ∧ Fr n0 L) (K []) C.2.1 w4 w3 hf hlo) (g := mkF m pc L stk) rfl (hsz.trans C.2.2.2.1.symm) (argsL := argsL) (rest := r) hlen hst (by simpa using hW) (hb C.2.2.1 hd) (fun _ _ => ⟨rfl, eh, hce, hsl⟩)
  dsimp only [Pt.U, Pt.locs, Pt.cells, Pt.slots] at X' st hQ l' y' z'
  subst l' y' z'
  exact (kk T' T'.heap v hQ.1 ⟨_, X', N.app hQ.2, rfl⟩).st st
theorem g_callI (C : Cx p s m meth c Z own name cod maxL ret) (S : On p l e R s m args below meth c n0 T h k n) {y : MethodName} {bytes : ByteArray} {mx i W : Nat} {rm : Room} {Q' : Option Value → Heap → Prop} {argsL stk : List Value} (hd : decode cod pc = .ok (.invokespecial i, 3)) (hy1 : y.name = "<init>") (w1 : (Jvm.Cond.methodLink own i y).before a0 Z = true) (w2 : (Jvm.Cond.instanceMethod y).before a0 Z = true) (w3 : (Jvm.Cond.initialized y.cls).before a0 Z = true) (w4 : (Jvm.Cond.code y bytes mx none).before a0 Z = true) (hy : y.cls ≠ "java/lang/invoke/MethodHandle" ∧ y.cls ≠ "java/lang/invoke/VarHandle") (K : Con l Z y bytes mx none rm (.ref a :: argsL).toArray h n0 Q') (hst : stk = argsL.reverse ++ .ref a :: r) (hlen : ∀ sig, parseMethodDescriptor y.desc = some sig → argsL.length = sig.parameters.length) (hsz : L.size = maxL) (hW : (r.map fun v => v.category).sum ≤ W) (hf : rm.frames + 1 ≤ R.frames) (hlo : W + (mx + 11) + rm.locals ≤ R.locals) (hce : k + rm.cells ≤ R.cells) (hsl : n + rm.slots ≤ R.slots) (hp : pc + 3 = pc') (kk : ∀ T' h' v, Q' v h' → On p l e R s m args below meth c n0 T' h' (k + rm.cells) (n + rm.slots) → Gl p e below s R n0 Q T' (mkF m pc' L (v.toList ++ r))) : Gl p e below s R n0 Q T (mkF m pc L stk) := by
  obtain ⟨locs, X, N, eh⟩ := S; subst hp
  obtain ⟨v, vm1, ⟨T', L1, k1, n1⟩, -, X', ⟨Lc, hQ, l', y', z'⟩, st⟩ := X.specialBack C.1 (y := y) hy1 C.2.2.2.2.1 (mvT C.2.1 w1) (mvT C.2.1 w2) (mvT C.2.1 w4) hy (backOf (W := W) (Q := fun v h L => Q' v h ∧ Fr n0 L) (K []) C.2.1 w4 w3 hf hlo) (g := mkF m pc L stk) rfl (hsz.trans C.2.2.2.1.symm) (Steps.refl _) (a := a) (argsL := argsL) (rest := r) hlen hst (by simpa using hW) (hb C.2.2.1 hd) (fun _ _ => ⟨rfl, eh, hce, hsl⟩)
  dsimp only [Pt.U, Pt.locs, Pt.cells, Pt.slots] at X' st hQ l' y' z'
  subst l' y' z'
  exact (kk T' T'.heap v hQ.1 ⟨_, X', N.app hQ.2, rfl⟩).st fun _ q => st.trans q
theorem g_callV (C : Cx p s m meth c Z own name cod maxL ret) (S : On p l e R s m args below meth c n0 T h k n) {K : String} {y z : MethodName} {bytes : ByteArray} {mx i W : Nat} {rt : Option FieldType} {rm : Room} {Q' : Option Value → Heap → Prop} {argsL stk : List Value} (hd : decode cod pc = .ok (.invokevirtual i, 3)) (w1 : (Jvm.Cond.methodLink own i y).before a0 Z = true) (w2 : (Jvm.Cond.declares y).before a0 Z = true) (hnf : NotFace s y) (w5 : (Jvm.Cond.selects K y z).before a0 Z = true) (w6 : (Jvm.Cond.instanceMethod z).before a0 Z = true) (w3 : (Jvm.Cond.initialized z.cls).before a0 Z = true) (w4 : (Jvm.Cond.code z bytes mx rt).before a0 Z = true) (hy : y.cls ≠ "java/lang/invoke/MethodHandle" ∧ y.cls ≠ "java/lang/invoke/VarHandle") (hyK : y.cls = K) (E : Exa Z h a K) (Kc : Con l Z z bytes mx rt rm (.ref a :: argsL).toArray h n0 Q') (hst : stk = argsL.reverse ++ .ref a :: r) (hlen : ∀ sig, parseMethodDescriptor y.desc = some sig → argsL.length = sig.parameters.length) (hsz : L.size = maxL) (hW : (r.map fun v => v.category).sum ≤ W) (hf : rm.frames + 1 ≤ R.frames) (hlo : W + (mx + 11) + rm.locals ≤ R.locals) (hce : k + rm.cells ≤ R.cells) (hsl : n + rm.slots ≤ R.slots) (hp : pc + 3 = pc') (kk : ∀ T' h' v, Q' v h' → On p l e R s m args below meth c n0 T' h' (k + rm.cells) (n + rm.slots) → Gl p e below s R n0 Q T' (mkF m pc' L (v.toList ++ r))) : Gl p e below s R n0 Q T (mkF m pc L stk) := by
  obtain ⟨locs, X, N, eh⟩ := S; subst hp hyK
  obtain ⟨cq, kq, qa, qb, qc⟩ := isOf C.2.1 eh E
  obtain ⟨v, vm1, ⟨T', L1, k1, n1⟩, -, X', ⟨Lc, hQ, l', y', z'⟩, st⟩ := X.virtualBack C.1 (y := y) (z := z) C.2.2.2.2.1 (mvT C.2.1 w1) (mvT C.2.1 w2) hnf (mvT C.2.1 w5) (mvT C.2.1 w6) hy (backOf (W := W) (Q := fun v h L => Q' v h ∧ Fr n0 L) (Kc []) C.2.1 w4 w3 hf hlo) qa qc (g := mkF m pc L stk) rfl (hsz.trans C.2.2.2.1.symm) (Steps.refl _) (argsL := argsL) (rest := r) hlen hst (by simpa using hW) (hb C.2.2.1 hd) (fun _ _ => ⟨rfl, eh, hce, hsl⟩)
  dsimp only [Pt.U, Pt.locs, Pt.cells, Pt.slots] at X' st hQ l' y' z'
  subst l' y' z'
  exact (kk T' T'.heap v hQ.1 ⟨_, X', N.app hQ.2, rfl⟩).st fun _ q => st.trans q
theorem g_callP (C : Cx p s m meth c Z own name cod maxL ret) (S : On p l e R s m args below meth c n0 T h k n) {y : MethodName} {bytes : ByteArray} {mx i W sz : Nat} {rt : Option FieldType} {rm : Room} {Q' : Option Value → Heap → Prop} {argsL stk : List Value} (hd : decode cod pc = .ok (.invokevirtual i, 3)) (w1 : (Jvm.Cond.methodLink own i y).before a0 Z = true) (w2 : (Jvm.Cond.instanceMethod y).before a0 Z = true) (wp : (Jvm.Cond.privateMethod y).before a0 Z = true) (wi : (Jvm.Cond.instantiable y.cls sz).before a0 Z = true) (w3 : (Jvm.Cond.initialized y.cls).before a0 Z = true) (w4 : (Jvm.Cond.code y bytes mx rt).before a0 Z = true) (hy : y.cls ≠ "java/lang/invoke/MethodHandle" ∧ y.cls ≠ "java/lang/invoke/VarHandle") (E : Exa Z h a y.cls) (Kc : Con l Z y bytes mx rt rm (.ref a :: argsL).toArray h n0 Q') (hst : stk = argsL.reverse ++ .ref a :: r) (hlen : ∀ sig, parseMethodDescriptor y.desc = some sig → argsL.length = sig.parameters.length) (hsz : L.size = maxL) (hW : (r.map fun v => v.category).sum ≤ W) (hf : rm.frames + 1 ≤ R.frames) (hlo : W + (mx + 11) + rm.locals ≤ R.locals) (hce : k + rm.cells ≤ R.cells) (hsl : n + rm.slots ≤ R.slots) (hp : pc + 3 = pc') (kk : ∀ T' h' v, Q' v h' → On p l e R s m args below meth c n0 T' h' (k + rm.cells) (n + rm.slots) → Gl p e below s R n0 Q T' (mkF m pc' L (v.toList ++ r))) : Gl p e below s R n0 Q T (mkF m pc L stk) := by
  obtain ⟨locs, X, N, eh⟩ := S; subst hp
  obtain ⟨cq, q1, q2⟩ := E.cell
  obtain ⟨c0, k0, i1, i2, i3, i4, -⟩ := Cond.instantiable_spec (mvT (s := s) (args := args) C.2.1 wi)
  have hpr := Cond.privateMethod_at (mvP (s := s) (args := args) C.2.1 wp)
  have hs := selects_self_of_private (args := args) i1 i2 (Bool.or_eq_false_iff.mp i4).1 hpr (mvT C.2.1 w2) hy
  obtain ⟨v, vm1, ⟨T', L1, k1, n1⟩, -, X', ⟨Lc, hQ, l', y', z'⟩, st⟩ := X.privateBack C.1 (y := y) C.2.2.2.2.1 (mvT C.2.1 w1) (mvT C.2.1 w2) hs hpr (mvT C.2.1 w4) hy (backOf (W := W) (Q := fun v h L => Q' v h ∧ Fr n0 L) (Kc []) C.2.1 w4 w3 hf hlo) (g := mkF m pc L stk) rfl (hsz.trans C.2.2.2.1.symm) (Steps.refl _) (a := a) (by rw [eh]; exact q1) q2 (argsL := argsL) (rest := r) hlen hst (by simpa using hW) (hb C.2.2.1 hd) (fun _ _ => ⟨rfl, eh, hce, hsl⟩)
  dsimp only [Pt.U, Pt.locs, Pt.cells, Pt.slots] at X' st hQ l' y' z'
  subst l' y' z'
  exact (kk T' T'.heap v hQ.1 ⟨_, X', N.app hQ.2, rfl⟩).st fun _ q => st.trans q
/-- an array: its length and what each place holds -/
def Ary (Z : State) (h : Heap) (a : Addr) (ty : FieldType) (n : Nat) (f : Nat → Value) : Prop := ∃ c : Cell, Arr Z h a c ty ∧ c.slots.size = n ∧ ∀ i, i < n → c.slots[i]? = some (f i)
variable {ty : FieldType} {N i : Nat} {f : Nat → Value} {v : Value} {sl : Nat} {j x : Int32} {ws : List Addr}
theorem Ary.lt (A : Ary Z h a ty N f) : a < h.size := by obtain ⟨c, A, -⟩ := A; exact A.lt
theorem Ary.ext (A : Ary Z h a ty N f) (E : Ext h h') : Ary Z h' a ty N f := by obtain ⟨c, A, q⟩ := A; exact ⟨c, A.ext E, q⟩
theorem Ary.other (A : Ary Z h a ty N f) (W : Wr h h' b sl v) (q : a ≠ b) : Ary Z h' a ty N f := by obtain ⟨c, A, z⟩ := A; exact ⟨c, A.other W q, z⟩
theorem Ary.keep (A : Ary Z h a ty N f) (K : Keep h h' ws) (q : a ∉ ws) : Ary Z h' a ty N f := by obtain ⟨c, A, z⟩ := A; exact ⟨c, ⟨K.2.1 a c A.1 q, A.2⟩, z⟩
theorem Ary.cg {f' : Nat → Value} (A : Ary Z h a ty N f) (q : ∀ i, i < N → f i = f' i) : Ary Z h a ty N f' := by obtain ⟨c, A, s, z⟩ := A; exact ⟨c, A, s, fun i hi => by rw [← q i hi]; exact z i hi⟩
theorem Ary.same (A : Ary Z h a ty N f) (W : Wr h h' a i v) : Ary Z h' a ty N (fun q => if q = i then v else f q) := by
  obtain ⟨c, A, s, z⟩ := A
  refine ⟨_, A.same W, by rw [sz_set]; exact s, fun q hq => ?_⟩
  by_cases u : q = i
  · subst u; simp [Cell.setSlot, s, hq]
  · simp only [u, if_false]; simp only [Cell.setSlot]; rw [Array.getElem?_setIfInBounds_ne (fun w => u w.symm)]; exact z q hq
theorem idx_nat {c : Cell} (hj : j.toInt = (i : Int)) (hi : i < c.slots.size) : ¬ (j < 0 ∨ c.slots.size ≤ j.toNatClampNeg) ∧ j.toNatClampNeg = i := by
  have e : j.toNatClampNeg = i := by simp only [Int32.toNatClampNeg, hj]; omega
  refine ⟨?_, e⟩
  rw [e, Int32.lt_iff_toInt_lt, hj]
  have : (0 : Int32).toInt = 0 := rfl
  omega
theorem g_iaload (C : Cx p s m meth c Z own name cod maxL ret) (S : On p l e R s m args below meth c n0 T h k n) (hd : decode cod pc = .ok (.iaload, 1)) (A : Ary Z h a .int N f) (hj : j.toInt = (i : Int)) (hi : i < N) (hv : f i = v) (hp : pc + 1 = pc') (kk : Gl p e below s R n0 Q T (mkF m pc' L (v :: r))) : Gl p e below s R n0 Q T (mkF m pc L (.int j :: .ref a :: r)) := by
  obtain ⟨locs, X, N, eh⟩ := S; subst hp
  obtain ⟨cl, A, sz, z⟩ := A
  obtain ⟨q1, q2⟩ := idx_nat (c := cl) hj (by rw [sz]; exact hi)
  exact kk.st fun t q => X.iaload (g := mkF m pc L (.int j :: .ref a :: r)) C.1 (by rw [eh]; exact A.1) (State.isArrayOf_alike C.2.1.alike A.2.1) A.2.2 q1 (by rw [q2, ← hv]; exact z i hi) rfl rfl (hb C.2.2.1 hd) t q
theorem g_laload (C : Cx p s m meth c Z own name cod maxL ret) (S : On p l e R s m args below meth c n0 T h k n) (hd : decode cod pc = .ok (.laload, 1)) (A : Ary Z h a .long N f) (hj : j.toInt = (i : Int)) (hi : i < N) (hv : f i = v) (hp : pc + 1 = pc') (kk : Gl p e below s R n0 Q T (mkF m pc' L (v :: r))) : Gl p e below s R n0 Q T (mkF m pc L (.int j :: .ref a :: r)) := by
  obtain ⟨locs, X, N, eh⟩ := S; subst hp
  obtain ⟨cl, A, sz, z⟩ := A
  obtain ⟨q1, q2⟩ := idx_nat (c := cl) hj (by rw [sz]; exact hi)
  exact kk.st fun t q => X.laload (g := mkF m pc L (.int j :: .ref a :: r)) C.1 (by rw [eh]; exact A.1) (State.isArrayOf_alike C.2.1.alike A.2.1) A.2.2 q1 (by rw [q2, ← hv]; exact z i hi) rfl rfl (hb C.2.2.1 hd) t q
theorem g_caload (C : Cx p s m meth c Z own name cod maxL ret) (S : On p l e R s m args below meth c n0 T h k n) (hd : decode cod pc = .ok (.caload, 1)) (A : Ary Z h a .char N f) (hj : j.toInt = (i : Int)) (hi : i < N) (hv : f i = v) (hp : pc + 1 = pc') (kk : Gl p e below s R n0 Q T (mkF m pc' L (v :: r))) : Gl p e below s R n0 Q T (mkF m pc L (.int j :: .ref a :: r)) := by
  obtain ⟨locs, X, N, eh⟩ := S; subst hp
  obtain ⟨cl, A, sz, z⟩ := A
  obtain ⟨q1, q2⟩ := idx_nat (c := cl) hj (by rw [sz]; exact hi)
  exact kk.st fun t q => X.caload (g := mkF m pc L (.int j :: .ref a :: r)) C.1 (by rw [eh]; exact A.1) (State.isArrayOf_alike C.2.1.alike A.2.1) A.2.2 q1 (by rw [q2, ← hv]; exact z i hi) rfl rfl (hb C.2.2.1 hd) t q
theorem g_saload (C : Cx p s m meth c Z own name cod maxL ret) (S : On p l e R s m args below meth c n0 T h k n) (hd : decode cod pc = .ok (.saload, 1)) (A : Ary Z h a .short N f) (hj : j.toInt = (i : Int)) (hi : i < N) (hv : f i = v) (hp : pc + 1 = pc') (kk : Gl p e below s R n0 Q T (mkF m pc' L (v :: r))) : Gl p e below s R n0 Q T (mkF m pc L (.int j :: .ref a :: r)) := by
  obtain ⟨locs, X, N, eh⟩ := S; subst hp
  obtain ⟨cl, A, sz, z⟩ := A
  obtain ⟨q1, q2⟩ := idx_nat (c := cl) hj (by rw [sz]; exact hi)
  exact kk.st fun t q => X.saload (g := mkF m pc L (.int j :: .ref a :: r)) C.1 (by rw [eh]; exact A.1) (State.isArrayOf_alike C.2.1.alike A.2.1) A.2.2 q1 (by rw [q2, ← hv]; exact z i hi) rfl rfl (hb C.2.2.1 hd) t q
theorem g_baloadB (C : Cx p s m meth c Z own name cod maxL ret) (S : On p l e R s m args below meth c n0 T h k n) (hd : decode cod pc = .ok (.baload, 1)) (A : Ary Z h a .byte N f) (hj : j.toInt = (i : Int)) (hi : i < N) (hv : f i = v) (hp : pc + 1 = pc') (kk : Gl p e below s R n0 Q T (mkF m pc' L (v :: r))) : Gl p e below s R n0 Q T (mkF m pc L (.int j :: .ref a :: r)) := by
  obtain ⟨locs, X, N, eh⟩ := S; subst hp
  obtain ⟨cl, A, sz, z⟩ := A
  obtain ⟨q1, q2⟩ := idx_nat (c := cl) hj (by rw [sz]; exact hi)
  exact kk.st fun t q => X.baloadBytes (g := mkF m pc L (.int j :: .ref a :: r)) C.1 (by rw [eh]; exact A.1) (State.isArrayOf_alike C.2.1.alike A.2.1) A.2.2 q1 (by rw [q2, ← hv]; exact z i hi) rfl rfl (hb C.2.2.1 hd) t q
theorem g_baloadZ (C : Cx p s m meth c Z own name cod maxL ret) (S : On p l e R s m args below meth c n0 T h k n) (hd : decode cod pc = .ok (.baload, 1)) (A : Ary Z h a .boolean N f) (hj : j.toInt = (i : Int)) (hi : i < N) (hv : f i = v) (hp : pc + 1 = pc') (kk : Gl p e below s R n0 Q T (mkF m pc' L (v :: r))) : Gl p e below s R n0 Q T (mkF m pc L (.int j :: .ref a :: r)) := by
  obtain ⟨locs, X, N, eh⟩ := S; subst hp
  obtain ⟨cl, A, sz, z⟩ := A
  obtain ⟨q1, q2⟩ := idx_nat (c := cl) hj (by rw [sz]; exact hi)
  exact kk.st fun t q => X.baloadBooleans (g := mkF m pc L (.int j :: .ref a :: r)) C.1 (by rw [eh]; exact A.1) (State.isArrayOf_alike C.2.1.alike A.2.1) A.2.2 q1 (by rw [q2, ← hv]; exact z i hi) rfl rfl (hb C.2.2.1 hd) t q
theorem g_daload (C : Cx p s m meth c Z own name cod maxL ret) (S : On p l e R s m args below meth c n0 T h k n) (hd : decode cod pc = .ok (.daload, 1)) (A : Ary Z h a .double N f) (hj : j.toInt = (i : Int)) (hi : i < N) (hv : f i = v) (hp : pc + 1 = pc') (kk : Gl p e below s R n0 Q T (mkF m pc' L (v :: r))) : Gl p e below s R n0 Q T (mkF m pc L (.int j :: .ref a :: r)) := by
  obtain ⟨locs, X, N, eh⟩ := S; subst hp
  obtain ⟨cl, A, sz, z⟩ := A
  obtain ⟨q1, q2⟩ := idx_nat (c := cl) hj (by rw [sz]; exact hi)
  exact kk.st fun t q => X.daload (g := mkF m pc L (.int j :: .ref a :: r)) C.1 (by rw [eh]; exact A.1) (State.isArrayOf_alike C.2.1.alike A.2.1) A.2.2 q1 (by rw [q2, ← hv]; exact z i hi) rfl rfl (hb C.2.2.1 hd) t q
theorem g_aaload (C : Cx p s m meth c Z own name cod maxL ret) (S : On p l e R s m args below meth c n0 T h k n) (hd : decode cod pc = .ok (.aaload, 1)) (A : Ary Z h a ty N f) (hty : ty.isReference = true) (hj : j.toInt = (i : Int)) (hi : i < N) (hv : f i = v) (hp : pc + 1 = pc') (kk : Gl p e below s R n0 Q T (mkF m pc' L (v :: r))) : Gl p e below s R n0 Q T (mkF m pc L (.int j :: .ref a :: r)) := by
  obtain ⟨locs, X, N, eh⟩ := S; subst hp
  obtain ⟨cl, A, sz, z⟩ := A
  obtain ⟨q1, q2⟩ := idx_nat (c := cl) hj (by rw [sz]; exact hi)
  exact kk.st fun t q => X.aaload (g := mkF m pc L (.int j :: .ref a :: r)) C.1 (by rw [eh]; exact A.1) (State.isArrayOf_alike C.2.1.alike A.2.1) hty A.2.2 q1 (by rw [q2, ← hv]; exact z i hi) rfl rfl (hb C.2.2.1 hd) t q
theorem g_arraylength (C : Cx p s m meth c Z own name cod maxL ret) (S : On p l e R s m args below meth c n0 T h k n) (hd : decode cod pc = .ok (.arraylength, 1)) (A : Ary Z h a ty N f) (hx : N.toInt32 = x) (hp : pc + 1 = pc') (kk : Gl p e below s R n0 Q T (mkF m pc' L (.int x :: r))) : Gl p e below s R n0 Q T (mkF m pc L (.ref a :: r)) := by
  obtain ⟨locs, X, _, eh⟩ := S; subst hp
  obtain ⟨cl, A, sz, z⟩ := A
  subst hx
  rw [← sz] at kk
  exact kk.st fun t q => X.arraylength (g := mkF m pc L (.ref a :: r)) C.1 (by rw [eh]; exact A.1) (State.isArrayOf_alike C.2.1.alike A.2.1) rfl rfl (hb C.2.2.1 hd) t q
theorem g_iastore (C : Cx p s m meth c Z own name cod maxL ret) (S : On p l e R s m args below meth c n0 T h k n) {y : Int32} (hd : decode cod pc = .ok (.iastore, 1)) (A : Ary Z h a .int N f) (hj : j.toInt = (i : Int)) (hi : i < N) (ga : n0 ≤ a) (hp : pc + 1 = pc') (kk : ∀ T' h', On p l e R s m args below meth c n0 T' h' k n → Wr h h' a i (.int y) → Ary Z h' a .int N (fun q => if q = i then .int y else f q) → Gl p e below s R n0 Q T' (mkF m pc' L r)) : Gl p e below s R n0 Q T (mkF m pc L (.int y :: .int j :: .ref a :: r)) := by
  obtain ⟨locs, X, N, eh⟩ := S; subst hp
  have A0 := A
  obtain ⟨cl, A, sz, z⟩ := A
  obtain ⟨q1, q2⟩ := idx_nat (c := cl) hj (by rw [sz]; exact hi)
  obtain ⟨T', h', X', eT, W, st⟩ := stI X C.1 C.2.1 eh A q1 (g := mkF m pc L (.int y :: .int j :: .ref a :: r)) rfl rfl (hb C.2.2.1 hd)
  have N' := Fr.snoc X' N ga
  rw [q2] at W
  exact (kk T' h' ⟨_, X', N', eT⟩ W (A0.same W)).st st
theorem g_lastore (C : Cx p s m meth c Z own name cod maxL ret) (S : On p l e R s m args below meth c n0 T h k n) {y : Int64} (hd : decode cod pc = .ok (.lastore, 1)) (A : Ary Z h a .long N f) (hj : j.toInt = (i : Int)) (hi : i < N) (ga : n0 ≤ a) (hp : pc + 1 = pc') (kk : ∀ T' h', On p l e R s m args below meth c n0 T' h' k n → Wr h h' a i (.long y) → Ary Z h' a .long N (fun q => if q = i then .long y else f q) → Gl p e below s R n0 Q T' (mkF m pc' L r)) : Gl p e below s R n0 Q T (mkF m pc L (.long y :: .int j :: .ref a :: r)) := by
  obtain ⟨locs, X, N, eh⟩ := S; subst hp
  have A0 := A
  obtain ⟨cl, A, sz, z⟩ := A
  obtain ⟨q1, q2⟩ := idx_nat (c := cl) hj (by rw [sz]; exact hi)
  obtain ⟨T', h', X', eT, W, st⟩ := stJ X C.1 C.2.1 eh A q1 (g := mkF m pc L (.long y :: .int j :: .ref a :: r)) rfl rfl (hb C.2.2.1 hd)
  have N' := Fr.snoc X' N ga
  rw [q2] at W
  exact (kk T' h' ⟨_, X', N', eT⟩ W (A0.same W)).st st
theorem g_castore (C : Cx p s m meth c Z own name cod maxL ret) (S : On p l e R s m args below meth c n0 T h k n) {y : Int32} (hd : decode cod pc = .ok (.castore, 1)) (A : Ary Z h a .char N f) (hj : j.toInt = (i : Int)) (hi : i < N) (ga : n0 ≤ a) (hp : pc + 1 = pc') (kk : ∀ T' h', On p l e R s m args below meth c n0 T' h' k n → Wr h h' a i (.int (nar .char y)) → Ary Z h' a .char N (fun q => if q = i then .int (nar .char y) else f q) → Gl p e below s R n0 Q T' (mkF m pc' L r)) : Gl p e below s R n0 Q T (mkF m pc L (.int y :: .int j :: .ref a :: r)) := by
  obtain ⟨locs, X, N, eh⟩ := S; subst hp
  have A0 := A
  obtain ⟨cl, A, sz, z⟩ := A
  obtain ⟨q1, q2⟩ := idx_nat (c := cl) hj (by rw [sz]; exact hi)
  obtain ⟨T', h', X', eT, W, st⟩ := stC X C.1 C.2.1 eh A q1 (g := mkF m pc L (.int y :: .int j :: .ref a :: r)) rfl rfl (hb C.2.2.1 hd)
  have N' := Fr.snoc X' N ga
  rw [q2] at W
  exact (kk T' h' ⟨_, X', N', eT⟩ W (A0.same W)).st st
theorem g_bastoreB (C : Cx p s m meth c Z own name cod maxL ret) (S : On p l e R s m args below meth c n0 T h k n) {y : Int32} (hd : decode cod pc = .ok (.bastore, 1)) (A : Ary Z h a .byte N f) (hj : j.toInt = (i : Int)) (hi : i < N) (ga : n0 ≤ a) (hp : pc + 1 = pc') (kk : ∀ T' h', On p l e R s m args below meth c n0 T' h' k n → Wr h h' a i (.int (nar .byte y)) → Ary Z h' a .byte N (fun q => if q = i then .int (nar .byte y) else f q) → Gl p e below s R n0 Q T' (mkF m pc' L r)) : Gl p e below s R n0 Q T (mkF m pc L (.int y :: .int j :: .ref a :: r)) := by
  obtain ⟨locs, X, N, eh⟩ := S; subst hp
  have A0 := A
  obtain ⟨cl, A, sz, z⟩ := A
  obtain ⟨q1, q2⟩ := idx_nat (c := cl) hj (by rw [sz]; exact hi)
  obtain ⟨T', h', X', eT, W, st⟩ := stB X C.1 C.2.1 eh A q1 (g := mkF m pc L (.int y :: .int j :: .ref a :: r)) rfl rfl (hb C.2.2.1 hd)
  have N' := Fr.snoc X' N ga
  rw [q2] at W
  exact (kk T' h' ⟨_, X', N', eT⟩ W (A0.same W)).st st
theorem g_bastoreZ (C : Cx p s m meth c Z own name cod maxL ret) (S : On p l e R s m args below meth c n0 T h k n) {y : Int32} (hd : decode cod pc = .ok (.bastore, 1)) (A : Ary Z h a .boolean N f) (hj : j.toInt = (i : Int)) (hi : i < N) (ga : n0 ≤ a) (hp : pc + 1 = pc') (kk : ∀ T' h', On p l e R s m args below meth c n0 T' h' k n → Wr h h' a i (.int (nar .boolean y)) → Ary Z h' a .boolean N (fun q => if q = i then .int (nar .boolean y) else f q) → Gl p e below s R n0 Q T' (mkF m pc' L r)) : Gl p e below s R n0 Q T (mkF m pc L (.int y :: .int j :: .ref a :: r)) := by
  obtain ⟨locs, X, N, eh⟩ := S; subst hp
  have A0 := A
  obtain ⟨cl, A, sz, z⟩ := A
  obtain ⟨q1, q2⟩ := idx_nat (c := cl) hj (by rw [sz]; exact hi)
  obtain ⟨T', h', X', eT, W, st⟩ := stZ X C.1 C.2.1 eh A q1 (g := mkF m pc L (.int y :: .int j :: .ref a :: r)) rfl rfl (hb C.2.2.1 hd)
  have N' := Fr.snoc X' N ga
  rw [q2] at W
  exact (kk T' h' ⟨_, X', N', eT⟩ W (A0.same W)).st st
theorem g_dastore (C : Cx p s m meth c Z own name cod maxL ret) (S : On p l e R s m args below meth c n0 T h k n) {y : UInt64} (hd : decode cod pc = .ok (.dastore, 1)) (A : Ary Z h a .double N f) (hj : j.toInt = (i : Int)) (hi : i < N) (ga : n0 ≤ a) (hp : pc + 1 = pc') (kk : ∀ T' h', On p l e R s m args below meth c n0 T' h' k n → Wr h h' a i (.double y) → Ary Z h' a .double N (fun q => if q = i then .double y else f q) → Gl p e below s R n0 Q T' (mkF m pc' L r)) : Gl p e below s R n0 Q T (mkF m pc L (.double y :: .int j :: .ref a :: r)) := by
  obtain ⟨locs, X, N, eh⟩ := S; subst hp
  have A0 := A
  obtain ⟨cl, A, sz, z⟩ := A
  obtain ⟨q1, q2⟩ := idx_nat (c := cl) hj (by rw [sz]; exact hi)
  obtain ⟨T', h', X', eT, W, st⟩ := stD X C.1 C.2.1 eh A q1 (g := mkF m pc L (.double y :: .int j :: .ref a :: r)) rfl rfl (hb C.2.2.1 hd)
  have N' := Fr.snoc X' N ga
  rw [q2] at W
  exact (kk T' h' ⟨_, X', N', eT⟩ W (A0.same W)).st st
theorem g_newarray (C : Cx p s m meth c Z own name cod maxL ret) (S : On p l e R s m args below meth c n0 T h k n) {aty : ArrayType} {cap : Nat} (hd : decode cod pc = .ok (.newarray aty, 2)) (w : (Jvm.Cond.arrayClass (newarray.typeOf aty)).before a0 Z = true) (hj : j.toInt = (N : Int)) (hcap : N ≤ cap) (hbig : cap * 8 ≤ 536870912) (hc : k + 1 ≤ R.cells) (hl : n + cap ≤ R.slots) (hp : pc + 2 = pc') (kk : ∀ T' h' a, On p l e R s m args below meth c n0 T' h' (k + 1) (n + cap) → a = h.size → Ext h h' → Ary Z h' a (newarray.typeOf aty) N (fun _ => defaultValue (newarray.typeOf aty)) → Gl p e below s R n0 Q T' (mkF m pc' L (.ref a :: r))) : Gl p e below s R n0 Q T (mkF m pc L (.int j :: r)) := by
  obtain ⟨locs, X, Nn, eh⟩ := S; subst hp
  have e1 : j.toNatClampNeg = N := by simp only [Int32.toNatClampNeg, hj]; omega
  have e2 : ¬ j < 0 := by rw [Int32.lt_iff_toInt_lt, hj]; have : (0 : Int32).toInt = 0 := rfl; omega
  obtain ⟨T', h', cA, X', eT, E, A, st⟩ := newP X C.1 C.2.1 w eh (g := mkF m pc L (.int j :: r)) rfl (hb C.2.2.1 hd) rfl e2 (cap := cap) (by rw [e1]; exact hcap) hbig hc hl
  refine (kk T' h' h.size ⟨_, X', Nn, eT⟩ rfl E ⟨_, A, by rw [sz_new]; exact e1, fun i hi => ?_⟩).st st
  simp [newA, e1, hi]
theorem ge_of {z : Nat} (e1 : a = z) (q : n0 ≤ z) : n0 ≤ a := e1 ▸ q
theorem ne_new (e1 : b = h.size) (q : a < h.size) : a ≠ b := fun e => by rw [e, e1] at q; exact Nat.lt_irrefl _ q
end OwnKit
/-! ## HuffmanCode in plain numbers: l i the length of the i-th value, V i the value, n how many -/
def hCnt (l : Nat → Nat) : Nat → Nat → Nat
  | 0, _ => 0
  | i + 1, L => hCnt l i L + (if L = l i then 1 else 0)
def hLng (l : Nat → Nat) : Nat → Nat
  | 0 => 0
  | i + 1 => if hLng l i < l i then l i else hLng l i
def hFs (c : Nat → Nat) : Nat → Nat
  | 0 => 0
  | L + 1 => hFs c L + c L
def hFc (c : Nat → Nat) : Nat → Int64
  | 0 => 0
  | L + 1 => (hFc c L + (Int32.ofNat (c L)).toInt64) <<< ((1 : Int32) &&& 0x3f).toInt64
def hPos (l : Nat → Nat) (n i : Nat) : Nat := hFs (hCnt l n) (l i) + hCnt l i (l i)
def hSid (l : Nat → Nat) (n : Nat) : Nat → Nat → Nat
  | 0, _ => n
  | i + 1, q => if q = hPos l n i then i else hSid l n i q
def hCk (c : Nat → Nat) : Nat → Nat → Int → Int → Bool
  | 0, _, _, left => decide (left = 0)
  | d + 1, L, free, left => decide (0 ≤ (if 0 < L then 2 * free else free) - (c L : Int)) && decide ((if 0 < L then 2 * free else free) - (c L : Int) ≤ left - (c L : Int)) && hCk c d (L + 1) ((if 0 < L then 2 * free else free) - (c L : Int)) (left - (c L : Int))
def hGood (l : Nat → Nat) (n : Nat) : Bool := decide (0 < n) && decide (n ≤ 64) && (List.range n).all (fun i => decide (l i ≤ 63)) && hCk (hCnt l n) (hLng l n + 1) 0 1 n && (List.range n).all (fun i => decide (hPos l n i < 256)) && (List.range n).all (fun q => decide (hSid l n n q < n))
theorem hGood_spec {l : Nat → Nat} {n : Nat} (h : hGood l n = true) : 0 < n ∧ n ≤ 64 ∧ (∀ i, i < n → l i ≤ 63) ∧ hCk (hCnt l n) (hLng l n + 1) 0 1 n = true ∧ (∀ i, i < n → hPos l n i < 256) ∧ (∀ q, q < n → hSid l n n q < n) := by
  simp only [hGood, Bool.and_eq_true, decide_eq_true_eq, List.all_eq_true, List.mem_range] at h
  obtain ⟨⟨⟨⟨⟨h1, h2⟩, h3⟩, h4⟩, h5⟩, h6⟩ := h
  exact ⟨h1, h2, h3, h4, h5, h6⟩
theorem hCnt_le (l : Nat → Nat) (L : Nat) : ∀ i, hCnt l i L ≤ i
  | 0 => Nat.le_refl _
  | i + 1 => by show hCnt l i L + _ ≤ i + 1; have := hCnt_le l L i; split <;> omega
theorem hLng_ge (l : Nat → Nat) : ∀ n i, i < n → l i ≤ hLng l n
  | 0, _, h => absurd h (Nat.not_lt_zero _)
  | n + 1, i, h => by
    show l i ≤ if hLng l n < l n then l n else hLng l n
    rcases Nat.lt_or_ge i n with q | q
    · have := hLng_ge l n i q; split <;> omega
    · have : i = n := by omega
      subst this; split <;> omega
theorem hLng_le {l : Nat → Nat} {k : Nat} : ∀ n, (∀ i, i < n → l i ≤ k) → hLng l n ≤ k
  | 0, _ => Nat.zero_le _
  | n + 1, h => by
    show (if hLng l n < l n then l n else hLng l n) ≤ k
    have a := hLng_le n fun i hi => h i (by omega)
    have b := h n (by omega)
    split <;> omega
theorem o32 {k : Nat} (h : k < 2 ^ 31) : (Int32.ofNat k).toInt = (k : Int) := Int32.toInt_ofNat_small h
theorem o32_succ (k : Nat) : Int32.ofNat k + 1 = Int32.ofNat (k + 1) := (Int32.ofNat_add k 1).symm
theorem o32_add (j k : Nat) : Int32.ofNat j + Int32.ofNat k = Int32.ofNat (j + k) := (Int32.ofNat_add j k).symm
theorem o32_sub (j k : Nat) : Int32.ofNat (j + k) - Int32.ofNat k = Int32.ofNat j := by rw [Int32.ofNat_add, Int32.add_sub_cancel]
theorem o32_pred (k : Nat) : Int32.ofNat (k + 1) - 1 = Int32.ofNat k := o32_sub k 1
theorem o32_lt {j k : Nat} (hj : j < 2 ^ 31) (hk : k < 2 ^ 31) : (Int32.ofNat j < Int32.ofNat k) ↔ j < k := by rw [Int32.lt_iff_toInt_lt, o32 hj, o32 hk]; omega
theorem o32_inj {j k : Nat} (hj : j < 2 ^ 31) (hk : k < 2 ^ 31) : (Int32.ofNat j = Int32.ofNat k) ↔ j = k := by rw [← Int32.toInt_inj, o32 hj, o32 hk]; omega
theorem o32_max (l : Nat → Nat) (i : Nat) (h1 : hLng l i < 2 ^ 31) (h2 : l i < 2 ^ 31) : (if Int32.ofNat (hLng l i) < Int32.ofNat (l i) then Int32.ofNat (l i) else Int32.ofNat (hLng l i)) = Int32.ofNat (hLng l (i + 1)) := by
  show _ = Int32.ofNat (if hLng l i < l i then l i else hLng l i)
  by_cases q : hLng l i < l i
  · rw [if_pos ((o32_lt h1 h2).mpr q), if_pos q]
  · rw [if_neg (fun z => q ((o32_lt h1 h2).mp z)), if_neg q]
theorem o64 {k : Nat} (h : k < 2 ^ 31) : (Int32.ofNat k).toInt64.toInt = (k : Int) := by rw [Jvm.Kit.i64_of_i32, o32 h]
theorem hfr1 {fr : Int64} {free : Int} {c : Nat} (h : fr.toInt = free) (b : 0 ≤ free ∧ free ≤ 64) (hc : c ≤ 64) : (fr - (Int32.ofNat c).toInt64).toInt = free - (c : Int) := by
  have e := o64 (k := c) (by omega)
  rw [Jvm.Kit.i64_sub (by omega) (by omega), e, h]
theorem hfr2 {fr : Int64} {free : Int} {c : Nat} (h : fr.toInt = free) (b : 0 ≤ free ∧ free ≤ 64) (hc : c ≤ 64) : ((fr * (2 : Int64)) - (Int32.ofNat c).toInt64).toInt = 2 * free - (c : Int) := by
  have e := o64 (k := c) (by omega)
  have e2 : (2 : Int64).toInt = 2 := by decide
  have e3 : (fr * (2 : Int64)).toInt = 2 * free := by rw [Jvm.Kit.i64_mul (by rw [e2]; omega) (by rw [e2]; omega), e2, h]; omega
  rw [Jvm.Kit.i64_sub (by omega) (by omega), e, e3]
theorem hlf {lf : Int32} {left : Int} {c : Nat} (h : lf.toInt = left) (b : 0 ≤ left ∧ left ≤ 64) (hc : c ≤ 64) : (lf - Int32.ofNat c).toInt = left - (c : Int) := by
  have e := o32 (k := c) (by omega)
  rw [Jvm.Kit.i32_sub (by omega) (by omega), e, h]
theorem hCk_step {c : Nat → Nat} {d L : Nat} {free left : Int} (h : hCk c (d + 1) L free left = true) : 0 ≤ (if 0 < L then 2 * free else free) - (c L : Int) ∧ (if 0 < L then 2 * free else free) - (c L : Int) ≤ left - (c L : Int) ∧ hCk c d (L + 1) ((if 0 < L then 2 * free else free) - (c L : Int)) (left - (c L : Int)) = true := by
  simp only [hCk, Bool.and_eq_true, decide_eq_true_eq] at h
  exact ⟨h.1.1, h.1.2, h.2⟩
/-- the counts when one more value is read -/
theorem hCnt_set (l : Nat → Nat) (i N : Nat) : ∀ q, q < N → (fun q => if q = l i then Value.int (Int32.ofNat (hCnt l i (l i)) + 1) else (fun L => Value.int (Int32.ofNat (hCnt l i L))) q) q = (fun L => Value.int (Int32.ofNat (hCnt l (i + 1) L))) q := fun q _ => by
  show (if q = l i then Value.int (Int32.ofNat (hCnt l i (l i)) + 1) else Value.int (Int32.ofNat (hCnt l i q))) = Value.int (Int32.ofNat (hCnt l i q + (if q = l i then 1 else 0)))
  by_cases u : q = l i
  · rw [if_pos u, if_pos u, o32_succ, u]
  · rw [if_neg u, if_neg u]; rfl
theorem hSid_set (l V : Nat → Nat) (n i N : Nat) (hi : i < n) (f : Nat → Value) : ∀ q, q < N → (fun q => if q = hPos l n i then Value.int (Int32.ofNat (V i)) else (fun q => if hSid l n i q < n then Value.int (Int32.ofNat (V (hSid l n i q))) else f q) q) q = (fun q => if hSid l n (i + 1) q < n then Value.int (Int32.ofNat (V (hSid l n (i + 1) q))) else f q) q := fun q _ => by
  show (if q = hPos l n i then Value.int (Int32.ofNat (V i)) else if hSid l n i q < n then Value.int (Int32.ofNat (V (hSid l n i q))) else f q) = (if (if q = hPos l n i then i else hSid l n i q) < n then Value.int (Int32.ofNat (V (if q = hPos l n i then i else hSid l n i q))) else f q)
  by_cases u : q = hPos l n i
  · simp only [if_pos u, if_pos hi]
  · simp only [if_neg u]
theorem hFs_B (l : Nat → Nat) (n lg i N : Nat) (hi : l i ≤ lg) (f : Nat → Value) : ∀ q, q < N → (fun q => if q = l i then Value.int (Int32.ofNat (hPos l n i) + 1) else (fun q => if q ≤ lg then Value.int (Int32.ofNat (hFs (hCnt l n) q + hCnt l i q)) else f q) q) q = (fun q => if q ≤ lg then Value.int (Int32.ofNat (hFs (hCnt l n) q + hCnt l (i + 1) q)) else f q) q := fun q _ => by
  show (if q = l i then Value.int (Int32.ofNat (hPos l n i) + 1) else if q ≤ lg then Value.int (Int32.ofNat (hFs (hCnt l n) q + hCnt l i q)) else f q) = (if q ≤ lg then Value.int (Int32.ofNat (hFs (hCnt l n) q + (hCnt l i q + (if q = l i then 1 else 0)))) else f q)
  by_cases u : q = l i
  · rw [if_pos u, if_pos (by omega), if_pos u, o32_succ, hPos, u]; rfl
  · rw [if_neg u, if_neg u]; rfl
/-- a place set at the end of a filled beginning -/
theorem up_set {F : Nat → Value} {G : Nat → Value} {v : Value} {M : Nat} (N : Nat) (hv : v = F M) : ∀ q, q < N → (fun q => if q = M then v else (fun q => if q < M then F q else G q) q) q = (fun q => if q < M + 1 then F q else G q) q := fun q _ => by
  show (if q = M then v else if q < M then F q else G q) = (if q < M + 1 then F q else G q)
  by_cases u : q = M
  · rw [if_pos u, if_pos (by omega), u]; exact hv
  · rw [if_neg u]
    by_cases w : q < M
    · rw [if_pos w, if_pos (by omega)]
    · rw [if_neg w, if_neg (by omega)]
/-- the third loop of 'canonical': the first places moved back -/
theorem dn_set (l : Nat → Nat) (n lg L N : Nat) (hL : L ≤ lg) (f : Nat → Value) : ∀ q, q < N → (fun q => if q = L then Value.int (Int32.ofNat (hFs (hCnt l n) L + hCnt l n L) - Int32.ofNat (hCnt l n L)) else (fun q => if q < L then Value.int (Int32.ofNat (hFs (hCnt l n) q)) else if q ≤ lg then Value.int (Int32.ofNat (hFs (hCnt l n) q + hCnt l n q)) else f q) q) q = (fun q => if q < L + 1 then Value.int (Int32.ofNat (hFs (hCnt l n) q)) else if q ≤ lg then Value.int (Int32.ofNat (hFs (hCnt l n) q + hCnt l n q)) else f q) q := fun q _ => by
  show (if q = L then Value.int (Int32.ofNat (hFs (hCnt l n) L + hCnt l n L) - Int32.ofNat (hCnt l n L)) else if q < L then Value.int (Int32.ofNat (hFs (hCnt l n) q)) else if q ≤ lg then Value.int (Int32.ofNat (hFs (hCnt l n) q + hCnt l n q)) else f q) = (if q < L + 1 then Value.int (Int32.ofNat (hFs (hCnt l n) q)) else if q ≤ lg then Value.int (Int32.ofNat (hFs (hCnt l n) q + hCnt l n q)) else f q)
  by_cases u : q = L
  · rw [if_pos u, if_pos (by omega), o32_sub, u]
  · rw [if_neg u]
    by_cases w : q < L
    · rw [if_pos w, if_pos (by omega)]
    · rw [if_neg w, if_neg (show ¬ q < L + 1 by omega)]
def hC (l : Nat → Nat) (n q : Nat) : Int64 := (hFc (hCnt l n) (l (hSid l n n q)) + (Int32.ofNat q).toInt64) - (Int32.ofNat (hFs (hCnt l n) (l (hSid l n n q)))).toInt64
def hVal (pk : Int32) (z : Int64) (k : Nat) : Int64 := if pk = 0 then z else (z <<< ((6 : Int32) &&& 0x3f).toInt64) ||| (Int32.ofNat k).toInt64
def hCo (l V : Nat → Nat) (n : Nat) (pk : Int32) : Nat → Nat → Int64
  | 0, _ => 0
  | q + 1, x => if x = V (hSid l n n q) then hVal pk (hC l n q) (l (hSid l n n q)) else hCo l V n pk q x
def hLe (l V : Nat → Nat) (n : Nat) : Nat → Nat → Nat
  | 0, _ => 0
  | q + 1, x => if x = V (hSid l n n q) then l (hSid l n n q) else hLe l V n q x
theorem nar8 {k : Nat} (h : k ≤ 63) : nar .byte ((Int32.ofNat k).toInt8.toInt32) = Int32.ofNat k := by
  have e : ∀ k ∈ List.range 64, ((Int32.ofNat k).toInt8.toInt32).toInt8.toInt32 = Int32.ofNat k := by decide +kernel
  exact e k (List.mem_range.mpr (by omega))
theorem hCo_set (l V : Nat → Nat) (n : Nat) (pk : Int32) (q N : Nat) {z : Int64} (hz : z = hVal pk (hC l n q) (l (hSid l n n q))) : ∀ x, x < N → (fun x => if x = V (hSid l n n q) then Value.long z else (fun x => Value.long (hCo l V n pk q x)) x) x = (fun x => Value.long (hCo l V n pk (q + 1) x)) x := fun x _ => by
  show (if x = V (hSid l n n q) then Value.long z else Value.long (hCo l V n pk q x)) = Value.long (if x = V (hSid l n n q) then hVal pk (hC l n q) (l (hSid l n n q)) else hCo l V n pk q x)
  by_cases u : x = V (hSid l n n q)
  · rw [if_pos u, if_pos u, hz]
  · rw [if_neg u, if_neg u]
def hLb (l V : Nat → Nat) (n q : Nat) : Nat → Value := fun x => if 256 ≤ x then .int (-1) else .int (Int32.ofNat (hLe l V n q x))
theorem hLe_set (l V : Nat → Nat) (n q N : Nat) (h1 : V (hSid l n n q) < 256) (h2 : l (hSid l n n q) ≤ 63) : ∀ x, x < N → (fun x => if x = V (hSid l n n q) then Value.int (nar .byte ((Int32.ofNat (l (hSid l n n q))).toInt8.toInt32)) else hLb l V n q x) x = hLb l V n (q + 1) x := fun x _ => by
  show (if x = V (hSid l n n q) then Value.int (nar .byte ((Int32.ofNat (l (hSid l n n q))).toInt8.toInt32)) else if 256 ≤ x then Value.int (-1) else Value.int (Int32.ofNat (hLe l V n q x))) = (if 256 ≤ x then Value.int (-1) else Value.int (Int32.ofNat (if x = V (hSid l n n q) then l (hSid l n n q) else hLe l V n q x)))
  by_cases u : x = V (hSid l n n q)
  · rw [if_pos u, if_neg (by omega), if_pos u, nar8 h2]
  · rw [if_neg u, if_neg u]
/-- the code of the i-th value -/
def hCi (l : Nat → Nat) (n : Nat) (pk : Int32) : Nat → Nat → Int64
  | 0, _ => 0
  | q + 1, i => if i = hSid l n n q then hVal pk (hC l n q) (l (hSid l n n q)) else hCi l n pk q i
def hLi (l : Nat → Nat) (n : Nat) : Nat → Nat → Nat
  | 0, _ => 0
  | q + 1, i => if i = hSid l n n q then l (hSid l n n q) else hLi l n q i
theorem asc_lt {V : Nat → Nat} {n : Nat} (hA : ∀ i, i + 1 < n → V i < V (i + 1)) : ∀ j i, i < j → j < n → V i < V j
  | 0, _, h, _ => absurd h (Nat.not_lt_zero _)
  | j + 1, i, h, hj => by
    rcases Nat.lt_or_ge i j with q | q
    · exact Nat.lt_trans (asc_lt hA j i q (by omega)) (hA j hj)
    · have : i = j := by omega
      subst this; exact hA i hj
theorem asc_inj {V : Nat → Nat} {n i j : Nat} (hA : ∀ i, i + 1 < n → V i < V (i + 1)) (hi : i < n) (hj : j < n) (h : V i = V j) : i = j := by
  rcases Nat.lt_trichotomy i j with q | q | q
  · have := asc_lt hA j i q hj; omega
  · exact q
  · have := asc_lt hA i j q hi; omega
theorem hCo_V {l V : Nat → Nat} {n : Nat} {pk : Int32} (hA : ∀ i, i + 1 < n → V i < V (i + 1)) (hs : ∀ q, q < n → hSid l n n q < n) {i : Nat} (hi : i < n) : ∀ q, q ≤ n → hCo l V n pk q (V i) = hCi l n pk q i
  | 0, _ => rfl
  | q + 1, hq => by
    show (if V i = V (hSid l n n q) then _ else hCo l V n pk q (V i)) = (if i = hSid l n n q then _ else hCi l n pk q i)
    rw [hCo_V hA hs hi q (by omega)]
    by_cases u : i = hSid l n n q
    · rw [if_pos (congrArg V u), if_pos u]
    · rw [if_neg (fun z => u (asc_inj hA hi (hs q hq) z)), if_neg u]
theorem hLe_V {l V : Nat → Nat} {n : Nat} (hA : ∀ i, i + 1 < n → V i < V (i + 1)) (hs : ∀ q, q < n → hSid l n n q < n) {i : Nat} (hi : i < n) : ∀ q, q ≤ n → hLe l V n q (V i) = hLi l n q i
  | 0, _ => rfl
  | q + 1, hq => by
    show (if V i = V (hSid l n n q) then _ else hLe l V n q (V i)) = (if i = hSid l n n q then _ else hLi l n q i)
    rw [hLe_V hA hs hi q (by omega)]
    by_cases u : i = hSid l n n q
    · rw [if_pos (congrArg V u), if_pos u]
    · rw [if_neg (fun z => u (asc_inj hA hi (hs q hq) z)), if_neg u]
theorem hCo_no {l V : Nat → Nat} {n : Nat} {pk : Int32} (hs : ∀ q, q < n → hSid l n n q < n) {x : Nat} (hx : ∀ i, i < n → x ≠ V i) : ∀ q, q ≤ n → hCo l V n pk q x = 0
  | 0, _ => rfl
  | q + 1, hq => by
    show (if x = V (hSid l n n q) then _ else hCo l V n pk q x) = 0
    rw [if_neg (hx _ (hs q hq)), hCo_no hs hx q (by omega)]
theorem hLe_no {l V : Nat → Nat} {n : Nat} (hs : ∀ q, q < n → hSid l n n q < n) {x : Nat} (hx : ∀ i, i < n → x ≠ V i) : ∀ q, q ≤ n → hLe l V n q x = 0
  | 0, _ => rfl
  | q + 1, hq => by
    show (if x = V (hSid l n n q) then _ else hLe l V n q x) = 0
    rw [if_neg (hx _ (hs q hq)), hLe_no hs hx q (by omega)]
theorem o32_ltl {k K : Nat} {z : Int32} (hz : z.toInt = (K : Int)) (hk : k < 2 ^ 31) : (Int32.ofNat k < z) ↔ k < K := by rw [Int32.lt_iff_toInt_lt, o32 hk, hz]; omega
theorem o32_gtl {k K : Nat} {z : Int32} (hz : z.toInt = (K : Int)) (hk : k < 2 ^ 31) : (z < Int32.ofNat k) ↔ K < k := by rw [Int32.lt_iff_toInt_lt, o32 hk, hz]; omega
theorem fb_end {i : Nat} (hi : i + 0 = 8) : ∀ q, q < 264 → (fun q => if 256 ≤ q ∧ q < 256 + i then Value.int (-1) else Value.int 0) q = (fun q => if 256 ≤ q then Value.int (-1) else Value.int 0) q := fun q hq => by
  show (if 256 ≤ q ∧ q < 256 + i then Value.int (-1) else Value.int 0) = (if 256 ≤ q then Value.int (-1) else Value.int 0)
  by_cases u : 256 ≤ q
  · rw [if_pos ⟨u, by omega⟩, if_pos u]
  · rw [if_neg (fun z => u z.1), if_neg u]
theorem fb_set (i : Nat) : ∀ q, q < 264 → (fun q => if q = 256 + i then Value.int (nar .byte (-1)) else (fun q => if 256 ≤ q ∧ q < 256 + i then Value.int (-1) else Value.int 0) q) q = (fun q => if 256 ≤ q ∧ q < 256 + (i + 1) then Value.int (-1) else Value.int 0) q := fun q hq => by
  show (if q = 256 + i then Value.int (nar .byte (-1)) else if 256 ≤ q ∧ q < 256 + i then Value.int (-1) else Value.int 0) = (if 256 ≤ q ∧ q < 256 + (i + 1) then Value.int (-1) else Value.int 0)
  by_cases u : q = 256 + i
  · rw [if_pos u, if_pos (by omega)]; rfl
  · rw [if_neg u]
    by_cases v : 256 ≤ q ∧ q < 256 + i
    · rw [if_pos v, if_pos (by omega)]
    · rw [if_neg v, if_neg (by omega)]
theorem nd {L : List Addr} (h : L.Nodup) (i j : Nat) (hij : i < j) (hj : j < L.length) : L[i]'(Nat.lt_trans hij hj) ≠ L[j] := (List.pairwise_iff_getElem.mp h) i j _ hj hij
theorem l_nn {x : Int64} {f : Int} (h : x.toInt = f) (k : 0 ≤ f) : ¬ x < (0 : Int64) := by
  rw [Int64.lt_iff_toInt_lt, h]; have : (0 : Int64).toInt = 0 := by decide
  omega
theorem l_le {x : Int64} {y : Int32} {f r : Int} (hx : x.toInt = f) (hy : y.toInt = r) (k : f ≤ r) : ¬ y.toInt64 < x := by
  rw [Int64.lt_iff_toInt_lt, hx, Jvm.Kit.i64_of_i32, hy]; omega
theorem i_zero {x : Int32} {r : Int} (h : x.toInt = r) (k : r = 0) : x = 0 := Int32.toInt_inj.mp (by rw [h, k]; rfl)
theorem i_gt {x : Int32} {k : Nat} (h : x.toInt < (k : Int)) (hk : k < 2 ^ 31) : x < Int32.ofNat k := by rw [Int32.lt_iff_toInt_lt, o32 hk]; exact h
theorem i_asc {V : Nat → Nat} {i n : Nat} (hA : ∀ i, i + 1 < n → V i < V (i + 1)) (hk : V i < 2 ^ 31) (q : i + 1 < n) : (Int32.ofNat (V i)).toInt < (V (i + 1) : Int) := by rw [o32 hk]; have := hA i q; omega
theorem i_pred {M : Nat} (h : M < 2 ^ 30) : (Int32.ofNat (M + 1) - 1).toInt = (M : Int) := by rw [o32_pred, o32 (by omega)]
theorem to_B (l : Nat → Nat) (c : Nat → Nat) (lg M : Nat) (h : M = lg) (f : Nat → Value) (N : Nat) : ∀ q, q < N → (fun q => if q < M + 1 then Value.int (Int32.ofNat (hFs c q)) else f q) q = (fun q => if q ≤ lg then Value.int (Int32.ofNat (hFs c q + hCnt l 0 q)) else f q) q := fun q _ => by
  show (if q < M + 1 then Value.int (Int32.ofNat (hFs c q)) else f q) = (if q ≤ lg then Value.int (Int32.ofNat (hFs c q)) else f q)
  by_cases u : q ≤ lg
  · rw [if_pos (by omega), if_pos u]
  · rw [if_neg (by omega), if_neg u]
theorem c_end (F G f : Nat → Value) (lg L : Nat) (h : L = lg + 1) (N : Nat) : ∀ q, q < N → (fun q => if q < L then F q else if q ≤ lg then G q else f q) q = (fun q => if q < lg + 1 then F q else f q) q := fun q _ => by
  subst h
  show (if q < lg + 1 then F q else if q ≤ lg then G q else f q) = (if q < lg + 1 then F q else f q)
  by_cases u : q < lg + 1
  · rw [if_pos u, if_pos u]
  · rw [if_neg u, if_neg (show ¬ q ≤ lg by omega), if_neg u]
theorem st_ll {x0 x1 x2 x3 x4 x5 x6 s8 s9 : Slot} {y7 : Int32} {v : Int64} (h : (s8 = .unset ∧ s9 = .unset) ∨ ∃ z, s8 = .val (.long z) ∧ s9 = .second) : storeLocals #[x0, x1, x2, x3, x4, x5, x6, .val (.int y7), s8, s9] 8 (.long v) = some #[x0, x1, x2, x3, x4, x5, x6, .val (.int y7), .val (.long v), .second] := by
  rcases h with ⟨rfl, rfl⟩ | ⟨z, rfl, rfl⟩ <;> rfl
def hPk (lg : Nat) : Int32 := if 56 < lg then 0 else 1
def hSum (f : Nat → Int64) (g : Nat → Int32) : Nat → Int64
  | 0 => 0
  | k + 1 => hSum f g k + f k * (g k).toInt64
theorem dfi_0 : decode jdk_65_method_103_code 0 = .ok (.iconst 0, 1) := by decide +kernel
theorem dfi_1 : decode jdk_65_method_103_code 1 = .ok (.istore_n 2, 1) := by decide +kernel
theorem dfi_2 : decode jdk_65_method_103_code 2 = .ok (.aload_n 0, 1) := by decide +kernel
theorem dfi_3 : decode jdk_65_method_103_code 3 = .ok (.arraylength, 1) := by decide +kernel
theorem dfi_4 : decode jdk_65_method_103_code 4 = .ok (.istore_n 3, 1) := by decide +kernel
theorem dfi_5 : decode jdk_65_method_103_code 5 = .ok (.iload_n 2, 1) := by decide +kernel
theorem dfi_6 : decode jdk_65_method_103_code 6 = .ok (.iload_n 3, 1) := by decide +kernel
theorem dfi_7 : decode jdk_65_method_103_code 7 = .ok (.if_icmp .ge 13, 3) := by decide +kernel
theorem dfi_10 : decode jdk_65_method_103_code 10 = .ok (.aload_n 0, 1) := by decide +kernel
theorem dfi_11 : decode jdk_65_method_103_code 11 = .ok (.iload_n 2, 1) := by decide +kernel
theorem dfi_12 : decode jdk_65_method_103_code 12 = .ok (.iload_n 1, 1) := by decide +kernel
theorem dfi_13 : decode jdk_65_method_103_code 13 = .ok (.iastore, 1) := by decide +kernel
theorem dfi_14 : decode jdk_65_method_103_code 14 = .ok (.iinc 2 1, 3) := by decide +kernel
theorem dfi_17 : decode jdk_65_method_103_code 17 = .ok (.goto (-12), 3) := by decide +kernel
theorem dfi_20 : decode jdk_65_method_103_code 20 = .ok (.return_, 1) := by decide +kernel
set_option maxRecDepth 65536 in
set_option maxHeartbeats 40000000 in
theorem c_fillI (l : Launch) (Z : State) (a0 : Array Value) (hw : ∀ d ∈ tables_1, d.before a0 Z = true) (a1 : Addr) (p2 : Int32) (h0 : Heap) (n0 : Nat) (N : Nat) (f : Nat → Value) (hN : N < 2 ^ 30) (ga : n0 ≤ a1) (A_a1 : Ary Z h0 a1 .int N f) :
    Con l Z (⟨"java/util/Arrays", "fill", "([II)V"⟩ : MethodName) jdk_65_method_103_code 4 none ({ frames := 0, cells := 0, slots := 0, locals := 0 } : Room) #[(.ref a1), (.int p2)] h0 n0 (fun v h => v = none ∧ Keep h0 h [a1] ∧ Ary Z h a1 .int N (fun _ => .int p2)) := by
  refine Con.of (plainFor_of_name (by first | (simp [plainName, overriddenIn]; done) | decide +kernel)) (L0 := #[.val (.ref a1), .val (.int p2), .unset, .unset]) (fun m => by first | (simp [entryFrame, mkF, argsToLocals, Value.category]; done) | rfl) ?_
  intro p e s m below meth c T C S
  have hn32 : (Nat.toInt32 N).toInt = (N : Int) := len_toInt (by omega)
  have LP : ∀ (d : Nat) (i : Nat), i + d = N → ∀ (T : State) (h : Heap), On p l e ({ frames := 0, cells := 0, slots := 0, locals := 0 } : Room) s m #[(.ref a1), (.int p2)] below meth c n0 T h 0 0 → Ary Z h a1 .int N (fun q => if q < i then .int p2 else f q) → Keep h0 h [a1] → Gl p e below s ({ frames := 0, cells := 0, slots := 0, locals := 0 } : Room) n0 (fun v h => v = none ∧ Keep h0 h [a1] ∧ Ary Z h a1 .int N (fun _ => .int p2)) T (mkF m 5 #[.val (.ref a1), .val (.int p2), .val (.int (Int32.ofNat i)), .val (.int (Nat.toInt32 N))] []) := by
    intro d
    induction d with
    | zero =>
      intro i hd T h S A_a1 Kp
      refine g_iloadN C S dfi_5 (pc' := 6) rfl rfl ?_
      refine g_iloadN C S dfi_6 (pc' := 7) rfl rfl ?_
      refine g_icmp_ge C S dfi_7 (pc' := 20) (pf := 10) (by decide) (by decide) rfl (fun hc7 => ?_) (fun hc7 => absurd hc7 (by rw [Int32.lt_iff_toInt_lt, hn32, o32 (by omega)]; omega))
      exact g_return C S dfi_20 (by decide) (by decide) (⟨rfl, Kp, A_a1.cg fun q hq => if_pos (by omega)⟩)
    | succ d ih =>
      intro i hd T h S A_a1 Kp
      refine g_iloadN C S dfi_5 (pc' := 6) rfl rfl ?_
      refine g_iloadN C S dfi_6 (pc' := 7) rfl rfl ?_
      refine g_icmp_ge C S dfi_7 (pc' := 20) (pf := 10) (by decide) (by decide) rfl (fun hc7 => absurd (by rw [Int32.lt_iff_toInt_lt, hn32, o32 (by omega)]; omega) hc7) (fun hc7 => ?_)
      refine g_aloadN C S dfi_10 (pc' := 11) rfl rfl rfl ?_
      refine g_iloadN C S dfi_11 (pc' := 12) rfl rfl ?_
      refine g_iloadN C S dfi_12 (pc' := 13) rfl rfl ?_
      refine g_iastore C S (i := i) dfi_13 A_a1 (o32 (by omega)) (by omega) ga (pc' := 14) rfl (fun T1 h1 S W1 B1 => ?_)
      have A_a1 := B1
      have Kp := Kp.wr W1 (Or.inl (List.mem_of_getElem? (i := 0) rfl))
      refine g_iinc C S (1 : Int32) dfi_14 (pc' := 17) rfl rfl rfl (L' := #[.val (.ref a1), .val (.int p2), .val (.int ((Int32.ofNat i) + (1 : Int32))), .val (.int (Nat.toInt32 N))]) rfl ?_
      refine g_goto C S dfi_17 (pc' := 5) (by decide) (by decide) ?_
      rw [o32_succ]
      exact ih (i + 1) (by omega) _ _ S (A_a1.cg (up_set (F := fun _ => .int p2) N rfl)) Kp
  refine g_iconst C S (0 : Int32) dfi_0 (pc' := 1) rfl rfl ?_
  refine g_istoreN C S dfi_1 (pc' := 2) rfl (L' := #[.val (.ref a1), .val (.int p2), .val (.int (0 : Int32)), .unset]) rfl ?_
  refine g_aloadN C S dfi_2 (pc' := 3) rfl rfl rfl ?_
  refine g_arraylength C S (x := (Nat.toInt32 N)) dfi_3 A_a1 rfl (pc' := 4) rfl ?_
  refine g_istoreN C S dfi_4 (pc' := 5) rfl (L' := #[.val (.ref a1), .val (.int p2), .val (.int (0 : Int32)), .val (.int (Nat.toInt32 N))]) rfl ?_
  exact LP N 0 (by omega) _ _ S (A_a1.cg fun q hq => (if_neg (Nat.not_lt_zero q)).symm) (Keep.refl _ _)
theorem drc_0 : decode jdk_65_method_30_code 0 = .ok (.iload_n 1, 1) := by decide +kernel
theorem drc_1 : decode jdk_65_method_30_code 1 = .ok (.iload_n 2, 1) := by decide +kernel
theorem drc_2 : decode jdk_65_method_30_code 2 = .ok (.if_icmp .le 44, 3) := by decide +kernel
theorem drc_46 : decode jdk_65_method_30_code 46 = .ok (.iload_n 1, 1) := by decide +kernel
theorem drc_47 : decode jdk_65_method_30_code 47 = .ok (.ifCond .ge 12, 3) := by decide +kernel
theorem drc_59 : decode jdk_65_method_30_code 59 = .ok (.iload_n 2, 1) := by decide +kernel
theorem drc_60 : decode jdk_65_method_30_code 60 = .ok (.iload_n 0, 1) := by decide +kernel
theorem drc_61 : decode jdk_65_method_30_code 61 = .ok (.if_icmp .le 12, 3) := by decide +kernel
theorem drc_73 : decode jdk_65_method_30_code 73 = .ok (.return_, 1) := by decide +kernel
set_option maxRecDepth 65536 in
set_option maxHeartbeats 40000000 in
theorem c_rck (l : Launch) (Z : State) (a0 : Array Value) (hw : ∀ d ∈ tables_1, d.before a0 Z = true) (p1 : Int32) (p2 : Int32) (p3 : Int32) (h0 : Heap) (n0 : Nat) (hr1 : ¬ p3 < p2) (hr2 : ¬ p2 < (0 : Int32)) (hr3 : ¬ p1 < p3) :
    Con l Z (⟨"java/util/Arrays", "rangeCheck", "(III)V"⟩ : MethodName) jdk_65_method_30_code 3 none ({ frames := 0, cells := 0, slots := 0, locals := 0 } : Room) #[(.int p1), (.int p2), (.int p3)] h0 n0 (fun v h => v = none ∧ h = h0) := by
  refine Con.of (plainFor_of_name (by first | (simp [plainName, overriddenIn]; done) | decide +kernel)) (L0 := #[.val (.int p1), .val (.int p2), .val (.int p3)]) (fun m => by first | (simp [entryFrame, mkF, argsToLocals, Value.category]; done) | rfl) ?_
  intro p e s m below meth c T C S
  refine g_iloadN C S drc_0 (pc' := 1) rfl rfl ?_
  refine g_iloadN C S drc_1 (pc' := 2) rfl rfl ?_
  refine g_icmp_le C S drc_2 (pc' := 46) (pf := 5) (by decide) (by decide) rfl (fun hc2 => ?_) (fun hc2 => absurd hc2 hr1)
  refine g_iloadN C S drc_46 (pc' := 47) rfl rfl ?_
  refine g_if_ge C S drc_47 (pc' := 59) (pf := 50) (by decide) (by decide) rfl (fun hc47 => ?_) (fun hc47 => absurd hc47 hr2)
  refine g_iloadN C S drc_59 (pc' := 60) rfl rfl ?_
  refine g_iloadN C S drc_60 (pc' := 61) rfl rfl ?_
  refine g_icmp_le C S drc_61 (pc' := 73) (pf := 64) (by decide) (by decide) rfl (fun hc61 => ?_) (fun hc61 => absurd hc61 hr3)
  exact g_return C S drc_73 (by decide) (by decide) (⟨rfl, rfl⟩)
theorem pd_0 : parseMethodDescriptor "(III)V" = some ⟨[.int, .int, .int], none⟩ := by decide +kernel
theorem dfb_0 : decode jdk_65_method_110_code 0 = .ok (.aload_n 0, 1) := by decide +kernel
theorem dfb_1 : decode jdk_65_method_110_code 1 = .ok (.arraylength, 1) := by decide +kernel
theorem dfb_2 : decode jdk_65_method_110_code 2 = .ok (.iload_n 1, 1) := by decide +kernel
theorem dfb_3 : decode jdk_65_method_110_code 3 = .ok (.iload_n 2, 1) := by decide +kernel
theorem dfb_4 : decode jdk_65_method_110_code 4 = .ok (.invokestatic 13, 3) := by decide +kernel
theorem dfb_7 : decode jdk_65_method_110_code 7 = .ok (.iload_n 1, 1) := by decide +kernel
theorem dfb_8 : decode jdk_65_method_110_code 8 = .ok (.istore 4, 2) := by decide +kernel
theorem dfb_10 : decode jdk_65_method_110_code 10 = .ok (.iload 4, 2) := by decide +kernel
theorem dfb_12 : decode jdk_65_method_110_code 12 = .ok (.iload_n 2, 1) := by decide +kernel
theorem dfb_13 : decode jdk_65_method_110_code 13 = .ok (.if_icmp .ge 14, 3) := by decide +kernel
theorem dfb_16 : decode jdk_65_method_110_code 16 = .ok (.aload_n 0, 1) := by decide +kernel
theorem dfb_17 : decode jdk_65_method_110_code 17 = .ok (.iload 4, 2) := by decide +kernel
theorem dfb_19 : decode jdk_65_method_110_code 19 = .ok (.iload_n 3, 1) := by decide +kernel
theorem dfb_20 : decode jdk_65_method_110_code 20 = .ok (.bastore, 1) := by decide +kernel
theorem dfb_21 : decode jdk_65_method_110_code 21 = .ok (.iinc 4 1, 3) := by decide +kernel
theorem dfb_24 : decode jdk_65_method_110_code 24 = .ok (.goto (-14), 3) := by decide +kernel
theorem dfb_27 : decode jdk_65_method_110_code 27 = .ok (.return_, 1) := by decide +kernel
set_option maxRecDepth 65536 in
set_option maxHeartbeats 40000000 in
theorem c_fillB (l : Launch) (Z : State) (a0 : Array Value) (hw : ∀ d ∈ tables_1, d.before a0 Z = true) (a1 : Addr) (h0 : Heap) (n0 : Nat) (ga : n0 ≤ a1) (A_a1 : Ary Z h0 a1 .byte 264 (fun _ => .int (0 : Int32))) :
    Con l Z (⟨"java/util/Arrays", "fill", "([BIIB)V"⟩ : MethodName) jdk_65_method_110_code 5 none ({ frames := 1, cells := 0, slots := 0, locals := 14 } : Room) #[(.ref a1), (.int (256 : Int32)), (.int (264 : Int32)), (.int (-1 : Int32))] h0 n0 (fun v h => v = none ∧ Keep h0 h [a1] ∧ Ary Z h a1 .byte 264 (fun q => if 256 ≤ q then .int (-1) else .int 0)) := by
  refine Con.of (plainFor_of_name (by first | (simp [plainName, overriddenIn]; done) | decide +kernel)) (L0 := #[.val (.ref a1), .val (.int (256 : Int32)), .val (.int (264 : Int32)), .val (.int (-1 : Int32)), .unset]) (fun m => by first | (simp [entryFrame, mkF, argsToLocals, Value.category]; done) | rfl) ?_
  intro p e s m below meth c T C S
  have LP : ∀ (d : Nat) (i : Nat), i + d = 8 → ∀ (T : State) (h : Heap), On p l e ({ frames := 1, cells := 0, slots := 0, locals := 14 } : Room) s m #[(.ref a1), (.int (256 : Int32)), (.int (264 : Int32)), (.int (-1 : Int32))] below meth c n0 T h 0 0 → Ary Z h a1 .byte 264 (fun q => if 256 ≤ q ∧ q < 256 + i then .int (-1) else .int 0) → Keep h0 h [a1] → Gl p e below s ({ frames := 1, cells := 0, slots := 0, locals := 14 } : Room) n0 (fun v h => v = none ∧ Keep h0 h [a1] ∧ Ary Z h a1 .byte 264 (fun q => if 256 ≤ q then .int (-1) else .int 0)) T (mkF m 10 #[.val (.ref a1), .val (.int (256 : Int32)), .val (.int (264 : Int32)), .val (.int (-1 : Int32)), .val (.int (Int32.ofNat (256 + i)))] []) := by
    intro d
    induction d with
    | zero =>
      intro i hd T h S A_a1 Kp
      refine g_iload C S dfb_10 (pc' := 12) rfl rfl ?_
      refine g_iloadN C S dfb_12 (pc' := 13) rfl rfl ?_
      refine g_icmp_ge C S dfb_13 (pc' := 27) (pf := 16) (by decide) (by decide) rfl (fun hc13 => ?_) (fun hc13 => absurd ((o32_ltl (K := 264) (by decide) (by omega)).mp hc13) (by omega))
      exact g_return C S dfb_27 (by decide) (by decide) (⟨rfl, Kp, A_a1.cg (fb_end hd)⟩)
    | succ d ih =>
      intro i hd T h S A_a1 Kp
      refine g_iload C S dfb_10 (pc' := 12) rfl rfl ?_
      refine g_iloadN C S dfb_12 (pc' := 13) rfl rfl ?_
      refine g_icmp_ge C S dfb_13 (pc' := 27) (pf := 16) (by decide) (by decide) rfl (fun hc13 => absurd ((o32_ltl (K := 264) (by decide) (by omega)).mpr (by omega)) hc13) (fun hc13 => ?_)
      refine g_aloadN C S dfb_16 (pc' := 17) rfl rfl rfl ?_
      refine g_iload C S dfb_17 (pc' := 19) rfl rfl ?_
      refine g_iloadN C S dfb_19 (pc' := 20) rfl rfl ?_
      refine g_bastoreB C S (i := (256 + i)) dfb_20 A_a1 (o32 (by omega)) (by omega) ga (pc' := 21) rfl (fun T2 h2 S W2 B2 => ?_)
      have A_a1 := B2
      have Kp := Kp.wr W2 (Or.inl (List.mem_of_getElem? (i := 0) rfl))
      refine g_iinc C S (1 : Int32) dfb_21 (pc' := 24) rfl rfl rfl (L' := #[.val (.ref a1), .val (.int (256 : Int32)), .val (.int (264 : Int32)), .val (.int (-1 : Int32)), .val (.int ((Int32.ofNat (256 + i)) + (1 : Int32)))]) rfl ?_
      refine g_goto C S dfb_24 (pc' := 10) (by decide) (by decide) ?_
      rw [o32_succ]
      exact ih (i + 1) (by omega) _ _ S (A_a1.cg (fb_set i)) Kp
  refine g_aloadN C S dfb_0 (pc' := 1) rfl rfl rfl ?_
  refine g_arraylength C S (x := (264 : Int32)) dfb_1 A_a1 (by decide) (pc' := 2) rfl ?_
  refine g_iloadN C S dfb_2 (pc' := 3) rfl rfl ?_
  refine g_iloadN C S dfb_3 (pc' := 4) rfl rfl ?_
  refine g_callS C S (rm := ({ frames := 0, cells := 0, slots := 0, locals := 0 } : Room)) (W := 0) dfb_4 (hw _ (List.mem_of_getElem? (i := 33) rfl)) (hw _ (List.mem_of_getElem? (i := 34) rfl)) (hw _ (List.mem_of_getElem? (i := 31) rfl)) (hw _ (List.mem_of_getElem? (i := 35) rfl)) (by decide) (c_rck l Z a0 hw (264 : Int32) (256 : Int32) (264 : Int32) h0 n0 (by decide) (by decide) (by decide)) (argsL := [(.int (264 : Int32)), (.int (256 : Int32)), (.int (264 : Int32))]) (r := []) rfl (lenOf pd_0 rfl) rfl (Nat.le_of_eq rfl) (by decide) (by decide) (by decide) (by decide) (pc' := 7) rfl (fun T3 h3 v3 q3 S => ?_)
  obtain ⟨rfl, e3⟩ := q3; rw [e3] at S
  show Gl p e below s _ n0 _ T3 (mkF m 7 #[.val (.ref a1), .val (.int (256 : Int32)), .val (.int (264 : Int32)), .val (.int (-1 : Int32)), .unset] [])
  refine g_iloadN C S dfb_7 (pc' := 8) rfl rfl ?_
  refine g_istore C S dfb_8 (pc' := 10) rfl (L' := #[.val (.ref a1), .val (.int (256 : Int32)), .val (.int (264 : Int32)), .val (.int (-1 : Int32)), .val (.int (256 : Int32))]) rfl ?_
  exact LP 8 0 (by omega) _ _ S (A_a1.cg fun q hq => (if_neg (by omega)).symm) (Keep.refl _ _)
theorem dmx_0 : decode jdk_29_method_65_code 0 = .ok (.iload_n 0, 1) := by decide +kernel
theorem dmx_1 : decode jdk_29_method_65_code 1 = .ok (.iload_n 1, 1) := by decide +kernel
theorem dmx_2 : decode jdk_29_method_65_code 2 = .ok (.if_icmp .lt 7, 3) := by decide +kernel
theorem dmx_5 : decode jdk_29_method_65_code 5 = .ok (.iload_n 0, 1) := by decide +kernel
theorem dmx_6 : decode jdk_29_method_65_code 6 = .ok (.goto 4, 3) := by decide +kernel
theorem dmx_9 : decode jdk_29_method_65_code 9 = .ok (.iload_n 1, 1) := by decide +kernel
theorem dmx_10 : decode jdk_29_method_65_code 10 = .ok (.ireturn, 1) := by decide +kernel
set_option maxRecDepth 65536 in
set_option maxHeartbeats 40000000 in
theorem c_max (l : Launch) (Z : State) (a0 : Array Value) (hw : ∀ d ∈ tables_1, d.before a0 Z = true) (p1 : Int32) (p2 : Int32) (h0 : Heap) (n0 : Nat) :
    Con l Z (⟨"java/lang/Math", "max", "(II)I"⟩ : MethodName) jdk_29_method_65_code 2 (some .int) ({ frames := 0, cells := 0, slots := 0, locals := 0 } : Room) #[(.int p1), (.int p2)] h0 n0 (fun v h => v = some (.int (if p1 < p2 then p2 else p1)) ∧ h = h0) := by
  refine Con.of (Jvm.Free.JP.mathPlain rfl (by decide +kernel)) (L0 := #[.val (.int p1), .val (.int p2)]) (fun m => by first | (simp [entryFrame, mkF, argsToLocals, Value.category]; done) | rfl) ?_
  intro p e s m below meth c T C S
  refine g_iloadN C S dmx_0 (pc' := 1) rfl rfl ?_
  refine g_iloadN C S dmx_1 (pc' := 2) rfl rfl ?_
  refine g_icmp_lt C S dmx_2 (pc' := 9) (pf := 5) (by decide) (by decide) rfl (fun hc2 => ?_) (fun hc2 => ?_)
  · refine g_iloadN C S dmx_9 (pc' := 10) rfl rfl ?_
    exact g_retI C S dmx_10 (by decide) (by decide) (⟨by rw [if_pos hc2], rfl⟩)
  · refine g_iloadN C S dmx_5 (pc' := 6) rfl rfl ?_
    refine g_goto C S dmx_6 (pc' := 10) (by decide) (by decide) ?_
    exact g_retI C S dmx_10 (by decide) (by decide) (⟨by rw [if_neg hc2], rfl⟩)
theorem dcc_0 : decode prog_31_method_9_code 0 = .ok (.iload_n 2, 1) := by decide +kernel
theorem dcc_1 : decode prog_31_method_9_code 1 = .ok (.ifCond .ne 4, 3) := by decide +kernel
theorem dcc_5 : decode prog_31_method_9_code 5 = .ok (.lconst 1, 1) := by decide +kernel
theorem dcc_6 : decode prog_31_method_9_code 6 = .ok (.lstore_n 3, 1) := by decide +kernel
theorem dcc_7 : decode prog_31_method_9_code 7 = .ok (.iload_n 2, 1) := by decide +kernel
theorem dcc_8 : decode prog_31_method_9_code 8 = .ok (.istore 5, 2) := by decide +kernel
theorem dcc_10 : decode prog_31_method_9_code 10 = .ok (.iconst 0, 1) := by decide +kernel
theorem dcc_11 : decode prog_31_method_9_code 11 = .ok (.istore 6, 2) := by decide +kernel
theorem dcc_13 : decode prog_31_method_9_code 13 = .ok (.iload 6, 2) := by decide +kernel
theorem dcc_15 : decode prog_31_method_9_code 15 = .ok (.iload_n 1, 1) := by decide +kernel
theorem dcc_16 : decode prog_31_method_9_code 16 = .ok (.if_icmp .gt 61, 3) := by decide +kernel
theorem dcc_19 : decode prog_31_method_9_code 19 = .ok (.iload 6, 2) := by decide +kernel
theorem dcc_21 : decode prog_31_method_9_code 21 = .ok (.ifCond .le 9, 3) := by decide +kernel
theorem dcc_24 : decode prog_31_method_9_code 24 = .ok (.lload_n 3, 1) := by decide +kernel
theorem dcc_25 : decode prog_31_method_9_code 25 = .ok (.ldc2_w 98, 3) := by decide +kernel
theorem dcc_28 : decode prog_31_method_9_code 28 = .ok (.lmul, 1) := by decide +kernel
theorem dcc_29 : decode prog_31_method_9_code 29 = .ok (.lstore_n 3, 1) := by decide +kernel
theorem dcc_30 : decode prog_31_method_9_code 30 = .ok (.lload_n 3, 1) := by decide +kernel
theorem dcc_31 : decode prog_31_method_9_code 31 = .ok (.aload_n 0, 1) := by decide +kernel
theorem dcc_32 : decode prog_31_method_9_code 32 = .ok (.iload 6, 2) := by decide +kernel
theorem dcc_34 : decode prog_31_method_9_code 34 = .ok (.iaload, 1) := by decide +kernel
theorem dcc_35 : decode prog_31_method_9_code 35 = .ok (.i2l, 1) := by decide +kernel
theorem dcc_36 : decode prog_31_method_9_code 36 = .ok (.lsub, 1) := by decide +kernel
theorem dcc_37 : decode prog_31_method_9_code 37 = .ok (.lstore_n 3, 1) := by decide +kernel
theorem dcc_38 : decode prog_31_method_9_code 38 = .ok (.iload 5, 2) := by decide +kernel
theorem dcc_40 : decode prog_31_method_9_code 40 = .ok (.aload_n 0, 1) := by decide +kernel
theorem dcc_41 : decode prog_31_method_9_code 41 = .ok (.iload 6, 2) := by decide +kernel
theorem dcc_43 : decode prog_31_method_9_code 43 = .ok (.iaload, 1) := by decide +kernel
theorem dcc_44 : decode prog_31_method_9_code 44 = .ok (.isub, 1) := by decide +kernel
theorem dcc_45 : decode prog_31_method_9_code 45 = .ok (.istore 5, 2) := by decide +kernel
theorem dcc_47 : decode prog_31_method_9_code 47 = .ok (.lload_n 3, 1) := by decide +kernel
theorem dcc_48 : decode prog_31_method_9_code 48 = .ok (.lconst 0, 1) := by decide +kernel
theorem dcc_49 : decode prog_31_method_9_code 49 = .ok (.lcmp, 1) := by decide +kernel
theorem dcc_50 : decode prog_31_method_9_code 50 = .ok (.ifCond .lt 11, 3) := by decide +kernel
theorem dcc_53 : decode prog_31_method_9_code 53 = .ok (.lload_n 3, 1) := by decide +kernel
theorem dcc_54 : decode prog_31_method_9_code 54 = .ok (.iload 5, 2) := by decide +kernel
theorem dcc_56 : decode prog_31_method_9_code 56 = .ok (.i2l, 1) := by decide +kernel
theorem dcc_57 : decode prog_31_method_9_code 57 = .ok (.lcmp, 1) := by decide +kernel
theorem dcc_58 : decode prog_31_method_9_code 58 = .ok (.ifCond .le 13, 3) := by decide +kernel
theorem dcc_71 : decode prog_31_method_9_code 71 = .ok (.iinc 6 1, 3) := by decide +kernel
theorem dcc_74 : decode prog_31_method_9_code 74 = .ok (.goto (-61), 3) := by decide +kernel
theorem dcc_77 : decode prog_31_method_9_code 77 = .ok (.iload 5, 2) := by decide +kernel
theorem dcc_79 : decode prog_31_method_9_code 79 = .ok (.ifCond .eq 13, 3) := by decide +kernel
theorem dcc_92 : decode prog_31_method_9_code 92 = .ok (.return_, 1) := by decide +kernel
set_option maxRecDepth 65536 in
set_option maxHeartbeats 40000000 in
theorem c_cc (l : Launch) (Z : State) (a0 : Array Value) (hw : ∀ d ∈ tables_1, d.before a0 Z = true) (a1 : Addr) (h0 : Heap) (n0 : Nat) (c' : Nat → Nat) (lg n : Nat) (hlg : lg ≤ 63) (hn : 0 < n ∧ n ≤ 64) (hc' : ∀ L, c' L ≤ 64) (hck0 : hCk c' (lg + 1) 0 1 n = true) (A_a1 : Ary Z h0 a1 .int 64 (fun L => .int (Int32.ofNat (c' L)))) :
    Con l Z (⟨"leafpress/HuffmanCode", "checkComplete", "([III)V"⟩ : MethodName) prog_31_method_9_code 7 none ({ frames := 0, cells := 0, slots := 0, locals := 0 } : Room) #[(.ref a1), (.int (Int32.ofNat lg)), (.int (Int32.ofNat n))] h0 n0 (fun v h => v = none ∧ h = h0) := by
  refine Con.of (plainFor_of_name (by first | (simp [plainName, overriddenIn]; done) | decide +kernel)) (L0 := #[.val (.ref a1), .val (.int (Int32.ofNat lg)), .val (.int (Int32.ofNat n)), .unset, .unset, .unset, .unset]) (fun m => by first | (simp [entryFrame, mkF, argsToLocals, Value.category]; done) | rfl) ?_
  intro p e s m below meth c T C S
  have LP : ∀ (d : Nat) (L : Nat) (fr : Int64) (lf : Int32) (free : Int) (left : Int), L + d = lg + 1 → fr.toInt = free → lf.toInt = left → 0 ≤ free ∧ free ≤ left ∧ left ≤ 64 → hCk c' d L free left = true → Gl p e below s ({ frames := 0, cells := 0, slots := 0, locals := 0 } : Room) n0 (fun v h => v = none ∧ h = h0) T (mkF m 13 #[.val (.ref a1), .val (.int (Int32.ofNat lg)), .val (.int (Int32.ofNat n)), .val (.long fr), .second, .val (.int lf), .val (.int (Int32.ofNat L))] []) := by
    intro d
    induction d with
    | zero =>
      intro L fr lf free left hd qfr qlf hb' hck
      refine g_iload C S dcc_13 (pc' := 15) rfl rfl ?_
      refine g_iloadN C S dcc_15 (pc' := 16) rfl rfl ?_
      refine g_icmp_gt C S dcc_16 (pc' := 77) (pf := 19) (by decide) (by decide) rfl (fun hc16 => ?_) (fun hc16 => absurd ((o32_lt (by omega) (by omega)).mpr (by omega)) hc16)
      refine g_iload C S dcc_77 (pc' := 79) rfl rfl ?_
      refine g_if_eq C S dcc_79 (pc' := 92) (pf := 82) (by decide) (by decide) rfl (fun hc79 => ?_) (fun hc79 => absurd (i_zero qlf (of_decide_eq_true hck)) hc79)
      exact g_return C S dcc_92 (by decide) (by decide) (⟨rfl, rfl⟩)
    | succ d ih =>
      intro L fr lf free left hd qfr qlf hb' hck
      refine g_iload C S dcc_13 (pc' := 15) rfl rfl ?_
      refine g_iloadN C S dcc_15 (pc' := 16) rfl rfl ?_
      refine g_icmp_gt C S dcc_16 (pc' := 77) (pf := 19) (by decide) (by decide) rfl (fun hc16 => absurd ((o32_lt (by omega) (by omega)).mp hc16) (by omega)) (fun hc16 => ?_)
      refine g_iload C S dcc_19 (pc' := 21) rfl rfl ?_
      refine g_if_le C S dcc_21 (pc' := 30) (pf := 24) (by decide) (by decide) rfl (fun hc21 => ?_) (fun hc21 => ?_)
      · have hF := hfr1 qfr (by omega) (hc' L)
        have hG := hlf qlf (by omega) (hc' L)
        have hI : (if 0 < L then 2 * free else free) = free := if_neg (fun q => hc21 ((o32_gtl (K := 0) (by decide) (by omega)).mpr q))
        obtain ⟨k1, k2, k3⟩ := hCk_step hck
        rw [hI] at k1 k2 k3
        refine g_lloadN C S dcc_30 (pc' := 31) rfl rfl ?_
        refine g_aloadN C S dcc_31 (pc' := 32) rfl rfl rfl ?_
        refine g_iload C S dcc_32 (pc' := 34) rfl rfl ?_
        refine g_iaload C S (i := L) (v := (.int (Int32.ofNat (c' L)))) dcc_34 A_a1 (o32 (by omega)) (by omega) rfl (pc' := 35) rfl ?_
        refine g_i2l C S dcc_35 (pc' := 36) rfl ?_
        refine g_lsub C S dcc_36 (pc' := 37) rfl ?_
        refine g_lstoreN C S dcc_37 (pc' := 38) rfl (L' := #[.val (.ref a1), .val (.int (Int32.ofNat lg)), .val (.int (Int32.ofNat n)), .val (.long (fr - ((Int32.ofNat (c' L)).toInt64))), .second, .val (.int lf), .val (.int (Int32.ofNat L))]) rfl ?_
        refine g_iload C S dcc_38 (pc' := 40) rfl rfl ?_
        refine g_aloadN C S dcc_40 (pc' := 41) rfl rfl rfl ?_
        refine g_iload C S dcc_41 (pc' := 43) rfl rfl ?_
        refine g_iaload C S (i := L) (v := (.int (Int32.ofNat (c' L)))) dcc_43 A_a1 (o32 (by omega)) (by omega) rfl (pc' := 44) rfl ?_
        refine g_isub C S dcc_44 (pc' := 45) rfl ?_
        refine g_istore C S dcc_45 (pc' := 47) rfl (L' := #[.val (.ref a1), .val (.int (Int32.ofNat lg)), .val (.int (Int32.ofNat n)), .val (.long (fr - ((Int32.ofNat (c' L)).toInt64))), .second, .val (.int (lf - (Int32.ofNat (c' L)))), .val (.int (Int32.ofNat L))]) rfl ?_
        refine g_lloadN C S dcc_47 (pc' := 48) rfl rfl ?_
        refine g_lconst C S (0 : Int64) dcc_48 (pc' := 49) rfl rfl ?_
        refine g_lcmp C S dcc_49 (pc' := 50) rfl ?_
        refine g_lif_lt C S dcc_50 (pc' := 61) (pf := 53) (by decide) (by decide) rfl (fun hc50 => absurd hc50 (l_nn hF k1)) (fun hc50 => ?_)
        refine g_lloadN C S dcc_53 (pc' := 54) rfl rfl ?_
        refine g_iload C S dcc_54 (pc' := 56) rfl rfl ?_
        refine g_i2l C S dcc_56 (pc' := 57) rfl ?_
        refine g_lcmp C S dcc_57 (pc' := 58) rfl ?_
        refine g_lif_le C S dcc_58 (pc' := 71) (pf := 61) (by decide) (by decide) rfl (fun hc58 => ?_) (fun hc58 => absurd hc58 (l_le hF hG k2))
        refine g_iinc C S (1 : Int32) dcc_71 (pc' := 74) rfl rfl rfl (L' := #[.val (.ref a1), .val (.int (Int32.ofNat lg)), .val (.int (Int32.ofNat n)), .val (.long (fr - ((Int32.ofNat (c' L)).toInt64))), .second, .val (.int (lf - (Int32.ofNat (c' L)))), .val (.int ((Int32.ofNat L) + (1 : Int32)))]) rfl ?_
        refine g_goto C S dcc_74 (pc' := 13) (by decide) (by decide) ?_
        rw [o32_succ]
        exact ih (L + 1) _ _ _ _ (by omega) hF hG ⟨k1, k2, by omega⟩ k3
      · refine g_lloadN C S dcc_24 (pc' := 25) rfl rfl ?_
        refine g_ldc2 C S dcc_25 (hw _ (List.mem_of_getElem? (i := 76) rfl)) (pc' := 28) rfl ?_
        refine g_lmul C S dcc_28 (pc' := 29) rfl ?_
        refine g_lstoreN C S dcc_29 (pc' := 30) rfl (L' := #[.val (.ref a1), .val (.int (Int32.ofNat lg)), .val (.int (Int32.ofNat n)), .val (.long (fr * (2 : Int64))), .second, .val (.int lf), .val (.int (Int32.ofNat L))]) rfl ?_
        have hF := hfr2 qfr (by omega) (hc' L)
        have hG := hlf qlf (by omega) (hc' L)
        have hI : (if 0 < L then 2 * free else free) = 2 * free := if_pos ((o32_gtl (K := 0) (by decide) (by omega)).mp hc21)
        obtain ⟨k1, k2, k3⟩ := hCk_step hck
        rw [hI] at k1 k2 k3
        refine g_lloadN C S dcc_30 (pc' := 31) rfl rfl ?_
        refine g_aloadN C S dcc_31 (pc' := 32) rfl rfl rfl ?_
        refine g_iload C S dcc_32 (pc' := 34) rfl rfl ?_
        refine g_iaload C S (i := L) (v := (.int (Int32.ofNat (c' L)))) dcc_34 A_a1 (o32 (by omega)) (by omega) rfl (pc' := 35) rfl ?_
        refine g_i2l C S dcc_35 (pc' := 36) rfl ?_
        refine g_lsub C S dcc_36 (pc' := 37) rfl ?_
        refine g_lstoreN C S dcc_37 (pc' := 38) rfl (L' := #[.val (.ref a1), .val (.int (Int32.ofNat lg)), .val (.int (Int32.ofNat n)), .val (.long ((fr * (2 : Int64)) - ((Int32.ofNat (c' L)).toInt64))), .second, .val (.int lf), .val (.int (Int32.ofNat L))]) rfl ?_
        refine g_iload C S dcc_38 (pc' := 40) rfl rfl ?_
        refine g_aloadN C S dcc_40 (pc' := 41) rfl rfl rfl ?_
        refine g_iload C S dcc_41 (pc' := 43) rfl rfl ?_
        refine g_iaload C S (i := L) (v := (.int (Int32.ofNat (c' L)))) dcc_43 A_a1 (o32 (by omega)) (by omega) rfl (pc' := 44) rfl ?_
        refine g_isub C S dcc_44 (pc' := 45) rfl ?_
        refine g_istore C S dcc_45 (pc' := 47) rfl (L' := #[.val (.ref a1), .val (.int (Int32.ofNat lg)), .val (.int (Int32.ofNat n)), .val (.long ((fr * (2 : Int64)) - ((Int32.ofNat (c' L)).toInt64))), .second, .val (.int (lf - (Int32.ofNat (c' L)))), .val (.int (Int32.ofNat L))]) rfl ?_
        refine g_lloadN C S dcc_47 (pc' := 48) rfl rfl ?_
        refine g_lconst C S (0 : Int64) dcc_48 (pc' := 49) rfl rfl ?_
        refine g_lcmp C S dcc_49 (pc' := 50) rfl ?_
        refine g_lif_lt C S dcc_50 (pc' := 61) (pf := 53) (by decide) (by decide) rfl (fun hc50 => absurd hc50 (l_nn hF k1)) (fun hc50 => ?_)
        refine g_lloadN C S dcc_53 (pc' := 54) rfl rfl ?_
        refine g_iload C S dcc_54 (pc' := 56) rfl rfl ?_
        refine g_i2l C S dcc_56 (pc' := 57) rfl ?_
        refine g_lcmp C S dcc_57 (pc' := 58) rfl ?_
        refine g_lif_le C S dcc_58 (pc' := 71) (pf := 61) (by decide) (by decide) rfl (fun hc58 => ?_) (fun hc58 => absurd hc58 (l_le hF hG k2))
        refine g_iinc C S (1 : Int32) dcc_71 (pc' := 74) rfl rfl rfl (L' := #[.val (.ref a1), .val (.int (Int32.ofNat lg)), .val (.int (Int32.ofNat n)), .val (.long ((fr * (2 : Int64)) - ((Int32.ofNat (c' L)).toInt64))), .second, .val (.int (lf - (Int32.ofNat (c' L)))), .val (.int ((Int32.ofNat L) + (1 : Int32)))]) rfl ?_
        refine g_goto C S dcc_74 (pc' := 13) (by decide) (by decide) ?_
        rw [o32_succ]
        exact ih (L + 1) _ _ _ _ (by omega) hF hG ⟨k1, k2, by omega⟩ k3
  refine g_iloadN C S dcc_0 (pc' := 1) rfl rfl ?_
  refine g_if_ne C S dcc_1 (pc' := 5) (pf := 4) (by decide) (by decide) rfl (fun hc1 => ?_) (fun hc1 => absurd ((o32_inj (j := n) (k := 0) (by omega) (by omega)).mp hc1) (by omega))
  refine g_lconst C S (1 : Int64) dcc_5 (pc' := 6) rfl rfl ?_
  refine g_lstoreN C S dcc_6 (pc' := 7) rfl (L' := #[.val (.ref a1), .val (.int (Int32.ofNat lg)), .val (.int (Int32.ofNat n)), .val (.long (1 : Int64)), .second, .unset, .unset]) rfl ?_
  refine g_iloadN C S dcc_7 (pc' := 8) rfl rfl ?_
  refine g_istore C S dcc_8 (pc' := 10) rfl (L' := #[.val (.ref a1), .val (.int (Int32.ofNat lg)), .val (.int (Int32.ofNat n)), .val (.long (1 : Int64)), .second, .val (.int (Int32.ofNat n)), .unset]) rfl ?_
  refine g_iconst C S (0 : Int32) dcc_10 (pc' := 11) rfl rfl ?_
  refine g_istore C S dcc_11 (pc' := 13) rfl (L' := #[.val (.ref a1), .val (.int (Int32.ofNat lg)), .val (.int (Int32.ofNat n)), .val (.long (1 : Int64)), .second, .val (.int (Int32.ofNat n)), .val (.int (0 : Int32))]) rfl ?_
  exact LP (lg + 1) 0 _ _ 1 n (by omega) (by decide) (o32 (by omega)) (by omega) hck0
theorem pd_1 : parseMethodDescriptor "([III)V" = some ⟨[(.array .int), .int, .int], none⟩ := by decide +kernel
theorem pd_2 : parseMethodDescriptor "(II)I" = some ⟨[.int, .int], some .int⟩ := by decide +kernel
theorem dct_0 : decode prog_31_method_7_code 0 = .ok (.iconst 0, 1) := by decide +kernel
theorem dct_1 : decode prog_31_method_7_code 1 = .ok (.istore 4, 2) := by decide +kernel
theorem dct_3 : decode prog_31_method_7_code 3 = .ok (.iconst (-1), 1) := by decide +kernel
theorem dct_4 : decode prog_31_method_7_code 4 = .ok (.istore 5, 2) := by decide +kernel
theorem dct_6 : decode prog_31_method_7_code 6 = .ok (.iconst 0, 1) := by decide +kernel
theorem dct_7 : decode prog_31_method_7_code 7 = .ok (.istore 6, 2) := by decide +kernel
theorem dct_9 : decode prog_31_method_7_code 9 = .ok (.iload 6, 2) := by decide +kernel
theorem dct_11 : decode prog_31_method_7_code 11 = .ok (.iload_n 1, 1) := by decide +kernel
theorem dct_12 : decode prog_31_method_7_code 12 = .ok (.if_icmp .ge 81, 3) := by decide +kernel
theorem dct_15 : decode prog_31_method_7_code 15 = .ok (.aload_n 0, 1) := by decide +kernel
theorem dct_16 : decode prog_31_method_7_code 16 = .ok (.iload 6, 2) := by decide +kernel
theorem dct_18 : decode prog_31_method_7_code 18 = .ok (.iaload, 1) := by decide +kernel
theorem dct_19 : decode prog_31_method_7_code 19 = .ok (.istore 7, 2) := by decide +kernel
theorem dct_21 : decode prog_31_method_7_code 21 = .ok (.iload 7, 2) := by decide +kernel
theorem dct_23 : decode prog_31_method_7_code 23 = .ok (.iload 5, 2) := by decide +kernel
theorem dct_25 : decode prog_31_method_7_code 25 = .ok (.if_icmp .gt 13, 3) := by decide +kernel
theorem dct_38 : decode prog_31_method_7_code 38 = .ok (.iload 7, 2) := by decide +kernel
theorem dct_40 : decode prog_31_method_7_code 40 = .ok (.istore 5, 2) := by decide +kernel
theorem dct_42 : decode prog_31_method_7_code 42 = .ok (.aload_n 2, 1) := by decide +kernel
theorem dct_43 : decode prog_31_method_7_code 43 = .ok (.iload 7, 2) := by decide +kernel
theorem dct_45 : decode prog_31_method_7_code 45 = .ok (.iaload, 1) := by decide +kernel
theorem dct_46 : decode prog_31_method_7_code 46 = .ok (.istore 8, 2) := by decide +kernel
theorem dct_48 : decode prog_31_method_7_code 48 = .ok (.iload 8, 2) := by decide +kernel
theorem dct_50 : decode prog_31_method_7_code 50 = .ok (.ifCond .lt 10, 3) := by decide +kernel
theorem dct_53 : decode prog_31_method_7_code 53 = .ok (.iload 8, 2) := by decide +kernel
theorem dct_55 : decode prog_31_method_7_code 55 = .ok (.bipush 63, 2) := by decide +kernel
theorem dct_57 : decode prog_31_method_7_code 57 = .ok (.if_icmp .le 13, 3) := by decide +kernel
theorem dct_70 : decode prog_31_method_7_code 70 = .ok (.aload_n 3, 1) := by decide +kernel
theorem dct_71 : decode prog_31_method_7_code 71 = .ok (.iload 8, 2) := by decide +kernel
theorem dct_73 : decode prog_31_method_7_code 73 = .ok (.dup2, 1) := by decide +kernel
theorem dct_74 : decode prog_31_method_7_code 74 = .ok (.iaload, 1) := by decide +kernel
theorem dct_75 : decode prog_31_method_7_code 75 = .ok (.iconst 1, 1) := by decide +kernel
theorem dct_76 : decode prog_31_method_7_code 76 = .ok (.iadd, 1) := by decide +kernel
theorem dct_77 : decode prog_31_method_7_code 77 = .ok (.iastore, 1) := by decide +kernel
theorem dct_78 : decode prog_31_method_7_code 78 = .ok (.iload 4, 2) := by decide +kernel
theorem dct_80 : decode prog_31_method_7_code 80 = .ok (.iload 8, 2) := by decide +kernel
theorem dct_82 : decode prog_31_method_7_code 82 = .ok (.invokestatic 88, 3) := by decide +kernel
theorem dct_85 : decode prog_31_method_7_code 85 = .ok (.istore 4, 2) := by decide +kernel
theorem dct_87 : decode prog_31_method_7_code 87 = .ok (.iinc 6 1, 3) := by decide +kernel
theorem dct_90 : decode prog_31_method_7_code 90 = .ok (.goto (-81), 3) := by decide +kernel
theorem dct_93 : decode prog_31_method_7_code 93 = .ok (.aload_n 3, 1) := by decide +kernel
theorem dct_94 : decode prog_31_method_7_code 94 = .ok (.iload 4, 2) := by decide +kernel
theorem dct_96 : decode prog_31_method_7_code 96 = .ok (.iload_n 1, 1) := by decide +kernel
theorem dct_97 : decode prog_31_method_7_code 97 = .ok (.invokestatic 94, 3) := by decide +kernel
theorem dct_100 : decode prog_31_method_7_code 100 = .ok (.iload 4, 2) := by decide +kernel
theorem dct_102 : decode prog_31_method_7_code 102 = .ok (.ireturn, 1) := by decide +kernel
set_option maxRecDepth 65536 in
set_option maxHeartbeats 40000000 in
theorem c_cnt (l' : Launch) (Z : State) (a0 : Array Value) (hw : ∀ d ∈ tables_1, d.before a0 Z = true) (a1 : Addr) (a3 : Addr) (a4 : Addr) (h0 : Heap) (n0 : Nat) (l V : Nat → Nat) (n N1 N3 : Nat) (fv fl : Nat → Value) (hg : hGood l n = true) (hN1 : n ≤ N1) (hN3 : N3 ≤ 256) (hV : ∀ i, i < n → V i < N3) (hA : ∀ i, i + 1 < n → V i < V (i + 1)) (hfv : ∀ i, i < n → fv i = .int (Int32.ofNat (V i))) (hfl : ∀ i, i < n → fl (V i) = .int (Int32.ofNat (l i))) (ga : n0 ≤ a4) (ne_a1_a4 : a1 ≠ a4) (ne_a3_a4 : a3 ≠ a4) (A_a1 : Ary Z h0 a1 .int N1 fv) (A_a3 : Ary Z h0 a3 .int N3 fl) (A_a4 : Ary Z h0 a4 .int 64 (fun _ => .int (0 : Int32))) :
    Con l' Z (⟨"leafpress/HuffmanCode", "count", "([II[I[I)I"⟩ : MethodName) prog_31_method_7_code 9 (some .int) ({ frames := 1, cells := 0, slots := 0, locals := 18 } : Room) #[(.ref a1), (.int (Int32.ofNat n)), (.ref a3), (.ref a4)] h0 n0 (fun v h => v = some (.int (Int32.ofNat (hLng l n))) ∧ Keep h0 h [a4] ∧ Ary Z h a4 .int 64 (fun L => .int (Int32.ofNat (hCnt l n L)))) := by
  refine Con.of (plainFor_of_name (by first | (simp [plainName, overriddenIn]; done) | decide +kernel)) (L0 := #[.val (.ref a1), .val (.int (Int32.ofNat n)), .val (.ref a3), .val (.ref a4), .unset, .unset, .unset, .unset, .unset]) (fun m => by first | (simp [entryFrame, mkF, argsToLocals, Value.category]; done) | rfl) ?_
  intro p e s m below meth c T C S
  obtain ⟨hn0, hn64, hl, hck, hpos, hsid⟩ := hGood_spec hg
  have LP : ∀ (d : Nat) (i : Nat) (pv : Int32) (s7 : Slot) (s8 : Slot), i + d = n → (i < n → pv.toInt < (V i : Int)) → (s7 = .unset ∨ ∃ w, s7 = .val w ∧ w.category = 1) → (s8 = .unset ∨ ∃ w, s8 = .val w ∧ w.category = 1) → ∀ (T : State) (h : Heap), On p l' e ({ frames := 1, cells := 0, slots := 0, locals := 18 } : Room) s m #[(.ref a1), (.int (Int32.ofNat n)), (.ref a3), (.ref a4)] below meth c n0 T h 0 0 → Ary Z h a1 .int N1 fv → Ary Z h a3 .int N3 fl → Ary Z h a4 .int 64 (fun L => .int (Int32.ofNat (hCnt l i L))) → Keep h0 h [a4] → Gl p e below s ({ frames := 1, cells := 0, slots := 0, locals := 18 } : Room) n0 (fun v h => v = some (.int (Int32.ofNat (hLng l n))) ∧ Keep h0 h [a4] ∧ Ary Z h a4 .int 64 (fun L => .int (Int32.ofNat (hCnt l n L)))) T (mkF m 9 #[.val (.ref a1), .val (.int (Int32.ofNat n)), .val (.ref a3), .val (.ref a4), .val (.int (Int32.ofNat (hLng l i))), .val (.int pv), .val (.int (Int32.ofNat i)), s7, s8] []) := by
    intro d
    induction d with
    | zero =>
      intro i pv s7 s8 hd hpv hs7 hs8 T h S A_a1 A_a3 A_a4 Kp
      have hi : i = n := by omega
      rw [hi] at A_a4 ⊢
      refine g_iload C S dct_9 (pc' := 11) rfl rfl ?_
      refine g_iloadN C S dct_11 (pc' := 12) rfl rfl ?_
      refine g_icmp_ge C S dct_12 (pc' := 93) (pf := 15) (by decide) (by decide) rfl (fun hc12 => ?_) (fun hc12 => absurd ((o32_lt (by omega) (by omega)).mp hc12) (Nat.lt_irrefl n))
      refine g_aloadN C S dct_93 (pc' := 94) rfl rfl rfl ?_
      refine g_iload C S dct_94 (pc' := 96) rfl rfl ?_
      refine g_iloadN C S dct_96 (pc' := 97) rfl rfl ?_
      refine g_callS C S (rm := ({ frames := 0, cells := 0, slots := 0, locals := 0 } : Room)) (W := 0) dct_97 (hw _ (List.mem_of_getElem? (i := 51) rfl)) (hw _ (List.mem_of_getElem? (i := 52) rfl)) (hw _ (List.mem_of_getElem? (i := 9) rfl)) (hw _ (List.mem_of_getElem? (i := 53) rfl)) (by decide) (c_cc l' Z a0 hw a4 h n0 (hCnt l n) (hLng l n) n (hLng_le n hl) (by omega) (fun L => Nat.le_trans (hCnt_le l L n) hn64) hck A_a4) (argsL := [(.ref a4), (.int (Int32.ofNat (hLng l n))), (.int (Int32.ofNat n))]) (r := []) rfl (lenOf pd_1 rfl) rfl (Nat.le_of_eq rfl) (by decide) (by decide) (by decide) (by decide) (pc' := 100) rfl (fun T4 h4 v4 q4 S => ?_)
      obtain ⟨rfl, e4⟩ := q4; rw [e4] at S
      show Gl p e below s _ n0 _ T4 (mkF m 100 #[.val (.ref a1), .val (.int (Int32.ofNat n)), .val (.ref a3), .val (.ref a4), .val (.int (Int32.ofNat (hLng l n))), .val (.int pv), .val (.int (Int32.ofNat n)), s7, s8] [])
      refine g_iload C S dct_100 (pc' := 102) rfl rfl ?_
      exact g_retI C S dct_102 (by decide) (by decide) (⟨rfl, Kp, A_a4⟩)
    | succ d ih =>
      intro i pv s7 s8 hd hpv hs7 hs8 T h S A_a1 A_a3 A_a4 Kp
      have hin : i < n := by omega
      have hVi := hV i hin
      have hli := hl i hin
      have hLi : hLng l i ≤ 63 := hLng_le i fun j hj => hl j (by omega)
      refine g_iload C S dct_9 (pc' := 11) rfl rfl ?_
      refine g_iloadN C S dct_11 (pc' := 12) rfl rfl ?_
      refine g_icmp_ge C S dct_12 (pc' := 93) (pf := 15) (by decide) (by decide) rfl (fun hc12 => absurd ((o32_lt (by omega) (by omega)).mpr hin) hc12) (fun hc12 => ?_)
      refine g_aloadN C S dct_15 (pc' := 16) rfl rfl rfl ?_
      refine g_iload C S dct_16 (pc' := 18) rfl rfl ?_
      refine g_iaload C S (i := i) (v := (.int (Int32.ofNat (V i)))) dct_18 A_a1 (o32 (by omega)) (by omega) (hfv i hin) (pc' := 19) rfl ?_
      refine g_istore C S dct_19 (pc' := 21) rfl (L' := #[.val (.ref a1), .val (.int (Int32.ofNat n)), .val (.ref a3), .val (.ref a4), .val (.int (Int32.ofNat (hLng l i))), .val (.int pv), .val (.int (Int32.ofNat i)), .val (.int (Int32.ofNat (V i))), s8]) (XS.store1 rfl hs7 rfl) ?_
      refine g_iload C S dct_21 (pc' := 23) rfl rfl ?_
      refine g_iload C S dct_23 (pc' := 25) rfl rfl ?_
      refine g_icmp_gt C S dct_25 (pc' := 38) (pf := 28) (by decide) (by decide) rfl (fun hc25 => ?_) (fun hc25 => absurd (i_gt (hpv hin) (by omega)) hc25)
      refine g_iload C S dct_38 (pc' := 40) rfl rfl ?_
      refine g_istore C S dct_40 (pc' := 42) rfl (L' := #[.val (.ref a1), .val (.int (Int32.ofNat n)), .val (.ref a3), .val (.ref a4), .val (.int (Int32.ofNat (hLng l i))), .val (.int (Int32.ofNat (V i))), .val (.int (Int32.ofNat i)), .val (.int (Int32.ofNat (V i))), s8]) rfl ?_
      refine g_aloadN C S dct_42 (pc' := 43) rfl rfl rfl ?_
      refine g_iload C S dct_43 (pc' := 45) rfl rfl ?_
      refine g_iaload C S (i := (V i)) (v := (.int (Int32.ofNat (l i)))) dct_45 A_a3 (o32 (by omega)) hVi (hfl i hin) (pc' := 46) rfl ?_
      refine g_istore C S dct_46 (pc' := 48) rfl (L' := #[.val (.ref a1), .val (.int (Int32.ofNat n)), .val (.ref a3), .val (.ref a4), .val (.int (Int32.ofNat (hLng l i))), .val (.int (Int32.ofNat (V i))), .val (.int (Int32.ofNat i)), .val (.int (Int32.ofNat (V i))), .val (.int (Int32.ofNat (l i)))]) (XS.store1 rfl hs8 rfl) ?_
      refine g_iload C S dct_48 (pc' := 50) rfl rfl ?_
      refine g_if_lt C S dct_50 (pc' := 60) (pf := 53) (by decide) (by decide) rfl (fun hc50 => absurd ((o32_ltl (K := 0) (by decide) (by omega)).mp hc50) (Nat.not_lt_zero _)) (fun hc50 => ?_)
      refine g_iload C S dct_53 (pc' := 55) rfl rfl ?_
      refine g_bipush C S (63 : Int32) dct_55 (pc' := 57) rfl rfl ?_
      refine g_icmp_le C S dct_57 (pc' := 70) (pf := 60) (by decide) (by decide) rfl (fun hc57 => ?_) (fun hc57 => absurd ((o32_gtl (K := 63) (by decide) (by omega)).mp hc57) (by omega))
      refine g_aloadN C S dct_70 (pc' := 71) rfl rfl rfl ?_
      refine g_iload C S dct_71 (pc' := 73) rfl rfl ?_
      refine g_dup2 C S dct_73 (pc' := 74) rfl rfl rfl ?_
      refine g_iaload C S (i := (l i)) (v := (.int (Int32.ofNat (hCnt l i (l i))))) dct_74 A_a4 (o32 (by omega)) (by omega) rfl (pc' := 75) rfl ?_
      refine g_iconst C S (1 : Int32) dct_75 (pc' := 76) rfl rfl ?_
      refine g_iadd C S dct_76 (pc' := 77) rfl ?_
      refine g_iastore C S (i := (l i)) dct_77 A_a4 (o32 (by omega)) (by omega) ga (pc' := 78) rfl (fun T5 h5 S W5 B5 => ?_)
      have A_a1 := A_a1.other W5 ne_a1_a4
      have A_a3 := A_a3.other W5 ne_a3_a4
      have A_a4 := B5
      have A_a4 := A_a4.cg (hCnt_set l i 64)
      have Kp := Kp.wr W5 (Or.inl (List.mem_of_getElem? (i := 0) rfl))
      refine g_iload C S dct_78 (pc' := 80) rfl rfl ?_
      refine g_iload C S dct_80 (pc' := 82) rfl rfl ?_
      refine g_callS C S (rm := ({ frames := 0, cells := 0, slots := 0, locals := 0 } : Room)) (W := 0) dct_82 (hw _ (List.mem_of_getElem? (i := 47) rfl)) (hw _ (List.mem_of_getElem? (i := 48) rfl)) (hw _ (List.mem_of_getElem? (i := 49) rfl)) (hw _ (List.mem_of_getElem? (i := 50) rfl)) (by decide) (c_max l' Z a0 hw (Int32.ofNat (hLng l i)) (Int32.ofNat (l i)) h5 n0) (argsL := [(.int (Int32.ofNat (hLng l i))), (.int (Int32.ofNat (l i)))]) (r := []) rfl (lenOf pd_2 rfl) rfl (Nat.le_of_eq rfl) (by decide) (by decide) (by decide) (by decide) (pc' := 85) rfl (fun T6 h6 v6 q6 S => ?_)
      obtain ⟨rfl, e6⟩ := q6; rw [e6] at S
      show Gl p e below s _ n0 _ T6 (mkF m 85 #[.val (.ref a1), .val (.int (Int32.ofNat n)), .val (.ref a3), .val (.ref a4), .val (.int (Int32.ofNat (hLng l i))), .val (.int (Int32.ofNat (V i))), .val (.int (Int32.ofNat i)), .val (.int (Int32.ofNat (V i))), .val (.int (Int32.ofNat (l i)))] [(.int (if (Int32.ofNat (hLng l i)) < (Int32.ofNat (l i)) then (Int32.ofNat (l i)) else (Int32.ofNat (hLng l i))))])
      rw [o32_max l i (by omega) (by omega)]
      refine g_istore C S dct_85 (pc' := 87) rfl (L' := #[.val (.ref a1), .val (.int (Int32.ofNat n)), .val (.ref a3), .val (.ref a4), .val (.int (Int32.ofNat (hLng l (i + 1)))), .val (.int (Int32.ofNat (V i))), .val (.int (Int32.ofNat i)), .val (.int (Int32.ofNat (V i))), .val (.int (Int32.ofNat (l i)))]) rfl ?_
      refine g_iinc C S (1 : Int32) dct_87 (pc' := 90) rfl rfl rfl (L' := #[.val (.ref a1), .val (.int (Int32.ofNat n)), .val (.ref a3), .val (.ref a4), .val (.int (Int32.ofNat (hLng l (i + 1)))), .val (.int (Int32.ofNat (V i))), .val (.int ((Int32.ofNat i) + (1 : Int32))), .val (.int (Int32.ofNat (V i))), .val (.int (Int32.ofNat (l i)))]) rfl ?_
      refine g_goto C S dct_90 (pc' := 9) (by decide) (by decide) ?_
      rw [o32_succ]
      exact ih (i + 1) _ _ _ (by omega) (i_asc hA (by omega)) (Or.inr ⟨_, rfl, rfl⟩) (Or.inr ⟨_, rfl, rfl⟩) _ _ S A_a1 A_a3 A_a4 Kp
  refine g_iconst C S (0 : Int32) dct_0 (pc' := 1) rfl rfl ?_
  refine g_istore C S dct_1 (pc' := 3) rfl (L' := #[.val (.ref a1), .val (.int (Int32.ofNat n)), .val (.ref a3), .val (.ref a4), .val (.int (0 : Int32)), .unset, .unset, .unset, .unset]) rfl ?_
  refine g_iconst C S (-1 : Int32) dct_3 (pc' := 4) rfl rfl ?_
  refine g_istore C S dct_4 (pc' := 6) rfl (L' := #[.val (.ref a1), .val (.int (Int32.ofNat n)), .val (.ref a3), .val (.ref a4), .val (.int (0 : Int32)), .val (.int (-1 : Int32)), .unset, .unset, .unset]) rfl ?_
  refine g_iconst C S (0 : Int32) dct_6 (pc' := 7) rfl rfl ?_
  refine g_istore C S dct_7 (pc' := 9) rfl (L' := #[.val (.ref a1), .val (.int (Int32.ofNat n)), .val (.ref a3), .val (.ref a4), .val (.int (0 : Int32)), .val (.int (-1 : Int32)), .val (.int (0 : Int32)), .unset, .unset]) rfl ?_
  have hm1 : (-1 : Int32).toInt = -1 := by decide
  exact LP n 0 _ _ _ (by omega) (fun _ => by omega) (Or.inl rfl) (Or.inl rfl) _ _ S A_a1 A_a3 A_a4 (Keep.refl _ _)
theorem z_set {F G : Nat → Value} {v : Value} {N : Nat} (hv : v = F 0) : ∀ q, q < N → (fun q => if q = 0 then v else G q) q = (fun q => if q < 0 + 1 then F q else G q) q := fun q _ => by
  show (if q = 0 then v else G q) = (if q < 0 + 1 then F q else G q)
  by_cases u : q = 0
  · rw [if_pos u, if_pos (by omega), u]; exact hv
  · rw [if_neg u, if_neg (by omega)]
theorem dcn_0 : decode prog_31_method_8_code 0 = .ok (.aload 5, 2) := by decide +kernel
theorem dcn_2 : decode prog_31_method_8_code 2 = .ok (.iconst 0, 1) := by decide +kernel
theorem dcn_3 : decode prog_31_method_8_code 3 = .ok (.lconst 0, 1) := by decide +kernel
theorem dcn_4 : decode prog_31_method_8_code 4 = .ok (.lastore, 1) := by decide +kernel
theorem dcn_5 : decode prog_31_method_8_code 5 = .ok (.aload 6, 2) := by decide +kernel
theorem dcn_7 : decode prog_31_method_8_code 7 = .ok (.iconst 0, 1) := by decide +kernel
theorem dcn_8 : decode prog_31_method_8_code 8 = .ok (.iconst 0, 1) := by decide +kernel
theorem dcn_9 : decode prog_31_method_8_code 9 = .ok (.iastore, 1) := by decide +kernel
theorem dcn_10 : decode prog_31_method_8_code 10 = .ok (.lconst 0, 1) := by decide +kernel
theorem dcn_11 : decode prog_31_method_8_code 11 = .ok (.lstore 8, 2) := by decide +kernel
theorem dcn_13 : decode prog_31_method_8_code 13 = .ok (.iconst 1, 1) := by decide +kernel
theorem dcn_14 : decode prog_31_method_8_code 14 = .ok (.istore 10, 2) := by decide +kernel
theorem dcn_16 : decode prog_31_method_8_code 16 = .ok (.iload 10, 2) := by decide +kernel
theorem dcn_18 : decode prog_31_method_8_code 18 = .ok (.iload 4, 2) := by decide +kernel
theorem dcn_20 : decode prog_31_method_8_code 20 = .ok (.if_icmp .gt 49, 3) := by decide +kernel
theorem dcn_23 : decode prog_31_method_8_code 23 = .ok (.aload 6, 2) := by decide +kernel
theorem dcn_25 : decode prog_31_method_8_code 25 = .ok (.iload 10, 2) := by decide +kernel
theorem dcn_27 : decode prog_31_method_8_code 27 = .ok (.aload 6, 2) := by decide +kernel
theorem dcn_29 : decode prog_31_method_8_code 29 = .ok (.iload 10, 2) := by decide +kernel
theorem dcn_31 : decode prog_31_method_8_code 31 = .ok (.iconst 1, 1) := by decide +kernel
theorem dcn_32 : decode prog_31_method_8_code 32 = .ok (.isub, 1) := by decide +kernel
theorem dcn_33 : decode prog_31_method_8_code 33 = .ok (.iaload, 1) := by decide +kernel
theorem dcn_34 : decode prog_31_method_8_code 34 = .ok (.aload_n 3, 1) := by decide +kernel
theorem dcn_35 : decode prog_31_method_8_code 35 = .ok (.iload 10, 2) := by decide +kernel
theorem dcn_37 : decode prog_31_method_8_code 37 = .ok (.iconst 1, 1) := by decide +kernel
theorem dcn_38 : decode prog_31_method_8_code 38 = .ok (.isub, 1) := by decide +kernel
theorem dcn_39 : decode prog_31_method_8_code 39 = .ok (.iaload, 1) := by decide +kernel
theorem dcn_40 : decode prog_31_method_8_code 40 = .ok (.iadd, 1) := by decide +kernel
theorem dcn_41 : decode prog_31_method_8_code 41 = .ok (.iastore, 1) := by decide +kernel
theorem dcn_42 : decode prog_31_method_8_code 42 = .ok (.lload 8, 2) := by decide +kernel
theorem dcn_44 : decode prog_31_method_8_code 44 = .ok (.aload_n 3, 1) := by decide +kernel
theorem dcn_45 : decode prog_31_method_8_code 45 = .ok (.iload 10, 2) := by decide +kernel
theorem dcn_47 : decode prog_31_method_8_code 47 = .ok (.iconst 1, 1) := by decide +kernel
theorem dcn_48 : decode prog_31_method_8_code 48 = .ok (.isub, 1) := by decide +kernel
theorem dcn_49 : decode prog_31_method_8_code 49 = .ok (.iaload, 1) := by decide +kernel
theorem dcn_50 : decode prog_31_method_8_code 50 = .ok (.i2l, 1) := by decide +kernel
theorem dcn_51 : decode prog_31_method_8_code 51 = .ok (.ladd, 1) := by decide +kernel
theorem dcn_52 : decode prog_31_method_8_code 52 = .ok (.iconst 1, 1) := by decide +kernel
theorem dcn_53 : decode prog_31_method_8_code 53 = .ok (.lshl, 1) := by decide +kernel
theorem dcn_54 : decode prog_31_method_8_code 54 = .ok (.lstore 8, 2) := by decide +kernel
theorem dcn_56 : decode prog_31_method_8_code 56 = .ok (.aload 5, 2) := by decide +kernel
theorem dcn_58 : decode prog_31_method_8_code 58 = .ok (.iload 10, 2) := by decide +kernel
theorem dcn_60 : decode prog_31_method_8_code 60 = .ok (.lload 8, 2) := by decide +kernel
theorem dcn_62 : decode prog_31_method_8_code 62 = .ok (.lastore, 1) := by decide +kernel
theorem dcn_63 : decode prog_31_method_8_code 63 = .ok (.iinc 10 1, 3) := by decide +kernel
theorem dcn_66 : decode prog_31_method_8_code 66 = .ok (.goto (-50), 3) := by decide +kernel
theorem dcn_69 : decode prog_31_method_8_code 69 = .ok (.iconst 0, 1) := by decide +kernel
theorem dcn_70 : decode prog_31_method_8_code 70 = .ok (.istore 10, 2) := by decide +kernel
theorem dcn_72 : decode prog_31_method_8_code 72 = .ok (.iload 10, 2) := by decide +kernel
theorem dcn_74 : decode prog_31_method_8_code 74 = .ok (.iload_n 1, 1) := by decide +kernel
theorem dcn_75 : decode prog_31_method_8_code 75 = .ok (.if_icmp .ge 30, 3) := by decide +kernel
theorem dcn_78 : decode prog_31_method_8_code 78 = .ok (.aload 7, 2) := by decide +kernel
theorem dcn_80 : decode prog_31_method_8_code 80 = .ok (.aload 6, 2) := by decide +kernel
theorem dcn_82 : decode prog_31_method_8_code 82 = .ok (.aload_n 2, 1) := by decide +kernel
theorem dcn_83 : decode prog_31_method_8_code 83 = .ok (.aload_n 0, 1) := by decide +kernel
theorem dcn_84 : decode prog_31_method_8_code 84 = .ok (.iload 10, 2) := by decide +kernel
theorem dcn_86 : decode prog_31_method_8_code 86 = .ok (.iaload, 1) := by decide +kernel
theorem dcn_87 : decode prog_31_method_8_code 87 = .ok (.iaload, 1) := by decide +kernel
theorem dcn_88 : decode prog_31_method_8_code 88 = .ok (.dup2, 1) := by decide +kernel
theorem dcn_89 : decode prog_31_method_8_code 89 = .ok (.iaload, 1) := by decide +kernel
theorem dcn_90 : decode prog_31_method_8_code 90 = .ok (.dup_x2, 1) := by decide +kernel
theorem dcn_91 : decode prog_31_method_8_code 91 = .ok (.iconst 1, 1) := by decide +kernel
theorem dcn_92 : decode prog_31_method_8_code 92 = .ok (.iadd, 1) := by decide +kernel
theorem dcn_93 : decode prog_31_method_8_code 93 = .ok (.iastore, 1) := by decide +kernel
theorem dcn_94 : decode prog_31_method_8_code 94 = .ok (.aload_n 0, 1) := by decide +kernel
theorem dcn_95 : decode prog_31_method_8_code 95 = .ok (.iload 10, 2) := by decide +kernel
theorem dcn_97 : decode prog_31_method_8_code 97 = .ok (.iaload, 1) := by decide +kernel
theorem dcn_98 : decode prog_31_method_8_code 98 = .ok (.iastore, 1) := by decide +kernel
theorem dcn_99 : decode prog_31_method_8_code 99 = .ok (.iinc 10 1, 3) := by decide +kernel
theorem dcn_102 : decode prog_31_method_8_code 102 = .ok (.goto (-30), 3) := by decide +kernel
theorem dcn_105 : decode prog_31_method_8_code 105 = .ok (.iconst 0, 1) := by decide +kernel
theorem dcn_106 : decode prog_31_method_8_code 106 = .ok (.istore 10, 2) := by decide +kernel
theorem dcn_108 : decode prog_31_method_8_code 108 = .ok (.iload 10, 2) := by decide +kernel
theorem dcn_110 : decode prog_31_method_8_code 110 = .ok (.iload 4, 2) := by decide +kernel
theorem dcn_112 : decode prog_31_method_8_code 112 = .ok (.if_icmp .gt 21, 3) := by decide +kernel
theorem dcn_115 : decode prog_31_method_8_code 115 = .ok (.aload 6, 2) := by decide +kernel
theorem dcn_117 : decode prog_31_method_8_code 117 = .ok (.iload 10, 2) := by decide +kernel
theorem dcn_119 : decode prog_31_method_8_code 119 = .ok (.dup2, 1) := by decide +kernel
theorem dcn_120 : decode prog_31_method_8_code 120 = .ok (.iaload, 1) := by decide +kernel
theorem dcn_121 : decode prog_31_method_8_code 121 = .ok (.aload_n 3, 1) := by decide +kernel
theorem dcn_122 : decode prog_31_method_8_code 122 = .ok (.iload 10, 2) := by decide +kernel
theorem dcn_124 : decode prog_31_method_8_code 124 = .ok (.iaload, 1) := by decide +kernel
theorem dcn_125 : decode prog_31_method_8_code 125 = .ok (.isub, 1) := by decide +kernel
theorem dcn_126 : decode prog_31_method_8_code 126 = .ok (.iastore, 1) := by decide +kernel
theorem dcn_127 : decode prog_31_method_8_code 127 = .ok (.iinc 10 1, 3) := by decide +kernel
theorem dcn_130 : decode prog_31_method_8_code 130 = .ok (.goto (-22), 3) := by decide +kernel
theorem dcn_133 : decode prog_31_method_8_code 133 = .ok (.return_, 1) := by decide +kernel
set_option maxRecDepth 65536 in
set_option maxHeartbeats 40000000 in
theorem c_can (l' : Launch) (Z : State) (a0 : Array Value) (hw : ∀ d ∈ tables_1, d.before a0 Z = true) (a1 : Addr) (a3 : Addr) (a4 : Addr) (a6 : Addr) (a7 : Addr) (a8 : Addr) (h0 : Heap) (n0 : Nat) (l V : Nat → Nat) (n N1 N3 : Nat) (fv fl : Nat → Value) (hg : hGood l n = true) (hN1 : n ≤ N1) (hN3 : N3 ≤ 256) (hV : ∀ i, i < n → V i < N3) (hA : ∀ i, i + 1 < n → V i < V (i + 1)) (hfv : ∀ i, i < n → fv i = .int (Int32.ofNat (V i))) (hfl : ∀ i, i < n → fl (V i) = .int (Int32.ofNat (l i))) (lg : Nat) (hlg : hLng l n = lg) (f6 f7 f8 : Nat → Value) (g6 : n0 ≤ a6) (g7 : n0 ≤ a7) (g8 : n0 ≤ a8) (hD : [a1, a3, a4, a6, a7, a8].Nodup) (A_a1 : Ary Z h0 a1 .int N1 fv) (A_a3 : Ary Z h0 a3 .int N3 fl) (A_a4 : Ary Z h0 a4 .int 64 (fun L => .int (Int32.ofNat (hCnt l n L)))) (A_a6 : Ary Z h0 a6 .long 64 f6) (A_a7 : Ary Z h0 a7 .int 64 f7) (A_a8 : Ary Z h0 a8 .int 256 f8) :
    Con l' Z (⟨"leafpress/HuffmanCode", "canonical", "([II[I[II[J[I[I)V"⟩ : MethodName) prog_31_method_8_code 11 none ({ frames := 0, cells := 0, slots := 0, locals := 0 } : Room) #[(.ref a1), (.int (Int32.ofNat n)), (.ref a3), (.ref a4), (.int (Int32.ofNat lg)), (.ref a6), (.ref a7), (.ref a8)] h0 n0 (fun v h => v = none ∧ Keep h0 h [a6, a7, a8] ∧ Ary Z h a6 .long 64 (fun q => if q < lg + 1 then .long (hFc (hCnt l n) q) else f6 q) ∧ Ary Z h a7 .int 64 (fun q => if q < lg + 1 then .int (Int32.ofNat (hFs (hCnt l n) q)) else f7 q) ∧ Ary Z h a8 .int 256 (fun q => if hSid l n n q < n then .int (Int32.ofNat (V (hSid l n n q))) else f8 q)) := by
  refine Con.of (plainFor_of_name (by first | (simp [plainName, overriddenIn]; done) | decide +kernel)) (L0 := #[.val (.ref a1), .val (.int (Int32.ofNat n)), .val (.ref a3), .val (.ref a4), .val (.int (Int32.ofNat lg)), .val (.ref a6), .val (.ref a7), .val (.ref a8), .unset, .unset, .unset]) (fun m => by first | (simp [entryFrame, mkF, argsToLocals, Value.category]; done) | rfl) ?_
  intro p e s m below meth c T C S
  obtain ⟨hn0, hn64, hl, hck, hpos, hsid⟩ := hGood_spec hg
  have hlg63 : lg ≤ 63 := by rw [← hlg]; exact hLng_le n hl
  have Kp := Keep.refl h0 [a6, a7, a8]
  have ne_a1_a3 : a1 ≠ a3 := nd hD 0 1 (show (0 : Nat) < 1 by decide) (show (1 : Nat) < 6 by decide)
  have ne_a1_a4 : a1 ≠ a4 := nd hD 0 2 (show (0 : Nat) < 2 by decide) (show (2 : Nat) < 6 by decide)
  have ne_a1_a6 : a1 ≠ a6 := nd hD 0 3 (show (0 : Nat) < 3 by decide) (show (3 : Nat) < 6 by decide)
  have ne_a1_a7 : a1 ≠ a7 := nd hD 0 4 (show (0 : Nat) < 4 by decide) (show (4 : Nat) < 6 by decide)
  have ne_a1_a8 : a1 ≠ a8 := nd hD 0 5 (show (0 : Nat) < 5 by decide) (show (5 : Nat) < 6 by decide)
  have ne_a3_a4 : a3 ≠ a4 := nd hD 1 2 (show (1 : Nat) < 2 by decide) (show (2 : Nat) < 6 by decide)
  have ne_a3_a6 : a3 ≠ a6 := nd hD 1 3 (show (1 : Nat) < 3 by decide) (show (3 : Nat) < 6 by decide)
  have ne_a3_a7 : a3 ≠ a7 := nd hD 1 4 (show (1 : Nat) < 4 by decide) (show (4 : Nat) < 6 by decide)
  have ne_a3_a8 : a3 ≠ a8 := nd hD 1 5 (show (1 : Nat) < 5 by decide) (show (5 : Nat) < 6 by decide)
  have ne_a4_a6 : a4 ≠ a6 := nd hD 2 3 (show (2 : Nat) < 3 by decide) (show (3 : Nat) < 6 by decide)
  have ne_a4_a7 : a4 ≠ a7 := nd hD 2 4 (show (2 : Nat) < 4 by decide) (show (4 : Nat) < 6 by decide)
  have ne_a4_a8 : a4 ≠ a8 := nd hD 2 5 (show (2 : Nat) < 5 by decide) (show (5 : Nat) < 6 by decide)
  have ne_a6_a7 : a6 ≠ a7 := nd hD 3 4 (show (3 : Nat) < 4 by decide) (show (4 : Nat) < 6 by decide)
  have ne_a6_a8 : a6 ≠ a8 := nd hD 3 5 (show (3 : Nat) < 5 by decide) (show (5 : Nat) < 6 by decide)
  have ne_a7_a8 : a7 ≠ a8 := nd hD 4 5 (show (4 : Nat) < 5 by decide) (show (5 : Nat) < 6 by decide)
  have LPC : ∀ (d : Nat) (L : Nat) (z8 : Int64), L + d = lg + 1 → ∀ (T : State) (h : Heap), On p l' e ({ frames := 0, cells := 0, slots := 0, locals := 0 } : Room) s m #[(.ref a1), (.int (Int32.ofNat n)), (.ref a3), (.ref a4), (.int (Int32.ofNat lg)), (.ref a6), (.ref a7), (.ref a8)] below meth c n0 T h 0 0 → Ary Z h a1 .int N1 fv → Ary Z h a3 .int N3 fl → Ary Z h a4 .int 64 (fun L => .int (Int32.ofNat (hCnt l n L))) → Ary Z h a6 .long 64 (fun q => if q < lg + 1 then .long (hFc (hCnt l n) q) else f6 q) → Ary Z h a7 .int 64 (fun q => if q < L then .int (Int32.ofNat (hFs (hCnt l n) q)) else if q ≤ lg then .int (Int32.ofNat (hFs (hCnt l n) q + hCnt l n q)) else f7 q) → Ary Z h a8 .int 256 (fun q => if hSid l n n q < n then .int (Int32.ofNat (V (hSid l n n q))) else f8 q) → Keep h0 h [a6, a7, a8] → Gl p e below s ({ frames := 0, cells := 0, slots := 0, locals := 0 } : Room) n0 (fun v h => v = none ∧ Keep h0 h [a6, a7, a8] ∧ Ary Z h a6 .long 64 (fun q => if q < lg + 1 then .long (hFc (hCnt l n) q) else f6 q) ∧ Ary Z h a7 .int 64 (fun q => if q < lg + 1 then .int (Int32.ofNat (hFs (hCnt l n) q)) else f7 q) ∧ Ary Z h a8 .int 256 (fun q => if hSid l n n q < n then .int (Int32.ofNat (V (hSid l n n q))) else f8 q)) T (mkF m 108 #[.val (.ref a1), .val (.int (Int32.ofNat n)), .val (.ref a3), .val (.ref a4), .val (.int (Int32.ofNat lg)), .val (.ref a6), .val (.ref a7), .val (.ref a8), .val (.long z8), .second, .val (.int (Int32.ofNat L))] []) := by
    intro d
    induction d with
    | zero =>
      intro L z8 hd T h S A_a1 A_a3 A_a4 A_a6 A_a7 A_a8 Kp
      refine g_iload C S dcn_108 (pc' := 110) rfl rfl ?_
      refine g_iload C S dcn_110 (pc' := 112) rfl rfl ?_
      refine g_icmp_gt C S dcn_112 (pc' := 133) (pf := 115) (by decide) (by decide) rfl (fun hc112 => ?_) (fun hc112 => absurd ((o32_lt (by omega) (by omega)).mpr (by omega)) hc112)
      exact g_return C S dcn_133 (by decide) (by decide) (⟨rfl, Kp, A_a6, A_a7.cg (c_end _ _ _ lg L (by omega) 64), A_a8⟩)
    | succ d ih =>
      intro L z8 hd T h S A_a1 A_a3 A_a4 A_a6 A_a7 A_a8 Kp
      have hL : L ≤ lg := by omega
      refine g_iload C S dcn_108 (pc' := 110) rfl rfl ?_
      refine g_iload C S dcn_110 (pc' := 112) rfl rfl ?_
      refine g_icmp_gt C S dcn_112 (pc' := 133) (pf := 115) (by decide) (by decide) rfl (fun hc112 => absurd ((o32_lt (by omega) (by omega)).mp hc112) (by omega)) (fun hc112 => ?_)
      refine g_aload C S dcn_115 (pc' := 117) rfl rfl rfl ?_
      refine g_iload C S dcn_117 (pc' := 119) rfl rfl ?_
      refine g_dup2 C S dcn_119 (pc' := 120) rfl rfl rfl ?_
      refine g_iaload C S (i := L) (v := (.int (Int32.ofNat (hFs (hCnt l n) L + hCnt l n L)))) dcn_120 A_a7 (o32 (by omega)) (by omega) ((if_neg (Nat.lt_irrefl L)).trans (if_pos hL)) (pc' := 121) rfl ?_
      refine g_aloadN C S dcn_121 (pc' := 122) rfl rfl rfl ?_
      refine g_iload C S dcn_122 (pc' := 124) rfl rfl ?_
      refine g_iaload C S (i := L) (v := (.int (Int32.ofNat (hCnt l n L)))) dcn_124 A_a4 (o32 (by omega)) (by omega) rfl (pc' := 125) rfl ?_
      refine g_isub C S dcn_125 (pc' := 126) rfl ?_
      refine g_iastore C S (i := L) dcn_126 A_a7 (o32 (by omega)) (by omega) g7 (pc' := 127) rfl (fun T7 h7 S W7 B7 => ?_)
      have A_a1 := A_a1.other W7 ne_a1_a7
      have A_a3 := A_a3.other W7 ne_a3_a7
      have A_a4 := A_a4.other W7 ne_a4_a7
      have A_a6 := A_a6.other W7 ne_a6_a7
      have A_a8 := A_a8.other W7 (Ne.symm ne_a7_a8)
      have A_a7 := B7
      have A_a7 := A_a7.cg (dn_set l n lg L 64 hL f7)
      have Kp := Kp.wr W7 (Or.inl (List.mem_of_getElem? (i := 1) rfl))
      refine g_iinc C S (1 : Int32) dcn_127 (pc' := 130) rfl rfl rfl (L' := #[.val (.ref a1), .val (.int (Int32.ofNat n)), .val (.ref a3), .val (.ref a4), .val (.int (Int32.ofNat lg)), .val (.ref a6), .val (.ref a7), .val (.ref a8), .val (.long z8), .second, .val (.int ((Int32.ofNat L) + (1 : Int32)))]) rfl ?_
      refine g_goto C S dcn_130 (pc' := 108) (by decide) (by decide) ?_
      rw [o32_succ]
      exact ih (L + 1) z8 (by omega) _ _ S A_a1 A_a3 A_a4 A_a6 A_a7 A_a8 Kp
  have LPB : ∀ (d : Nat) (i : Nat) (z8 : Int64), i + d = n → ∀ (T : State) (h : Heap), On p l' e ({ frames := 0, cells := 0, slots := 0, locals := 0 } : Room) s m #[(.ref a1), (.int (Int32.ofNat n)), (.ref a3), (.ref a4), (.int (Int32.ofNat lg)), (.ref a6), (.ref a7), (.ref a8)] below meth c n0 T h 0 0 → Ary Z h a1 .int N1 fv → Ary Z h a3 .int N3 fl → Ary Z h a4 .int 64 (fun L => .int (Int32.ofNat (hCnt l n L))) → Ary Z h a6 .long 64 (fun q => if q < lg + 1 then .long (hFc (hCnt l n) q) else f6 q) → Ary Z h a7 .int 64 (fun q => if q ≤ lg then .int (Int32.ofNat (hFs (hCnt l n) q + hCnt l i q)) else f7 q) → Ary Z h a8 .int 256 (fun q => if hSid l n i q < n then .int (Int32.ofNat (V (hSid l n i q))) else f8 q) → Keep h0 h [a6, a7, a8] → Gl p e below s ({ frames := 0, cells := 0, slots := 0, locals := 0 } : Room) n0 (fun v h => v = none ∧ Keep h0 h [a6, a7, a8] ∧ Ary Z h a6 .long 64 (fun q => if q < lg + 1 then .long (hFc (hCnt l n) q) else f6 q) ∧ Ary Z h a7 .int 64 (fun q => if q < lg + 1 then .int (Int32.ofNat (hFs (hCnt l n) q)) else f7 q) ∧ Ary Z h a8 .int 256 (fun q => if hSid l n n q < n then .int (Int32.ofNat (V (hSid l n n q))) else f8 q)) T (mkF m 72 #[.val (.ref a1), .val (.int (Int32.ofNat n)), .val (.ref a3), .val (.ref a4), .val (.int (Int32.ofNat lg)), .val (.ref a6), .val (.ref a7), .val (.ref a8), .val (.long z8), .second, .val (.int (Int32.ofNat i))] []) := by
    intro d
    induction d with
    | zero =>
      intro i z8 hd T h S A_a1 A_a3 A_a4 A_a6 A_a7 A_a8 Kp
      have hi : i = n := by omega
      rw [hi] at A_a7 A_a8 ⊢
      refine g_iload C S dcn_72 (pc' := 74) rfl rfl ?_
      refine g_iloadN C S dcn_74 (pc' := 75) rfl rfl ?_
      refine g_icmp_ge C S dcn_75 (pc' := 105) (pf := 78) (by decide) (by decide) rfl (fun hc75 => ?_) (fun hc75 => absurd ((o32_lt (by omega) (by omega)).mp hc75) (Nat.lt_irrefl n))
      refine g_iconst C S (0 : Int32) dcn_105 (pc' := 106) rfl rfl ?_
      refine g_istore C S dcn_106 (pc' := 108) rfl (L' := #[.val (.ref a1), .val (.int (Int32.ofNat n)), .val (.ref a3), .val (.ref a4), .val (.int (Int32.ofNat lg)), .val (.ref a6), .val (.ref a7), .val (.ref a8), .val (.long z8), .second, .val (.int (0 : Int32))]) rfl ?_
      exact LPC (lg + 1) 0 z8 (by omega) _ _ S A_a1 A_a3 A_a4 A_a6 (A_a7.cg fun q hq => (if_neg (Nat.not_lt_zero q)).symm) A_a8 Kp
    | succ d ih =>
      intro i z8 hd T h S A_a1 A_a3 A_a4 A_a6 A_a7 A_a8 Kp
      have hin : i < n := by omega
      have hVi := hV i hin
      have hli := hl i hin
      have hle : l i ≤ lg := by rw [← hlg]; exact hLng_ge l n i hin
      have hpi := hpos i hin
      refine g_iload C S dcn_72 (pc' := 74) rfl rfl ?_
      refine g_iloadN C S dcn_74 (pc' := 75) rfl rfl ?_
      refine g_icmp_ge C S dcn_75 (pc' := 105) (pf := 78) (by decide) (by decide) rfl (fun hc75 => absurd ((o32_lt (by omega) (by omega)).mpr hin) hc75) (fun hc75 => ?_)
      refine g_aload C S dcn_78 (pc' := 80) rfl rfl rfl ?_
      refine g_aload C S dcn_80 (pc' := 82) rfl rfl rfl ?_
      refine g_aloadN C S dcn_82 (pc' := 83) rfl rfl rfl ?_
      refine g_aloadN C S dcn_83 (pc' := 84) rfl rfl rfl ?_
      refine g_iload C S dcn_84 (pc' := 86) rfl rfl ?_
      refine g_iaload C S (i := i) (v := (.int (Int32.ofNat (V i)))) dcn_86 A_a1 (o32 (by omega)) (by omega) (hfv i hin) (pc' := 87) rfl ?_
      refine g_iaload C S (i := (V i)) (v := (.int (Int32.ofNat (l i)))) dcn_87 A_a3 (o32 (by omega)) hVi (hfl i hin) (pc' := 88) rfl ?_
      refine g_dup2 C S dcn_88 (pc' := 89) rfl rfl rfl ?_
      refine g_iaload C S (i := (l i)) (v := (.int (Int32.ofNat (hPos l n i)))) dcn_89 A_a7 (o32 (by omega)) (by omega) (if_pos hle) (pc' := 90) rfl ?_
      refine g_dup_x2 C S dcn_90 (pc' := 91) rfl rfl rfl rfl ?_
      refine g_iconst C S (1 : Int32) dcn_91 (pc' := 92) rfl rfl ?_
      refine g_iadd C S dcn_92 (pc' := 93) rfl ?_
      refine g_iastore C S (i := (l i)) dcn_93 A_a7 (o32 (by omega)) (by omega) g7 (pc' := 94) rfl (fun T8 h8 S W8 B8 => ?_)
      have A_a1 := A_a1.other W8 ne_a1_a7
      have A_a3 := A_a3.other W8 ne_a3_a7
      have A_a4 := A_a4.other W8 ne_a4_a7
      have A_a6 := A_a6.other W8 ne_a6_a7
      have A_a8 := A_a8.other W8 (Ne.symm ne_a7_a8)
      have A_a7 := B8
      have A_a7 := A_a7.cg (hFs_B l n lg i 64 hle f7)
      have Kp := Kp.wr W8 (Or.inl (List.mem_of_getElem? (i := 1) rfl))
      refine g_aloadN C S dcn_94 (pc' := 95) rfl rfl rfl ?_
      refine g_iload C S dcn_95 (pc' := 97) rfl rfl ?_
      refine g_iaload C S (i := i) (v := (.int (Int32.ofNat (V i)))) dcn_97 A_a1 (o32 (by omega)) (by omega) (hfv i hin) (pc' := 98) rfl ?_
      refine g_iastore C S (i := (hPos l n i)) dcn_98 A_a8 (o32 (by omega)) hpi g8 (pc' := 99) rfl (fun T9 h9 S W9 B9 => ?_)
      have A_a1 := A_a1.other W9 ne_a1_a8
      have A_a3 := A_a3.other W9 ne_a3_a8
      have A_a4 := A_a4.other W9 ne_a4_a8
      have A_a6 := A_a6.other W9 ne_a6_a8
      have A_a7 := A_a7.other W9 ne_a7_a8
      have A_a8 := B9
      have A_a8 := A_a8.cg (hSid_set l V n i 256 hin f8)
      have Kp := Kp.wr W9 (Or.inl (List.mem_of_getElem? (i := 2) rfl))
      refine g_iinc C S (1 : Int32) dcn_99 (pc' := 102) rfl rfl rfl (L' := #[.val (.ref a1), .val (.int (Int32.ofNat n)), .val (.ref a3), .val (.ref a4), .val (.int (Int32.ofNat lg)), .val (.ref a6), .val (.ref a7), .val (.ref a8), .val (.long z8), .second, .val (.int ((Int32.ofNat i) + (1 : Int32)))]) rfl ?_
      refine g_goto C S dcn_102 (pc' := 72) (by decide) (by decide) ?_
      rw [o32_succ]
      exact ih (i + 1) z8 (by omega) _ _ S A_a1 A_a3 A_a4 A_a6 A_a7 A_a8 Kp
  have LPA : ∀ (d : Nat) (M : Nat), M + d = lg → ∀ (T : State) (h : Heap), On p l' e ({ frames := 0, cells := 0, slots := 0, locals := 0 } : Room) s m #[(.ref a1), (.int (Int32.ofNat n)), (.ref a3), (.ref a4), (.int (Int32.ofNat lg)), (.ref a6), (.ref a7), (.ref a8)] below meth c n0 T h 0 0 → Ary Z h a1 .int N1 fv → Ary Z h a3 .int N3 fl → Ary Z h a4 .int 64 (fun L => .int (Int32.ofNat (hCnt l n L))) → Ary Z h a6 .long 64 (fun q => if q < M + 1 then .long (hFc (hCnt l n) q) else f6 q) → Ary Z h a7 .int 64 (fun q => if q < M + 1 then .int (Int32.ofNat (hFs (hCnt l n) q)) else f7 q) → Ary Z h a8 .int 256 f8 → Keep h0 h [a6, a7, a8] → Gl p e below s ({ frames := 0, cells := 0, slots := 0, locals := 0 } : Room) n0 (fun v h => v = none ∧ Keep h0 h [a6, a7, a8] ∧ Ary Z h a6 .long 64 (fun q => if q < lg + 1 then .long (hFc (hCnt l n) q) else f6 q) ∧ Ary Z h a7 .int 64 (fun q => if q < lg + 1 then .int (Int32.ofNat (hFs (hCnt l n) q)) else f7 q) ∧ Ary Z h a8 .int 256 (fun q => if hSid l n n q < n then .int (Int32.ofNat (V (hSid l n n q))) else f8 q)) T (mkF m 16 #[.val (.ref a1), .val (.int (Int32.ofNat n)), .val (.ref a3), .val (.ref a4), .val (.int (Int32.ofNat lg)), .val (.ref a6), .val (.ref a7), .val (.ref a8), .val (.long (hFc (hCnt l n) M)), .second, .val (.int (Int32.ofNat (M + 1)))] []) := by
    intro d
    induction d with
    | zero =>
      intro M hd T h S A_a1 A_a3 A_a4 A_a6 A_a7 A_a8 Kp
      have hM : M = lg := by omega
      refine g_iload C S dcn_16 (pc' := 18) rfl rfl ?_
      refine g_iload C S dcn_18 (pc' := 20) rfl rfl ?_
      refine g_icmp_gt C S dcn_20 (pc' := 69) (pf := 23) (by decide) (by decide) rfl (fun hc20 => ?_) (fun hc20 => absurd ((o32_lt (by omega) (by omega)).mpr (by omega)) hc20)
      refine g_iconst C S (0 : Int32) dcn_69 (pc' := 70) rfl rfl ?_
      refine g_istore C S dcn_70 (pc' := 72) rfl (L' := #[.val (.ref a1), .val (.int (Int32.ofNat n)), .val (.ref a3), .val (.ref a4), .val (.int (Int32.ofNat lg)), .val (.ref a6), .val (.ref a7), .val (.ref a8), .val (.long (hFc (hCnt l n) M)), .second, .val (.int (0 : Int32))]) rfl ?_
      exact LPB n 0 _ (by omega) _ _ S A_a1 A_a3 A_a4 (by rw [hM] at A_a6; exact A_a6) (A_a7.cg (to_B l (hCnt l n) lg M hM f7 64)) (A_a8.cg fun q hq => (if_neg (Nat.lt_irrefl n)).symm) Kp
    | succ d ih =>
      intro M hd T h S A_a1 A_a3 A_a4 A_a6 A_a7 A_a8 Kp
      refine g_iload C S dcn_16 (pc' := 18) rfl rfl ?_
      refine g_iload C S dcn_18 (pc' := 20) rfl rfl ?_
      refine g_icmp_gt C S dcn_20 (pc' := 69) (pf := 23) (by decide) (by decide) rfl (fun hc20 => absurd ((o32_lt (by omega) (by omega)).mp hc20) (by omega)) (fun hc20 => ?_)
      refine g_aload C S dcn_23 (pc' := 25) rfl rfl rfl ?_
      refine g_iload C S dcn_25 (pc' := 27) rfl rfl ?_
      refine g_aload C S dcn_27 (pc' := 29) rfl rfl rfl ?_
      refine g_iload C S dcn_29 (pc' := 31) rfl rfl ?_
      refine g_iconst C S (1 : Int32) dcn_31 (pc' := 32) rfl rfl ?_
      refine g_isub C S dcn_32 (pc' := 33) rfl ?_
      refine g_iaload C S (i := M) (v := (.int (Int32.ofNat (hFs (hCnt l n) M)))) dcn_33 A_a7 (i_pred (by omega)) (by omega) (if_pos (Nat.lt_succ_self M)) (pc' := 34) rfl ?_
      refine g_aloadN C S dcn_34 (pc' := 35) rfl rfl rfl ?_
      refine g_iload C S dcn_35 (pc' := 37) rfl rfl ?_
      refine g_iconst C S (1 : Int32) dcn_37 (pc' := 38) rfl rfl ?_
      refine g_isub C S dcn_38 (pc' := 39) rfl ?_
      refine g_iaload C S (i := M) (v := (.int (Int32.ofNat (hCnt l n M)))) dcn_39 A_a4 (i_pred (by omega)) (by omega) rfl (pc' := 40) rfl ?_
      refine g_iadd C S dcn_40 (pc' := 41) rfl ?_
      refine g_iastore C S (i := (M + 1)) dcn_41 A_a7 (o32 (by omega)) (by omega) g7 (pc' := 42) rfl (fun T10 h10 S W10 B10 => ?_)
      have A_a1 := A_a1.other W10 ne_a1_a7
      have A_a3 := A_a3.other W10 ne_a3_a7
      have A_a4 := A_a4.other W10 ne_a4_a7
      have A_a6 := A_a6.other W10 ne_a6_a7
      have A_a8 := A_a8.other W10 (Ne.symm ne_a7_a8)
      have A_a7 := B10
      have A_a7 := A_a7.cg (up_set (F := fun q => .int (Int32.ofNat (hFs (hCnt l n) q))) (G := f7) (M := M + 1) 64 (by rw [o32_add]; rfl))
      have Kp := Kp.wr W10 (Or.inl (List.mem_of_getElem? (i := 1) rfl))
      refine g_lload C S dcn_42 (pc' := 44) rfl rfl ?_
      refine g_aloadN C S dcn_44 (pc' := 45) rfl rfl rfl ?_
      refine g_iload C S dcn_45 (pc' := 47) rfl rfl ?_
      refine g_iconst C S (1 : Int32) dcn_47 (pc' := 48) rfl rfl ?_
      refine g_isub C S dcn_48 (pc' := 49) rfl ?_
      refine g_iaload C S (i := M) (v := (.int (Int32.ofNat (hCnt l n M)))) dcn_49 A_a4 (i_pred (by omega)) (by omega) rfl (pc' := 50) rfl ?_
      refine g_i2l C S dcn_50 (pc' := 51) rfl ?_
      refine g_ladd C S dcn_51 (pc' := 52) rfl ?_
      refine g_iconst C S (1 : Int32) dcn_52 (pc' := 53) rfl rfl ?_
      refine g_lshl C S dcn_53 (pc' := 54) rfl ?_
      refine g_lstore C S dcn_54 (pc' := 56) rfl (L' := #[.val (.ref a1), .val (.int (Int32.ofNat n)), .val (.ref a3), .val (.ref a4), .val (.int (Int32.ofNat lg)), .val (.ref a6), .val (.ref a7), .val (.ref a8), .val (.long (((hFc (hCnt l n) M) + ((Int32.ofNat (hCnt l n M)).toInt64)) <<< ((1 : Int32) &&& 0x3f).toInt64)), .second, .val (.int (Int32.ofNat (M + 1)))]) rfl ?_
      refine g_aload C S dcn_56 (pc' := 58) rfl rfl rfl ?_
      refine g_iload C S dcn_58 (pc' := 60) rfl rfl ?_
      refine g_lload C S dcn_60 (pc' := 62) rfl rfl ?_
      refine g_lastore C S (i := (M + 1)) dcn_62 A_a6 (o32 (by omega)) (by omega) g6 (pc' := 63) rfl (fun T11 h11 S W11 B11 => ?_)
      have A_a1 := A_a1.other W11 ne_a1_a6
      have A_a3 := A_a3.other W11 ne_a3_a6
      have A_a4 := A_a4.other W11 ne_a4_a6
      have A_a7 := A_a7.other W11 (Ne.symm ne_a6_a7)
      have A_a8 := A_a8.other W11 (Ne.symm ne_a6_a8)
      have A_a6 := B11
      have A_a6 := A_a6.cg (up_set (F := fun q => .long (hFc (hCnt l n) q)) (G := f6) (M := M + 1) 64 rfl)
      have Kp := Kp.wr W11 (Or.inl (List.mem_of_getElem? (i := 0) rfl))
      refine g_iinc C S (1 : Int32) dcn_63 (pc' := 66) rfl rfl rfl (L' := #[.val (.ref a1), .val (.int (Int32.ofNat n)), .val (.ref a3), .val (.ref a4), .val (.int (Int32.ofNat lg)), .val (.ref a6), .val (.ref a7), .val (.ref a8), .val (.long (((hFc (hCnt l n) M) + ((Int32.ofNat (hCnt l n M)).toInt64)) <<< ((1 : Int32) &&& 0x3f).toInt64)), .second, .val (.int ((Int32.ofNat (M + 1)) + (1 : Int32)))]) rfl ?_
      refine g_goto C S dcn_66 (pc' := 16) (by decide) (by decide) ?_
      rw [o32_succ]
      exact ih (M + 1) (by omega) _ _ S A_a1 A_a3 A_a4 A_a6 A_a7 A_a8 Kp
  refine g_aload C S dcn_0 (pc' := 2) rfl rfl rfl ?_
  refine g_iconst C S (0 : Int32) dcn_2 (pc' := 3) rfl rfl ?_
  refine g_lconst C S (0 : Int64) dcn_3 (pc' := 4) rfl rfl ?_
  refine g_lastore C S (i := 0) dcn_4 A_a6 (by decide) (by decide) g6 (pc' := 5) rfl (fun T12 h12 S W12 B12 => ?_)
  have A_a1 := A_a1.other W12 ne_a1_a6
  have A_a3 := A_a3.other W12 ne_a3_a6
  have A_a4 := A_a4.other W12 ne_a4_a6
  have A_a7 := A_a7.other W12 (Ne.symm ne_a6_a7)
  have A_a8 := A_a8.other W12 (Ne.symm ne_a6_a8)
  have A_a6 := B12
  have Kp := Kp.wr W12 (Or.inl (List.mem_of_getElem? (i := 0) rfl))
  refine g_aload C S dcn_5 (pc' := 7) rfl rfl rfl ?_
  refine g_iconst C S (0 : Int32) dcn_7 (pc' := 8) rfl rfl ?_
  refine g_iconst C S (0 : Int32) dcn_8 (pc' := 9) rfl rfl ?_
  refine g_iastore C S (i := 0) dcn_9 A_a7 (by decide) (by decide) g7 (pc' := 10) rfl (fun T13 h13 S W13 B13 => ?_)
  have A_a1 := A_a1.other W13 ne_a1_a7
  have A_a3 := A_a3.other W13 ne_a3_a7
  have A_a4 := A_a4.other W13 ne_a4_a7
  have A_a6 := A_a6.other W13 ne_a6_a7
  have A_a8 := A_a8.other W13 (Ne.symm ne_a7_a8)
  have A_a7 := B13
  have Kp := Kp.wr W13 (Or.inl (List.mem_of_getElem? (i := 1) rfl))
  refine g_lconst C S (0 : Int64) dcn_10 (pc' := 11) rfl rfl ?_
  refine g_lstore C S dcn_11 (pc' := 13) rfl (L' := #[.val (.ref a1), .val (.int (Int32.ofNat n)), .val (.ref a3), .val (.ref a4), .val (.int (Int32.ofNat lg)), .val (.ref a6), .val (.ref a7), .val (.ref a8), .val (.long (0 : Int64)), .second, .unset]) rfl ?_
  refine g_iconst C S (1 : Int32) dcn_13 (pc' := 14) rfl rfl ?_
  refine g_istore C S dcn_14 (pc' := 16) rfl (L' := #[.val (.ref a1), .val (.int (Int32.ofNat n)), .val (.ref a3), .val (.ref a4), .val (.int (Int32.ofNat lg)), .val (.ref a6), .val (.ref a7), .val (.ref a8), .val (.long (0 : Int64)), .second, .val (.int (1 : Int32))]) rfl ?_
  exact LPA lg 0 (by omega) _ _ S A_a1 A_a3 A_a4 (A_a6.cg (z_set (F := fun q => .long (hFc (hCnt l n) q)) rfl)) (A_a7.cg (z_set (F := fun q => .int (Int32.ofNat (hFs (hCnt l n) q))) rfl)) A_a8 Kp
theorem dfg_0 : decode prog_31_method_5_code 0 = .ok (.iconst 0, 1) := by decide +kernel
theorem dfg_1 : decode prog_31_method_5_code 1 = .ok (.istore_n 1, 1) := by decide +kernel
theorem dfg_2 : decode prog_31_method_5_code 2 = .ok (.iload_n 1, 1) := by decide +kernel
theorem dfg_3 : decode prog_31_method_5_code 3 = .ok (.aload_n 0, 1) := by decide +kernel
theorem dfg_4 : decode prog_31_method_5_code 4 = .ok (.getfield 62, 3) := by decide +kernel
theorem dfg_7 : decode prog_31_method_5_code 7 = .ok (.if_icmp .ge 33, 3) := by decide +kernel
theorem dfg_40 : decode prog_31_method_5_code 40 = .ok (.return_, 1) := by decide +kernel
set_option maxRecDepth 65536 in
set_option maxHeartbeats 40000000 in
theorem c_fgt (l' : Launch) (Z : State) (a0 : Array Value) (hw : ∀ d ∈ tables_1, d.before a0 Z = true) (o : Addr) (h0 : Heap) (n0 : Nat) (F_m_nValues_o : Fld Z h0 o "leafpress/HuffmanCode" "m_nValues" "I" (.int (0 : Int32))) :
    Con l' Z (⟨"leafpress/HuffmanCode", "forget", "()V"⟩ : MethodName) prog_31_method_5_code 2 none ({ frames := 0, cells := 0, slots := 0, locals := 0 } : Room) #[(.ref o)] h0 n0 (fun v h => v = none ∧ h = h0) := by
  refine Con.of (plainFor_of_name (by first | (simp [plainName, overriddenIn]; done) | decide +kernel)) (L0 := #[.val (.ref o), .unset]) (fun m => by first | (simp [entryFrame, mkF, argsToLocals, Value.category]; done) | rfl) ?_
  intro p e s m below meth c T C S
  refine g_iconst C S (0 : Int32) dfg_0 (pc' := 1) rfl rfl ?_
  refine g_istoreN C S dfg_1 (pc' := 2) rfl (L' := #[.val (.ref o), .val (.int (0 : Int32))]) rfl ?_
  refine g_iloadN C S dfg_2 (pc' := 3) rfl rfl ?_
  refine g_aloadN C S dfg_3 (pc' := 4) rfl rfl rfl ?_
  refine g_getF C S dfg_4 (host := "") (Or.inl (hw _ (List.mem_of_getElem? (i := 58) rfl))) Via.refl F_m_nValues_o (pc' := 7) rfl (fun T14 S => ?_)
  refine g_icmp_ge C S dfg_7 (pc' := 40) (pf := 10) (by decide) (by decide) rfl (fun hc7 => ?_) (fun hc7 => absurd hc7 (by decide))
  exact g_return C S dfg_40 (by decide) (by decide) (⟨rfl, rfl⟩)
theorem pd_3 : parseMethodDescriptor "([II[I[II[J[I[I)V" = some ⟨[(.array .int), .int, (.array .int), (.array .int), .int, (.array .long), (.array .int), (.array .int)], none⟩ := by decide +kernel
theorem dpl_0 : decode prog_31_method_6_code 0 = .ok (.aload_n 1, 1) := by decide +kernel
theorem dpl_1 : decode prog_31_method_6_code 1 = .ok (.iload_n 2, 1) := by decide +kernel
theorem dpl_2 : decode prog_31_method_6_code 2 = .ok (.aload_n 3, 1) := by decide +kernel
theorem dpl_3 : decode prog_31_method_6_code 3 = .ok (.aload_n 0, 1) := by decide +kernel
theorem dpl_4 : decode prog_31_method_6_code 4 = .ok (.getfield 28, 3) := by decide +kernel
theorem dpl_7 : decode prog_31_method_6_code 7 = .ok (.iload 4, 2) := by decide +kernel
theorem dpl_9 : decode prog_31_method_6_code 9 = .ok (.aload_n 0, 1) := by decide +kernel
theorem dpl_10 : decode prog_31_method_6_code 10 = .ok (.getfield 31, 3) := by decide +kernel
theorem dpl_13 : decode prog_31_method_6_code 13 = .ok (.aload_n 0, 1) := by decide +kernel
theorem dpl_14 : decode prog_31_method_6_code 14 = .ok (.getfield 34, 3) := by decide +kernel
theorem dpl_17 : decode prog_31_method_6_code 17 = .ok (.aload_n 0, 1) := by decide +kernel
theorem dpl_18 : decode prog_31_method_6_code 18 = .ok (.getfield 14, 3) := by decide +kernel
theorem dpl_21 : decode prog_31_method_6_code 21 = .ok (.invokestatic 66, 3) := by decide +kernel
theorem dpl_24 : decode prog_31_method_6_code 24 = .ok (.aload_n 0, 1) := by decide +kernel
theorem dpl_25 : decode prog_31_method_6_code 25 = .ok (.iload 4, 2) := by decide +kernel
theorem dpl_27 : decode prog_31_method_6_code 27 = .ok (.putfield 70, 3) := by decide +kernel
theorem dpl_30 : decode prog_31_method_6_code 30 = .ok (.aload_n 0, 1) := by decide +kernel
theorem dpl_31 : decode prog_31_method_6_code 31 = .ok (.iload_n 2, 1) := by decide +kernel
theorem dpl_32 : decode prog_31_method_6_code 32 = .ok (.putfield 62, 3) := by decide +kernel
theorem dpl_35 : decode prog_31_method_6_code 35 = .ok (.aload_n 0, 1) := by decide +kernel
theorem dpl_36 : decode prog_31_method_6_code 36 = .ok (.iload 4, 2) := by decide +kernel
theorem dpl_38 : decode prog_31_method_6_code 38 = .ok (.bipush 56, 2) := by decide +kernel
theorem dpl_40 : decode prog_31_method_6_code 40 = .ok (.if_icmp .gt 7, 3) := by decide +kernel
theorem dpl_43 : decode prog_31_method_6_code 43 = .ok (.iconst 1, 1) := by decide +kernel
theorem dpl_44 : decode prog_31_method_6_code 44 = .ok (.goto 4, 3) := by decide +kernel
theorem dpl_47 : decode prog_31_method_6_code 47 = .ok (.iconst 0, 1) := by decide +kernel
theorem dpl_48 : decode prog_31_method_6_code 48 = .ok (.putfield 75, 3) := by decide +kernel
theorem dpl_51 : decode prog_31_method_6_code 51 = .ok (.iconst 0, 1) := by decide +kernel
theorem dpl_52 : decode prog_31_method_6_code 52 = .ok (.istore 5, 2) := by decide +kernel
theorem dpl_54 : decode prog_31_method_6_code 54 = .ok (.iload 5, 2) := by decide +kernel
theorem dpl_56 : decode prog_31_method_6_code 56 = .ok (.iload_n 2, 1) := by decide +kernel
theorem dpl_57 : decode prog_31_method_6_code 57 = .ok (.if_icmp .ge 84, 3) := by decide +kernel
theorem dpl_60 : decode prog_31_method_6_code 60 = .ok (.aload_n 0, 1) := by decide +kernel
theorem dpl_61 : decode prog_31_method_6_code 61 = .ok (.getfield 14, 3) := by decide +kernel
theorem dpl_64 : decode prog_31_method_6_code 64 = .ok (.iload 5, 2) := by decide +kernel
theorem dpl_66 : decode prog_31_method_6_code 66 = .ok (.iaload, 1) := by decide +kernel
theorem dpl_67 : decode prog_31_method_6_code 67 = .ok (.istore 6, 2) := by decide +kernel
theorem dpl_69 : decode prog_31_method_6_code 69 = .ok (.aload_n 3, 1) := by decide +kernel
theorem dpl_70 : decode prog_31_method_6_code 70 = .ok (.iload 6, 2) := by decide +kernel
theorem dpl_72 : decode prog_31_method_6_code 72 = .ok (.iaload, 1) := by decide +kernel
theorem dpl_73 : decode prog_31_method_6_code 73 = .ok (.istore 7, 2) := by decide +kernel
theorem dpl_75 : decode prog_31_method_6_code 75 = .ok (.aload_n 0, 1) := by decide +kernel
theorem dpl_76 : decode prog_31_method_6_code 76 = .ok (.getfield 31, 3) := by decide +kernel
theorem dpl_79 : decode prog_31_method_6_code 79 = .ok (.iload 7, 2) := by decide +kernel
theorem dpl_81 : decode prog_31_method_6_code 81 = .ok (.laload, 1) := by decide +kernel
theorem dpl_82 : decode prog_31_method_6_code 82 = .ok (.iload 5, 2) := by decide +kernel
theorem dpl_84 : decode prog_31_method_6_code 84 = .ok (.i2l, 1) := by decide +kernel
theorem dpl_85 : decode prog_31_method_6_code 85 = .ok (.ladd, 1) := by decide +kernel
theorem dpl_86 : decode prog_31_method_6_code 86 = .ok (.aload_n 0, 1) := by decide +kernel
theorem dpl_87 : decode prog_31_method_6_code 87 = .ok (.getfield 34, 3) := by decide +kernel
theorem dpl_90 : decode prog_31_method_6_code 90 = .ok (.iload 7, 2) := by decide +kernel
theorem dpl_92 : decode prog_31_method_6_code 92 = .ok (.iaload, 1) := by decide +kernel
theorem dpl_93 : decode prog_31_method_6_code 93 = .ok (.i2l, 1) := by decide +kernel
theorem dpl_94 : decode prog_31_method_6_code 94 = .ok (.lsub, 1) := by decide +kernel
theorem dpl_95 : decode prog_31_method_6_code 95 = .ok (.lstore 8, 2) := by decide +kernel
theorem dpl_97 : decode prog_31_method_6_code 97 = .ok (.aload_n 0, 1) := by decide +kernel
theorem dpl_98 : decode prog_31_method_6_code 98 = .ok (.getfield 18, 3) := by decide +kernel
theorem dpl_101 : decode prog_31_method_6_code 101 = .ok (.iload 6, 2) := by decide +kernel
theorem dpl_103 : decode prog_31_method_6_code 103 = .ok (.aload_n 0, 1) := by decide +kernel
theorem dpl_104 : decode prog_31_method_6_code 104 = .ok (.getfield 75, 3) := by decide +kernel
theorem dpl_107 : decode prog_31_method_6_code 107 = .ok (.ifCond .eq 15, 3) := by decide +kernel
theorem dpl_110 : decode prog_31_method_6_code 110 = .ok (.lload 8, 2) := by decide +kernel
theorem dpl_112 : decode prog_31_method_6_code 112 = .ok (.bipush 6, 2) := by decide +kernel
theorem dpl_114 : decode prog_31_method_6_code 114 = .ok (.lshl, 1) := by decide +kernel
theorem dpl_115 : decode prog_31_method_6_code 115 = .ok (.iload 7, 2) := by decide +kernel
theorem dpl_117 : decode prog_31_method_6_code 117 = .ok (.i2l, 1) := by decide +kernel
theorem dpl_118 : decode prog_31_method_6_code 118 = .ok (.lor, 1) := by decide +kernel
theorem dpl_119 : decode prog_31_method_6_code 119 = .ok (.goto 5, 3) := by decide +kernel
theorem dpl_122 : decode prog_31_method_6_code 122 = .ok (.lload 8, 2) := by decide +kernel
theorem dpl_124 : decode prog_31_method_6_code 124 = .ok (.lastore, 1) := by decide +kernel
theorem dpl_125 : decode prog_31_method_6_code 125 = .ok (.aload_n 0, 1) := by decide +kernel
theorem dpl_126 : decode prog_31_method_6_code 126 = .ok (.getfield 24, 3) := by decide +kernel
theorem dpl_129 : decode prog_31_method_6_code 129 = .ok (.iload 6, 2) := by decide +kernel
theorem dpl_131 : decode prog_31_method_6_code 131 = .ok (.iload 7, 2) := by decide +kernel
theorem dpl_133 : decode prog_31_method_6_code 133 = .ok (.i2b, 1) := by decide +kernel
theorem dpl_134 : decode prog_31_method_6_code 134 = .ok (.bastore, 1) := by decide +kernel
theorem dpl_135 : decode prog_31_method_6_code 135 = .ok (.iinc 5 1, 3) := by decide +kernel
theorem dpl_138 : decode prog_31_method_6_code 138 = .ok (.goto (-84), 3) := by decide +kernel
theorem dpl_141 : decode prog_31_method_6_code 141 = .ok (.return_, 1) := by decide +kernel
set_option maxRecDepth 65536 in
set_option maxHeartbeats 40000000 in
theorem c_plc (l' : Launch) (Z : State) (a0 : Array Value) (hw : ∀ d ∈ tables_1, d.before a0 Z = true) (o : Addr) (a2 : Addr) (a4 : Addr) (h0 : Heap) (n0 : Nat) (l V : Nat → Nat) (n N1 N3 : Nat) (fv fl : Nat → Value) (hg : hGood l n = true) (hN1 : n ≤ N1) (hN3 : N3 ≤ 256) (hV : ∀ i, i < n → V i < N3) (hA : ∀ i, i + 1 < n → V i < V (i + 1)) (hfv : ∀ i, i < n → fv i = .int (Int32.ofNat (V i))) (hfl : ∀ i, i < n → fl (V i) = .int (Int32.ofNat (l i))) (sy co le lc fa fb : Addr) (lg : Nat) (hlg : hLng l n = lg) (f6 f7 f8 : Nat → Value) (u1 u2 u3 : Value) (g_o : n0 ≤ o) (g_sy : n0 ≤ sy) (g_co : n0 ≤ co) (g_le : n0 ≤ le) (g_lc : n0 ≤ lc) (g_fa : n0 ≤ fa) (g_fb : n0 ≤ fb) (hD : [a2, a4, o, sy, co, le, lc, fa, fb].Nodup) (X_o : Exa Z h0 o "leafpress/HuffmanCode") (F_m_aSymbols_o : Fld Z h0 o "leafpress/HuffmanCode" "m_aSymbols" "[I" (.ref sy)) (F_m_aCodes_o : Fld Z h0 o "leafpress/HuffmanCode" "m_aCodes" "[J" (.ref co)) (F_m_aLengths_o : Fld Z h0 o "leafpress/HuffmanCode" "m_aLengths" "[B" (.ref le)) (F_m_aLengthCounts_o : Fld Z h0 o "leafpress/HuffmanCode" "m_aLengthCounts" "[I" (.ref lc)) (F_m_aFirstCodes_o : Fld Z h0 o "leafpress/HuffmanCode" "m_aFirstCodes" "[J" (.ref fa)) (F_m_aFirstSymbols_o : Fld Z h0 o "leafpress/HuffmanCode" "m_aFirstSymbols" "[I" (.ref fb)) (F_m_nLongest_o : Fld Z h0 o "leafpress/HuffmanCode" "m_nLongest" "I" u1) (F_m_nValues_o : Fld Z h0 o "leafpress/HuffmanCode" "m_nValues" "I" u2) (F_m_bPacked_o : Fld Z h0 o "leafpress/HuffmanCode" "m_bPacked" "Z" u3) (A_a2 : Ary Z h0 a2 .int N1 fv) (A_a4 : Ary Z h0 a4 .int N3 fl) (A_lc : Ary Z h0 lc .int 64 (fun L => .int (Int32.ofNat (hCnt l n L)))) (A_fa : Ary Z h0 fa .long 64 f6) (A_fb : Ary Z h0 fb .int 64 f7) (A_sy : Ary Z h0 sy .int 256 f8) (A_co : Ary Z h0 co .long 256 (fun _ => .long 0)) (A_le : Ary Z h0 le .byte 264 (fun q => if 256 ≤ q then .int (-1) else .int 0)) :
    Con l' Z (⟨"leafpress/HuffmanCode", "place", "([II[II)V"⟩ : MethodName) prog_31_method_6_code 10 none ({ frames := 1, cells := 0, slots := 0, locals := 22 } : Room) #[(.ref o), (.ref a2), (.int (Int32.ofNat n)), (.ref a4), (.int (Int32.ofNat lg))] h0 n0 (fun v h => v = none ∧ Keep h0 h [o, sy, co, le, fa, fb] ∧ Exa Z h o "leafpress/HuffmanCode" ∧ Fld Z h o "leafpress/HuffmanCode" "m_aCodes" "[J" (.ref co) ∧ Fld Z h o "leafpress/HuffmanCode" "m_aLengths" "[B" (.ref le) ∧ Fld Z h o "leafpress/HuffmanCode" "m_bPacked" "Z" (.int (hPk lg)) ∧ Ary Z h co .long 256 (fun x => .long (hCo l V n (hPk lg) n x)) ∧ Ary Z h le .byte 264 (hLb l V n n)) := by
  refine Con.of (plainFor_of_name (by first | (simp [plainName, overriddenIn]; done) | decide +kernel)) (L0 := #[.val (.ref o), .val (.ref a2), .val (.int (Int32.ofNat n)), .val (.ref a4), .val (.int (Int32.ofNat lg)), .unset, .unset, .unset, .unset, .unset]) (fun m => by first | (simp [entryFrame, mkF, argsToLocals, Value.category]; done) | rfl) ?_
  intro p e s m below meth c T C S
  obtain ⟨hn0, hn64, hl, hck, hpos, hsid⟩ := hGood_spec hg
  have hlg63 : lg ≤ 63 := by rw [← hlg]; exact hLng_le n hl
  have Kp := Keep.refl h0 [o, sy, co, le, fa, fb]
  have ne_a2_a4 : a2 ≠ a4 := nd hD 0 1 (show (0 : Nat) < 1 by decide) (show (1 : Nat) < 9 by decide)
  have ne_a2_o : a2 ≠ o := nd hD 0 2 (show (0 : Nat) < 2 by decide) (show (2 : Nat) < 9 by decide)
  have ne_a2_sy : a2 ≠ sy := nd hD 0 3 (show (0 : Nat) < 3 by decide) (show (3 : Nat) < 9 by decide)
  have ne_a2_co : a2 ≠ co := nd hD 0 4 (show (0 : Nat) < 4 by decide) (show (4 : Nat) < 9 by decide)
  have ne_a2_le : a2 ≠ le := nd hD 0 5 (show (0 : Nat) < 5 by decide) (show (5 : Nat) < 9 by decide)
  have ne_a2_lc : a2 ≠ lc := nd hD 0 6 (show (0 : Nat) < 6 by decide) (show (6 : Nat) < 9 by decide)
  have ne_a2_fa : a2 ≠ fa := nd hD 0 7 (show (0 : Nat) < 7 by decide) (show (7 : Nat) < 9 by decide)
  have ne_a2_fb : a2 ≠ fb := nd hD 0 8 (show (0 : Nat) < 8 by decide) (show (8 : Nat) < 9 by decide)
  have ne_a4_o : a4 ≠ o := nd hD 1 2 (show (1 : Nat) < 2 by decide) (show (2 : Nat) < 9 by decide)
  have ne_a4_sy : a4 ≠ sy := nd hD 1 3 (show (1 : Nat) < 3 by decide) (show (3 : Nat) < 9 by decide)
  have ne_a4_co : a4 ≠ co := nd hD 1 4 (show (1 : Nat) < 4 by decide) (show (4 : Nat) < 9 by decide)
  have ne_a4_le : a4 ≠ le := nd hD 1 5 (show (1 : Nat) < 5 by decide) (show (5 : Nat) < 9 by decide)
  have ne_a4_lc : a4 ≠ lc := nd hD 1 6 (show (1 : Nat) < 6 by decide) (show (6 : Nat) < 9 by decide)
  have ne_a4_fa : a4 ≠ fa := nd hD 1 7 (show (1 : Nat) < 7 by decide) (show (7 : Nat) < 9 by decide)
  have ne_a4_fb : a4 ≠ fb := nd hD 1 8 (show (1 : Nat) < 8 by decide) (show (8 : Nat) < 9 by decide)
  have ne_o_sy : o ≠ sy := nd hD 2 3 (show (2 : Nat) < 3 by decide) (show (3 : Nat) < 9 by decide)
  have ne_o_co : o ≠ co := nd hD 2 4 (show (2 : Nat) < 4 by decide) (show (4 : Nat) < 9 by decide)
  have ne_o_le : o ≠ le := nd hD 2 5 (show (2 : Nat) < 5 by decide) (show (5 : Nat) < 9 by decide)
  have ne_o_lc : o ≠ lc := nd hD 2 6 (show (2 : Nat) < 6 by decide) (show (6 : Nat) < 9 by decide)
  have ne_o_fa : o ≠ fa := nd hD 2 7 (show (2 : Nat) < 7 by decide) (show (7 : Nat) < 9 by decide)
  have ne_o_fb : o ≠ fb := nd hD 2 8 (show (2 : Nat) < 8 by decide) (show (8 : Nat) < 9 by decide)
  have ne_sy_co : sy ≠ co := nd hD 3 4 (show (3 : Nat) < 4 by decide) (show (4 : Nat) < 9 by decide)
  have ne_sy_le : sy ≠ le := nd hD 3 5 (show (3 : Nat) < 5 by decide) (show (5 : Nat) < 9 by decide)
  have ne_sy_lc : sy ≠ lc := nd hD 3 6 (show (3 : Nat) < 6 by decide) (show (6 : Nat) < 9 by decide)
  have ne_sy_fa : sy ≠ fa := nd hD 3 7 (show (3 : Nat) < 7 by decide) (show (7 : Nat) < 9 by decide)
  have ne_sy_fb : sy ≠ fb := nd hD 3 8 (show (3 : Nat) < 8 by decide) (show (8 : Nat) < 9 by decide)
  have ne_co_le : co ≠ le := nd hD 4 5 (show (4 : Nat) < 5 by decide) (show (5 : Nat) < 9 by decide)
  have ne_co_lc : co ≠ lc := nd hD 4 6 (show (4 : Nat) < 6 by decide) (show (6 : Nat) < 9 by decide)
  have ne_co_fa : co ≠ fa := nd hD 4 7 (show (4 : Nat) < 7 by decide) (show (7 : Nat) < 9 by decide)
  have ne_co_fb : co ≠ fb := nd hD 4 8 (show (4 : Nat) < 8 by decide) (show (8 : Nat) < 9 by decide)
  have ne_le_lc : le ≠ lc := nd hD 5 6 (show (5 : Nat) < 6 by decide) (show (6 : Nat) < 9 by decide)
  have ne_le_fa : le ≠ fa := nd hD 5 7 (show (5 : Nat) < 7 by decide) (show (7 : Nat) < 9 by decide)
  have ne_le_fb : le ≠ fb := nd hD 5 8 (show (5 : Nat) < 8 by decide) (show (8 : Nat) < 9 by decide)
  have ne_lc_fa : lc ≠ fa := nd hD 6 7 (show (6 : Nat) < 7 by decide) (show (7 : Nat) < 9 by decide)
  have ne_lc_fb : lc ≠ fb := nd hD 6 8 (show (6 : Nat) < 8 by decide) (show (8 : Nat) < 9 by decide)
  have ne_fa_fb : fa ≠ fb := nd hD 7 8 (show (7 : Nat) < 8 by decide) (show (8 : Nat) < 9 by decide)
  have hD6 : [a2, a4, lc, fa, fb, sy].Nodup := by simp only [List.nodup_cons, List.mem_cons, List.not_mem_nil, or_false, not_or, List.nodup_nil, not_false_eq_true, and_true]; exact ⟨⟨ne_a2_a4, ne_a2_lc, ne_a2_fa, ne_a2_fb, ne_a2_sy⟩, ⟨ne_a4_lc, ne_a4_fa, ne_a4_fb, ne_a4_sy⟩, ⟨ne_lc_fa, ne_lc_fb, (Ne.symm ne_sy_lc)⟩, ⟨ne_fa_fb, (Ne.symm ne_sy_fa)⟩, (Ne.symm ne_sy_fb)⟩
  have LP : ∀ (d : Nat) (q : Nat) (s6 : Slot) (s7 : Slot) (s8 : Slot) (s9 : Slot), q + d = n → (s6 = .unset ∨ ∃ w, s6 = .val w ∧ w.category = 1) → (s7 = .unset ∨ ∃ w, s7 = .val w ∧ w.category = 1) → ((s8 = .unset ∧ s9 = .unset) ∨ ∃ z, s8 = .val (.long z) ∧ s9 = .second) → ∀ (T : State) (h : Heap), On p l' e ({ frames := 1, cells := 0, slots := 0, locals := 22 } : Room) s m #[(.ref o), (.ref a2), (.int (Int32.ofNat n)), (.ref a4), (.int (Int32.ofNat lg))] below meth c n0 T h 0 0 → Exa Z h o "leafpress/HuffmanCode" → Fld Z h o "leafpress/HuffmanCode" "m_aSymbols" "[I" (.ref sy) → Fld Z h o "leafpress/HuffmanCode" "m_aCodes" "[J" (.ref co) → Fld Z h o "leafpress/HuffmanCode" "m_aLengths" "[B" (.ref le) → Fld Z h o "leafpress/HuffmanCode" "m_aLengthCounts" "[I" (.ref lc) → Fld Z h o "leafpress/HuffmanCode" "m_aFirstCodes" "[J" (.ref fa) → Fld Z h o "leafpress/HuffmanCode" "m_aFirstSymbols" "[I" (.ref fb) → Fld Z h o "leafpress/HuffmanCode" "m_bPacked" "Z" (.int (hPk lg)) → Ary Z h a4 .int N3 fl → Ary Z h sy .int 256 (fun q => if hSid l n n q < n then .int (Int32.ofNat (V (hSid l n n q))) else f8 q) → Ary Z h co .long 256 (fun x => .long (hCo l V n (hPk lg) q x)) → Ary Z h le .byte 264 (hLb l V n q) → Ary Z h fa .long 64 (fun q => if q < lg + 1 then .long (hFc (hCnt l n) q) else f6 q) → Ary Z h fb .int 64 (fun q => if q < lg + 1 then .int (Int32.ofNat (hFs (hCnt l n) q)) else f7 q) → Keep h0 h [o, sy, co, le, fa, fb] → Gl p e below s ({ frames := 1, cells := 0, slots := 0, locals := 22 } : Room) n0 (fun v h => v = none ∧ Keep h0 h [o, sy, co, le, fa, fb] ∧ Exa Z h o "leafpress/HuffmanCode" ∧ Fld Z h o "leafpress/HuffmanCode" "m_aCodes" "[J" (.ref co) ∧ Fld Z h o "leafpress/HuffmanCode" "m_aLengths" "[B" (.ref le) ∧ Fld Z h o "leafpress/HuffmanCode" "m_bPacked" "Z" (.int (hPk lg)) ∧ Ary Z h co .long 256 (fun x => .long (hCo l V n (hPk lg) n x)) ∧ Ary Z h le .byte 264 (hLb l V n n)) T (mkF m 54 #[.val (.ref o), .val (.ref a2), .val (.int (Int32.ofNat n)), .val (.ref a4), .val (.int (Int32.ofNat lg)), .val (.int (Int32.ofNat q)), s6, s7, s8, s9] []) := by
    intro d
    induction d with
    | zero =>
      intro q s6 s7 s8 s9 hd hs6 hs7 hs89 T h S X_o F_m_aSymbols_o F_m_aCodes_o F_m_aLengths_o F_m_aLengthCounts_o F_m_aFirstCodes_o F_m_aFirstSymbols_o F_m_bPacked_o A_a4 A_sy A_co A_le A_fa A_fb Kp
      have hq : q = n := by omega
      rw [hq] at A_co A_le ⊢
      refine g_iload C S dpl_54 (pc' := 56) rfl rfl ?_
      refine g_iloadN C S dpl_56 (pc' := 57) rfl rfl ?_
      refine g_icmp_ge C S dpl_57 (pc' := 141) (pf := 60) (by decide) (by decide) rfl (fun hc57 => ?_) (fun hc57 => absurd ((o32_lt (by omega) (by omega)).mp hc57) (Nat.lt_irrefl n))
      exact g_return C S dpl_141 (by decide) (by decide) (⟨rfl, Kp, X_o, F_m_aCodes_o, F_m_aLengths_o, F_m_bPacked_o, A_co, A_le⟩)
    | succ d ih =>
      intro q s6 s7 s8 s9 hd hs6 hs7 hs89 T h S X_o F_m_aSymbols_o F_m_aCodes_o F_m_aLengths_o F_m_aLengthCounts_o F_m_aFirstCodes_o F_m_aFirstSymbols_o F_m_bPacked_o A_a4 A_sy A_co A_le A_fa A_fb Kp
      have hin : q < n := by omega
      have hs := hsid q hin
      have hVs := hV _ hs
      have hls := hl _ hs
      have hle : l (hSid l n n q) ≤ lg := by rw [← hlg]; exact hLng_ge l n _ hs
      have hlt : l (hSid l n n q) < lg + 1 := by omega
      refine g_iload C S dpl_54 (pc' := 56) rfl rfl ?_
      refine g_iloadN C S dpl_56 (pc' := 57) rfl rfl ?_
      refine g_icmp_ge C S dpl_57 (pc' := 141) (pf := 60) (by decide) (by decide) rfl (fun hc57 => absurd ((o32_lt (by omega) (by omega)).mpr hin) hc57) (fun hc57 => ?_)
      refine g_aloadN C S dpl_60 (pc' := 61) rfl rfl rfl ?_
      refine g_getF C S dpl_61 (host := "") (Or.inl (hw _ (List.mem_of_getElem? (i := 16) rfl))) Via.refl F_m_aSymbols_o (pc' := 64) rfl (fun T15 S => ?_)
      refine g_iload C S dpl_64 (pc' := 66) rfl rfl ?_
      refine g_iaload C S (i := q) (v := (.int (Int32.ofNat (V (hSid l n n q))))) dpl_66 A_sy (o32 (by omega)) (by omega) (if_pos hs) (pc' := 67) rfl ?_
      refine g_istore C S dpl_67 (pc' := 69) rfl (L' := #[.val (.ref o), .val (.ref a2), .val (.int (Int32.ofNat n)), .val (.ref a4), .val (.int (Int32.ofNat lg)), .val (.int (Int32.ofNat q)), .val (.int (Int32.ofNat (V (hSid l n n q)))), s7, s8, s9]) (XS.store1 rfl hs6 rfl) ?_
      refine g_aloadN C S dpl_69 (pc' := 70) rfl rfl rfl ?_
      refine g_iload C S dpl_70 (pc' := 72) rfl rfl ?_
      refine g_iaload C S (i := (V (hSid l n n q))) (v := (.int (Int32.ofNat (l (hSid l n n q))))) dpl_72 A_a4 (o32 (by omega)) hVs (hfl _ hs) (pc' := 73) rfl ?_
      refine g_istore C S dpl_73 (pc' := 75) rfl (L' := #[.val (.ref o), .val (.ref a2), .val (.int (Int32.ofNat n)), .val (.ref a4), .val (.int (Int32.ofNat lg)), .val (.int (Int32.ofNat q)), .val (.int (Int32.ofNat (V (hSid l n n q)))), .val (.int (Int32.ofNat (l (hSid l n n q)))), s8, s9]) (XS.store1 rfl hs7 rfl) ?_
      refine g_aloadN C S dpl_75 (pc' := 76) rfl rfl rfl ?_
      refine g_getF C S dpl_76 (host := "") (Or.inl (hw _ (List.mem_of_getElem? (i := 25) rfl))) Via.refl F_m_aFirstCodes_o (pc' := 79) rfl (fun T16 S => ?_)
      refine g_iload C S dpl_79 (pc' := 81) rfl rfl ?_
      refine g_laload C S (i := (l (hSid l n n q))) (v := (.long (hFc (hCnt l n) (l (hSid l n n q))))) dpl_81 A_fa (o32 (by omega)) (by omega) (if_pos hlt) (pc' := 82) rfl ?_
      refine g_iload C S dpl_82 (pc' := 84) rfl rfl ?_
      refine g_i2l C S dpl_84 (pc' := 85) rfl ?_
      refine g_ladd C S dpl_85 (pc' := 86) rfl ?_
      refine g_aloadN C S dpl_86 (pc' := 87) rfl rfl rfl ?_
      refine g_getF C S dpl_87 (host := "") (Or.inl (hw _ (List.mem_of_getElem? (i := 27) rfl))) Via.refl F_m_aFirstSymbols_o (pc' := 90) rfl (fun T17 S => ?_)
      refine g_iload C S dpl_90 (pc' := 92) rfl rfl ?_
      refine g_iaload C S (i := (l (hSid l n n q))) (v := (.int (Int32.ofNat (hFs (hCnt l n) (l (hSid l n n q)))))) dpl_92 A_fb (o32 (by omega)) (by omega) (if_pos hlt) (pc' := 93) rfl ?_
      refine g_i2l C S dpl_93 (pc' := 94) rfl ?_
      refine g_lsub C S dpl_94 (pc' := 95) rfl ?_
      refine g_lstore C S dpl_95 (pc' := 97) rfl (L' := #[.val (.ref o), .val (.ref a2), .val (.int (Int32.ofNat n)), .val (.ref a4), .val (.int (Int32.ofNat lg)), .val (.int (Int32.ofNat q)), .val (.int (Int32.ofNat (V (hSid l n n q)))), .val (.int (Int32.ofNat (l (hSid l n n q)))), .val (.long (((hFc (hCnt l n) (l (hSid l n n q))) + ((Int32.ofNat q).toInt64)) - ((Int32.ofNat (hFs (hCnt l n) (l (hSid l n n q)))).toInt64))), .second]) (st_ll hs89) ?_
      refine g_aloadN C S dpl_97 (pc' := 98) rfl rfl rfl ?_
      refine g_getF C S dpl_98 (host := "") (Or.inl (hw _ (List.mem_of_getElem? (i := 18) rfl))) Via.refl F_m_aCodes_o (pc' := 101) rfl (fun T18 S => ?_)
      refine g_iload C S dpl_101 (pc' := 103) rfl rfl ?_
      refine g_aloadN C S dpl_103 (pc' := 104) rfl rfl rfl ?_
      refine g_getF C S dpl_104 (host := "") (Or.inl (hw _ (List.mem_of_getElem? (i := 69) rfl))) Via.refl F_m_bPacked_o (pc' := 107) rfl (fun T19 S => ?_)
      refine g_if_eq C S dpl_107 (pc' := 122) (pf := 110) (by decide) (by decide) rfl (fun hc107 => ?_) (fun hc107 => ?_)
      · refine g_lload C S dpl_122 (pc' := 124) rfl rfl ?_
        refine g_lastore C S (i := (V (hSid l n n q))) dpl_124 A_co (o32 (by omega)) (by omega) g_co (pc' := 125) rfl (fun T20 h20 S W20 B20 => ?_)
        have X_o := X_o.wr W20
        have F_m_aSymbols_o := F_m_aSymbols_o.other W20 (Or.inl ne_o_co)
        have F_m_aCodes_o := F_m_aCodes_o.other W20 (Or.inl ne_o_co)
        have F_m_aLengths_o := F_m_aLengths_o.other W20 (Or.inl ne_o_co)
        have F_m_aLengthCounts_o := F_m_aLengthCounts_o.other W20 (Or.inl ne_o_co)
        have F_m_aFirstCodes_o := F_m_aFirstCodes_o.other W20 (Or.inl ne_o_co)
        have F_m_aFirstSymbols_o := F_m_aFirstSymbols_o.other W20 (Or.inl ne_o_co)
        have F_m_bPacked_o := F_m_bPacked_o.other W20 (Or.inl ne_o_co)
        have A_a4 := A_a4.other W20 ne_a4_co
        have A_sy := A_sy.other W20 ne_sy_co
        have A_le := A_le.other W20 (Ne.symm ne_co_le)
        have A_fa := A_fa.other W20 (Ne.symm ne_co_fa)
        have A_fb := A_fb.other W20 (Ne.symm ne_co_fb)
        have A_co := B20
        have A_co := A_co.cg (hCo_set l V n (hPk lg) q 256 (by unfold hVal; rw [if_pos hc107]; rfl))
        have Kp := Kp.wr W20 (Or.inl (List.mem_of_getElem? (i := 2) rfl))
        refine g_aloadN C S dpl_125 (pc' := 126) rfl rfl rfl ?_
        refine g_getF C S dpl_126 (host := "") (Or.inl (hw _ (List.mem_of_getElem? (i := 21) rfl))) Via.refl F_m_aLengths_o (pc' := 129) rfl (fun T21 S => ?_)
        refine g_iload C S dpl_129 (pc' := 131) rfl rfl ?_
        refine g_iload C S dpl_131 (pc' := 133) rfl rfl ?_
        refine g_i2b C S dpl_133 (pc' := 134) rfl ?_
        refine g_bastoreB C S (i := (V (hSid l n n q))) dpl_134 A_le (o32 (by omega)) (by omega) g_le (pc' := 135) rfl (fun T22 h22 S W22 B22 => ?_)
        have X_o := X_o.wr W22
        have F_m_aSymbols_o := F_m_aSymbols_o.other W22 (Or.inl ne_o_le)
        have F_m_aCodes_o := F_m_aCodes_o.other W22 (Or.inl ne_o_le)
        have F_m_aLengths_o := F_m_aLengths_o.other W22 (Or.inl ne_o_le)
        have F_m_aLengthCounts_o := F_m_aLengthCounts_o.other W22 (Or.inl ne_o_le)
        have F_m_aFirstCodes_o := F_m_aFirstCodes_o.other W22 (Or.inl ne_o_le)
        have F_m_aFirstSymbols_o := F_m_aFirstSymbols_o.other W22 (Or.inl ne_o_le)
        have F_m_bPacked_o := F_m_bPacked_o.other W22 (Or.inl ne_o_le)
        have A_a4 := A_a4.other W22 ne_a4_le
        have A_sy := A_sy.other W22 ne_sy_le
        have A_co := A_co.other W22 ne_co_le
        have A_fa := A_fa.other W22 (Ne.symm ne_le_fa)
        have A_fb := A_fb.other W22 (Ne.symm ne_le_fb)
        have A_le := B22
        have A_le := A_le.cg (hLe_set l V n q 264 (by omega) hls)
        have Kp := Kp.wr W22 (Or.inl (List.mem_of_getElem? (i := 3) rfl))
        refine g_iinc C S (1 : Int32) dpl_135 (pc' := 138) rfl rfl rfl (L' := #[.val (.ref o), .val (.ref a2), .val (.int (Int32.ofNat n)), .val (.ref a4), .val (.int (Int32.ofNat lg)), .val (.int ((Int32.ofNat q) + (1 : Int32))), .val (.int (Int32.ofNat (V (hSid l n n q)))), .val (.int (Int32.ofNat (l (hSid l n n q)))), .val (.long (((hFc (hCnt l n) (l (hSid l n n q))) + ((Int32.ofNat q).toInt64)) - ((Int32.ofNat (hFs (hCnt l n) (l (hSid l n n q)))).toInt64))), .second]) rfl ?_
        refine g_goto C S dpl_138 (pc' := 54) (by decide) (by decide) ?_
        rw [o32_succ]
        exact ih (q + 1) _ _ _ _ (by omega) (Or.inr ⟨_, rfl, rfl⟩) (Or.inr ⟨_, rfl, rfl⟩) (Or.inr ⟨_, rfl, rfl⟩) _ _ S X_o F_m_aSymbols_o F_m_aCodes_o F_m_aLengths_o F_m_aLengthCounts_o F_m_aFirstCodes_o F_m_aFirstSymbols_o F_m_bPacked_o A_a4 A_sy A_co A_le A_fa A_fb Kp
      · refine g_lload C S dpl_110 (pc' := 112) rfl rfl ?_
        refine g_bipush C S (6 : Int32) dpl_112 (pc' := 114) rfl rfl ?_
        refine g_lshl C S dpl_114 (pc' := 115) rfl ?_
        refine g_iload C S dpl_115 (pc' := 117) rfl rfl ?_
        refine g_i2l C S dpl_117 (pc' := 118) rfl ?_
        refine g_lor C S dpl_118 (pc' := 119) rfl ?_
        refine g_goto C S dpl_119 (pc' := 124) (by decide) (by decide) ?_
        refine g_lastore C S (i := (V (hSid l n n q))) dpl_124 A_co (o32 (by omega)) (by omega) g_co (pc' := 125) rfl (fun T23 h23 S W23 B23 => ?_)
        have X_o := X_o.wr W23
        have F_m_aSymbols_o := F_m_aSymbols_o.other W23 (Or.inl ne_o_co)
        have F_m_aCodes_o := F_m_aCodes_o.other W23 (Or.inl ne_o_co)
        have F_m_aLengths_o := F_m_aLengths_o.other W23 (Or.inl ne_o_co)
        have F_m_aLengthCounts_o := F_m_aLengthCounts_o.other W23 (Or.inl ne_o_co)
        have F_m_aFirstCodes_o := F_m_aFirstCodes_o.other W23 (Or.inl ne_o_co)
        have F_m_aFirstSymbols_o := F_m_aFirstSymbols_o.other W23 (Or.inl ne_o_co)
        have F_m_bPacked_o := F_m_bPacked_o.other W23 (Or.inl ne_o_co)
        have A_a4 := A_a4.other W23 ne_a4_co
        have A_sy := A_sy.other W23 ne_sy_co
        have A_le := A_le.other W23 (Ne.symm ne_co_le)
        have A_fa := A_fa.other W23 (Ne.symm ne_co_fa)
        have A_fb := A_fb.other W23 (Ne.symm ne_co_fb)
        have A_co := B23
        have A_co := A_co.cg (hCo_set l V n (hPk lg) q 256 (by unfold hVal; rw [if_neg hc107]; rfl))
        have Kp := Kp.wr W23 (Or.inl (List.mem_of_getElem? (i := 2) rfl))
        refine g_aloadN C S dpl_125 (pc' := 126) rfl rfl rfl ?_
        refine g_getF C S dpl_126 (host := "") (Or.inl (hw _ (List.mem_of_getElem? (i := 21) rfl))) Via.refl F_m_aLengths_o (pc' := 129) rfl (fun T24 S => ?_)
        refine g_iload C S dpl_129 (pc' := 131) rfl rfl ?_
        refine g_iload C S dpl_131 (pc' := 133) rfl rfl ?_
        refine g_i2b C S dpl_133 (pc' := 134) rfl ?_
        refine g_bastoreB C S (i := (V (hSid l n n q))) dpl_134 A_le (o32 (by omega)) (by omega) g_le (pc' := 135) rfl (fun T25 h25 S W25 B25 => ?_)
        have X_o := X_o.wr W25
        have F_m_aSymbols_o := F_m_aSymbols_o.other W25 (Or.inl ne_o_le)
        have F_m_aCodes_o := F_m_aCodes_o.other W25 (Or.inl ne_o_le)
        have F_m_aLengths_o := F_m_aLengths_o.other W25 (Or.inl ne_o_le)
        have F_m_aLengthCounts_o := F_m_aLengthCounts_o.other W25 (Or.inl ne_o_le)
        have F_m_aFirstCodes_o := F_m_aFirstCodes_o.other W25 (Or.inl ne_o_le)
        have F_m_aFirstSymbols_o := F_m_aFirstSymbols_o.other W25 (Or.inl ne_o_le)
        have F_m_bPacked_o := F_m_bPacked_o.other W25 (Or.inl ne_o_le)
        have A_a4 := A_a4.other W25 ne_a4_le
        have A_sy := A_sy.other W25 ne_sy_le
        have A_co := A_co.other W25 ne_co_le
        have A_fa := A_fa.other W25 (Ne.symm ne_le_fa)
        have A_fb := A_fb.other W25 (Ne.symm ne_le_fb)
        have A_le := B25
        have A_le := A_le.cg (hLe_set l V n q 264 (by omega) hls)
        have Kp := Kp.wr W25 (Or.inl (List.mem_of_getElem? (i := 3) rfl))
        refine g_iinc C S (1 : Int32) dpl_135 (pc' := 138) rfl rfl rfl (L' := #[.val (.ref o), .val (.ref a2), .val (.int (Int32.ofNat n)), .val (.ref a4), .val (.int (Int32.ofNat lg)), .val (.int ((Int32.ofNat q) + (1 : Int32))), .val (.int (Int32.ofNat (V (hSid l n n q)))), .val (.int (Int32.ofNat (l (hSid l n n q)))), .val (.long (((hFc (hCnt l n) (l (hSid l n n q))) + ((Int32.ofNat q).toInt64)) - ((Int32.ofNat (hFs (hCnt l n) (l (hSid l n n q)))).toInt64))), .second]) rfl ?_
        refine g_goto C S dpl_138 (pc' := 54) (by decide) (by decide) ?_
        rw [o32_succ]
        exact ih (q + 1) _ _ _ _ (by omega) (Or.inr ⟨_, rfl, rfl⟩) (Or.inr ⟨_, rfl, rfl⟩) (Or.inr ⟨_, rfl, rfl⟩) _ _ S X_o F_m_aSymbols_o F_m_aCodes_o F_m_aLengths_o F_m_aLengthCounts_o F_m_aFirstCodes_o F_m_aFirstSymbols_o F_m_bPacked_o A_a4 A_sy A_co A_le A_fa A_fb Kp
  refine g_aloadN C S dpl_0 (pc' := 1) rfl rfl rfl ?_
  refine g_iloadN C S dpl_1 (pc' := 2) rfl rfl ?_
  refine g_aloadN C S dpl_2 (pc' := 3) rfl rfl rfl ?_
  refine g_aloadN C S dpl_3 (pc' := 4) rfl rfl rfl ?_
  refine g_getF C S dpl_4 (host := "") (Or.inl (hw _ (List.mem_of_getElem? (i := 23) rfl))) Via.refl F_m_aLengthCounts_o (pc' := 7) rfl (fun T26 S => ?_)
  refine g_iload C S dpl_7 (pc' := 9) rfl rfl ?_
  refine g_aloadN C S dpl_9 (pc' := 10) rfl rfl rfl ?_
  refine g_getF C S dpl_10 (host := "") (Or.inl (hw _ (List.mem_of_getElem? (i := 25) rfl))) Via.refl F_m_aFirstCodes_o (pc' := 13) rfl (fun T27 S => ?_)
  refine g_aloadN C S dpl_13 (pc' := 14) rfl rfl rfl ?_
  refine g_getF C S dpl_14 (host := "") (Or.inl (hw _ (List.mem_of_getElem? (i := 27) rfl))) Via.refl F_m_aFirstSymbols_o (pc' := 17) rfl (fun T28 S => ?_)
  refine g_aloadN C S dpl_17 (pc' := 18) rfl rfl rfl ?_
  refine g_getF C S dpl_18 (host := "") (Or.inl (hw _ (List.mem_of_getElem? (i := 16) rfl))) Via.refl F_m_aSymbols_o (pc' := 21) rfl (fun T29 S => ?_)
  refine g_callS C S (rm := ({ frames := 0, cells := 0, slots := 0, locals := 0 } : Room)) (W := 0) dpl_21 (hw _ (List.mem_of_getElem? (i := 64) rfl)) (hw _ (List.mem_of_getElem? (i := 65) rfl)) (hw _ (List.mem_of_getElem? (i := 9) rfl)) (hw _ (List.mem_of_getElem? (i := 66) rfl)) (by decide) (c_can l' Z a0 hw a2 a4 lc fa fb sy h0 n0 l V n N1 N3 fv fl hg hN1 hN3 hV hA hfv hfl lg hlg f6 f7 f8 g_fa g_fb g_sy hD6 A_a2 A_a4 A_lc A_fa A_fb A_sy) (argsL := [(.ref a2), (.int (Int32.ofNat n)), (.ref a4), (.ref lc), (.int (Int32.ofNat lg)), (.ref fa), (.ref fb), (.ref sy)]) (r := []) rfl (lenOf pd_3 rfl) rfl (Nat.le_of_eq rfl) (by decide) (by decide) (by decide) (by decide) (pc' := 24) rfl (fun T30 h30 v30 q30 S => ?_)
  obtain ⟨rfl, K30, B_fa, B_fb, B_sy⟩ := q30
  have Kp := Kp.trans K30 (allS (Or.inl (List.mem_of_getElem? (i := 4) rfl)) (allS (Or.inl (List.mem_of_getElem? (i := 5) rfl)) (allS (Or.inl (List.mem_of_getElem? (i := 1) rfl)) all0)))
  have X_o := X_o.keep K30
  have F_m_aSymbols_o := F_m_aSymbols_o.keep K30 (ninS ne_o_fa (ninS ne_o_fb (ninS ne_o_sy nin0)))
  have F_m_aCodes_o := F_m_aCodes_o.keep K30 (ninS ne_o_fa (ninS ne_o_fb (ninS ne_o_sy nin0)))
  have F_m_aLengths_o := F_m_aLengths_o.keep K30 (ninS ne_o_fa (ninS ne_o_fb (ninS ne_o_sy nin0)))
  have F_m_aLengthCounts_o := F_m_aLengthCounts_o.keep K30 (ninS ne_o_fa (ninS ne_o_fb (ninS ne_o_sy nin0)))
  have F_m_aFirstCodes_o := F_m_aFirstCodes_o.keep K30 (ninS ne_o_fa (ninS ne_o_fb (ninS ne_o_sy nin0)))
  have F_m_aFirstSymbols_o := F_m_aFirstSymbols_o.keep K30 (ninS ne_o_fa (ninS ne_o_fb (ninS ne_o_sy nin0)))
  have F_m_nLongest_o := F_m_nLongest_o.keep K30 (ninS ne_o_fa (ninS ne_o_fb (ninS ne_o_sy nin0)))
  have F_m_nValues_o := F_m_nValues_o.keep K30 (ninS ne_o_fa (ninS ne_o_fb (ninS ne_o_sy nin0)))
  have F_m_bPacked_o := F_m_bPacked_o.keep K30 (ninS ne_o_fa (ninS ne_o_fb (ninS ne_o_sy nin0)))
  have A_co := A_co.keep K30 (ninS ne_co_fa (ninS ne_co_fb (ninS (Ne.symm ne_sy_co) nin0)))
  have A_le := A_le.keep K30 (ninS ne_le_fa (ninS ne_le_fb (ninS (Ne.symm ne_sy_le) nin0)))
  have A_lc := A_lc.keep K30 (ninS ne_lc_fa (ninS ne_lc_fb (ninS (Ne.symm ne_sy_lc) nin0)))
  have A_a2 := A_a2.keep K30 (ninS ne_a2_fa (ninS ne_a2_fb (ninS ne_a2_sy nin0)))
  have A_a4 := A_a4.keep K30 (ninS ne_a4_fa (ninS ne_a4_fb (ninS ne_a4_sy nin0)))
  have A_fa := B_fa
  have A_fb := B_fb
  have A_sy := B_sy
  show Gl p e below s _ n0 _ T30 (mkF m 24 #[.val (.ref o), .val (.ref a2), .val (.int (Int32.ofNat n)), .val (.ref a4), .val (.int (Int32.ofNat lg)), .unset, .unset, .unset, .unset, .unset] [])
  refine g_aloadN C S dpl_24 (pc' := 25) rfl rfl rfl ?_
  refine g_iload C S dpl_25 (pc' := 27) rfl rfl ?_
  refine g_putF C S dpl_27 (host := "") (Or.inl (hw _ (List.mem_of_getElem? (i := 67) rfl))) Via.refl F_m_nLongest_o X_o (Or.inl (hw _ (List.mem_of_getElem? (i := 68) rfl))) (hw _ (List.mem_of_getElem? (i := 8) rfl)) (ty := .int) (by decide) rfl rfl g_o (pc' := 30) rfl (fun T31 h31 S W31 => ?_)
  have X_o := X_o.wr W31
  have F_m_aSymbols_o := F_m_aSymbols_o.other W31 (Or.inr (slot_ne (a0 := a0) (t := (.array .int)) (t' := .int) (Or.inr (hw _ (List.mem_of_getElem? (i := 17) rfl))) (Or.inl (hw _ (List.mem_of_getElem? (i := 68) rfl))) (by decide) (by decide) (by decide)))
  have F_m_aCodes_o := F_m_aCodes_o.other W31 (Or.inr (slot_ne (a0 := a0) (t := (.array .long)) (t' := .int) (Or.inr (hw _ (List.mem_of_getElem? (i := 19) rfl))) (Or.inl (hw _ (List.mem_of_getElem? (i := 68) rfl))) (by decide) (by decide) (by decide)))
  have F_m_aLengths_o := F_m_aLengths_o.other W31 (Or.inr (slot_ne (a0 := a0) (t := (.array .byte)) (t' := .int) (Or.inr (hw _ (List.mem_of_getElem? (i := 22) rfl))) (Or.inl (hw _ (List.mem_of_getElem? (i := 68) rfl))) (by decide) (by decide) (by decide)))
  have F_m_aLengthCounts_o := F_m_aLengthCounts_o.other W31 (Or.inr (slot_ne (a0 := a0) (t := (.array .int)) (t' := .int) (Or.inr (hw _ (List.mem_of_getElem? (i := 24) rfl))) (Or.inl (hw _ (List.mem_of_getElem? (i := 68) rfl))) (by decide) (by decide) (by decide)))
  have F_m_aFirstCodes_o := F_m_aFirstCodes_o.other W31 (Or.inr (slot_ne (a0 := a0) (t := (.array .long)) (t' := .int) (Or.inr (hw _ (List.mem_of_getElem? (i := 26) rfl))) (Or.inl (hw _ (List.mem_of_getElem? (i := 68) rfl))) (by decide) (by decide) (by decide)))
  have F_m_aFirstSymbols_o := F_m_aFirstSymbols_o.other W31 (Or.inr (slot_ne (a0 := a0) (t := (.array .int)) (t' := .int) (Or.inr (hw _ (List.mem_of_getElem? (i := 28) rfl))) (Or.inl (hw _ (List.mem_of_getElem? (i := 68) rfl))) (by decide) (by decide) (by decide)))
  have F_m_nLongest_o := F_m_nLongest_o.same W31
  have F_m_nValues_o := F_m_nValues_o.other W31 (Or.inr (slot_ne (a0 := a0) (t := .int) (t' := .int) (Or.inl (hw _ (List.mem_of_getElem? (i := 59) rfl))) (Or.inl (hw _ (List.mem_of_getElem? (i := 68) rfl))) (by decide) (by decide) (by decide)))
  have F_m_bPacked_o := F_m_bPacked_o.other W31 (Or.inr (slot_ne (a0 := a0) (t := .boolean) (t' := .int) (Or.inl (hw _ (List.mem_of_getElem? (i := 70) rfl))) (Or.inl (hw _ (List.mem_of_getElem? (i := 68) rfl))) (by decide) (by decide) (by decide)))
  have A_sy := A_sy.other W31 (Ne.symm ne_o_sy)
  have A_co := A_co.other W31 (Ne.symm ne_o_co)
  have A_le := A_le.other W31 (Ne.symm ne_o_le)
  have A_lc := A_lc.other W31 (Ne.symm ne_o_lc)
  have A_fa := A_fa.other W31 (Ne.symm ne_o_fa)
  have A_fb := A_fb.other W31 (Ne.symm ne_o_fb)
  have A_a2 := A_a2.other W31 ne_a2_o
  have A_a4 := A_a4.other W31 ne_a4_o
  have Kp := Kp.wr W31 (Or.inl (List.mem_of_getElem? (i := 0) rfl))
  refine g_aloadN C S dpl_30 (pc' := 31) rfl rfl rfl ?_
  refine g_iloadN C S dpl_31 (pc' := 32) rfl rfl ?_
  refine g_putF C S dpl_32 (host := "") (Or.inl (hw _ (List.mem_of_getElem? (i := 58) rfl))) Via.refl F_m_nValues_o X_o (Or.inl (hw _ (List.mem_of_getElem? (i := 59) rfl))) (hw _ (List.mem_of_getElem? (i := 8) rfl)) (ty := .int) (by decide) rfl rfl g_o (pc' := 35) rfl (fun T32 h32 S W32 => ?_)
  have X_o := X_o.wr W32
  have F_m_aSymbols_o := F_m_aSymbols_o.other W32 (Or.inr (slot_ne (a0 := a0) (t := (.array .int)) (t' := .int) (Or.inr (hw _ (List.mem_of_getElem? (i := 17) rfl))) (Or.inl (hw _ (List.mem_of_getElem? (i := 59) rfl))) (by decide) (by decide) (by decide)))
  have F_m_aCodes_o := F_m_aCodes_o.other W32 (Or.inr (slot_ne (a0 := a0) (t := (.array .long)) (t' := .int) (Or.inr (hw _ (List.mem_of_getElem? (i := 19) rfl))) (Or.inl (hw _ (List.mem_of_getElem? (i := 59) rfl))) (by decide) (by decide) (by decide)))
  have F_m_aLengths_o := F_m_aLengths_o.other W32 (Or.inr (slot_ne (a0 := a0) (t := (.array .byte)) (t' := .int) (Or.inr (hw _ (List.mem_of_getElem? (i := 22) rfl))) (Or.inl (hw _ (List.mem_of_getElem? (i := 59) rfl))) (by decide) (by decide) (by decide)))
  have F_m_aLengthCounts_o := F_m_aLengthCounts_o.other W32 (Or.inr (slot_ne (a0 := a0) (t := (.array .int)) (t' := .int) (Or.inr (hw _ (List.mem_of_getElem? (i := 24) rfl))) (Or.inl (hw _ (List.mem_of_getElem? (i := 59) rfl))) (by decide) (by decide) (by decide)))
  have F_m_aFirstCodes_o := F_m_aFirstCodes_o.other W32 (Or.inr (slot_ne (a0 := a0) (t := (.array .long)) (t' := .int) (Or.inr (hw _ (List.mem_of_getElem? (i := 26) rfl))) (Or.inl (hw _ (List.mem_of_getElem? (i := 59) rfl))) (by decide) (by decide) (by decide)))
  have F_m_aFirstSymbols_o := F_m_aFirstSymbols_o.other W32 (Or.inr (slot_ne (a0 := a0) (t := (.array .int)) (t' := .int) (Or.inr (hw _ (List.mem_of_getElem? (i := 28) rfl))) (Or.inl (hw _ (List.mem_of_getElem? (i := 59) rfl))) (by decide) (by decide) (by decide)))
  have F_m_nLongest_o := F_m_nLongest_o.other W32 (Or.inr (slot_ne (a0 := a0) (t := .int) (t' := .int) (Or.inl (hw _ (List.mem_of_getElem? (i := 68) rfl))) (Or.inl (hw _ (List.mem_of_getElem? (i := 59) rfl))) (by decide) (by decide) (by decide)))
  have F_m_nValues_o := F_m_nValues_o.same W32
  have F_m_bPacked_o := F_m_bPacked_o.other W32 (Or.inr (slot_ne (a0 := a0) (t := .boolean) (t' := .int) (Or.inl (hw _ (List.mem_of_getElem? (i := 70) rfl))) (Or.inl (hw _ (List.mem_of_getElem? (i := 59) rfl))) (by decide) (by decide) (by decide)))
  have A_sy := A_sy.other W32 (Ne.symm ne_o_sy)
  have A_co := A_co.other W32 (Ne.symm ne_o_co)
  have A_le := A_le.other W32 (Ne.symm ne_o_le)
  have A_lc := A_lc.other W32 (Ne.symm ne_o_lc)
  have A_fa := A_fa.other W32 (Ne.symm ne_o_fa)
  have A_fb := A_fb.other W32 (Ne.symm ne_o_fb)
  have A_a2 := A_a2.other W32 ne_a2_o
  have A_a4 := A_a4.other W32 ne_a4_o
  have Kp := Kp.wr W32 (Or.inl (List.mem_of_getElem? (i := 0) rfl))
  refine g_aloadN C S dpl_35 (pc' := 36) rfl rfl rfl ?_
  refine g_iload C S dpl_36 (pc' := 38) rfl rfl ?_
  refine g_bipush C S (56 : Int32) dpl_38 (pc' := 40) rfl rfl ?_
  refine g_icmp_gt C S dpl_40 (pc' := 47) (pf := 43) (by decide) (by decide) rfl (fun hc40 => ?_) (fun hc40 => ?_)
  · refine g_iconst C S (0 : Int32) dpl_47 (pc' := 48) rfl rfl ?_
    refine g_putF C S dpl_48 (host := "") (Or.inl (hw _ (List.mem_of_getElem? (i := 69) rfl))) Via.refl F_m_bPacked_o X_o (Or.inl (hw _ (List.mem_of_getElem? (i := 70) rfl))) (hw _ (List.mem_of_getElem? (i := 8) rfl)) (ty := .boolean) (by decide) rfl rfl g_o (pc' := 51) rfl (fun T33 h33 S W33 => ?_)
    have X_o := X_o.wr W33
    have F_m_aSymbols_o := F_m_aSymbols_o.other W33 (Or.inr (slot_ne (a0 := a0) (t := (.array .int)) (t' := .boolean) (Or.inr (hw _ (List.mem_of_getElem? (i := 17) rfl))) (Or.inl (hw _ (List.mem_of_getElem? (i := 70) rfl))) (by decide) (by decide) (by decide)))
    have F_m_aCodes_o := F_m_aCodes_o.other W33 (Or.inr (slot_ne (a0 := a0) (t := (.array .long)) (t' := .boolean) (Or.inr (hw _ (List.mem_of_getElem? (i := 19) rfl))) (Or.inl (hw _ (List.mem_of_getElem? (i := 70) rfl))) (by decide) (by decide) (by decide)))
    have F_m_aLengths_o := F_m_aLengths_o.other W33 (Or.inr (slot_ne (a0 := a0) (t := (.array .byte)) (t' := .boolean) (Or.inr (hw _ (List.mem_of_getElem? (i := 22) rfl))) (Or.inl (hw _ (List.mem_of_getElem? (i := 70) rfl))) (by decide) (by decide) (by decide)))
    have F_m_aLengthCounts_o := F_m_aLengthCounts_o.other W33 (Or.inr (slot_ne (a0 := a0) (t := (.array .int)) (t' := .boolean) (Or.inr (hw _ (List.mem_of_getElem? (i := 24) rfl))) (Or.inl (hw _ (List.mem_of_getElem? (i := 70) rfl))) (by decide) (by decide) (by decide)))
    have F_m_aFirstCodes_o := F_m_aFirstCodes_o.other W33 (Or.inr (slot_ne (a0 := a0) (t := (.array .long)) (t' := .boolean) (Or.inr (hw _ (List.mem_of_getElem? (i := 26) rfl))) (Or.inl (hw _ (List.mem_of_getElem? (i := 70) rfl))) (by decide) (by decide) (by decide)))
    have F_m_aFirstSymbols_o := F_m_aFirstSymbols_o.other W33 (Or.inr (slot_ne (a0 := a0) (t := (.array .int)) (t' := .boolean) (Or.inr (hw _ (List.mem_of_getElem? (i := 28) rfl))) (Or.inl (hw _ (List.mem_of_getElem? (i := 70) rfl))) (by decide) (by decide) (by decide)))
    have F_m_nLongest_o := F_m_nLongest_o.other W33 (Or.inr (slot_ne (a0 := a0) (t := .int) (t' := .boolean) (Or.inl (hw _ (List.mem_of_getElem? (i := 68) rfl))) (Or.inl (hw _ (List.mem_of_getElem? (i := 70) rfl))) (by decide) (by decide) (by decide)))
    have F_m_nValues_o := F_m_nValues_o.other W33 (Or.inr (slot_ne (a0 := a0) (t := .int) (t' := .boolean) (Or.inl (hw _ (List.mem_of_getElem? (i := 59) rfl))) (Or.inl (hw _ (List.mem_of_getElem? (i := 70) rfl))) (by decide) (by decide) (by decide)))
    have F_m_bPacked_o := F_m_bPacked_o.same W33
    have A_sy := A_sy.other W33 (Ne.symm ne_o_sy)
    have A_co := A_co.other W33 (Ne.symm ne_o_co)
    have A_le := A_le.other W33 (Ne.symm ne_o_le)
    have A_lc := A_lc.other W33 (Ne.symm ne_o_lc)
    have A_fa := A_fa.other W33 (Ne.symm ne_o_fa)
    have A_fb := A_fb.other W33 (Ne.symm ne_o_fb)
    have A_a2 := A_a2.other W33 ne_a2_o
    have A_a4 := A_a4.other W33 ne_a4_o
    have Kp := Kp.wr W33 (Or.inl (List.mem_of_getElem? (i := 0) rfl))
    refine g_iconst C S (0 : Int32) dpl_51 (pc' := 52) rfl rfl ?_
    refine g_istore C S dpl_52 (pc' := 54) rfl (L' := #[.val (.ref o), .val (.ref a2), .val (.int (Int32.ofNat n)), .val (.ref a4), .val (.int (Int32.ofNat lg)), .val (.int (0 : Int32)), .unset, .unset, .unset, .unset]) rfl ?_
    have hpk : hPk lg = (0 : Int32) := if_pos ((o32_gtl (K := 56) (by decide) (by omega)).mp hc40)
    rw [← hpk] at F_m_bPacked_o
    exact LP n 0 _ _ _ _ (by omega) (Or.inl rfl) (Or.inl rfl) (Or.inl ⟨rfl, rfl⟩) _ _ S X_o F_m_aSymbols_o F_m_aCodes_o F_m_aLengths_o F_m_aLengthCounts_o F_m_aFirstCodes_o F_m_aFirstSymbols_o F_m_bPacked_o A_a4 A_sy A_co A_le A_fa A_fb Kp
  · refine g_iconst C S (1 : Int32) dpl_43 (pc' := 44) rfl rfl ?_
    refine g_goto C S dpl_44 (pc' := 48) (by decide) (by decide) ?_
    refine g_putF C S dpl_48 (host := "") (Or.inl (hw _ (List.mem_of_getElem? (i := 69) rfl))) Via.refl F_m_bPacked_o X_o (Or.inl (hw _ (List.mem_of_getElem? (i := 70) rfl))) (hw _ (List.mem_of_getElem? (i := 8) rfl)) (ty := .boolean) (by decide) rfl rfl g_o (pc' := 51) rfl (fun T34 h34 S W34 => ?_)
    have X_o := X_o.wr W34
    have F_m_aSymbols_o := F_m_aSymbols_o.other W34 (Or.inr (slot_ne (a0 := a0) (t := (.array .int)) (t' := .boolean) (Or.inr (hw _ (List.mem_of_getElem? (i := 17) rfl))) (Or.inl (hw _ (List.mem_of_getElem? (i := 70) rfl))) (by decide) (by decide) (by decide)))
    have F_m_aCodes_o := F_m_aCodes_o.other W34 (Or.inr (slot_ne (a0 := a0) (t := (.array .long)) (t' := .boolean) (Or.inr (hw _ (List.mem_of_getElem? (i := 19) rfl))) (Or.inl (hw _ (List.mem_of_getElem? (i := 70) rfl))) (by decide) (by decide) (by decide)))
    have F_m_aLengths_o := F_m_aLengths_o.other W34 (Or.inr (slot_ne (a0 := a0) (t := (.array .byte)) (t' := .boolean) (Or.inr (hw _ (List.mem_of_getElem? (i := 22) rfl))) (Or.inl (hw _ (List.mem_of_getElem? (i := 70) rfl))) (by decide) (by decide) (by decide)))
    have F_m_aLengthCounts_o := F_m_aLengthCounts_o.other W34 (Or.inr (slot_ne (a0 := a0) (t := (.array .int)) (t' := .boolean) (Or.inr (hw _ (List.mem_of_getElem? (i := 24) rfl))) (Or.inl (hw _ (List.mem_of_getElem? (i := 70) rfl))) (by decide) (by decide) (by decide)))
    have F_m_aFirstCodes_o := F_m_aFirstCodes_o.other W34 (Or.inr (slot_ne (a0 := a0) (t := (.array .long)) (t' := .boolean) (Or.inr (hw _ (List.mem_of_getElem? (i := 26) rfl))) (Or.inl (hw _ (List.mem_of_getElem? (i := 70) rfl))) (by decide) (by decide) (by decide)))
    have F_m_aFirstSymbols_o := F_m_aFirstSymbols_o.other W34 (Or.inr (slot_ne (a0 := a0) (t := (.array .int)) (t' := .boolean) (Or.inr (hw _ (List.mem_of_getElem? (i := 28) rfl))) (Or.inl (hw _ (List.mem_of_getElem? (i := 70) rfl))) (by decide) (by decide) (by decide)))
    have F_m_nLongest_o := F_m_nLongest_o.other W34 (Or.inr (slot_ne (a0 := a0) (t := .int) (t' := .boolean) (Or.inl (hw _ (List.mem_of_getElem? (i := 68) rfl))) (Or.inl (hw _ (List.mem_of_getElem? (i := 70) rfl))) (by decide) (by decide) (by decide)))
    have F_m_nValues_o := F_m_nValues_o.other W34 (Or.inr (slot_ne (a0 := a0) (t := .int) (t' := .boolean) (Or.inl (hw _ (List.mem_of_getElem? (i := 59) rfl))) (Or.inl (hw _ (List.mem_of_getElem? (i := 70) rfl))) (by decide) (by decide) (by decide)))
    have F_m_bPacked_o := F_m_bPacked_o.same W34
    have A_sy := A_sy.other W34 (Ne.symm ne_o_sy)
    have A_co := A_co.other W34 (Ne.symm ne_o_co)
    have A_le := A_le.other W34 (Ne.symm ne_o_le)
    have A_lc := A_lc.other W34 (Ne.symm ne_o_lc)
    have A_fa := A_fa.other W34 (Ne.symm ne_o_fa)
    have A_fb := A_fb.other W34 (Ne.symm ne_o_fb)
    have A_a2 := A_a2.other W34 ne_a2_o
    have A_a4 := A_a4.other W34 ne_a4_o
    have Kp := Kp.wr W34 (Or.inl (List.mem_of_getElem? (i := 0) rfl))
    refine g_iconst C S (0 : Int32) dpl_51 (pc' := 52) rfl rfl ?_
    refine g_istore C S dpl_52 (pc' := 54) rfl (L' := #[.val (.ref o), .val (.ref a2), .val (.int (Int32.ofNat n)), .val (.ref a4), .val (.int (Int32.ofNat lg)), .val (.int (0 : Int32)), .unset, .unset, .unset, .unset]) rfl ?_
    have hpk : hPk lg = (1 : Int32) := if_neg (fun q => hc40 ((o32_gtl (K := 56) (by decide) (by omega)).mpr q))
    rw [← hpk] at F_m_bPacked_o
    exact LP n 0 _ _ _ _ (by omega) (Or.inl rfl) (Or.inl rfl) (Or.inl ⟨rfl, rfl⟩) _ _ S X_o F_m_aSymbols_o F_m_aCodes_o F_m_aLengths_o F_m_aLengthCounts_o F_m_aFirstCodes_o F_m_aFirstSymbols_o F_m_bPacked_o A_a4 A_sy A_co A_le A_fa A_fb Kp
theorem pd_4 : parseMethodDescriptor "([II)V" = some ⟨[(.array .int), .int], none⟩ := by decide +kernel
theorem pd_5 : parseMethodDescriptor "([II[I[I)I" = some ⟨[(.array .int), .int, (.array .int), (.array .int)], some .int⟩ := by decide +kernel
theorem pd_6 : parseMethodDescriptor "()V" = some ⟨[], none⟩ := by decide +kernel
theorem pd_7 : parseMethodDescriptor "([II[II)V" = some ⟨[(.array .int), .int, (.array .int), .int], none⟩ := by decide +kernel
theorem dfl_0 : decode prog_31_method_3_code 0 = .ok (.aload_n 0, 1) := by decide +kernel
theorem dfl_1 : decode prog_31_method_3_code 1 = .ok (.getfield 28, 3) := by decide +kernel
theorem dfl_4 : decode prog_31_method_3_code 4 = .ok (.iconst 0, 1) := by decide +kernel
theorem dfl_5 : decode prog_31_method_3_code 5 = .ok (.invokestatic 42, 3) := by decide +kernel
theorem dfl_8 : decode prog_31_method_3_code 8 = .ok (.aload_n 1, 1) := by decide +kernel
theorem dfl_9 : decode prog_31_method_3_code 9 = .ok (.iload_n 2, 1) := by decide +kernel
theorem dfl_10 : decode prog_31_method_3_code 10 = .ok (.aload_n 3, 1) := by decide +kernel
theorem dfl_11 : decode prog_31_method_3_code 11 = .ok (.aload_n 0, 1) := by decide +kernel
theorem dfl_12 : decode prog_31_method_3_code 12 = .ok (.getfield 28, 3) := by decide +kernel
theorem dfl_15 : decode prog_31_method_3_code 15 = .ok (.invokestatic 45, 3) := by decide +kernel
theorem dfl_18 : decode prog_31_method_3_code 18 = .ok (.istore 4, 2) := by decide +kernel
theorem dfl_20 : decode prog_31_method_3_code 20 = .ok (.aload_n 0, 1) := by decide +kernel
theorem dfl_21 : decode prog_31_method_3_code 21 = .ok (.invokevirtual 49, 3) := by decide +kernel
theorem dfl_24 : decode prog_31_method_3_code 24 = .ok (.aload_n 0, 1) := by decide +kernel
theorem dfl_25 : decode prog_31_method_3_code 25 = .ok (.aload_n 1, 1) := by decide +kernel
theorem dfl_26 : decode prog_31_method_3_code 26 = .ok (.iload_n 2, 1) := by decide +kernel
theorem dfl_27 : decode prog_31_method_3_code 27 = .ok (.aload_n 3, 1) := by decide +kernel
theorem dfl_28 : decode prog_31_method_3_code 28 = .ok (.iload 4, 2) := by decide +kernel
theorem dfl_30 : decode prog_31_method_3_code 30 = .ok (.invokevirtual 52, 3) := by decide +kernel
theorem dfl_33 : decode prog_31_method_3_code 33 = .ok (.return_, 1) := by decide +kernel
set_option maxRecDepth 65536 in
set_option maxHeartbeats 40000000 in
theorem c_fil (l' : Launch) (Z : State) (a0 : Array Value) (hw : ∀ d ∈ tables_1, d.before a0 Z = true) (o : Addr) (a2 : Addr) (a4 : Addr) (h0 : Heap) (n0 : Nat) (l V : Nat → Nat) (n N1 N3 : Nat) (fv fl : Nat → Value) (hg : hGood l n = true) (hN1 : n ≤ N1) (hN3 : N3 ≤ 256) (hV : ∀ i, i < n → V i < N3) (hA : ∀ i, i + 1 < n → V i < V (i + 1)) (hfv : ∀ i, i < n → fv i = .int (Int32.ofNat (V i))) (hfl : ∀ i, i < n → fl (V i) = .int (Int32.ofNat (l i))) (sy co le lc fa fb : Addr) (f6 f7 f8 f9 : Nat → Value) (u1 u3 : Value) (g_o : n0 ≤ o) (g_sy : n0 ≤ sy) (g_co : n0 ≤ co) (g_le : n0 ≤ le) (g_lc : n0 ≤ lc) (g_fa : n0 ≤ fa) (g_fb : n0 ≤ fb) (hD : [a2, a4, o, sy, co, le, lc, fa, fb].Nodup) (X_o : Exa Z h0 o "leafpress/HuffmanCode") (F_m_aSymbols_o : Fld Z h0 o "leafpress/HuffmanCode" "m_aSymbols" "[I" (.ref sy)) (F_m_aCodes_o : Fld Z h0 o "leafpress/HuffmanCode" "m_aCodes" "[J" (.ref co)) (F_m_aLengths_o : Fld Z h0 o "leafpress/HuffmanCode" "m_aLengths" "[B" (.ref le)) (F_m_aLengthCounts_o : Fld Z h0 o "leafpress/HuffmanCode" "m_aLengthCounts" "[I" (.ref lc)) (F_m_aFirstCodes_o : Fld Z h0 o "leafpress/HuffmanCode" "m_aFirstCodes" "[J" (.ref fa)) (F_m_aFirstSymbols_o : Fld Z h0 o "leafpress/HuffmanCode" "m_aFirstSymbols" "[I" (.ref fb)) (F_m_nLongest_o : Fld Z h0 o "leafpress/HuffmanCode" "m_nLongest" "I" u1) (F_m_nValues_o : Fld Z h0 o "leafpress/HuffmanCode" "m_nValues" "I" (.int (0 : Int32))) (F_m_bPacked_o : Fld Z h0 o "leafpress/HuffmanCode" "m_bPacked" "Z" u3) (A_a2 : Ary Z h0 a2 .int N1 fv) (A_a4 : Ary Z h0 a4 .int N3 fl) (A_lc : Ary Z h0 lc .int 64 f9) (A_fa : Ary Z h0 fa .long 64 f6) (A_fb : Ary Z h0 fb .int 64 f7) (A_sy : Ary Z h0 sy .int 256 f8) (A_co : Ary Z h0 co .long 256 (fun _ => .long 0)) (A_le : Ary Z h0 le .byte 264 (fun q => if 256 ≤ q then .int (-1) else .int 0)) :
    Con l' Z (⟨"leafpress/HuffmanCode", "fill", "([II[I)V"⟩ : MethodName) prog_31_method_3_code 5 none ({ frames := 2, cells := 0, slots := 0, locals := 43 } : Room) #[(.ref o), (.ref a2), (.int (Int32.ofNat n)), (.ref a4)] h0 n0 (fun v h => v = none ∧ Keep h0 h [o, sy, co, le, lc, fa, fb] ∧ Exa Z h o "leafpress/HuffmanCode" ∧ Fld Z h o "leafpress/HuffmanCode" "m_aCodes" "[J" (.ref co) ∧ Fld Z h o "leafpress/HuffmanCode" "m_aLengths" "[B" (.ref le) ∧ Fld Z h o "leafpress/HuffmanCode" "m_bPacked" "Z" (.int (hPk (hLng l n))) ∧ Ary Z h co .long 256 (fun x => .long (hCo l V n (hPk (hLng l n)) n x)) ∧ Ary Z h le .byte 264 (hLb l V n n)) := by
  refine Con.of (plainFor_of_name (by first | (simp [plainName, overriddenIn]; done) | decide +kernel)) (L0 := #[.val (.ref o), .val (.ref a2), .val (.int (Int32.ofNat n)), .val (.ref a4), .unset]) (fun m => by first | (simp [entryFrame, mkF, argsToLocals, Value.category]; done) | rfl) ?_
  intro p e s m below meth c T C S
  have Kp := Keep.refl h0 [o, sy, co, le, lc, fa, fb]
  have ne_a2_a4 : a2 ≠ a4 := nd hD 0 1 (show (0 : Nat) < 1 by decide) (show (1 : Nat) < 9 by decide)
  have ne_a2_o : a2 ≠ o := nd hD 0 2 (show (0 : Nat) < 2 by decide) (show (2 : Nat) < 9 by decide)
  have ne_a2_sy : a2 ≠ sy := nd hD 0 3 (show (0 : Nat) < 3 by decide) (show (3 : Nat) < 9 by decide)
  have ne_a2_co : a2 ≠ co := nd hD 0 4 (show (0 : Nat) < 4 by decide) (show (4 : Nat) < 9 by decide)
  have ne_a2_le : a2 ≠ le := nd hD 0 5 (show (0 : Nat) < 5 by decide) (show (5 : Nat) < 9 by decide)
  have ne_a2_lc : a2 ≠ lc := nd hD 0 6 (show (0 : Nat) < 6 by decide) (show (6 : Nat) < 9 by decide)
  have ne_a2_fa : a2 ≠ fa := nd hD 0 7 (show (0 : Nat) < 7 by decide) (show (7 : Nat) < 9 by decide)
  have ne_a2_fb : a2 ≠ fb := nd hD 0 8 (show (0 : Nat) < 8 by decide) (show (8 : Nat) < 9 by decide)
  have ne_a4_o : a4 ≠ o := nd hD 1 2 (show (1 : Nat) < 2 by decide) (show (2 : Nat) < 9 by decide)
  have ne_a4_sy : a4 ≠ sy := nd hD 1 3 (show (1 : Nat) < 3 by decide) (show (3 : Nat) < 9 by decide)
  have ne_a4_co : a4 ≠ co := nd hD 1 4 (show (1 : Nat) < 4 by decide) (show (4 : Nat) < 9 by decide)
  have ne_a4_le : a4 ≠ le := nd hD 1 5 (show (1 : Nat) < 5 by decide) (show (5 : Nat) < 9 by decide)
  have ne_a4_lc : a4 ≠ lc := nd hD 1 6 (show (1 : Nat) < 6 by decide) (show (6 : Nat) < 9 by decide)
  have ne_a4_fa : a4 ≠ fa := nd hD 1 7 (show (1 : Nat) < 7 by decide) (show (7 : Nat) < 9 by decide)
  have ne_a4_fb : a4 ≠ fb := nd hD 1 8 (show (1 : Nat) < 8 by decide) (show (8 : Nat) < 9 by decide)
  have ne_o_sy : o ≠ sy := nd hD 2 3 (show (2 : Nat) < 3 by decide) (show (3 : Nat) < 9 by decide)
  have ne_o_co : o ≠ co := nd hD 2 4 (show (2 : Nat) < 4 by decide) (show (4 : Nat) < 9 by decide)
  have ne_o_le : o ≠ le := nd hD 2 5 (show (2 : Nat) < 5 by decide) (show (5 : Nat) < 9 by decide)
  have ne_o_lc : o ≠ lc := nd hD 2 6 (show (2 : Nat) < 6 by decide) (show (6 : Nat) < 9 by decide)
  have ne_o_fa : o ≠ fa := nd hD 2 7 (show (2 : Nat) < 7 by decide) (show (7 : Nat) < 9 by decide)
  have ne_o_fb : o ≠ fb := nd hD 2 8 (show (2 : Nat) < 8 by decide) (show (8 : Nat) < 9 by decide)
  have ne_sy_co : sy ≠ co := nd hD 3 4 (show (3 : Nat) < 4 by decide) (show (4 : Nat) < 9 by decide)
  have ne_sy_le : sy ≠ le := nd hD 3 5 (show (3 : Nat) < 5 by decide) (show (5 : Nat) < 9 by decide)
  have ne_sy_lc : sy ≠ lc := nd hD 3 6 (show (3 : Nat) < 6 by decide) (show (6 : Nat) < 9 by decide)
  have ne_sy_fa : sy ≠ fa := nd hD 3 7 (show (3 : Nat) < 7 by decide) (show (7 : Nat) < 9 by decide)
  have ne_sy_fb : sy ≠ fb := nd hD 3 8 (show (3 : Nat) < 8 by decide) (show (8 : Nat) < 9 by decide)
  have ne_co_le : co ≠ le := nd hD 4 5 (show (4 : Nat) < 5 by decide) (show (5 : Nat) < 9 by decide)
  have ne_co_lc : co ≠ lc := nd hD 4 6 (show (4 : Nat) < 6 by decide) (show (6 : Nat) < 9 by decide)
  have ne_co_fa : co ≠ fa := nd hD 4 7 (show (4 : Nat) < 7 by decide) (show (7 : Nat) < 9 by decide)
  have ne_co_fb : co ≠ fb := nd hD 4 8 (show (4 : Nat) < 8 by decide) (show (8 : Nat) < 9 by decide)
  have ne_le_lc : le ≠ lc := nd hD 5 6 (show (5 : Nat) < 6 by decide) (show (6 : Nat) < 9 by decide)
  have ne_le_fa : le ≠ fa := nd hD 5 7 (show (5 : Nat) < 7 by decide) (show (7 : Nat) < 9 by decide)
  have ne_le_fb : le ≠ fb := nd hD 5 8 (show (5 : Nat) < 8 by decide) (show (8 : Nat) < 9 by decide)
  have ne_lc_fa : lc ≠ fa := nd hD 6 7 (show (6 : Nat) < 7 by decide) (show (7 : Nat) < 9 by decide)
  have ne_lc_fb : lc ≠ fb := nd hD 6 8 (show (6 : Nat) < 8 by decide) (show (8 : Nat) < 9 by decide)
  have ne_fa_fb : fa ≠ fb := nd hD 7 8 (show (7 : Nat) < 8 by decide) (show (8 : Nat) < 9 by decide)
  refine g_aloadN C S dfl_0 (pc' := 1) rfl rfl rfl ?_
  refine g_getF C S dfl_1 (host := "") (Or.inl (hw _ (List.mem_of_getElem? (i := 23) rfl))) Via.refl F_m_aLengthCounts_o (pc' := 4) rfl (fun T35 S => ?_)
  refine g_iconst C S (0 : Int32) dfl_4 (pc' := 5) rfl rfl ?_
  refine g_callS C S (rm := ({ frames := 0, cells := 0, slots := 0, locals := 0 } : Room)) (W := 0) dfl_5 (hw _ (List.mem_of_getElem? (i := 41) rfl)) (hw _ (List.mem_of_getElem? (i := 42) rfl)) (hw _ (List.mem_of_getElem? (i := 31) rfl)) (hw _ (List.mem_of_getElem? (i := 43) rfl)) (by decide) (c_fillI l' Z a0 hw lc (0 : Int32) h0 n0 64 f9 (by decide) g_lc A_lc) (argsL := [(.ref lc), (.int (0 : Int32))]) (r := []) rfl (lenOf pd_4 rfl) rfl (Nat.le_of_eq rfl) (by decide) (by decide) (by decide) (by decide) (pc' := 8) rfl (fun T36 h36 v36 q36 S => ?_)
  obtain ⟨rfl, K36, B_lc⟩ := q36
  have Kp := Kp.trans K36 (allS (Or.inl (List.mem_of_getElem? (i := 4) rfl)) all0)
  have X_o := X_o.keep K36
  have F_m_aSymbols_o := F_m_aSymbols_o.keep K36 (ninS ne_o_lc nin0)
  have F_m_aCodes_o := F_m_aCodes_o.keep K36 (ninS ne_o_lc nin0)
  have F_m_aLengths_o := F_m_aLengths_o.keep K36 (ninS ne_o_lc nin0)
  have F_m_aLengthCounts_o := F_m_aLengthCounts_o.keep K36 (ninS ne_o_lc nin0)
  have F_m_aFirstCodes_o := F_m_aFirstCodes_o.keep K36 (ninS ne_o_lc nin0)
  have F_m_aFirstSymbols_o := F_m_aFirstSymbols_o.keep K36 (ninS ne_o_lc nin0)
  have F_m_nLongest_o := F_m_nLongest_o.keep K36 (ninS ne_o_lc nin0)
  have F_m_nValues_o := F_m_nValues_o.keep K36 (ninS ne_o_lc nin0)
  have F_m_bPacked_o := F_m_bPacked_o.keep K36 (ninS ne_o_lc nin0)
  have A_sy := A_sy.keep K36 (ninS ne_sy_lc nin0)
  have A_co := A_co.keep K36 (ninS ne_co_lc nin0)
  have A_le := A_le.keep K36 (ninS ne_le_lc nin0)
  have A_fa := A_fa.keep K36 (ninS (Ne.symm ne_lc_fa) nin0)
  have A_fb := A_fb.keep K36 (ninS (Ne.symm ne_lc_fb) nin0)
  have A_a2 := A_a2.keep K36 (ninS ne_a2_lc nin0)
  have A_a4 := A_a4.keep K36 (ninS ne_a4_lc nin0)
  have A_lc := B_lc
  show Gl p e below s _ n0 _ T36 (mkF m 8 #[.val (.ref o), .val (.ref a2), .val (.int (Int32.ofNat n)), .val (.ref a4), .unset] [])
  refine g_aloadN C S dfl_8 (pc' := 9) rfl rfl rfl ?_
  refine g_iloadN C S dfl_9 (pc' := 10) rfl rfl ?_
  refine g_aloadN C S dfl_10 (pc' := 11) rfl rfl rfl ?_
  refine g_aloadN C S dfl_11 (pc' := 12) rfl rfl rfl ?_
  refine g_getF C S dfl_12 (host := "") (Or.inl (hw _ (List.mem_of_getElem? (i := 23) rfl))) Via.refl F_m_aLengthCounts_o (pc' := 15) rfl (fun T37 S => ?_)
  refine g_callS C S (rm := ({ frames := 1, cells := 0, slots := 0, locals := 18 } : Room)) (W := 0) dfl_15 (hw _ (List.mem_of_getElem? (i := 44) rfl)) (hw _ (List.mem_of_getElem? (i := 45) rfl)) (hw _ (List.mem_of_getElem? (i := 9) rfl)) (hw _ (List.mem_of_getElem? (i := 46) rfl)) (by decide) (c_cnt l' Z a0 hw a2 a4 lc h36 n0 l V n N1 N3 fv fl hg hN1 hN3 hV hA hfv hfl g_lc ne_a2_lc ne_a4_lc A_a2 A_a4 A_lc) (argsL := [(.ref a2), (.int (Int32.ofNat n)), (.ref a4), (.ref lc)]) (r := []) rfl (lenOf pd_5 rfl) rfl (Nat.le_of_eq rfl) (by decide) (by decide) (by decide) (by decide) (pc' := 18) rfl (fun T38 h38 v38 q38 S => ?_)
  obtain ⟨rfl, K38, B_lc⟩ := q38
  have Kp := Kp.trans K38 (allS (Or.inl (List.mem_of_getElem? (i := 4) rfl)) all0)
  have X_o := X_o.keep K38
  have F_m_aSymbols_o := F_m_aSymbols_o.keep K38 (ninS ne_o_lc nin0)
  have F_m_aCodes_o := F_m_aCodes_o.keep K38 (ninS ne_o_lc nin0)
  have F_m_aLengths_o := F_m_aLengths_o.keep K38 (ninS ne_o_lc nin0)
  have F_m_aLengthCounts_o := F_m_aLengthCounts_o.keep K38 (ninS ne_o_lc nin0)
  have F_m_aFirstCodes_o := F_m_aFirstCodes_o.keep K38 (ninS ne_o_lc nin0)
  have F_m_aFirstSymbols_o := F_m_aFirstSymbols_o.keep K38 (ninS ne_o_lc nin0)
  have F_m_nLongest_o := F_m_nLongest_o.keep K38 (ninS ne_o_lc nin0)
  have F_m_nValues_o := F_m_nValues_o.keep K38 (ninS ne_o_lc nin0)
  have F_m_bPacked_o := F_m_bPacked_o.keep K38 (ninS ne_o_lc nin0)
  have A_sy := A_sy.keep K38 (ninS ne_sy_lc nin0)
  have A_co := A_co.keep K38 (ninS ne_co_lc nin0)
  have A_le := A_le.keep K38 (ninS ne_le_lc nin0)
  have A_fa := A_fa.keep K38 (ninS (Ne.symm ne_lc_fa) nin0)
  have A_fb := A_fb.keep K38 (ninS (Ne.symm ne_lc_fb) nin0)
  have A_a2 := A_a2.keep K38 (ninS ne_a2_lc nin0)
  have A_a4 := A_a4.keep K38 (ninS ne_a4_lc nin0)
  have A_lc := B_lc
  show Gl p e below s _ n0 _ T38 (mkF m 18 #[.val (.ref o), .val (.ref a2), .val (.int (Int32.ofNat n)), .val (.ref a4), .unset] [(.int (Int32.ofNat (hLng l n)))])
  refine g_istore C S dfl_18 (pc' := 20) rfl (L' := #[.val (.ref o), .val (.ref a2), .val (.int (Int32.ofNat n)), .val (.ref a4), .val (.int (Int32.ofNat (hLng l n)))]) rfl ?_
  refine g_aloadN C S dfl_20 (pc' := 21) rfl rfl rfl ?_
  refine g_callP C S (rm := ({ frames := 0, cells := 0, slots := 0, locals := 0 } : Room)) (W := 0) dfl_21 (hw _ (List.mem_of_getElem? (i := 54) rfl)) (hw _ (List.mem_of_getElem? (i := 55) rfl)) (hw _ (List.mem_of_getElem? (i := 56) rfl)) (hw _ (List.mem_of_getElem? (i := 8) rfl)) (hw _ (List.mem_of_getElem? (i := 9) rfl)) (hw _ (List.mem_of_getElem? (i := 57) rfl)) (by decide) X_o (c_fgt l' Z a0 hw o h38 n0 F_m_nValues_o) (argsL := []) (r := []) rfl (lenOf pd_6 rfl) rfl (Nat.le_of_eq rfl) (by decide) (by decide) (by decide) (by decide) (pc' := 24) rfl (fun T39 h39 v39 q39 S => ?_)
  obtain ⟨rfl, e39⟩ := q39; rw [e39] at S
  show Gl p e below s _ n0 _ T39 (mkF m 24 #[.val (.ref o), .val (.ref a2), .val (.int (Int32.ofNat n)), .val (.ref a4), .val (.int (Int32.ofNat (hLng l n)))] [])
  refine g_aloadN C S dfl_24 (pc' := 25) rfl rfl rfl ?_
  refine g_aloadN C S dfl_25 (pc' := 26) rfl rfl rfl ?_
  refine g_iloadN C S dfl_26 (pc' := 27) rfl rfl ?_
  refine g_aloadN C S dfl_27 (pc' := 28) rfl rfl rfl ?_
  refine g_iload C S dfl_28 (pc' := 30) rfl rfl ?_
  refine g_callP C S (rm := ({ frames := 1, cells := 0, slots := 0, locals := 22 } : Room)) (W := 0) dfl_30 (hw _ (List.mem_of_getElem? (i := 60) rfl)) (hw _ (List.mem_of_getElem? (i := 61) rfl)) (hw _ (List.mem_of_getElem? (i := 62) rfl)) (hw _ (List.mem_of_getElem? (i := 8) rfl)) (hw _ (List.mem_of_getElem? (i := 9) rfl)) (hw _ (List.mem_of_getElem? (i := 63) rfl)) (by decide) X_o (c_plc l' Z a0 hw o a2 a4 h38 n0 l V n N1 N3 fv fl hg hN1 hN3 hV hA hfv hfl sy co le lc fa fb (hLng l n) rfl f6 f7 f8 _ _ _ g_o g_sy g_co g_le g_lc g_fa g_fb hD X_o F_m_aSymbols_o F_m_aCodes_o F_m_aLengths_o F_m_aLengthCounts_o F_m_aFirstCodes_o F_m_aFirstSymbols_o F_m_nLongest_o F_m_nValues_o F_m_bPacked_o A_a2 A_a4 A_lc A_fa A_fb A_sy A_co A_le) (argsL := [(.ref a2), (.int (Int32.ofNat n)), (.ref a4), (.int (Int32.ofNat (hLng l n)))]) (r := []) rfl (lenOf pd_7 rfl) rfl (Nat.le_of_eq rfl) (by decide) (by decide) (by decide) (by decide) (pc' := 33) rfl (fun T40 h40 v40 q40 S => ?_)
  obtain ⟨rfl, K40, Y_o, G_m_aCodes_o, G_m_aLengths_o, G_m_bPacked_o, B_co, B_le⟩ := q40
  have Kp := Kp.trans K40 (allS (Or.inl (List.mem_of_getElem? (i := 0) rfl)) (allS (Or.inl (List.mem_of_getElem? (i := 1) rfl)) (allS (Or.inl (List.mem_of_getElem? (i := 2) rfl)) (allS (Or.inl (List.mem_of_getElem? (i := 3) rfl)) (allS (Or.inl (List.mem_of_getElem? (i := 5) rfl)) (allS (Or.inl (List.mem_of_getElem? (i := 6) rfl)) all0))))))
  show Gl p e below s _ n0 _ T40 (mkF m 33 #[.val (.ref o), .val (.ref a2), .val (.int (Int32.ofNat n)), .val (.ref a4), .val (.int (Int32.ofNat (hLng l n)))] [])
  exact g_return C S dfl_33 (by decide) (by decide) (⟨rfl, Kp, Y_o, G_m_aCodes_o, G_m_aLengths_o, G_m_bPacked_o, B_co, B_le⟩)
theorem pd_8 : parseMethodDescriptor "([BIIB)V" = some ⟨[(.array .byte), .int, .int, .byte], none⟩ := by decide +kernel
theorem din_0 : decode prog_31_method_2_code 0 = .ok (.aload_n 0, 1) := by decide +kernel
theorem din_1 : decode prog_31_method_2_code 1 = .ok (.invokespecial 11, 3) := by decide +kernel
theorem din_4 : decode prog_31_method_2_code 4 = .ok (.aload_n 0, 1) := by decide +kernel
theorem din_5 : decode prog_31_method_2_code 5 = .ok (.sipush 256, 3) := by decide +kernel
theorem din_8 : decode prog_31_method_2_code 8 = .ok (.newarray .int, 2) := by decide +kernel
theorem din_10 : decode prog_31_method_2_code 10 = .ok (.putfield 14, 3) := by decide +kernel
theorem din_13 : decode prog_31_method_2_code 13 = .ok (.aload_n 0, 1) := by decide +kernel
theorem din_14 : decode prog_31_method_2_code 14 = .ok (.sipush 256, 3) := by decide +kernel
theorem din_17 : decode prog_31_method_2_code 17 = .ok (.newarray .long, 2) := by decide +kernel
theorem din_19 : decode prog_31_method_2_code 19 = .ok (.putfield 18, 3) := by decide +kernel
theorem din_22 : decode prog_31_method_2_code 22 = .ok (.aload_n 0, 1) := by decide +kernel
theorem din_23 : decode prog_31_method_2_code 23 = .ok (.sipush 264, 3) := by decide +kernel
theorem din_26 : decode prog_31_method_2_code 26 = .ok (.newarray .byte, 2) := by decide +kernel
theorem din_28 : decode prog_31_method_2_code 28 = .ok (.putfield 24, 3) := by decide +kernel
theorem din_31 : decode prog_31_method_2_code 31 = .ok (.aload_n 0, 1) := by decide +kernel
theorem din_32 : decode prog_31_method_2_code 32 = .ok (.bipush 64, 2) := by decide +kernel
theorem din_34 : decode prog_31_method_2_code 34 = .ok (.newarray .int, 2) := by decide +kernel
theorem din_36 : decode prog_31_method_2_code 36 = .ok (.putfield 28, 3) := by decide +kernel
theorem din_39 : decode prog_31_method_2_code 39 = .ok (.aload_n 0, 1) := by decide +kernel
theorem din_40 : decode prog_31_method_2_code 40 = .ok (.bipush 64, 2) := by decide +kernel
theorem din_42 : decode prog_31_method_2_code 42 = .ok (.newarray .long, 2) := by decide +kernel
theorem din_44 : decode prog_31_method_2_code 44 = .ok (.putfield 31, 3) := by decide +kernel
theorem din_47 : decode prog_31_method_2_code 47 = .ok (.aload_n 0, 1) := by decide +kernel
theorem din_48 : decode prog_31_method_2_code 48 = .ok (.bipush 64, 2) := by decide +kernel
theorem din_50 : decode prog_31_method_2_code 50 = .ok (.newarray .int, 2) := by decide +kernel
theorem din_52 : decode prog_31_method_2_code 52 = .ok (.putfield 34, 3) := by decide +kernel
theorem din_55 : decode prog_31_method_2_code 55 = .ok (.aload_n 0, 1) := by decide +kernel
theorem din_56 : decode prog_31_method_2_code 56 = .ok (.getfield 24, 3) := by decide +kernel
theorem din_59 : decode prog_31_method_2_code 59 = .ok (.sipush 256, 3) := by decide +kernel
theorem din_62 : decode prog_31_method_2_code 62 = .ok (.aload_n 0, 1) := by decide +kernel
theorem din_63 : decode prog_31_method_2_code 63 = .ok (.getfield 24, 3) := by decide +kernel
theorem din_66 : decode prog_31_method_2_code 66 = .ok (.arraylength, 1) := by decide +kernel
theorem din_67 : decode prog_31_method_2_code 67 = .ok (.iconst (-1), 1) := by decide +kernel
theorem din_68 : decode prog_31_method_2_code 68 = .ok (.invokestatic 37, 3) := by decide +kernel
theorem din_71 : decode prog_31_method_2_code 71 = .ok (.return_, 1) := by decide +kernel
set_option maxRecDepth 65536 in
set_option maxHeartbeats 40000000 in
theorem c_ini (l' : Launch) (Z : State) (a0 : Array Value) (hw : ∀ d ∈ tables_1, d.before a0 Z = true) (o : Addr) (h0 : Heap) (n0 : Nat) (Zn : n0 ≤ h0.size) (g_o : n0 ≤ o) (X_o : Exa Z h0 o "leafpress/HuffmanCode") (F_m_aSymbols_o : Fld Z h0 o "leafpress/HuffmanCode" "m_aSymbols" "[I" .null) (F_m_aCodes_o : Fld Z h0 o "leafpress/HuffmanCode" "m_aCodes" "[J" .null) (F_m_aLengths_o : Fld Z h0 o "leafpress/HuffmanCode" "m_aLengths" "[B" .null) (F_m_aLengthCounts_o : Fld Z h0 o "leafpress/HuffmanCode" "m_aLengthCounts" "[I" .null) (F_m_aFirstCodes_o : Fld Z h0 o "leafpress/HuffmanCode" "m_aFirstCodes" "[J" .null) (F_m_aFirstSymbols_o : Fld Z h0 o "leafpress/HuffmanCode" "m_aFirstSymbols" "[I" .null) (F_m_nLongest_o : Fld Z h0 o "leafpress/HuffmanCode" "m_nLongest" "I" (.int (0 : Int32))) (F_m_nValues_o : Fld Z h0 o "leafpress/HuffmanCode" "m_nValues" "I" (.int (0 : Int32))) (F_m_bPacked_o : Fld Z h0 o "leafpress/HuffmanCode" "m_bPacked" "Z" (.int (0 : Int32))) :
    Con l' Z (⟨"leafpress/HuffmanCode", "<init>", "()V"⟩ : MethodName) prog_31_method_2_code 1 none ({ frames := 2, cells := 6, slots := 968, locals := 30 } : Room) #[(.ref o)] h0 n0 (fun v h => ∃ sy co le lc fa fb : Addr, v = none ∧ Keep h0 h [o] ∧ Exa Z h o "leafpress/HuffmanCode" ∧ Fld Z h o "leafpress/HuffmanCode" "m_aSymbols" "[I" (.ref sy) ∧ Fld Z h o "leafpress/HuffmanCode" "m_aCodes" "[J" (.ref co) ∧ Fld Z h o "leafpress/HuffmanCode" "m_aLengths" "[B" (.ref le) ∧ Fld Z h o "leafpress/HuffmanCode" "m_aLengthCounts" "[I" (.ref lc) ∧ Fld Z h o "leafpress/HuffmanCode" "m_aFirstCodes" "[J" (.ref fa) ∧ Fld Z h o "leafpress/HuffmanCode" "m_aFirstSymbols" "[I" (.ref fb) ∧ Fld Z h o "leafpress/HuffmanCode" "m_nLongest" "I" (.int (0 : Int32)) ∧ Fld Z h o "leafpress/HuffmanCode" "m_nValues" "I" (.int (0 : Int32)) ∧ Fld Z h o "leafpress/HuffmanCode" "m_bPacked" "Z" (.int (0 : Int32)) ∧ Ary Z h sy .int 256 (fun _ => .int 0) ∧ Ary Z h co .long 256 (fun _ => .long 0) ∧ Ary Z h le .byte 264 (fun q => if 256 ≤ q then .int (-1) else .int 0) ∧ Ary Z h lc .int 64 (fun _ => .int 0) ∧ Ary Z h fa .long 64 (fun _ => .long 0) ∧ Ary Z h fb .int 64 (fun _ => .int 0) ∧ h0.size ≤ sy ∧ sy < co ∧ co < le ∧ le < lc ∧ lc < fa ∧ fa < fb ∧ fb < h.size ∧ n0 ≤ sy ∧ n0 ≤ co ∧ n0 ≤ le ∧ n0 ≤ lc ∧ n0 ≤ fa ∧ n0 ≤ fb) := by
  refine Con.of (plainFor_of_name (by first | (simp [plainName, overriddenIn]; done) | decide +kernel)) (L0 := #[.val (.ref o)]) (fun m => by first | (simp [entryFrame, mkF, argsToLocals, Value.category]; done) | rfl) ?_
  intro p e s m below meth c T C S
  have Kp := Keep.refl h0 [o]
  refine g_aloadN C S din_0 (pc' := 1) rfl rfl rfl ?_
  refine g_initO C S (W := 0) din_1 (hw _ (List.mem_of_getElem? (i := 13) rfl)) (hw _ (List.mem_of_getElem? (i := 14) rfl)) (hw _ (List.mem_of_getElem? (i := 15) rfl)) rfl (by decide) (Nat.le_of_eq rfl) (by decide) (pc' := 4) rfl (fun T41 S => ?_)
  refine g_aloadN C S din_4 (pc' := 5) rfl rfl rfl ?_
  refine g_sipush C S (256 : Int32) din_5 (pc' := 8) rfl rfl ?_
  refine g_newarray C S (N := 256) (cap := 256) din_8 (hw _ (List.mem_of_getElem? (i := 5) rfl)) (by decide) (by decide) (by decide) (by decide) (by decide) (pc' := 10) rfl (fun T42 h42 a42 S g42 E42 A_a42 => ?_)
  have ne_o_a42 : o ≠ a42 := ne_new g42 X_o.lt
  have sz_a42 : h0.size ≤ a42 := ge_of g42 Kp.1
  have ge_a42 : n0 ≤ a42 := ge_of g42 Zn
  have Kp := Kp.ext E42
  have X_o := X_o.ext E42
  have Zn := Nat.le_trans Zn E42.1
  have F_m_aSymbols_o := F_m_aSymbols_o.ext E42
  have F_m_aCodes_o := F_m_aCodes_o.ext E42
  have F_m_aLengths_o := F_m_aLengths_o.ext E42
  have F_m_aLengthCounts_o := F_m_aLengthCounts_o.ext E42
  have F_m_aFirstCodes_o := F_m_aFirstCodes_o.ext E42
  have F_m_aFirstSymbols_o := F_m_aFirstSymbols_o.ext E42
  have F_m_nLongest_o := F_m_nLongest_o.ext E42
  have F_m_nValues_o := F_m_nValues_o.ext E42
  have F_m_bPacked_o := F_m_bPacked_o.ext E42
  have A_a42 : Ary Z h42 a42 .int 256 (fun _ => (.int (0 : Int32))) := A_a42
  refine g_putF C S din_10 (host := "") (Or.inl (hw _ (List.mem_of_getElem? (i := 16) rfl))) Via.refl F_m_aSymbols_o X_o (Or.inr ⟨(hw _ (List.mem_of_getElem? (i := 17) rfl)), rfl, rfl⟩) (hw _ (List.mem_of_getElem? (i := 8) rfl)) (ty := (.array .int)) (by decide) rfl rfl g_o (pc' := 13) rfl (fun T43 h43 S W43 => ?_)
  have X_o := X_o.wr W43
  have Zn := Nat.le_trans Zn (Nat.le_of_eq W43.size.symm)
  have F_m_aSymbols_o := F_m_aSymbols_o.same W43
  have F_m_aCodes_o := F_m_aCodes_o.other W43 (Or.inr (slot_ne (a0 := a0) (t := (.array .long)) (t' := (.array .int)) (Or.inr (hw _ (List.mem_of_getElem? (i := 19) rfl))) (Or.inr (hw _ (List.mem_of_getElem? (i := 17) rfl))) (by decide) (by decide) (by decide)))
  have F_m_aLengths_o := F_m_aLengths_o.other W43 (Or.inr (slot_ne (a0 := a0) (t := (.array .byte)) (t' := (.array .int)) (Or.inr (hw _ (List.mem_of_getElem? (i := 22) rfl))) (Or.inr (hw _ (List.mem_of_getElem? (i := 17) rfl))) (by decide) (by decide) (by decide)))
  have F_m_aLengthCounts_o := F_m_aLengthCounts_o.other W43 (Or.inr (slot_ne (a0 := a0) (t := (.array .int)) (t' := (.array .int)) (Or.inr (hw _ (List.mem_of_getElem? (i := 24) rfl))) (Or.inr (hw _ (List.mem_of_getElem? (i := 17) rfl))) (by decide) (by decide) (by decide)))
  have F_m_aFirstCodes_o := F_m_aFirstCodes_o.other W43 (Or.inr (slot_ne (a0 := a0) (t := (.array .long)) (t' := (.array .int)) (Or.inr (hw _ (List.mem_of_getElem? (i := 26) rfl))) (Or.inr (hw _ (List.mem_of_getElem? (i := 17) rfl))) (by decide) (by decide) (by decide)))
  have F_m_aFirstSymbols_o := F_m_aFirstSymbols_o.other W43 (Or.inr (slot_ne (a0 := a0) (t := (.array .int)) (t' := (.array .int)) (Or.inr (hw _ (List.mem_of_getElem? (i := 28) rfl))) (Or.inr (hw _ (List.mem_of_getElem? (i := 17) rfl))) (by decide) (by decide) (by decide)))
  have F_m_nLongest_o := F_m_nLongest_o.other W43 (Or.inr (slot_ne (a0 := a0) (t := .int) (t' := (.array .int)) (Or.inl (hw _ (List.mem_of_getElem? (i := 68) rfl))) (Or.inr (hw _ (List.mem_of_getElem? (i := 17) rfl))) (by decide) (by decide) (by decide)))
  have F_m_nValues_o := F_m_nValues_o.other W43 (Or.inr (slot_ne (a0 := a0) (t := .int) (t' := (.array .int)) (Or.inl (hw _ (List.mem_of_getElem? (i := 59) rfl))) (Or.inr (hw _ (List.mem_of_getElem? (i := 17) rfl))) (by decide) (by decide) (by decide)))
  have F_m_bPacked_o := F_m_bPacked_o.other W43 (Or.inr (slot_ne (a0 := a0) (t := .boolean) (t' := (.array .int)) (Or.inl (hw _ (List.mem_of_getElem? (i := 70) rfl))) (Or.inr (hw _ (List.mem_of_getElem? (i := 17) rfl))) (by decide) (by decide) (by decide)))
  have A_a42 := A_a42.other W43 (Ne.symm ne_o_a42)
  have Kp := Kp.wr W43 (Or.inl (List.mem_of_getElem? (i := 0) rfl))
  refine g_aloadN C S din_13 (pc' := 14) rfl rfl rfl ?_
  refine g_sipush C S (256 : Int32) din_14 (pc' := 17) rfl rfl ?_
  refine g_newarray C S (N := 256) (cap := 256) din_17 (hw _ (List.mem_of_getElem? (i := 6) rfl)) (by decide) (by decide) (by decide) (by decide) (by decide) (pc' := 19) rfl (fun T44 h44 a44 S g44 E44 A_a44 => ?_)
  have ne_o_a44 : o ≠ a44 := ne_new g44 X_o.lt
  have ne_a42_a44 : a42 ≠ a44 := ne_new g44 A_a42.lt
  have sz_a44 : h0.size ≤ a44 := ge_of g44 Kp.1
  have lt_a42_a44 : a42 < a44 := Nat.lt_of_lt_of_le A_a42.lt (Nat.le_of_eq g44.symm)
  have ge_a44 : n0 ≤ a44 := ge_of g44 Zn
  have Kp := Kp.ext E44
  have X_o := X_o.ext E44
  have Zn := Nat.le_trans Zn E44.1
  have F_m_aSymbols_o := F_m_aSymbols_o.ext E44
  have F_m_aCodes_o := F_m_aCodes_o.ext E44
  have F_m_aLengths_o := F_m_aLengths_o.ext E44
  have F_m_aLengthCounts_o := F_m_aLengthCounts_o.ext E44
  have F_m_aFirstCodes_o := F_m_aFirstCodes_o.ext E44
  have F_m_aFirstSymbols_o := F_m_aFirstSymbols_o.ext E44
  have F_m_nLongest_o := F_m_nLongest_o.ext E44
  have F_m_nValues_o := F_m_nValues_o.ext E44
  have F_m_bPacked_o := F_m_bPacked_o.ext E44
  have A_a42 := A_a42.ext E44
  have A_a44 : Ary Z h44 a44 .long 256 (fun _ => (.long (0 : Int64))) := A_a44
  refine g_putF C S din_19 (host := "") (Or.inl (hw _ (List.mem_of_getElem? (i := 18) rfl))) Via.refl F_m_aCodes_o X_o (Or.inr ⟨(hw _ (List.mem_of_getElem? (i := 19) rfl)), rfl, rfl⟩) (hw _ (List.mem_of_getElem? (i := 8) rfl)) (ty := (.array .long)) (by decide) rfl rfl g_o (pc' := 22) rfl (fun T45 h45 S W45 => ?_)
  have X_o := X_o.wr W45
  have Zn := Nat.le_trans Zn (Nat.le_of_eq W45.size.symm)
  have F_m_aSymbols_o := F_m_aSymbols_o.other W45 (Or.inr (slot_ne (a0 := a0) (t := (.array .int)) (t' := (.array .long)) (Or.inr (hw _ (List.mem_of_getElem? (i := 17) rfl))) (Or.inr (hw _ (List.mem_of_getElem? (i := 19) rfl))) (by decide) (by decide) (by decide)))
  have F_m_aCodes_o := F_m_aCodes_o.same W45
  have F_m_aLengths_o := F_m_aLengths_o.other W45 (Or.inr (slot_ne (a0 := a0) (t := (.array .byte)) (t' := (.array .long)) (Or.inr (hw _ (List.mem_of_getElem? (i := 22) rfl))) (Or.inr (hw _ (List.mem_of_getElem? (i := 19) rfl))) (by decide) (by decide) (by decide)))
  have F_m_aLengthCounts_o := F_m_aLengthCounts_o.other W45 (Or.inr (slot_ne (a0 := a0) (t := (.array .int)) (t' := (.array .long)) (Or.inr (hw _ (List.mem_of_getElem? (i := 24) rfl))) (Or.inr (hw _ (List.mem_of_getElem? (i := 19) rfl))) (by decide) (by decide) (by decide)))
  have F_m_aFirstCodes_o := F_m_aFirstCodes_o.other W45 (Or.inr (slot_ne (a0 := a0) (t := (.array .long)) (t' := (.array .long)) (Or.inr (hw _ (List.mem_of_getElem? (i := 26) rfl))) (Or.inr (hw _ (List.mem_of_getElem? (i := 19) rfl))) (by decide) (by decide) (by decide)))
  have F_m_aFirstSymbols_o := F_m_aFirstSymbols_o.other W45 (Or.inr (slot_ne (a0 := a0) (t := (.array .int)) (t' := (.array .long)) (Or.inr (hw _ (List.mem_of_getElem? (i := 28) rfl))) (Or.inr (hw _ (List.mem_of_getElem? (i := 19) rfl))) (by decide) (by decide) (by decide)))
  have F_m_nLongest_o := F_m_nLongest_o.other W45 (Or.inr (slot_ne (a0 := a0) (t := .int) (t' := (.array .long)) (Or.inl (hw _ (List.mem_of_getElem? (i := 68) rfl))) (Or.inr (hw _ (List.mem_of_getElem? (i := 19) rfl))) (by decide) (by decide) (by decide)))
  have F_m_nValues_o := F_m_nValues_o.other W45 (Or.inr (slot_ne (a0 := a0) (t := .int) (t' := (.array .long)) (Or.inl (hw _ (List.mem_of_getElem? (i := 59) rfl))) (Or.inr (hw _ (List.mem_of_getElem? (i := 19) rfl))) (by decide) (by decide) (by decide)))
  have F_m_bPacked_o := F_m_bPacked_o.other W45 (Or.inr (slot_ne (a0 := a0) (t := .boolean) (t' := (.array .long)) (Or.inl (hw _ (List.mem_of_getElem? (i := 70) rfl))) (Or.inr (hw _ (List.mem_of_getElem? (i := 19) rfl))) (by decide) (by decide) (by decide)))
  have A_a42 := A_a42.other W45 (Ne.symm ne_o_a42)
  have A_a44 := A_a44.other W45 (Ne.symm ne_o_a44)
  have Kp := Kp.wr W45 (Or.inl (List.mem_of_getElem? (i := 0) rfl))
  refine g_aloadN C S din_22 (pc' := 23) rfl rfl rfl ?_
  refine g_sipush C S (264 : Int32) din_23 (pc' := 26) rfl rfl ?_
  refine g_newarray C S (N := 264) (cap := 264) din_26 (hw _ (List.mem_of_getElem? (i := 20) rfl)) (by decide) (by decide) (by decide) (by decide) (by decide) (pc' := 28) rfl (fun T46 h46 a46 S g46 E46 A_a46 => ?_)
  have ne_o_a46 : o ≠ a46 := ne_new g46 X_o.lt
  have ne_a42_a46 : a42 ≠ a46 := ne_new g46 A_a42.lt
  have ne_a44_a46 : a44 ≠ a46 := ne_new g46 A_a44.lt
  have sz_a46 : h0.size ≤ a46 := ge_of g46 Kp.1
  have lt_a44_a46 : a44 < a46 := Nat.lt_of_lt_of_le A_a44.lt (Nat.le_of_eq g46.symm)
  have ge_a46 : n0 ≤ a46 := ge_of g46 Zn
  have Kp := Kp.ext E46
  have X_o := X_o.ext E46
  have Zn := Nat.le_trans Zn E46.1
  have F_m_aSymbols_o := F_m_aSymbols_o.ext E46
  have F_m_aCodes_o := F_m_aCodes_o.ext E46
  have F_m_aLengths_o := F_m_aLengths_o.ext E46
  have F_m_aLengthCounts_o := F_m_aLengthCounts_o.ext E46
  have F_m_aFirstCodes_o := F_m_aFirstCodes_o.ext E46
  have F_m_aFirstSymbols_o := F_m_aFirstSymbols_o.ext E46
  have F_m_nLongest_o := F_m_nLongest_o.ext E46
  have F_m_nValues_o := F_m_nValues_o.ext E46
  have F_m_bPacked_o := F_m_bPacked_o.ext E46
  have A_a42 := A_a42.ext E46
  have A_a44 := A_a44.ext E46
  have A_a46 : Ary Z h46 a46 .byte 264 (fun _ => (.int (0 : Int32))) := A_a46
  refine g_putF C S din_28 (host := "") (Or.inl (hw _ (List.mem_of_getElem? (i := 21) rfl))) Via.refl F_m_aLengths_o X_o (Or.inr ⟨(hw _ (List.mem_of_getElem? (i := 22) rfl)), rfl, rfl⟩) (hw _ (List.mem_of_getElem? (i := 8) rfl)) (ty := (.array .byte)) (by decide) rfl rfl g_o (pc' := 31) rfl (fun T47 h47 S W47 => ?_)
  have X_o := X_o.wr W47
  have Zn := Nat.le_trans Zn (Nat.le_of_eq W47.size.symm)
  have F_m_aSymbols_o := F_m_aSymbols_o.other W47 (Or.inr (slot_ne (a0 := a0) (t := (.array .int)) (t' := (.array .byte)) (Or.inr (hw _ (List.mem_of_getElem? (i := 17) rfl))) (Or.inr (hw _ (List.mem_of_getElem? (i := 22) rfl))) (by decide) (by decide) (by decide)))
  have F_m_aCodes_o := F_m_aCodes_o.other W47 (Or.inr (slot_ne (a0 := a0) (t := (.array .long)) (t' := (.array .byte)) (Or.inr (hw _ (List.mem_of_getElem? (i := 19) rfl))) (Or.inr (hw _ (List.mem_of_getElem? (i := 22) rfl))) (by decide) (by decide) (by decide)))
  have F_m_aLengths_o := F_m_aLengths_o.same W47
  have F_m_aLengthCounts_o := F_m_aLengthCounts_o.other W47 (Or.inr (slot_ne (a0 := a0) (t := (.array .int)) (t' := (.array .byte)) (Or.inr (hw _ (List.mem_of_getElem? (i := 24) rfl))) (Or.inr (hw _ (List.mem_of_getElem? (i := 22) rfl))) (by decide) (by decide) (by decide)))
  have F_m_aFirstCodes_o := F_m_aFirstCodes_o.other W47 (Or.inr (slot_ne (a0 := a0) (t := (.array .long)) (t' := (.array .byte)) (Or.inr (hw _ (List.mem_of_getElem? (i := 26) rfl))) (Or.inr (hw _ (List.mem_of_getElem? (i := 22) rfl))) (by decide) (by decide) (by decide)))
  have F_m_aFirstSymbols_o := F_m_aFirstSymbols_o.other W47 (Or.inr (slot_ne (a0 := a0) (t := (.array .int)) (t' := (.array .byte)) (Or.inr (hw _ (List.mem_of_getElem? (i := 28) rfl))) (Or.inr (hw _ (List.mem_of_getElem? (i := 22) rfl))) (by decide) (by decide) (by decide)))
  have F_m_nLongest_o := F_m_nLongest_o.other W47 (Or.inr (slot_ne (a0 := a0) (t := .int) (t' := (.array .byte)) (Or.inl (hw _ (List.mem_of_getElem? (i := 68) rfl))) (Or.inr (hw _ (List.mem_of_getElem? (i := 22) rfl))) (by decide) (by decide) (by decide)))
  have F_m_nValues_o := F_m_nValues_o.other W47 (Or.inr (slot_ne (a0 := a0) (t := .int) (t' := (.array .byte)) (Or.inl (hw _ (List.mem_of_getElem? (i := 59) rfl))) (Or.inr (hw _ (List.mem_of_getElem? (i := 22) rfl))) (by decide) (by decide) (by decide)))
  have F_m_bPacked_o := F_m_bPacked_o.other W47 (Or.inr (slot_ne (a0 := a0) (t := .boolean) (t' := (.array .byte)) (Or.inl (hw _ (List.mem_of_getElem? (i := 70) rfl))) (Or.inr (hw _ (List.mem_of_getElem? (i := 22) rfl))) (by decide) (by decide) (by decide)))
  have A_a42 := A_a42.other W47 (Ne.symm ne_o_a42)
  have A_a44 := A_a44.other W47 (Ne.symm ne_o_a44)
  have A_a46 := A_a46.other W47 (Ne.symm ne_o_a46)
  have Kp := Kp.wr W47 (Or.inl (List.mem_of_getElem? (i := 0) rfl))
  refine g_aloadN C S din_31 (pc' := 32) rfl rfl rfl ?_
  refine g_bipush C S (64 : Int32) din_32 (pc' := 34) rfl rfl ?_
  refine g_newarray C S (N := 64) (cap := 64) din_34 (hw _ (List.mem_of_getElem? (i := 5) rfl)) (by decide) (by decide) (by decide) (by decide) (by decide) (pc' := 36) rfl (fun T48 h48 a48 S g48 E48 A_a48 => ?_)
  have ne_o_a48 : o ≠ a48 := ne_new g48 X_o.lt
  have ne_a42_a48 : a42 ≠ a48 := ne_new g48 A_a42.lt
  have ne_a44_a48 : a44 ≠ a48 := ne_new g48 A_a44.lt
  have ne_a46_a48 : a46 ≠ a48 := ne_new g48 A_a46.lt
  have sz_a48 : h0.size ≤ a48 := ge_of g48 Kp.1
  have lt_a46_a48 : a46 < a48 := Nat.lt_of_lt_of_le A_a46.lt (Nat.le_of_eq g48.symm)
  have ge_a48 : n0 ≤ a48 := ge_of g48 Zn
  have Kp := Kp.ext E48
  have X_o := X_o.ext E48
  have Zn := Nat.le_trans Zn E48.1
  have F_m_aSymbols_o := F_m_aSymbols_o.ext E48
  have F_m_aCodes_o := F_m_aCodes_o.ext E48
  have F_m_aLengths_o := F_m_aLengths_o.ext E48
  have F_m_aLengthCounts_o := F_m_aLengthCounts_o.ext E48
  have F_m_aFirstCodes_o := F_m_aFirstCodes_o.ext E48
  have F_m_aFirstSymbols_o := F_m_aFirstSymbols_o.ext E48
  have F_m_nLongest_o := F_m_nLongest_o.ext E48
  have F_m_nValues_o := F_m_nValues_o.ext E48
  have F_m_bPacked_o := F_m_bPacked_o.ext E48
  have A_a42 := A_a42.ext E48
  have A_a44 := A_a44.ext E48
  have A_a46 := A_a46.ext E48
  have A_a48 : Ary Z h48 a48 .int 64 (fun _ => (.int (0 : Int32))) := A_a48
  refine g_putF C S din_36 (host := "") (Or.inl (hw _ (List.mem_of_getElem? (i := 23) rfl))) Via.refl F_m_aLengthCounts_o X_o (Or.inr ⟨(hw _ (List.mem_of_getElem? (i := 24) rfl)), rfl, rfl⟩) (hw _ (List.mem_of_getElem? (i := 8) rfl)) (ty := (.array .int)) (by decide) rfl rfl g_o (pc' := 39) rfl (fun T49 h49 S W49 => ?_)
  have X_o := X_o.wr W49
  have Zn := Nat.le_trans Zn (Nat.le_of_eq W49.size.symm)
  have F_m_aSymbols_o := F_m_aSymbols_o.other W49 (Or.inr (slot_ne (a0 := a0) (t := (.array .int)) (t' := (.array .int)) (Or.inr (hw _ (List.mem_of_getElem? (i := 17) rfl))) (Or.inr (hw _ (List.mem_of_getElem? (i := 24) rfl))) (by decide) (by decide) (by decide)))
  have F_m_aCodes_o := F_m_aCodes_o.other W49 (Or.inr (slot_ne (a0 := a0) (t := (.array .long)) (t' := (.array .int)) (Or.inr (hw _ (List.mem_of_getElem? (i := 19) rfl))) (Or.inr (hw _ (List.mem_of_getElem? (i := 24) rfl))) (by decide) (by decide) (by decide)))
  have F_m_aLengths_o := F_m_aLengths_o.other W49 (Or.inr (slot_ne (a0 := a0) (t := (.array .byte)) (t' := (.array .int)) (Or.inr (hw _ (List.mem_of_getElem? (i := 22) rfl))) (Or.inr (hw _ (List.mem_of_getElem? (i := 24) rfl))) (by decide) (by decide) (by decide)))
  have F_m_aLengthCounts_o := F_m_aLengthCounts_o.same W49
  have F_m_aFirstCodes_o := F_m_aFirstCodes_o.other W49 (Or.inr (slot_ne (a0 := a0) (t := (.array .long)) (t' := (.array .int)) (Or.inr (hw _ (List.mem_of_getElem? (i := 26) rfl))) (Or.inr (hw _ (List.mem_of_getElem? (i := 24) rfl))) (by decide) (by decide) (by decide)))
  have F_m_aFirstSymbols_o := F_m_aFirstSymbols_o.other W49 (Or.inr (slot_ne (a0 := a0) (t := (.array .int)) (t' := (.array .int)) (Or.inr (hw _ (List.mem_of_getElem? (i := 28) rfl))) (Or.inr (hw _ (List.mem_of_getElem? (i := 24) rfl))) (by decide) (by decide) (by decide)))
  have F_m_nLongest_o := F_m_nLongest_o.other W49 (Or.inr (slot_ne (a0 := a0) (t := .int) (t' := (.array .int)) (Or.inl (hw _ (List.mem_of_getElem? (i := 68) rfl))) (Or.inr (hw _ (List.mem_of_getElem? (i := 24) rfl))) (by decide) (by decide) (by decide)))
  have F_m_nValues_o := F_m_nValues_o.other W49 (Or.inr (slot_ne (a0 := a0) (t := .int) (t' := (.array .int)) (Or.inl (hw _ (List.mem_of_getElem? (i := 59) rfl))) (Or.inr (hw _ (List.mem_of_getElem? (i := 24) rfl))) (by decide) (by decide) (by decide)))
  have F_m_bPacked_o := F_m_bPacked_o.other W49 (Or.inr (slot_ne (a0 := a0) (t := .boolean) (t' := (.array .int)) (Or.inl (hw _ (List.mem_of_getElem? (i := 70) rfl))) (Or.inr (hw _ (List.mem_of_getElem? (i := 24) rfl))) (by decide) (by decide) (by decide)))
  have A_a42 := A_a42.other W49 (Ne.symm ne_o_a42)
  have A_a44 := A_a44.other W49 (Ne.symm ne_o_a44)
  have A_a46 := A_a46.other W49 (Ne.symm ne_o_a46)
  have A_a48 := A_a48.other W49 (Ne.symm ne_o_a48)
  have Kp := Kp.wr W49 (Or.inl (List.mem_of_getElem? (i := 0) rfl))
  refine g_aloadN C S din_39 (pc' := 40) rfl rfl rfl ?_
  refine g_bipush C S (64 : Int32) din_40 (pc' := 42) rfl rfl ?_
  refine g_newarray C S (N := 64) (cap := 64) din_42 (hw _ (List.mem_of_getElem? (i := 6) rfl)) (by decide) (by decide) (by decide) (by decide) (by decide) (pc' := 44) rfl (fun T50 h50 a50 S g50 E50 A_a50 => ?_)
  have ne_o_a50 : o ≠ a50 := ne_new g50 X_o.lt
  have ne_a42_a50 : a42 ≠ a50 := ne_new g50 A_a42.lt
  have ne_a44_a50 : a44 ≠ a50 := ne_new g50 A_a44.lt
  have ne_a46_a50 : a46 ≠ a50 := ne_new g50 A_a46.lt
  have ne_a48_a50 : a48 ≠ a50 := ne_new g50 A_a48.lt
  have sz_a50 : h0.size ≤ a50 := ge_of g50 Kp.1
  have lt_a48_a50 : a48 < a50 := Nat.lt_of_lt_of_le A_a48.lt (Nat.le_of_eq g50.symm)
  have ge_a50 : n0 ≤ a50 := ge_of g50 Zn
  have Kp := Kp.ext E50
  have X_o := X_o.ext E50
  have Zn := Nat.le_trans Zn E50.1
  have F_m_aSymbols_o := F_m_aSymbols_o.ext E50
  have F_m_aCodes_o := F_m_aCodes_o.ext E50
  have F_m_aLengths_o := F_m_aLengths_o.ext E50
  have F_m_aLengthCounts_o := F_m_aLengthCounts_o.ext E50
  have F_m_aFirstCodes_o := F_m_aFirstCodes_o.ext E50
  have F_m_aFirstSymbols_o := F_m_aFirstSymbols_o.ext E50
  have F_m_nLongest_o := F_m_nLongest_o.ext E50
  have F_m_nValues_o := F_m_nValues_o.ext E50
  have F_m_bPacked_o := F_m_bPacked_o.ext E50
  have A_a42 := A_a42.ext E50
  have A_a44 := A_a44.ext E50
  have A_a46 := A_a46.ext E50
  have A_a48 := A_a48.ext E50
  have A_a50 : Ary Z h50 a50 .long 64 (fun _ => (.long (0 : Int64))) := A_a50
  refine g_putF C S din_44 (host := "") (Or.inl (hw _ (List.mem_of_getElem? (i := 25) rfl))) Via.refl F_m_aFirstCodes_o X_o (Or.inr ⟨(hw _ (List.mem_of_getElem? (i := 26) rfl)), rfl, rfl⟩) (hw _ (List.mem_of_getElem? (i := 8) rfl)) (ty := (.array .long)) (by decide) rfl rfl g_o (pc' := 47) rfl (fun T51 h51 S W51 => ?_)
  have X_o := X_o.wr W51
  have Zn := Nat.le_trans Zn (Nat.le_of_eq W51.size.symm)
  have F_m_aSymbols_o := F_m_aSymbols_o.other W51 (Or.inr (slot_ne (a0 := a0) (t := (.array .int)) (t' := (.array .long)) (Or.inr (hw _ (List.mem_of_getElem? (i := 17) rfl))) (Or.inr (hw _ (List.mem_of_getElem? (i := 26) rfl))) (by decide) (by decide) (by decide)))
  have F_m_aCodes_o := F_m_aCodes_o.other W51 (Or.inr (slot_ne (a0 := a0) (t := (.array .long)) (t' := (.array .long)) (Or.inr (hw _ (List.mem_of_getElem? (i := 19) rfl))) (Or.inr (hw _ (List.mem_of_getElem? (i := 26) rfl))) (by decide) (by decide) (by decide)))
  have F_m_aLengths_o := F_m_aLengths_o.other W51 (Or.inr (slot_ne (a0 := a0) (t := (.array .byte)) (t' := (.array .long)) (Or.inr (hw _ (List.mem_of_getElem? (i := 22) rfl))) (Or.inr (hw _ (List.mem_of_getElem? (i := 26) rfl))) (by decide) (by decide) (by decide)))
  have F_m_aLengthCounts_o := F_m_aLengthCounts_o.other W51 (Or.inr (slot_ne (a0 := a0) (t := (.array .int)) (t' := (.array .long)) (Or.inr (hw _ (List.mem_of_getElem? (i := 24) rfl))) (Or.inr (hw _ (List.mem_of_getElem? (i := 26) rfl))) (by decide) (by decide) (by decide)))
  have F_m_aFirstCodes_o := F_m_aFirstCodes_o.same W51
  have F_m_aFirstSymbols_o := F_m_aFirstSymbols_o.other W51 (Or.inr (slot_ne (a0 := a0) (t := (.array .int)) (t' := (.array .long)) (Or.inr (hw _ (List.mem_of_getElem? (i := 28) rfl))) (Or.inr (hw _ (List.mem_of_getElem? (i := 26) rfl))) (by decide) (by decide) (by decide)))
  have F_m_nLongest_o := F_m_nLongest_o.other W51 (Or.inr (slot_ne (a0 := a0) (t := .int) (t' := (.array .long)) (Or.inl (hw _ (List.mem_of_getElem? (i := 68) rfl))) (Or.inr (hw _ (List.mem_of_getElem? (i := 26) rfl))) (by decide) (by decide) (by decide)))
  have F_m_nValues_o := F_m_nValues_o.other W51 (Or.inr (slot_ne (a0 := a0) (t := .int) (t' := (.array .long)) (Or.inl (hw _ (List.mem_of_getElem? (i := 59) rfl))) (Or.inr (hw _ (List.mem_of_getElem? (i := 26) rfl))) (by decide) (by decide) (by decide)))
  have F_m_bPacked_o := F_m_bPacked_o.other W51 (Or.inr (slot_ne (a0 := a0) (t := .boolean) (t' := (.array .long)) (Or.inl (hw _ (List.mem_of_getElem? (i := 70) rfl))) (Or.inr (hw _ (List.mem_of_getElem? (i := 26) rfl))) (by decide) (by decide) (by decide)))
  have A_a42 := A_a42.other W51 (Ne.symm ne_o_a42)
  have A_a44 := A_a44.other W51 (Ne.symm ne_o_a44)
  have A_a46 := A_a46.other W51 (Ne.symm ne_o_a46)
  have A_a48 := A_a48.other W51 (Ne.symm ne_o_a48)
  have A_a50 := A_a50.other W51 (Ne.symm ne_o_a50)
  have Kp := Kp.wr W51 (Or.inl (List.mem_of_getElem? (i := 0) rfl))
  refine g_aloadN C S din_47 (pc' := 48) rfl rfl rfl ?_
  refine g_bipush C S (64 : Int32) din_48 (pc' := 50) rfl rfl ?_
  refine g_newarray C S (N := 64) (cap := 64) din_50 (hw _ (List.mem_of_getElem? (i := 5) rfl)) (by decide) (by decide) (by decide) (by decide) (by decide) (pc' := 52) rfl (fun T52 h52 a52 S g52 E52 A_a52 => ?_)
  have ne_o_a52 : o ≠ a52 := ne_new g52 X_o.lt
  have ne_a42_a52 : a42 ≠ a52 := ne_new g52 A_a42.lt
  have ne_a44_a52 : a44 ≠ a52 := ne_new g52 A_a44.lt
  have ne_a46_a52 : a46 ≠ a52 := ne_new g52 A_a46.lt
  have ne_a48_a52 : a48 ≠ a52 := ne_new g52 A_a48.lt
  have ne_a50_a52 : a50 ≠ a52 := ne_new g52 A_a50.lt
  have sz_a52 : h0.size ≤ a52 := ge_of g52 Kp.1
  have lt_a50_a52 : a50 < a52 := Nat.lt_of_lt_of_le A_a50.lt (Nat.le_of_eq g52.symm)
  have ge_a52 : n0 ≤ a52 := ge_of g52 Zn
  have Kp := Kp.ext E52
  have X_o := X_o.ext E52
  have Zn := Nat.le_trans Zn E52.1
  have F_m_aSymbols_o := F_m_aSymbols_o.ext E52
  have F_m_aCodes_o := F_m_aCodes_o.ext E52
  have F_m_aLengths_o := F_m_aLengths_o.ext E52
  have F_m_aLengthCounts_o := F_m_aLengthCounts_o.ext E52
  have F_m_aFirstCodes_o := F_m_aFirstCodes_o.ext E52
  have F_m_aFirstSymbols_o := F_m_aFirstSymbols_o.ext E52
  have F_m_nLongest_o := F_m_nLongest_o.ext E52
  have F_m_nValues_o := F_m_nValues_o.ext E52
  have F_m_bPacked_o := F_m_bPacked_o.ext E52
  have A_a42 := A_a42.ext E52
  have A_a44 := A_a44.ext E52
  have A_a46 := A_a46.ext E52
  have A_a48 := A_a48.ext E52
  have A_a50 := A_a50.ext E52
  have A_a52 : Ary Z h52 a52 .int 64 (fun _ => (.int (0 : Int32))) := A_a52
  refine g_putF C S din_52 (host := "") (Or.inl (hw _ (List.mem_of_getElem? (i := 27) rfl))) Via.refl F_m_aFirstSymbols_o X_o (Or.inr ⟨(hw _ (List.mem_of_getElem? (i := 28) rfl)), rfl, rfl⟩) (hw _ (List.mem_of_getElem? (i := 8) rfl)) (ty := (.array .int)) (by decide) rfl rfl g_o (pc' := 55) rfl (fun T53 h53 S W53 => ?_)
  have X_o := X_o.wr W53
  have Zn := Nat.le_trans Zn (Nat.le_of_eq W53.size.symm)
  have F_m_aSymbols_o := F_m_aSymbols_o.other W53 (Or.inr (slot_ne (a0 := a0) (t := (.array .int)) (t' := (.array .int)) (Or.inr (hw _ (List.mem_of_getElem? (i := 17) rfl))) (Or.inr (hw _ (List.mem_of_getElem? (i := 28) rfl))) (by decide) (by decide) (by decide)))
  have F_m_aCodes_o := F_m_aCodes_o.other W53 (Or.inr (slot_ne (a0 := a0) (t := (.array .long)) (t' := (.array .int)) (Or.inr (hw _ (List.mem_of_getElem? (i := 19) rfl))) (Or.inr (hw _ (List.mem_of_getElem? (i := 28) rfl))) (by decide) (by decide) (by decide)))
  have F_m_aLengths_o := F_m_aLengths_o.other W53 (Or.inr (slot_ne (a0 := a0) (t := (.array .byte)) (t' := (.array .int)) (Or.inr (hw _ (List.mem_of_getElem? (i := 22) rfl))) (Or.inr (hw _ (List.mem_of_getElem? (i := 28) rfl))) (by decide) (by decide) (by decide)))
  have F_m_aLengthCounts_o := F_m_aLengthCounts_o.other W53 (Or.inr (slot_ne (a0 := a0) (t := (.array .int)) (t' := (.array .int)) (Or.inr (hw _ (List.mem_of_getElem? (i := 24) rfl))) (Or.inr (hw _ (List.mem_of_getElem? (i := 28) rfl))) (by decide) (by decide) (by decide)))
  have F_m_aFirstCodes_o := F_m_aFirstCodes_o.other W53 (Or.inr (slot_ne (a0 := a0) (t := (.array .long)) (t' := (.array .int)) (Or.inr (hw _ (List.mem_of_getElem? (i := 26) rfl))) (Or.inr (hw _ (List.mem_of_getElem? (i := 28) rfl))) (by decide) (by decide) (by decide)))
  have F_m_aFirstSymbols_o := F_m_aFirstSymbols_o.same W53
  have F_m_nLongest_o := F_m_nLongest_o.other W53 (Or.inr (slot_ne (a0 := a0) (t := .int) (t' := (.array .int)) (Or.inl (hw _ (List.mem_of_getElem? (i := 68) rfl))) (Or.inr (hw _ (List.mem_of_getElem? (i := 28) rfl))) (by decide) (by decide) (by decide)))
  have F_m_nValues_o := F_m_nValues_o.other W53 (Or.inr (slot_ne (a0 := a0) (t := .int) (t' := (.array .int)) (Or.inl (hw _ (List.mem_of_getElem? (i := 59) rfl))) (Or.inr (hw _ (List.mem_of_getElem? (i := 28) rfl))) (by decide) (by decide) (by decide)))
  have F_m_bPacked_o := F_m_bPacked_o.other W53 (Or.inr (slot_ne (a0 := a0) (t := .boolean) (t' := (.array .int)) (Or.inl (hw _ (List.mem_of_getElem? (i := 70) rfl))) (Or.inr (hw _ (List.mem_of_getElem? (i := 28) rfl))) (by decide) (by decide) (by decide)))
  have A_a42 := A_a42.other W53 (Ne.symm ne_o_a42)
  have A_a44 := A_a44.other W53 (Ne.symm ne_o_a44)
  have A_a46 := A_a46.other W53 (Ne.symm ne_o_a46)
  have A_a48 := A_a48.other W53 (Ne.symm ne_o_a48)
  have A_a50 := A_a50.other W53 (Ne.symm ne_o_a50)
  have A_a52 := A_a52.other W53 (Ne.symm ne_o_a52)
  have Kp := Kp.wr W53 (Or.inl (List.mem_of_getElem? (i := 0) rfl))
  refine g_aloadN C S din_55 (pc' := 56) rfl rfl rfl ?_
  refine g_getF C S din_56 (host := "") (Or.inl (hw _ (List.mem_of_getElem? (i := 21) rfl))) Via.refl F_m_aLengths_o (pc' := 59) rfl (fun T54 S => ?_)
  refine g_sipush C S (256 : Int32) din_59 (pc' := 62) rfl rfl ?_
  refine g_aloadN C S din_62 (pc' := 63) rfl rfl rfl ?_
  refine g_getF C S din_63 (host := "") (Or.inl (hw _ (List.mem_of_getElem? (i := 21) rfl))) Via.refl F_m_aLengths_o (pc' := 66) rfl (fun T55 S => ?_)
  refine g_arraylength C S (x := (264 : Int32)) din_66 A_a46 (by decide) (pc' := 67) rfl ?_
  refine g_iconst C S (-1 : Int32) din_67 (pc' := 68) rfl rfl ?_
  refine g_callS C S (rm := ({ frames := 1, cells := 0, slots := 0, locals := 14 } : Room)) (W := 0) din_68 (hw _ (List.mem_of_getElem? (i := 29) rfl)) (hw _ (List.mem_of_getElem? (i := 30) rfl)) (hw _ (List.mem_of_getElem? (i := 31) rfl)) (hw _ (List.mem_of_getElem? (i := 32) rfl)) (by decide) (c_fillB l' Z a0 hw a46 h53 n0 ge_a46 A_a46) (argsL := [(.ref a46), (.int (256 : Int32)), (.int (264 : Int32)), (.int (-1 : Int32))]) (r := []) rfl (lenOf pd_8 rfl) rfl (Nat.le_of_eq rfl) (by decide) (by decide) (by decide) (by decide) (pc' := 71) rfl (fun T56 h56 v56 q56 S => ?_)
  obtain ⟨rfl, K56, B_a46⟩ := q56
  have Kp := Kp.trans K56 (allS (Or.inr sz_a46) all0)
  have X_o := X_o.keep K56
  have Zn := Nat.le_trans Zn K56.1
  have F_m_aSymbols_o := F_m_aSymbols_o.keep K56 (ninS ne_o_a46 nin0)
  have F_m_aCodes_o := F_m_aCodes_o.keep K56 (ninS ne_o_a46 nin0)
  have F_m_aLengths_o := F_m_aLengths_o.keep K56 (ninS ne_o_a46 nin0)
  have F_m_aLengthCounts_o := F_m_aLengthCounts_o.keep K56 (ninS ne_o_a46 nin0)
  have F_m_aFirstCodes_o := F_m_aFirstCodes_o.keep K56 (ninS ne_o_a46 nin0)
  have F_m_aFirstSymbols_o := F_m_aFirstSymbols_o.keep K56 (ninS ne_o_a46 nin0)
  have F_m_nLongest_o := F_m_nLongest_o.keep K56 (ninS ne_o_a46 nin0)
  have F_m_nValues_o := F_m_nValues_o.keep K56 (ninS ne_o_a46 nin0)
  have F_m_bPacked_o := F_m_bPacked_o.keep K56 (ninS ne_o_a46 nin0)
  have A_a42 := A_a42.keep K56 (ninS ne_a42_a46 nin0)
  have A_a44 := A_a44.keep K56 (ninS ne_a44_a46 nin0)
  have A_a48 := A_a48.keep K56 (ninS (Ne.symm ne_a46_a48) nin0)
  have A_a50 := A_a50.keep K56 (ninS (Ne.symm ne_a46_a50) nin0)
  have A_a52 := A_a52.keep K56 (ninS (Ne.symm ne_a46_a52) nin0)
  have A_a46 := B_a46
  show Gl p e below s _ n0 _ T56 (mkF m 71 #[.val (.ref o)] [])
  exact g_return C S din_71 (by decide) (by decide) (⟨a42, a44, a46, a48, a50, a52, rfl, Kp, X_o, F_m_aSymbols_o, F_m_aCodes_o, F_m_aLengths_o, F_m_aLengthCounts_o, F_m_aFirstCodes_o, F_m_aFirstSymbols_o, F_m_nLongest_o, F_m_nValues_o, F_m_bPacked_o, A_a42, A_a44, A_a46, A_a48, A_a50, A_a52, sz_a42, lt_a42_a44, lt_a44_a46, lt_a46_a48, lt_a48_a50, lt_a50_a52, A_a52.lt, ge_a42, ge_a44, ge_a46, ge_a48, ge_a50, ge_a52⟩)
theorem dbt_0 : decode prog_31_method_17_code 0 = .ok (.lconst 0, 1) := by decide +kernel
theorem dbt_1 : decode prog_31_method_17_code 1 = .ok (.lstore_n 2, 1) := by decide +kernel
theorem dbt_2 : decode prog_31_method_17_code 2 = .ok (.iconst 0, 1) := by decide +kernel
theorem dbt_3 : decode prog_31_method_17_code 3 = .ok (.istore 4, 2) := by decide +kernel
theorem dbt_5 : decode prog_31_method_17_code 5 = .ok (.iload 4, 2) := by decide +kernel
theorem dbt_7 : decode prog_31_method_17_code 7 = .ok (.sipush 256, 3) := by decide +kernel
theorem dbt_10 : decode prog_31_method_17_code 10 = .ok (.if_icmp .ge 25, 3) := by decide +kernel
theorem dbt_13 : decode prog_31_method_17_code 13 = .ok (.lload_n 2, 1) := by decide +kernel
theorem dbt_14 : decode prog_31_method_17_code 14 = .ok (.aload_n 1, 1) := by decide +kernel
theorem dbt_15 : decode prog_31_method_17_code 15 = .ok (.iload 4, 2) := by decide +kernel
theorem dbt_17 : decode prog_31_method_17_code 17 = .ok (.laload, 1) := by decide +kernel
theorem dbt_18 : decode prog_31_method_17_code 18 = .ok (.aload_n 0, 1) := by decide +kernel
theorem dbt_19 : decode prog_31_method_17_code 19 = .ok (.getfield 24, 3) := by decide +kernel
theorem dbt_22 : decode prog_31_method_17_code 22 = .ok (.iload 4, 2) := by decide +kernel
theorem dbt_24 : decode prog_31_method_17_code 24 = .ok (.baload, 1) := by decide +kernel
theorem dbt_25 : decode prog_31_method_17_code 25 = .ok (.i2l, 1) := by decide +kernel
theorem dbt_26 : decode prog_31_method_17_code 26 = .ok (.lmul, 1) := by decide +kernel
theorem dbt_27 : decode prog_31_method_17_code 27 = .ok (.ladd, 1) := by decide +kernel
theorem dbt_28 : decode prog_31_method_17_code 28 = .ok (.lstore_n 2, 1) := by decide +kernel
theorem dbt_29 : decode prog_31_method_17_code 29 = .ok (.iinc 4 1, 3) := by decide +kernel
theorem dbt_32 : decode prog_31_method_17_code 32 = .ok (.goto (-27), 3) := by decide +kernel
theorem dbt_35 : decode prog_31_method_17_code 35 = .ok (.lload_n 2, 1) := by decide +kernel
theorem dbt_36 : decode prog_31_method_17_code 36 = .ok (.lreturn, 1) := by decide +kernel
set_option maxRecDepth 65536 in
set_option maxHeartbeats 40000000 in
theorem c_bit (l' : Launch) (Z : State) (a0 : Array Value) (hw : ∀ d ∈ tables_1, d.before a0 Z = true) (o : Addr) (a2 : Addr) (h0 : Heap) (n0 : Nat) (le : Addr) (f : Nat → Int64) (g : Nat → Int32) (F_m_aLengths_o : Fld Z h0 o "leafpress/HuffmanCode" "m_aLengths" "[B" (.ref le)) (A_a2 : Ary Z h0 a2 .long 256 (fun x => .long (f x))) (A_le : Ary Z h0 le .byte 264 (fun x => if 256 ≤ x then .int (-1) else .int (g x))) :
    Con l' Z (⟨"leafpress/HuffmanCode", "bits", "([J)J"⟩ : MethodName) prog_31_method_17_code 5 (some .long) ({ frames := 0, cells := 0, slots := 0, locals := 0 } : Room) #[(.ref o), (.ref a2)] h0 n0 (fun v h => v = some (.long (hSum f g 256)) ∧ h = h0) := by
  refine Con.of (plainFor_of_name (by first | (simp [plainName, overriddenIn]; done) | decide +kernel)) (L0 := #[.val (.ref o), .val (.ref a2), .unset, .unset, .unset]) (fun m => by first | (simp [entryFrame, mkF, argsToLocals, Value.category]; done) | rfl) ?_
  intro p e s m below meth c T C S
  have LP : ∀ (d : Nat) (i : Nat), i + d = 256 → ∀ (T : State) (h : Heap), On p l' e ({ frames := 0, cells := 0, slots := 0, locals := 0 } : Room) s m #[(.ref o), (.ref a2)] below meth c n0 T h 0 0 → Fld Z h o "leafpress/HuffmanCode" "m_aLengths" "[B" (.ref le) → Ary Z h a2 .long 256 (fun x => .long (f x)) → Ary Z h le .byte 264 (fun x => if 256 ≤ x then .int (-1) else .int (g x)) → h = h0 → Gl p e below s ({ frames := 0, cells := 0, slots := 0, locals := 0 } : Room) n0 (fun v h => v = some (.long (hSum f g 256)) ∧ h = h0) T (mkF m 5 #[.val (.ref o), .val (.ref a2), .val (.long (hSum f g i)), .second, .val (.int (Int32.ofNat i))] []) := by
    intro d
    induction d with
    | zero =>
      intro i hd T h S F_m_aLengths_o A_a2 A_le hE
      have hi : i = 256 := by omega
      refine g_iload C S dbt_5 (pc' := 7) rfl rfl ?_
      refine g_sipush C S (256 : Int32) dbt_7 (pc' := 10) rfl rfl ?_
      refine g_icmp_ge C S dbt_10 (pc' := 35) (pf := 13) (by decide) (by decide) rfl (fun hc10 => ?_) (fun hc10 => absurd ((o32_ltl (K := 256) (by decide) (by omega)).mp hc10) (by omega))
      refine g_lloadN C S dbt_35 (pc' := 36) rfl rfl ?_
      exact g_retJ C S dbt_36 (by decide) (by decide) (⟨by rw [hi], hE⟩)
    | succ d ih =>
      intro i hd T h S F_m_aLengths_o A_a2 A_le hE
      refine g_iload C S dbt_5 (pc' := 7) rfl rfl ?_
      refine g_sipush C S (256 : Int32) dbt_7 (pc' := 10) rfl rfl ?_
      refine g_icmp_ge C S dbt_10 (pc' := 35) (pf := 13) (by decide) (by decide) rfl (fun hc10 => absurd ((o32_ltl (K := 256) (by decide) (by omega)).mpr (by omega)) hc10) (fun hc10 => ?_)
      refine g_lloadN C S dbt_13 (pc' := 14) rfl rfl ?_
      refine g_aloadN C S dbt_14 (pc' := 15) rfl rfl rfl ?_
      refine g_iload C S dbt_15 (pc' := 17) rfl rfl ?_
      refine g_laload C S (i := i) (v := (.long (f i))) dbt_17 A_a2 (o32 (by omega)) (by omega) rfl (pc' := 18) rfl ?_
      refine g_aloadN C S dbt_18 (pc' := 19) rfl rfl rfl ?_
      refine g_getF C S dbt_19 (host := "") (Or.inl (hw _ (List.mem_of_getElem? (i := 21) rfl))) Via.refl F_m_aLengths_o (pc' := 22) rfl (fun T57 S => ?_)
      refine g_iload C S dbt_22 (pc' := 24) rfl rfl ?_
      refine g_baloadB C S (i := i) (v := (.int (g i))) dbt_24 A_le (o32 (by omega)) (by omega) (if_neg (by omega)) (pc' := 25) rfl ?_
      refine g_i2l C S dbt_25 (pc' := 26) rfl ?_
      refine g_lmul C S dbt_26 (pc' := 27) rfl ?_
      refine g_ladd C S dbt_27 (pc' := 28) rfl ?_
      refine g_lstoreN C S dbt_28 (pc' := 29) rfl (L' := #[.val (.ref o), .val (.ref a2), .val (.long ((hSum f g i) + ((f i) * ((g i).toInt64)))), .second, .val (.int (Int32.ofNat i))]) rfl ?_
      refine g_iinc C S (1 : Int32) dbt_29 (pc' := 32) rfl rfl rfl (L' := #[.val (.ref o), .val (.ref a2), .val (.long ((hSum f g i) + ((f i) * ((g i).toInt64)))), .second, .val (.int ((Int32.ofNat i) + (1 : Int32)))]) rfl ?_
      refine g_goto C S dbt_32 (pc' := 5) (by decide) (by decide) ?_
      rw [o32_succ]
      exact ih (i + 1) (by omega) _ _ S F_m_aLengths_o A_a2 A_le hE
  refine g_lconst C S (0 : Int64) dbt_0 (pc' := 1) rfl rfl ?_
  refine g_lstoreN C S dbt_1 (pc' := 2) rfl (L' := #[.val (.ref o), .val (.ref a2), .val (.long (0 : Int64)), .second, .unset]) rfl ?_
  refine g_iconst C S (0 : Int32) dbt_2 (pc' := 3) rfl rfl ?_
  refine g_istore C S dbt_3 (pc' := 5) rfl (L' := #[.val (.ref o), .val (.ref a2), .val (.long (0 : Int64)), .second, .val (.int (0 : Int32))]) rfl ?_
  exact LP 256 0 (by omega) _ _ S F_m_aLengths_o A_a2 A_le rfl
def hSm (q : Int64) : Int64 := ((q &&& (9223372036854775807 : Int64)).toUInt64 >>> ((5 : Int32) &&& 0x3f).toInt64.toUInt64).toInt64
theorem dsm_0 : decode method_3_code 0 = .ok (.lload_n 0, 1) := by decide +kernel
theorem dsm_1 : decode method_3_code 1 = .ok (.ldc2_w 26, 3) := by decide +kernel
theorem dsm_4 : decode method_3_code 4 = .ok (.land, 1) := by decide +kernel
theorem dsm_5 : decode method_3_code 5 = .ok (.iconst 5, 1) := by decide +kernel
theorem dsm_6 : decode method_3_code 6 = .ok (.lushr, 1) := by decide +kernel
theorem dsm_7 : decode method_3_code 7 = .ok (.lreturn, 1) := by decide +kernel
set_option maxRecDepth 65536 in
set_option maxHeartbeats 40000000 in
theorem c_sml (l' : Launch) (Z : State) (a0 : Array Value) (hw : ∀ d ∈ tables_1, d.before a0 Z = true) (q1 : Int64) (h0 : Heap) (n0 : Nat) :
    Con l' Z (⟨"leafpress/HuffmanCodeBitsPinLaw", "small", "(J)J"⟩ : MethodName) method_3_code 2 (some .long) ({ frames := 0, cells := 0, slots := 0, locals := 0 } : Room) #[(.long q1)] h0 n0 (fun v h => v = some (.long (hSm q1)) ∧ h = h0) := by
  refine Con.of (plainFor_of_name (by first | (simp [plainName, overriddenIn]; done) | decide +kernel)) (L0 := #[.val (.long q1), .second]) (fun m => by first | (simp [entryFrame, mkF, argsToLocals, Value.category]; done) | rfl) ?_
  intro p e s m below meth c T C S
  refine g_lloadN C S dsm_0 (pc' := 1) rfl rfl ?_
  refine g_ldc2 C S dsm_1 (hw _ (List.mem_of_getElem? (i := 4) rfl)) (pc' := 4) rfl ?_
  refine g_land C S dsm_4 (pc' := 5) rfl ?_
  refine g_iconst C S (5 : Int32) dsm_5 (pc' := 6) rfl rfl ?_
  refine g_lushr C S dsm_6 (pc' := 7) rfl ?_
  exact g_retJ C S dsm_7 (by decide) (by decide) (⟨rfl, rfl⟩)
theorem nd9 {x0 x1 x2 x3 x4 x5 x6 x7 x8 : Nat} (h1 : x0 < x1) (h2 : x1 < x2) (h3 : x2 < x3) (h4 : x3 < x4) (h5 : x4 < x5) (h6 : x5 < x6) (h7 : x6 < x7) (h8 : x7 < x8) : [x0, x1, x2, x3, x4, x5, x6, x7, x8].Nodup := by
  simp only [List.nodup_cons, List.mem_cons, List.not_mem_nil, or_false, not_or, List.nodup_nil, not_false_eq_true, and_true]; omega
theorem fa1 {P : Nat → Prop} (h0 : P 0) : ∀ i, i < 1 → P i
  | 0, _ => h0
  | i + 1, h => absurd h (by omega)
theorem fa2 {P : Nat → Prop} (h0 : P 0) (h1 : P 1) : ∀ i, i < 2 → P i
  | 0, _ => h0
  | 1, _ => h1
  | i + 2, h => absurd h (by omega)
theorem fa3 {P : Nat → Prop} (h0 : P 0) (h1 : P 1) (h2 : P 2) : ∀ i, i < 3 → P i
  | 0, _ => h0
  | 1, _ => h1
  | 2, _ => h2
  | i + 3, h => absurd h (by omega)
theorem fa4 {P : Nat → Prop} (h0 : P 0) (h1 : P 1) (h2 : P 2) (h3 : P 3) : ∀ i, i < 4 → P i
  | 0, _ => h0
  | 1, _ => h1
  | 2, _ => h2
  | 3, _ => h3
  | i + 4, h => absurd h (by omega)
theorem fs1 {P : Nat → Prop} : ∀ i, i + 1 < 1 → P i := fun i h => absurd h (by omega)
theorem fs2 {P : Nat → Prop} (h0 : P 0) : ∀ i, i + 1 < 2 → P i := fun i h => fa1 h0 i (by omega)
theorem fs3 {P : Nat → Prop} (h0 : P 0) (h1 : P 1) : ∀ i, i + 1 < 3 → P i := fun i h => fa2 h0 h1 i (by omega)
theorem fs4 {P : Nat → Prop} (h0 : P 0) (h1 : P 1) (h2 : P 2) : ∀ i, i + 1 < 4 → P i := fun i h => fa3 h0 h1 h2 i (by omega)
theorem own_lit {x : Int32} {lo k : Nat} {f : Int} (h : x.toInt = f) (h1 : (lo : Int) ≤ f) (h2 : f < (lo : Int) + (k : Int)) : ∃ A : Nat, lo ≤ A ∧ A < lo + k ∧ x = Int32.ofNat A := by
  have b := Int32.toInt_lt x
  refine ⟨f.toNat, by omega, by omega, Int32.toInt_inj.mp ?_⟩
  rw [o32 (by omega), h]; omega
theorem own_and (x m : Int32) {k : Nat} (hk : k < 31) (hm : m.toBitVec.toNat = 2 ^ k - 1) : 0 ≤ (x &&& m).toInt ∧ (x &&& m).toInt < 2 ^ k := by
  rw [Jvm.Kit.i32_mask x m (by omega) hm]
  exact ⟨Int.emod_nonneg _ (by have := Nat.two_pow_pos k; exact_mod_cast (Nat.pos_iff_ne_zero.mp this)), Int.emod_lt_of_pos _ (by exact_mod_cast Nat.two_pow_pos k)⟩
theorem own_a (p1 : Int32) : ∃ A : Nat, 0 ≤ A ∧ A < 0 + 63 ∧ ((2 : Int32) * (p1 &&& (31 : Int32))) = Int32.ofNat A := by
  have b := own_and p1 31 (k := 5) (by decide) (by decide)
  have e2 : (2 : Int32).toInt = 2 := by decide
  refine own_lit (Jvm.Kit.i32_mul (by rw [e2]; omega) (by rw [e2]; omega)) ?_ ?_ <;> rw [e2] <;> omega
theorem own_off (y z : Int32) {lo : Nat} (hz : z.toInt = (lo : Int)) (hlo : lo ≤ 256) : ∃ A : Nat, lo ≤ A ∧ A < lo + 64 ∧ (z + (y &&& (63 : Int32))) = Int32.ofNat A := by
  have b := own_and y 63 (k := 6) (by decide) (by decide)
  exact own_lit (Jvm.Kit.i32_add (by omega) (by omega)) (by omega) (by omega)
def hL4 (A B C D : Nat) (la lb lc ld : Int32) : Nat → Value := fun q => if q = D then .int ld else if q = C then .int lc else if q = B then .int lb else if q = A then .int la else .int 0
def hN5 (A B C D : Nat) (na nb nc nd nj : Int64) : Nat → Int64 := fun q => if q = A + 1 then nj else if q = D then nd else if q = C then nc else if q = B then nb else if q = A then na else 0
theorem hN5_eq (A B C D : Nat) (na nb nc nd nj : Int64) (N : Nat) : ∀ q, q < N → (fun q => if q = A + 1 then Value.long nj else (fun q => if q = D then Value.long nd else (fun q => if q = C then Value.long nc else (fun q => if q = B then Value.long nb else (fun q => if q = A then Value.long na else (fun _ => Value.long (0 : Int64)) q) q) q) q) q) q = (fun x => Value.long (hN5 A B C D na nb nc nd nj x)) q := fun q _ => by
  show (if q = A + 1 then Value.long nj else if q = D then Value.long nd else if q = C then Value.long nc else if q = B then Value.long nb else if q = A then Value.long na else Value.long 0) = Value.long (if q = A + 1 then nj else if q = D then nd else if q = C then nc else if q = B then nb else if q = A then na else 0)
  split
  · rfl
  split
  · rfl
  split
  · rfl
  split
  · rfl
  split
  · rfl
  · rfl
section Sums
variable {A B C D : Nat} {la lb lc ld : Int32} {na nb nc nd nj : Int64}
theorem hL4_D : hL4 A B C D la lb lc ld D = .int ld := if_pos rfl
theorem hL4_C (h : C < D) : hL4 A B C D la lb lc ld C = .int lc := (if_neg (by omega)).trans (if_pos rfl)
theorem hL4_B (h : B < C) (h' : C < D) : hL4 A B C D la lb lc ld B = .int lb := (if_neg (by omega)).trans ((if_neg (by omega)).trans (if_pos rfl))
theorem hL4_A (h0 : A < B) (h : B < C) (h' : C < D) : hL4 A B C D la lb lc ld A = .int la := (if_neg (by omega)).trans ((if_neg (by omega)).trans ((if_neg (by omega)).trans (if_pos rfl)))
theorem hN5_D (h0 : A + 1 < B) (h : B < C) (h' : C < D) : hN5 A B C D na nb nc nd nj D = nd := (if_neg (by omega)).trans (if_pos rfl)
theorem hN5_C (h0 : A + 1 < B) (h : B < C) (h' : C < D) : hN5 A B C D na nb nc nd nj C = nc := (if_neg (by omega)).trans ((if_neg (by omega)).trans (if_pos rfl))
theorem hN5_B (h0 : A + 1 < B) (h : B < C) (h' : C < D) : hN5 A B C D na nb nc nd nj B = nb := (if_neg (by omega)).trans ((if_neg (by omega)).trans ((if_neg (by omega)).trans (if_pos rfl)))
theorem hN5_A (h0 : A + 1 < B) (h : B < C) (h' : C < D) : hN5 A B C D na nb nc nd nj A = na := (if_neg (by omega)).trans ((if_neg (by omega)).trans ((if_neg (by omega)).trans ((if_neg (by omega)).trans (if_pos rfl))))
theorem hSum4 {f : Nat → Int64} {g : Nat → Int32} (h0 : A < B) (h1 : B < C) (h2 : C < D) (hz : ∀ x, x ≠ A → x ≠ B → x ≠ C → x ≠ D → g x = 0) : ∀ k, hSum f g k = (((if A < k then f A * (g A).toInt64 else 0) + (if B < k then f B * (g B).toInt64 else 0)) + (if C < k then f C * (g C).toInt64 else 0)) + (if D < k then f D * (g D).toInt64 else 0)
  | 0 => by simp [hSum]
  | k + 1 => by
    show hSum f g k + f k * (g k).toInt64 = _
    rw [hSum4 h0 h1 h2 hz k]
    by_cases eA : k = A
    · subst eA
      rw [if_neg (Nat.lt_irrefl k), if_neg (show ¬ B < k by omega), if_neg (show ¬ C < k by omega), if_neg (show ¬ D < k by omega), if_pos (show k < k + 1 by omega), if_neg (show ¬ B < k + 1 by omega), if_neg (show ¬ C < k + 1 by omega), if_neg (show ¬ D < k + 1 by omega)]
      simp
    by_cases eB : k = B
    · subst eB
      rw [if_pos h0, if_neg (Nat.lt_irrefl k), if_neg (show ¬ C < k by omega), if_neg (show ¬ D < k by omega), if_pos (show A < k + 1 by omega), if_pos (show k < k + 1 by omega), if_neg (show ¬ C < k + 1 by omega), if_neg (show ¬ D < k + 1 by omega)]
      simp
    by_cases eC : k = C
    · subst eC
      rw [if_pos (show A < k by omega), if_pos h1, if_neg (Nat.lt_irrefl k), if_neg (show ¬ D < k by omega), if_pos (show A < k + 1 by omega), if_pos (show B < k + 1 by omega), if_pos (show k < k + 1 by omega), if_neg (show ¬ D < k + 1 by omega)]
      simp
    by_cases eD : k = D
    · subst eD
      rw [if_pos (show A < k by omega), if_pos (show B < k by omega), if_pos h2, if_neg (Nat.lt_irrefl k), if_pos (show A < k + 1 by omega), if_pos (show B < k + 1 by omega), if_pos (show C < k + 1 by omega), if_pos (show k < k + 1 by omega)]
      simp
    have e0 : f k * (g k).toInt64 = 0 := by rw [hz k eA eB eC eD]; simp
    rw [e0]
    have i1 : (A < k + 1) = (A < k) := propext ⟨fun h => by omega, fun h => by omega⟩
    have i2 : (B < k + 1) = (B < k) := propext ⟨fun h => by omega, fun h => by omega⟩
    have i3 : (C < k + 1) = (C < k) := propext ⟨fun h => by omega, fun h => by omega⟩
    have i4 : (D < k + 1) = (D < k) := propext ⟨fun h => by omega, fun h => by omega⟩
    simp only [i1, i2, i3, i4]
    simp
theorem hBits {l V : Nat → Nat} {n : Nat} (h0 : A + 1 < B) (h1 : B < C) (h2 : C < D) (h3 : D < 256) {ka kb kc kd : Nat} (eA : hLe l V n n A = ka) (eB : hLe l V n n B = kb) (eC : hLe l V n n C = kc) (eD : hLe l V n n D = kd) (hz : ∀ x, x ≠ A → x ≠ B → x ≠ C → x ≠ D → hLe l V n n x = 0) :
    hSum (hN5 A B C D na nb nc nd nj) (fun x => Int32.ofNat (hLe l V n n x)) 256 = (((na * (Int32.ofNat ka).toInt64) + (nb * (Int32.ofNat kb).toInt64)) + (nc * (Int32.ofNat kc).toInt64)) + (nd * (Int32.ofNat kd).toInt64) := by
  rw [hSum4 (A := A) (B := B) (C := C) (D := D) (by omega) h1 h2 (fun x a b c d => by rw [hz x a b c d]; rfl) 256, if_pos (by omega), if_pos (by omega), if_pos (by omega), if_pos (by omega), hN5_A h0 h1 h2, hN5_B h0 h1 h2, hN5_C h0 h1 h2, hN5_D h0 h1 h2, eA, eB, eC, eD]
end Sums
theorem pd_9 : parseMethodDescriptor "(J)J" = some ⟨[.long], some .long⟩ := by decide +kernel
theorem pd_10 : parseMethodDescriptor "([II[I)V" = some ⟨[(.array .int), .int, (.array .int)], none⟩ := by decide +kernel
theorem pd_11 : parseMethodDescriptor "([J)J" = some ⟨[(.array .long)], some .long⟩ := by decide +kernel
set_option maxRecDepth 65536 in
set_option maxHeartbeats 40000000 in
theorem c_law (l' : Launch) (Z : State) (a0 : Array Value) (hw : ∀ d ∈ tables_1, d.before a0 Z = true) (p1 : Int32) (q2 : Int64) (q3 : Int64) (q4 : Int64) (q5 : Int64) (q6 : Int64) (h0 : Heap) (n0 : Nat) (Zn : n0 ≤ h0.size) :
    Con l' Z x code maxLocals ret room_1 #[(.int p1), (.long q2), (.long q3), (.long q4), (.long q5), (.long q6)] h0 n0 (fun v h => v = some (.int 1)) := by
  refine Con.of (plainFor_of_name (by first | (simp [plainName, overriddenIn, x]; done) | decide +kernel)) (L0 := #[.val (.int p1), .val (.long q2), .second, .val (.long q3), .second, .val (.long q4), .second, .val (.long q5), .second, .val (.long q6), .second, .unset, .unset, .unset, .unset, .unset, .unset, .unset, .unset, .unset, .unset, .unset, .unset, .unset, .unset, .unset, .unset, .unset, .unset, .unset, .unset, .unset, .unset, .unset, .unset, .unset, .unset]) (fun m => by first | (simp [entryFrame, mkF, argsToLocals, Value.category, maxLocals]; done) | rfl) ?_
  intro p e s m below meth c T C S
  refine g_iconst C S (2 : Int32) at_0 (pc' := 1) rfl rfl ?_
  refine g_iloadN C S at_1 (pc' := 2) rfl rfl ?_
  refine g_bipush C S (31 : Int32) at_2 (pc' := 4) rfl rfl ?_
  refine g_iand C S at_4 (pc' := 5) rfl ?_
  refine g_imul C S at_5 (pc' := 6) rfl ?_
  refine g_istore C S at_6 (pc' := 8) rfl (L' := #[.val (.int p1), .val (.long q2), .second, .val (.long q3), .second, .val (.long q4), .second, .val (.long q5), .second, .val (.long q6), .second, .val (.int ((2 : Int32) * (p1 &&& (31 : Int32)))), .unset, .unset, .unset, .unset, .unset, .unset, .unset, .unset, .unset, .unset, .unset, .unset, .unset, .unset, .unset, .unset, .unset, .unset, .unset, .unset, .unset, .unset, .unset, .unset, .unset]) rfl ?_
  obtain ⟨A, hloA, hhiA, eA⟩ := own_a p1
  rw [eA]
  refine g_bipush C S (64 : Int32) at_8 (pc' := 10) rfl rfl ?_
  refine g_iloadN C S at_10 (pc' := 11) rfl rfl ?_
  refine g_iconst C S (5 : Int32) at_11 (pc' := 12) rfl rfl ?_
  refine g_iushr C S at_12 (pc' := 13) rfl ?_
  refine g_bipush C S (63 : Int32) at_13 (pc' := 15) rfl rfl ?_
  refine g_iand C S at_15 (pc' := 16) rfl ?_
  refine g_iadd C S at_16 (pc' := 17) rfl ?_
  refine g_istore C S at_17 (pc' := 19) rfl (L' := #[.val (.int p1), .val (.long q2), .second, .val (.long q3), .second, .val (.long q4), .second, .val (.long q5), .second, .val (.long q6), .second, .val (.int (Int32.ofNat A)), .val (.int ((64 : Int32) + (((p1.toUInt32 >>> ((5 : Int32) &&& 31).toUInt32).toInt32) &&& (63 : Int32)))), .unset, .unset, .unset, .unset, .unset, .unset, .unset, .unset, .unset, .unset, .unset, .unset, .unset, .unset, .unset, .unset, .unset, .unset, .unset, .unset, .unset, .unset, .unset, .unset]) rfl ?_
  obtain ⟨B, hloB, hhiB, eB⟩ := own_off (((p1.toUInt32 >>> ((5 : Int32) &&& 31).toUInt32).toInt32)) (64 : Int32) (lo := 64) (by decide) (by decide)
  rw [eB]
  refine g_sipush C S (128 : Int32) at_19 (pc' := 22) rfl rfl ?_
  refine g_iloadN C S at_22 (pc' := 23) rfl rfl ?_
  refine g_bipush C S (11 : Int32) at_23 (pc' := 25) rfl rfl ?_
  refine g_iushr C S at_25 (pc' := 26) rfl ?_
  refine g_bipush C S (63 : Int32) at_26 (pc' := 28) rfl rfl ?_
  refine g_iand C S at_28 (pc' := 29) rfl ?_
  refine g_iadd C S at_29 (pc' := 30) rfl ?_
  refine g_istore C S at_30 (pc' := 32) rfl (L' := #[.val (.int p1), .val (.long q2), .second, .val (.long q3), .second, .val (.long q4), .second, .val (.long q5), .second, .val (.long q6), .second, .val (.int (Int32.ofNat A)), .val (.int (Int32.ofNat B)), .val (.int ((128 : Int32) + (((p1.toUInt32 >>> ((11 : Int32) &&& 31).toUInt32).toInt32) &&& (63 : Int32)))), .unset, .unset, .unset, .unset, .unset, .unset, .unset, .unset, .unset, .unset, .unset, .unset, .unset, .unset, .unset, .unset, .unset, .unset, .unset, .unset, .unset, .unset, .unset]) rfl ?_
  obtain ⟨Cc, hloCc, hhiCc, eCc⟩ := own_off (((p1.toUInt32 >>> ((11 : Int32) &&& 31).toUInt32).toInt32)) (128 : Int32) (lo := 128) (by decide) (by decide)
  rw [eCc]
  refine g_sipush C S (192 : Int32) at_32 (pc' := 35) rfl rfl ?_
  refine g_iloadN C S at_35 (pc' := 36) rfl rfl ?_
  refine g_bipush C S (17 : Int32) at_36 (pc' := 38) rfl rfl ?_
  refine g_iushr C S at_38 (pc' := 39) rfl ?_
  refine g_bipush C S (63 : Int32) at_39 (pc' := 41) rfl rfl ?_
  refine g_iand C S at_41 (pc' := 42) rfl ?_
  refine g_iadd C S at_42 (pc' := 43) rfl ?_
  refine g_istore C S at_43 (pc' := 45) rfl (L' := #[.val (.int p1), .val (.long q2), .second, .val (.long q3), .second, .val (.long q4), .second, .val (.long q5), .second, .val (.long q6), .second, .val (.int (Int32.ofNat A)), .val (.int (Int32.ofNat B)), .val (.int (Int32.ofNat Cc)), .val (.int ((192 : Int32) + (((p1.toUInt32 >>> ((17 : Int32) &&& 31).toUInt32).toInt32) &&& (63 : Int32)))), .unset, .unset, .unset, .unset, .unset, .unset, .unset, .unset, .unset, .unset, .unset, .unset, .unset, .unset, .unset, .unset, .unset, .unset, .unset, .unset, .unset, .unset]) rfl ?_
  obtain ⟨D, hloD, hhiD, eD⟩ := own_off (((p1.toUInt32 >>> ((17 : Int32) &&& 31).toUInt32).toInt32)) (192 : Int32) (lo := 192) (by decide) (by decide)
  rw [eD]
  refine g_iloadN C S at_45 (pc' := 46) rfl rfl ?_
  refine g_bipush C S (23 : Int32) at_46 (pc' := 48) rfl rfl ?_
  refine g_iushr C S at_48 (pc' := 49) rfl ?_
  refine g_bipush C S (7 : Int32) at_49 (pc' := 51) rfl rfl ?_
  refine g_iand C S at_51 (pc' := 52) rfl ?_
  refine g_istore C S at_52 (pc' := 54) rfl (L' := #[.val (.int p1), .val (.long q2), .second, .val (.long q3), .second, .val (.long q4), .second, .val (.long q5), .second, .val (.long q6), .second, .val (.int (Int32.ofNat A)), .val (.int (Int32.ofNat B)), .val (.int (Int32.ofNat Cc)), .val (.int (Int32.ofNat D)), .val (.int (((p1.toUInt32 >>> ((23 : Int32) &&& 31).toUInt32).toInt32) &&& (7 : Int32))), .unset, .unset, .unset, .unset, .unset, .unset, .unset, .unset, .unset, .unset, .unset, .unset, .unset, .unset, .unset, .unset, .unset, .unset, .unset, .unset, .unset]) rfl ?_
  obtain ⟨sh, esh⟩ : ∃ z, z = (((p1.toUInt32 >>> ((23 : Int32) &&& 31).toUInt32).toInt32) &&& (7 : Int32)) := ⟨_, rfl⟩
  rw [← esh]
  refine g_lloadN C S at_54 (pc' := 55) rfl rfl ?_
  refine g_callS C S (rm := ({ frames := 0, cells := 0, slots := 0, locals := 0 } : Room)) (W := 0) at_55 (hw _ (List.mem_of_getElem? (i := 0) rfl)) (hw _ (List.mem_of_getElem? (i := 1) rfl)) (hw _ (List.mem_of_getElem? (i := 2) rfl)) (hw _ (List.mem_of_getElem? (i := 3) rfl)) (by decide) (c_sml l' Z a0 hw q2 h0 n0) (argsL := [(.long q2)]) (r := []) rfl (lenOf pd_9 rfl) rfl (Nat.le_of_eq rfl) (by decide) (by decide) (by decide) (by decide) (pc' := 58) rfl (fun T58 h58 v58 q58 S => ?_)
  obtain ⟨rfl, e58⟩ := q58; rw [e58] at S
  show Gl p e below s _ n0 _ T58 (mkF m 58 #[.val (.int p1), .val (.long q2), .second, .val (.long q3), .second, .val (.long q4), .second, .val (.long q5), .second, .val (.long q6), .second, .val (.int (Int32.ofNat A)), .val (.int (Int32.ofNat B)), .val (.int (Int32.ofNat Cc)), .val (.int (Int32.ofNat D)), .val (.int sh), .unset, .unset, .unset, .unset, .unset, .unset, .unset, .unset, .unset, .unset, .unset, .unset, .unset, .unset, .unset, .unset, .unset, .unset, .unset, .unset, .unset] [(.long (hSm q2))])
  refine g_lstore C S at_58 (pc' := 60) rfl (L' := #[.val (.int p1), .val (.long q2), .second, .val (.long q3), .second, .val (.long q4), .second, .val (.long q5), .second, .val (.long q6), .second, .val (.int (Int32.ofNat A)), .val (.int (Int32.ofNat B)), .val (.int (Int32.ofNat Cc)), .val (.int (Int32.ofNat D)), .val (.int sh), .val (.long (hSm q2)), .second, .unset, .unset, .unset, .unset, .unset, .unset, .unset, .unset, .unset, .unset, .unset, .unset, .unset, .unset, .unset, .unset, .unset, .unset, .unset]) rfl ?_
  refine g_lloadN C S at_60 (pc' := 61) rfl rfl ?_
  refine g_callS C S (rm := ({ frames := 0, cells := 0, slots := 0, locals := 0 } : Room)) (W := 0) at_61 (hw _ (List.mem_of_getElem? (i := 0) rfl)) (hw _ (List.mem_of_getElem? (i := 1) rfl)) (hw _ (List.mem_of_getElem? (i := 2) rfl)) (hw _ (List.mem_of_getElem? (i := 3) rfl)) (by decide) (c_sml l' Z a0 hw q3 h0 n0) (argsL := [(.long q3)]) (r := []) rfl (lenOf pd_9 rfl) rfl (Nat.le_of_eq rfl) (by decide) (by decide) (by decide) (by decide) (pc' := 64) rfl (fun T59 h59 v59 q59 S => ?_)
  obtain ⟨rfl, e59⟩ := q59; rw [e59] at S
  show Gl p e below s _ n0 _ T59 (mkF m 64 #[.val (.int p1), .val (.long q2), .second, .val (.long q3), .second, .val (.long q4), .second, .val (.long q5), .second, .val (.long q6), .second, .val (.int (Int32.ofNat A)), .val (.int (Int32.ofNat B)), .val (.int (Int32.ofNat Cc)), .val (.int (Int32.ofNat D)), .val (.int sh), .val (.long (hSm q2)), .second, .unset, .unset, .unset, .unset, .unset, .unset, .unset, .unset, .unset, .unset, .unset, .unset, .unset, .unset, .unset, .unset, .unset, .unset, .unset] [(.long (hSm q3))])
  refine g_lstore C S at_64 (pc' := 66) rfl (L' := #[.val (.int p1), .val (.long q2), .second, .val (.long q3), .second, .val (.long q4), .second, .val (.long q5), .second, .val (.long q6), .second, .val (.int (Int32.ofNat A)), .val (.int (Int32.ofNat B)), .val (.int (Int32.ofNat Cc)), .val (.int (Int32.ofNat D)), .val (.int sh), .val (.long (hSm q2)), .second, .val (.long (hSm q3)), .second, .unset, .unset, .unset, .unset, .unset, .unset, .unset, .unset, .unset, .unset, .unset, .unset, .unset, .unset, .unset, .unset, .unset]) rfl ?_
  refine g_lload C S at_66 (pc' := 68) rfl rfl ?_
  refine g_callS C S (rm := ({ frames := 0, cells := 0, slots := 0, locals := 0 } : Room)) (W := 0) at_68 (hw _ (List.mem_of_getElem? (i := 0) rfl)) (hw _ (List.mem_of_getElem? (i := 1) rfl)) (hw _ (List.mem_of_getElem? (i := 2) rfl)) (hw _ (List.mem_of_getElem? (i := 3) rfl)) (by decide) (c_sml l' Z a0 hw q4 h0 n0) (argsL := [(.long q4)]) (r := []) rfl (lenOf pd_9 rfl) rfl (Nat.le_of_eq rfl) (by decide) (by decide) (by decide) (by decide) (pc' := 71) rfl (fun T60 h60 v60 q60 S => ?_)
  obtain ⟨rfl, e60⟩ := q60; rw [e60] at S
  show Gl p e below s _ n0 _ T60 (mkF m 71 #[.val (.int p1), .val (.long q2), .second, .val (.long q3), .second, .val (.long q4), .second, .val (.long q5), .second, .val (.long q6), .second, .val (.int (Int32.ofNat A)), .val (.int (Int32.ofNat B)), .val (.int (Int32.ofNat Cc)), .val (.int (Int32.ofNat D)), .val (.int sh), .val (.long (hSm q2)), .second, .val (.long (hSm q3)), .second, .unset, .unset, .unset, .unset, .unset, .unset, .unset, .unset, .unset, .unset, .unset, .unset, .unset, .unset, .unset, .unset, .unset] [(.long (hSm q4))])
  refine g_lstore C S at_71 (pc' := 73) rfl (L' := #[.val (.int p1), .val (.long q2), .second, .val (.long q3), .second, .val (.long q4), .second, .val (.long q5), .second, .val (.long q6), .second, .val (.int (Int32.ofNat A)), .val (.int (Int32.ofNat B)), .val (.int (Int32.ofNat Cc)), .val (.int (Int32.ofNat D)), .val (.int sh), .val (.long (hSm q2)), .second, .val (.long (hSm q3)), .second, .val (.long (hSm q4)), .second, .unset, .unset, .unset, .unset, .unset, .unset, .unset, .unset, .unset, .unset, .unset, .unset, .unset, .unset, .unset]) rfl ?_
  refine g_lload C S at_73 (pc' := 75) rfl rfl ?_
  refine g_callS C S (rm := ({ frames := 0, cells := 0, slots := 0, locals := 0 } : Room)) (W := 0) at_75 (hw _ (List.mem_of_getElem? (i := 0) rfl)) (hw _ (List.mem_of_getElem? (i := 1) rfl)) (hw _ (List.mem_of_getElem? (i := 2) rfl)) (hw _ (List.mem_of_getElem? (i := 3) rfl)) (by decide) (c_sml l' Z a0 hw q5 h0 n0) (argsL := [(.long q5)]) (r := []) rfl (lenOf pd_9 rfl) rfl (Nat.le_of_eq rfl) (by decide) (by decide) (by decide) (by decide) (pc' := 78) rfl (fun T61 h61 v61 q61 S => ?_)
  obtain ⟨rfl, e61⟩ := q61; rw [e61] at S
  show Gl p e below s _ n0 _ T61 (mkF m 78 #[.val (.int p1), .val (.long q2), .second, .val (.long q3), .second, .val (.long q4), .second, .val (.long q5), .second, .val (.long q6), .second, .val (.int (Int32.ofNat A)), .val (.int (Int32.ofNat B)), .val (.int (Int32.ofNat Cc)), .val (.int (Int32.ofNat D)), .val (.int sh), .val (.long (hSm q2)), .second, .val (.long (hSm q3)), .second, .val (.long (hSm q4)), .second, .unset, .unset, .unset, .unset, .unset, .unset, .unset, .unset, .unset, .unset, .unset, .unset, .unset, .unset, .unset] [(.long (hSm q5))])
  refine g_lstore C S at_78 (pc' := 80) rfl (L' := #[.val (.int p1), .val (.long q2), .second, .val (.long q3), .second, .val (.long q4), .second, .val (.long q5), .second, .val (.long q6), .second, .val (.int (Int32.ofNat A)), .val (.int (Int32.ofNat B)), .val (.int (Int32.ofNat Cc)), .val (.int (Int32.ofNat D)), .val (.int sh), .val (.long (hSm q2)), .second, .val (.long (hSm q3)), .second, .val (.long (hSm q4)), .second, .val (.long (hSm q5)), .second, .unset, .unset, .unset, .unset, .unset, .unset, .unset, .unset, .unset, .unset, .unset, .unset, .unset]) rfl ?_
  refine g_lload C S at_80 (pc' := 82) rfl rfl ?_
  refine g_callS C S (rm := ({ frames := 0, cells := 0, slots := 0, locals := 0 } : Room)) (W := 0) at_82 (hw _ (List.mem_of_getElem? (i := 0) rfl)) (hw _ (List.mem_of_getElem? (i := 1) rfl)) (hw _ (List.mem_of_getElem? (i := 2) rfl)) (hw _ (List.mem_of_getElem? (i := 3) rfl)) (by decide) (c_sml l' Z a0 hw q6 h0 n0) (argsL := [(.long q6)]) (r := []) rfl (lenOf pd_9 rfl) rfl (Nat.le_of_eq rfl) (by decide) (by decide) (by decide) (by decide) (pc' := 85) rfl (fun T62 h62 v62 q62 S => ?_)
  obtain ⟨rfl, e62⟩ := q62; rw [e62] at S
  show Gl p e below s _ n0 _ T62 (mkF m 85 #[.val (.int p1), .val (.long q2), .second, .val (.long q3), .second, .val (.long q4), .second, .val (.long q5), .second, .val (.long q6), .second, .val (.int (Int32.ofNat A)), .val (.int (Int32.ofNat B)), .val (.int (Int32.ofNat Cc)), .val (.int (Int32.ofNat D)), .val (.int sh), .val (.long (hSm q2)), .second, .val (.long (hSm q3)), .second, .val (.long (hSm q4)), .second, .val (.long (hSm q5)), .second, .unset, .unset, .unset, .unset, .unset, .unset, .unset, .unset, .unset, .unset, .unset, .unset, .unset] [(.long (hSm q6))])
  refine g_lstore C S at_85 (pc' := 87) rfl (L' := #[.val (.int p1), .val (.long q2), .second, .val (.long q3), .second, .val (.long q4), .second, .val (.long q5), .second, .val (.long q6), .second, .val (.int (Int32.ofNat A)), .val (.int (Int32.ofNat B)), .val (.int (Int32.ofNat Cc)), .val (.int (Int32.ofNat D)), .val (.int sh), .val (.long (hSm q2)), .second, .val (.long (hSm q3)), .second, .val (.long (hSm q4)), .second, .val (.long (hSm q5)), .second, .val (.long (hSm q6)), .second, .unset, .unset, .unset, .unset, .unset, .unset, .unset, .unset, .unset, .unset, .unset]) rfl ?_
  refine g_iconst C S (4 : Int32) at_87 (pc' := 88) rfl rfl ?_
  refine g_newarray C S (N := 4) (cap := 4) at_88 (hw _ (List.mem_of_getElem? (i := 5) rfl)) (by decide) (by decide) (by decide) (by decide) (by decide) (pc' := 90) rfl (fun T63 h63 a63 S g63 E63 A_a63 => ?_)
  have ge_a63 : n0 ≤ a63 := ge_of g63 Zn
  have Zn := Nat.le_trans Zn E63.1
  have A_a63 : Ary Z h63 a63 .int 4 (fun _ => (.int (0 : Int32))) := A_a63
  refine g_astore C S at_90 (pc' := 92) rfl rfl (L' := #[.val (.int p1), .val (.long q2), .second, .val (.long q3), .second, .val (.long q4), .second, .val (.long q5), .second, .val (.long q6), .second, .val (.int (Int32.ofNat A)), .val (.int (Int32.ofNat B)), .val (.int (Int32.ofNat Cc)), .val (.int (Int32.ofNat D)), .val (.int sh), .val (.long (hSm q2)), .second, .val (.long (hSm q3)), .second, .val (.long (hSm q4)), .second, .val (.long (hSm q5)), .second, .val (.long (hSm q6)), .second, .val (.ref a63), .unset, .unset, .unset, .unset, .unset, .unset, .unset, .unset, .unset, .unset]) rfl ?_
  refine g_sipush C S (256 : Int32) at_92 (pc' := 95) rfl rfl ?_
  refine g_newarray C S (N := 256) (cap := 256) at_95 (hw _ (List.mem_of_getElem? (i := 5) rfl)) (by decide) (by decide) (by decide) (by decide) (by decide) (pc' := 97) rfl (fun T64 h64 a64 S g64 E64 A_a64 => ?_)
  have ne_a63_a64 : a63 ≠ a64 := ne_new g64 A_a63.lt
  have lt_a63_a64 : a63 < a64 := Nat.lt_of_lt_of_le A_a63.lt (Nat.le_of_eq g64.symm)
  have ge_a64 : n0 ≤ a64 := ge_of g64 Zn
  have Zn := Nat.le_trans Zn E64.1
  have A_a63 := A_a63.ext E64
  have A_a64 : Ary Z h64 a64 .int 256 (fun _ => (.int (0 : Int32))) := A_a64
  refine g_astore C S at_97 (pc' := 99) rfl rfl (L' := #[.val (.int p1), .val (.long q2), .second, .val (.long q3), .second, .val (.long q4), .second, .val (.long q5), .second, .val (.long q6), .second, .val (.int (Int32.ofNat A)), .val (.int (Int32.ofNat B)), .val (.int (Int32.ofNat Cc)), .val (.int (Int32.ofNat D)), .val (.int sh), .val (.long (hSm q2)), .second, .val (.long (hSm q3)), .second, .val (.long (hSm q4)), .second, .val (.long (hSm q5)), .second, .val (.long (hSm q6)), .second, .val (.ref a63), .val (.ref a64), .unset, .unset, .unset, .unset, .unset, .unset, .unset, .unset, .unset]) rfl ?_
  refine g_iconst C S (0 : Int32) at_99 (pc' := 100) rfl rfl ?_
  refine g_istore C S at_100 (pc' := 102) rfl (L' := #[.val (.int p1), .val (.long q2), .second, .val (.long q3), .second, .val (.long q4), .second, .val (.long q5), .second, .val (.long q6), .second, .val (.int (Int32.ofNat A)), .val (.int (Int32.ofNat B)), .val (.int (Int32.ofNat Cc)), .val (.int (Int32.ofNat D)), .val (.int sh), .val (.long (hSm q2)), .second, .val (.long (hSm q3)), .second, .val (.long (hSm q4)), .second, .val (.long (hSm q5)), .second, .val (.long (hSm q6)), .second, .val (.ref a63), .val (.ref a64), .val (.int (0 : Int32)), .unset, .unset, .unset, .unset, .unset, .unset, .unset, .unset]) rfl ?_
  refine g_iconst C S (0 : Int32) at_102 (pc' := 103) rfl rfl ?_
  refine g_istore C S at_103 (pc' := 105) rfl (L' := #[.val (.int p1), .val (.long q2), .second, .val (.long q3), .second, .val (.long q4), .second, .val (.long q5), .second, .val (.long q6), .second, .val (.int (Int32.ofNat A)), .val (.int (Int32.ofNat B)), .val (.int (Int32.ofNat Cc)), .val (.int (Int32.ofNat D)), .val (.int sh), .val (.long (hSm q2)), .second, .val (.long (hSm q3)), .second, .val (.long (hSm q4)), .second, .val (.long (hSm q5)), .second, .val (.long (hSm q6)), .second, .val (.ref a63), .val (.ref a64), .val (.int (0 : Int32)), .val (.int (0 : Int32)), .unset, .unset, .unset, .unset, .unset, .unset, .unset]) rfl ?_
  refine g_iconst C S (0 : Int32) at_105 (pc' := 106) rfl rfl ?_
  refine g_istore C S at_106 (pc' := 108) rfl (L' := #[.val (.int p1), .val (.long q2), .second, .val (.long q3), .second, .val (.long q4), .second, .val (.long q5), .second, .val (.long q6), .second, .val (.int (Int32.ofNat A)), .val (.int (Int32.ofNat B)), .val (.int (Int32.ofNat Cc)), .val (.int (Int32.ofNat D)), .val (.int sh), .val (.long (hSm q2)), .second, .val (.long (hSm q3)), .second, .val (.long (hSm q4)), .second, .val (.long (hSm q5)), .second, .val (.long (hSm q6)), .second, .val (.ref a63), .val (.ref a64), .val (.int (0 : Int32)), .val (.int (0 : Int32)), .val (.int (0 : Int32)), .unset, .unset, .unset, .unset, .unset, .unset]) rfl ?_
  refine g_iconst C S (0 : Int32) at_108 (pc' := 109) rfl rfl ?_
  refine g_istore C S at_109 (pc' := 111) rfl (L' := #[.val (.int p1), .val (.long q2), .second, .val (.long q3), .second, .val (.long q4), .second, .val (.long q5), .second, .val (.long q6), .second, .val (.int (Int32.ofNat A)), .val (.int (Int32.ofNat B)), .val (.int (Int32.ofNat Cc)), .val (.int (Int32.ofNat D)), .val (.int sh), .val (.long (hSm q2)), .second, .val (.long (hSm q3)), .second, .val (.long (hSm q4)), .second, .val (.long (hSm q5)), .second, .val (.long (hSm q6)), .second, .val (.ref a63), .val (.ref a64), .val (.int (0 : Int32)), .val (.int (0 : Int32)), .val (.int (0 : Int32)), .val (.int (0 : Int32)), .unset, .unset, .unset, .unset, .unset]) rfl ?_
  refine g_iload C S at_111 (pc' := 113) rfl rfl ?_
  refine g_if_ne C S at_113 (pc' := 128) (pf := 116) (by decide) (by decide) rfl (fun hc113 => ?_) (fun hc113 => ?_)
  · refine g_iload C S at_128 (pc' := 130) rfl rfl ?_
    refine g_iconst C S (1 : Int32) at_130 (pc' := 131) rfl rfl ?_
    refine g_icmp_ne C S at_131 (pc' := 158) (pf := 134) (by decide) (by decide) rfl (fun hc131 => ?_) (fun hc131 => ?_)
    · refine g_iload C S at_158 (pc' := 160) rfl rfl ?_
      refine g_iconst C S (2 : Int32) at_160 (pc' := 161) rfl rfl ?_
      refine g_icmp_ne C S at_161 (pc' := 197) (pf := 164) (by decide) (by decide) rfl (fun hc161 => ?_) (fun hc161 => ?_)
      · refine g_iload C S at_197 (pc' := 199) rfl rfl ?_
        refine g_bipush C S (6 : Int32) at_199 (pc' := 201) rfl rfl ?_
        refine g_icmp_ne C S at_201 (pc' := 237) (pf := 204) (by decide) (by decide) rfl (fun hc201 => ?_) (fun hc201 => ?_)
        · refine g_iload C S at_237 (pc' := 239) rfl rfl ?_
          refine g_bipush C S (7 : Int32) at_239 (pc' := 241) rfl rfl ?_
          refine g_icmp_ne C S at_241 (pc' := 268) (pf := 244) (by decide) (by decide) rfl (fun hc241 => ?_) (fun hc241 => ?_)
          · refine g_iconst C S (4 : Int32) at_268 (pc' := 269) rfl rfl ?_
            refine g_istore C S at_269 (pc' := 271) rfl (L' := #[.val (.int p1), .val (.long q2), .second, .val (.long q3), .second, .val (.long q4), .second, .val (.long q5), .second, .val (.long q6), .second, .val (.int (Int32.ofNat A)), .val (.int (Int32.ofNat B)), .val (.int (Int32.ofNat Cc)), .val (.int (Int32.ofNat D)), .val (.int sh), .val (.long (hSm q2)), .second, .val (.long (hSm q3)), .second, .val (.long (hSm q4)), .second, .val (.long (hSm q5)), .second, .val (.long (hSm q6)), .second, .val (.ref a63), .val (.ref a64), .val (.int (0 : Int32)), .val (.int (0 : Int32)), .val (.int (0 : Int32)), .val (.int (0 : Int32)), .val (.int (4 : Int32)), .unset, .unset, .unset, .unset]) rfl ?_
            refine g_aload C S at_271 (pc' := 273) rfl rfl rfl ?_
            refine g_iconst C S (0 : Int32) at_273 (pc' := 274) rfl rfl ?_
            refine g_iload C S at_274 (pc' := 276) rfl rfl ?_
            refine g_iastore C S (i := 0) at_276 A_a63 (by decide) (by decide) ge_a63 (pc' := 277) rfl (fun T65 h65 S W65 B65 => ?_)
            have Zn := Nat.le_trans Zn (Nat.le_of_eq W65.size.symm)
            have A_a64 := A_a64.other W65 (Ne.symm ne_a63_a64)
            have A_a63 := B65
            refine g_aload C S at_277 (pc' := 279) rfl rfl rfl ?_
            refine g_iconst C S (1 : Int32) at_279 (pc' := 280) rfl rfl ?_
            refine g_iload C S at_280 (pc' := 282) rfl rfl ?_
            refine g_iastore C S (i := 1) at_282 A_a63 (by decide) (by decide) ge_a63 (pc' := 283) rfl (fun T66 h66 S W66 B66 => ?_)
            have Zn := Nat.le_trans Zn (Nat.le_of_eq W66.size.symm)
            have A_a64 := A_a64.other W66 (Ne.symm ne_a63_a64)
            have A_a63 := B66
            refine g_aload C S at_283 (pc' := 285) rfl rfl rfl ?_
            refine g_iconst C S (2 : Int32) at_285 (pc' := 286) rfl rfl ?_
            refine g_iload C S at_286 (pc' := 288) rfl rfl ?_
            refine g_iastore C S (i := 2) at_288 A_a63 (by decide) (by decide) ge_a63 (pc' := 289) rfl (fun T67 h67 S W67 B67 => ?_)
            have Zn := Nat.le_trans Zn (Nat.le_of_eq W67.size.symm)
            have A_a64 := A_a64.other W67 (Ne.symm ne_a63_a64)
            have A_a63 := B67
            refine g_aload C S at_289 (pc' := 291) rfl rfl rfl ?_
            refine g_iconst C S (3 : Int32) at_291 (pc' := 292) rfl rfl ?_
            refine g_iload C S at_292 (pc' := 294) rfl rfl ?_
            refine g_iastore C S (i := 3) at_294 A_a63 (by decide) (by decide) ge_a63 (pc' := 295) rfl (fun T68 h68 S W68 B68 => ?_)
            have Zn := Nat.le_trans Zn (Nat.le_of_eq W68.size.symm)
            have A_a64 := A_a64.other W68 (Ne.symm ne_a63_a64)
            have A_a63 := B68
            refine g_iload C S at_295 (pc' := 297) rfl rfl ?_
            refine g_iconst C S (3 : Int32) at_297 (pc' := 298) rfl rfl ?_
            refine g_icmp_ne C S at_298 (pc' := 316) (pf := 301) (by decide) (by decide) rfl (fun hc298 => ?_) (fun hc298 => ?_)
            · refine g_iload C S at_316 (pc' := 318) rfl rfl ?_
              refine g_iconst C S (4 : Int32) at_318 (pc' := 319) rfl rfl ?_
              refine g_icmp_ne C S at_319 (pc' := 337) (pf := 322) (by decide) (by decide) rfl (fun hc319 => ?_) (fun hc319 => ?_)
              · refine g_iconst C S (1 : Int32) at_337 (pc' := 338) rfl rfl ?_
                refine g_istore C S at_338 (pc' := 340) rfl (L' := #[.val (.int p1), .val (.long q2), .second, .val (.long q3), .second, .val (.long q4), .second, .val (.long q5), .second, .val (.long q6), .second, .val (.int (Int32.ofNat A)), .val (.int (Int32.ofNat B)), .val (.int (Int32.ofNat Cc)), .val (.int (Int32.ofNat D)), .val (.int sh), .val (.long (hSm q2)), .second, .val (.long (hSm q3)), .second, .val (.long (hSm q4)), .second, .val (.long (hSm q5)), .second, .val (.long (hSm q6)), .second, .val (.ref a63), .val (.ref a64), .val (.int (1 : Int32)), .val (.int (0 : Int32)), .val (.int (0 : Int32)), .val (.int (0 : Int32)), .val (.int (4 : Int32)), .unset, .unset, .unset, .unset]) rfl ?_
                refine g_iconst C S (2 : Int32) at_340 (pc' := 341) rfl rfl ?_
                refine g_istore C S at_341 (pc' := 343) rfl (L' := #[.val (.int p1), .val (.long q2), .second, .val (.long q3), .second, .val (.long q4), .second, .val (.long q5), .second, .val (.long q6), .second, .val (.int (Int32.ofNat A)), .val (.int (Int32.ofNat B)), .val (.int (Int32.ofNat Cc)), .val (.int (Int32.ofNat D)), .val (.int sh), .val (.long (hSm q2)), .second, .val (.long (hSm q3)), .second, .val (.long (hSm q4)), .second, .val (.long (hSm q5)), .second, .val (.long (hSm q6)), .second, .val (.ref a63), .val (.ref a64), .val (.int (1 : Int32)), .val (.int (2 : Int32)), .val (.int (0 : Int32)), .val (.int (0 : Int32)), .val (.int (4 : Int32)), .unset, .unset, .unset, .unset]) rfl ?_
                refine g_iconst C S (3 : Int32) at_343 (pc' := 344) rfl rfl ?_
                refine g_istore C S at_344 (pc' := 346) rfl (L' := #[.val (.int p1), .val (.long q2), .second, .val (.long q3), .second, .val (.long q4), .second, .val (.long q5), .second, .val (.long q6), .second, .val (.int (Int32.ofNat A)), .val (.int (Int32.ofNat B)), .val (.int (Int32.ofNat Cc)), .val (.int (Int32.ofNat D)), .val (.int sh), .val (.long (hSm q2)), .second, .val (.long (hSm q3)), .second, .val (.long (hSm q4)), .second, .val (.long (hSm q5)), .second, .val (.long (hSm q6)), .second, .val (.ref a63), .val (.ref a64), .val (.int (1 : Int32)), .val (.int (2 : Int32)), .val (.int (3 : Int32)), .val (.int (0 : Int32)), .val (.int (4 : Int32)), .unset, .unset, .unset, .unset]) rfl ?_
                refine g_iconst C S (3 : Int32) at_346 (pc' := 347) rfl rfl ?_
                refine g_istore C S at_347 (pc' := 349) rfl (L' := #[.val (.int p1), .val (.long q2), .second, .val (.long q3), .second, .val (.long q4), .second, .val (.long q5), .second, .val (.long q6), .second, .val (.int (Int32.ofNat A)), .val (.int (Int32.ofNat B)), .val (.int (Int32.ofNat Cc)), .val (.int (Int32.ofNat D)), .val (.int sh), .val (.long (hSm q2)), .second, .val (.long (hSm q3)), .second, .val (.long (hSm q4)), .second, .val (.long (hSm q5)), .second, .val (.long (hSm q6)), .second, .val (.ref a63), .val (.ref a64), .val (.int (1 : Int32)), .val (.int (2 : Int32)), .val (.int (3 : Int32)), .val (.int (3 : Int32)), .val (.int (4 : Int32)), .unset, .unset, .unset, .unset]) rfl ?_
                refine g_aload C S at_349 (pc' := 351) rfl rfl rfl ?_
                refine g_iload C S at_351 (pc' := 353) rfl rfl ?_
                refine g_iload C S at_353 (pc' := 355) rfl rfl ?_
                refine g_iastore C S (i := A) at_355 A_a64 (o32 (by omega)) (by omega) ge_a64 (pc' := 356) rfl (fun T69 h69 S W69 B69 => ?_)
                have Zn := Nat.le_trans Zn (Nat.le_of_eq W69.size.symm)
                have A_a63 := A_a63.other W69 ne_a63_a64
                have A_a64 := B69
                refine g_aload C S at_356 (pc' := 358) rfl rfl rfl ?_
                refine g_iload C S at_358 (pc' := 360) rfl rfl ?_
                refine g_iload C S at_360 (pc' := 362) rfl rfl ?_
                refine g_iastore C S (i := B) at_362 A_a64 (o32 (by omega)) (by omega) ge_a64 (pc' := 363) rfl (fun T70 h70 S W70 B70 => ?_)
                have Zn := Nat.le_trans Zn (Nat.le_of_eq W70.size.symm)
                have A_a63 := A_a63.other W70 ne_a63_a64
                have A_a64 := B70
                refine g_aload C S at_363 (pc' := 365) rfl rfl rfl ?_
                refine g_iload C S at_365 (pc' := 367) rfl rfl ?_
                refine g_iload C S at_367 (pc' := 369) rfl rfl ?_
                refine g_iastore C S (i := Cc) at_369 A_a64 (o32 (by omega)) (by omega) ge_a64 (pc' := 370) rfl (fun T71 h71 S W71 B71 => ?_)
                have Zn := Nat.le_trans Zn (Nat.le_of_eq W71.size.symm)
                have A_a63 := A_a63.other W71 ne_a63_a64
                have A_a64 := B71
                refine g_aload C S at_370 (pc' := 372) rfl rfl rfl ?_
                refine g_iload C S at_372 (pc' := 374) rfl rfl ?_
                refine g_iload C S at_374 (pc' := 376) rfl rfl ?_
                refine g_iastore C S (i := D) at_376 A_a64 (o32 (by omega)) (by omega) ge_a64 (pc' := 377) rfl (fun T72 h72 S W72 B72 => ?_)
                have Zn := Nat.le_trans Zn (Nat.le_of_eq W72.size.symm)
                have A_a63 := A_a63.other W72 ne_a63_a64
                have A_a64 := B72
                have A_a64 : Ary Z h72 a64 .int 256 (hL4 A B Cc D (1 : Int32) (2 : Int32) (3 : Int32) (3 : Int32)) := A_a64
                refine g_sipush C S (256 : Int32) at_377 (pc' := 380) rfl rfl ?_
                refine g_newarray C S (N := 256) (cap := 256) at_380 (hw _ (List.mem_of_getElem? (i := 6) rfl)) (by decide) (by decide) (by decide) (by decide) (by decide) (pc' := 382) rfl (fun T73 h73 a73 S g73 E73 A_a73 => ?_)
                have ne_a63_a73 : a63 ≠ a73 := ne_new g73 A_a63.lt
                have ne_a64_a73 : a64 ≠ a73 := ne_new g73 A_a64.lt
                have lt_a64_a73 : a64 < a73 := Nat.lt_of_lt_of_le A_a64.lt (Nat.le_of_eq g73.symm)
                have ge_a73 : n0 ≤ a73 := ge_of g73 Zn
                have Zn := Nat.le_trans Zn E73.1
                have A_a63 := A_a63.ext E73
                have A_a64 := A_a64.ext E73
                have A_a73 : Ary Z h73 a73 .long 256 (fun _ => (.long (0 : Int64))) := A_a73
                refine g_astore C S at_382 (pc' := 384) rfl rfl (L' := #[.val (.int p1), .val (.long q2), .second, .val (.long q3), .second, .val (.long q4), .second, .val (.long q5), .second, .val (.long q6), .second, .val (.int (Int32.ofNat A)), .val (.int (Int32.ofNat B)), .val (.int (Int32.ofNat Cc)), .val (.int (Int32.ofNat D)), .val (.int sh), .val (.long (hSm q2)), .second, .val (.long (hSm q3)), .second, .val (.long (hSm q4)), .second, .val (.long (hSm q5)), .second, .val (.long (hSm q6)), .second, .val (.ref a63), .val (.ref a64), .val (.int (1 : Int32)), .val (.int (2 : Int32)), .val (.int (3 : Int32)), .val (.int (3 : Int32)), .val (.int (4 : Int32)), .val (.ref a73), .unset, .unset, .unset]) rfl ?_
                refine g_aload C S at_384 (pc' := 386) rfl rfl rfl ?_
                refine g_iload C S at_386 (pc' := 388) rfl rfl ?_
                refine g_lload C S at_388 (pc' := 390) rfl rfl ?_
                refine g_lastore C S (i := A) at_390 A_a73 (o32 (by omega)) (by omega) ge_a73 (pc' := 391) rfl (fun T74 h74 S W74 B74 => ?_)
                have Zn := Nat.le_trans Zn (Nat.le_of_eq W74.size.symm)
                have A_a63 := A_a63.other W74 ne_a63_a73
                have A_a64 := A_a64.other W74 ne_a64_a73
                have A_a73 := B74
                refine g_aload C S at_391 (pc' := 393) rfl rfl rfl ?_
                refine g_iload C S at_393 (pc' := 395) rfl rfl ?_
                refine g_lload C S at_395 (pc' := 397) rfl rfl ?_
                refine g_lastore C S (i := B) at_397 A_a73 (o32 (by omega)) (by omega) ge_a73 (pc' := 398) rfl (fun T75 h75 S W75 B75 => ?_)
                have Zn := Nat.le_trans Zn (Nat.le_of_eq W75.size.symm)
                have A_a63 := A_a63.other W75 ne_a63_a73
                have A_a64 := A_a64.other W75 ne_a64_a73
                have A_a73 := B75
                refine g_aload C S at_398 (pc' := 400) rfl rfl rfl ?_
                refine g_iload C S at_400 (pc' := 402) rfl rfl ?_
                refine g_lload C S at_402 (pc' := 404) rfl rfl ?_
                refine g_lastore C S (i := Cc) at_404 A_a73 (o32 (by omega)) (by omega) ge_a73 (pc' := 405) rfl (fun T76 h76 S W76 B76 => ?_)
                have Zn := Nat.le_trans Zn (Nat.le_of_eq W76.size.symm)
                have A_a63 := A_a63.other W76 ne_a63_a73
                have A_a64 := A_a64.other W76 ne_a64_a73
                have A_a73 := B76
                refine g_aload C S at_405 (pc' := 407) rfl rfl rfl ?_
                refine g_iload C S at_407 (pc' := 409) rfl rfl ?_
                refine g_lload C S at_409 (pc' := 411) rfl rfl ?_
                refine g_lastore C S (i := D) at_411 A_a73 (o32 (by omega)) (by omega) ge_a73 (pc' := 412) rfl (fun T77 h77 S W77 B77 => ?_)
                have Zn := Nat.le_trans Zn (Nat.le_of_eq W77.size.symm)
                have A_a63 := A_a63.other W77 ne_a63_a73
                have A_a64 := A_a64.other W77 ne_a64_a73
                have A_a73 := B77
                refine g_aload C S at_412 (pc' := 414) rfl rfl rfl ?_
                refine g_iload C S at_414 (pc' := 416) rfl rfl ?_
                refine g_iconst C S (1 : Int32) at_416 (pc' := 417) rfl rfl ?_
                refine g_iadd C S at_417 (pc' := 418) rfl ?_
                refine g_lload C S at_418 (pc' := 420) rfl rfl ?_
                refine g_lastore C S (i := (A + 1)) at_420 A_a73 (by rw [o32_succ]; exact o32 (by omega)) (by omega) ge_a73 (pc' := 421) rfl (fun T78 h78 S W78 B78 => ?_)
                have Zn := Nat.le_trans Zn (Nat.le_of_eq W78.size.symm)
                have A_a63 := A_a63.other W78 ne_a63_a73
                have A_a64 := A_a64.other W78 ne_a64_a73
                have A_a73 := B78
                have A_a73 := A_a73.cg (hN5_eq A B Cc D (hSm q2) (hSm q3) (hSm q4) (hSm q5) (hSm q6) 256)
                refine g_new C S at_421 (hw _ (List.mem_of_getElem? (i := 7) rfl)) (hw _ (List.mem_of_getElem? (i := 8) rfl)) (hw _ (List.mem_of_getElem? (i := 9) rfl)) (by decide) (by decide) (pc' := 424) rfl (fun T79 h79 a79 S g79 E79 X79 D79 => ?_)
                have ne_a63_a79 : a63 ≠ a79 := ne_new g79 A_a63.lt
                have ne_a64_a79 : a64 ≠ a79 := ne_new g79 A_a64.lt
                have ne_a73_a79 : a73 ≠ a79 := ne_new g79 A_a73.lt
                have lt_a73_a79 : a73 < a79 := Nat.lt_of_lt_of_le A_a73.lt (Nat.le_of_eq g79.symm)
                have ge_a79 : n0 ≤ a79 := ge_of g79 Zn
                have Zn := Nat.le_trans Zn E79.1
                have A_a63 := A_a63.ext E79
                have A_a64 := A_a64.ext E79
                have A_a73 := A_a73.ext E79
                have F_m_aSymbols_a79 : Fld Z h79 a79 "leafpress/HuffmanCode" "m_aSymbols" "[I" .null := D79 (Or.inr (hw _ (List.mem_of_getElem? (i := 17) rfl))) (ty := (.array .int)) (by decide)
                have F_m_aCodes_a79 : Fld Z h79 a79 "leafpress/HuffmanCode" "m_aCodes" "[J" .null := D79 (Or.inr (hw _ (List.mem_of_getElem? (i := 19) rfl))) (ty := (.array .long)) (by decide)
                have F_m_aLengths_a79 : Fld Z h79 a79 "leafpress/HuffmanCode" "m_aLengths" "[B" .null := D79 (Or.inr (hw _ (List.mem_of_getElem? (i := 22) rfl))) (ty := (.array .byte)) (by decide)
                have F_m_aLengthCounts_a79 : Fld Z h79 a79 "leafpress/HuffmanCode" "m_aLengthCounts" "[I" .null := D79 (Or.inr (hw _ (List.mem_of_getElem? (i := 24) rfl))) (ty := (.array .int)) (by decide)
                have F_m_aFirstCodes_a79 : Fld Z h79 a79 "leafpress/HuffmanCode" "m_aFirstCodes" "[J" .null := D79 (Or.inr (hw _ (List.mem_of_getElem? (i := 26) rfl))) (ty := (.array .long)) (by decide)
                have F_m_aFirstSymbols_a79 : Fld Z h79 a79 "leafpress/HuffmanCode" "m_aFirstSymbols" "[I" .null := D79 (Or.inr (hw _ (List.mem_of_getElem? (i := 28) rfl))) (ty := (.array .int)) (by decide)
                have F_m_nValues_a79 : Fld Z h79 a79 "leafpress/HuffmanCode" "m_nValues" "I" (.int (0 : Int32)) := D79 (Or.inl (hw _ (List.mem_of_getElem? (i := 59) rfl))) (ty := .int) (by decide)
                have F_m_nLongest_a79 : Fld Z h79 a79 "leafpress/HuffmanCode" "m_nLongest" "I" (.int (0 : Int32)) := D79 (Or.inl (hw _ (List.mem_of_getElem? (i := 68) rfl))) (ty := .int) (by decide)
                have F_m_bPacked_a79 : Fld Z h79 a79 "leafpress/HuffmanCode" "m_bPacked" "Z" (.int (0 : Int32)) := D79 (Or.inl (hw _ (List.mem_of_getElem? (i := 70) rfl))) (ty := .boolean) (by decide)
                refine g_dup C S at_424 (pc' := 425) rfl rfl ?_
                refine g_callI C S (rm := ({ frames := 2, cells := 6, slots := 968, locals := 30 } : Room)) (W := 1) at_425 rfl (hw _ (List.mem_of_getElem? (i := 10) rfl)) (hw _ (List.mem_of_getElem? (i := 11) rfl)) (hw _ (List.mem_of_getElem? (i := 9) rfl)) (hw _ (List.mem_of_getElem? (i := 12) rfl)) (by decide) (c_ini l' Z a0 hw a79 h79 n0 Zn ge_a79 X79 F_m_aSymbols_a79 F_m_aCodes_a79 F_m_aLengths_a79 F_m_aLengthCounts_a79 F_m_aFirstCodes_a79 F_m_aFirstSymbols_a79 F_m_nLongest_a79 F_m_nValues_a79 F_m_bPacked_a79) (argsL := []) (r := [(.ref a79)]) rfl (lenOf pd_6 rfl) rfl (Nat.le_of_eq rfl) (by decide) (by decide) (by decide) (by decide) (pc' := 428) rfl (fun T80 h80 v80 q80 S => ?_)
                have lt_o_sy0 := X79.lt
                obtain ⟨sy, co, le, lc, fa, fb, rfl, K80, Y80, F_m_aSymbols_a79, F_m_aCodes_a79, F_m_aLengths_a79, F_m_aLengthCounts_a79, F_m_aFirstCodes_a79, F_m_aFirstSymbols_a79, F_m_nLongest_a79, F_m_nValues_a79, F_m_bPacked_a79, A_sy, A_co, A_le, A_lc, A_fa, A_fb, sz_sy, lt_sy_co, lt_co_le, lt_le_lc, lt_lc_fa, lt_fa_fb, -, g_sy, g_co, g_le, g_lc, g_fa, g_fb⟩ := q80
                have lt_a79_sy : a79 < sy := Nat.lt_of_lt_of_le lt_o_sy0 sz_sy
                have Zn := Nat.le_trans Zn K80.1
                have A_a63 := A_a63.keep K80 (ninS ne_a63_a79 nin0)
                have A_a64 := A_a64.keep K80 (ninS ne_a64_a79 nin0)
                have A_a73 := A_a73.keep K80 (ninS ne_a73_a79 nin0)
                show Gl p e below s _ n0 _ T80 (mkF m 428 #[.val (.int p1), .val (.long q2), .second, .val (.long q3), .second, .val (.long q4), .second, .val (.long q5), .second, .val (.long q6), .second, .val (.int (Int32.ofNat A)), .val (.int (Int32.ofNat B)), .val (.int (Int32.ofNat Cc)), .val (.int (Int32.ofNat D)), .val (.int sh), .val (.long (hSm q2)), .second, .val (.long (hSm q3)), .second, .val (.long (hSm q4)), .second, .val (.long (hSm q5)), .second, .val (.long (hSm q6)), .second, .val (.ref a63), .val (.ref a64), .val (.int (1 : Int32)), .val (.int (2 : Int32)), .val (.int (3 : Int32)), .val (.int (3 : Int32)), .val (.int (4 : Int32)), .val (.ref a73), .unset, .unset, .unset] [(.ref a79)])
                refine g_astore C S at_428 (pc' := 430) rfl rfl (L' := #[.val (.int p1), .val (.long q2), .second, .val (.long q3), .second, .val (.long q4), .second, .val (.long q5), .second, .val (.long q6), .second, .val (.int (Int32.ofNat A)), .val (.int (Int32.ofNat B)), .val (.int (Int32.ofNat Cc)), .val (.int (Int32.ofNat D)), .val (.int sh), .val (.long (hSm q2)), .second, .val (.long (hSm q3)), .second, .val (.long (hSm q4)), .second, .val (.long (hSm q5)), .second, .val (.long (hSm q6)), .second, .val (.ref a63), .val (.ref a64), .val (.int (1 : Int32)), .val (.int (2 : Int32)), .val (.int (3 : Int32)), .val (.int (3 : Int32)), .val (.int (4 : Int32)), .val (.ref a73), .val (.ref a79), .unset, .unset]) rfl ?_
                refine g_aload C S at_430 (pc' := 432) rfl rfl rfl ?_
                refine g_aload C S at_432 (pc' := 434) rfl rfl rfl ?_
                refine g_iload C S at_434 (pc' := 436) rfl rfl ?_
                refine g_aload C S at_436 (pc' := 438) rfl rfl rfl ?_
                refine g_callV C S (rm := ({ frames := 2, cells := 0, slots := 0, locals := 43 } : Room)) (W := 0) at_438 (hw _ (List.mem_of_getElem? (i := 36) rfl)) (hw _ (List.mem_of_getElem? (i := 37) rfl)) (notFace_of_selects (args := #[]) (mvT C.2.1 (hw _ (List.mem_of_getElem? (i := 39) rfl)))) (hw _ (List.mem_of_getElem? (i := 39) rfl)) (hw _ (List.mem_of_getElem? (i := 38) rfl)) (hw _ (List.mem_of_getElem? (i := 9) rfl)) (hw _ (List.mem_of_getElem? (i := 40) rfl)) (by decide) rfl Y80 (c_fil l' Z a0 hw a79 a63 a64 h80 n0 (fun i => [1, 2, 3, 3].getD i 0) (fun i => [A, B, Cc, D].getD i 0) 4 4 256 _ _ (by decide +kernel) (by decide) (by decide) (fa4 (show A < 256 by omega) (show B < 256 by omega) (show Cc < 256 by omega) (show D < 256 by omega)) (fs4 (show A < B by omega) (show B < Cc by omega) (show Cc < D by omega)) (fa4 rfl rfl rfl rfl) (fa4 (hL4_A (A := A) (B := B) (C := Cc) (D := D) (by omega) (by omega) (by omega)) (hL4_B (A := A) (B := B) (C := Cc) (D := D) (by omega) (by omega)) (hL4_C (A := A) (B := B) (C := Cc) (D := D) (by omega)) hL4_D) sy co le lc fa fb _ _ _ _ _ _ ge_a79 g_sy g_co g_le g_lc g_fa g_fb (nd9 lt_a63_a64 (Nat.lt_trans lt_a64_a73 lt_a73_a79) lt_a79_sy lt_sy_co lt_co_le lt_le_lc lt_lc_fa lt_fa_fb) Y80 F_m_aSymbols_a79 F_m_aCodes_a79 F_m_aLengths_a79 F_m_aLengthCounts_a79 F_m_aFirstCodes_a79 F_m_aFirstSymbols_a79 F_m_nLongest_a79 F_m_nValues_a79 F_m_bPacked_a79 A_a63 A_a64 A_lc A_fa A_fb A_sy A_co A_le) (argsL := [(.ref a63), (.int (4 : Int32)), (.ref a64)]) (r := []) rfl (lenOf pd_10 rfl) rfl (Nat.le_of_eq rfl) (by decide) (by decide) (by decide) (by decide) (pc' := 441) rfl (fun T81 h81 v81 q81 S => ?_)
                obtain ⟨rfl, K81, X81, G_co, F_m_aLengths_a79, G_pk, B_co, B_le⟩ := q81
                have A_a73 := A_a73.keep K81 (ninS (Nat.ne_of_lt lt_a73_a79) (ninS (Nat.ne_of_lt (Nat.lt_trans lt_a73_a79 lt_a79_sy)) (ninS (Nat.ne_of_lt (Nat.lt_trans (Nat.lt_trans lt_a73_a79 lt_a79_sy) lt_sy_co)) (ninS (Nat.ne_of_lt (Nat.lt_trans (Nat.lt_trans (Nat.lt_trans lt_a73_a79 lt_a79_sy) lt_sy_co) lt_co_le)) (ninS (Nat.ne_of_lt (Nat.lt_trans (Nat.lt_trans (Nat.lt_trans (Nat.lt_trans lt_a73_a79 lt_a79_sy) lt_sy_co) lt_co_le) lt_le_lc)) (ninS (Nat.ne_of_lt (Nat.lt_trans (Nat.lt_trans (Nat.lt_trans (Nat.lt_trans (Nat.lt_trans lt_a73_a79 lt_a79_sy) lt_sy_co) lt_co_le) lt_le_lc) lt_lc_fa)) (ninS (Nat.ne_of_lt (Nat.lt_trans (Nat.lt_trans (Nat.lt_trans (Nat.lt_trans (Nat.lt_trans (Nat.lt_trans lt_a73_a79 lt_a79_sy) lt_sy_co) lt_co_le) lt_le_lc) lt_lc_fa) lt_fa_fb)) nin0)))))))
                show Gl p e below s _ n0 _ T81 (mkF m 441 #[.val (.int p1), .val (.long q2), .second, .val (.long q3), .second, .val (.long q4), .second, .val (.long q5), .second, .val (.long q6), .second, .val (.int (Int32.ofNat A)), .val (.int (Int32.ofNat B)), .val (.int (Int32.ofNat Cc)), .val (.int (Int32.ofNat D)), .val (.int sh), .val (.long (hSm q2)), .second, .val (.long (hSm q3)), .second, .val (.long (hSm q4)), .second, .val (.long (hSm q5)), .second, .val (.long (hSm q6)), .second, .val (.ref a63), .val (.ref a64), .val (.int (1 : Int32)), .val (.int (2 : Int32)), .val (.int (3 : Int32)), .val (.int (3 : Int32)), .val (.int (4 : Int32)), .val (.ref a73), .val (.ref a79), .unset, .unset] [])
                refine g_lload C S at_441 (pc' := 443) rfl rfl ?_
                refine g_iload C S at_443 (pc' := 445) rfl rfl ?_
                refine g_i2l C S at_445 (pc' := 446) rfl ?_
                refine g_lmul C S at_446 (pc' := 447) rfl ?_
                refine g_lload C S at_447 (pc' := 449) rfl rfl ?_
                refine g_iload C S at_449 (pc' := 451) rfl rfl ?_
                refine g_i2l C S at_451 (pc' := 452) rfl ?_
                refine g_lmul C S at_452 (pc' := 453) rfl ?_
                refine g_ladd C S at_453 (pc' := 454) rfl ?_
                refine g_lload C S at_454 (pc' := 456) rfl rfl ?_
                refine g_iload C S at_456 (pc' := 458) rfl rfl ?_
                refine g_i2l C S at_458 (pc' := 459) rfl ?_
                refine g_lmul C S at_459 (pc' := 460) rfl ?_
                refine g_ladd C S at_460 (pc' := 461) rfl ?_
                refine g_lload C S at_461 (pc' := 463) rfl rfl ?_
                refine g_iload C S at_463 (pc' := 465) rfl rfl ?_
                refine g_i2l C S at_465 (pc' := 466) rfl ?_
                refine g_lmul C S at_466 (pc' := 467) rfl ?_
                refine g_ladd C S at_467 (pc' := 468) rfl ?_
                refine g_lstore C S at_468 (pc' := 470) rfl (L' := #[.val (.int p1), .val (.long q2), .second, .val (.long q3), .second, .val (.long q4), .second, .val (.long q5), .second, .val (.long q6), .second, .val (.int (Int32.ofNat A)), .val (.int (Int32.ofNat B)), .val (.int (Int32.ofNat Cc)), .val (.int (Int32.ofNat D)), .val (.int sh), .val (.long (hSm q2)), .second, .val (.long (hSm q3)), .second, .val (.long (hSm q4)), .second, .val (.long (hSm q5)), .second, .val (.long (hSm q6)), .second, .val (.ref a63), .val (.ref a64), .val (.int (1 : Int32)), .val (.int (2 : Int32)), .val (.int (3 : Int32)), .val (.int (3 : Int32)), .val (.int (4 : Int32)), .val (.ref a73), .val (.ref a79), .val (.long (((((hSm q2) * ((1 : Int32).toInt64)) + ((hSm q3) * ((2 : Int32).toInt64))) + ((hSm q4) * ((3 : Int32).toInt64))) + ((hSm q5) * ((3 : Int32).toInt64)))), .second]) rfl ?_
                refine g_aload C S at_470 (pc' := 472) rfl rfl rfl ?_
                refine g_aload C S at_472 (pc' := 474) rfl rfl rfl ?_
                refine g_callV C S (rm := ({ frames := 0, cells := 0, slots := 0, locals := 0 } : Room)) (W := 0) at_474 (hw _ (List.mem_of_getElem? (i := 71) rfl)) (hw _ (List.mem_of_getElem? (i := 72) rfl)) (notFace_of_selects (args := #[]) (mvT C.2.1 (hw _ (List.mem_of_getElem? (i := 74) rfl)))) (hw _ (List.mem_of_getElem? (i := 74) rfl)) (hw _ (List.mem_of_getElem? (i := 73) rfl)) (hw _ (List.mem_of_getElem? (i := 9) rfl)) (hw _ (List.mem_of_getElem? (i := 75) rfl)) (by decide) rfl X81 (c_bit l' Z a0 hw a79 a73 h81 n0 le _ (fun x => Int32.ofNat (hLe (fun i => [1, 2, 3, 3].getD i 0) (fun i => [A, B, Cc, D].getD i 0) 4 4 x)) F_m_aLengths_a79 A_a73 B_le) (argsL := [(.ref a73)]) (r := []) rfl (lenOf pd_11 rfl) rfl (Nat.le_of_eq rfl) (by decide) (by decide) (by decide) (by decide) (pc' := 477) rfl (fun T82 h82 v82 q82 S => ?_)
                obtain ⟨rfl, e82⟩ := q82; rw [e82] at S
                show Gl p e below s _ n0 _ T82 (mkF m 477 #[.val (.int p1), .val (.long q2), .second, .val (.long q3), .second, .val (.long q4), .second, .val (.long q5), .second, .val (.long q6), .second, .val (.int (Int32.ofNat A)), .val (.int (Int32.ofNat B)), .val (.int (Int32.ofNat Cc)), .val (.int (Int32.ofNat D)), .val (.int sh), .val (.long (hSm q2)), .second, .val (.long (hSm q3)), .second, .val (.long (hSm q4)), .second, .val (.long (hSm q5)), .second, .val (.long (hSm q6)), .second, .val (.ref a63), .val (.ref a64), .val (.int (1 : Int32)), .val (.int (2 : Int32)), .val (.int (3 : Int32)), .val (.int (3 : Int32)), .val (.int (4 : Int32)), .val (.ref a73), .val (.ref a79), .val (.long (((((hSm q2) * ((1 : Int32).toInt64)) + ((hSm q3) * ((2 : Int32).toInt64))) + ((hSm q4) * ((3 : Int32).toInt64))) + ((hSm q5) * ((3 : Int32).toInt64)))), .second] [(.long (hSum (hN5 A B Cc D (hSm q2) (hSm q3) (hSm q4) (hSm q5) (hSm q6)) (fun x => Int32.ofNat (hLe (fun i => [1, 2, 3, 3].getD i 0) (fun i => [A, B, Cc, D].getD i 0) 4 4 x)) 256))])
                refine g_lload C S at_477 (pc' := 479) rfl rfl ?_
                refine g_lcmp C S at_479 (pc' := 480) rfl ?_
                refine g_lif_ne C S at_480 (pc' := 487) (pf := 483) (by decide) (by decide) rfl (fun hc480 => absurd (hBits (A := A) (B := B) (C := Cc) (D := D) (ka := 1) (kb := 2) (kc := 3) (kd := 3) (by omega) (by omega) (by omega) (by omega) ((hLe_V (l := (fun i => [1, 2, 3, 3].getD i 0)) (V := (fun i => [A, B, Cc, D].getD i 0)) (fs4 (show A < B by omega) (show B < Cc by omega) (show Cc < D by omega)) ((hGood_spec (l := (fun i => [1, 2, 3, 3].getD i 0)) (n := 4) (by decide +kernel)).2.2.2.2.2) (i := 0) (by decide) 4 (by decide)).trans (by decide +kernel)) ((hLe_V (l := (fun i => [1, 2, 3, 3].getD i 0)) (V := (fun i => [A, B, Cc, D].getD i 0)) (fs4 (show A < B by omega) (show B < Cc by omega) (show Cc < D by omega)) ((hGood_spec (l := (fun i => [1, 2, 3, 3].getD i 0)) (n := 4) (by decide +kernel)).2.2.2.2.2) (i := 1) (by decide) 4 (by decide)).trans (by decide +kernel)) ((hLe_V (l := (fun i => [1, 2, 3, 3].getD i 0)) (V := (fun i => [A, B, Cc, D].getD i 0)) (fs4 (show A < B by omega) (show B < Cc by omega) (show Cc < D by omega)) ((hGood_spec (l := (fun i => [1, 2, 3, 3].getD i 0)) (n := 4) (by decide +kernel)).2.2.2.2.2) (i := 2) (by decide) 4 (by decide)).trans (by decide +kernel)) ((hLe_V (l := (fun i => [1, 2, 3, 3].getD i 0)) (V := (fun i => [A, B, Cc, D].getD i 0)) (fs4 (show A < B by omega) (show B < Cc by omega) (show Cc < D by omega)) ((hGood_spec (l := (fun i => [1, 2, 3, 3].getD i 0)) (n := 4) (by decide +kernel)).2.2.2.2.2) (i := 3) (by decide) 4 (by decide)).trans (by decide +kernel)) (fun x xA xB xC xD => hLe_no (l := (fun i => [1, 2, 3, 3].getD i 0)) (V := (fun i => [A, B, Cc, D].getD i 0)) ((hGood_spec (l := (fun i => [1, 2, 3, 3].getD i 0)) (n := 4) (by decide +kernel)).2.2.2.2.2) (fa4 xA xB xC xD) 4 (by decide))) hc480) (fun hc480 => ?_)
                refine g_iconst C S (1 : Int32) at_483 (pc' := 484) rfl rfl ?_
                refine g_goto C S at_484 (pc' := 488) (by decide) (by decide) ?_
                exact g_retZ C S at_488 (by decide) (by decide) (by decide) (rfl)
              · refine g_iconst C S (3 : Int32) at_322 (pc' := 323) rfl rfl ?_
                refine g_istore C S at_323 (pc' := 325) rfl (L' := #[.val (.int p1), .val (.long q2), .second, .val (.long q3), .second, .val (.long q4), .second, .val (.long q5), .second, .val (.long q6), .second, .val (.int (Int32.ofNat A)), .val (.int (Int32.ofNat B)), .val (.int (Int32.ofNat Cc)), .val (.int (Int32.ofNat D)), .val (.int sh), .val (.long (hSm q2)), .second, .val (.long (hSm q3)), .second, .val (.long (hSm q4)), .second, .val (.long (hSm q5)), .second, .val (.long (hSm q6)), .second, .val (.ref a63), .val (.ref a64), .val (.int (3 : Int32)), .val (.int (0 : Int32)), .val (.int (0 : Int32)), .val (.int (0 : Int32)), .val (.int (4 : Int32)), .unset, .unset, .unset, .unset]) rfl ?_
                refine g_iconst C S (1 : Int32) at_325 (pc' := 326) rfl rfl ?_
                refine g_istore C S at_326 (pc' := 328) rfl (L' := #[.val (.int p1), .val (.long q2), .second, .val (.long q3), .second, .val (.long q4), .second, .val (.long q5), .second, .val (.long q6), .second, .val (.int (Int32.ofNat A)), .val (.int (Int32.ofNat B)), .val (.int (Int32.ofNat Cc)), .val (.int (Int32.ofNat D)), .val (.int sh), .val (.long (hSm q2)), .second, .val (.long (hSm q3)), .second, .val (.long (hSm q4)), .second, .val (.long (hSm q5)), .second, .val (.long (hSm q6)), .second, .val (.ref a63), .val (.ref a64), .val (.int (3 : Int32)), .val (.int (1 : Int32)), .val (.int (0 : Int32)), .val (.int (0 : Int32)), .val (.int (4 : Int32)), .unset, .unset, .unset, .unset]) rfl ?_
                refine g_iconst C S (3 : Int32) at_328 (pc' := 329) rfl rfl ?_
                refine g_istore C S at_329 (pc' := 331) rfl (L' := #[.val (.int p1), .val (.long q2), .second, .val (.long q3), .second, .val (.long q4), .second, .val (.long q5), .second, .val (.long q6), .second, .val (.int (Int32.ofNat A)), .val (.int (Int32.ofNat B)), .val (.int (Int32.ofNat Cc)), .val (.int (Int32.ofNat D)), .val (.int sh), .val (.long (hSm q2)), .second, .val (.long (hSm q3)), .second, .val (.long (hSm q4)), .second, .val (.long (hSm q5)), .second, .val (.long (hSm q6)), .second, .val (.ref a63), .val (.ref a64), .val (.int (3 : Int32)), .val (.int (1 : Int32)), .val (.int (3 : Int32)), .val (.int (0 : Int32)), .val (.int (4 : Int32)), .unset, .unset, .unset, .unset]) rfl ?_
                refine g_iconst C S (2 : Int32) at_331 (pc' := 332) rfl rfl ?_
                refine g_istore C S at_332 (pc' := 334) rfl (L' := #[.val (.int p1), .val (.long q2), .second, .val (.long q3), .second, .val (.long q4), .second, .val (.long q5), .second, .val (.long q6), .second, .val (.int (Int32.ofNat A)), .val (.int (Int32.ofNat B)), .val (.int (Int32.ofNat Cc)), .val (.int (Int32.ofNat D)), .val (.int sh), .val (.long (hSm q2)), .second, .val (.long (hSm q3)), .second, .val (.long (hSm q4)), .second, .val (.long (hSm q5)), .second, .val (.long (hSm q6)), .second, .val (.ref a63), .val (.ref a64), .val (.int (3 : Int32)), .val (.int (1 : Int32)), .val (.int (3 : Int32)), .val (.int (2 : Int32)), .val (.int (4 : Int32)), .unset, .unset, .unset, .unset]) rfl ?_
                refine g_goto C S at_334 (pc' := 349) (by decide) (by decide) ?_
                refine g_aload C S at_349 (pc' := 351) rfl rfl rfl ?_
                refine g_iload C S at_351 (pc' := 353) rfl rfl ?_
                refine g_iload C S at_353 (pc' := 355) rfl rfl ?_
                refine g_iastore C S (i := A) at_355 A_a64 (o32 (by omega)) (by omega) ge_a64 (pc' := 356) rfl (fun T83 h83 S W83 B83 => ?_)
                have Zn := Nat.le_trans Zn (Nat.le_of_eq W83.size.symm)
                have A_a63 := A_a63.other W83 ne_a63_a64
                have A_a64 := B83
                refine g_aload C S at_356 (pc' := 358) rfl rfl rfl ?_
                refine g_iload C S at_358 (pc' := 360) rfl rfl ?_
                refine g_iload C S at_360 (pc' := 362) rfl rfl ?_
                refine g_iastore C S (i := B) at_362 A_a64 (o32 (by omega)) (by omega) ge_a64 (pc' := 363) rfl (fun T84 h84 S W84 B84 => ?_)
                have Zn := Nat.le_trans Zn (Nat.le_of_eq W84.size.symm)
                have A_a63 := A_a63.other W84 ne_a63_a64
                have A_a64 := B84
                refine g_aload C S at_363 (pc' := 365) rfl rfl rfl ?_
                refine g_iload C S at_365 (pc' := 367) rfl rfl ?_
                refine g_iload C S at_367 (pc' := 369) rfl rfl ?_
                refine g_iastore C S (i := Cc) at_369 A_a64 (o32 (by omega)) (by omega) ge_a64 (pc' := 370) rfl (fun T85 h85 S W85 B85 => ?_)
                have Zn := Nat.le_trans Zn (Nat.le_of_eq W85.size.symm)
                have A_a63 := A_a63.other W85 ne_a63_a64
                have A_a64 := B85
                refine g_aload C S at_370 (pc' := 372) rfl rfl rfl ?_
                refine g_iload C S at_372 (pc' := 374) rfl rfl ?_
                refine g_iload C S at_374 (pc' := 376) rfl rfl ?_
                refine g_iastore C S (i := D) at_376 A_a64 (o32 (by omega)) (by omega) ge_a64 (pc' := 377) rfl (fun T86 h86 S W86 B86 => ?_)
                have Zn := Nat.le_trans Zn (Nat.le_of_eq W86.size.symm)
                have A_a63 := A_a63.other W86 ne_a63_a64
                have A_a64 := B86
                have A_a64 : Ary Z h86 a64 .int 256 (hL4 A B Cc D (3 : Int32) (1 : Int32) (3 : Int32) (2 : Int32)) := A_a64
                refine g_sipush C S (256 : Int32) at_377 (pc' := 380) rfl rfl ?_
                refine g_newarray C S (N := 256) (cap := 256) at_380 (hw _ (List.mem_of_getElem? (i := 6) rfl)) (by decide) (by decide) (by decide) (by decide) (by decide) (pc' := 382) rfl (fun T87 h87 a87 S g87 E87 A_a87 => ?_)
                have ne_a63_a87 : a63 ≠ a87 := ne_new g87 A_a63.lt
                have ne_a64_a87 : a64 ≠ a87 := ne_new g87 A_a64.lt
                have lt_a64_a87 : a64 < a87 := Nat.lt_of_lt_of_le A_a64.lt (Nat.le_of_eq g87.symm)
                have ge_a87 : n0 ≤ a87 := ge_of g87 Zn
                have Zn := Nat.le_trans Zn E87.1
                have A_a63 := A_a63.ext E87
                have A_a64 := A_a64.ext E87
                have A_a87 : Ary Z h87 a87 .long 256 (fun _ => (.long (0 : Int64))) := A_a87
                refine g_astore C S at_382 (pc' := 384) rfl rfl (L' := #[.val (.int p1), .val (.long q2), .second, .val (.long q3), .second, .val (.long q4), .second, .val (.long q5), .second, .val (.long q6), .second, .val (.int (Int32.ofNat A)), .val (.int (Int32.ofNat B)), .val (.int (Int32.ofNat Cc)), .val (.int (Int32.ofNat D)), .val (.int sh), .val (.long (hSm q2)), .second, .val (.long (hSm q3)), .second, .val (.long (hSm q4)), .second, .val (.long (hSm q5)), .second, .val (.long (hSm q6)), .second, .val (.ref a63), .val (.ref a64), .val (.int (3 : Int32)), .val (.int (1 : Int32)), .val (.int (3 : Int32)), .val (.int (2 : Int32)), .val (.int (4 : Int32)), .val (.ref a87), .unset, .unset, .unset]) rfl ?_
                refine g_aload C S at_384 (pc' := 386) rfl rfl rfl ?_
                refine g_iload C S at_386 (pc' := 388) rfl rfl ?_
                refine g_lload C S at_388 (pc' := 390) rfl rfl ?_
                refine g_lastore C S (i := A) at_390 A_a87 (o32 (by omega)) (by omega) ge_a87 (pc' := 391) rfl (fun T88 h88 S W88 B88 => ?_)
                have Zn := Nat.le_trans Zn (Nat.le_of_eq W88.size.symm)
                have A_a63 := A_a63.other W88 ne_a63_a87
                have A_a64 := A_a64.other W88 ne_a64_a87
                have A_a87 := B88
                refine g_aload C S at_391 (pc' := 393) rfl rfl rfl ?_
                refine g_iload C S at_393 (pc' := 395) rfl rfl ?_
                refine g_lload C S at_395 (pc' := 397) rfl rfl ?_
                refine g_lastore C S (i := B) at_397 A_a87 (o32 (by omega)) (by omega) ge_a87 (pc' := 398) rfl (fun T89 h89 S W89 B89 => ?_)
                have Zn := Nat.le_trans Zn (Nat.le_of_eq W89.size.symm)
                have A_a63 := A_a63.other W89 ne_a63_a87
                have A_a64 := A_a64.other W89 ne_a64_a87
                have A_a87 := B89
                refine g_aload C S at_398 (pc' := 400) rfl rfl rfl ?_
                refine g_iload C S at_400 (pc' := 402) rfl rfl ?_
                refine g_lload C S at_402 (pc' := 404) rfl rfl ?_
                refine g_lastore C S (i := Cc) at_404 A_a87 (o32 (by omega)) (by omega) ge_a87 (pc' := 405) rfl (fun T90 h90 S W90 B90 => ?_)
                have Zn := Nat.le_trans Zn (Nat.le_of_eq W90.size.symm)
                have A_a63 := A_a63.other W90 ne_a63_a87
                have A_a64 := A_a64.other W90 ne_a64_a87
                have A_a87 := B90
                refine g_aload C S at_405 (pc' := 407) rfl rfl rfl ?_
                refine g_iload C S at_407 (pc' := 409) rfl rfl ?_
                refine g_lload C S at_409 (pc' := 411) rfl rfl ?_
                refine g_lastore C S (i := D) at_411 A_a87 (o32 (by omega)) (by omega) ge_a87 (pc' := 412) rfl (fun T91 h91 S W91 B91 => ?_)
                have Zn := Nat.le_trans Zn (Nat.le_of_eq W91.size.symm)
                have A_a63 := A_a63.other W91 ne_a63_a87
                have A_a64 := A_a64.other W91 ne_a64_a87
                have A_a87 := B91
                refine g_aload C S at_412 (pc' := 414) rfl rfl rfl ?_
                refine g_iload C S at_414 (pc' := 416) rfl rfl ?_
                refine g_iconst C S (1 : Int32) at_416 (pc' := 417) rfl rfl ?_
                refine g_iadd C S at_417 (pc' := 418) rfl ?_
                refine g_lload C S at_418 (pc' := 420) rfl rfl ?_
                refine g_lastore C S (i := (A + 1)) at_420 A_a87 (by rw [o32_succ]; exact o32 (by omega)) (by omega) ge_a87 (pc' := 421) rfl (fun T92 h92 S W92 B92 => ?_)
                have Zn := Nat.le_trans Zn (Nat.le_of_eq W92.size.symm)
                have A_a63 := A_a63.other W92 ne_a63_a87
                have A_a64 := A_a64.other W92 ne_a64_a87
                have A_a87 := B92
                have A_a87 := A_a87.cg (hN5_eq A B Cc D (hSm q2) (hSm q3) (hSm q4) (hSm q5) (hSm q6) 256)
                refine g_new C S at_421 (hw _ (List.mem_of_getElem? (i := 7) rfl)) (hw _ (List.mem_of_getElem? (i := 8) rfl)) (hw _ (List.mem_of_getElem? (i := 9) rfl)) (by decide) (by decide) (pc' := 424) rfl (fun T93 h93 a93 S g93 E93 X93 D93 => ?_)
                have ne_a63_a93 : a63 ≠ a93 := ne_new g93 A_a63.lt
                have ne_a64_a93 : a64 ≠ a93 := ne_new g93 A_a64.lt
                have ne_a87_a93 : a87 ≠ a93 := ne_new g93 A_a87.lt
                have lt_a87_a93 : a87 < a93 := Nat.lt_of_lt_of_le A_a87.lt (Nat.le_of_eq g93.symm)
                have ge_a93 : n0 ≤ a93 := ge_of g93 Zn
                have Zn := Nat.le_trans Zn E93.1
                have A_a63 := A_a63.ext E93
                have A_a64 := A_a64.ext E93
                have A_a87 := A_a87.ext E93
                have F_m_aSymbols_a93 : Fld Z h93 a93 "leafpress/HuffmanCode" "m_aSymbols" "[I" .null := D93 (Or.inr (hw _ (List.mem_of_getElem? (i := 17) rfl))) (ty := (.array .int)) (by decide)
                have F_m_aCodes_a93 : Fld Z h93 a93 "leafpress/HuffmanCode" "m_aCodes" "[J" .null := D93 (Or.inr (hw _ (List.mem_of_getElem? (i := 19) rfl))) (ty := (.array .long)) (by decide)
                have F_m_aLengths_a93 : Fld Z h93 a93 "leafpress/HuffmanCode" "m_aLengths" "[B" .null := D93 (Or.inr (hw _ (List.mem_of_getElem? (i := 22) rfl))) (ty := (.array .byte)) (by decide)
                have F_m_aLengthCounts_a93 : Fld Z h93 a93 "leafpress/HuffmanCode" "m_aLengthCounts" "[I" .null := D93 (Or.inr (hw _ (List.mem_of_getElem? (i := 24) rfl))) (ty := (.array .int)) (by decide)
                have F_m_aFirstCodes_a93 : Fld Z h93 a93 "leafpress/HuffmanCode" "m_aFirstCodes" "[J" .null := D93 (Or.inr (hw _ (List.mem_of_getElem? (i := 26) rfl))) (ty := (.array .long)) (by decide)
                have F_m_aFirstSymbols_a93 : Fld Z h93 a93 "leafpress/HuffmanCode" "m_aFirstSymbols" "[I" .null := D93 (Or.inr (hw _ (List.mem_of_getElem? (i := 28) rfl))) (ty := (.array .int)) (by decide)
                have F_m_nValues_a93 : Fld Z h93 a93 "leafpress/HuffmanCode" "m_nValues" "I" (.int (0 : Int32)) := D93 (Or.inl (hw _ (List.mem_of_getElem? (i := 59) rfl))) (ty := .int) (by decide)
                have F_m_nLongest_a93 : Fld Z h93 a93 "leafpress/HuffmanCode" "m_nLongest" "I" (.int (0 : Int32)) := D93 (Or.inl (hw _ (List.mem_of_getElem? (i := 68) rfl))) (ty := .int) (by decide)
                have F_m_bPacked_a93 : Fld Z h93 a93 "leafpress/HuffmanCode" "m_bPacked" "Z" (.int (0 : Int32)) := D93 (Or.inl (hw _ (List.mem_of_getElem? (i := 70) rfl))) (ty := .boolean) (by decide)
                refine g_dup C S at_424 (pc' := 425) rfl rfl ?_
                refine g_callI C S (rm := ({ frames := 2, cells := 6, slots := 968, locals := 30 } : Room)) (W := 1) at_425 rfl (hw _ (List.mem_of_getElem? (i := 10) rfl)) (hw _ (List.mem_of_getElem? (i := 11) rfl)) (hw _ (List.mem_of_getElem? (i := 9) rfl)) (hw _ (List.mem_of_getElem? (i := 12) rfl)) (by decide) (c_ini l' Z a0 hw a93 h93 n0 Zn ge_a93 X93 F_m_aSymbols_a93 F_m_aCodes_a93 F_m_aLengths_a93 F_m_aLengthCounts_a93 F_m_aFirstCodes_a93 F_m_aFirstSymbols_a93 F_m_nLongest_a93 F_m_nValues_a93 F_m_bPacked_a93) (argsL := []) (r := [(.ref a93)]) rfl (lenOf pd_6 rfl) rfl (Nat.le_of_eq rfl) (by decide) (by decide) (by decide) (by decide) (pc' := 428) rfl (fun T94 h94 v94 q94 S => ?_)
                have lt_o_sy0 := X93.lt
                obtain ⟨sy, co, le, lc, fa, fb, rfl, K94, Y94, F_m_aSymbols_a93, F_m_aCodes_a93, F_m_aLengths_a93, F_m_aLengthCounts_a93, F_m_aFirstCodes_a93, F_m_aFirstSymbols_a93, F_m_nLongest_a93, F_m_nValues_a93, F_m_bPacked_a93, A_sy, A_co, A_le, A_lc, A_fa, A_fb, sz_sy, lt_sy_co, lt_co_le, lt_le_lc, lt_lc_fa, lt_fa_fb, -, g_sy, g_co, g_le, g_lc, g_fa, g_fb⟩ := q94
                have lt_a93_sy : a93 < sy := Nat.lt_of_lt_of_le lt_o_sy0 sz_sy
                have Zn := Nat.le_trans Zn K94.1
                have A_a63 := A_a63.keep K94 (ninS ne_a63_a93 nin0)
                have A_a64 := A_a64.keep K94 (ninS ne_a64_a93 nin0)
                have A_a87 := A_a87.keep K94 (ninS ne_a87_a93 nin0)
                show Gl p e below s _ n0 _ T94 (mkF m 428 #[.val (.int p1), .val (.long q2), .second, .val (.long q3), .second, .val (.long q4), .second, .val (.long q5), .second, .val (.long q6), .second, .val (.int (Int32.ofNat A)), .val (.int (Int32.ofNat B)), .val (.int (Int32.ofNat Cc)), .val (.int (Int32.ofNat D)), .val (.int sh), .val (.long (hSm q2)), .second, .val (.long (hSm q3)), .second, .val (.long (hSm q4)), .second, .val (.long (hSm q5)), .second, .val (.long (hSm q6)), .second, .val (.ref a63), .val (.ref a64), .val (.int (3 : Int32)), .val (.int (1 : Int32)), .val (.int (3 : Int32)), .val (.int (2 : Int32)), .val (.int (4 : Int32)), .val (.ref a87), .unset, .unset, .unset] [(.ref a93)])
                refine g_astore C S at_428 (pc' := 430) rfl rfl (L' := #[.val (.int p1), .val (.long q2), .second, .val (.long q3), .second, .val (.long q4), .second, .val (.long q5), .second, .val (.long q6), .second, .val (.int (Int32.ofNat A)), .val (.int (Int32.ofNat B)), .val (.int (Int32.ofNat Cc)), .val (.int (Int32.ofNat D)), .val (.int sh), .val (.long (hSm q2)), .second, .val (.long (hSm q3)), .second, .val (.long (hSm q4)), .second, .val (.long (hSm q5)), .second, .val (.long (hSm q6)), .second, .val (.ref a63), .val (.ref a64), .val (.int (3 : Int32)), .val (.int (1 : Int32)), .val (.int (3 : Int32)), .val (.int (2 : Int32)), .val (.int (4 : Int32)), .val (.ref a87), .val (.ref a93), .unset, .unset]) rfl ?_
                refine g_aload C S at_430 (pc' := 432) rfl rfl rfl ?_
                refine g_aload C S at_432 (pc' := 434) rfl rfl rfl ?_
                refine g_iload C S at_434 (pc' := 436) rfl rfl ?_
                refine g_aload C S at_436 (pc' := 438) rfl rfl rfl ?_
                refine g_callV C S (rm := ({ frames := 2, cells := 0, slots := 0, locals := 43 } : Room)) (W := 0) at_438 (hw _ (List.mem_of_getElem? (i := 36) rfl)) (hw _ (List.mem_of_getElem? (i := 37) rfl)) (notFace_of_selects (args := #[]) (mvT C.2.1 (hw _ (List.mem_of_getElem? (i := 39) rfl)))) (hw _ (List.mem_of_getElem? (i := 39) rfl)) (hw _ (List.mem_of_getElem? (i := 38) rfl)) (hw _ (List.mem_of_getElem? (i := 9) rfl)) (hw _ (List.mem_of_getElem? (i := 40) rfl)) (by decide) rfl Y94 (c_fil l' Z a0 hw a93 a63 a64 h94 n0 (fun i => [3, 1, 3, 2].getD i 0) (fun i => [A, B, Cc, D].getD i 0) 4 4 256 _ _ (by decide +kernel) (by decide) (by decide) (fa4 (show A < 256 by omega) (show B < 256 by omega) (show Cc < 256 by omega) (show D < 256 by omega)) (fs4 (show A < B by omega) (show B < Cc by omega) (show Cc < D by omega)) (fa4 rfl rfl rfl rfl) (fa4 (hL4_A (A := A) (B := B) (C := Cc) (D := D) (by omega) (by omega) (by omega)) (hL4_B (A := A) (B := B) (C := Cc) (D := D) (by omega) (by omega)) (hL4_C (A := A) (B := B) (C := Cc) (D := D) (by omega)) hL4_D) sy co le lc fa fb _ _ _ _ _ _ ge_a93 g_sy g_co g_le g_lc g_fa g_fb (nd9 lt_a63_a64 (Nat.lt_trans lt_a64_a87 lt_a87_a93) lt_a93_sy lt_sy_co lt_co_le lt_le_lc lt_lc_fa lt_fa_fb) Y94 F_m_aSymbols_a93 F_m_aCodes_a93 F_m_aLengths_a93 F_m_aLengthCounts_a93 F_m_aFirstCodes_a93 F_m_aFirstSymbols_a93 F_m_nLongest_a93 F_m_nValues_a93 F_m_bPacked_a93 A_a63 A_a64 A_lc A_fa A_fb A_sy A_co A_le) (argsL := [(.ref a63), (.int (4 : Int32)), (.ref a64)]) (r := []) rfl (lenOf pd_10 rfl) rfl (Nat.le_of_eq rfl) (by decide) (by decide) (by decide) (by decide) (pc' := 441) rfl (fun T95 h95 v95 q95 S => ?_)
                obtain ⟨rfl, K95, X95, G_co, F_m_aLengths_a93, G_pk, B_co, B_le⟩ := q95
                have A_a87 := A_a87.keep K95 (ninS (Nat.ne_of_lt lt_a87_a93) (ninS (Nat.ne_of_lt (Nat.lt_trans lt_a87_a93 lt_a93_sy)) (ninS (Nat.ne_of_lt (Nat.lt_trans (Nat.lt_trans lt_a87_a93 lt_a93_sy) lt_sy_co)) (ninS (Nat.ne_of_lt (Nat.lt_trans (Nat.lt_trans (Nat.lt_trans lt_a87_a93 lt_a93_sy) lt_sy_co) lt_co_le)) (ninS (Nat.ne_of_lt (Nat.lt_trans (Nat.lt_trans (Nat.lt_trans (Nat.lt_trans lt_a87_a93 lt_a93_sy) lt_sy_co) lt_co_le) lt_le_lc)) (ninS (Nat.ne_of_lt (Nat.lt_trans (Nat.lt_trans (Nat.lt_trans (Nat.lt_trans (Nat.lt_trans lt_a87_a93 lt_a93_sy) lt_sy_co) lt_co_le) lt_le_lc) lt_lc_fa)) (ninS (Nat.ne_of_lt (Nat.lt_trans (Nat.lt_trans (Nat.lt_trans (Nat.lt_trans (Nat.lt_trans (Nat.lt_trans lt_a87_a93 lt_a93_sy) lt_sy_co) lt_co_le) lt_le_lc) lt_lc_fa) lt_fa_fb)) nin0)))))))
                show Gl p e below s _ n0 _ T95 (mkF m 441 #[.val (.int p1), .val (.long q2), .second, .val (.long q3), .second, .val (.long q4), .second, .val (.long q5), .second, .val (.long q6), .second, .val (.int (Int32.ofNat A)), .val (.int (Int32.ofNat B)), .val (.int (Int32.ofNat Cc)), .val (.int (Int32.ofNat D)), .val (.int sh), .val (.long (hSm q2)), .second, .val (.long (hSm q3)), .second, .val (.long (hSm q4)), .second, .val (.long (hSm q5)), .second, .val (.long (hSm q6)), .second, .val (.ref a63), .val (.ref a64), .val (.int (3 : Int32)), .val (.int (1 : Int32)), .val (.int (3 : Int32)), .val (.int (2 : Int32)), .val (.int (4 : Int32)), .val (.ref a87), .val (.ref a93), .unset, .unset] [])
                refine g_lload C S at_441 (pc' := 443) rfl rfl ?_
                refine g_iload C S at_443 (pc' := 445) rfl rfl ?_
                refine g_i2l C S at_445 (pc' := 446) rfl ?_
                refine g_lmul C S at_446 (pc' := 447) rfl ?_
                refine g_lload C S at_447 (pc' := 449) rfl rfl ?_
                refine g_iload C S at_449 (pc' := 451) rfl rfl ?_
                refine g_i2l C S at_451 (pc' := 452) rfl ?_
                refine g_lmul C S at_452 (pc' := 453) rfl ?_
                refine g_ladd C S at_453 (pc' := 454) rfl ?_
                refine g_lload C S at_454 (pc' := 456) rfl rfl ?_
                refine g_iload C S at_456 (pc' := 458) rfl rfl ?_
                refine g_i2l C S at_458 (pc' := 459) rfl ?_
                refine g_lmul C S at_459 (pc' := 460) rfl ?_
                refine g_ladd C S at_460 (pc' := 461) rfl ?_
                refine g_lload C S at_461 (pc' := 463) rfl rfl ?_
                refine g_iload C S at_463 (pc' := 465) rfl rfl ?_
                refine g_i2l C S at_465 (pc' := 466) rfl ?_
                refine g_lmul C S at_466 (pc' := 467) rfl ?_
                refine g_ladd C S at_467 (pc' := 468) rfl ?_
                refine g_lstore C S at_468 (pc' := 470) rfl (L' := #[.val (.int p1), .val (.long q2), .second, .val (.long q3), .second, .val (.long q4), .second, .val (.long q5), .second, .val (.long q6), .second, .val (.int (Int32.ofNat A)), .val (.int (Int32.ofNat B)), .val (.int (Int32.ofNat Cc)), .val (.int (Int32.ofNat D)), .val (.int sh), .val (.long (hSm q2)), .second, .val (.long (hSm q3)), .second, .val (.long (hSm q4)), .second, .val (.long (hSm q5)), .second, .val (.long (hSm q6)), .second, .val (.ref a63), .val (.ref a64), .val (.int (3 : Int32)), .val (.int (1 : Int32)), .val (.int (3 : Int32)), .val (.int (2 : Int32)), .val (.int (4 : Int32)), .val (.ref a87), .val (.ref a93), .val (.long (((((hSm q2) * ((3 : Int32).toInt64)) + ((hSm q3) * ((1 : Int32).toInt64))) + ((hSm q4) * ((3 : Int32).toInt64))) + ((hSm q5) * ((2 : Int32).toInt64)))), .second]) rfl ?_
                refine g_aload C S at_470 (pc' := 472) rfl rfl rfl ?_
                refine g_aload C S at_472 (pc' := 474) rfl rfl rfl ?_
                refine g_callV C S (rm := ({ frames := 0, cells := 0, slots := 0, locals := 0 } : Room)) (W := 0) at_474 (hw _ (List.mem_of_getElem? (i := 71) rfl)) (hw _ (List.mem_of_getElem? (i := 72) rfl)) (notFace_of_selects (args := #[]) (mvT C.2.1 (hw _ (List.mem_of_getElem? (i := 74) rfl)))) (hw _ (List.mem_of_getElem? (i := 74) rfl)) (hw _ (List.mem_of_getElem? (i := 73) rfl)) (hw _ (List.mem_of_getElem? (i := 9) rfl)) (hw _ (List.mem_of_getElem? (i := 75) rfl)) (by decide) rfl X95 (c_bit l' Z a0 hw a93 a87 h95 n0 le _ (fun x => Int32.ofNat (hLe (fun i => [3, 1, 3, 2].getD i 0) (fun i => [A, B, Cc, D].getD i 0) 4 4 x)) F_m_aLengths_a93 A_a87 B_le) (argsL := [(.ref a87)]) (r := []) rfl (lenOf pd_11 rfl) rfl (Nat.le_of_eq rfl) (by decide) (by decide) (by decide) (by decide) (pc' := 477) rfl (fun T96 h96 v96 q96 S => ?_)
                obtain ⟨rfl, e96⟩ := q96; rw [e96] at S
                show Gl p e below s _ n0 _ T96 (mkF m 477 #[.val (.int p1), .val (.long q2), .second, .val (.long q3), .second, .val (.long q4), .second, .val (.long q5), .second, .val (.long q6), .second, .val (.int (Int32.ofNat A)), .val (.int (Int32.ofNat B)), .val (.int (Int32.ofNat Cc)), .val (.int (Int32.ofNat D)), .val (.int sh), .val (.long (hSm q2)), .second, .val (.long (hSm q3)), .second, .val (.long (hSm q4)), .second, .val (.long (hSm q5)), .second, .val (.long (hSm q6)), .second, .val (.ref a63), .val (.ref a64), .val (.int (3 : Int32)), .val (.int (1 : Int32)), .val (.int (3 : Int32)), .val (.int (2 : Int32)), .val (.int (4 : Int32)), .val (.ref a87), .val (.ref a93), .val (.long (((((hSm q2) * ((3 : Int32).toInt64)) + ((hSm q3) * ((1 : Int32).toInt64))) + ((hSm q4) * ((3 : Int32).toInt64))) + ((hSm q5) * ((2 : Int32).toInt64)))), .second] [(.long (hSum (hN5 A B Cc D (hSm q2) (hSm q3) (hSm q4) (hSm q5) (hSm q6)) (fun x => Int32.ofNat (hLe (fun i => [3, 1, 3, 2].getD i 0) (fun i => [A, B, Cc, D].getD i 0) 4 4 x)) 256))])
                refine g_lload C S at_477 (pc' := 479) rfl rfl ?_
                refine g_lcmp C S at_479 (pc' := 480) rfl ?_
                refine g_lif_ne C S at_480 (pc' := 487) (pf := 483) (by decide) (by decide) rfl (fun hc480 => absurd (hBits (A := A) (B := B) (C := Cc) (D := D) (ka := 3) (kb := 1) (kc := 3) (kd := 2) (by omega) (by omega) (by omega) (by omega) ((hLe_V (l := (fun i => [3, 1, 3, 2].getD i 0)) (V := (fun i => [A, B, Cc, D].getD i 0)) (fs4 (show A < B by omega) (show B < Cc by omega) (show Cc < D by omega)) ((hGood_spec (l := (fun i => [3, 1, 3, 2].getD i 0)) (n := 4) (by decide +kernel)).2.2.2.2.2) (i := 0) (by decide) 4 (by decide)).trans (by decide +kernel)) ((hLe_V (l := (fun i => [3, 1, 3, 2].getD i 0)) (V := (fun i => [A, B, Cc, D].getD i 0)) (fs4 (show A < B by omega) (show B < Cc by omega) (show Cc < D by omega)) ((hGood_spec (l := (fun i => [3, 1, 3, 2].getD i 0)) (n := 4) (by decide +kernel)).2.2.2.2.2) (i := 1) (by decide) 4 (by decide)).trans (by decide +kernel)) ((hLe_V (l := (fun i => [3, 1, 3, 2].getD i 0)) (V := (fun i => [A, B, Cc, D].getD i 0)) (fs4 (show A < B by omega) (show B < Cc by omega) (show Cc < D by omega)) ((hGood_spec (l := (fun i => [3, 1, 3, 2].getD i 0)) (n := 4) (by decide +kernel)).2.2.2.2.2) (i := 2) (by decide) 4 (by decide)).trans (by decide +kernel)) ((hLe_V (l := (fun i => [3, 1, 3, 2].getD i 0)) (V := (fun i => [A, B, Cc, D].getD i 0)) (fs4 (show A < B by omega) (show B < Cc by omega) (show Cc < D by omega)) ((hGood_spec (l := (fun i => [3, 1, 3, 2].getD i 0)) (n := 4) (by decide +kernel)).2.2.2.2.2) (i := 3) (by decide) 4 (by decide)).trans (by decide +kernel)) (fun x xA xB xC xD => hLe_no (l := (fun i => [3, 1, 3, 2].getD i 0)) (V := (fun i => [A, B, Cc, D].getD i 0)) ((hGood_spec (l := (fun i => [3, 1, 3, 2].getD i 0)) (n := 4) (by decide +kernel)).2.2.2.2.2) (fa4 xA xB xC xD) 4 (by decide))) hc480) (fun hc480 => ?_)
                refine g_iconst C S (1 : Int32) at_483 (pc' := 484) rfl rfl ?_
                refine g_goto C S at_484 (pc' := 488) (by decide) (by decide) ?_
                exact g_retZ C S at_488 (by decide) (by decide) (by decide) (rfl)
            · refine g_iconst C S (2 : Int32) at_301 (pc' := 302) rfl rfl ?_
              refine g_istore C S at_302 (pc' := 304) rfl (L' := #[.val (.int p1), .val (.long q2), .second, .val (.long q3), .second, .val (.long q4), .second, .val (.long q5), .second, .val (.long q6), .second, .val (.int (Int32.ofNat A)), .val (.int (Int32.ofNat B)), .val (.int (Int32.ofNat Cc)), .val (.int (Int32.ofNat D)), .val (.int sh), .val (.long (hSm q2)), .second, .val (.long (hSm q3)), .second, .val (.long (hSm q4)), .second, .val (.long (hSm q5)), .second, .val (.long (hSm q6)), .second, .val (.ref a63), .val (.ref a64), .val (.int (2 : Int32)), .val (.int (0 : Int32)), .val (.int (0 : Int32)), .val (.int (0 : Int32)), .val (.int (4 : Int32)), .unset, .unset, .unset, .unset]) rfl ?_
              refine g_iconst C S (2 : Int32) at_304 (pc' := 305) rfl rfl ?_
              refine g_istore C S at_305 (pc' := 307) rfl (L' := #[.val (.int p1), .val (.long q2), .second, .val (.long q3), .second, .val (.long q4), .second, .val (.long q5), .second, .val (.long q6), .second, .val (.int (Int32.ofNat A)), .val (.int (Int32.ofNat B)), .val (.int (Int32.ofNat Cc)), .val (.int (Int32.ofNat D)), .val (.int sh), .val (.long (hSm q2)), .second, .val (.long (hSm q3)), .second, .val (.long (hSm q4)), .second, .val (.long (hSm q5)), .second, .val (.long (hSm q6)), .second, .val (.ref a63), .val (.ref a64), .val (.int (2 : Int32)), .val (.int (2 : Int32)), .val (.int (0 : Int32)), .val (.int (0 : Int32)), .val (.int (4 : Int32)), .unset, .unset, .unset, .unset]) rfl ?_
              refine g_iconst C S (2 : Int32) at_307 (pc' := 308) rfl rfl ?_
              refine g_istore C S at_308 (pc' := 310) rfl (L' := #[.val (.int p1), .val (.long q2), .second, .val (.long q3), .second, .val (.long q4), .second, .val (.long q5), .second, .val (.long q6), .second, .val (.int (Int32.ofNat A)), .val (.int (Int32.ofNat B)), .val (.int (Int32.ofNat Cc)), .val (.int (Int32.ofNat D)), .val (.int sh), .val (.long (hSm q2)), .second, .val (.long (hSm q3)), .second, .val (.long (hSm q4)), .second, .val (.long (hSm q5)), .second, .val (.long (hSm q6)), .second, .val (.ref a63), .val (.ref a64), .val (.int (2 : Int32)), .val (.int (2 : Int32)), .val (.int (2 : Int32)), .val (.int (0 : Int32)), .val (.int (4 : Int32)), .unset, .unset, .unset, .unset]) rfl ?_
              refine g_iconst C S (2 : Int32) at_310 (pc' := 311) rfl rfl ?_
              refine g_istore C S at_311 (pc' := 313) rfl (L' := #[.val (.int p1), .val (.long q2), .second, .val (.long q3), .second, .val (.long q4), .second, .val (.long q5), .second, .val (.long q6), .second, .val (.int (Int32.ofNat A)), .val (.int (Int32.ofNat B)), .val (.int (Int32.ofNat Cc)), .val (.int (Int32.ofNat D)), .val (.int sh), .val (.long (hSm q2)), .second, .val (.long (hSm q3)), .second, .val (.long (hSm q4)), .second, .val (.long (hSm q5)), .second, .val (.long (hSm q6)), .second, .val (.ref a63), .val (.ref a64), .val (.int (2 : Int32)), .val (.int (2 : Int32)), .val (.int (2 : Int32)), .val (.int (2 : Int32)), .val (.int (4 : Int32)), .unset, .unset, .unset, .unset]) rfl ?_
              refine g_goto C S at_313 (pc' := 349) (by decide) (by decide) ?_
              refine g_aload C S at_349 (pc' := 351) rfl rfl rfl ?_
              refine g_iload C S at_351 (pc' := 353) rfl rfl ?_
              refine g_iload C S at_353 (pc' := 355) rfl rfl ?_
              refine g_iastore C S (i := A) at_355 A_a64 (o32 (by omega)) (by omega) ge_a64 (pc' := 356) rfl (fun T97 h97 S W97 B97 => ?_)
              have Zn := Nat.le_trans Zn (Nat.le_of_eq W97.size.symm)
              have A_a63 := A_a63.other W97 ne_a63_a64
              have A_a64 := B97
              refine g_aload C S at_356 (pc' := 358) rfl rfl rfl ?_
              refine g_iload C S at_358 (pc' := 360) rfl rfl ?_
              refine g_iload C S at_360 (pc' := 362) rfl rfl ?_
              refine g_iastore C S (i := B) at_362 A_a64 (o32 (by omega)) (by omega) ge_a64 (pc' := 363) rfl (fun T98 h98 S W98 B98 => ?_)
              have Zn := Nat.le_trans Zn (Nat.le_of_eq W98.size.symm)
              have A_a63 := A_a63.other W98 ne_a63_a64
              have A_a64 := B98
              refine g_aload C S at_363 (pc' := 365) rfl rfl rfl ?_
              refine g_iload C S at_365 (pc' := 367) rfl rfl ?_
              refine g_iload C S at_367 (pc' := 369) rfl rfl ?_
              refine g_iastore C S (i := Cc) at_369 A_a64 (o32 (by omega)) (by omega) ge_a64 (pc' := 370) rfl (fun T99 h99 S W99 B99 => ?_)
              have Zn := Nat.le_trans Zn (Nat.le_of_eq W99.size.symm)
              have A_a63 := A_a63.other W99 ne_a63_a64
              have A_a64 := B99
              refine g_aload C S at_370 (pc' := 372) rfl rfl rfl ?_
              refine g_iload C S at_372 (pc' := 374) rfl rfl ?_
              refine g_iload C S at_374 (pc' := 376) rfl rfl ?_
              refine g_iastore C S (i := D) at_376 A_a64 (o32 (by omega)) (by omega) ge_a64 (pc' := 377) rfl (fun T100 h100 S W100 B100 => ?_)
              have Zn := Nat.le_trans Zn (Nat.le_of_eq W100.size.symm)
              have A_a63 := A_a63.other W100 ne_a63_a64
              have A_a64 := B100
              have A_a64 : Ary Z h100 a64 .int 256 (hL4 A B Cc D (2 : Int32) (2 : Int32) (2 : Int32) (2 : Int32)) := A_a64
              refine g_sipush C S (256 : Int32) at_377 (pc' := 380) rfl rfl ?_
              refine g_newarray C S (N := 256) (cap := 256) at_380 (hw _ (List.mem_of_getElem? (i := 6) rfl)) (by decide) (by decide) (by decide) (by decide) (by decide) (pc' := 382) rfl (fun T101 h101 a101 S g101 E101 A_a101 => ?_)
              have ne_a63_a101 : a63 ≠ a101 := ne_new g101 A_a63.lt
              have ne_a64_a101 : a64 ≠ a101 := ne_new g101 A_a64.lt
              have lt_a64_a101 : a64 < a101 := Nat.lt_of_lt_of_le A_a64.lt (Nat.le_of_eq g101.symm)
              have ge_a101 : n0 ≤ a101 := ge_of g101 Zn
              have Zn := Nat.le_trans Zn E101.1
              have A_a63 := A_a63.ext E101
              have A_a64 := A_a64.ext E101
              have A_a101 : Ary Z h101 a101 .long 256 (fun _ => (.long (0 : Int64))) := A_a101
              refine g_astore C S at_382 (pc' := 384) rfl rfl (L' := #[.val (.int p1), .val (.long q2), .second, .val (.long q3), .second, .val (.long q4), .second, .val (.long q5), .second, .val (.long q6), .second, .val (.int (Int32.ofNat A)), .val (.int (Int32.ofNat B)), .val (.int (Int32.ofNat Cc)), .val (.int (Int32.ofNat D)), .val (.int sh), .val (.long (hSm q2)), .second, .val (.long (hSm q3)), .second, .val (.long (hSm q4)), .second, .val (.long (hSm q5)), .second, .val (.long (hSm q6)), .second, .val (.ref a63), .val (.ref a64), .val (.int (2 : Int32)), .val (.int (2 : Int32)), .val (.int (2 : Int32)), .val (.int (2 : Int32)), .val (.int (4 : Int32)), .val (.ref a101), .unset, .unset, .unset]) rfl ?_
              refine g_aload C S at_384 (pc' := 386) rfl rfl rfl ?_
              refine g_iload C S at_386 (pc' := 388) rfl rfl ?_
              refine g_lload C S at_388 (pc' := 390) rfl rfl ?_
              refine g_lastore C S (i := A) at_390 A_a101 (o32 (by omega)) (by omega) ge_a101 (pc' := 391) rfl (fun T102 h102 S W102 B102 => ?_)
              have Zn := Nat.le_trans Zn (Nat.le_of_eq W102.size.symm)
              have A_a63 := A_a63.other W102 ne_a63_a101
              have A_a64 := A_a64.other W102 ne_a64_a101
              have A_a101 := B102
              refine g_aload C S at_391 (pc' := 393) rfl rfl rfl ?_
              refine g_iload C S at_393 (pc' := 395) rfl rfl ?_
              refine g_lload C S at_395 (pc' := 397) rfl rfl ?_
              refine g_lastore C S (i := B) at_397 A_a101 (o32 (by omega)) (by omega) ge_a101 (pc' := 398) rfl (fun T103 h103 S W103 B103 => ?_)
              have Zn := Nat.le_trans Zn (Nat.le_of_eq W103.size.symm)
              have A_a63 := A_a63.other W103 ne_a63_a101
              have A_a64 := A_a64.other W103 ne_a64_a101
              have A_a101 := B103
              refine g_aload C S at_398 (pc' := 400) rfl rfl rfl ?_
              refine g_iload C S at_400 (pc' := 402) rfl rfl ?_
              refine g_lload C S at_402 (pc' := 404) rfl rfl ?_
              refine g_lastore C S (i := Cc) at_404 A_a101 (o32 (by omega)) (by omega) ge_a101 (pc' := 405) rfl (fun T104 h104 S W104 B104 => ?_)
              have Zn := Nat.le_trans Zn (Nat.le_of_eq W104.size.symm)
              have A_a63 := A_a63.other W104 ne_a63_a101
              have A_a64 := A_a64.other W104 ne_a64_a101
              have A_a101 := B104
              refine g_aload C S at_405 (pc' := 407) rfl rfl rfl ?_
              refine g_iload C S at_407 (pc' := 409) rfl rfl ?_
              refine g_lload C S at_409 (pc' := 411) rfl rfl ?_
              refine g_lastore C S (i := D) at_411 A_a101 (o32 (by omega)) (by omega) ge_a101 (pc' := 412) rfl (fun T105 h105 S W105 B105 => ?_)
              have Zn := Nat.le_trans Zn (Nat.le_of_eq W105.size.symm)
              have A_a63 := A_a63.other W105 ne_a63_a101
              have A_a64 := A_a64.other W105 ne_a64_a101
              have A_a101 := B105
              refine g_aload C S at_412 (pc' := 414) rfl rfl rfl ?_
              refine g_iload C S at_414 (pc' := 416) rfl rfl ?_
              refine g_iconst C S (1 : Int32) at_416 (pc' := 417) rfl rfl ?_
              refine g_iadd C S at_417 (pc' := 418) rfl ?_
              refine g_lload C S at_418 (pc' := 420) rfl rfl ?_
              refine g_lastore C S (i := (A + 1)) at_420 A_a101 (by rw [o32_succ]; exact o32 (by omega)) (by omega) ge_a101 (pc' := 421) rfl (fun T106 h106 S W106 B106 => ?_)
              have Zn := Nat.le_trans Zn (Nat.le_of_eq W106.size.symm)
              have A_a63 := A_a63.other W106 ne_a63_a101
              have A_a64 := A_a64.other W106 ne_a64_a101
              have A_a101 := B106
              have A_a101 := A_a101.cg (hN5_eq A B Cc D (hSm q2) (hSm q3) (hSm q4) (hSm q5) (hSm q6) 256)
              refine g_new C S at_421 (hw _ (List.mem_of_getElem? (i := 7) rfl)) (hw _ (List.mem_of_getElem? (i := 8) rfl)) (hw _ (List.mem_of_getElem? (i := 9) rfl)) (by decide) (by decide) (pc' := 424) rfl (fun T107 h107 a107 S g107 E107 X107 D107 => ?_)
              have ne_a63_a107 : a63 ≠ a107 := ne_new g107 A_a63.lt
              have ne_a64_a107 : a64 ≠ a107 := ne_new g107 A_a64.lt
              have ne_a101_a107 : a101 ≠ a107 := ne_new g107 A_a101.lt
              have lt_a101_a107 : a101 < a107 := Nat.lt_of_lt_of_le A_a101.lt (Nat.le_of_eq g107.symm)
              have ge_a107 : n0 ≤ a107 := ge_of g107 Zn
              have Zn := Nat.le_trans Zn E107.1
              have A_a63 := A_a63.ext E107
              have A_a64 := A_a64.ext E107
              have A_a101 := A_a101.ext E107
              have F_m_aSymbols_a107 : Fld Z h107 a107 "leafpress/HuffmanCode" "m_aSymbols" "[I" .null := D107 (Or.inr (hw _ (List.mem_of_getElem? (i := 17) rfl))) (ty := (.array .int)) (by decide)
              have F_m_aCodes_a107 : Fld Z h107 a107 "leafpress/HuffmanCode" "m_aCodes" "[J" .null := D107 (Or.inr (hw _ (List.mem_of_getElem? (i := 19) rfl))) (ty := (.array .long)) (by decide)
              have F_m_aLengths_a107 : Fld Z h107 a107 "leafpress/HuffmanCode" "m_aLengths" "[B" .null := D107 (Or.inr (hw _ (List.mem_of_getElem? (i := 22) rfl))) (ty := (.array .byte)) (by decide)
              have F_m_aLengthCounts_a107 : Fld Z h107 a107 "leafpress/HuffmanCode" "m_aLengthCounts" "[I" .null := D107 (Or.inr (hw _ (List.mem_of_getElem? (i := 24) rfl))) (ty := (.array .int)) (by decide)
              have F_m_aFirstCodes_a107 : Fld Z h107 a107 "leafpress/HuffmanCode" "m_aFirstCodes" "[J" .null := D107 (Or.inr (hw _ (List.mem_of_getElem? (i := 26) rfl))) (ty := (.array .long)) (by decide)
              have F_m_aFirstSymbols_a107 : Fld Z h107 a107 "leafpress/HuffmanCode" "m_aFirstSymbols" "[I" .null := D107 (Or.inr (hw _ (List.mem_of_getElem? (i := 28) rfl))) (ty := (.array .int)) (by decide)
              have F_m_nValues_a107 : Fld Z h107 a107 "leafpress/HuffmanCode" "m_nValues" "I" (.int (0 : Int32)) := D107 (Or.inl (hw _ (List.mem_of_getElem? (i := 59) rfl))) (ty := .int) (by decide)
              have F_m_nLongest_a107 : Fld Z h107 a107 "leafpress/HuffmanCode" "m_nLongest" "I" (.int (0 : Int32)) := D107 (Or.inl (hw _ (List.mem_of_getElem? (i := 68) rfl))) (ty := .int) (by decide)
              have F_m_bPacked_a107 : Fld Z h107 a107 "leafpress/HuffmanCode" "m_bPacked" "Z" (.int (0 : Int32)) := D107 (Or.inl (hw _ (List.mem_of_getElem? (i := 70) rfl))) (ty := .boolean) (by decide)
              refine g_dup C S at_424 (pc' := 425) rfl rfl ?_
              refine g_callI C S (rm := ({ frames := 2, cells := 6, slots := 968, locals := 30 } : Room)) (W := 1) at_425 rfl (hw _ (List.mem_of_getElem? (i := 10) rfl)) (hw _ (List.mem_of_getElem? (i := 11) rfl)) (hw _ (List.mem_of_getElem? (i := 9) rfl)) (hw _ (List.mem_of_getElem? (i := 12) rfl)) (by decide) (c_ini l' Z a0 hw a107 h107 n0 Zn ge_a107 X107 F_m_aSymbols_a107 F_m_aCodes_a107 F_m_aLengths_a107 F_m_aLengthCounts_a107 F_m_aFirstCodes_a107 F_m_aFirstSymbols_a107 F_m_nLongest_a107 F_m_nValues_a107 F_m_bPacked_a107) (argsL := []) (r := [(.ref a107)]) rfl (lenOf pd_6 rfl) rfl (Nat.le_of_eq rfl) (by decide) (by decide) (by decide) (by decide) (pc' := 428) rfl (fun T108 h108 v108 q108 S => ?_)
              have lt_o_sy0 := X107.lt
              obtain ⟨sy, co, le, lc, fa, fb, rfl, K108, Y108, F_m_aSymbols_a107, F_m_aCodes_a107, F_m_aLengths_a107, F_m_aLengthCounts_a107, F_m_aFirstCodes_a107, F_m_aFirstSymbols_a107, F_m_nLongest_a107, F_m_nValues_a107, F_m_bPacked_a107, A_sy, A_co, A_le, A_lc, A_fa, A_fb, sz_sy, lt_sy_co, lt_co_le, lt_le_lc, lt_lc_fa, lt_fa_fb, -, g_sy, g_co, g_le, g_lc, g_fa, g_fb⟩ := q108
              have lt_a107_sy : a107 < sy := Nat.lt_of_lt_of_le lt_o_sy0 sz_sy
              have Zn := Nat.le_trans Zn K108.1
              have A_a63 := A_a63.keep K108 (ninS ne_a63_a107 nin0)
              have A_a64 := A_a64.keep K108 (ninS ne_a64_a107 nin0)
              have A_a101 := A_a101.keep K108 (ninS ne_a101_a107 nin0)
              show Gl p e below s _ n0 _ T108 (mkF m 428 #[.val (.int p1), .val (.long q2), .second, .val (.long q3), .second, .val (.long q4), .second, .val (.long q5), .second, .val (.long q6), .second, .val (.int (Int32.ofNat A)), .val (.int (Int32.ofNat B)), .val (.int (Int32.ofNat Cc)), .val (.int (Int32.ofNat D)), .val (.int sh), .val (.long (hSm q2)), .second, .val (.long (hSm q3)), .second, .val (.long (hSm q4)), .second, .val (.long (hSm q5)), .second, .val (.long (hSm q6)), .second, .val (.ref a63), .val (.ref a64), .val (.int (2 : Int32)), .val (.int (2 : Int32)), .val (.int (2 : Int32)), .val (.int (2 : Int32)), .val (.int (4 : Int32)), .val (.ref a101), .unset, .unset, .unset] [(.ref a107)])
              refine g_astore C S at_428 (pc' := 430) rfl rfl (L' := #[.val (.int p1), .val (.long q2), .second, .val (.long q3), .second, .val (.long q4), .second, .val (.long q5), .second, .val (.long q6), .second, .val (.int (Int32.ofNat A)), .val (.int (Int32.ofNat B)), .val (.int (Int32.ofNat Cc)), .val (.int (Int32.ofNat D)), .val (.int sh), .val (.long (hSm q2)), .second, .val (.long (hSm q3)), .second, .val (.long (hSm q4)), .second, .val (.long (hSm q5)), .second, .val (.long (hSm q6)), .second, .val (.ref a63), .val (.ref a64), .val (.int (2 : Int32)), .val (.int (2 : Int32)), .val (.int (2 : Int32)), .val (.int (2 : Int32)), .val (.int (4 : Int32)), .val (.ref a101), .val (.ref a107), .unset, .unset]) rfl ?_
              refine g_aload C S at_430 (pc' := 432) rfl rfl rfl ?_
              refine g_aload C S at_432 (pc' := 434) rfl rfl rfl ?_
              refine g_iload C S at_434 (pc' := 436) rfl rfl ?_
              refine g_aload C S at_436 (pc' := 438) rfl rfl rfl ?_
              refine g_callV C S (rm := ({ frames := 2, cells := 0, slots := 0, locals := 43 } : Room)) (W := 0) at_438 (hw _ (List.mem_of_getElem? (i := 36) rfl)) (hw _ (List.mem_of_getElem? (i := 37) rfl)) (notFace_of_selects (args := #[]) (mvT C.2.1 (hw _ (List.mem_of_getElem? (i := 39) rfl)))) (hw _ (List.mem_of_getElem? (i := 39) rfl)) (hw _ (List.mem_of_getElem? (i := 38) rfl)) (hw _ (List.mem_of_getElem? (i := 9) rfl)) (hw _ (List.mem_of_getElem? (i := 40) rfl)) (by decide) rfl Y108 (c_fil l' Z a0 hw a107 a63 a64 h108 n0 (fun i => [2, 2, 2, 2].getD i 0) (fun i => [A, B, Cc, D].getD i 0) 4 4 256 _ _ (by decide +kernel) (by decide) (by decide) (fa4 (show A < 256 by omega) (show B < 256 by omega) (show Cc < 256 by omega) (show D < 256 by omega)) (fs4 (show A < B by omega) (show B < Cc by omega) (show Cc < D by omega)) (fa4 rfl rfl rfl rfl) (fa4 (hL4_A (A := A) (B := B) (C := Cc) (D := D) (by omega) (by omega) (by omega)) (hL4_B (A := A) (B := B) (C := Cc) (D := D) (by omega) (by omega)) (hL4_C (A := A) (B := B) (C := Cc) (D := D) (by omega)) hL4_D) sy co le lc fa fb _ _ _ _ _ _ ge_a107 g_sy g_co g_le g_lc g_fa g_fb (nd9 lt_a63_a64 (Nat.lt_trans lt_a64_a101 lt_a101_a107) lt_a107_sy lt_sy_co lt_co_le lt_le_lc lt_lc_fa lt_fa_fb) Y108 F_m_aSymbols_a107 F_m_aCodes_a107 F_m_aLengths_a107 F_m_aLengthCounts_a107 F_m_aFirstCodes_a107 F_m_aFirstSymbols_a107 F_m_nLongest_a107 F_m_nValues_a107 F_m_bPacked_a107 A_a63 A_a64 A_lc A_fa A_fb A_sy A_co A_le) (argsL := [(.ref a63), (.int (4 : Int32)), (.ref a64)]) (r := []) rfl (lenOf pd_10 rfl) rfl (Nat.le_of_eq rfl) (by decide) (by decide) (by decide) (by decide) (pc' := 441) rfl (fun T109 h109 v109 q109 S => ?_)
              obtain ⟨rfl, K109, X109, G_co, F_m_aLengths_a107, G_pk, B_co, B_le⟩ := q109
              have A_a101 := A_a101.keep K109 (ninS (Nat.ne_of_lt lt_a101_a107) (ninS (Nat.ne_of_lt (Nat.lt_trans lt_a101_a107 lt_a107_sy)) (ninS (Nat.ne_of_lt (Nat.lt_trans (Nat.lt_trans lt_a101_a107 lt_a107_sy) lt_sy_co)) (ninS (Nat.ne_of_lt (Nat.lt_trans (Nat.lt_trans (Nat.lt_trans lt_a101_a107 lt_a107_sy) lt_sy_co) lt_co_le)) (ninS (Nat.ne_of_lt (Nat.lt_trans (Nat.lt_trans (Nat.lt_trans (Nat.lt_trans lt_a101_a107 lt_a107_sy) lt_sy_co) lt_co_le) lt_le_lc)) (ninS (Nat.ne_of_lt (Nat.lt_trans (Nat.lt_trans (Nat.lt_trans (Nat.lt_trans (Nat.lt_trans lt_a101_a107 lt_a107_sy) lt_sy_co) lt_co_le) lt_le_lc) lt_lc_fa)) (ninS (Nat.ne_of_lt (Nat.lt_trans (Nat.lt_trans (Nat.lt_trans (Nat.lt_trans (Nat.lt_trans (Nat.lt_trans lt_a101_a107 lt_a107_sy) lt_sy_co) lt_co_le) lt_le_lc) lt_lc_fa) lt_fa_fb)) nin0)))))))
              show Gl p e below s _ n0 _ T109 (mkF m 441 #[.val (.int p1), .val (.long q2), .second, .val (.long q3), .second, .val (.long q4), .second, .val (.long q5), .second, .val (.long q6), .second, .val (.int (Int32.ofNat A)), .val (.int (Int32.ofNat B)), .val (.int (Int32.ofNat Cc)), .val (.int (Int32.ofNat D)), .val (.int sh), .val (.long (hSm q2)), .second, .val (.long (hSm q3)), .second, .val (.long (hSm q4)), .second, .val (.long (hSm q5)), .second, .val (.long (hSm q6)), .second, .val (.ref a63), .val (.ref a64), .val (.int (2 : Int32)), .val (.int (2 : Int32)), .val (.int (2 : Int32)), .val (.int (2 : Int32)), .val (.int (4 : Int32)), .val (.ref a101), .val (.ref a107), .unset, .unset] [])
              refine g_lload C S at_441 (pc' := 443) rfl rfl ?_
              refine g_iload C S at_443 (pc' := 445) rfl rfl ?_
              refine g_i2l C S at_445 (pc' := 446) rfl ?_
              refine g_lmul C S at_446 (pc' := 447) rfl ?_
              refine g_lload C S at_447 (pc' := 449) rfl rfl ?_
              refine g_iload C S at_449 (pc' := 451) rfl rfl ?_
              refine g_i2l C S at_451 (pc' := 452) rfl ?_
              refine g_lmul C S at_452 (pc' := 453) rfl ?_
              refine g_ladd C S at_453 (pc' := 454) rfl ?_
              refine g_lload C S at_454 (pc' := 456) rfl rfl ?_
              refine g_iload C S at_456 (pc' := 458) rfl rfl ?_
              refine g_i2l C S at_458 (pc' := 459) rfl ?_
              refine g_lmul C S at_459 (pc' := 460) rfl ?_
              refine g_ladd C S at_460 (pc' := 461) rfl ?_
              refine g_lload C S at_461 (pc' := 463) rfl rfl ?_
              refine g_iload C S at_463 (pc' := 465) rfl rfl ?_
              refine g_i2l C S at_465 (pc' := 466) rfl ?_
              refine g_lmul C S at_466 (pc' := 467) rfl ?_
              refine g_ladd C S at_467 (pc' := 468) rfl ?_
              refine g_lstore C S at_468 (pc' := 470) rfl (L' := #[.val (.int p1), .val (.long q2), .second, .val (.long q3), .second, .val (.long q4), .second, .val (.long q5), .second, .val (.long q6), .second, .val (.int (Int32.ofNat A)), .val (.int (Int32.ofNat B)), .val (.int (Int32.ofNat Cc)), .val (.int (Int32.ofNat D)), .val (.int sh), .val (.long (hSm q2)), .second, .val (.long (hSm q3)), .second, .val (.long (hSm q4)), .second, .val (.long (hSm q5)), .second, .val (.long (hSm q6)), .second, .val (.ref a63), .val (.ref a64), .val (.int (2 : Int32)), .val (.int (2 : Int32)), .val (.int (2 : Int32)), .val (.int (2 : Int32)), .val (.int (4 : Int32)), .val (.ref a101), .val (.ref a107), .val (.long (((((hSm q2) * ((2 : Int32).toInt64)) + ((hSm q3) * ((2 : Int32).toInt64))) + ((hSm q4) * ((2 : Int32).toInt64))) + ((hSm q5) * ((2 : Int32).toInt64)))), .second]) rfl ?_
              refine g_aload C S at_470 (pc' := 472) rfl rfl rfl ?_
              refine g_aload C S at_472 (pc' := 474) rfl rfl rfl ?_
              refine g_callV C S (rm := ({ frames := 0, cells := 0, slots := 0, locals := 0 } : Room)) (W := 0) at_474 (hw _ (List.mem_of_getElem? (i := 71) rfl)) (hw _ (List.mem_of_getElem? (i := 72) rfl)) (notFace_of_selects (args := #[]) (mvT C.2.1 (hw _ (List.mem_of_getElem? (i := 74) rfl)))) (hw _ (List.mem_of_getElem? (i := 74) rfl)) (hw _ (List.mem_of_getElem? (i := 73) rfl)) (hw _ (List.mem_of_getElem? (i := 9) rfl)) (hw _ (List.mem_of_getElem? (i := 75) rfl)) (by decide) rfl X109 (c_bit l' Z a0 hw a107 a101 h109 n0 le _ (fun x => Int32.ofNat (hLe (fun i => [2, 2, 2, 2].getD i 0) (fun i => [A, B, Cc, D].getD i 0) 4 4 x)) F_m_aLengths_a107 A_a101 B_le) (argsL := [(.ref a101)]) (r := []) rfl (lenOf pd_11 rfl) rfl (Nat.le_of_eq rfl) (by decide) (by decide) (by decide) (by decide) (pc' := 477) rfl (fun T110 h110 v110 q110 S => ?_)
              obtain ⟨rfl, e110⟩ := q110; rw [e110] at S
              show Gl p e below s _ n0 _ T110 (mkF m 477 #[.val (.int p1), .val (.long q2), .second, .val (.long q3), .second, .val (.long q4), .second, .val (.long q5), .second, .val (.long q6), .second, .val (.int (Int32.ofNat A)), .val (.int (Int32.ofNat B)), .val (.int (Int32.ofNat Cc)), .val (.int (Int32.ofNat D)), .val (.int sh), .val (.long (hSm q2)), .second, .val (.long (hSm q3)), .second, .val (.long (hSm q4)), .second, .val (.long (hSm q5)), .second, .val (.long (hSm q6)), .second, .val (.ref a63), .val (.ref a64), .val (.int (2 : Int32)), .val (.int (2 : Int32)), .val (.int (2 : Int32)), .val (.int (2 : Int32)), .val (.int (4 : Int32)), .val (.ref a101), .val (.ref a107), .val (.long (((((hSm q2) * ((2 : Int32).toInt64)) + ((hSm q3) * ((2 : Int32).toInt64))) + ((hSm q4) * ((2 : Int32).toInt64))) + ((hSm q5) * ((2 : Int32).toInt64)))), .second] [(.long (hSum (hN5 A B Cc D (hSm q2) (hSm q3) (hSm q4) (hSm q5) (hSm q6)) (fun x => Int32.ofNat (hLe (fun i => [2, 2, 2, 2].getD i 0) (fun i => [A, B, Cc, D].getD i 0) 4 4 x)) 256))])
              refine g_lload C S at_477 (pc' := 479) rfl rfl ?_
              refine g_lcmp C S at_479 (pc' := 480) rfl ?_
              refine g_lif_ne C S at_480 (pc' := 487) (pf := 483) (by decide) (by decide) rfl (fun hc480 => absurd (hBits (A := A) (B := B) (C := Cc) (D := D) (ka := 2) (kb := 2) (kc := 2) (kd := 2) (by omega) (by omega) (by omega) (by omega) ((hLe_V (l := (fun i => [2, 2, 2, 2].getD i 0)) (V := (fun i => [A, B, Cc, D].getD i 0)) (fs4 (show A < B by omega) (show B < Cc by omega) (show Cc < D by omega)) ((hGood_spec (l := (fun i => [2, 2, 2, 2].getD i 0)) (n := 4) (by decide +kernel)).2.2.2.2.2) (i := 0) (by decide) 4 (by decide)).trans (by decide +kernel)) ((hLe_V (l := (fun i => [2, 2, 2, 2].getD i 0)) (V := (fun i => [A, B, Cc, D].getD i 0)) (fs4 (show A < B by omega) (show B < Cc by omega) (show Cc < D by omega)) ((hGood_spec (l := (fun i => [2, 2, 2, 2].getD i 0)) (n := 4) (by decide +kernel)).2.2.2.2.2) (i := 1) (by decide) 4 (by decide)).trans (by decide +kernel)) ((hLe_V (l := (fun i => [2, 2, 2, 2].getD i 0)) (V := (fun i => [A, B, Cc, D].getD i 0)) (fs4 (show A < B by omega) (show B < Cc by omega) (show Cc < D by omega)) ((hGood_spec (l := (fun i => [2, 2, 2, 2].getD i 0)) (n := 4) (by decide +kernel)).2.2.2.2.2) (i := 2) (by decide) 4 (by decide)).trans (by decide +kernel)) ((hLe_V (l := (fun i => [2, 2, 2, 2].getD i 0)) (V := (fun i => [A, B, Cc, D].getD i 0)) (fs4 (show A < B by omega) (show B < Cc by omega) (show Cc < D by omega)) ((hGood_spec (l := (fun i => [2, 2, 2, 2].getD i 0)) (n := 4) (by decide +kernel)).2.2.2.2.2) (i := 3) (by decide) 4 (by decide)).trans (by decide +kernel)) (fun x xA xB xC xD => hLe_no (l := (fun i => [2, 2, 2, 2].getD i 0)) (V := (fun i => [A, B, Cc, D].getD i 0)) ((hGood_spec (l := (fun i => [2, 2, 2, 2].getD i 0)) (n := 4) (by decide +kernel)).2.2.2.2.2) (fa4 xA xB xC xD) 4 (by decide))) hc480) (fun hc480 => ?_)
              refine g_iconst C S (1 : Int32) at_483 (pc' := 484) rfl rfl ?_
              refine g_goto C S at_484 (pc' := 488) (by decide) (by decide) ?_
              exact g_retZ C S at_488 (by decide) (by decide) (by decide) (rfl)
          · refine g_iconst C S (2 : Int32) at_244 (pc' := 245) rfl rfl ?_
            refine g_istore C S at_245 (pc' := 247) rfl (L' := #[.val (.int p1), .val (.long q2), .second, .val (.long q3), .second, .val (.long q4), .second, .val (.long q5), .second, .val (.long q6), .second, .val (.int (Int32.ofNat A)), .val (.int (Int32.ofNat B)), .val (.int (Int32.ofNat Cc)), .val (.int (Int32.ofNat D)), .val (.int sh), .val (.long (hSm q2)), .second, .val (.long (hSm q3)), .second, .val (.long (hSm q4)), .second, .val (.long (hSm q5)), .second, .val (.long (hSm q6)), .second, .val (.ref a63), .val (.ref a64), .val (.int (0 : Int32)), .val (.int (0 : Int32)), .val (.int (0 : Int32)), .val (.int (0 : Int32)), .val (.int (2 : Int32)), .unset, .unset, .unset, .unset]) rfl ?_
            refine g_aload C S at_247 (pc' := 249) rfl rfl rfl ?_
            refine g_iconst C S (0 : Int32) at_249 (pc' := 250) rfl rfl ?_
            refine g_iload C S at_250 (pc' := 252) rfl rfl ?_
            refine g_iastore C S (i := 0) at_252 A_a63 (by decide) (by decide) ge_a63 (pc' := 253) rfl (fun T111 h111 S W111 B111 => ?_)
            have Zn := Nat.le_trans Zn (Nat.le_of_eq W111.size.symm)
            have A_a64 := A_a64.other W111 (Ne.symm ne_a63_a64)
            have A_a63 := B111
            refine g_aload C S at_253 (pc' := 255) rfl rfl rfl ?_
            refine g_iconst C S (1 : Int32) at_255 (pc' := 256) rfl rfl ?_
            refine g_iload C S at_256 (pc' := 258) rfl rfl ?_
            refine g_iastore C S (i := 1) at_258 A_a63 (by decide) (by decide) ge_a63 (pc' := 259) rfl (fun T112 h112 S W112 B112 => ?_)
            have Zn := Nat.le_trans Zn (Nat.le_of_eq W112.size.symm)
            have A_a64 := A_a64.other W112 (Ne.symm ne_a63_a64)
            have A_a63 := B112
            refine g_iconst C S (1 : Int32) at_259 (pc' := 260) rfl rfl ?_
            refine g_istore C S at_260 (pc' := 262) rfl (L' := #[.val (.int p1), .val (.long q2), .second, .val (.long q3), .second, .val (.long q4), .second, .val (.long q5), .second, .val (.long q6), .second, .val (.int (Int32.ofNat A)), .val (.int (Int32.ofNat B)), .val (.int (Int32.ofNat Cc)), .val (.int (Int32.ofNat D)), .val (.int sh), .val (.long (hSm q2)), .second, .val (.long (hSm q3)), .second, .val (.long (hSm q4)), .second, .val (.long (hSm q5)), .second, .val (.long (hSm q6)), .second, .val (.ref a63), .val (.ref a64), .val (.int (0 : Int32)), .val (.int (1 : Int32)), .val (.int (0 : Int32)), .val (.int (0 : Int32)), .val (.int (2 : Int32)), .unset, .unset, .unset, .unset]) rfl ?_
            refine g_iconst C S (1 : Int32) at_262 (pc' := 263) rfl rfl ?_
            refine g_istore C S at_263 (pc' := 265) rfl (L' := #[.val (.int p1), .val (.long q2), .second, .val (.long q3), .second, .val (.long q4), .second, .val (.long q5), .second, .val (.long q6), .second, .val (.int (Int32.ofNat A)), .val (.int (Int32.ofNat B)), .val (.int (Int32.ofNat Cc)), .val (.int (Int32.ofNat D)), .val (.int sh), .val (.long (hSm q2)), .second, .val (.long (hSm q3)), .second, .val (.long (hSm q4)), .second, .val (.long (hSm q5)), .second, .val (.long (hSm q6)), .second, .val (.ref a63), .val (.ref a64), .val (.int (0 : Int32)), .val (.int (1 : Int32)), .val (.int (1 : Int32)), .val (.int (0 : Int32)), .val (.int (2 : Int32)), .unset, .unset, .unset, .unset]) rfl ?_
            refine g_goto C S at_265 (pc' := 349) (by decide) (by decide) ?_
            refine g_aload C S at_349 (pc' := 351) rfl rfl rfl ?_
            refine g_iload C S at_351 (pc' := 353) rfl rfl ?_
            refine g_iload C S at_353 (pc' := 355) rfl rfl ?_
            refine g_iastore C S (i := A) at_355 A_a64 (o32 (by omega)) (by omega) ge_a64 (pc' := 356) rfl (fun T113 h113 S W113 B113 => ?_)
            have Zn := Nat.le_trans Zn (Nat.le_of_eq W113.size.symm)
            have A_a63 := A_a63.other W113 ne_a63_a64
            have A_a64 := B113
            refine g_aload C S at_356 (pc' := 358) rfl rfl rfl ?_
            refine g_iload C S at_358 (pc' := 360) rfl rfl ?_
            refine g_iload C S at_360 (pc' := 362) rfl rfl ?_
            refine g_iastore C S (i := B) at_362 A_a64 (o32 (by omega)) (by omega) ge_a64 (pc' := 363) rfl (fun T114 h114 S W114 B114 => ?_)
            have Zn := Nat.le_trans Zn (Nat.le_of_eq W114.size.symm)
            have A_a63 := A_a63.other W114 ne_a63_a64
            have A_a64 := B114
            refine g_aload C S at_363 (pc' := 365) rfl rfl rfl ?_
            refine g_iload C S at_365 (pc' := 367) rfl rfl ?_
            refine g_iload C S at_367 (pc' := 369) rfl rfl ?_
            refine g_iastore C S (i := Cc) at_369 A_a64 (o32 (by omega)) (by omega) ge_a64 (pc' := 370) rfl (fun T115 h115 S W115 B115 => ?_)
            have Zn := Nat.le_trans Zn (Nat.le_of_eq W115.size.symm)
            have A_a63 := A_a63.other W115 ne_a63_a64
            have A_a64 := B115
            refine g_aload C S at_370 (pc' := 372) rfl rfl rfl ?_
            refine g_iload C S at_372 (pc' := 374) rfl rfl ?_
            refine g_iload C S at_374 (pc' := 376) rfl rfl ?_
            refine g_iastore C S (i := D) at_376 A_a64 (o32 (by omega)) (by omega) ge_a64 (pc' := 377) rfl (fun T116 h116 S W116 B116 => ?_)
            have Zn := Nat.le_trans Zn (Nat.le_of_eq W116.size.symm)
            have A_a63 := A_a63.other W116 ne_a63_a64
            have A_a64 := B116
            have A_a64 : Ary Z h116 a64 .int 256 (hL4 A B Cc D (0 : Int32) (1 : Int32) (1 : Int32) (0 : Int32)) := A_a64
            refine g_sipush C S (256 : Int32) at_377 (pc' := 380) rfl rfl ?_
            refine g_newarray C S (N := 256) (cap := 256) at_380 (hw _ (List.mem_of_getElem? (i := 6) rfl)) (by decide) (by decide) (by decide) (by decide) (by decide) (pc' := 382) rfl (fun T117 h117 a117 S g117 E117 A_a117 => ?_)
            have ne_a63_a117 : a63 ≠ a117 := ne_new g117 A_a63.lt
            have ne_a64_a117 : a64 ≠ a117 := ne_new g117 A_a64.lt
            have lt_a64_a117 : a64 < a117 := Nat.lt_of_lt_of_le A_a64.lt (Nat.le_of_eq g117.symm)
            have ge_a117 : n0 ≤ a117 := ge_of g117 Zn
            have Zn := Nat.le_trans Zn E117.1
            have A_a63 := A_a63.ext E117
            have A_a64 := A_a64.ext E117
            have A_a117 : Ary Z h117 a117 .long 256 (fun _ => (.long (0 : Int64))) := A_a117
            refine g_astore C S at_382 (pc' := 384) rfl rfl (L' := #[.val (.int p1), .val (.long q2), .second, .val (.long q3), .second, .val (.long q4), .second, .val (.long q5), .second, .val (.long q6), .second, .val (.int (Int32.ofNat A)), .val (.int (Int32.ofNat B)), .val (.int (Int32.ofNat Cc)), .val (.int (Int32.ofNat D)), .val (.int sh), .val (.long (hSm q2)), .second, .val (.long (hSm q3)), .second, .val (.long (hSm q4)), .second, .val (.long (hSm q5)), .second, .val (.long (hSm q6)), .second, .val (.ref a63), .val (.ref a64), .val (.int (0 : Int32)), .val (.int (1 : Int32)), .val (.int (1 : Int32)), .val (.int (0 : Int32)), .val (.int (2 : Int32)), .val (.ref a117), .unset, .unset, .unset]) rfl ?_
            refine g_aload C S at_384 (pc' := 386) rfl rfl rfl ?_
            refine g_iload C S at_386 (pc' := 388) rfl rfl ?_
            refine g_lload C S at_388 (pc' := 390) rfl rfl ?_
            refine g_lastore C S (i := A) at_390 A_a117 (o32 (by omega)) (by omega) ge_a117 (pc' := 391) rfl (fun T118 h118 S W118 B118 => ?_)
            have Zn := Nat.le_trans Zn (Nat.le_of_eq W118.size.symm)
            have A_a63 := A_a63.other W118 ne_a63_a117
            have A_a64 := A_a64.other W118 ne_a64_a117
            have A_a117 := B118
            refine g_aload C S at_391 (pc' := 393) rfl rfl rfl ?_
            refine g_iload C S at_393 (pc' := 395) rfl rfl ?_
            refine g_lload C S at_395 (pc' := 397) rfl rfl ?_
            refine g_lastore C S (i := B) at_397 A_a117 (o32 (by omega)) (by omega) ge_a117 (pc' := 398) rfl (fun T119 h119 S W119 B119 => ?_)
            have Zn := Nat.le_trans Zn (Nat.le_of_eq W119.size.symm)
            have A_a63 := A_a63.other W119 ne_a63_a117
            have A_a64 := A_a64.other W119 ne_a64_a117
            have A_a117 := B119
            refine g_aload C S at_398 (pc' := 400) rfl rfl rfl ?_
            refine g_iload C S at_400 (pc' := 402) rfl rfl ?_
            refine g_lload C S at_402 (pc' := 404) rfl rfl ?_
            refine g_lastore C S (i := Cc) at_404 A_a117 (o32 (by omega)) (by omega) ge_a117 (pc' := 405) rfl (fun T120 h120 S W120 B120 => ?_)
            have Zn := Nat.le_trans Zn (Nat.le_of_eq W120.size.symm)
            have A_a63 := A_a63.other W120 ne_a63_a117
            have A_a64 := A_a64.other W120 ne_a64_a117
            have A_a117 := B120
            refine g_aload C S at_405 (pc' := 407) rfl rfl rfl ?_
            refine g_iload C S at_407 (pc' := 409) rfl rfl ?_
            refine g_lload C S at_409 (pc' := 411) rfl rfl ?_
            refine g_lastore C S (i := D) at_411 A_a117 (o32 (by omega)) (by omega) ge_a117 (pc' := 412) rfl (fun T121 h121 S W121 B121 => ?_)
            have Zn := Nat.le_trans Zn (Nat.le_of_eq W121.size.symm)
            have A_a63 := A_a63.other W121 ne_a63_a117
            have A_a64 := A_a64.other W121 ne_a64_a117
            have A_a117 := B121
            refine g_aload C S at_412 (pc' := 414) rfl rfl rfl ?_
            refine g_iload C S at_414 (pc' := 416) rfl rfl ?_
            refine g_iconst C S (1 : Int32) at_416 (pc' := 417) rfl rfl ?_
            refine g_iadd C S at_417 (pc' := 418) rfl ?_
            refine g_lload C S at_418 (pc' := 420) rfl rfl ?_
            refine g_lastore C S (i := (A + 1)) at_420 A_a117 (by rw [o32_succ]; exact o32 (by omega)) (by omega) ge_a117 (pc' := 421) rfl (fun T122 h122 S W122 B122 => ?_)
            have Zn := Nat.le_trans Zn (Nat.le_of_eq W122.size.symm)
            have A_a63 := A_a63.other W122 ne_a63_a117
            have A_a64 := A_a64.other W122 ne_a64_a117
            have A_a117 := B122
            have A_a117 := A_a117.cg (hN5_eq A B Cc D (hSm q2) (hSm q3) (hSm q4) (hSm q5) (hSm q6) 256)
            refine g_new C S at_421 (hw _ (List.mem_of_getElem? (i := 7) rfl)) (hw _ (List.mem_of_getElem? (i := 8) rfl)) (hw _ (List.mem_of_getElem? (i := 9) rfl)) (by decide) (by decide) (pc' := 424) rfl (fun T123 h123 a123 S g123 E123 X123 D123 => ?_)
            have ne_a63_a123 : a63 ≠ a123 := ne_new g123 A_a63.lt
            have ne_a64_a123 : a64 ≠ a123 := ne_new g123 A_a64.lt
            have ne_a117_a123 : a117 ≠ a123 := ne_new g123 A_a117.lt
            have lt_a117_a123 : a117 < a123 := Nat.lt_of_lt_of_le A_a117.lt (Nat.le_of_eq g123.symm)
            have ge_a123 : n0 ≤ a123 := ge_of g123 Zn
            have Zn := Nat.le_trans Zn E123.1
            have A_a63 := A_a63.ext E123
            have A_a64 := A_a64.ext E123
            have A_a117 := A_a117.ext E123
            have F_m_aSymbols_a123 : Fld Z h123 a123 "leafpress/HuffmanCode" "m_aSymbols" "[I" .null := D123 (Or.inr (hw _ (List.mem_of_getElem? (i := 17) rfl))) (ty := (.array .int)) (by decide)
            have F_m_aCodes_a123 : Fld Z h123 a123 "leafpress/HuffmanCode" "m_aCodes" "[J" .null := D123 (Or.inr (hw _ (List.mem_of_getElem? (i := 19) rfl))) (ty := (.array .long)) (by decide)
            have F_m_aLengths_a123 : Fld Z h123 a123 "leafpress/HuffmanCode" "m_aLengths" "[B" .null := D123 (Or.inr (hw _ (List.mem_of_getElem? (i := 22) rfl))) (ty := (.array .byte)) (by decide)
            have F_m_aLengthCounts_a123 : Fld Z h123 a123 "leafpress/HuffmanCode" "m_aLengthCounts" "[I" .null := D123 (Or.inr (hw _ (List.mem_of_getElem? (i := 24) rfl))) (ty := (.array .int)) (by decide)
            have F_m_aFirstCodes_a123 : Fld Z h123 a123 "leafpress/HuffmanCode" "m_aFirstCodes" "[J" .null := D123 (Or.inr (hw _ (List.mem_of_getElem? (i := 26) rfl))) (ty := (.array .long)) (by decide)
            have F_m_aFirstSymbols_a123 : Fld Z h123 a123 "leafpress/HuffmanCode" "m_aFirstSymbols" "[I" .null := D123 (Or.inr (hw _ (List.mem_of_getElem? (i := 28) rfl))) (ty := (.array .int)) (by decide)
            have F_m_nValues_a123 : Fld Z h123 a123 "leafpress/HuffmanCode" "m_nValues" "I" (.int (0 : Int32)) := D123 (Or.inl (hw _ (List.mem_of_getElem? (i := 59) rfl))) (ty := .int) (by decide)
            have F_m_nLongest_a123 : Fld Z h123 a123 "leafpress/HuffmanCode" "m_nLongest" "I" (.int (0 : Int32)) := D123 (Or.inl (hw _ (List.mem_of_getElem? (i := 68) rfl))) (ty := .int) (by decide)
            have F_m_bPacked_a123 : Fld Z h123 a123 "leafpress/HuffmanCode" "m_bPacked" "Z" (.int (0 : Int32)) := D123 (Or.inl (hw _ (List.mem_of_getElem? (i := 70) rfl))) (ty := .boolean) (by decide)
            refine g_dup C S at_424 (pc' := 425) rfl rfl ?_
            refine g_callI C S (rm := ({ frames := 2, cells := 6, slots := 968, locals := 30 } : Room)) (W := 1) at_425 rfl (hw _ (List.mem_of_getElem? (i := 10) rfl)) (hw _ (List.mem_of_getElem? (i := 11) rfl)) (hw _ (List.mem_of_getElem? (i := 9) rfl)) (hw _ (List.mem_of_getElem? (i := 12) rfl)) (by decide) (c_ini l' Z a0 hw a123 h123 n0 Zn ge_a123 X123 F_m_aSymbols_a123 F_m_aCodes_a123 F_m_aLengths_a123 F_m_aLengthCounts_a123 F_m_aFirstCodes_a123 F_m_aFirstSymbols_a123 F_m_nLongest_a123 F_m_nValues_a123 F_m_bPacked_a123) (argsL := []) (r := [(.ref a123)]) rfl (lenOf pd_6 rfl) rfl (Nat.le_of_eq rfl) (by decide) (by decide) (by decide) (by decide) (pc' := 428) rfl (fun T124 h124 v124 q124 S => ?_)
            have lt_o_sy0 := X123.lt
            obtain ⟨sy, co, le, lc, fa, fb, rfl, K124, Y124, F_m_aSymbols_a123, F_m_aCodes_a123, F_m_aLengths_a123, F_m_aLengthCounts_a123, F_m_aFirstCodes_a123, F_m_aFirstSymbols_a123, F_m_nLongest_a123, F_m_nValues_a123, F_m_bPacked_a123, A_sy, A_co, A_le, A_lc, A_fa, A_fb, sz_sy, lt_sy_co, lt_co_le, lt_le_lc, lt_lc_fa, lt_fa_fb, -, g_sy, g_co, g_le, g_lc, g_fa, g_fb⟩ := q124
            have lt_a123_sy : a123 < sy := Nat.lt_of_lt_of_le lt_o_sy0 sz_sy
            have Zn := Nat.le_trans Zn K124.1
            have A_a63 := A_a63.keep K124 (ninS ne_a63_a123 nin0)
            have A_a64 := A_a64.keep K124 (ninS ne_a64_a123 nin0)
            have A_a117 := A_a117.keep K124 (ninS ne_a117_a123 nin0)
            show Gl p e below s _ n0 _ T124 (mkF m 428 #[.val (.int p1), .val (.long q2), .second, .val (.long q3), .second, .val (.long q4), .second, .val (.long q5), .second, .val (.long q6), .second, .val (.int (Int32.ofNat A)), .val (.int (Int32.ofNat B)), .val (.int (Int32.ofNat Cc)), .val (.int (Int32.ofNat D)), .val (.int sh), .val (.long (hSm q2)), .second, .val (.long (hSm q3)), .second, .val (.long (hSm q4)), .second, .val (.long (hSm q5)), .second, .val (.long (hSm q6)), .second, .val (.ref a63), .val (.ref a64), .val (.int (0 : Int32)), .val (.int (1 : Int32)), .val (.int (1 : Int32)), .val (.int (0 : Int32)), .val (.int (2 : Int32)), .val (.ref a117), .unset, .unset, .unset] [(.ref a123)])
            refine g_astore C S at_428 (pc' := 430) rfl rfl (L' := #[.val (.int p1), .val (.long q2), .second, .val (.long q3), .second, .val (.long q4), .second, .val (.long q5), .second, .val (.long q6), .second, .val (.int (Int32.ofNat A)), .val (.int (Int32.ofNat B)), .val (.int (Int32.ofNat Cc)), .val (.int (Int32.ofNat D)), .val (.int sh), .val (.long (hSm q2)), .second, .val (.long (hSm q3)), .second, .val (.long (hSm q4)), .second, .val (.long (hSm q5)), .second, .val (.long (hSm q6)), .second, .val (.ref a63), .val (.ref a64), .val (.int (0 : Int32)), .val (.int (1 : Int32)), .val (.int (1 : Int32)), .val (.int (0 : Int32)), .val (.int (2 : Int32)), .val (.ref a117), .val (.ref a123), .unset, .unset]) rfl ?_
            refine g_aload C S at_430 (pc' := 432) rfl rfl rfl ?_
            refine g_aload C S at_432 (pc' := 434) rfl rfl rfl ?_
            refine g_iload C S at_434 (pc' := 436) rfl rfl ?_
            refine g_aload C S at_436 (pc' := 438) rfl rfl rfl ?_
            refine g_callV C S (rm := ({ frames := 2, cells := 0, slots := 0, locals := 43 } : Room)) (W := 0) at_438 (hw _ (List.mem_of_getElem? (i := 36) rfl)) (hw _ (List.mem_of_getElem? (i := 37) rfl)) (notFace_of_selects (args := #[]) (mvT C.2.1 (hw _ (List.mem_of_getElem? (i := 39) rfl)))) (hw _ (List.mem_of_getElem? (i := 39) rfl)) (hw _ (List.mem_of_getElem? (i := 38) rfl)) (hw _ (List.mem_of_getElem? (i := 9) rfl)) (hw _ (List.mem_of_getElem? (i := 40) rfl)) (by decide) rfl Y124 (c_fil l' Z a0 hw a123 a63 a64 h124 n0 (fun i => [1, 1].getD i 0) (fun i => [B, Cc].getD i 0) 2 4 256 _ _ (by decide +kernel) (by decide) (by decide) (fa2 (show B < 256 by omega) (show Cc < 256 by omega)) (fs2 (show B < Cc by omega)) (fa2 rfl rfl) (fa2 (hL4_B (A := A) (B := B) (C := Cc) (D := D) (by omega) (by omega)) (hL4_C (A := A) (B := B) (C := Cc) (D := D) (by omega))) sy co le lc fa fb _ _ _ _ _ _ ge_a123 g_sy g_co g_le g_lc g_fa g_fb (nd9 lt_a63_a64 (Nat.lt_trans lt_a64_a117 lt_a117_a123) lt_a123_sy lt_sy_co lt_co_le lt_le_lc lt_lc_fa lt_fa_fb) Y124 F_m_aSymbols_a123 F_m_aCodes_a123 F_m_aLengths_a123 F_m_aLengthCounts_a123 F_m_aFirstCodes_a123 F_m_aFirstSymbols_a123 F_m_nLongest_a123 F_m_nValues_a123 F_m_bPacked_a123 A_a63 A_a64 A_lc A_fa A_fb A_sy A_co A_le) (argsL := [(.ref a63), (.int (2 : Int32)), (.ref a64)]) (r := []) rfl (lenOf pd_10 rfl) rfl (Nat.le_of_eq rfl) (by decide) (by decide) (by decide) (by decide) (pc' := 441) rfl (fun T125 h125 v125 q125 S => ?_)
            obtain ⟨rfl, K125, X125, G_co, F_m_aLengths_a123, G_pk, B_co, B_le⟩ := q125
            have A_a117 := A_a117.keep K125 (ninS (Nat.ne_of_lt lt_a117_a123) (ninS (Nat.ne_of_lt (Nat.lt_trans lt_a117_a123 lt_a123_sy)) (ninS (Nat.ne_of_lt (Nat.lt_trans (Nat.lt_trans lt_a117_a123 lt_a123_sy) lt_sy_co)) (ninS (Nat.ne_of_lt (Nat.lt_trans (Nat.lt_trans (Nat.lt_trans lt_a117_a123 lt_a123_sy) lt_sy_co) lt_co_le)) (ninS (Nat.ne_of_lt (Nat.lt_trans (Nat.lt_trans (Nat.lt_trans (Nat.lt_trans lt_a117_a123 lt_a123_sy) lt_sy_co) lt_co_le) lt_le_lc)) (ninS (Nat.ne_of_lt (Nat.lt_trans (Nat.lt_trans (Nat.lt_trans (Nat.lt_trans (Nat.lt_trans lt_a117_a123 lt_a123_sy) lt_sy_co) lt_co_le) lt_le_lc) lt_lc_fa)) (ninS (Nat.ne_of_lt (Nat.lt_trans (Nat.lt_trans (Nat.lt_trans (Nat.lt_trans (Nat.lt_trans (Nat.lt_trans lt_a117_a123 lt_a123_sy) lt_sy_co) lt_co_le) lt_le_lc) lt_lc_fa) lt_fa_fb)) nin0)))))))
            show Gl p e below s _ n0 _ T125 (mkF m 441 #[.val (.int p1), .val (.long q2), .second, .val (.long q3), .second, .val (.long q4), .second, .val (.long q5), .second, .val (.long q6), .second, .val (.int (Int32.ofNat A)), .val (.int (Int32.ofNat B)), .val (.int (Int32.ofNat Cc)), .val (.int (Int32.ofNat D)), .val (.int sh), .val (.long (hSm q2)), .second, .val (.long (hSm q3)), .second, .val (.long (hSm q4)), .second, .val (.long (hSm q5)), .second, .val (.long (hSm q6)), .second, .val (.ref a63), .val (.ref a64), .val (.int (0 : Int32)), .val (.int (1 : Int32)), .val (.int (1 : Int32)), .val (.int (0 : Int32)), .val (.int (2 : Int32)), .val (.ref a117), .val (.ref a123), .unset, .unset] [])
            refine g_lload C S at_441 (pc' := 443) rfl rfl ?_
            refine g_iload C S at_443 (pc' := 445) rfl rfl ?_
            refine g_i2l C S at_445 (pc' := 446) rfl ?_
            refine g_lmul C S at_446 (pc' := 447) rfl ?_
            refine g_lload C S at_447 (pc' := 449) rfl rfl ?_
            refine g_iload C S at_449 (pc' := 451) rfl rfl ?_
            refine g_i2l C S at_451 (pc' := 452) rfl ?_
            refine g_lmul C S at_452 (pc' := 453) rfl ?_
            refine g_ladd C S at_453 (pc' := 454) rfl ?_
            refine g_lload C S at_454 (pc' := 456) rfl rfl ?_
            refine g_iload C S at_456 (pc' := 458) rfl rfl ?_
            refine g_i2l C S at_458 (pc' := 459) rfl ?_
            refine g_lmul C S at_459 (pc' := 460) rfl ?_
            refine g_ladd C S at_460 (pc' := 461) rfl ?_
            refine g_lload C S at_461 (pc' := 463) rfl rfl ?_
            refine g_iload C S at_463 (pc' := 465) rfl rfl ?_
            refine g_i2l C S at_465 (pc' := 466) rfl ?_
            refine g_lmul C S at_466 (pc' := 467) rfl ?_
            refine g_ladd C S at_467 (pc' := 468) rfl ?_
            refine g_lstore C S at_468 (pc' := 470) rfl (L' := #[.val (.int p1), .val (.long q2), .second, .val (.long q3), .second, .val (.long q4), .second, .val (.long q5), .second, .val (.long q6), .second, .val (.int (Int32.ofNat A)), .val (.int (Int32.ofNat B)), .val (.int (Int32.ofNat Cc)), .val (.int (Int32.ofNat D)), .val (.int sh), .val (.long (hSm q2)), .second, .val (.long (hSm q3)), .second, .val (.long (hSm q4)), .second, .val (.long (hSm q5)), .second, .val (.long (hSm q6)), .second, .val (.ref a63), .val (.ref a64), .val (.int (0 : Int32)), .val (.int (1 : Int32)), .val (.int (1 : Int32)), .val (.int (0 : Int32)), .val (.int (2 : Int32)), .val (.ref a117), .val (.ref a123), .val (.long (((((hSm q2) * ((0 : Int32).toInt64)) + ((hSm q3) * ((1 : Int32).toInt64))) + ((hSm q4) * ((1 : Int32).toInt64))) + ((hSm q5) * ((0 : Int32).toInt64)))), .second]) rfl ?_
            refine g_aload C S at_470 (pc' := 472) rfl rfl rfl ?_
            refine g_aload C S at_472 (pc' := 474) rfl rfl rfl ?_
            refine g_callV C S (rm := ({ frames := 0, cells := 0, slots := 0, locals := 0 } : Room)) (W := 0) at_474 (hw _ (List.mem_of_getElem? (i := 71) rfl)) (hw _ (List.mem_of_getElem? (i := 72) rfl)) (notFace_of_selects (args := #[]) (mvT C.2.1 (hw _ (List.mem_of_getElem? (i := 74) rfl)))) (hw _ (List.mem_of_getElem? (i := 74) rfl)) (hw _ (List.mem_of_getElem? (i := 73) rfl)) (hw _ (List.mem_of_getElem? (i := 9) rfl)) (hw _ (List.mem_of_getElem? (i := 75) rfl)) (by decide) rfl X125 (c_bit l' Z a0 hw a123 a117 h125 n0 le _ (fun x => Int32.ofNat (hLe (fun i => [1, 1].getD i 0) (fun i => [B, Cc].getD i 0) 2 2 x)) F_m_aLengths_a123 A_a117 B_le) (argsL := [(.ref a117)]) (r := []) rfl (lenOf pd_11 rfl) rfl (Nat.le_of_eq rfl) (by decide) (by decide) (by decide) (by decide) (pc' := 477) rfl (fun T126 h126 v126 q126 S => ?_)
            obtain ⟨rfl, e126⟩ := q126; rw [e126] at S
            show Gl p e below s _ n0 _ T126 (mkF m 477 #[.val (.int p1), .val (.long q2), .second, .val (.long q3), .second, .val (.long q4), .second, .val (.long q5), .second, .val (.long q6), .second, .val (.int (Int32.ofNat A)), .val (.int (Int32.ofNat B)), .val (.int (Int32.ofNat Cc)), .val (.int (Int32.ofNat D)), .val (.int sh), .val (.long (hSm q2)), .second, .val (.long (hSm q3)), .second, .val (.long (hSm q4)), .second, .val (.long (hSm q5)), .second, .val (.long (hSm q6)), .second, .val (.ref a63), .val (.ref a64), .val (.int (0 : Int32)), .val (.int (1 : Int32)), .val (.int (1 : Int32)), .val (.int (0 : Int32)), .val (.int (2 : Int32)), .val (.ref a117), .val (.ref a123), .val (.long (((((hSm q2) * ((0 : Int32).toInt64)) + ((hSm q3) * ((1 : Int32).toInt64))) + ((hSm q4) * ((1 : Int32).toInt64))) + ((hSm q5) * ((0 : Int32).toInt64)))), .second] [(.long (hSum (hN5 A B Cc D (hSm q2) (hSm q3) (hSm q4) (hSm q5) (hSm q6)) (fun x => Int32.ofNat (hLe (fun i => [1, 1].getD i 0) (fun i => [B, Cc].getD i 0) 2 2 x)) 256))])
            refine g_lload C S at_477 (pc' := 479) rfl rfl ?_
            refine g_lcmp C S at_479 (pc' := 480) rfl ?_
            refine g_lif_ne C S at_480 (pc' := 487) (pf := 483) (by decide) (by decide) rfl (fun hc480 => absurd (hBits (A := A) (B := B) (C := Cc) (D := D) (ka := 0) (kb := 1) (kc := 1) (kd := 0) (by omega) (by omega) (by omega) (by omega) (hLe_no (l := (fun i => [1, 1].getD i 0)) (V := (fun i => [B, Cc].getD i 0)) ((hGood_spec (l := (fun i => [1, 1].getD i 0)) (n := 2) (by decide +kernel)).2.2.2.2.2) (fa2 (show A ≠ B by omega) (show A ≠ Cc by omega)) 2 (by decide)) ((hLe_V (l := (fun i => [1, 1].getD i 0)) (V := (fun i => [B, Cc].getD i 0)) (fs2 (show B < Cc by omega)) ((hGood_spec (l := (fun i => [1, 1].getD i 0)) (n := 2) (by decide +kernel)).2.2.2.2.2) (i := 0) (by decide) 2 (by decide)).trans (by decide +kernel)) ((hLe_V (l := (fun i => [1, 1].getD i 0)) (V := (fun i => [B, Cc].getD i 0)) (fs2 (show B < Cc by omega)) ((hGood_spec (l := (fun i => [1, 1].getD i 0)) (n := 2) (by decide +kernel)).2.2.2.2.2) (i := 1) (by decide) 2 (by decide)).trans (by decide +kernel)) (hLe_no (l := (fun i => [1, 1].getD i 0)) (V := (fun i => [B, Cc].getD i 0)) ((hGood_spec (l := (fun i => [1, 1].getD i 0)) (n := 2) (by decide +kernel)).2.2.2.2.2) (fa2 (show D ≠ B by omega) (show D ≠ Cc by omega)) 2 (by decide)) (fun x xA xB xC xD => hLe_no (l := (fun i => [1, 1].getD i 0)) (V := (fun i => [B, Cc].getD i 0)) ((hGood_spec (l := (fun i => [1, 1].getD i 0)) (n := 2) (by decide +kernel)).2.2.2.2.2) (fa2 xB xC) 2 (by decide))) hc480) (fun hc480 => ?_)
            refine g_iconst C S (1 : Int32) at_483 (pc' := 484) rfl rfl ?_
            refine g_goto C S at_484 (pc' := 488) (by decide) (by decide) ?_
            exact g_retZ C S at_488 (by decide) (by decide) (by decide) (rfl)
        · refine g_iconst C S (3 : Int32) at_204 (pc' := 205) rfl rfl ?_
          refine g_istore C S at_205 (pc' := 207) rfl (L' := #[.val (.int p1), .val (.long q2), .second, .val (.long q3), .second, .val (.long q4), .second, .val (.long q5), .second, .val (.long q6), .second, .val (.int (Int32.ofNat A)), .val (.int (Int32.ofNat B)), .val (.int (Int32.ofNat Cc)), .val (.int (Int32.ofNat D)), .val (.int sh), .val (.long (hSm q2)), .second, .val (.long (hSm q3)), .second, .val (.long (hSm q4)), .second, .val (.long (hSm q5)), .second, .val (.long (hSm q6)), .second, .val (.ref a63), .val (.ref a64), .val (.int (0 : Int32)), .val (.int (0 : Int32)), .val (.int (0 : Int32)), .val (.int (0 : Int32)), .val (.int (3 : Int32)), .unset, .unset, .unset, .unset]) rfl ?_
          refine g_aload C S at_207 (pc' := 209) rfl rfl rfl ?_
          refine g_iconst C S (0 : Int32) at_209 (pc' := 210) rfl rfl ?_
          refine g_iload C S at_210 (pc' := 212) rfl rfl ?_
          refine g_iastore C S (i := 0) at_212 A_a63 (by decide) (by decide) ge_a63 (pc' := 213) rfl (fun T127 h127 S W127 B127 => ?_)
          have Zn := Nat.le_trans Zn (Nat.le_of_eq W127.size.symm)
          have A_a64 := A_a64.other W127 (Ne.symm ne_a63_a64)
          have A_a63 := B127
          refine g_aload C S at_213 (pc' := 215) rfl rfl rfl ?_
          refine g_iconst C S (1 : Int32) at_215 (pc' := 216) rfl rfl ?_
          refine g_iload C S at_216 (pc' := 218) rfl rfl ?_
          refine g_iastore C S (i := 1) at_218 A_a63 (by decide) (by decide) ge_a63 (pc' := 219) rfl (fun T128 h128 S W128 B128 => ?_)
          have Zn := Nat.le_trans Zn (Nat.le_of_eq W128.size.symm)
          have A_a64 := A_a64.other W128 (Ne.symm ne_a63_a64)
          have A_a63 := B128
          refine g_aload C S at_219 (pc' := 221) rfl rfl rfl ?_
          refine g_iconst C S (2 : Int32) at_221 (pc' := 222) rfl rfl ?_
          refine g_iload C S at_222 (pc' := 224) rfl rfl ?_
          refine g_iastore C S (i := 2) at_224 A_a63 (by decide) (by decide) ge_a63 (pc' := 225) rfl (fun T129 h129 S W129 B129 => ?_)
          have Zn := Nat.le_trans Zn (Nat.le_of_eq W129.size.symm)
          have A_a64 := A_a64.other W129 (Ne.symm ne_a63_a64)
          have A_a63 := B129
          refine g_iconst C S (2 : Int32) at_225 (pc' := 226) rfl rfl ?_
          refine g_istore C S at_226 (pc' := 228) rfl (L' := #[.val (.int p1), .val (.long q2), .second, .val (.long q3), .second, .val (.long q4), .second, .val (.long q5), .second, .val (.long q6), .second, .val (.int (Int32.ofNat A)), .val (.int (Int32.ofNat B)), .val (.int (Int32.ofNat Cc)), .val (.int (Int32.ofNat D)), .val (.int sh), .val (.long (hSm q2)), .second, .val (.long (hSm q3)), .second, .val (.long (hSm q4)), .second, .val (.long (hSm q5)), .second, .val (.long (hSm q6)), .second, .val (.ref a63), .val (.ref a64), .val (.int (2 : Int32)), .val (.int (0 : Int32)), .val (.int (0 : Int32)), .val (.int (0 : Int32)), .val (.int (3 : Int32)), .unset, .unset, .unset, .unset]) rfl ?_
          refine g_iconst C S (2 : Int32) at_228 (pc' := 229) rfl rfl ?_
          refine g_istore C S at_229 (pc' := 231) rfl (L' := #[.val (.int p1), .val (.long q2), .second, .val (.long q3), .second, .val (.long q4), .second, .val (.long q5), .second, .val (.long q6), .second, .val (.int (Int32.ofNat A)), .val (.int (Int32.ofNat B)), .val (.int (Int32.ofNat Cc)), .val (.int (Int32.ofNat D)), .val (.int sh), .val (.long (hSm q2)), .second, .val (.long (hSm q3)), .second, .val (.long (hSm q4)), .second, .val (.long (hSm q5)), .second, .val (.long (hSm q6)), .second, .val (.ref a63), .val (.ref a64), .val (.int (2 : Int32)), .val (.int (0 : Int32)), .val (.int (2 : Int32)), .val (.int (0 : Int32)), .val (.int (3 : Int32)), .unset, .unset, .unset, .unset]) rfl ?_
          refine g_iconst C S (1 : Int32) at_231 (pc' := 232) rfl rfl ?_
          refine g_istore C S at_232 (pc' := 234) rfl (L' := #[.val (.int p1), .val (.long q2), .second, .val (.long q3), .second, .val (.long q4), .second, .val (.long q5), .second, .val (.long q6), .second, .val (.int (Int32.ofNat A)), .val (.int (Int32.ofNat B)), .val (.int (Int32.ofNat Cc)), .val (.int (Int32.ofNat D)), .val (.int sh), .val (.long (hSm q2)), .second, .val (.long (hSm q3)), .second, .val (.long (hSm q4)), .second, .val (.long (hSm q5)), .second, .val (.long (hSm q6)), .second, .val (.ref a63), .val (.ref a64), .val (.int (2 : Int32)), .val (.int (0 : Int32)), .val (.int (2 : Int32)), .val (.int (1 : Int32)), .val (.int (3 : Int32)), .unset, .unset, .unset, .unset]) rfl ?_
          refine g_goto C S at_234 (pc' := 349) (by decide) (by decide) ?_
          refine g_aload C S at_349 (pc' := 351) rfl rfl rfl ?_
          refine g_iload C S at_351 (pc' := 353) rfl rfl ?_
          refine g_iload C S at_353 (pc' := 355) rfl rfl ?_
          refine g_iastore C S (i := A) at_355 A_a64 (o32 (by omega)) (by omega) ge_a64 (pc' := 356) rfl (fun T130 h130 S W130 B130 => ?_)
          have Zn := Nat.le_trans Zn (Nat.le_of_eq W130.size.symm)
          have A_a63 := A_a63.other W130 ne_a63_a64
          have A_a64 := B130
          refine g_aload C S at_356 (pc' := 358) rfl rfl rfl ?_
          refine g_iload C S at_358 (pc' := 360) rfl rfl ?_
          refine g_iload C S at_360 (pc' := 362) rfl rfl ?_
          refine g_iastore C S (i := B) at_362 A_a64 (o32 (by omega)) (by omega) ge_a64 (pc' := 363) rfl (fun T131 h131 S W131 B131 => ?_)
          have Zn := Nat.le_trans Zn (Nat.le_of_eq W131.size.symm)
          have A_a63 := A_a63.other W131 ne_a63_a64
          have A_a64 := B131
          refine g_aload C S at_363 (pc' := 365) rfl rfl rfl ?_
          refine g_iload C S at_365 (pc' := 367) rfl rfl ?_
          refine g_iload C S at_367 (pc' := 369) rfl rfl ?_
          refine g_iastore C S (i := Cc) at_369 A_a64 (o32 (by omega)) (by omega) ge_a64 (pc' := 370) rfl (fun T132 h132 S W132 B132 => ?_)
          have Zn := Nat.le_trans Zn (Nat.le_of_eq W132.size.symm)
          have A_a63 := A_a63.other W132 ne_a63_a64
          have A_a64 := B132
          refine g_aload C S at_370 (pc' := 372) rfl rfl rfl ?_
          refine g_iload C S at_372 (pc' := 374) rfl rfl ?_
          refine g_iload C S at_374 (pc' := 376) rfl rfl ?_
          refine g_iastore C S (i := D) at_376 A_a64 (o32 (by omega)) (by omega) ge_a64 (pc' := 377) rfl (fun T133 h133 S W133 B133 => ?_)
          have Zn := Nat.le_trans Zn (Nat.le_of_eq W133.size.symm)
          have A_a63 := A_a63.other W133 ne_a63_a64
          have A_a64 := B133
          have A_a64 : Ary Z h133 a64 .int 256 (hL4 A B Cc D (2 : Int32) (0 : Int32) (2 : Int32) (1 : Int32)) := A_a64
          refine g_sipush C S (256 : Int32) at_377 (pc' := 380) rfl rfl ?_
          refine g_newarray C S (N := 256) (cap := 256) at_380 (hw _ (List.mem_of_getElem? (i := 6) rfl)) (by decide) (by decide) (by decide) (by decide) (by decide) (pc' := 382) rfl (fun T134 h134 a134 S g134 E134 A_a134 => ?_)
          have ne_a63_a134 : a63 ≠ a134 := ne_new g134 A_a63.lt
          have ne_a64_a134 : a64 ≠ a134 := ne_new g134 A_a64.lt
          have lt_a64_a134 : a64 < a134 := Nat.lt_of_lt_of_le A_a64.lt (Nat.le_of_eq g134.symm)
          have ge_a134 : n0 ≤ a134 := ge_of g134 Zn
          have Zn := Nat.le_trans Zn E134.1
          have A_a63 := A_a63.ext E134
          have A_a64 := A_a64.ext E134
          have A_a134 : Ary Z h134 a134 .long 256 (fun _ => (.long (0 : Int64))) := A_a134
          refine g_astore C S at_382 (pc' := 384) rfl rfl (L' := #[.val (.int p1), .val (.long q2), .second, .val (.long q3), .second, .val (.long q4), .second, .val (.long q5), .second, .val (.long q6), .second, .val (.int (Int32.ofNat A)), .val (.int (Int32.ofNat B)), .val (.int (Int32.ofNat Cc)), .val (.int (Int32.ofNat D)), .val (.int sh), .val (.long (hSm q2)), .second, .val (.long (hSm q3)), .second, .val (.long (hSm q4)), .second, .val (.long (hSm q5)), .second, .val (.long (hSm q6)), .second, .val (.ref a63), .val (.ref a64), .val (.int (2 : Int32)), .val (.int (0 : Int32)), .val (.int (2 : Int32)), .val (.int (1 : Int32)), .val (.int (3 : Int32)), .val (.ref a134), .unset, .unset, .unset]) rfl ?_
          refine g_aload C S at_384 (pc' := 386) rfl rfl rfl ?_
          refine g_iload C S at_386 (pc' := 388) rfl rfl ?_
          refine g_lload C S at_388 (pc' := 390) rfl rfl ?_
          refine g_lastore C S (i := A) at_390 A_a134 (o32 (by omega)) (by omega) ge_a134 (pc' := 391) rfl (fun T135 h135 S W135 B135 => ?_)
          have Zn := Nat.le_trans Zn (Nat.le_of_eq W135.size.symm)
          have A_a63 := A_a63.other W135 ne_a63_a134
          have A_a64 := A_a64.other W135 ne_a64_a134
          have A_a134 := B135
          refine g_aload C S at_391 (pc' := 393) rfl rfl rfl ?_
          refine g_iload C S at_393 (pc' := 395) rfl rfl ?_
          refine g_lload C S at_395 (pc' := 397) rfl rfl ?_
          refine g_lastore C S (i := B) at_397 A_a134 (o32 (by omega)) (by omega) ge_a134 (pc' := 398) rfl (fun T136 h136 S W136 B136 => ?_)
          have Zn := Nat.le_trans Zn (Nat.le_of_eq W136.size.symm)
          have A_a63 := A_a63.other W136 ne_a63_a134
          have A_a64 := A_a64.other W136 ne_a64_a134
          have A_a134 := B136
          refine g_aload C S at_398 (pc' := 400) rfl rfl rfl ?_
          refine g_iload C S at_400 (pc' := 402) rfl rfl ?_
          refine g_lload C S at_402 (pc' := 404) rfl rfl ?_
          refine g_lastore C S (i := Cc) at_404 A_a134 (o32 (by omega)) (by omega) ge_a134 (pc' := 405) rfl (fun T137 h137 S W137 B137 => ?_)
          have Zn := Nat.le_trans Zn (Nat.le_of_eq W137.size.symm)
          have A_a63 := A_a63.other W137 ne_a63_a134
          have A_a64 := A_a64.other W137 ne_a64_a134
          have A_a134 := B137
          refine g_aload C S at_405 (pc' := 407) rfl rfl rfl ?_
          refine g_iload C S at_407 (pc' := 409) rfl rfl ?_
          refine g_lload C S at_409 (pc' := 411) rfl rfl ?_
          refine g_lastore C S (i := D) at_411 A_a134 (o32 (by omega)) (by omega) ge_a134 (pc' := 412) rfl (fun T138 h138 S W138 B138 => ?_)
          have Zn := Nat.le_trans Zn (Nat.le_of_eq W138.size.symm)
          have A_a63 := A_a63.other W138 ne_a63_a134
          have A_a64 := A_a64.other W138 ne_a64_a134
          have A_a134 := B138
          refine g_aload C S at_412 (pc' := 414) rfl rfl rfl ?_
          refine g_iload C S at_414 (pc' := 416) rfl rfl ?_
          refine g_iconst C S (1 : Int32) at_416 (pc' := 417) rfl rfl ?_
          refine g_iadd C S at_417 (pc' := 418) rfl ?_
          refine g_lload C S at_418 (pc' := 420) rfl rfl ?_
          refine g_lastore C S (i := (A + 1)) at_420 A_a134 (by rw [o32_succ]; exact o32 (by omega)) (by omega) ge_a134 (pc' := 421) rfl (fun T139 h139 S W139 B139 => ?_)
          have Zn := Nat.le_trans Zn (Nat.le_of_eq W139.size.symm)
          have A_a63 := A_a63.other W139 ne_a63_a134
          have A_a64 := A_a64.other W139 ne_a64_a134
          have A_a134 := B139
          have A_a134 := A_a134.cg (hN5_eq A B Cc D (hSm q2) (hSm q3) (hSm q4) (hSm q5) (hSm q6) 256)
          refine g_new C S at_421 (hw _ (List.mem_of_getElem? (i := 7) rfl)) (hw _ (List.mem_of_getElem? (i := 8) rfl)) (hw _ (List.mem_of_getElem? (i := 9) rfl)) (by decide) (by decide) (pc' := 424) rfl (fun T140 h140 a140 S g140 E140 X140 D140 => ?_)
          have ne_a63_a140 : a63 ≠ a140 := ne_new g140 A_a63.lt
          have ne_a64_a140 : a64 ≠ a140 := ne_new g140 A_a64.lt
          have ne_a134_a140 : a134 ≠ a140 := ne_new g140 A_a134.lt
          have lt_a134_a140 : a134 < a140 := Nat.lt_of_lt_of_le A_a134.lt (Nat.le_of_eq g140.symm)
          have ge_a140 : n0 ≤ a140 := ge_of g140 Zn
          have Zn := Nat.le_trans Zn E140.1
          have A_a63 := A_a63.ext E140
          have A_a64 := A_a64.ext E140
          have A_a134 := A_a134.ext E140
          have F_m_aSymbols_a140 : Fld Z h140 a140 "leafpress/HuffmanCode" "m_aSymbols" "[I" .null := D140 (Or.inr (hw _ (List.mem_of_getElem? (i := 17) rfl))) (ty := (.array .int)) (by decide)
          have F_m_aCodes_a140 : Fld Z h140 a140 "leafpress/HuffmanCode" "m_aCodes" "[J" .null := D140 (Or.inr (hw _ (List.mem_of_getElem? (i := 19) rfl))) (ty := (.array .long)) (by decide)
          have F_m_aLengths_a140 : Fld Z h140 a140 "leafpress/HuffmanCode" "m_aLengths" "[B" .null := D140 (Or.inr (hw _ (List.mem_of_getElem? (i := 22) rfl))) (ty := (.array .byte)) (by decide)
          have F_m_aLengthCounts_a140 : Fld Z h140 a140 "leafpress/HuffmanCode" "m_aLengthCounts" "[I" .null := D140 (Or.inr (hw _ (List.mem_of_getElem? (i := 24) rfl))) (ty := (.array .int)) (by decide)
          have F_m_aFirstCodes_a140 : Fld Z h140 a140 "leafpress/HuffmanCode" "m_aFirstCodes" "[J" .null := D140 (Or.inr (hw _ (List.mem_of_getElem? (i := 26) rfl))) (ty := (.array .long)) (by decide)
          have F_m_aFirstSymbols_a140 : Fld Z h140 a140 "leafpress/HuffmanCode" "m_aFirstSymbols" "[I" .null := D140 (Or.inr (hw _ (List.mem_of_getElem? (i := 28) rfl))) (ty := (.array .int)) (by decide)
          have F_m_nValues_a140 : Fld Z h140 a140 "leafpress/HuffmanCode" "m_nValues" "I" (.int (0 : Int32)) := D140 (Or.inl (hw _ (List.mem_of_getElem? (i := 59) rfl))) (ty := .int) (by decide)
          have F_m_nLongest_a140 : Fld Z h140 a140 "leafpress/HuffmanCode" "m_nLongest" "I" (.int (0 : Int32)) := D140 (Or.inl (hw _ (List.mem_of_getElem? (i := 68) rfl))) (ty := .int) (by decide)
          have F_m_bPacked_a140 : Fld Z h140 a140 "leafpress/HuffmanCode" "m_bPacked" "Z" (.int (0 : Int32)) := D140 (Or.inl (hw _ (List.mem_of_getElem? (i := 70) rfl))) (ty := .boolean) (by decide)
          refine g_dup C S at_424 (pc' := 425) rfl rfl ?_
          refine g_callI C S (rm := ({ frames := 2, cells := 6, slots := 968, locals := 30 } : Room)) (W := 1) at_425 rfl (hw _ (List.mem_of_getElem? (i := 10) rfl)) (hw _ (List.mem_of_getElem? (i := 11) rfl)) (hw _ (List.mem_of_getElem? (i := 9) rfl)) (hw _ (List.mem_of_getElem? (i := 12) rfl)) (by decide) (c_ini l' Z a0 hw a140 h140 n0 Zn ge_a140 X140 F_m_aSymbols_a140 F_m_aCodes_a140 F_m_aLengths_a140 F_m_aLengthCounts_a140 F_m_aFirstCodes_a140 F_m_aFirstSymbols_a140 F_m_nLongest_a140 F_m_nValues_a140 F_m_bPacked_a140) (argsL := []) (r := [(.ref a140)]) rfl (lenOf pd_6 rfl) rfl (Nat.le_of_eq rfl) (by decide) (by decide) (by decide) (by decide) (pc' := 428) rfl (fun T141 h141 v141 q141 S => ?_)
          have lt_o_sy0 := X140.lt
          obtain ⟨sy, co, le, lc, fa, fb, rfl, K141, Y141, F_m_aSymbols_a140, F_m_aCodes_a140, F_m_aLengths_a140, F_m_aLengthCounts_a140, F_m_aFirstCodes_a140, F_m_aFirstSymbols_a140, F_m_nLongest_a140, F_m_nValues_a140, F_m_bPacked_a140, A_sy, A_co, A_le, A_lc, A_fa, A_fb, sz_sy, lt_sy_co, lt_co_le, lt_le_lc, lt_lc_fa, lt_fa_fb, -, g_sy, g_co, g_le, g_lc, g_fa, g_fb⟩ := q141
          have lt_a140_sy : a140 < sy := Nat.lt_of_lt_of_le lt_o_sy0 sz_sy
          have Zn := Nat.le_trans Zn K141.1
          have A_a63 := A_a63.keep K141 (ninS ne_a63_a140 nin0)
          have A_a64 := A_a64.keep K141 (ninS ne_a64_a140 nin0)
          have A_a134 := A_a134.keep K141 (ninS ne_a134_a140 nin0)
          show Gl p e below s _ n0 _ T141 (mkF m 428 #[.val (.int p1), .val (.long q2), .second, .val (.long q3), .second, .val (.long q4), .second, .val (.long q5), .second, .val (.long q6), .second, .val (.int (Int32.ofNat A)), .val (.int (Int32.ofNat B)), .val (.int (Int32.ofNat Cc)), .val (.int (Int32.ofNat D)), .val (.int sh), .val (.long (hSm q2)), .second, .val (.long (hSm q3)), .second, .val (.long (hSm q4)), .second, .val (.long (hSm q5)), .second, .val (.long (hSm q6)), .second, .val (.ref a63), .val (.ref a64), .val (.int (2 : Int32)), .val (.int (0 : Int32)), .val (.int (2 : Int32)), .val (.int (1 : Int32)), .val (.int (3 : Int32)), .val (.ref a134), .unset, .unset, .unset] [(.ref a140)])
          refine g_astore C S at_428 (pc' := 430) rfl rfl (L' := #[.val (.int p1), .val (.long q2), .second, .val (.long q3), .second, .val (.long q4), .second, .val (.long q5), .second, .val (.long q6), .second, .val (.int (Int32.ofNat A)), .val (.int (Int32.ofNat B)), .val (.int (Int32.ofNat Cc)), .val (.int (Int32.ofNat D)), .val (.int sh), .val (.long (hSm q2)), .second, .val (.long (hSm q3)), .second, .val (.long (hSm q4)), .second, .val (.long (hSm q5)), .second, .val (.long (hSm q6)), .second, .val (.ref a63), .val (.ref a64), .val (.int (2 : Int32)), .val (.int (0 : Int32)), .val (.int (2 : Int32)), .val (.int (1 : Int32)), .val (.int (3 : Int32)), .val (.ref a134), .val (.ref a140), .unset, .unset]) rfl ?_
          refine g_aload C S at_430 (pc' := 432) rfl rfl rfl ?_
          refine g_aload C S at_432 (pc' := 434) rfl rfl rfl ?_
          refine g_iload C S at_434 (pc' := 436) rfl rfl ?_
          refine g_aload C S at_436 (pc' := 438) rfl rfl rfl ?_
          refine g_callV C S (rm := ({ frames := 2, cells := 0, slots := 0, locals := 43 } : Room)) (W := 0) at_438 (hw _ (List.mem_of_getElem? (i := 36) rfl)) (hw _ (List.mem_of_getElem? (i := 37) rfl)) (notFace_of_selects (args := #[]) (mvT C.2.1 (hw _ (List.mem_of_getElem? (i := 39) rfl)))) (hw _ (List.mem_of_getElem? (i := 39) rfl)) (hw _ (List.mem_of_getElem? (i := 38) rfl)) (hw _ (List.mem_of_getElem? (i := 9) rfl)) (hw _ (List.mem_of_getElem? (i := 40) rfl)) (by decide) rfl Y141 (c_fil l' Z a0 hw a140 a63 a64 h141 n0 (fun i => [2, 2, 1].getD i 0) (fun i => [A, Cc, D].getD i 0) 3 4 256 _ _ (by decide +kernel) (by decide) (by decide) (fa3 (show A < 256 by omega) (show Cc < 256 by omega) (show D < 256 by omega)) (fs3 (show A < Cc by omega) (show Cc < D by omega)) (fa3 rfl rfl rfl) (fa3 (hL4_A (A := A) (B := B) (C := Cc) (D := D) (by omega) (by omega) (by omega)) (hL4_C (A := A) (B := B) (C := Cc) (D := D) (by omega)) hL4_D) sy co le lc fa fb _ _ _ _ _ _ ge_a140 g_sy g_co g_le g_lc g_fa g_fb (nd9 lt_a63_a64 (Nat.lt_trans lt_a64_a134 lt_a134_a140) lt_a140_sy lt_sy_co lt_co_le lt_le_lc lt_lc_fa lt_fa_fb) Y141 F_m_aSymbols_a140 F_m_aCodes_a140 F_m_aLengths_a140 F_m_aLengthCounts_a140 F_m_aFirstCodes_a140 F_m_aFirstSymbols_a140 F_m_nLongest_a140 F_m_nValues_a140 F_m_bPacked_a140 A_a63 A_a64 A_lc A_fa A_fb A_sy A_co A_le) (argsL := [(.ref a63), (.int (3 : Int32)), (.ref a64)]) (r := []) rfl (lenOf pd_10 rfl) rfl (Nat.le_of_eq rfl) (by decide) (by decide) (by decide) (by decide) (pc' := 441) rfl (fun T142 h142 v142 q142 S => ?_)
          obtain ⟨rfl, K142, X142, G_co, F_m_aLengths_a140, G_pk, B_co, B_le⟩ := q142
          have A_a134 := A_a134.keep K142 (ninS (Nat.ne_of_lt lt_a134_a140) (ninS (Nat.ne_of_lt (Nat.lt_trans lt_a134_a140 lt_a140_sy)) (ninS (Nat.ne_of_lt (Nat.lt_trans (Nat.lt_trans lt_a134_a140 lt_a140_sy) lt_sy_co)) (ninS (Nat.ne_of_lt (Nat.lt_trans (Nat.lt_trans (Nat.lt_trans lt_a134_a140 lt_a140_sy) lt_sy_co) lt_co_le)) (ninS (Nat.ne_of_lt (Nat.lt_trans (Nat.lt_trans (Nat.lt_trans (Nat.lt_trans lt_a134_a140 lt_a140_sy) lt_sy_co) lt_co_le) lt_le_lc)) (ninS (Nat.ne_of_lt (Nat.lt_trans (Nat.lt_trans (Nat.lt_trans (Nat.lt_trans (Nat.lt_trans lt_a134_a140 lt_a140_sy) lt_sy_co) lt_co_le) lt_le_lc) lt_lc_fa)) (ninS (Nat.ne_of_lt (Nat.lt_trans (Nat.lt_trans (Nat.lt_trans (Nat.lt_trans (Nat.lt_trans (Nat.lt_trans lt_a134_a140 lt_a140_sy) lt_sy_co) lt_co_le) lt_le_lc) lt_lc_fa) lt_fa_fb)) nin0)))))))
          show Gl p e below s _ n0 _ T142 (mkF m 441 #[.val (.int p1), .val (.long q2), .second, .val (.long q3), .second, .val (.long q4), .second, .val (.long q5), .second, .val (.long q6), .second, .val (.int (Int32.ofNat A)), .val (.int (Int32.ofNat B)), .val (.int (Int32.ofNat Cc)), .val (.int (Int32.ofNat D)), .val (.int sh), .val (.long (hSm q2)), .second, .val (.long (hSm q3)), .second, .val (.long (hSm q4)), .second, .val (.long (hSm q5)), .second, .val (.long (hSm q6)), .second, .val (.ref a63), .val (.ref a64), .val (.int (2 : Int32)), .val (.int (0 : Int32)), .val (.int (2 : Int32)), .val (.int (1 : Int32)), .val (.int (3 : Int32)), .val (.ref a134), .val (.ref a140), .unset, .unset] [])
          refine g_lload C S at_441 (pc' := 443) rfl rfl ?_
          refine g_iload C S at_443 (pc' := 445) rfl rfl ?_
          refine g_i2l C S at_445 (pc' := 446) rfl ?_
          refine g_lmul C S at_446 (pc' := 447) rfl ?_
          refine g_lload C S at_447 (pc' := 449) rfl rfl ?_
          refine g_iload C S at_449 (pc' := 451) rfl rfl ?_
          refine g_i2l C S at_451 (pc' := 452) rfl ?_
          refine g_lmul C S at_452 (pc' := 453) rfl ?_
          refine g_ladd C S at_453 (pc' := 454) rfl ?_
          refine g_lload C S at_454 (pc' := 456) rfl rfl ?_
          refine g_iload C S at_456 (pc' := 458) rfl rfl ?_
          refine g_i2l C S at_458 (pc' := 459) rfl ?_
          refine g_lmul C S at_459 (pc' := 460) rfl ?_
          refine g_ladd C S at_460 (pc' := 461) rfl ?_
          refine g_lload C S at_461 (pc' := 463) rfl rfl ?_
          refine g_iload C S at_463 (pc' := 465) rfl rfl ?_
          refine g_i2l C S at_465 (pc' := 466) rfl ?_
          refine g_lmul C S at_466 (pc' := 467) rfl ?_
          refine g_ladd C S at_467 (pc' := 468) rfl ?_
          refine g_lstore C S at_468 (pc' := 470) rfl (L' := #[.val (.int p1), .val (.long q2), .second, .val (.long q3), .second, .val (.long q4), .second, .val (.long q5), .second, .val (.long q6), .second, .val (.int (Int32.ofNat A)), .val (.int (Int32.ofNat B)), .val (.int (Int32.ofNat Cc)), .val (.int (Int32.ofNat D)), .val (.int sh), .val (.long (hSm q2)), .second, .val (.long (hSm q3)), .second, .val (.long (hSm q4)), .second, .val (.long (hSm q5)), .second, .val (.long (hSm q6)), .second, .val (.ref a63), .val (.ref a64), .val (.int (2 : Int32)), .val (.int (0 : Int32)), .val (.int (2 : Int32)), .val (.int (1 : Int32)), .val (.int (3 : Int32)), .val (.ref a134), .val (.ref a140), .val (.long (((((hSm q2) * ((2 : Int32).toInt64)) + ((hSm q3) * ((0 : Int32).toInt64))) + ((hSm q4) * ((2 : Int32).toInt64))) + ((hSm q5) * ((1 : Int32).toInt64)))), .second]) rfl ?_
          refine g_aload C S at_470 (pc' := 472) rfl rfl rfl ?_
          refine g_aload C S at_472 (pc' := 474) rfl rfl rfl ?_
          refine g_callV C S (rm := ({ frames := 0, cells := 0, slots := 0, locals := 0 } : Room)) (W := 0) at_474 (hw _ (List.mem_of_getElem? (i := 71) rfl)) (hw _ (List.mem_of_getElem? (i := 72) rfl)) (notFace_of_selects (args := #[]) (mvT C.2.1 (hw _ (List.mem_of_getElem? (i := 74) rfl)))) (hw _ (List.mem_of_getElem? (i := 74) rfl)) (hw _ (List.mem_of_getElem? (i := 73) rfl)) (hw _ (List.mem_of_getElem? (i := 9) rfl)) (hw _ (List.mem_of_getElem? (i := 75) rfl)) (by decide) rfl X142 (c_bit l' Z a0 hw a140 a134 h142 n0 le _ (fun x => Int32.ofNat (hLe (fun i => [2, 2, 1].getD i 0) (fun i => [A, Cc, D].getD i 0) 3 3 x)) F_m_aLengths_a140 A_a134 B_le) (argsL := [(.ref a134)]) (r := []) rfl (lenOf pd_11 rfl) rfl (Nat.le_of_eq rfl) (by decide) (by decide) (by decide) (by decide) (pc' := 477) rfl (fun T143 h143 v143 q143 S => ?_)
          obtain ⟨rfl, e143⟩ := q143; rw [e143] at S
          show Gl p e below s _ n0 _ T143 (mkF m 477 #[.val (.int p1), .val (.long q2), .second, .val (.long q3), .second, .val (.long q4), .second, .val (.long q5), .second, .val (.long q6), .second, .val (.int (Int32.ofNat A)), .val (.int (Int32.ofNat B)), .val (.int (Int32.ofNat Cc)), .val (.int (Int32.ofNat D)), .val (.int sh), .val (.long (hSm q2)), .second, .val (.long (hSm q3)), .second, .val (.long (hSm q4)), .second, .val (.long (hSm q5)), .second, .val (.long (hSm q6)), .second, .val (.ref a63), .val (.ref a64), .val (.int (2 : Int32)), .val (.int (0 : Int32)), .val (.int (2 : Int32)), .val (.int (1 : Int32)), .val (.int (3 : Int32)), .val (.ref a134), .val (.ref a140), .val (.long (((((hSm q2) * ((2 : Int32).toInt64)) + ((hSm q3) * ((0 : Int32).toInt64))) + ((hSm q4) * ((2 : Int32).toInt64))) + ((hSm q5) * ((1 : Int32).toInt64)))), .second] [(.long (hSum (hN5 A B Cc D (hSm q2) (hSm q3) (hSm q4) (hSm q5) (hSm q6)) (fun x => Int32.ofNat (hLe (fun i => [2, 2, 1].getD i 0) (fun i => [A, Cc, D].getD i 0) 3 3 x)) 256))])
          refine g_lload C S at_477 (pc' := 479) rfl rfl ?_
          refine g_lcmp C S at_479 (pc' := 480) rfl ?_
          refine g_lif_ne C S at_480 (pc' := 487) (pf := 483) (by decide) (by decide) rfl (fun hc480 => absurd (hBits (A := A) (B := B) (C := Cc) (D := D) (ka := 2) (kb := 0) (kc := 2) (kd := 1) (by omega) (by omega) (by omega) (by omega) ((hLe_V (l := (fun i => [2, 2, 1].getD i 0)) (V := (fun i => [A, Cc, D].getD i 0)) (fs3 (show A < Cc by omega) (show Cc < D by omega)) ((hGood_spec (l := (fun i => [2, 2, 1].getD i 0)) (n := 3) (by decide +kernel)).2.2.2.2.2) (i := 0) (by decide) 3 (by decide)).trans (by decide +kernel)) (hLe_no (l := (fun i => [2, 2, 1].getD i 0)) (V := (fun i => [A, Cc, D].getD i 0)) ((hGood_spec (l := (fun i => [2, 2, 1].getD i 0)) (n := 3) (by decide +kernel)).2.2.2.2.2) (fa3 (show B ≠ A by omega) (show B ≠ Cc by omega) (show B ≠ D by omega)) 3 (by decide)) ((hLe_V (l := (fun i => [2, 2, 1].getD i 0)) (V := (fun i => [A, Cc, D].getD i 0)) (fs3 (show A < Cc by omega) (show Cc < D by omega)) ((hGood_spec (l := (fun i => [2, 2, 1].getD i 0)) (n := 3) (by decide +kernel)).2.2.2.2.2) (i := 1) (by decide) 3 (by decide)).trans (by decide +kernel)) ((hLe_V (l := (fun i => [2, 2, 1].getD i 0)) (V := (fun i => [A, Cc, D].getD i 0)) (fs3 (show A < Cc by omega) (show Cc < D by omega)) ((hGood_spec (l := (fun i => [2, 2, 1].getD i 0)) (n := 3) (by decide +kernel)).2.2.2.2.2) (i := 2) (by decide) 3 (by decide)).trans (by decide +kernel)) (fun x xA xB xC xD => hLe_no (l := (fun i => [2, 2, 1].getD i 0)) (V := (fun i => [A, Cc, D].getD i 0)) ((hGood_spec (l := (fun i => [2, 2, 1].getD i 0)) (n := 3) (by decide +kernel)).2.2.2.2.2) (fa3 xA xC xD) 3 (by decide))) hc480) (fun hc480 => ?_)
          refine g_iconst C S (1 : Int32) at_483 (pc' := 484) rfl rfl ?_
          refine g_goto C S at_484 (pc' := 488) (by decide) (by decide) ?_
          exact g_retZ C S at_488 (by decide) (by decide) (by decide) (rfl)
      · refine g_iconst C S (3 : Int32) at_164 (pc' := 165) rfl rfl ?_
        refine g_istore C S at_165 (pc' := 167) rfl (L' := #[.val (.int p1), .val (.long q2), .second, .val (.long q3), .second, .val (.long q4), .second, .val (.long q5), .second, .val (.long q6), .second, .val (.int (Int32.ofNat A)), .val (.int (Int32.ofNat B)), .val (.int (Int32.ofNat Cc)), .val (.int (Int32.ofNat D)), .val (.int sh), .val (.long (hSm q2)), .second, .val (.long (hSm q3)), .second, .val (.long (hSm q4)), .second, .val (.long (hSm q5)), .second, .val (.long (hSm q6)), .second, .val (.ref a63), .val (.ref a64), .val (.int (0 : Int32)), .val (.int (0 : Int32)), .val (.int (0 : Int32)), .val (.int (0 : Int32)), .val (.int (3 : Int32)), .unset, .unset, .unset, .unset]) rfl ?_
        refine g_aload C S at_167 (pc' := 169) rfl rfl rfl ?_
        refine g_iconst C S (0 : Int32) at_169 (pc' := 170) rfl rfl ?_
        refine g_iload C S at_170 (pc' := 172) rfl rfl ?_
        refine g_iastore C S (i := 0) at_172 A_a63 (by decide) (by decide) ge_a63 (pc' := 173) rfl (fun T144 h144 S W144 B144 => ?_)
        have Zn := Nat.le_trans Zn (Nat.le_of_eq W144.size.symm)
        have A_a64 := A_a64.other W144 (Ne.symm ne_a63_a64)
        have A_a63 := B144
        refine g_aload C S at_173 (pc' := 175) rfl rfl rfl ?_
        refine g_iconst C S (1 : Int32) at_175 (pc' := 176) rfl rfl ?_
        refine g_iload C S at_176 (pc' := 178) rfl rfl ?_
        refine g_iastore C S (i := 1) at_178 A_a63 (by decide) (by decide) ge_a63 (pc' := 179) rfl (fun T145 h145 S W145 B145 => ?_)
        have Zn := Nat.le_trans Zn (Nat.le_of_eq W145.size.symm)
        have A_a64 := A_a64.other W145 (Ne.symm ne_a63_a64)
        have A_a63 := B145
        refine g_aload C S at_179 (pc' := 181) rfl rfl rfl ?_
        refine g_iconst C S (2 : Int32) at_181 (pc' := 182) rfl rfl ?_
        refine g_iload C S at_182 (pc' := 184) rfl rfl ?_
        refine g_iastore C S (i := 2) at_184 A_a63 (by decide) (by decide) ge_a63 (pc' := 185) rfl (fun T146 h146 S W146 B146 => ?_)
        have Zn := Nat.le_trans Zn (Nat.le_of_eq W146.size.symm)
        have A_a64 := A_a64.other W146 (Ne.symm ne_a63_a64)
        have A_a63 := B146
        refine g_iconst C S (1 : Int32) at_185 (pc' := 186) rfl rfl ?_
        refine g_istore C S at_186 (pc' := 188) rfl (L' := #[.val (.int p1), .val (.long q2), .second, .val (.long q3), .second, .val (.long q4), .second, .val (.long q5), .second, .val (.long q6), .second, .val (.int (Int32.ofNat A)), .val (.int (Int32.ofNat B)), .val (.int (Int32.ofNat Cc)), .val (.int (Int32.ofNat D)), .val (.int sh), .val (.long (hSm q2)), .second, .val (.long (hSm q3)), .second, .val (.long (hSm q4)), .second, .val (.long (hSm q5)), .second, .val (.long (hSm q6)), .second, .val (.ref a63), .val (.ref a64), .val (.int (1 : Int32)), .val (.int (0 : Int32)), .val (.int (0 : Int32)), .val (.int (0 : Int32)), .val (.int (3 : Int32)), .unset, .unset, .unset, .unset]) rfl ?_
        refine g_iconst C S (2 : Int32) at_188 (pc' := 189) rfl rfl ?_
        refine g_istore C S at_189 (pc' := 191) rfl (L' := #[.val (.int p1), .val (.long q2), .second, .val (.long q3), .second, .val (.long q4), .second, .val (.long q5), .second, .val (.long q6), .second, .val (.int (Int32.ofNat A)), .val (.int (Int32.ofNat B)), .val (.int (Int32.ofNat Cc)), .val (.int (Int32.ofNat D)), .val (.int sh), .val (.long (hSm q2)), .second, .val (.long (hSm q3)), .second, .val (.long (hSm q4)), .second, .val (.long (hSm q5)), .second, .val (.long (hSm q6)), .second, .val (.ref a63), .val (.ref a64), .val (.int (1 : Int32)), .val (.int (2 : Int32)), .val (.int (0 : Int32)), .val (.int (0 : Int32)), .val (.int (3 : Int32)), .unset, .unset, .unset, .unset]) rfl ?_
        refine g_iconst C S (2 : Int32) at_191 (pc' := 192) rfl rfl ?_
        refine g_istore C S at_192 (pc' := 194) rfl (L' := #[.val (.int p1), .val (.long q2), .second, .val (.long q3), .second, .val (.long q4), .second, .val (.long q5), .second, .val (.long q6), .second, .val (.int (Int32.ofNat A)), .val (.int (Int32.ofNat B)), .val (.int (Int32.ofNat Cc)), .val (.int (Int32.ofNat D)), .val (.int sh), .val (.long (hSm q2)), .second, .val (.long (hSm q3)), .second, .val (.long (hSm q4)), .second, .val (.long (hSm q5)), .second, .val (.long (hSm q6)), .second, .val (.ref a63), .val (.ref a64), .val (.int (1 : Int32)), .val (.int (2 : Int32)), .val (.int (0 : Int32)), .val (.int (2 : Int32)), .val (.int (3 : Int32)), .unset, .unset, .unset, .unset]) rfl ?_
        refine g_goto C S at_194 (pc' := 349) (by decide) (by decide) ?_
        refine g_aload C S at_349 (pc' := 351) rfl rfl rfl ?_
        refine g_iload C S at_351 (pc' := 353) rfl rfl ?_
        refine g_iload C S at_353 (pc' := 355) rfl rfl ?_
        refine g_iastore C S (i := A) at_355 A_a64 (o32 (by omega)) (by omega) ge_a64 (pc' := 356) rfl (fun T147 h147 S W147 B147 => ?_)
        have Zn := Nat.le_trans Zn (Nat.le_of_eq W147.size.symm)
        have A_a63 := A_a63.other W147 ne_a63_a64
        have A_a64 := B147
        refine g_aload C S at_356 (pc' := 358) rfl rfl rfl ?_
        refine g_iload C S at_358 (pc' := 360) rfl rfl ?_
        refine g_iload C S at_360 (pc' := 362) rfl rfl ?_
        refine g_iastore C S (i := B) at_362 A_a64 (o32 (by omega)) (by omega) ge_a64 (pc' := 363) rfl (fun T148 h148 S W148 B148 => ?_)
        have Zn := Nat.le_trans Zn (Nat.le_of_eq W148.size.symm)
        have A_a63 := A_a63.other W148 ne_a63_a64
        have A_a64 := B148
        refine g_aload C S at_363 (pc' := 365) rfl rfl rfl ?_
        refine g_iload C S at_365 (pc' := 367) rfl rfl ?_
        refine g_iload C S at_367 (pc' := 369) rfl rfl ?_
        refine g_iastore C S (i := Cc) at_369 A_a64 (o32 (by omega)) (by omega) ge_a64 (pc' := 370) rfl (fun T149 h149 S W149 B149 => ?_)
        have Zn := Nat.le_trans Zn (Nat.le_of_eq W149.size.symm)
        have A_a63 := A_a63.other W149 ne_a63_a64
        have A_a64 := B149
        refine g_aload C S at_370 (pc' := 372) rfl rfl rfl ?_
        refine g_iload C S at_372 (pc' := 374) rfl rfl ?_
        refine g_iload C S at_374 (pc' := 376) rfl rfl ?_
        refine g_iastore C S (i := D) at_376 A_a64 (o32 (by omega)) (by omega) ge_a64 (pc' := 377) rfl (fun T150 h150 S W150 B150 => ?_)
        have Zn := Nat.le_trans Zn (Nat.le_of_eq W150.size.symm)
        have A_a63 := A_a63.other W150 ne_a63_a64
        have A_a64 := B150
        have A_a64 : Ary Z h150 a64 .int 256 (hL4 A B Cc D (1 : Int32) (2 : Int32) (0 : Int32) (2 : Int32)) := A_a64
        refine g_sipush C S (256 : Int32) at_377 (pc' := 380) rfl rfl ?_
        refine g_newarray C S (N := 256) (cap := 256) at_380 (hw _ (List.mem_of_getElem? (i := 6) rfl)) (by decide) (by decide) (by decide) (by decide) (by decide) (pc' := 382) rfl (fun T151 h151 a151 S g151 E151 A_a151 => ?_)
        have ne_a63_a151 : a63 ≠ a151 := ne_new g151 A_a63.lt
        have ne_a64_a151 : a64 ≠ a151 := ne_new g151 A_a64.lt
        have lt_a64_a151 : a64 < a151 := Nat.lt_of_lt_of_le A_a64.lt (Nat.le_of_eq g151.symm)
        have ge_a151 : n0 ≤ a151 := ge_of g151 Zn
        have Zn := Nat.le_trans Zn E151.1
        have A_a63 := A_a63.ext E151
        have A_a64 := A_a64.ext E151
        have A_a151 : Ary Z h151 a151 .long 256 (fun _ => (.long (0 : Int64))) := A_a151
        refine g_astore C S at_382 (pc' := 384) rfl rfl (L' := #[.val (.int p1), .val (.long q2), .second, .val (.long q3), .second, .val (.long q4), .second, .val (.long q5), .second, .val (.long q6), .second, .val (.int (Int32.ofNat A)), .val (.int (Int32.ofNat B)), .val (.int (Int32.ofNat Cc)), .val (.int (Int32.ofNat D)), .val (.int sh), .val (.long (hSm q2)), .second, .val (.long (hSm q3)), .second, .val (.long (hSm q4)), .second, .val (.long (hSm q5)), .second, .val (.long (hSm q6)), .second, .val (.ref a63), .val (.ref a64), .val (.int (1 : Int32)), .val (.int (2 : Int32)), .val (.int (0 : Int32)), .val (.int (2 : Int32)), .val (.int (3 : Int32)), .val (.ref a151), .unset, .unset, .unset]) rfl ?_
        refine g_aload C S at_384 (pc' := 386) rfl rfl rfl ?_
        refine g_iload C S at_386 (pc' := 388) rfl rfl ?_
        refine g_lload C S at_388 (pc' := 390) rfl rfl ?_
        refine g_lastore C S (i := A) at_390 A_a151 (o32 (by omega)) (by omega) ge_a151 (pc' := 391) rfl (fun T152 h152 S W152 B152 => ?_)
        have Zn := Nat.le_trans Zn (Nat.le_of_eq W152.size.symm)
        have A_a63 := A_a63.other W152 ne_a63_a151
        have A_a64 := A_a64.other W152 ne_a64_a151
        have A_a151 := B152
        refine g_aload C S at_391 (pc' := 393) rfl rfl rfl ?_
        refine g_iload C S at_393 (pc' := 395) rfl rfl ?_
        refine g_lload C S at_395 (pc' := 397) rfl rfl ?_
        refine g_lastore C S (i := B) at_397 A_a151 (o32 (by omega)) (by omega) ge_a151 (pc' := 398) rfl (fun T153 h153 S W153 B153 => ?_)
        have Zn := Nat.le_trans Zn (Nat.le_of_eq W153.size.symm)
        have A_a63 := A_a63.other W153 ne_a63_a151
        have A_a64 := A_a64.other W153 ne_a64_a151
        have A_a151 := B153
        refine g_aload C S at_398 (pc' := 400) rfl rfl rfl ?_
        refine g_iload C S at_400 (pc' := 402) rfl rfl ?_
        refine g_lload C S at_402 (pc' := 404) rfl rfl ?_
        refine g_lastore C S (i := Cc) at_404 A_a151 (o32 (by omega)) (by omega) ge_a151 (pc' := 405) rfl (fun T154 h154 S W154 B154 => ?_)
        have Zn := Nat.le_trans Zn (Nat.le_of_eq W154.size.symm)
        have A_a63 := A_a63.other W154 ne_a63_a151
        have A_a64 := A_a64.other W154 ne_a64_a151
        have A_a151 := B154
        refine g_aload C S at_405 (pc' := 407) rfl rfl rfl ?_
        refine g_iload C S at_407 (pc' := 409) rfl rfl ?_
        refine g_lload C S at_409 (pc' := 411) rfl rfl ?_
        refine g_lastore C S (i := D) at_411 A_a151 (o32 (by omega)) (by omega) ge_a151 (pc' := 412) rfl (fun T155 h155 S W155 B155 => ?_)
        have Zn := Nat.le_trans Zn (Nat.le_of_eq W155.size.symm)
        have A_a63 := A_a63.other W155 ne_a63_a151
        have A_a64 := A_a64.other W155 ne_a64_a151
        have A_a151 := B155
        refine g_aload C S at_412 (pc' := 414) rfl rfl rfl ?_
        refine g_iload C S at_414 (pc' := 416) rfl rfl ?_
        refine g_iconst C S (1 : Int32) at_416 (pc' := 417) rfl rfl ?_
        refine g_iadd C S at_417 (pc' := 418) rfl ?_
        refine g_lload C S at_418 (pc' := 420) rfl rfl ?_
        refine g_lastore C S (i := (A + 1)) at_420 A_a151 (by rw [o32_succ]; exact o32 (by omega)) (by omega) ge_a151 (pc' := 421) rfl (fun T156 h156 S W156 B156 => ?_)
        have Zn := Nat.le_trans Zn (Nat.le_of_eq W156.size.symm)
        have A_a63 := A_a63.other W156 ne_a63_a151
        have A_a64 := A_a64.other W156 ne_a64_a151
        have A_a151 := B156
        have A_a151 := A_a151.cg (hN5_eq A B Cc D (hSm q2) (hSm q3) (hSm q4) (hSm q5) (hSm q6) 256)
        refine g_new C S at_421 (hw _ (List.mem_of_getElem? (i := 7) rfl)) (hw _ (List.mem_of_getElem? (i := 8) rfl)) (hw _ (List.mem_of_getElem? (i := 9) rfl)) (by decide) (by decide) (pc' := 424) rfl (fun T157 h157 a157 S g157 E157 X157 D157 => ?_)
        have ne_a63_a157 : a63 ≠ a157 := ne_new g157 A_a63.lt
        have ne_a64_a157 : a64 ≠ a157 := ne_new g157 A_a64.lt
        have ne_a151_a157 : a151 ≠ a157 := ne_new g157 A_a151.lt
        have lt_a151_a157 : a151 < a157 := Nat.lt_of_lt_of_le A_a151.lt (Nat.le_of_eq g157.symm)
        have ge_a157 : n0 ≤ a157 := ge_of g157 Zn
        have Zn := Nat.le_trans Zn E157.1
        have A_a63 := A_a63.ext E157
        have A_a64 := A_a64.ext E157
        have A_a151 := A_a151.ext E157
        have F_m_aSymbols_a157 : Fld Z h157 a157 "leafpress/HuffmanCode" "m_aSymbols" "[I" .null := D157 (Or.inr (hw _ (List.mem_of_getElem? (i := 17) rfl))) (ty := (.array .int)) (by decide)
        have F_m_aCodes_a157 : Fld Z h157 a157 "leafpress/HuffmanCode" "m_aCodes" "[J" .null := D157 (Or.inr (hw _ (List.mem_of_getElem? (i := 19) rfl))) (ty := (.array .long)) (by decide)
        have F_m_aLengths_a157 : Fld Z h157 a157 "leafpress/HuffmanCode" "m_aLengths" "[B" .null := D157 (Or.inr (hw _ (List.mem_of_getElem? (i := 22) rfl))) (ty := (.array .byte)) (by decide)
        have F_m_aLengthCounts_a157 : Fld Z h157 a157 "leafpress/HuffmanCode" "m_aLengthCounts" "[I" .null := D157 (Or.inr (hw _ (List.mem_of_getElem? (i := 24) rfl))) (ty := (.array .int)) (by decide)
        have F_m_aFirstCodes_a157 : Fld Z h157 a157 "leafpress/HuffmanCode" "m_aFirstCodes" "[J" .null := D157 (Or.inr (hw _ (List.mem_of_getElem? (i := 26) rfl))) (ty := (.array .long)) (by decide)
        have F_m_aFirstSymbols_a157 : Fld Z h157 a157 "leafpress/HuffmanCode" "m_aFirstSymbols" "[I" .null := D157 (Or.inr (hw _ (List.mem_of_getElem? (i := 28) rfl))) (ty := (.array .int)) (by decide)
        have F_m_nValues_a157 : Fld Z h157 a157 "leafpress/HuffmanCode" "m_nValues" "I" (.int (0 : Int32)) := D157 (Or.inl (hw _ (List.mem_of_getElem? (i := 59) rfl))) (ty := .int) (by decide)
        have F_m_nLongest_a157 : Fld Z h157 a157 "leafpress/HuffmanCode" "m_nLongest" "I" (.int (0 : Int32)) := D157 (Or.inl (hw _ (List.mem_of_getElem? (i := 68) rfl))) (ty := .int) (by decide)
        have F_m_bPacked_a157 : Fld Z h157 a157 "leafpress/HuffmanCode" "m_bPacked" "Z" (.int (0 : Int32)) := D157 (Or.inl (hw _ (List.mem_of_getElem? (i := 70) rfl))) (ty := .boolean) (by decide)
        refine g_dup C S at_424 (pc' := 425) rfl rfl ?_
        refine g_callI C S (rm := ({ frames := 2, cells := 6, slots := 968, locals := 30 } : Room)) (W := 1) at_425 rfl (hw _ (List.mem_of_getElem? (i := 10) rfl)) (hw _ (List.mem_of_getElem? (i := 11) rfl)) (hw _ (List.mem_of_getElem? (i := 9) rfl)) (hw _ (List.mem_of_getElem? (i := 12) rfl)) (by decide) (c_ini l' Z a0 hw a157 h157 n0 Zn ge_a157 X157 F_m_aSymbols_a157 F_m_aCodes_a157 F_m_aLengths_a157 F_m_aLengthCounts_a157 F_m_aFirstCodes_a157 F_m_aFirstSymbols_a157 F_m_nLongest_a157 F_m_nValues_a157 F_m_bPacked_a157) (argsL := []) (r := [(.ref a157)]) rfl (lenOf pd_6 rfl) rfl (Nat.le_of_eq rfl) (by decide) (by decide) (by decide) (by decide) (pc' := 428) rfl (fun T158 h158 v158 q158 S => ?_)
        have lt_o_sy0 := X157.lt
        obtain ⟨sy, co, le, lc, fa, fb, rfl, K158, Y158, F_m_aSymbols_a157, F_m_aCodes_a157, F_m_aLengths_a157, F_m_aLengthCounts_a157, F_m_aFirstCodes_a157, F_m_aFirstSymbols_a157, F_m_nLongest_a157, F_m_nValues_a157, F_m_bPacked_a157, A_sy, A_co, A_le, A_lc, A_fa, A_fb, sz_sy, lt_sy_co, lt_co_le, lt_le_lc, lt_lc_fa, lt_fa_fb, -, g_sy, g_co, g_le, g_lc, g_fa, g_fb⟩ := q158
        have lt_a157_sy : a157 < sy := Nat.lt_of_lt_of_le lt_o_sy0 sz_sy
        have Zn := Nat.le_trans Zn K158.1
        have A_a63 := A_a63.keep K158 (ninS ne_a63_a157 nin0)
        have A_a64 := A_a64.keep K158 (ninS ne_a64_a157 nin0)
        have A_a151 := A_a151.keep K158 (ninS ne_a151_a157 nin0)
        show Gl p e below s _ n0 _ T158 (mkF m 428 #[.val (.int p1), .val (.long q2), .second, .val (.long q3), .second, .val (.long q4), .second, .val (.long q5), .second, .val (.long q6), .second, .val (.int (Int32.ofNat A)), .val (.int (Int32.ofNat B)), .val (.int (Int32.ofNat Cc)), .val (.int (Int32.ofNat D)), .val (.int sh), .val (.long (hSm q2)), .second, .val (.long (hSm q3)), .second, .val (.long (hSm q4)), .second, .val (.long (hSm q5)), .second, .val (.long (hSm q6)), .second, .val (.ref a63), .val (.ref a64), .val (.int (1 : Int32)), .val (.int (2 : Int32)), .val (.int (0 : Int32)), .val (.int (2 : Int32)), .val (.int (3 : Int32)), .val (.ref a151), .unset, .unset, .unset] [(.ref a157)])
        refine g_astore C S at_428 (pc' := 430) rfl rfl (L' := #[.val (.int p1), .val (.long q2), .second, .val (.long q3), .second, .val (.long q4), .second, .val (.long q5), .second, .val (.long q6), .second, .val (.int (Int32.ofNat A)), .val (.int (Int32.ofNat B)), .val (.int (Int32.ofNat Cc)), .val (.int (Int32.ofNat D)), .val (.int sh), .val (.long (hSm q2)), .second, .val (.long (hSm q3)), .second, .val (.long (hSm q4)), .second, .val (.long (hSm q5)), .second, .val (.long (hSm q6)), .second, .val (.ref a63), .val (.ref a64), .val (.int (1 : Int32)), .val (.int (2 : Int32)), .val (.int (0 : Int32)), .val (.int (2 : Int32)), .val (.int (3 : Int32)), .val (.ref a151), .val (.ref a157), .unset, .unset]) rfl ?_
        refine g_aload C S at_430 (pc' := 432) rfl rfl rfl ?_
        refine g_aload C S at_432 (pc' := 434) rfl rfl rfl ?_
        refine g_iload C S at_434 (pc' := 436) rfl rfl ?_
        refine g_aload C S at_436 (pc' := 438) rfl rfl rfl ?_
        refine g_callV C S (rm := ({ frames := 2, cells := 0, slots := 0, locals := 43 } : Room)) (W := 0) at_438 (hw _ (List.mem_of_getElem? (i := 36) rfl)) (hw _ (List.mem_of_getElem? (i := 37) rfl)) (notFace_of_selects (args := #[]) (mvT C.2.1 (hw _ (List.mem_of_getElem? (i := 39) rfl)))) (hw _ (List.mem_of_getElem? (i := 39) rfl)) (hw _ (List.mem_of_getElem? (i := 38) rfl)) (hw _ (List.mem_of_getElem? (i := 9) rfl)) (hw _ (List.mem_of_getElem? (i := 40) rfl)) (by decide) rfl Y158 (c_fil l' Z a0 hw a157 a63 a64 h158 n0 (fun i => [1, 2, 2].getD i 0) (fun i => [A, B, D].getD i 0) 3 4 256 _ _ (by decide +kernel) (by decide) (by decide) (fa3 (show A < 256 by omega) (show B < 256 by omega) (show D < 256 by omega)) (fs3 (show A < B by omega) (show B < D by omega)) (fa3 rfl rfl rfl) (fa3 (hL4_A (A := A) (B := B) (C := Cc) (D := D) (by omega) (by omega) (by omega)) (hL4_B (A := A) (B := B) (C := Cc) (D := D) (by omega) (by omega)) hL4_D) sy co le lc fa fb _ _ _ _ _ _ ge_a157 g_sy g_co g_le g_lc g_fa g_fb (nd9 lt_a63_a64 (Nat.lt_trans lt_a64_a151 lt_a151_a157) lt_a157_sy lt_sy_co lt_co_le lt_le_lc lt_lc_fa lt_fa_fb) Y158 F_m_aSymbols_a157 F_m_aCodes_a157 F_m_aLengths_a157 F_m_aLengthCounts_a157 F_m_aFirstCodes_a157 F_m_aFirstSymbols_a157 F_m_nLongest_a157 F_m_nValues_a157 F_m_bPacked_a157 A_a63 A_a64 A_lc A_fa A_fb A_sy A_co A_le) (argsL := [(.ref a63), (.int (3 : Int32)), (.ref a64)]) (r := []) rfl (lenOf pd_10 rfl) rfl (Nat.le_of_eq rfl) (by decide) (by decide) (by decide) (by decide) (pc' := 441) rfl (fun T159 h159 v159 q159 S => ?_)
        obtain ⟨rfl, K159, X159, G_co, F_m_aLengths_a157, G_pk, B_co, B_le⟩ := q159
        have A_a151 := A_a151.keep K159 (ninS (Nat.ne_of_lt lt_a151_a157) (ninS (Nat.ne_of_lt (Nat.lt_trans lt_a151_a157 lt_a157_sy)) (ninS (Nat.ne_of_lt (Nat.lt_trans (Nat.lt_trans lt_a151_a157 lt_a157_sy) lt_sy_co)) (ninS (Nat.ne_of_lt (Nat.lt_trans (Nat.lt_trans (Nat.lt_trans lt_a151_a157 lt_a157_sy) lt_sy_co) lt_co_le)) (ninS (Nat.ne_of_lt (Nat.lt_trans (Nat.lt_trans (Nat.lt_trans (Nat.lt_trans lt_a151_a157 lt_a157_sy) lt_sy_co) lt_co_le) lt_le_lc)) (ninS (Nat.ne_of_lt (Nat.lt_trans (Nat.lt_trans (Nat.lt_trans (Nat.lt_trans (Nat.lt_trans lt_a151_a157 lt_a157_sy) lt_sy_co) lt_co_le) lt_le_lc) lt_lc_fa)) (ninS (Nat.ne_of_lt (Nat.lt_trans (Nat.lt_trans (Nat.lt_trans (Nat.lt_trans (Nat.lt_trans (Nat.lt_trans lt_a151_a157 lt_a157_sy) lt_sy_co) lt_co_le) lt_le_lc) lt_lc_fa) lt_fa_fb)) nin0)))))))
        show Gl p e below s _ n0 _ T159 (mkF m 441 #[.val (.int p1), .val (.long q2), .second, .val (.long q3), .second, .val (.long q4), .second, .val (.long q5), .second, .val (.long q6), .second, .val (.int (Int32.ofNat A)), .val (.int (Int32.ofNat B)), .val (.int (Int32.ofNat Cc)), .val (.int (Int32.ofNat D)), .val (.int sh), .val (.long (hSm q2)), .second, .val (.long (hSm q3)), .second, .val (.long (hSm q4)), .second, .val (.long (hSm q5)), .second, .val (.long (hSm q6)), .second, .val (.ref a63), .val (.ref a64), .val (.int (1 : Int32)), .val (.int (2 : Int32)), .val (.int (0 : Int32)), .val (.int (2 : Int32)), .val (.int (3 : Int32)), .val (.ref a151), .val (.ref a157), .unset, .unset] [])
        refine g_lload C S at_441 (pc' := 443) rfl rfl ?_
        refine g_iload C S at_443 (pc' := 445) rfl rfl ?_
        refine g_i2l C S at_445 (pc' := 446) rfl ?_
        refine g_lmul C S at_446 (pc' := 447) rfl ?_
        refine g_lload C S at_447 (pc' := 449) rfl rfl ?_
        refine g_iload C S at_449 (pc' := 451) rfl rfl ?_
        refine g_i2l C S at_451 (pc' := 452) rfl ?_
        refine g_lmul C S at_452 (pc' := 453) rfl ?_
        refine g_ladd C S at_453 (pc' := 454) rfl ?_
        refine g_lload C S at_454 (pc' := 456) rfl rfl ?_
        refine g_iload C S at_456 (pc' := 458) rfl rfl ?_
        refine g_i2l C S at_458 (pc' := 459) rfl ?_
        refine g_lmul C S at_459 (pc' := 460) rfl ?_
        refine g_ladd C S at_460 (pc' := 461) rfl ?_
        refine g_lload C S at_461 (pc' := 463) rfl rfl ?_
        refine g_iload C S at_463 (pc' := 465) rfl rfl ?_
        refine g_i2l C S at_465 (pc' := 466) rfl ?_
        refine g_lmul C S at_466 (pc' := 467) rfl ?_
        refine g_ladd C S at_467 (pc' := 468) rfl ?_
        refine g_lstore C S at_468 (pc' := 470) rfl (L' := #[.val (.int p1), .val (.long q2), .second, .val (.long q3), .second, .val (.long q4), .second, .val (.long q5), .second, .val (.long q6), .second, .val (.int (Int32.ofNat A)), .val (.int (Int32.ofNat B)), .val (.int (Int32.ofNat Cc)), .val (.int (Int32.ofNat D)), .val (.int sh), .val (.long (hSm q2)), .second, .val (.long (hSm q3)), .second, .val (.long (hSm q4)), .second, .val (.long (hSm q5)), .second, .val (.long (hSm q6)), .second, .val (.ref a63), .val (.ref a64), .val (.int (1 : Int32)), .val (.int (2 : Int32)), .val (.int (0 : Int32)), .val (.int (2 : Int32)), .val (.int (3 : Int32)), .val (.ref a151), .val (.ref a157), .val (.long (((((hSm q2) * ((1 : Int32).toInt64)) + ((hSm q3) * ((2 : Int32).toInt64))) + ((hSm q4) * ((0 : Int32).toInt64))) + ((hSm q5) * ((2 : Int32).toInt64)))), .second]) rfl ?_
        refine g_aload C S at_470 (pc' := 472) rfl rfl rfl ?_
        refine g_aload C S at_472 (pc' := 474) rfl rfl rfl ?_
        refine g_callV C S (rm := ({ frames := 0, cells := 0, slots := 0, locals := 0 } : Room)) (W := 0) at_474 (hw _ (List.mem_of_getElem? (i := 71) rfl)) (hw _ (List.mem_of_getElem? (i := 72) rfl)) (notFace_of_selects (args := #[]) (mvT C.2.1 (hw _ (List.mem_of_getElem? (i := 74) rfl)))) (hw _ (List.mem_of_getElem? (i := 74) rfl)) (hw _ (List.mem_of_getElem? (i := 73) rfl)) (hw _ (List.mem_of_getElem? (i := 9) rfl)) (hw _ (List.mem_of_getElem? (i := 75) rfl)) (by decide) rfl X159 (c_bit l' Z a0 hw a157 a151 h159 n0 le _ (fun x => Int32.ofNat (hLe (fun i => [1, 2, 2].getD i 0) (fun i => [A, B, D].getD i 0) 3 3 x)) F_m_aLengths_a157 A_a151 B_le) (argsL := [(.ref a151)]) (r := []) rfl (lenOf pd_11 rfl) rfl (Nat.le_of_eq rfl) (by decide) (by decide) (by decide) (by decide) (pc' := 477) rfl (fun T160 h160 v160 q160 S => ?_)
        obtain ⟨rfl, e160⟩ := q160; rw [e160] at S
        show Gl p e below s _ n0 _ T160 (mkF m 477 #[.val (.int p1), .val (.long q2), .second, .val (.long q3), .second, .val (.long q4), .second, .val (.long q5), .second, .val (.long q6), .second, .val (.int (Int32.ofNat A)), .val (.int (Int32.ofNat B)), .val (.int (Int32.ofNat Cc)), .val (.int (Int32.ofNat D)), .val (.int sh), .val (.long (hSm q2)), .second, .val (.long (hSm q3)), .second, .val (.long (hSm q4)), .second, .val (.long (hSm q5)), .second, .val (.long (hSm q6)), .second, .val (.ref a63), .val (.ref a64), .val (.int (1 : Int32)), .val (.int (2 : Int32)), .val (.int (0 : Int32)), .val (.int (2 : Int32)), .val (.int (3 : Int32)), .val (.ref a151), .val (.ref a157), .val (.long (((((hSm q2) * ((1 : Int32).toInt64)) + ((hSm q3) * ((2 : Int32).toInt64))) + ((hSm q4) * ((0 : Int32).toInt64))) + ((hSm q5) * ((2 : Int32).toInt64)))), .second] [(.long (hSum (hN5 A B Cc D (hSm q2) (hSm q3) (hSm q4) (hSm q5) (hSm q6)) (fun x => Int32.ofNat (hLe (fun i => [1, 2, 2].getD i 0) (fun i => [A, B, D].getD i 0) 3 3 x)) 256))])
        refine g_lload C S at_477 (pc' := 479) rfl rfl ?_
        refine g_lcmp C S at_479 (pc' := 480) rfl ?_
        refine g_lif_ne C S at_480 (pc' := 487) (pf := 483) (by decide) (by decide) rfl (fun hc480 => absurd (hBits (A := A) (B := B) (C := Cc) (D := D) (ka := 1) (kb := 2) (kc := 0) (kd := 2) (by omega) (by omega) (by omega) (by omega) ((hLe_V (l := (fun i => [1, 2, 2].getD i 0)) (V := (fun i => [A, B, D].getD i 0)) (fs3 (show A < B by omega) (show B < D by omega)) ((hGood_spec (l := (fun i => [1, 2, 2].getD i 0)) (n := 3) (by decide +kernel)).2.2.2.2.2) (i := 0) (by decide) 3 (by decide)).trans (by decide +kernel)) ((hLe_V (l := (fun i => [1, 2, 2].getD i 0)) (V := (fun i => [A, B, D].getD i 0)) (fs3 (show A < B by omega) (show B < D by omega)) ((hGood_spec (l := (fun i => [1, 2, 2].getD i 0)) (n := 3) (by decide +kernel)).2.2.2.2.2) (i := 1) (by decide) 3 (by decide)).trans (by decide +kernel)) (hLe_no (l := (fun i => [1, 2, 2].getD i 0)) (V := (fun i => [A, B, D].getD i 0)) ((hGood_spec (l := (fun i => [1, 2, 2].getD i 0)) (n := 3) (by decide +kernel)).2.2.2.2.2) (fa3 (show Cc ≠ A by omega) (show Cc ≠ B by omega) (show Cc ≠ D by omega)) 3 (by decide)) ((hLe_V (l := (fun i => [1, 2, 2].getD i 0)) (V := (fun i => [A, B, D].getD i 0)) (fs3 (show A < B by omega) (show B < D by omega)) ((hGood_spec (l := (fun i => [1, 2, 2].getD i 0)) (n := 3) (by decide +kernel)).2.2.2.2.2) (i := 2) (by decide) 3 (by decide)).trans (by decide +kernel)) (fun x xA xB xC xD => hLe_no (l := (fun i => [1, 2, 2].getD i 0)) (V := (fun i => [A, B, D].getD i 0)) ((hGood_spec (l := (fun i => [1, 2, 2].getD i 0)) (n := 3) (by decide +kernel)).2.2.2.2.2) (fa3 xA xB xD) 3 (by decide))) hc480) (fun hc480 => ?_)
        refine g_iconst C S (1 : Int32) at_483 (pc' := 484) rfl rfl ?_
        refine g_goto C S at_484 (pc' := 488) (by decide) (by decide) ?_
        exact g_retZ C S at_488 (by decide) (by decide) (by decide) (rfl)
    · refine g_iconst C S (2 : Int32) at_134 (pc' := 135) rfl rfl ?_
      refine g_istore C S at_135 (pc' := 137) rfl (L' := #[.val (.int p1), .val (.long q2), .second, .val (.long q3), .second, .val (.long q4), .second, .val (.long q5), .second, .val (.long q6), .second, .val (.int (Int32.ofNat A)), .val (.int (Int32.ofNat B)), .val (.int (Int32.ofNat Cc)), .val (.int (Int32.ofNat D)), .val (.int sh), .val (.long (hSm q2)), .second, .val (.long (hSm q3)), .second, .val (.long (hSm q4)), .second, .val (.long (hSm q5)), .second, .val (.long (hSm q6)), .second, .val (.ref a63), .val (.ref a64), .val (.int (0 : Int32)), .val (.int (0 : Int32)), .val (.int (0 : Int32)), .val (.int (0 : Int32)), .val (.int (2 : Int32)), .unset, .unset, .unset, .unset]) rfl ?_
      refine g_aload C S at_137 (pc' := 139) rfl rfl rfl ?_
      refine g_iconst C S (0 : Int32) at_139 (pc' := 140) rfl rfl ?_
      refine g_iload C S at_140 (pc' := 142) rfl rfl ?_
      refine g_iastore C S (i := 0) at_142 A_a63 (by decide) (by decide) ge_a63 (pc' := 143) rfl (fun T161 h161 S W161 B161 => ?_)
      have Zn := Nat.le_trans Zn (Nat.le_of_eq W161.size.symm)
      have A_a64 := A_a64.other W161 (Ne.symm ne_a63_a64)
      have A_a63 := B161
      refine g_aload C S at_143 (pc' := 145) rfl rfl rfl ?_
      refine g_iconst C S (1 : Int32) at_145 (pc' := 146) rfl rfl ?_
      refine g_iload C S at_146 (pc' := 148) rfl rfl ?_
      refine g_iastore C S (i := 1) at_148 A_a63 (by decide) (by decide) ge_a63 (pc' := 149) rfl (fun T162 h162 S W162 B162 => ?_)
      have Zn := Nat.le_trans Zn (Nat.le_of_eq W162.size.symm)
      have A_a64 := A_a64.other W162 (Ne.symm ne_a63_a64)
      have A_a63 := B162
      refine g_iconst C S (1 : Int32) at_149 (pc' := 150) rfl rfl ?_
      refine g_istore C S at_150 (pc' := 152) rfl (L' := #[.val (.int p1), .val (.long q2), .second, .val (.long q3), .second, .val (.long q4), .second, .val (.long q5), .second, .val (.long q6), .second, .val (.int (Int32.ofNat A)), .val (.int (Int32.ofNat B)), .val (.int (Int32.ofNat Cc)), .val (.int (Int32.ofNat D)), .val (.int sh), .val (.long (hSm q2)), .second, .val (.long (hSm q3)), .second, .val (.long (hSm q4)), .second, .val (.long (hSm q5)), .second, .val (.long (hSm q6)), .second, .val (.ref a63), .val (.ref a64), .val (.int (1 : Int32)), .val (.int (0 : Int32)), .val (.int (0 : Int32)), .val (.int (0 : Int32)), .val (.int (2 : Int32)), .unset, .unset, .unset, .unset]) rfl ?_
      refine g_iconst C S (1 : Int32) at_152 (pc' := 153) rfl rfl ?_
      refine g_istore C S at_153 (pc' := 155) rfl (L' := #[.val (.int p1), .val (.long q2), .second, .val (.long q3), .second, .val (.long q4), .second, .val (.long q5), .second, .val (.long q6), .second, .val (.int (Int32.ofNat A)), .val (.int (Int32.ofNat B)), .val (.int (Int32.ofNat Cc)), .val (.int (Int32.ofNat D)), .val (.int sh), .val (.long (hSm q2)), .second, .val (.long (hSm q3)), .second, .val (.long (hSm q4)), .second, .val (.long (hSm q5)), .second, .val (.long (hSm q6)), .second, .val (.ref a63), .val (.ref a64), .val (.int (1 : Int32)), .val (.int (0 : Int32)), .val (.int (0 : Int32)), .val (.int (1 : Int32)), .val (.int (2 : Int32)), .unset, .unset, .unset, .unset]) rfl ?_
      refine g_goto C S at_155 (pc' := 349) (by decide) (by decide) ?_
      refine g_aload C S at_349 (pc' := 351) rfl rfl rfl ?_
      refine g_iload C S at_351 (pc' := 353) rfl rfl ?_
      refine g_iload C S at_353 (pc' := 355) rfl rfl ?_
      refine g_iastore C S (i := A) at_355 A_a64 (o32 (by omega)) (by omega) ge_a64 (pc' := 356) rfl (fun T163 h163 S W163 B163 => ?_)
      have Zn := Nat.le_trans Zn (Nat.le_of_eq W163.size.symm)
      have A_a63 := A_a63.other W163 ne_a63_a64
      have A_a64 := B163
      refine g_aload C S at_356 (pc' := 358) rfl rfl rfl ?_
      refine g_iload C S at_358 (pc' := 360) rfl rfl ?_
      refine g_iload C S at_360 (pc' := 362) rfl rfl ?_
      refine g_iastore C S (i := B) at_362 A_a64 (o32 (by omega)) (by omega) ge_a64 (pc' := 363) rfl (fun T164 h164 S W164 B164 => ?_)
      have Zn := Nat.le_trans Zn (Nat.le_of_eq W164.size.symm)
      have A_a63 := A_a63.other W164 ne_a63_a64
      have A_a64 := B164
      refine g_aload C S at_363 (pc' := 365) rfl rfl rfl ?_
      refine g_iload C S at_365 (pc' := 367) rfl rfl ?_
      refine g_iload C S at_367 (pc' := 369) rfl rfl ?_
      refine g_iastore C S (i := Cc) at_369 A_a64 (o32 (by omega)) (by omega) ge_a64 (pc' := 370) rfl (fun T165 h165 S W165 B165 => ?_)
      have Zn := Nat.le_trans Zn (Nat.le_of_eq W165.size.symm)
      have A_a63 := A_a63.other W165 ne_a63_a64
      have A_a64 := B165
      refine g_aload C S at_370 (pc' := 372) rfl rfl rfl ?_
      refine g_iload C S at_372 (pc' := 374) rfl rfl ?_
      refine g_iload C S at_374 (pc' := 376) rfl rfl ?_
      refine g_iastore C S (i := D) at_376 A_a64 (o32 (by omega)) (by omega) ge_a64 (pc' := 377) rfl (fun T166 h166 S W166 B166 => ?_)
      have Zn := Nat.le_trans Zn (Nat.le_of_eq W166.size.symm)
      have A_a63 := A_a63.other W166 ne_a63_a64
      have A_a64 := B166
      have A_a64 : Ary Z h166 a64 .int 256 (hL4 A B Cc D (1 : Int32) (0 : Int32) (0 : Int32) (1 : Int32)) := A_a64
      refine g_sipush C S (256 : Int32) at_377 (pc' := 380) rfl rfl ?_
      refine g_newarray C S (N := 256) (cap := 256) at_380 (hw _ (List.mem_of_getElem? (i := 6) rfl)) (by decide) (by decide) (by decide) (by decide) (by decide) (pc' := 382) rfl (fun T167 h167 a167 S g167 E167 A_a167 => ?_)
      have ne_a63_a167 : a63 ≠ a167 := ne_new g167 A_a63.lt
      have ne_a64_a167 : a64 ≠ a167 := ne_new g167 A_a64.lt
      have lt_a64_a167 : a64 < a167 := Nat.lt_of_lt_of_le A_a64.lt (Nat.le_of_eq g167.symm)
      have ge_a167 : n0 ≤ a167 := ge_of g167 Zn
      have Zn := Nat.le_trans Zn E167.1
      have A_a63 := A_a63.ext E167
      have A_a64 := A_a64.ext E167
      have A_a167 : Ary Z h167 a167 .long 256 (fun _ => (.long (0 : Int64))) := A_a167
      refine g_astore C S at_382 (pc' := 384) rfl rfl (L' := #[.val (.int p1), .val (.long q2), .second, .val (.long q3), .second, .val (.long q4), .second, .val (.long q5), .second, .val (.long q6), .second, .val (.int (Int32.ofNat A)), .val (.int (Int32.ofNat B)), .val (.int (Int32.ofNat Cc)), .val (.int (Int32.ofNat D)), .val (.int sh), .val (.long (hSm q2)), .second, .val (.long (hSm q3)), .second, .val (.long (hSm q4)), .second, .val (.long (hSm q5)), .second, .val (.long (hSm q6)), .second, .val (.ref a63), .val (.ref a64), .val (.int (1 : Int32)), .val (.int (0 : Int32)), .val (.int (0 : Int32)), .val (.int (1 : Int32)), .val (.int (2 : Int32)), .val (.ref a167), .unset, .unset, .unset]) rfl ?_
      refine g_aload C S at_384 (pc' := 386) rfl rfl rfl ?_
      refine g_iload C S at_386 (pc' := 388) rfl rfl ?_
      refine g_lload C S at_388 (pc' := 390) rfl rfl ?_
      refine g_lastore C S (i := A) at_390 A_a167 (o32 (by omega)) (by omega) ge_a167 (pc' := 391) rfl (fun T168 h168 S W168 B168 => ?_)
      have Zn := Nat.le_trans Zn (Nat.le_of_eq W168.size.symm)
      have A_a63 := A_a63.other W168 ne_a63_a167
      have A_a64 := A_a64.other W168 ne_a64_a167
      have A_a167 := B168
      refine g_aload C S at_391 (pc' := 393) rfl rfl rfl ?_
      refine g_iload C S at_393 (pc' := 395) rfl rfl ?_
      refine g_lload C S at_395 (pc' := 397) rfl rfl ?_
      refine g_lastore C S (i := B) at_397 A_a167 (o32 (by omega)) (by omega) ge_a167 (pc' := 398) rfl (fun T169 h169 S W169 B169 => ?_)
      have Zn := Nat.le_trans Zn (Nat.le_of_eq W169.size.symm)
      have A_a63 := A_a63.other W169 ne_a63_a167
      have A_a64 := A_a64.other W169 ne_a64_a167
      have A_a167 := B169
      refine g_aload C S at_398 (pc' := 400) rfl rfl rfl ?_
      refine g_iload C S at_400 (pc' := 402) rfl rfl ?_
      refine g_lload C S at_402 (pc' := 404) rfl rfl ?_
      refine g_lastore C S (i := Cc) at_404 A_a167 (o32 (by omega)) (by omega) ge_a167 (pc' := 405) rfl (fun T170 h170 S W170 B170 => ?_)
      have Zn := Nat.le_trans Zn (Nat.le_of_eq W170.size.symm)
      have A_a63 := A_a63.other W170 ne_a63_a167
      have A_a64 := A_a64.other W170 ne_a64_a167
      have A_a167 := B170
      refine g_aload C S at_405 (pc' := 407) rfl rfl rfl ?_
      refine g_iload C S at_407 (pc' := 409) rfl rfl ?_
      refine g_lload C S at_409 (pc' := 411) rfl rfl ?_
      refine g_lastore C S (i := D) at_411 A_a167 (o32 (by omega)) (by omega) ge_a167 (pc' := 412) rfl (fun T171 h171 S W171 B171 => ?_)
      have Zn := Nat.le_trans Zn (Nat.le_of_eq W171.size.symm)
      have A_a63 := A_a63.other W171 ne_a63_a167
      have A_a64 := A_a64.other W171 ne_a64_a167
      have A_a167 := B171
      refine g_aload C S at_412 (pc' := 414) rfl rfl rfl ?_
      refine g_iload C S at_414 (pc' := 416) rfl rfl ?_
      refine g_iconst C S (1 : Int32) at_416 (pc' := 417) rfl rfl ?_
      refine g_iadd C S at_417 (pc' := 418) rfl ?_
      refine g_lload C S at_418 (pc' := 420) rfl rfl ?_
      refine g_lastore C S (i := (A + 1)) at_420 A_a167 (by rw [o32_succ]; exact o32 (by omega)) (by omega) ge_a167 (pc' := 421) rfl (fun T172 h172 S W172 B172 => ?_)
      have Zn := Nat.le_trans Zn (Nat.le_of_eq W172.size.symm)
      have A_a63 := A_a63.other W172 ne_a63_a167
      have A_a64 := A_a64.other W172 ne_a64_a167
      have A_a167 := B172
      have A_a167 := A_a167.cg (hN5_eq A B Cc D (hSm q2) (hSm q3) (hSm q4) (hSm q5) (hSm q6) 256)
      refine g_new C S at_421 (hw _ (List.mem_of_getElem? (i := 7) rfl)) (hw _ (List.mem_of_getElem? (i := 8) rfl)) (hw _ (List.mem_of_getElem? (i := 9) rfl)) (by decide) (by decide) (pc' := 424) rfl (fun T173 h173 a173 S g173 E173 X173 D173 => ?_)
      have ne_a63_a173 : a63 ≠ a173 := ne_new g173 A_a63.lt
      have ne_a64_a173 : a64 ≠ a173 := ne_new g173 A_a64.lt
      have ne_a167_a173 : a167 ≠ a173 := ne_new g173 A_a167.lt
      have lt_a167_a173 : a167 < a173 := Nat.lt_of_lt_of_le A_a167.lt (Nat.le_of_eq g173.symm)
      have ge_a173 : n0 ≤ a173 := ge_of g173 Zn
      have Zn := Nat.le_trans Zn E173.1
      have A_a63 := A_a63.ext E173
      have A_a64 := A_a64.ext E173
      have A_a167 := A_a167.ext E173
      have F_m_aSymbols_a173 : Fld Z h173 a173 "leafpress/HuffmanCode" "m_aSymbols" "[I" .null := D173 (Or.inr (hw _ (List.mem_of_getElem? (i := 17) rfl))) (ty := (.array .int)) (by decide)
      have F_m_aCodes_a173 : Fld Z h173 a173 "leafpress/HuffmanCode" "m_aCodes" "[J" .null := D173 (Or.inr (hw _ (List.mem_of_getElem? (i := 19) rfl))) (ty := (.array .long)) (by decide)
      have F_m_aLengths_a173 : Fld Z h173 a173 "leafpress/HuffmanCode" "m_aLengths" "[B" .null := D173 (Or.inr (hw _ (List.mem_of_getElem? (i := 22) rfl))) (ty := (.array .byte)) (by decide)
      have F_m_aLengthCounts_a173 : Fld Z h173 a173 "leafpress/HuffmanCode" "m_aLengthCounts" "[I" .null := D173 (Or.inr (hw _ (List.mem_of_getElem? (i := 24) rfl))) (ty := (.array .int)) (by decide)
      have F_m_aFirstCodes_a173 : Fld Z h173 a173 "leafpress/HuffmanCode" "m_aFirstCodes" "[J" .null := D173 (Or.inr (hw _ (List.mem_of_getElem? (i := 26) rfl))) (ty := (.array .long)) (by decide)
      have F_m_aFirstSymbols_a173 : Fld Z h173 a173 "leafpress/HuffmanCode" "m_aFirstSymbols" "[I" .null := D173 (Or.inr (hw _ (List.mem_of_getElem? (i := 28) rfl))) (ty := (.array .int)) (by decide)
      have F_m_nValues_a173 : Fld Z h173 a173 "leafpress/HuffmanCode" "m_nValues" "I" (.int (0 : Int32)) := D173 (Or.inl (hw _ (List.mem_of_getElem? (i := 59) rfl))) (ty := .int) (by decide)
      have F_m_nLongest_a173 : Fld Z h173 a173 "leafpress/HuffmanCode" "m_nLongest" "I" (.int (0 : Int32)) := D173 (Or.inl (hw _ (List.mem_of_getElem? (i := 68) rfl))) (ty := .int) (by decide)
      have F_m_bPacked_a173 : Fld Z h173 a173 "leafpress/HuffmanCode" "m_bPacked" "Z" (.int (0 : Int32)) := D173 (Or.inl (hw _ (List.mem_of_getElem? (i := 70) rfl))) (ty := .boolean) (by decide)
      refine g_dup C S at_424 (pc' := 425) rfl rfl ?_
      refine g_callI C S (rm := ({ frames := 2, cells := 6, slots := 968, locals := 30 } : Room)) (W := 1) at_425 rfl (hw _ (List.mem_of_getElem? (i := 10) rfl)) (hw _ (List.mem_of_getElem? (i := 11) rfl)) (hw _ (List.mem_of_getElem? (i := 9) rfl)) (hw _ (List.mem_of_getElem? (i := 12) rfl)) (by decide) (c_ini l' Z a0 hw a173 h173 n0 Zn ge_a173 X173 F_m_aSymbols_a173 F_m_aCodes_a173 F_m_aLengths_a173 F_m_aLengthCounts_a173 F_m_aFirstCodes_a173 F_m_aFirstSymbols_a173 F_m_nLongest_a173 F_m_nValues_a173 F_m_bPacked_a173) (argsL := []) (r := [(.ref a173)]) rfl (lenOf pd_6 rfl) rfl (Nat.le_of_eq rfl) (by decide) (by decide) (by decide) (by decide) (pc' := 428) rfl (fun T174 h174 v174 q174 S => ?_)
      have lt_o_sy0 := X173.lt
      obtain ⟨sy, co, le, lc, fa, fb, rfl, K174, Y174, F_m_aSymbols_a173, F_m_aCodes_a173, F_m_aLengths_a173, F_m_aLengthCounts_a173, F_m_aFirstCodes_a173, F_m_aFirstSymbols_a173, F_m_nLongest_a173, F_m_nValues_a173, F_m_bPacked_a173, A_sy, A_co, A_le, A_lc, A_fa, A_fb, sz_sy, lt_sy_co, lt_co_le, lt_le_lc, lt_lc_fa, lt_fa_fb, -, g_sy, g_co, g_le, g_lc, g_fa, g_fb⟩ := q174
      have lt_a173_sy : a173 < sy := Nat.lt_of_lt_of_le lt_o_sy0 sz_sy
      have Zn := Nat.le_trans Zn K174.1
      have A_a63 := A_a63.keep K174 (ninS ne_a63_a173 nin0)
      have A_a64 := A_a64.keep K174 (ninS ne_a64_a173 nin0)
      have A_a167 := A_a167.keep K174 (ninS ne_a167_a173 nin0)
      show Gl p e below s _ n0 _ T174 (mkF m 428 #[.val (.int p1), .val (.long q2), .second, .val (.long q3), .second, .val (.long q4), .second, .val (.long q5), .second, .val (.long q6), .second, .val (.int (Int32.ofNat A)), .val (.int (Int32.ofNat B)), .val (.int (Int32.ofNat Cc)), .val (.int (Int32.ofNat D)), .val (.int sh), .val (.long (hSm q2)), .second, .val (.long (hSm q3)), .second, .val (.long (hSm q4)), .second, .val (.long (hSm q5)), .second, .val (.long (hSm q6)), .second, .val (.ref a63), .val (.ref a64), .val (.int (1 : Int32)), .val (.int (0 : Int32)), .val (.int (0 : Int32)), .val (.int (1 : Int32)), .val (.int (2 : Int32)), .val (.ref a167), .unset, .unset, .unset] [(.ref a173)])
      refine g_astore C S at_428 (pc' := 430) rfl rfl (L' := #[.val (.int p1), .val (.long q2), .second, .val (.long q3), .second, .val (.long q4), .second, .val (.long q5), .second, .val (.long q6), .second, .val (.int (Int32.ofNat A)), .val (.int (Int32.ofNat B)), .val (.int (Int32.ofNat Cc)), .val (.int (Int32.ofNat D)), .val (.int sh), .val (.long (hSm q2)), .second, .val (.long (hSm q3)), .second, .val (.long (hSm q4)), .second, .val (.long (hSm q5)), .second, .val (.long (hSm q6)), .second, .val (.ref a63), .val (.ref a64), .val (.int (1 : Int32)), .val (.int (0 : Int32)), .val (.int (0 : Int32)), .val (.int (1 : Int32)), .val (.int (2 : Int32)), .val (.ref a167), .val (.ref a173), .unset, .unset]) rfl ?_
      refine g_aload C S at_430 (pc' := 432) rfl rfl rfl ?_
      refine g_aload C S at_432 (pc' := 434) rfl rfl rfl ?_
      refine g_iload C S at_434 (pc' := 436) rfl rfl ?_
      refine g_aload C S at_436 (pc' := 438) rfl rfl rfl ?_
      refine g_callV C S (rm := ({ frames := 2, cells := 0, slots := 0, locals := 43 } : Room)) (W := 0) at_438 (hw _ (List.mem_of_getElem? (i := 36) rfl)) (hw _ (List.mem_of_getElem? (i := 37) rfl)) (notFace_of_selects (args := #[]) (mvT C.2.1 (hw _ (List.mem_of_getElem? (i := 39) rfl)))) (hw _ (List.mem_of_getElem? (i := 39) rfl)) (hw _ (List.mem_of_getElem? (i := 38) rfl)) (hw _ (List.mem_of_getElem? (i := 9) rfl)) (hw _ (List.mem_of_getElem? (i := 40) rfl)) (by decide) rfl Y174 (c_fil l' Z a0 hw a173 a63 a64 h174 n0 (fun i => [1, 1].getD i 0) (fun i => [A, D].getD i 0) 2 4 256 _ _ (by decide +kernel) (by decide) (by decide) (fa2 (show A < 256 by omega) (show D < 256 by omega)) (fs2 (show A < D by omega)) (fa2 rfl rfl) (fa2 (hL4_A (A := A) (B := B) (C := Cc) (D := D) (by omega) (by omega) (by omega)) hL4_D) sy co le lc fa fb _ _ _ _ _ _ ge_a173 g_sy g_co g_le g_lc g_fa g_fb (nd9 lt_a63_a64 (Nat.lt_trans lt_a64_a167 lt_a167_a173) lt_a173_sy lt_sy_co lt_co_le lt_le_lc lt_lc_fa lt_fa_fb) Y174 F_m_aSymbols_a173 F_m_aCodes_a173 F_m_aLengths_a173 F_m_aLengthCounts_a173 F_m_aFirstCodes_a173 F_m_aFirstSymbols_a173 F_m_nLongest_a173 F_m_nValues_a173 F_m_bPacked_a173 A_a63 A_a64 A_lc A_fa A_fb A_sy A_co A_le) (argsL := [(.ref a63), (.int (2 : Int32)), (.ref a64)]) (r := []) rfl (lenOf pd_10 rfl) rfl (Nat.le_of_eq rfl) (by decide) (by decide) (by decide) (by decide) (pc' := 441) rfl (fun T175 h175 v175 q175 S => ?_)
      obtain ⟨rfl, K175, X175, G_co, F_m_aLengths_a173, G_pk, B_co, B_le⟩ := q175
      have A_a167 := A_a167.keep K175 (ninS (Nat.ne_of_lt lt_a167_a173) (ninS (Nat.ne_of_lt (Nat.lt_trans lt_a167_a173 lt_a173_sy)) (ninS (Nat.ne_of_lt (Nat.lt_trans (Nat.lt_trans lt_a167_a173 lt_a173_sy) lt_sy_co)) (ninS (Nat.ne_of_lt (Nat.lt_trans (Nat.lt_trans (Nat.lt_trans lt_a167_a173 lt_a173_sy) lt_sy_co) lt_co_le)) (ninS (Nat.ne_of_lt (Nat.lt_trans (Nat.lt_trans (Nat.lt_trans (Nat.lt_trans lt_a167_a173 lt_a173_sy) lt_sy_co) lt_co_le) lt_le_lc)) (ninS (Nat.ne_of_lt (Nat.lt_trans (Nat.lt_trans (Nat.lt_trans (Nat.lt_trans (Nat.lt_trans lt_a167_a173 lt_a173_sy) lt_sy_co) lt_co_le) lt_le_lc) lt_lc_fa)) (ninS (Nat.ne_of_lt (Nat.lt_trans (Nat.lt_trans (Nat.lt_trans (Nat.lt_trans (Nat.lt_trans (Nat.lt_trans lt_a167_a173 lt_a173_sy) lt_sy_co) lt_co_le) lt_le_lc) lt_lc_fa) lt_fa_fb)) nin0)))))))
      show Gl p e below s _ n0 _ T175 (mkF m 441 #[.val (.int p1), .val (.long q2), .second, .val (.long q3), .second, .val (.long q4), .second, .val (.long q5), .second, .val (.long q6), .second, .val (.int (Int32.ofNat A)), .val (.int (Int32.ofNat B)), .val (.int (Int32.ofNat Cc)), .val (.int (Int32.ofNat D)), .val (.int sh), .val (.long (hSm q2)), .second, .val (.long (hSm q3)), .second, .val (.long (hSm q4)), .second, .val (.long (hSm q5)), .second, .val (.long (hSm q6)), .second, .val (.ref a63), .val (.ref a64), .val (.int (1 : Int32)), .val (.int (0 : Int32)), .val (.int (0 : Int32)), .val (.int (1 : Int32)), .val (.int (2 : Int32)), .val (.ref a167), .val (.ref a173), .unset, .unset] [])
      refine g_lload C S at_441 (pc' := 443) rfl rfl ?_
      refine g_iload C S at_443 (pc' := 445) rfl rfl ?_
      refine g_i2l C S at_445 (pc' := 446) rfl ?_
      refine g_lmul C S at_446 (pc' := 447) rfl ?_
      refine g_lload C S at_447 (pc' := 449) rfl rfl ?_
      refine g_iload C S at_449 (pc' := 451) rfl rfl ?_
      refine g_i2l C S at_451 (pc' := 452) rfl ?_
      refine g_lmul C S at_452 (pc' := 453) rfl ?_
      refine g_ladd C S at_453 (pc' := 454) rfl ?_
      refine g_lload C S at_454 (pc' := 456) rfl rfl ?_
      refine g_iload C S at_456 (pc' := 458) rfl rfl ?_
      refine g_i2l C S at_458 (pc' := 459) rfl ?_
      refine g_lmul C S at_459 (pc' := 460) rfl ?_
      refine g_ladd C S at_460 (pc' := 461) rfl ?_
      refine g_lload C S at_461 (pc' := 463) rfl rfl ?_
      refine g_iload C S at_463 (pc' := 465) rfl rfl ?_
      refine g_i2l C S at_465 (pc' := 466) rfl ?_
      refine g_lmul C S at_466 (pc' := 467) rfl ?_
      refine g_ladd C S at_467 (pc' := 468) rfl ?_
      refine g_lstore C S at_468 (pc' := 470) rfl (L' := #[.val (.int p1), .val (.long q2), .second, .val (.long q3), .second, .val (.long q4), .second, .val (.long q5), .second, .val (.long q6), .second, .val (.int (Int32.ofNat A)), .val (.int (Int32.ofNat B)), .val (.int (Int32.ofNat Cc)), .val (.int (Int32.ofNat D)), .val (.int sh), .val (.long (hSm q2)), .second, .val (.long (hSm q3)), .second, .val (.long (hSm q4)), .second, .val (.long (hSm q5)), .second, .val (.long (hSm q6)), .second, .val (.ref a63), .val (.ref a64), .val (.int (1 : Int32)), .val (.int (0 : Int32)), .val (.int (0 : Int32)), .val (.int (1 : Int32)), .val (.int (2 : Int32)), .val (.ref a167), .val (.ref a173), .val (.long (((((hSm q2) * ((1 : Int32).toInt64)) + ((hSm q3) * ((0 : Int32).toInt64))) + ((hSm q4) * ((0 : Int32).toInt64))) + ((hSm q5) * ((1 : Int32).toInt64)))), .second]) rfl ?_
      refine g_aload C S at_470 (pc' := 472) rfl rfl rfl ?_
      refine g_aload C S at_472 (pc' := 474) rfl rfl rfl ?_
      refine g_callV C S (rm := ({ frames := 0, cells := 0, slots := 0, locals := 0 } : Room)) (W := 0) at_474 (hw _ (List.mem_of_getElem? (i := 71) rfl)) (hw _ (List.mem_of_getElem? (i := 72) rfl)) (notFace_of_selects (args := #[]) (mvT C.2.1 (hw _ (List.mem_of_getElem? (i := 74) rfl)))) (hw _ (List.mem_of_getElem? (i := 74) rfl)) (hw _ (List.mem_of_getElem? (i := 73) rfl)) (hw _ (List.mem_of_getElem? (i := 9) rfl)) (hw _ (List.mem_of_getElem? (i := 75) rfl)) (by decide) rfl X175 (c_bit l' Z a0 hw a173 a167 h175 n0 le _ (fun x => Int32.ofNat (hLe (fun i => [1, 1].getD i 0) (fun i => [A, D].getD i 0) 2 2 x)) F_m_aLengths_a173 A_a167 B_le) (argsL := [(.ref a167)]) (r := []) rfl (lenOf pd_11 rfl) rfl (Nat.le_of_eq rfl) (by decide) (by decide) (by decide) (by decide) (pc' := 477) rfl (fun T176 h176 v176 q176 S => ?_)
      obtain ⟨rfl, e176⟩ := q176; rw [e176] at S
      show Gl p e below s _ n0 _ T176 (mkF m 477 #[.val (.int p1), .val (.long q2), .second, .val (.long q3), .second, .val (.long q4), .second, .val (.long q5), .second, .val (.long q6), .second, .val (.int (Int32.ofNat A)), .val (.int (Int32.ofNat B)), .val (.int (Int32.ofNat Cc)), .val (.int (Int32.ofNat D)), .val (.int sh), .val (.long (hSm q2)), .second, .val (.long (hSm q3)), .second, .val (.long (hSm q4)), .second, .val (.long (hSm q5)), .second, .val (.long (hSm q6)), .second, .val (.ref a63), .val (.ref a64), .val (.int (1 : Int32)), .val (.int (0 : Int32)), .val (.int (0 : Int32)), .val (.int (1 : Int32)), .val (.int (2 : Int32)), .val (.ref a167), .val (.ref a173), .val (.long (((((hSm q2) * ((1 : Int32).toInt64)) + ((hSm q3) * ((0 : Int32).toInt64))) + ((hSm q4) * ((0 : Int32).toInt64))) + ((hSm q5) * ((1 : Int32).toInt64)))), .second] [(.long (hSum (hN5 A B Cc D (hSm q2) (hSm q3) (hSm q4) (hSm q5) (hSm q6)) (fun x => Int32.ofNat (hLe (fun i => [1, 1].getD i 0) (fun i => [A, D].getD i 0) 2 2 x)) 256))])
      refine g_lload C S at_477 (pc' := 479) rfl rfl ?_
      refine g_lcmp C S at_479 (pc' := 480) rfl ?_
      refine g_lif_ne C S at_480 (pc' := 487) (pf := 483) (by decide) (by decide) rfl (fun hc480 => absurd (hBits (A := A) (B := B) (C := Cc) (D := D) (ka := 1) (kb := 0) (kc := 0) (kd := 1) (by omega) (by omega) (by omega) (by omega) ((hLe_V (l := (fun i => [1, 1].getD i 0)) (V := (fun i => [A, D].getD i 0)) (fs2 (show A < D by omega)) ((hGood_spec (l := (fun i => [1, 1].getD i 0)) (n := 2) (by decide +kernel)).2.2.2.2.2) (i := 0) (by decide) 2 (by decide)).trans (by decide +kernel)) (hLe_no (l := (fun i => [1, 1].getD i 0)) (V := (fun i => [A, D].getD i 0)) ((hGood_spec (l := (fun i => [1, 1].getD i 0)) (n := 2) (by decide +kernel)).2.2.2.2.2) (fa2 (show B ≠ A by omega) (show B ≠ D by omega)) 2 (by decide)) (hLe_no (l := (fun i => [1, 1].getD i 0)) (V := (fun i => [A, D].getD i 0)) ((hGood_spec (l := (fun i => [1, 1].getD i 0)) (n := 2) (by decide +kernel)).2.2.2.2.2) (fa2 (show Cc ≠ A by omega) (show Cc ≠ D by omega)) 2 (by decide)) ((hLe_V (l := (fun i => [1, 1].getD i 0)) (V := (fun i => [A, D].getD i 0)) (fs2 (show A < D by omega)) ((hGood_spec (l := (fun i => [1, 1].getD i 0)) (n := 2) (by decide +kernel)).2.2.2.2.2) (i := 1) (by decide) 2 (by decide)).trans (by decide +kernel)) (fun x xA xB xC xD => hLe_no (l := (fun i => [1, 1].getD i 0)) (V := (fun i => [A, D].getD i 0)) ((hGood_spec (l := (fun i => [1, 1].getD i 0)) (n := 2) (by decide +kernel)).2.2.2.2.2) (fa2 xA xD) 2 (by decide))) hc480) (fun hc480 => ?_)
      refine g_iconst C S (1 : Int32) at_483 (pc' := 484) rfl rfl ?_
      refine g_goto C S at_484 (pc' := 488) (by decide) (by decide) ?_
      exact g_retZ C S at_488 (by decide) (by decide) (by decide) (rfl)
  · refine g_iconst C S (1 : Int32) at_116 (pc' := 117) rfl rfl ?_
    refine g_istore C S at_117 (pc' := 119) rfl (L' := #[.val (.int p1), .val (.long q2), .second, .val (.long q3), .second, .val (.long q4), .second, .val (.long q5), .second, .val (.long q6), .second, .val (.int (Int32.ofNat A)), .val (.int (Int32.ofNat B)), .val (.int (Int32.ofNat Cc)), .val (.int (Int32.ofNat D)), .val (.int sh), .val (.long (hSm q2)), .second, .val (.long (hSm q3)), .second, .val (.long (hSm q4)), .second, .val (.long (hSm q5)), .second, .val (.long (hSm q6)), .second, .val (.ref a63), .val (.ref a64), .val (.int (0 : Int32)), .val (.int (0 : Int32)), .val (.int (0 : Int32)), .val (.int (0 : Int32)), .val (.int (1 : Int32)), .unset, .unset, .unset, .unset]) rfl ?_
    refine g_aload C S at_119 (pc' := 121) rfl rfl rfl ?_
    refine g_iconst C S (0 : Int32) at_121 (pc' := 122) rfl rfl ?_
    refine g_iload C S at_122 (pc' := 124) rfl rfl ?_
    refine g_iastore C S (i := 0) at_124 A_a63 (by decide) (by decide) ge_a63 (pc' := 125) rfl (fun T177 h177 S W177 B177 => ?_)
    have Zn := Nat.le_trans Zn (Nat.le_of_eq W177.size.symm)
    have A_a64 := A_a64.other W177 (Ne.symm ne_a63_a64)
    have A_a63 := B177
    refine g_goto C S at_125 (pc' := 349) (by decide) (by decide) ?_
    refine g_aload C S at_349 (pc' := 351) rfl rfl rfl ?_
    refine g_iload C S at_351 (pc' := 353) rfl rfl ?_
    refine g_iload C S at_353 (pc' := 355) rfl rfl ?_
    refine g_iastore C S (i := A) at_355 A_a64 (o32 (by omega)) (by omega) ge_a64 (pc' := 356) rfl (fun T178 h178 S W178 B178 => ?_)
    have Zn := Nat.le_trans Zn (Nat.le_of_eq W178.size.symm)
    have A_a63 := A_a63.other W178 ne_a63_a64
    have A_a64 := B178
    refine g_aload C S at_356 (pc' := 358) rfl rfl rfl ?_
    refine g_iload C S at_358 (pc' := 360) rfl rfl ?_
    refine g_iload C S at_360 (pc' := 362) rfl rfl ?_
    refine g_iastore C S (i := B) at_362 A_a64 (o32 (by omega)) (by omega) ge_a64 (pc' := 363) rfl (fun T179 h179 S W179 B179 => ?_)
    have Zn := Nat.le_trans Zn (Nat.le_of_eq W179.size.symm)
    have A_a63 := A_a63.other W179 ne_a63_a64
    have A_a64 := B179
    refine g_aload C S at_363 (pc' := 365) rfl rfl rfl ?_
    refine g_iload C S at_365 (pc' := 367) rfl rfl ?_
    refine g_iload C S at_367 (pc' := 369) rfl rfl ?_
    refine g_iastore C S (i := Cc) at_369 A_a64 (o32 (by omega)) (by omega) ge_a64 (pc' := 370) rfl (fun T180 h180 S W180 B180 => ?_)
    have Zn := Nat.le_trans Zn (Nat.le_of_eq W180.size.symm)
    have A_a63 := A_a63.other W180 ne_a63_a64
    have A_a64 := B180
    refine g_aload C S at_370 (pc' := 372) rfl rfl rfl ?_
    refine g_iload C S at_372 (pc' := 374) rfl rfl ?_
    refine g_iload C S at_374 (pc' := 376) rfl rfl ?_
    refine g_iastore C S (i := D) at_376 A_a64 (o32 (by omega)) (by omega) ge_a64 (pc' := 377) rfl (fun T181 h181 S W181 B181 => ?_)
    have Zn := Nat.le_trans Zn (Nat.le_of_eq W181.size.symm)
    have A_a63 := A_a63.other W181 ne_a63_a64
    have A_a64 := B181
    have A_a64 : Ary Z h181 a64 .int 256 (hL4 A B Cc D (0 : Int32) (0 : Int32) (0 : Int32) (0 : Int32)) := A_a64
    refine g_sipush C S (256 : Int32) at_377 (pc' := 380) rfl rfl ?_
    refine g_newarray C S (N := 256) (cap := 256) at_380 (hw _ (List.mem_of_getElem? (i := 6) rfl)) (by decide) (by decide) (by decide) (by decide) (by decide) (pc' := 382) rfl (fun T182 h182 a182 S g182 E182 A_a182 => ?_)
    have ne_a63_a182 : a63 ≠ a182 := ne_new g182 A_a63.lt
    have ne_a64_a182 : a64 ≠ a182 := ne_new g182 A_a64.lt
    have lt_a64_a182 : a64 < a182 := Nat.lt_of_lt_of_le A_a64.lt (Nat.le_of_eq g182.symm)
    have ge_a182 : n0 ≤ a182 := ge_of g182 Zn
    have Zn := Nat.le_trans Zn E182.1
    have A_a63 := A_a63.ext E182
    have A_a64 := A_a64.ext E182
    have A_a182 : Ary Z h182 a182 .long 256 (fun _ => (.long (0 : Int64))) := A_a182
    refine g_astore C S at_382 (pc' := 384) rfl rfl (L' := #[.val (.int p1), .val (.long q2), .second, .val (.long q3), .second, .val (.long q4), .second, .val (.long q5), .second, .val (.long q6), .second, .val (.int (Int32.ofNat A)), .val (.int (Int32.ofNat B)), .val (.int (Int32.ofNat Cc)), .val (.int (Int32.ofNat D)), .val (.int sh), .val (.long (hSm q2)), .second, .val (.long (hSm q3)), .second, .val (.long (hSm q4)), .second, .val (.long (hSm q5)), .second, .val (.long (hSm q6)), .second, .val (.ref a63), .val (.ref a64), .val (.int (0 : Int32)), .val (.int (0 : Int32)), .val (.int (0 : Int32)), .val (.int (0 : Int32)), .val (.int (1 : Int32)), .val (.ref a182), .unset, .unset, .unset]) rfl ?_
    refine g_aload C S at_384 (pc' := 386) rfl rfl rfl ?_
    refine g_iload C S at_386 (pc' := 388) rfl rfl ?_
    refine g_lload C S at_388 (pc' := 390) rfl rfl ?_
    refine g_lastore C S (i := A) at_390 A_a182 (o32 (by omega)) (by omega) ge_a182 (pc' := 391) rfl (fun T183 h183 S W183 B183 => ?_)
    have Zn := Nat.le_trans Zn (Nat.le_of_eq W183.size.symm)
    have A_a63 := A_a63.other W183 ne_a63_a182
    have A_a64 := A_a64.other W183 ne_a64_a182
    have A_a182 := B183
    refine g_aload C S at_391 (pc' := 393) rfl rfl rfl ?_
    refine g_iload C S at_393 (pc' := 395) rfl rfl ?_
    refine g_lload C S at_395 (pc' := 397) rfl rfl ?_
    refine g_lastore C S (i := B) at_397 A_a182 (o32 (by omega)) (by omega) ge_a182 (pc' := 398) rfl (fun T184 h184 S W184 B184 => ?_)
    have Zn := Nat.le_trans Zn (Nat.le_of_eq W184.size.symm)
    have A_a63 := A_a63.other W184 ne_a63_a182
    have A_a64 := A_a64.other W184 ne_a64_a182
    have A_a182 := B184
    refine g_aload C S at_398 (pc' := 400) rfl rfl rfl ?_
    refine g_iload C S at_400 (pc' := 402) rfl rfl ?_
    refine g_lload C S at_402 (pc' := 404) rfl rfl ?_
    refine g_lastore C S (i := Cc) at_404 A_a182 (o32 (by omega)) (by omega) ge_a182 (pc' := 405) rfl (fun T185 h185 S W185 B185 => ?_)
    have Zn := Nat.le_trans Zn (Nat.le_of_eq W185.size.symm)
    have A_a63 := A_a63.other W185 ne_a63_a182
    have A_a64 := A_a64.other W185 ne_a64_a182
    have A_a182 := B185
    refine g_aload C S at_405 (pc' := 407) rfl rfl rfl ?_
    refine g_iload C S at_407 (pc' := 409) rfl rfl ?_
    refine g_lload C S at_409 (pc' := 411) rfl rfl ?_
    refine g_lastore C S (i := D) at_411 A_a182 (o32 (by omega)) (by omega) ge_a182 (pc' := 412) rfl (fun T186 h186 S W186 B186 => ?_)
    have Zn := Nat.le_trans Zn (Nat.le_of_eq W186.size.symm)
    have A_a63 := A_a63.other W186 ne_a63_a182
    have A_a64 := A_a64.other W186 ne_a64_a182
    have A_a182 := B186
    refine g_aload C S at_412 (pc' := 414) rfl rfl rfl ?_
    refine g_iload C S at_414 (pc' := 416) rfl rfl ?_
    refine g_iconst C S (1 : Int32) at_416 (pc' := 417) rfl rfl ?_
    refine g_iadd C S at_417 (pc' := 418) rfl ?_
    refine g_lload C S at_418 (pc' := 420) rfl rfl ?_
    refine g_lastore C S (i := (A + 1)) at_420 A_a182 (by rw [o32_succ]; exact o32 (by omega)) (by omega) ge_a182 (pc' := 421) rfl (fun T187 h187 S W187 B187 => ?_)
    have Zn := Nat.le_trans Zn (Nat.le_of_eq W187.size.symm)
    have A_a63 := A_a63.other W187 ne_a63_a182
    have A_a64 := A_a64.other W187 ne_a64_a182
    have A_a182 := B187
    have A_a182 := A_a182.cg (hN5_eq A B Cc D (hSm q2) (hSm q3) (hSm q4) (hSm q5) (hSm q6) 256)
    refine g_new C S at_421 (hw _ (List.mem_of_getElem? (i := 7) rfl)) (hw _ (List.mem_of_getElem? (i := 8) rfl)) (hw _ (List.mem_of_getElem? (i := 9) rfl)) (by decide) (by decide) (pc' := 424) rfl (fun T188 h188 a188 S g188 E188 X188 D188 => ?_)
    have ne_a63_a188 : a63 ≠ a188 := ne_new g188 A_a63.lt
    have ne_a64_a188 : a64 ≠ a188 := ne_new g188 A_a64.lt
    have ne_a182_a188 : a182 ≠ a188 := ne_new g188 A_a182.lt
    have lt_a182_a188 : a182 < a188 := Nat.lt_of_lt_of_le A_a182.lt (Nat.le_of_eq g188.symm)
    have ge_a188 : n0 ≤ a188 := ge_of g188 Zn
    have Zn := Nat.le_trans Zn E188.1
    have A_a63 := A_a63.ext E188
    have A_a64 := A_a64.ext E188
    have A_a182 := A_a182.ext E188
    have F_m_aSymbols_a188 : Fld Z h188 a188 "leafpress/HuffmanCode" "m_aSymbols" "[I" .null := D188 (Or.inr (hw _ (List.mem_of_getElem? (i := 17) rfl))) (ty := (.array .int)) (by decide)
    have F_m_aCodes_a188 : Fld Z h188 a188 "leafpress/HuffmanCode" "m_aCodes" "[J" .null := D188 (Or.inr (hw _ (List.mem_of_getElem? (i := 19) rfl))) (ty := (.array .long)) (by decide)
    have F_m_aLengths_a188 : Fld Z h188 a188 "leafpress/HuffmanCode" "m_aLengths" "[B" .null := D188 (Or.inr (hw _ (List.mem_of_getElem? (i := 22) rfl))) (ty := (.array .byte)) (by decide)
    have F_m_aLengthCounts_a188 : Fld Z h188 a188 "leafpress/HuffmanCode" "m_aLengthCounts" "[I" .null := D188 (Or.inr (hw _ (List.mem_of_getElem? (i := 24) rfl))) (ty := (.array .int)) (by decide)
    have F_m_aFirstCodes_a188 : Fld Z h188 a188 "leafpress/HuffmanCode" "m_aFirstCodes" "[J" .null := D188 (Or.inr (hw _ (List.mem_of_getElem? (i := 26) rfl))) (ty := (.array .long)) (by decide)
    have F_m_aFirstSymbols_a188 : Fld Z h188 a188 "leafpress/HuffmanCode" "m_aFirstSymbols" "[I" .null := D188 (Or.inr (hw _ (List.mem_of_getElem? (i := 28) rfl))) (ty := (.array .int)) (by decide)
    have F_m_nValues_a188 : Fld Z h188 a188 "leafpress/HuffmanCode" "m_nValues" "I" (.int (0 : Int32)) := D188 (Or.inl (hw _ (List.mem_of_getElem? (i := 59) rfl))) (ty := .int) (by decide)
    have F_m_nLongest_a188 : Fld Z h188 a188 "leafpress/HuffmanCode" "m_nLongest" "I" (.int (0 : Int32)) := D188 (Or.inl (hw _ (List.mem_of_getElem? (i := 68) rfl))) (ty := .int) (by decide)
    have F_m_bPacked_a188 : Fld Z h188 a188 "leafpress/HuffmanCode" "m_bPacked" "Z" (.int (0 : Int32)) := D188 (Or.inl (hw _ (List.mem_of_getElem? (i := 70) rfl))) (ty := .boolean) (by decide)
    refine g_dup C S at_424 (pc' := 425) rfl rfl ?_
    refine g_callI C S (rm := ({ frames := 2, cells := 6, slots := 968, locals := 30 } : Room)) (W := 1) at_425 rfl (hw _ (List.mem_of_getElem? (i := 10) rfl)) (hw _ (List.mem_of_getElem? (i := 11) rfl)) (hw _ (List.mem_of_getElem? (i := 9) rfl)) (hw _ (List.mem_of_getElem? (i := 12) rfl)) (by decide) (c_ini l' Z a0 hw a188 h188 n0 Zn ge_a188 X188 F_m_aSymbols_a188 F_m_aCodes_a188 F_m_aLengths_a188 F_m_aLengthCounts_a188 F_m_aFirstCodes_a188 F_m_aFirstSymbols_a188 F_m_nLongest_a188 F_m_nValues_a188 F_m_bPacked_a188) (argsL := []) (r := [(.ref a188)]) rfl (lenOf pd_6 rfl) rfl (Nat.le_of_eq rfl) (by decide) (by decide) (by decide) (by decide) (pc' := 428) rfl (fun T189 h189 v189 q189 S => ?_)
    have lt_o_sy0 := X188.lt
    obtain ⟨sy, co, le, lc, fa, fb, rfl, K189, Y189, F_m_aSymbols_a188, F_m_aCodes_a188, F_m_aLengths_a188, F_m_aLengthCounts_a188, F_m_aFirstCodes_a188, F_m_aFirstSymbols_a188, F_m_nLongest_a188, F_m_nValues_a188, F_m_bPacked_a188, A_sy, A_co, A_le, A_lc, A_fa, A_fb, sz_sy, lt_sy_co, lt_co_le, lt_le_lc, lt_lc_fa, lt_fa_fb, -, g_sy, g_co, g_le, g_lc, g_fa, g_fb⟩ := q189
    have lt_a188_sy : a188 < sy := Nat.lt_of_lt_of_le lt_o_sy0 sz_sy
    have Zn := Nat.le_trans Zn K189.1
    have A_a63 := A_a63.keep K189 (ninS ne_a63_a188 nin0)
    have A_a64 := A_a64.keep K189 (ninS ne_a64_a188 nin0)
    have A_a182 := A_a182.keep K189 (ninS ne_a182_a188 nin0)
    show Gl p e below s _ n0 _ T189 (mkF m 428 #[.val (.int p1), .val (.long q2), .second, .val (.long q3), .second, .val (.long q4), .second, .val (.long q5), .second, .val (.long q6), .second, .val (.int (Int32.ofNat A)), .val (.int (Int32.ofNat B)), .val (.int (Int32.ofNat Cc)), .val (.int (Int32.ofNat D)), .val (.int sh), .val (.long (hSm q2)), .second, .val (.long (hSm q3)), .second, .val (.long (hSm q4)), .second, .val (.long (hSm q5)), .second, .val (.long (hSm q6)), .second, .val (.ref a63), .val (.ref a64), .val (.int (0 : Int32)), .val (.int (0 : Int32)), .val (.int (0 : Int32)), .val (.int (0 : Int32)), .val (.int (1 : Int32)), .val (.ref a182), .unset, .unset, .unset] [(.ref a188)])
    refine g_astore C S at_428 (pc' := 430) rfl rfl (L' := #[.val (.int p1), .val (.long q2), .second, .val (.long q3), .second, .val (.long q4), .second, .val (.long q5), .second, .val (.long q6), .second, .val (.int (Int32.ofNat A)), .val (.int (Int32.ofNat B)), .val (.int (Int32.ofNat Cc)), .val (.int (Int32.ofNat D)), .val (.int sh), .val (.long (hSm q2)), .second, .val (.long (hSm q3)), .second, .val (.long (hSm q4)), .second, .val (.long (hSm q5)), .second, .val (.long (hSm q6)), .second, .val (.ref a63), .val (.ref a64), .val (.int (0 : Int32)), .val (.int (0 : Int32)), .val (.int (0 : Int32)), .val (.int (0 : Int32)), .val (.int (1 : Int32)), .val (.ref a182), .val (.ref a188), .unset, .unset]) rfl ?_
    refine g_aload C S at_430 (pc' := 432) rfl rfl rfl ?_
    refine g_aload C S at_432 (pc' := 434) rfl rfl rfl ?_
    refine g_iload C S at_434 (pc' := 436) rfl rfl ?_
    refine g_aload C S at_436 (pc' := 438) rfl rfl rfl ?_
    refine g_callV C S (rm := ({ frames := 2, cells := 0, slots := 0, locals := 43 } : Room)) (W := 0) at_438 (hw _ (List.mem_of_getElem? (i := 36) rfl)) (hw _ (List.mem_of_getElem? (i := 37) rfl)) (notFace_of_selects (args := #[]) (mvT C.2.1 (hw _ (List.mem_of_getElem? (i := 39) rfl)))) (hw _ (List.mem_of_getElem? (i := 39) rfl)) (hw _ (List.mem_of_getElem? (i := 38) rfl)) (hw _ (List.mem_of_getElem? (i := 9) rfl)) (hw _ (List.mem_of_getElem? (i := 40) rfl)) (by decide) rfl Y189 (c_fil l' Z a0 hw a188 a63 a64 h189 n0 (fun i => [0].getD i 0) (fun i => [Cc].getD i 0) 1 4 256 _ _ (by decide +kernel) (by decide) (by decide) (fa1 (show Cc < 256 by omega)) (fs1 ) (fa1 rfl) (fa1 (hL4_C (A := A) (B := B) (C := Cc) (D := D) (by omega))) sy co le lc fa fb _ _ _ _ _ _ ge_a188 g_sy g_co g_le g_lc g_fa g_fb (nd9 lt_a63_a64 (Nat.lt_trans lt_a64_a182 lt_a182_a188) lt_a188_sy lt_sy_co lt_co_le lt_le_lc lt_lc_fa lt_fa_fb) Y189 F_m_aSymbols_a188 F_m_aCodes_a188 F_m_aLengths_a188 F_m_aLengthCounts_a188 F_m_aFirstCodes_a188 F_m_aFirstSymbols_a188 F_m_nLongest_a188 F_m_nValues_a188 F_m_bPacked_a188 A_a63 A_a64 A_lc A_fa A_fb A_sy A_co A_le) (argsL := [(.ref a63), (.int (1 : Int32)), (.ref a64)]) (r := []) rfl (lenOf pd_10 rfl) rfl (Nat.le_of_eq rfl) (by decide) (by decide) (by decide) (by decide) (pc' := 441) rfl (fun T190 h190 v190 q190 S => ?_)
    obtain ⟨rfl, K190, X190, G_co, F_m_aLengths_a188, G_pk, B_co, B_le⟩ := q190
    have A_a182 := A_a182.keep K190 (ninS (Nat.ne_of_lt lt_a182_a188) (ninS (Nat.ne_of_lt (Nat.lt_trans lt_a182_a188 lt_a188_sy)) (ninS (Nat.ne_of_lt (Nat.lt_trans (Nat.lt_trans lt_a182_a188 lt_a188_sy) lt_sy_co)) (ninS (Nat.ne_of_lt (Nat.lt_trans (Nat.lt_trans (Nat.lt_trans lt_a182_a188 lt_a188_sy) lt_sy_co) lt_co_le)) (ninS (Nat.ne_of_lt (Nat.lt_trans (Nat.lt_trans (Nat.lt_trans (Nat.lt_trans lt_a182_a188 lt_a188_sy) lt_sy_co) lt_co_le) lt_le_lc)) (ninS (Nat.ne_of_lt (Nat.lt_trans (Nat.lt_trans (Nat.lt_trans (Nat.lt_trans (Nat.lt_trans lt_a182_a188 lt_a188_sy) lt_sy_co) lt_co_le) lt_le_lc) lt_lc_fa)) (ninS (Nat.ne_of_lt (Nat.lt_trans (Nat.lt_trans (Nat.lt_trans (Nat.lt_trans (Nat.lt_trans (Nat.lt_trans lt_a182_a188 lt_a188_sy) lt_sy_co) lt_co_le) lt_le_lc) lt_lc_fa) lt_fa_fb)) nin0)))))))
    show Gl p e below s _ n0 _ T190 (mkF m 441 #[.val (.int p1), .val (.long q2), .second, .val (.long q3), .second, .val (.long q4), .second, .val (.long q5), .second, .val (.long q6), .second, .val (.int (Int32.ofNat A)), .val (.int (Int32.ofNat B)), .val (.int (Int32.ofNat Cc)), .val (.int (Int32.ofNat D)), .val (.int sh), .val (.long (hSm q2)), .second, .val (.long (hSm q3)), .second, .val (.long (hSm q4)), .second, .val (.long (hSm q5)), .second, .val (.long (hSm q6)), .second, .val (.ref a63), .val (.ref a64), .val (.int (0 : Int32)), .val (.int (0 : Int32)), .val (.int (0 : Int32)), .val (.int (0 : Int32)), .val (.int (1 : Int32)), .val (.ref a182), .val (.ref a188), .unset, .unset] [])
    refine g_lload C S at_441 (pc' := 443) rfl rfl ?_
    refine g_iload C S at_443 (pc' := 445) rfl rfl ?_
    refine g_i2l C S at_445 (pc' := 446) rfl ?_
    refine g_lmul C S at_446 (pc' := 447) rfl ?_
    refine g_lload C S at_447 (pc' := 449) rfl rfl ?_
    refine g_iload C S at_449 (pc' := 451) rfl rfl ?_
    refine g_i2l C S at_451 (pc' := 452) rfl ?_
    refine g_lmul C S at_452 (pc' := 453) rfl ?_
    refine g_ladd C S at_453 (pc' := 454) rfl ?_
    refine g_lload C S at_454 (pc' := 456) rfl rfl ?_
    refine g_iload C S at_456 (pc' := 458) rfl rfl ?_
    refine g_i2l C S at_458 (pc' := 459) rfl ?_
    refine g_lmul C S at_459 (pc' := 460) rfl ?_
    refine g_ladd C S at_460 (pc' := 461) rfl ?_
    refine g_lload C S at_461 (pc' := 463) rfl rfl ?_
    refine g_iload C S at_463 (pc' := 465) rfl rfl ?_
    refine g_i2l C S at_465 (pc' := 466) rfl ?_
    refine g_lmul C S at_466 (pc' := 467) rfl ?_
    refine g_ladd C S at_467 (pc' := 468) rfl ?_
    refine g_lstore C S at_468 (pc' := 470) rfl (L' := #[.val (.int p1), .val (.long q2), .second, .val (.long q3), .second, .val (.long q4), .second, .val (.long q5), .second, .val (.long q6), .second, .val (.int (Int32.ofNat A)), .val (.int (Int32.ofNat B)), .val (.int (Int32.ofNat Cc)), .val (.int (Int32.ofNat D)), .val (.int sh), .val (.long (hSm q2)), .second, .val (.long (hSm q3)), .second, .val (.long (hSm q4)), .second, .val (.long (hSm q5)), .second, .val (.long (hSm q6)), .second, .val (.ref a63), .val (.ref a64), .val (.int (0 : Int32)), .val (.int (0 : Int32)), .val (.int (0 : Int32)), .val (.int (0 : Int32)), .val (.int (1 : Int32)), .val (.ref a182), .val (.ref a188), .val (.long (((((hSm q2) * ((0 : Int32).toInt64)) + ((hSm q3) * ((0 : Int32).toInt64))) + ((hSm q4) * ((0 : Int32).toInt64))) + ((hSm q5) * ((0 : Int32).toInt64)))), .second]) rfl ?_
    refine g_aload C S at_470 (pc' := 472) rfl rfl rfl ?_
    refine g_aload C S at_472 (pc' := 474) rfl rfl rfl ?_
    refine g_callV C S (rm := ({ frames := 0, cells := 0, slots := 0, locals := 0 } : Room)) (W := 0) at_474 (hw _ (List.mem_of_getElem? (i := 71) rfl)) (hw _ (List.mem_of_getElem? (i := 72) rfl)) (notFace_of_selects (args := #[]) (mvT C.2.1 (hw _ (List.mem_of_getElem? (i := 74) rfl)))) (hw _ (List.mem_of_getElem? (i := 74) rfl)) (hw _ (List.mem_of_getElem? (i := 73) rfl)) (hw _ (List.mem_of_getElem? (i := 9) rfl)) (hw _ (List.mem_of_getElem? (i := 75) rfl)) (by decide) rfl X190 (c_bit l' Z a0 hw a188 a182 h190 n0 le _ (fun x => Int32.ofNat (hLe (fun i => [0].getD i 0) (fun i => [Cc].getD i 0) 1 1 x)) F_m_aLengths_a188 A_a182 B_le) (argsL := [(.ref a182)]) (r := []) rfl (lenOf pd_11 rfl) rfl (Nat.le_of_eq rfl) (by decide) (by decide) (by decide) (by decide) (pc' := 477) rfl (fun T191 h191 v191 q191 S => ?_)
    obtain ⟨rfl, e191⟩ := q191; rw [e191] at S
    show Gl p e below s _ n0 _ T191 (mkF m 477 #[.val (.int p1), .val (.long q2), .second, .val (.long q3), .second, .val (.long q4), .second, .val (.long q5), .second, .val (.long q6), .second, .val (.int (Int32.ofNat A)), .val (.int (Int32.ofNat B)), .val (.int (Int32.ofNat Cc)), .val (.int (Int32.ofNat D)), .val (.int sh), .val (.long (hSm q2)), .second, .val (.long (hSm q3)), .second, .val (.long (hSm q4)), .second, .val (.long (hSm q5)), .second, .val (.long (hSm q6)), .second, .val (.ref a63), .val (.ref a64), .val (.int (0 : Int32)), .val (.int (0 : Int32)), .val (.int (0 : Int32)), .val (.int (0 : Int32)), .val (.int (1 : Int32)), .val (.ref a182), .val (.ref a188), .val (.long (((((hSm q2) * ((0 : Int32).toInt64)) + ((hSm q3) * ((0 : Int32).toInt64))) + ((hSm q4) * ((0 : Int32).toInt64))) + ((hSm q5) * ((0 : Int32).toInt64)))), .second] [(.long (hSum (hN5 A B Cc D (hSm q2) (hSm q3) (hSm q4) (hSm q5) (hSm q6)) (fun x => Int32.ofNat (hLe (fun i => [0].getD i 0) (fun i => [Cc].getD i 0) 1 1 x)) 256))])
    refine g_lload C S at_477 (pc' := 479) rfl rfl ?_
    refine g_lcmp C S at_479 (pc' := 480) rfl ?_
    refine g_lif_ne C S at_480 (pc' := 487) (pf := 483) (by decide) (by decide) rfl (fun hc480 => absurd (hBits (A := A) (B := B) (C := Cc) (D := D) (ka := 0) (kb := 0) (kc := 0) (kd := 0) (by omega) (by omega) (by omega) (by omega) (hLe_no (l := (fun i => [0].getD i 0)) (V := (fun i => [Cc].getD i 0)) ((hGood_spec (l := (fun i => [0].getD i 0)) (n := 1) (by decide +kernel)).2.2.2.2.2) (fa1 (show A ≠ Cc by omega)) 1 (by decide)) (hLe_no (l := (fun i => [0].getD i 0)) (V := (fun i => [Cc].getD i 0)) ((hGood_spec (l := (fun i => [0].getD i 0)) (n := 1) (by decide +kernel)).2.2.2.2.2) (fa1 (show B ≠ Cc by omega)) 1 (by decide)) ((hLe_V (l := (fun i => [0].getD i 0)) (V := (fun i => [Cc].getD i 0)) (fs1 ) ((hGood_spec (l := (fun i => [0].getD i 0)) (n := 1) (by decide +kernel)).2.2.2.2.2) (i := 0) (by decide) 1 (by decide)).trans (by decide +kernel)) (hLe_no (l := (fun i => [0].getD i 0)) (V := (fun i => [Cc].getD i 0)) ((hGood_spec (l := (fun i => [0].getD i 0)) (n := 1) (by decide +kernel)).2.2.2.2.2) (fa1 (show D ≠ Cc by omega)) 1 (by decide)) (fun x xA xB xC xD => hLe_no (l := (fun i => [0].getD i 0)) (V := (fun i => [Cc].getD i 0)) ((hGood_spec (l := (fun i => [0].getD i 0)) (n := 1) (by decide +kernel)).2.2.2.2.2) (fa1 xC) 1 (by decide))) hc480) (fun hc480 => ?_)
    refine g_iconst C S (1 : Int32) at_483 (pc' := 484) rfl rfl ?_
    refine g_goto C S at_484 (pc' := 488) (by decide) (by decide) ?_
    exact g_retZ C S at_488 (by decide) (by decide) (by decide) (rfl)
set_option maxRecDepth 65536 in
set_option maxHeartbeats 40000000 in
theorem comes_1 {Post : Tables → Env → Array Value → State → Outcome → State → Prop} (hpost : ∀ tb e args s v u, (limb_1_1.after args s (.returned v) u = true ∧ limb_1_2.after args s (.returned v) u = true ∧ True) → FrameEnd s (.returned v) u (Jvm.fieldLocs frame_1_writes args s ++ Jvm.arrayLocs frame_1_arrays args s ++ Jvm.staticLocs frame_1_statics s) 32 3072 → Post tb e args s (.returned v) u) :
    ArmFor flags0 classFile x code maxLocals ret World_1 tables_1 room_1 Calls_1 rest_1 Pre_1 Post := by
  intro l hfl _ _ p e ha hc hk s m args below hf hA hF happ hP
  obtain ⟨hcalls, hrest, hpre⟩ := hP
  obtain ⟨-, -, -, hnamed, -, -, -, hat⟩ := (Spec.applies_iff hf).mp happ
  obtain ⟨hg, hn⟩ := and_e (Cond.before_iff.mp (show (Jvm.Cond.and given_1 narrow_1).before args s = true from hpre))
  obtain ⟨hcount, hg0⟩ := and_e hg
  obtain ⟨ha0, hg1⟩ := and_e hg0
  obtain ⟨ha1, hg2⟩ := and_e hg1
  obtain ⟨ha2, hg3⟩ := and_e hg2
  obtain ⟨ha3, hg4⟩ := and_e hg3
  obtain ⟨ha4, hg5⟩ := and_e hg4
  have ha5 := hg5
  obtain ⟨w0, w1, w2, w3, w4, w5, rfl⟩ : ∃ w0 w1 w2 w3 w4 w5 : Value, args = #[w0, w1, w2, w3, w4, w5] := by
    have hs : args.size = 6 := by simpa [Cond.value, given_1] using hcount
    obtain ⟨L⟩ := args
    match L, hs with
    | [w0, w1, w2, w3, w4, w5], _ => exact ⟨w0, w1, w2, w3, w4, w5, rfl⟩
  have hw := fun d (hd : d ∈ tables_1) => atoms_spec (ws := Jvm.Cond.code x code maxLocals ret :: tables_1) hat d (List.mem_cons_of_mem _ hd)
  obtain ⟨i0, ei0⟩ := is_v ha0
  obtain rfl : w0 = (.int i0) := Option.some.inj ei0
  obtain ⟨i1, ei1⟩ := isL_v ha1
  obtain rfl : w1 = (.long i1) := Option.some.inj ei1
  obtain ⟨i2, ei2⟩ := isL_v ha2
  obtain rfl : w2 = (.long i2) := Option.some.inj ei2
  obtain ⟨i3, ei3⟩ := isL_v ha3
  obtain rfl : w3 = (.long i3) := Option.some.inj ei3
  obtain ⟨i4, ei4⟩ := isL_v ha4
  obtain rfl : w4 = (.long i4) := Option.some.inj ei4
  obtain ⟨i5, ei5⟩ := isL_v ha5
  obtain rfl : w5 = (.long i5) := Option.some.inj ei5
  obtain ⟨n, o, h1, h2, h3, _, L, rfl, ⟨rfl, N⟩, hq⟩ := c_law l s _ hw i0 i1 i2 i3 i4 i5 s.heap s.heap.size (Nat.le_refl _) tables_1 p e ha hc hk s m _ below hf ((Spec.applies_iff_loose hf).mp happ).1 ⟨rfl, State.Warmed39.refl s, rfl⟩ trivial
  refine ⟨n, _, h1, h2, h3, hpost _ _ _ _ _ _ ⟨Cond.after_iff.mpr rfl, Cond.after_iff.mpr (eq_i res_at (Term.int_eval (1)) rfl), trivial⟩ ⟨hq.1, hq.2.1, (hq.2.2.sift fun y hy => Or.inr (N y hy)).mono (by decide) (by decide)⟩⟩
theorem main_1_1 : Claimed_1_1 := comes_1 fun _ _ _ _ _ _ h hF => ⟨h.1, hF⟩
theorem main_1_2 : Claimed_1_2 := comes_1 fun _ _ _ _ _ _ h hF => ⟨h.2.1, hF⟩
end Jvm.Pilot.@@N@@
namespace Jvm.Pilot.@@N@@
open Jvm Jvm.ClassFile Sem Op Lib Jvm.Free Jvm.Stand Jvm.Pilot.@@N@@.Jvm.D
/-! MADE BY PROGRAM (witnessworld.py) out of the Statement's table words and the real class files: 13 classes; the members and pool entries that the words name. The judged class is class 1, her method 1. -/
namespace start1
open Jvm.ClassFile
def u (s : String) : CpInfo := .utf8 (stringToUtf16 s)
/-- a pool by its gaps: so many unusable entries, then the entry; so many at the end -/
def gap : Nat → List CpInfo → List CpInfo
  | 0, r => r
  | n + 1, r => .unusable :: gap n r
def poolList (es : List (Nat × CpInfo)) (last : Nat) : List CpInfo := es.foldr (fun e r => gap e.1 (e.2 :: r)) (gap last [])
def pool (es : List (Nat × CpInfo)) (last : Nat) : Array CpInfo := ⟨poolList es last⟩
def fileOf (pool : Array CpInfo) (this : Nat) (attrs : Array Attribute := #[]) (ms : Array MethodInfo := #[]) (fl : Nat := 33) (sup : Nat := 0) (ifs : Array Nat := #[]) (fds : Array FieldInfo := #[]) : ClassFile where
  minorVersion := 0
  majorVersion := 65
  constantPool := pool
  accessFlags := fl
  thisClass := this
  superClass := sup
  interfaces := ifs
  fields := fds
  methods := ms
  attributes := attrs
def plain (name : String) (sup : Option ClassId) : Class where
  name := name
  kind := .ordinary
  loader := none
  accessFlags := 33
  super := sup
  interfaces := #[]
  cf := none
  fields := #[]
  methods := #[]
  instanceTypes := #[]
  staticTypes := #[]
  resolved := #[]
  callSites := []
  init := .initialized
  statics := none
  mirror := none

def pool0 : Array CpInfo := pool [(5, u "<init>"), (0, u "()V"), (1, .class_ 10), (1, u "java/lang/Object")] 113

def k0c0 : Code := { maxStack := 0, maxLocals := 1, code := object_method_1_code, exceptionTable := #[], attributes := #[] }
def k0m0 : Method := { name := "<init>", desc := "()V", sig := { parameters := [], returnType := none }, accessFlags := 1, code := some k0c0 }
/-- java/lang/Object -/
def k0 : Class := { plain "java/lang/Object" none with
  accessFlags := 33
  interfaces := #[]
  cf := some (fileOf pool0 8 #[] #[{ accessFlags := 1, nameIndex := 5, descriptorIndex := 6, attributes := #[] }] 33 0 #[] #[])
  fields := #[]
  methods := #[k0m0]
  instanceTypes := #[]
  staticTypes := #[]
  resolved := Array.replicate 124 none
  statics := none }

def pool1 : Array CpInfo := pool [(2, .class_ 4), (0, .nameAndType 5 6), (0, u "java/lang/Object"), (0, u "<init>"), (0, u "()V"), (0, .methodref 8 9), (0, .class_ 10), (0, .nameAndType 11 12), (0, u "leafpress/HuffmanCodeBitsPinLaw"), (0, u "small"), (0, u "(J)J"), (0, .class_ 14), (0, u "leafpress/HuffmanCode"), (0, .methodref 13 3), (0, .methodref 13 17), (0, .nameAndType 18 19), (0, u "fill"), (0, u "([II[I)V"), (0, .methodref 13 21), (0, .nameAndType 22 23), (0, u "bits"), (0, u "([J)J"), (2, .long 9223372036854775807), (3, u "law"), (0, u "(IJJJJJ)Z")] 7

def k1m0 : Method := { name := "<init>", desc := "()V", sig := { parameters := [], returnType := none }, accessFlags := 1, code := none }
def k1c1 : Code := { maxStack := 6, maxLocals := 37, code := code, exceptionTable := #[], attributes := #[] }
def k1m1 : Method := { name := "law", desc := "(IJJJJJ)Z", sig := { parameters := [.int, .long, .long, .long, .long, .long], returnType := some .boolean }, accessFlags := 9, code := some k1c1 }
def k1c2 : Code := { maxStack := 4, maxLocals := 2, code := method_3_code, exceptionTable := #[], attributes := #[] }
def k1m2 : Method := { name := "small", desc := "(J)J", sig := { parameters := [.long], returnType := some .long }, accessFlags := 10, code := some k1c2 }
/-- leafpress/HuffmanCodeBitsPinLaw -/
def k1 : Class := { plain "leafpress/HuffmanCodeBitsPinLaw" (some 0) with
  accessFlags := 49
  interfaces := #[]
  cf := some (fileOf pool1 8 #[] #[{ accessFlags := 1, nameIndex := 5, descriptorIndex := 6, attributes := #[] }, { accessFlags := 9, nameIndex := 30, descriptorIndex := 31, attributes := #[] }, { accessFlags := 10, nameIndex := 11, descriptorIndex := 12, attributes := #[] }] 49 2 #[] #[])
  fields := #[]
  methods := #[k1m0, k1m1, k1m2]
  instanceTypes := #[]
  staticTypes := #[]
  resolved := Array.replicate 39 none
  statics := none }

def pool2 : Array CpInfo := pool [(2, .class_ 4), (0, .nameAndType 5 6), (0, u "leafpress/HuffmanCode"), (0, u "<init>"), (0, u "()V"), (2, u "fill"), (0, u "([II[I)V"), (0, .methodref 12 3), (0, .class_ 13), (0, u "java/lang/Object"), (0, .fieldref 2 15), (0, .nameAndType 16 17), (0, u "m_aSymbols"), (0, u "[I"), (0, .fieldref 2 19), (0, .nameAndType 20 21), (0, u "m_aCodes"), (0, u "[J"), (2, .fieldref 2 25), (0, .nameAndType 26 27), (0, u "m_aLengths"), (0, u "[B"), (0, .fieldref 2 29), (0, .nameAndType 30 17), (0, u "m_aLengthCounts"), (0, .fieldref 2 32), (0, .nameAndType 33 21), (0, u "m_aFirstCodes"), (0, .fieldref 2 35), (0, .nameAndType 36 17), (0, u "m_aFirstSymbols"), (0, .methodref 38 39), (0, .class_ 40), (0, .nameAndType 9 41), (0, u "java/util/Arrays"), (0, u "([BIIB)V"), (0, .methodref 38 43), (0, .nameAndType 9 44), (0, u "([II)V"), (0, .methodref 2 46), (0, .nameAndType 47 48), (0, u "count"), (0, u "([II[I[I)I"), (0, .methodref 2 50), (0, .nameAndType 51 6), (0, u "forget"), (0, .methodref 2 53), (0, .nameAndType 54 55), (0, u "place"), (0, u "([II[II)V"), (6, .fieldref 2 63), (0, .nameAndType 64 65), (0, u "m_nValues"), (0, u "I"), (0, .methodref 2 67), (0, .nameAndType 68 69), (0, u "canonical"), (0, u "([II[I[II[J[I[I)V"), (0, .fieldref 2 71), (0, .nameAndType 72 65), (0, u "m_nLongest"), (2, .fieldref 2 76), (0, .nameAndType 77 78), (0, u "m_bPacked"), (0, u "Z"), (9, .methodref 89 90), (0, .class_ 91), (0, .nameAndType 92 93), (0, u "java/lang/Math"), (0, u "max"), (0, u "(II)I"), (0, .methodref 2 95), (0, .nameAndType 96 97), (0, u "checkComplete"), (0, u "([III)V"), (0, .long 2), (5, .class_ 105), (0, u "leafpress/HuffmanCode$Maker"), (39, u "LONG_LITTLE_ENDIAN"), (0, u "Ljava/lang/invoke/VarHandle;"), (60, u "IDENTITY"), (0, u "Lleafpress/HuffmanCode;"), (13, u "MAX_LENGTH"), (15, u "bits"), (0, u "([J)J"), (14, .class_ 255), (0, u "leafpress/HuffmanCode$LookupTable")] 22

def k2c0 : Code := { maxStack := 4, maxLocals := 1, code := prog_31_method_2_code, exceptionTable := #[], attributes := #[] }
def k2m0 : Method := { name := "<init>", desc := "()V", sig := { parameters := [], returnType := none }, accessFlags := 0, code := some k2c0 }
def k2c1 : Code := { maxStack := 5, maxLocals := 5, code := prog_31_method_3_code, exceptionTable := #[], attributes := #[] }
def k2m1 : Method := { name := "fill", desc := "([II[I)V", sig := { parameters := [(.array .int), .int, (.array .int)], returnType := none }, accessFlags := 0, code := some k2c1 }
def k2c2 : Code := { maxStack := 4, maxLocals := 2, code := prog_31_method_5_code, exceptionTable := #[], attributes := #[] }
def k2m2 : Method := { name := "forget", desc := "()V", sig := { parameters := [], returnType := none }, accessFlags := 2, code := some k2c2 }
def k2c3 : Code := { maxStack := 8, maxLocals := 10, code := prog_31_method_6_code, exceptionTable := #[], attributes := #[] }
def k2m3 : Method := { name := "place", desc := "([II[II)V", sig := { parameters := [(.array .int), .int, (.array .int), .int], returnType := none }, accessFlags := 2, code := some k2c3 }
def k2c4 : Code := { maxStack := 4, maxLocals := 9, code := prog_31_method_7_code, exceptionTable := #[], attributes := #[] }
def k2m4 : Method := { name := "count", desc := "([II[I[I)I", sig := { parameters := [(.array .int), .int, (.array .int), (.array .int)], returnType := some .int }, accessFlags := 10, code := some k2c4 }
def k2c5 : Code := { maxStack := 6, maxLocals := 11, code := prog_31_method_8_code, exceptionTable := #[], attributes := #[] }
def k2m5 : Method := { name := "canonical", desc := "([II[I[II[J[I[I)V", sig := { parameters := [(.array .int), .int, (.array .int), (.array .int), .int, (.array .long), (.array .int), (.array .int)], returnType := none }, accessFlags := 10, code := some k2c5 }
def k2c6 : Code := { maxStack := 4, maxLocals := 7, code := prog_31_method_9_code, exceptionTable := #[], attributes := #[] }
def k2m6 : Method := { name := "checkComplete", desc := "([III)V", sig := { parameters := [(.array .int), .int, .int], returnType := none }, accessFlags := 10, code := some k2c6 }
def k2c7 : Code := { maxStack := 6, maxLocals := 5, code := prog_31_method_17_code, exceptionTable := #[], attributes := #[] }
def k2m7 : Method := { name := "bits", desc := "([J)J", sig := { parameters := [(.array .long)], returnType := some .long }, accessFlags := 0, code := some k2c7 }
/-- leafpress/HuffmanCode -/
def k2 : Class := { plain "leafpress/HuffmanCode" (some 0) with
  accessFlags := 48
  interfaces := #[]
  cf := some (fileOf pool2 2 #[.nestMembers #[254, 104]] #[{ accessFlags := 0, nameIndex := 5, descriptorIndex := 6, attributes := #[] }, { accessFlags := 0, nameIndex := 9, descriptorIndex := 10, attributes := #[] }, { accessFlags := 2, nameIndex := 51, descriptorIndex := 6, attributes := #[] }, { accessFlags := 2, nameIndex := 54, descriptorIndex := 55, attributes := #[] }, { accessFlags := 10, nameIndex := 47, descriptorIndex := 48, attributes := #[] }, { accessFlags := 10, nameIndex := 68, descriptorIndex := 69, attributes := #[] }, { accessFlags := 10, nameIndex := 96, descriptorIndex := 97, attributes := #[] }, { accessFlags := 0, nameIndex := 238, descriptorIndex := 239, attributes := #[] }] 48 12 #[] #[{ accessFlags := 24, nameIndex := 222, descriptorIndex := 65, attributes := #[] }, { accessFlags := 24, nameIndex := 207, descriptorIndex := 208, attributes := #[] }, { accessFlags := 26, nameIndex := 145, descriptorIndex := 146, attributes := #[] }, { accessFlags := 2, nameIndex := 72, descriptorIndex := 65, attributes := #[] }, { accessFlags := 2, nameIndex := 64, descriptorIndex := 65, attributes := #[] }, { accessFlags := 18, nameIndex := 16, descriptorIndex := 17, attributes := #[] }, { accessFlags := 18, nameIndex := 20, descriptorIndex := 21, attributes := #[] }, { accessFlags := 2, nameIndex := 77, descriptorIndex := 78, attributes := #[] }, { accessFlags := 18, nameIndex := 26, descriptorIndex := 27, attributes := #[] }, { accessFlags := 18, nameIndex := 30, descriptorIndex := 17, attributes := #[] }, { accessFlags := 18, nameIndex := 33, descriptorIndex := 21, attributes := #[] }, { accessFlags := 18, nameIndex := 36, descriptorIndex := 17, attributes := #[] }])
  fields := #[{ name := "MAX_LENGTH", type := .int, accessFlags := 24, slot := 0, constantValue := 0 }, { name := "IDENTITY", type := (.object "leafpress/HuffmanCode"), accessFlags := 24, slot := 1, constantValue := 0 }, { name := "LONG_LITTLE_ENDIAN", type := (.object "java/lang/invoke/VarHandle"), accessFlags := 26, slot := 2, constantValue := 0 }, { name := "m_nLongest", type := .int, accessFlags := 2, slot := 0, constantValue := 0 }, { name := "m_nValues", type := .int, accessFlags := 2, slot := 1, constantValue := 0 }, { name := "m_aSymbols", type := (.array .int), accessFlags := 18, slot := 2, constantValue := 0 }, { name := "m_aCodes", type := (.array .long), accessFlags := 18, slot := 3, constantValue := 0 }, { name := "m_bPacked", type := .boolean, accessFlags := 2, slot := 4, constantValue := 0 }, { name := "m_aLengths", type := (.array .byte), accessFlags := 18, slot := 5, constantValue := 0 }, { name := "m_aLengthCounts", type := (.array .int), accessFlags := 18, slot := 6, constantValue := 0 }, { name := "m_aFirstCodes", type := (.array .long), accessFlags := 18, slot := 7, constantValue := 0 }, { name := "m_aFirstSymbols", type := (.array .int), accessFlags := 18, slot := 8, constantValue := 0 }]
  methods := #[k2m0, k2m1, k2m2, k2m3, k2m4, k2m5, k2m6, k2m7]
  instanceTypes := #[.int, .int, (.array .int), (.array .long), .boolean, (.array .byte), (.array .int), (.array .long), (.array .int)]
  staticTypes := #[.int, (.object "leafpress/HuffmanCode"), (.object "java/lang/invoke/VarHandle")]
  resolved := Array.replicate 278 none
  statics := none }

def pool3 : Array CpInfo := pool [(2, .class_ 4), (1, u "java/lang/Object"), (0, u "<init>"), (0, u "()V"), (6, .methodref 14 15), (0, .class_ 16), (0, .nameAndType 17 18), (0, u "java/util/Arrays"), (0, u "rangeCheck"), (0, u "(III)V"), (55, .class_ 76), (1, u "java/util/Arrays$NaturalOrder"), (36, .class_ 115), (1, u "java/util/Arrays$LegacyMergeSort"), (1, u "Z"), (257, .class_ 376), (0, u "java/util/Arrays$ArrayList"), (68, u "$assertionsDisabled"), (269, u "MIN_ARRAY_SORT_GRAN"), (0, u "I"), (2, u "INSERTIONSORT_THRESHOLD"), (120, u "fill"), (4, u "([II)V"), (5, u "([BIIB)V"), (123, .class_ 976), (0, u "java/util/Arrays$ArrayItr")] 52

def k3m0 : Method := { name := "<init>", desc := "()V", sig := { parameters := [], returnType := none }, accessFlags := 2, code := none }
def k3c1 : Code := { maxStack := 4, maxLocals := 3, code := jdk_65_method_30_code, exceptionTable := #[], attributes := #[] }
def k3m1 : Method := { name := "rangeCheck", desc := "(III)V", sig := { parameters := [.int, .int, .int], returnType := none }, accessFlags := 8, code := some k3c1 }
def k3c2 : Code := { maxStack := 3, maxLocals := 4, code := jdk_65_method_103_code, exceptionTable := #[], attributes := #[] }
def k3m2 : Method := { name := "fill", desc := "([II)V", sig := { parameters := [(.array .int), .int], returnType := none }, accessFlags := 9, code := some k3c2 }
def k3c3 : Code := { maxStack := 3, maxLocals := 5, code := jdk_65_method_110_code, exceptionTable := #[], attributes := #[] }
def k3m3 : Method := { name := "fill", desc := "([BIIB)V", sig := { parameters := [(.array .byte), .int, .int, .byte], returnType := none }, accessFlags := 9, code := some k3c3 }
/-- java/util/Arrays -/
def k3 : Class := { plain "java/util/Arrays" (some 0) with
  accessFlags := 49
  interfaces := #[]
  cf := some (fileOf pool3 14 #[.nestMembers #[975, 375, 113, 74]] #[{ accessFlags := 2, nameIndex := 5, descriptorIndex := 6, attributes := #[] }, { accessFlags := 8, nameIndex := 17, descriptorIndex := 18, attributes := #[] }, { accessFlags := 9, nameIndex := 840, descriptorIndex := 845, attributes := #[] }, { accessFlags := 9, nameIndex := 840, descriptorIndex := 851, attributes := #[] }] 49 2 #[] #[{ accessFlags := 26, nameIndex := 715, descriptorIndex := 716, attributes := #[] }, { accessFlags := 26, nameIndex := 719, descriptorIndex := 716, attributes := #[] }, { accessFlags := 4120, nameIndex := 445, descriptorIndex := 117, attributes := #[] }])
  fields := #[{ name := "MIN_ARRAY_SORT_GRAN", type := .int, accessFlags := 26, slot := 0, constantValue := 0 }, { name := "INSERTIONSORT_THRESHOLD", type := .int, accessFlags := 26, slot := 1, constantValue := 0 }, { name := "$assertionsDisabled", type := .boolean, accessFlags := 4120, slot := 2, constantValue := 0 }]
  methods := #[k3m0, k3m1, k3m2, k3m3]
  instanceTypes := #[]
  staticTypes := #[.int, .int, .boolean]
  resolved := Array.replicate 1029 none
  statics := none }

def pool4 : Array CpInfo := pool [(1, .class_ 2), (0, u "java/lang/Math"), (1, .class_ 6), (1, u "java/lang/Object"), (0, u "<init>"), (0, u "()V"), (89, .class_ 100), (1, u "java/lang/Math$RandomNumberGeneratorHolder"), (71, u "negativeZeroFloatBits"), (0, u "J"), (2, u "negativeZeroDoubleBits"), (21, u "max"), (46, u "$assertionsDisabled"), (0, u "Z"), (88, u "(II)I"), (2, u "twoToTheDoubleScaleDown"), (0, u "D"), (4, u "twoToTheDoubleScaleUp"), (9, u "E"), (3, u "PI"), (2, u "TAU"), (2, u "DEGREES_TO_RADIANS"), (0, u "RADIANS_TO_DEGREES")] 94

def k4m0 : Method := { name := "<init>", desc := "()V", sig := { parameters := [], returnType := none }, accessFlags := 2, code := none }
def k4c1 : Code := { maxStack := 2, maxLocals := 2, code := jdk_29_method_65_code, exceptionTable := #[], attributes := #[] }
def k4m1 : Method := { name := "max", desc := "(II)I", sig := { parameters := [.int, .int], returnType := some .int }, accessFlags := 9, code := some k4c1 }
/-- java/lang/Math -/
def k4 : Class := { plain "java/lang/Math" (some 0) with
  accessFlags := 49
  interfaces := #[]
  cf := some (fileOf pool4 1 #[.nestMembers #[98]] #[{ accessFlags := 2, nameIndex := 7, descriptorIndex := 8, attributes := #[] }, { accessFlags := 9, nameIndex := 198, descriptorIndex := 335, attributes := #[] }] 49 4 #[] #[{ accessFlags := 25, nameIndex := 354, descriptorIndex := 339, attributes := #[] }, { accessFlags := 25, nameIndex := 358, descriptorIndex := 339, attributes := #[] }, { accessFlags := 25, nameIndex := 361, descriptorIndex := 339, attributes := #[] }, { accessFlags := 26, nameIndex := 364, descriptorIndex := 339, attributes := #[] }, { accessFlags := 26, nameIndex := 365, descriptorIndex := 339, attributes := #[] }, { accessFlags := 26, nameIndex := 172, descriptorIndex := 173, attributes := #[] }, { accessFlags := 26, nameIndex := 176, descriptorIndex := 173, attributes := #[] }, { accessFlags := 8, nameIndex := 344, descriptorIndex := 339, attributes := #[] }, { accessFlags := 8, nameIndex := 338, descriptorIndex := 339, attributes := #[] }, { accessFlags := 4120, nameIndex := 245, descriptorIndex := 246, attributes := #[] }])
  fields := #[{ name := "E", type := .double, accessFlags := 25, slot := 0, constantValue := 0 }, { name := "PI", type := .double, accessFlags := 25, slot := 1, constantValue := 0 }, { name := "TAU", type := .double, accessFlags := 25, slot := 2, constantValue := 0 }, { name := "DEGREES_TO_RADIANS", type := .double, accessFlags := 26, slot := 3, constantValue := 0 }, { name := "RADIANS_TO_DEGREES", type := .double, accessFlags := 26, slot := 4, constantValue := 0 }, { name := "negativeZeroFloatBits", type := .long, accessFlags := 26, slot := 5, constantValue := 0 }, { name := "negativeZeroDoubleBits", type := .long, accessFlags := 26, slot := 6, constantValue := 0 }, { name := "twoToTheDoubleScaleUp", type := .double, accessFlags := 8, slot := 7, constantValue := 0 }, { name := "twoToTheDoubleScaleDown", type := .double, accessFlags := 8, slot := 8, constantValue := 0 }, { name := "$assertionsDisabled", type := .boolean, accessFlags := 4120, slot := 9, constantValue := 0 }]
  methods := #[k4m0, k4m1]
  instanceTypes := #[]
  staticTypes := #[.double, .double, .double, .double, .double, .long, .long, .double, .double, .boolean]
  resolved := Array.replicate 460 none
  statics := none }

def pool5 : Array CpInfo := pool [(1, u "java/lang/Cloneable"), (0, .class_ 1), (0, u "java/lang/Object"), (0, .class_ 3)] 3

/-- java/lang/Cloneable -/
def k5 : Class := { plain "java/lang/Cloneable" (some 0) with
  accessFlags := 1537
  interfaces := #[]
  cf := some (fileOf pool5 2 #[] #[] 1537 4 #[] #[])
  fields := #[]
  methods := #[]
  instanceTypes := #[]
  staticTypes := #[]
  resolved := Array.replicate 8 none
  statics := none }

def pool6 : Array CpInfo := pool [(1, u "java/io/Serializable"), (0, .class_ 1), (0, u "java/lang/Object"), (0, .class_ 3)] 3

/-- java/io/Serializable -/
def k6 : Class := { plain "java/io/Serializable" (some 0) with
  accessFlags := 1537
  interfaces := #[]
  cf := some (fileOf pool6 2 #[] #[] 1537 4 #[] #[])
  fields := #[]
  methods := #[]
  instanceTypes := #[]
  staticTypes := #[]
  resolved := Array.replicate 8 none
  statics := none }

/-- the primitive byte -/
def k7 : Class := { plain "byte" none with kind := .primitive 'B', accessFlags := 0x411 }
/-- [B -/
def k8 : Class := { plain "[B" (some 0) with kind := .array 7 .byte, interfaces := #[5, 6], accessFlags := 1041 }

/-- the primitive int -/
def k9 : Class := { plain "int" none with kind := .primitive 'I', accessFlags := 0x411 }
/-- [I -/
def k10 : Class := { plain "[I" (some 0) with kind := .array 9 .int, interfaces := #[5, 6], accessFlags := 1041 }

/-- the primitive long -/
def k11 : Class := { plain "long" none with kind := .primitive 'J', accessFlags := 0x411 }
/-- [J -/
def k12 : Class := { plain "[J" (some 0) with kind := .array 11 .long, interfaces := #[5, 6], accessFlags := 1041 }

def heap : Heap := #[]
def classes : Array Class := #[k0, k1, k2, k3, k4, k5, k6, k7, k8, k9, k10, k11, k12]
def interned : List (Array UInt16 × Addr) := []
def slotsUsed : Nat := 0
def theMethod : MethodId := ⟨1, 1⟩
def args0 : Array Value := #[.int 5, .long 300, .long 7, .long 8, .long 9, .long 10]
def aboutOver (below : List Frame) : State where
  vm := { classes := classes, interned := interned.toArray }
  heap := heap
  slotsUsed := slotsUsed
  threads := #[{ frames := .invoking theMethod args0 :: below }]
def below0 : List Frame := [.native { method := ⟨0, 0⟩, args := #[] }]
def about1 : State := aboutOver below0
def p0 : Program := .bare "" "" ""
def e0 : Env := launch0.env 0 0 0
theorem w_frames : about1.frames = Frame.invoking theMethod args0 :: below0 := rfl
set_option maxRecDepth 65536 in
theorem w_args : argsFit about1.vm theMethod args0 = true := by decide +kernel
set_option maxRecDepth 65536 in
theorem w_heap : heapFits about1 = true := by decide +kernel
set_option maxRecDepth 65536 in
theorem w_runnable : about1.curStatus? = some .runnable := by decide +kernel
set_option maxRecDepth 65536 in
theorem w_alone : about1.alone = true := by decide +kernel
set_option maxRecDepth 65536 in
theorem w_named : about1.methodNamed? x = some theMethod := by decide +kernel
set_option maxRecDepth 65536 in
theorem w_hears : about1.hears theMethod below0 = true := by decide +kernel
set_option maxRecDepth 65536 in
theorem w_ripe : about1.ripe theMethod args0 below0 = true := by decide +kernel
theorem w_running : about1.status = .running := rfl
set_option maxRecDepth 65536 in
theorem w_room : about1.hasRoom e0.platform room_1 = true :=
  launch0.hasRoom_least _ room_1 (by decide +kernel) (by decide +kernel) (by decide +kernel) (by decide +kernel) (by decide +kernel) (by decide +kernel)
theorem allAtoms_all (ts : List Jvm.Cond) (a : Array Jvm.Value) (st : Jvm.State) : (allAtoms ts).before a st = ts.all (fun c => c.before a st) := by
  induction ts with
  | nil => rfl
  | cons c t ih =>
    show (Jvm.Cond.and c (allAtoms t)).before a st = _
    rw [Jvm.Cond.before_and, ih, List.all_cons]
def words1 : List Jvm.Cond := Jvm.Cond.code x code maxLocals ret :: tables_1
/-- a 'code' word, met by the world's own term for the bytes: nothing is compared byte by byte -/
theorem code_word {y : MethodName} {bytes : ByteArray} {mx : Nat} {rt : Option FieldType} {a : Array Value} {s : State} {m : MethodId} {meth : Method} {c : Code} (h1 : s.methodNamed? y = some m) (h2 : s.vm.method? m = some meth) (h3 : meth.code = some c) (h4 : c.code = bytes)
    (h5 : (c.maxLocals == mx && c.exceptionTable.isEmpty && decide (c.maxStack ≤ mostOperands) && decide (meth.sig.returnType = rt) && !meth.locks && decide (parseMethodDescriptor y.desc = some meth.sig)) = true) : (Jvm.Cond.code y bytes mx rt).before a s = true := by
  simp only [Bool.and_eq_true, beq_iff_eq, Bool.not_eq_true', decide_eq_true_eq] at h5
  obtain ⟨⟨⟨⟨⟨g1, g2⟩, g3⟩, g4⟩, g5⟩, g6⟩ := h5
  simp [Cond.before, Cond.holds, Cond.value, h1, h2, h3, h4, g1, g2, g3, g4, g5, g6]
def isCode : Jvm.Cond → Bool
  | .code _ _ _ _ => true
  | _ => false
theorem all_split {L : List Jvm.Cond} {P : Jvm.Cond → Bool} (h1 : L.all (fun c => isCode c || P c) = true) (h2 : ∀ c ∈ L.filter isCode, P c = true) : L.all P = true := by
  refine List.all_eq_true.mpr fun c hc => ?_
  have h := List.all_eq_true.mp h1 c hc
  rcases Bool.eq_false_or_eq_true (isCode c) with hi | hi
  · exact h2 c (List.mem_filter.mpr ⟨hc, hi⟩)
  · simpa [hi] using h
set_option maxRecDepth 65536 in
theorem w_c0 : (Jvm.Cond.code x code maxLocals ret).before args0 about1 = true := code_word (m := ⟨1, 1⟩) (meth := k1m1) (c := k1c1) (by decide +kernel) rfl rfl rfl (by decide +kernel)
set_option maxRecDepth 65536 in
theorem w_c1 : (Jvm.Cond.code ({ cls := "leafpress/HuffmanCodeBitsPinLaw", name := "small", desc := "(J)J" } : Jvm.MethodName) method_3_code (2 : Nat) (Option.some Jvm.ClassFile.FieldType.long)).before args0 about1 = true := code_word (m := ⟨1, 2⟩) (meth := k1m2) (c := k1c2) (by decide +kernel) rfl rfl rfl (by decide +kernel)
set_option maxRecDepth 65536 in
theorem w_c2 : (Jvm.Cond.code ({ cls := "leafpress/HuffmanCode", name := "<init>", desc := "()V" } : Jvm.MethodName) prog_31_method_2_code (1 : Nat) (Option.none : Option Jvm.ClassFile.FieldType)).before args0 about1 = true := code_word (m := ⟨2, 0⟩) (meth := k2m0) (c := k2c0) (by decide +kernel) rfl rfl rfl (by decide +kernel)
set_option maxRecDepth 65536 in
theorem w_c3 : (Jvm.Cond.code ({ cls := "java/lang/Object", name := "<init>", desc := "()V" } : Jvm.MethodName) object_method_1_code (1 : Nat) (Option.none : Option Jvm.ClassFile.FieldType)).before args0 about1 = true := code_word (m := ⟨0, 0⟩) (meth := k0m0) (c := k0c0) (by decide +kernel) rfl rfl rfl (by decide +kernel)
set_option maxRecDepth 65536 in
theorem w_c4 : (Jvm.Cond.code ({ cls := "java/util/Arrays", name := "fill", desc := "([BIIB)V" } : Jvm.MethodName) jdk_65_method_110_code (5 : Nat) (Option.none : Option Jvm.ClassFile.FieldType)).before args0 about1 = true := code_word (m := ⟨3, 3⟩) (meth := k3m3) (c := k3c3) (by decide +kernel) rfl rfl rfl (by decide +kernel)
set_option maxRecDepth 65536 in
theorem w_c5 : (Jvm.Cond.code ({ cls := "java/util/Arrays", name := "rangeCheck", desc := "(III)V" } : Jvm.MethodName) jdk_65_method_30_code (3 : Nat) (Option.none : Option Jvm.ClassFile.FieldType)).before args0 about1 = true := code_word (m := ⟨3, 1⟩) (meth := k3m1) (c := k3c1) (by decide +kernel) rfl rfl rfl (by decide +kernel)
set_option maxRecDepth 65536 in
theorem w_c6 : (Jvm.Cond.code ({ cls := "leafpress/HuffmanCode", name := "fill", desc := "([II[I)V" } : Jvm.MethodName) prog_31_method_3_code (5 : Nat) (Option.none : Option Jvm.ClassFile.FieldType)).before args0 about1 = true := code_word (m := ⟨2, 1⟩) (meth := k2m1) (c := k2c1) (by decide +kernel) rfl rfl rfl (by decide +kernel)
set_option maxRecDepth 65536 in
theorem w_c7 : (Jvm.Cond.code ({ cls := "java/util/Arrays", name := "fill", desc := "([II)V" } : Jvm.MethodName) jdk_65_method_103_code (4 : Nat) (Option.none : Option Jvm.ClassFile.FieldType)).before args0 about1 = true := code_word (m := ⟨3, 2⟩) (meth := k3m2) (c := k3c2) (by decide +kernel) rfl rfl rfl (by decide +kernel)
set_option maxRecDepth 65536 in
theorem w_c8 : (Jvm.Cond.code ({ cls := "leafpress/HuffmanCode", name := "count", desc := "([II[I[I)I" } : Jvm.MethodName) prog_31_method_7_code (9 : Nat) (Option.some Jvm.ClassFile.FieldType.int)).before args0 about1 = true := code_word (m := ⟨2, 4⟩) (meth := k2m4) (c := k2c4) (by decide +kernel) rfl rfl rfl (by decide +kernel)
set_option maxRecDepth 65536 in
theorem w_c9 : (Jvm.Cond.code ({ cls := "java/lang/Math", name := "max", desc := "(II)I" } : Jvm.MethodName) jdk_29_method_65_code (2 : Nat) (Option.some Jvm.ClassFile.FieldType.int)).before args0 about1 = true := code_word (m := ⟨4, 1⟩) (meth := k4m1) (c := k4c1) (by decide +kernel) rfl rfl rfl (by decide +kernel)
set_option maxRecDepth 65536 in
theorem w_c10 : (Jvm.Cond.code ({ cls := "leafpress/HuffmanCode", name := "checkComplete", desc := "([III)V" } : Jvm.MethodName) prog_31_method_9_code (7 : Nat) (Option.none : Option Jvm.ClassFile.FieldType)).before args0 about1 = true := code_word (m := ⟨2, 6⟩) (meth := k2m6) (c := k2c6) (by decide +kernel) rfl rfl rfl (by decide +kernel)
set_option maxRecDepth 65536 in
theorem w_c11 : (Jvm.Cond.code ({ cls := "leafpress/HuffmanCode", name := "forget", desc := "()V" } : Jvm.MethodName) prog_31_method_5_code (2 : Nat) (Option.none : Option Jvm.ClassFile.FieldType)).before args0 about1 = true := code_word (m := ⟨2, 2⟩) (meth := k2m2) (c := k2c2) (by decide +kernel) rfl rfl rfl (by decide +kernel)
set_option maxRecDepth 65536 in
theorem w_c12 : (Jvm.Cond.code ({ cls := "leafpress/HuffmanCode", name := "place", desc := "([II[II)V" } : Jvm.MethodName) prog_31_method_6_code (10 : Nat) (Option.none : Option Jvm.ClassFile.FieldType)).before args0 about1 = true := code_word (m := ⟨2, 3⟩) (meth := k2m3) (c := k2c3) (by decide +kernel) rfl rfl rfl (by decide +kernel)
set_option maxRecDepth 65536 in
theorem w_c13 : (Jvm.Cond.code ({ cls := "leafpress/HuffmanCode", name := "canonical", desc := "([II[I[II[J[I[I)V" } : Jvm.MethodName) prog_31_method_8_code (11 : Nat) (Option.none : Option Jvm.ClassFile.FieldType)).before args0 about1 = true := code_word (m := ⟨2, 5⟩) (meth := k2m5) (c := k2c5) (by decide +kernel) rfl rfl rfl (by decide +kernel)
set_option maxRecDepth 65536 in
theorem w_c14 : (Jvm.Cond.code ({ cls := "leafpress/HuffmanCode", name := "bits", desc := "([J)J" } : Jvm.MethodName) prog_31_method_17_code (5 : Nat) (Option.some Jvm.ClassFile.FieldType.long)).before args0 about1 = true := code_word (m := ⟨2, 7⟩) (meth := k2m7) (c := k2c7) (by decide +kernel) rfl rfl rfl (by decide +kernel)
def codes1 : List Jvm.Cond := [Jvm.Cond.code x code maxLocals ret, Jvm.Cond.code ({ cls := "leafpress/HuffmanCodeBitsPinLaw", name := "small", desc := "(J)J" } : Jvm.MethodName) method_3_code (2 : Nat) (Option.some Jvm.ClassFile.FieldType.long), Jvm.Cond.code ({ cls := "leafpress/HuffmanCode", name := "<init>", desc := "()V" } : Jvm.MethodName) prog_31_method_2_code (1 : Nat) (Option.none : Option Jvm.ClassFile.FieldType), Jvm.Cond.code ({ cls := "java/lang/Object", name := "<init>", desc := "()V" } : Jvm.MethodName) object_method_1_code (1 : Nat) (Option.none : Option Jvm.ClassFile.FieldType), Jvm.Cond.code ({ cls := "java/util/Arrays", name := "fill", desc := "([BIIB)V" } : Jvm.MethodName) jdk_65_method_110_code (5 : Nat) (Option.none : Option Jvm.ClassFile.FieldType), Jvm.Cond.code ({ cls := "java/util/Arrays", name := "rangeCheck", desc := "(III)V" } : Jvm.MethodName) jdk_65_method_30_code (3 : Nat) (Option.none : Option Jvm.ClassFile.FieldType), Jvm.Cond.code ({ cls := "leafpress/HuffmanCode", name := "fill", desc := "([II[I)V" } : Jvm.MethodName) prog_31_method_3_code (5 : Nat) (Option.none : Option Jvm.ClassFile.FieldType), Jvm.Cond.code ({ cls := "java/util/Arrays", name := "fill", desc := "([II)V" } : Jvm.MethodName) jdk_65_method_103_code (4 : Nat) (Option.none : Option Jvm.ClassFile.FieldType), Jvm.Cond.code ({ cls := "leafpress/HuffmanCode", name := "count", desc := "([II[I[I)I" } : Jvm.MethodName) prog_31_method_7_code (9 : Nat) (Option.some Jvm.ClassFile.FieldType.int), Jvm.Cond.code ({ cls := "java/lang/Math", name := "max", desc := "(II)I" } : Jvm.MethodName) jdk_29_method_65_code (2 : Nat) (Option.some Jvm.ClassFile.FieldType.int), Jvm.Cond.code ({ cls := "leafpress/HuffmanCode", name := "checkComplete", desc := "([III)V" } : Jvm.MethodName) prog_31_method_9_code (7 : Nat) (Option.none : Option Jvm.ClassFile.FieldType), Jvm.Cond.code ({ cls := "leafpress/HuffmanCode", name := "forget", desc := "()V" } : Jvm.MethodName) prog_31_method_5_code (2 : Nat) (Option.none : Option Jvm.ClassFile.FieldType), Jvm.Cond.code ({ cls := "leafpress/HuffmanCode", name := "place", desc := "([II[II)V" } : Jvm.MethodName) prog_31_method_6_code (10 : Nat) (Option.none : Option Jvm.ClassFile.FieldType), Jvm.Cond.code ({ cls := "leafpress/HuffmanCode", name := "canonical", desc := "([II[I[II[J[I[I)V" } : Jvm.MethodName) prog_31_method_8_code (11 : Nat) (Option.none : Option Jvm.ClassFile.FieldType), Jvm.Cond.code ({ cls := "leafpress/HuffmanCode", name := "bits", desc := "([J)J" } : Jvm.MethodName) prog_31_method_17_code (5 : Nat) (Option.some Jvm.ClassFile.FieldType.long)]
set_option maxRecDepth 65536 in
theorem codes_eq : words1.filter isCode = codes1 := rfl
theorem w_codes : ∀ c ∈ words1.filter isCode, c.before args0 about1 = true := by
  rw [codes_eq]
  intro c hc
  simp only [codes1, List.mem_cons, List.not_mem_nil, or_false] at hc
  rcases hc with rfl | rfl | rfl | rfl | rfl | rfl | rfl | rfl | rfl | rfl | rfl | rfl | rfl | rfl | rfl
  · exact w_c0
  · exact w_c1
  · exact w_c2
  · exact w_c3
  · exact w_c4
  · exact w_c5
  · exact w_c6
  · exact w_c7
  · exact w_c8
  · exact w_c9
  · exact w_c10
  · exact w_c11
  · exact w_c12
  · exact w_c13
  · exact w_c14
set_option maxRecDepth 65536 in
theorem w_t1 : (words1.take 24).all (fun c => isCode c || c.before args0 about1) = true := by decide +kernel
set_option maxRecDepth 65536 in
theorem w_t2 : ((words1.drop 24).take 24).all (fun c => isCode c || c.before args0 about1) = true := by decide +kernel
set_option maxRecDepth 65536 in
theorem w_t3 : (((words1.drop 24).drop 24).take 24).all (fun c => isCode c || c.before args0 about1) = true := by decide +kernel
set_option maxRecDepth 65536 in
theorem w_t4 : (((words1.drop 24).drop 24).drop 24).all (fun c => isCode c || c.before args0 about1) = true := by decide +kernel
theorem w_tables : (allAtoms (Jvm.Cond.code x code maxLocals ret :: tables_1)).before args0 about1 = true := by
  rw [allAtoms_all]
  show words1.all (fun c => c.before args0 about1) = true
  refine all_split ?_ w_codes
  rw [← List.take_append_drop 24 words1, List.all_append, w_t1, ← List.take_append_drop 24 (words1.drop 24), List.all_append, w_t2, ← List.take_append_drop 24 ((words1.drop 24).drop 24), List.all_append, w_t3, w_t4]
  rfl
set_option maxRecDepth 65536 in
theorem w_case : (Jvm.Cond.and given_1 narrow_1).before args0 about1 = true := by decide +kernel
theorem w_applies : (headSpec (Jvm.Cond.code x code maxLocals ret :: tables_1) room_1).applies x e0.platform about1 = true :=
  (Spec.applies_iff w_frames).mpr ⟨w_running, w_runnable, w_alone, w_named, w_hears, w_ripe, w_room, w_tables⟩
theorem atStart : AtStart classFile x code maxLocals ret World_1 tables_1 room_1 Calls_1 rest_1 Pre_1 launch0 p0 e0 about1 theMethod args0 below0 :=
  ⟨lists_1, trivial, launch0.admits_env _ _ _, launch0.least_env, fairChoices_fair.cas, fairChoices_fair.clock, w_frames, w_args, w_heap, w_applies, trivial, trivial, w_case⟩
end start1
theorem witness_1 : WitnessClaimed_1 := ⟨start1.p0, start1.e0, start1.about1, start1.theMethod, start1.args0, start1.below0, start1.atStart⟩
end Jvm.Pilot.@@N@@
