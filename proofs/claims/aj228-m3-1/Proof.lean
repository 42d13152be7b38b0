import JvmDerived
import JvmDerived.Pilot.@@N@@Statement
import JvmDerived.Pilot.@@N@@Code
set_option linter.unusedVariables false
set_option linter.unusedSimpArgs false
@@BLOCK:NumsL.lean.txt@@
namespace Jvm.Pilot.@@N@@
open Jvm Jvm.ClassFile Sem Op Lib Jvm.Free Jvm.Stand Jvm.LawKit Jvm.RoadKit Bundle Jvm.Pilot.@@N@@.Jvm.D
/-! ## The walk layer: where a walk stands (On), what is fixed in it (Cx), the goal (Gl), a method's contract (Con) -/
def On (p : Program) (l : Launch) (e : Env) (R : Room) (s : State) (m : MethodId) (args : Array Value) (below : List Frame) (meth : Method) (c : Code) (n0 : Nat) (T : State) (h : Heap) (k n : Nat) : Prop :=
  ∃ locs, Stand p l e R s m args below meth c T locs k n ∧ Fr n0 locs ∧ T.heap = h
def Cx (p : Program) (s : State) (m : MethodId) (meth : Method) (c : Code) (Z : State) (own name : String) (cod : ByteArray) (maxL : Nat) (ret : Option FieldType) : Prop :=
  p.tables.exec = Jvm.exec ∧ Z.Warmed39 s.vm ∧ c.code = cod ∧ c.maxLocals = maxL ∧ s.vm.findClass own = some m.cls ∧ meth.name = name ∧ meth.sig.returnType = ret ∧ meth.locks = false
def Gl (p : Program) (e : Env) (below : List Frame) (s : State) (R : Room) (n0 : Nat) (Q : Option Value → Heap → Prop) (T : State) (g : JFrame) : Prop :=
  ∃ s₂ o, Steps p.tables e below (T.setTop g) s₂ ∧ s₂.status = .running ∧ Ended s₂ below o ∧ ∃ v L, o = .returned v ∧ (Q v s₂.heap ∧ Fr n0 L) ∧ FrameEnd s o s₂ L R.cells R.slots
def Con (l : Launch) (Z : State) (y : MethodName) (cod : ByteArray) (maxL : Nat) (ret : Option FieldType) (rm : Room) (as : Array Value) (h0 : Heap) (n0 : Nat) (Q : Option Value → Heap → Prop) : Prop :=
  ∀ ws, MetFree l y (head1 (Jvm.Cond.code y cod maxL ret :: ws) rm) (fun a U => a = as ∧ Z.Warmed39 U.vm ∧ U.heap = h0) (fun _ _ _ _ _ => True) (fun _ U o U' => ∃ v L, o = .returned v ∧ (Q v U'.heap ∧ Fr n0 L) ∧ FrameEnd U o U' L rm.cells rm.slots)
section OwnKit
variable {p : Program} {l : Launch} {e : Env} {R : Room} {s : State} {m : MethodId} {args : Array Value} {below : List Frame} {meth : Method} {c : Code} {Z : State} {a0 : Array Value} {n0 : Nat} {T : State} {h h' h0 : Heap} {k n : Nat} {own name : String} {cod : ByteArray} {maxL : Nat} {ret : Option FieldType} {Q : Option Value → Heap → Prop} {pc pc' pf : Nat} {L L' : Array Slot} {r : List Value} {a b : Addr}
theorem Gl.st {T' : State} {g g' : JFrame} (kk : Gl p e below s R n0 Q T' g') (hs : ∀ t, Steps p.tables e below (T'.setTop g') t → Steps p.tables e below (T.setTop g) t) : Gl p e below s R n0 Q T g := by
  obtain ⟨s2, o, h1, q⟩ := kk; exact ⟨s2, o, hs _ h1, q⟩
theorem Con.of {y : MethodName} {rm : Room} {as : Array Value} (hpl : plainFor y = true) {L0 : Array Slot} (hef : ∀ m, entryFrame m as maxL = mkF m 0 L0 [])
    (body : ∀ (p : Program) (e : Env) (s : State) (m : MethodId) (below : List Frame) (meth : Method) (c : Code) (T : State), Cx p s m meth c Z y.cls y.name cod maxL ret → On p l e rm s m as below meth c n0 T h0 0 0 → Gl p e below s rm n0 Q T (mkF m 0 L0 [])) :
    Con l Z y cod maxL ret rm as h0 n0 Q := by
  intro ws
  refine MetFree.of_bodySF hpl hisR ?_
  intro p e s m args below meth c s₁ Bd hml0 hP hK
  obtain ⟨rfl, hZ, hh⟩ := hP
  have e0 : s₁.heap = h0 := by rw [← hh, Bd.state]; rfl
  have q := body p e s m below meth c s₁ ⟨Bd.exec, hZ, Bd.bytes, hml0, findClass_of_methodNamed Bd.named, (name_of_methodNamed Bd.named Bd.method).1, Bd.returns, Bd.notSynchronized⟩ ⟨[], Stand.of_body Bd, Fr.nil n0, e0⟩
  rw [← hef m] at q
  exact q
theorem Con.imp {y : MethodName} {rm : Room} {as : Array Value} {Q' : Option Value → Heap → Prop} (K : Con l Z y cod maxL ret rm as h0 n0 Q) (hq : ∀ v h, Q v h → Q' v h) : Con l Z y cod maxL ret rm as h0 n0 Q' := by
  intro ws p e ha hc hk s m args below hf happ hP hK
  obtain ⟨n, o, h1, h2, h3, v, L, h4, ⟨h5, h6⟩, h7⟩ := K ws p e ha hc hk s m args below hf happ hP hK
  exact ⟨n, o, h1, h2, h3, v, L, h4, ⟨hq _ _ h5, h6⟩, h7⟩
theorem g_iload (C : Cx p s m meth c Z own name cod maxL ret) (S : On p l e R s m args below meth c n0 T h k n) {i : Nat} {v : Int32} (hd : decode cod pc = .ok (.iload i, 2)) (hp : pc + 2 = pc') (hl : L[i]? = some (.val (.int v))) (kk : Gl p e below s R n0 Q T (mkF m pc' L (.int v :: r))) : Gl p e below s R n0 Q T (mkF m pc L r) := by
  obtain ⟨locs, X, -⟩ := S; subst hp
  exact kk.st fun _ q => XS.iload X.here C.1 rfl (hb C.2.2.1 hd) hl q
theorem g_iloadN (C : Cx p s m meth c Z own name cod maxL ret) (S : On p l e R s m args below meth c n0 T h k n) {i : Fin 4} {v : Int32} (hd : decode cod pc = .ok (.iload_n i, 1)) (hp : pc + 1 = pc') (hl : L[i.val]? = some (.val (.int v))) (kk : Gl p e below s R n0 Q T (mkF m pc' L (.int v :: r))) : Gl p e below s R n0 Q T (mkF m pc L r) := by
  obtain ⟨locs, X, -⟩ := S; subst hp
  exact kk.st fun _ q => XS.iloadN X.here C.1 rfl (hb C.2.2.1 hd) hl q
theorem g_istore (C : Cx p s m meth c Z own name cod maxL ret) (S : On p l e R s m args below meth c n0 T h k n) {i : Nat} {v : Int32} (hd : decode cod pc = .ok (.istore i, 2)) (hp : pc + 2 = pc') (hl : storeLocals L i (.int v) = some L') (kk : Gl p e below s R n0 Q T (mkF m pc' L' r)) : Gl p e below s R n0 Q T (mkF m pc L (.int v :: r)) := by
  obtain ⟨locs, X, -⟩ := S; subst hp
  exact kk.st fun _ q => XS.istore X.here C.1 rfl (hb C.2.2.1 hd) rfl hl q
theorem g_istoreN (C : Cx p s m meth c Z own name cod maxL ret) (S : On p l e R s m args below meth c n0 T h k n) {i : Fin 4} {v : Int32} (hd : decode cod pc = .ok (.istore_n i, 1)) (hp : pc + 1 = pc') (hl : storeLocals L i.val (.int v) = some L') (kk : Gl p e below s R n0 Q T (mkF m pc' L' r)) : Gl p e below s R n0 Q T (mkF m pc L (.int v :: r)) := by
  obtain ⟨locs, X, -⟩ := S; subst hp
  exact kk.st fun _ q => XS.istoreN X.here C.1 rfl (hb C.2.2.1 hd) rfl hl q
theorem g_lload (C : Cx p s m meth c Z own name cod maxL ret) (S : On p l e R s m args below meth c n0 T h k n) {i : Nat} {v : Int64} (hd : decode cod pc = .ok (.lload i, 2)) (hp : pc + 2 = pc') (hl : L[i]? = some (.val (.long v))) (kk : Gl p e below s R n0 Q T (mkF m pc' L (.long v :: r))) : Gl p e below s R n0 Q T (mkF m pc L r) := by
  obtain ⟨locs, X, -⟩ := S; subst hp
  exact kk.st fun _ q => XS.lload X.here C.1 rfl (hb C.2.2.1 hd) hl q
theorem g_lloadN (C : Cx p s m meth c Z own name cod maxL ret) (S : On p l e R s m args below meth c n0 T h k n) {i : Fin 4} {v : Int64} (hd : decode cod pc = .ok (.lload_n i, 1)) (hp : pc + 1 = pc') (hl : L[i.val]? = some (.val (.long v))) (kk : Gl p e below s R n0 Q T (mkF m pc' L (.long v :: r))) : Gl p e below s R n0 Q T (mkF m pc L r) := by
  obtain ⟨locs, X, -⟩ := S; subst hp
  exact kk.st fun _ q => XS.lloadN X.here C.1 rfl (hb C.2.2.1 hd) hl q
theorem g_lstore (C : Cx p s m meth c Z own name cod maxL ret) (S : On p l e R s m args below meth c n0 T h k n) {i : Nat} {v : Int64} (hd : decode cod pc = .ok (.lstore i, 2)) (hp : pc + 2 = pc') (hl : storeLocals L i (.long v) = some L') (kk : Gl p e below s R n0 Q T (mkF m pc' L' r)) : Gl p e below s R n0 Q T (mkF m pc L (.long v :: r)) := by
  obtain ⟨locs, X, -⟩ := S; subst hp
  exact kk.st fun _ q => XS.lstore X.here C.1 rfl (hb C.2.2.1 hd) rfl hl q
theorem g_lstoreN (C : Cx p s m meth c Z own name cod maxL ret) (S : On p l e R s m args below meth c n0 T h k n) {i : Fin 4} {v : Int64} (hd : decode cod pc = .ok (.lstore_n i, 1)) (hp : pc + 1 = pc') (hl : storeLocals L i.val (.long v) = some L') (kk : Gl p e below s R n0 Q T (mkF m pc' L' r)) : Gl p e below s R n0 Q T (mkF m pc L (.long v :: r)) := by
  obtain ⟨locs, X, -⟩ := S; subst hp
  exact kk.st fun _ q => XS.lstoreN X.here C.1 rfl (hb C.2.2.1 hd) rfl hl q
theorem g_aload (C : Cx p s m meth c Z own name cod maxL ret) (S : On p l e R s m args below meth c n0 T h k n) {i : Nat} {v : Value} (hd : decode cod pc = .ok (.aload i, 2)) (hp : pc + 2 = pc') (hl : L[i]? = some (.val v)) (hv : v.isRef = true) (kk : Gl p e below s R n0 Q T (mkF m pc' L (v :: r))) : Gl p e below s R n0 Q T (mkF m pc L r) := by
  obtain ⟨locs, X, -⟩ := S; subst hp
  exact kk.st fun _ q => XS.aload X.here C.1 rfl (hb C.2.2.1 hd) hl hv q
theorem g_aloadN (C : Cx p s m meth c Z own name cod maxL ret) (S : On p l e R s m args below meth c n0 T h k n) {i : Fin 4} {v : Value} (hd : decode cod pc = .ok (.aload_n i, 1)) (hp : pc + 1 = pc') (hl : L[i.val]? = some (.val v)) (hv : v.isRef = true) (kk : Gl p e below s R n0 Q T (mkF m pc' L (v :: r))) : Gl p e below s R n0 Q T (mkF m pc L r) := by
  obtain ⟨locs, X, -⟩ := S; subst hp
  exact kk.st fun _ q => XS.aloadN X.here C.1 rfl (hb C.2.2.1 hd) hl hv q
theorem g_astore (C : Cx p s m meth c Z own name cod maxL ret) (S : On p l e R s m args below meth c n0 T h k n) {i : Nat} {v : Value} (hd : decode cod pc = .ok (.astore i, 2)) (hp : pc + 2 = pc') (hv : v.isRef = true) (hl : storeLocals L i v = some L') (kk : Gl p e below s R n0 Q T (mkF m pc' L' r)) : Gl p e below s R n0 Q T (mkF m pc L (v :: r)) := by
  obtain ⟨locs, X, -⟩ := S; subst hp
  exact kk.st fun _ q => XS.astore X.here C.1 rfl (hb C.2.2.1 hd) rfl hv hl q
theorem g_astoreN (C : Cx p s m meth c Z own name cod maxL ret) (S : On p l e R s m args below meth c n0 T h k n) {i : Fin 4} {v : Value} (hd : decode cod pc = .ok (.astore_n i, 1)) (hp : pc + 1 = pc') (hv : v.isRef = true) (hl : storeLocals L i.val v = some L') (kk : Gl p e below s R n0 Q T (mkF m pc' L' r)) : Gl p e below s R n0 Q T (mkF m pc L (v :: r)) := by
  obtain ⟨locs, X, -⟩ := S; subst hp
  exact kk.st fun _ q => XS.astoreN X.here C.1 rfl (hb C.2.2.1 hd) rfl hv hl q
theorem g_iconst (C : Cx p s m meth c Z own name cod maxL ret) (S : On p l e R s m args below meth c n0 T h k n) {i : Int} (v : Int32) (hd : decode cod pc = .ok (.iconst i, 1)) (hp : pc + 1 = pc') (hv : Int32.ofInt i = v) (kk : Gl p e below s R n0 Q T (mkF m pc' L (.int v :: r))) : Gl p e below s R n0 Q T (mkF m pc L r) := by
  obtain ⟨locs, X, -⟩ := S; subst hp hv
  exact kk.st fun _ q => XS.iconst X.here C.1 rfl (hb C.2.2.1 hd) q
theorem g_bipush (C : Cx p s m meth c Z own name cod maxL ret) (S : On p l e R s m args below meth c n0 T h k n) {i : Int} (v : Int32) (hd : decode cod pc = .ok (.bipush i, 2)) (hp : pc + 2 = pc') (hv : (Int8.ofInt i).toInt32 = v) (kk : Gl p e below s R n0 Q T (mkF m pc' L (.int v :: r))) : Gl p e below s R n0 Q T (mkF m pc L r) := by
  obtain ⟨locs, X, -⟩ := S; subst hp hv
  exact kk.st fun _ q => XS.bipush X.here C.1 rfl (hb C.2.2.1 hd) q
theorem g_sipush (C : Cx p s m meth c Z own name cod maxL ret) (S : On p l e R s m args below meth c n0 T h k n) {i : Int} (v : Int32) (hd : decode cod pc = .ok (.sipush i, 3)) (hp : pc + 3 = pc') (hv : (Int16.ofInt i).toInt32 = v) (kk : Gl p e below s R n0 Q T (mkF m pc' L (.int v :: r))) : Gl p e below s R n0 Q T (mkF m pc L r) := by
  obtain ⟨locs, X, -⟩ := S; subst hp hv
  exact kk.st fun _ q => XS.sipush X.here C.1 rfl (hb C.2.2.1 hd) q
theorem g_lconst (C : Cx p s m meth c Z own name cod maxL ret) (S : On p l e R s m args below meth c n0 T h k n) {i : Fin 2} (v : Int64) (hd : decode cod pc = .ok (.lconst i, 1)) (hp : pc + 1 = pc') (hv : Int64.ofNat i = v) (kk : Gl p e below s R n0 Q T (mkF m pc' L (.long v :: r))) : Gl p e below s R n0 Q T (mkF m pc L r) := by
  obtain ⟨locs, X, -⟩ := S; subst hp hv
  exact kk.st fun _ q => XS.lconst X.here C.1 rfl (hb C.2.2.1 hd) q
theorem g_aconst_null (C : Cx p s m meth c Z own name cod maxL ret) (S : On p l e R s m args below meth c n0 T h k n) (hd : decode cod pc = .ok (.aconst_null, 1)) (hp : pc + 1 = pc') (kk : Gl p e below s R n0 Q T (mkF m pc' L (.null :: r))) : Gl p e below s R n0 Q T (mkF m pc L r) := by
  obtain ⟨locs, X, -⟩ := S; subst hp
  exact kk.st fun _ q => XS.aconstNull X.here C.1 rfl (hb C.2.2.1 hd) q
theorem g_iadd (C : Cx p s m meth c Z own name cod maxL ret) (S : On p l e R s m args below meth c n0 T h k n) {x y : Int32} (hd : decode cod pc = .ok (.iadd, 1)) (hp : pc + 1 = pc') (kk : Gl p e below s R n0 Q T (mkF m pc' L (.int (x + y) :: r))) : Gl p e below s R n0 Q T (mkF m pc L (.int y :: .int x :: r)) := by
  obtain ⟨locs, X, -⟩ := S; subst hp
  exact kk.st fun _ q => XS.iadd X.here C.1 rfl (hb C.2.2.1 hd) rfl q
theorem g_isub (C : Cx p s m meth c Z own name cod maxL ret) (S : On p l e R s m args below meth c n0 T h k n) {x y : Int32} (hd : decode cod pc = .ok (.isub, 1)) (hp : pc + 1 = pc') (kk : Gl p e below s R n0 Q T (mkF m pc' L (.int (x - y) :: r))) : Gl p e below s R n0 Q T (mkF m pc L (.int y :: .int x :: r)) := by
  obtain ⟨locs, X, -⟩ := S; subst hp
  exact kk.st fun _ q => XS.isub X.here C.1 rfl (hb C.2.2.1 hd) rfl q
theorem g_imul (C : Cx p s m meth c Z own name cod maxL ret) (S : On p l e R s m args below meth c n0 T h k n) {x y : Int32} (hd : decode cod pc = .ok (.imul, 1)) (hp : pc + 1 = pc') (kk : Gl p e below s R n0 Q T (mkF m pc' L (.int (x * y) :: r))) : Gl p e below s R n0 Q T (mkF m pc L (.int y :: .int x :: r)) := by
  obtain ⟨locs, X, -⟩ := S; subst hp
  exact kk.st fun _ q => XS.imul X.here C.1 rfl (hb C.2.2.1 hd) rfl q
theorem g_iand (C : Cx p s m meth c Z own name cod maxL ret) (S : On p l e R s m args below meth c n0 T h k n) {x y : Int32} (hd : decode cod pc = .ok (.iand, 1)) (hp : pc + 1 = pc') (kk : Gl p e below s R n0 Q T (mkF m pc' L (.int (x &&& y) :: r))) : Gl p e below s R n0 Q T (mkF m pc L (.int y :: .int x :: r)) := by
  obtain ⟨locs, X, -⟩ := S; subst hp
  exact kk.st fun _ q => XS.iand X.here C.1 rfl (hb C.2.2.1 hd) rfl q
theorem g_ior (C : Cx p s m meth c Z own name cod maxL ret) (S : On p l e R s m args below meth c n0 T h k n) {x y : Int32} (hd : decode cod pc = .ok (.ior, 1)) (hp : pc + 1 = pc') (kk : Gl p e below s R n0 Q T (mkF m pc' L (.int (x ||| y) :: r))) : Gl p e below s R n0 Q T (mkF m pc L (.int y :: .int x :: r)) := by
  obtain ⟨locs, X, -⟩ := S; subst hp
  exact kk.st fun _ q => XS.ior X.here C.1 rfl (hb C.2.2.1 hd) rfl q
theorem g_ixor (C : Cx p s m meth c Z own name cod maxL ret) (S : On p l e R s m args below meth c n0 T h k n) {x y : Int32} (hd : decode cod pc = .ok (.ixor, 1)) (hp : pc + 1 = pc') (kk : Gl p e below s R n0 Q T (mkF m pc' L (.int (x ^^^ y) :: r))) : Gl p e below s R n0 Q T (mkF m pc L (.int y :: .int x :: r)) := by
  obtain ⟨locs, X, -⟩ := S; subst hp
  exact kk.st fun _ q => XS.ixor X.here C.1 rfl (hb C.2.2.1 hd) rfl q
theorem g_ladd (C : Cx p s m meth c Z own name cod maxL ret) (S : On p l e R s m args below meth c n0 T h k n) {x y : Int64} (hd : decode cod pc = .ok (.ladd, 1)) (hp : pc + 1 = pc') (kk : Gl p e below s R n0 Q T (mkF m pc' L (.long (x + y) :: r))) : Gl p e below s R n0 Q T (mkF m pc L (.long y :: .long x :: r)) := by
  obtain ⟨locs, X, -⟩ := S; subst hp
  exact kk.st fun _ q => XS.ladd X.here C.1 rfl (hb C.2.2.1 hd) rfl q
theorem g_lsub (C : Cx p s m meth c Z own name cod maxL ret) (S : On p l e R s m args below meth c n0 T h k n) {x y : Int64} (hd : decode cod pc = .ok (.lsub, 1)) (hp : pc + 1 = pc') (kk : Gl p e below s R n0 Q T (mkF m pc' L (.long (x - y) :: r))) : Gl p e below s R n0 Q T (mkF m pc L (.long y :: .long x :: r)) := by
  obtain ⟨locs, X, -⟩ := S; subst hp
  exact kk.st fun _ q => XS.lsub X.here C.1 rfl (hb C.2.2.1 hd) rfl q
theorem g_lmul (C : Cx p s m meth c Z own name cod maxL ret) (S : On p l e R s m args below meth c n0 T h k n) {x y : Int64} (hd : decode cod pc = .ok (.lmul, 1)) (hp : pc + 1 = pc') (kk : Gl p e below s R n0 Q T (mkF m pc' L (.long (x * y) :: r))) : Gl p e below s R n0 Q T (mkF m pc L (.long y :: .long x :: r)) := by
  obtain ⟨locs, X, -⟩ := S; subst hp
  exact kk.st fun _ q => XS.lmul X.here C.1 rfl (hb C.2.2.1 hd) rfl q
theorem g_land (C : Cx p s m meth c Z own name cod maxL ret) (S : On p l e R s m args below meth c n0 T h k n) {x y : Int64} (hd : decode cod pc = .ok (.land, 1)) (hp : pc + 1 = pc') (kk : Gl p e below s R n0 Q T (mkF m pc' L (.long (x &&& y) :: r))) : Gl p e below s R n0 Q T (mkF m pc L (.long y :: .long x :: r)) := by
  obtain ⟨locs, X, -⟩ := S; subst hp
  exact kk.st fun _ q => XS.land X.here C.1 rfl (hb C.2.2.1 hd) rfl q
theorem g_lor (C : Cx p s m meth c Z own name cod maxL ret) (S : On p l e R s m args below meth c n0 T h k n) {x y : Int64} (hd : decode cod pc = .ok (.lor, 1)) (hp : pc + 1 = pc') (kk : Gl p e below s R n0 Q T (mkF m pc' L (.long (x ||| y) :: r))) : Gl p e below s R n0 Q T (mkF m pc L (.long y :: .long x :: r)) := by
  obtain ⟨locs, X, -⟩ := S; subst hp
  exact kk.st fun _ q => XS.lor X.here C.1 rfl (hb C.2.2.1 hd) rfl q
theorem g_lxor (C : Cx p s m meth c Z own name cod maxL ret) (S : On p l e R s m args below meth c n0 T h k n) {x y : Int64} (hd : decode cod pc = .ok (.lxor, 1)) (hp : pc + 1 = pc') (kk : Gl p e below s R n0 Q T (mkF m pc' L (.long (x ^^^ y) :: r))) : Gl p e below s R n0 Q T (mkF m pc L (.long y :: .long x :: r)) := by
  obtain ⟨locs, X, -⟩ := S; subst hp
  exact kk.st fun _ q => XS.lxor X.here C.1 rfl (hb C.2.2.1 hd) rfl q
theorem g_ishl (C : Cx p s m meth c Z own name cod maxL ret) (S : On p l e R s m args below meth c n0 T h k n) {x y : Int32} (hd : decode cod pc = .ok (.ishl, 1)) (hp : pc + 1 = pc') (kk : Gl p e below s R n0 Q T (mkF m pc' L (.int (x <<< (y &&& 31)) :: r))) : Gl p e below s R n0 Q T (mkF m pc L (.int y :: .int x :: r)) := by
  obtain ⟨locs, X, -⟩ := S; subst hp
  exact kk.st fun _ q => XS.ishl X.here C.1 rfl (hb C.2.2.1 hd) rfl q
theorem g_ishr (C : Cx p s m meth c Z own name cod maxL ret) (S : On p l e R s m args below meth c n0 T h k n) {x y : Int32} (hd : decode cod pc = .ok (.ishr, 1)) (hp : pc + 1 = pc') (kk : Gl p e below s R n0 Q T (mkF m pc' L (.int (x >>> (y &&& 31)) :: r))) : Gl p e below s R n0 Q T (mkF m pc L (.int y :: .int x :: r)) := by
  obtain ⟨locs, X, -⟩ := S; subst hp
  exact kk.st fun _ q => XS.ishr X.here C.1 rfl (hb C.2.2.1 hd) rfl q
theorem g_iushr (C : Cx p s m meth c Z own name cod maxL ret) (S : On p l e R s m args below meth c n0 T h k n) {x y : Int32} (hd : decode cod pc = .ok (.iushr, 1)) (hp : pc + 1 = pc') (kk : Gl p e below s R n0 Q T (mkF m pc' L (.int ((x.toUInt32 >>> (y &&& 31).toUInt32).toInt32) :: r))) : Gl p e below s R n0 Q T (mkF m pc L (.int y :: .int x :: r)) := by
  obtain ⟨locs, X, -⟩ := S; subst hp
  exact kk.st fun _ q => XS.iushr X.here C.1 rfl (hb C.2.2.1 hd) rfl q
theorem g_lshl (C : Cx p s m meth c Z own name cod maxL ret) (S : On p l e R s m args below meth c n0 T h k n) {x : Int64} {y : Int32} (hd : decode cod pc = .ok (.lshl, 1)) (hp : pc + 1 = pc') (kk : Gl p e below s R n0 Q T (mkF m pc' L (.long (x <<< (y &&& 0x3f).toInt64) :: r))) : Gl p e below s R n0 Q T (mkF m pc L (.int y :: .long x :: r)) := by
  obtain ⟨locs, X, -⟩ := S; subst hp
  exact kk.st fun _ q => XS.lshl X.here C.1 rfl (hb C.2.2.1 hd) rfl q
theorem g_lshr (C : Cx p s m meth c Z own name cod maxL ret) (S : On p l e R s m args below meth c n0 T h k n) {x : Int64} {y : Int32} (hd : decode cod pc = .ok (.lshr, 1)) (hp : pc + 1 = pc') (kk : Gl p e below s R n0 Q T (mkF m pc' L (.long (x >>> (y &&& 0x3f).toInt64) :: r))) : Gl p e below s R n0 Q T (mkF m pc L (.int y :: .long x :: r)) := by
  obtain ⟨locs, X, -⟩ := S; subst hp
  exact kk.st fun _ q => XS.lshr X.here C.1 rfl (hb C.2.2.1 hd) rfl q
theorem g_lushr (C : Cx p s m meth c Z own name cod maxL ret) (S : On p l e R s m args below meth c n0 T h k n) {x : Int64} {y : Int32} (hd : decode cod pc = .ok (.lushr, 1)) (hp : pc + 1 = pc') (kk : Gl p e below s R n0 Q T (mkF m pc' L (.long ((x.toUInt64 >>> (y &&& 0x3f).toInt64.toUInt64).toInt64) :: r))) : Gl p e below s R n0 Q T (mkF m pc L (.int y :: .long x :: r)) := by
  obtain ⟨locs, X, -⟩ := S; subst hp
  exact kk.st fun _ q => XS.lushr X.here C.1 rfl (hb C.2.2.1 hd) rfl q
theorem g_i2l (C : Cx p s m meth c Z own name cod maxL ret) (S : On p l e R s m args below meth c n0 T h k n) {x : Int32} (hd : decode cod pc = .ok (.i2l, 1)) (hp : pc + 1 = pc') (kk : Gl p e below s R n0 Q T (mkF m pc' L (.long (x.toInt64) :: r))) : Gl p e below s R n0 Q T (mkF m pc L (.int x :: r)) := by
  obtain ⟨locs, X, -⟩ := S; subst hp
  exact kk.st fun _ q => XS.i2l X.here C.1 rfl (hb C.2.2.1 hd) rfl q
theorem g_l2i (C : Cx p s m meth c Z own name cod maxL ret) (S : On p l e R s m args below meth c n0 T h k n) {x : Int64} (hd : decode cod pc = .ok (.l2i, 1)) (hp : pc + 1 = pc') (kk : Gl p e below s R n0 Q T (mkF m pc' L (.int (x.toInt32) :: r))) : Gl p e below s R n0 Q T (mkF m pc L (.long x :: r)) := by
  obtain ⟨locs, X, -⟩ := S; subst hp
  exact kk.st fun _ q => XS.l2i X.here C.1 rfl (hb C.2.2.1 hd) rfl q
theorem g_i2b (C : Cx p s m meth c Z own name cod maxL ret) (S : On p l e R s m args below meth c n0 T h k n) {x : Int32} (hd : decode cod pc = .ok (.i2b, 1)) (hp : pc + 1 = pc') (kk : Gl p e below s R n0 Q T (mkF m pc' L (.int (x.toInt8.toInt32) :: r))) : Gl p e below s R n0 Q T (mkF m pc L (.int x :: r)) := by
  obtain ⟨locs, X, -⟩ := S; subst hp
  exact kk.st fun _ q => XS.i2b X.here C.1 rfl (hb C.2.2.1 hd) rfl q
theorem g_i2c (C : Cx p s m meth c Z own name cod maxL ret) (S : On p l e R s m args below meth c n0 T h k n) {x : Int32} (hd : decode cod pc = .ok (.i2c, 1)) (hp : pc + 1 = pc') (kk : Gl p e below s R n0 Q T (mkF m pc' L (.int (x.toUInt32.toUInt16.toUInt32.toInt32) :: r))) : Gl p e below s R n0 Q T (mkF m pc L (.int x :: r)) := by
  obtain ⟨locs, X, -⟩ := S; subst hp
  exact kk.st fun _ q => XS.i2c X.here C.1 rfl (hb C.2.2.1 hd) rfl q
theorem g_i2s (C : Cx p s m meth c Z own name cod maxL ret) (S : On p l e R s m args below meth c n0 T h k n) {x : Int32} (hd : decode cod pc = .ok (.i2s, 1)) (hp : pc + 1 = pc') (kk : Gl p e below s R n0 Q T (mkF m pc' L (.int (x.toInt16.toInt32) :: r))) : Gl p e below s R n0 Q T (mkF m pc L (.int x :: r)) := by
  obtain ⟨locs, X, -⟩ := S; subst hp
  exact kk.st fun _ q => XS.i2s X.here C.1 rfl (hb C.2.2.1 hd) rfl q
theorem g_lneg (C : Cx p s m meth c Z own name cod maxL ret) (S : On p l e R s m args below meth c n0 T h k n) {x : Int64} (hd : decode cod pc = .ok (.lneg, 1)) (hp : pc + 1 = pc') (kk : Gl p e below s R n0 Q T (mkF m pc' L (.long (-x) :: r))) : Gl p e below s R n0 Q T (mkF m pc L (.long x :: r)) := by
  obtain ⟨locs, X, -⟩ := S; subst hp
  exact kk.st fun _ q => XS.lneg X.here C.1 rfl (hb C.2.2.1 hd) rfl q
theorem g_ineg (C : Cx p s m meth c Z own name cod maxL ret) (S : On p l e R s m args below meth c n0 T h k n) {x : Int32} (hd : decode cod pc = .ok (.ineg, 1)) (hp : pc + 1 = pc') (kk : Gl p e below s R n0 Q T (mkF m pc' L (.int (-x) :: r))) : Gl p e below s R n0 Q T (mkF m pc L (.int x :: r)) := by
  obtain ⟨locs, X, -⟩ := S; subst hp
  exact kk.st fun _ q => XS.ineg X.here C.1 rfl (hb C.2.2.1 hd) rfl q
theorem g_irem (C : Cx p s m meth c Z own name cod maxL ret) (S : On p l e R s m args below meth c n0 T h k n) {x y : Int32} (hd : decode cod pc = .ok (.irem, 1)) (hp : pc + 1 = pc') (hy : y ≠ 0) (kk : Gl p e below s R n0 Q T (mkF m pc' L (.int (x % y) :: r))) : Gl p e below s R n0 Q T (mkF m pc L (.int y :: .int x :: r)) := by
  obtain ⟨locs, X, -⟩ := S; subst hp
  exact kk.st fun _ q => iremM X C.1 rfl (hb C.2.2.1 hd) rfl hy q
theorem g_idiv (C : Cx p s m meth c Z own name cod maxL ret) (S : On p l e R s m args below meth c n0 T h k n) {x y : Int32} (hd : decode cod pc = .ok (.idiv, 1)) (hp : pc + 1 = pc') (hy : y ≠ 0) (kk : Gl p e below s R n0 Q T (mkF m pc' L (.int (x / y) :: r))) : Gl p e below s R n0 Q T (mkF m pc L (.int y :: .int x :: r)) := by
  obtain ⟨locs, X, -⟩ := S; subst hp
  exact kk.st fun _ q => XS.idiv X.here C.1 rfl (hb C.2.2.1 hd) rfl hy q
theorem g_lcmp (C : Cx p s m meth c Z own name cod maxL ret) (S : On p l e R s m args below meth c n0 T h k n) {x y : Int64} (hd : decode cod pc = .ok (.lcmp, 1)) (hp : pc + 1 = pc') (kk : Gl p e below s R n0 Q T (mkF m pc' L (.int (lcmpW x y) :: r))) : Gl p e below s R n0 Q T (mkF m pc L (.long y :: .long x :: r)) := by
  obtain ⟨locs, X, -⟩ := S; subst hp
  exact kk.st fun _ q => XS.lcmp X.here C.1 rfl (hb C.2.2.1 hd) rfl q
theorem g_dup (C : Cx p s m meth c Z own name cod maxL ret) (S : On p l e R s m args below meth c n0 T h k n) {x : Value} (hd : decode cod pc = .ok (.dup, 1)) (hp : pc + 1 = pc') (hc : x.category = 1) (kk : Gl p e below s R n0 Q T (mkF m pc' L (x :: x :: r))) : Gl p e below s R n0 Q T (mkF m pc L (x :: r)) := by
  obtain ⟨locs, X, -⟩ := S; subst hp
  exact kk.st fun _ q => XS.dup X.here C.1 rfl (hb C.2.2.1 hd) rfl hc q
theorem g_pop (C : Cx p s m meth c Z own name cod maxL ret) (S : On p l e R s m args below meth c n0 T h k n) {x : Value} (hd : decode cod pc = .ok (.pop, 1)) (hp : pc + 1 = pc') (hc : x.category = 1) (kk : Gl p e below s R n0 Q T (mkF m pc' L r)) : Gl p e below s R n0 Q T (mkF m pc L (x :: r)) := by
  obtain ⟨locs, X, -⟩ := S; subst hp
  exact kk.st fun _ q => XS.pop X.here C.1 rfl (hb C.2.2.1 hd) rfl hc q
theorem g_dup_x1 (C : Cx p s m meth c Z own name cod maxL ret) (S : On p l e R s m args below meth c n0 T h k n) {x y : Value} (hd : decode cod pc = .ok (.dup_x1, 1)) (hp : pc + 1 = pc') (hc : x.category = 1) (hc2 : y.category = 1) (kk : Gl p e below s R n0 Q T (mkF m pc' L (x :: y :: x :: r))) : Gl p e below s R n0 Q T (mkF m pc L (x :: y :: r)) := by
  obtain ⟨locs, X, -⟩ := S; subst hp
  exact kk.st fun _ q => XS.dupX1 X.here C.1 rfl (hb C.2.2.1 hd) rfl hc hc2 q
theorem g_dup2 (C : Cx p s m meth c Z own name cod maxL ret) (S : On p l e R s m args below meth c n0 T h k n) {x y : Value} (hd : decode cod pc = .ok (.dup2, 1)) (hp : pc + 1 = pc') (hc : x.category = 1) (hc2 : y.category = 1) (kk : Gl p e below s R n0 Q T (mkF m pc' L (x :: y :: x :: y :: r))) : Gl p e below s R n0 Q T (mkF m pc L (x :: y :: r)) := by
  obtain ⟨locs, X, -⟩ := S; subst hp
  exact kk.st fun _ q => XT.dup2 X.here C.1 rfl (hb C.2.2.1 hd) rfl hc hc2 q
theorem g_dup_x2 (C : Cx p s m meth c Z own name cod maxL ret) (S : On p l e R s m args below meth c n0 T h k n) {x y z : Value} (hd : decode cod pc = .ok (.dup_x2, 1)) (hp : pc + 1 = pc') (hc : x.category = 1) (hc2 : y.category = 1) (hc3 : z.category = 1) (kk : Gl p e below s R n0 Q T (mkF m pc' L (x :: y :: z :: x :: r))) : Gl p e below s R n0 Q T (mkF m pc L (x :: y :: z :: r)) := by
  obtain ⟨locs, X, -⟩ := S; subst hp
  refine kk.st fun _ q => ?_
  have hx := C.1; have hd' := hb C.2.2.1 hd
  jvm_step X.here [X.here.top, hx, hd', hc, hc2, hc3]
  exact q
theorem g_iinc (C : Cx p s m meth c Z own name cod maxL ret) (S : On p l e R s m args below meth c n0 T h k n) {i : Nat} {cst : Int} {x : Int32} (v : Int32) (hd : decode cod pc = .ok (.iinc i cst, 3)) (hp : pc + 3 = pc') (hv : Int32.ofInt cst = v) (hl : L[i]? = some (.val (.int x))) (hl' : storeLocals L i (.int (x + v)) = some L') (kk : Gl p e below s R n0 Q T (mkF m pc' L' r)) : Gl p e below s R n0 Q T (mkF m pc L r) := by
  obtain ⟨locs, X, -⟩ := S; subst hp hv
  exact kk.st fun _ q => XS.iinc X.here C.1 rfl (hb C.2.2.1 hd) hl hl' q
theorem g_goto (C : Cx p s m meth c Z own name cod maxL ret) (S : On p l e R s m args below meth c n0 T h k n) {o : Int} (hd : decode cod pc = .ok (.goto o, 3)) (ho : 0 ≤ (pc : Int) + o) (hp : ((pc : Int) + o).toNat = pc') (kk : Gl p e below s R n0 Q T (mkF m pc' L r)) : Gl p e below s R n0 Q T (mkF m pc L r) := by
  obtain ⟨locs, X, -⟩ := S
  exact kk.st fun _ q => XS.goto X.here C.1 rfl rfl (hb C.2.2.1 hd) ho hp q
theorem g_dload (C : Cx p s m meth c Z own name cod maxL ret) (S : On p l e R s m args below meth c n0 T h k n) {i : Nat} {v : UInt64} (hd : decode cod pc = .ok (.dload i, 2)) (hp : pc + 2 = pc') (hl : L[i]? = some (.val (.double v))) (kk : Gl p e below s R n0 Q T (mkF m pc' L (.double v :: r))) : Gl p e below s R n0 Q T (mkF m pc L r) := by
  obtain ⟨locs, X, -⟩ := S; subst hp
  exact kk.st fun _ q => XS.dload X.here C.1 rfl (hb C.2.2.1 hd) hl q
theorem g_dloadN (C : Cx p s m meth c Z own name cod maxL ret) (S : On p l e R s m args below meth c n0 T h k n) {i : Fin 4} {v : UInt64} (hd : decode cod pc = .ok (.dload_n i, 1)) (hp : pc + 1 = pc') (hl : L[i.val]? = some (.val (.double v))) (kk : Gl p e below s R n0 Q T (mkF m pc' L (.double v :: r))) : Gl p e below s R n0 Q T (mkF m pc L r) := by
  obtain ⟨locs, X, -⟩ := S; subst hp
  exact kk.st fun _ q => XS.dloadN X.here C.1 rfl (hb C.2.2.1 hd) hl q
theorem g_dstore (C : Cx p s m meth c Z own name cod maxL ret) (S : On p l e R s m args below meth c n0 T h k n) {i : Nat} {v : UInt64} (hd : decode cod pc = .ok (.dstore i, 2)) (hp : pc + 2 = pc') (hl : storeLocals L i (.double v) = some L') (kk : Gl p e below s R n0 Q T (mkF m pc' L' r)) : Gl p e below s R n0 Q T (mkF m pc L (.double v :: r)) := by
  obtain ⟨locs, X, -⟩ := S; subst hp
  exact kk.st fun _ q => XS.dstore X.here C.1 rfl (hb C.2.2.1 hd) rfl hl q
theorem g_dstoreN (C : Cx p s m meth c Z own name cod maxL ret) (S : On p l e R s m args below meth c n0 T h k n) {i : Fin 4} {v : UInt64} (hd : decode cod pc = .ok (.dstore_n i, 1)) (hp : pc + 1 = pc') (hl : storeLocals L i.val (.double v) = some L') (kk : Gl p e below s R n0 Q T (mkF m pc' L' r)) : Gl p e below s R n0 Q T (mkF m pc L (.double v :: r)) := by
  obtain ⟨locs, X, -⟩ := S; subst hp
  exact kk.st fun _ q => XS.dstoreN X.here C.1 rfl (hb C.2.2.1 hd) rfl hl q
theorem g_dconst0 (C : Cx p s m meth c Z own name cod maxL ret) (S : On p l e R s m args below meth c n0 T h k n) (hd : decode cod pc = .ok (.dconst 0, 1)) (hp : pc + 1 = pc') (kk : Gl p e below s R n0 Q T (mkF m pc' L (.double FP.dconst0 :: r))) : Gl p e below s R n0 Q T (mkF m pc L r) := by
  obtain ⟨locs, X, -⟩ := S; subst hp
  exact kk.st fun _ q => XS.dconst0 X.here C.1 rfl (hb C.2.2.1 hd) rfl q
theorem g_dconst1 (C : Cx p s m meth c Z own name cod maxL ret) (S : On p l e R s m args below meth c n0 T h k n) (hd : decode cod pc = .ok (.dconst 1, 1)) (hp : pc + 1 = pc') (kk : Gl p e below s R n0 Q T (mkF m pc' L (.double FP.dconst1 :: r))) : Gl p e below s R n0 Q T (mkF m pc L r) := by
  obtain ⟨locs, X, -⟩ := S; subst hp
  exact kk.st fun _ q => XS.dconst1 X.here C.1 rfl (hb C.2.2.1 hd) rfl q
theorem g_i2d (C : Cx p s m meth c Z own name cod maxL ret) (S : On p l e R s m args below meth c n0 T h k n) {x : Int32} (hd : decode cod pc = .ok (.i2d, 1)) (hp : pc + 1 = pc') (kk : Gl p e below s R n0 Q T (mkF m pc' L (.double (FP.i2d x) :: r))) : Gl p e below s R n0 Q T (mkF m pc L (.int x :: r)) := by
  obtain ⟨locs, X, -⟩ := S; subst hp
  exact kk.st fun _ q => XS.i2dS X.here C.1 rfl (hb C.2.2.1 hd) rfl rfl q
theorem g_l2d (C : Cx p s m meth c Z own name cod maxL ret) (S : On p l e R s m args below meth c n0 T h k n) {x : Int64} (hd : decode cod pc = .ok (.l2d, 1)) (hp : pc + 1 = pc') (kk : Gl p e below s R n0 Q T (mkF m pc' L (.double (FP.l2d x) :: r))) : Gl p e below s R n0 Q T (mkF m pc L (.long x :: r)) := by
  obtain ⟨locs, X, -⟩ := S; subst hp
  exact kk.st fun _ q => XS.l2dS X.here C.1 rfl (hb C.2.2.1 hd) rfl rfl q
theorem g_dadd (C : Cx p s m meth c Z own name cod maxL ret) (S : On p l e R s m args below meth c n0 T h k n) {x y : UInt64} (hd : decode cod pc = .ok (.dadd, 1)) (hp : pc + 1 = pc') (hn : Jvm.Free.Fl.NoNaN64 (FP.dadd x y)) (kk : Gl p e below s R n0 Q T (mkF m pc' L (.double (FP.dadd x y) :: r))) : Gl p e below s R n0 Q T (mkF m pc L (.double y :: .double x :: r)) := by
  obtain ⟨locs, X, -⟩ := S; subst hp
  exact kk.st fun _ q => XS.daddS X.here C.1 rfl (hb C.2.2.1 hd) rfl hn rfl q
theorem g_dmul (C : Cx p s m meth c Z own name cod maxL ret) (S : On p l e R s m args below meth c n0 T h k n) {x y : UInt64} (hd : decode cod pc = .ok (.dmul, 1)) (hp : pc + 1 = pc') (hn : Jvm.Free.Fl.NoNaN64 (FP.dmul x y)) (kk : Gl p e below s R n0 Q T (mkF m pc' L (.double (FP.dmul x y) :: r))) : Gl p e below s R n0 Q T (mkF m pc L (.double y :: .double x :: r)) := by
  obtain ⟨locs, X, -⟩ := S; subst hp
  exact kk.st fun _ q => XS.dmulS X.here C.1 rfl (hb C.2.2.1 hd) rfl hn rfl q
theorem g_ddiv (C : Cx p s m meth c Z own name cod maxL ret) (S : On p l e R s m args below meth c n0 T h k n) {x y : UInt64} (hd : decode cod pc = .ok (.ddiv, 1)) (hp : pc + 1 = pc') (hn : Jvm.Free.Fl.NoNaN64 (FP.ddiv x y)) (kk : Gl p e below s R n0 Q T (mkF m pc' L (.double (FP.ddiv x y) :: r))) : Gl p e below s R n0 Q T (mkF m pc L (.double y :: .double x :: r)) := by
  obtain ⟨locs, X, -⟩ := S; subst hp
  exact kk.st fun _ q => XS.ddivS X.here C.1 rfl (hb C.2.2.1 hd) rfl hn rfl q
theorem g_dsub (C : Cx p s m meth c Z own name cod maxL ret) (S : On p l e R s m args below meth c n0 T h k n) {x y : UInt64} (hd : decode cod pc = .ok (.dsub, 1)) (hp : pc + 1 = pc') (hn : Jvm.Free.Fl.NoNaN64 (FP.dsub x y)) (kk : Gl p e below s R n0 Q T (mkF m pc' L (.double (FP.dsub x y) :: r))) : Gl p e below s R n0 Q T (mkF m pc L (.double y :: .double x :: r)) := by
  obtain ⟨locs, X, -⟩ := S; subst hp
  exact kk.st fun _ q => XS.dsubS X.here C.1 rfl (hb C.2.2.1 hd) rfl hn rfl q
theorem g_dcmp (C : Cx p s m meth c Z own name cod maxL ret) (S : On p l e R s m args below meth c n0 T h k n) {o : CmpOp} {x y : UInt64} {v : Int32} (hd : decode cod pc = .ok (.dcmp o, 1)) (hp : pc + 1 = pc') (hv : cmpValue (FP.dcmp x y) o = v) (kk : Gl p e below s R n0 Q T (mkF m pc' L (.int v :: r))) : Gl p e below s R n0 Q T (mkF m pc L (.double y :: .double x :: r)) := by
  obtain ⟨locs, X, -⟩ := S; subst hp
  exact kk.st fun _ q => XS.dcmpS X.here C.1 rfl (hb C.2.2.1 hd) rfl hv q
theorem g_iincL (C : Cx p s m meth c Z own name cod maxL ret) (S : On p l e R s m args below meth c n0 T h k n) {i : Nat} {cst : Int} {x : Int32} (v y : Int32) (hd : decode cod pc = .ok (.iinc i cst, 3)) (hp : pc + 3 = pc') (hv : Int32.ofInt cst = v) (hy : x + v = y) (hl : L[i]? = some (.val (.int x))) (hl' : storeLocals L i (.int y) = some L') (kk : Gl p e below s R n0 Q T (mkF m pc' L' r)) : Gl p e below s R n0 Q T (mkF m pc L r) := by subst hy; exact g_iinc C S v hd hp hv hl hl' kk
theorem g_icmp_lt (C : Cx p s m meth c Z own name cod maxL ret) (S : On p l e R s m args below meth c n0 T h k n) {x y : Int32} {o : Int} (hd : decode cod pc = .ok (.if_icmp .lt o, 3)) (ho : 0 ≤ (pc : Int) + o) (hp : ((pc : Int) + o).toNat = pc') (hq : pc + 3 = pf) (ht : x < y → Gl p e below s R n0 Q T (mkF m pc' L r)) (hf : ¬ x < y → Gl p e below s R n0 Q T (mkF m pf L r)) : Gl p e below s R n0 Q T (mkF m pc L (.int y :: .int x :: r)) := by
  obtain ⟨locs, X, -⟩ := S; subst hq
  by_cases q : x < y
  · exact (ht q).st fun _ z => XS.icmpYes X.here C.1 rfl rfl (hb C.2.2.1 hd) rfl ((tlt q).1) ho hp z
  · exact (hf q).st fun _ z => XS.icmpNo X.here C.1 rfl (hb C.2.2.1 hd) rfl ((flt q).1) z
theorem g_if_lt (C : Cx p s m meth c Z own name cod maxL ret) (S : On p l e R s m args below meth c n0 T h k n) {x : Int32} {o : Int} (hd : decode cod pc = .ok (.ifCond .lt o, 3)) (ho : 0 ≤ (pc : Int) + o) (hp : ((pc : Int) + o).toNat = pc') (hq : pc + 3 = pf) (ht : x < (0 : Int32) → Gl p e below s R n0 Q T (mkF m pc' L r)) (hf : ¬ x < (0 : Int32) → Gl p e below s R n0 Q T (mkF m pf L r)) : Gl p e below s R n0 Q T (mkF m pc L (.int x :: r)) := by
  obtain ⟨locs, X, -⟩ := S; subst hq
  by_cases q : x < (0 : Int32)
  · exact (ht q).st fun _ z => XS.ifYes X.here C.1 rfl rfl (hb C.2.2.1 hd) rfl ((if0 _ _).trans (tlt q).1) ho hp z
  · exact (hf q).st fun _ z => XS.ifNo X.here C.1 rfl (hb C.2.2.1 hd) rfl ((if0 _ _).trans (flt q).1) z
theorem g_lif_lt (C : Cx p s m meth c Z own name cod maxL ret) (S : On p l e R s m args below meth c n0 T h k n) {x y : Int64} {o : Int} (hd : decode cod pc = .ok (.ifCond .lt o, 3)) (ho : 0 ≤ (pc : Int) + o) (hp : ((pc : Int) + o).toNat = pc') (hq : pc + 3 = pf) (ht : x < y → Gl p e below s R n0 Q T (mkF m pc' L r)) (hf : ¬ x < y → Gl p e below s R n0 Q T (mkF m pf L r)) : Gl p e below s R n0 Q T (mkF m pc L (.int (lcmpW x y) :: r)) := by
  obtain ⟨locs, X, -⟩ := S; subst hq
  by_cases q : x < y
  · exact (ht q).st fun _ z => XS.ifYes X.here C.1 rfl rfl (hb C.2.2.1 hd) rfl ((if0 _ _).trans (tlt ((lw_lt x y).mpr q)).1) ho hp z
  · exact (hf q).st fun _ z => XS.ifNo X.here C.1 rfl (hb C.2.2.1 hd) rfl ((if0 _ _).trans (flt (fun z => q ((lw_lt x y).mp z))).1) z
theorem g_icmp_ge (C : Cx p s m meth c Z own name cod maxL ret) (S : On p l e R s m args below meth c n0 T h k n) {x y : Int32} {o : Int} (hd : decode cod pc = .ok (.if_icmp .ge o, 3)) (ho : 0 ≤ (pc : Int) + o) (hp : ((pc : Int) + o).toNat = pc') (hq : pc + 3 = pf) (ht : ¬ x < y → Gl p e below s R n0 Q T (mkF m pc' L r)) (hf : x < y → Gl p e below s R n0 Q T (mkF m pf L r)) : Gl p e below s R n0 Q T (mkF m pc L (.int y :: .int x :: r)) := by
  obtain ⟨locs, X, -⟩ := S; subst hq
  by_cases q : x < y
  · exact (hf q).st fun _ z => XS.icmpNo X.here C.1 rfl (hb C.2.2.1 hd) rfl ((tlt q).2.1) z
  · exact (ht q).st fun _ z => XS.icmpYes X.here C.1 rfl rfl (hb C.2.2.1 hd) rfl ((flt q).2.1) ho hp z
theorem g_if_ge (C : Cx p s m meth c Z own name cod maxL ret) (S : On p l e R s m args below meth c n0 T h k n) {x : Int32} {o : Int} (hd : decode cod pc = .ok (.ifCond .ge o, 3)) (ho : 0 ≤ (pc : Int) + o) (hp : ((pc : Int) + o).toNat = pc') (hq : pc + 3 = pf) (ht : ¬ x < (0 : Int32) → Gl p e below s R n0 Q T (mkF m pc' L r)) (hf : x < (0 : Int32) → Gl p e below s R n0 Q T (mkF m pf L r)) : Gl p e below s R n0 Q T (mkF m pc L (.int x :: r)) := by
  obtain ⟨locs, X, -⟩ := S; subst hq
  by_cases q : x < (0 : Int32)
  · exact (hf q).st fun _ z => XS.ifNo X.here C.1 rfl (hb C.2.2.1 hd) rfl ((if0 _ _).trans (tlt q).2.1) z
  · exact (ht q).st fun _ z => XS.ifYes X.here C.1 rfl rfl (hb C.2.2.1 hd) rfl ((if0 _ _).trans (flt q).2.1) ho hp z
theorem g_lif_ge (C : Cx p s m meth c Z own name cod maxL ret) (S : On p l e R s m args below meth c n0 T h k n) {x y : Int64} {o : Int} (hd : decode cod pc = .ok (.ifCond .ge o, 3)) (ho : 0 ≤ (pc : Int) + o) (hp : ((pc : Int) + o).toNat = pc') (hq : pc + 3 = pf) (ht : ¬ x < y → Gl p e below s R n0 Q T (mkF m pc' L r)) (hf : x < y → Gl p e below s R n0 Q T (mkF m pf L r)) : Gl p e below s R n0 Q T (mkF m pc L (.int (lcmpW x y) :: r)) := by
  obtain ⟨locs, X, -⟩ := S; subst hq
  by_cases q : x < y
  · exact (hf q).st fun _ z => XS.ifNo X.here C.1 rfl (hb C.2.2.1 hd) rfl ((if0 _ _).trans (tlt ((lw_lt x y).mpr q)).2.1) z
  · exact (ht q).st fun _ z => XS.ifYes X.here C.1 rfl rfl (hb C.2.2.1 hd) rfl ((if0 _ _).trans (flt (fun z => q ((lw_lt x y).mp z))).2.1) ho hp z
theorem g_icmp_gt (C : Cx p s m meth c Z own name cod maxL ret) (S : On p l e R s m args below meth c n0 T h k n) {x y : Int32} {o : Int} (hd : decode cod pc = .ok (.if_icmp .gt o, 3)) (ho : 0 ≤ (pc : Int) + o) (hp : ((pc : Int) + o).toNat = pc') (hq : pc + 3 = pf) (ht : y < x → Gl p e below s R n0 Q T (mkF m pc' L r)) (hf : ¬ y < x → Gl p e below s R n0 Q T (mkF m pf L r)) : Gl p e below s R n0 Q T (mkF m pc L (.int y :: .int x :: r)) := by
  obtain ⟨locs, X, -⟩ := S; subst hq
  by_cases q : y < x
  · exact (ht q).st fun _ z => XS.icmpYes X.here C.1 rfl rfl (hb C.2.2.1 hd) rfl ((tlt q).2.2.1) ho hp z
  · exact (hf q).st fun _ z => XS.icmpNo X.here C.1 rfl (hb C.2.2.1 hd) rfl ((flt q).2.2.1) z
theorem g_if_gt (C : Cx p s m meth c Z own name cod maxL ret) (S : On p l e R s m args below meth c n0 T h k n) {x : Int32} {o : Int} (hd : decode cod pc = .ok (.ifCond .gt o, 3)) (ho : 0 ≤ (pc : Int) + o) (hp : ((pc : Int) + o).toNat = pc') (hq : pc + 3 = pf) (ht : (0 : Int32) < x → Gl p e below s R n0 Q T (mkF m pc' L r)) (hf : ¬ (0 : Int32) < x → Gl p e below s R n0 Q T (mkF m pf L r)) : Gl p e below s R n0 Q T (mkF m pc L (.int x :: r)) := by
  obtain ⟨locs, X, -⟩ := S; subst hq
  by_cases q : (0 : Int32) < x
  · exact (ht q).st fun _ z => XS.ifYes X.here C.1 rfl rfl (hb C.2.2.1 hd) rfl ((if0 _ _).trans (tlt q).2.2.1) ho hp z
  · exact (hf q).st fun _ z => XS.ifNo X.here C.1 rfl (hb C.2.2.1 hd) rfl ((if0 _ _).trans (flt q).2.2.1) z
theorem g_lif_gt (C : Cx p s m meth c Z own name cod maxL ret) (S : On p l e R s m args below meth c n0 T h k n) {x y : Int64} {o : Int} (hd : decode cod pc = .ok (.ifCond .gt o, 3)) (ho : 0 ≤ (pc : Int) + o) (hp : ((pc : Int) + o).toNat = pc') (hq : pc + 3 = pf) (ht : y < x → Gl p e below s R n0 Q T (mkF m pc' L r)) (hf : ¬ y < x → Gl p e below s R n0 Q T (mkF m pf L r)) : Gl p e below s R n0 Q T (mkF m pc L (.int (lcmpW x y) :: r)) := by
  obtain ⟨locs, X, -⟩ := S; subst hq
  by_cases q : y < x
  · exact (ht q).st fun _ z => XS.ifYes X.here C.1 rfl rfl (hb C.2.2.1 hd) rfl ((if0 _ _).trans (tlt ((lw_gt x y).mpr q)).2.2.1) ho hp z
  · exact (hf q).st fun _ z => XS.ifNo X.here C.1 rfl (hb C.2.2.1 hd) rfl ((if0 _ _).trans (flt (fun z => q ((lw_gt x y).mp z))).2.2.1) z
theorem g_icmp_le (C : Cx p s m meth c Z own name cod maxL ret) (S : On p l e R s m args below meth c n0 T h k n) {x y : Int32} {o : Int} (hd : decode cod pc = .ok (.if_icmp .le o, 3)) (ho : 0 ≤ (pc : Int) + o) (hp : ((pc : Int) + o).toNat = pc') (hq : pc + 3 = pf) (ht : ¬ y < x → Gl p e below s R n0 Q T (mkF m pc' L r)) (hf : y < x → Gl p e below s R n0 Q T (mkF m pf L r)) : Gl p e below s R n0 Q T (mkF m pc L (.int y :: .int x :: r)) := by
  obtain ⟨locs, X, -⟩ := S; subst hq
  by_cases q : y < x
  · exact (hf q).st fun _ z => XS.icmpNo X.here C.1 rfl (hb C.2.2.1 hd) rfl ((tlt q).2.2.2) z
  · exact (ht q).st fun _ z => XS.icmpYes X.here C.1 rfl rfl (hb C.2.2.1 hd) rfl ((flt q).2.2.2) ho hp z
theorem g_if_le (C : Cx p s m meth c Z own name cod maxL ret) (S : On p l e R s m args below meth c n0 T h k n) {x : Int32} {o : Int} (hd : decode cod pc = .ok (.ifCond .le o, 3)) (ho : 0 ≤ (pc : Int) + o) (hp : ((pc : Int) + o).toNat = pc') (hq : pc + 3 = pf) (ht : ¬ (0 : Int32) < x → Gl p e below s R n0 Q T (mkF m pc' L r)) (hf : (0 : Int32) < x → Gl p e below s R n0 Q T (mkF m pf L r)) : Gl p e below s R n0 Q T (mkF m pc L (.int x :: r)) := by
  obtain ⟨locs, X, -⟩ := S; subst hq
  by_cases q : (0 : Int32) < x
  · exact (hf q).st fun _ z => XS.ifNo X.here C.1 rfl (hb C.2.2.1 hd) rfl ((if0 _ _).trans (tlt q).2.2.2) z
  · exact (ht q).st fun _ z => XS.ifYes X.here C.1 rfl rfl (hb C.2.2.1 hd) rfl ((if0 _ _).trans (flt q).2.2.2) ho hp z
theorem g_lif_le (C : Cx p s m meth c Z own name cod maxL ret) (S : On p l e R s m args below meth c n0 T h k n) {x y : Int64} {o : Int} (hd : decode cod pc = .ok (.ifCond .le o, 3)) (ho : 0 ≤ (pc : Int) + o) (hp : ((pc : Int) + o).toNat = pc') (hq : pc + 3 = pf) (ht : ¬ y < x → Gl p e below s R n0 Q T (mkF m pc' L r)) (hf : y < x → Gl p e below s R n0 Q T (mkF m pf L r)) : Gl p e below s R n0 Q T (mkF m pc L (.int (lcmpW x y) :: r)) := by
  obtain ⟨locs, X, -⟩ := S; subst hq
  by_cases q : y < x
  · exact (hf q).st fun _ z => XS.ifNo X.here C.1 rfl (hb C.2.2.1 hd) rfl ((if0 _ _).trans (tlt ((lw_gt x y).mpr q)).2.2.2) z
  · exact (ht q).st fun _ z => XS.ifYes X.here C.1 rfl rfl (hb C.2.2.1 hd) rfl ((if0 _ _).trans (flt (fun z => q ((lw_gt x y).mp z))).2.2.2) ho hp z
theorem g_icmp_eq (C : Cx p s m meth c Z own name cod maxL ret) (S : On p l e R s m args below meth c n0 T h k n) {x y : Int32} {o : Int} (hd : decode cod pc = .ok (.if_icmp .eq o, 3)) (ho : 0 ≤ (pc : Int) + o) (hp : ((pc : Int) + o).toNat = pc') (hq : pc + 3 = pf) (ht : x = y → Gl p e below s R n0 Q T (mkF m pc' L r)) (hf : ¬ x = y → Gl p e below s R n0 Q T (mkF m pf L r)) : Gl p e below s R n0 Q T (mkF m pc L (.int y :: .int x :: r)) := by
  obtain ⟨locs, X, -⟩ := S; subst hq
  by_cases q : x = y
  · exact (ht q).st fun _ z => XS.icmpYes X.here C.1 rfl rfl (hb C.2.2.1 hd) rfl ((teq q).1) ho hp z
  · exact (hf q).st fun _ z => XS.icmpNo X.here C.1 rfl (hb C.2.2.1 hd) rfl ((feq q).1) z
theorem g_if_eq (C : Cx p s m meth c Z own name cod maxL ret) (S : On p l e R s m args below meth c n0 T h k n) {x : Int32} {o : Int} (hd : decode cod pc = .ok (.ifCond .eq o, 3)) (ho : 0 ≤ (pc : Int) + o) (hp : ((pc : Int) + o).toNat = pc') (hq : pc + 3 = pf) (ht : x = (0 : Int32) → Gl p e below s R n0 Q T (mkF m pc' L r)) (hf : ¬ x = (0 : Int32) → Gl p e below s R n0 Q T (mkF m pf L r)) : Gl p e below s R n0 Q T (mkF m pc L (.int x :: r)) := by
  obtain ⟨locs, X, -⟩ := S; subst hq
  by_cases q : x = (0 : Int32)
  · exact (ht q).st fun _ z => XS.ifYes X.here C.1 rfl rfl (hb C.2.2.1 hd) rfl ((if0 _ _).trans (teq q).1) ho hp z
  · exact (hf q).st fun _ z => XS.ifNo X.here C.1 rfl (hb C.2.2.1 hd) rfl ((if0 _ _).trans (feq q).1) z
theorem g_lif_eq (C : Cx p s m meth c Z own name cod maxL ret) (S : On p l e R s m args below meth c n0 T h k n) {x y : Int64} {o : Int} (hd : decode cod pc = .ok (.ifCond .eq o, 3)) (ho : 0 ≤ (pc : Int) + o) (hp : ((pc : Int) + o).toNat = pc') (hq : pc + 3 = pf) (ht : x = y → Gl p e below s R n0 Q T (mkF m pc' L r)) (hf : ¬ x = y → Gl p e below s R n0 Q T (mkF m pf L r)) : Gl p e below s R n0 Q T (mkF m pc L (.int (lcmpW x y) :: r)) := by
  obtain ⟨locs, X, -⟩ := S; subst hq
  by_cases q : x = y
  · exact (ht q).st fun _ z => XS.ifYes X.here C.1 rfl rfl (hb C.2.2.1 hd) rfl ((if0 _ _).trans (teq ((lw_eq x y).mpr q)).1) ho hp z
  · exact (hf q).st fun _ z => XS.ifNo X.here C.1 rfl (hb C.2.2.1 hd) rfl ((if0 _ _).trans (feq (fun z => q ((lw_eq x y).mp z))).1) z
theorem g_icmp_ne (C : Cx p s m meth c Z own name cod maxL ret) (S : On p l e R s m args below meth c n0 T h k n) {x y : Int32} {o : Int} (hd : decode cod pc = .ok (.if_icmp .ne o, 3)) (ho : 0 ≤ (pc : Int) + o) (hp : ((pc : Int) + o).toNat = pc') (hq : pc + 3 = pf) (ht : ¬ x = y → Gl p e below s R n0 Q T (mkF m pc' L r)) (hf : x = y → Gl p e below s R n0 Q T (mkF m pf L r)) : Gl p e below s R n0 Q T (mkF m pc L (.int y :: .int x :: r)) := by
  obtain ⟨locs, X, -⟩ := S; subst hq
  by_cases q : x = y
  · exact (hf q).st fun _ z => XS.icmpNo X.here C.1 rfl (hb C.2.2.1 hd) rfl ((teq q).2) z
  · exact (ht q).st fun _ z => XS.icmpYes X.here C.1 rfl rfl (hb C.2.2.1 hd) rfl ((feq q).2) ho hp z
theorem g_if_ne (C : Cx p s m meth c Z own name cod maxL ret) (S : On p l e R s m args below meth c n0 T h k n) {x : Int32} {o : Int} (hd : decode cod pc = .ok (.ifCond .ne o, 3)) (ho : 0 ≤ (pc : Int) + o) (hp : ((pc : Int) + o).toNat = pc') (hq : pc + 3 = pf) (ht : ¬ x = (0 : Int32) → Gl p e below s R n0 Q T (mkF m pc' L r)) (hf : x = (0 : Int32) → Gl p e below s R n0 Q T (mkF m pf L r)) : Gl p e below s R n0 Q T (mkF m pc L (.int x :: r)) := by
  obtain ⟨locs, X, -⟩ := S; subst hq
  by_cases q : x = (0 : Int32)
  · exact (hf q).st fun _ z => XS.ifNo X.here C.1 rfl (hb C.2.2.1 hd) rfl ((if0 _ _).trans (teq q).2) z
  · exact (ht q).st fun _ z => XS.ifYes X.here C.1 rfl rfl (hb C.2.2.1 hd) rfl ((if0 _ _).trans (feq q).2) ho hp z
theorem g_lif_ne (C : Cx p s m meth c Z own name cod maxL ret) (S : On p l e R s m args below meth c n0 T h k n) {x y : Int64} {o : Int} (hd : decode cod pc = .ok (.ifCond .ne o, 3)) (ho : 0 ≤ (pc : Int) + o) (hp : ((pc : Int) + o).toNat = pc') (hq : pc + 3 = pf) (ht : ¬ x = y → Gl p e below s R n0 Q T (mkF m pc' L r)) (hf : x = y → Gl p e below s R n0 Q T (mkF m pf L r)) : Gl p e below s R n0 Q T (mkF m pc L (.int (lcmpW x y) :: r)) := by
  obtain ⟨locs, X, -⟩ := S; subst hq
  by_cases q : x = y
  · exact (hf q).st fun _ z => XS.ifNo X.here C.1 rfl (hb C.2.2.1 hd) rfl ((if0 _ _).trans (teq ((lw_eq x y).mpr q)).2) z
  · exact (ht q).st fun _ z => XS.ifYes X.here C.1 rfl rfl (hb C.2.2.1 hd) rfl ((if0 _ _).trans (feq (fun z => q ((lw_eq x y).mp z))).2) ho hp z
theorem g_ifnonnull_ref (C : Cx p s m meth c Z own name cod maxL ret) (S : On p l e R s m args below meth c n0 T h k n) {o : Int} (hd : decode cod pc = .ok (.ifnonnull o, 3)) (ho : 0 ≤ (pc : Int) + o) (hp : ((pc : Int) + o).toNat = pc') (kk : Gl p e below s R n0 Q T (mkF m pc' L r)) : Gl p e below s R n0 Q T (mkF m pc L (.ref a :: r)) := by
  obtain ⟨locs, X, -⟩ := S
  exact kk.st fun _ q => XS.ifnonnullYes X.here C.1 rfl rfl (hb C.2.2.1 hd) rfl ho hp q
theorem g_ifnonnull_null (C : Cx p s m meth c Z own name cod maxL ret) (S : On p l e R s m args below meth c n0 T h k n) {o : Int} (hd : decode cod pc = .ok (.ifnonnull o, 3)) (hq : pc + 3 = pf) (kk : Gl p e below s R n0 Q T (mkF m pf L r)) : Gl p e below s R n0 Q T (mkF m pc L (.null :: r)) := by
  obtain ⟨locs, X, -⟩ := S; subst hq
  exact kk.st fun _ q => XS.ifnonnullNo X.here C.1 rfl (hb C.2.2.1 hd) rfl q
theorem g_ifnull_null (C : Cx p s m meth c Z own name cod maxL ret) (S : On p l e R s m args below meth c n0 T h k n) {o : Int} (hd : decode cod pc = .ok (.ifnull o, 3)) (ho : 0 ≤ (pc : Int) + o) (hp : ((pc : Int) + o).toNat = pc') (kk : Gl p e below s R n0 Q T (mkF m pc' L r)) : Gl p e below s R n0 Q T (mkF m pc L (.null :: r)) := by
  obtain ⟨locs, X, -⟩ := S
  exact kk.st fun _ q => XS.ifnullYes X.here C.1 rfl rfl (hb C.2.2.1 hd) rfl ho hp q
theorem g_ifnull_ref (C : Cx p s m meth c Z own name cod maxL ret) (S : On p l e R s m args below meth c n0 T h k n) {o : Int} (hd : decode cod pc = .ok (.ifnull o, 3)) (hq : pc + 3 = pf) (kk : Gl p e below s R n0 Q T (mkF m pf L r)) : Gl p e below s R n0 Q T (mkF m pc L (.ref a :: r)) := by
  obtain ⟨locs, X, -⟩ := S; subst hq
  exact kk.st fun _ q => XS.ifnullNo X.here C.1 rfl (hb C.2.2.1 hd) rfl q
theorem g_acmp_eq (C : Cx p s m meth c Z own name cod maxL ret) (S : On p l e R s m args below meth c n0 T h k n) {x y : Value} (hx : x.isRef = true) (hy : y.isRef = true) {o : Int} (hd : decode cod pc = .ok (.if_acmp .eq o, 3)) (ho : 0 ≤ (pc : Int) + o) (hp : ((pc : Int) + o).toNat = pc') (hq : pc + 3 = pf) (ht : x = y → Gl p e below s R n0 Q T (mkF m pc' L r)) (hf : ¬ x = y → Gl p e below s R n0 Q T (mkF m pf L r)) : Gl p e below s R n0 Q T (mkF m pc L (y :: x :: r)) := by
  obtain ⟨locs, X, -⟩ := S; subst hq hp
  by_cases q : x = y
  · exact (ht q).st fun _ z => Jvm.RoadKit.acmp X C.1 rfl hx hy (same := true) rfl (hb C.2.2.1 hd) rfl (decide_eq_true q) ho (by simp [acV]) z
  · exact (hf q).st fun _ z => Jvm.RoadKit.acmp X C.1 rfl hx hy (same := false) rfl (hb C.2.2.1 hd) rfl (decide_eq_false q) ho (by simp [acV]) z
theorem g_acmp_ne (C : Cx p s m meth c Z own name cod maxL ret) (S : On p l e R s m args below meth c n0 T h k n) {x y : Value} (hx : x.isRef = true) (hy : y.isRef = true) {o : Int} (hd : decode cod pc = .ok (.if_acmp .ne o, 3)) (ho : 0 ≤ (pc : Int) + o) (hp : ((pc : Int) + o).toNat = pc') (hq : pc + 3 = pf) (ht : ¬ x = y → Gl p e below s R n0 Q T (mkF m pc' L r)) (hf : x = y → Gl p e below s R n0 Q T (mkF m pf L r)) : Gl p e below s R n0 Q T (mkF m pc L (y :: x :: r)) := by
  obtain ⟨locs, X, -⟩ := S; subst hq hp
  by_cases q : x = y
  · exact (hf q).st fun _ z => Jvm.RoadKit.acmp X C.1 rfl hx hy (same := true) rfl (hb C.2.2.1 hd) rfl (decide_eq_true q) ho (by simp [acV]) z
  · exact (ht q).st fun _ z => Jvm.RoadKit.acmp X C.1 rfl hx hy (same := false) rfl (hb C.2.2.1 hd) rfl (decide_eq_false q) ho (by simp [acV]) z
theorem g_ldc (C : Cx p s m meth c Z own name cod maxL ret) (S : On p l e R s m args below meth c n0 T h k n) {v : Int32} {i : Nat} (hd : decode cod pc = .ok (.ldc i, 2)) (w : (Jvm.Cond.constant own i v).before a0 Z = true) (hp : pc + 2 = pc') (kk : Gl p e below s R n0 Q T (mkF m pc' L (.int v :: r))) : Gl p e below s R n0 Q T (mkF m pc L r) := by
  obtain ⟨locs, X, -⟩ := S; subst hp
  exact kk.st fun t q => X.ldcInt (g := mkF m pc L r) C.1 C.2.2.2.2.1 (mvT C.2.1 w) rfl (hb C.2.2.1 hd) t q
theorem g_ldc2 (C : Cx p s m meth c Z own name cod maxL ret) (S : On p l e R s m args below meth c n0 T h k n) {v : Int64} {i : Nat} (hd : decode cod pc = .ok (.ldc2_w i, 3)) (w : (Jvm.Cond.constantLong own i v).before a0 Z = true) (hp : pc + 3 = pc') (kk : Gl p e below s R n0 Q T (mkF m pc' L (.long v :: r))) : Gl p e below s R n0 Q T (mkF m pc L r) := by
  obtain ⟨locs, X, -⟩ := S; subst hp
  exact kk.st fun t q => X.ldc2Long (g := mkF m pc L r) C.1 C.2.2.2.2.1 (mvT C.2.1 w) rfl (hb C.2.2.1 hd) t q
theorem g_leave (C : Cx p s m meth c Z own name cod maxL ret) (S : On p l e R s m args below meth c n0 T h k n) {v : Option Value} (hk : k ≤ R.cells) (hn : n ≤ R.slots) (hv : meth.sig.returnType = none → v = none) (q : Q v h)
    (hst : ∀ fs, (∀ (f : JFrame) (acts : List Action), f.method = m → f.locked = none → f.entered = [] → (doReturn e (T.setTop f) acts v).1 = T.setFrames fs) → ∀ locs, Stand p l e R s m args below meth c T locs k n → Steps p.tables e below (T.setTop (mkF m pc L r)) (T.setFrames fs)) : Gl p e below s R n0 Q T (mkF m pc L r) := by
  obtain ⟨locs, X, N, eh⟩ := S
  obtain ⟨fs, hr, hrun, hended, hW, hsame⟩ := X.leave (v := v) hv C.2.2.2.2.2.2.2
  have q' : Q v (T.setFrames fs).heap := by show Q v T.heap; rw [eh]; exact q
  exact ⟨_, _, hst fs hr locs X, hrun, hended, _, _, rfl, ⟨q', N⟩, ⟨_, rfl⟩, hW, hsame.mono hk hn⟩
theorem g_return (C : Cx p s m meth c Z own name cod maxL none) (S : On p l e R s m args below meth c n0 T h k n) (hd : decode cod pc = .ok (.return_, 1)) (hk : k ≤ R.cells) (hn : n ≤ R.slots) (q : Q none h) : Gl p e below s R n0 Q T (mkF m pc L []) :=
  g_leave C S (v := none) hk hn (fun _ => rfl) q fun fs hr locs X => X.returnOut C.1 C.2.2.2.2.2.2.1 (hb C.2.2.1 hd) hr
theorem g_retv {t : FieldType} {w : Value} {i : Instr} (C : Cx p s m meth c Z own name cod maxL (some t)) (S : On p l e R s m args below meth c n0 T h k n) (hd : decode cod pc = .ok (i, 1)) (hn' : narrow t w = w) (hi : (i = .ireturn ∧ (t = .int ∨ t = .boolean ∨ t = .byte ∨ t = .char ∨ t = .short) ∧ ∃ z, w = .int z) ∨ (i = .lreturn ∧ t = .long ∧ ∃ z, w = .long z) ∨ (i = .dreturn ∧ t = .double ∧ ∃ z, w = .double z) ∨ (i = .freturn ∧ t = .float ∧ ∃ z, w = .float z) ∨ (i = .areturn ∧ t.isReference = true ∧ w.isRef = true)) (hk : k ≤ R.cells) (hn : n ≤ R.slots) (q : Q (some w) h) : Gl p e below s R n0 Q T (mkF m pc L (w :: r)) :=
  g_leave C S (v := some w) hk hn (fun z => by rw [C.2.2.2.2.2.2.1] at z; cases z) q fun fs hr locs X => retOut X C.1 C.2.2.2.2.2.2.1 hn' hi (hb C.2.2.1 hd) hr
theorem g_retI {z : Int32} (C : Cx p s m meth c Z own name cod maxL (some .int)) (S : On p l e R s m args below meth c n0 T h k n) (hd : decode cod pc = .ok (.ireturn, 1)) (hk : k ≤ R.cells) (hn : n ≤ R.slots) (q : Q (some (.int z)) h) : Gl p e below s R n0 Q T (mkF m pc L (.int z :: r)) := g_retv C S hd rfl (Or.inl ⟨rfl, Or.inl rfl, z, rfl⟩) hk hn q
theorem g_retZ {z : Int32} (C : Cx p s m meth c Z own name cod maxL (some .boolean)) (S : On p l e R s m args below meth c n0 T h k n) (hd : decode cod pc = .ok (.ireturn, 1)) (hz : z &&& 1 = z) (hk : k ≤ R.cells) (hn : n ≤ R.slots) (q : Q (some (.int z)) h) : Gl p e below s R n0 Q T (mkF m pc L (.int z :: r)) := g_retv C S hd (congrArg Value.int hz) (Or.inl ⟨rfl, Or.inr (Or.inl rfl), z, rfl⟩) hk hn q
theorem g_retJ {z : Int64} (C : Cx p s m meth c Z own name cod maxL (some .long)) (S : On p l e R s m args below meth c n0 T h k n) (hd : decode cod pc = .ok (.lreturn, 1)) (hk : k ≤ R.cells) (hn : n ≤ R.slots) (q : Q (some (.long z)) h) : Gl p e below s R n0 Q T (mkF m pc L (.long z :: r)) := g_retv C S hd rfl (Or.inr (Or.inl ⟨rfl, rfl, z, rfl⟩)) hk hn q
theorem g_retA {t : FieldType} {w : Value} (C : Cx p s m meth c Z own name cod maxL (some t)) (S : On p l e R s m args below meth c n0 T h k n) (hd : decode cod pc = .ok (.areturn, 1)) (ht : t.isReference = true) (hw : w.isRef = true) (hnw : narrow t w = w) (hk : k ≤ R.cells) (hn : n ≤ R.slots) (q : Q (some w) h) : Gl p e below s R n0 Q T (mkF m pc L (w :: r)) := g_retv C S hd hnw (Or.inr (Or.inr (Or.inr (Or.inr ⟨rfl, ht, hw⟩)))) hk hn q
theorem g_getF (C : Cx p s m meth c Z own name cod maxL ret) (S : On p l e R s m args below meth c n0 T h k n) {R0 O nm d host : String} {i : Nat} {v : Value} (hd : decode cod pc = .ok (.getfield i, 3)) (w : (Jvm.Cond.fieldLink own i R0 nm d).before a0 Z = true ∨ (Jvm.Cond.fieldLinkNest own i R0 nm d host).before a0 Z = true) (via : Via Z R0 O nm d) (F : Fld Z h a O nm d v) (hp : pc + 3 = pc') (kk : ∀ T', On p l e R s m args below meth c n0 T' h k n → Gl p e below s R n0 Q T' (mkF m pc' L (v :: r))) : Gl p e below s R n0 Q T (mkF m pc L (.ref a :: r)) := by
  obtain ⟨locs, X, N, eh⟩ := S; subst hp
  obtain ⟨T', X', eT, st⟩ := getF X C.1 C.2.1 C.2.2.2.2.1 w via eh F (g := mkF m pc L (.ref a :: r)) rfl rfl (hb C.2.2.1 hd)
  exact (kk T' ⟨locs, X', N, eT⟩).st st
theorem g_getS (C : Cx p s m meth c Z own name cod maxL ret) (S : On p l e R s m args below meth c n0 T h k n) {R0 O nm d host : String} {i : Nat} {v : Value} (hd : decode cod pc = .ok (.getstatic i, 3)) (w : (Jvm.Cond.fieldLink own i R0 nm d).before a0 Z = true ∨ (Jvm.Cond.fieldLinkNest own i R0 nm d host).before a0 Z = true) (via : Via Z R0 O nm d) (F : Sta Z h O nm d v) (hp : pc + 3 = pc') (kk : ∀ T', On p l e R s m args below meth c n0 T' h k n → Gl p e below s R n0 Q T' (mkF m pc' L (v :: r))) : Gl p e below s R n0 Q T (mkF m pc L r) := by
  obtain ⟨locs, X, N, eh⟩ := S; subst hp
  obtain ⟨T', X', eT, st⟩ := getS2 X C.1 C.2.1 C.2.2.2.2.1 w via eh F (g := mkF m pc L r) rfl (hb C.2.2.1 hd)
  exact (kk T' ⟨locs, X', N, eT⟩).st st
theorem g_putF (C : Cx p s m meth c Z own name cod maxL ret) (S : On p l e R s m args below meth c n0 T h k n) {R0 O nm d host K : String} {i kk0 : Nat} {ty : FieldType} {v old : Value} (hd : decode cod pc = .ok (.putfield i, 3)) (w : (Jvm.Cond.fieldLink own i R0 nm d).before a0 Z = true ∨ (Jvm.Cond.fieldLinkNest own i R0 nm d host).before a0 Z = true) (via : Via Z R0 O nm d) (F : Fld Z h a O nm d old) (E : Exa Z h a K) (Ly : (Jvm.Cond.lays K O nm d).before a0 Z = true ∨ ((Jvm.Cond.laysFinal K O nm d).before a0 Z = true ∧ own = O ∧ name = "<init>")) (wi : (Jvm.Cond.instantiable K kk0).before a0 Z = true) (hty : parseFieldDescriptor d = some ty) (hnr : narrow ty v = v) (hft : fits ty v = true) (ga : n0 ≤ a) (hp : pc + 3 = pc') (kk : ∀ T' h', On p l e R s m args below meth c n0 T' h' k n → Wr h h' a (Jvm.RoadKit.slotOf Z O nm d) v → Gl p e below s R n0 Q T' (mkF m pc' L r)) : Gl p e below s R n0 Q T (mkF m pc L (v :: .ref a :: r)) := by
  obtain ⟨locs, X, N, eh⟩ := S; subst hp
  obtain ⟨T', h', X', eT, W, st⟩ := putF X C.1 C.2.1 C.2.2.2.2.1 w via eh F E (Ly.imp id fun q => ⟨q.1, q.2.1, C.2.2.2.2.2.1.trans q.2.2⟩) wi hty hnr hft (g := mkF m pc L (v :: .ref a :: r)) rfl rfl (hb C.2.2.1 hd)
  exact (kk T' h' ⟨_, X', Fr.snoc X' N ga, eT⟩ W).st st
theorem g_new (C : Cx p s m meth c Z own name cod maxL ret) (S : On p l e R s m args below meth c n0 T h k n) {K : String} {i sz : Nat} (hd : decode cod pc = .ok (.new i, 3)) (w : (Jvm.Cond.classLink own i K).before a0 Z = true) (wi : (Jvm.Cond.instantiable K sz).before a0 Z = true) (wz : (Jvm.Cond.initialized K).before a0 Z = true) (hc : k + 1 ≤ R.cells) (hl : n + sz ≤ R.slots) (hp : pc + 3 = pc') (kk : ∀ T' h' a, On p l e R s m args below meth c n0 T' h' (k + 1) (n + sz) → a = h.size → Ext h h' → Exa Z h' a K → (∀ {O nm d : String} {ty : FieldType}, Laid Z a0 K O nm d → parseFieldDescriptor d = some ty → Fld Z h' a O nm d (defaultValue ty)) → Gl p e below s R n0 Q T' (mkF m pc' L (.ref a :: r))) : Gl p e below s R n0 Q T (mkF m pc L r) := by
  obtain ⟨locs, X, N, eh⟩ := S; subst hp
  obtain ⟨T', h', X', eT, E, A, D, -, st⟩ := newO X C.1 C.2.1 C.2.2.2.2.1 w wi wz eh (g := mkF m pc L r) rfl (hb C.2.2.1 hd) hc hl
  exact (kk T' h' h.size ⟨_, X', N, eT⟩ rfl E A D).st st
theorem g_initO (C : Cx p s m meth c Z own name cod maxL ret) (S : On p l e R s m args below meth c n0 T h k n) {i W : Nat} (hd : decode cod pc = .ok (.invokespecial i, 3)) (w1 : (Jvm.Cond.methodLink own i Lib.objectInit).before a0 Z = true) (w2 : (Jvm.Cond.instanceMethod Lib.objectInit).before a0 Z = true) (w3 : (Jvm.Cond.code Lib.objectInit ⟨#[0xb1]⟩ 1 none).before a0 Z = true) (hsz : L.size = maxL) (hf : 1 ≤ R.frames) (hW : (r.map fun v => v.category).sum ≤ W) (hl : W + 12 ≤ R.locals) (hp : pc + 3 = pc') (kk : ∀ T', On p l e R s m args below meth c n0 T' h k n → Gl p e below s R n0 Q T' (mkF m pc' L r)) : Gl p e below s R n0 Q T (mkF m pc L (.ref a :: r)) := by
  obtain ⟨locs, X, N, eh⟩ := S; subst hp
  obtain ⟨T', X', eT, st⟩ := initO X C.1 C.2.1 C.2.2.2.2.1 w1 w2 w3 eh (g := mkF m pc L (.ref a :: r)) rfl (hsz.trans C.2.2.2.1.symm) rfl (hb C.2.2.1 hd) hf (W := W) (by simpa using hW) hl
  exact (kk T' ⟨locs, X', N, eT⟩).st st
theorem notFace_of_inst {y : MethodName} {sz : Nat} (hZ : Z.Warmed39 s.vm) (wi : (Jvm.Cond.instantiable y.cls sz).before a0 Z = true) : NotFace s y := fun r0 h0 => by
  obtain ⟨c0, k0, i1, i2, -, i4, -⟩ := Cond.instantiable_spec (mvT (s := s) (args := #[]) hZ wi)
  have q := findClass_of_methodNamed h0
  rw [i1] at q; cases q
  exact ⟨k0, i2, (Bool.or_eq_false_iff.mp i4).1⟩
theorem g_callS (C : Cx p s m meth c Z own name cod maxL ret) (S : On p l e R s m args below meth c n0 T h k n) {y : MethodName} {bytes : ByteArray} {mx i W : Nat} {rt : Option FieldType} {rm : Room} {Q' : Option Value → Heap → Prop} {argsL stk : List Value} (hd : decode cod pc = .ok (.invokestatic i, 3)) (w1 : (Jvm.Cond.methodLink own i y).before a0 Z = true) (w2 : (Jvm.Cond.static y).before a0 Z = true) (w3 : (Jvm.Cond.initialized y.cls).before a0 Z = true) (w4 : (Jvm.Cond.code y bytes mx rt).before a0 Z = true) (hy : y.cls ≠ "java/lang/invoke/MethodHandle" ∧ y.cls ≠ "java/lang/invoke/VarHandle") (K : Con l Z y bytes mx rt rm argsL.toArray h n0 Q') (hst : stk = argsL.reverse ++ r) (hlen : ∀ sig, parseMethodDescriptor y.desc = some sig → argsL.length = sig.parameters.length) (hsz : L.size = maxL) (hW : (r.map fun v => v.category).sum ≤ W) (hf : rm.frames + 1 ≤ R.frames) (hlo : W + (mx + 11) + rm.locals ≤ R.locals) (hce : k + rm.cells ≤ R.cells) (hsl : n + rm.slots ≤ R.slots) (hp : pc + 3 = pc') (kk : ∀ T' h' v, Q' v h' → On p l e R s m args below meth c n0 T' h' (k + rm.cells) (n + rm.slots) → Gl p e below s R n0 Q T' (mkF m pc' L (v.toList ++ r))) : Gl p e below s R n0 Q T (mkF m pc L stk) := by
  obtain ⟨locs, X, N, eh⟩ := S; subst hp
  obtain ⟨v, vm1, ⟨T', L1, k1, n1⟩, -, X', ⟨Lc, hQ, l', y', z'⟩, st⟩ := Jvm.LawKit.callS X C.1 (y := y) C.2.2.2.2.1 (mvT C.2.1 w1) (mvT C.2.1 w2) (mvT C.2.1 w3) (mvT C.2.1 w4) hy (backOf (W := W) (Q := fun v h L => Q' v h ∧ Fr n0 L) (K []) C.2.1 w4 w3 hf hlo) (g := mkF m pc L stk) rfl (hsz.trans C.2.2.2.1.symm) (argsL := argsL) (rest := r) hlen hst (by simpa using hW) (hb C.2.2.1 hd) (fun _ _ => ⟨rfl, eh, hce, hsl⟩)
  dsimp only [Pt.U, Pt.locs, Pt.cells, Pt.slots] at X' st hQ l' y' z'
  subst l' y' z'
  exact (kk T' T'.heap v hQ.1 ⟨_, X', N.app hQ.2, rfl⟩).st st
theorem g_callI (C : Cx p s m meth c Z own name cod maxL ret) (S : On p l e R s m args below meth c n0 T h k n) {y : MethodName} {bytes : ByteArray} {mx i W : Nat} {rm : Room} {Q' : Option Value → Heap → Prop} {argsL stk : List Value} (hd : decode cod pc = .ok (.invokespecial i, 3)) (hy1 : y.name = "<init>") (w1 : (Jvm.Cond.methodLink own i y).before a0 Z = true) (w2 : (Jvm.Cond.instanceMethod y).before a0 Z = true) (w3 : (Jvm.Cond.initialized y.cls).before a0 Z = true) (w4 : (Jvm.Cond.code y bytes mx none).before a0 Z = true) (hy : y.cls ≠ "java/lang/invoke/MethodHandle" ∧ y.cls ≠ "java/lang/invoke/VarHandle") (K : Con l Z y bytes mx none rm (.ref a :: argsL).toArray h n0 Q') (hst : stk = argsL.reverse ++ .ref a :: r) (hlen : ∀ sig, parseMethodDescriptor y.desc = some sig → argsL.length = sig.parameters.length) (hsz : L.size = maxL) (hW : (r.map fun v => v.category).sum ≤ W) (hf : rm.frames + 1 ≤ R.frames) (hlo : W + (mx + 11) + rm.locals ≤ R.locals) (hce : k + rm.cells ≤ R.cells) (hsl : n + rm.slots ≤ R.slots) (hp : pc + 3 = pc') (kk : ∀ T' h' v, Q' v h' → On p l e R s m args below meth c n0 T' h' (k + rm.cells) (n + rm.slots) → Gl p e below s R n0 Q T' (mkF m pc' L (v.toList ++ r))) : Gl p e below s R n0 Q T (mkF m pc L stk) := by
  obtain ⟨locs, X, N, eh⟩ := S; subst hp
  obtain ⟨v, vm1, ⟨T', L1, k1, n1⟩, -, X', ⟨Lc, hQ, l', y', z'⟩, st⟩ := X.specialBack C.1 (y := y) hy1 C.2.2.2.2.1 (mvT C.2.1 w1) (mvT C.2.1 w2) (mvT C.2.1 w4) hy (backOf (W := W) (Q := fun v h L => Q' v h ∧ Fr n0 L) (K []) C.2.1 w4 w3 hf hlo) (g := mkF m pc L stk) rfl (hsz.trans C.2.2.2.1.symm) (Steps.refl _) (a := a) (argsL := argsL) (rest := r) hlen hst (by simpa using hW) (hb C.2.2.1 hd) (fun _ _ => ⟨rfl, eh, hce, hsl⟩)
  dsimp only [Pt.U, Pt.locs, Pt.cells, Pt.slots] at X' st hQ l' y' z'
  subst l' y' z'
  exact (kk T' T'.heap v hQ.1 ⟨_, X', N.app hQ.2, rfl⟩).st fun _ q => st.trans q
theorem g_callV (C : Cx p s m meth c Z own name cod maxL ret) (S : On p l e R s m args below meth c n0 T h k n) {K : String} {y z : MethodName} {bytes : ByteArray} {mx i W : Nat} {rt : Option FieldType} {rm : Room} {Q' : Option Value → Heap → Prop} {argsL stk : List Value} (hd : decode cod pc = .ok (.invokevirtual i, 3)) (w1 : (Jvm.Cond.methodLink own i y).before a0 Z = true) (w2 : (Jvm.Cond.declares y).before a0 Z = true) (hnf : NotFace s y) (w5 : (Jvm.Cond.selects K y z).before a0 Z = true) (w6 : (Jvm.Cond.instanceMethod z).before a0 Z = true) (w3 : (Jvm.Cond.initialized z.cls).before a0 Z = true) (w4 : (Jvm.Cond.code z bytes mx rt).before a0 Z = true) (hy : y.cls ≠ "java/lang/invoke/MethodHandle" ∧ y.cls ≠ "java/lang/invoke/VarHandle") (hyK : y.cls = K) (E : Exa Z h a K) (Kc : Con l Z z bytes mx rt rm (.ref a :: argsL).toArray h n0 Q') (hst : stk = argsL.reverse ++ .ref a :: r) (hlen : ∀ sig, parseMethodDescriptor y.desc = some sig → argsL.length = sig.parameters.length) (hsz : L.size = maxL) (hW : (r.map fun v => v.category).sum ≤ W) (hf : rm.frames + 1 ≤ R.frames) (hlo : W + (mx + 11) + rm.locals ≤ R.locals) (hce : k + rm.cells ≤ R.cells) (hsl : n + rm.slots ≤ R.slots) (hp : pc + 3 = pc') (kk : ∀ T' h' v, Q' v h' → On p l e R s m args below meth c n0 T' h' (k + rm.cells) (n + rm.slots) → Gl p e below s R n0 Q T' (mkF m pc' L (v.toList ++ r))) : Gl p e below s R n0 Q T (mkF m pc L stk) := by
  obtain ⟨locs, X, N, eh⟩ := S; subst hp hyK
  obtain ⟨cq, kq, qa, qb, qc⟩ := isOf C.2.1 eh E
  obtain ⟨v, vm1, ⟨T', L1, k1, n1⟩, -, X', ⟨Lc, hQ, l', y', z'⟩, st⟩ := X.virtualBack C.1 (y := y) (z := z) C.2.2.2.2.1 (mvT C.2.1 w1) (mvT C.2.1 w2) hnf (mvT C.2.1 w5) (mvT C.2.1 w6) hy (backOf (W := W) (Q := fun v h L => Q' v h ∧ Fr n0 L) (Kc []) C.2.1 w4 w3 hf hlo) qa qc (g := mkF m pc L stk) rfl (hsz.trans C.2.2.2.1.symm) (Steps.refl _) (argsL := argsL) (rest := r) hlen hst (by simpa using hW) (hb C.2.2.1 hd) (fun _ _ => ⟨rfl, eh, hce, hsl⟩)
  dsimp only [Pt.U, Pt.locs, Pt.cells, Pt.slots] at X' st hQ l' y' z'
  subst l' y' z'
  exact (kk T' T'.heap v hQ.1 ⟨_, X', N.app hQ.2, rfl⟩).st fun _ q => st.trans q
theorem g_callP (C : Cx p s m meth c Z own name cod maxL ret) (S : On p l e R s m args below meth c n0 T h k n) {y : MethodName} {bytes : ByteArray} {mx i W sz : Nat} {rt : Option FieldType} {rm : Room} {Q' : Option Value → Heap → Prop} {argsL stk : List Value} (hd : decode cod pc = .ok (.invokevirtual i, 3)) (w1 : (Jvm.Cond.methodLink own i y).before a0 Z = true) (w2 : (Jvm.Cond.instanceMethod y).before a0 Z = true) (wp : (Jvm.Cond.privateMethod y).before a0 Z = true) (wi : (Jvm.Cond.instantiable y.cls sz).before a0 Z = true) (w3 : (Jvm.Cond.initialized y.cls).before a0 Z = true) (w4 : (Jvm.Cond.code y bytes mx rt).before a0 Z = true) (hy : y.cls ≠ "java/lang/invoke/MethodHandle" ∧ y.cls ≠ "java/lang/invoke/VarHandle") (E : Exa Z h a y.cls) (Kc : Con l Z y bytes mx rt rm (.ref a :: argsL).toArray h n0 Q') (hst : stk = argsL.reverse ++ .ref a :: r) (hlen : ∀ sig, parseMethodDescriptor y.desc = some sig → argsL.length = sig.parameters.length) (hsz : L.size = maxL) (hW : (r.map fun v => v.category).sum ≤ W) (hf : rm.frames + 1 ≤ R.frames) (hlo : W + (mx + 11) + rm.locals ≤ R.locals) (hce : k + rm.cells ≤ R.cells) (hsl : n + rm.slots ≤ R.slots) (hp : pc + 3 = pc') (kk : ∀ T' h' v, Q' v h' → On p l e R s m args below meth c n0 T' h' (k + rm.cells) (n + rm.slots) → Gl p e below s R n0 Q T' (mkF m pc' L (v.toList ++ r))) : Gl p e below s R n0 Q T (mkF m pc L stk) := by
  obtain ⟨locs, X, N, eh⟩ := S; subst hp
  obtain ⟨cq, q1, q2⟩ := E.cell
  obtain ⟨c0, k0, i1, i2, i3, i4, -⟩ := Cond.instantiable_spec (mvT (s := s) (args := args) C.2.1 wi)
  have hpr := Cond.privateMethod_at (mvP (s := s) (args := args) C.2.1 wp)
  have hs := selects_self_of_private (args := args) i1 i2 (Bool.or_eq_false_iff.mp i4).1 hpr (mvT C.2.1 w2) hy
  obtain ⟨v, vm1, ⟨T', L1, k1, n1⟩, -, X', ⟨Lc, hQ, l', y', z'⟩, st⟩ := X.privateBack C.1 (y := y) C.2.2.2.2.1 (mvT C.2.1 w1) (mvT C.2.1 w2) hs hpr (mvT C.2.1 w4) hy (backOf (W := W) (Q := fun v h L => Q' v h ∧ Fr n0 L) (Kc []) C.2.1 w4 w3 hf hlo) (g := mkF m pc L stk) rfl (hsz.trans C.2.2.2.1.symm) (Steps.refl _) (a := a) (by rw [eh]; exact q1) q2 (argsL := argsL) (rest := r) hlen hst (by simpa using hW) (hb C.2.2.1 hd) (fun _ _ => ⟨rfl, eh, hce, hsl⟩)
  dsimp only [Pt.U, Pt.locs, Pt.cells, Pt.slots] at X' st hQ l' y' z'
  subst l' y' z'
  exact (kk T' T'.heap v hQ.1 ⟨_, X', N.app hQ.2, rfl⟩).st fun _ q => st.trans q
/-- an array: its length and what each place holds -/
def Ary (Z : State) (h : Heap) (a : Addr) (ty : FieldType) (n : Nat) (f : Nat → Value) : Prop := ∃ c : Cell, Arr Z h a c ty ∧ c.slots.size = n ∧ ∀ i, i < n → c.slots[i]? = some (f i)
variable {ty : FieldType} {N i : Nat} {f : Nat → Value} {v : Value} {sl : Nat} {j x : Int32} {ws : List Addr}
theorem Ary.lt (A : Ary Z h a ty N f) : a < h.size := by obtain ⟨c, A, -⟩ := A; exact A.lt
theorem Ary.ext (A : Ary Z h a ty N f) (E : Ext h h') : Ary Z h' a ty N f := by obtain ⟨c, A, q⟩ := A; exact ⟨c, A.ext E, q⟩
theorem Ary.other (A : Ary Z h a ty N f) (W : Wr h h' b sl v) (q : a ≠ b) : Ary Z h' a ty N f := by obtain ⟨c, A, z⟩ := A; exact ⟨c, A.other W q, z⟩
theorem Ary.keep (A : Ary Z h a ty N f) (K : Keep h h' ws) (q : a ∉ ws) : Ary Z h' a ty N f := by obtain ⟨c, A, z⟩ := A; exact ⟨c, ⟨K.2.1 a c A.1 q, A.2⟩, z⟩
theorem Ary.cg {f' : Nat → Value} (A : Ary Z h a ty N f) (q : ∀ i, i < N → f i = f' i) : Ary Z h a ty N f' := by obtain ⟨c, A, s, z⟩ := A; exact ⟨c, A, s, fun i hi => by rw [← q i hi]; exact z i hi⟩
theorem Ary.same (A : Ary Z h a ty N f) (W : Wr h h' a i v) : Ary Z h' a ty N (fun q => if q = i then v else f q) := by
  obtain ⟨c, A, s, z⟩ := A
  refine ⟨_, A.same W, by rw [sz_set]; exact s, fun q hq => ?_⟩
  by_cases u : q = i
  · subst u; simp [Cell.setSlot, s, hq]
  · simp only [u, if_false]; simp only [Cell.setSlot]; rw [Array.getElem?_setIfInBounds_ne (fun w => u w.symm)]; exact z q hq
theorem idx_nat {c : Cell} (hj : j.toInt = (i : Int)) (hi : i < c.slots.size) : ¬ (j < 0 ∨ c.slots.size ≤ j.toNatClampNeg) ∧ j.toNatClampNeg = i := by
  have e : j.toNatClampNeg = i := by simp only [Int32.toNatClampNeg, hj]; omega
  refine ⟨?_, e⟩
  rw [e, Int32.lt_iff_toInt_lt, hj]
  have : (0 : Int32).toInt = 0 := rfl
  omega
theorem g_iaload (C : Cx p s m meth c Z own name cod maxL ret) (S : On p l e R s m args below meth c n0 T h k n) (hd : decode cod pc = .ok (.iaload, 1)) (A : Ary Z h a .int N f) (hj : j.toInt = (i : Int)) (hi : i < N) (hv : f i = v) (hp : pc + 1 = pc') (kk : Gl p e below s R n0 Q T (mkF m pc' L (v :: r))) : Gl p e below s R n0 Q T (mkF m pc L (.int j :: .ref a :: r)) := by
  obtain ⟨locs, X, N, eh⟩ := S; subst hp
  obtain ⟨cl, A, sz, z⟩ := A
  obtain ⟨q1, q2⟩ := idx_nat (c := cl) hj (by rw [sz]; exact hi)
  exact kk.st fun t q => X.iaload (g := mkF m pc L (.int j :: .ref a :: r)) C.1 (by rw [eh]; exact A.1) (State.isArrayOf_alike C.2.1.alike A.2.1) A.2.2 q1 (by rw [q2, ← hv]; exact z i hi) rfl rfl (hb C.2.2.1 hd) t q
theorem g_laload (C : Cx p s m meth c Z own name cod maxL ret) (S : On p l e R s m args below meth c n0 T h k n) (hd : decode cod pc = .ok (.laload, 1)) (A : Ary Z h a .long N f) (hj : j.toInt = (i : Int)) (hi : i < N) (hv : f i = v) (hp : pc + 1 = pc') (kk : Gl p e below s R n0 Q T (mkF m pc' L (v :: r))) : Gl p e below s R n0 Q T (mkF m pc L (.int j :: .ref a :: r)) := by
  obtain ⟨locs, X, N, eh⟩ := S; subst hp
  obtain ⟨cl, A, sz, z⟩ := A
  obtain ⟨q1, q2⟩ := idx_nat (c := cl) hj (by rw [sz]; exact hi)
  exact kk.st fun t q => X.laload (g := mkF m pc L (.int j :: .ref a :: r)) C.1 (by rw [eh]; exact A.1) (State.isArrayOf_alike C.2.1.alike A.2.1) A.2.2 q1 (by rw [q2, ← hv]; exact z i hi) rfl rfl (hb C.2.2.1 hd) t q
theorem g_caload (C : Cx p s m meth c Z own name cod maxL ret) (S : On p l e R s m args below meth c n0 T h k n) (hd : decode cod pc = .ok (.caload, 1)) (A : Ary Z h a .char N f) (hj : j.toInt = (i : Int)) (hi : i < N) (hv : f i = v) (hp : pc + 1 = pc') (kk : Gl p e below s R n0 Q T (mkF m pc' L (v :: r))) : Gl p e below s R n0 Q T (mkF m pc L (.int j :: .ref a :: r)) := by
  obtain ⟨locs, X, N, eh⟩ := S; subst hp
  obtain ⟨cl, A, sz, z⟩ := A
  obtain ⟨q1, q2⟩ := idx_nat (c := cl) hj (by rw [sz]; exact hi)
  exact kk.st fun t q => X.caload (g := mkF m pc L (.int j :: .ref a :: r)) C.1 (by rw [eh]; exact A.1) (State.isArrayOf_alike C.2.1.alike A.2.1) A.2.2 q1 (by rw [q2, ← hv]; exact z i hi) rfl rfl (hb C.2.2.1 hd) t q
theorem g_saload (C : Cx p s m meth c Z own name cod maxL ret) (S : On p l e R s m args below meth c n0 T h k n) (hd : decode cod pc = .ok (.saload, 1)) (A : Ary Z h a .short N f) (hj : j.toInt = (i : Int)) (hi : i < N) (hv : f i = v) (hp : pc + 1 = pc') (kk : Gl p e below s R n0 Q T (mkF m pc' L (v :: r))) : Gl p e below s R n0 Q T (mkF m pc L (.int j :: .ref a :: r)) := by
  obtain ⟨locs, X, N, eh⟩ := S; subst hp
  obtain ⟨cl, A, sz, z⟩ := A
  obtain ⟨q1, q2⟩ := idx_nat (c := cl) hj (by rw [sz]; exact hi)
  exact kk.st fun t q => X.saload (g := mkF m pc L (.int j :: .ref a :: r)) C.1 (by rw [eh]; exact A.1) (State.isArrayOf_alike C.2.1.alike A.2.1) A.2.2 q1 (by rw [q2, ← hv]; exact z i hi) rfl rfl (hb C.2.2.1 hd) t q
theorem g_baloadB (C : Cx p s m meth c Z own name cod maxL ret) (S : On p l e R s m args below meth c n0 T h k n) (hd : decode cod pc = .ok (.baload, 1)) (A : Ary Z h a .byte N f) (hj : j.toInt = (i : Int)) (hi : i < N) (hv : f i = v) (hp : pc + 1 = pc') (kk : Gl p e below s R n0 Q T (mkF m pc' L (v :: r))) : Gl p e below s R n0 Q T (mkF m pc L (.int j :: .ref a :: r)) := by
  obtain ⟨locs, X, N, eh⟩ := S; subst hp
  obtain ⟨cl, A, sz, z⟩ := A
  obtain ⟨q1, q2⟩ := idx_nat (c := cl) hj (by rw [sz]; exact hi)
  exact kk.st fun t q => X.baloadBytes (g := mkF m pc L (.int j :: .ref a :: r)) C.1 (by rw [eh]; exact A.1) (State.isArrayOf_alike C.2.1.alike A.2.1) A.2.2 q1 (by rw [q2, ← hv]; exact z i hi) rfl rfl (hb C.2.2.1 hd) t q
theorem g_baloadZ (C : Cx p s m meth c Z own name cod maxL ret) (S : On p l e R s m args below meth c n0 T h k n) (hd : decode cod pc = .ok (.baload, 1)) (A : Ary Z h a .boolean N f) (hj : j.toInt = (i : Int)) (hi : i < N) (hv : f i = v) (hp : pc + 1 = pc') (kk : Gl p e below s R n0 Q T (mkF m pc' L (v :: r))) : Gl p e below s R n0 Q T (mkF m pc L (.int j :: .ref a :: r)) := by
  obtain ⟨locs, X, N, eh⟩ := S; subst hp
  obtain ⟨cl, A, sz, z⟩ := A
  obtain ⟨q1, q2⟩ := idx_nat (c := cl) hj (by rw [sz]; exact hi)
  exact kk.st fun t q => X.baloadBooleans (g := mkF m pc L (.int j :: .ref a :: r)) C.1 (by rw [eh]; exact A.1) (State.isArrayOf_alike C.2.1.alike A.2.1) A.2.2 q1 (by rw [q2, ← hv]; exact z i hi) rfl rfl (hb C.2.2.1 hd) t q
theorem g_daload (C : Cx p s m meth c Z own name cod maxL ret) (S : On p l e R s m args below meth c n0 T h k n) (hd : decode cod pc = .ok (.daload, 1)) (A : Ary Z h a .double N f) (hj : j.toInt = (i : Int)) (hi : i < N) (hv : f i = v) (hp : pc + 1 = pc') (kk : Gl p e below s R n0 Q T (mkF m pc' L (v :: r))) : Gl p e below s R n0 Q T (mkF m pc L (.int j :: .ref a :: r)) := by
  obtain ⟨locs, X, N, eh⟩ := S; subst hp
  obtain ⟨cl, A, sz, z⟩ := A
  obtain ⟨q1, q2⟩ := idx_nat (c := cl) hj (by rw [sz]; exact hi)
  exact kk.st fun t q => X.daload (g := mkF m pc L (.int j :: .ref a :: r)) C.1 (by rw [eh]; exact A.1) (State.isArrayOf_alike C.2.1.alike A.2.1) A.2.2 q1 (by rw [q2, ← hv]; exact z i hi) rfl rfl (hb C.2.2.1 hd) t q
theorem g_aaload (C : Cx p s m meth c Z own name cod maxL ret) (S : On p l e R s m args below meth c n0 T h k n) (hd : decode cod pc = .ok (.aaload, 1)) (A : Ary Z h a ty N f) (hty : ty.isReference = true) (hj : j.toInt = (i : Int)) (hi : i < N) (hv : f i = v) (hp : pc + 1 = pc') (kk : Gl p e below s R n0 Q T (mkF m pc' L (v :: r))) : Gl p e below s R n0 Q T (mkF m pc L (.int j :: .ref a :: r)) := by
  obtain ⟨locs, X, N, eh⟩ := S; subst hp
  obtain ⟨cl, A, sz, z⟩ := A
  obtain ⟨q1, q2⟩ := idx_nat (c := cl) hj (by rw [sz]; exact hi)
  exact kk.st fun t q => X.aaload (g := mkF m pc L (.int j :: .ref a :: r)) C.1 (by rw [eh]; exact A.1) (State.isArrayOf_alike C.2.1.alike A.2.1) hty A.2.2 q1 (by rw [q2, ← hv]; exact z i hi) rfl rfl (hb C.2.2.1 hd) t q
theorem g_arraylength (C : Cx p s m meth c Z own name cod maxL ret) (S : On p l e R s m args below meth c n0 T h k n) (hd : decode cod pc = .ok (.arraylength, 1)) (A : Ary Z h a ty N f) (hx : N.toInt32 = x) (hp : pc + 1 = pc') (kk : Gl p e below s R n0 Q T (mkF m pc' L (.int x :: r))) : Gl p e below s R n0 Q T (mkF m pc L (.ref a :: r)) := by
  obtain ⟨locs, X, _, eh⟩ := S; subst hp
  obtain ⟨cl, A, sz, z⟩ := A
  subst hx
  rw [← sz] at kk
  exact kk.st fun t q => X.arraylength (g := mkF m pc L (.ref a :: r)) C.1 (by rw [eh]; exact A.1) (State.isArrayOf_alike C.2.1.alike A.2.1) rfl rfl (hb C.2.2.1 hd) t q
theorem g_iastore (C : Cx p s m meth c Z own name cod maxL ret) (S : On p l e R s m args below meth c n0 T h k n) {y : Int32} (hd : decode cod pc = .ok (.iastore, 1)) (A : Ary Z h a .int N f) (hj : j.toInt = (i : Int)) (hi : i < N) (ga : n0 ≤ a) (hp : pc + 1 = pc') (kk : ∀ T' h', On p l e R s m args below meth c n0 T' h' k n → Wr h h' a i (.int y) → Ary Z h' a .int N (fun q => if q = i then .int y else f q) → Gl p e below s R n0 Q T' (mkF m pc' L r)) : Gl p e below s R n0 Q T (mkF m pc L (.int y :: .int j :: .ref a :: r)) := by
  obtain ⟨locs, X, N, eh⟩ := S; subst hp
  have A0 := A
  obtain ⟨cl, A, sz, z⟩ := A
  obtain ⟨q1, q2⟩ := idx_nat (c := cl) hj (by rw [sz]; exact hi)
  obtain ⟨T', h', X', eT, W, st⟩ := stI X C.1 C.2.1 eh A q1 (g := mkF m pc L (.int y :: .int j :: .ref a :: r)) rfl rfl (hb C.2.2.1 hd)
  have N' := Fr.snoc X' N ga
  rw [q2] at W
  exact (kk T' h' ⟨_, X', N', eT⟩ W (A0.same W)).st st
theorem g_lastore (C : Cx p s m meth c Z own name cod maxL ret) (S : On p l e R s m args below meth c n0 T h k n) {y : Int64} (hd : decode cod pc = .ok (.lastore, 1)) (A : Ary Z h a .long N f) (hj : j.toInt = (i : Int)) (hi : i < N) (ga : n0 ≤ a) (hp : pc + 1 = pc') (kk : ∀ T' h', On p l e R s m args below meth c n0 T' h' k n → Wr h h' a i (.long y) → Ary Z h' a .long N (fun q => if q = i then .long y else f q) → Gl p e below s R n0 Q T' (mkF m pc' L r)) : Gl p e below s R n0 Q T (mkF m pc L (.long y :: .int j :: .ref a :: r)) := by
  obtain ⟨locs, X, N, eh⟩ := S; subst hp
  have A0 := A
  obtain ⟨cl, A, sz, z⟩ := A
  obtain ⟨q1, q2⟩ := idx_nat (c := cl) hj (by rw [sz]; exact hi)
  obtain ⟨T', h', X', eT, W, st⟩ := stJ X C.1 C.2.1 eh A q1 (g := mkF m pc L (.long y :: .int j :: .ref a :: r)) rfl rfl (hb C.2.2.1 hd)
  have N' := Fr.snoc X' N ga
  rw [q2] at W
  exact (kk T' h' ⟨_, X', N', eT⟩ W (A0.same W)).st st
theorem g_castore (C : Cx p s m meth c Z own name cod maxL ret) (S : On p l e R s m args below meth c n0 T h k n) {y : Int32} (hd : decode cod pc = .ok (.castore, 1)) (A : Ary Z h a .char N f) (hj : j.toInt = (i : Int)) (hi : i < N) (ga : n0 ≤ a) (hp : pc + 1 = pc') (kk : ∀ T' h', On p l e R s m args below meth c n0 T' h' k n → Wr h h' a i (.int (nar .char y)) → Ary Z h' a .char N (fun q => if q = i then .int (nar .char y) else f q) → Gl p e below s R n0 Q T' (mkF m pc' L r)) : Gl p e below s R n0 Q T (mkF m pc L (.int y :: .int j :: .ref a :: r)) := by
  obtain ⟨locs, X, N, eh⟩ := S; subst hp
  have A0 := A
  obtain ⟨cl, A, sz, z⟩ := A
  obtain ⟨q1, q2⟩ := idx_nat (c := cl) hj (by rw [sz]; exact hi)
  obtain ⟨T', h', X', eT, W, st⟩ := stC X C.1 C.2.1 eh A q1 (g := mkF m pc L (.int y :: .int j :: .ref a :: r)) rfl rfl (hb C.2.2.1 hd)
  have N' := Fr.snoc X' N ga
  rw [q2] at W
  exact (kk T' h' ⟨_, X', N', eT⟩ W (A0.same W)).st st
theorem g_bastoreB (C : Cx p s m meth c Z own name cod maxL ret) (S : On p l e R s m args below meth c n0 T h k n) {y : Int32} (hd : decode cod pc = .ok (.bastore, 1)) (A : Ary Z h a .byte N f) (hj : j.toInt = (i : Int)) (hi : i < N) (ga : n0 ≤ a) (hp : pc + 1 = pc') (kk : ∀ T' h', On p l e R s m args below meth c n0 T' h' k n → Wr h h' a i (.int (nar .byte y)) → Ary Z h' a .byte N (fun q => if q = i then .int (nar .byte y) else f q) → Gl p e below s R n0 Q T' (mkF m pc' L r)) : Gl p e below s R n0 Q T (mkF m pc L (.int y :: .int j :: .ref a :: r)) := by
  obtain ⟨locs, X, N, eh⟩ := S; subst hp
  have A0 := A
  obtain ⟨cl, A, sz, z⟩ := A
  obtain ⟨q1, q2⟩ := idx_nat (c := cl) hj (by rw [sz]; exact hi)
  obtain ⟨T', h', X', eT, W, st⟩ := stB X C.1 C.2.1 eh A q1 (g := mkF m pc L (.int y :: .int j :: .ref a :: r)) rfl rfl (hb C.2.2.1 hd)
  have N' := Fr.snoc X' N ga
  rw [q2] at W
  exact (kk T' h' ⟨_, X', N', eT⟩ W (A0.same W)).st st
theorem g_bastoreZ (C : Cx p s m meth c Z own name cod maxL ret) (S : On p l e R s m args below meth c n0 T h k n) {y : Int32} (hd : decode cod pc = .ok (.bastore, 1)) (A : Ary Z h a .boolean N f) (hj : j.toInt = (i : Int)) (hi : i < N) (ga : n0 ≤ a) (hp : pc + 1 = pc') (kk : ∀ T' h', On p l e R s m args below meth c n0 T' h' k n → Wr h h' a i (.int (nar .boolean y)) → Ary Z h' a .boolean N (fun q => if q = i then .int (nar .boolean y) else f q) → Gl p e below s R n0 Q T' (mkF m pc' L r)) : Gl p e below s R n0 Q T (mkF m pc L (.int y :: .int j :: .ref a :: r)) := by
  obtain ⟨locs, X, N, eh⟩ := S; subst hp
  have A0 := A
  obtain ⟨cl, A, sz, z⟩ := A
  obtain ⟨q1, q2⟩ := idx_nat (c := cl) hj (by rw [sz]; exact hi)
  obtain ⟨T', h', X', eT, W, st⟩ := stZ X C.1 C.2.1 eh A q1 (g := mkF m pc L (.int y :: .int j :: .ref a :: r)) rfl rfl (hb C.2.2.1 hd)
  have N' := Fr.snoc X' N ga
  rw [q2] at W
  exact (kk T' h' ⟨_, X', N', eT⟩ W (A0.same W)).st st
theorem g_dastore (C : Cx p s m meth c Z own name cod maxL ret) (S : On p l e R s m args below meth c n0 T h k n) {y : UInt64} (hd : decode cod pc = .ok (.dastore, 1)) (A : Ary Z h a .double N f) (hj : j.toInt = (i : Int)) (hi : i < N) (ga : n0 ≤ a) (hp : pc + 1 = pc') (kk : ∀ T' h', On p l e R s m args below meth c n0 T' h' k n → Wr h h' a i (.double y) → Ary Z h' a .double N (fun q => if q = i then .double y else f q) → Gl p e below s R n0 Q T' (mkF m pc' L r)) : Gl p e below s R n0 Q T (mkF m pc L (.double y :: .int j :: .ref a :: r)) := by
  obtain ⟨locs, X, N, eh⟩ := S; subst hp
  have A0 := A
  obtain ⟨cl, A, sz, z⟩ := A
  obtain ⟨q1, q2⟩ := idx_nat (c := cl) hj (by rw [sz]; exact hi)
  obtain ⟨T', h', X', eT, W, st⟩ := stD X C.1 C.2.1 eh A q1 (g := mkF m pc L (.double y :: .int j :: .ref a :: r)) rfl rfl (hb C.2.2.1 hd)
  have N' := Fr.snoc X' N ga
  rw [q2] at W
  exact (kk T' h' ⟨_, X', N', eT⟩ W (A0.same W)).st st
theorem g_newarray (C : Cx p s m meth c Z own name cod maxL ret) (S : On p l e R s m args below meth c n0 T h k n) {aty : ArrayType} {cap : Nat} (hd : decode cod pc = .ok (.newarray aty, 2)) (w : (Jvm.Cond.arrayClass (newarray.typeOf aty)).before a0 Z = true) (hj : j.toInt = (N : Int)) (hcap : N ≤ cap) (hbig : cap * 8 ≤ 536870912) (hc : k + 1 ≤ R.cells) (hl : n + cap ≤ R.slots) (hp : pc + 2 = pc') (kk : ∀ T' h' a, On p l e R s m args below meth c n0 T' h' (k + 1) (n + cap) → a = h.size → Ext h h' → Ary Z h' a (newarray.typeOf aty) N (fun _ => defaultValue (newarray.typeOf aty)) → Gl p e below s R n0 Q T' (mkF m pc' L (.ref a :: r))) : Gl p e below s R n0 Q T (mkF m pc L (.int j :: r)) := by
  obtain ⟨locs, X, Nn, eh⟩ := S; subst hp
  have e1 : j.toNatClampNeg = N := by simp only [Int32.toNatClampNeg, hj]; omega
  have e2 : ¬ j < 0 := by rw [Int32.lt_iff_toInt_lt, hj]; have : (0 : Int32).toInt = 0 := rfl; omega
  obtain ⟨T', h', cA, X', eT, E, A, st⟩ := newP X C.1 C.2.1 w eh (g := mkF m pc L (.int j :: r)) rfl (hb C.2.2.1 hd) rfl e2 (cap := cap) (by rw [e1]; exact hcap) hbig hc hl
  refine (kk T' h' h.size ⟨_, X', Nn, eT⟩ rfl E ⟨_, A, by rw [sz_new]; exact e1, fun i hi => ?_⟩).st st
  simp [newA, e1, hi]
def OvH (Z : State) (h : Heap) (a : Addr) (ty : FieldType) (K : String) : Prop := ∃ cl t0, Arr Z h a cl t0 ∧ OvrA Z cl.cls ty K
theorem OvH.ext {K : String} (F : OvH Z h a ty K) (E : Ext h h') : OvH Z h' a ty K := by obtain ⟨cl, t0, A, o⟩ := F; exact ⟨cl, t0, A.ext E, o⟩
theorem OvH.wr {K : String} (F : OvH Z h a ty K) (W : Wr h h' b sl v) : OvH Z h' a ty K := by
  obtain ⟨cl, t0, A, o⟩ := F
  by_cases e : a = b
  · subst e; exact ⟨_, t0, A.same W, o⟩
  · exact ⟨cl, t0, A.other W e, o⟩
theorem OvH.sto {K : String} {y : Addr} (F : OvH Z h a ty K) (I : Exa Z h y K) : Sto Z h a (.ref y) := by obtain ⟨cl, t0, A, o⟩ := F; exact Sto.ofVA A rfl o (Ins.self I)
theorem g_newarrayX (C : Cx p s m meth c Z own name cod maxL ret) (S : On p l e R s m args below meth c n0 T h k n) {aty : ArrayType} {cap : Nat} (hd : decode cod pc = .ok (.newarray aty, 2)) (w : (Jvm.Cond.arrayClass (newarray.typeOf aty)).before a0 Z = true) (hj : j.toInt = (N : Int)) (hcap : N ≤ cap) (hbig : cap * 8 ≤ 536870912) (hc : k + 1 ≤ R.cells) (hl : n + cap ≤ R.slots) (hp : pc + 2 = pc') (kk : ∀ T' h' a, On p l e R s m args below meth c n0 T' h' (k + 1) (n + cap) → a = h.size → Ext h h' → Ary Z h' a (newarray.typeOf aty) N (fun _ => defaultValue (newarray.typeOf aty)) → Exa Z h' a ("[" ++ (newarray.typeOf aty).toString) → Gl p e below s R n0 Q T' (mkF m pc' L (.ref a :: r))) : Gl p e below s R n0 Q T (mkF m pc L (.int j :: r)) := by
  obtain ⟨locs, X, Nn, eh⟩ := S; subst hp
  have e1 : j.toNatClampNeg = N := by simp only [Int32.toNatClampNeg, hj]; omega
  have e2 : ¬ j < 0 := by rw [Int32.lt_iff_toInt_lt, hj]; have : (0 : Int32).toInt = 0 := rfl; omega
  obtain ⟨T', h', cA, X', eT, E, A, B, st⟩ := newPE X C.1 C.2.1 w eh (g := mkF m pc L (.int j :: r)) rfl (hb C.2.2.1 hd) rfl e2 (cap := cap) (by rw [e1]; exact hcap) hbig hc hl rfl
  refine (kk T' h' h.size ⟨_, X', Nn, eT⟩ rfl E ⟨_, A, by rw [sz_new]; exact e1, fun i hi => ?_⟩ B).st st
  simp [newA, e1, hi]
theorem g_anewarrayA (C : Cx p s m meth c Z own name cod maxL ret) (S : On p l e R s m args below meth c n0 T h k n) {K : String} {q cap : Nat} (hd : decode cod pc = .ok (.anewarray q, 3)) (hK : (FieldType.array ty).toString = K) (w : (Jvm.Cond.classLink own q K).before a0 Z = true) (w2 : (Jvm.Cond.arrayOver (.array ty)).before a0 Z = true) (hj : j.toInt = (N : Int)) (hcap : N ≤ cap) (hbig : cap * 8 ≤ 536870912) (hc : k + 1 ≤ R.cells) (hl : n + cap ≤ R.slots) (hp : pc + 3 = pc') (kk : ∀ T' h' a, On p l e R s m args below meth c n0 T' h' (k + 1) (n + cap) → a = h.size → Ext h h' → Ary Z h' a (.array ty) N (fun _ => .null) → OvH Z h' a ty K → Gl p e below s R n0 Q T' (mkF m pc' L (.ref a :: r))) : Gl p e below s R n0 Q T (mkF m pc L (.int j :: r)) := by
  obtain ⟨locs, X, Nn, eh⟩ := S; subst hp
  have e1 : j.toNatClampNeg = N := by simp only [Int32.toNatClampNeg, hj]; omega
  have e2 : ¬ j < 0 := by rw [Int32.lt_iff_toInt_lt, hj]; have : (0 : Int32).toInt = 0 := rfl; omega
  obtain ⟨T', h', cA, X', eT, E, A, -, o, st⟩ := newRA X C.1 C.2.1 C.2.2.2.2.1 hK w w2 eh (g := mkF m pc L (.int j :: r)) rfl (hb C.2.2.1 hd) rfl e2 (cap := cap) (by rw [e1]; exact hcap) hbig hc hl rfl
  refine (kk T' h' h.size ⟨_, X', Nn, eT⟩ rfl E ⟨_, A, by rw [sz_new]; exact e1, fun i hi => ?_⟩ ⟨_, _, A, o⟩).st st
  simp [newA, e1, hi, defaultValue]
theorem g_aastore (C : Cx p s m meth c Z own name cod maxL ret) (S : On p l e R s m args below meth c n0 T h k n) (hd : decode cod pc = .ok (.aastore, 1)) (A : Ary Z h a ty N f) (hty : ty.isReference = true) (F : Sto Z h a v) (hj : j.toInt = (i : Int)) (hi : i < N) (ga : n0 ≤ a) (hp : pc + 1 = pc') (kk : ∀ T' h', On p l e R s m args below meth c n0 T' h' k n → Wr h h' a i v → Ary Z h' a ty N (fun q => if q = i then v else f q) → Gl p e below s R n0 Q T' (mkF m pc' L r)) : Gl p e below s R n0 Q T (mkF m pc L (v :: .int j :: .ref a :: r)) := by
  obtain ⟨locs, X, N, eh⟩ := S; subst hp
  have A0 := A
  obtain ⟨cl, A, sz, z⟩ := A
  obtain ⟨q1, q2⟩ := idx_nat (c := cl) hj (by rw [sz]; exact hi)
  obtain ⟨T', h', X', eT, W, st⟩ := stR X C.1 C.2.1 eh A q1 hty F (g := mkF m pc L (v :: .int j :: .ref a :: r)) rfl rfl (hb C.2.2.1 hd)
  have N' := Fr.snoc X' N ga
  rw [q2] at W
  exact (kk T' h' ⟨_, X', N', eT⟩ W (A0.same W)).st st
theorem ge_of {z : Nat} (e1 : a = z) (q : n0 ≤ z) : n0 ≤ a := e1 ▸ q
theorem ne_new (e1 : b = h.size) (q : a < h.size) : a ≠ b := fun e => by rw [e, e1] at q; exact Nat.lt_irrefl _ q
end OwnKit
/-! ## HuffmanCode in plain numbers: l i the length of the i-th value, V i the value, n how many -/
def hCnt (l : Nat → Nat) : Nat → Nat → Nat
  | 0, _ => 0
  | i + 1, L => hCnt l i L + (if L = l i then 1 else 0)
def hLng (l : Nat → Nat) : Nat → Nat
  | 0 => 0
  | i + 1 => if hLng l i < l i then l i else hLng l i
def hFs (c : Nat → Nat) : Nat → Nat
  | 0 => 0
  | L + 1 => hFs c L + c L
def hFc (c : Nat → Nat) : Nat → Int64
  | 0 => 0
  | L + 1 => (hFc c L + (Int32.ofNat (c L)).toInt64) <<< ((1 : Int32) &&& 0x3f).toInt64
def hPos (l : Nat → Nat) (n i : Nat) : Nat := hFs (hCnt l n) (l i) + hCnt l i (l i)
def hSid (l : Nat → Nat) (n : Nat) : Nat → Nat → Nat
  | 0, _ => n
  | i + 1, q => if q = hPos l n i then i else hSid l n i q
def hCk (c : Nat → Nat) : Nat → Nat → Int → Int → Bool
  | 0, _, _, left => decide (left = 0)
  | d + 1, L, free, left => decide (0 ≤ (if 0 < L then 2 * free else free) - (c L : Int)) && decide ((if 0 < L then 2 * free else free) - (c L : Int) ≤ left - (c L : Int)) && hCk c d (L + 1) ((if 0 < L then 2 * free else free) - (c L : Int)) (left - (c L : Int))
def hGood (l : Nat → Nat) (n : Nat) : Bool := decide (0 < n) && decide (n ≤ 64) && (List.range n).all (fun i => decide (l i ≤ 63)) && hCk (hCnt l n) (hLng l n + 1) 0 1 n && (List.range n).all (fun i => decide (hPos l n i < 256)) && (List.range n).all (fun q => decide (hSid l n n q < n))
theorem hGood_spec {l : Nat → Nat} {n : Nat} (h : hGood l n = true) : 0 < n ∧ n ≤ 64 ∧ (∀ i, i < n → l i ≤ 63) ∧ hCk (hCnt l n) (hLng l n + 1) 0 1 n = true ∧ (∀ i, i < n → hPos l n i < 256) ∧ (∀ q, q < n → hSid l n n q < n) := by
  simp only [hGood, Bool.and_eq_true, decide_eq_true_eq, List.all_eq_true, List.mem_range] at h
  obtain ⟨⟨⟨⟨⟨h1, h2⟩, h3⟩, h4⟩, h5⟩, h6⟩ := h
  exact ⟨h1, h2, h3, h4, h5, h6⟩
theorem hCnt_le (l : Nat → Nat) (L : Nat) : ∀ i, hCnt l i L ≤ i
  | 0 => Nat.le_refl _
  | i + 1 => by show hCnt l i L + _ ≤ i + 1; have := hCnt_le l L i; split <;> omega
theorem hLng_ge (l : Nat → Nat) : ∀ n i, i < n → l i ≤ hLng l n
  | 0, _, h => absurd h (Nat.not_lt_zero _)
  | n + 1, i, h => by
    show l i ≤ if hLng l n < l n then l n else hLng l n
    rcases Nat.lt_or_ge i n with q | q
    · have := hLng_ge l n i q; split <;> omega
    · have : i = n := by omega
      subst this; split <;> omega
theorem hLng_le {l : Nat → Nat} {k : Nat} : ∀ n, (∀ i, i < n → l i ≤ k) → hLng l n ≤ k
  | 0, _ => Nat.zero_le _
  | n + 1, h => by
    show (if hLng l n < l n then l n else hLng l n) ≤ k
    have a := hLng_le n fun i hi => h i (by omega)
    have b := h n (by omega)
    split <;> omega
theorem o32 {k : Nat} (h : k < 2 ^ 31) : (Int32.ofNat k).toInt = (k : Int) := Int32.toInt_ofNat_small h
theorem o32_succ (k : Nat) : Int32.ofNat k + 1 = Int32.ofNat (k + 1) := (Int32.ofNat_add k 1).symm
theorem o32_add (j k : Nat) : Int32.ofNat j + Int32.ofNat k = Int32.ofNat (j + k) := (Int32.ofNat_add j k).symm
theorem o32_sub (j k : Nat) : Int32.ofNat (j + k) - Int32.ofNat k = Int32.ofNat j := by rw [Int32.ofNat_add, Int32.add_sub_cancel]
theorem o32_pred (k : Nat) : Int32.ofNat (k + 1) - 1 = Int32.ofNat k := o32_sub k 1
theorem o32_lt {j k : Nat} (hj : j < 2 ^ 31) (hk : k < 2 ^ 31) : (Int32.ofNat j < Int32.ofNat k) ↔ j < k := by rw [Int32.lt_iff_toInt_lt, o32 hj, o32 hk]; omega
theorem o32_inj {j k : Nat} (hj : j < 2 ^ 31) (hk : k < 2 ^ 31) : (Int32.ofNat j = Int32.ofNat k) ↔ j = k := by rw [← Int32.toInt_inj, o32 hj, o32 hk]; omega
theorem o32_max (l : Nat → Nat) (i : Nat) (h1 : hLng l i < 2 ^ 31) (h2 : l i < 2 ^ 31) : (if Int32.ofNat (hLng l i) < Int32.ofNat (l i) then Int32.ofNat (l i) else Int32.ofNat (hLng l i)) = Int32.ofNat (hLng l (i + 1)) := by
  show _ = Int32.ofNat (if hLng l i < l i then l i else hLng l i)
  by_cases q : hLng l i < l i
  · rw [if_pos ((o32_lt h1 h2).mpr q), if_pos q]
  · rw [if_neg (fun z => q ((o32_lt h1 h2).mp z)), if_neg q]
theorem o64 {k : Nat} (h : k < 2 ^ 31) : (Int32.ofNat k).toInt64.toInt = (k : Int) := by rw [Jvm.Kit.i64_of_i32, o32 h]
theorem hfr1 {fr : Int64} {free : Int} {c : Nat} (h : fr.toInt = free) (b : 0 ≤ free ∧ free ≤ 64) (hc : c ≤ 64) : (fr - (Int32.ofNat c).toInt64).toInt = free - (c : Int) := by
  have e := o64 (k := c) (by omega)
  rw [Jvm.Kit.i64_sub (by omega) (by omega), e, h]
theorem hfr2 {fr : Int64} {free : Int} {c : Nat} (h : fr.toInt = free) (b : 0 ≤ free ∧ free ≤ 64) (hc : c ≤ 64) : ((fr * (2 : Int64)) - (Int32.ofNat c).toInt64).toInt = 2 * free - (c : Int) := by
  have e := o64 (k := c) (by omega)
  have e2 : (2 : Int64).toInt = 2 := by decide
  have e3 : (fr * (2 : Int64)).toInt = 2 * free := by rw [Jvm.Kit.i64_mul (by rw [e2]; omega) (by rw [e2]; omega), e2, h]; omega
  rw [Jvm.Kit.i64_sub (by omega) (by omega), e, e3]
theorem hlf {lf : Int32} {left : Int} {c : Nat} (h : lf.toInt = left) (b : 0 ≤ left ∧ left ≤ 64) (hc : c ≤ 64) : (lf - Int32.ofNat c).toInt = left - (c : Int) := by
  have e := o32 (k := c) (by omega)
  rw [Jvm.Kit.i32_sub (by omega) (by omega), e, h]
theorem hCk_step {c : Nat → Nat} {d L : Nat} {free left : Int} (h : hCk c (d + 1) L free left = true) : 0 ≤ (if 0 < L then 2 * free else free) - (c L : Int) ∧ (if 0 < L then 2 * free else free) - (c L : Int) ≤ left - (c L : Int) ∧ hCk c d (L + 1) ((if 0 < L then 2 * free else free) - (c L : Int)) (left - (c L : Int)) = true := by
  simp only [hCk, Bool.and_eq_true, decide_eq_true_eq] at h
  exact ⟨h.1.1, h.1.2, h.2⟩
/-- the counts when one more value is read -/
theorem hCnt_set (l : Nat → Nat) (i N : Nat) : ∀ q, q < N → (fun q => if q = l i then Value.int (Int32.ofNat (hCnt l i (l i)) + 1) else (fun L => Value.int (Int32.ofNat (hCnt l i L))) q) q = (fun L => Value.int (Int32.ofNat (hCnt l (i + 1) L))) q := fun q _ => by
  show (if q = l i then Value.int (Int32.ofNat (hCnt l i (l i)) + 1) else Value.int (Int32.ofNat (hCnt l i q))) = Value.int (Int32.ofNat (hCnt l i q + (if q = l i then 1 else 0)))
  by_cases u : q = l i
  · rw [if_pos u, if_pos u, o32_succ, u]
  · rw [if_neg u, if_neg u]; rfl
theorem hSid_set (l V : Nat → Nat) (n i N : Nat) (hi : i < n) (f : Nat → Value) : ∀ q, q < N → (fun q => if q = hPos l n i then Value.int (Int32.ofNat (V i)) else (fun q => if hSid l n i q < n then Value.int (Int32.ofNat (V (hSid l n i q))) else f q) q) q = (fun q => if hSid l n (i + 1) q < n then Value.int (Int32.ofNat (V (hSid l n (i + 1) q))) else f q) q := fun q _ => by
  show (if q = hPos l n i then Value.int (Int32.ofNat (V i)) else if hSid l n i q < n then Value.int (Int32.ofNat (V (hSid l n i q))) else f q) = (if (if q = hPos l n i then i else hSid l n i q) < n then Value.int (Int32.ofNat (V (if q = hPos l n i then i else hSid l n i q))) else f q)
  by_cases u : q = hPos l n i
  · simp only [if_pos u, if_pos hi]
  · simp only [if_neg u]
theorem hFs_B (l : Nat → Nat) (n lg i N : Nat) (hi : l i ≤ lg) (f : Nat → Value) : ∀ q, q < N → (fun q => if q = l i then Value.int (Int32.ofNat (hPos l n i) + 1) else (fun q => if q ≤ lg then Value.int (Int32.ofNat (hFs (hCnt l n) q + hCnt l i q)) else f q) q) q = (fun q => if q ≤ lg then Value.int (Int32.ofNat (hFs (hCnt l n) q + hCnt l (i + 1) q)) else f q) q := fun q _ => by
  show (if q = l i then Value.int (Int32.ofNat (hPos l n i) + 1) else if q ≤ lg then Value.int (Int32.ofNat (hFs (hCnt l n) q + hCnt l i q)) else f q) = (if q ≤ lg then Value.int (Int32.ofNat (hFs (hCnt l n) q + (hCnt l i q + (if q = l i then 1 else 0)))) else f q)
  by_cases u : q = l i
  · rw [if_pos u, if_pos (by omega), if_pos u, o32_succ, hPos, u]; rfl
  · rw [if_neg u, if_neg u]; rfl
/-- a place set at the end of a filled beginning -/
theorem up_set {F : Nat → Value} {G : Nat → Value} {v : Value} {M : Nat} (N : Nat) (hv : v = F M) : ∀ q, q < N → (fun q => if q = M then v else (fun q => if q < M then F q else G q) q) q = (fun q => if q < M + 1 then F q else G q) q := fun q _ => by
  show (if q = M then v else if q < M then F q else G q) = (if q < M + 1 then F q else G q)
  by_cases u : q = M
  · rw [if_pos u, if_pos (by omega), u]; exact hv
  · rw [if_neg u]
    by_cases w : q < M
    · rw [if_pos w, if_pos (by omega)]
    · rw [if_neg w, if_neg (by omega)]
/-- the third loop of 'canonical': the first places moved back -/
theorem dn_set (l : Nat → Nat) (n lg L N : Nat) (hL : L ≤ lg) (f : Nat → Value) : ∀ q, q < N → (fun q => if q = L then Value.int (Int32.ofNat (hFs (hCnt l n) L + hCnt l n L) - Int32.ofNat (hCnt l n L)) else (fun q => if q < L then Value.int (Int32.ofNat (hFs (hCnt l n) q)) else if q ≤ lg then Value.int (Int32.ofNat (hFs (hCnt l n) q + hCnt l n q)) else f q) q) q = (fun q => if q < L + 1 then Value.int (Int32.ofNat (hFs (hCnt l n) q)) else if q ≤ lg then Value.int (Int32.ofNat (hFs (hCnt l n) q + hCnt l n q)) else f q) q := fun q _ => by
  show (if q = L then Value.int (Int32.ofNat (hFs (hCnt l n) L + hCnt l n L) - Int32.ofNat (hCnt l n L)) else if q < L then Value.int (Int32.ofNat (hFs (hCnt l n) q)) else if q ≤ lg then Value.int (Int32.ofNat (hFs (hCnt l n) q + hCnt l n q)) else f q) = (if q < L + 1 then Value.int (Int32.ofNat (hFs (hCnt l n) q)) else if q ≤ lg then Value.int (Int32.ofNat (hFs (hCnt l n) q + hCnt l n q)) else f q)
  by_cases u : q = L
  · rw [if_pos u, if_pos (by omega), o32_sub, u]
  · rw [if_neg u]
    by_cases w : q < L
    · rw [if_pos w, if_pos (by omega)]
    · rw [if_neg w, if_neg (show ¬ q < L + 1 by omega)]
def hC (l : Nat → Nat) (n q : Nat) : Int64 := (hFc (hCnt l n) (l (hSid l n n q)) + (Int32.ofNat q).toInt64) - (Int32.ofNat (hFs (hCnt l n) (l (hSid l n n q)))).toInt64
def hVal (pk : Int32) (z : Int64) (k : Nat) : Int64 := if pk = 0 then z else (z <<< ((6 : Int32) &&& 0x3f).toInt64) ||| (Int32.ofNat k).toInt64
def hCo (l V : Nat → Nat) (n : Nat) (pk : Int32) : Nat → Nat → Int64
  | 0, _ => 0
  | q + 1, x => if x = V (hSid l n n q) then hVal pk (hC l n q) (l (hSid l n n q)) else hCo l V n pk q x
def hLe (l V : Nat → Nat) (n : Nat) : Nat → Nat → Nat
  | 0, _ => 0
  | q + 1, x => if x = V (hSid l n n q) then l (hSid l n n q) else hLe l V n q x
theorem nar8 {k : Nat} (h : k ≤ 63) : nar .byte ((Int32.ofNat k).toInt8.toInt32) = Int32.ofNat k := by
  have e : ∀ k ∈ List.range 64, ((Int32.ofNat k).toInt8.toInt32).toInt8.toInt32 = Int32.ofNat k := by decide +kernel
  exact e k (List.mem_range.mpr (by omega))
theorem hCo_set (l V : Nat → Nat) (n : Nat) (pk : Int32) (q N : Nat) {z : Int64} (hz : z = hVal pk (hC l n q) (l (hSid l n n q))) : ∀ x, x < N → (fun x => if x = V (hSid l n n q) then Value.long z else (fun x => Value.long (hCo l V n pk q x)) x) x = (fun x => Value.long (hCo l V n pk (q + 1) x)) x := fun x _ => by
  show (if x = V (hSid l n n q) then Value.long z else Value.long (hCo l V n pk q x)) = Value.long (if x = V (hSid l n n q) then hVal pk (hC l n q) (l (hSid l n n q)) else hCo l V n pk q x)
  by_cases u : x = V (hSid l n n q)
  · rw [if_pos u, if_pos u, hz]
  · rw [if_neg u, if_neg u]
def hLb (l V : Nat → Nat) (n q : Nat) : Nat → Value := fun x => if 256 ≤ x then .int (-1) else .int (Int32.ofNat (hLe l V n q x))
theorem hLe_set (l V : Nat → Nat) (n q N : Nat) (h1 : V (hSid l n n q) < 256) (h2 : l (hSid l n n q) ≤ 63) : ∀ x, x < N → (fun x => if x = V (hSid l n n q) then Value.int (nar .byte ((Int32.ofNat (l (hSid l n n q))).toInt8.toInt32)) else hLb l V n q x) x = hLb l V n (q + 1) x := fun x _ => by
  show (if x = V (hSid l n n q) then Value.int (nar .byte ((Int32.ofNat (l (hSid l n n q))).toInt8.toInt32)) else if 256 ≤ x then Value.int (-1) else Value.int (Int32.ofNat (hLe l V n q x))) = (if 256 ≤ x then Value.int (-1) else Value.int (Int32.ofNat (if x = V (hSid l n n q) then l (hSid l n n q) else hLe l V n q x)))
  by_cases u : x = V (hSid l n n q)
  · rw [if_pos u, if_neg (by omega), if_pos u, nar8 h2]
  · rw [if_neg u, if_neg u]
/-- the code of the i-th value -/
def hCi (l : Nat → Nat) (n : Nat) (pk : Int32) : Nat → Nat → Int64
  | 0, _ => 0
  | q + 1, i => if i = hSid l n n q then hVal pk (hC l n q) (l (hSid l n n q)) else hCi l n pk q i
def hLi (l : Nat → Nat) (n : Nat) : Nat → Nat → Nat
  | 0, _ => 0
  | q + 1, i => if i = hSid l n n q then l (hSid l n n q) else hLi l n q i
theorem asc_lt {V : Nat → Nat} {n : Nat} (hA : ∀ i, i + 1 < n → V i < V (i + 1)) : ∀ j i, i < j → j < n → V i < V j
  | 0, _, h, _ => absurd h (Nat.not_lt_zero _)
  | j + 1, i, h, hj => by
    rcases Nat.lt_or_ge i j with q | q
    · exact Nat.lt_trans (asc_lt hA j i q (by omega)) (hA j hj)
    · have : i = j := by omega
      subst this; exact hA i hj
theorem asc_inj {V : Nat → Nat} {n i j : Nat} (hA : ∀ i, i + 1 < n → V i < V (i + 1)) (hi : i < n) (hj : j < n) (h : V i = V j) : i = j := by
  rcases Nat.lt_trichotomy i j with q | q | q
  · have := asc_lt hA j i q hj; omega
  · exact q
  · have := asc_lt hA i j q hi; omega
theorem hCo_V {l V : Nat → Nat} {n : Nat} {pk : Int32} (hA : ∀ i, i + 1 < n → V i < V (i + 1)) (hs : ∀ q, q < n → hSid l n n q < n) {i : Nat} (hi : i < n) : ∀ q, q ≤ n → hCo l V n pk q (V i) = hCi l n pk q i
  | 0, _ => rfl
  | q + 1, hq => by
    show (if V i = V (hSid l n n q) then _ else hCo l V n pk q (V i)) = (if i = hSid l n n q then _ else hCi l n pk q i)
    rw [hCo_V hA hs hi q (by omega)]
    by_cases u : i = hSid l n n q
    · rw [if_pos (congrArg V u), if_pos u]
    · rw [if_neg (fun z => u (asc_inj hA hi (hs q hq) z)), if_neg u]
theorem hLe_V {l V : Nat → Nat} {n : Nat} (hA : ∀ i, i + 1 < n → V i < V (i + 1)) (hs : ∀ q, q < n → hSid l n n q < n) {i : Nat} (hi : i < n) : ∀ q, q ≤ n → hLe l V n q (V i) = hLi l n q i
  | 0, _ => rfl
  | q + 1, hq => by
    show (if V i = V (hSid l n n q) then _ else hLe l V n q (V i)) = (if i = hSid l n n q then _ else hLi l n q i)
    rw [hLe_V hA hs hi q (by omega)]
    by_cases u : i = hSid l n n q
    · rw [if_pos (congrArg V u), if_pos u]
    · rw [if_neg (fun z => u (asc_inj hA hi (hs q hq) z)), if_neg u]
theorem hCo_no {l V : Nat → Nat} {n : Nat} {pk : Int32} (hs : ∀ q, q < n → hSid l n n q < n) {x : Nat} (hx : ∀ i, i < n → x ≠ V i) : ∀ q, q ≤ n → hCo l V n pk q x = 0
  | 0, _ => rfl
  | q + 1, hq => by
    show (if x = V (hSid l n n q) then _ else hCo l V n pk q x) = 0
    rw [if_neg (hx _ (hs q hq)), hCo_no hs hx q (by omega)]
theorem hLe_no {l V : Nat → Nat} {n : Nat} (hs : ∀ q, q < n → hSid l n n q < n) {x : Nat} (hx : ∀ i, i < n → x ≠ V i) : ∀ q, q ≤ n → hLe l V n q x = 0
  | 0, _ => rfl
  | q + 1, hq => by
    show (if x = V (hSid l n n q) then _ else hLe l V n q x) = 0
    rw [if_neg (hx _ (hs q hq)), hLe_no hs hx q (by omega)]
theorem o32_ltl {k K : Nat} {z : Int32} (hz : z.toInt = (K : Int)) (hk : k < 2 ^ 31) : (Int32.ofNat k < z) ↔ k < K := by rw [Int32.lt_iff_toInt_lt, o32 hk, hz]; omega
theorem o32_gtl {k K : Nat} {z : Int32} (hz : z.toInt = (K : Int)) (hk : k < 2 ^ 31) : (z < Int32.ofNat k) ↔ K < k := by rw [Int32.lt_iff_toInt_lt, o32 hk, hz]; omega
theorem fb_end {i : Nat} (hi : i + 0 = 8) : ∀ q, q < 264 → (fun q => if 256 ≤ q ∧ q < 256 + i then Value.int (-1) else Value.int 0) q = (fun q => if 256 ≤ q then Value.int (-1) else Value.int 0) q := fun q hq => by
  show (if 256 ≤ q ∧ q < 256 + i then Value.int (-1) else Value.int 0) = (if 256 ≤ q then Value.int (-1) else Value.int 0)
  by_cases u : 256 ≤ q
  · rw [if_pos ⟨u, by omega⟩, if_pos u]
  · rw [if_neg (fun z => u z.1), if_neg u]
theorem fb_set (i : Nat) : ∀ q, q < 264 → (fun q => if q = 256 + i then Value.int (nar .byte (-1)) else (fun q => if 256 ≤ q ∧ q < 256 + i then Value.int (-1) else Value.int 0) q) q = (fun q => if 256 ≤ q ∧ q < 256 + (i + 1) then Value.int (-1) else Value.int 0) q := fun q hq => by
  show (if q = 256 + i then Value.int (nar .byte (-1)) else if 256 ≤ q ∧ q < 256 + i then Value.int (-1) else Value.int 0) = (if 256 ≤ q ∧ q < 256 + (i + 1) then Value.int (-1) else Value.int 0)
  by_cases u : q = 256 + i
  · rw [if_pos u, if_pos (by omega)]; rfl
  · rw [if_neg u]
    by_cases v : 256 ≤ q ∧ q < 256 + i
    · rw [if_pos v, if_pos (by omega)]
    · rw [if_neg v, if_neg (by omega)]
theorem nd {L : List Addr} (h : L.Nodup) (i j : Nat) (hij : i < j) (hj : j < L.length) : L[i]'(Nat.lt_trans hij hj) ≠ L[j] := (List.pairwise_iff_getElem.mp h) i j _ hj hij
theorem l_nn {x : Int64} {f : Int} (h : x.toInt = f) (k : 0 ≤ f) : ¬ x < (0 : Int64) := by
  rw [Int64.lt_iff_toInt_lt, h]; have : (0 : Int64).toInt = 0 := by decide
  omega
theorem l_le {x : Int64} {y : Int32} {f r : Int} (hx : x.toInt = f) (hy : y.toInt = r) (k : f ≤ r) : ¬ y.toInt64 < x := by
  rw [Int64.lt_iff_toInt_lt, hx, Jvm.Kit.i64_of_i32, hy]; omega
theorem i_zero {x : Int32} {r : Int} (h : x.toInt = r) (k : r = 0) : x = 0 := Int32.toInt_inj.mp (by rw [h, k]; rfl)
theorem i_gt {x : Int32} {k : Nat} (h : x.toInt < (k : Int)) (hk : k < 2 ^ 31) : x < Int32.ofNat k := by rw [Int32.lt_iff_toInt_lt, o32 hk]; exact h
theorem i_asc {V : Nat → Nat} {i n : Nat} (hA : ∀ i, i + 1 < n → V i < V (i + 1)) (hk : V i < 2 ^ 31) (q : i + 1 < n) : (Int32.ofNat (V i)).toInt < (V (i + 1) : Int) := by rw [o32 hk]; have := hA i q; omega
theorem i_pred {M : Nat} (h : M < 2 ^ 30) : (Int32.ofNat (M + 1) - 1).toInt = (M : Int) := by rw [o32_pred, o32 (by omega)]
theorem to_B (l : Nat → Nat) (c : Nat → Nat) (lg M : Nat) (h : M = lg) (f : Nat → Value) (N : Nat) : ∀ q, q < N → (fun q => if q < M + 1 then Value.int (Int32.ofNat (hFs c q)) else f q) q = (fun q => if q ≤ lg then Value.int (Int32.ofNat (hFs c q + hCnt l 0 q)) else f q) q := fun q _ => by
  show (if q < M + 1 then Value.int (Int32.ofNat (hFs c q)) else f q) = (if q ≤ lg then Value.int (Int32.ofNat (hFs c q)) else f q)
  by_cases u : q ≤ lg
  · rw [if_pos (by omega), if_pos u]
  · rw [if_neg (by omega), if_neg u]
theorem c_end (F G f : Nat → Value) (lg L : Nat) (h : L = lg + 1) (N : Nat) : ∀ q, q < N → (fun q => if q < L then F q else if q ≤ lg then G q else f q) q = (fun q => if q < lg + 1 then F q else f q) q := fun q _ => by
  subst h
  show (if q < lg + 1 then F q else if q ≤ lg then G q else f q) = (if q < lg + 1 then F q else f q)
  by_cases u : q < lg + 1
  · rw [if_pos u, if_pos u]
  · rw [if_neg u, if_neg (show ¬ q ≤ lg by omega), if_neg u]
theorem st_ll {x0 x1 x2 x3 x4 x5 x6 s8 s9 : Slot} {y7 : Int32} {v : Int64} (h : (s8 = .unset ∧ s9 = .unset) ∨ ∃ z, s8 = .val (.long z) ∧ s9 = .second) : storeLocals #[x0, x1, x2, x3, x4, x5, x6, .val (.int y7), s8, s9] 8 (.long v) = some #[x0, x1, x2, x3, x4, x5, x6, .val (.int y7), .val (.long v), .second] := by
  rcases h with ⟨rfl, rfl⟩ | ⟨z, rfl, rfl⟩ <;> rfl
def hPk (lg : Nat) : Int32 := if 56 < lg then 0 else 1
def hSum (f : Nat → Int64) (g : Nat → Int32) : Nat → Int64
  | 0 => 0
  | k + 1 => hSum f g k + f k * (g k).toInt64
/-! ## what 'code' gives back, and the two laws' own expectations -/
def hDec (pk : Int32) (z : Int64) : Int64 := if pk = 0 then z else ((z.toUInt64 >>> ((6 : Int32) &&& 0x3f).toInt64.toUInt64).toInt64)
def hChn (k q : Nat) : Int64 := if q < k then ((1 : Int64) <<< ((Int32.ofNat q + 1) &&& 0x3f).toInt64) - 2 else if q = k then ((1 : Int64) <<< ((Int32.ofNat k) &&& 0x3f).toInt64) - 1 else 0
def hChL (k : Nat) : Nat → Nat := fun i => if i = k then k else i + 1
/-- the counts of the chain's lengths -/
def hCS (k L : Nat) : Nat := if L = k then (if k = 0 then 1 else 2) else if 1 ≤ L ∧ L < k then 1 else 0
theorem ch_cnt : ∀ k ∈ List.range 64, ∀ L ∈ List.range 65, hCnt (hChL k) (k + 1) L = hCS k L := by decide +kernel
theorem hFs_cg {c c' : Nat → Nat} : ∀ L, (∀ M, M < L → c M = c' M) → hFs c L = hFs c' L
  | 0, _ => rfl
  | L + 1, h => by show hFs c L + c L = hFs c' L + c' L; rw [hFs_cg L fun M hM => h M (by omega), h L (by omega)]
theorem hFc_cg {c c' : Nat → Nat} : ∀ L, (∀ M, M < L → c M = c' M) → hFc c L = hFc c' L
  | 0, _ => rfl
  | L + 1, h => by show (hFc c L + (Int32.ofNat (c L)).toInt64) <<< _ = (hFc c' L + (Int32.ofNat (c' L)).toInt64) <<< _; rw [hFc_cg L fun M hM => h M (by omega), h L (by omega)]
theorem hCk_cg {c c' : Nat → Nat} : ∀ d L free left, (∀ M, M < L + d → c M = c' M) → hCk c d L free left = hCk c' d L free left
  | 0, _, _, _, _ => rfl
  | d + 1, L, free, left, h => by simp only [hCk]; rw [h L (by omega), hCk_cg d (L + 1) _ _ fun M hM => h M (by omega)]
theorem ch_cntL {k : Nat} (hk : k < 64) {L : Nat} (hL : L ≤ 64) : hCnt (hChL k) (k + 1) L = hCS k L := ch_cnt k (List.mem_range.mpr hk) L (List.mem_range.mpr (by omega))
theorem ch_lng0 : ∀ k ∈ List.range 64, hLng (hChL k) (k + 1) = k := by decide +kernel
theorem ch_ck0 : ∀ k ∈ List.range 64, hCk (hCS k) (k + 1) 0 1 ((k + 1 : Nat) : Int) = true := by decide +kernel
theorem ch_pos0 : ∀ k ∈ List.range 64, ∀ i ∈ List.range (k + 1), hFs (hCS k) (hChL k i) + hCnt (hChL k) i (hChL k i) = i := by decide +kernel
theorem ch_le {k i : Nat} (hk : k < 64) (hi : i < k + 1) : hChL k i ≤ 63 := by unfold hChL; split <;> omega
theorem ch_pos {k i : Nat} (hk : k < 64) (hi : i < k + 1) : hPos (hChL k) (k + 1) i = i := by
  have q := ch_pos0 k (List.mem_range.mpr hk) i (List.mem_range.mpr hi)
  unfold hPos
  rw [hFs_cg (c' := hCS k) _ fun M hM => ch_cntL hk (by have := ch_le hk hi; omega)]; exact q
theorem sid_id {l : Nat → Nat} {n : Nat} (h : ∀ i, i < n → hPos l n i = i) : ∀ m, m ≤ n → ∀ q, hSid l n m q = if q < m then q else n
  | 0, _, q => by rw [if_neg (Nat.not_lt_zero q)]; rfl
  | m + 1, hm, q => by
    show (if q = hPos l n m then m else hSid l n m q) = _
    rw [h m (by omega), sid_id h m (by omega) q]
    by_cases u : q = m
    · rw [if_pos u, if_pos (by omega), u]
    · rw [if_neg u]
      by_cases w : q < m
      · rw [if_pos w, if_pos (by omega)]
      · rw [if_neg w, if_neg (by omega)]
theorem ch_sid {k q : Nat} (hk : k < 64) (hq : q < k + 1) : hSid (hChL k) (k + 1) (k + 1) q = q := by rw [sid_id (fun i hi => ch_pos hk hi) (k + 1) (Nat.le_refl _) q, if_pos hq]
theorem ch_good {k : Nat} (hk : k < 64) : hGood (hChL k) (k + 1) = true := by
  have hl : hLng (hChL k) (k + 1) = k := ch_lng0 k (List.mem_range.mpr hk)
  simp only [hGood, Bool.and_eq_true, decide_eq_true_eq, List.all_eq_true, List.mem_range]
  refine ⟨⟨⟨⟨⟨by omega, by omega⟩, fun i hi => ch_le hk hi⟩, ?_⟩, fun i hi => by rw [ch_pos hk hi]; omega⟩, fun q hq => by rw [ch_sid hk hq]; exact hq⟩
  rw [hl, hCk_cg (c' := hCS k) (k + 1) 0 _ _ fun M hM => ch_cntL hk (by omega)]
  exact ch_ck0 k (List.mem_range.mpr hk)
theorem hCi_id {l : Nat → Nat} {n : Nat} {pk : Int32} (h : ∀ q, q < n → hSid l n n q = q) : ∀ m, m ≤ n → ∀ i, hCi l n pk m i = if i < m then hVal pk (hC l n i) (l i) else 0
  | 0, _, i => by rw [if_neg (Nat.not_lt_zero i)]; rfl
  | m + 1, hm, i => by
    show (if i = hSid l n n m then hVal pk (hC l n m) (l (hSid l n n m)) else hCi l n pk m i) = _
    rw [h m (by omega), hCi_id h m (by omega) i]
    by_cases u : i = m
    · rw [if_pos u, if_pos (by omega), u]
    · rw [if_neg u]
      by_cases w : i < m
      · rw [if_pos w, if_pos (by omega)]
      · rw [if_neg w, if_neg (by omega)]
theorem ch_c0 : ∀ k ∈ List.range 64, ∀ i ∈ List.range (k + 1), (hFc (hCS k) (hChL k i) + (Int32.ofNat i).toInt64) - (Int32.ofNat (hFs (hCS k) (hChL k i))).toInt64 = hChn k i := by decide +kernel
theorem ch_d0 : ∀ k ∈ List.range 64, ∀ i ∈ List.range (k + 1), hDec (hPk k) (hVal (hPk k) (hChn k i) (hChL k i)) = hChn k i := by decide +kernel
theorem ch_c {k i : Nat} (hk : k < 64) (hi : i < k + 1) : hC (hChL k) (k + 1) i = hChn k i := by
  have q := ch_c0 k (List.mem_range.mpr hk) i (List.mem_range.mpr hi)
  have b := ch_le hk hi
  unfold hC
  rw [ch_sid hk hi, hFs_cg (c' := hCS k) _ fun M hM => ch_cntL hk (by omega), hFc_cg (c' := hCS k) _ fun M hM => ch_cntL hk (by omega)]; exact q
theorem hDec0 (pk : Int32) : hDec pk 0 = 0 := by unfold hDec; split <;> decide
theorem ch_code {k x : Nat} (hk : k < 64) : hDec (hPk (hLng (hChL k) (k + 1))) (hCo (hChL k) (fun i => i) (k + 1) (hPk (hLng (hChL k) (k + 1))) (k + 1) x) = hChn k x := by
  have hl : hLng (hChL k) (k + 1) = k := ch_lng0 k (List.mem_range.mpr hk)
  have hs : ∀ q, q < k + 1 → hSid (hChL k) (k + 1) (k + 1) q < k + 1 := fun q hq => by rw [ch_sid hk hq]; exact hq
  rw [hl]
  by_cases u : x < k + 1
  · rw [hCo_V (V := fun i => i) (fun i _ => Nat.lt_succ_self i) hs u (k + 1) (Nat.le_refl _), hCi_id (fun q hq => ch_sid hk hq) (k + 1) (Nat.le_refl _) x, if_pos u, ch_c hk u]
    exact ch_d0 k (List.mem_range.mpr hk) x (List.mem_range.mpr u)
  · rw [hCo_no hs (fun i hi => by omega) (k + 1) (Nat.le_refl _), hDec0]
    unfold hChn; rw [if_neg (by omega), if_neg (by omega)]
/-! the small codes -/
def hTrm (l : Nat → Nat) (n i j : Nat) : Int64 := if ¬ j < n ∨ j = i then 0 else if l j < l i ∨ (l j = l i ∧ j < i) then (1 : Int64) <<< ((Int32.ofNat (l i) - Int32.ofNat (l j)) &&& 0x3f).toInt64 else 0
def hExp (l : Nat → Nat) (n i : Nat) : Int64 := if i < n then (((hTrm l n i 0 + hTrm l n i 1) + hTrm l n i 2) + hTrm l n i 3) + hTrm l n i 4 else 0
def hSw (f : Nat → Nat) (i j : Nat) : Nat → Nat := fun q => if q = j then f i else if q = i then f j else f q
def hShp (s : Nat) : Nat → Nat := fun q => (([[0, 0, 0, 0, 0], [1, 1, 0, 0, 0], [1, 2, 2, 0, 0], [2, 2, 2, 2, 0], [1, 2, 3, 3, 0], [1, 3, 3, 3, 3], [2, 2, 2, 3, 3], [1, 2, 3, 4, 4]] : List (List Nat)).getD s []).getD q 0
def hSz (s : Nat) : Nat := ([1, 2, 3, 4, 4, 5, 5, 5] : List Nat).getD s 0
def hFin (s j0 j1 j2 j3 : Nat) : Nat → Nat := hSw (hSw (hSw (hSw (hShp s) 0 j0) 1 j1) 2 j2) 3 j3
def hLst (f : Nat → Nat) : List Nat := [f 0, f 1, f 2, f 3, f 4]
def hCand (n i : Nat) : List Nat := (List.range 5).filter fun j => decide (i ≤ j) && (decide (j < n) || decide (j = i))
def hTab : List (Nat × List Nat) := [(1, [0, 0, 0, 0, 0]), (2, [1, 1, 0, 0, 0]), (3, [1, 2, 2, 0, 0]), (3, [2, 1, 2, 0, 0]), (3, [2, 2, 1, 0, 0]), (4, [2, 2, 2, 2, 0]), (4, [1, 2, 3, 3, 0]), (4, [1, 3, 2, 3, 0]), (4, [1, 3, 3, 2, 0]), (4, [2, 1, 3, 3, 0]), (4, [2, 3, 1, 3, 0]), (4, [2, 3, 3, 1, 0]), (4, [3, 2, 1, 3, 0]), (4, [3, 2, 3, 1, 0]), (4, [3, 1, 2, 3, 0]), (4, [3, 1, 3, 2, 0]), (4, [3, 3, 1, 2, 0]), (4, [3, 3, 2, 1, 0]), (5, [1, 3, 3, 3, 3]), (5, [3, 1, 3, 3, 3]), (5, [3, 3, 1, 3, 3]), (5, [3, 3, 3, 1, 3]), (5, [3, 3, 3, 3, 1]), (5, [2, 2, 2, 3, 3]), (5, [2, 2, 3, 2, 3]), (5, [2, 2, 3, 3, 2]), (5, [2, 3, 2, 2, 3]), (5, [2, 3, 2, 3, 2]), (5, [2, 3, 3, 2, 2]), (5, [3, 2, 2, 2, 3]), (5, [3, 2, 2, 3, 2]), (5, [3, 2, 3, 2, 2]), (5, [3, 3, 2, 2, 2]), (5, [1, 2, 3, 4, 4]), (5, [1, 2, 4, 3, 4]), (5, [1, 2, 4, 4, 3]), (5, [1, 3, 2, 4, 4]), (5, [1, 3, 4, 2, 4]), (5, [1, 3, 4, 4, 2]), (5, [1, 4, 3, 2, 4]), (5, [1, 4, 3, 4, 2]), (5, [1, 4, 2, 3, 4]), (5, [1, 4, 2, 4, 3]), (5, [1, 4, 4, 2, 3]), (5, [1, 4, 4, 3, 2]), (5, [2, 1, 3, 4, 4]), (5, [2, 1, 4, 3, 4]), (5, [2, 1, 4, 4, 3]), (5, [2, 3, 1, 4, 4]), (5, [2, 3, 4, 1, 4]), (5, [2, 3, 4, 4, 1]), (5, [2, 4, 3, 1, 4]), (5, [2, 4, 3, 4, 1]), (5, [2, 4, 1, 3, 4]), (5, [2, 4, 1, 4, 3]), (5, [2, 4, 4, 1, 3]), (5, [2, 4, 4, 3, 1]), (5, [3, 2, 1, 4, 4]), (5, [3, 2, 4, 1, 4]), (5, [3, 2, 4, 4, 1]), (5, [3, 1, 2, 4, 4]), (5, [3, 1, 4, 2, 4]), (5, [3, 1, 4, 4, 2]), (5, [3, 4, 1, 2, 4]), (5, [3, 4, 1, 4, 2]), (5, [3, 4, 2, 1, 4]), (5, [3, 4, 2, 4, 1]), (5, [3, 4, 4, 2, 1]), (5, [3, 4, 4, 1, 2]), (5, [4, 2, 3, 1, 4]), (5, [4, 2, 3, 4, 1]), (5, [4, 2, 1, 3, 4]), (5, [4, 2, 1, 4, 3]), (5, [4, 2, 4, 1, 3]), (5, [4, 2, 4, 3, 1]), (5, [4, 3, 2, 1, 4]), (5, [4, 3, 2, 4, 1]), (5, [4, 3, 1, 2, 4]), (5, [4, 3, 1, 4, 2]), (5, [4, 3, 4, 1, 2]), (5, [4, 3, 4, 2, 1]), (5, [4, 1, 3, 2, 4]), (5, [4, 1, 3, 4, 2]), (5, [4, 1, 2, 3, 4]), (5, [4, 1, 2, 4, 3]), (5, [4, 1, 4, 2, 3]), (5, [4, 1, 4, 3, 2]), (5, [4, 4, 3, 1, 2]), (5, [4, 4, 3, 2, 1]), (5, [4, 4, 1, 3, 2]), (5, [4, 4, 1, 2, 3]), (5, [4, 4, 2, 1, 3]), (5, [4, 4, 2, 3, 1])]
theorem tab_all : ∀ s ∈ List.range 8, ∀ j0 ∈ hCand (hSz s) 0, ∀ j1 ∈ hCand (hSz s) 1, ∀ j2 ∈ hCand (hSz s) 2, ∀ j3 ∈ hCand (hSz s) 3, (hSz s, hLst (hFin s j0 j1 j2 j3)) ∈ hTab := by decide +kernel
def hOK (n : Nat) (L : List Nat) : Bool := hGood (fun i => L.getD i 0) n && decide (n ≤ 5) && (List.range 5).all (fun i => decide (L.getD i 0 ≤ 4)) && (List.range n).all fun i => decide (hDec (hPk (hLng (fun i => L.getD i 0) n)) (hCi (fun i => L.getD i 0) n (hPk (hLng (fun i => L.getD i 0) n)) n i) = hExp (fun i => L.getD i 0) n i)
theorem tab_ok : ∀ e ∈ hTab, hOK e.1 e.2 = true := by decide +kernel
theorem cand_mem {n i j : Nat} (hj : j < 5) (h1 : i ≤ j) (h2 : j < n ∨ j = i) : j ∈ hCand n i := by
  simp only [hCand, List.mem_filter, List.mem_range, Bool.and_eq_true, Bool.or_eq_true, decide_eq_true_eq]; exact ⟨hj, h1, h2⟩
theorem lst_at (f : Nat → Nat) {i : Nat} (hi : i < 5) : (hLst f).getD i 0 = f i := by
  match i, hi with
  | 0, _ => rfl
  | 1, _ => rfl
  | 2, _ => rfl
  | 3, _ => rfl
  | 4, _ => rfl
  | i + 5, h => exact absurd h (by omega)
theorem dfi_0 : decode jdk_65_method_103_code 0 = .ok (.iconst 0, 1) := by decide +kernel
theorem dfi_1 : decode jdk_65_method_103_code 1 = .ok (.istore_n 2, 1) := by decide +kernel
theorem dfi_2 : decode jdk_65_method_103_code 2 = .ok (.aload_n 0, 1) := by decide +kernel
theorem dfi_3 : decode jdk_65_method_103_code 3 = .ok (.arraylength, 1) := by decide +kernel
theorem dfi_4 : decode jdk_65_method_103_code 4 = .ok (.istore_n 3, 1) := by decide +kernel
theorem dfi_5 : decode jdk_65_method_103_code 5 = .ok (.iload_n 2, 1) := by decide +kernel
theorem dfi_6 : decode jdk_65_method_103_code 6 = .ok (.iload_n 3, 1) := by decide +kernel
theorem dfi_7 : decode jdk_65_method_103_code 7 = .ok (.if_icmp .ge 13, 3) := by decide +kernel
theorem dfi_10 : decode jdk_65_method_103_code 10 = .ok (.aload_n 0, 1) := by decide +kernel
theorem dfi_11 : decode jdk_65_method_103_code 11 = .ok (.iload_n 2, 1) := by decide +kernel
theorem dfi_12 : decode jdk_65_method_103_code 12 = .ok (.iload_n 1, 1) := by decide +kernel
theorem dfi_13 : decode jdk_65_method_103_code 13 = .ok (.iastore, 1) := by decide +kernel
theorem dfi_14 : decode jdk_65_method_103_code 14 = .ok (.iinc 2 1, 3) := by decide +kernel
theorem dfi_17 : decode jdk_65_method_103_code 17 = .ok (.goto (-12), 3) := by decide +kernel
theorem dfi_20 : decode jdk_65_method_103_code 20 = .ok (.return_, 1) := by decide +kernel
set_option maxRecDepth 65536 in
set_option maxHeartbeats 40000000 in
theorem c_fillI (l : Launch) (Z : State) (a0 : Array Value) (hw : ∀ d ∈ tables_1, d.before a0 Z = true) (a1 : Addr) (p2 : Int32) (h0 : Heap) (n0 : Nat) (N : Nat) (f : Nat → Value) (hN : N < 2 ^ 30) (ga : n0 ≤ a1) (A_a1 : Ary Z h0 a1 .int N f) :
    Con l Z (⟨"java/util/Arrays", "fill", "([II)V"⟩ : MethodName) jdk_65_method_103_code 4 none ({ frames := 0, cells := 0, slots := 0, locals := 0 } : Room) #[(.ref a1), (.int p2)] h0 n0 (fun v h => v = none ∧ Keep h0 h [a1] ∧ Ary Z h a1 .int N (fun _ => .int p2)) := by
  refine Con.of (plainFor_of_name (by first | (simp [plainName, overriddenIn]; done) | decide +kernel)) (L0 := #[.val (.ref a1), .val (.int p2), .unset, .unset]) (fun m => by first | (simp [entryFrame, mkF, argsToLocals, Value.category]; done) | rfl) ?_
  intro p e s m below meth c T C S
  have hn32 : (Nat.toInt32 N).toInt = (N : Int) := len_toInt (by omega)
  have LP : ∀ (d : Nat) (i : Nat), i + d = N → ∀ (T : State) (h : Heap), On p l e ({ frames := 0, cells := 0, slots := 0, locals := 0 } : Room) s m #[(.ref a1), (.int p2)] below meth c n0 T h 0 0 → Ary Z h a1 .int N (fun q => if q < i then .int p2 else f q) → Keep h0 h [a1] → Gl p e below s ({ frames := 0, cells := 0, slots := 0, locals := 0 } : Room) n0 (fun v h => v = none ∧ Keep h0 h [a1] ∧ Ary Z h a1 .int N (fun _ => .int p2)) T (mkF m 5 #[.val (.ref a1), .val (.int p2), .val (.int (Int32.ofNat i)), .val (.int (Nat.toInt32 N))] []) := by
    intro d
    induction d with
    | zero =>
      intro i hd T h S A_a1 Kp
      refine g_iloadN C S dfi_5 (pc' := 6) rfl rfl ?_
      refine g_iloadN C S dfi_6 (pc' := 7) rfl rfl ?_
      refine g_icmp_ge C S dfi_7 (pc' := 20) (pf := 10) (by decide) (by decide) rfl (fun hc7 => ?_) (fun hc7 => absurd hc7 (by rw [Int32.lt_iff_toInt_lt, hn32, o32 (by omega)]; omega))
      exact g_return C S dfi_20 (by decide) (by decide) (⟨rfl, Kp, A_a1.cg fun q hq => if_pos (by omega)⟩)
    | succ d ih =>
      intro i hd T h S A_a1 Kp
      refine g_iloadN C S dfi_5 (pc' := 6) rfl rfl ?_
      refine g_iloadN C S dfi_6 (pc' := 7) rfl rfl ?_
      refine g_icmp_ge C S dfi_7 (pc' := 20) (pf := 10) (by decide) (by decide) rfl (fun hc7 => absurd (by rw [Int32.lt_iff_toInt_lt, hn32, o32 (by omega)]; omega) hc7) (fun hc7 => ?_)
      refine g_aloadN C S dfi_10 (pc' := 11) rfl rfl rfl ?_
      refine g_iloadN C S dfi_11 (pc' := 12) rfl rfl ?_
      refine g_iloadN C S dfi_12 (pc' := 13) rfl rfl ?_
      refine g_iastore C S (i := i) dfi_13 A_a1 (o32 (by omega)) (by omega) ga (pc' := 14) rfl (fun T21 h21 S W21 B21 => ?_)
      have A_a1 := B21
      have Kp := Kp.wr W21 (Or.inl (List.mem_of_getElem? (i := 0) rfl))
      refine g_iinc C S (1 : Int32) dfi_14 (pc' := 17) rfl rfl rfl (L' := #[.val (.ref a1), .val (.int p2), .val (.int ((Int32.ofNat i) + (1 : Int32))), .val (.int (Nat.toInt32 N))]) rfl ?_
      refine g_goto C S dfi_17 (pc' := 5) (by decide) (by decide) ?_
      rw [o32_succ]
      exact ih (i + 1) (by omega) _ _ S (A_a1.cg (up_set (F := fun _ => .int p2) N rfl)) Kp
  refine g_iconst C S (0 : Int32) dfi_0 (pc' := 1) rfl rfl ?_
  refine g_istoreN C S dfi_1 (pc' := 2) rfl (L' := #[.val (.ref a1), .val (.int p2), .val (.int (0 : Int32)), .unset]) rfl ?_
  refine g_aloadN C S dfi_2 (pc' := 3) rfl rfl rfl ?_
  refine g_arraylength C S (x := (Nat.toInt32 N)) dfi_3 A_a1 rfl (pc' := 4) rfl ?_
  refine g_istoreN C S dfi_4 (pc' := 5) rfl (L' := #[.val (.ref a1), .val (.int p2), .val (.int (0 : Int32)), .val (.int (Nat.toInt32 N))]) rfl ?_
  exact LP N 0 (by omega) _ _ S (A_a1.cg fun q hq => (if_neg (Nat.not_lt_zero q)).symm) (Keep.refl _ _)
theorem drc_0 : decode jdk_65_method_30_code 0 = .ok (.iload_n 1, 1) := by decide +kernel
theorem drc_1 : decode jdk_65_method_30_code 1 = .ok (.iload_n 2, 1) := by decide +kernel
theorem drc_2 : decode jdk_65_method_30_code 2 = .ok (.if_icmp .le 44, 3) := by decide +kernel
theorem drc_46 : decode jdk_65_method_30_code 46 = .ok (.iload_n 1, 1) := by decide +kernel
theorem drc_47 : decode jdk_65_method_30_code 47 = .ok (.ifCond .ge 12, 3) := by decide +kernel
theorem drc_59 : decode jdk_65_method_30_code 59 = .ok (.iload_n 2, 1) := by decide +kernel
theorem drc_60 : decode jdk_65_method_30_code 60 = .ok (.iload_n 0, 1) := by decide +kernel
theorem drc_61 : decode jdk_65_method_30_code 61 = .ok (.if_icmp .le 12, 3) := by decide +kernel
theorem drc_73 : decode jdk_65_method_30_code 73 = .ok (.return_, 1) := by decide +kernel
set_option maxRecDepth 65536 in
set_option maxHeartbeats 40000000 in
theorem c_rck (l : Launch) (Z : State) (a0 : Array Value) (hw : ∀ d ∈ tables_1, d.before a0 Z = true) (p1 : Int32) (p2 : Int32) (p3 : Int32) (h0 : Heap) (n0 : Nat) (hr1 : ¬ p3 < p2) (hr2 : ¬ p2 < (0 : Int32)) (hr3 : ¬ p1 < p3) :
    Con l Z (⟨"java/util/Arrays", "rangeCheck", "(III)V"⟩ : MethodName) jdk_65_method_30_code 3 none ({ frames := 0, cells := 0, slots := 0, locals := 0 } : Room) #[(.int p1), (.int p2), (.int p3)] h0 n0 (fun v h => v = none ∧ h = h0) := by
  refine Con.of (plainFor_of_name (by first | (simp [plainName, overriddenIn]; done) | decide +kernel)) (L0 := #[.val (.int p1), .val (.int p2), .val (.int p3)]) (fun m => by first | (simp [entryFrame, mkF, argsToLocals, Value.category]; done) | rfl) ?_
  intro p e s m below meth c T C S
  refine g_iloadN C S drc_0 (pc' := 1) rfl rfl ?_
  refine g_iloadN C S drc_1 (pc' := 2) rfl rfl ?_
  refine g_icmp_le C S drc_2 (pc' := 46) (pf := 5) (by decide) (by decide) rfl (fun hc2 => ?_) (fun hc2 => absurd hc2 hr1)
  refine g_iloadN C S drc_46 (pc' := 47) rfl rfl ?_
  refine g_if_ge C S drc_47 (pc' := 59) (pf := 50) (by decide) (by decide) rfl (fun hc47 => ?_) (fun hc47 => absurd hc47 hr2)
  refine g_iloadN C S drc_59 (pc' := 60) rfl rfl ?_
  refine g_iloadN C S drc_60 (pc' := 61) rfl rfl ?_
  refine g_icmp_le C S drc_61 (pc' := 73) (pf := 64) (by decide) (by decide) rfl (fun hc61 => ?_) (fun hc61 => absurd hc61 hr3)
  exact g_return C S drc_73 (by decide) (by decide) (⟨rfl, rfl⟩)
theorem pd_0 : parseMethodDescriptor "(III)V" = some ⟨[.int, .int, .int], none⟩ := by decide +kernel
theorem dfb_0 : decode jdk_65_method_110_code 0 = .ok (.aload_n 0, 1) := by decide +kernel
theorem dfb_1 : decode jdk_65_method_110_code 1 = .ok (.arraylength, 1) := by decide +kernel
theorem dfb_2 : decode jdk_65_method_110_code 2 = .ok (.iload_n 1, 1) := by decide +kernel
theorem dfb_3 : decode jdk_65_method_110_code 3 = .ok (.iload_n 2, 1) := by decide +kernel
theorem dfb_4 : decode jdk_65_method_110_code 4 = .ok (.invokestatic 13, 3) := by decide +kernel
theorem dfb_7 : decode jdk_65_method_110_code 7 = .ok (.iload_n 1, 1) := by decide +kernel
theorem dfb_8 : decode jdk_65_method_110_code 8 = .ok (.istore 4, 2) := by decide +kernel
theorem dfb_10 : decode jdk_65_method_110_code 10 = .ok (.iload 4, 2) := by decide +kernel
theorem dfb_12 : decode jdk_65_method_110_code 12 = .ok (.iload_n 2, 1) := by decide +kernel
theorem dfb_13 : decode jdk_65_method_110_code 13 = .ok (.if_icmp .ge 14, 3) := by decide +kernel
theorem dfb_16 : decode jdk_65_method_110_code 16 = .ok (.aload_n 0, 1) := by decide +kernel
theorem dfb_17 : decode jdk_65_method_110_code 17 = .ok (.iload 4, 2) := by decide +kernel
theorem dfb_19 : decode jdk_65_method_110_code 19 = .ok (.iload_n 3, 1) := by decide +kernel
theorem dfb_20 : decode jdk_65_method_110_code 20 = .ok (.bastore, 1) := by decide +kernel
theorem dfb_21 : decode jdk_65_method_110_code 21 = .ok (.iinc 4 1, 3) := by decide +kernel
theorem dfb_24 : decode jdk_65_method_110_code 24 = .ok (.goto (-14), 3) := by decide +kernel
theorem dfb_27 : decode jdk_65_method_110_code 27 = .ok (.return_, 1) := by decide +kernel
set_option maxRecDepth 65536 in
set_option maxHeartbeats 40000000 in
theorem c_fillB (l : Launch) (Z : State) (a0 : Array Value) (hw : ∀ d ∈ tables_1, d.before a0 Z = true) (a1 : Addr) (h0 : Heap) (n0 : Nat) (ga : n0 ≤ a1) (A_a1 : Ary Z h0 a1 .byte 264 (fun _ => .int (0 : Int32))) :
    Con l Z (⟨"java/util/Arrays", "fill", "([BIIB)V"⟩ : MethodName) jdk_65_method_110_code 5 none ({ frames := 1, cells := 0, slots := 0, locals := 14 } : Room) #[(.ref a1), (.int (256 : Int32)), (.int (264 : Int32)), (.int (-1 : Int32))] h0 n0 (fun v h => v = none ∧ Keep h0 h [a1] ∧ Ary Z h a1 .byte 264 (fun q => if 256 ≤ q then .int (-1) else .int 0)) := by
  refine Con.of (plainFor_of_name (by first | (simp [plainName, overriddenIn]; done) | decide +kernel)) (L0 := #[.val (.ref a1), .val (.int (256 : Int32)), .val (.int (264 : Int32)), .val (.int (-1 : Int32)), .unset]) (fun m => by first | (simp [entryFrame, mkF, argsToLocals, Value.category]; done) | rfl) ?_
  intro p e s m below meth c T C S
  have LP : ∀ (d : Nat) (i : Nat), i + d = 8 → ∀ (T : State) (h : Heap), On p l e ({ frames := 1, cells := 0, slots := 0, locals := 14 } : Room) s m #[(.ref a1), (.int (256 : Int32)), (.int (264 : Int32)), (.int (-1 : Int32))] below meth c n0 T h 0 0 → Ary Z h a1 .byte 264 (fun q => if 256 ≤ q ∧ q < 256 + i then .int (-1) else .int 0) → Keep h0 h [a1] → Gl p e below s ({ frames := 1, cells := 0, slots := 0, locals := 14 } : Room) n0 (fun v h => v = none ∧ Keep h0 h [a1] ∧ Ary Z h a1 .byte 264 (fun q => if 256 ≤ q then .int (-1) else .int 0)) T (mkF m 10 #[.val (.ref a1), .val (.int (256 : Int32)), .val (.int (264 : Int32)), .val (.int (-1 : Int32)), .val (.int (Int32.ofNat (256 + i)))] []) := by
    intro d
    induction d with
    | zero =>
      intro i hd T h S A_a1 Kp
      refine g_iload C S dfb_10 (pc' := 12) rfl rfl ?_
      refine g_iloadN C S dfb_12 (pc' := 13) rfl rfl ?_
      refine g_icmp_ge C S dfb_13 (pc' := 27) (pf := 16) (by decide) (by decide) rfl (fun hc13 => ?_) (fun hc13 => absurd ((o32_ltl (K := 264) (by decide) (by omega)).mp hc13) (by omega))
      exact g_return C S dfb_27 (by decide) (by decide) (⟨rfl, Kp, A_a1.cg (fb_end hd)⟩)
    | succ d ih =>
      intro i hd T h S A_a1 Kp
      refine g_iload C S dfb_10 (pc' := 12) rfl rfl ?_
      refine g_iloadN C S dfb_12 (pc' := 13) rfl rfl ?_
      refine g_icmp_ge C S dfb_13 (pc' := 27) (pf := 16) (by decide) (by decide) rfl (fun hc13 => absurd ((o32_ltl (K := 264) (by decide) (by omega)).mpr (by omega)) hc13) (fun hc13 => ?_)
      refine g_aloadN C S dfb_16 (pc' := 17) rfl rfl rfl ?_
      refine g_iload C S dfb_17 (pc' := 19) rfl rfl ?_
      refine g_iloadN C S dfb_19 (pc' := 20) rfl rfl ?_
      refine g_bastoreB C S (i := (256 + i)) dfb_20 A_a1 (o32 (by omega)) (by omega) ga (pc' := 21) rfl (fun T22 h22 S W22 B22 => ?_)
      have A_a1 := B22
      have Kp := Kp.wr W22 (Or.inl (List.mem_of_getElem? (i := 0) rfl))
      refine g_iinc C S (1 : Int32) dfb_21 (pc' := 24) rfl rfl rfl (L' := #[.val (.ref a1), .val (.int (256 : Int32)), .val (.int (264 : Int32)), .val (.int (-1 : Int32)), .val (.int ((Int32.ofNat (256 + i)) + (1 : Int32)))]) rfl ?_
      refine g_goto C S dfb_24 (pc' := 10) (by decide) (by decide) ?_
      rw [o32_succ]
      exact ih (i + 1) (by omega) _ _ S (A_a1.cg (fb_set i)) Kp
  refine g_aloadN C S dfb_0 (pc' := 1) rfl rfl rfl ?_
  refine g_arraylength C S (x := (264 : Int32)) dfb_1 A_a1 (by decide) (pc' := 2) rfl ?_
  refine g_iloadN C S dfb_2 (pc' := 3) rfl rfl ?_
  refine g_iloadN C S dfb_3 (pc' := 4) rfl rfl ?_
  refine g_callS C S (rm := ({ frames := 0, cells := 0, slots := 0, locals := 0 } : Room)) (W := 0) dfb_4 (hw _ (List.mem_of_getElem? (i := 28) rfl)) (hw _ (List.mem_of_getElem? (i := 29) rfl)) (hw _ (List.mem_of_getElem? (i := 26) rfl)) (hw _ (List.mem_of_getElem? (i := 30) rfl)) (by decide) (c_rck l Z a0 hw (264 : Int32) (256 : Int32) (264 : Int32) h0 n0 (by decide) (by decide) (by decide)) (argsL := [(.int (264 : Int32)), (.int (256 : Int32)), (.int (264 : Int32))]) (r := []) rfl (lenOf pd_0 rfl) rfl (Nat.le_of_eq rfl) (by decide) (by decide) (by decide) (by decide) (pc' := 7) rfl (fun T23 h23 v23 q23 S => ?_)
  obtain ⟨rfl, e23⟩ := q23; rw [e23] at S
  show Gl p e below s _ n0 _ T23 (mkF m 7 #[.val (.ref a1), .val (.int (256 : Int32)), .val (.int (264 : Int32)), .val (.int (-1 : Int32)), .unset] [])
  refine g_iloadN C S dfb_7 (pc' := 8) rfl rfl ?_
  refine g_istore C S dfb_8 (pc' := 10) rfl (L' := #[.val (.ref a1), .val (.int (256 : Int32)), .val (.int (264 : Int32)), .val (.int (-1 : Int32)), .val (.int (256 : Int32))]) rfl ?_
  exact LP 8 0 (by omega) _ _ S (A_a1.cg fun q hq => (if_neg (by omega)).symm) (Keep.refl _ _)
theorem dmx_0 : decode jdk_29_method_65_code 0 = .ok (.iload_n 0, 1) := by decide +kernel
theorem dmx_1 : decode jdk_29_method_65_code 1 = .ok (.iload_n 1, 1) := by decide +kernel
theorem dmx_2 : decode jdk_29_method_65_code 2 = .ok (.if_icmp .lt 7, 3) := by decide +kernel
theorem dmx_5 : decode jdk_29_method_65_code 5 = .ok (.iload_n 0, 1) := by decide +kernel
theorem dmx_6 : decode jdk_29_method_65_code 6 = .ok (.goto 4, 3) := by decide +kernel
theorem dmx_9 : decode jdk_29_method_65_code 9 = .ok (.iload_n 1, 1) := by decide +kernel
theorem dmx_10 : decode jdk_29_method_65_code 10 = .ok (.ireturn, 1) := by decide +kernel
set_option maxRecDepth 65536 in
set_option maxHeartbeats 40000000 in
theorem c_max (l : Launch) (Z : State) (a0 : Array Value) (hw : ∀ d ∈ tables_1, d.before a0 Z = true) (p1 : Int32) (p2 : Int32) (h0 : Heap) (n0 : Nat) :
    Con l Z (⟨"java/lang/Math", "max", "(II)I"⟩ : MethodName) jdk_29_method_65_code 2 (some .int) ({ frames := 0, cells := 0, slots := 0, locals := 0 } : Room) #[(.int p1), (.int p2)] h0 n0 (fun v h => v = some (.int (if p1 < p2 then p2 else p1)) ∧ h = h0) := by
  refine Con.of (Jvm.Free.JP.mathPlain rfl (by decide +kernel)) (L0 := #[.val (.int p1), .val (.int p2)]) (fun m => by first | (simp [entryFrame, mkF, argsToLocals, Value.category]; done) | rfl) ?_
  intro p e s m below meth c T C S
  refine g_iloadN C S dmx_0 (pc' := 1) rfl rfl ?_
  refine g_iloadN C S dmx_1 (pc' := 2) rfl rfl ?_
  refine g_icmp_lt C S dmx_2 (pc' := 9) (pf := 5) (by decide) (by decide) rfl (fun hc2 => ?_) (fun hc2 => ?_)
  · refine g_iloadN C S dmx_9 (pc' := 10) rfl rfl ?_
    exact g_retI C S dmx_10 (by decide) (by decide) (⟨by rw [if_pos hc2], rfl⟩)
  · refine g_iloadN C S dmx_5 (pc' := 6) rfl rfl ?_
    refine g_goto C S dmx_6 (pc' := 10) (by decide) (by decide) ?_
    exact g_retI C S dmx_10 (by decide) (by decide) (⟨by rw [if_neg hc2], rfl⟩)
theorem dcc_0 : decode prog_31_method_9_code 0 = .ok (.iload_n 2, 1) := by decide +kernel
theorem dcc_1 : decode prog_31_method_9_code 1 = .ok (.ifCond .ne 4, 3) := by decide +kernel
theorem dcc_5 : decode prog_31_method_9_code 5 = .ok (.lconst 1, 1) := by decide +kernel
theorem dcc_6 : decode prog_31_method_9_code 6 = .ok (.lstore_n 3, 1) := by decide +kernel
theorem dcc_7 : decode prog_31_method_9_code 7 = .ok (.iload_n 2, 1) := by decide +kernel
theorem dcc_8 : decode prog_31_method_9_code 8 = .ok (.istore 5, 2) := by decide +kernel
theorem dcc_10 : decode prog_31_method_9_code 10 = .ok (.iconst 0, 1) := by decide +kernel
theorem dcc_11 : decode prog_31_method_9_code 11 = .ok (.istore 6, 2) := by decide +kernel
theorem dcc_13 : decode prog_31_method_9_code 13 = .ok (.iload 6, 2) := by decide +kernel
theorem dcc_15 : decode prog_31_method_9_code 15 = .ok (.iload_n 1, 1) := by decide +kernel
theorem dcc_16 : decode prog_31_method_9_code 16 = .ok (.if_icmp .gt 61, 3) := by decide +kernel
theorem dcc_19 : decode prog_31_method_9_code 19 = .ok (.iload 6, 2) := by decide +kernel
theorem dcc_21 : decode prog_31_method_9_code 21 = .ok (.ifCond .le 9, 3) := by decide +kernel
theorem dcc_24 : decode prog_31_method_9_code 24 = .ok (.lload_n 3, 1) := by decide +kernel
theorem dcc_25 : decode prog_31_method_9_code 25 = .ok (.ldc2_w 98, 3) := by decide +kernel
theorem dcc_28 : decode prog_31_method_9_code 28 = .ok (.lmul, 1) := by decide +kernel
theorem dcc_29 : decode prog_31_method_9_code 29 = .ok (.lstore_n 3, 1) := by decide +kernel
theorem dcc_30 : decode prog_31_method_9_code 30 = .ok (.lload_n 3, 1) := by decide +kernel
theorem dcc_31 : decode prog_31_method_9_code 31 = .ok (.aload_n 0, 1) := by decide +kernel
theorem dcc_32 : decode prog_31_method_9_code 32 = .ok (.iload 6, 2) := by decide +kernel
theorem dcc_34 : decode prog_31_method_9_code 34 = .ok (.iaload, 1) := by decide +kernel
theorem dcc_35 : decode prog_31_method_9_code 35 = .ok (.i2l, 1) := by decide +kernel
theorem dcc_36 : decode prog_31_method_9_code 36 = .ok (.lsub, 1) := by decide +kernel
theorem dcc_37 : decode prog_31_method_9_code 37 = .ok (.lstore_n 3, 1) := by decide +kernel
theorem dcc_38 : decode prog_31_method_9_code 38 = .ok (.iload 5, 2) := by decide +kernel
theorem dcc_40 : decode prog_31_method_9_code 40 = .ok (.aload_n 0, 1) := by decide +kernel
theorem dcc_41 : decode prog_31_method_9_code 41 = .ok (.iload 6, 2) := by decide +kernel
theorem dcc_43 : decode prog_31_method_9_code 43 = .ok (.iaload, 1) := by decide +kernel
theorem dcc_44 : decode prog_31_method_9_code 44 = .ok (.isub, 1) := by decide +kernel
theorem dcc_45 : decode prog_31_method_9_code 45 = .ok (.istore 5, 2) := by decide +kernel
theorem dcc_47 : decode prog_31_method_9_code 47 = .ok (.lload_n 3, 1) := by decide +kernel
theorem dcc_48 : decode prog_31_method_9_code 48 = .ok (.lconst 0, 1) := by decide +kernel
theorem dcc_49 : decode prog_31_method_9_code 49 = .ok (.lcmp, 1) := by decide +kernel
theorem dcc_50 : decode prog_31_method_9_code 50 = .ok (.ifCond .lt 11, 3) := by decide +kernel
theorem dcc_53 : decode prog_31_method_9_code 53 = .ok (.lload_n 3, 1) := by decide +kernel
theorem dcc_54 : decode prog_31_method_9_code 54 = .ok (.iload 5, 2) := by decide +kernel
theorem dcc_56 : decode prog_31_method_9_code 56 = .ok (.i2l, 1) := by decide +kernel
theorem dcc_57 : decode prog_31_method_9_code 57 = .ok (.lcmp, 1) := by decide +kernel
theorem dcc_58 : decode prog_31_method_9_code 58 = .ok (.ifCond .le 13, 3) := by decide +kernel
theorem dcc_71 : decode prog_31_method_9_code 71 = .ok (.iinc 6 1, 3) := by decide +kernel
theorem dcc_74 : decode prog_31_method_9_code 74 = .ok (.goto (-61), 3) := by decide +kernel
theorem dcc_77 : decode prog_31_method_9_code 77 = .ok (.iload 5, 2) := by decide +kernel
theorem dcc_79 : decode prog_31_method_9_code 79 = .ok (.ifCond .eq 13, 3) := by decide +kernel
theorem dcc_92 : decode prog_31_method_9_code 92 = .ok (.return_, 1) := by decide +kernel
set_option maxRecDepth 65536 in
set_option maxHeartbeats 40000000 in
theorem c_cc (l : Launch) (Z : State) (a0 : Array Value) (hw : ∀ d ∈ tables_1, d.before a0 Z = true) (a1 : Addr) (h0 : Heap) (n0 : Nat) (c' : Nat → Nat) (lg n : Nat) (hlg : lg ≤ 63) (hn : 0 < n ∧ n ≤ 64) (hc' : ∀ L, c' L ≤ 64) (hck0 : hCk c' (lg + 1) 0 1 n = true) (A_a1 : Ary Z h0 a1 .int 64 (fun L => .int (Int32.ofNat (c' L)))) :
    Con l Z (⟨"leafpress/HuffmanCode", "checkComplete", "([III)V"⟩ : MethodName) prog_31_method_9_code 7 none ({ frames := 0, cells := 0, slots := 0, locals := 0 } : Room) #[(.ref a1), (.int (Int32.ofNat lg)), (.int (Int32.ofNat n))] h0 n0 (fun v h => v = none ∧ h = h0) := by
  refine Con.of (plainFor_of_name (by first | (simp [plainName, overriddenIn]; done) | decide +kernel)) (L0 := #[.val (.ref a1), .val (.int (Int32.ofNat lg)), .val (.int (Int32.ofNat n)), .unset, .unset, .unset, .unset]) (fun m => by first | (simp [entryFrame, mkF, argsToLocals, Value.category]; done) | rfl) ?_
  intro p e s m below meth c T C S
  have LP : ∀ (d : Nat) (L : Nat) (fr : Int64) (lf : Int32) (free : Int) (left : Int), L + d = lg + 1 → fr.toInt = free → lf.toInt = left → 0 ≤ free ∧ free ≤ left ∧ left ≤ 64 → hCk c' d L free left = true → Gl p e below s ({ frames := 0, cells := 0, slots := 0, locals := 0 } : Room) n0 (fun v h => v = none ∧ h = h0) T (mkF m 13 #[.val (.ref a1), .val (.int (Int32.ofNat lg)), .val (.int (Int32.ofNat n)), .val (.long fr), .second, .val (.int lf), .val (.int (Int32.ofNat L))] []) := by
    intro d
    induction d with
    | zero =>
      intro L fr lf free left hd qfr qlf hb' hck
      refine g_iload C S dcc_13 (pc' := 15) rfl rfl ?_
      refine g_iloadN C S dcc_15 (pc' := 16) rfl rfl ?_
      refine g_icmp_gt C S dcc_16 (pc' := 77) (pf := 19) (by decide) (by decide) rfl (fun hc16 => ?_) (fun hc16 => absurd ((o32_lt (by omega) (by omega)).mpr (by omega)) hc16)
      refine g_iload C S dcc_77 (pc' := 79) rfl rfl ?_
      refine g_if_eq C S dcc_79 (pc' := 92) (pf := 82) (by decide) (by decide) rfl (fun hc79 => ?_) (fun hc79 => absurd (i_zero qlf (of_decide_eq_true hck)) hc79)
      exact g_return C S dcc_92 (by decide) (by decide) (⟨rfl, rfl⟩)
    | succ d ih =>
      intro L fr lf free left hd qfr qlf hb' hck
      refine g_iload C S dcc_13 (pc' := 15) rfl rfl ?_
      refine g_iloadN C S dcc_15 (pc' := 16) rfl rfl ?_
      refine g_icmp_gt C S dcc_16 (pc' := 77) (pf := 19) (by decide) (by decide) rfl (fun hc16 => absurd ((o32_lt (by omega) (by omega)).mp hc16) (by omega)) (fun hc16 => ?_)
      refine g_iload C S dcc_19 (pc' := 21) rfl rfl ?_
      refine g_if_le C S dcc_21 (pc' := 30) (pf := 24) (by decide) (by decide) rfl (fun hc21 => ?_) (fun hc21 => ?_)
      · have hF := hfr1 qfr (by omega) (hc' L)
        have hG := hlf qlf (by omega) (hc' L)
        have hI : (if 0 < L then 2 * free else free) = free := if_neg (fun q => hc21 ((o32_gtl (K := 0) (by decide) (by omega)).mpr q))
        obtain ⟨k1, k2, k3⟩ := hCk_step hck
        rw [hI] at k1 k2 k3
        refine g_lloadN C S dcc_30 (pc' := 31) rfl rfl ?_
        refine g_aloadN C S dcc_31 (pc' := 32) rfl rfl rfl ?_
        refine g_iload C S dcc_32 (pc' := 34) rfl rfl ?_
        refine g_iaload C S (i := L) (v := (.int (Int32.ofNat (c' L)))) dcc_34 A_a1 (o32 (by omega)) (by omega) rfl (pc' := 35) rfl ?_
        refine g_i2l C S dcc_35 (pc' := 36) rfl ?_
        refine g_lsub C S dcc_36 (pc' := 37) rfl ?_
        refine g_lstoreN C S dcc_37 (pc' := 38) rfl (L' := #[.val (.ref a1), .val (.int (Int32.ofNat lg)), .val (.int (Int32.ofNat n)), .val (.long (fr - ((Int32.ofNat (c' L)).toInt64))), .second, .val (.int lf), .val (.int (Int32.ofNat L))]) rfl ?_
        refine g_iload C S dcc_38 (pc' := 40) rfl rfl ?_
        refine g_aloadN C S dcc_40 (pc' := 41) rfl rfl rfl ?_
        refine g_iload C S dcc_41 (pc' := 43) rfl rfl ?_
        refine g_iaload C S (i := L) (v := (.int (Int32.ofNat (c' L)))) dcc_43 A_a1 (o32 (by omega)) (by omega) rfl (pc' := 44) rfl ?_
        refine g_isub C S dcc_44 (pc' := 45) rfl ?_
        refine g_istore C S dcc_45 (pc' := 47) rfl (L' := #[.val (.ref a1), .val (.int (Int32.ofNat lg)), .val (.int (Int32.ofNat n)), .val (.long (fr - ((Int32.ofNat (c' L)).toInt64))), .second, .val (.int (lf - (Int32.ofNat (c' L)))), .val (.int (Int32.ofNat L))]) rfl ?_
        refine g_lloadN C S dcc_47 (pc' := 48) rfl rfl ?_
        refine g_lconst C S (0 : Int64) dcc_48 (pc' := 49) rfl rfl ?_
        refine g_lcmp C S dcc_49 (pc' := 50) rfl ?_
        refine g_lif_lt C S dcc_50 (pc' := 61) (pf := 53) (by decide) (by decide) rfl (fun hc50 => absurd hc50 (l_nn hF k1)) (fun hc50 => ?_)
        refine g_lloadN C S dcc_53 (pc' := 54) rfl rfl ?_
        refine g_iload C S dcc_54 (pc' := 56) rfl rfl ?_
        refine g_i2l C S dcc_56 (pc' := 57) rfl ?_
        refine g_lcmp C S dcc_57 (pc' := 58) rfl ?_
        refine g_lif_le C S dcc_58 (pc' := 71) (pf := 61) (by decide) (by decide) rfl (fun hc58 => ?_) (fun hc58 => absurd hc58 (l_le hF hG k2))
        refine g_iinc C S (1 : Int32) dcc_71 (pc' := 74) rfl rfl rfl (L' := #[.val (.ref a1), .val (.int (Int32.ofNat lg)), .val (.int (Int32.ofNat n)), .val (.long (fr - ((Int32.ofNat (c' L)).toInt64))), .second, .val (.int (lf - (Int32.ofNat (c' L)))), .val (.int ((Int32.ofNat L) + (1 : Int32)))]) rfl ?_
        refine g_goto C S dcc_74 (pc' := 13) (by decide) (by decide) ?_
        rw [o32_succ]
        exact ih (L + 1) _ _ _ _ (by omega) hF hG ⟨k1, k2, by omega⟩ k3
      · refine g_lloadN C S dcc_24 (pc' := 25) rfl rfl ?_
        refine g_ldc2 C S dcc_25 (hw _ (List.mem_of_getElem? (i := 96) rfl)) (pc' := 28) rfl ?_
        refine g_lmul C S dcc_28 (pc' := 29) rfl ?_
        refine g_lstoreN C S dcc_29 (pc' := 30) rfl (L' := #[.val (.ref a1), .val (.int (Int32.ofNat lg)), .val (.int (Int32.ofNat n)), .val (.long (fr * (2 : Int64))), .second, .val (.int lf), .val (.int (Int32.ofNat L))]) rfl ?_
        have hF := hfr2 qfr (by omega) (hc' L)
        have hG := hlf qlf (by omega) (hc' L)
        have hI : (if 0 < L then 2 * free else free) = 2 * free := if_pos ((o32_gtl (K := 0) (by decide) (by omega)).mp hc21)
        obtain ⟨k1, k2, k3⟩ := hCk_step hck
        rw [hI] at k1 k2 k3
        refine g_lloadN C S dcc_30 (pc' := 31) rfl rfl ?_
        refine g_aloadN C S dcc_31 (pc' := 32) rfl rfl rfl ?_
        refine g_iload C S dcc_32 (pc' := 34) rfl rfl ?_
        refine g_iaload C S (i := L) (v := (.int (Int32.ofNat (c' L)))) dcc_34 A_a1 (o32 (by omega)) (by omega) rfl (pc' := 35) rfl ?_
        refine g_i2l C S dcc_35 (pc' := 36) rfl ?_
        refine g_lsub C S dcc_36 (pc' := 37) rfl ?_
        refine g_lstoreN C S dcc_37 (pc' := 38) rfl (L' := #[.val (.ref a1), .val (.int (Int32.ofNat lg)), .val (.int (Int32.ofNat n)), .val (.long ((fr * (2 : Int64)) - ((Int32.ofNat (c' L)).toInt64))), .second, .val (.int lf), .val (.int (Int32.ofNat L))]) rfl ?_
        refine g_iload C S dcc_38 (pc' := 40) rfl rfl ?_
        refine g_aloadN C S dcc_40 (pc' := 41) rfl rfl rfl ?_
        refine g_iload C S dcc_41 (pc' := 43) rfl rfl ?_
        refine g_iaload C S (i := L) (v := (.int (Int32.ofNat (c' L)))) dcc_43 A_a1 (o32 (by omega)) (by omega) rfl (pc' := 44) rfl ?_
        refine g_isub C S dcc_44 (pc' := 45) rfl ?_
        refine g_istore C S dcc_45 (pc' := 47) rfl (L' := #[.val (.ref a1), .val (.int (Int32.ofNat lg)), .val (.int (Int32.ofNat n)), .val (.long ((fr * (2 : Int64)) - ((Int32.ofNat (c' L)).toInt64))), .second, .val (.int (lf - (Int32.ofNat (c' L)))), .val (.int (Int32.ofNat L))]) rfl ?_
        refine g_lloadN C S dcc_47 (pc' := 48) rfl rfl ?_
        refine g_lconst C S (0 : Int64) dcc_48 (pc' := 49) rfl rfl ?_
        refine g_lcmp C S dcc_49 (pc' := 50) rfl ?_
        refine g_lif_lt C S dcc_50 (pc' := 61) (pf := 53) (by decide) (by decide) rfl (fun hc50 => absurd hc50 (l_nn hF k1)) (fun hc50 => ?_)
        refine g_lloadN C S dcc_53 (pc' := 54) rfl rfl ?_
        refine g_iload C S dcc_54 (pc' := 56) rfl rfl ?_
        refine g_i2l C S dcc_56 (pc' := 57) rfl ?_
        refine g_lcmp C S dcc_57 (pc' := 58) rfl ?_
        refine g_lif_le C S dcc_58 (pc' := 71) (pf := 61) (by decide) (by decide) rfl (fun hc58 => ?_) (fun hc58 => absurd hc58 (l_le hF hG k2))
        refine g_iinc C S (1 : Int32) dcc_71 (pc' := 74) rfl rfl rfl (L' := #[.val (.ref a1), .val (.int (Int32.ofNat lg)), .val (.int (Int32.ofNat n)), .val (.long ((fr * (2 : Int64)) - ((Int32.ofNat (c' L)).toInt64))), .second, .val (.int (lf - (Int32.ofNat (c' L)))), .val (.int ((Int32.ofNat L) + (1 : Int32)))]) rfl ?_
        refine g_goto C S dcc_74 (pc' := 13) (by decide) (by decide) ?_
        rw [o32_succ]
        exact ih (L + 1) _ _ _ _ (by omega) hF hG ⟨k1, k2, by omega⟩ k3
  refine g_iloadN C S dcc_0 (pc' := 1) rfl rfl ?_
  refine g_if_ne C S dcc_1 (pc' := 5) (pf := 4) (by decide) (by decide) rfl (fun hc1 => ?_) (fun hc1 => absurd ((o32_inj (j := n) (k := 0) (by omega) (by omega)).mp hc1) (by omega))
  refine g_lconst C S (1 : Int64) dcc_5 (pc' := 6) rfl rfl ?_
  refine g_lstoreN C S dcc_6 (pc' := 7) rfl (L' := #[.val (.ref a1), .val (.int (Int32.ofNat lg)), .val (.int (Int32.ofNat n)), .val (.long (1 : Int64)), .second, .unset, .unset]) rfl ?_
  refine g_iloadN C S dcc_7 (pc' := 8) rfl rfl ?_
  refine g_istore C S dcc_8 (pc' := 10) rfl (L' := #[.val (.ref a1), .val (.int (Int32.ofNat lg)), .val (.int (Int32.ofNat n)), .val (.long (1 : Int64)), .second, .val (.int (Int32.ofNat n)), .unset]) rfl ?_
  refine g_iconst C S (0 : Int32) dcc_10 (pc' := 11) rfl rfl ?_
  refine g_istore C S dcc_11 (pc' := 13) rfl (L' := #[.val (.ref a1), .val (.int (Int32.ofNat lg)), .val (.int (Int32.ofNat n)), .val (.long (1 : Int64)), .second, .val (.int (Int32.ofNat n)), .val (.int (0 : Int32))]) rfl ?_
  exact LP (lg + 1) 0 _ _ 1 n (by omega) (by decide) (o32 (by omega)) (by omega) hck0
theorem pd_1 : parseMethodDescriptor "([III)V" = some ⟨[(.array .int), .int, .int], none⟩ := by decide +kernel
theorem pd_2 : parseMethodDescriptor "(II)I" = some ⟨[.int, .int], some .int⟩ := by decide +kernel
theorem dct_0 : decode prog_31_method_7_code 0 = .ok (.iconst 0, 1) := by decide +kernel
theorem dct_1 : decode prog_31_method_7_code 1 = .ok (.istore 4, 2) := by decide +kernel
theorem dct_3 : decode prog_31_method_7_code 3 = .ok (.iconst (-1), 1) := by decide +kernel
theorem dct_4 : decode prog_31_method_7_code 4 = .ok (.istore 5, 2) := by decide +kernel
theorem dct_6 : decode prog_31_method_7_code 6 = .ok (.iconst 0, 1) := by decide +kernel
theorem dct_7 : decode prog_31_method_7_code 7 = .ok (.istore 6, 2) := by decide +kernel
theorem dct_9 : decode prog_31_method_7_code 9 = .ok (.iload 6, 2) := by decide +kernel
theorem dct_11 : decode prog_31_method_7_code 11 = .ok (.iload_n 1, 1) := by decide +kernel
theorem dct_12 : decode prog_31_method_7_code 12 = .ok (.if_icmp .ge 81, 3) := by decide +kernel
theorem dct_15 : decode prog_31_method_7_code 15 = .ok (.aload_n 0, 1) := by decide +kernel
theorem dct_16 : decode prog_31_method_7_code 16 = .ok (.iload 6, 2) := by decide +kernel
theorem dct_18 : decode prog_31_method_7_code 18 = .ok (.iaload, 1) := by decide +kernel
theorem dct_19 : decode prog_31_method_7_code 19 = .ok (.istore 7, 2) := by decide +kernel
theorem dct_21 : decode prog_31_method_7_code 21 = .ok (.iload 7, 2) := by decide +kernel
theorem dct_23 : decode prog_31_method_7_code 23 = .ok (.iload 5, 2) := by decide +kernel
theorem dct_25 : decode prog_31_method_7_code 25 = .ok (.if_icmp .gt 13, 3) := by decide +kernel
theorem dct_38 : decode prog_31_method_7_code 38 = .ok (.iload 7, 2) := by decide +kernel
theorem dct_40 : decode prog_31_method_7_code 40 = .ok (.istore 5, 2) := by decide +kernel
theorem dct_42 : decode prog_31_method_7_code 42 = .ok (.aload_n 2, 1) := by decide +kernel
theorem dct_43 : decode prog_31_method_7_code 43 = .ok (.iload 7, 2) := by decide +kernel
theorem dct_45 : decode prog_31_method_7_code 45 = .ok (.iaload, 1) := by decide +kernel
theorem dct_46 : decode prog_31_method_7_code 46 = .ok (.istore 8, 2) := by decide +kernel
theorem dct_48 : decode prog_31_method_7_code 48 = .ok (.iload 8, 2) := by decide +kernel
theorem dct_50 : decode prog_31_method_7_code 50 = .ok (.ifCond .lt 10, 3) := by decide +kernel
theorem dct_53 : decode prog_31_method_7_code 53 = .ok (.iload 8, 2) := by decide +kernel
theorem dct_55 : decode prog_31_method_7_code 55 = .ok (.bipush 63, 2) := by decide +kernel
theorem dct_57 : decode prog_31_method_7_code 57 = .ok (.if_icmp .le 13, 3) := by decide +kernel
theorem dct_70 : decode prog_31_method_7_code 70 = .ok (.aload_n 3, 1) := by decide +kernel
theorem dct_71 : decode prog_31_method_7_code 71 = .ok (.iload 8, 2) := by decide +kernel
theorem dct_73 : decode prog_31_method_7_code 73 = .ok (.dup2, 1) := by decide +kernel
theorem dct_74 : decode prog_31_method_7_code 74 = .ok (.iaload, 1) := by decide +kernel
theorem dct_75 : decode prog_31_method_7_code 75 = .ok (.iconst 1, 1) := by decide +kernel
theorem dct_76 : decode prog_31_method_7_code 76 = .ok (.iadd, 1) := by decide +kernel
theorem dct_77 : decode prog_31_method_7_code 77 = .ok (.iastore, 1) := by decide +kernel
theorem dct_78 : decode prog_31_method_7_code 78 = .ok (.iload 4, 2) := by decide +kernel
theorem dct_80 : decode prog_31_method_7_code 80 = .ok (.iload 8, 2) := by decide +kernel
theorem dct_82 : decode prog_31_method_7_code 82 = .ok (.invokestatic 88, 3) := by decide +kernel
theorem dct_85 : decode prog_31_method_7_code 85 = .ok (.istore 4, 2) := by decide +kernel
theorem dct_87 : decode prog_31_method_7_code 87 = .ok (.iinc 6 1, 3) := by decide +kernel
theorem dct_90 : decode prog_31_method_7_code 90 = .ok (.goto (-81), 3) := by decide +kernel
theorem dct_93 : decode prog_31_method_7_code 93 = .ok (.aload_n 3, 1) := by decide +kernel
theorem dct_94 : decode prog_31_method_7_code 94 = .ok (.iload 4, 2) := by decide +kernel
theorem dct_96 : decode prog_31_method_7_code 96 = .ok (.iload_n 1, 1) := by decide +kernel
theorem dct_97 : decode prog_31_method_7_code 97 = .ok (.invokestatic 94, 3) := by decide +kernel
theorem dct_100 : decode prog_31_method_7_code 100 = .ok (.iload 4, 2) := by decide +kernel
theorem dct_102 : decode prog_31_method_7_code 102 = .ok (.ireturn, 1) := by decide +kernel
set_option maxRecDepth 65536 in
set_option maxHeartbeats 40000000 in
theorem c_cnt (l' : Launch) (Z : State) (a0 : Array Value) (hw : ∀ d ∈ tables_1, d.before a0 Z = true) (a1 : Addr) (a3 : Addr) (a4 : Addr) (h0 : Heap) (n0 : Nat) (l V : Nat → Nat) (n N1 N3 : Nat) (fv fl : Nat → Value) (hg : hGood l n = true) (hN1 : n ≤ N1) (hN3 : N3 ≤ 256) (hV : ∀ i, i < n → V i < N3) (hA : ∀ i, i + 1 < n → V i < V (i + 1)) (hfv : ∀ i, i < n → fv i = .int (Int32.ofNat (V i))) (hfl : ∀ i, i < n → fl (V i) = .int (Int32.ofNat (l i))) (ga : n0 ≤ a4) (ne_a1_a4 : a1 ≠ a4) (ne_a3_a4 : a3 ≠ a4) (A_a1 : Ary Z h0 a1 .int N1 fv) (A_a3 : Ary Z h0 a3 .int N3 fl) (A_a4 : Ary Z h0 a4 .int 64 (fun _ => .int (0 : Int32))) :
    Con l' Z (⟨"leafpress/HuffmanCode", "count", "([II[I[I)I"⟩ : MethodName) prog_31_method_7_code 9 (some .int) ({ frames := 1, cells := 0, slots := 0, locals := 18 } : Room) #[(.ref a1), (.int (Int32.ofNat n)), (.ref a3), (.ref a4)] h0 n0 (fun v h => v = some (.int (Int32.ofNat (hLng l n))) ∧ Keep h0 h [a4] ∧ Ary Z h a4 .int 64 (fun L => .int (Int32.ofNat (hCnt l n L)))) := by
  refine Con.of (plainFor_of_name (by first | (simp [plainName, overriddenIn]; done) | decide +kernel)) (L0 := #[.val (.ref a1), .val (.int (Int32.ofNat n)), .val (.ref a3), .val (.ref a4), .unset, .unset, .unset, .unset, .unset]) (fun m => by first | (simp [entryFrame, mkF, argsToLocals, Value.category]; done) | rfl) ?_
  intro p e s m below meth c T C S
  obtain ⟨hn0, hn64, hl, hck, hpos, hsid⟩ := hGood_spec hg
  have LP : ∀ (d : Nat) (i : Nat) (pv : Int32) (s7 : Slot) (s8 : Slot), i + d = n → (i < n → pv.toInt < (V i : Int)) → (s7 = .unset ∨ ∃ w, s7 = .val w ∧ w.category = 1) → (s8 = .unset ∨ ∃ w, s8 = .val w ∧ w.category = 1) → ∀ (T : State) (h : Heap), On p l' e ({ frames := 1, cells := 0, slots := 0, locals := 18 } : Room) s m #[(.ref a1), (.int (Int32.ofNat n)), (.ref a3), (.ref a4)] below meth c n0 T h 0 0 → Ary Z h a1 .int N1 fv → Ary Z h a3 .int N3 fl → Ary Z h a4 .int 64 (fun L => .int (Int32.ofNat (hCnt l i L))) → Keep h0 h [a4] → Gl p e below s ({ frames := 1, cells := 0, slots := 0, locals := 18 } : Room) n0 (fun v h => v = some (.int (Int32.ofNat (hLng l n))) ∧ Keep h0 h [a4] ∧ Ary Z h a4 .int 64 (fun L => .int (Int32.ofNat (hCnt l n L)))) T (mkF m 9 #[.val (.ref a1), .val (.int (Int32.ofNat n)), .val (.ref a3), .val (.ref a4), .val (.int (Int32.ofNat (hLng l i))), .val (.int pv), .val (.int (Int32.ofNat i)), s7, s8] []) := by
    intro d
    induction d with
    | zero =>
      intro i pv s7 s8 hd hpv hs7 hs8 T h S A_a1 A_a3 A_a4 Kp
      have hi : i = n := by omega
      rw [hi] at A_a4 ⊢
      refine g_iload C S dct_9 (pc' := 11) rfl rfl ?_
      refine g_iloadN C S dct_11 (pc' := 12) rfl rfl ?_
      refine g_icmp_ge C S dct_12 (pc' := 93) (pf := 15) (by decide) (by decide) rfl (fun hc12 => ?_) (fun hc12 => absurd ((o32_lt (by omega) (by omega)).mp hc12) (Nat.lt_irrefl n))
      refine g_aloadN C S dct_93 (pc' := 94) rfl rfl rfl ?_
      refine g_iload C S dct_94 (pc' := 96) rfl rfl ?_
      refine g_iloadN C S dct_96 (pc' := 97) rfl rfl ?_
      refine g_callS C S (rm := ({ frames := 0, cells := 0, slots := 0, locals := 0 } : Room)) (W := 0) dct_97 (hw _ (List.mem_of_getElem? (i := 56) rfl)) (hw _ (List.mem_of_getElem? (i := 57) rfl)) (hw _ (List.mem_of_getElem? (i := 2) rfl)) (hw _ (List.mem_of_getElem? (i := 58) rfl)) (by decide) (c_cc l' Z a0 hw a4 h n0 (hCnt l n) (hLng l n) n (hLng_le n hl) (by omega) (fun L => Nat.le_trans (hCnt_le l L n) hn64) hck A_a4) (argsL := [(.ref a4), (.int (Int32.ofNat (hLng l n))), (.int (Int32.ofNat n))]) (r := []) rfl (lenOf pd_1 rfl) rfl (Nat.le_of_eq rfl) (by decide) (by decide) (by decide) (by decide) (pc' := 100) rfl (fun T24 h24 v24 q24 S => ?_)
      obtain ⟨rfl, e24⟩ := q24; rw [e24] at S
      show Gl p e below s _ n0 _ T24 (mkF m 100 #[.val (.ref a1), .val (.int (Int32.ofNat n)), .val (.ref a3), .val (.ref a4), .val (.int (Int32.ofNat (hLng l n))), .val (.int pv), .val (.int (Int32.ofNat n)), s7, s8] [])
      refine g_iload C S dct_100 (pc' := 102) rfl rfl ?_
      exact g_retI C S dct_102 (by decide) (by decide) (⟨rfl, Kp, A_a4⟩)
    | succ d ih =>
      intro i pv s7 s8 hd hpv hs7 hs8 T h S A_a1 A_a3 A_a4 Kp
      have hin : i < n := by omega
      have hVi := hV i hin
      have hli := hl i hin
      have hLi : hLng l i ≤ 63 := hLng_le i fun j hj => hl j (by omega)
      refine g_iload C S dct_9 (pc' := 11) rfl rfl ?_
      refine g_iloadN C S dct_11 (pc' := 12) rfl rfl ?_
      refine g_icmp_ge C S dct_12 (pc' := 93) (pf := 15) (by decide) (by decide) rfl (fun hc12 => absurd ((o32_lt (by omega) (by omega)).mpr hin) hc12) (fun hc12 => ?_)
      refine g_aloadN C S dct_15 (pc' := 16) rfl rfl rfl ?_
      refine g_iload C S dct_16 (pc' := 18) rfl rfl ?_
      refine g_iaload C S (i := i) (v := (.int (Int32.ofNat (V i)))) dct_18 A_a1 (o32 (by omega)) (by omega) (hfv i hin) (pc' := 19) rfl ?_
      refine g_istore C S dct_19 (pc' := 21) rfl (L' := #[.val (.ref a1), .val (.int (Int32.ofNat n)), .val (.ref a3), .val (.ref a4), .val (.int (Int32.ofNat (hLng l i))), .val (.int pv), .val (.int (Int32.ofNat i)), .val (.int (Int32.ofNat (V i))), s8]) (XS.store1 rfl hs7 rfl) ?_
      refine g_iload C S dct_21 (pc' := 23) rfl rfl ?_
      refine g_iload C S dct_23 (pc' := 25) rfl rfl ?_
      refine g_icmp_gt C S dct_25 (pc' := 38) (pf := 28) (by decide) (by decide) rfl (fun hc25 => ?_) (fun hc25 => absurd (i_gt (hpv hin) (by omega)) hc25)
      refine g_iload C S dct_38 (pc' := 40) rfl rfl ?_
      refine g_istore C S dct_40 (pc' := 42) rfl (L' := #[.val (.ref a1), .val (.int (Int32.ofNat n)), .val (.ref a3), .val (.ref a4), .val (.int (Int32.ofNat (hLng l i))), .val (.int (Int32.ofNat (V i))), .val (.int (Int32.ofNat i)), .val (.int (Int32.ofNat (V i))), s8]) rfl ?_
      refine g_aloadN C S dct_42 (pc' := 43) rfl rfl rfl ?_
      refine g_iload C S dct_43 (pc' := 45) rfl rfl ?_
      refine g_iaload C S (i := (V i)) (v := (.int (Int32.ofNat (l i)))) dct_45 A_a3 (o32 (by omega)) hVi (hfl i hin) (pc' := 46) rfl ?_
      refine g_istore C S dct_46 (pc' := 48) rfl (L' := #[.val (.ref a1), .val (.int (Int32.ofNat n)), .val (.ref a3), .val (.ref a4), .val (.int (Int32.ofNat (hLng l i))), .val (.int (Int32.ofNat (V i))), .val (.int (Int32.ofNat i)), .val (.int (Int32.ofNat (V i))), .val (.int (Int32.ofNat (l i)))]) (XS.store1 rfl hs8 rfl) ?_
      refine g_iload C S dct_48 (pc' := 50) rfl rfl ?_
      refine g_if_lt C S dct_50 (pc' := 60) (pf := 53) (by decide) (by decide) rfl (fun hc50 => absurd ((o32_ltl (K := 0) (by decide) (by omega)).mp hc50) (Nat.not_lt_zero _)) (fun hc50 => ?_)
      refine g_iload C S dct_53 (pc' := 55) rfl rfl ?_
      refine g_bipush C S (63 : Int32) dct_55 (pc' := 57) rfl rfl ?_
      refine g_icmp_le C S dct_57 (pc' := 70) (pf := 60) (by decide) (by decide) rfl (fun hc57 => ?_) (fun hc57 => absurd ((o32_gtl (K := 63) (by decide) (by omega)).mp hc57) (by omega))
      refine g_aloadN C S dct_70 (pc' := 71) rfl rfl rfl ?_
      refine g_iload C S dct_71 (pc' := 73) rfl rfl ?_
      refine g_dup2 C S dct_73 (pc' := 74) rfl rfl rfl ?_
      refine g_iaload C S (i := (l i)) (v := (.int (Int32.ofNat (hCnt l i (l i))))) dct_74 A_a4 (o32 (by omega)) (by omega) rfl (pc' := 75) rfl ?_
      refine g_iconst C S (1 : Int32) dct_75 (pc' := 76) rfl rfl ?_
      refine g_iadd C S dct_76 (pc' := 77) rfl ?_
      refine g_iastore C S (i := (l i)) dct_77 A_a4 (o32 (by omega)) (by omega) ga (pc' := 78) rfl (fun T25 h25 S W25 B25 => ?_)
      have A_a1 := A_a1.other W25 ne_a1_a4
      have A_a3 := A_a3.other W25 ne_a3_a4
      have A_a4 := B25
      have A_a4 := A_a4.cg (hCnt_set l i 64)
      have Kp := Kp.wr W25 (Or.inl (List.mem_of_getElem? (i := 0) rfl))
      refine g_iload C S dct_78 (pc' := 80) rfl rfl ?_
      refine g_iload C S dct_80 (pc' := 82) rfl rfl ?_
      refine g_callS C S (rm := ({ frames := 0, cells := 0, slots := 0, locals := 0 } : Room)) (W := 0) dct_82 (hw _ (List.mem_of_getElem? (i := 52) rfl)) (hw _ (List.mem_of_getElem? (i := 53) rfl)) (hw _ (List.mem_of_getElem? (i := 54) rfl)) (hw _ (List.mem_of_getElem? (i := 55) rfl)) (by decide) (c_max l' Z a0 hw (Int32.ofNat (hLng l i)) (Int32.ofNat (l i)) h25 n0) (argsL := [(.int (Int32.ofNat (hLng l i))), (.int (Int32.ofNat (l i)))]) (r := []) rfl (lenOf pd_2 rfl) rfl (Nat.le_of_eq rfl) (by decide) (by decide) (by decide) (by decide) (pc' := 85) rfl (fun T26 h26 v26 q26 S => ?_)
      obtain ⟨rfl, e26⟩ := q26; rw [e26] at S
      show Gl p e below s _ n0 _ T26 (mkF m 85 #[.val (.ref a1), .val (.int (Int32.ofNat n)), .val (.ref a3), .val (.ref a4), .val (.int (Int32.ofNat (hLng l i))), .val (.int (Int32.ofNat (V i))), .val (.int (Int32.ofNat i)), .val (.int (Int32.ofNat (V i))), .val (.int (Int32.ofNat (l i)))] [(.int (if (Int32.ofNat (hLng l i)) < (Int32.ofNat (l i)) then (Int32.ofNat (l i)) else (Int32.ofNat (hLng l i))))])
      rw [o32_max l i (by omega) (by omega)]
      refine g_istore C S dct_85 (pc' := 87) rfl (L' := #[.val (.ref a1), .val (.int (Int32.ofNat n)), .val (.ref a3), .val (.ref a4), .val (.int (Int32.ofNat (hLng l (i + 1)))), .val (.int (Int32.ofNat (V i))), .val (.int (Int32.ofNat i)), .val (.int (Int32.ofNat (V i))), .val (.int (Int32.ofNat (l i)))]) rfl ?_
      refine g_iinc C S (1 : Int32) dct_87 (pc' := 90) rfl rfl rfl (L' := #[.val (.ref a1), .val (.int (Int32.ofNat n)), .val (.ref a3), .val (.ref a4), .val (.int (Int32.ofNat (hLng l (i + 1)))), .val (.int (Int32.ofNat (V i))), .val (.int ((Int32.ofNat i) + (1 : Int32))), .val (.int (Int32.ofNat (V i))), .val (.int (Int32.ofNat (l i)))]) rfl ?_
      refine g_goto C S dct_90 (pc' := 9) (by decide) (by decide) ?_
      rw [o32_succ]
      exact ih (i + 1) _ _ _ (by omega) (i_asc hA (by omega)) (Or.inr ⟨_, rfl, rfl⟩) (Or.inr ⟨_, rfl, rfl⟩) _ _ S A_a1 A_a3 A_a4 Kp
  refine g_iconst C S (0 : Int32) dct_0 (pc' := 1) rfl rfl ?_
  refine g_istore C S dct_1 (pc' := 3) rfl (L' := #[.val (.ref a1), .val (.int (Int32.ofNat n)), .val (.ref a3), .val (.ref a4), .val (.int (0 : Int32)), .unset, .unset, .unset, .unset]) rfl ?_
  refine g_iconst C S (-1 : Int32) dct_3 (pc' := 4) rfl rfl ?_
  refine g_istore C S dct_4 (pc' := 6) rfl (L' := #[.val (.ref a1), .val (.int (Int32.ofNat n)), .val (.ref a3), .val (.ref a4), .val (.int (0 : Int32)), .val (.int (-1 : Int32)), .unset, .unset, .unset]) rfl ?_
  refine g_iconst C S (0 : Int32) dct_6 (pc' := 7) rfl rfl ?_
  refine g_istore C S dct_7 (pc' := 9) rfl (L' := #[.val (.ref a1), .val (.int (Int32.ofNat n)), .val (.ref a3), .val (.ref a4), .val (.int (0 : Int32)), .val (.int (-1 : Int32)), .val (.int (0 : Int32)), .unset, .unset]) rfl ?_
  have hm1 : (-1 : Int32).toInt = -1 := by decide
  exact LP n 0 _ _ _ (by omega) (fun _ => by omega) (Or.inl rfl) (Or.inl rfl) _ _ S A_a1 A_a3 A_a4 (Keep.refl _ _)
theorem z_set {F G : Nat → Value} {v : Value} {N : Nat} (hv : v = F 0) : ∀ q, q < N → (fun q => if q = 0 then v else G q) q = (fun q => if q < 0 + 1 then F q else G q) q := fun q _ => by
  show (if q = 0 then v else G q) = (if q < 0 + 1 then F q else G q)
  by_cases u : q = 0
  · rw [if_pos u, if_pos (by omega), u]; exact hv
  · rw [if_neg u, if_neg (by omega)]
theorem dcn_0 : decode prog_31_method_8_code 0 = .ok (.aload 5, 2) := by decide +kernel
theorem dcn_2 : decode prog_31_method_8_code 2 = .ok (.iconst 0, 1) := by decide +kernel
theorem dcn_3 : decode prog_31_method_8_code 3 = .ok (.lconst 0, 1) := by decide +kernel
theorem dcn_4 : decode prog_31_method_8_code 4 = .ok (.lastore, 1) := by decide +kernel
theorem dcn_5 : decode prog_31_method_8_code 5 = .ok (.aload 6, 2) := by decide +kernel
theorem dcn_7 : decode prog_31_method_8_code 7 = .ok (.iconst 0, 1) := by decide +kernel
theorem dcn_8 : decode prog_31_method_8_code 8 = .ok (.iconst 0, 1) := by decide +kernel
theorem dcn_9 : decode prog_31_method_8_code 9 = .ok (.iastore, 1) := by decide +kernel
theorem dcn_10 : decode prog_31_method_8_code 10 = .ok (.lconst 0, 1) := by decide +kernel
theorem dcn_11 : decode prog_31_method_8_code 11 = .ok (.lstore 8, 2) := by decide +kernel
theorem dcn_13 : decode prog_31_method_8_code 13 = .ok (.iconst 1, 1) := by decide +kernel
theorem dcn_14 : decode prog_31_method_8_code 14 = .ok (.istore 10, 2) := by decide +kernel
theorem dcn_16 : decode prog_31_method_8_code 16 = .ok (.iload 10, 2) := by decide +kernel
theorem dcn_18 : decode prog_31_method_8_code 18 = .ok (.iload 4, 2) := by decide +kernel
theorem dcn_20 : decode prog_31_method_8_code 20 = .ok (.if_icmp .gt 49, 3) := by decide +kernel
theorem dcn_23 : decode prog_31_method_8_code 23 = .ok (.aload 6, 2) := by decide +kernel
theorem dcn_25 : decode prog_31_method_8_code 25 = .ok (.iload 10, 2) := by decide +kernel
theorem dcn_27 : decode prog_31_method_8_code 27 = .ok (.aload 6, 2) := by decide +kernel
theorem dcn_29 : decode prog_31_method_8_code 29 = .ok (.iload 10, 2) := by decide +kernel
theorem dcn_31 : decode prog_31_method_8_code 31 = .ok (.iconst 1, 1) := by decide +kernel
theorem dcn_32 : decode prog_31_method_8_code 32 = .ok (.isub, 1) := by decide +kernel
theorem dcn_33 : decode prog_31_method_8_code 33 = .ok (.iaload, 1) := by decide +kernel
theorem dcn_34 : decode prog_31_method_8_code 34 = .ok (.aload_n 3, 1) := by decide +kernel
theorem dcn_35 : decode prog_31_method_8_code 35 = .ok (.iload 10, 2) := by decide +kernel
theorem dcn_37 : decode prog_31_method_8_code 37 = .ok (.iconst 1, 1) := by decide +kernel
theorem dcn_38 : decode prog_31_method_8_code 38 = .ok (.isub, 1) := by decide +kernel
theorem dcn_39 : decode prog_31_method_8_code 39 = .ok (.iaload, 1) := by decide +kernel
theorem dcn_40 : decode prog_31_method_8_code 40 = .ok (.iadd, 1) := by decide +kernel
theorem dcn_41 : decode prog_31_method_8_code 41 = .ok (.iastore, 1) := by decide +kernel
theorem dcn_42 : decode prog_31_method_8_code 42 = .ok (.lload 8, 2) := by decide +kernel
theorem dcn_44 : decode prog_31_method_8_code 44 = .ok (.aload_n 3, 1) := by decide +kernel
theorem dcn_45 : decode prog_31_method_8_code 45 = .ok (.iload 10, 2) := by decide +kernel
theorem dcn_47 : decode prog_31_method_8_code 47 = .ok (.iconst 1, 1) := by decide +kernel
theorem dcn_48 : decode prog_31_method_8_code 48 = .ok (.isub, 1) := by decide +kernel
theorem dcn_49 : decode prog_31_method_8_code 49 = .ok (.iaload, 1) := by decide +kernel
theorem dcn_50 : decode prog_31_method_8_code 50 = .ok (.i2l, 1) := by decide +kernel
theorem dcn_51 : decode prog_31_method_8_code 51 = .ok (.ladd, 1) := by decide +kernel
theorem dcn_52 : decode prog_31_method_8_code 52 = .ok (.iconst 1, 1) := by decide +kernel
theorem dcn_53 : decode prog_31_method_8_code 53 = .ok (.lshl, 1) := by decide +kernel
theorem dcn_54 : decode prog_31_method_8_code 54 = .ok (.lstore 8, 2) := by decide +kernel
theorem dcn_56 : decode prog_31_method_8_code 56 = .ok (.aload 5, 2) := by decide +kernel
theorem dcn_58 : decode prog_31_method_8_code 58 = .ok (.iload 10, 2) := by decide +kernel
theorem dcn_60 : decode prog_31_method_8_code 60 = .ok (.lload 8, 2) := by decide +kernel
theorem dcn_62 : decode prog_31_method_8_code 62 = .ok (.lastore, 1) := by decide +kernel
theorem dcn_63 : decode prog_31_method_8_code 63 = .ok (.iinc 10 1, 3) := by decide +kernel
theorem dcn_66 : decode prog_31_method_8_code 66 = .ok (.goto (-50), 3) := by decide +kernel
theorem dcn_69 : decode prog_31_method_8_code 69 = .ok (.iconst 0, 1) := by decide +kernel
theorem dcn_70 : decode prog_31_method_8_code 70 = .ok (.istore 10, 2) := by decide +kernel
theorem dcn_72 : decode prog_31_method_8_code 72 = .ok (.iload 10, 2) := by decide +kernel
theorem dcn_74 : decode prog_31_method_8_code 74 = .ok (.iload_n 1, 1) := by decide +kernel
theorem dcn_75 : decode prog_31_method_8_code 75 = .ok (.if_icmp .ge 30, 3) := by decide +kernel
theorem dcn_78 : decode prog_31_method_8_code 78 = .ok (.aload 7, 2) := by decide +kernel
theorem dcn_80 : decode prog_31_method_8_code 80 = .ok (.aload 6, 2) := by decide +kernel
theorem dcn_82 : decode prog_31_method_8_code 82 = .ok (.aload_n 2, 1) := by decide +kernel
theorem dcn_83 : decode prog_31_method_8_code 83 = .ok (.aload_n 0, 1) := by decide +kernel
theorem dcn_84 : decode prog_31_method_8_code 84 = .ok (.iload 10, 2) := by decide +kernel
theorem dcn_86 : decode prog_31_method_8_code 86 = .ok (.iaload, 1) := by decide +kernel
theorem dcn_87 : decode prog_31_method_8_code 87 = .ok (.iaload, 1) := by decide +kernel
theorem dcn_88 : decode prog_31_method_8_code 88 = .ok (.dup2, 1) := by decide +kernel
theorem dcn_89 : decode prog_31_method_8_code 89 = .ok (.iaload, 1) := by decide +kernel
theorem dcn_90 : decode prog_31_method_8_code 90 = .ok (.dup_x2, 1) := by decide +kernel
theorem dcn_91 : decode prog_31_method_8_code 91 = .ok (.iconst 1, 1) := by decide +kernel
theorem dcn_92 : decode prog_31_method_8_code 92 = .ok (.iadd, 1) := by decide +kernel
theorem dcn_93 : decode prog_31_method_8_code 93 = .ok (.iastore, 1) := by decide +kernel
theorem dcn_94 : decode prog_31_method_8_code 94 = .ok (.aload_n 0, 1) := by decide +kernel
theorem dcn_95 : decode prog_31_method_8_code 95 = .ok (.iload 10, 2) := by decide +kernel
theorem dcn_97 : decode prog_31_method_8_code 97 = .ok (.iaload, 1) := by decide +kernel
theorem dcn_98 : decode prog_31_method_8_code 98 = .ok (.iastore, 1) := by decide +kernel
theorem dcn_99 : decode prog_31_method_8_code 99 = .ok (.iinc 10 1, 3) := by decide +kernel
theorem dcn_102 : decode prog_31_method_8_code 102 = .ok (.goto (-30), 3) := by decide +kernel
theorem dcn_105 : decode prog_31_method_8_code 105 = .ok (.iconst 0, 1) := by decide +kernel
theorem dcn_106 : decode prog_31_method_8_code 106 = .ok (.istore 10, 2) := by decide +kernel
theorem dcn_108 : decode prog_31_method_8_code 108 = .ok (.iload 10, 2) := by decide +kernel
theorem dcn_110 : decode prog_31_method_8_code 110 = .ok (.iload 4, 2) := by decide +kernel
theorem dcn_112 : decode prog_31_method_8_code 112 = .ok (.if_icmp .gt 21, 3) := by decide +kernel
theorem dcn_115 : decode prog_31_method_8_code 115 = .ok (.aload 6, 2) := by decide +kernel
theorem dcn_117 : decode prog_31_method_8_code 117 = .ok (.iload 10, 2) := by decide +kernel
theorem dcn_119 : decode prog_31_method_8_code 119 = .ok (.dup2, 1) := by decide +kernel
theorem dcn_120 : decode prog_31_method_8_code 120 = .ok (.iaload, 1) := by decide +kernel
theorem dcn_121 : decode prog_31_method_8_code 121 = .ok (.aload_n 3, 1) := by decide +kernel
theorem dcn_122 : decode prog_31_method_8_code 122 = .ok (.iload 10, 2) := by decide +kernel
theorem dcn_124 : decode prog_31_method_8_code 124 = .ok (.iaload, 1) := by decide +kernel
theorem dcn_125 : decode prog_31_method_8_code 125 = .ok (.isub, 1) := by decide +kernel
theorem dcn_126 : decode prog_31_method_8_code 126 = .ok (.iastore, 1) := by decide +kernel
theorem dcn_127 : decode prog_31_method_8_code 127 = .ok (.iinc 10 1, 3) := by decide +kernel
theorem dcn_130 : decode prog_31_method_8_code 130 = .ok (.goto (-22), 3) := by decide +kernel
theorem dcn_133 : decode prog_31_method_8_code 133 = .ok (.return_, 1) := by decide +kernel
set_option maxRecDepth 65536 in
set_option maxHeartbeats 40000000 in
theorem c_can (l' : Launch) (Z : State) (a0 : Array Value) (hw : ∀ d ∈ tables_1, d.before a0 Z = true) (a1 : Addr) (a3 : Addr) (a4 : Addr) (a6 : Addr) (a7 : Addr) (a8 : Addr) (h0 : Heap) (n0 : Nat) (l V : Nat → Nat) (n N1 N3 : Nat) (fv fl : Nat → Value) (hg : hGood l n = true) (hN1 : n ≤ N1) (hN3 : N3 ≤ 256) (hV : ∀ i, i < n → V i < N3) (hA : ∀ i, i + 1 < n → V i < V (i + 1)) (hfv : ∀ i, i < n → fv i = .int (Int32.ofNat (V i))) (hfl : ∀ i, i < n → fl (V i) = .int (Int32.ofNat (l i))) (lg : Nat) (hlg : hLng l n = lg) (f6 f7 f8 : Nat → Value) (g6 : n0 ≤ a6) (g7 : n0 ≤ a7) (g8 : n0 ≤ a8) (hD : [a1, a3, a4, a6, a7, a8].Nodup) (A_a1 : Ary Z h0 a1 .int N1 fv) (A_a3 : Ary Z h0 a3 .int N3 fl) (A_a4 : Ary Z h0 a4 .int 64 (fun L => .int (Int32.ofNat (hCnt l n L)))) (A_a6 : Ary Z h0 a6 .long 64 f6) (A_a7 : Ary Z h0 a7 .int 64 f7) (A_a8 : Ary Z h0 a8 .int 256 f8) :
    Con l' Z (⟨"leafpress/HuffmanCode", "canonical", "([II[I[II[J[I[I)V"⟩ : MethodName) prog_31_method_8_code 11 none ({ frames := 0, cells := 0, slots := 0, locals := 0 } : Room) #[(.ref a1), (.int (Int32.ofNat n)), (.ref a3), (.ref a4), (.int (Int32.ofNat lg)), (.ref a6), (.ref a7), (.ref a8)] h0 n0 (fun v h => v = none ∧ Keep h0 h [a6, a7, a8] ∧ Ary Z h a6 .long 64 (fun q => if q < lg + 1 then .long (hFc (hCnt l n) q) else f6 q) ∧ Ary Z h a7 .int 64 (fun q => if q < lg + 1 then .int (Int32.ofNat (hFs (hCnt l n) q)) else f7 q) ∧ Ary Z h a8 .int 256 (fun q => if hSid l n n q < n then .int (Int32.ofNat (V (hSid l n n q))) else f8 q)) := by
  refine Con.of (plainFor_of_name (by first | (simp [plainName, overriddenIn]; done) | decide +kernel)) (L0 := #[.val (.ref a1), .val (.int (Int32.ofNat n)), .val (.ref a3), .val (.ref a4), .val (.int (Int32.ofNat lg)), .val (.ref a6), .val (.ref a7), .val (.ref a8), .unset, .unset, .unset]) (fun m => by first | (simp [entryFrame, mkF, argsToLocals, Value.category]; done) | rfl) ?_
  intro p e s m below meth c T C S
  obtain ⟨hn0, hn64, hl, hck, hpos, hsid⟩ := hGood_spec hg
  have hlg63 : lg ≤ 63 := by rw [← hlg]; exact hLng_le n hl
  have Kp := Keep.refl h0 [a6, a7, a8]
  have ne_a1_a3 : a1 ≠ a3 := nd hD 0 1 (show (0 : Nat) < 1 by decide) (show (1 : Nat) < 6 by decide)
  have ne_a1_a4 : a1 ≠ a4 := nd hD 0 2 (show (0 : Nat) < 2 by decide) (show (2 : Nat) < 6 by decide)
  have ne_a1_a6 : a1 ≠ a6 := nd hD 0 3 (show (0 : Nat) < 3 by decide) (show (3 : Nat) < 6 by decide)
  have ne_a1_a7 : a1 ≠ a7 := nd hD 0 4 (show (0 : Nat) < 4 by decide) (show (4 : Nat) < 6 by decide)
  have ne_a1_a8 : a1 ≠ a8 := nd hD 0 5 (show (0 : Nat) < 5 by decide) (show (5 : Nat) < 6 by decide)
  have ne_a3_a4 : a3 ≠ a4 := nd hD 1 2 (show (1 : Nat) < 2 by decide) (show (2 : Nat) < 6 by decide)
  have ne_a3_a6 : a3 ≠ a6 := nd hD 1 3 (show (1 : Nat) < 3 by decide) (show (3 : Nat) < 6 by decide)
  have ne_a3_a7 : a3 ≠ a7 := nd hD 1 4 (show (1 : Nat) < 4 by decide) (show (4 : Nat) < 6 by decide)
  have ne_a3_a8 : a3 ≠ a8 := nd hD 1 5 (show (1 : Nat) < 5 by decide) (show (5 : Nat) < 6 by decide)
  have ne_a4_a6 : a4 ≠ a6 := nd hD 2 3 (show (2 : Nat) < 3 by decide) (show (3 : Nat) < 6 by decide)
  have ne_a4_a7 : a4 ≠ a7 := nd hD 2 4 (show (2 : Nat) < 4 by decide) (show (4 : Nat) < 6 by decide)
  have ne_a4_a8 : a4 ≠ a8 := nd hD 2 5 (show (2 : Nat) < 5 by decide) (show (5 : Nat) < 6 by decide)
  have ne_a6_a7 : a6 ≠ a7 := nd hD 3 4 (show (3 : Nat) < 4 by decide) (show (4 : Nat) < 6 by decide)
  have ne_a6_a8 : a6 ≠ a8 := nd hD 3 5 (show (3 : Nat) < 5 by decide) (show (5 : Nat) < 6 by decide)
  have ne_a7_a8 : a7 ≠ a8 := nd hD 4 5 (show (4 : Nat) < 5 by decide) (show (5 : Nat) < 6 by decide)
  have LPC : ∀ (d : Nat) (L : Nat) (z8 : Int64), L + d = lg + 1 → ∀ (T : State) (h : Heap), On p l' e ({ frames := 0, cells := 0, slots := 0, locals := 0 } : Room) s m #[(.ref a1), (.int (Int32.ofNat n)), (.ref a3), (.ref a4), (.int (Int32.ofNat lg)), (.ref a6), (.ref a7), (.ref a8)] below meth c n0 T h 0 0 → Ary Z h a1 .int N1 fv → Ary Z h a3 .int N3 fl → Ary Z h a4 .int 64 (fun L => .int (Int32.ofNat (hCnt l n L))) → Ary Z h a6 .long 64 (fun q => if q < lg + 1 then .long (hFc (hCnt l n) q) else f6 q) → Ary Z h a7 .int 64 (fun q => if q < L then .int (Int32.ofNat (hFs (hCnt l n) q)) else if q ≤ lg then .int (Int32.ofNat (hFs (hCnt l n) q + hCnt l n q)) else f7 q) → Ary Z h a8 .int 256 (fun q => if hSid l n n q < n then .int (Int32.ofNat (V (hSid l n n q))) else f8 q) → Keep h0 h [a6, a7, a8] → Gl p e below s ({ frames := 0, cells := 0, slots := 0, locals := 0 } : Room) n0 (fun v h => v = none ∧ Keep h0 h [a6, a7, a8] ∧ Ary Z h a6 .long 64 (fun q => if q < lg + 1 then .long (hFc (hCnt l n) q) else f6 q) ∧ Ary Z h a7 .int 64 (fun q => if q < lg + 1 then .int (Int32.ofNat (hFs (hCnt l n) q)) else f7 q) ∧ Ary Z h a8 .int 256 (fun q => if hSid l n n q < n then .int (Int32.ofNat (V (hSid l n n q))) else f8 q)) T (mkF m 108 #[.val (.ref a1), .val (.int (Int32.ofNat n)), .val (.ref a3), .val (.ref a4), .val (.int (Int32.ofNat lg)), .val (.ref a6), .val (.ref a7), .val (.ref a8), .val (.long z8), .second, .val (.int (Int32.ofNat L))] []) := by
    intro d
    induction d with
    | zero =>
      intro L z8 hd T h S A_a1 A_a3 A_a4 A_a6 A_a7 A_a8 Kp
      refine g_iload C S dcn_108 (pc' := 110) rfl rfl ?_
      refine g_iload C S dcn_110 (pc' := 112) rfl rfl ?_
      refine g_icmp_gt C S dcn_112 (pc' := 133) (pf := 115) (by decide) (by decide) rfl (fun hc112 => ?_) (fun hc112 => absurd ((o32_lt (by omega) (by omega)).mpr (by omega)) hc112)
      exact g_return C S dcn_133 (by decide) (by decide) (⟨rfl, Kp, A_a6, A_a7.cg (c_end _ _ _ lg L (by omega) 64), A_a8⟩)
    | succ d ih =>
      intro L z8 hd T h S A_a1 A_a3 A_a4 A_a6 A_a7 A_a8 Kp
      have hL : L ≤ lg := by omega
      refine g_iload C S dcn_108 (pc' := 110) rfl rfl ?_
      refine g_iload C S dcn_110 (pc' := 112) rfl rfl ?_
      refine g_icmp_gt C S dcn_112 (pc' := 133) (pf := 115) (by decide) (by decide) rfl (fun hc112 => absurd ((o32_lt (by omega) (by omega)).mp hc112) (by omega)) (fun hc112 => ?_)
      refine g_aload C S dcn_115 (pc' := 117) rfl rfl rfl ?_
      refine g_iload C S dcn_117 (pc' := 119) rfl rfl ?_
      refine g_dup2 C S dcn_119 (pc' := 120) rfl rfl rfl ?_
      refine g_iaload C S (i := L) (v := (.int (Int32.ofNat (hFs (hCnt l n) L + hCnt l n L)))) dcn_120 A_a7 (o32 (by omega)) (by omega) ((if_neg (Nat.lt_irrefl L)).trans (if_pos hL)) (pc' := 121) rfl ?_
      refine g_aloadN C S dcn_121 (pc' := 122) rfl rfl rfl ?_
      refine g_iload C S dcn_122 (pc' := 124) rfl rfl ?_
      refine g_iaload C S (i := L) (v := (.int (Int32.ofNat (hCnt l n L)))) dcn_124 A_a4 (o32 (by omega)) (by omega) rfl (pc' := 125) rfl ?_
      refine g_isub C S dcn_125 (pc' := 126) rfl ?_
      refine g_iastore C S (i := L) dcn_126 A_a7 (o32 (by omega)) (by omega) g7 (pc' := 127) rfl (fun T27 h27 S W27 B27 => ?_)
      have A_a1 := A_a1.other W27 ne_a1_a7
      have A_a3 := A_a3.other W27 ne_a3_a7
      have A_a4 := A_a4.other W27 ne_a4_a7
      have A_a6 := A_a6.other W27 ne_a6_a7
      have A_a8 := A_a8.other W27 (Ne.symm ne_a7_a8)
      have A_a7 := B27
      have A_a7 := A_a7.cg (dn_set l n lg L 64 hL f7)
      have Kp := Kp.wr W27 (Or.inl (List.mem_of_getElem? (i := 1) rfl))
      refine g_iinc C S (1 : Int32) dcn_127 (pc' := 130) rfl rfl rfl (L' := #[.val (.ref a1), .val (.int (Int32.ofNat n)), .val (.ref a3), .val (.ref a4), .val (.int (Int32.ofNat lg)), .val (.ref a6), .val (.ref a7), .val (.ref a8), .val (.long z8), .second, .val (.int ((Int32.ofNat L) + (1 : Int32)))]) rfl ?_
      refine g_goto C S dcn_130 (pc' := 108) (by decide) (by decide) ?_
      rw [o32_succ]
      exact ih (L + 1) z8 (by omega) _ _ S A_a1 A_a3 A_a4 A_a6 A_a7 A_a8 Kp
  have LPB : ∀ (d : Nat) (i : Nat) (z8 : Int64), i + d = n → ∀ (T : State) (h : Heap), On p l' e ({ frames := 0, cells := 0, slots := 0, locals := 0 } : Room) s m #[(.ref a1), (.int (Int32.ofNat n)), (.ref a3), (.ref a4), (.int (Int32.ofNat lg)), (.ref a6), (.ref a7), (.ref a8)] below meth c n0 T h 0 0 → Ary Z h a1 .int N1 fv → Ary Z h a3 .int N3 fl → Ary Z h a4 .int 64 (fun L => .int (Int32.ofNat (hCnt l n L))) → Ary Z h a6 .long 64 (fun q => if q < lg + 1 then .long (hFc (hCnt l n) q) else f6 q) → Ary Z h a7 .int 64 (fun q => if q ≤ lg then .int (Int32.ofNat (hFs (hCnt l n) q + hCnt l i q)) else f7 q) → Ary Z h a8 .int 256 (fun q => if hSid l n i q < n then .int (Int32.ofNat (V (hSid l n i q))) else f8 q) → Keep h0 h [a6, a7, a8] → Gl p e below s ({ frames := 0, cells := 0, slots := 0, locals := 0 } : Room) n0 (fun v h => v = none ∧ Keep h0 h [a6, a7, a8] ∧ Ary Z h a6 .long 64 (fun q => if q < lg + 1 then .long (hFc (hCnt l n) q) else f6 q) ∧ Ary Z h a7 .int 64 (fun q => if q < lg + 1 then .int (Int32.ofNat (hFs (hCnt l n) q)) else f7 q) ∧ Ary Z h a8 .int 256 (fun q => if hSid l n n q < n then .int (Int32.ofNat (V (hSid l n n q))) else f8 q)) T (mkF m 72 #[.val (.ref a1), .val (.int (Int32.ofNat n)), .val (.ref a3), .val (.ref a4), .val (.int (Int32.ofNat lg)), .val (.ref a6), .val (.ref a7), .val (.ref a8), .val (.long z8), .second, .val (.int (Int32.ofNat i))] []) := by
    intro d
    induction d with
    | zero =>
      intro i z8 hd T h S A_a1 A_a3 A_a4 A_a6 A_a7 A_a8 Kp
      have hi : i = n := by omega
      rw [hi] at A_a7 A_a8 ⊢
      refine g_iload C S dcn_72 (pc' := 74) rfl rfl ?_
      refine g_iloadN C S dcn_74 (pc' := 75) rfl rfl ?_
      refine g_icmp_ge C S dcn_75 (pc' := 105) (pf := 78) (by decide) (by decide) rfl (fun hc75 => ?_) (fun hc75 => absurd ((o32_lt (by omega) (by omega)).mp hc75) (Nat.lt_irrefl n))
      refine g_iconst C S (0 : Int32) dcn_105 (pc' := 106) rfl rfl ?_
      refine g_istore C S dcn_106 (pc' := 108) rfl (L' := #[.val (.ref a1), .val (.int (Int32.ofNat n)), .val (.ref a3), .val (.ref a4), .val (.int (Int32.ofNat lg)), .val (.ref a6), .val (.ref a7), .val (.ref a8), .val (.long z8), .second, .val (.int (0 : Int32))]) rfl ?_
      exact LPC (lg + 1) 0 z8 (by omega) _ _ S A_a1 A_a3 A_a4 A_a6 (A_a7.cg fun q hq => (if_neg (Nat.not_lt_zero q)).symm) A_a8 Kp
    | succ d ih =>
      intro i z8 hd T h S A_a1 A_a3 A_a4 A_a6 A_a7 A_a8 Kp
      have hin : i < n := by omega
      have hVi := hV i hin
      have hli := hl i hin
      have hle : l i ≤ lg := by rw [← hlg]; exact hLng_ge l n i hin
      have hpi := hpos i hin
      refine g_iload C S dcn_72 (pc' := 74) rfl rfl ?_
      refine g_iloadN C S dcn_74 (pc' := 75) rfl rfl ?_
      refine g_icmp_ge C S dcn_75 (pc' := 105) (pf := 78) (by decide) (by decide) rfl (fun hc75 => absurd ((o32_lt (by omega) (by omega)).mpr hin) hc75) (fun hc75 => ?_)
      refine g_aload C S dcn_78 (pc' := 80) rfl rfl rfl ?_
      refine g_aload C S dcn_80 (pc' := 82) rfl rfl rfl ?_
      refine g_aloadN C S dcn_82 (pc' := 83) rfl rfl rfl ?_
      refine g_aloadN C S dcn_83 (pc' := 84) rfl rfl rfl ?_
      refine g_iload C S dcn_84 (pc' := 86) rfl rfl ?_
      refine g_iaload C S (i := i) (v := (.int (Int32.ofNat (V i)))) dcn_86 A_a1 (o32 (by omega)) (by omega) (hfv i hin) (pc' := 87) rfl ?_
      refine g_iaload C S (i := (V i)) (v := (.int (Int32.ofNat (l i)))) dcn_87 A_a3 (o32 (by omega)) hVi (hfl i hin) (pc' := 88) rfl ?_
      refine g_dup2 C S dcn_88 (pc' := 89) rfl rfl rfl ?_
      refine g_iaload C S (i := (l i)) (v := (.int (Int32.ofNat (hPos l n i)))) dcn_89 A_a7 (o32 (by omega)) (by omega) (if_pos hle) (pc' := 90) rfl ?_
      refine g_dup_x2 C S dcn_90 (pc' := 91) rfl rfl rfl rfl ?_
      refine g_iconst C S (1 : Int32) dcn_91 (pc' := 92) rfl rfl ?_
      refine g_iadd C S dcn_92 (pc' := 93) rfl ?_
      refine g_iastore C S (i := (l i)) dcn_93 A_a7 (o32 (by omega)) (by omega) g7 (pc' := 94) rfl (fun T28 h28 S W28 B28 => ?_)
      have A_a1 := A_a1.other W28 ne_a1_a7
      have A_a3 := A_a3.other W28 ne_a3_a7
      have A_a4 := A_a4.other W28 ne_a4_a7
      have A_a6 := A_a6.other W28 ne_a6_a7
      have A_a8 := A_a8.other W28 (Ne.symm ne_a7_a8)
      have A_a7 := B28
      have A_a7 := A_a7.cg (hFs_B l n lg i 64 hle f7)
      have Kp := Kp.wr W28 (Or.inl (List.mem_of_getElem? (i := 1) rfl))
      refine g_aloadN C S dcn_94 (pc' := 95) rfl rfl rfl ?_
      refine g_iload C S dcn_95 (pc' := 97) rfl rfl ?_
      refine g_iaload C S (i := i) (v := (.int (Int32.ofNat (V i)))) dcn_97 A_a1 (o32 (by omega)) (by omega) (hfv i hin) (pc' := 98) rfl ?_
      refine g_iastore C S (i := (hPos l n i)) dcn_98 A_a8 (o32 (by omega)) hpi g8 (pc' := 99) rfl (fun T29 h29 S W29 B29 => ?_)
      have A_a1 := A_a1.other W29 ne_a1_a8
      have A_a3 := A_a3.other W29 ne_a3_a8
      have A_a4 := A_a4.other W29 ne_a4_a8
      have A_a6 := A_a6.other W29 ne_a6_a8
      have A_a7 := A_a7.other W29 ne_a7_a8
      have A_a8 := B29
      have A_a8 := A_a8.cg (hSid_set l V n i 256 hin f8)
      have Kp := Kp.wr W29 (Or.inl (List.mem_of_getElem? (i := 2) rfl))
      refine g_iinc C S (1 : Int32) dcn_99 (pc' := 102) rfl rfl rfl (L' := #[.val (.ref a1), .val (.int (Int32.ofNat n)), .val (.ref a3), .val (.ref a4), .val (.int (Int32.ofNat lg)), .val (.ref a6), .val (.ref a7), .val (.ref a8), .val (.long z8), .second, .val (.int ((Int32.ofNat i) + (1 : Int32)))]) rfl ?_
      refine g_goto C S dcn_102 (pc' := 72) (by decide) (by decide) ?_
      rw [o32_succ]
      exact ih (i + 1) z8 (by omega) _ _ S A_a1 A_a3 A_a4 A_a6 A_a7 A_a8 Kp
  have LPA : ∀ (d : Nat) (M : Nat), M + d = lg → ∀ (T : State) (h : Heap), On p l' e ({ frames := 0, cells := 0, slots := 0, locals := 0 } : Room) s m #[(.ref a1), (.int (Int32.ofNat n)), (.ref a3), (.ref a4), (.int (Int32.ofNat lg)), (.ref a6), (.ref a7), (.ref a8)] below meth c n0 T h 0 0 → Ary Z h a1 .int N1 fv → Ary Z h a3 .int N3 fl → Ary Z h a4 .int 64 (fun L => .int (Int32.ofNat (hCnt l n L))) → Ary Z h a6 .long 64 (fun q => if q < M + 1 then .long (hFc (hCnt l n) q) else f6 q) → Ary Z h a7 .int 64 (fun q => if q < M + 1 then .int (Int32.ofNat (hFs (hCnt l n) q)) else f7 q) → Ary Z h a8 .int 256 f8 → Keep h0 h [a6, a7, a8] → Gl p e below s ({ frames := 0, cells := 0, slots := 0, locals := 0 } : Room) n0 (fun v h => v = none ∧ Keep h0 h [a6, a7, a8] ∧ Ary Z h a6 .long 64 (fun q => if q < lg + 1 then .long (hFc (hCnt l n) q) else f6 q) ∧ Ary Z h a7 .int 64 (fun q => if q < lg + 1 then .int (Int32.ofNat (hFs (hCnt l n) q)) else f7 q) ∧ Ary Z h a8 .int 256 (fun q => if hSid l n n q < n then .int (Int32.ofNat (V (hSid l n n q))) else f8 q)) T (mkF m 16 #[.val (.ref a1), .val (.int (Int32.ofNat n)), .val (.ref a3), .val (.ref a4), .val (.int (Int32.ofNat lg)), .val (.ref a6), .val (.ref a7), .val (.ref a8), .val (.long (hFc (hCnt l n) M)), .second, .val (.int (Int32.ofNat (M + 1)))] []) := by
    intro d
    induction d with
    | zero =>
      intro M hd T h S A_a1 A_a3 A_a4 A_a6 A_a7 A_a8 Kp
      have hM : M = lg := by omega
      refine g_iload C S dcn_16 (pc' := 18) rfl rfl ?_
      refine g_iload C S dcn_18 (pc' := 20) rfl rfl ?_
      refine g_icmp_gt C S dcn_20 (pc' := 69) (pf := 23) (by decide) (by decide) rfl (fun hc20 => ?_) (fun hc20 => absurd ((o32_lt (by omega) (by omega)).mpr (by omega)) hc20)
      refine g_iconst C S (0 : Int32) dcn_69 (pc' := 70) rfl rfl ?_
      refine g_istore C S dcn_70 (pc' := 72) rfl (L' := #[.val (.ref a1), .val (.int (Int32.ofNat n)), .val (.ref a3), .val (.ref a4), .val (.int (Int32.ofNat lg)), .val (.ref a6), .val (.ref a7), .val (.ref a8), .val (.long (hFc (hCnt l n) M)), .second, .val (.int (0 : Int32))]) rfl ?_
      exact LPB n 0 _ (by omega) _ _ S A_a1 A_a3 A_a4 (by rw [hM] at A_a6; exact A_a6) (A_a7.cg (to_B l (hCnt l n) lg M hM f7 64)) (A_a8.cg fun q hq => (if_neg (Nat.lt_irrefl n)).symm) Kp
    | succ d ih =>
      intro M hd T h S A_a1 A_a3 A_a4 A_a6 A_a7 A_a8 Kp
      refine g_iload C S dcn_16 (pc' := 18) rfl rfl ?_
      refine g_iload C S dcn_18 (pc' := 20) rfl rfl ?_
      refine g_icmp_gt C S dcn_20 (pc' := 69) (pf := 23) (by decide) (by decide) rfl (fun hc20 => absurd ((o32_lt (by omega) (by omega)).mp hc20) (by omega)) (fun hc20 => ?_)
      refine g_aload C S dcn_23 (pc' := 25) rfl rfl rfl ?_
      refine g_iload C S dcn_25 (pc' := 27) rfl rfl ?_
      refine g_aload C S dcn_27 (pc' := 29) rfl rfl rfl ?_
      refine g_iload C S dcn_29 (pc' := 31) rfl rfl ?_
      refine g_iconst C S (1 : Int32) dcn_31 (pc' := 32) rfl rfl ?_
      refine g_isub C S dcn_32 (pc' := 33) rfl ?_
      refine g_iaload C S (i := M) (v := (.int (Int32.ofNat (hFs (hCnt l n) M)))) dcn_33 A_a7 (i_pred (by omega)) (by omega) (if_pos (Nat.lt_succ_self M)) (pc' := 34) rfl ?_
      refine g_aloadN C S dcn_34 (pc' := 35) rfl rfl rfl ?_
      refine g_iload C S dcn_35 (pc' := 37) rfl rfl ?_
      refine g_iconst C S (1 : Int32) dcn_37 (pc' := 38) rfl rfl ?_
      refine g_isub C S dcn_38 (pc' := 39) rfl ?_
      refine g_iaload C S (i := M) (v := (.int (Int32.ofNat (hCnt l n M)))) dcn_39 A_a4 (i_pred (by omega)) (by omega) rfl (pc' := 40) rfl ?_
      refine g_iadd C S dcn_40 (pc' := 41) rfl ?_
      refine g_iastore C S (i := (M + 1)) dcn_41 A_a7 (o32 (by omega)) (by omega) g7 (pc' := 42) rfl (fun T30 h30 S W30 B30 => ?_)
      have A_a1 := A_a1.other W30 ne_a1_a7
      have A_a3 := A_a3.other W30 ne_a3_a7
      have A_a4 := A_a4.other W30 ne_a4_a7
      have A_a6 := A_a6.other W30 ne_a6_a7
      have A_a8 := A_a8.other W30 (Ne.symm ne_a7_a8)
      have A_a7 := B30
      have A_a7 := A_a7.cg (up_set (F := fun q => .int (Int32.ofNat (hFs (hCnt l n) q))) (G := f7) (M := M + 1) 64 (by rw [o32_add]; rfl))
      have Kp := Kp.wr W30 (Or.inl (List.mem_of_getElem? (i := 1) rfl))
      refine g_lload C S dcn_42 (pc' := 44) rfl rfl ?_
      refine g_aloadN C S dcn_44 (pc' := 45) rfl rfl rfl ?_
      refine g_iload C S dcn_45 (pc' := 47) rfl rfl ?_
      refine g_iconst C S (1 : Int32) dcn_47 (pc' := 48) rfl rfl ?_
      refine g_isub C S dcn_48 (pc' := 49) rfl ?_
      refine g_iaload C S (i := M) (v := (.int (Int32.ofNat (hCnt l n M)))) dcn_49 A_a4 (i_pred (by omega)) (by omega) rfl (pc' := 50) rfl ?_
      refine g_i2l C S dcn_50 (pc' := 51) rfl ?_
      refine g_ladd C S dcn_51 (pc' := 52) rfl ?_
      refine g_iconst C S (1 : Int32) dcn_52 (pc' := 53) rfl rfl ?_
      refine g_lshl C S dcn_53 (pc' := 54) rfl ?_
      refine g_lstore C S dcn_54 (pc' := 56) rfl (L' := #[.val (.ref a1), .val (.int (Int32.ofNat n)), .val (.ref a3), .val (.ref a4), .val (.int (Int32.ofNat lg)), .val (.ref a6), .val (.ref a7), .val (.ref a8), .val (.long (((hFc (hCnt l n) M) + ((Int32.ofNat (hCnt l n M)).toInt64)) <<< ((1 : Int32) &&& 0x3f).toInt64)), .second, .val (.int (Int32.ofNat (M + 1)))]) rfl ?_
      refine g_aload C S dcn_56 (pc' := 58) rfl rfl rfl ?_
      refine g_iload C S dcn_58 (pc' := 60) rfl rfl ?_
      refine g_lload C S dcn_60 (pc' := 62) rfl rfl ?_
      refine g_lastore C S (i := (M + 1)) dcn_62 A_a6 (o32 (by omega)) (by omega) g6 (pc' := 63) rfl (fun T31 h31 S W31 B31 => ?_)
      have A_a1 := A_a1.other W31 ne_a1_a6
      have A_a3 := A_a3.other W31 ne_a3_a6
      have A_a4 := A_a4.other W31 ne_a4_a6
      have A_a7 := A_a7.other W31 (Ne.symm ne_a6_a7)
      have A_a8 := A_a8.other W31 (Ne.symm ne_a6_a8)
      have A_a6 := B31
      have A_a6 := A_a6.cg (up_set (F := fun q => .long (hFc (hCnt l n) q)) (G := f6) (M := M + 1) 64 rfl)
      have Kp := Kp.wr W31 (Or.inl (List.mem_of_getElem? (i := 0) rfl))
      refine g_iinc C S (1 : Int32) dcn_63 (pc' := 66) rfl rfl rfl (L' := #[.val (.ref a1), .val (.int (Int32.ofNat n)), .val (.ref a3), .val (.ref a4), .val (.int (Int32.ofNat lg)), .val (.ref a6), .val (.ref a7), .val (.ref a8), .val (.long (((hFc (hCnt l n) M) + ((Int32.ofNat (hCnt l n M)).toInt64)) <<< ((1 : Int32) &&& 0x3f).toInt64)), .second, .val (.int ((Int32.ofNat (M + 1)) + (1 : Int32)))]) rfl ?_
      refine g_goto C S dcn_66 (pc' := 16) (by decide) (by decide) ?_
      rw [o32_succ]
      exact ih (M + 1) (by omega) _ _ S A_a1 A_a3 A_a4 A_a6 A_a7 A_a8 Kp
  refine g_aload C S dcn_0 (pc' := 2) rfl rfl rfl ?_
  refine g_iconst C S (0 : Int32) dcn_2 (pc' := 3) rfl rfl ?_
  refine g_lconst C S (0 : Int64) dcn_3 (pc' := 4) rfl rfl ?_
  refine g_lastore C S (i := 0) dcn_4 A_a6 (by decide) (by decide) g6 (pc' := 5) rfl (fun T32 h32 S W32 B32 => ?_)
  have A_a1 := A_a1.other W32 ne_a1_a6
  have A_a3 := A_a3.other W32 ne_a3_a6
  have A_a4 := A_a4.other W32 ne_a4_a6
  have A_a7 := A_a7.other W32 (Ne.symm ne_a6_a7)
  have A_a8 := A_a8.other W32 (Ne.symm ne_a6_a8)
  have A_a6 := B32
  have Kp := Kp.wr W32 (Or.inl (List.mem_of_getElem? (i := 0) rfl))
  refine g_aload C S dcn_5 (pc' := 7) rfl rfl rfl ?_
  refine g_iconst C S (0 : Int32) dcn_7 (pc' := 8) rfl rfl ?_
  refine g_iconst C S (0 : Int32) dcn_8 (pc' := 9) rfl rfl ?_
  refine g_iastore C S (i := 0) dcn_9 A_a7 (by decide) (by decide) g7 (pc' := 10) rfl (fun T33 h33 S W33 B33 => ?_)
  have A_a1 := A_a1.other W33 ne_a1_a7
  have A_a3 := A_a3.other W33 ne_a3_a7
  have A_a4 := A_a4.other W33 ne_a4_a7
  have A_a6 := A_a6.other W33 ne_a6_a7
  have A_a8 := A_a8.other W33 (Ne.symm ne_a7_a8)
  have A_a7 := B33
  have Kp := Kp.wr W33 (Or.inl (List.mem_of_getElem? (i := 1) rfl))
  refine g_lconst C S (0 : Int64) dcn_10 (pc' := 11) rfl rfl ?_
  refine g_lstore C S dcn_11 (pc' := 13) rfl (L' := #[.val (.ref a1), .val (.int (Int32.ofNat n)), .val (.ref a3), .val (.ref a4), .val (.int (Int32.ofNat lg)), .val (.ref a6), .val (.ref a7), .val (.ref a8), .val (.long (0 : Int64)), .second, .unset]) rfl ?_
  refine g_iconst C S (1 : Int32) dcn_13 (pc' := 14) rfl rfl ?_
  refine g_istore C S dcn_14 (pc' := 16) rfl (L' := #[.val (.ref a1), .val (.int (Int32.ofNat n)), .val (.ref a3), .val (.ref a4), .val (.int (Int32.ofNat lg)), .val (.ref a6), .val (.ref a7), .val (.ref a8), .val (.long (0 : Int64)), .second, .val (.int (1 : Int32))]) rfl ?_
  exact LPA lg 0 (by omega) _ _ S A_a1 A_a3 A_a4 (A_a6.cg (z_set (F := fun q => .long (hFc (hCnt l n) q)) rfl)) (A_a7.cg (z_set (F := fun q => .int (Int32.ofNat (hFs (hCnt l n) q))) rfl)) A_a8 Kp
theorem dfg_0 : decode prog_31_method_5_code 0 = .ok (.iconst 0, 1) := by decide +kernel
theorem dfg_1 : decode prog_31_method_5_code 1 = .ok (.istore_n 1, 1) := by decide +kernel
theorem dfg_2 : decode prog_31_method_5_code 2 = .ok (.iload_n 1, 1) := by decide +kernel
theorem dfg_3 : decode prog_31_method_5_code 3 = .ok (.aload_n 0, 1) := by decide +kernel
theorem dfg_4 : decode prog_31_method_5_code 4 = .ok (.getfield 62, 3) := by decide +kernel
theorem dfg_7 : decode prog_31_method_5_code 7 = .ok (.if_icmp .ge 33, 3) := by decide +kernel
theorem dfg_40 : decode prog_31_method_5_code 40 = .ok (.return_, 1) := by decide +kernel
set_option maxRecDepth 65536 in
set_option maxHeartbeats 40000000 in
theorem c_fgt (l' : Launch) (Z : State) (a0 : Array Value) (hw : ∀ d ∈ tables_1, d.before a0 Z = true) (o : Addr) (h0 : Heap) (n0 : Nat) (F_m_nValues_o : Fld Z h0 o "leafpress/HuffmanCode" "m_nValues" "I" (.int (0 : Int32))) :
    Con l' Z (⟨"leafpress/HuffmanCode", "forget", "()V"⟩ : MethodName) prog_31_method_5_code 2 none ({ frames := 0, cells := 0, slots := 0, locals := 0 } : Room) #[(.ref o)] h0 n0 (fun v h => v = none ∧ h = h0) := by
  refine Con.of (plainFor_of_name (by first | (simp [plainName, overriddenIn]; done) | decide +kernel)) (L0 := #[.val (.ref o), .unset]) (fun m => by first | (simp [entryFrame, mkF, argsToLocals, Value.category]; done) | rfl) ?_
  intro p e s m below meth c T C S
  refine g_iconst C S (0 : Int32) dfg_0 (pc' := 1) rfl rfl ?_
  refine g_istoreN C S dfg_1 (pc' := 2) rfl (L' := #[.val (.ref o), .val (.int (0 : Int32))]) rfl ?_
  refine g_iloadN C S dfg_2 (pc' := 3) rfl rfl ?_
  refine g_aloadN C S dfg_3 (pc' := 4) rfl rfl rfl ?_
  refine g_getF C S dfg_4 (host := "") (Or.inl (hw _ (List.mem_of_getElem? (i := 63) rfl))) Via.refl F_m_nValues_o (pc' := 7) rfl (fun T34 S => ?_)
  refine g_icmp_ge C S dfg_7 (pc' := 40) (pf := 10) (by decide) (by decide) rfl (fun hc7 => ?_) (fun hc7 => absurd hc7 (by decide))
  exact g_return C S dfg_40 (by decide) (by decide) (⟨rfl, rfl⟩)
theorem pd_3 : parseMethodDescriptor "([II[I[II[J[I[I)V" = some ⟨[(.array .int), .int, (.array .int), (.array .int), .int, (.array .long), (.array .int), (.array .int)], none⟩ := by decide +kernel
theorem dpl_0 : decode prog_31_method_6_code 0 = .ok (.aload_n 1, 1) := by decide +kernel
theorem dpl_1 : decode prog_31_method_6_code 1 = .ok (.iload_n 2, 1) := by decide +kernel
theorem dpl_2 : decode prog_31_method_6_code 2 = .ok (.aload_n 3, 1) := by decide +kernel
theorem dpl_3 : decode prog_31_method_6_code 3 = .ok (.aload_n 0, 1) := by decide +kernel
theorem dpl_4 : decode prog_31_method_6_code 4 = .ok (.getfield 28, 3) := by decide +kernel
theorem dpl_7 : decode prog_31_method_6_code 7 = .ok (.iload 4, 2) := by decide +kernel
theorem dpl_9 : decode prog_31_method_6_code 9 = .ok (.aload_n 0, 1) := by decide +kernel
theorem dpl_10 : decode prog_31_method_6_code 10 = .ok (.getfield 31, 3) := by decide +kernel
theorem dpl_13 : decode prog_31_method_6_code 13 = .ok (.aload_n 0, 1) := by decide +kernel
theorem dpl_14 : decode prog_31_method_6_code 14 = .ok (.getfield 34, 3) := by decide +kernel
theorem dpl_17 : decode prog_31_method_6_code 17 = .ok (.aload_n 0, 1) := by decide +kernel
theorem dpl_18 : decode prog_31_method_6_code 18 = .ok (.getfield 14, 3) := by decide +kernel
theorem dpl_21 : decode prog_31_method_6_code 21 = .ok (.invokestatic 66, 3) := by decide +kernel
theorem dpl_24 : decode prog_31_method_6_code 24 = .ok (.aload_n 0, 1) := by decide +kernel
theorem dpl_25 : decode prog_31_method_6_code 25 = .ok (.iload 4, 2) := by decide +kernel
theorem dpl_27 : decode prog_31_method_6_code 27 = .ok (.putfield 70, 3) := by decide +kernel
theorem dpl_30 : decode prog_31_method_6_code 30 = .ok (.aload_n 0, 1) := by decide +kernel
theorem dpl_31 : decode prog_31_method_6_code 31 = .ok (.iload_n 2, 1) := by decide +kernel
theorem dpl_32 : decode prog_31_method_6_code 32 = .ok (.putfield 62, 3) := by decide +kernel
theorem dpl_35 : decode prog_31_method_6_code 35 = .ok (.aload_n 0, 1) := by decide +kernel
theorem dpl_36 : decode prog_31_method_6_code 36 = .ok (.iload 4, 2) := by decide +kernel
theorem dpl_38 : decode prog_31_method_6_code 38 = .ok (.bipush 56, 2) := by decide +kernel
theorem dpl_40 : decode prog_31_method_6_code 40 = .ok (.if_icmp .gt 7, 3) := by decide +kernel
theorem dpl_43 : decode prog_31_method_6_code 43 = .ok (.iconst 1, 1) := by decide +kernel
theorem dpl_44 : decode prog_31_method_6_code 44 = .ok (.goto 4, 3) := by decide +kernel
theorem dpl_47 : decode prog_31_method_6_code 47 = .ok (.iconst 0, 1) := by decide +kernel
theorem dpl_48 : decode prog_31_method_6_code 48 = .ok (.putfield 75, 3) := by decide +kernel
theorem dpl_51 : decode prog_31_method_6_code 51 = .ok (.iconst 0, 1) := by decide +kernel
theorem dpl_52 : decode prog_31_method_6_code 52 = .ok (.istore 5, 2) := by decide +kernel
theorem dpl_54 : decode prog_31_method_6_code 54 = .ok (.iload 5, 2) := by decide +kernel
theorem dpl_56 : decode prog_31_method_6_code 56 = .ok (.iload_n 2, 1) := by decide +kernel
theorem dpl_57 : decode prog_31_method_6_code 57 = .ok (.if_icmp .ge 84, 3) := by decide +kernel
theorem dpl_60 : decode prog_31_method_6_code 60 = .ok (.aload_n 0, 1) := by decide +kernel
theorem dpl_61 : decode prog_31_method_6_code 61 = .ok (.getfield 14, 3) := by decide +kernel
theorem dpl_64 : decode prog_31_method_6_code 64 = .ok (.iload 5, 2) := by decide +kernel
theorem dpl_66 : decode prog_31_method_6_code 66 = .ok (.iaload, 1) := by decide +kernel
theorem dpl_67 : decode prog_31_method_6_code 67 = .ok (.istore 6, 2) := by decide +kernel
theorem dpl_69 : decode prog_31_method_6_code 69 = .ok (.aload_n 3, 1) := by decide +kernel
theorem dpl_70 : decode prog_31_method_6_code 70 = .ok (.iload 6, 2) := by decide +kernel
theorem dpl_72 : decode prog_31_method_6_code 72 = .ok (.iaload, 1) := by decide +kernel
theorem dpl_73 : decode prog_31_method_6_code 73 = .ok (.istore 7, 2) := by decide +kernel
theorem dpl_75 : decode prog_31_method_6_code 75 = .ok (.aload_n 0, 1) := by decide +kernel
theorem dpl_76 : decode prog_31_method_6_code 76 = .ok (.getfield 31, 3) := by decide +kernel
theorem dpl_79 : decode prog_31_method_6_code 79 = .ok (.iload 7, 2) := by decide +kernel
theorem dpl_81 : decode prog_31_method_6_code 81 = .ok (.laload, 1) := by decide +kernel
theorem dpl_82 : decode prog_31_method_6_code 82 = .ok (.iload 5, 2) := by decide +kernel
theorem dpl_84 : decode prog_31_method_6_code 84 = .ok (.i2l, 1) := by decide +kernel
theorem dpl_85 : decode prog_31_method_6_code 85 = .ok (.ladd, 1) := by decide +kernel
theorem dpl_86 : decode prog_31_method_6_code 86 = .ok (.aload_n 0, 1) := by decide +kernel
theorem dpl_87 : decode prog_31_method_6_code 87 = .ok (.getfield 34, 3) := by decide +kernel
theorem dpl_90 : decode prog_31_method_6_code 90 = .ok (.iload 7, 2) := by decide +kernel
theorem dpl_92 : decode prog_31_method_6_code 92 = .ok (.iaload, 1) := by decide +kernel
theorem dpl_93 : decode prog_31_method_6_code 93 = .ok (.i2l, 1) := by decide +kernel
theorem dpl_94 : decode prog_31_method_6_code 94 = .ok (.lsub, 1) := by decide +kernel
theorem dpl_95 : decode prog_31_method_6_code 95 = .ok (.lstore 8, 2) := by decide +kernel
theorem dpl_97 : decode prog_31_method_6_code 97 = .ok (.aload_n 0, 1) := by decide +kernel
theorem dpl_98 : decode prog_31_method_6_code 98 = .ok (.getfield 18, 3) := by decide +kernel
theorem dpl_101 : decode prog_31_method_6_code 101 = .ok (.iload 6, 2) := by decide +kernel
theorem dpl_103 : decode prog_31_method_6_code 103 = .ok (.aload_n 0, 1) := by decide +kernel
theorem dpl_104 : decode prog_31_method_6_code 104 = .ok (.getfield 75, 3) := by decide +kernel
theorem dpl_107 : decode prog_31_method_6_code 107 = .ok (.ifCond .eq 15, 3) := by decide +kernel
theorem dpl_110 : decode prog_31_method_6_code 110 = .ok (.lload 8, 2) := by decide +kernel
theorem dpl_112 : decode prog_31_method_6_code 112 = .ok (.bipush 6, 2) := by decide +kernel
theorem dpl_114 : decode prog_31_method_6_code 114 = .ok (.lshl, 1) := by decide +kernel
theorem dpl_115 : decode prog_31_method_6_code 115 = .ok (.iload 7, 2) := by decide +kernel
theorem dpl_117 : decode prog_31_method_6_code 117 = .ok (.i2l, 1) := by decide +kernel
theorem dpl_118 : decode prog_31_method_6_code 118 = .ok (.lor, 1) := by decide +kernel
theorem dpl_119 : decode prog_31_method_6_code 119 = .ok (.goto 5, 3) := by decide +kernel
theorem dpl_122 : decode prog_31_method_6_code 122 = .ok (.lload 8, 2) := by decide +kernel
theorem dpl_124 : decode prog_31_method_6_code 124 = .ok (.lastore, 1) := by decide +kernel
theorem dpl_125 : decode prog_31_method_6_code 125 = .ok (.aload_n 0, 1) := by decide +kernel
theorem dpl_126 : decode prog_31_method_6_code 126 = .ok (.getfield 24, 3) := by decide +kernel
theorem dpl_129 : decode prog_31_method_6_code 129 = .ok (.iload 6, 2) := by decide +kernel
theorem dpl_131 : decode prog_31_method_6_code 131 = .ok (.iload 7, 2) := by decide +kernel
theorem dpl_133 : decode prog_31_method_6_code 133 = .ok (.i2b, 1) := by decide +kernel
theorem dpl_134 : decode prog_31_method_6_code 134 = .ok (.bastore, 1) := by decide +kernel
theorem dpl_135 : decode prog_31_method_6_code 135 = .ok (.iinc 5 1, 3) := by decide +kernel
theorem dpl_138 : decode prog_31_method_6_code 138 = .ok (.goto (-84), 3) := by decide +kernel
theorem dpl_141 : decode prog_31_method_6_code 141 = .ok (.return_, 1) := by decide +kernel
set_option maxRecDepth 65536 in
set_option maxHeartbeats 40000000 in
theorem c_plc (l' : Launch) (Z : State) (a0 : Array Value) (hw : ∀ d ∈ tables_1, d.before a0 Z = true) (o : Addr) (a2 : Addr) (a4 : Addr) (h0 : Heap) (n0 : Nat) (l V : Nat → Nat) (n N1 N3 : Nat) (fv fl : Nat → Value) (hg : hGood l n = true) (hN1 : n ≤ N1) (hN3 : N3 ≤ 256) (hV : ∀ i, i < n → V i < N3) (hA : ∀ i, i + 1 < n → V i < V (i + 1)) (hfv : ∀ i, i < n → fv i = .int (Int32.ofNat (V i))) (hfl : ∀ i, i < n → fl (V i) = .int (Int32.ofNat (l i))) (sy co le lc fa fb : Addr) (lg : Nat) (hlg : hLng l n = lg) (f6 f7 f8 : Nat → Value) (u1 u2 u3 : Value) (g_o : n0 ≤ o) (g_sy : n0 ≤ sy) (g_co : n0 ≤ co) (g_le : n0 ≤ le) (g_lc : n0 ≤ lc) (g_fa : n0 ≤ fa) (g_fb : n0 ≤ fb) (hD : [a2, a4, o, sy, co, le, lc, fa, fb].Nodup) (X_o : Exa Z h0 o "leafpress/HuffmanCode") (F_m_aSymbols_o : Fld Z h0 o "leafpress/HuffmanCode" "m_aSymbols" "[I" (.ref sy)) (F_m_aCodes_o : Fld Z h0 o "leafpress/HuffmanCode" "m_aCodes" "[J" (.ref co)) (F_m_aLengths_o : Fld Z h0 o "leafpress/HuffmanCode" "m_aLengths" "[B" (.ref le)) (F_m_aLengthCounts_o : Fld Z h0 o "leafpress/HuffmanCode" "m_aLengthCounts" "[I" (.ref lc)) (F_m_aFirstCodes_o : Fld Z h0 o "leafpress/HuffmanCode" "m_aFirstCodes" "[J" (.ref fa)) (F_m_aFirstSymbols_o : Fld Z h0 o "leafpress/HuffmanCode" "m_aFirstSymbols" "[I" (.ref fb)) (F_m_nLongest_o : Fld Z h0 o "leafpress/HuffmanCode" "m_nLongest" "I" u1) (F_m_nValues_o : Fld Z h0 o "leafpress/HuffmanCode" "m_nValues" "I" u2) (F_m_bPacked_o : Fld Z h0 o "leafpress/HuffmanCode" "m_bPacked" "Z" u3) (A_a2 : Ary Z h0 a2 .int N1 fv) (A_a4 : Ary Z h0 a4 .int N3 fl) (A_lc : Ary Z h0 lc .int 64 (fun L => .int (Int32.ofNat (hCnt l n L)))) (A_fa : Ary Z h0 fa .long 64 f6) (A_fb : Ary Z h0 fb .int 64 f7) (A_sy : Ary Z h0 sy .int 256 f8) (A_co : Ary Z h0 co .long 256 (fun _ => .long 0)) (A_le : Ary Z h0 le .byte 264 (fun q => if 256 ≤ q then .int (-1) else .int 0)) :
    Con l' Z (⟨"leafpress/HuffmanCode", "place", "([II[II)V"⟩ : MethodName) prog_31_method_6_code 10 none ({ frames := 1, cells := 0, slots := 0, locals := 22 } : Room) #[(.ref o), (.ref a2), (.int (Int32.ofNat n)), (.ref a4), (.int (Int32.ofNat lg))] h0 n0 (fun v h => v = none ∧ Keep h0 h [o, sy, co, le, fa, fb] ∧ Exa Z h o "leafpress/HuffmanCode" ∧ Fld Z h o "leafpress/HuffmanCode" "m_aCodes" "[J" (.ref co) ∧ Fld Z h o "leafpress/HuffmanCode" "m_aLengths" "[B" (.ref le) ∧ Fld Z h o "leafpress/HuffmanCode" "m_bPacked" "Z" (.int (hPk lg)) ∧ Ary Z h co .long 256 (fun x => .long (hCo l V n (hPk lg) n x)) ∧ Ary Z h le .byte 264 (hLb l V n n)) := by
  refine Con.of (plainFor_of_name (by first | (simp [plainName, overriddenIn]; done) | decide +kernel)) (L0 := #[.val (.ref o), .val (.ref a2), .val (.int (Int32.ofNat n)), .val (.ref a4), .val (.int (Int32.ofNat lg)), .unset, .unset, .unset, .unset, .unset]) (fun m => by first | (simp [entryFrame, mkF, argsToLocals, Value.category]; done) | rfl) ?_
  intro p e s m below meth c T C S
  obtain ⟨hn0, hn64, hl, hck, hpos, hsid⟩ := hGood_spec hg
  have hlg63 : lg ≤ 63 := by rw [← hlg]; exact hLng_le n hl
  have Kp := Keep.refl h0 [o, sy, co, le, fa, fb]
  have ne_a2_a4 : a2 ≠ a4 := nd hD 0 1 (show (0 : Nat) < 1 by decide) (show (1 : Nat) < 9 by decide)
  have ne_a2_o : a2 ≠ o := nd hD 0 2 (show (0 : Nat) < 2 by decide) (show (2 : Nat) < 9 by decide)
  have ne_a2_sy : a2 ≠ sy := nd hD 0 3 (show (0 : Nat) < 3 by decide) (show (3 : Nat) < 9 by decide)
  have ne_a2_co : a2 ≠ co := nd hD 0 4 (show (0 : Nat) < 4 by decide) (show (4 : Nat) < 9 by decide)
  have ne_a2_le : a2 ≠ le := nd hD 0 5 (show (0 : Nat) < 5 by decide) (show (5 : Nat) < 9 by decide)
  have ne_a2_lc : a2 ≠ lc := nd hD 0 6 (show (0 : Nat) < 6 by decide) (show (6 : Nat) < 9 by decide)
  have ne_a2_fa : a2 ≠ fa := nd hD 0 7 (show (0 : Nat) < 7 by decide) (show (7 : Nat) < 9 by decide)
  have ne_a2_fb : a2 ≠ fb := nd hD 0 8 (show (0 : Nat) < 8 by decide) (show (8 : Nat) < 9 by decide)
  have ne_a4_o : a4 ≠ o := nd hD 1 2 (show (1 : Nat) < 2 by decide) (show (2 : Nat) < 9 by decide)
  have ne_a4_sy : a4 ≠ sy := nd hD 1 3 (show (1 : Nat) < 3 by decide) (show (3 : Nat) < 9 by decide)
  have ne_a4_co : a4 ≠ co := nd hD 1 4 (show (1 : Nat) < 4 by decide) (show (4 : Nat) < 9 by decide)
  have ne_a4_le : a4 ≠ le := nd hD 1 5 (show (1 : Nat) < 5 by decide) (show (5 : Nat) < 9 by decide)
  have ne_a4_lc : a4 ≠ lc := nd hD 1 6 (show (1 : Nat) < 6 by decide) (show (6 : Nat) < 9 by decide)
  have ne_a4_fa : a4 ≠ fa := nd hD 1 7 (show (1 : Nat) < 7 by decide) (show (7 : Nat) < 9 by decide)
  have ne_a4_fb : a4 ≠ fb := nd hD 1 8 (show (1 : Nat) < 8 by decide) (show (8 : Nat) < 9 by decide)
  have ne_o_sy : o ≠ sy := nd hD 2 3 (show (2 : Nat) < 3 by decide) (show (3 : Nat) < 9 by decide)
  have ne_o_co : o ≠ co := nd hD 2 4 (show (2 : Nat) < 4 by decide) (show (4 : Nat) < 9 by decide)
  have ne_o_le : o ≠ le := nd hD 2 5 (show (2 : Nat) < 5 by decide) (show (5 : Nat) < 9 by decide)
  have ne_o_lc : o ≠ lc := nd hD 2 6 (show (2 : Nat) < 6 by decide) (show (6 : Nat) < 9 by decide)
  have ne_o_fa : o ≠ fa := nd hD 2 7 (show (2 : Nat) < 7 by decide) (show (7 : Nat) < 9 by decide)
  have ne_o_fb : o ≠ fb := nd hD 2 8 (show (2 : Nat) < 8 by decide) (show (8 : Nat) < 9 by decide)
  have ne_sy_co : sy ≠ co := nd hD 3 4 (show (3 : Nat) < 4 by decide) (show (4 : Nat) < 9 by decide)
  have ne_sy_le : sy ≠ le := nd hD 3 5 (show (3 : Nat) < 5 by decide) (show (5 : Nat) < 9 by decide)
  have ne_sy_lc : sy ≠ lc := nd hD 3 6 (show (3 : Nat) < 6 by decide) (show (6 : Nat) < 9 by decide)
  have ne_sy_fa : sy ≠ fa := nd hD 3 7 (show (3 : Nat) < 7 by decide) (show (7 : Nat) < 9 by decide)
  have ne_sy_fb : sy ≠ fb := nd hD 3 8 (show (3 : Nat) < 8 by decide) (show (8 : Nat) < 9 by decide)
  have ne_co_le : co ≠ le := nd hD 4 5 (show (4 : Nat) < 5 by decide) (show (5 : Nat) < 9 by decide)
  have ne_co_lc : co ≠ lc := nd hD 4 6 (show (4 : Nat) < 6 by decide) (show (6 : Nat) < 9 by decide)
  have ne_co_fa : co ≠ fa := nd hD 4 7 (show (4 : Nat) < 7 by decide) (show (7 : Nat) < 9 by decide)
  have ne_co_fb : co ≠ fb := nd hD 4 8 (show (4 : Nat) < 8 by decide) (show (8 : Nat) < 9 by decide)
  have ne_le_lc : le ≠ lc := nd hD 5 6 (show (5 : Nat) < 6 by decide) (show (6 : Nat) < 9 by decide)
  have ne_le_fa : le ≠ fa := nd hD 5 7 (show (5 : Nat) < 7 by decide) (show (7 : Nat) < 9 by decide)
  have ne_le_fb : le ≠ fb := nd hD 5 8 (show (5 : Nat) < 8 by decide) (show (8 : Nat) < 9 by decide)
  have ne_lc_fa : lc ≠ fa := nd hD 6 7 (show (6 : Nat) < 7 by decide) (show (7 : Nat) < 9 by decide)
  have ne_lc_fb : lc ≠ fb := nd hD 6 8 (show (6 : Nat) < 8 by decide) (show (8 : Nat) < 9 by decide)
  have ne_fa_fb : fa ≠ fb := nd hD 7 8 (show (7 : Nat) < 8 by decide) (show (8 : Nat) < 9 by decide)
  have hD6 : [a2, a4, lc, fa, fb, sy].Nodup := by simp only [List.nodup_cons, List.mem_cons, List.not_mem_nil, or_false, not_or, List.nodup_nil, not_false_eq_true, and_true]; exact ⟨⟨ne_a2_a4, ne_a2_lc, ne_a2_fa, ne_a2_fb, ne_a2_sy⟩, ⟨ne_a4_lc, ne_a4_fa, ne_a4_fb, ne_a4_sy⟩, ⟨ne_lc_fa, ne_lc_fb, (Ne.symm ne_sy_lc)⟩, ⟨ne_fa_fb, (Ne.symm ne_sy_fa)⟩, (Ne.symm ne_sy_fb)⟩
  have LP : ∀ (d : Nat) (q : Nat) (s6 : Slot) (s7 : Slot) (s8 : Slot) (s9 : Slot), q + d = n → (s6 = .unset ∨ ∃ w, s6 = .val w ∧ w.category = 1) → (s7 = .unset ∨ ∃ w, s7 = .val w ∧ w.category = 1) → ((s8 = .unset ∧ s9 = .unset) ∨ ∃ z, s8 = .val (.long z) ∧ s9 = .second) → ∀ (T : State) (h : Heap), On p l' e ({ frames := 1, cells := 0, slots := 0, locals := 22 } : Room) s m #[(.ref o), (.ref a2), (.int (Int32.ofNat n)), (.ref a4), (.int (Int32.ofNat lg))] below meth c n0 T h 0 0 → Exa Z h o "leafpress/HuffmanCode" → Fld Z h o "leafpress/HuffmanCode" "m_aSymbols" "[I" (.ref sy) → Fld Z h o "leafpress/HuffmanCode" "m_aCodes" "[J" (.ref co) → Fld Z h o "leafpress/HuffmanCode" "m_aLengths" "[B" (.ref le) → Fld Z h o "leafpress/HuffmanCode" "m_aLengthCounts" "[I" (.ref lc) → Fld Z h o "leafpress/HuffmanCode" "m_aFirstCodes" "[J" (.ref fa) → Fld Z h o "leafpress/HuffmanCode" "m_aFirstSymbols" "[I" (.ref fb) → Fld Z h o "leafpress/HuffmanCode" "m_bPacked" "Z" (.int (hPk lg)) → Ary Z h a4 .int N3 fl → Ary Z h sy .int 256 (fun q => if hSid l n n q < n then .int (Int32.ofNat (V (hSid l n n q))) else f8 q) → Ary Z h co .long 256 (fun x => .long (hCo l V n (hPk lg) q x)) → Ary Z h le .byte 264 (hLb l V n q) → Ary Z h fa .long 64 (fun q => if q < lg + 1 then .long (hFc (hCnt l n) q) else f6 q) → Ary Z h fb .int 64 (fun q => if q < lg + 1 then .int (Int32.ofNat (hFs (hCnt l n) q)) else f7 q) → Keep h0 h [o, sy, co, le, fa, fb] → Gl p e below s ({ frames := 1, cells := 0, slots := 0, locals := 22 } : Room) n0 (fun v h => v = none ∧ Keep h0 h [o, sy, co, le, fa, fb] ∧ Exa Z h o "leafpress/HuffmanCode" ∧ Fld Z h o "leafpress/HuffmanCode" "m_aCodes" "[J" (.ref co) ∧ Fld Z h o "leafpress/HuffmanCode" "m_aLengths" "[B" (.ref le) ∧ Fld Z h o "leafpress/HuffmanCode" "m_bPacked" "Z" (.int (hPk lg)) ∧ Ary Z h co .long 256 (fun x => .long (hCo l V n (hPk lg) n x)) ∧ Ary Z h le .byte 264 (hLb l V n n)) T (mkF m 54 #[.val (.ref o), .val (.ref a2), .val (.int (Int32.ofNat n)), .val (.ref a4), .val (.int (Int32.ofNat lg)), .val (.int (Int32.ofNat q)), s6, s7, s8, s9] []) := by
    intro d
    induction d with
    | zero =>
      intro q s6 s7 s8 s9 hd hs6 hs7 hs89 T h S X_o F_m_aSymbols_o F_m_aCodes_o F_m_aLengths_o F_m_aLengthCounts_o F_m_aFirstCodes_o F_m_aFirstSymbols_o F_m_bPacked_o A_a4 A_sy A_co A_le A_fa A_fb Kp
      have hq : q = n := by omega
      rw [hq] at A_co A_le ⊢
      refine g_iload C S dpl_54 (pc' := 56) rfl rfl ?_
      refine g_iloadN C S dpl_56 (pc' := 57) rfl rfl ?_
      refine g_icmp_ge C S dpl_57 (pc' := 141) (pf := 60) (by decide) (by decide) rfl (fun hc57 => ?_) (fun hc57 => absurd ((o32_lt (by omega) (by omega)).mp hc57) (Nat.lt_irrefl n))
      exact g_return C S dpl_141 (by decide) (by decide) (⟨rfl, Kp, X_o, F_m_aCodes_o, F_m_aLengths_o, F_m_bPacked_o, A_co, A_le⟩)
    | succ d ih =>
      intro q s6 s7 s8 s9 hd hs6 hs7 hs89 T h S X_o F_m_aSymbols_o F_m_aCodes_o F_m_aLengths_o F_m_aLengthCounts_o F_m_aFirstCodes_o F_m_aFirstSymbols_o F_m_bPacked_o A_a4 A_sy A_co A_le A_fa A_fb Kp
      have hin : q < n := by omega
      have hs := hsid q hin
      have hVs := hV _ hs
      have hls := hl _ hs
      have hle : l (hSid l n n q) ≤ lg := by rw [← hlg]; exact hLng_ge l n _ hs
      have hlt : l (hSid l n n q) < lg + 1 := by omega
      refine g_iload C S dpl_54 (pc' := 56) rfl rfl ?_
      refine g_iloadN C S dpl_56 (pc' := 57) rfl rfl ?_
      refine g_icmp_ge C S dpl_57 (pc' := 141) (pf := 60) (by decide) (by decide) rfl (fun hc57 => absurd ((o32_lt (by omega) (by omega)).mpr hin) hc57) (fun hc57 => ?_)
      refine g_aloadN C S dpl_60 (pc' := 61) rfl rfl rfl ?_
      refine g_getF C S dpl_61 (host := "") (Or.inl (hw _ (List.mem_of_getElem? (i := 10) rfl))) Via.refl F_m_aSymbols_o (pc' := 64) rfl (fun T35 S => ?_)
      refine g_iload C S dpl_64 (pc' := 66) rfl rfl ?_
      refine g_iaload C S (i := q) (v := (.int (Int32.ofNat (V (hSid l n n q))))) dpl_66 A_sy (o32 (by omega)) (by omega) (if_pos hs) (pc' := 67) rfl ?_
      refine g_istore C S dpl_67 (pc' := 69) rfl (L' := #[.val (.ref o), .val (.ref a2), .val (.int (Int32.ofNat n)), .val (.ref a4), .val (.int (Int32.ofNat lg)), .val (.int (Int32.ofNat q)), .val (.int (Int32.ofNat (V (hSid l n n q)))), s7, s8, s9]) (XS.store1 rfl hs6 rfl) ?_
      refine g_aloadN C S dpl_69 (pc' := 70) rfl rfl rfl ?_
      refine g_iload C S dpl_70 (pc' := 72) rfl rfl ?_
      refine g_iaload C S (i := (V (hSid l n n q))) (v := (.int (Int32.ofNat (l (hSid l n n q))))) dpl_72 A_a4 (o32 (by omega)) hVs (hfl _ hs) (pc' := 73) rfl ?_
      refine g_istore C S dpl_73 (pc' := 75) rfl (L' := #[.val (.ref o), .val (.ref a2), .val (.int (Int32.ofNat n)), .val (.ref a4), .val (.int (Int32.ofNat lg)), .val (.int (Int32.ofNat q)), .val (.int (Int32.ofNat (V (hSid l n n q)))), .val (.int (Int32.ofNat (l (hSid l n n q)))), s8, s9]) (XS.store1 rfl hs7 rfl) ?_
      refine g_aloadN C S dpl_75 (pc' := 76) rfl rfl rfl ?_
      refine g_getF C S dpl_76 (host := "") (Or.inl (hw _ (List.mem_of_getElem? (i := 20) rfl))) Via.refl F_m_aFirstCodes_o (pc' := 79) rfl (fun T36 S => ?_)
      refine g_iload C S dpl_79 (pc' := 81) rfl rfl ?_
      refine g_laload C S (i := (l (hSid l n n q))) (v := (.long (hFc (hCnt l n) (l (hSid l n n q))))) dpl_81 A_fa (o32 (by omega)) (by omega) (if_pos hlt) (pc' := 82) rfl ?_
      refine g_iload C S dpl_82 (pc' := 84) rfl rfl ?_
      refine g_i2l C S dpl_84 (pc' := 85) rfl ?_
      refine g_ladd C S dpl_85 (pc' := 86) rfl ?_
      refine g_aloadN C S dpl_86 (pc' := 87) rfl rfl rfl ?_
      refine g_getF C S dpl_87 (host := "") (Or.inl (hw _ (List.mem_of_getElem? (i := 22) rfl))) Via.refl F_m_aFirstSymbols_o (pc' := 90) rfl (fun T37 S => ?_)
      refine g_iload C S dpl_90 (pc' := 92) rfl rfl ?_
      refine g_iaload C S (i := (l (hSid l n n q))) (v := (.int (Int32.ofNat (hFs (hCnt l n) (l (hSid l n n q)))))) dpl_92 A_fb (o32 (by omega)) (by omega) (if_pos hlt) (pc' := 93) rfl ?_
      refine g_i2l C S dpl_93 (pc' := 94) rfl ?_
      refine g_lsub C S dpl_94 (pc' := 95) rfl ?_
      refine g_lstore C S dpl_95 (pc' := 97) rfl (L' := #[.val (.ref o), .val (.ref a2), .val (.int (Int32.ofNat n)), .val (.ref a4), .val (.int (Int32.ofNat lg)), .val (.int (Int32.ofNat q)), .val (.int (Int32.ofNat (V (hSid l n n q)))), .val (.int (Int32.ofNat (l (hSid l n n q)))), .val (.long (((hFc (hCnt l n) (l (hSid l n n q))) + ((Int32.ofNat q).toInt64)) - ((Int32.ofNat (hFs (hCnt l n) (l (hSid l n n q)))).toInt64))), .second]) (st_ll hs89) ?_
      refine g_aloadN C S dpl_97 (pc' := 98) rfl rfl rfl ?_
      refine g_getF C S dpl_98 (host := "") (Or.inl (hw _ (List.mem_of_getElem? (i := 13) rfl))) Via.refl F_m_aCodes_o (pc' := 101) rfl (fun T38 S => ?_)
      refine g_iload C S dpl_101 (pc' := 103) rfl rfl ?_
      refine g_aloadN C S dpl_103 (pc' := 104) rfl rfl rfl ?_
      refine g_getF C S dpl_104 (host := "") (Or.inl (hw _ (List.mem_of_getElem? (i := 74) rfl))) Via.refl F_m_bPacked_o (pc' := 107) rfl (fun T39 S => ?_)
      refine g_if_eq C S dpl_107 (pc' := 122) (pf := 110) (by decide) (by decide) rfl (fun hc107 => ?_) (fun hc107 => ?_)
      · refine g_lload C S dpl_122 (pc' := 124) rfl rfl ?_
        refine g_lastore C S (i := (V (hSid l n n q))) dpl_124 A_co (o32 (by omega)) (by omega) g_co (pc' := 125) rfl (fun T40 h40 S W40 B40 => ?_)
        have X_o := X_o.wr W40
        have F_m_aSymbols_o := F_m_aSymbols_o.other W40 (Or.inl ne_o_co)
        have F_m_aCodes_o := F_m_aCodes_o.other W40 (Or.inl ne_o_co)
        have F_m_aLengths_o := F_m_aLengths_o.other W40 (Or.inl ne_o_co)
        have F_m_aLengthCounts_o := F_m_aLengthCounts_o.other W40 (Or.inl ne_o_co)
        have F_m_aFirstCodes_o := F_m_aFirstCodes_o.other W40 (Or.inl ne_o_co)
        have F_m_aFirstSymbols_o := F_m_aFirstSymbols_o.other W40 (Or.inl ne_o_co)
        have F_m_bPacked_o := F_m_bPacked_o.other W40 (Or.inl ne_o_co)
        have A_a4 := A_a4.other W40 ne_a4_co
        have A_sy := A_sy.other W40 ne_sy_co
        have A_le := A_le.other W40 (Ne.symm ne_co_le)
        have A_fa := A_fa.other W40 (Ne.symm ne_co_fa)
        have A_fb := A_fb.other W40 (Ne.symm ne_co_fb)
        have A_co := B40
        have A_co := A_co.cg (hCo_set l V n (hPk lg) q 256 (by unfold hVal; rw [if_pos hc107]; rfl))
        have Kp := Kp.wr W40 (Or.inl (List.mem_of_getElem? (i := 2) rfl))
        refine g_aloadN C S dpl_125 (pc' := 126) rfl rfl rfl ?_
        refine g_getF C S dpl_126 (host := "") (Or.inl (hw _ (List.mem_of_getElem? (i := 16) rfl))) Via.refl F_m_aLengths_o (pc' := 129) rfl (fun T41 S => ?_)
        refine g_iload C S dpl_129 (pc' := 131) rfl rfl ?_
        refine g_iload C S dpl_131 (pc' := 133) rfl rfl ?_
        refine g_i2b C S dpl_133 (pc' := 134) rfl ?_
        refine g_bastoreB C S (i := (V (hSid l n n q))) dpl_134 A_le (o32 (by omega)) (by omega) g_le (pc' := 135) rfl (fun T42 h42 S W42 B42 => ?_)
        have X_o := X_o.wr W42
        have F_m_aSymbols_o := F_m_aSymbols_o.other W42 (Or.inl ne_o_le)
        have F_m_aCodes_o := F_m_aCodes_o.other W42 (Or.inl ne_o_le)
        have F_m_aLengths_o := F_m_aLengths_o.other W42 (Or.inl ne_o_le)
        have F_m_aLengthCounts_o := F_m_aLengthCounts_o.other W42 (Or.inl ne_o_le)
        have F_m_aFirstCodes_o := F_m_aFirstCodes_o.other W42 (Or.inl ne_o_le)
        have F_m_aFirstSymbols_o := F_m_aFirstSymbols_o.other W42 (Or.inl ne_o_le)
        have F_m_bPacked_o := F_m_bPacked_o.other W42 (Or.inl ne_o_le)
        have A_a4 := A_a4.other W42 ne_a4_le
        have A_sy := A_sy.other W42 ne_sy_le
        have A_co := A_co.other W42 ne_co_le
        have A_fa := A_fa.other W42 (Ne.symm ne_le_fa)
        have A_fb := A_fb.other W42 (Ne.symm ne_le_fb)
        have A_le := B42
        have A_le := A_le.cg (hLe_set l V n q 264 (by omega) hls)
        have Kp := Kp.wr W42 (Or.inl (List.mem_of_getElem? (i := 3) rfl))
        refine g_iinc C S (1 : Int32) dpl_135 (pc' := 138) rfl rfl rfl (L' := #[.val (.ref o), .val (.ref a2), .val (.int (Int32.ofNat n)), .val (.ref a4), .val (.int (Int32.ofNat lg)), .val (.int ((Int32.ofNat q) + (1 : Int32))), .val (.int (Int32.ofNat (V (hSid l n n q)))), .val (.int (Int32.ofNat (l (hSid l n n q)))), .val (.long (((hFc (hCnt l n) (l (hSid l n n q))) + ((Int32.ofNat q).toInt64)) - ((Int32.ofNat (hFs (hCnt l n) (l (hSid l n n q)))).toInt64))), .second]) rfl ?_
        refine g_goto C S dpl_138 (pc' := 54) (by decide) (by decide) ?_
        rw [o32_succ]
        exact ih (q + 1) _ _ _ _ (by omega) (Or.inr ⟨_, rfl, rfl⟩) (Or.inr ⟨_, rfl, rfl⟩) (Or.inr ⟨_, rfl, rfl⟩) _ _ S X_o F_m_aSymbols_o F_m_aCodes_o F_m_aLengths_o F_m_aLengthCounts_o F_m_aFirstCodes_o F_m_aFirstSymbols_o F_m_bPacked_o A_a4 A_sy A_co A_le A_fa A_fb Kp
      · refine g_lload C S dpl_110 (pc' := 112) rfl rfl ?_
        refine g_bipush C S (6 : Int32) dpl_112 (pc' := 114) rfl rfl ?_
        refine g_lshl C S dpl_114 (pc' := 115) rfl ?_
        refine g_iload C S dpl_115 (pc' := 117) rfl rfl ?_
        refine g_i2l C S dpl_117 (pc' := 118) rfl ?_
        refine g_lor C S dpl_118 (pc' := 119) rfl ?_
        refine g_goto C S dpl_119 (pc' := 124) (by decide) (by decide) ?_
        refine g_lastore C S (i := (V (hSid l n n q))) dpl_124 A_co (o32 (by omega)) (by omega) g_co (pc' := 125) rfl (fun T43 h43 S W43 B43 => ?_)
        have X_o := X_o.wr W43
        have F_m_aSymbols_o := F_m_aSymbols_o.other W43 (Or.inl ne_o_co)
        have F_m_aCodes_o := F_m_aCodes_o.other W43 (Or.inl ne_o_co)
        have F_m_aLengths_o := F_m_aLengths_o.other W43 (Or.inl ne_o_co)
        have F_m_aLengthCounts_o := F_m_aLengthCounts_o.other W43 (Or.inl ne_o_co)
        have F_m_aFirstCodes_o := F_m_aFirstCodes_o.other W43 (Or.inl ne_o_co)
        have F_m_aFirstSymbols_o := F_m_aFirstSymbols_o.other W43 (Or.inl ne_o_co)
        have F_m_bPacked_o := F_m_bPacked_o.other W43 (Or.inl ne_o_co)
        have A_a4 := A_a4.other W43 ne_a4_co
        have A_sy := A_sy.other W43 ne_sy_co
        have A_le := A_le.other W43 (Ne.symm ne_co_le)
        have A_fa := A_fa.other W43 (Ne.symm ne_co_fa)
        have A_fb := A_fb.other W43 (Ne.symm ne_co_fb)
        have A_co := B43
        have A_co := A_co.cg (hCo_set l V n (hPk lg) q 256 (by unfold hVal; rw [if_neg hc107]; rfl))
        have Kp := Kp.wr W43 (Or.inl (List.mem_of_getElem? (i := 2) rfl))
        refine g_aloadN C S dpl_125 (pc' := 126) rfl rfl rfl ?_
        refine g_getF C S dpl_126 (host := "") (Or.inl (hw _ (List.mem_of_getElem? (i := 16) rfl))) Via.refl F_m_aLengths_o (pc' := 129) rfl (fun T44 S => ?_)
        refine g_iload C S dpl_129 (pc' := 131) rfl rfl ?_
        refine g_iload C S dpl_131 (pc' := 133) rfl rfl ?_
        refine g_i2b C S dpl_133 (pc' := 134) rfl ?_
        refine g_bastoreB C S (i := (V (hSid l n n q))) dpl_134 A_le (o32 (by omega)) (by omega) g_le (pc' := 135) rfl (fun T45 h45 S W45 B45 => ?_)
        have X_o := X_o.wr W45
        have F_m_aSymbols_o := F_m_aSymbols_o.other W45 (Or.inl ne_o_le)
        have F_m_aCodes_o := F_m_aCodes_o.other W45 (Or.inl ne_o_le)
        have F_m_aLengths_o := F_m_aLengths_o.other W45 (Or.inl ne_o_le)
        have F_m_aLengthCounts_o := F_m_aLengthCounts_o.other W45 (Or.inl ne_o_le)
        have F_m_aFirstCodes_o := F_m_aFirstCodes_o.other W45 (Or.inl ne_o_le)
        have F_m_aFirstSymbols_o := F_m_aFirstSymbols_o.other W45 (Or.inl ne_o_le)
        have F_m_bPacked_o := F_m_bPacked_o.other W45 (Or.inl ne_o_le)
        have A_a4 := A_a4.other W45 ne_a4_le
        have A_sy := A_sy.other W45 ne_sy_le
        have A_co := A_co.other W45 ne_co_le
        have A_fa := A_fa.other W45 (Ne.symm ne_le_fa)
        have A_fb := A_fb.other W45 (Ne.symm ne_le_fb)
        have A_le := B45
        have A_le := A_le.cg (hLe_set l V n q 264 (by omega) hls)
        have Kp := Kp.wr W45 (Or.inl (List.mem_of_getElem? (i := 3) rfl))
        refine g_iinc C S (1 : Int32) dpl_135 (pc' := 138) rfl rfl rfl (L' := #[.val (.ref o), .val (.ref a2), .val (.int (Int32.ofNat n)), .val (.ref a4), .val (.int (Int32.ofNat lg)), .val (.int ((Int32.ofNat q) + (1 : Int32))), .val (.int (Int32.ofNat (V (hSid l n n q)))), .val (.int (Int32.ofNat (l (hSid l n n q)))), .val (.long (((hFc (hCnt l n) (l (hSid l n n q))) + ((Int32.ofNat q).toInt64)) - ((Int32.ofNat (hFs (hCnt l n) (l (hSid l n n q)))).toInt64))), .second]) rfl ?_
        refine g_goto C S dpl_138 (pc' := 54) (by decide) (by decide) ?_
        rw [o32_succ]
        exact ih (q + 1) _ _ _ _ (by omega) (Or.inr ⟨_, rfl, rfl⟩) (Or.inr ⟨_, rfl, rfl⟩) (Or.inr ⟨_, rfl, rfl⟩) _ _ S X_o F_m_aSymbols_o F_m_aCodes_o F_m_aLengths_o F_m_aLengthCounts_o F_m_aFirstCodes_o F_m_aFirstSymbols_o F_m_bPacked_o A_a4 A_sy A_co A_le A_fa A_fb Kp
  refine g_aloadN C S dpl_0 (pc' := 1) rfl rfl rfl ?_
  refine g_iloadN C S dpl_1 (pc' := 2) rfl rfl ?_
  refine g_aloadN C S dpl_2 (pc' := 3) rfl rfl rfl ?_
  refine g_aloadN C S dpl_3 (pc' := 4) rfl rfl rfl ?_
  refine g_getF C S dpl_4 (host := "") (Or.inl (hw _ (List.mem_of_getElem? (i := 18) rfl))) Via.refl F_m_aLengthCounts_o (pc' := 7) rfl (fun T46 S => ?_)
  refine g_iload C S dpl_7 (pc' := 9) rfl rfl ?_
  refine g_aloadN C S dpl_9 (pc' := 10) rfl rfl rfl ?_
  refine g_getF C S dpl_10 (host := "") (Or.inl (hw _ (List.mem_of_getElem? (i := 20) rfl))) Via.refl F_m_aFirstCodes_o (pc' := 13) rfl (fun T47 S => ?_)
  refine g_aloadN C S dpl_13 (pc' := 14) rfl rfl rfl ?_
  refine g_getF C S dpl_14 (host := "") (Or.inl (hw _ (List.mem_of_getElem? (i := 22) rfl))) Via.refl F_m_aFirstSymbols_o (pc' := 17) rfl (fun T48 S => ?_)
  refine g_aloadN C S dpl_17 (pc' := 18) rfl rfl rfl ?_
  refine g_getF C S dpl_18 (host := "") (Or.inl (hw _ (List.mem_of_getElem? (i := 10) rfl))) Via.refl F_m_aSymbols_o (pc' := 21) rfl (fun T49 S => ?_)
  refine g_callS C S (rm := ({ frames := 0, cells := 0, slots := 0, locals := 0 } : Room)) (W := 0) dpl_21 (hw _ (List.mem_of_getElem? (i := 69) rfl)) (hw _ (List.mem_of_getElem? (i := 70) rfl)) (hw _ (List.mem_of_getElem? (i := 2) rfl)) (hw _ (List.mem_of_getElem? (i := 71) rfl)) (by decide) (c_can l' Z a0 hw a2 a4 lc fa fb sy h0 n0 l V n N1 N3 fv fl hg hN1 hN3 hV hA hfv hfl lg hlg f6 f7 f8 g_fa g_fb g_sy hD6 A_a2 A_a4 A_lc A_fa A_fb A_sy) (argsL := [(.ref a2), (.int (Int32.ofNat n)), (.ref a4), (.ref lc), (.int (Int32.ofNat lg)), (.ref fa), (.ref fb), (.ref sy)]) (r := []) rfl (lenOf pd_3 rfl) rfl (Nat.le_of_eq rfl) (by decide) (by decide) (by decide) (by decide) (pc' := 24) rfl (fun T50 h50 v50 q50 S => ?_)
  obtain ⟨rfl, K50, B_fa, B_fb, B_sy⟩ := q50
  have Kp := Kp.trans K50 (allS (Or.inl (List.mem_of_getElem? (i := 4) rfl)) (allS (Or.inl (List.mem_of_getElem? (i := 5) rfl)) (allS (Or.inl (List.mem_of_getElem? (i := 1) rfl)) all0)))
  have X_o := X_o.keep K50
  have F_m_aSymbols_o := F_m_aSymbols_o.keep K50 (ninS ne_o_fa (ninS ne_o_fb (ninS ne_o_sy nin0)))
  have F_m_aCodes_o := F_m_aCodes_o.keep K50 (ninS ne_o_fa (ninS ne_o_fb (ninS ne_o_sy nin0)))
  have F_m_aLengths_o := F_m_aLengths_o.keep K50 (ninS ne_o_fa (ninS ne_o_fb (ninS ne_o_sy nin0)))
  have F_m_aLengthCounts_o := F_m_aLengthCounts_o.keep K50 (ninS ne_o_fa (ninS ne_o_fb (ninS ne_o_sy nin0)))
  have F_m_aFirstCodes_o := F_m_aFirstCodes_o.keep K50 (ninS ne_o_fa (ninS ne_o_fb (ninS ne_o_sy nin0)))
  have F_m_aFirstSymbols_o := F_m_aFirstSymbols_o.keep K50 (ninS ne_o_fa (ninS ne_o_fb (ninS ne_o_sy nin0)))
  have F_m_nLongest_o := F_m_nLongest_o.keep K50 (ninS ne_o_fa (ninS ne_o_fb (ninS ne_o_sy nin0)))
  have F_m_nValues_o := F_m_nValues_o.keep K50 (ninS ne_o_fa (ninS ne_o_fb (ninS ne_o_sy nin0)))
  have F_m_bPacked_o := F_m_bPacked_o.keep K50 (ninS ne_o_fa (ninS ne_o_fb (ninS ne_o_sy nin0)))
  have A_co := A_co.keep K50 (ninS ne_co_fa (ninS ne_co_fb (ninS (Ne.symm ne_sy_co) nin0)))
  have A_le := A_le.keep K50 (ninS ne_le_fa (ninS ne_le_fb (ninS (Ne.symm ne_sy_le) nin0)))
  have A_lc := A_lc.keep K50 (ninS ne_lc_fa (ninS ne_lc_fb (ninS (Ne.symm ne_sy_lc) nin0)))
  have A_a2 := A_a2.keep K50 (ninS ne_a2_fa (ninS ne_a2_fb (ninS ne_a2_sy nin0)))
  have A_a4 := A_a4.keep K50 (ninS ne_a4_fa (ninS ne_a4_fb (ninS ne_a4_sy nin0)))
  have A_fa := B_fa
  have A_fb := B_fb
  have A_sy := B_sy
  show Gl p e below s _ n0 _ T50 (mkF m 24 #[.val (.ref o), .val (.ref a2), .val (.int (Int32.ofNat n)), .val (.ref a4), .val (.int (Int32.ofNat lg)), .unset, .unset, .unset, .unset, .unset] [])
  refine g_aloadN C S dpl_24 (pc' := 25) rfl rfl rfl ?_
  refine g_iload C S dpl_25 (pc' := 27) rfl rfl ?_
  refine g_putF C S dpl_27 (host := "") (Or.inl (hw _ (List.mem_of_getElem? (i := 72) rfl))) Via.refl F_m_nLongest_o X_o (Or.inl (hw _ (List.mem_of_getElem? (i := 73) rfl))) (hw _ (List.mem_of_getElem? (i := 1) rfl)) (ty := .int) (by decide) rfl rfl g_o (pc' := 30) rfl (fun T51 h51 S W51 => ?_)
  have X_o := X_o.wr W51
  have F_m_aSymbols_o := F_m_aSymbols_o.other W51 (Or.inr (slot_ne (a0 := a0) (t := (.array .int)) (t' := .int) (Or.inr (hw _ (List.mem_of_getElem? (i := 11) rfl))) (Or.inl (hw _ (List.mem_of_getElem? (i := 73) rfl))) (by decide) (by decide) (by decide)))
  have F_m_aCodes_o := F_m_aCodes_o.other W51 (Or.inr (slot_ne (a0 := a0) (t := (.array .long)) (t' := .int) (Or.inr (hw _ (List.mem_of_getElem? (i := 14) rfl))) (Or.inl (hw _ (List.mem_of_getElem? (i := 73) rfl))) (by decide) (by decide) (by decide)))
  have F_m_aLengths_o := F_m_aLengths_o.other W51 (Or.inr (slot_ne (a0 := a0) (t := (.array .byte)) (t' := .int) (Or.inr (hw _ (List.mem_of_getElem? (i := 17) rfl))) (Or.inl (hw _ (List.mem_of_getElem? (i := 73) rfl))) (by decide) (by decide) (by decide)))
  have F_m_aLengthCounts_o := F_m_aLengthCounts_o.other W51 (Or.inr (slot_ne (a0 := a0) (t := (.array .int)) (t' := .int) (Or.inr (hw _ (List.mem_of_getElem? (i := 19) rfl))) (Or.inl (hw _ (List.mem_of_getElem? (i := 73) rfl))) (by decide) (by decide) (by decide)))
  have F_m_aFirstCodes_o := F_m_aFirstCodes_o.other W51 (Or.inr (slot_ne (a0 := a0) (t := (.array .long)) (t' := .int) (Or.inr (hw _ (List.mem_of_getElem? (i := 21) rfl))) (Or.inl (hw _ (List.mem_of_getElem? (i := 73) rfl))) (by decide) (by decide) (by decide)))
  have F_m_aFirstSymbols_o := F_m_aFirstSymbols_o.other W51 (Or.inr (slot_ne (a0 := a0) (t := (.array .int)) (t' := .int) (Or.inr (hw _ (List.mem_of_getElem? (i := 23) rfl))) (Or.inl (hw _ (List.mem_of_getElem? (i := 73) rfl))) (by decide) (by decide) (by decide)))
  have F_m_nLongest_o := F_m_nLongest_o.same W51
  have F_m_nValues_o := F_m_nValues_o.other W51 (Or.inr (slot_ne (a0 := a0) (t := .int) (t' := .int) (Or.inl (hw _ (List.mem_of_getElem? (i := 64) rfl))) (Or.inl (hw _ (List.mem_of_getElem? (i := 73) rfl))) (by decide) (by decide) (by decide)))
  have F_m_bPacked_o := F_m_bPacked_o.other W51 (Or.inr (slot_ne (a0 := a0) (t := .boolean) (t' := .int) (Or.inl (hw _ (List.mem_of_getElem? (i := 75) rfl))) (Or.inl (hw _ (List.mem_of_getElem? (i := 73) rfl))) (by decide) (by decide) (by decide)))
  have A_sy := A_sy.other W51 (Ne.symm ne_o_sy)
  have A_co := A_co.other W51 (Ne.symm ne_o_co)
  have A_le := A_le.other W51 (Ne.symm ne_o_le)
  have A_lc := A_lc.other W51 (Ne.symm ne_o_lc)
  have A_fa := A_fa.other W51 (Ne.symm ne_o_fa)
  have A_fb := A_fb.other W51 (Ne.symm ne_o_fb)
  have A_a2 := A_a2.other W51 ne_a2_o
  have A_a4 := A_a4.other W51 ne_a4_o
  have Kp := Kp.wr W51 (Or.inl (List.mem_of_getElem? (i := 0) rfl))
  refine g_aloadN C S dpl_30 (pc' := 31) rfl rfl rfl ?_
  refine g_iloadN C S dpl_31 (pc' := 32) rfl rfl ?_
  refine g_putF C S dpl_32 (host := "") (Or.inl (hw _ (List.mem_of_getElem? (i := 63) rfl))) Via.refl F_m_nValues_o X_o (Or.inl (hw _ (List.mem_of_getElem? (i := 64) rfl))) (hw _ (List.mem_of_getElem? (i := 1) rfl)) (ty := .int) (by decide) rfl rfl g_o (pc' := 35) rfl (fun T52 h52 S W52 => ?_)
  have X_o := X_o.wr W52
  have F_m_aSymbols_o := F_m_aSymbols_o.other W52 (Or.inr (slot_ne (a0 := a0) (t := (.array .int)) (t' := .int) (Or.inr (hw _ (List.mem_of_getElem? (i := 11) rfl))) (Or.inl (hw _ (List.mem_of_getElem? (i := 64) rfl))) (by decide) (by decide) (by decide)))
  have F_m_aCodes_o := F_m_aCodes_o.other W52 (Or.inr (slot_ne (a0 := a0) (t := (.array .long)) (t' := .int) (Or.inr (hw _ (List.mem_of_getElem? (i := 14) rfl))) (Or.inl (hw _ (List.mem_of_getElem? (i := 64) rfl))) (by decide) (by decide) (by decide)))
  have F_m_aLengths_o := F_m_aLengths_o.other W52 (Or.inr (slot_ne (a0 := a0) (t := (.array .byte)) (t' := .int) (Or.inr (hw _ (List.mem_of_getElem? (i := 17) rfl))) (Or.inl (hw _ (List.mem_of_getElem? (i := 64) rfl))) (by decide) (by decide) (by decide)))
  have F_m_aLengthCounts_o := F_m_aLengthCounts_o.other W52 (Or.inr (slot_ne (a0 := a0) (t := (.array .int)) (t' := .int) (Or.inr (hw _ (List.mem_of_getElem? (i := 19) rfl))) (Or.inl (hw _ (List.mem_of_getElem? (i := 64) rfl))) (by decide) (by decide) (by decide)))
  have F_m_aFirstCodes_o := F_m_aFirstCodes_o.other W52 (Or.inr (slot_ne (a0 := a0) (t := (.array .long)) (t' := .int) (Or.inr (hw _ (List.mem_of_getElem? (i := 21) rfl))) (Or.inl (hw _ (List.mem_of_getElem? (i := 64) rfl))) (by decide) (by decide) (by decide)))
  have F_m_aFirstSymbols_o := F_m_aFirstSymbols_o.other W52 (Or.inr (slot_ne (a0 := a0) (t := (.array .int)) (t' := .int) (Or.inr (hw _ (List.mem_of_getElem? (i := 23) rfl))) (Or.inl (hw _ (List.mem_of_getElem? (i := 64) rfl))) (by decide) (by decide) (by decide)))
  have F_m_nLongest_o := F_m_nLongest_o.other W52 (Or.inr (slot_ne (a0 := a0) (t := .int) (t' := .int) (Or.inl (hw _ (List.mem_of_getElem? (i := 73) rfl))) (Or.inl (hw _ (List.mem_of_getElem? (i := 64) rfl))) (by decide) (by decide) (by decide)))
  have F_m_nValues_o := F_m_nValues_o.same W52
  have F_m_bPacked_o := F_m_bPacked_o.other W52 (Or.inr (slot_ne (a0 := a0) (t := .boolean) (t' := .int) (Or.inl (hw _ (List.mem_of_getElem? (i := 75) rfl))) (Or.inl (hw _ (List.mem_of_getElem? (i := 64) rfl))) (by decide) (by decide) (by decide)))
  have A_sy := A_sy.other W52 (Ne.symm ne_o_sy)
  have A_co := A_co.other W52 (Ne.symm ne_o_co)
  have A_le := A_le.other W52 (Ne.symm ne_o_le)
  have A_lc := A_lc.other W52 (Ne.symm ne_o_lc)
  have A_fa := A_fa.other W52 (Ne.symm ne_o_fa)
  have A_fb := A_fb.other W52 (Ne.symm ne_o_fb)
  have A_a2 := A_a2.other W52 ne_a2_o
  have A_a4 := A_a4.other W52 ne_a4_o
  have Kp := Kp.wr W52 (Or.inl (List.mem_of_getElem? (i := 0) rfl))
  refine g_aloadN C S dpl_35 (pc' := 36) rfl rfl rfl ?_
  refine g_iload C S dpl_36 (pc' := 38) rfl rfl ?_
  refine g_bipush C S (56 : Int32) dpl_38 (pc' := 40) rfl rfl ?_
  refine g_icmp_gt C S dpl_40 (pc' := 47) (pf := 43) (by decide) (by decide) rfl (fun hc40 => ?_) (fun hc40 => ?_)
  · refine g_iconst C S (0 : Int32) dpl_47 (pc' := 48) rfl rfl ?_
    refine g_putF C S dpl_48 (host := "") (Or.inl (hw _ (List.mem_of_getElem? (i := 74) rfl))) Via.refl F_m_bPacked_o X_o (Or.inl (hw _ (List.mem_of_getElem? (i := 75) rfl))) (hw _ (List.mem_of_getElem? (i := 1) rfl)) (ty := .boolean) (by decide) rfl rfl g_o (pc' := 51) rfl (fun T53 h53 S W53 => ?_)
    have X_o := X_o.wr W53
    have F_m_aSymbols_o := F_m_aSymbols_o.other W53 (Or.inr (slot_ne (a0 := a0) (t := (.array .int)) (t' := .boolean) (Or.inr (hw _ (List.mem_of_getElem? (i := 11) rfl))) (Or.inl (hw _ (List.mem_of_getElem? (i := 75) rfl))) (by decide) (by decide) (by decide)))
    have F_m_aCodes_o := F_m_aCodes_o.other W53 (Or.inr (slot_ne (a0 := a0) (t := (.array .long)) (t' := .boolean) (Or.inr (hw _ (List.mem_of_getElem? (i := 14) rfl))) (Or.inl (hw _ (List.mem_of_getElem? (i := 75) rfl))) (by decide) (by decide) (by decide)))
    have F_m_aLengths_o := F_m_aLengths_o.other W53 (Or.inr (slot_ne (a0 := a0) (t := (.array .byte)) (t' := .boolean) (Or.inr (hw _ (List.mem_of_getElem? (i := 17) rfl))) (Or.inl (hw _ (List.mem_of_getElem? (i := 75) rfl))) (by decide) (by decide) (by decide)))
    have F_m_aLengthCounts_o := F_m_aLengthCounts_o.other W53 (Or.inr (slot_ne (a0 := a0) (t := (.array .int)) (t' := .boolean) (Or.inr (hw _ (List.mem_of_getElem? (i := 19) rfl))) (Or.inl (hw _ (List.mem_of_getElem? (i := 75) rfl))) (by decide) (by decide) (by decide)))
    have F_m_aFirstCodes_o := F_m_aFirstCodes_o.other W53 (Or.inr (slot_ne (a0 := a0) (t := (.array .long)) (t' := .boolean) (Or.inr (hw _ (List.mem_of_getElem? (i := 21) rfl))) (Or.inl (hw _ (List.mem_of_getElem? (i := 75) rfl))) (by decide) (by decide) (by decide)))
    have F_m_aFirstSymbols_o := F_m_aFirstSymbols_o.other W53 (Or.inr (slot_ne (a0 := a0) (t := (.array .int)) (t' := .boolean) (Or.inr (hw _ (List.mem_of_getElem? (i := 23) rfl))) (Or.inl (hw _ (List.mem_of_getElem? (i := 75) rfl))) (by decide) (by decide) (by decide)))
    have F_m_nLongest_o := F_m_nLongest_o.other W53 (Or.inr (slot_ne (a0 := a0) (t := .int) (t' := .boolean) (Or.inl (hw _ (List.mem_of_getElem? (i := 73) rfl))) (Or.inl (hw _ (List.mem_of_getElem? (i := 75) rfl))) (by decide) (by decide) (by decide)))
    have F_m_nValues_o := F_m_nValues_o.other W53 (Or.inr (slot_ne (a0 := a0) (t := .int) (t' := .boolean) (Or.inl (hw _ (List.mem_of_getElem? (i := 64) rfl))) (Or.inl (hw _ (List.mem_of_getElem? (i := 75) rfl))) (by decide) (by decide) (by decide)))
    have F_m_bPacked_o := F_m_bPacked_o.same W53
    have A_sy := A_sy.other W53 (Ne.symm ne_o_sy)
    have A_co := A_co.other W53 (Ne.symm ne_o_co)
    have A_le := A_le.other W53 (Ne.symm ne_o_le)
    have A_lc := A_lc.other W53 (Ne.symm ne_o_lc)
    have A_fa := A_fa.other W53 (Ne.symm ne_o_fa)
    have A_fb := A_fb.other W53 (Ne.symm ne_o_fb)
    have A_a2 := A_a2.other W53 ne_a2_o
    have A_a4 := A_a4.other W53 ne_a4_o
    have Kp := Kp.wr W53 (Or.inl (List.mem_of_getElem? (i := 0) rfl))
    refine g_iconst C S (0 : Int32) dpl_51 (pc' := 52) rfl rfl ?_
    refine g_istore C S dpl_52 (pc' := 54) rfl (L' := #[.val (.ref o), .val (.ref a2), .val (.int (Int32.ofNat n)), .val (.ref a4), .val (.int (Int32.ofNat lg)), .val (.int (0 : Int32)), .unset, .unset, .unset, .unset]) rfl ?_
    have hpk : hPk lg = (0 : Int32) := if_pos ((o32_gtl (K := 56) (by decide) (by omega)).mp hc40)
    rw [← hpk] at F_m_bPacked_o
    exact LP n 0 _ _ _ _ (by omega) (Or.inl rfl) (Or.inl rfl) (Or.inl ⟨rfl, rfl⟩) _ _ S X_o F_m_aSymbols_o F_m_aCodes_o F_m_aLengths_o F_m_aLengthCounts_o F_m_aFirstCodes_o F_m_aFirstSymbols_o F_m_bPacked_o A_a4 A_sy A_co A_le A_fa A_fb Kp
  · refine g_iconst C S (1 : Int32) dpl_43 (pc' := 44) rfl rfl ?_
    refine g_goto C S dpl_44 (pc' := 48) (by decide) (by decide) ?_
    refine g_putF C S dpl_48 (host := "") (Or.inl (hw _ (List.mem_of_getElem? (i := 74) rfl))) Via.refl F_m_bPacked_o X_o (Or.inl (hw _ (List.mem_of_getElem? (i := 75) rfl))) (hw _ (List.mem_of_getElem? (i := 1) rfl)) (ty := .boolean) (by decide) rfl rfl g_o (pc' := 51) rfl (fun T54 h54 S W54 => ?_)
    have X_o := X_o.wr W54
    have F_m_aSymbols_o := F_m_aSymbols_o.other W54 (Or.inr (slot_ne (a0 := a0) (t := (.array .int)) (t' := .boolean) (Or.inr (hw _ (List.mem_of_getElem? (i := 11) rfl))) (Or.inl (hw _ (List.mem_of_getElem? (i := 75) rfl))) (by decide) (by decide) (by decide)))
    have F_m_aCodes_o := F_m_aCodes_o.other W54 (Or.inr (slot_ne (a0 := a0) (t := (.array .long)) (t' := .boolean) (Or.inr (hw _ (List.mem_of_getElem? (i := 14) rfl))) (Or.inl (hw _ (List.mem_of_getElem? (i := 75) rfl))) (by decide) (by decide) (by decide)))
    have F_m_aLengths_o := F_m_aLengths_o.other W54 (Or.inr (slot_ne (a0 := a0) (t := (.array .byte)) (t' := .boolean) (Or.inr (hw _ (List.mem_of_getElem? (i := 17) rfl))) (Or.inl (hw _ (List.mem_of_getElem? (i := 75) rfl))) (by decide) (by decide) (by decide)))
    have F_m_aLengthCounts_o := F_m_aLengthCounts_o.other W54 (Or.inr (slot_ne (a0 := a0) (t := (.array .int)) (t' := .boolean) (Or.inr (hw _ (List.mem_of_getElem? (i := 19) rfl))) (Or.inl (hw _ (List.mem_of_getElem? (i := 75) rfl))) (by decide) (by decide) (by decide)))
    have F_m_aFirstCodes_o := F_m_aFirstCodes_o.other W54 (Or.inr (slot_ne (a0 := a0) (t := (.array .long)) (t' := .boolean) (Or.inr (hw _ (List.mem_of_getElem? (i := 21) rfl))) (Or.inl (hw _ (List.mem_of_getElem? (i := 75) rfl))) (by decide) (by decide) (by decide)))
    have F_m_aFirstSymbols_o := F_m_aFirstSymbols_o.other W54 (Or.inr (slot_ne (a0 := a0) (t := (.array .int)) (t' := .boolean) (Or.inr (hw _ (List.mem_of_getElem? (i := 23) rfl))) (Or.inl (hw _ (List.mem_of_getElem? (i := 75) rfl))) (by decide) (by decide) (by decide)))
    have F_m_nLongest_o := F_m_nLongest_o.other W54 (Or.inr (slot_ne (a0 := a0) (t := .int) (t' := .boolean) (Or.inl (hw _ (List.mem_of_getElem? (i := 73) rfl))) (Or.inl (hw _ (List.mem_of_getElem? (i := 75) rfl))) (by decide) (by decide) (by decide)))
    have F_m_nValues_o := F_m_nValues_o.other W54 (Or.inr (slot_ne (a0 := a0) (t := .int) (t' := .boolean) (Or.inl (hw _ (List.mem_of_getElem? (i := 64) rfl))) (Or.inl (hw _ (List.mem_of_getElem? (i := 75) rfl))) (by decide) (by decide) (by decide)))
    have F_m_bPacked_o := F_m_bPacked_o.same W54
    have A_sy := A_sy.other W54 (Ne.symm ne_o_sy)
    have A_co := A_co.other W54 (Ne.symm ne_o_co)
    have A_le := A_le.other W54 (Ne.symm ne_o_le)
    have A_lc := A_lc.other W54 (Ne.symm ne_o_lc)
    have A_fa := A_fa.other W54 (Ne.symm ne_o_fa)
    have A_fb := A_fb.other W54 (Ne.symm ne_o_fb)
    have A_a2 := A_a2.other W54 ne_a2_o
    have A_a4 := A_a4.other W54 ne_a4_o
    have Kp := Kp.wr W54 (Or.inl (List.mem_of_getElem? (i := 0) rfl))
    refine g_iconst C S (0 : Int32) dpl_51 (pc' := 52) rfl rfl ?_
    refine g_istore C S dpl_52 (pc' := 54) rfl (L' := #[.val (.ref o), .val (.ref a2), .val (.int (Int32.ofNat n)), .val (.ref a4), .val (.int (Int32.ofNat lg)), .val (.int (0 : Int32)), .unset, .unset, .unset, .unset]) rfl ?_
    have hpk : hPk lg = (1 : Int32) := if_neg (fun q => hc40 ((o32_gtl (K := 56) (by decide) (by omega)).mpr q))
    rw [← hpk] at F_m_bPacked_o
    exact LP n 0 _ _ _ _ (by omega) (Or.inl rfl) (Or.inl rfl) (Or.inl ⟨rfl, rfl⟩) _ _ S X_o F_m_aSymbols_o F_m_aCodes_o F_m_aLengths_o F_m_aLengthCounts_o F_m_aFirstCodes_o F_m_aFirstSymbols_o F_m_bPacked_o A_a4 A_sy A_co A_le A_fa A_fb Kp
theorem pd_4 : parseMethodDescriptor "([II)V" = some ⟨[(.array .int), .int], none⟩ := by decide +kernel
theorem pd_5 : parseMethodDescriptor "([II[I[I)I" = some ⟨[(.array .int), .int, (.array .int), (.array .int)], some .int⟩ := by decide +kernel
theorem pd_6 : parseMethodDescriptor "()V" = some ⟨[], none⟩ := by decide +kernel
theorem pd_7 : parseMethodDescriptor "([II[II)V" = some ⟨[(.array .int), .int, (.array .int), .int], none⟩ := by decide +kernel
theorem dfl_0 : decode prog_31_method_3_code 0 = .ok (.aload_n 0, 1) := by decide +kernel
theorem dfl_1 : decode prog_31_method_3_code 1 = .ok (.getfield 28, 3) := by decide +kernel
theorem dfl_4 : decode prog_31_method_3_code 4 = .ok (.iconst 0, 1) := by decide +kernel
theorem dfl_5 : decode prog_31_method_3_code 5 = .ok (.invokestatic 42, 3) := by decide +kernel
theorem dfl_8 : decode prog_31_method_3_code 8 = .ok (.aload_n 1, 1) := by decide +kernel
theorem dfl_9 : decode prog_31_method_3_code 9 = .ok (.iload_n 2, 1) := by decide +kernel
theorem dfl_10 : decode prog_31_method_3_code 10 = .ok (.aload_n 3, 1) := by decide +kernel
theorem dfl_11 : decode prog_31_method_3_code 11 = .ok (.aload_n 0, 1) := by decide +kernel
theorem dfl_12 : decode prog_31_method_3_code 12 = .ok (.getfield 28, 3) := by decide +kernel
theorem dfl_15 : decode prog_31_method_3_code 15 = .ok (.invokestatic 45, 3) := by decide +kernel
theorem dfl_18 : decode prog_31_method_3_code 18 = .ok (.istore 4, 2) := by decide +kernel
theorem dfl_20 : decode prog_31_method_3_code 20 = .ok (.aload_n 0, 1) := by decide +kernel
theorem dfl_21 : decode prog_31_method_3_code 21 = .ok (.invokevirtual 49, 3) := by decide +kernel
theorem dfl_24 : decode prog_31_method_3_code 24 = .ok (.aload_n 0, 1) := by decide +kernel
theorem dfl_25 : decode prog_31_method_3_code 25 = .ok (.aload_n 1, 1) := by decide +kernel
theorem dfl_26 : decode prog_31_method_3_code 26 = .ok (.iload_n 2, 1) := by decide +kernel
theorem dfl_27 : decode prog_31_method_3_code 27 = .ok (.aload_n 3, 1) := by decide +kernel
theorem dfl_28 : decode prog_31_method_3_code 28 = .ok (.iload 4, 2) := by decide +kernel
theorem dfl_30 : decode prog_31_method_3_code 30 = .ok (.invokevirtual 52, 3) := by decide +kernel
theorem dfl_33 : decode prog_31_method_3_code 33 = .ok (.return_, 1) := by decide +kernel
set_option maxRecDepth 65536 in
set_option maxHeartbeats 40000000 in
theorem c_fil (l' : Launch) (Z : State) (a0 : Array Value) (hw : ∀ d ∈ tables_1, d.before a0 Z = true) (o : Addr) (a2 : Addr) (a4 : Addr) (h0 : Heap) (n0 : Nat) (l V : Nat → Nat) (n N1 N3 : Nat) (fv fl : Nat → Value) (hg : hGood l n = true) (hN1 : n ≤ N1) (hN3 : N3 ≤ 256) (hV : ∀ i, i < n → V i < N3) (hA : ∀ i, i + 1 < n → V i < V (i + 1)) (hfv : ∀ i, i < n → fv i = .int (Int32.ofNat (V i))) (hfl : ∀ i, i < n → fl (V i) = .int (Int32.ofNat (l i))) (sy co le lc fa fb : Addr) (f6 f7 f8 f9 : Nat → Value) (u1 u3 : Value) (g_o : n0 ≤ o) (g_sy : n0 ≤ sy) (g_co : n0 ≤ co) (g_le : n0 ≤ le) (g_lc : n0 ≤ lc) (g_fa : n0 ≤ fa) (g_fb : n0 ≤ fb) (hD : [a2, a4, o, sy, co, le, lc, fa, fb].Nodup) (X_o : Exa Z h0 o "leafpress/HuffmanCode") (F_m_aSymbols_o : Fld Z h0 o "leafpress/HuffmanCode" "m_aSymbols" "[I" (.ref sy)) (F_m_aCodes_o : Fld Z h0 o "leafpress/HuffmanCode" "m_aCodes" "[J" (.ref co)) (F_m_aLengths_o : Fld Z h0 o "leafpress/HuffmanCode" "m_aLengths" "[B" (.ref le)) (F_m_aLengthCounts_o : Fld Z h0 o "leafpress/HuffmanCode" "m_aLengthCounts" "[I" (.ref lc)) (F_m_aFirstCodes_o : Fld Z h0 o "leafpress/HuffmanCode" "m_aFirstCodes" "[J" (.ref fa)) (F_m_aFirstSymbols_o : Fld Z h0 o "leafpress/HuffmanCode" "m_aFirstSymbols" "[I" (.ref fb)) (F_m_nLongest_o : Fld Z h0 o "leafpress/HuffmanCode" "m_nLongest" "I" u1) (F_m_nValues_o : Fld Z h0 o "leafpress/HuffmanCode" "m_nValues" "I" (.int (0 : Int32))) (F_m_bPacked_o : Fld Z h0 o "leafpress/HuffmanCode" "m_bPacked" "Z" u3) (A_a2 : Ary Z h0 a2 .int N1 fv) (A_a4 : Ary Z h0 a4 .int N3 fl) (A_lc : Ary Z h0 lc .int 64 f9) (A_fa : Ary Z h0 fa .long 64 f6) (A_fb : Ary Z h0 fb .int 64 f7) (A_sy : Ary Z h0 sy .int 256 f8) (A_co : Ary Z h0 co .long 256 (fun _ => .long 0)) (A_le : Ary Z h0 le .byte 264 (fun q => if 256 ≤ q then .int (-1) else .int 0)) :
    Con l' Z (⟨"leafpress/HuffmanCode", "fill", "([II[I)V"⟩ : MethodName) prog_31_method_3_code 5 none ({ frames := 2, cells := 0, slots := 0, locals := 43 } : Room) #[(.ref o), (.ref a2), (.int (Int32.ofNat n)), (.ref a4)] h0 n0 (fun v h => v = none ∧ Keep h0 h [o, sy, co, le, lc, fa, fb] ∧ Exa Z h o "leafpress/HuffmanCode" ∧ Fld Z h o "leafpress/HuffmanCode" "m_aCodes" "[J" (.ref co) ∧ Fld Z h o "leafpress/HuffmanCode" "m_aLengths" "[B" (.ref le) ∧ Fld Z h o "leafpress/HuffmanCode" "m_bPacked" "Z" (.int (hPk (hLng l n))) ∧ Ary Z h co .long 256 (fun x => .long (hCo l V n (hPk (hLng l n)) n x)) ∧ Ary Z h le .byte 264 (hLb l V n n)) := by
  refine Con.of (plainFor_of_name (by first | (simp [plainName, overriddenIn]; done) | decide +kernel)) (L0 := #[.val (.ref o), .val (.ref a2), .val (.int (Int32.ofNat n)), .val (.ref a4), .unset]) (fun m => by first | (simp [entryFrame, mkF, argsToLocals, Value.category]; done) | rfl) ?_
  intro p e s m below meth c T C S
  have Kp := Keep.refl h0 [o, sy, co, le, lc, fa, fb]
  have ne_a2_a4 : a2 ≠ a4 := nd hD 0 1 (show (0 : Nat) < 1 by decide) (show (1 : Nat) < 9 by decide)
  have ne_a2_o : a2 ≠ o := nd hD 0 2 (show (0 : Nat) < 2 by decide) (show (2 : Nat) < 9 by decide)
  have ne_a2_sy : a2 ≠ sy := nd hD 0 3 (show (0 : Nat) < 3 by decide) (show (3 : Nat) < 9 by decide)
  have ne_a2_co : a2 ≠ co := nd hD 0 4 (show (0 : Nat) < 4 by decide) (show (4 : Nat) < 9 by decide)
  have ne_a2_le : a2 ≠ le := nd hD 0 5 (show (0 : Nat) < 5 by decide) (show (5 : Nat) < 9 by decide)
  have ne_a2_lc : a2 ≠ lc := nd hD 0 6 (show (0 : Nat) < 6 by decide) (show (6 : Nat) < 9 by decide)
  have ne_a2_fa : a2 ≠ fa := nd hD 0 7 (show (0 : Nat) < 7 by decide) (show (7 : Nat) < 9 by decide)
  have ne_a2_fb : a2 ≠ fb := nd hD 0 8 (show (0 : Nat) < 8 by decide) (show (8 : Nat) < 9 by decide)
  have ne_a4_o : a4 ≠ o := nd hD 1 2 (show (1 : Nat) < 2 by decide) (show (2 : Nat) < 9 by decide)
  have ne_a4_sy : a4 ≠ sy := nd hD 1 3 (show (1 : Nat) < 3 by decide) (show (3 : Nat) < 9 by decide)
  have ne_a4_co : a4 ≠ co := nd hD 1 4 (show (1 : Nat) < 4 by decide) (show (4 : Nat) < 9 by decide)
  have ne_a4_le : a4 ≠ le := nd hD 1 5 (show (1 : Nat) < 5 by decide) (show (5 : Nat) < 9 by decide)
  have ne_a4_lc : a4 ≠ lc := nd hD 1 6 (show (1 : Nat) < 6 by decide) (show (6 : Nat) < 9 by decide)
  have ne_a4_fa : a4 ≠ fa := nd hD 1 7 (show (1 : Nat) < 7 by decide) (show (7 : Nat) < 9 by decide)
  have ne_a4_fb : a4 ≠ fb := nd hD 1 8 (show (1 : Nat) < 8 by decide) (show (8 : Nat) < 9 by decide)
  have ne_o_sy : o ≠ sy := nd hD 2 3 (show (2 : Nat) < 3 by decide) (show (3 : Nat) < 9 by decide)
  have ne_o_co : o ≠ co := nd hD 2 4 (show (2 : Nat) < 4 by decide) (show (4 : Nat) < 9 by decide)
  have ne_o_le : o ≠ le := nd hD 2 5 (show (2 : Nat) < 5 by decide) (show (5 : Nat) < 9 by decide)
  have ne_o_lc : o ≠ lc := nd hD 2 6 (show (2 : Nat) < 6 by decide) (show (6 : Nat) < 9 by decide)
  have ne_o_fa : o ≠ fa := nd hD 2 7 (show (2 : Nat) < 7 by decide) (show (7 : Nat) < 9 by decide)
  have ne_o_fb : o ≠ fb := nd hD 2 8 (show (2 : Nat) < 8 by decide) (show (8 : Nat) < 9 by decide)
  have ne_sy_co : sy ≠ co := nd hD 3 4 (show (3 : Nat) < 4 by decide) (show (4 : Nat) < 9 by decide)
  have ne_sy_le : sy ≠ le := nd hD 3 5 (show (3 : Nat) < 5 by decide) (show (5 : Nat) < 9 by decide)
  have ne_sy_lc : sy ≠ lc := nd hD 3 6 (show (3 : Nat) < 6 by decide) (show (6 : Nat) < 9 by decide)
  have ne_sy_fa : sy ≠ fa := nd hD 3 7 (show (3 : Nat) < 7 by decide) (show (7 : Nat) < 9 by decide)
  have ne_sy_fb : sy ≠ fb := nd hD 3 8 (show (3 : Nat) < 8 by decide) (show (8 : Nat) < 9 by decide)
  have ne_co_le : co ≠ le := nd hD 4 5 (show (4 : Nat) < 5 by decide) (show (5 : Nat) < 9 by decide)
  have ne_co_lc : co ≠ lc := nd hD 4 6 (show (4 : Nat) < 6 by decide) (show (6 : Nat) < 9 by decide)
  have ne_co_fa : co ≠ fa := nd hD 4 7 (show (4 : Nat) < 7 by decide) (show (7 : Nat) < 9 by decide)
  have ne_co_fb : co ≠ fb := nd hD 4 8 (show (4 : Nat) < 8 by decide) (show (8 : Nat) < 9 by decide)
  have ne_le_lc : le ≠ lc := nd hD 5 6 (show (5 : Nat) < 6 by decide) (show (6 : Nat) < 9 by decide)
  have ne_le_fa : le ≠ fa := nd hD 5 7 (show (5 : Nat) < 7 by decide) (show (7 : Nat) < 9 by decide)
  have ne_le_fb : le ≠ fb := nd hD 5 8 (show (5 : Nat) < 8 by decide) (show (8 : Nat) < 9 by decide)
  have ne_lc_fa : lc ≠ fa := nd hD 6 7 (show (6 : Nat) < 7 by decide) (show (7 : Nat) < 9 by decide)
  have ne_lc_fb : lc ≠ fb := nd hD 6 8 (show (6 : Nat) < 8 by decide) (show (8 : Nat) < 9 by decide)
  have ne_fa_fb : fa ≠ fb := nd hD 7 8 (show (7 : Nat) < 8 by decide) (show (8 : Nat) < 9 by decide)
  refine g_aloadN C S dfl_0 (pc' := 1) rfl rfl rfl ?_
  refine g_getF C S dfl_1 (host := "") (Or.inl (hw _ (List.mem_of_getElem? (i := 18) rfl))) Via.refl F_m_aLengthCounts_o (pc' := 4) rfl (fun T55 S => ?_)
  refine g_iconst C S (0 : Int32) dfl_4 (pc' := 5) rfl rfl ?_
  refine g_callS C S (rm := ({ frames := 0, cells := 0, slots := 0, locals := 0 } : Room)) (W := 0) dfl_5 (hw _ (List.mem_of_getElem? (i := 46) rfl)) (hw _ (List.mem_of_getElem? (i := 47) rfl)) (hw _ (List.mem_of_getElem? (i := 26) rfl)) (hw _ (List.mem_of_getElem? (i := 48) rfl)) (by decide) (c_fillI l' Z a0 hw lc (0 : Int32) h0 n0 64 f9 (by decide) g_lc A_lc) (argsL := [(.ref lc), (.int (0 : Int32))]) (r := []) rfl (lenOf pd_4 rfl) rfl (Nat.le_of_eq rfl) (by decide) (by decide) (by decide) (by decide) (pc' := 8) rfl (fun T56 h56 v56 q56 S => ?_)
  obtain ⟨rfl, K56, B_lc⟩ := q56
  have Kp := Kp.trans K56 (allS (Or.inl (List.mem_of_getElem? (i := 4) rfl)) all0)
  have X_o := X_o.keep K56
  have F_m_aSymbols_o := F_m_aSymbols_o.keep K56 (ninS ne_o_lc nin0)
  have F_m_aCodes_o := F_m_aCodes_o.keep K56 (ninS ne_o_lc nin0)
  have F_m_aLengths_o := F_m_aLengths_o.keep K56 (ninS ne_o_lc nin0)
  have F_m_aLengthCounts_o := F_m_aLengthCounts_o.keep K56 (ninS ne_o_lc nin0)
  have F_m_aFirstCodes_o := F_m_aFirstCodes_o.keep K56 (ninS ne_o_lc nin0)
  have F_m_aFirstSymbols_o := F_m_aFirstSymbols_o.keep K56 (ninS ne_o_lc nin0)
  have F_m_nLongest_o := F_m_nLongest_o.keep K56 (ninS ne_o_lc nin0)
  have F_m_nValues_o := F_m_nValues_o.keep K56 (ninS ne_o_lc nin0)
  have F_m_bPacked_o := F_m_bPacked_o.keep K56 (ninS ne_o_lc nin0)
  have A_sy := A_sy.keep K56 (ninS ne_sy_lc nin0)
  have A_co := A_co.keep K56 (ninS ne_co_lc nin0)
  have A_le := A_le.keep K56 (ninS ne_le_lc nin0)
  have A_fa := A_fa.keep K56 (ninS (Ne.symm ne_lc_fa) nin0)
  have A_fb := A_fb.keep K56 (ninS (Ne.symm ne_lc_fb) nin0)
  have A_a2 := A_a2.keep K56 (ninS ne_a2_lc nin0)
  have A_a4 := A_a4.keep K56 (ninS ne_a4_lc nin0)
  have A_lc := B_lc
  show Gl p e below s _ n0 _ T56 (mkF m 8 #[.val (.ref o), .val (.ref a2), .val (.int (Int32.ofNat n)), .val (.ref a4), .unset] [])
  refine g_aloadN C S dfl_8 (pc' := 9) rfl rfl rfl ?_
  refine g_iloadN C S dfl_9 (pc' := 10) rfl rfl ?_
  refine g_aloadN C S dfl_10 (pc' := 11) rfl rfl rfl ?_
  refine g_aloadN C S dfl_11 (pc' := 12) rfl rfl rfl ?_
  refine g_getF C S dfl_12 (host := "") (Or.inl (hw _ (List.mem_of_getElem? (i := 18) rfl))) Via.refl F_m_aLengthCounts_o (pc' := 15) rfl (fun T57 S => ?_)
  refine g_callS C S (rm := ({ frames := 1, cells := 0, slots := 0, locals := 18 } : Room)) (W := 0) dfl_15 (hw _ (List.mem_of_getElem? (i := 49) rfl)) (hw _ (List.mem_of_getElem? (i := 50) rfl)) (hw _ (List.mem_of_getElem? (i := 2) rfl)) (hw _ (List.mem_of_getElem? (i := 51) rfl)) (by decide) (c_cnt l' Z a0 hw a2 a4 lc h56 n0 l V n N1 N3 fv fl hg hN1 hN3 hV hA hfv hfl g_lc ne_a2_lc ne_a4_lc A_a2 A_a4 A_lc) (argsL := [(.ref a2), (.int (Int32.ofNat n)), (.ref a4), (.ref lc)]) (r := []) rfl (lenOf pd_5 rfl) rfl (Nat.le_of_eq rfl) (by decide) (by decide) (by decide) (by decide) (pc' := 18) rfl (fun T58 h58 v58 q58 S => ?_)
  obtain ⟨rfl, K58, B_lc⟩ := q58
  have Kp := Kp.trans K58 (allS (Or.inl (List.mem_of_getElem? (i := 4) rfl)) all0)
  have X_o := X_o.keep K58
  have F_m_aSymbols_o := F_m_aSymbols_o.keep K58 (ninS ne_o_lc nin0)
  have F_m_aCodes_o := F_m_aCodes_o.keep K58 (ninS ne_o_lc nin0)
  have F_m_aLengths_o := F_m_aLengths_o.keep K58 (ninS ne_o_lc nin0)
  have F_m_aLengthCounts_o := F_m_aLengthCounts_o.keep K58 (ninS ne_o_lc nin0)
  have F_m_aFirstCodes_o := F_m_aFirstCodes_o.keep K58 (ninS ne_o_lc nin0)
  have F_m_aFirstSymbols_o := F_m_aFirstSymbols_o.keep K58 (ninS ne_o_lc nin0)
  have F_m_nLongest_o := F_m_nLongest_o.keep K58 (ninS ne_o_lc nin0)
  have F_m_nValues_o := F_m_nValues_o.keep K58 (ninS ne_o_lc nin0)
  have F_m_bPacked_o := F_m_bPacked_o.keep K58 (ninS ne_o_lc nin0)
  have A_sy := A_sy.keep K58 (ninS ne_sy_lc nin0)
  have A_co := A_co.keep K58 (ninS ne_co_lc nin0)
  have A_le := A_le.keep K58 (ninS ne_le_lc nin0)
  have A_fa := A_fa.keep K58 (ninS (Ne.symm ne_lc_fa) nin0)
  have A_fb := A_fb.keep K58 (ninS (Ne.symm ne_lc_fb) nin0)
  have A_a2 := A_a2.keep K58 (ninS ne_a2_lc nin0)
  have A_a4 := A_a4.keep K58 (ninS ne_a4_lc nin0)
  have A_lc := B_lc
  show Gl p e below s _ n0 _ T58 (mkF m 18 #[.val (.ref o), .val (.ref a2), .val (.int (Int32.ofNat n)), .val (.ref a4), .unset] [(.int (Int32.ofNat (hLng l n)))])
  refine g_istore C S dfl_18 (pc' := 20) rfl (L' := #[.val (.ref o), .val (.ref a2), .val (.int (Int32.ofNat n)), .val (.ref a4), .val (.int (Int32.ofNat (hLng l n)))]) rfl ?_
  refine g_aloadN C S dfl_20 (pc' := 21) rfl rfl rfl ?_
  refine g_callP C S (rm := ({ frames := 0, cells := 0, slots := 0, locals := 0 } : Room)) (W := 0) dfl_21 (hw _ (List.mem_of_getElem? (i := 59) rfl)) (hw _ (List.mem_of_getElem? (i := 60) rfl)) (hw _ (List.mem_of_getElem? (i := 61) rfl)) (hw _ (List.mem_of_getElem? (i := 1) rfl)) (hw _ (List.mem_of_getElem? (i := 2) rfl)) (hw _ (List.mem_of_getElem? (i := 62) rfl)) (by decide) X_o (c_fgt l' Z a0 hw o h58 n0 F_m_nValues_o) (argsL := []) (r := []) rfl (lenOf pd_6 rfl) rfl (Nat.le_of_eq rfl) (by decide) (by decide) (by decide) (by decide) (pc' := 24) rfl (fun T59 h59 v59 q59 S => ?_)
  obtain ⟨rfl, e59⟩ := q59; rw [e59] at S
  show Gl p e below s _ n0 _ T59 (mkF m 24 #[.val (.ref o), .val (.ref a2), .val (.int (Int32.ofNat n)), .val (.ref a4), .val (.int (Int32.ofNat (hLng l n)))] [])
  refine g_aloadN C S dfl_24 (pc' := 25) rfl rfl rfl ?_
  refine g_aloadN C S dfl_25 (pc' := 26) rfl rfl rfl ?_
  refine g_iloadN C S dfl_26 (pc' := 27) rfl rfl ?_
  refine g_aloadN C S dfl_27 (pc' := 28) rfl rfl rfl ?_
  refine g_iload C S dfl_28 (pc' := 30) rfl rfl ?_
  refine g_callP C S (rm := ({ frames := 1, cells := 0, slots := 0, locals := 22 } : Room)) (W := 0) dfl_30 (hw _ (List.mem_of_getElem? (i := 65) rfl)) (hw _ (List.mem_of_getElem? (i := 66) rfl)) (hw _ (List.mem_of_getElem? (i := 67) rfl)) (hw _ (List.mem_of_getElem? (i := 1) rfl)) (hw _ (List.mem_of_getElem? (i := 2) rfl)) (hw _ (List.mem_of_getElem? (i := 68) rfl)) (by decide) X_o (c_plc l' Z a0 hw o a2 a4 h58 n0 l V n N1 N3 fv fl hg hN1 hN3 hV hA hfv hfl sy co le lc fa fb (hLng l n) rfl f6 f7 f8 _ _ _ g_o g_sy g_co g_le g_lc g_fa g_fb hD X_o F_m_aSymbols_o F_m_aCodes_o F_m_aLengths_o F_m_aLengthCounts_o F_m_aFirstCodes_o F_m_aFirstSymbols_o F_m_nLongest_o F_m_nValues_o F_m_bPacked_o A_a2 A_a4 A_lc A_fa A_fb A_sy A_co A_le) (argsL := [(.ref a2), (.int (Int32.ofNat n)), (.ref a4), (.int (Int32.ofNat (hLng l n)))]) (r := []) rfl (lenOf pd_7 rfl) rfl (Nat.le_of_eq rfl) (by decide) (by decide) (by decide) (by decide) (pc' := 33) rfl (fun T60 h60 v60 q60 S => ?_)
  obtain ⟨rfl, K60, Y_o, G_m_aCodes_o, G_m_aLengths_o, G_m_bPacked_o, B_co, B_le⟩ := q60
  have Kp := Kp.trans K60 (allS (Or.inl (List.mem_of_getElem? (i := 0) rfl)) (allS (Or.inl (List.mem_of_getElem? (i := 1) rfl)) (allS (Or.inl (List.mem_of_getElem? (i := 2) rfl)) (allS (Or.inl (List.mem_of_getElem? (i := 3) rfl)) (allS (Or.inl (List.mem_of_getElem? (i := 5) rfl)) (allS (Or.inl (List.mem_of_getElem? (i := 6) rfl)) all0))))))
  show Gl p e below s _ n0 _ T60 (mkF m 33 #[.val (.ref o), .val (.ref a2), .val (.int (Int32.ofNat n)), .val (.ref a4), .val (.int (Int32.ofNat (hLng l n)))] [])
  exact g_return C S dfl_33 (by decide) (by decide) (⟨rfl, Kp, Y_o, G_m_aCodes_o, G_m_aLengths_o, G_m_bPacked_o, B_co, B_le⟩)
theorem pd_8 : parseMethodDescriptor "([BIIB)V" = some ⟨[(.array .byte), .int, .int, .byte], none⟩ := by decide +kernel
theorem din_0 : decode prog_31_method_2_code 0 = .ok (.aload_n 0, 1) := by decide +kernel
theorem din_1 : decode prog_31_method_2_code 1 = .ok (.invokespecial 11, 3) := by decide +kernel
theorem din_4 : decode prog_31_method_2_code 4 = .ok (.aload_n 0, 1) := by decide +kernel
theorem din_5 : decode prog_31_method_2_code 5 = .ok (.sipush 256, 3) := by decide +kernel
theorem din_8 : decode prog_31_method_2_code 8 = .ok (.newarray .int, 2) := by decide +kernel
theorem din_10 : decode prog_31_method_2_code 10 = .ok (.putfield 14, 3) := by decide +kernel
theorem din_13 : decode prog_31_method_2_code 13 = .ok (.aload_n 0, 1) := by decide +kernel
theorem din_14 : decode prog_31_method_2_code 14 = .ok (.sipush 256, 3) := by decide +kernel
theorem din_17 : decode prog_31_method_2_code 17 = .ok (.newarray .long, 2) := by decide +kernel
theorem din_19 : decode prog_31_method_2_code 19 = .ok (.putfield 18, 3) := by decide +kernel
theorem din_22 : decode prog_31_method_2_code 22 = .ok (.aload_n 0, 1) := by decide +kernel
theorem din_23 : decode prog_31_method_2_code 23 = .ok (.sipush 264, 3) := by decide +kernel
theorem din_26 : decode prog_31_method_2_code 26 = .ok (.newarray .byte, 2) := by decide +kernel
theorem din_28 : decode prog_31_method_2_code 28 = .ok (.putfield 24, 3) := by decide +kernel
theorem din_31 : decode prog_31_method_2_code 31 = .ok (.aload_n 0, 1) := by decide +kernel
theorem din_32 : decode prog_31_method_2_code 32 = .ok (.bipush 64, 2) := by decide +kernel
theorem din_34 : decode prog_31_method_2_code 34 = .ok (.newarray .int, 2) := by decide +kernel
theorem din_36 : decode prog_31_method_2_code 36 = .ok (.putfield 28, 3) := by decide +kernel
theorem din_39 : decode prog_31_method_2_code 39 = .ok (.aload_n 0, 1) := by decide +kernel
theorem din_40 : decode prog_31_method_2_code 40 = .ok (.bipush 64, 2) := by decide +kernel
theorem din_42 : decode prog_31_method_2_code 42 = .ok (.newarray .long, 2) := by decide +kernel
theorem din_44 : decode prog_31_method_2_code 44 = .ok (.putfield 31, 3) := by decide +kernel
theorem din_47 : decode prog_31_method_2_code 47 = .ok (.aload_n 0, 1) := by decide +kernel
theorem din_48 : decode prog_31_method_2_code 48 = .ok (.bipush 64, 2) := by decide +kernel
theorem din_50 : decode prog_31_method_2_code 50 = .ok (.newarray .int, 2) := by decide +kernel
theorem din_52 : decode prog_31_method_2_code 52 = .ok (.putfield 34, 3) := by decide +kernel
theorem din_55 : decode prog_31_method_2_code 55 = .ok (.aload_n 0, 1) := by decide +kernel
theorem din_56 : decode prog_31_method_2_code 56 = .ok (.getfield 24, 3) := by decide +kernel
theorem din_59 : decode prog_31_method_2_code 59 = .ok (.sipush 256, 3) := by decide +kernel
theorem din_62 : decode prog_31_method_2_code 62 = .ok (.aload_n 0, 1) := by decide +kernel
theorem din_63 : decode prog_31_method_2_code 63 = .ok (.getfield 24, 3) := by decide +kernel
theorem din_66 : decode prog_31_method_2_code 66 = .ok (.arraylength, 1) := by decide +kernel
theorem din_67 : decode prog_31_method_2_code 67 = .ok (.iconst (-1), 1) := by decide +kernel
theorem din_68 : decode prog_31_method_2_code 68 = .ok (.invokestatic 37, 3) := by decide +kernel
theorem din_71 : decode prog_31_method_2_code 71 = .ok (.return_, 1) := by decide +kernel
set_option maxRecDepth 65536 in
set_option maxHeartbeats 40000000 in
theorem c_ini (l' : Launch) (Z : State) (a0 : Array Value) (hw : ∀ d ∈ tables_1, d.before a0 Z = true) (o : Addr) (h0 : Heap) (n0 : Nat) (Zn : n0 ≤ h0.size) (g_o : n0 ≤ o) (X_o : Exa Z h0 o "leafpress/HuffmanCode") (F_m_aSymbols_o : Fld Z h0 o "leafpress/HuffmanCode" "m_aSymbols" "[I" .null) (F_m_aCodes_o : Fld Z h0 o "leafpress/HuffmanCode" "m_aCodes" "[J" .null) (F_m_aLengths_o : Fld Z h0 o "leafpress/HuffmanCode" "m_aLengths" "[B" .null) (F_m_aLengthCounts_o : Fld Z h0 o "leafpress/HuffmanCode" "m_aLengthCounts" "[I" .null) (F_m_aFirstCodes_o : Fld Z h0 o "leafpress/HuffmanCode" "m_aFirstCodes" "[J" .null) (F_m_aFirstSymbols_o : Fld Z h0 o "leafpress/HuffmanCode" "m_aFirstSymbols" "[I" .null) (F_m_nLongest_o : Fld Z h0 o "leafpress/HuffmanCode" "m_nLongest" "I" (.int (0 : Int32))) (F_m_nValues_o : Fld Z h0 o "leafpress/HuffmanCode" "m_nValues" "I" (.int (0 : Int32))) (F_m_bPacked_o : Fld Z h0 o "leafpress/HuffmanCode" "m_bPacked" "Z" (.int (0 : Int32))) :
    Con l' Z (⟨"leafpress/HuffmanCode", "<init>", "()V"⟩ : MethodName) prog_31_method_2_code 1 none ({ frames := 2, cells := 6, slots := 968, locals := 30 } : Room) #[(.ref o)] h0 n0 (fun v h => ∃ sy co le lc fa fb : Addr, v = none ∧ Keep h0 h [o] ∧ Exa Z h o "leafpress/HuffmanCode" ∧ Fld Z h o "leafpress/HuffmanCode" "m_aSymbols" "[I" (.ref sy) ∧ Fld Z h o "leafpress/HuffmanCode" "m_aCodes" "[J" (.ref co) ∧ Fld Z h o "leafpress/HuffmanCode" "m_aLengths" "[B" (.ref le) ∧ Fld Z h o "leafpress/HuffmanCode" "m_aLengthCounts" "[I" (.ref lc) ∧ Fld Z h o "leafpress/HuffmanCode" "m_aFirstCodes" "[J" (.ref fa) ∧ Fld Z h o "leafpress/HuffmanCode" "m_aFirstSymbols" "[I" (.ref fb) ∧ Fld Z h o "leafpress/HuffmanCode" "m_nLongest" "I" (.int (0 : Int32)) ∧ Fld Z h o "leafpress/HuffmanCode" "m_nValues" "I" (.int (0 : Int32)) ∧ Fld Z h o "leafpress/HuffmanCode" "m_bPacked" "Z" (.int (0 : Int32)) ∧ Ary Z h sy .int 256 (fun _ => .int 0) ∧ Ary Z h co .long 256 (fun _ => .long 0) ∧ Ary Z h le .byte 264 (fun q => if 256 ≤ q then .int (-1) else .int 0) ∧ Ary Z h lc .int 64 (fun _ => .int 0) ∧ Ary Z h fa .long 64 (fun _ => .long 0) ∧ Ary Z h fb .int 64 (fun _ => .int 0) ∧ h0.size ≤ sy ∧ sy < co ∧ co < le ∧ le < lc ∧ lc < fa ∧ fa < fb ∧ fb < h.size ∧ n0 ≤ sy ∧ n0 ≤ co ∧ n0 ≤ le ∧ n0 ≤ lc ∧ n0 ≤ fa ∧ n0 ≤ fb) := by
  refine Con.of (plainFor_of_name (by first | (simp [plainName, overriddenIn]; done) | decide +kernel)) (L0 := #[.val (.ref o)]) (fun m => by first | (simp [entryFrame, mkF, argsToLocals, Value.category]; done) | rfl) ?_
  intro p e s m below meth c T C S
  have Kp := Keep.refl h0 [o]
  refine g_aloadN C S din_0 (pc' := 1) rfl rfl rfl ?_
  refine g_initO C S (W := 0) din_1 (hw _ (List.mem_of_getElem? (i := 6) rfl)) (hw _ (List.mem_of_getElem? (i := 7) rfl)) (hw _ (List.mem_of_getElem? (i := 8) rfl)) rfl (by decide) (Nat.le_of_eq rfl) (by decide) (pc' := 4) rfl (fun T61 S => ?_)
  refine g_aloadN C S din_4 (pc' := 5) rfl rfl rfl ?_
  refine g_sipush C S (256 : Int32) din_5 (pc' := 8) rfl rfl ?_
  refine g_newarray C S (N := 256) (cap := 256) din_8 (hw _ (List.mem_of_getElem? (i := 9) rfl)) (by decide) (by decide) (by decide) (by decide) (by decide) (pc' := 10) rfl (fun T62 h62 a62 S g62 E62 A_a62 => ?_)
  have ne_o_a62 : o ≠ a62 := ne_new g62 X_o.lt
  have sz_a62 : h0.size ≤ a62 := ge_of g62 Kp.1
  have ge_a62 : n0 ≤ a62 := ge_of g62 Zn
  have Kp := Kp.ext E62
  have X_o := X_o.ext E62
  have Zn := Nat.le_trans Zn E62.1
  have F_m_aSymbols_o := F_m_aSymbols_o.ext E62
  have F_m_aCodes_o := F_m_aCodes_o.ext E62
  have F_m_aLengths_o := F_m_aLengths_o.ext E62
  have F_m_aLengthCounts_o := F_m_aLengthCounts_o.ext E62
  have F_m_aFirstCodes_o := F_m_aFirstCodes_o.ext E62
  have F_m_aFirstSymbols_o := F_m_aFirstSymbols_o.ext E62
  have F_m_nLongest_o := F_m_nLongest_o.ext E62
  have F_m_nValues_o := F_m_nValues_o.ext E62
  have F_m_bPacked_o := F_m_bPacked_o.ext E62
  have A_a62 : Ary Z h62 a62 .int 256 (fun _ => (.int (0 : Int32))) := A_a62
  refine g_putF C S din_10 (host := "") (Or.inl (hw _ (List.mem_of_getElem? (i := 10) rfl))) Via.refl F_m_aSymbols_o X_o (Or.inr ⟨(hw _ (List.mem_of_getElem? (i := 11) rfl)), rfl, rfl⟩) (hw _ (List.mem_of_getElem? (i := 1) rfl)) (ty := (.array .int)) (by decide) rfl rfl g_o (pc' := 13) rfl (fun T63 h63 S W63 => ?_)
  have X_o := X_o.wr W63
  have Zn := Nat.le_trans Zn (Nat.le_of_eq W63.size.symm)
  have F_m_aSymbols_o := F_m_aSymbols_o.same W63
  have F_m_aCodes_o := F_m_aCodes_o.other W63 (Or.inr (slot_ne (a0 := a0) (t := (.array .long)) (t' := (.array .int)) (Or.inr (hw _ (List.mem_of_getElem? (i := 14) rfl))) (Or.inr (hw _ (List.mem_of_getElem? (i := 11) rfl))) (by decide) (by decide) (by decide)))
  have F_m_aLengths_o := F_m_aLengths_o.other W63 (Or.inr (slot_ne (a0 := a0) (t := (.array .byte)) (t' := (.array .int)) (Or.inr (hw _ (List.mem_of_getElem? (i := 17) rfl))) (Or.inr (hw _ (List.mem_of_getElem? (i := 11) rfl))) (by decide) (by decide) (by decide)))
  have F_m_aLengthCounts_o := F_m_aLengthCounts_o.other W63 (Or.inr (slot_ne (a0 := a0) (t := (.array .int)) (t' := (.array .int)) (Or.inr (hw _ (List.mem_of_getElem? (i := 19) rfl))) (Or.inr (hw _ (List.mem_of_getElem? (i := 11) rfl))) (by decide) (by decide) (by decide)))
  have F_m_aFirstCodes_o := F_m_aFirstCodes_o.other W63 (Or.inr (slot_ne (a0 := a0) (t := (.array .long)) (t' := (.array .int)) (Or.inr (hw _ (List.mem_of_getElem? (i := 21) rfl))) (Or.inr (hw _ (List.mem_of_getElem? (i := 11) rfl))) (by decide) (by decide) (by decide)))
  have F_m_aFirstSymbols_o := F_m_aFirstSymbols_o.other W63 (Or.inr (slot_ne (a0 := a0) (t := (.array .int)) (t' := (.array .int)) (Or.inr (hw _ (List.mem_of_getElem? (i := 23) rfl))) (Or.inr (hw _ (List.mem_of_getElem? (i := 11) rfl))) (by decide) (by decide) (by decide)))
  have F_m_nLongest_o := F_m_nLongest_o.other W63 (Or.inr (slot_ne (a0 := a0) (t := .int) (t' := (.array .int)) (Or.inl (hw _ (List.mem_of_getElem? (i := 73) rfl))) (Or.inr (hw _ (List.mem_of_getElem? (i := 11) rfl))) (by decide) (by decide) (by decide)))
  have F_m_nValues_o := F_m_nValues_o.other W63 (Or.inr (slot_ne (a0 := a0) (t := .int) (t' := (.array .int)) (Or.inl (hw _ (List.mem_of_getElem? (i := 64) rfl))) (Or.inr (hw _ (List.mem_of_getElem? (i := 11) rfl))) (by decide) (by decide) (by decide)))
  have F_m_bPacked_o := F_m_bPacked_o.other W63 (Or.inr (slot_ne (a0 := a0) (t := .boolean) (t' := (.array .int)) (Or.inl (hw _ (List.mem_of_getElem? (i := 75) rfl))) (Or.inr (hw _ (List.mem_of_getElem? (i := 11) rfl))) (by decide) (by decide) (by decide)))
  have A_a62 := A_a62.other W63 (Ne.symm ne_o_a62)
  have Kp := Kp.wr W63 (Or.inl (List.mem_of_getElem? (i := 0) rfl))
  refine g_aloadN C S din_13 (pc' := 14) rfl rfl rfl ?_
  refine g_sipush C S (256 : Int32) din_14 (pc' := 17) rfl rfl ?_
  refine g_newarray C S (N := 256) (cap := 256) din_17 (hw _ (List.mem_of_getElem? (i := 12) rfl)) (by decide) (by decide) (by decide) (by decide) (by decide) (pc' := 19) rfl (fun T64 h64 a64 S g64 E64 A_a64 => ?_)
  have ne_o_a64 : o ≠ a64 := ne_new g64 X_o.lt
  have ne_a62_a64 : a62 ≠ a64 := ne_new g64 A_a62.lt
  have sz_a64 : h0.size ≤ a64 := ge_of g64 Kp.1
  have lt_a62_a64 : a62 < a64 := Nat.lt_of_lt_of_le A_a62.lt (Nat.le_of_eq g64.symm)
  have ge_a64 : n0 ≤ a64 := ge_of g64 Zn
  have Kp := Kp.ext E64
  have X_o := X_o.ext E64
  have Zn := Nat.le_trans Zn E64.1
  have F_m_aSymbols_o := F_m_aSymbols_o.ext E64
  have F_m_aCodes_o := F_m_aCodes_o.ext E64
  have F_m_aLengths_o := F_m_aLengths_o.ext E64
  have F_m_aLengthCounts_o := F_m_aLengthCounts_o.ext E64
  have F_m_aFirstCodes_o := F_m_aFirstCodes_o.ext E64
  have F_m_aFirstSymbols_o := F_m_aFirstSymbols_o.ext E64
  have F_m_nLongest_o := F_m_nLongest_o.ext E64
  have F_m_nValues_o := F_m_nValues_o.ext E64
  have F_m_bPacked_o := F_m_bPacked_o.ext E64
  have A_a62 := A_a62.ext E64
  have A_a64 : Ary Z h64 a64 .long 256 (fun _ => (.long (0 : Int64))) := A_a64
  refine g_putF C S din_19 (host := "") (Or.inl (hw _ (List.mem_of_getElem? (i := 13) rfl))) Via.refl F_m_aCodes_o X_o (Or.inr ⟨(hw _ (List.mem_of_getElem? (i := 14) rfl)), rfl, rfl⟩) (hw _ (List.mem_of_getElem? (i := 1) rfl)) (ty := (.array .long)) (by decide) rfl rfl g_o (pc' := 22) rfl (fun T65 h65 S W65 => ?_)
  have X_o := X_o.wr W65
  have Zn := Nat.le_trans Zn (Nat.le_of_eq W65.size.symm)
  have F_m_aSymbols_o := F_m_aSymbols_o.other W65 (Or.inr (slot_ne (a0 := a0) (t := (.array .int)) (t' := (.array .long)) (Or.inr (hw _ (List.mem_of_getElem? (i := 11) rfl))) (Or.inr (hw _ (List.mem_of_getElem? (i := 14) rfl))) (by decide) (by decide) (by decide)))
  have F_m_aCodes_o := F_m_aCodes_o.same W65
  have F_m_aLengths_o := F_m_aLengths_o.other W65 (Or.inr (slot_ne (a0 := a0) (t := (.array .byte)) (t' := (.array .long)) (Or.inr (hw _ (List.mem_of_getElem? (i := 17) rfl))) (Or.inr (hw _ (List.mem_of_getElem? (i := 14) rfl))) (by decide) (by decide) (by decide)))
  have F_m_aLengthCounts_o := F_m_aLengthCounts_o.other W65 (Or.inr (slot_ne (a0 := a0) (t := (.array .int)) (t' := (.array .long)) (Or.inr (hw _ (List.mem_of_getElem? (i := 19) rfl))) (Or.inr (hw _ (List.mem_of_getElem? (i := 14) rfl))) (by decide) (by decide) (by decide)))
  have F_m_aFirstCodes_o := F_m_aFirstCodes_o.other W65 (Or.inr (slot_ne (a0 := a0) (t := (.array .long)) (t' := (.array .long)) (Or.inr (hw _ (List.mem_of_getElem? (i := 21) rfl))) (Or.inr (hw _ (List.mem_of_getElem? (i := 14) rfl))) (by decide) (by decide) (by decide)))
  have F_m_aFirstSymbols_o := F_m_aFirstSymbols_o.other W65 (Or.inr (slot_ne (a0 := a0) (t := (.array .int)) (t' := (.array .long)) (Or.inr (hw _ (List.mem_of_getElem? (i := 23) rfl))) (Or.inr (hw _ (List.mem_of_getElem? (i := 14) rfl))) (by decide) (by decide) (by decide)))
  have F_m_nLongest_o := F_m_nLongest_o.other W65 (Or.inr (slot_ne (a0 := a0) (t := .int) (t' := (.array .long)) (Or.inl (hw _ (List.mem_of_getElem? (i := 73) rfl))) (Or.inr (hw _ (List.mem_of_getElem? (i := 14) rfl))) (by decide) (by decide) (by decide)))
  have F_m_nValues_o := F_m_nValues_o.other W65 (Or.inr (slot_ne (a0 := a0) (t := .int) (t' := (.array .long)) (Or.inl (hw _ (List.mem_of_getElem? (i := 64) rfl))) (Or.inr (hw _ (List.mem_of_getElem? (i := 14) rfl))) (by decide) (by decide) (by decide)))
  have F_m_bPacked_o := F_m_bPacked_o.other W65 (Or.inr (slot_ne (a0 := a0) (t := .boolean) (t' := (.array .long)) (Or.inl (hw _ (List.mem_of_getElem? (i := 75) rfl))) (Or.inr (hw _ (List.mem_of_getElem? (i := 14) rfl))) (by decide) (by decide) (by decide)))
  have A_a62 := A_a62.other W65 (Ne.symm ne_o_a62)
  have A_a64 := A_a64.other W65 (Ne.symm ne_o_a64)
  have Kp := Kp.wr W65 (Or.inl (List.mem_of_getElem? (i := 0) rfl))
  refine g_aloadN C S din_22 (pc' := 23) rfl rfl rfl ?_
  refine g_sipush C S (264 : Int32) din_23 (pc' := 26) rfl rfl ?_
  refine g_newarray C S (N := 264) (cap := 264) din_26 (hw _ (List.mem_of_getElem? (i := 15) rfl)) (by decide) (by decide) (by decide) (by decide) (by decide) (pc' := 28) rfl (fun T66 h66 a66 S g66 E66 A_a66 => ?_)
  have ne_o_a66 : o ≠ a66 := ne_new g66 X_o.lt
  have ne_a62_a66 : a62 ≠ a66 := ne_new g66 A_a62.lt
  have ne_a64_a66 : a64 ≠ a66 := ne_new g66 A_a64.lt
  have sz_a66 : h0.size ≤ a66 := ge_of g66 Kp.1
  have lt_a64_a66 : a64 < a66 := Nat.lt_of_lt_of_le A_a64.lt (Nat.le_of_eq g66.symm)
  have ge_a66 : n0 ≤ a66 := ge_of g66 Zn
  have Kp := Kp.ext E66
  have X_o := X_o.ext E66
  have Zn := Nat.le_trans Zn E66.1
  have F_m_aSymbols_o := F_m_aSymbols_o.ext E66
  have F_m_aCodes_o := F_m_aCodes_o.ext E66
  have F_m_aLengths_o := F_m_aLengths_o.ext E66
  have F_m_aLengthCounts_o := F_m_aLengthCounts_o.ext E66
  have F_m_aFirstCodes_o := F_m_aFirstCodes_o.ext E66
  have F_m_aFirstSymbols_o := F_m_aFirstSymbols_o.ext E66
  have F_m_nLongest_o := F_m_nLongest_o.ext E66
  have F_m_nValues_o := F_m_nValues_o.ext E66
  have F_m_bPacked_o := F_m_bPacked_o.ext E66
  have A_a62 := A_a62.ext E66
  have A_a64 := A_a64.ext E66
  have A_a66 : Ary Z h66 a66 .byte 264 (fun _ => (.int (0 : Int32))) := A_a66
  refine g_putF C S din_28 (host := "") (Or.inl (hw _ (List.mem_of_getElem? (i := 16) rfl))) Via.refl F_m_aLengths_o X_o (Or.inr ⟨(hw _ (List.mem_of_getElem? (i := 17) rfl)), rfl, rfl⟩) (hw _ (List.mem_of_getElem? (i := 1) rfl)) (ty := (.array .byte)) (by decide) rfl rfl g_o (pc' := 31) rfl (fun T67 h67 S W67 => ?_)
  have X_o := X_o.wr W67
  have Zn := Nat.le_trans Zn (Nat.le_of_eq W67.size.symm)
  have F_m_aSymbols_o := F_m_aSymbols_o.other W67 (Or.inr (slot_ne (a0 := a0) (t := (.array .int)) (t' := (.array .byte)) (Or.inr (hw _ (List.mem_of_getElem? (i := 11) rfl))) (Or.inr (hw _ (List.mem_of_getElem? (i := 17) rfl))) (by decide) (by decide) (by decide)))
  have F_m_aCodes_o := F_m_aCodes_o.other W67 (Or.inr (slot_ne (a0 := a0) (t := (.array .long)) (t' := (.array .byte)) (Or.inr (hw _ (List.mem_of_getElem? (i := 14) rfl))) (Or.inr (hw _ (List.mem_of_getElem? (i := 17) rfl))) (by decide) (by decide) (by decide)))
  have F_m_aLengths_o := F_m_aLengths_o.same W67
  have F_m_aLengthCounts_o := F_m_aLengthCounts_o.other W67 (Or.inr (slot_ne (a0 := a0) (t := (.array .int)) (t' := (.array .byte)) (Or.inr (hw _ (List.mem_of_getElem? (i := 19) rfl))) (Or.inr (hw _ (List.mem_of_getElem? (i := 17) rfl))) (by decide) (by decide) (by decide)))
  have F_m_aFirstCodes_o := F_m_aFirstCodes_o.other W67 (Or.inr (slot_ne (a0 := a0) (t := (.array .long)) (t' := (.array .byte)) (Or.inr (hw _ (List.mem_of_getElem? (i := 21) rfl))) (Or.inr (hw _ (List.mem_of_getElem? (i := 17) rfl))) (by decide) (by decide) (by decide)))
  have F_m_aFirstSymbols_o := F_m_aFirstSymbols_o.other W67 (Or.inr (slot_ne (a0 := a0) (t := (.array .int)) (t' := (.array .byte)) (Or.inr (hw _ (List.mem_of_getElem? (i := 23) rfl))) (Or.inr (hw _ (List.mem_of_getElem? (i := 17) rfl))) (by decide) (by decide) (by decide)))
  have F_m_nLongest_o := F_m_nLongest_o.other W67 (Or.inr (slot_ne (a0 := a0) (t := .int) (t' := (.array .byte)) (Or.inl (hw _ (List.mem_of_getElem? (i := 73) rfl))) (Or.inr (hw _ (List.mem_of_getElem? (i := 17) rfl))) (by decide) (by decide) (by decide)))
  have F_m_nValues_o := F_m_nValues_o.other W67 (Or.inr (slot_ne (a0 := a0) (t := .int) (t' := (.array .byte)) (Or.inl (hw _ (List.mem_of_getElem? (i := 64) rfl))) (Or.inr (hw _ (List.mem_of_getElem? (i := 17) rfl))) (by decide) (by decide) (by decide)))
  have F_m_bPacked_o := F_m_bPacked_o.other W67 (Or.inr (slot_ne (a0 := a0) (t := .boolean) (t' := (.array .byte)) (Or.inl (hw _ (List.mem_of_getElem? (i := 75) rfl))) (Or.inr (hw _ (List.mem_of_getElem? (i := 17) rfl))) (by decide) (by decide) (by decide)))
  have A_a62 := A_a62.other W67 (Ne.symm ne_o_a62)
  have A_a64 := A_a64.other W67 (Ne.symm ne_o_a64)
  have A_a66 := A_a66.other W67 (Ne.symm ne_o_a66)
  have Kp := Kp.wr W67 (Or.inl (List.mem_of_getElem? (i := 0) rfl))
  refine g_aloadN C S din_31 (pc' := 32) rfl rfl rfl ?_
  refine g_bipush C S (64 : Int32) din_32 (pc' := 34) rfl rfl ?_
  refine g_newarray C S (N := 64) (cap := 64) din_34 (hw _ (List.mem_of_getElem? (i := 9) rfl)) (by decide) (by decide) (by decide) (by decide) (by decide) (pc' := 36) rfl (fun T68 h68 a68 S g68 E68 A_a68 => ?_)
  have ne_o_a68 : o ≠ a68 := ne_new g68 X_o.lt
  have ne_a62_a68 : a62 ≠ a68 := ne_new g68 A_a62.lt
  have ne_a64_a68 : a64 ≠ a68 := ne_new g68 A_a64.lt
  have ne_a66_a68 : a66 ≠ a68 := ne_new g68 A_a66.lt
  have sz_a68 : h0.size ≤ a68 := ge_of g68 Kp.1
  have lt_a66_a68 : a66 < a68 := Nat.lt_of_lt_of_le A_a66.lt (Nat.le_of_eq g68.symm)
  have ge_a68 : n0 ≤ a68 := ge_of g68 Zn
  have Kp := Kp.ext E68
  have X_o := X_o.ext E68
  have Zn := Nat.le_trans Zn E68.1
  have F_m_aSymbols_o := F_m_aSymbols_o.ext E68
  have F_m_aCodes_o := F_m_aCodes_o.ext E68
  have F_m_aLengths_o := F_m_aLengths_o.ext E68
  have F_m_aLengthCounts_o := F_m_aLengthCounts_o.ext E68
  have F_m_aFirstCodes_o := F_m_aFirstCodes_o.ext E68
  have F_m_aFirstSymbols_o := F_m_aFirstSymbols_o.ext E68
  have F_m_nLongest_o := F_m_nLongest_o.ext E68
  have F_m_nValues_o := F_m_nValues_o.ext E68
  have F_m_bPacked_o := F_m_bPacked_o.ext E68
  have A_a62 := A_a62.ext E68
  have A_a64 := A_a64.ext E68
  have A_a66 := A_a66.ext E68
  have A_a68 : Ary Z h68 a68 .int 64 (fun _ => (.int (0 : Int32))) := A_a68
  refine g_putF C S din_36 (host := "") (Or.inl (hw _ (List.mem_of_getElem? (i := 18) rfl))) Via.refl F_m_aLengthCounts_o X_o (Or.inr ⟨(hw _ (List.mem_of_getElem? (i := 19) rfl)), rfl, rfl⟩) (hw _ (List.mem_of_getElem? (i := 1) rfl)) (ty := (.array .int)) (by decide) rfl rfl g_o (pc' := 39) rfl (fun T69 h69 S W69 => ?_)
  have X_o := X_o.wr W69
  have Zn := Nat.le_trans Zn (Nat.le_of_eq W69.size.symm)
  have F_m_aSymbols_o := F_m_aSymbols_o.other W69 (Or.inr (slot_ne (a0 := a0) (t := (.array .int)) (t' := (.array .int)) (Or.inr (hw _ (List.mem_of_getElem? (i := 11) rfl))) (Or.inr (hw _ (List.mem_of_getElem? (i := 19) rfl))) (by decide) (by decide) (by decide)))
  have F_m_aCodes_o := F_m_aCodes_o.other W69 (Or.inr (slot_ne (a0 := a0) (t := (.array .long)) (t' := (.array .int)) (Or.inr (hw _ (List.mem_of_getElem? (i := 14) rfl))) (Or.inr (hw _ (List.mem_of_getElem? (i := 19) rfl))) (by decide) (by decide) (by decide)))
  have F_m_aLengths_o := F_m_aLengths_o.other W69 (Or.inr (slot_ne (a0 := a0) (t := (.array .byte)) (t' := (.array .int)) (Or.inr (hw _ (List.mem_of_getElem? (i := 17) rfl))) (Or.inr (hw _ (List.mem_of_getElem? (i := 19) rfl))) (by decide) (by decide) (by decide)))
  have F_m_aLengthCounts_o := F_m_aLengthCounts_o.same W69
  have F_m_aFirstCodes_o := F_m_aFirstCodes_o.other W69 (Or.inr (slot_ne (a0 := a0) (t := (.array .long)) (t' := (.array .int)) (Or.inr (hw _ (List.mem_of_getElem? (i := 21) rfl))) (Or.inr (hw _ (List.mem_of_getElem? (i := 19) rfl))) (by decide) (by decide) (by decide)))
  have F_m_aFirstSymbols_o := F_m_aFirstSymbols_o.other W69 (Or.inr (slot_ne (a0 := a0) (t := (.array .int)) (t' := (.array .int)) (Or.inr (hw _ (List.mem_of_getElem? (i := 23) rfl))) (Or.inr (hw _ (List.mem_of_getElem? (i := 19) rfl))) (by decide) (by decide) (by decide)))
  have F_m_nLongest_o := F_m_nLongest_o.other W69 (Or.inr (slot_ne (a0 := a0) (t := .int) (t' := (.array .int)) (Or.inl (hw _ (List.mem_of_getElem? (i := 73) rfl))) (Or.inr (hw _ (List.mem_of_getElem? (i := 19) rfl))) (by decide) (by decide) (by decide)))
  have F_m_nValues_o := F_m_nValues_o.other W69 (Or.inr (slot_ne (a0 := a0) (t := .int) (t' := (.array .int)) (Or.inl (hw _ (List.mem_of_getElem? (i := 64) rfl))) (Or.inr (hw _ (List.mem_of_getElem? (i := 19) rfl))) (by decide) (by decide) (by decide)))
  have F_m_bPacked_o := F_m_bPacked_o.other W69 (Or.inr (slot_ne (a0 := a0) (t := .boolean) (t' := (.array .int)) (Or.inl (hw _ (List.mem_of_getElem? (i := 75) rfl))) (Or.inr (hw _ (List.mem_of_getElem? (i := 19) rfl))) (by decide) (by decide) (by decide)))
  have A_a62 := A_a62.other W69 (Ne.symm ne_o_a62)
  have A_a64 := A_a64.other W69 (Ne.symm ne_o_a64)
  have A_a66 := A_a66.other W69 (Ne.symm ne_o_a66)
  have A_a68 := A_a68.other W69 (Ne.symm ne_o_a68)
  have Kp := Kp.wr W69 (Or.inl (List.mem_of_getElem? (i := 0) rfl))
  refine g_aloadN C S din_39 (pc' := 40) rfl rfl rfl ?_
  refine g_bipush C S (64 : Int32) din_40 (pc' := 42) rfl rfl ?_
  refine g_newarray C S (N := 64) (cap := 64) din_42 (hw _ (List.mem_of_getElem? (i := 12) rfl)) (by decide) (by decide) (by decide) (by decide) (by decide) (pc' := 44) rfl (fun T70 h70 a70 S g70 E70 A_a70 => ?_)
  have ne_o_a70 : o ≠ a70 := ne_new g70 X_o.lt
  have ne_a62_a70 : a62 ≠ a70 := ne_new g70 A_a62.lt
  have ne_a64_a70 : a64 ≠ a70 := ne_new g70 A_a64.lt
  have ne_a66_a70 : a66 ≠ a70 := ne_new g70 A_a66.lt
  have ne_a68_a70 : a68 ≠ a70 := ne_new g70 A_a68.lt
  have sz_a70 : h0.size ≤ a70 := ge_of g70 Kp.1
  have lt_a68_a70 : a68 < a70 := Nat.lt_of_lt_of_le A_a68.lt (Nat.le_of_eq g70.symm)
  have ge_a70 : n0 ≤ a70 := ge_of g70 Zn
  have Kp := Kp.ext E70
  have X_o := X_o.ext E70
  have Zn := Nat.le_trans Zn E70.1
  have F_m_aSymbols_o := F_m_aSymbols_o.ext E70
  have F_m_aCodes_o := F_m_aCodes_o.ext E70
  have F_m_aLengths_o := F_m_aLengths_o.ext E70
  have F_m_aLengthCounts_o := F_m_aLengthCounts_o.ext E70
  have F_m_aFirstCodes_o := F_m_aFirstCodes_o.ext E70
  have F_m_aFirstSymbols_o := F_m_aFirstSymbols_o.ext E70
  have F_m_nLongest_o := F_m_nLongest_o.ext E70
  have F_m_nValues_o := F_m_nValues_o.ext E70
  have F_m_bPacked_o := F_m_bPacked_o.ext E70
  have A_a62 := A_a62.ext E70
  have A_a64 := A_a64.ext E70
  have A_a66 := A_a66.ext E70
  have A_a68 := A_a68.ext E70
  have A_a70 : Ary Z h70 a70 .long 64 (fun _ => (.long (0 : Int64))) := A_a70
  refine g_putF C S din_44 (host := "") (Or.inl (hw _ (List.mem_of_getElem? (i := 20) rfl))) Via.refl F_m_aFirstCodes_o X_o (Or.inr ⟨(hw _ (List.mem_of_getElem? (i := 21) rfl)), rfl, rfl⟩) (hw _ (List.mem_of_getElem? (i := 1) rfl)) (ty := (.array .long)) (by decide) rfl rfl g_o (pc' := 47) rfl (fun T71 h71 S W71 => ?_)
  have X_o := X_o.wr W71
  have Zn := Nat.le_trans Zn (Nat.le_of_eq W71.size.symm)
  have F_m_aSymbols_o := F_m_aSymbols_o.other W71 (Or.inr (slot_ne (a0 := a0) (t := (.array .int)) (t' := (.array .long)) (Or.inr (hw _ (List.mem_of_getElem? (i := 11) rfl))) (Or.inr (hw _ (List.mem_of_getElem? (i := 21) rfl))) (by decide) (by decide) (by decide)))
  have F_m_aCodes_o := F_m_aCodes_o.other W71 (Or.inr (slot_ne (a0 := a0) (t := (.array .long)) (t' := (.array .long)) (Or.inr (hw _ (List.mem_of_getElem? (i := 14) rfl))) (Or.inr (hw _ (List.mem_of_getElem? (i := 21) rfl))) (by decide) (by decide) (by decide)))
  have F_m_aLengths_o := F_m_aLengths_o.other W71 (Or.inr (slot_ne (a0 := a0) (t := (.array .byte)) (t' := (.array .long)) (Or.inr (hw _ (List.mem_of_getElem? (i := 17) rfl))) (Or.inr (hw _ (List.mem_of_getElem? (i := 21) rfl))) (by decide) (by decide) (by decide)))
  have F_m_aLengthCounts_o := F_m_aLengthCounts_o.other W71 (Or.inr (slot_ne (a0 := a0) (t := (.array .int)) (t' := (.array .long)) (Or.inr (hw _ (List.mem_of_getElem? (i := 19) rfl))) (Or.inr (hw _ (List.mem_of_getElem? (i := 21) rfl))) (by decide) (by decide) (by decide)))
  have F_m_aFirstCodes_o := F_m_aFirstCodes_o.same W71
  have F_m_aFirstSymbols_o := F_m_aFirstSymbols_o.other W71 (Or.inr (slot_ne (a0 := a0) (t := (.array .int)) (t' := (.array .long)) (Or.inr (hw _ (List.mem_of_getElem? (i := 23) rfl))) (Or.inr (hw _ (List.mem_of_getElem? (i := 21) rfl))) (by decide) (by decide) (by decide)))
  have F_m_nLongest_o := F_m_nLongest_o.other W71 (Or.inr (slot_ne (a0 := a0) (t := .int) (t' := (.array .long)) (Or.inl (hw _ (List.mem_of_getElem? (i := 73) rfl))) (Or.inr (hw _ (List.mem_of_getElem? (i := 21) rfl))) (by decide) (by decide) (by decide)))
  have F_m_nValues_o := F_m_nValues_o.other W71 (Or.inr (slot_ne (a0 := a0) (t := .int) (t' := (.array .long)) (Or.inl (hw _ (List.mem_of_getElem? (i := 64) rfl))) (Or.inr (hw _ (List.mem_of_getElem? (i := 21) rfl))) (by decide) (by decide) (by decide)))
  have F_m_bPacked_o := F_m_bPacked_o.other W71 (Or.inr (slot_ne (a0 := a0) (t := .boolean) (t' := (.array .long)) (Or.inl (hw _ (List.mem_of_getElem? (i := 75) rfl))) (Or.inr (hw _ (List.mem_of_getElem? (i := 21) rfl))) (by decide) (by decide) (by decide)))
  have A_a62 := A_a62.other W71 (Ne.symm ne_o_a62)
  have A_a64 := A_a64.other W71 (Ne.symm ne_o_a64)
  have A_a66 := A_a66.other W71 (Ne.symm ne_o_a66)
  have A_a68 := A_a68.other W71 (Ne.symm ne_o_a68)
  have A_a70 := A_a70.other W71 (Ne.symm ne_o_a70)
  have Kp := Kp.wr W71 (Or.inl (List.mem_of_getElem? (i := 0) rfl))
  refine g_aloadN C S din_47 (pc' := 48) rfl rfl rfl ?_
  refine g_bipush C S (64 : Int32) din_48 (pc' := 50) rfl rfl ?_
  refine g_newarray C S (N := 64) (cap := 64) din_50 (hw _ (List.mem_of_getElem? (i := 9) rfl)) (by decide) (by decide) (by decide) (by decide) (by decide) (pc' := 52) rfl (fun T72 h72 a72 S g72 E72 A_a72 => ?_)
  have ne_o_a72 : o ≠ a72 := ne_new g72 X_o.lt
  have ne_a62_a72 : a62 ≠ a72 := ne_new g72 A_a62.lt
  have ne_a64_a72 : a64 ≠ a72 := ne_new g72 A_a64.lt
  have ne_a66_a72 : a66 ≠ a72 := ne_new g72 A_a66.lt
  have ne_a68_a72 : a68 ≠ a72 := ne_new g72 A_a68.lt
  have ne_a70_a72 : a70 ≠ a72 := ne_new g72 A_a70.lt
  have sz_a72 : h0.size ≤ a72 := ge_of g72 Kp.1
  have lt_a70_a72 : a70 < a72 := Nat.lt_of_lt_of_le A_a70.lt (Nat.le_of_eq g72.symm)
  have ge_a72 : n0 ≤ a72 := ge_of g72 Zn
  have Kp := Kp.ext E72
  have X_o := X_o.ext E72
  have Zn := Nat.le_trans Zn E72.1
  have F_m_aSymbols_o := F_m_aSymbols_o.ext E72
  have F_m_aCodes_o := F_m_aCodes_o.ext E72
  have F_m_aLengths_o := F_m_aLengths_o.ext E72
  have F_m_aLengthCounts_o := F_m_aLengthCounts_o.ext E72
  have F_m_aFirstCodes_o := F_m_aFirstCodes_o.ext E72
  have F_m_aFirstSymbols_o := F_m_aFirstSymbols_o.ext E72
  have F_m_nLongest_o := F_m_nLongest_o.ext E72
  have F_m_nValues_o := F_m_nValues_o.ext E72
  have F_m_bPacked_o := F_m_bPacked_o.ext E72
  have A_a62 := A_a62.ext E72
  have A_a64 := A_a64.ext E72
  have A_a66 := A_a66.ext E72
  have A_a68 := A_a68.ext E72
  have A_a70 := A_a70.ext E72
  have A_a72 : Ary Z h72 a72 .int 64 (fun _ => (.int (0 : Int32))) := A_a72
  refine g_putF C S din_52 (host := "") (Or.inl (hw _ (List.mem_of_getElem? (i := 22) rfl))) Via.refl F_m_aFirstSymbols_o X_o (Or.inr ⟨(hw _ (List.mem_of_getElem? (i := 23) rfl)), rfl, rfl⟩) (hw _ (List.mem_of_getElem? (i := 1) rfl)) (ty := (.array .int)) (by decide) rfl rfl g_o (pc' := 55) rfl (fun T73 h73 S W73 => ?_)
  have X_o := X_o.wr W73
  have Zn := Nat.le_trans Zn (Nat.le_of_eq W73.size.symm)
  have F_m_aSymbols_o := F_m_aSymbols_o.other W73 (Or.inr (slot_ne (a0 := a0) (t := (.array .int)) (t' := (.array .int)) (Or.inr (hw _ (List.mem_of_getElem? (i := 11) rfl))) (Or.inr (hw _ (List.mem_of_getElem? (i := 23) rfl))) (by decide) (by decide) (by decide)))
  have F_m_aCodes_o := F_m_aCodes_o.other W73 (Or.inr (slot_ne (a0 := a0) (t := (.array .long)) (t' := (.array .int)) (Or.inr (hw _ (List.mem_of_getElem? (i := 14) rfl))) (Or.inr (hw _ (List.mem_of_getElem? (i := 23) rfl))) (by decide) (by decide) (by decide)))
  have F_m_aLengths_o := F_m_aLengths_o.other W73 (Or.inr (slot_ne (a0 := a0) (t := (.array .byte)) (t' := (.array .int)) (Or.inr (hw _ (List.mem_of_getElem? (i := 17) rfl))) (Or.inr (hw _ (List.mem_of_getElem? (i := 23) rfl))) (by decide) (by decide) (by decide)))
  have F_m_aLengthCounts_o := F_m_aLengthCounts_o.other W73 (Or.inr (slot_ne (a0 := a0) (t := (.array .int)) (t' := (.array .int)) (Or.inr (hw _ (List.mem_of_getElem? (i := 19) rfl))) (Or.inr (hw _ (List.mem_of_getElem? (i := 23) rfl))) (by decide) (by decide) (by decide)))
  have F_m_aFirstCodes_o := F_m_aFirstCodes_o.other W73 (Or.inr (slot_ne (a0 := a0) (t := (.array .long)) (t' := (.array .int)) (Or.inr (hw _ (List.mem_of_getElem? (i := 21) rfl))) (Or.inr (hw _ (List.mem_of_getElem? (i := 23) rfl))) (by decide) (by decide) (by decide)))
  have F_m_aFirstSymbols_o := F_m_aFirstSymbols_o.same W73
  have F_m_nLongest_o := F_m_nLongest_o.other W73 (Or.inr (slot_ne (a0 := a0) (t := .int) (t' := (.array .int)) (Or.inl (hw _ (List.mem_of_getElem? (i := 73) rfl))) (Or.inr (hw _ (List.mem_of_getElem? (i := 23) rfl))) (by decide) (by decide) (by decide)))
  have F_m_nValues_o := F_m_nValues_o.other W73 (Or.inr (slot_ne (a0 := a0) (t := .int) (t' := (.array .int)) (Or.inl (hw _ (List.mem_of_getElem? (i := 64) rfl))) (Or.inr (hw _ (List.mem_of_getElem? (i := 23) rfl))) (by decide) (by decide) (by decide)))
  have F_m_bPacked_o := F_m_bPacked_o.other W73 (Or.inr (slot_ne (a0 := a0) (t := .boolean) (t' := (.array .int)) (Or.inl (hw _ (List.mem_of_getElem? (i := 75) rfl))) (Or.inr (hw _ (List.mem_of_getElem? (i := 23) rfl))) (by decide) (by decide) (by decide)))
  have A_a62 := A_a62.other W73 (Ne.symm ne_o_a62)
  have A_a64 := A_a64.other W73 (Ne.symm ne_o_a64)
  have A_a66 := A_a66.other W73 (Ne.symm ne_o_a66)
  have A_a68 := A_a68.other W73 (Ne.symm ne_o_a68)
  have A_a70 := A_a70.other W73 (Ne.symm ne_o_a70)
  have A_a72 := A_a72.other W73 (Ne.symm ne_o_a72)
  have Kp := Kp.wr W73 (Or.inl (List.mem_of_getElem? (i := 0) rfl))
  refine g_aloadN C S din_55 (pc' := 56) rfl rfl rfl ?_
  refine g_getF C S din_56 (host := "") (Or.inl (hw _ (List.mem_of_getElem? (i := 16) rfl))) Via.refl F_m_aLengths_o (pc' := 59) rfl (fun T74 S => ?_)
  refine g_sipush C S (256 : Int32) din_59 (pc' := 62) rfl rfl ?_
  refine g_aloadN C S din_62 (pc' := 63) rfl rfl rfl ?_
  refine g_getF C S din_63 (host := "") (Or.inl (hw _ (List.mem_of_getElem? (i := 16) rfl))) Via.refl F_m_aLengths_o (pc' := 66) rfl (fun T75 S => ?_)
  refine g_arraylength C S (x := (264 : Int32)) din_66 A_a66 (by decide) (pc' := 67) rfl ?_
  refine g_iconst C S (-1 : Int32) din_67 (pc' := 68) rfl rfl ?_
  refine g_callS C S (rm := ({ frames := 1, cells := 0, slots := 0, locals := 14 } : Room)) (W := 0) din_68 (hw _ (List.mem_of_getElem? (i := 24) rfl)) (hw _ (List.mem_of_getElem? (i := 25) rfl)) (hw _ (List.mem_of_getElem? (i := 26) rfl)) (hw _ (List.mem_of_getElem? (i := 27) rfl)) (by decide) (c_fillB l' Z a0 hw a66 h73 n0 ge_a66 A_a66) (argsL := [(.ref a66), (.int (256 : Int32)), (.int (264 : Int32)), (.int (-1 : Int32))]) (r := []) rfl (lenOf pd_8 rfl) rfl (Nat.le_of_eq rfl) (by decide) (by decide) (by decide) (by decide) (pc' := 71) rfl (fun T76 h76 v76 q76 S => ?_)
  obtain ⟨rfl, K76, B_a66⟩ := q76
  have Kp := Kp.trans K76 (allS (Or.inr sz_a66) all0)
  have X_o := X_o.keep K76
  have Zn := Nat.le_trans Zn K76.1
  have F_m_aSymbols_o := F_m_aSymbols_o.keep K76 (ninS ne_o_a66 nin0)
  have F_m_aCodes_o := F_m_aCodes_o.keep K76 (ninS ne_o_a66 nin0)
  have F_m_aLengths_o := F_m_aLengths_o.keep K76 (ninS ne_o_a66 nin0)
  have F_m_aLengthCounts_o := F_m_aLengthCounts_o.keep K76 (ninS ne_o_a66 nin0)
  have F_m_aFirstCodes_o := F_m_aFirstCodes_o.keep K76 (ninS ne_o_a66 nin0)
  have F_m_aFirstSymbols_o := F_m_aFirstSymbols_o.keep K76 (ninS ne_o_a66 nin0)
  have F_m_nLongest_o := F_m_nLongest_o.keep K76 (ninS ne_o_a66 nin0)
  have F_m_nValues_o := F_m_nValues_o.keep K76 (ninS ne_o_a66 nin0)
  have F_m_bPacked_o := F_m_bPacked_o.keep K76 (ninS ne_o_a66 nin0)
  have A_a62 := A_a62.keep K76 (ninS ne_a62_a66 nin0)
  have A_a64 := A_a64.keep K76 (ninS ne_a64_a66 nin0)
  have A_a68 := A_a68.keep K76 (ninS (Ne.symm ne_a66_a68) nin0)
  have A_a70 := A_a70.keep K76 (ninS (Ne.symm ne_a66_a70) nin0)
  have A_a72 := A_a72.keep K76 (ninS (Ne.symm ne_a66_a72) nin0)
  have A_a66 := B_a66
  show Gl p e below s _ n0 _ T76 (mkF m 71 #[.val (.ref o)] [])
  exact g_return C S din_71 (by decide) (by decide) (⟨a62, a64, a66, a68, a70, a72, rfl, Kp, X_o, F_m_aSymbols_o, F_m_aCodes_o, F_m_aLengths_o, F_m_aLengthCounts_o, F_m_aFirstCodes_o, F_m_aFirstSymbols_o, F_m_nLongest_o, F_m_nValues_o, F_m_bPacked_o, A_a62, A_a64, A_a66, A_a68, A_a70, A_a72, sz_a62, lt_a62_a64, lt_a64_a66, lt_a66_a68, lt_a68_a70, lt_a70_a72, A_a72.lt, ge_a62, ge_a64, ge_a66, ge_a68, ge_a70, ge_a72⟩)
theorem dcd_0 : decode prog_31_method_18_code 0 = .ok (.aload_n 0, 1) := by decide +kernel
theorem dcd_1 : decode prog_31_method_18_code 1 = .ok (.getfield 75, 3) := by decide +kernel
theorem dcd_4 : decode prog_31_method_18_code 4 = .ok (.ifCond .eq 15, 3) := by decide +kernel
theorem dcd_7 : decode prog_31_method_18_code 7 = .ok (.aload_n 0, 1) := by decide +kernel
theorem dcd_8 : decode prog_31_method_18_code 8 = .ok (.getfield 18, 3) := by decide +kernel
theorem dcd_11 : decode prog_31_method_18_code 11 = .ok (.iload_n 1, 1) := by decide +kernel
theorem dcd_12 : decode prog_31_method_18_code 12 = .ok (.laload, 1) := by decide +kernel
theorem dcd_13 : decode prog_31_method_18_code 13 = .ok (.bipush 6, 2) := by decide +kernel
theorem dcd_15 : decode prog_31_method_18_code 15 = .ok (.lushr, 1) := by decide +kernel
theorem dcd_16 : decode prog_31_method_18_code 16 = .ok (.goto 9, 3) := by decide +kernel
theorem dcd_19 : decode prog_31_method_18_code 19 = .ok (.aload_n 0, 1) := by decide +kernel
theorem dcd_20 : decode prog_31_method_18_code 20 = .ok (.getfield 18, 3) := by decide +kernel
theorem dcd_23 : decode prog_31_method_18_code 23 = .ok (.iload_n 1, 1) := by decide +kernel
theorem dcd_24 : decode prog_31_method_18_code 24 = .ok (.laload, 1) := by decide +kernel
theorem dcd_25 : decode prog_31_method_18_code 25 = .ok (.lreturn, 1) := by decide +kernel
set_option maxRecDepth 65536 in
set_option maxHeartbeats 40000000 in
theorem c_cod (l' : Launch) (Z : State) (a0 : Array Value) (hw : ∀ d ∈ tables_1, d.before a0 Z = true) (o : Addr) (h0 : Heap) (n0 : Nat) (co : Addr) (pk : Int32) (f : Nat → Int64) (x : Nat) (hx : x < 256) (F_m_bPacked_o : Fld Z h0 o "leafpress/HuffmanCode" "m_bPacked" "Z" (.int pk)) (F_m_aCodes_o : Fld Z h0 o "leafpress/HuffmanCode" "m_aCodes" "[J" (.ref co)) (A_co : Ary Z h0 co .long 256 (fun x => .long (f x))) :
    Con l' Z (⟨"leafpress/HuffmanCode", "code", "(I)J"⟩ : MethodName) prog_31_method_18_code 2 (some .long) ({ frames := 0, cells := 0, slots := 0, locals := 0 } : Room) #[(.ref o), (.int (Int32.ofNat x))] h0 n0 (fun v h => v = some (.long (hDec pk (f x))) ∧ h = h0) := by
  refine Con.of (plainFor_of_name (by first | (simp [plainName, overriddenIn]; done) | decide +kernel)) (L0 := #[.val (.ref o), .val (.int (Int32.ofNat x))]) (fun m => by first | (simp [entryFrame, mkF, argsToLocals, Value.category]; done) | rfl) ?_
  intro p e s m below meth c T C S
  refine g_aloadN C S dcd_0 (pc' := 1) rfl rfl rfl ?_
  refine g_getF C S dcd_1 (host := "") (Or.inl (hw _ (List.mem_of_getElem? (i := 74) rfl))) Via.refl F_m_bPacked_o (pc' := 4) rfl (fun T77 S => ?_)
  refine g_if_eq C S dcd_4 (pc' := 19) (pf := 7) (by decide) (by decide) rfl (fun hc4 => ?_) (fun hc4 => ?_)
  · refine g_aloadN C S dcd_19 (pc' := 20) rfl rfl rfl ?_
    refine g_getF C S dcd_20 (host := "") (Or.inl (hw _ (List.mem_of_getElem? (i := 13) rfl))) Via.refl F_m_aCodes_o (pc' := 23) rfl (fun T78 S => ?_)
    refine g_iloadN C S dcd_23 (pc' := 24) rfl rfl ?_
    refine g_laload C S (i := x) (v := (.long (f x))) dcd_24 A_co (o32 (by omega)) hx rfl (pc' := 25) rfl ?_
    exact g_retJ C S dcd_25 (by decide) (by decide) (⟨by unfold hDec; rw [if_pos hc4], rfl⟩)
  · refine g_aloadN C S dcd_7 (pc' := 8) rfl rfl rfl ?_
    refine g_getF C S dcd_8 (host := "") (Or.inl (hw _ (List.mem_of_getElem? (i := 13) rfl))) Via.refl F_m_aCodes_o (pc' := 11) rfl (fun T79 S => ?_)
    refine g_iloadN C S dcd_11 (pc' := 12) rfl rfl ?_
    refine g_laload C S (i := x) (v := (.long (f x))) dcd_12 A_co (o32 (by omega)) hx rfl (pc' := 13) rfl ?_
    refine g_bipush C S (6 : Int32) dcd_13 (pc' := 15) rfl rfl ?_
    refine g_lushr C S dcd_15 (pc' := 16) rfl ?_
    refine g_goto C S dcd_16 (pc' := 25) (by decide) (by decide) ?_
    exact g_retJ C S dcd_25 (by decide) (by decide) (⟨by unfold hDec; rw [if_neg hc4], rfl⟩)
theorem dkc_0 : decode method_4_code 0 = .ok (.iload_n 1, 1) := by decide +kernel
theorem dkc_1 : decode method_4_code 1 = .ok (.iload_n 0, 1) := by decide +kernel
theorem dkc_2 : decode method_4_code 2 = .ok (.if_icmp .ge 13, 3) := by decide +kernel
theorem dkc_5 : decode method_4_code 5 = .ok (.lconst 1, 1) := by decide +kernel
theorem dkc_6 : decode method_4_code 6 = .ok (.iload_n 1, 1) := by decide +kernel
theorem dkc_7 : decode method_4_code 7 = .ok (.iconst 1, 1) := by decide +kernel
theorem dkc_8 : decode method_4_code 8 = .ok (.iadd, 1) := by decide +kernel
theorem dkc_9 : decode method_4_code 9 = .ok (.lshl, 1) := by decide +kernel
theorem dkc_10 : decode method_4_code 10 = .ok (.ldc2_w 31, 3) := by decide +kernel
theorem dkc_13 : decode method_4_code 13 = .ok (.lsub, 1) := by decide +kernel
theorem dkc_14 : decode method_4_code 14 = .ok (.lreturn, 1) := by decide +kernel
theorem dkc_15 : decode method_4_code 15 = .ok (.iload_n 1, 1) := by decide +kernel
theorem dkc_16 : decode method_4_code 16 = .ok (.iload_n 0, 1) := by decide +kernel
theorem dkc_17 : decode method_4_code 17 = .ok (.if_icmp .ne 9, 3) := by decide +kernel
theorem dkc_20 : decode method_4_code 20 = .ok (.lconst 1, 1) := by decide +kernel
theorem dkc_21 : decode method_4_code 21 = .ok (.iload_n 0, 1) := by decide +kernel
theorem dkc_22 : decode method_4_code 22 = .ok (.lshl, 1) := by decide +kernel
theorem dkc_23 : decode method_4_code 23 = .ok (.lconst 1, 1) := by decide +kernel
theorem dkc_24 : decode method_4_code 24 = .ok (.lsub, 1) := by decide +kernel
theorem dkc_25 : decode method_4_code 25 = .ok (.lreturn, 1) := by decide +kernel
theorem dkc_26 : decode method_4_code 26 = .ok (.lconst 0, 1) := by decide +kernel
theorem dkc_27 : decode method_4_code 27 = .ok (.lreturn, 1) := by decide +kernel
set_option maxRecDepth 65536 in
set_option maxHeartbeats 40000000 in
theorem c_chc (l' : Launch) (Z : State) (a0 : Array Value) (hw : ∀ d ∈ tables_1, d.before a0 Z = true)  (h0 : Heap) (n0 : Nat) (k q : Nat) (hk : k < 64) (hq : q < 256) :
    Con l' Z (⟨"leafpress/HuffmanCodeCodePinLaw", "chainCode", "(II)J"⟩ : MethodName) method_4_code 2 (some .long) ({ frames := 0, cells := 0, slots := 0, locals := 0 } : Room) #[(.int (Int32.ofNat k)), (.int (Int32.ofNat q))] h0 n0 (fun v h => v = some (.long (hChn k q)) ∧ h = h0) := by
  refine Con.of (plainFor_of_name (by first | (simp [plainName, overriddenIn]; done) | decide +kernel)) (L0 := #[.val (.int (Int32.ofNat k)), .val (.int (Int32.ofNat q))]) (fun m => by first | (simp [entryFrame, mkF, argsToLocals, Value.category]; done) | rfl) ?_
  intro p e s m below meth c T C S
  refine g_iloadN C S dkc_0 (pc' := 1) rfl rfl ?_
  refine g_iloadN C S dkc_1 (pc' := 2) rfl rfl ?_
  refine g_icmp_ge C S dkc_2 (pc' := 15) (pf := 5) (by decide) (by decide) rfl (fun hc2 => ?_) (fun hc2 => ?_)
  · refine g_iloadN C S dkc_15 (pc' := 16) rfl rfl ?_
    refine g_iloadN C S dkc_16 (pc' := 17) rfl rfl ?_
    refine g_icmp_ne C S dkc_17 (pc' := 26) (pf := 20) (by decide) (by decide) rfl (fun hc17 => ?_) (fun hc17 => ?_)
    · refine g_lconst C S (0 : Int64) dkc_26 (pc' := 27) rfl rfl ?_
      exact g_retJ C S dkc_27 (by decide) (by decide) (⟨by unfold hChn; rw [if_neg (fun z => hc2 ((o32_lt (by omega) (by omega)).mpr z)), if_neg (fun z => hc17 ((o32_inj (by omega) (by omega)).mpr z))], rfl⟩)
    · refine g_lconst C S (1 : Int64) dkc_20 (pc' := 21) rfl rfl ?_
      refine g_iloadN C S dkc_21 (pc' := 22) rfl rfl ?_
      refine g_lshl C S dkc_22 (pc' := 23) rfl ?_
      refine g_lconst C S (1 : Int64) dkc_23 (pc' := 24) rfl rfl ?_
      refine g_lsub C S dkc_24 (pc' := 25) rfl ?_
      exact g_retJ C S dkc_25 (by decide) (by decide) (⟨by unfold hChn; rw [if_neg (fun z => hc2 ((o32_lt (by omega) (by omega)).mpr z)), if_pos ((o32_inj (by omega) (by omega)).mp hc17)], rfl⟩)
  · refine g_lconst C S (1 : Int64) dkc_5 (pc' := 6) rfl rfl ?_
    refine g_iloadN C S dkc_6 (pc' := 7) rfl rfl ?_
    refine g_iconst C S (1 : Int32) dkc_7 (pc' := 8) rfl rfl ?_
    refine g_iadd C S dkc_8 (pc' := 9) rfl ?_
    refine g_lshl C S dkc_9 (pc' := 10) rfl ?_
    refine g_ldc2 C S dkc_10 (hw _ (List.mem_of_getElem? (i := 97) rfl)) (pc' := 13) rfl ?_
    refine g_lsub C S dkc_13 (pc' := 14) rfl ?_
    exact g_retJ C S dkc_14 (by decide) (by decide) (⟨by unfold hChn; rw [if_pos ((o32_lt (by omega) (by omega)).mp hc2)], rfl⟩)
theorem ch_fl {k i : Nat} (hi : i < 64) : (fun q => if q = k then Value.int (Int32.ofNat k) else (fun q => if q < 64 then Value.int (Int32.ofNat (q + 1)) else Value.int 0) q) i = Value.int (Int32.ofNat (hChL k i)) := by
  show (if i = k then Value.int (Int32.ofNat k) else if i < 64 then Value.int (Int32.ofNat (i + 1)) else Value.int 0) = Value.int (Int32.ofNat (if i = k then k else i + 1))
  by_cases u : i = k
  · rw [if_pos u, if_pos u]
  · rw [if_neg u, if_neg u, if_pos hi]
theorem pd_9 : parseMethodDescriptor "([II[I)V" = some ⟨[(.array .int), .int, (.array .int)], none⟩ := by decide +kernel
theorem pd_10 : parseMethodDescriptor "(I)J" = some ⟨[.int], some .long⟩ := by decide +kernel
theorem pd_11 : parseMethodDescriptor "(II)J" = some ⟨[.int, .int], some .long⟩ := by decide +kernel
theorem dch_0 : decode method_3_code 0 = .ok (.bipush 64, 2) := by decide +kernel
theorem dch_2 : decode method_3_code 2 = .ok (.newarray .int, 2) := by decide +kernel
theorem dch_4 : decode method_3_code 4 = .ok (.dup, 1) := by decide +kernel
theorem dch_5 : decode method_3_code 5 = .ok (.iconst 0, 1) := by decide +kernel
theorem dch_6 : decode method_3_code 6 = .ok (.iconst 0, 1) := by decide +kernel
theorem dch_7 : decode method_3_code 7 = .ok (.iastore, 1) := by decide +kernel
theorem dch_8 : decode method_3_code 8 = .ok (.dup, 1) := by decide +kernel
theorem dch_9 : decode method_3_code 9 = .ok (.iconst 1, 1) := by decide +kernel
theorem dch_10 : decode method_3_code 10 = .ok (.iconst 1, 1) := by decide +kernel
theorem dch_11 : decode method_3_code 11 = .ok (.iastore, 1) := by decide +kernel
theorem dch_12 : decode method_3_code 12 = .ok (.dup, 1) := by decide +kernel
theorem dch_13 : decode method_3_code 13 = .ok (.iconst 2, 1) := by decide +kernel
theorem dch_14 : decode method_3_code 14 = .ok (.iconst 2, 1) := by decide +kernel
theorem dch_15 : decode method_3_code 15 = .ok (.iastore, 1) := by decide +kernel
theorem dch_16 : decode method_3_code 16 = .ok (.dup, 1) := by decide +kernel
theorem dch_17 : decode method_3_code 17 = .ok (.iconst 3, 1) := by decide +kernel
theorem dch_18 : decode method_3_code 18 = .ok (.iconst 3, 1) := by decide +kernel
theorem dch_19 : decode method_3_code 19 = .ok (.iastore, 1) := by decide +kernel
theorem dch_20 : decode method_3_code 20 = .ok (.dup, 1) := by decide +kernel
theorem dch_21 : decode method_3_code 21 = .ok (.iconst 4, 1) := by decide +kernel
theorem dch_22 : decode method_3_code 22 = .ok (.iconst 4, 1) := by decide +kernel
theorem dch_23 : decode method_3_code 23 = .ok (.iastore, 1) := by decide +kernel
theorem dch_24 : decode method_3_code 24 = .ok (.dup, 1) := by decide +kernel
theorem dch_25 : decode method_3_code 25 = .ok (.iconst 5, 1) := by decide +kernel
theorem dch_26 : decode method_3_code 26 = .ok (.iconst 5, 1) := by decide +kernel
theorem dch_27 : decode method_3_code 27 = .ok (.iastore, 1) := by decide +kernel
theorem dch_28 : decode method_3_code 28 = .ok (.dup, 1) := by decide +kernel
theorem dch_29 : decode method_3_code 29 = .ok (.bipush 6, 2) := by decide +kernel
theorem dch_31 : decode method_3_code 31 = .ok (.bipush 6, 2) := by decide +kernel
theorem dch_33 : decode method_3_code 33 = .ok (.iastore, 1) := by decide +kernel
theorem dch_34 : decode method_3_code 34 = .ok (.dup, 1) := by decide +kernel
theorem dch_35 : decode method_3_code 35 = .ok (.bipush 7, 2) := by decide +kernel
theorem dch_37 : decode method_3_code 37 = .ok (.bipush 7, 2) := by decide +kernel
theorem dch_39 : decode method_3_code 39 = .ok (.iastore, 1) := by decide +kernel
theorem dch_40 : decode method_3_code 40 = .ok (.dup, 1) := by decide +kernel
theorem dch_41 : decode method_3_code 41 = .ok (.bipush 8, 2) := by decide +kernel
theorem dch_43 : decode method_3_code 43 = .ok (.bipush 8, 2) := by decide +kernel
theorem dch_45 : decode method_3_code 45 = .ok (.iastore, 1) := by decide +kernel
theorem dch_46 : decode method_3_code 46 = .ok (.dup, 1) := by decide +kernel
theorem dch_47 : decode method_3_code 47 = .ok (.bipush 9, 2) := by decide +kernel
theorem dch_49 : decode method_3_code 49 = .ok (.bipush 9, 2) := by decide +kernel
theorem dch_51 : decode method_3_code 51 = .ok (.iastore, 1) := by decide +kernel
theorem dch_52 : decode method_3_code 52 = .ok (.dup, 1) := by decide +kernel
theorem dch_53 : decode method_3_code 53 = .ok (.bipush 10, 2) := by decide +kernel
theorem dch_55 : decode method_3_code 55 = .ok (.bipush 10, 2) := by decide +kernel
theorem dch_57 : decode method_3_code 57 = .ok (.iastore, 1) := by decide +kernel
theorem dch_58 : decode method_3_code 58 = .ok (.dup, 1) := by decide +kernel
theorem dch_59 : decode method_3_code 59 = .ok (.bipush 11, 2) := by decide +kernel
theorem dch_61 : decode method_3_code 61 = .ok (.bipush 11, 2) := by decide +kernel
theorem dch_63 : decode method_3_code 63 = .ok (.iastore, 1) := by decide +kernel
theorem dch_64 : decode method_3_code 64 = .ok (.dup, 1) := by decide +kernel
theorem dch_65 : decode method_3_code 65 = .ok (.bipush 12, 2) := by decide +kernel
theorem dch_67 : decode method_3_code 67 = .ok (.bipush 12, 2) := by decide +kernel
theorem dch_69 : decode method_3_code 69 = .ok (.iastore, 1) := by decide +kernel
theorem dch_70 : decode method_3_code 70 = .ok (.dup, 1) := by decide +kernel
theorem dch_71 : decode method_3_code 71 = .ok (.bipush 13, 2) := by decide +kernel
theorem dch_73 : decode method_3_code 73 = .ok (.bipush 13, 2) := by decide +kernel
theorem dch_75 : decode method_3_code 75 = .ok (.iastore, 1) := by decide +kernel
theorem dch_76 : decode method_3_code 76 = .ok (.dup, 1) := by decide +kernel
theorem dch_77 : decode method_3_code 77 = .ok (.bipush 14, 2) := by decide +kernel
theorem dch_79 : decode method_3_code 79 = .ok (.bipush 14, 2) := by decide +kernel
theorem dch_81 : decode method_3_code 81 = .ok (.iastore, 1) := by decide +kernel
theorem dch_82 : decode method_3_code 82 = .ok (.dup, 1) := by decide +kernel
theorem dch_83 : decode method_3_code 83 = .ok (.bipush 15, 2) := by decide +kernel
theorem dch_85 : decode method_3_code 85 = .ok (.bipush 15, 2) := by decide +kernel
theorem dch_87 : decode method_3_code 87 = .ok (.iastore, 1) := by decide +kernel
theorem dch_88 : decode method_3_code 88 = .ok (.dup, 1) := by decide +kernel
theorem dch_89 : decode method_3_code 89 = .ok (.bipush 16, 2) := by decide +kernel
theorem dch_91 : decode method_3_code 91 = .ok (.bipush 16, 2) := by decide +kernel
theorem dch_93 : decode method_3_code 93 = .ok (.iastore, 1) := by decide +kernel
theorem dch_94 : decode method_3_code 94 = .ok (.dup, 1) := by decide +kernel
theorem dch_95 : decode method_3_code 95 = .ok (.bipush 17, 2) := by decide +kernel
theorem dch_97 : decode method_3_code 97 = .ok (.bipush 17, 2) := by decide +kernel
theorem dch_99 : decode method_3_code 99 = .ok (.iastore, 1) := by decide +kernel
theorem dch_100 : decode method_3_code 100 = .ok (.dup, 1) := by decide +kernel
theorem dch_101 : decode method_3_code 101 = .ok (.bipush 18, 2) := by decide +kernel
theorem dch_103 : decode method_3_code 103 = .ok (.bipush 18, 2) := by decide +kernel
theorem dch_105 : decode method_3_code 105 = .ok (.iastore, 1) := by decide +kernel
theorem dch_106 : decode method_3_code 106 = .ok (.dup, 1) := by decide +kernel
theorem dch_107 : decode method_3_code 107 = .ok (.bipush 19, 2) := by decide +kernel
theorem dch_109 : decode method_3_code 109 = .ok (.bipush 19, 2) := by decide +kernel
theorem dch_111 : decode method_3_code 111 = .ok (.iastore, 1) := by decide +kernel
theorem dch_112 : decode method_3_code 112 = .ok (.dup, 1) := by decide +kernel
theorem dch_113 : decode method_3_code 113 = .ok (.bipush 20, 2) := by decide +kernel
theorem dch_115 : decode method_3_code 115 = .ok (.bipush 20, 2) := by decide +kernel
theorem dch_117 : decode method_3_code 117 = .ok (.iastore, 1) := by decide +kernel
theorem dch_118 : decode method_3_code 118 = .ok (.dup, 1) := by decide +kernel
theorem dch_119 : decode method_3_code 119 = .ok (.bipush 21, 2) := by decide +kernel
theorem dch_121 : decode method_3_code 121 = .ok (.bipush 21, 2) := by decide +kernel
theorem dch_123 : decode method_3_code 123 = .ok (.iastore, 1) := by decide +kernel
theorem dch_124 : decode method_3_code 124 = .ok (.dup, 1) := by decide +kernel
theorem dch_125 : decode method_3_code 125 = .ok (.bipush 22, 2) := by decide +kernel
theorem dch_127 : decode method_3_code 127 = .ok (.bipush 22, 2) := by decide +kernel
theorem dch_129 : decode method_3_code 129 = .ok (.iastore, 1) := by decide +kernel
theorem dch_130 : decode method_3_code 130 = .ok (.dup, 1) := by decide +kernel
theorem dch_131 : decode method_3_code 131 = .ok (.bipush 23, 2) := by decide +kernel
theorem dch_133 : decode method_3_code 133 = .ok (.bipush 23, 2) := by decide +kernel
theorem dch_135 : decode method_3_code 135 = .ok (.iastore, 1) := by decide +kernel
theorem dch_136 : decode method_3_code 136 = .ok (.dup, 1) := by decide +kernel
theorem dch_137 : decode method_3_code 137 = .ok (.bipush 24, 2) := by decide +kernel
theorem dch_139 : decode method_3_code 139 = .ok (.bipush 24, 2) := by decide +kernel
theorem dch_141 : decode method_3_code 141 = .ok (.iastore, 1) := by decide +kernel
theorem dch_142 : decode method_3_code 142 = .ok (.dup, 1) := by decide +kernel
theorem dch_143 : decode method_3_code 143 = .ok (.bipush 25, 2) := by decide +kernel
theorem dch_145 : decode method_3_code 145 = .ok (.bipush 25, 2) := by decide +kernel
theorem dch_147 : decode method_3_code 147 = .ok (.iastore, 1) := by decide +kernel
theorem dch_148 : decode method_3_code 148 = .ok (.dup, 1) := by decide +kernel
theorem dch_149 : decode method_3_code 149 = .ok (.bipush 26, 2) := by decide +kernel
theorem dch_151 : decode method_3_code 151 = .ok (.bipush 26, 2) := by decide +kernel
theorem dch_153 : decode method_3_code 153 = .ok (.iastore, 1) := by decide +kernel
theorem dch_154 : decode method_3_code 154 = .ok (.dup, 1) := by decide +kernel
theorem dch_155 : decode method_3_code 155 = .ok (.bipush 27, 2) := by decide +kernel
theorem dch_157 : decode method_3_code 157 = .ok (.bipush 27, 2) := by decide +kernel
theorem dch_159 : decode method_3_code 159 = .ok (.iastore, 1) := by decide +kernel
theorem dch_160 : decode method_3_code 160 = .ok (.dup, 1) := by decide +kernel
theorem dch_161 : decode method_3_code 161 = .ok (.bipush 28, 2) := by decide +kernel
theorem dch_163 : decode method_3_code 163 = .ok (.bipush 28, 2) := by decide +kernel
theorem dch_165 : decode method_3_code 165 = .ok (.iastore, 1) := by decide +kernel
theorem dch_166 : decode method_3_code 166 = .ok (.dup, 1) := by decide +kernel
theorem dch_167 : decode method_3_code 167 = .ok (.bipush 29, 2) := by decide +kernel
theorem dch_169 : decode method_3_code 169 = .ok (.bipush 29, 2) := by decide +kernel
theorem dch_171 : decode method_3_code 171 = .ok (.iastore, 1) := by decide +kernel
theorem dch_172 : decode method_3_code 172 = .ok (.dup, 1) := by decide +kernel
theorem dch_173 : decode method_3_code 173 = .ok (.bipush 30, 2) := by decide +kernel
theorem dch_175 : decode method_3_code 175 = .ok (.bipush 30, 2) := by decide +kernel
theorem dch_177 : decode method_3_code 177 = .ok (.iastore, 1) := by decide +kernel
theorem dch_178 : decode method_3_code 178 = .ok (.dup, 1) := by decide +kernel
theorem dch_179 : decode method_3_code 179 = .ok (.bipush 31, 2) := by decide +kernel
theorem dch_181 : decode method_3_code 181 = .ok (.bipush 31, 2) := by decide +kernel
theorem dch_183 : decode method_3_code 183 = .ok (.iastore, 1) := by decide +kernel
theorem dch_184 : decode method_3_code 184 = .ok (.dup, 1) := by decide +kernel
theorem dch_185 : decode method_3_code 185 = .ok (.bipush 32, 2) := by decide +kernel
theorem dch_187 : decode method_3_code 187 = .ok (.bipush 32, 2) := by decide +kernel
theorem dch_189 : decode method_3_code 189 = .ok (.iastore, 1) := by decide +kernel
theorem dch_190 : decode method_3_code 190 = .ok (.dup, 1) := by decide +kernel
theorem dch_191 : decode method_3_code 191 = .ok (.bipush 33, 2) := by decide +kernel
theorem dch_193 : decode method_3_code 193 = .ok (.bipush 33, 2) := by decide +kernel
theorem dch_195 : decode method_3_code 195 = .ok (.iastore, 1) := by decide +kernel
theorem dch_196 : decode method_3_code 196 = .ok (.dup, 1) := by decide +kernel
theorem dch_197 : decode method_3_code 197 = .ok (.bipush 34, 2) := by decide +kernel
theorem dch_199 : decode method_3_code 199 = .ok (.bipush 34, 2) := by decide +kernel
theorem dch_201 : decode method_3_code 201 = .ok (.iastore, 1) := by decide +kernel
theorem dch_202 : decode method_3_code 202 = .ok (.dup, 1) := by decide +kernel
theorem dch_203 : decode method_3_code 203 = .ok (.bipush 35, 2) := by decide +kernel
theorem dch_205 : decode method_3_code 205 = .ok (.bipush 35, 2) := by decide +kernel
theorem dch_207 : decode method_3_code 207 = .ok (.iastore, 1) := by decide +kernel
theorem dch_208 : decode method_3_code 208 = .ok (.dup, 1) := by decide +kernel
theorem dch_209 : decode method_3_code 209 = .ok (.bipush 36, 2) := by decide +kernel
theorem dch_211 : decode method_3_code 211 = .ok (.bipush 36, 2) := by decide +kernel
theorem dch_213 : decode method_3_code 213 = .ok (.iastore, 1) := by decide +kernel
theorem dch_214 : decode method_3_code 214 = .ok (.dup, 1) := by decide +kernel
theorem dch_215 : decode method_3_code 215 = .ok (.bipush 37, 2) := by decide +kernel
theorem dch_217 : decode method_3_code 217 = .ok (.bipush 37, 2) := by decide +kernel
theorem dch_219 : decode method_3_code 219 = .ok (.iastore, 1) := by decide +kernel
theorem dch_220 : decode method_3_code 220 = .ok (.dup, 1) := by decide +kernel
theorem dch_221 : decode method_3_code 221 = .ok (.bipush 38, 2) := by decide +kernel
theorem dch_223 : decode method_3_code 223 = .ok (.bipush 38, 2) := by decide +kernel
theorem dch_225 : decode method_3_code 225 = .ok (.iastore, 1) := by decide +kernel
theorem dch_226 : decode method_3_code 226 = .ok (.dup, 1) := by decide +kernel
theorem dch_227 : decode method_3_code 227 = .ok (.bipush 39, 2) := by decide +kernel
theorem dch_229 : decode method_3_code 229 = .ok (.bipush 39, 2) := by decide +kernel
theorem dch_231 : decode method_3_code 231 = .ok (.iastore, 1) := by decide +kernel
theorem dch_232 : decode method_3_code 232 = .ok (.dup, 1) := by decide +kernel
theorem dch_233 : decode method_3_code 233 = .ok (.bipush 40, 2) := by decide +kernel
theorem dch_235 : decode method_3_code 235 = .ok (.bipush 40, 2) := by decide +kernel
theorem dch_237 : decode method_3_code 237 = .ok (.iastore, 1) := by decide +kernel
theorem dch_238 : decode method_3_code 238 = .ok (.dup, 1) := by decide +kernel
theorem dch_239 : decode method_3_code 239 = .ok (.bipush 41, 2) := by decide +kernel
theorem dch_241 : decode method_3_code 241 = .ok (.bipush 41, 2) := by decide +kernel
theorem dch_243 : decode method_3_code 243 = .ok (.iastore, 1) := by decide +kernel
theorem dch_244 : decode method_3_code 244 = .ok (.dup, 1) := by decide +kernel
theorem dch_245 : decode method_3_code 245 = .ok (.bipush 42, 2) := by decide +kernel
theorem dch_247 : decode method_3_code 247 = .ok (.bipush 42, 2) := by decide +kernel
theorem dch_249 : decode method_3_code 249 = .ok (.iastore, 1) := by decide +kernel
theorem dch_250 : decode method_3_code 250 = .ok (.dup, 1) := by decide +kernel
theorem dch_251 : decode method_3_code 251 = .ok (.bipush 43, 2) := by decide +kernel
theorem dch_253 : decode method_3_code 253 = .ok (.bipush 43, 2) := by decide +kernel
theorem dch_255 : decode method_3_code 255 = .ok (.iastore, 1) := by decide +kernel
theorem dch_256 : decode method_3_code 256 = .ok (.dup, 1) := by decide +kernel
theorem dch_257 : decode method_3_code 257 = .ok (.bipush 44, 2) := by decide +kernel
theorem dch_259 : decode method_3_code 259 = .ok (.bipush 44, 2) := by decide +kernel
theorem dch_261 : decode method_3_code 261 = .ok (.iastore, 1) := by decide +kernel
theorem dch_262 : decode method_3_code 262 = .ok (.dup, 1) := by decide +kernel
theorem dch_263 : decode method_3_code 263 = .ok (.bipush 45, 2) := by decide +kernel
theorem dch_265 : decode method_3_code 265 = .ok (.bipush 45, 2) := by decide +kernel
theorem dch_267 : decode method_3_code 267 = .ok (.iastore, 1) := by decide +kernel
theorem dch_268 : decode method_3_code 268 = .ok (.dup, 1) := by decide +kernel
theorem dch_269 : decode method_3_code 269 = .ok (.bipush 46, 2) := by decide +kernel
theorem dch_271 : decode method_3_code 271 = .ok (.bipush 46, 2) := by decide +kernel
theorem dch_273 : decode method_3_code 273 = .ok (.iastore, 1) := by decide +kernel
theorem dch_274 : decode method_3_code 274 = .ok (.dup, 1) := by decide +kernel
theorem dch_275 : decode method_3_code 275 = .ok (.bipush 47, 2) := by decide +kernel
theorem dch_277 : decode method_3_code 277 = .ok (.bipush 47, 2) := by decide +kernel
theorem dch_279 : decode method_3_code 279 = .ok (.iastore, 1) := by decide +kernel
theorem dch_280 : decode method_3_code 280 = .ok (.dup, 1) := by decide +kernel
theorem dch_281 : decode method_3_code 281 = .ok (.bipush 48, 2) := by decide +kernel
theorem dch_283 : decode method_3_code 283 = .ok (.bipush 48, 2) := by decide +kernel
theorem dch_285 : decode method_3_code 285 = .ok (.iastore, 1) := by decide +kernel
theorem dch_286 : decode method_3_code 286 = .ok (.dup, 1) := by decide +kernel
theorem dch_287 : decode method_3_code 287 = .ok (.bipush 49, 2) := by decide +kernel
theorem dch_289 : decode method_3_code 289 = .ok (.bipush 49, 2) := by decide +kernel
theorem dch_291 : decode method_3_code 291 = .ok (.iastore, 1) := by decide +kernel
theorem dch_292 : decode method_3_code 292 = .ok (.dup, 1) := by decide +kernel
theorem dch_293 : decode method_3_code 293 = .ok (.bipush 50, 2) := by decide +kernel
theorem dch_295 : decode method_3_code 295 = .ok (.bipush 50, 2) := by decide +kernel
theorem dch_297 : decode method_3_code 297 = .ok (.iastore, 1) := by decide +kernel
theorem dch_298 : decode method_3_code 298 = .ok (.dup, 1) := by decide +kernel
theorem dch_299 : decode method_3_code 299 = .ok (.bipush 51, 2) := by decide +kernel
theorem dch_301 : decode method_3_code 301 = .ok (.bipush 51, 2) := by decide +kernel
theorem dch_303 : decode method_3_code 303 = .ok (.iastore, 1) := by decide +kernel
theorem dch_304 : decode method_3_code 304 = .ok (.dup, 1) := by decide +kernel
theorem dch_305 : decode method_3_code 305 = .ok (.bipush 52, 2) := by decide +kernel
theorem dch_307 : decode method_3_code 307 = .ok (.bipush 52, 2) := by decide +kernel
theorem dch_309 : decode method_3_code 309 = .ok (.iastore, 1) := by decide +kernel
theorem dch_310 : decode method_3_code 310 = .ok (.dup, 1) := by decide +kernel
theorem dch_311 : decode method_3_code 311 = .ok (.bipush 53, 2) := by decide +kernel
theorem dch_313 : decode method_3_code 313 = .ok (.bipush 53, 2) := by decide +kernel
theorem dch_315 : decode method_3_code 315 = .ok (.iastore, 1) := by decide +kernel
theorem dch_316 : decode method_3_code 316 = .ok (.dup, 1) := by decide +kernel
theorem dch_317 : decode method_3_code 317 = .ok (.bipush 54, 2) := by decide +kernel
theorem dch_319 : decode method_3_code 319 = .ok (.bipush 54, 2) := by decide +kernel
theorem dch_321 : decode method_3_code 321 = .ok (.iastore, 1) := by decide +kernel
theorem dch_322 : decode method_3_code 322 = .ok (.dup, 1) := by decide +kernel
theorem dch_323 : decode method_3_code 323 = .ok (.bipush 55, 2) := by decide +kernel
theorem dch_325 : decode method_3_code 325 = .ok (.bipush 55, 2) := by decide +kernel
theorem dch_327 : decode method_3_code 327 = .ok (.iastore, 1) := by decide +kernel
theorem dch_328 : decode method_3_code 328 = .ok (.dup, 1) := by decide +kernel
theorem dch_329 : decode method_3_code 329 = .ok (.bipush 56, 2) := by decide +kernel
theorem dch_331 : decode method_3_code 331 = .ok (.bipush 56, 2) := by decide +kernel
theorem dch_333 : decode method_3_code 333 = .ok (.iastore, 1) := by decide +kernel
theorem dch_334 : decode method_3_code 334 = .ok (.dup, 1) := by decide +kernel
theorem dch_335 : decode method_3_code 335 = .ok (.bipush 57, 2) := by decide +kernel
theorem dch_337 : decode method_3_code 337 = .ok (.bipush 57, 2) := by decide +kernel
theorem dch_339 : decode method_3_code 339 = .ok (.iastore, 1) := by decide +kernel
theorem dch_340 : decode method_3_code 340 = .ok (.dup, 1) := by decide +kernel
theorem dch_341 : decode method_3_code 341 = .ok (.bipush 58, 2) := by decide +kernel
theorem dch_343 : decode method_3_code 343 = .ok (.bipush 58, 2) := by decide +kernel
theorem dch_345 : decode method_3_code 345 = .ok (.iastore, 1) := by decide +kernel
theorem dch_346 : decode method_3_code 346 = .ok (.dup, 1) := by decide +kernel
theorem dch_347 : decode method_3_code 347 = .ok (.bipush 59, 2) := by decide +kernel
theorem dch_349 : decode method_3_code 349 = .ok (.bipush 59, 2) := by decide +kernel
theorem dch_351 : decode method_3_code 351 = .ok (.iastore, 1) := by decide +kernel
theorem dch_352 : decode method_3_code 352 = .ok (.dup, 1) := by decide +kernel
theorem dch_353 : decode method_3_code 353 = .ok (.bipush 60, 2) := by decide +kernel
theorem dch_355 : decode method_3_code 355 = .ok (.bipush 60, 2) := by decide +kernel
theorem dch_357 : decode method_3_code 357 = .ok (.iastore, 1) := by decide +kernel
theorem dch_358 : decode method_3_code 358 = .ok (.dup, 1) := by decide +kernel
theorem dch_359 : decode method_3_code 359 = .ok (.bipush 61, 2) := by decide +kernel
theorem dch_361 : decode method_3_code 361 = .ok (.bipush 61, 2) := by decide +kernel
theorem dch_363 : decode method_3_code 363 = .ok (.iastore, 1) := by decide +kernel
theorem dch_364 : decode method_3_code 364 = .ok (.dup, 1) := by decide +kernel
theorem dch_365 : decode method_3_code 365 = .ok (.bipush 62, 2) := by decide +kernel
theorem dch_367 : decode method_3_code 367 = .ok (.bipush 62, 2) := by decide +kernel
theorem dch_369 : decode method_3_code 369 = .ok (.iastore, 1) := by decide +kernel
theorem dch_370 : decode method_3_code 370 = .ok (.dup, 1) := by decide +kernel
theorem dch_371 : decode method_3_code 371 = .ok (.bipush 63, 2) := by decide +kernel
theorem dch_373 : decode method_3_code 373 = .ok (.bipush 63, 2) := by decide +kernel
theorem dch_375 : decode method_3_code 375 = .ok (.iastore, 1) := by decide +kernel
theorem dch_376 : decode method_3_code 376 = .ok (.astore 4, 2) := by decide +kernel
theorem dch_378 : decode method_3_code 378 = .ok (.bipush 64, 2) := by decide +kernel
theorem dch_380 : decode method_3_code 380 = .ok (.newarray .int, 2) := by decide +kernel
theorem dch_382 : decode method_3_code 382 = .ok (.dup, 1) := by decide +kernel
theorem dch_383 : decode method_3_code 383 = .ok (.iconst 0, 1) := by decide +kernel
theorem dch_384 : decode method_3_code 384 = .ok (.iconst 1, 1) := by decide +kernel
theorem dch_385 : decode method_3_code 385 = .ok (.iastore, 1) := by decide +kernel
theorem dch_386 : decode method_3_code 386 = .ok (.dup, 1) := by decide +kernel
theorem dch_387 : decode method_3_code 387 = .ok (.iconst 1, 1) := by decide +kernel
theorem dch_388 : decode method_3_code 388 = .ok (.iconst 2, 1) := by decide +kernel
theorem dch_389 : decode method_3_code 389 = .ok (.iastore, 1) := by decide +kernel
theorem dch_390 : decode method_3_code 390 = .ok (.dup, 1) := by decide +kernel
theorem dch_391 : decode method_3_code 391 = .ok (.iconst 2, 1) := by decide +kernel
theorem dch_392 : decode method_3_code 392 = .ok (.iconst 3, 1) := by decide +kernel
theorem dch_393 : decode method_3_code 393 = .ok (.iastore, 1) := by decide +kernel
theorem dch_394 : decode method_3_code 394 = .ok (.dup, 1) := by decide +kernel
theorem dch_395 : decode method_3_code 395 = .ok (.iconst 3, 1) := by decide +kernel
theorem dch_396 : decode method_3_code 396 = .ok (.iconst 4, 1) := by decide +kernel
theorem dch_397 : decode method_3_code 397 = .ok (.iastore, 1) := by decide +kernel
theorem dch_398 : decode method_3_code 398 = .ok (.dup, 1) := by decide +kernel
theorem dch_399 : decode method_3_code 399 = .ok (.iconst 4, 1) := by decide +kernel
theorem dch_400 : decode method_3_code 400 = .ok (.iconst 5, 1) := by decide +kernel
theorem dch_401 : decode method_3_code 401 = .ok (.iastore, 1) := by decide +kernel
theorem dch_402 : decode method_3_code 402 = .ok (.dup, 1) := by decide +kernel
theorem dch_403 : decode method_3_code 403 = .ok (.iconst 5, 1) := by decide +kernel
theorem dch_404 : decode method_3_code 404 = .ok (.bipush 6, 2) := by decide +kernel
theorem dch_406 : decode method_3_code 406 = .ok (.iastore, 1) := by decide +kernel
theorem dch_407 : decode method_3_code 407 = .ok (.dup, 1) := by decide +kernel
theorem dch_408 : decode method_3_code 408 = .ok (.bipush 6, 2) := by decide +kernel
theorem dch_410 : decode method_3_code 410 = .ok (.bipush 7, 2) := by decide +kernel
theorem dch_412 : decode method_3_code 412 = .ok (.iastore, 1) := by decide +kernel
theorem dch_413 : decode method_3_code 413 = .ok (.dup, 1) := by decide +kernel
theorem dch_414 : decode method_3_code 414 = .ok (.bipush 7, 2) := by decide +kernel
theorem dch_416 : decode method_3_code 416 = .ok (.bipush 8, 2) := by decide +kernel
theorem dch_418 : decode method_3_code 418 = .ok (.iastore, 1) := by decide +kernel
theorem dch_419 : decode method_3_code 419 = .ok (.dup, 1) := by decide +kernel
theorem dch_420 : decode method_3_code 420 = .ok (.bipush 8, 2) := by decide +kernel
theorem dch_422 : decode method_3_code 422 = .ok (.bipush 9, 2) := by decide +kernel
theorem dch_424 : decode method_3_code 424 = .ok (.iastore, 1) := by decide +kernel
theorem dch_425 : decode method_3_code 425 = .ok (.dup, 1) := by decide +kernel
theorem dch_426 : decode method_3_code 426 = .ok (.bipush 9, 2) := by decide +kernel
theorem dch_428 : decode method_3_code 428 = .ok (.bipush 10, 2) := by decide +kernel
theorem dch_430 : decode method_3_code 430 = .ok (.iastore, 1) := by decide +kernel
theorem dch_431 : decode method_3_code 431 = .ok (.dup, 1) := by decide +kernel
theorem dch_432 : decode method_3_code 432 = .ok (.bipush 10, 2) := by decide +kernel
theorem dch_434 : decode method_3_code 434 = .ok (.bipush 11, 2) := by decide +kernel
theorem dch_436 : decode method_3_code 436 = .ok (.iastore, 1) := by decide +kernel
theorem dch_437 : decode method_3_code 437 = .ok (.dup, 1) := by decide +kernel
theorem dch_438 : decode method_3_code 438 = .ok (.bipush 11, 2) := by decide +kernel
theorem dch_440 : decode method_3_code 440 = .ok (.bipush 12, 2) := by decide +kernel
theorem dch_442 : decode method_3_code 442 = .ok (.iastore, 1) := by decide +kernel
theorem dch_443 : decode method_3_code 443 = .ok (.dup, 1) := by decide +kernel
theorem dch_444 : decode method_3_code 444 = .ok (.bipush 12, 2) := by decide +kernel
theorem dch_446 : decode method_3_code 446 = .ok (.bipush 13, 2) := by decide +kernel
theorem dch_448 : decode method_3_code 448 = .ok (.iastore, 1) := by decide +kernel
theorem dch_449 : decode method_3_code 449 = .ok (.dup, 1) := by decide +kernel
theorem dch_450 : decode method_3_code 450 = .ok (.bipush 13, 2) := by decide +kernel
theorem dch_452 : decode method_3_code 452 = .ok (.bipush 14, 2) := by decide +kernel
theorem dch_454 : decode method_3_code 454 = .ok (.iastore, 1) := by decide +kernel
theorem dch_455 : decode method_3_code 455 = .ok (.dup, 1) := by decide +kernel
theorem dch_456 : decode method_3_code 456 = .ok (.bipush 14, 2) := by decide +kernel
theorem dch_458 : decode method_3_code 458 = .ok (.bipush 15, 2) := by decide +kernel
theorem dch_460 : decode method_3_code 460 = .ok (.iastore, 1) := by decide +kernel
theorem dch_461 : decode method_3_code 461 = .ok (.dup, 1) := by decide +kernel
theorem dch_462 : decode method_3_code 462 = .ok (.bipush 15, 2) := by decide +kernel
theorem dch_464 : decode method_3_code 464 = .ok (.bipush 16, 2) := by decide +kernel
theorem dch_466 : decode method_3_code 466 = .ok (.iastore, 1) := by decide +kernel
theorem dch_467 : decode method_3_code 467 = .ok (.dup, 1) := by decide +kernel
theorem dch_468 : decode method_3_code 468 = .ok (.bipush 16, 2) := by decide +kernel
theorem dch_470 : decode method_3_code 470 = .ok (.bipush 17, 2) := by decide +kernel
theorem dch_472 : decode method_3_code 472 = .ok (.iastore, 1) := by decide +kernel
theorem dch_473 : decode method_3_code 473 = .ok (.dup, 1) := by decide +kernel
theorem dch_474 : decode method_3_code 474 = .ok (.bipush 17, 2) := by decide +kernel
theorem dch_476 : decode method_3_code 476 = .ok (.bipush 18, 2) := by decide +kernel
theorem dch_478 : decode method_3_code 478 = .ok (.iastore, 1) := by decide +kernel
theorem dch_479 : decode method_3_code 479 = .ok (.dup, 1) := by decide +kernel
theorem dch_480 : decode method_3_code 480 = .ok (.bipush 18, 2) := by decide +kernel
theorem dch_482 : decode method_3_code 482 = .ok (.bipush 19, 2) := by decide +kernel
theorem dch_484 : decode method_3_code 484 = .ok (.iastore, 1) := by decide +kernel
theorem dch_485 : decode method_3_code 485 = .ok (.dup, 1) := by decide +kernel
theorem dch_486 : decode method_3_code 486 = .ok (.bipush 19, 2) := by decide +kernel
theorem dch_488 : decode method_3_code 488 = .ok (.bipush 20, 2) := by decide +kernel
theorem dch_490 : decode method_3_code 490 = .ok (.iastore, 1) := by decide +kernel
theorem dch_491 : decode method_3_code 491 = .ok (.dup, 1) := by decide +kernel
theorem dch_492 : decode method_3_code 492 = .ok (.bipush 20, 2) := by decide +kernel
theorem dch_494 : decode method_3_code 494 = .ok (.bipush 21, 2) := by decide +kernel
theorem dch_496 : decode method_3_code 496 = .ok (.iastore, 1) := by decide +kernel
theorem dch_497 : decode method_3_code 497 = .ok (.dup, 1) := by decide +kernel
theorem dch_498 : decode method_3_code 498 = .ok (.bipush 21, 2) := by decide +kernel
theorem dch_500 : decode method_3_code 500 = .ok (.bipush 22, 2) := by decide +kernel
theorem dch_502 : decode method_3_code 502 = .ok (.iastore, 1) := by decide +kernel
theorem dch_503 : decode method_3_code 503 = .ok (.dup, 1) := by decide +kernel
theorem dch_504 : decode method_3_code 504 = .ok (.bipush 22, 2) := by decide +kernel
theorem dch_506 : decode method_3_code 506 = .ok (.bipush 23, 2) := by decide +kernel
theorem dch_508 : decode method_3_code 508 = .ok (.iastore, 1) := by decide +kernel
theorem dch_509 : decode method_3_code 509 = .ok (.dup, 1) := by decide +kernel
theorem dch_510 : decode method_3_code 510 = .ok (.bipush 23, 2) := by decide +kernel
theorem dch_512 : decode method_3_code 512 = .ok (.bipush 24, 2) := by decide +kernel
theorem dch_514 : decode method_3_code 514 = .ok (.iastore, 1) := by decide +kernel
theorem dch_515 : decode method_3_code 515 = .ok (.dup, 1) := by decide +kernel
theorem dch_516 : decode method_3_code 516 = .ok (.bipush 24, 2) := by decide +kernel
theorem dch_518 : decode method_3_code 518 = .ok (.bipush 25, 2) := by decide +kernel
theorem dch_520 : decode method_3_code 520 = .ok (.iastore, 1) := by decide +kernel
theorem dch_521 : decode method_3_code 521 = .ok (.dup, 1) := by decide +kernel
theorem dch_522 : decode method_3_code 522 = .ok (.bipush 25, 2) := by decide +kernel
theorem dch_524 : decode method_3_code 524 = .ok (.bipush 26, 2) := by decide +kernel
theorem dch_526 : decode method_3_code 526 = .ok (.iastore, 1) := by decide +kernel
theorem dch_527 : decode method_3_code 527 = .ok (.dup, 1) := by decide +kernel
theorem dch_528 : decode method_3_code 528 = .ok (.bipush 26, 2) := by decide +kernel
theorem dch_530 : decode method_3_code 530 = .ok (.bipush 27, 2) := by decide +kernel
theorem dch_532 : decode method_3_code 532 = .ok (.iastore, 1) := by decide +kernel
theorem dch_533 : decode method_3_code 533 = .ok (.dup, 1) := by decide +kernel
theorem dch_534 : decode method_3_code 534 = .ok (.bipush 27, 2) := by decide +kernel
theorem dch_536 : decode method_3_code 536 = .ok (.bipush 28, 2) := by decide +kernel
theorem dch_538 : decode method_3_code 538 = .ok (.iastore, 1) := by decide +kernel
theorem dch_539 : decode method_3_code 539 = .ok (.dup, 1) := by decide +kernel
theorem dch_540 : decode method_3_code 540 = .ok (.bipush 28, 2) := by decide +kernel
theorem dch_542 : decode method_3_code 542 = .ok (.bipush 29, 2) := by decide +kernel
theorem dch_544 : decode method_3_code 544 = .ok (.iastore, 1) := by decide +kernel
theorem dch_545 : decode method_3_code 545 = .ok (.dup, 1) := by decide +kernel
theorem dch_546 : decode method_3_code 546 = .ok (.bipush 29, 2) := by decide +kernel
theorem dch_548 : decode method_3_code 548 = .ok (.bipush 30, 2) := by decide +kernel
theorem dch_550 : decode method_3_code 550 = .ok (.iastore, 1) := by decide +kernel
theorem dch_551 : decode method_3_code 551 = .ok (.dup, 1) := by decide +kernel
theorem dch_552 : decode method_3_code 552 = .ok (.bipush 30, 2) := by decide +kernel
theorem dch_554 : decode method_3_code 554 = .ok (.bipush 31, 2) := by decide +kernel
theorem dch_556 : decode method_3_code 556 = .ok (.iastore, 1) := by decide +kernel
theorem dch_557 : decode method_3_code 557 = .ok (.dup, 1) := by decide +kernel
theorem dch_558 : decode method_3_code 558 = .ok (.bipush 31, 2) := by decide +kernel
theorem dch_560 : decode method_3_code 560 = .ok (.bipush 32, 2) := by decide +kernel
theorem dch_562 : decode method_3_code 562 = .ok (.iastore, 1) := by decide +kernel
theorem dch_563 : decode method_3_code 563 = .ok (.dup, 1) := by decide +kernel
theorem dch_564 : decode method_3_code 564 = .ok (.bipush 32, 2) := by decide +kernel
theorem dch_566 : decode method_3_code 566 = .ok (.bipush 33, 2) := by decide +kernel
theorem dch_568 : decode method_3_code 568 = .ok (.iastore, 1) := by decide +kernel
theorem dch_569 : decode method_3_code 569 = .ok (.dup, 1) := by decide +kernel
theorem dch_570 : decode method_3_code 570 = .ok (.bipush 33, 2) := by decide +kernel
theorem dch_572 : decode method_3_code 572 = .ok (.bipush 34, 2) := by decide +kernel
theorem dch_574 : decode method_3_code 574 = .ok (.iastore, 1) := by decide +kernel
theorem dch_575 : decode method_3_code 575 = .ok (.dup, 1) := by decide +kernel
theorem dch_576 : decode method_3_code 576 = .ok (.bipush 34, 2) := by decide +kernel
theorem dch_578 : decode method_3_code 578 = .ok (.bipush 35, 2) := by decide +kernel
theorem dch_580 : decode method_3_code 580 = .ok (.iastore, 1) := by decide +kernel
theorem dch_581 : decode method_3_code 581 = .ok (.dup, 1) := by decide +kernel
theorem dch_582 : decode method_3_code 582 = .ok (.bipush 35, 2) := by decide +kernel
theorem dch_584 : decode method_3_code 584 = .ok (.bipush 36, 2) := by decide +kernel
theorem dch_586 : decode method_3_code 586 = .ok (.iastore, 1) := by decide +kernel
theorem dch_587 : decode method_3_code 587 = .ok (.dup, 1) := by decide +kernel
theorem dch_588 : decode method_3_code 588 = .ok (.bipush 36, 2) := by decide +kernel
theorem dch_590 : decode method_3_code 590 = .ok (.bipush 37, 2) := by decide +kernel
theorem dch_592 : decode method_3_code 592 = .ok (.iastore, 1) := by decide +kernel
theorem dch_593 : decode method_3_code 593 = .ok (.dup, 1) := by decide +kernel
theorem dch_594 : decode method_3_code 594 = .ok (.bipush 37, 2) := by decide +kernel
theorem dch_596 : decode method_3_code 596 = .ok (.bipush 38, 2) := by decide +kernel
theorem dch_598 : decode method_3_code 598 = .ok (.iastore, 1) := by decide +kernel
theorem dch_599 : decode method_3_code 599 = .ok (.dup, 1) := by decide +kernel
theorem dch_600 : decode method_3_code 600 = .ok (.bipush 38, 2) := by decide +kernel
theorem dch_602 : decode method_3_code 602 = .ok (.bipush 39, 2) := by decide +kernel
theorem dch_604 : decode method_3_code 604 = .ok (.iastore, 1) := by decide +kernel
theorem dch_605 : decode method_3_code 605 = .ok (.dup, 1) := by decide +kernel
theorem dch_606 : decode method_3_code 606 = .ok (.bipush 39, 2) := by decide +kernel
theorem dch_608 : decode method_3_code 608 = .ok (.bipush 40, 2) := by decide +kernel
theorem dch_610 : decode method_3_code 610 = .ok (.iastore, 1) := by decide +kernel
theorem dch_611 : decode method_3_code 611 = .ok (.dup, 1) := by decide +kernel
theorem dch_612 : decode method_3_code 612 = .ok (.bipush 40, 2) := by decide +kernel
theorem dch_614 : decode method_3_code 614 = .ok (.bipush 41, 2) := by decide +kernel
theorem dch_616 : decode method_3_code 616 = .ok (.iastore, 1) := by decide +kernel
theorem dch_617 : decode method_3_code 617 = .ok (.dup, 1) := by decide +kernel
theorem dch_618 : decode method_3_code 618 = .ok (.bipush 41, 2) := by decide +kernel
theorem dch_620 : decode method_3_code 620 = .ok (.bipush 42, 2) := by decide +kernel
theorem dch_622 : decode method_3_code 622 = .ok (.iastore, 1) := by decide +kernel
theorem dch_623 : decode method_3_code 623 = .ok (.dup, 1) := by decide +kernel
theorem dch_624 : decode method_3_code 624 = .ok (.bipush 42, 2) := by decide +kernel
theorem dch_626 : decode method_3_code 626 = .ok (.bipush 43, 2) := by decide +kernel
theorem dch_628 : decode method_3_code 628 = .ok (.iastore, 1) := by decide +kernel
theorem dch_629 : decode method_3_code 629 = .ok (.dup, 1) := by decide +kernel
theorem dch_630 : decode method_3_code 630 = .ok (.bipush 43, 2) := by decide +kernel
theorem dch_632 : decode method_3_code 632 = .ok (.bipush 44, 2) := by decide +kernel
theorem dch_634 : decode method_3_code 634 = .ok (.iastore, 1) := by decide +kernel
theorem dch_635 : decode method_3_code 635 = .ok (.dup, 1) := by decide +kernel
theorem dch_636 : decode method_3_code 636 = .ok (.bipush 44, 2) := by decide +kernel
theorem dch_638 : decode method_3_code 638 = .ok (.bipush 45, 2) := by decide +kernel
theorem dch_640 : decode method_3_code 640 = .ok (.iastore, 1) := by decide +kernel
theorem dch_641 : decode method_3_code 641 = .ok (.dup, 1) := by decide +kernel
theorem dch_642 : decode method_3_code 642 = .ok (.bipush 45, 2) := by decide +kernel
theorem dch_644 : decode method_3_code 644 = .ok (.bipush 46, 2) := by decide +kernel
theorem dch_646 : decode method_3_code 646 = .ok (.iastore, 1) := by decide +kernel
theorem dch_647 : decode method_3_code 647 = .ok (.dup, 1) := by decide +kernel
theorem dch_648 : decode method_3_code 648 = .ok (.bipush 46, 2) := by decide +kernel
theorem dch_650 : decode method_3_code 650 = .ok (.bipush 47, 2) := by decide +kernel
theorem dch_652 : decode method_3_code 652 = .ok (.iastore, 1) := by decide +kernel
theorem dch_653 : decode method_3_code 653 = .ok (.dup, 1) := by decide +kernel
theorem dch_654 : decode method_3_code 654 = .ok (.bipush 47, 2) := by decide +kernel
theorem dch_656 : decode method_3_code 656 = .ok (.bipush 48, 2) := by decide +kernel
theorem dch_658 : decode method_3_code 658 = .ok (.iastore, 1) := by decide +kernel
theorem dch_659 : decode method_3_code 659 = .ok (.dup, 1) := by decide +kernel
theorem dch_660 : decode method_3_code 660 = .ok (.bipush 48, 2) := by decide +kernel
theorem dch_662 : decode method_3_code 662 = .ok (.bipush 49, 2) := by decide +kernel
theorem dch_664 : decode method_3_code 664 = .ok (.iastore, 1) := by decide +kernel
theorem dch_665 : decode method_3_code 665 = .ok (.dup, 1) := by decide +kernel
theorem dch_666 : decode method_3_code 666 = .ok (.bipush 49, 2) := by decide +kernel
theorem dch_668 : decode method_3_code 668 = .ok (.bipush 50, 2) := by decide +kernel
theorem dch_670 : decode method_3_code 670 = .ok (.iastore, 1) := by decide +kernel
theorem dch_671 : decode method_3_code 671 = .ok (.dup, 1) := by decide +kernel
theorem dch_672 : decode method_3_code 672 = .ok (.bipush 50, 2) := by decide +kernel
theorem dch_674 : decode method_3_code 674 = .ok (.bipush 51, 2) := by decide +kernel
theorem dch_676 : decode method_3_code 676 = .ok (.iastore, 1) := by decide +kernel
theorem dch_677 : decode method_3_code 677 = .ok (.dup, 1) := by decide +kernel
theorem dch_678 : decode method_3_code 678 = .ok (.bipush 51, 2) := by decide +kernel
theorem dch_680 : decode method_3_code 680 = .ok (.bipush 52, 2) := by decide +kernel
theorem dch_682 : decode method_3_code 682 = .ok (.iastore, 1) := by decide +kernel
theorem dch_683 : decode method_3_code 683 = .ok (.dup, 1) := by decide +kernel
theorem dch_684 : decode method_3_code 684 = .ok (.bipush 52, 2) := by decide +kernel
theorem dch_686 : decode method_3_code 686 = .ok (.bipush 53, 2) := by decide +kernel
theorem dch_688 : decode method_3_code 688 = .ok (.iastore, 1) := by decide +kernel
theorem dch_689 : decode method_3_code 689 = .ok (.dup, 1) := by decide +kernel
theorem dch_690 : decode method_3_code 690 = .ok (.bipush 53, 2) := by decide +kernel
theorem dch_692 : decode method_3_code 692 = .ok (.bipush 54, 2) := by decide +kernel
theorem dch_694 : decode method_3_code 694 = .ok (.iastore, 1) := by decide +kernel
theorem dch_695 : decode method_3_code 695 = .ok (.dup, 1) := by decide +kernel
theorem dch_696 : decode method_3_code 696 = .ok (.bipush 54, 2) := by decide +kernel
theorem dch_698 : decode method_3_code 698 = .ok (.bipush 55, 2) := by decide +kernel
theorem dch_700 : decode method_3_code 700 = .ok (.iastore, 1) := by decide +kernel
theorem dch_701 : decode method_3_code 701 = .ok (.dup, 1) := by decide +kernel
theorem dch_702 : decode method_3_code 702 = .ok (.bipush 55, 2) := by decide +kernel
theorem dch_704 : decode method_3_code 704 = .ok (.bipush 56, 2) := by decide +kernel
theorem dch_706 : decode method_3_code 706 = .ok (.iastore, 1) := by decide +kernel
theorem dch_707 : decode method_3_code 707 = .ok (.dup, 1) := by decide +kernel
theorem dch_708 : decode method_3_code 708 = .ok (.bipush 56, 2) := by decide +kernel
theorem dch_710 : decode method_3_code 710 = .ok (.bipush 57, 2) := by decide +kernel
theorem dch_712 : decode method_3_code 712 = .ok (.iastore, 1) := by decide +kernel
theorem dch_713 : decode method_3_code 713 = .ok (.dup, 1) := by decide +kernel
theorem dch_714 : decode method_3_code 714 = .ok (.bipush 57, 2) := by decide +kernel
theorem dch_716 : decode method_3_code 716 = .ok (.bipush 58, 2) := by decide +kernel
theorem dch_718 : decode method_3_code 718 = .ok (.iastore, 1) := by decide +kernel
theorem dch_719 : decode method_3_code 719 = .ok (.dup, 1) := by decide +kernel
theorem dch_720 : decode method_3_code 720 = .ok (.bipush 58, 2) := by decide +kernel
theorem dch_722 : decode method_3_code 722 = .ok (.bipush 59, 2) := by decide +kernel
theorem dch_724 : decode method_3_code 724 = .ok (.iastore, 1) := by decide +kernel
theorem dch_725 : decode method_3_code 725 = .ok (.dup, 1) := by decide +kernel
theorem dch_726 : decode method_3_code 726 = .ok (.bipush 59, 2) := by decide +kernel
theorem dch_728 : decode method_3_code 728 = .ok (.bipush 60, 2) := by decide +kernel
theorem dch_730 : decode method_3_code 730 = .ok (.iastore, 1) := by decide +kernel
theorem dch_731 : decode method_3_code 731 = .ok (.dup, 1) := by decide +kernel
theorem dch_732 : decode method_3_code 732 = .ok (.bipush 60, 2) := by decide +kernel
theorem dch_734 : decode method_3_code 734 = .ok (.bipush 61, 2) := by decide +kernel
theorem dch_736 : decode method_3_code 736 = .ok (.iastore, 1) := by decide +kernel
theorem dch_737 : decode method_3_code 737 = .ok (.dup, 1) := by decide +kernel
theorem dch_738 : decode method_3_code 738 = .ok (.bipush 61, 2) := by decide +kernel
theorem dch_740 : decode method_3_code 740 = .ok (.bipush 62, 2) := by decide +kernel
theorem dch_742 : decode method_3_code 742 = .ok (.iastore, 1) := by decide +kernel
theorem dch_743 : decode method_3_code 743 = .ok (.dup, 1) := by decide +kernel
theorem dch_744 : decode method_3_code 744 = .ok (.bipush 62, 2) := by decide +kernel
theorem dch_746 : decode method_3_code 746 = .ok (.bipush 63, 2) := by decide +kernel
theorem dch_748 : decode method_3_code 748 = .ok (.iastore, 1) := by decide +kernel
theorem dch_749 : decode method_3_code 749 = .ok (.dup, 1) := by decide +kernel
theorem dch_750 : decode method_3_code 750 = .ok (.bipush 63, 2) := by decide +kernel
theorem dch_752 : decode method_3_code 752 = .ok (.bipush 64, 2) := by decide +kernel
theorem dch_754 : decode method_3_code 754 = .ok (.iastore, 1) := by decide +kernel
theorem dch_755 : decode method_3_code 755 = .ok (.astore 5, 2) := by decide +kernel
theorem dch_757 : decode method_3_code 757 = .ok (.aload 5, 2) := by decide +kernel
theorem dch_759 : decode method_3_code 759 = .ok (.iload_n 1, 1) := by decide +kernel
theorem dch_760 : decode method_3_code 760 = .ok (.iload_n 1, 1) := by decide +kernel
theorem dch_761 : decode method_3_code 761 = .ok (.iastore, 1) := by decide +kernel
theorem dch_762 : decode method_3_code 762 = .ok (.aload_n 0, 1) := by decide +kernel
theorem dch_763 : decode method_3_code 763 = .ok (.aload 4, 2) := by decide +kernel
theorem dch_765 : decode method_3_code 765 = .ok (.iload_n 1, 1) := by decide +kernel
theorem dch_766 : decode method_3_code 766 = .ok (.iconst 1, 1) := by decide +kernel
theorem dch_767 : decode method_3_code 767 = .ok (.iadd, 1) := by decide +kernel
theorem dch_768 : decode method_3_code 768 = .ok (.aload 5, 2) := by decide +kernel
theorem dch_770 : decode method_3_code 770 = .ok (.invokevirtual 19, 3) := by decide +kernel
theorem dch_773 : decode method_3_code 773 = .ok (.aload_n 0, 1) := by decide +kernel
theorem dch_774 : decode method_3_code 774 = .ok (.iload_n 2, 1) := by decide +kernel
theorem dch_775 : decode method_3_code 775 = .ok (.invokevirtual 23, 3) := by decide +kernel
theorem dch_778 : decode method_3_code 778 = .ok (.iload_n 1, 1) := by decide +kernel
theorem dch_779 : decode method_3_code 779 = .ok (.iload_n 2, 1) := by decide +kernel
theorem dch_780 : decode method_3_code 780 = .ok (.invokestatic 27, 3) := by decide +kernel
theorem dch_783 : decode method_3_code 783 = .ok (.lcmp, 1) := by decide +kernel
theorem dch_784 : decode method_3_code 784 = .ok (.ifCond .ne 35, 3) := by decide +kernel
theorem dch_787 : decode method_3_code 787 = .ok (.aload_n 0, 1) := by decide +kernel
theorem dch_788 : decode method_3_code 788 = .ok (.iload_n 3, 1) := by decide +kernel
theorem dch_789 : decode method_3_code 789 = .ok (.invokevirtual 23, 3) := by decide +kernel
theorem dch_792 : decode method_3_code 792 = .ok (.iload_n 1, 1) := by decide +kernel
theorem dch_793 : decode method_3_code 793 = .ok (.iload_n 3, 1) := by decide +kernel
theorem dch_794 : decode method_3_code 794 = .ok (.invokestatic 27, 3) := by decide +kernel
theorem dch_797 : decode method_3_code 797 = .ok (.lcmp, 1) := by decide +kernel
theorem dch_798 : decode method_3_code 798 = .ok (.ifCond .ne 21, 3) := by decide +kernel
theorem dch_801 : decode method_3_code 801 = .ok (.aload_n 0, 1) := by decide +kernel
theorem dch_802 : decode method_3_code 802 = .ok (.iload_n 1, 1) := by decide +kernel
theorem dch_803 : decode method_3_code 803 = .ok (.invokevirtual 23, 3) := by decide +kernel
theorem dch_806 : decode method_3_code 806 = .ok (.iload_n 1, 1) := by decide +kernel
theorem dch_807 : decode method_3_code 807 = .ok (.iload_n 1, 1) := by decide +kernel
theorem dch_808 : decode method_3_code 808 = .ok (.invokestatic 27, 3) := by decide +kernel
theorem dch_811 : decode method_3_code 811 = .ok (.lcmp, 1) := by decide +kernel
theorem dch_812 : decode method_3_code 812 = .ok (.ifCond .ne 7, 3) := by decide +kernel
theorem dch_815 : decode method_3_code 815 = .ok (.iconst 1, 1) := by decide +kernel
theorem dch_816 : decode method_3_code 816 = .ok (.goto 4, 3) := by decide +kernel
theorem dch_820 : decode method_3_code 820 = .ok (.ireturn, 1) := by decide +kernel
set_option maxRecDepth 65536 in
set_option maxHeartbeats 40000000 in
theorem c_chn (l' : Launch) (Z : State) (a0 : Array Value) (hw : ∀ d ∈ tables_1, d.before a0 Z = true) (o : Addr) (h0 : Heap) (n0 : Nat) (k q r : Nat) (hk : k < 64) (hq : q < 256) (hr : r < 64) (sy co le lc fa fb : Addr) (Zn : n0 ≤ h0.size) (g_o : n0 ≤ o) (g_sy : n0 ≤ sy) (g_co : n0 ≤ co) (g_le : n0 ≤ le) (g_lc : n0 ≤ lc) (g_fa : n0 ≤ fa) (g_fb : n0 ≤ fb) (hD7 : [o, sy, co, le, lc, fa, fb].Nodup) (X_o : Exa Z h0 o "leafpress/HuffmanCode") (F_m_aSymbols_o : Fld Z h0 o "leafpress/HuffmanCode" "m_aSymbols" "[I" (.ref sy)) (F_m_aCodes_o : Fld Z h0 o "leafpress/HuffmanCode" "m_aCodes" "[J" (.ref co)) (F_m_aLengths_o : Fld Z h0 o "leafpress/HuffmanCode" "m_aLengths" "[B" (.ref le)) (F_m_aLengthCounts_o : Fld Z h0 o "leafpress/HuffmanCode" "m_aLengthCounts" "[I" (.ref lc)) (F_m_aFirstCodes_o : Fld Z h0 o "leafpress/HuffmanCode" "m_aFirstCodes" "[J" (.ref fa)) (F_m_aFirstSymbols_o : Fld Z h0 o "leafpress/HuffmanCode" "m_aFirstSymbols" "[I" (.ref fb)) (F_m_nLongest_o : Fld Z h0 o "leafpress/HuffmanCode" "m_nLongest" "I" (.int (0 : Int32))) (F_m_nValues_o : Fld Z h0 o "leafpress/HuffmanCode" "m_nValues" "I" (.int (0 : Int32))) (F_m_bPacked_o : Fld Z h0 o "leafpress/HuffmanCode" "m_bPacked" "Z" (.int (0 : Int32))) (A_sy : Ary Z h0 sy .int 256 (fun _ => .int (0 : Int32))) (A_co : Ary Z h0 co .long 256 (fun _ => .long (0 : Int64))) (A_le : Ary Z h0 le .byte 264 (fun q => if 256 ≤ q then .int (-1) else .int 0)) (A_lc : Ary Z h0 lc .int 64 (fun _ => .int (0 : Int32))) (A_fa : Ary Z h0 fa .long 64 (fun _ => .long (0 : Int64))) (A_fb : Ary Z h0 fb .int 64 (fun _ => .int (0 : Int32))) :
    Con l' Z (⟨"leafpress/HuffmanCodeCodePinLaw", "chain", "(Lleafpress/HuffmanCode;III)Z"⟩ : MethodName) method_3_code 6 (some .boolean) ({ frames := 3, cells := 2, slots := 128, locals := 59 } : Room) #[(.ref o), (.int (Int32.ofNat k)), (.int (Int32.ofNat q)), (.int (Int32.ofNat r))] h0 n0 (fun v h => v = some (.int 1)) := by
  refine Con.of (plainFor_of_name (by first | (simp [plainName, overriddenIn]; done) | decide +kernel)) (L0 := #[.val (.ref o), .val (.int (Int32.ofNat k)), .val (.int (Int32.ofNat q)), .val (.int (Int32.ofNat r)), .unset, .unset]) (fun m => by first | (simp [entryFrame, mkF, argsToLocals, Value.category]; done) | rfl) ?_
  intro p e s m below meth c T C S
  have Kp := Keep.refl h0 []
  have ne_o_sy : o ≠ sy := nd hD7 0 1 (show (0 : Nat) < 1 by decide) (show (1 : Nat) < 7 by decide)
  have ne_o_co : o ≠ co := nd hD7 0 2 (show (0 : Nat) < 2 by decide) (show (2 : Nat) < 7 by decide)
  have ne_o_le : o ≠ le := nd hD7 0 3 (show (0 : Nat) < 3 by decide) (show (3 : Nat) < 7 by decide)
  have ne_o_lc : o ≠ lc := nd hD7 0 4 (show (0 : Nat) < 4 by decide) (show (4 : Nat) < 7 by decide)
  have ne_o_fa : o ≠ fa := nd hD7 0 5 (show (0 : Nat) < 5 by decide) (show (5 : Nat) < 7 by decide)
  have ne_o_fb : o ≠ fb := nd hD7 0 6 (show (0 : Nat) < 6 by decide) (show (6 : Nat) < 7 by decide)
  have ne_sy_co : sy ≠ co := nd hD7 1 2 (show (1 : Nat) < 2 by decide) (show (2 : Nat) < 7 by decide)
  have ne_sy_le : sy ≠ le := nd hD7 1 3 (show (1 : Nat) < 3 by decide) (show (3 : Nat) < 7 by decide)
  have ne_sy_lc : sy ≠ lc := nd hD7 1 4 (show (1 : Nat) < 4 by decide) (show (4 : Nat) < 7 by decide)
  have ne_sy_fa : sy ≠ fa := nd hD7 1 5 (show (1 : Nat) < 5 by decide) (show (5 : Nat) < 7 by decide)
  have ne_sy_fb : sy ≠ fb := nd hD7 1 6 (show (1 : Nat) < 6 by decide) (show (6 : Nat) < 7 by decide)
  have ne_co_le : co ≠ le := nd hD7 2 3 (show (2 : Nat) < 3 by decide) (show (3 : Nat) < 7 by decide)
  have ne_co_lc : co ≠ lc := nd hD7 2 4 (show (2 : Nat) < 4 by decide) (show (4 : Nat) < 7 by decide)
  have ne_co_fa : co ≠ fa := nd hD7 2 5 (show (2 : Nat) < 5 by decide) (show (5 : Nat) < 7 by decide)
  have ne_co_fb : co ≠ fb := nd hD7 2 6 (show (2 : Nat) < 6 by decide) (show (6 : Nat) < 7 by decide)
  have ne_le_lc : le ≠ lc := nd hD7 3 4 (show (3 : Nat) < 4 by decide) (show (4 : Nat) < 7 by decide)
  have ne_le_fa : le ≠ fa := nd hD7 3 5 (show (3 : Nat) < 5 by decide) (show (5 : Nat) < 7 by decide)
  have ne_le_fb : le ≠ fb := nd hD7 3 6 (show (3 : Nat) < 6 by decide) (show (6 : Nat) < 7 by decide)
  have ne_lc_fa : lc ≠ fa := nd hD7 4 5 (show (4 : Nat) < 5 by decide) (show (5 : Nat) < 7 by decide)
  have ne_lc_fb : lc ≠ fb := nd hD7 4 6 (show (4 : Nat) < 6 by decide) (show (6 : Nat) < 7 by decide)
  have ne_fa_fb : fa ≠ fb := nd hD7 5 6 (show (5 : Nat) < 6 by decide) (show (6 : Nat) < 7 by decide)
  have lt_o := X_o.lt
  have lt_sy := A_sy.lt
  have lt_co := A_co.lt
  have lt_le := A_le.lt
  have lt_lc := A_lc.lt
  have lt_fa := A_fa.lt
  have lt_fb := A_fb.lt
  refine g_bipush C S (64 : Int32) dch_0 (pc' := 2) rfl rfl ?_
  refine g_newarray C S (N := 64) (cap := 64) dch_2 (hw _ (List.mem_of_getElem? (i := 9) rfl)) (by decide) (by decide) (by decide) (by decide) (by decide) (pc' := 4) rfl (fun T80 h80 a80 S g80 E80 A_a80 => ?_)
  have sz_a80 : h0.size ≤ a80 := ge_of g80 Kp.1
  have ge_a80 : n0 ≤ a80 := ge_of g80 Zn
  have Kp := Kp.ext E80
  have Zn := Nat.le_trans Zn E80.1
  have A_a80 : Ary Z h80 a80 .int 64 (fun _ => (.int (0 : Int32))) := A_a80
  have A_a80 : Ary Z h80 a80 .int 64 (fun q => if q < 0 then .int (Int32.ofNat q) else .int (0 : Int32)) := A_a80.cg fun q hq => (if_neg (Nat.not_lt_zero q)).symm
  refine g_dup C S dch_4 (pc' := 5) rfl rfl ?_
  refine g_iconst C S (0 : Int32) dch_5 (pc' := 6) rfl rfl ?_
  refine g_iconst C S (0 : Int32) dch_6 (pc' := 7) rfl rfl ?_
  refine g_iastore C S (i := 0) dch_7 A_a80 (by decide) (by decide) ge_a80 (pc' := 8) rfl (fun T81 h81 S W81 B81 => ?_)
  have Zn := Nat.le_trans Zn (Nat.le_of_eq W81.size.symm)
  have A_a80 := B81
  have A_a80 := A_a80.cg (up_set (F := fun q => .int (Int32.ofNat q)) (G := fun _ => .int (0 : Int32)) (M := 0) 64 rfl)
  have Kp := Kp.wr W81 (Or.inr sz_a80)
  refine g_dup C S dch_8 (pc' := 9) rfl rfl ?_
  refine g_iconst C S (1 : Int32) dch_9 (pc' := 10) rfl rfl ?_
  refine g_iconst C S (1 : Int32) dch_10 (pc' := 11) rfl rfl ?_
  refine g_iastore C S (i := 1) dch_11 A_a80 (by decide) (by decide) ge_a80 (pc' := 12) rfl (fun T82 h82 S W82 B82 => ?_)
  have Zn := Nat.le_trans Zn (Nat.le_of_eq W82.size.symm)
  have A_a80 := B82
  have A_a80 := A_a80.cg (up_set (F := fun q => .int (Int32.ofNat q)) (G := fun _ => .int (0 : Int32)) (M := 1) 64 rfl)
  have Kp := Kp.wr W82 (Or.inr sz_a80)
  refine g_dup C S dch_12 (pc' := 13) rfl rfl ?_
  refine g_iconst C S (2 : Int32) dch_13 (pc' := 14) rfl rfl ?_
  refine g_iconst C S (2 : Int32) dch_14 (pc' := 15) rfl rfl ?_
  refine g_iastore C S (i := 2) dch_15 A_a80 (by decide) (by decide) ge_a80 (pc' := 16) rfl (fun T83 h83 S W83 B83 => ?_)
  have Zn := Nat.le_trans Zn (Nat.le_of_eq W83.size.symm)
  have A_a80 := B83
  have A_a80 := A_a80.cg (up_set (F := fun q => .int (Int32.ofNat q)) (G := fun _ => .int (0 : Int32)) (M := 2) 64 rfl)
  have Kp := Kp.wr W83 (Or.inr sz_a80)
  refine g_dup C S dch_16 (pc' := 17) rfl rfl ?_
  refine g_iconst C S (3 : Int32) dch_17 (pc' := 18) rfl rfl ?_
  refine g_iconst C S (3 : Int32) dch_18 (pc' := 19) rfl rfl ?_
  refine g_iastore C S (i := 3) dch_19 A_a80 (by decide) (by decide) ge_a80 (pc' := 20) rfl (fun T84 h84 S W84 B84 => ?_)
  have Zn := Nat.le_trans Zn (Nat.le_of_eq W84.size.symm)
  have A_a80 := B84
  have A_a80 := A_a80.cg (up_set (F := fun q => .int (Int32.ofNat q)) (G := fun _ => .int (0 : Int32)) (M := 3) 64 rfl)
  have Kp := Kp.wr W84 (Or.inr sz_a80)
  refine g_dup C S dch_20 (pc' := 21) rfl rfl ?_
  refine g_iconst C S (4 : Int32) dch_21 (pc' := 22) rfl rfl ?_
  refine g_iconst C S (4 : Int32) dch_22 (pc' := 23) rfl rfl ?_
  refine g_iastore C S (i := 4) dch_23 A_a80 (by decide) (by decide) ge_a80 (pc' := 24) rfl (fun T85 h85 S W85 B85 => ?_)
  have Zn := Nat.le_trans Zn (Nat.le_of_eq W85.size.symm)
  have A_a80 := B85
  have A_a80 := A_a80.cg (up_set (F := fun q => .int (Int32.ofNat q)) (G := fun _ => .int (0 : Int32)) (M := 4) 64 rfl)
  have Kp := Kp.wr W85 (Or.inr sz_a80)
  refine g_dup C S dch_24 (pc' := 25) rfl rfl ?_
  refine g_iconst C S (5 : Int32) dch_25 (pc' := 26) rfl rfl ?_
  refine g_iconst C S (5 : Int32) dch_26 (pc' := 27) rfl rfl ?_
  refine g_iastore C S (i := 5) dch_27 A_a80 (by decide) (by decide) ge_a80 (pc' := 28) rfl (fun T86 h86 S W86 B86 => ?_)
  have Zn := Nat.le_trans Zn (Nat.le_of_eq W86.size.symm)
  have A_a80 := B86
  have A_a80 := A_a80.cg (up_set (F := fun q => .int (Int32.ofNat q)) (G := fun _ => .int (0 : Int32)) (M := 5) 64 rfl)
  have Kp := Kp.wr W86 (Or.inr sz_a80)
  refine g_dup C S dch_28 (pc' := 29) rfl rfl ?_
  refine g_bipush C S (6 : Int32) dch_29 (pc' := 31) rfl rfl ?_
  refine g_bipush C S (6 : Int32) dch_31 (pc' := 33) rfl rfl ?_
  refine g_iastore C S (i := 6) dch_33 A_a80 (by decide) (by decide) ge_a80 (pc' := 34) rfl (fun T87 h87 S W87 B87 => ?_)
  have Zn := Nat.le_trans Zn (Nat.le_of_eq W87.size.symm)
  have A_a80 := B87
  have A_a80 := A_a80.cg (up_set (F := fun q => .int (Int32.ofNat q)) (G := fun _ => .int (0 : Int32)) (M := 6) 64 rfl)
  have Kp := Kp.wr W87 (Or.inr sz_a80)
  refine g_dup C S dch_34 (pc' := 35) rfl rfl ?_
  refine g_bipush C S (7 : Int32) dch_35 (pc' := 37) rfl rfl ?_
  refine g_bipush C S (7 : Int32) dch_37 (pc' := 39) rfl rfl ?_
  refine g_iastore C S (i := 7) dch_39 A_a80 (by decide) (by decide) ge_a80 (pc' := 40) rfl (fun T88 h88 S W88 B88 => ?_)
  have Zn := Nat.le_trans Zn (Nat.le_of_eq W88.size.symm)
  have A_a80 := B88
  have A_a80 := A_a80.cg (up_set (F := fun q => .int (Int32.ofNat q)) (G := fun _ => .int (0 : Int32)) (M := 7) 64 rfl)
  have Kp := Kp.wr W88 (Or.inr sz_a80)
  refine g_dup C S dch_40 (pc' := 41) rfl rfl ?_
  refine g_bipush C S (8 : Int32) dch_41 (pc' := 43) rfl rfl ?_
  refine g_bipush C S (8 : Int32) dch_43 (pc' := 45) rfl rfl ?_
  refine g_iastore C S (i := 8) dch_45 A_a80 (by decide) (by decide) ge_a80 (pc' := 46) rfl (fun T89 h89 S W89 B89 => ?_)
  have Zn := Nat.le_trans Zn (Nat.le_of_eq W89.size.symm)
  have A_a80 := B89
  have A_a80 := A_a80.cg (up_set (F := fun q => .int (Int32.ofNat q)) (G := fun _ => .int (0 : Int32)) (M := 8) 64 rfl)
  have Kp := Kp.wr W89 (Or.inr sz_a80)
  refine g_dup C S dch_46 (pc' := 47) rfl rfl ?_
  refine g_bipush C S (9 : Int32) dch_47 (pc' := 49) rfl rfl ?_
  refine g_bipush C S (9 : Int32) dch_49 (pc' := 51) rfl rfl ?_
  refine g_iastore C S (i := 9) dch_51 A_a80 (by decide) (by decide) ge_a80 (pc' := 52) rfl (fun T90 h90 S W90 B90 => ?_)
  have Zn := Nat.le_trans Zn (Nat.le_of_eq W90.size.symm)
  have A_a80 := B90
  have A_a80 := A_a80.cg (up_set (F := fun q => .int (Int32.ofNat q)) (G := fun _ => .int (0 : Int32)) (M := 9) 64 rfl)
  have Kp := Kp.wr W90 (Or.inr sz_a80)
  refine g_dup C S dch_52 (pc' := 53) rfl rfl ?_
  refine g_bipush C S (10 : Int32) dch_53 (pc' := 55) rfl rfl ?_
  refine g_bipush C S (10 : Int32) dch_55 (pc' := 57) rfl rfl ?_
  refine g_iastore C S (i := 10) dch_57 A_a80 (by decide) (by decide) ge_a80 (pc' := 58) rfl (fun T91 h91 S W91 B91 => ?_)
  have Zn := Nat.le_trans Zn (Nat.le_of_eq W91.size.symm)
  have A_a80 := B91
  have A_a80 := A_a80.cg (up_set (F := fun q => .int (Int32.ofNat q)) (G := fun _ => .int (0 : Int32)) (M := 10) 64 rfl)
  have Kp := Kp.wr W91 (Or.inr sz_a80)
  refine g_dup C S dch_58 (pc' := 59) rfl rfl ?_
  refine g_bipush C S (11 : Int32) dch_59 (pc' := 61) rfl rfl ?_
  refine g_bipush C S (11 : Int32) dch_61 (pc' := 63) rfl rfl ?_
  refine g_iastore C S (i := 11) dch_63 A_a80 (by decide) (by decide) ge_a80 (pc' := 64) rfl (fun T92 h92 S W92 B92 => ?_)
  have Zn := Nat.le_trans Zn (Nat.le_of_eq W92.size.symm)
  have A_a80 := B92
  have A_a80 := A_a80.cg (up_set (F := fun q => .int (Int32.ofNat q)) (G := fun _ => .int (0 : Int32)) (M := 11) 64 rfl)
  have Kp := Kp.wr W92 (Or.inr sz_a80)
  refine g_dup C S dch_64 (pc' := 65) rfl rfl ?_
  refine g_bipush C S (12 : Int32) dch_65 (pc' := 67) rfl rfl ?_
  refine g_bipush C S (12 : Int32) dch_67 (pc' := 69) rfl rfl ?_
  refine g_iastore C S (i := 12) dch_69 A_a80 (by decide) (by decide) ge_a80 (pc' := 70) rfl (fun T93 h93 S W93 B93 => ?_)
  have Zn := Nat.le_trans Zn (Nat.le_of_eq W93.size.symm)
  have A_a80 := B93
  have A_a80 := A_a80.cg (up_set (F := fun q => .int (Int32.ofNat q)) (G := fun _ => .int (0 : Int32)) (M := 12) 64 rfl)
  have Kp := Kp.wr W93 (Or.inr sz_a80)
  refine g_dup C S dch_70 (pc' := 71) rfl rfl ?_
  refine g_bipush C S (13 : Int32) dch_71 (pc' := 73) rfl rfl ?_
  refine g_bipush C S (13 : Int32) dch_73 (pc' := 75) rfl rfl ?_
  refine g_iastore C S (i := 13) dch_75 A_a80 (by decide) (by decide) ge_a80 (pc' := 76) rfl (fun T94 h94 S W94 B94 => ?_)
  have Zn := Nat.le_trans Zn (Nat.le_of_eq W94.size.symm)
  have A_a80 := B94
  have A_a80 := A_a80.cg (up_set (F := fun q => .int (Int32.ofNat q)) (G := fun _ => .int (0 : Int32)) (M := 13) 64 rfl)
  have Kp := Kp.wr W94 (Or.inr sz_a80)
  refine g_dup C S dch_76 (pc' := 77) rfl rfl ?_
  refine g_bipush C S (14 : Int32) dch_77 (pc' := 79) rfl rfl ?_
  refine g_bipush C S (14 : Int32) dch_79 (pc' := 81) rfl rfl ?_
  refine g_iastore C S (i := 14) dch_81 A_a80 (by decide) (by decide) ge_a80 (pc' := 82) rfl (fun T95 h95 S W95 B95 => ?_)
  have Zn := Nat.le_trans Zn (Nat.le_of_eq W95.size.symm)
  have A_a80 := B95
  have A_a80 := A_a80.cg (up_set (F := fun q => .int (Int32.ofNat q)) (G := fun _ => .int (0 : Int32)) (M := 14) 64 rfl)
  have Kp := Kp.wr W95 (Or.inr sz_a80)
  refine g_dup C S dch_82 (pc' := 83) rfl rfl ?_
  refine g_bipush C S (15 : Int32) dch_83 (pc' := 85) rfl rfl ?_
  refine g_bipush C S (15 : Int32) dch_85 (pc' := 87) rfl rfl ?_
  refine g_iastore C S (i := 15) dch_87 A_a80 (by decide) (by decide) ge_a80 (pc' := 88) rfl (fun T96 h96 S W96 B96 => ?_)
  have Zn := Nat.le_trans Zn (Nat.le_of_eq W96.size.symm)
  have A_a80 := B96
  have A_a80 := A_a80.cg (up_set (F := fun q => .int (Int32.ofNat q)) (G := fun _ => .int (0 : Int32)) (M := 15) 64 rfl)
  have Kp := Kp.wr W96 (Or.inr sz_a80)
  refine g_dup C S dch_88 (pc' := 89) rfl rfl ?_
  refine g_bipush C S (16 : Int32) dch_89 (pc' := 91) rfl rfl ?_
  refine g_bipush C S (16 : Int32) dch_91 (pc' := 93) rfl rfl ?_
  refine g_iastore C S (i := 16) dch_93 A_a80 (by decide) (by decide) ge_a80 (pc' := 94) rfl (fun T97 h97 S W97 B97 => ?_)
  have Zn := Nat.le_trans Zn (Nat.le_of_eq W97.size.symm)
  have A_a80 := B97
  have A_a80 := A_a80.cg (up_set (F := fun q => .int (Int32.ofNat q)) (G := fun _ => .int (0 : Int32)) (M := 16) 64 rfl)
  have Kp := Kp.wr W97 (Or.inr sz_a80)
  refine g_dup C S dch_94 (pc' := 95) rfl rfl ?_
  refine g_bipush C S (17 : Int32) dch_95 (pc' := 97) rfl rfl ?_
  refine g_bipush C S (17 : Int32) dch_97 (pc' := 99) rfl rfl ?_
  refine g_iastore C S (i := 17) dch_99 A_a80 (by decide) (by decide) ge_a80 (pc' := 100) rfl (fun T98 h98 S W98 B98 => ?_)
  have Zn := Nat.le_trans Zn (Nat.le_of_eq W98.size.symm)
  have A_a80 := B98
  have A_a80 := A_a80.cg (up_set (F := fun q => .int (Int32.ofNat q)) (G := fun _ => .int (0 : Int32)) (M := 17) 64 rfl)
  have Kp := Kp.wr W98 (Or.inr sz_a80)
  refine g_dup C S dch_100 (pc' := 101) rfl rfl ?_
  refine g_bipush C S (18 : Int32) dch_101 (pc' := 103) rfl rfl ?_
  refine g_bipush C S (18 : Int32) dch_103 (pc' := 105) rfl rfl ?_
  refine g_iastore C S (i := 18) dch_105 A_a80 (by decide) (by decide) ge_a80 (pc' := 106) rfl (fun T99 h99 S W99 B99 => ?_)
  have Zn := Nat.le_trans Zn (Nat.le_of_eq W99.size.symm)
  have A_a80 := B99
  have A_a80 := A_a80.cg (up_set (F := fun q => .int (Int32.ofNat q)) (G := fun _ => .int (0 : Int32)) (M := 18) 64 rfl)
  have Kp := Kp.wr W99 (Or.inr sz_a80)
  refine g_dup C S dch_106 (pc' := 107) rfl rfl ?_
  refine g_bipush C S (19 : Int32) dch_107 (pc' := 109) rfl rfl ?_
  refine g_bipush C S (19 : Int32) dch_109 (pc' := 111) rfl rfl ?_
  refine g_iastore C S (i := 19) dch_111 A_a80 (by decide) (by decide) ge_a80 (pc' := 112) rfl (fun T100 h100 S W100 B100 => ?_)
  have Zn := Nat.le_trans Zn (Nat.le_of_eq W100.size.symm)
  have A_a80 := B100
  have A_a80 := A_a80.cg (up_set (F := fun q => .int (Int32.ofNat q)) (G := fun _ => .int (0 : Int32)) (M := 19) 64 rfl)
  have Kp := Kp.wr W100 (Or.inr sz_a80)
  refine g_dup C S dch_112 (pc' := 113) rfl rfl ?_
  refine g_bipush C S (20 : Int32) dch_113 (pc' := 115) rfl rfl ?_
  refine g_bipush C S (20 : Int32) dch_115 (pc' := 117) rfl rfl ?_
  refine g_iastore C S (i := 20) dch_117 A_a80 (by decide) (by decide) ge_a80 (pc' := 118) rfl (fun T101 h101 S W101 B101 => ?_)
  have Zn := Nat.le_trans Zn (Nat.le_of_eq W101.size.symm)
  have A_a80 := B101
  have A_a80 := A_a80.cg (up_set (F := fun q => .int (Int32.ofNat q)) (G := fun _ => .int (0 : Int32)) (M := 20) 64 rfl)
  have Kp := Kp.wr W101 (Or.inr sz_a80)
  refine g_dup C S dch_118 (pc' := 119) rfl rfl ?_
  refine g_bipush C S (21 : Int32) dch_119 (pc' := 121) rfl rfl ?_
  refine g_bipush C S (21 : Int32) dch_121 (pc' := 123) rfl rfl ?_
  refine g_iastore C S (i := 21) dch_123 A_a80 (by decide) (by decide) ge_a80 (pc' := 124) rfl (fun T102 h102 S W102 B102 => ?_)
  have Zn := Nat.le_trans Zn (Nat.le_of_eq W102.size.symm)
  have A_a80 := B102
  have A_a80 := A_a80.cg (up_set (F := fun q => .int (Int32.ofNat q)) (G := fun _ => .int (0 : Int32)) (M := 21) 64 rfl)
  have Kp := Kp.wr W102 (Or.inr sz_a80)
  refine g_dup C S dch_124 (pc' := 125) rfl rfl ?_
  refine g_bipush C S (22 : Int32) dch_125 (pc' := 127) rfl rfl ?_
  refine g_bipush C S (22 : Int32) dch_127 (pc' := 129) rfl rfl ?_
  refine g_iastore C S (i := 22) dch_129 A_a80 (by decide) (by decide) ge_a80 (pc' := 130) rfl (fun T103 h103 S W103 B103 => ?_)
  have Zn := Nat.le_trans Zn (Nat.le_of_eq W103.size.symm)
  have A_a80 := B103
  have A_a80 := A_a80.cg (up_set (F := fun q => .int (Int32.ofNat q)) (G := fun _ => .int (0 : Int32)) (M := 22) 64 rfl)
  have Kp := Kp.wr W103 (Or.inr sz_a80)
  refine g_dup C S dch_130 (pc' := 131) rfl rfl ?_
  refine g_bipush C S (23 : Int32) dch_131 (pc' := 133) rfl rfl ?_
  refine g_bipush C S (23 : Int32) dch_133 (pc' := 135) rfl rfl ?_
  refine g_iastore C S (i := 23) dch_135 A_a80 (by decide) (by decide) ge_a80 (pc' := 136) rfl (fun T104 h104 S W104 B104 => ?_)
  have Zn := Nat.le_trans Zn (Nat.le_of_eq W104.size.symm)
  have A_a80 := B104
  have A_a80 := A_a80.cg (up_set (F := fun q => .int (Int32.ofNat q)) (G := fun _ => .int (0 : Int32)) (M := 23) 64 rfl)
  have Kp := Kp.wr W104 (Or.inr sz_a80)
  refine g_dup C S dch_136 (pc' := 137) rfl rfl ?_
  refine g_bipush C S (24 : Int32) dch_137 (pc' := 139) rfl rfl ?_
  refine g_bipush C S (24 : Int32) dch_139 (pc' := 141) rfl rfl ?_
  refine g_iastore C S (i := 24) dch_141 A_a80 (by decide) (by decide) ge_a80 (pc' := 142) rfl (fun T105 h105 S W105 B105 => ?_)
  have Zn := Nat.le_trans Zn (Nat.le_of_eq W105.size.symm)
  have A_a80 := B105
  have A_a80 := A_a80.cg (up_set (F := fun q => .int (Int32.ofNat q)) (G := fun _ => .int (0 : Int32)) (M := 24) 64 rfl)
  have Kp := Kp.wr W105 (Or.inr sz_a80)
  refine g_dup C S dch_142 (pc' := 143) rfl rfl ?_
  refine g_bipush C S (25 : Int32) dch_143 (pc' := 145) rfl rfl ?_
  refine g_bipush C S (25 : Int32) dch_145 (pc' := 147) rfl rfl ?_
  refine g_iastore C S (i := 25) dch_147 A_a80 (by decide) (by decide) ge_a80 (pc' := 148) rfl (fun T106 h106 S W106 B106 => ?_)
  have Zn := Nat.le_trans Zn (Nat.le_of_eq W106.size.symm)
  have A_a80 := B106
  have A_a80 := A_a80.cg (up_set (F := fun q => .int (Int32.ofNat q)) (G := fun _ => .int (0 : Int32)) (M := 25) 64 rfl)
  have Kp := Kp.wr W106 (Or.inr sz_a80)
  refine g_dup C S dch_148 (pc' := 149) rfl rfl ?_
  refine g_bipush C S (26 : Int32) dch_149 (pc' := 151) rfl rfl ?_
  refine g_bipush C S (26 : Int32) dch_151 (pc' := 153) rfl rfl ?_
  refine g_iastore C S (i := 26) dch_153 A_a80 (by decide) (by decide) ge_a80 (pc' := 154) rfl (fun T107 h107 S W107 B107 => ?_)
  have Zn := Nat.le_trans Zn (Nat.le_of_eq W107.size.symm)
  have A_a80 := B107
  have A_a80 := A_a80.cg (up_set (F := fun q => .int (Int32.ofNat q)) (G := fun _ => .int (0 : Int32)) (M := 26) 64 rfl)
  have Kp := Kp.wr W107 (Or.inr sz_a80)
  refine g_dup C S dch_154 (pc' := 155) rfl rfl ?_
  refine g_bipush C S (27 : Int32) dch_155 (pc' := 157) rfl rfl ?_
  refine g_bipush C S (27 : Int32) dch_157 (pc' := 159) rfl rfl ?_
  refine g_iastore C S (i := 27) dch_159 A_a80 (by decide) (by decide) ge_a80 (pc' := 160) rfl (fun T108 h108 S W108 B108 => ?_)
  have Zn := Nat.le_trans Zn (Nat.le_of_eq W108.size.symm)
  have A_a80 := B108
  have A_a80 := A_a80.cg (up_set (F := fun q => .int (Int32.ofNat q)) (G := fun _ => .int (0 : Int32)) (M := 27) 64 rfl)
  have Kp := Kp.wr W108 (Or.inr sz_a80)
  refine g_dup C S dch_160 (pc' := 161) rfl rfl ?_
  refine g_bipush C S (28 : Int32) dch_161 (pc' := 163) rfl rfl ?_
  refine g_bipush C S (28 : Int32) dch_163 (pc' := 165) rfl rfl ?_
  refine g_iastore C S (i := 28) dch_165 A_a80 (by decide) (by decide) ge_a80 (pc' := 166) rfl (fun T109 h109 S W109 B109 => ?_)
  have Zn := Nat.le_trans Zn (Nat.le_of_eq W109.size.symm)
  have A_a80 := B109
  have A_a80 := A_a80.cg (up_set (F := fun q => .int (Int32.ofNat q)) (G := fun _ => .int (0 : Int32)) (M := 28) 64 rfl)
  have Kp := Kp.wr W109 (Or.inr sz_a80)
  refine g_dup C S dch_166 (pc' := 167) rfl rfl ?_
  refine g_bipush C S (29 : Int32) dch_167 (pc' := 169) rfl rfl ?_
  refine g_bipush C S (29 : Int32) dch_169 (pc' := 171) rfl rfl ?_
  refine g_iastore C S (i := 29) dch_171 A_a80 (by decide) (by decide) ge_a80 (pc' := 172) rfl (fun T110 h110 S W110 B110 => ?_)
  have Zn := Nat.le_trans Zn (Nat.le_of_eq W110.size.symm)
  have A_a80 := B110
  have A_a80 := A_a80.cg (up_set (F := fun q => .int (Int32.ofNat q)) (G := fun _ => .int (0 : Int32)) (M := 29) 64 rfl)
  have Kp := Kp.wr W110 (Or.inr sz_a80)
  refine g_dup C S dch_172 (pc' := 173) rfl rfl ?_
  refine g_bipush C S (30 : Int32) dch_173 (pc' := 175) rfl rfl ?_
  refine g_bipush C S (30 : Int32) dch_175 (pc' := 177) rfl rfl ?_
  refine g_iastore C S (i := 30) dch_177 A_a80 (by decide) (by decide) ge_a80 (pc' := 178) rfl (fun T111 h111 S W111 B111 => ?_)
  have Zn := Nat.le_trans Zn (Nat.le_of_eq W111.size.symm)
  have A_a80 := B111
  have A_a80 := A_a80.cg (up_set (F := fun q => .int (Int32.ofNat q)) (G := fun _ => .int (0 : Int32)) (M := 30) 64 rfl)
  have Kp := Kp.wr W111 (Or.inr sz_a80)
  refine g_dup C S dch_178 (pc' := 179) rfl rfl ?_
  refine g_bipush C S (31 : Int32) dch_179 (pc' := 181) rfl rfl ?_
  refine g_bipush C S (31 : Int32) dch_181 (pc' := 183) rfl rfl ?_
  refine g_iastore C S (i := 31) dch_183 A_a80 (by decide) (by decide) ge_a80 (pc' := 184) rfl (fun T112 h112 S W112 B112 => ?_)
  have Zn := Nat.le_trans Zn (Nat.le_of_eq W112.size.symm)
  have A_a80 := B112
  have A_a80 := A_a80.cg (up_set (F := fun q => .int (Int32.ofNat q)) (G := fun _ => .int (0 : Int32)) (M := 31) 64 rfl)
  have Kp := Kp.wr W112 (Or.inr sz_a80)
  refine g_dup C S dch_184 (pc' := 185) rfl rfl ?_
  refine g_bipush C S (32 : Int32) dch_185 (pc' := 187) rfl rfl ?_
  refine g_bipush C S (32 : Int32) dch_187 (pc' := 189) rfl rfl ?_
  refine g_iastore C S (i := 32) dch_189 A_a80 (by decide) (by decide) ge_a80 (pc' := 190) rfl (fun T113 h113 S W113 B113 => ?_)
  have Zn := Nat.le_trans Zn (Nat.le_of_eq W113.size.symm)
  have A_a80 := B113
  have A_a80 := A_a80.cg (up_set (F := fun q => .int (Int32.ofNat q)) (G := fun _ => .int (0 : Int32)) (M := 32) 64 rfl)
  have Kp := Kp.wr W113 (Or.inr sz_a80)
  refine g_dup C S dch_190 (pc' := 191) rfl rfl ?_
  refine g_bipush C S (33 : Int32) dch_191 (pc' := 193) rfl rfl ?_
  refine g_bipush C S (33 : Int32) dch_193 (pc' := 195) rfl rfl ?_
  refine g_iastore C S (i := 33) dch_195 A_a80 (by decide) (by decide) ge_a80 (pc' := 196) rfl (fun T114 h114 S W114 B114 => ?_)
  have Zn := Nat.le_trans Zn (Nat.le_of_eq W114.size.symm)
  have A_a80 := B114
  have A_a80 := A_a80.cg (up_set (F := fun q => .int (Int32.ofNat q)) (G := fun _ => .int (0 : Int32)) (M := 33) 64 rfl)
  have Kp := Kp.wr W114 (Or.inr sz_a80)
  refine g_dup C S dch_196 (pc' := 197) rfl rfl ?_
  refine g_bipush C S (34 : Int32) dch_197 (pc' := 199) rfl rfl ?_
  refine g_bipush C S (34 : Int32) dch_199 (pc' := 201) rfl rfl ?_
  refine g_iastore C S (i := 34) dch_201 A_a80 (by decide) (by decide) ge_a80 (pc' := 202) rfl (fun T115 h115 S W115 B115 => ?_)
  have Zn := Nat.le_trans Zn (Nat.le_of_eq W115.size.symm)
  have A_a80 := B115
  have A_a80 := A_a80.cg (up_set (F := fun q => .int (Int32.ofNat q)) (G := fun _ => .int (0 : Int32)) (M := 34) 64 rfl)
  have Kp := Kp.wr W115 (Or.inr sz_a80)
  refine g_dup C S dch_202 (pc' := 203) rfl rfl ?_
  refine g_bipush C S (35 : Int32) dch_203 (pc' := 205) rfl rfl ?_
  refine g_bipush C S (35 : Int32) dch_205 (pc' := 207) rfl rfl ?_
  refine g_iastore C S (i := 35) dch_207 A_a80 (by decide) (by decide) ge_a80 (pc' := 208) rfl (fun T116 h116 S W116 B116 => ?_)
  have Zn := Nat.le_trans Zn (Nat.le_of_eq W116.size.symm)
  have A_a80 := B116
  have A_a80 := A_a80.cg (up_set (F := fun q => .int (Int32.ofNat q)) (G := fun _ => .int (0 : Int32)) (M := 35) 64 rfl)
  have Kp := Kp.wr W116 (Or.inr sz_a80)
  refine g_dup C S dch_208 (pc' := 209) rfl rfl ?_
  refine g_bipush C S (36 : Int32) dch_209 (pc' := 211) rfl rfl ?_
  refine g_bipush C S (36 : Int32) dch_211 (pc' := 213) rfl rfl ?_
  refine g_iastore C S (i := 36) dch_213 A_a80 (by decide) (by decide) ge_a80 (pc' := 214) rfl (fun T117 h117 S W117 B117 => ?_)
  have Zn := Nat.le_trans Zn (Nat.le_of_eq W117.size.symm)
  have A_a80 := B117
  have A_a80 := A_a80.cg (up_set (F := fun q => .int (Int32.ofNat q)) (G := fun _ => .int (0 : Int32)) (M := 36) 64 rfl)
  have Kp := Kp.wr W117 (Or.inr sz_a80)
  refine g_dup C S dch_214 (pc' := 215) rfl rfl ?_
  refine g_bipush C S (37 : Int32) dch_215 (pc' := 217) rfl rfl ?_
  refine g_bipush C S (37 : Int32) dch_217 (pc' := 219) rfl rfl ?_
  refine g_iastore C S (i := 37) dch_219 A_a80 (by decide) (by decide) ge_a80 (pc' := 220) rfl (fun T118 h118 S W118 B118 => ?_)
  have Zn := Nat.le_trans Zn (Nat.le_of_eq W118.size.symm)
  have A_a80 := B118
  have A_a80 := A_a80.cg (up_set (F := fun q => .int (Int32.ofNat q)) (G := fun _ => .int (0 : Int32)) (M := 37) 64 rfl)
  have Kp := Kp.wr W118 (Or.inr sz_a80)
  refine g_dup C S dch_220 (pc' := 221) rfl rfl ?_
  refine g_bipush C S (38 : Int32) dch_221 (pc' := 223) rfl rfl ?_
  refine g_bipush C S (38 : Int32) dch_223 (pc' := 225) rfl rfl ?_
  refine g_iastore C S (i := 38) dch_225 A_a80 (by decide) (by decide) ge_a80 (pc' := 226) rfl (fun T119 h119 S W119 B119 => ?_)
  have Zn := Nat.le_trans Zn (Nat.le_of_eq W119.size.symm)
  have A_a80 := B119
  have A_a80 := A_a80.cg (up_set (F := fun q => .int (Int32.ofNat q)) (G := fun _ => .int (0 : Int32)) (M := 38) 64 rfl)
  have Kp := Kp.wr W119 (Or.inr sz_a80)
  refine g_dup C S dch_226 (pc' := 227) rfl rfl ?_
  refine g_bipush C S (39 : Int32) dch_227 (pc' := 229) rfl rfl ?_
  refine g_bipush C S (39 : Int32) dch_229 (pc' := 231) rfl rfl ?_
  refine g_iastore C S (i := 39) dch_231 A_a80 (by decide) (by decide) ge_a80 (pc' := 232) rfl (fun T120 h120 S W120 B120 => ?_)
  have Zn := Nat.le_trans Zn (Nat.le_of_eq W120.size.symm)
  have A_a80 := B120
  have A_a80 := A_a80.cg (up_set (F := fun q => .int (Int32.ofNat q)) (G := fun _ => .int (0 : Int32)) (M := 39) 64 rfl)
  have Kp := Kp.wr W120 (Or.inr sz_a80)
  refine g_dup C S dch_232 (pc' := 233) rfl rfl ?_
  refine g_bipush C S (40 : Int32) dch_233 (pc' := 235) rfl rfl ?_
  refine g_bipush C S (40 : Int32) dch_235 (pc' := 237) rfl rfl ?_
  refine g_iastore C S (i := 40) dch_237 A_a80 (by decide) (by decide) ge_a80 (pc' := 238) rfl (fun T121 h121 S W121 B121 => ?_)
  have Zn := Nat.le_trans Zn (Nat.le_of_eq W121.size.symm)
  have A_a80 := B121
  have A_a80 := A_a80.cg (up_set (F := fun q => .int (Int32.ofNat q)) (G := fun _ => .int (0 : Int32)) (M := 40) 64 rfl)
  have Kp := Kp.wr W121 (Or.inr sz_a80)
  refine g_dup C S dch_238 (pc' := 239) rfl rfl ?_
  refine g_bipush C S (41 : Int32) dch_239 (pc' := 241) rfl rfl ?_
  refine g_bipush C S (41 : Int32) dch_241 (pc' := 243) rfl rfl ?_
  refine g_iastore C S (i := 41) dch_243 A_a80 (by decide) (by decide) ge_a80 (pc' := 244) rfl (fun T122 h122 S W122 B122 => ?_)
  have Zn := Nat.le_trans Zn (Nat.le_of_eq W122.size.symm)
  have A_a80 := B122
  have A_a80 := A_a80.cg (up_set (F := fun q => .int (Int32.ofNat q)) (G := fun _ => .int (0 : Int32)) (M := 41) 64 rfl)
  have Kp := Kp.wr W122 (Or.inr sz_a80)
  refine g_dup C S dch_244 (pc' := 245) rfl rfl ?_
  refine g_bipush C S (42 : Int32) dch_245 (pc' := 247) rfl rfl ?_
  refine g_bipush C S (42 : Int32) dch_247 (pc' := 249) rfl rfl ?_
  refine g_iastore C S (i := 42) dch_249 A_a80 (by decide) (by decide) ge_a80 (pc' := 250) rfl (fun T123 h123 S W123 B123 => ?_)
  have Zn := Nat.le_trans Zn (Nat.le_of_eq W123.size.symm)
  have A_a80 := B123
  have A_a80 := A_a80.cg (up_set (F := fun q => .int (Int32.ofNat q)) (G := fun _ => .int (0 : Int32)) (M := 42) 64 rfl)
  have Kp := Kp.wr W123 (Or.inr sz_a80)
  refine g_dup C S dch_250 (pc' := 251) rfl rfl ?_
  refine g_bipush C S (43 : Int32) dch_251 (pc' := 253) rfl rfl ?_
  refine g_bipush C S (43 : Int32) dch_253 (pc' := 255) rfl rfl ?_
  refine g_iastore C S (i := 43) dch_255 A_a80 (by decide) (by decide) ge_a80 (pc' := 256) rfl (fun T124 h124 S W124 B124 => ?_)
  have Zn := Nat.le_trans Zn (Nat.le_of_eq W124.size.symm)
  have A_a80 := B124
  have A_a80 := A_a80.cg (up_set (F := fun q => .int (Int32.ofNat q)) (G := fun _ => .int (0 : Int32)) (M := 43) 64 rfl)
  have Kp := Kp.wr W124 (Or.inr sz_a80)
  refine g_dup C S dch_256 (pc' := 257) rfl rfl ?_
  refine g_bipush C S (44 : Int32) dch_257 (pc' := 259) rfl rfl ?_
  refine g_bipush C S (44 : Int32) dch_259 (pc' := 261) rfl rfl ?_
  refine g_iastore C S (i := 44) dch_261 A_a80 (by decide) (by decide) ge_a80 (pc' := 262) rfl (fun T125 h125 S W125 B125 => ?_)
  have Zn := Nat.le_trans Zn (Nat.le_of_eq W125.size.symm)
  have A_a80 := B125
  have A_a80 := A_a80.cg (up_set (F := fun q => .int (Int32.ofNat q)) (G := fun _ => .int (0 : Int32)) (M := 44) 64 rfl)
  have Kp := Kp.wr W125 (Or.inr sz_a80)
  refine g_dup C S dch_262 (pc' := 263) rfl rfl ?_
  refine g_bipush C S (45 : Int32) dch_263 (pc' := 265) rfl rfl ?_
  refine g_bipush C S (45 : Int32) dch_265 (pc' := 267) rfl rfl ?_
  refine g_iastore C S (i := 45) dch_267 A_a80 (by decide) (by decide) ge_a80 (pc' := 268) rfl (fun T126 h126 S W126 B126 => ?_)
  have Zn := Nat.le_trans Zn (Nat.le_of_eq W126.size.symm)
  have A_a80 := B126
  have A_a80 := A_a80.cg (up_set (F := fun q => .int (Int32.ofNat q)) (G := fun _ => .int (0 : Int32)) (M := 45) 64 rfl)
  have Kp := Kp.wr W126 (Or.inr sz_a80)
  refine g_dup C S dch_268 (pc' := 269) rfl rfl ?_
  refine g_bipush C S (46 : Int32) dch_269 (pc' := 271) rfl rfl ?_
  refine g_bipush C S (46 : Int32) dch_271 (pc' := 273) rfl rfl ?_
  refine g_iastore C S (i := 46) dch_273 A_a80 (by decide) (by decide) ge_a80 (pc' := 274) rfl (fun T127 h127 S W127 B127 => ?_)
  have Zn := Nat.le_trans Zn (Nat.le_of_eq W127.size.symm)
  have A_a80 := B127
  have A_a80 := A_a80.cg (up_set (F := fun q => .int (Int32.ofNat q)) (G := fun _ => .int (0 : Int32)) (M := 46) 64 rfl)
  have Kp := Kp.wr W127 (Or.inr sz_a80)
  refine g_dup C S dch_274 (pc' := 275) rfl rfl ?_
  refine g_bipush C S (47 : Int32) dch_275 (pc' := 277) rfl rfl ?_
  refine g_bipush C S (47 : Int32) dch_277 (pc' := 279) rfl rfl ?_
  refine g_iastore C S (i := 47) dch_279 A_a80 (by decide) (by decide) ge_a80 (pc' := 280) rfl (fun T128 h128 S W128 B128 => ?_)
  have Zn := Nat.le_trans Zn (Nat.le_of_eq W128.size.symm)
  have A_a80 := B128
  have A_a80 := A_a80.cg (up_set (F := fun q => .int (Int32.ofNat q)) (G := fun _ => .int (0 : Int32)) (M := 47) 64 rfl)
  have Kp := Kp.wr W128 (Or.inr sz_a80)
  refine g_dup C S dch_280 (pc' := 281) rfl rfl ?_
  refine g_bipush C S (48 : Int32) dch_281 (pc' := 283) rfl rfl ?_
  refine g_bipush C S (48 : Int32) dch_283 (pc' := 285) rfl rfl ?_
  refine g_iastore C S (i := 48) dch_285 A_a80 (by decide) (by decide) ge_a80 (pc' := 286) rfl (fun T129 h129 S W129 B129 => ?_)
  have Zn := Nat.le_trans Zn (Nat.le_of_eq W129.size.symm)
  have A_a80 := B129
  have A_a80 := A_a80.cg (up_set (F := fun q => .int (Int32.ofNat q)) (G := fun _ => .int (0 : Int32)) (M := 48) 64 rfl)
  have Kp := Kp.wr W129 (Or.inr sz_a80)
  refine g_dup C S dch_286 (pc' := 287) rfl rfl ?_
  refine g_bipush C S (49 : Int32) dch_287 (pc' := 289) rfl rfl ?_
  refine g_bipush C S (49 : Int32) dch_289 (pc' := 291) rfl rfl ?_
  refine g_iastore C S (i := 49) dch_291 A_a80 (by decide) (by decide) ge_a80 (pc' := 292) rfl (fun T130 h130 S W130 B130 => ?_)
  have Zn := Nat.le_trans Zn (Nat.le_of_eq W130.size.symm)
  have A_a80 := B130
  have A_a80 := A_a80.cg (up_set (F := fun q => .int (Int32.ofNat q)) (G := fun _ => .int (0 : Int32)) (M := 49) 64 rfl)
  have Kp := Kp.wr W130 (Or.inr sz_a80)
  refine g_dup C S dch_292 (pc' := 293) rfl rfl ?_
  refine g_bipush C S (50 : Int32) dch_293 (pc' := 295) rfl rfl ?_
  refine g_bipush C S (50 : Int32) dch_295 (pc' := 297) rfl rfl ?_
  refine g_iastore C S (i := 50) dch_297 A_a80 (by decide) (by decide) ge_a80 (pc' := 298) rfl (fun T131 h131 S W131 B131 => ?_)
  have Zn := Nat.le_trans Zn (Nat.le_of_eq W131.size.symm)
  have A_a80 := B131
  have A_a80 := A_a80.cg (up_set (F := fun q => .int (Int32.ofNat q)) (G := fun _ => .int (0 : Int32)) (M := 50) 64 rfl)
  have Kp := Kp.wr W131 (Or.inr sz_a80)
  refine g_dup C S dch_298 (pc' := 299) rfl rfl ?_
  refine g_bipush C S (51 : Int32) dch_299 (pc' := 301) rfl rfl ?_
  refine g_bipush C S (51 : Int32) dch_301 (pc' := 303) rfl rfl ?_
  refine g_iastore C S (i := 51) dch_303 A_a80 (by decide) (by decide) ge_a80 (pc' := 304) rfl (fun T132 h132 S W132 B132 => ?_)
  have Zn := Nat.le_trans Zn (Nat.le_of_eq W132.size.symm)
  have A_a80 := B132
  have A_a80 := A_a80.cg (up_set (F := fun q => .int (Int32.ofNat q)) (G := fun _ => .int (0 : Int32)) (M := 51) 64 rfl)
  have Kp := Kp.wr W132 (Or.inr sz_a80)
  refine g_dup C S dch_304 (pc' := 305) rfl rfl ?_
  refine g_bipush C S (52 : Int32) dch_305 (pc' := 307) rfl rfl ?_
  refine g_bipush C S (52 : Int32) dch_307 (pc' := 309) rfl rfl ?_
  refine g_iastore C S (i := 52) dch_309 A_a80 (by decide) (by decide) ge_a80 (pc' := 310) rfl (fun T133 h133 S W133 B133 => ?_)
  have Zn := Nat.le_trans Zn (Nat.le_of_eq W133.size.symm)
  have A_a80 := B133
  have A_a80 := A_a80.cg (up_set (F := fun q => .int (Int32.ofNat q)) (G := fun _ => .int (0 : Int32)) (M := 52) 64 rfl)
  have Kp := Kp.wr W133 (Or.inr sz_a80)
  refine g_dup C S dch_310 (pc' := 311) rfl rfl ?_
  refine g_bipush C S (53 : Int32) dch_311 (pc' := 313) rfl rfl ?_
  refine g_bipush C S (53 : Int32) dch_313 (pc' := 315) rfl rfl ?_
  refine g_iastore C S (i := 53) dch_315 A_a80 (by decide) (by decide) ge_a80 (pc' := 316) rfl (fun T134 h134 S W134 B134 => ?_)
  have Zn := Nat.le_trans Zn (Nat.le_of_eq W134.size.symm)
  have A_a80 := B134
  have A_a80 := A_a80.cg (up_set (F := fun q => .int (Int32.ofNat q)) (G := fun _ => .int (0 : Int32)) (M := 53) 64 rfl)
  have Kp := Kp.wr W134 (Or.inr sz_a80)
  refine g_dup C S dch_316 (pc' := 317) rfl rfl ?_
  refine g_bipush C S (54 : Int32) dch_317 (pc' := 319) rfl rfl ?_
  refine g_bipush C S (54 : Int32) dch_319 (pc' := 321) rfl rfl ?_
  refine g_iastore C S (i := 54) dch_321 A_a80 (by decide) (by decide) ge_a80 (pc' := 322) rfl (fun T135 h135 S W135 B135 => ?_)
  have Zn := Nat.le_trans Zn (Nat.le_of_eq W135.size.symm)
  have A_a80 := B135
  have A_a80 := A_a80.cg (up_set (F := fun q => .int (Int32.ofNat q)) (G := fun _ => .int (0 : Int32)) (M := 54) 64 rfl)
  have Kp := Kp.wr W135 (Or.inr sz_a80)
  refine g_dup C S dch_322 (pc' := 323) rfl rfl ?_
  refine g_bipush C S (55 : Int32) dch_323 (pc' := 325) rfl rfl ?_
  refine g_bipush C S (55 : Int32) dch_325 (pc' := 327) rfl rfl ?_
  refine g_iastore C S (i := 55) dch_327 A_a80 (by decide) (by decide) ge_a80 (pc' := 328) rfl (fun T136 h136 S W136 B136 => ?_)
  have Zn := Nat.le_trans Zn (Nat.le_of_eq W136.size.symm)
  have A_a80 := B136
  have A_a80 := A_a80.cg (up_set (F := fun q => .int (Int32.ofNat q)) (G := fun _ => .int (0 : Int32)) (M := 55) 64 rfl)
  have Kp := Kp.wr W136 (Or.inr sz_a80)
  refine g_dup C S dch_328 (pc' := 329) rfl rfl ?_
  refine g_bipush C S (56 : Int32) dch_329 (pc' := 331) rfl rfl ?_
  refine g_bipush C S (56 : Int32) dch_331 (pc' := 333) rfl rfl ?_
  refine g_iastore C S (i := 56) dch_333 A_a80 (by decide) (by decide) ge_a80 (pc' := 334) rfl (fun T137 h137 S W137 B137 => ?_)
  have Zn := Nat.le_trans Zn (Nat.le_of_eq W137.size.symm)
  have A_a80 := B137
  have A_a80 := A_a80.cg (up_set (F := fun q => .int (Int32.ofNat q)) (G := fun _ => .int (0 : Int32)) (M := 56) 64 rfl)
  have Kp := Kp.wr W137 (Or.inr sz_a80)
  refine g_dup C S dch_334 (pc' := 335) rfl rfl ?_
  refine g_bipush C S (57 : Int32) dch_335 (pc' := 337) rfl rfl ?_
  refine g_bipush C S (57 : Int32) dch_337 (pc' := 339) rfl rfl ?_
  refine g_iastore C S (i := 57) dch_339 A_a80 (by decide) (by decide) ge_a80 (pc' := 340) rfl (fun T138 h138 S W138 B138 => ?_)
  have Zn := Nat.le_trans Zn (Nat.le_of_eq W138.size.symm)
  have A_a80 := B138
  have A_a80 := A_a80.cg (up_set (F := fun q => .int (Int32.ofNat q)) (G := fun _ => .int (0 : Int32)) (M := 57) 64 rfl)
  have Kp := Kp.wr W138 (Or.inr sz_a80)
  refine g_dup C S dch_340 (pc' := 341) rfl rfl ?_
  refine g_bipush C S (58 : Int32) dch_341 (pc' := 343) rfl rfl ?_
  refine g_bipush C S (58 : Int32) dch_343 (pc' := 345) rfl rfl ?_
  refine g_iastore C S (i := 58) dch_345 A_a80 (by decide) (by decide) ge_a80 (pc' := 346) rfl (fun T139 h139 S W139 B139 => ?_)
  have Zn := Nat.le_trans Zn (Nat.le_of_eq W139.size.symm)
  have A_a80 := B139
  have A_a80 := A_a80.cg (up_set (F := fun q => .int (Int32.ofNat q)) (G := fun _ => .int (0 : Int32)) (M := 58) 64 rfl)
  have Kp := Kp.wr W139 (Or.inr sz_a80)
  refine g_dup C S dch_346 (pc' := 347) rfl rfl ?_
  refine g_bipush C S (59 : Int32) dch_347 (pc' := 349) rfl rfl ?_
  refine g_bipush C S (59 : Int32) dch_349 (pc' := 351) rfl rfl ?_
  refine g_iastore C S (i := 59) dch_351 A_a80 (by decide) (by decide) ge_a80 (pc' := 352) rfl (fun T140 h140 S W140 B140 => ?_)
  have Zn := Nat.le_trans Zn (Nat.le_of_eq W140.size.symm)
  have A_a80 := B140
  have A_a80 := A_a80.cg (up_set (F := fun q => .int (Int32.ofNat q)) (G := fun _ => .int (0 : Int32)) (M := 59) 64 rfl)
  have Kp := Kp.wr W140 (Or.inr sz_a80)
  refine g_dup C S dch_352 (pc' := 353) rfl rfl ?_
  refine g_bipush C S (60 : Int32) dch_353 (pc' := 355) rfl rfl ?_
  refine g_bipush C S (60 : Int32) dch_355 (pc' := 357) rfl rfl ?_
  refine g_iastore C S (i := 60) dch_357 A_a80 (by decide) (by decide) ge_a80 (pc' := 358) rfl (fun T141 h141 S W141 B141 => ?_)
  have Zn := Nat.le_trans Zn (Nat.le_of_eq W141.size.symm)
  have A_a80 := B141
  have A_a80 := A_a80.cg (up_set (F := fun q => .int (Int32.ofNat q)) (G := fun _ => .int (0 : Int32)) (M := 60) 64 rfl)
  have Kp := Kp.wr W141 (Or.inr sz_a80)
  refine g_dup C S dch_358 (pc' := 359) rfl rfl ?_
  refine g_bipush C S (61 : Int32) dch_359 (pc' := 361) rfl rfl ?_
  refine g_bipush C S (61 : Int32) dch_361 (pc' := 363) rfl rfl ?_
  refine g_iastore C S (i := 61) dch_363 A_a80 (by decide) (by decide) ge_a80 (pc' := 364) rfl (fun T142 h142 S W142 B142 => ?_)
  have Zn := Nat.le_trans Zn (Nat.le_of_eq W142.size.symm)
  have A_a80 := B142
  have A_a80 := A_a80.cg (up_set (F := fun q => .int (Int32.ofNat q)) (G := fun _ => .int (0 : Int32)) (M := 61) 64 rfl)
  have Kp := Kp.wr W142 (Or.inr sz_a80)
  refine g_dup C S dch_364 (pc' := 365) rfl rfl ?_
  refine g_bipush C S (62 : Int32) dch_365 (pc' := 367) rfl rfl ?_
  refine g_bipush C S (62 : Int32) dch_367 (pc' := 369) rfl rfl ?_
  refine g_iastore C S (i := 62) dch_369 A_a80 (by decide) (by decide) ge_a80 (pc' := 370) rfl (fun T143 h143 S W143 B143 => ?_)
  have Zn := Nat.le_trans Zn (Nat.le_of_eq W143.size.symm)
  have A_a80 := B143
  have A_a80 := A_a80.cg (up_set (F := fun q => .int (Int32.ofNat q)) (G := fun _ => .int (0 : Int32)) (M := 62) 64 rfl)
  have Kp := Kp.wr W143 (Or.inr sz_a80)
  refine g_dup C S dch_370 (pc' := 371) rfl rfl ?_
  refine g_bipush C S (63 : Int32) dch_371 (pc' := 373) rfl rfl ?_
  refine g_bipush C S (63 : Int32) dch_373 (pc' := 375) rfl rfl ?_
  refine g_iastore C S (i := 63) dch_375 A_a80 (by decide) (by decide) ge_a80 (pc' := 376) rfl (fun T144 h144 S W144 B144 => ?_)
  have Zn := Nat.le_trans Zn (Nat.le_of_eq W144.size.symm)
  have A_a80 := B144
  have A_a80 := A_a80.cg (up_set (F := fun q => .int (Int32.ofNat q)) (G := fun _ => .int (0 : Int32)) (M := 63) 64 rfl)
  have Kp := Kp.wr W144 (Or.inr sz_a80)
  refine g_astore C S dch_376 (pc' := 378) rfl rfl (L' := #[.val (.ref o), .val (.int (Int32.ofNat k)), .val (.int (Int32.ofNat q)), .val (.int (Int32.ofNat r)), .val (.ref a80), .unset]) rfl ?_
  refine g_bipush C S (64 : Int32) dch_378 (pc' := 380) rfl rfl ?_
  refine g_newarray C S (N := 64) (cap := 64) dch_380 (hw _ (List.mem_of_getElem? (i := 9) rfl)) (by decide) (by decide) (by decide) (by decide) (by decide) (pc' := 382) rfl (fun T145 h145 a145 S g145 E145 A_a145 => ?_)
  have ne_a80_a145 : a80 ≠ a145 := ne_new g145 A_a80.lt
  have sz_a145 : h0.size ≤ a145 := ge_of g145 Kp.1
  have ge_a145 : n0 ≤ a145 := ge_of g145 Zn
  have Kp := Kp.ext E145
  have Zn := Nat.le_trans Zn E145.1
  have A_a80 := A_a80.ext E145
  have A_a145 : Ary Z h145 a145 .int 64 (fun _ => (.int (0 : Int32))) := A_a145
  have A_a145 : Ary Z h145 a145 .int 64 (fun q => if q < 0 then .int (Int32.ofNat (q + 1)) else .int (0 : Int32)) := A_a145.cg fun q hq => (if_neg (Nat.not_lt_zero q)).symm
  refine g_dup C S dch_382 (pc' := 383) rfl rfl ?_
  refine g_iconst C S (0 : Int32) dch_383 (pc' := 384) rfl rfl ?_
  refine g_iconst C S (1 : Int32) dch_384 (pc' := 385) rfl rfl ?_
  refine g_iastore C S (i := 0) dch_385 A_a145 (by decide) (by decide) ge_a145 (pc' := 386) rfl (fun T146 h146 S W146 B146 => ?_)
  have Zn := Nat.le_trans Zn (Nat.le_of_eq W146.size.symm)
  have A_a80 := A_a80.other W146 ne_a80_a145
  have A_a145 := B146
  have A_a145 := A_a145.cg (up_set (F := fun q => .int (Int32.ofNat (q + 1))) (G := fun _ => .int (0 : Int32)) (M := 0) 64 rfl)
  have Kp := Kp.wr W146 (Or.inr sz_a145)
  refine g_dup C S dch_386 (pc' := 387) rfl rfl ?_
  refine g_iconst C S (1 : Int32) dch_387 (pc' := 388) rfl rfl ?_
  refine g_iconst C S (2 : Int32) dch_388 (pc' := 389) rfl rfl ?_
  refine g_iastore C S (i := 1) dch_389 A_a145 (by decide) (by decide) ge_a145 (pc' := 390) rfl (fun T147 h147 S W147 B147 => ?_)
  have Zn := Nat.le_trans Zn (Nat.le_of_eq W147.size.symm)
  have A_a80 := A_a80.other W147 ne_a80_a145
  have A_a145 := B147
  have A_a145 := A_a145.cg (up_set (F := fun q => .int (Int32.ofNat (q + 1))) (G := fun _ => .int (0 : Int32)) (M := 1) 64 rfl)
  have Kp := Kp.wr W147 (Or.inr sz_a145)
  refine g_dup C S dch_390 (pc' := 391) rfl rfl ?_
  refine g_iconst C S (2 : Int32) dch_391 (pc' := 392) rfl rfl ?_
  refine g_iconst C S (3 : Int32) dch_392 (pc' := 393) rfl rfl ?_
  refine g_iastore C S (i := 2) dch_393 A_a145 (by decide) (by decide) ge_a145 (pc' := 394) rfl (fun T148 h148 S W148 B148 => ?_)
  have Zn := Nat.le_trans Zn (Nat.le_of_eq W148.size.symm)
  have A_a80 := A_a80.other W148 ne_a80_a145
  have A_a145 := B148
  have A_a145 := A_a145.cg (up_set (F := fun q => .int (Int32.ofNat (q + 1))) (G := fun _ => .int (0 : Int32)) (M := 2) 64 rfl)
  have Kp := Kp.wr W148 (Or.inr sz_a145)
  refine g_dup C S dch_394 (pc' := 395) rfl rfl ?_
  refine g_iconst C S (3 : Int32) dch_395 (pc' := 396) rfl rfl ?_
  refine g_iconst C S (4 : Int32) dch_396 (pc' := 397) rfl rfl ?_
  refine g_iastore C S (i := 3) dch_397 A_a145 (by decide) (by decide) ge_a145 (pc' := 398) rfl (fun T149 h149 S W149 B149 => ?_)
  have Zn := Nat.le_trans Zn (Nat.le_of_eq W149.size.symm)
  have A_a80 := A_a80.other W149 ne_a80_a145
  have A_a145 := B149
  have A_a145 := A_a145.cg (up_set (F := fun q => .int (Int32.ofNat (q + 1))) (G := fun _ => .int (0 : Int32)) (M := 3) 64 rfl)
  have Kp := Kp.wr W149 (Or.inr sz_a145)
  refine g_dup C S dch_398 (pc' := 399) rfl rfl ?_
  refine g_iconst C S (4 : Int32) dch_399 (pc' := 400) rfl rfl ?_
  refine g_iconst C S (5 : Int32) dch_400 (pc' := 401) rfl rfl ?_
  refine g_iastore C S (i := 4) dch_401 A_a145 (by decide) (by decide) ge_a145 (pc' := 402) rfl (fun T150 h150 S W150 B150 => ?_)
  have Zn := Nat.le_trans Zn (Nat.le_of_eq W150.size.symm)
  have A_a80 := A_a80.other W150 ne_a80_a145
  have A_a145 := B150
  have A_a145 := A_a145.cg (up_set (F := fun q => .int (Int32.ofNat (q + 1))) (G := fun _ => .int (0 : Int32)) (M := 4) 64 rfl)
  have Kp := Kp.wr W150 (Or.inr sz_a145)
  refine g_dup C S dch_402 (pc' := 403) rfl rfl ?_
  refine g_iconst C S (5 : Int32) dch_403 (pc' := 404) rfl rfl ?_
  refine g_bipush C S (6 : Int32) dch_404 (pc' := 406) rfl rfl ?_
  refine g_iastore C S (i := 5) dch_406 A_a145 (by decide) (by decide) ge_a145 (pc' := 407) rfl (fun T151 h151 S W151 B151 => ?_)
  have Zn := Nat.le_trans Zn (Nat.le_of_eq W151.size.symm)
  have A_a80 := A_a80.other W151 ne_a80_a145
  have A_a145 := B151
  have A_a145 := A_a145.cg (up_set (F := fun q => .int (Int32.ofNat (q + 1))) (G := fun _ => .int (0 : Int32)) (M := 5) 64 rfl)
  have Kp := Kp.wr W151 (Or.inr sz_a145)
  refine g_dup C S dch_407 (pc' := 408) rfl rfl ?_
  refine g_bipush C S (6 : Int32) dch_408 (pc' := 410) rfl rfl ?_
  refine g_bipush C S (7 : Int32) dch_410 (pc' := 412) rfl rfl ?_
  refine g_iastore C S (i := 6) dch_412 A_a145 (by decide) (by decide) ge_a145 (pc' := 413) rfl (fun T152 h152 S W152 B152 => ?_)
  have Zn := Nat.le_trans Zn (Nat.le_of_eq W152.size.symm)
  have A_a80 := A_a80.other W152 ne_a80_a145
  have A_a145 := B152
  have A_a145 := A_a145.cg (up_set (F := fun q => .int (Int32.ofNat (q + 1))) (G := fun _ => .int (0 : Int32)) (M := 6) 64 rfl)
  have Kp := Kp.wr W152 (Or.inr sz_a145)
  refine g_dup C S dch_413 (pc' := 414) rfl rfl ?_
  refine g_bipush C S (7 : Int32) dch_414 (pc' := 416) rfl rfl ?_
  refine g_bipush C S (8 : Int32) dch_416 (pc' := 418) rfl rfl ?_
  refine g_iastore C S (i := 7) dch_418 A_a145 (by decide) (by decide) ge_a145 (pc' := 419) rfl (fun T153 h153 S W153 B153 => ?_)
  have Zn := Nat.le_trans Zn (Nat.le_of_eq W153.size.symm)
  have A_a80 := A_a80.other W153 ne_a80_a145
  have A_a145 := B153
  have A_a145 := A_a145.cg (up_set (F := fun q => .int (Int32.ofNat (q + 1))) (G := fun _ => .int (0 : Int32)) (M := 7) 64 rfl)
  have Kp := Kp.wr W153 (Or.inr sz_a145)
  refine g_dup C S dch_419 (pc' := 420) rfl rfl ?_
  refine g_bipush C S (8 : Int32) dch_420 (pc' := 422) rfl rfl ?_
  refine g_bipush C S (9 : Int32) dch_422 (pc' := 424) rfl rfl ?_
  refine g_iastore C S (i := 8) dch_424 A_a145 (by decide) (by decide) ge_a145 (pc' := 425) rfl (fun T154 h154 S W154 B154 => ?_)
  have Zn := Nat.le_trans Zn (Nat.le_of_eq W154.size.symm)
  have A_a80 := A_a80.other W154 ne_a80_a145
  have A_a145 := B154
  have A_a145 := A_a145.cg (up_set (F := fun q => .int (Int32.ofNat (q + 1))) (G := fun _ => .int (0 : Int32)) (M := 8) 64 rfl)
  have Kp := Kp.wr W154 (Or.inr sz_a145)
  refine g_dup C S dch_425 (pc' := 426) rfl rfl ?_
  refine g_bipush C S (9 : Int32) dch_426 (pc' := 428) rfl rfl ?_
  refine g_bipush C S (10 : Int32) dch_428 (pc' := 430) rfl rfl ?_
  refine g_iastore C S (i := 9) dch_430 A_a145 (by decide) (by decide) ge_a145 (pc' := 431) rfl (fun T155 h155 S W155 B155 => ?_)
  have Zn := Nat.le_trans Zn (Nat.le_of_eq W155.size.symm)
  have A_a80 := A_a80.other W155 ne_a80_a145
  have A_a145 := B155
  have A_a145 := A_a145.cg (up_set (F := fun q => .int (Int32.ofNat (q + 1))) (G := fun _ => .int (0 : Int32)) (M := 9) 64 rfl)
  have Kp := Kp.wr W155 (Or.inr sz_a145)
  refine g_dup C S dch_431 (pc' := 432) rfl rfl ?_
  refine g_bipush C S (10 : Int32) dch_432 (pc' := 434) rfl rfl ?_
  refine g_bipush C S (11 : Int32) dch_434 (pc' := 436) rfl rfl ?_
  refine g_iastore C S (i := 10) dch_436 A_a145 (by decide) (by decide) ge_a145 (pc' := 437) rfl (fun T156 h156 S W156 B156 => ?_)
  have Zn := Nat.le_trans Zn (Nat.le_of_eq W156.size.symm)
  have A_a80 := A_a80.other W156 ne_a80_a145
  have A_a145 := B156
  have A_a145 := A_a145.cg (up_set (F := fun q => .int (Int32.ofNat (q + 1))) (G := fun _ => .int (0 : Int32)) (M := 10) 64 rfl)
  have Kp := Kp.wr W156 (Or.inr sz_a145)
  refine g_dup C S dch_437 (pc' := 438) rfl rfl ?_
  refine g_bipush C S (11 : Int32) dch_438 (pc' := 440) rfl rfl ?_
  refine g_bipush C S (12 : Int32) dch_440 (pc' := 442) rfl rfl ?_
  refine g_iastore C S (i := 11) dch_442 A_a145 (by decide) (by decide) ge_a145 (pc' := 443) rfl (fun T157 h157 S W157 B157 => ?_)
  have Zn := Nat.le_trans Zn (Nat.le_of_eq W157.size.symm)
  have A_a80 := A_a80.other W157 ne_a80_a145
  have A_a145 := B157
  have A_a145 := A_a145.cg (up_set (F := fun q => .int (Int32.ofNat (q + 1))) (G := fun _ => .int (0 : Int32)) (M := 11) 64 rfl)
  have Kp := Kp.wr W157 (Or.inr sz_a145)
  refine g_dup C S dch_443 (pc' := 444) rfl rfl ?_
  refine g_bipush C S (12 : Int32) dch_444 (pc' := 446) rfl rfl ?_
  refine g_bipush C S (13 : Int32) dch_446 (pc' := 448) rfl rfl ?_
  refine g_iastore C S (i := 12) dch_448 A_a145 (by decide) (by decide) ge_a145 (pc' := 449) rfl (fun T158 h158 S W158 B158 => ?_)
  have Zn := Nat.le_trans Zn (Nat.le_of_eq W158.size.symm)
  have A_a80 := A_a80.other W158 ne_a80_a145
  have A_a145 := B158
  have A_a145 := A_a145.cg (up_set (F := fun q => .int (Int32.ofNat (q + 1))) (G := fun _ => .int (0 : Int32)) (M := 12) 64 rfl)
  have Kp := Kp.wr W158 (Or.inr sz_a145)
  refine g_dup C S dch_449 (pc' := 450) rfl rfl ?_
  refine g_bipush C S (13 : Int32) dch_450 (pc' := 452) rfl rfl ?_
  refine g_bipush C S (14 : Int32) dch_452 (pc' := 454) rfl rfl ?_
  refine g_iastore C S (i := 13) dch_454 A_a145 (by decide) (by decide) ge_a145 (pc' := 455) rfl (fun T159 h159 S W159 B159 => ?_)
  have Zn := Nat.le_trans Zn (Nat.le_of_eq W159.size.symm)
  have A_a80 := A_a80.other W159 ne_a80_a145
  have A_a145 := B159
  have A_a145 := A_a145.cg (up_set (F := fun q => .int (Int32.ofNat (q + 1))) (G := fun _ => .int (0 : Int32)) (M := 13) 64 rfl)
  have Kp := Kp.wr W159 (Or.inr sz_a145)
  refine g_dup C S dch_455 (pc' := 456) rfl rfl ?_
  refine g_bipush C S (14 : Int32) dch_456 (pc' := 458) rfl rfl ?_
  refine g_bipush C S (15 : Int32) dch_458 (pc' := 460) rfl rfl ?_
  refine g_iastore C S (i := 14) dch_460 A_a145 (by decide) (by decide) ge_a145 (pc' := 461) rfl (fun T160 h160 S W160 B160 => ?_)
  have Zn := Nat.le_trans Zn (Nat.le_of_eq W160.size.symm)
  have A_a80 := A_a80.other W160 ne_a80_a145
  have A_a145 := B160
  have A_a145 := A_a145.cg (up_set (F := fun q => .int (Int32.ofNat (q + 1))) (G := fun _ => .int (0 : Int32)) (M := 14) 64 rfl)
  have Kp := Kp.wr W160 (Or.inr sz_a145)
  refine g_dup C S dch_461 (pc' := 462) rfl rfl ?_
  refine g_bipush C S (15 : Int32) dch_462 (pc' := 464) rfl rfl ?_
  refine g_bipush C S (16 : Int32) dch_464 (pc' := 466) rfl rfl ?_
  refine g_iastore C S (i := 15) dch_466 A_a145 (by decide) (by decide) ge_a145 (pc' := 467) rfl (fun T161 h161 S W161 B161 => ?_)
  have Zn := Nat.le_trans Zn (Nat.le_of_eq W161.size.symm)
  have A_a80 := A_a80.other W161 ne_a80_a145
  have A_a145 := B161
  have A_a145 := A_a145.cg (up_set (F := fun q => .int (Int32.ofNat (q + 1))) (G := fun _ => .int (0 : Int32)) (M := 15) 64 rfl)
  have Kp := Kp.wr W161 (Or.inr sz_a145)
  refine g_dup C S dch_467 (pc' := 468) rfl rfl ?_
  refine g_bipush C S (16 : Int32) dch_468 (pc' := 470) rfl rfl ?_
  refine g_bipush C S (17 : Int32) dch_470 (pc' := 472) rfl rfl ?_
  refine g_iastore C S (i := 16) dch_472 A_a145 (by decide) (by decide) ge_a145 (pc' := 473) rfl (fun T162 h162 S W162 B162 => ?_)
  have Zn := Nat.le_trans Zn (Nat.le_of_eq W162.size.symm)
  have A_a80 := A_a80.other W162 ne_a80_a145
  have A_a145 := B162
  have A_a145 := A_a145.cg (up_set (F := fun q => .int (Int32.ofNat (q + 1))) (G := fun _ => .int (0 : Int32)) (M := 16) 64 rfl)
  have Kp := Kp.wr W162 (Or.inr sz_a145)
  refine g_dup C S dch_473 (pc' := 474) rfl rfl ?_
  refine g_bipush C S (17 : Int32) dch_474 (pc' := 476) rfl rfl ?_
  refine g_bipush C S (18 : Int32) dch_476 (pc' := 478) rfl rfl ?_
  refine g_iastore C S (i := 17) dch_478 A_a145 (by decide) (by decide) ge_a145 (pc' := 479) rfl (fun T163 h163 S W163 B163 => ?_)
  have Zn := Nat.le_trans Zn (Nat.le_of_eq W163.size.symm)
  have A_a80 := A_a80.other W163 ne_a80_a145
  have A_a145 := B163
  have A_a145 := A_a145.cg (up_set (F := fun q => .int (Int32.ofNat (q + 1))) (G := fun _ => .int (0 : Int32)) (M := 17) 64 rfl)
  have Kp := Kp.wr W163 (Or.inr sz_a145)
  refine g_dup C S dch_479 (pc' := 480) rfl rfl ?_
  refine g_bipush C S (18 : Int32) dch_480 (pc' := 482) rfl rfl ?_
  refine g_bipush C S (19 : Int32) dch_482 (pc' := 484) rfl rfl ?_
  refine g_iastore C S (i := 18) dch_484 A_a145 (by decide) (by decide) ge_a145 (pc' := 485) rfl (fun T164 h164 S W164 B164 => ?_)
  have Zn := Nat.le_trans Zn (Nat.le_of_eq W164.size.symm)
  have A_a80 := A_a80.other W164 ne_a80_a145
  have A_a145 := B164
  have A_a145 := A_a145.cg (up_set (F := fun q => .int (Int32.ofNat (q + 1))) (G := fun _ => .int (0 : Int32)) (M := 18) 64 rfl)
  have Kp := Kp.wr W164 (Or.inr sz_a145)
  refine g_dup C S dch_485 (pc' := 486) rfl rfl ?_
  refine g_bipush C S (19 : Int32) dch_486 (pc' := 488) rfl rfl ?_
  refine g_bipush C S (20 : Int32) dch_488 (pc' := 490) rfl rfl ?_
  refine g_iastore C S (i := 19) dch_490 A_a145 (by decide) (by decide) ge_a145 (pc' := 491) rfl (fun T165 h165 S W165 B165 => ?_)
  have Zn := Nat.le_trans Zn (Nat.le_of_eq W165.size.symm)
  have A_a80 := A_a80.other W165 ne_a80_a145
  have A_a145 := B165
  have A_a145 := A_a145.cg (up_set (F := fun q => .int (Int32.ofNat (q + 1))) (G := fun _ => .int (0 : Int32)) (M := 19) 64 rfl)
  have Kp := Kp.wr W165 (Or.inr sz_a145)
  refine g_dup C S dch_491 (pc' := 492) rfl rfl ?_
  refine g_bipush C S (20 : Int32) dch_492 (pc' := 494) rfl rfl ?_
  refine g_bipush C S (21 : Int32) dch_494 (pc' := 496) rfl rfl ?_
  refine g_iastore C S (i := 20) dch_496 A_a145 (by decide) (by decide) ge_a145 (pc' := 497) rfl (fun T166 h166 S W166 B166 => ?_)
  have Zn := Nat.le_trans Zn (Nat.le_of_eq W166.size.symm)
  have A_a80 := A_a80.other W166 ne_a80_a145
  have A_a145 := B166
  have A_a145 := A_a145.cg (up_set (F := fun q => .int (Int32.ofNat (q + 1))) (G := fun _ => .int (0 : Int32)) (M := 20) 64 rfl)
  have Kp := Kp.wr W166 (Or.inr sz_a145)
  refine g_dup C S dch_497 (pc' := 498) rfl rfl ?_
  refine g_bipush C S (21 : Int32) dch_498 (pc' := 500) rfl rfl ?_
  refine g_bipush C S (22 : Int32) dch_500 (pc' := 502) rfl rfl ?_
  refine g_iastore C S (i := 21) dch_502 A_a145 (by decide) (by decide) ge_a145 (pc' := 503) rfl (fun T167 h167 S W167 B167 => ?_)
  have Zn := Nat.le_trans Zn (Nat.le_of_eq W167.size.symm)
  have A_a80 := A_a80.other W167 ne_a80_a145
  have A_a145 := B167
  have A_a145 := A_a145.cg (up_set (F := fun q => .int (Int32.ofNat (q + 1))) (G := fun _ => .int (0 : Int32)) (M := 21) 64 rfl)
  have Kp := Kp.wr W167 (Or.inr sz_a145)
  refine g_dup C S dch_503 (pc' := 504) rfl rfl ?_
  refine g_bipush C S (22 : Int32) dch_504 (pc' := 506) rfl rfl ?_
  refine g_bipush C S (23 : Int32) dch_506 (pc' := 508) rfl rfl ?_
  refine g_iastore C S (i := 22) dch_508 A_a145 (by decide) (by decide) ge_a145 (pc' := 509) rfl (fun T168 h168 S W168 B168 => ?_)
  have Zn := Nat.le_trans Zn (Nat.le_of_eq W168.size.symm)
  have A_a80 := A_a80.other W168 ne_a80_a145
  have A_a145 := B168
  have A_a145 := A_a145.cg (up_set (F := fun q => .int (Int32.ofNat (q + 1))) (G := fun _ => .int (0 : Int32)) (M := 22) 64 rfl)
  have Kp := Kp.wr W168 (Or.inr sz_a145)
  refine g_dup C S dch_509 (pc' := 510) rfl rfl ?_
  refine g_bipush C S (23 : Int32) dch_510 (pc' := 512) rfl rfl ?_
  refine g_bipush C S (24 : Int32) dch_512 (pc' := 514) rfl rfl ?_
  refine g_iastore C S (i := 23) dch_514 A_a145 (by decide) (by decide) ge_a145 (pc' := 515) rfl (fun T169 h169 S W169 B169 => ?_)
  have Zn := Nat.le_trans Zn (Nat.le_of_eq W169.size.symm)
  have A_a80 := A_a80.other W169 ne_a80_a145
  have A_a145 := B169
  have A_a145 := A_a145.cg (up_set (F := fun q => .int (Int32.ofNat (q + 1))) (G := fun _ => .int (0 : Int32)) (M := 23) 64 rfl)
  have Kp := Kp.wr W169 (Or.inr sz_a145)
  refine g_dup C S dch_515 (pc' := 516) rfl rfl ?_
  refine g_bipush C S (24 : Int32) dch_516 (pc' := 518) rfl rfl ?_
  refine g_bipush C S (25 : Int32) dch_518 (pc' := 520) rfl rfl ?_
  refine g_iastore C S (i := 24) dch_520 A_a145 (by decide) (by decide) ge_a145 (pc' := 521) rfl (fun T170 h170 S W170 B170 => ?_)
  have Zn := Nat.le_trans Zn (Nat.le_of_eq W170.size.symm)
  have A_a80 := A_a80.other W170 ne_a80_a145
  have A_a145 := B170
  have A_a145 := A_a145.cg (up_set (F := fun q => .int (Int32.ofNat (q + 1))) (G := fun _ => .int (0 : Int32)) (M := 24) 64 rfl)
  have Kp := Kp.wr W170 (Or.inr sz_a145)
  refine g_dup C S dch_521 (pc' := 522) rfl rfl ?_
  refine g_bipush C S (25 : Int32) dch_522 (pc' := 524) rfl rfl ?_
  refine g_bipush C S (26 : Int32) dch_524 (pc' := 526) rfl rfl ?_
  refine g_iastore C S (i := 25) dch_526 A_a145 (by decide) (by decide) ge_a145 (pc' := 527) rfl (fun T171 h171 S W171 B171 => ?_)
  have Zn := Nat.le_trans Zn (Nat.le_of_eq W171.size.symm)
  have A_a80 := A_a80.other W171 ne_a80_a145
  have A_a145 := B171
  have A_a145 := A_a145.cg (up_set (F := fun q => .int (Int32.ofNat (q + 1))) (G := fun _ => .int (0 : Int32)) (M := 25) 64 rfl)
  have Kp := Kp.wr W171 (Or.inr sz_a145)
  refine g_dup C S dch_527 (pc' := 528) rfl rfl ?_
  refine g_bipush C S (26 : Int32) dch_528 (pc' := 530) rfl rfl ?_
  refine g_bipush C S (27 : Int32) dch_530 (pc' := 532) rfl rfl ?_
  refine g_iastore C S (i := 26) dch_532 A_a145 (by decide) (by decide) ge_a145 (pc' := 533) rfl (fun T172 h172 S W172 B172 => ?_)
  have Zn := Nat.le_trans Zn (Nat.le_of_eq W172.size.symm)
  have A_a80 := A_a80.other W172 ne_a80_a145
  have A_a145 := B172
  have A_a145 := A_a145.cg (up_set (F := fun q => .int (Int32.ofNat (q + 1))) (G := fun _ => .int (0 : Int32)) (M := 26) 64 rfl)
  have Kp := Kp.wr W172 (Or.inr sz_a145)
  refine g_dup C S dch_533 (pc' := 534) rfl rfl ?_
  refine g_bipush C S (27 : Int32) dch_534 (pc' := 536) rfl rfl ?_
  refine g_bipush C S (28 : Int32) dch_536 (pc' := 538) rfl rfl ?_
  refine g_iastore C S (i := 27) dch_538 A_a145 (by decide) (by decide) ge_a145 (pc' := 539) rfl (fun T173 h173 S W173 B173 => ?_)
  have Zn := Nat.le_trans Zn (Nat.le_of_eq W173.size.symm)
  have A_a80 := A_a80.other W173 ne_a80_a145
  have A_a145 := B173
  have A_a145 := A_a145.cg (up_set (F := fun q => .int (Int32.ofNat (q + 1))) (G := fun _ => .int (0 : Int32)) (M := 27) 64 rfl)
  have Kp := Kp.wr W173 (Or.inr sz_a145)
  refine g_dup C S dch_539 (pc' := 540) rfl rfl ?_
  refine g_bipush C S (28 : Int32) dch_540 (pc' := 542) rfl rfl ?_
  refine g_bipush C S (29 : Int32) dch_542 (pc' := 544) rfl rfl ?_
  refine g_iastore C S (i := 28) dch_544 A_a145 (by decide) (by decide) ge_a145 (pc' := 545) rfl (fun T174 h174 S W174 B174 => ?_)
  have Zn := Nat.le_trans Zn (Nat.le_of_eq W174.size.symm)
  have A_a80 := A_a80.other W174 ne_a80_a145
  have A_a145 := B174
  have A_a145 := A_a145.cg (up_set (F := fun q => .int (Int32.ofNat (q + 1))) (G := fun _ => .int (0 : Int32)) (M := 28) 64 rfl)
  have Kp := Kp.wr W174 (Or.inr sz_a145)
  refine g_dup C S dch_545 (pc' := 546) rfl rfl ?_
  refine g_bipush C S (29 : Int32) dch_546 (pc' := 548) rfl rfl ?_
  refine g_bipush C S (30 : Int32) dch_548 (pc' := 550) rfl rfl ?_
  refine g_iastore C S (i := 29) dch_550 A_a145 (by decide) (by decide) ge_a145 (pc' := 551) rfl (fun T175 h175 S W175 B175 => ?_)
  have Zn := Nat.le_trans Zn (Nat.le_of_eq W175.size.symm)
  have A_a80 := A_a80.other W175 ne_a80_a145
  have A_a145 := B175
  have A_a145 := A_a145.cg (up_set (F := fun q => .int (Int32.ofNat (q + 1))) (G := fun _ => .int (0 : Int32)) (M := 29) 64 rfl)
  have Kp := Kp.wr W175 (Or.inr sz_a145)
  refine g_dup C S dch_551 (pc' := 552) rfl rfl ?_
  refine g_bipush C S (30 : Int32) dch_552 (pc' := 554) rfl rfl ?_
  refine g_bipush C S (31 : Int32) dch_554 (pc' := 556) rfl rfl ?_
  refine g_iastore C S (i := 30) dch_556 A_a145 (by decide) (by decide) ge_a145 (pc' := 557) rfl (fun T176 h176 S W176 B176 => ?_)
  have Zn := Nat.le_trans Zn (Nat.le_of_eq W176.size.symm)
  have A_a80 := A_a80.other W176 ne_a80_a145
  have A_a145 := B176
  have A_a145 := A_a145.cg (up_set (F := fun q => .int (Int32.ofNat (q + 1))) (G := fun _ => .int (0 : Int32)) (M := 30) 64 rfl)
  have Kp := Kp.wr W176 (Or.inr sz_a145)
  refine g_dup C S dch_557 (pc' := 558) rfl rfl ?_
  refine g_bipush C S (31 : Int32) dch_558 (pc' := 560) rfl rfl ?_
  refine g_bipush C S (32 : Int32) dch_560 (pc' := 562) rfl rfl ?_
  refine g_iastore C S (i := 31) dch_562 A_a145 (by decide) (by decide) ge_a145 (pc' := 563) rfl (fun T177 h177 S W177 B177 => ?_)
  have Zn := Nat.le_trans Zn (Nat.le_of_eq W177.size.symm)
  have A_a80 := A_a80.other W177 ne_a80_a145
  have A_a145 := B177
  have A_a145 := A_a145.cg (up_set (F := fun q => .int (Int32.ofNat (q + 1))) (G := fun _ => .int (0 : Int32)) (M := 31) 64 rfl)
  have Kp := Kp.wr W177 (Or.inr sz_a145)
  refine g_dup C S dch_563 (pc' := 564) rfl rfl ?_
  refine g_bipush C S (32 : Int32) dch_564 (pc' := 566) rfl rfl ?_
  refine g_bipush C S (33 : Int32) dch_566 (pc' := 568) rfl rfl ?_
  refine g_iastore C S (i := 32) dch_568 A_a145 (by decide) (by decide) ge_a145 (pc' := 569) rfl (fun T178 h178 S W178 B178 => ?_)
  have Zn := Nat.le_trans Zn (Nat.le_of_eq W178.size.symm)
  have A_a80 := A_a80.other W178 ne_a80_a145
  have A_a145 := B178
  have A_a145 := A_a145.cg (up_set (F := fun q => .int (Int32.ofNat (q + 1))) (G := fun _ => .int (0 : Int32)) (M := 32) 64 rfl)
  have Kp := Kp.wr W178 (Or.inr sz_a145)
  refine g_dup C S dch_569 (pc' := 570) rfl rfl ?_
  refine g_bipush C S (33 : Int32) dch_570 (pc' := 572) rfl rfl ?_
  refine g_bipush C S (34 : Int32) dch_572 (pc' := 574) rfl rfl ?_
  refine g_iastore C S (i := 33) dch_574 A_a145 (by decide) (by decide) ge_a145 (pc' := 575) rfl (fun T179 h179 S W179 B179 => ?_)
  have Zn := Nat.le_trans Zn (Nat.le_of_eq W179.size.symm)
  have A_a80 := A_a80.other W179 ne_a80_a145
  have A_a145 := B179
  have A_a145 := A_a145.cg (up_set (F := fun q => .int (Int32.ofNat (q + 1))) (G := fun _ => .int (0 : Int32)) (M := 33) 64 rfl)
  have Kp := Kp.wr W179 (Or.inr sz_a145)
  refine g_dup C S dch_575 (pc' := 576) rfl rfl ?_
  refine g_bipush C S (34 : Int32) dch_576 (pc' := 578) rfl rfl ?_
  refine g_bipush C S (35 : Int32) dch_578 (pc' := 580) rfl rfl ?_
  refine g_iastore C S (i := 34) dch_580 A_a145 (by decide) (by decide) ge_a145 (pc' := 581) rfl (fun T180 h180 S W180 B180 => ?_)
  have Zn := Nat.le_trans Zn (Nat.le_of_eq W180.size.symm)
  have A_a80 := A_a80.other W180 ne_a80_a145
  have A_a145 := B180
  have A_a145 := A_a145.cg (up_set (F := fun q => .int (Int32.ofNat (q + 1))) (G := fun _ => .int (0 : Int32)) (M := 34) 64 rfl)
  have Kp := Kp.wr W180 (Or.inr sz_a145)
  refine g_dup C S dch_581 (pc' := 582) rfl rfl ?_
  refine g_bipush C S (35 : Int32) dch_582 (pc' := 584) rfl rfl ?_
  refine g_bipush C S (36 : Int32) dch_584 (pc' := 586) rfl rfl ?_
  refine g_iastore C S (i := 35) dch_586 A_a145 (by decide) (by decide) ge_a145 (pc' := 587) rfl (fun T181 h181 S W181 B181 => ?_)
  have Zn := Nat.le_trans Zn (Nat.le_of_eq W181.size.symm)
  have A_a80 := A_a80.other W181 ne_a80_a145
  have A_a145 := B181
  have A_a145 := A_a145.cg (up_set (F := fun q => .int (Int32.ofNat (q + 1))) (G := fun _ => .int (0 : Int32)) (M := 35) 64 rfl)
  have Kp := Kp.wr W181 (Or.inr sz_a145)
  refine g_dup C S dch_587 (pc' := 588) rfl rfl ?_
  refine g_bipush C S (36 : Int32) dch_588 (pc' := 590) rfl rfl ?_
  refine g_bipush C S (37 : Int32) dch_590 (pc' := 592) rfl rfl ?_
  refine g_iastore C S (i := 36) dch_592 A_a145 (by decide) (by decide) ge_a145 (pc' := 593) rfl (fun T182 h182 S W182 B182 => ?_)
  have Zn := Nat.le_trans Zn (Nat.le_of_eq W182.size.symm)
  have A_a80 := A_a80.other W182 ne_a80_a145
  have A_a145 := B182
  have A_a145 := A_a145.cg (up_set (F := fun q => .int (Int32.ofNat (q + 1))) (G := fun _ => .int (0 : Int32)) (M := 36) 64 rfl)
  have Kp := Kp.wr W182 (Or.inr sz_a145)
  refine g_dup C S dch_593 (pc' := 594) rfl rfl ?_
  refine g_bipush C S (37 : Int32) dch_594 (pc' := 596) rfl rfl ?_
  refine g_bipush C S (38 : Int32) dch_596 (pc' := 598) rfl rfl ?_
  refine g_iastore C S (i := 37) dch_598 A_a145 (by decide) (by decide) ge_a145 (pc' := 599) rfl (fun T183 h183 S W183 B183 => ?_)
  have Zn := Nat.le_trans Zn (Nat.le_of_eq W183.size.symm)
  have A_a80 := A_a80.other W183 ne_a80_a145
  have A_a145 := B183
  have A_a145 := A_a145.cg (up_set (F := fun q => .int (Int32.ofNat (q + 1))) (G := fun _ => .int (0 : Int32)) (M := 37) 64 rfl)
  have Kp := Kp.wr W183 (Or.inr sz_a145)
  refine g_dup C S dch_599 (pc' := 600) rfl rfl ?_
  refine g_bipush C S (38 : Int32) dch_600 (pc' := 602) rfl rfl ?_
  refine g_bipush C S (39 : Int32) dch_602 (pc' := 604) rfl rfl ?_
  refine g_iastore C S (i := 38) dch_604 A_a145 (by decide) (by decide) ge_a145 (pc' := 605) rfl (fun T184 h184 S W184 B184 => ?_)
  have Zn := Nat.le_trans Zn (Nat.le_of_eq W184.size.symm)
  have A_a80 := A_a80.other W184 ne_a80_a145
  have A_a145 := B184
  have A_a145 := A_a145.cg (up_set (F := fun q => .int (Int32.ofNat (q + 1))) (G := fun _ => .int (0 : Int32)) (M := 38) 64 rfl)
  have Kp := Kp.wr W184 (Or.inr sz_a145)
  refine g_dup C S dch_605 (pc' := 606) rfl rfl ?_
  refine g_bipush C S (39 : Int32) dch_606 (pc' := 608) rfl rfl ?_
  refine g_bipush C S (40 : Int32) dch_608 (pc' := 610) rfl rfl ?_
  refine g_iastore C S (i := 39) dch_610 A_a145 (by decide) (by decide) ge_a145 (pc' := 611) rfl (fun T185 h185 S W185 B185 => ?_)
  have Zn := Nat.le_trans Zn (Nat.le_of_eq W185.size.symm)
  have A_a80 := A_a80.other W185 ne_a80_a145
  have A_a145 := B185
  have A_a145 := A_a145.cg (up_set (F := fun q => .int (Int32.ofNat (q + 1))) (G := fun _ => .int (0 : Int32)) (M := 39) 64 rfl)
  have Kp := Kp.wr W185 (Or.inr sz_a145)
  refine g_dup C S dch_611 (pc' := 612) rfl rfl ?_
  refine g_bipush C S (40 : Int32) dch_612 (pc' := 614) rfl rfl ?_
  refine g_bipush C S (41 : Int32) dch_614 (pc' := 616) rfl rfl ?_
  refine g_iastore C S (i := 40) dch_616 A_a145 (by decide) (by decide) ge_a145 (pc' := 617) rfl (fun T186 h186 S W186 B186 => ?_)
  have Zn := Nat.le_trans Zn (Nat.le_of_eq W186.size.symm)
  have A_a80 := A_a80.other W186 ne_a80_a145
  have A_a145 := B186
  have A_a145 := A_a145.cg (up_set (F := fun q => .int (Int32.ofNat (q + 1))) (G := fun _ => .int (0 : Int32)) (M := 40) 64 rfl)
  have Kp := Kp.wr W186 (Or.inr sz_a145)
  refine g_dup C S dch_617 (pc' := 618) rfl rfl ?_
  refine g_bipush C S (41 : Int32) dch_618 (pc' := 620) rfl rfl ?_
  refine g_bipush C S (42 : Int32) dch_620 (pc' := 622) rfl rfl ?_
  refine g_iastore C S (i := 41) dch_622 A_a145 (by decide) (by decide) ge_a145 (pc' := 623) rfl (fun T187 h187 S W187 B187 => ?_)
  have Zn := Nat.le_trans Zn (Nat.le_of_eq W187.size.symm)
  have A_a80 := A_a80.other W187 ne_a80_a145
  have A_a145 := B187
  have A_a145 := A_a145.cg (up_set (F := fun q => .int (Int32.ofNat (q + 1))) (G := fun _ => .int (0 : Int32)) (M := 41) 64 rfl)
  have Kp := Kp.wr W187 (Or.inr sz_a145)
  refine g_dup C S dch_623 (pc' := 624) rfl rfl ?_
  refine g_bipush C S (42 : Int32) dch_624 (pc' := 626) rfl rfl ?_
  refine g_bipush C S (43 : Int32) dch_626 (pc' := 628) rfl rfl ?_
  refine g_iastore C S (i := 42) dch_628 A_a145 (by decide) (by decide) ge_a145 (pc' := 629) rfl (fun T188 h188 S W188 B188 => ?_)
  have Zn := Nat.le_trans Zn (Nat.le_of_eq W188.size.symm)
  have A_a80 := A_a80.other W188 ne_a80_a145
  have A_a145 := B188
  have A_a145 := A_a145.cg (up_set (F := fun q => .int (Int32.ofNat (q + 1))) (G := fun _ => .int (0 : Int32)) (M := 42) 64 rfl)
  have Kp := Kp.wr W188 (Or.inr sz_a145)
  refine g_dup C S dch_629 (pc' := 630) rfl rfl ?_
  refine g_bipush C S (43 : Int32) dch_630 (pc' := 632) rfl rfl ?_
  refine g_bipush C S (44 : Int32) dch_632 (pc' := 634) rfl rfl ?_
  refine g_iastore C S (i := 43) dch_634 A_a145 (by decide) (by decide) ge_a145 (pc' := 635) rfl (fun T189 h189 S W189 B189 => ?_)
  have Zn := Nat.le_trans Zn (Nat.le_of_eq W189.size.symm)
  have A_a80 := A_a80.other W189 ne_a80_a145
  have A_a145 := B189
  have A_a145 := A_a145.cg (up_set (F := fun q => .int (Int32.ofNat (q + 1))) (G := fun _ => .int (0 : Int32)) (M := 43) 64 rfl)
  have Kp := Kp.wr W189 (Or.inr sz_a145)
  refine g_dup C S dch_635 (pc' := 636) rfl rfl ?_
  refine g_bipush C S (44 : Int32) dch_636 (pc' := 638) rfl rfl ?_
  refine g_bipush C S (45 : Int32) dch_638 (pc' := 640) rfl rfl ?_
  refine g_iastore C S (i := 44) dch_640 A_a145 (by decide) (by decide) ge_a145 (pc' := 641) rfl (fun T190 h190 S W190 B190 => ?_)
  have Zn := Nat.le_trans Zn (Nat.le_of_eq W190.size.symm)
  have A_a80 := A_a80.other W190 ne_a80_a145
  have A_a145 := B190
  have A_a145 := A_a145.cg (up_set (F := fun q => .int (Int32.ofNat (q + 1))) (G := fun _ => .int (0 : Int32)) (M := 44) 64 rfl)
  have Kp := Kp.wr W190 (Or.inr sz_a145)
  refine g_dup C S dch_641 (pc' := 642) rfl rfl ?_
  refine g_bipush C S (45 : Int32) dch_642 (pc' := 644) rfl rfl ?_
  refine g_bipush C S (46 : Int32) dch_644 (pc' := 646) rfl rfl ?_
  refine g_iastore C S (i := 45) dch_646 A_a145 (by decide) (by decide) ge_a145 (pc' := 647) rfl (fun T191 h191 S W191 B191 => ?_)
  have Zn := Nat.le_trans Zn (Nat.le_of_eq W191.size.symm)
  have A_a80 := A_a80.other W191 ne_a80_a145
  have A_a145 := B191
  have A_a145 := A_a145.cg (up_set (F := fun q => .int (Int32.ofNat (q + 1))) (G := fun _ => .int (0 : Int32)) (M := 45) 64 rfl)
  have Kp := Kp.wr W191 (Or.inr sz_a145)
  refine g_dup C S dch_647 (pc' := 648) rfl rfl ?_
  refine g_bipush C S (46 : Int32) dch_648 (pc' := 650) rfl rfl ?_
  refine g_bipush C S (47 : Int32) dch_650 (pc' := 652) rfl rfl ?_
  refine g_iastore C S (i := 46) dch_652 A_a145 (by decide) (by decide) ge_a145 (pc' := 653) rfl (fun T192 h192 S W192 B192 => ?_)
  have Zn := Nat.le_trans Zn (Nat.le_of_eq W192.size.symm)
  have A_a80 := A_a80.other W192 ne_a80_a145
  have A_a145 := B192
  have A_a145 := A_a145.cg (up_set (F := fun q => .int (Int32.ofNat (q + 1))) (G := fun _ => .int (0 : Int32)) (M := 46) 64 rfl)
  have Kp := Kp.wr W192 (Or.inr sz_a145)
  refine g_dup C S dch_653 (pc' := 654) rfl rfl ?_
  refine g_bipush C S (47 : Int32) dch_654 (pc' := 656) rfl rfl ?_
  refine g_bipush C S (48 : Int32) dch_656 (pc' := 658) rfl rfl ?_
  refine g_iastore C S (i := 47) dch_658 A_a145 (by decide) (by decide) ge_a145 (pc' := 659) rfl (fun T193 h193 S W193 B193 => ?_)
  have Zn := Nat.le_trans Zn (Nat.le_of_eq W193.size.symm)
  have A_a80 := A_a80.other W193 ne_a80_a145
  have A_a145 := B193
  have A_a145 := A_a145.cg (up_set (F := fun q => .int (Int32.ofNat (q + 1))) (G := fun _ => .int (0 : Int32)) (M := 47) 64 rfl)
  have Kp := Kp.wr W193 (Or.inr sz_a145)
  refine g_dup C S dch_659 (pc' := 660) rfl rfl ?_
  refine g_bipush C S (48 : Int32) dch_660 (pc' := 662) rfl rfl ?_
  refine g_bipush C S (49 : Int32) dch_662 (pc' := 664) rfl rfl ?_
  refine g_iastore C S (i := 48) dch_664 A_a145 (by decide) (by decide) ge_a145 (pc' := 665) rfl (fun T194 h194 S W194 B194 => ?_)
  have Zn := Nat.le_trans Zn (Nat.le_of_eq W194.size.symm)
  have A_a80 := A_a80.other W194 ne_a80_a145
  have A_a145 := B194
  have A_a145 := A_a145.cg (up_set (F := fun q => .int (Int32.ofNat (q + 1))) (G := fun _ => .int (0 : Int32)) (M := 48) 64 rfl)
  have Kp := Kp.wr W194 (Or.inr sz_a145)
  refine g_dup C S dch_665 (pc' := 666) rfl rfl ?_
  refine g_bipush C S (49 : Int32) dch_666 (pc' := 668) rfl rfl ?_
  refine g_bipush C S (50 : Int32) dch_668 (pc' := 670) rfl rfl ?_
  refine g_iastore C S (i := 49) dch_670 A_a145 (by decide) (by decide) ge_a145 (pc' := 671) rfl (fun T195 h195 S W195 B195 => ?_)
  have Zn := Nat.le_trans Zn (Nat.le_of_eq W195.size.symm)
  have A_a80 := A_a80.other W195 ne_a80_a145
  have A_a145 := B195
  have A_a145 := A_a145.cg (up_set (F := fun q => .int (Int32.ofNat (q + 1))) (G := fun _ => .int (0 : Int32)) (M := 49) 64 rfl)
  have Kp := Kp.wr W195 (Or.inr sz_a145)
  refine g_dup C S dch_671 (pc' := 672) rfl rfl ?_
  refine g_bipush C S (50 : Int32) dch_672 (pc' := 674) rfl rfl ?_
  refine g_bipush C S (51 : Int32) dch_674 (pc' := 676) rfl rfl ?_
  refine g_iastore C S (i := 50) dch_676 A_a145 (by decide) (by decide) ge_a145 (pc' := 677) rfl (fun T196 h196 S W196 B196 => ?_)
  have Zn := Nat.le_trans Zn (Nat.le_of_eq W196.size.symm)
  have A_a80 := A_a80.other W196 ne_a80_a145
  have A_a145 := B196
  have A_a145 := A_a145.cg (up_set (F := fun q => .int (Int32.ofNat (q + 1))) (G := fun _ => .int (0 : Int32)) (M := 50) 64 rfl)
  have Kp := Kp.wr W196 (Or.inr sz_a145)
  refine g_dup C S dch_677 (pc' := 678) rfl rfl ?_
  refine g_bipush C S (51 : Int32) dch_678 (pc' := 680) rfl rfl ?_
  refine g_bipush C S (52 : Int32) dch_680 (pc' := 682) rfl rfl ?_
  refine g_iastore C S (i := 51) dch_682 A_a145 (by decide) (by decide) ge_a145 (pc' := 683) rfl (fun T197 h197 S W197 B197 => ?_)
  have Zn := Nat.le_trans Zn (Nat.le_of_eq W197.size.symm)
  have A_a80 := A_a80.other W197 ne_a80_a145
  have A_a145 := B197
  have A_a145 := A_a145.cg (up_set (F := fun q => .int (Int32.ofNat (q + 1))) (G := fun _ => .int (0 : Int32)) (M := 51) 64 rfl)
  have Kp := Kp.wr W197 (Or.inr sz_a145)
  refine g_dup C S dch_683 (pc' := 684) rfl rfl ?_
  refine g_bipush C S (52 : Int32) dch_684 (pc' := 686) rfl rfl ?_
  refine g_bipush C S (53 : Int32) dch_686 (pc' := 688) rfl rfl ?_
  refine g_iastore C S (i := 52) dch_688 A_a145 (by decide) (by decide) ge_a145 (pc' := 689) rfl (fun T198 h198 S W198 B198 => ?_)
  have Zn := Nat.le_trans Zn (Nat.le_of_eq W198.size.symm)
  have A_a80 := A_a80.other W198 ne_a80_a145
  have A_a145 := B198
  have A_a145 := A_a145.cg (up_set (F := fun q => .int (Int32.ofNat (q + 1))) (G := fun _ => .int (0 : Int32)) (M := 52) 64 rfl)
  have Kp := Kp.wr W198 (Or.inr sz_a145)
  refine g_dup C S dch_689 (pc' := 690) rfl rfl ?_
  refine g_bipush C S (53 : Int32) dch_690 (pc' := 692) rfl rfl ?_
  refine g_bipush C S (54 : Int32) dch_692 (pc' := 694) rfl rfl ?_
  refine g_iastore C S (i := 53) dch_694 A_a145 (by decide) (by decide) ge_a145 (pc' := 695) rfl (fun T199 h199 S W199 B199 => ?_)
  have Zn := Nat.le_trans Zn (Nat.le_of_eq W199.size.symm)
  have A_a80 := A_a80.other W199 ne_a80_a145
  have A_a145 := B199
  have A_a145 := A_a145.cg (up_set (F := fun q => .int (Int32.ofNat (q + 1))) (G := fun _ => .int (0 : Int32)) (M := 53) 64 rfl)
  have Kp := Kp.wr W199 (Or.inr sz_a145)
  refine g_dup C S dch_695 (pc' := 696) rfl rfl ?_
  refine g_bipush C S (54 : Int32) dch_696 (pc' := 698) rfl rfl ?_
  refine g_bipush C S (55 : Int32) dch_698 (pc' := 700) rfl rfl ?_
  refine g_iastore C S (i := 54) dch_700 A_a145 (by decide) (by decide) ge_a145 (pc' := 701) rfl (fun T200 h200 S W200 B200 => ?_)
  have Zn := Nat.le_trans Zn (Nat.le_of_eq W200.size.symm)
  have A_a80 := A_a80.other W200 ne_a80_a145
  have A_a145 := B200
  have A_a145 := A_a145.cg (up_set (F := fun q => .int (Int32.ofNat (q + 1))) (G := fun _ => .int (0 : Int32)) (M := 54) 64 rfl)
  have Kp := Kp.wr W200 (Or.inr sz_a145)
  refine g_dup C S dch_701 (pc' := 702) rfl rfl ?_
  refine g_bipush C S (55 : Int32) dch_702 (pc' := 704) rfl rfl ?_
  refine g_bipush C S (56 : Int32) dch_704 (pc' := 706) rfl rfl ?_
  refine g_iastore C S (i := 55) dch_706 A_a145 (by decide) (by decide) ge_a145 (pc' := 707) rfl (fun T201 h201 S W201 B201 => ?_)
  have Zn := Nat.le_trans Zn (Nat.le_of_eq W201.size.symm)
  have A_a80 := A_a80.other W201 ne_a80_a145
  have A_a145 := B201
  have A_a145 := A_a145.cg (up_set (F := fun q => .int (Int32.ofNat (q + 1))) (G := fun _ => .int (0 : Int32)) (M := 55) 64 rfl)
  have Kp := Kp.wr W201 (Or.inr sz_a145)
  refine g_dup C S dch_707 (pc' := 708) rfl rfl ?_
  refine g_bipush C S (56 : Int32) dch_708 (pc' := 710) rfl rfl ?_
  refine g_bipush C S (57 : Int32) dch_710 (pc' := 712) rfl rfl ?_
  refine g_iastore C S (i := 56) dch_712 A_a145 (by decide) (by decide) ge_a145 (pc' := 713) rfl (fun T202 h202 S W202 B202 => ?_)
  have Zn := Nat.le_trans Zn (Nat.le_of_eq W202.size.symm)
  have A_a80 := A_a80.other W202 ne_a80_a145
  have A_a145 := B202
  have A_a145 := A_a145.cg (up_set (F := fun q => .int (Int32.ofNat (q + 1))) (G := fun _ => .int (0 : Int32)) (M := 56) 64 rfl)
  have Kp := Kp.wr W202 (Or.inr sz_a145)
  refine g_dup C S dch_713 (pc' := 714) rfl rfl ?_
  refine g_bipush C S (57 : Int32) dch_714 (pc' := 716) rfl rfl ?_
  refine g_bipush C S (58 : Int32) dch_716 (pc' := 718) rfl rfl ?_
  refine g_iastore C S (i := 57) dch_718 A_a145 (by decide) (by decide) ge_a145 (pc' := 719) rfl (fun T203 h203 S W203 B203 => ?_)
  have Zn := Nat.le_trans Zn (Nat.le_of_eq W203.size.symm)
  have A_a80 := A_a80.other W203 ne_a80_a145
  have A_a145 := B203
  have A_a145 := A_a145.cg (up_set (F := fun q => .int (Int32.ofNat (q + 1))) (G := fun _ => .int (0 : Int32)) (M := 57) 64 rfl)
  have Kp := Kp.wr W203 (Or.inr sz_a145)
  refine g_dup C S dch_719 (pc' := 720) rfl rfl ?_
  refine g_bipush C S (58 : Int32) dch_720 (pc' := 722) rfl rfl ?_
  refine g_bipush C S (59 : Int32) dch_722 (pc' := 724) rfl rfl ?_
  refine g_iastore C S (i := 58) dch_724 A_a145 (by decide) (by decide) ge_a145 (pc' := 725) rfl (fun T204 h204 S W204 B204 => ?_)
  have Zn := Nat.le_trans Zn (Nat.le_of_eq W204.size.symm)
  have A_a80 := A_a80.other W204 ne_a80_a145
  have A_a145 := B204
  have A_a145 := A_a145.cg (up_set (F := fun q => .int (Int32.ofNat (q + 1))) (G := fun _ => .int (0 : Int32)) (M := 58) 64 rfl)
  have Kp := Kp.wr W204 (Or.inr sz_a145)
  refine g_dup C S dch_725 (pc' := 726) rfl rfl ?_
  refine g_bipush C S (59 : Int32) dch_726 (pc' := 728) rfl rfl ?_
  refine g_bipush C S (60 : Int32) dch_728 (pc' := 730) rfl rfl ?_
  refine g_iastore C S (i := 59) dch_730 A_a145 (by decide) (by decide) ge_a145 (pc' := 731) rfl (fun T205 h205 S W205 B205 => ?_)
  have Zn := Nat.le_trans Zn (Nat.le_of_eq W205.size.symm)
  have A_a80 := A_a80.other W205 ne_a80_a145
  have A_a145 := B205
  have A_a145 := A_a145.cg (up_set (F := fun q => .int (Int32.ofNat (q + 1))) (G := fun _ => .int (0 : Int32)) (M := 59) 64 rfl)
  have Kp := Kp.wr W205 (Or.inr sz_a145)
  refine g_dup C S dch_731 (pc' := 732) rfl rfl ?_
  refine g_bipush C S (60 : Int32) dch_732 (pc' := 734) rfl rfl ?_
  refine g_bipush C S (61 : Int32) dch_734 (pc' := 736) rfl rfl ?_
  refine g_iastore C S (i := 60) dch_736 A_a145 (by decide) (by decide) ge_a145 (pc' := 737) rfl (fun T206 h206 S W206 B206 => ?_)
  have Zn := Nat.le_trans Zn (Nat.le_of_eq W206.size.symm)
  have A_a80 := A_a80.other W206 ne_a80_a145
  have A_a145 := B206
  have A_a145 := A_a145.cg (up_set (F := fun q => .int (Int32.ofNat (q + 1))) (G := fun _ => .int (0 : Int32)) (M := 60) 64 rfl)
  have Kp := Kp.wr W206 (Or.inr sz_a145)
  refine g_dup C S dch_737 (pc' := 738) rfl rfl ?_
  refine g_bipush C S (61 : Int32) dch_738 (pc' := 740) rfl rfl ?_
  refine g_bipush C S (62 : Int32) dch_740 (pc' := 742) rfl rfl ?_
  refine g_iastore C S (i := 61) dch_742 A_a145 (by decide) (by decide) ge_a145 (pc' := 743) rfl (fun T207 h207 S W207 B207 => ?_)
  have Zn := Nat.le_trans Zn (Nat.le_of_eq W207.size.symm)
  have A_a80 := A_a80.other W207 ne_a80_a145
  have A_a145 := B207
  have A_a145 := A_a145.cg (up_set (F := fun q => .int (Int32.ofNat (q + 1))) (G := fun _ => .int (0 : Int32)) (M := 61) 64 rfl)
  have Kp := Kp.wr W207 (Or.inr sz_a145)
  refine g_dup C S dch_743 (pc' := 744) rfl rfl ?_
  refine g_bipush C S (62 : Int32) dch_744 (pc' := 746) rfl rfl ?_
  refine g_bipush C S (63 : Int32) dch_746 (pc' := 748) rfl rfl ?_
  refine g_iastore C S (i := 62) dch_748 A_a145 (by decide) (by decide) ge_a145 (pc' := 749) rfl (fun T208 h208 S W208 B208 => ?_)
  have Zn := Nat.le_trans Zn (Nat.le_of_eq W208.size.symm)
  have A_a80 := A_a80.other W208 ne_a80_a145
  have A_a145 := B208
  have A_a145 := A_a145.cg (up_set (F := fun q => .int (Int32.ofNat (q + 1))) (G := fun _ => .int (0 : Int32)) (M := 62) 64 rfl)
  have Kp := Kp.wr W208 (Or.inr sz_a145)
  refine g_dup C S dch_749 (pc' := 750) rfl rfl ?_
  refine g_bipush C S (63 : Int32) dch_750 (pc' := 752) rfl rfl ?_
  refine g_bipush C S (64 : Int32) dch_752 (pc' := 754) rfl rfl ?_
  refine g_iastore C S (i := 63) dch_754 A_a145 (by decide) (by decide) ge_a145 (pc' := 755) rfl (fun T209 h209 S W209 B209 => ?_)
  have Zn := Nat.le_trans Zn (Nat.le_of_eq W209.size.symm)
  have A_a80 := A_a80.other W209 ne_a80_a145
  have A_a145 := B209
  have A_a145 := A_a145.cg (up_set (F := fun q => .int (Int32.ofNat (q + 1))) (G := fun _ => .int (0 : Int32)) (M := 63) 64 rfl)
  have Kp := Kp.wr W209 (Or.inr sz_a145)
  refine g_astore C S dch_755 (pc' := 757) rfl rfl (L' := #[.val (.ref o), .val (.int (Int32.ofNat k)), .val (.int (Int32.ofNat q)), .val (.int (Int32.ofNat r)), .val (.ref a80), .val (.ref a145)]) rfl ?_
  refine g_aload C S dch_757 (pc' := 759) rfl rfl rfl ?_
  refine g_iloadN C S dch_759 (pc' := 760) rfl rfl ?_
  refine g_iloadN C S dch_760 (pc' := 761) rfl rfl ?_
  refine g_iastore C S (i := k) dch_761 A_a145 (o32 (by omega)) hk ge_a145 (pc' := 762) rfl (fun T210 h210 S W210 B210 => ?_)
  have Zn := Nat.le_trans Zn (Nat.le_of_eq W210.size.symm)
  have A_a80 := A_a80.other W210 ne_a80_a145
  have A_a145 := B210
  have Kp := Kp.wr W210 (Or.inr sz_a145)
  refine g_aloadN C S dch_762 (pc' := 763) rfl rfl rfl ?_
  refine g_aload C S dch_763 (pc' := 765) rfl rfl rfl ?_
  refine g_iloadN C S dch_765 (pc' := 766) rfl rfl ?_
  refine g_iconst C S (1 : Int32) dch_766 (pc' := 767) rfl rfl ?_
  refine g_iadd C S dch_767 (pc' := 768) rfl ?_
  rw [o32_succ]
  refine g_aload C S dch_768 (pc' := 770) rfl rfl rfl ?_
  have hD9 : [a80, a145, o, sy, co, le, lc, fa, fb].Nodup := by simp only [List.nodup_cons, List.mem_cons, List.not_mem_nil, or_false, not_or, List.nodup_nil, not_false_eq_true, and_true]; exact ⟨⟨ne_a80_a145, (Ne.symm (Nat.ne_of_lt (Nat.lt_of_lt_of_le lt_o sz_a80))), (Ne.symm (Nat.ne_of_lt (Nat.lt_of_lt_of_le lt_sy sz_a80))), (Ne.symm (Nat.ne_of_lt (Nat.lt_of_lt_of_le lt_co sz_a80))), (Ne.symm (Nat.ne_of_lt (Nat.lt_of_lt_of_le lt_le sz_a80))), (Ne.symm (Nat.ne_of_lt (Nat.lt_of_lt_of_le lt_lc sz_a80))), (Ne.symm (Nat.ne_of_lt (Nat.lt_of_lt_of_le lt_fa sz_a80))), (Ne.symm (Nat.ne_of_lt (Nat.lt_of_lt_of_le lt_fb sz_a80)))⟩, ⟨(Ne.symm (Nat.ne_of_lt (Nat.lt_of_lt_of_le lt_o sz_a145))), (Ne.symm (Nat.ne_of_lt (Nat.lt_of_lt_of_le lt_sy sz_a145))), (Ne.symm (Nat.ne_of_lt (Nat.lt_of_lt_of_le lt_co sz_a145))), (Ne.symm (Nat.ne_of_lt (Nat.lt_of_lt_of_le lt_le sz_a145))), (Ne.symm (Nat.ne_of_lt (Nat.lt_of_lt_of_le lt_lc sz_a145))), (Ne.symm (Nat.ne_of_lt (Nat.lt_of_lt_of_le lt_fa sz_a145))), (Ne.symm (Nat.ne_of_lt (Nat.lt_of_lt_of_le lt_fb sz_a145)))⟩, ⟨ne_o_sy, ne_o_co, ne_o_le, ne_o_lc, ne_o_fa, ne_o_fb⟩, ⟨ne_sy_co, ne_sy_le, ne_sy_lc, ne_sy_fa, ne_sy_fb⟩, ⟨ne_co_le, ne_co_lc, ne_co_fa, ne_co_fb⟩, ⟨ne_le_lc, ne_le_fa, ne_le_fb⟩, ⟨ne_lc_fa, ne_lc_fb⟩, ne_fa_fb⟩
  have Y_o := X_o.keep Kp
  refine g_callV C S (rm := ({ frames := 2, cells := 0, slots := 0, locals := 43 } : Room)) (W := 0) dch_770 (hw _ (List.mem_of_getElem? (i := 41) rfl)) (hw _ (List.mem_of_getElem? (i := 42) rfl)) (notFace_of_selects (args := #[]) (mvT C.2.1 (hw _ (List.mem_of_getElem? (i := 44) rfl)))) (hw _ (List.mem_of_getElem? (i := 44) rfl)) (hw _ (List.mem_of_getElem? (i := 43) rfl)) (hw _ (List.mem_of_getElem? (i := 2) rfl)) (hw _ (List.mem_of_getElem? (i := 45) rfl)) (by decide) rfl Y_o (c_fil l' Z a0 hw o a80 a145 h210 n0 (hChL k) (fun i => i) (k + 1) 64 64 _ _ (ch_good hk) (by omega) (by decide) (fun i hi => (by omega : i < 64)) (fun i _ => Nat.lt_succ_self i) (fun i hi => if_pos (by omega)) (fun i hi => ch_fl (by omega)) sy co le lc fa fb _ _ _ _ _ _ g_o g_sy g_co g_le g_lc g_fa g_fb hD9 Y_o (F_m_aSymbols_o.keep Kp nin0) (F_m_aCodes_o.keep Kp nin0) (F_m_aLengths_o.keep Kp nin0) (F_m_aLengthCounts_o.keep Kp nin0) (F_m_aFirstCodes_o.keep Kp nin0) (F_m_aFirstSymbols_o.keep Kp nin0) (F_m_nLongest_o.keep Kp nin0) (F_m_nValues_o.keep Kp nin0) (F_m_bPacked_o.keep Kp nin0) A_a80 A_a145 (A_lc.keep Kp nin0) (A_fa.keep Kp nin0) (A_fb.keep Kp nin0) (A_sy.keep Kp nin0) (A_co.keep Kp nin0) (A_le.keep Kp nin0)) (argsL := [(.ref a80), (.int (Int32.ofNat (k + 1))), (.ref a145)]) (r := []) rfl (lenOf pd_9 rfl) rfl (Nat.le_of_eq rfl) (by decide) (by decide) (by decide) (by decide) (pc' := 773) rfl (fun T211 h211 v211 q211 S => ?_)
  obtain ⟨rfl, K211, X211, G_co, G_le, G_pk, B_co, B_le⟩ := q211
  show Gl p e below s _ n0 _ T211 (mkF m 773 #[.val (.ref o), .val (.int (Int32.ofNat k)), .val (.int (Int32.ofNat q)), .val (.int (Int32.ofNat r)), .val (.ref a80), .val (.ref a145)] [])
  refine g_aloadN C S dch_773 (pc' := 774) rfl rfl rfl ?_
  refine g_iloadN C S dch_774 (pc' := 775) rfl rfl ?_
  refine g_callV C S (rm := ({ frames := 0, cells := 0, slots := 0, locals := 0 } : Room)) (W := 0) dch_775 (hw _ (List.mem_of_getElem? (i := 76) rfl)) (hw _ (List.mem_of_getElem? (i := 77) rfl)) (notFace_of_selects (args := #[]) (mvT C.2.1 (hw _ (List.mem_of_getElem? (i := 79) rfl)))) (hw _ (List.mem_of_getElem? (i := 79) rfl)) (hw _ (List.mem_of_getElem? (i := 78) rfl)) (hw _ (List.mem_of_getElem? (i := 2) rfl)) (hw _ (List.mem_of_getElem? (i := 80) rfl)) (by decide) rfl X211 (c_cod l' Z a0 hw o h211 n0 co (hPk (hLng (hChL k) (k + 1))) (hCo (hChL k) (fun i => i) (k + 1) (hPk (hLng (hChL k) (k + 1))) (k + 1)) q hq G_pk G_co B_co) (argsL := [(.int (Int32.ofNat q))]) (r := []) rfl (lenOf pd_10 rfl) rfl (Nat.le_of_eq rfl) (by decide) (by decide) (by decide) (by decide) (pc' := 778) rfl (fun T212 h212 v212 q212 S => ?_)
  obtain ⟨rfl, e212⟩ := q212; rw [e212] at S
  show Gl p e below s _ n0 _ T212 (mkF m 778 #[.val (.ref o), .val (.int (Int32.ofNat k)), .val (.int (Int32.ofNat q)), .val (.int (Int32.ofNat r)), .val (.ref a80), .val (.ref a145)] [(.long (hDec (hPk (hLng (hChL k) (k + 1))) ((hCo (hChL k) (fun i => i) (k + 1) (hPk (hLng (hChL k) (k + 1))) (k + 1)) q)))])
  refine g_iloadN C S dch_778 (pc' := 779) rfl rfl ?_
  refine g_iloadN C S dch_779 (pc' := 780) rfl rfl ?_
  refine g_callS C S (rm := ({ frames := 0, cells := 0, slots := 0, locals := 0 } : Room)) (W := 2) dch_780 (hw _ (List.mem_of_getElem? (i := 93) rfl)) (hw _ (List.mem_of_getElem? (i := 94) rfl)) (hw _ (List.mem_of_getElem? (i := 33) rfl)) (hw _ (List.mem_of_getElem? (i := 95) rfl)) (by decide) (c_chc l' Z a0 hw h211 n0 k q hk hq) (argsL := [(.int (Int32.ofNat k)), (.int (Int32.ofNat q))]) (r := [(.long (hDec (hPk (hLng (hChL k) (k + 1))) ((hCo (hChL k) (fun i => i) (k + 1) (hPk (hLng (hChL k) (k + 1))) (k + 1)) q)))]) rfl (lenOf pd_11 rfl) rfl (Nat.le_of_eq rfl) (by decide) (by decide) (by decide) (by decide) (pc' := 783) rfl (fun T213 h213 v213 q213 S => ?_)
  obtain ⟨rfl, e213⟩ := q213; rw [e213] at S
  show Gl p e below s _ n0 _ T213 (mkF m 783 #[.val (.ref o), .val (.int (Int32.ofNat k)), .val (.int (Int32.ofNat q)), .val (.int (Int32.ofNat r)), .val (.ref a80), .val (.ref a145)] [(.long (hChn k q)), (.long (hDec (hPk (hLng (hChL k) (k + 1))) ((hCo (hChL k) (fun i => i) (k + 1) (hPk (hLng (hChL k) (k + 1))) (k + 1)) q)))])
  refine g_lcmp C S dch_783 (pc' := 784) rfl ?_
  refine g_lif_ne C S dch_784 (pc' := 819) (pf := 787) (by decide) (by decide) rfl (fun hc784 => absurd (ch_code hk) hc784) (fun hc784 => ?_)
  refine g_aloadN C S dch_787 (pc' := 788) rfl rfl rfl ?_
  refine g_iloadN C S dch_788 (pc' := 789) rfl rfl ?_
  refine g_callV C S (rm := ({ frames := 0, cells := 0, slots := 0, locals := 0 } : Room)) (W := 0) dch_789 (hw _ (List.mem_of_getElem? (i := 76) rfl)) (hw _ (List.mem_of_getElem? (i := 77) rfl)) (notFace_of_selects (args := #[]) (mvT C.2.1 (hw _ (List.mem_of_getElem? (i := 79) rfl)))) (hw _ (List.mem_of_getElem? (i := 79) rfl)) (hw _ (List.mem_of_getElem? (i := 78) rfl)) (hw _ (List.mem_of_getElem? (i := 2) rfl)) (hw _ (List.mem_of_getElem? (i := 80) rfl)) (by decide) rfl X211 (c_cod l' Z a0 hw o h211 n0 co (hPk (hLng (hChL k) (k + 1))) (hCo (hChL k) (fun i => i) (k + 1) (hPk (hLng (hChL k) (k + 1))) (k + 1)) r (by omega : r < 256) G_pk G_co B_co) (argsL := [(.int (Int32.ofNat r))]) (r := []) rfl (lenOf pd_10 rfl) rfl (Nat.le_of_eq rfl) (by decide) (by decide) (by decide) (by decide) (pc' := 792) rfl (fun T214 h214 v214 q214 S => ?_)
  obtain ⟨rfl, e214⟩ := q214; rw [e214] at S
  show Gl p e below s _ n0 _ T214 (mkF m 792 #[.val (.ref o), .val (.int (Int32.ofNat k)), .val (.int (Int32.ofNat q)), .val (.int (Int32.ofNat r)), .val (.ref a80), .val (.ref a145)] [(.long (hDec (hPk (hLng (hChL k) (k + 1))) ((hCo (hChL k) (fun i => i) (k + 1) (hPk (hLng (hChL k) (k + 1))) (k + 1)) r)))])
  refine g_iloadN C S dch_792 (pc' := 793) rfl rfl ?_
  refine g_iloadN C S dch_793 (pc' := 794) rfl rfl ?_
  refine g_callS C S (rm := ({ frames := 0, cells := 0, slots := 0, locals := 0 } : Room)) (W := 2) dch_794 (hw _ (List.mem_of_getElem? (i := 93) rfl)) (hw _ (List.mem_of_getElem? (i := 94) rfl)) (hw _ (List.mem_of_getElem? (i := 33) rfl)) (hw _ (List.mem_of_getElem? (i := 95) rfl)) (by decide) (c_chc l' Z a0 hw h211 n0 k r hk (by omega : r < 256)) (argsL := [(.int (Int32.ofNat k)), (.int (Int32.ofNat r))]) (r := [(.long (hDec (hPk (hLng (hChL k) (k + 1))) ((hCo (hChL k) (fun i => i) (k + 1) (hPk (hLng (hChL k) (k + 1))) (k + 1)) r)))]) rfl (lenOf pd_11 rfl) rfl (Nat.le_of_eq rfl) (by decide) (by decide) (by decide) (by decide) (pc' := 797) rfl (fun T215 h215 v215 q215 S => ?_)
  obtain ⟨rfl, e215⟩ := q215; rw [e215] at S
  show Gl p e below s _ n0 _ T215 (mkF m 797 #[.val (.ref o), .val (.int (Int32.ofNat k)), .val (.int (Int32.ofNat q)), .val (.int (Int32.ofNat r)), .val (.ref a80), .val (.ref a145)] [(.long (hChn k r)), (.long (hDec (hPk (hLng (hChL k) (k + 1))) ((hCo (hChL k) (fun i => i) (k + 1) (hPk (hLng (hChL k) (k + 1))) (k + 1)) r)))])
  refine g_lcmp C S dch_797 (pc' := 798) rfl ?_
  refine g_lif_ne C S dch_798 (pc' := 819) (pf := 801) (by decide) (by decide) rfl (fun hc798 => absurd (ch_code hk) hc798) (fun hc798 => ?_)
  refine g_aloadN C S dch_801 (pc' := 802) rfl rfl rfl ?_
  refine g_iloadN C S dch_802 (pc' := 803) rfl rfl ?_
  refine g_callV C S (rm := ({ frames := 0, cells := 0, slots := 0, locals := 0 } : Room)) (W := 0) dch_803 (hw _ (List.mem_of_getElem? (i := 76) rfl)) (hw _ (List.mem_of_getElem? (i := 77) rfl)) (notFace_of_selects (args := #[]) (mvT C.2.1 (hw _ (List.mem_of_getElem? (i := 79) rfl)))) (hw _ (List.mem_of_getElem? (i := 79) rfl)) (hw _ (List.mem_of_getElem? (i := 78) rfl)) (hw _ (List.mem_of_getElem? (i := 2) rfl)) (hw _ (List.mem_of_getElem? (i := 80) rfl)) (by decide) rfl X211 (c_cod l' Z a0 hw o h211 n0 co (hPk (hLng (hChL k) (k + 1))) (hCo (hChL k) (fun i => i) (k + 1) (hPk (hLng (hChL k) (k + 1))) (k + 1)) k (by omega : k < 256) G_pk G_co B_co) (argsL := [(.int (Int32.ofNat k))]) (r := []) rfl (lenOf pd_10 rfl) rfl (Nat.le_of_eq rfl) (by decide) (by decide) (by decide) (by decide) (pc' := 806) rfl (fun T216 h216 v216 q216 S => ?_)
  obtain ⟨rfl, e216⟩ := q216; rw [e216] at S
  show Gl p e below s _ n0 _ T216 (mkF m 806 #[.val (.ref o), .val (.int (Int32.ofNat k)), .val (.int (Int32.ofNat q)), .val (.int (Int32.ofNat r)), .val (.ref a80), .val (.ref a145)] [(.long (hDec (hPk (hLng (hChL k) (k + 1))) ((hCo (hChL k) (fun i => i) (k + 1) (hPk (hLng (hChL k) (k + 1))) (k + 1)) k)))])
  refine g_iloadN C S dch_806 (pc' := 807) rfl rfl ?_
  refine g_iloadN C S dch_807 (pc' := 808) rfl rfl ?_
  refine g_callS C S (rm := ({ frames := 0, cells := 0, slots := 0, locals := 0 } : Room)) (W := 2) dch_808 (hw _ (List.mem_of_getElem? (i := 93) rfl)) (hw _ (List.mem_of_getElem? (i := 94) rfl)) (hw _ (List.mem_of_getElem? (i := 33) rfl)) (hw _ (List.mem_of_getElem? (i := 95) rfl)) (by decide) (c_chc l' Z a0 hw h211 n0 k k hk (by omega : k < 256)) (argsL := [(.int (Int32.ofNat k)), (.int (Int32.ofNat k))]) (r := [(.long (hDec (hPk (hLng (hChL k) (k + 1))) ((hCo (hChL k) (fun i => i) (k + 1) (hPk (hLng (hChL k) (k + 1))) (k + 1)) k)))]) rfl (lenOf pd_11 rfl) rfl (Nat.le_of_eq rfl) (by decide) (by decide) (by decide) (by decide) (pc' := 811) rfl (fun T217 h217 v217 q217 S => ?_)
  obtain ⟨rfl, e217⟩ := q217; rw [e217] at S
  show Gl p e below s _ n0 _ T217 (mkF m 811 #[.val (.ref o), .val (.int (Int32.ofNat k)), .val (.int (Int32.ofNat q)), .val (.int (Int32.ofNat r)), .val (.ref a80), .val (.ref a145)] [(.long (hChn k k)), (.long (hDec (hPk (hLng (hChL k) (k + 1))) ((hCo (hChL k) (fun i => i) (k + 1) (hPk (hLng (hChL k) (k + 1))) (k + 1)) k)))])
  refine g_lcmp C S dch_811 (pc' := 812) rfl ?_
  refine g_lif_ne C S dch_812 (pc' := 819) (pf := 815) (by decide) (by decide) rfl (fun hc812 => absurd (ch_code hk) hc812) (fun hc812 => ?_)
  refine g_iconst C S (1 : Int32) dch_815 (pc' := 816) rfl rfl ?_
  refine g_goto C S dch_816 (pc' := 820) (by decide) (by decide) ?_
  exact g_retZ C S dch_820 (by decide) (by decide) (by decide) (rfl)
theorem sub1_lt {i n : Nat} (h1 : 1 ≤ n) (hn : n < 2 ^ 30) (hi : i < 2 ^ 30) : (Int32.ofNat i < Int32.ofNat n - 1) ↔ i + 1 < n := by
  obtain ⟨m, rfl⟩ : ∃ m, n = m + 1 := ⟨n - 1, by omega⟩
  rw [o32_pred, o32_lt (by omega) (by omega)]; omega
theorem sub_nz {i n : Nat} (h : i < n) (hn : n < 2 ^ 30) : Int32.ofNat n - Int32.ofNat i ≠ 0 := by
  obtain ⟨m, rfl⟩ : ∃ m, n = m + i := ⟨n - i, by omega⟩
  rw [o32_sub]; exact fun q => absurd ((o32_inj (j := m) (k := 0) (by omega) (by omega)).mp q) (by omega)
theorem own_and (x m : Int32) {k : Nat} (hk : k < 31) (hm : m.toBitVec.toNat = 2 ^ k - 1) : ∃ A : Nat, A < 2 ^ k ∧ (x &&& m) = Int32.ofNat A := by
  have e := Jvm.Kit.i32_mask x m (k := k) (by omega) hm
  have hp : (0 : Int) < 2 ^ k := by exact_mod_cast Nat.two_pow_pos k
  have b1 := Int.emod_nonneg x.toInt (Int.ne_of_gt hp)
  have b2 := Int.emod_lt_of_pos x.toInt hp
  have b3 : (2 : Int) ^ k < 2 ^ 31 := by exact_mod_cast Nat.pow_lt_pow_right (by decide) hk
  obtain ⟨A, hA⟩ := Int.eq_ofNat_of_zero_le b1
  refine ⟨A, by rw [hA] at b2; exact_mod_cast b2, Int32.toInt_inj.mp ?_⟩
  rw [e, hA, o32 (by rw [hA] at b2; have : (A : Int) < 2 ^ 31 := Int.lt_trans b2 b3; exact_mod_cast this)]
theorem own_j (p4 : Int32) {i n : Nat} (h : i < n) (hn : n ≤ 5) : ∃ x, i + x < n ∧ Int32.ofNat i + ((p4 &&& (7 : Int32)) % (Int32.ofNat n - Int32.ofNat i)) = Int32.ofNat (i + x) := by
  obtain ⟨A, hA, e⟩ := own_and p4 7 (k := 3) (by decide) (by decide)
  obtain ⟨m, rfl⟩ : ∃ m, n = m + i := ⟨n - i, by omega⟩
  rw [o32_sub, e]
  have e2 : (Int32.ofNat A % Int32.ofNat m).toInt = ((A % m : Nat) : Int) := by
    rw [Jvm.Kit.i32_rem_nonneg (by rw [o32 (by omega)]; omega), o32 (by omega), o32 (by omega)]; rfl
  have b : A % m < m := Nat.mod_lt _ (by omega)
  refine ⟨A % m, by omega, ?_⟩
  rw [← o32_add, show Int32.ofNat A % Int32.ofNat m = Int32.ofNat (A % m) from Int32.toInt_inj.mp (by rw [e2, o32 (by omega)])]
theorem sw_same (f : Nat → Nat) (i N : Nat) : ∀ q, q < N → (fun q => Value.int (Int32.ofNat (f q))) q = (fun q => Value.int (Int32.ofNat (hSw f i i q))) q := fun q _ => by
  show Value.int (Int32.ofNat (f q)) = Value.int (Int32.ofNat (if q = i then f i else if q = i then f i else f q))
  by_cases u : q = i
  · rw [if_pos u, u]
  · rw [if_neg u, if_neg u]
theorem sw_set (f : Nat → Nat) (i j N : Nat) : ∀ q, q < N → (fun q => if q = j then Value.int (Int32.ofNat (f i)) else (fun q => if q = i then Value.int (Int32.ofNat (f j)) else (fun q => Value.int (Int32.ofNat (f q))) q) q) q = (fun q => Value.int (Int32.ofNat (hSw f i j q))) q := fun q _ => by
  show (if q = j then Value.int (Int32.ofNat (f i)) else if q = i then Value.int (Int32.ofNat (f j)) else Value.int (Int32.ofNat (f q))) = Value.int (Int32.ofNat (if q = j then f i else if q = i then f j else f q))
  by_cases u : q = j
  · rw [if_pos u, if_pos u]
  · rw [if_neg u, if_neg u]
    by_cases w : q = i
    · rw [if_pos w, if_pos w]
    · rw [if_neg w, if_neg w]
theorem dsw_0 : decode method_6_code 0 = .ok (.iload_n 2, 1) := by decide +kernel
theorem dsw_1 : decode method_6_code 1 = .ok (.iload_n 1, 1) := by decide +kernel
theorem dsw_2 : decode method_6_code 2 = .ok (.iconst 1, 1) := by decide +kernel
theorem dsw_3 : decode method_6_code 3 = .ok (.isub, 1) := by decide +kernel
theorem dsw_4 : decode method_6_code 4 = .ok (.if_icmp .lt 4, 3) := by decide +kernel
theorem dsw_7 : decode method_6_code 7 = .ok (.return_, 1) := by decide +kernel
theorem dsw_8 : decode method_6_code 8 = .ok (.iload_n 2, 1) := by decide +kernel
theorem dsw_9 : decode method_6_code 9 = .ok (.iload_n 3, 1) := by decide +kernel
theorem dsw_10 : decode method_6_code 10 = .ok (.bipush 7, 2) := by decide +kernel
theorem dsw_12 : decode method_6_code 12 = .ok (.iand, 1) := by decide +kernel
theorem dsw_13 : decode method_6_code 13 = .ok (.iload_n 1, 1) := by decide +kernel
theorem dsw_14 : decode method_6_code 14 = .ok (.iload_n 2, 1) := by decide +kernel
theorem dsw_15 : decode method_6_code 15 = .ok (.isub, 1) := by decide +kernel
theorem dsw_16 : decode method_6_code 16 = .ok (.irem, 1) := by decide +kernel
theorem dsw_17 : decode method_6_code 17 = .ok (.iadd, 1) := by decide +kernel
theorem dsw_18 : decode method_6_code 18 = .ok (.istore 4, 2) := by decide +kernel
theorem dsw_20 : decode method_6_code 20 = .ok (.aload_n 0, 1) := by decide +kernel
theorem dsw_21 : decode method_6_code 21 = .ok (.iload_n 2, 1) := by decide +kernel
theorem dsw_22 : decode method_6_code 22 = .ok (.iaload, 1) := by decide +kernel
theorem dsw_23 : decode method_6_code 23 = .ok (.istore 5, 2) := by decide +kernel
theorem dsw_25 : decode method_6_code 25 = .ok (.aload_n 0, 1) := by decide +kernel
theorem dsw_26 : decode method_6_code 26 = .ok (.iload_n 2, 1) := by decide +kernel
theorem dsw_27 : decode method_6_code 27 = .ok (.aload_n 0, 1) := by decide +kernel
theorem dsw_28 : decode method_6_code 28 = .ok (.iload 4, 2) := by decide +kernel
theorem dsw_30 : decode method_6_code 30 = .ok (.iaload, 1) := by decide +kernel
theorem dsw_31 : decode method_6_code 31 = .ok (.iastore, 1) := by decide +kernel
theorem dsw_32 : decode method_6_code 32 = .ok (.aload_n 0, 1) := by decide +kernel
theorem dsw_33 : decode method_6_code 33 = .ok (.iload 4, 2) := by decide +kernel
theorem dsw_35 : decode method_6_code 35 = .ok (.iload 5, 2) := by decide +kernel
theorem dsw_37 : decode method_6_code 37 = .ok (.iastore, 1) := by decide +kernel
theorem dsw_38 : decode method_6_code 38 = .ok (.return_, 1) := by decide +kernel
set_option maxRecDepth 65536 in
set_option maxHeartbeats 40000000 in
theorem c_swp (l' : Launch) (Z : State) (a0 : Array Value) (hw : ∀ d ∈ tables_1, d.before a0 Z = true) (a1 : Addr) (p4 : Int32) (h0 : Heap) (n0 : Nat) (f : Nat → Nat) (n i : Nat) (h1n : 1 ≤ n) (hn5 : n ≤ 5) (hi5 : i < 5) (ga : n0 ≤ a1) (A_a1 : Ary Z h0 a1 .int 5 (fun q => .int (Int32.ofNat (f q)))) :
    Con l' Z (⟨"leafpress/HuffmanCodeCodePinLaw", "swapIf", "([IIII)V"⟩ : MethodName) method_6_code 6 none ({ frames := 0, cells := 0, slots := 0, locals := 0 } : Room) #[(.ref a1), (.int (Int32.ofNat n)), (.int (Int32.ofNat i)), (.int p4)] h0 n0 (fun v h => v = none ∧ ∃ j, i ≤ j ∧ (j < n ∨ j = i) ∧ j < 5 ∧ Keep h0 h [a1] ∧ Ary Z h a1 .int 5 (fun q => .int (Int32.ofNat (hSw f i j q)))) := by
  refine Con.of (plainFor_of_name (by first | (simp [plainName, overriddenIn]; done) | decide +kernel)) (L0 := #[.val (.ref a1), .val (.int (Int32.ofNat n)), .val (.int (Int32.ofNat i)), .val (.int p4), .unset, .unset]) (fun m => by first | (simp [entryFrame, mkF, argsToLocals, Value.category]; done) | rfl) ?_
  intro p e s m below meth c T C S
  have Kp := Keep.refl h0 [a1]
  refine g_iloadN C S dsw_0 (pc' := 1) rfl rfl ?_
  refine g_iloadN C S dsw_1 (pc' := 2) rfl rfl ?_
  refine g_iconst C S (1 : Int32) dsw_2 (pc' := 3) rfl rfl ?_
  refine g_isub C S dsw_3 (pc' := 4) rfl ?_
  refine g_icmp_lt C S dsw_4 (pc' := 8) (pf := 7) (by decide) (by decide) rfl (fun hc4 => ?_) (fun hc4 => ?_)
  · have hin : i < n := by have := (sub1_lt h1n (by omega) (by omega)).mp hc4; omega
    refine g_iloadN C S dsw_8 (pc' := 9) rfl rfl ?_
    refine g_iloadN C S dsw_9 (pc' := 10) rfl rfl ?_
    refine g_bipush C S (7 : Int32) dsw_10 (pc' := 12) rfl rfl ?_
    refine g_iand C S dsw_12 (pc' := 13) rfl ?_
    refine g_iloadN C S dsw_13 (pc' := 14) rfl rfl ?_
    refine g_iloadN C S dsw_14 (pc' := 15) rfl rfl ?_
    refine g_isub C S dsw_15 (pc' := 16) rfl ?_
    refine g_irem C S dsw_16 (pc' := 17) rfl (sub_nz hin (by omega)) ?_
    refine g_iadd C S dsw_17 (pc' := 18) rfl ?_
    obtain ⟨x, hx, ex⟩ := own_j p4 hin hn5
    rw [ex]
    refine g_istore C S dsw_18 (pc' := 20) rfl (L' := #[.val (.ref a1), .val (.int (Int32.ofNat n)), .val (.int (Int32.ofNat i)), .val (.int p4), .val (.int (Int32.ofNat (i + x))), .unset]) rfl ?_
    refine g_aloadN C S dsw_20 (pc' := 21) rfl rfl rfl ?_
    refine g_iloadN C S dsw_21 (pc' := 22) rfl rfl ?_
    refine g_iaload C S (i := i) (v := (.int (Int32.ofNat (f i)))) dsw_22 A_a1 (o32 (by omega)) (by omega) rfl (pc' := 23) rfl ?_
    refine g_istore C S dsw_23 (pc' := 25) rfl (L' := #[.val (.ref a1), .val (.int (Int32.ofNat n)), .val (.int (Int32.ofNat i)), .val (.int p4), .val (.int (Int32.ofNat (i + x))), .val (.int (Int32.ofNat (f i)))]) rfl ?_
    refine g_aloadN C S dsw_25 (pc' := 26) rfl rfl rfl ?_
    refine g_iloadN C S dsw_26 (pc' := 27) rfl rfl ?_
    refine g_aloadN C S dsw_27 (pc' := 28) rfl rfl rfl ?_
    refine g_iload C S dsw_28 (pc' := 30) rfl rfl ?_
    refine g_iaload C S (i := (i + x)) (v := (.int (Int32.ofNat (f (i + x))))) dsw_30 A_a1 (o32 (by omega)) (by omega) rfl (pc' := 31) rfl ?_
    refine g_iastore C S (i := i) dsw_31 A_a1 (o32 (by omega)) (by omega) ga (pc' := 32) rfl (fun T218 h218 S W218 B218 => ?_)
    have A_a1 := B218
    have Kp := Kp.wr W218 (Or.inl (List.mem_of_getElem? (i := 0) rfl))
    refine g_aloadN C S dsw_32 (pc' := 33) rfl rfl rfl ?_
    refine g_iload C S dsw_33 (pc' := 35) rfl rfl ?_
    refine g_iload C S dsw_35 (pc' := 37) rfl rfl ?_
    refine g_iastore C S (i := (i + x)) dsw_37 A_a1 (o32 (by omega)) (by omega) ga (pc' := 38) rfl (fun T219 h219 S W219 B219 => ?_)
    have A_a1 := B219
    have Kp := Kp.wr W219 (Or.inl (List.mem_of_getElem? (i := 0) rfl))
    exact g_return C S dsw_38 (by decide) (by decide) (⟨rfl, i + x, by omega, Or.inl hx, by omega, Kp, A_a1.cg (sw_set f i (i + x) 5)⟩)
  · exact g_return C S dsw_7 (by decide) (by decide) (⟨rfl, i, Nat.le_refl _, Or.inr rfl, hi5, Kp, A_a1.cg (sw_same f i 5)⟩)
theorem dtr_0 : decode method_7_code 0 = .ok (.iload_n 3, 1) := by decide +kernel
theorem dtr_1 : decode method_7_code 1 = .ok (.iload_n 1, 1) := by decide +kernel
theorem dtr_2 : decode method_7_code 2 = .ok (.if_icmp .ge 8, 3) := by decide +kernel
theorem dtr_5 : decode method_7_code 5 = .ok (.iload_n 3, 1) := by decide +kernel
theorem dtr_6 : decode method_7_code 6 = .ok (.iload_n 2, 1) := by decide +kernel
theorem dtr_7 : decode method_7_code 7 = .ok (.if_icmp .ne 5, 3) := by decide +kernel
theorem dtr_10 : decode method_7_code 10 = .ok (.lconst 0, 1) := by decide +kernel
theorem dtr_11 : decode method_7_code 11 = .ok (.lreturn, 1) := by decide +kernel
theorem dtr_12 : decode method_7_code 12 = .ok (.aload_n 0, 1) := by decide +kernel
theorem dtr_13 : decode method_7_code 13 = .ok (.iload_n 3, 1) := by decide +kernel
theorem dtr_14 : decode method_7_code 14 = .ok (.iaload, 1) := by decide +kernel
theorem dtr_15 : decode method_7_code 15 = .ok (.aload_n 0, 1) := by decide +kernel
theorem dtr_16 : decode method_7_code 16 = .ok (.iload_n 2, 1) := by decide +kernel
theorem dtr_17 : decode method_7_code 17 = .ok (.iaload, 1) := by decide +kernel
theorem dtr_18 : decode method_7_code 18 = .ok (.if_icmp .lt 17, 3) := by decide +kernel
theorem dtr_21 : decode method_7_code 21 = .ok (.aload_n 0, 1) := by decide +kernel
theorem dtr_22 : decode method_7_code 22 = .ok (.iload_n 3, 1) := by decide +kernel
theorem dtr_23 : decode method_7_code 23 = .ok (.iaload, 1) := by decide +kernel
theorem dtr_24 : decode method_7_code 24 = .ok (.aload_n 0, 1) := by decide +kernel
theorem dtr_25 : decode method_7_code 25 = .ok (.iload_n 2, 1) := by decide +kernel
theorem dtr_26 : decode method_7_code 26 = .ok (.iaload, 1) := by decide +kernel
theorem dtr_27 : decode method_7_code 27 = .ok (.if_icmp .ne 18, 3) := by decide +kernel
theorem dtr_30 : decode method_7_code 30 = .ok (.iload_n 3, 1) := by decide +kernel
theorem dtr_31 : decode method_7_code 31 = .ok (.iload_n 2, 1) := by decide +kernel
theorem dtr_32 : decode method_7_code 32 = .ok (.if_icmp .ge 13, 3) := by decide +kernel
theorem dtr_35 : decode method_7_code 35 = .ok (.lconst 1, 1) := by decide +kernel
theorem dtr_36 : decode method_7_code 36 = .ok (.aload_n 0, 1) := by decide +kernel
theorem dtr_37 : decode method_7_code 37 = .ok (.iload_n 2, 1) := by decide +kernel
theorem dtr_38 : decode method_7_code 38 = .ok (.iaload, 1) := by decide +kernel
theorem dtr_39 : decode method_7_code 39 = .ok (.aload_n 0, 1) := by decide +kernel
theorem dtr_40 : decode method_7_code 40 = .ok (.iload_n 3, 1) := by decide +kernel
theorem dtr_41 : decode method_7_code 41 = .ok (.iaload, 1) := by decide +kernel
theorem dtr_42 : decode method_7_code 42 = .ok (.isub, 1) := by decide +kernel
theorem dtr_43 : decode method_7_code 43 = .ok (.lshl, 1) := by decide +kernel
theorem dtr_44 : decode method_7_code 44 = .ok (.lreturn, 1) := by decide +kernel
theorem dtr_45 : decode method_7_code 45 = .ok (.lconst 0, 1) := by decide +kernel
theorem dtr_46 : decode method_7_code 46 = .ok (.lreturn, 1) := by decide +kernel
set_option maxRecDepth 65536 in
set_option maxHeartbeats 40000000 in
theorem c_trm (l' : Launch) (Z : State) (a0 : Array Value) (hw : ∀ d ∈ tables_1, d.before a0 Z = true) (a1 : Addr) (h0 : Heap) (n0 : Nat) (l : Nat → Nat) (n i j : Nat) (hn5 : n ≤ 5) (hi5 : i < 5) (hj5 : j < 5) (hl4 : ∀ q, q < 5 → l q ≤ 4) (A_a1 : Ary Z h0 a1 .int 5 (fun q => .int (Int32.ofNat (l q)))) :
    Con l' Z (⟨"leafpress/HuffmanCodeCodePinLaw", "term", "([IIII)J"⟩ : MethodName) method_7_code 4 (some .long) ({ frames := 0, cells := 0, slots := 0, locals := 0 } : Room) #[(.ref a1), (.int (Int32.ofNat n)), (.int (Int32.ofNat i)), (.int (Int32.ofNat j))] h0 n0 (fun v h => v = some (.long (hTrm l n i j)) ∧ h = h0) := by
  refine Con.of (plainFor_of_name (by first | (simp [plainName, overriddenIn]; done) | decide +kernel)) (L0 := #[.val (.ref a1), .val (.int (Int32.ofNat n)), .val (.int (Int32.ofNat i)), .val (.int (Int32.ofNat j))]) (fun m => by first | (simp [entryFrame, mkF, argsToLocals, Value.category]; done) | rfl) ?_
  intro p e s m below meth c T C S
  have b1 := hl4 i hi5
  have b2 := hl4 j hj5
  refine g_iloadN C S dtr_0 (pc' := 1) rfl rfl ?_
  refine g_iloadN C S dtr_1 (pc' := 2) rfl rfl ?_
  refine g_icmp_ge C S dtr_2 (pc' := 10) (pf := 5) (by decide) (by decide) rfl (fun hc2 => ?_) (fun hc2 => ?_)
  · refine g_lconst C S (0 : Int64) dtr_10 (pc' := 11) rfl rfl ?_
    exact g_retJ C S dtr_11 (by decide) (by decide) (⟨by unfold hTrm; rw [if_pos (Or.inl (fun z => hc2 ((o32_lt (by omega) (by omega)).mpr z)))], rfl⟩)
  · refine g_iloadN C S dtr_5 (pc' := 6) rfl rfl ?_
    refine g_iloadN C S dtr_6 (pc' := 7) rfl rfl ?_
    refine g_icmp_ne C S dtr_7 (pc' := 12) (pf := 10) (by decide) (by decide) rfl (fun hc7 => ?_) (fun hc7 => ?_)
    · refine g_aloadN C S dtr_12 (pc' := 13) rfl rfl rfl ?_
      refine g_iloadN C S dtr_13 (pc' := 14) rfl rfl ?_
      refine g_iaload C S (i := j) (v := (.int (Int32.ofNat (l j)))) dtr_14 A_a1 (o32 (by omega)) hj5 rfl (pc' := 15) rfl ?_
      refine g_aloadN C S dtr_15 (pc' := 16) rfl rfl rfl ?_
      refine g_iloadN C S dtr_16 (pc' := 17) rfl rfl ?_
      refine g_iaload C S (i := i) (v := (.int (Int32.ofNat (l i)))) dtr_17 A_a1 (o32 (by omega)) hi5 rfl (pc' := 18) rfl ?_
      refine g_icmp_lt C S dtr_18 (pc' := 35) (pf := 21) (by decide) (by decide) rfl (fun hc18 => ?_) (fun hc18 => ?_)
      · refine g_lconst C S (1 : Int64) dtr_35 (pc' := 36) rfl rfl ?_
        refine g_aloadN C S dtr_36 (pc' := 37) rfl rfl rfl ?_
        refine g_iloadN C S dtr_37 (pc' := 38) rfl rfl ?_
        refine g_iaload C S (i := i) (v := (.int (Int32.ofNat (l i)))) dtr_38 A_a1 (o32 (by omega)) hi5 rfl (pc' := 39) rfl ?_
        refine g_aloadN C S dtr_39 (pc' := 40) rfl rfl rfl ?_
        refine g_iloadN C S dtr_40 (pc' := 41) rfl rfl ?_
        refine g_iaload C S (i := j) (v := (.int (Int32.ofNat (l j)))) dtr_41 A_a1 (o32 (by omega)) hj5 rfl (pc' := 42) rfl ?_
        refine g_isub C S dtr_42 (pc' := 43) rfl ?_
        refine g_lshl C S dtr_43 (pc' := 44) rfl ?_
        exact g_retJ C S dtr_44 (by decide) (by decide) (⟨by unfold hTrm; rw [if_neg (fun z => z.elim (fun z => z ((o32_lt (by omega) (by omega)).mp hc2)) (fun z => hc7 ((o32_inj (by omega) (by omega)).mpr z))), if_pos (Or.inl ((o32_lt (by omega) (by omega)).mp hc18))], rfl⟩)
      · refine g_aloadN C S dtr_21 (pc' := 22) rfl rfl rfl ?_
        refine g_iloadN C S dtr_22 (pc' := 23) rfl rfl ?_
        refine g_iaload C S (i := j) (v := (.int (Int32.ofNat (l j)))) dtr_23 A_a1 (o32 (by omega)) hj5 rfl (pc' := 24) rfl ?_
        refine g_aloadN C S dtr_24 (pc' := 25) rfl rfl rfl ?_
        refine g_iloadN C S dtr_25 (pc' := 26) rfl rfl ?_
        refine g_iaload C S (i := i) (v := (.int (Int32.ofNat (l i)))) dtr_26 A_a1 (o32 (by omega)) hi5 rfl (pc' := 27) rfl ?_
        refine g_icmp_ne C S dtr_27 (pc' := 45) (pf := 30) (by decide) (by decide) rfl (fun hc27 => ?_) (fun hc27 => ?_)
        · refine g_lconst C S (0 : Int64) dtr_45 (pc' := 46) rfl rfl ?_
          exact g_retJ C S dtr_46 (by decide) (by decide) (⟨by unfold hTrm; rw [if_neg (fun z => z.elim (fun z => z ((o32_lt (by omega) (by omega)).mp hc2)) (fun z => hc7 ((o32_inj (by omega) (by omega)).mpr z))), if_neg (fun z => z.elim (fun z => hc18 ((o32_lt (by omega) (by omega)).mpr z)) (fun z => (fun z => hc27 ((o32_inj (by omega) (by omega)).mpr z)) z.1))], rfl⟩)
        · refine g_iloadN C S dtr_30 (pc' := 31) rfl rfl ?_
          refine g_iloadN C S dtr_31 (pc' := 32) rfl rfl ?_
          refine g_icmp_ge C S dtr_32 (pc' := 45) (pf := 35) (by decide) (by decide) rfl (fun hc32 => ?_) (fun hc32 => ?_)
          · refine g_lconst C S (0 : Int64) dtr_45 (pc' := 46) rfl rfl ?_
            exact g_retJ C S dtr_46 (by decide) (by decide) (⟨by unfold hTrm; rw [if_neg (fun z => z.elim (fun z => z ((o32_lt (by omega) (by omega)).mp hc2)) (fun z => hc7 ((o32_inj (by omega) (by omega)).mpr z))), if_neg (fun z => z.elim (fun z => hc18 ((o32_lt (by omega) (by omega)).mpr z)) (fun z => (fun z => hc32 ((o32_lt (by omega) (by omega)).mpr z)) z.2))], rfl⟩)
          · refine g_lconst C S (1 : Int64) dtr_35 (pc' := 36) rfl rfl ?_
            refine g_aloadN C S dtr_36 (pc' := 37) rfl rfl rfl ?_
            refine g_iloadN C S dtr_37 (pc' := 38) rfl rfl ?_
            refine g_iaload C S (i := i) (v := (.int (Int32.ofNat (l i)))) dtr_38 A_a1 (o32 (by omega)) hi5 rfl (pc' := 39) rfl ?_
            refine g_aloadN C S dtr_39 (pc' := 40) rfl rfl rfl ?_
            refine g_iloadN C S dtr_40 (pc' := 41) rfl rfl ?_
            refine g_iaload C S (i := j) (v := (.int (Int32.ofNat (l j)))) dtr_41 A_a1 (o32 (by omega)) hj5 rfl (pc' := 42) rfl ?_
            refine g_isub C S dtr_42 (pc' := 43) rfl ?_
            refine g_lshl C S dtr_43 (pc' := 44) rfl ?_
            exact g_retJ C S dtr_44 (by decide) (by decide) (⟨by unfold hTrm; rw [if_neg (fun z => z.elim (fun z => z ((o32_lt (by omega) (by omega)).mp hc2)) (fun z => hc7 ((o32_inj (by omega) (by omega)).mpr z))), if_pos (Or.inr ⟨((o32_inj (by omega) (by omega)).mp hc27), ((o32_lt (by omega) (by omega)).mp hc32)⟩)], rfl⟩)
    · refine g_lconst C S (0 : Int64) dtr_10 (pc' := 11) rfl rfl ?_
      exact g_retJ C S dtr_11 (by decide) (by decide) (⟨by unfold hTrm; rw [if_pos (Or.inr ((o32_inj (by omega) (by omega)).mp hc7))], rfl⟩)
theorem pd_12 : parseMethodDescriptor "([IIII)J" = some ⟨[(.array .int), .int, .int, .int], some .long⟩ := by decide +kernel
theorem dex_0 : decode method_8_code 0 = .ok (.iload_n 2, 1) := by decide +kernel
theorem dex_1 : decode method_8_code 1 = .ok (.iload_n 1, 1) := by decide +kernel
theorem dex_2 : decode method_8_code 2 = .ok (.if_icmp .lt 5, 3) := by decide +kernel
theorem dex_5 : decode method_8_code 5 = .ok (.lconst 0, 1) := by decide +kernel
theorem dex_6 : decode method_8_code 6 = .ok (.lreturn, 1) := by decide +kernel
theorem dex_7 : decode method_8_code 7 = .ok (.aload_n 0, 1) := by decide +kernel
theorem dex_8 : decode method_8_code 8 = .ok (.iload_n 1, 1) := by decide +kernel
theorem dex_9 : decode method_8_code 9 = .ok (.iload_n 2, 1) := by decide +kernel
theorem dex_10 : decode method_8_code 10 = .ok (.iconst 0, 1) := by decide +kernel
theorem dex_11 : decode method_8_code 11 = .ok (.invokestatic 47, 3) := by decide +kernel
theorem dex_14 : decode method_8_code 14 = .ok (.aload_n 0, 1) := by decide +kernel
theorem dex_15 : decode method_8_code 15 = .ok (.iload_n 1, 1) := by decide +kernel
theorem dex_16 : decode method_8_code 16 = .ok (.iload_n 2, 1) := by decide +kernel
theorem dex_17 : decode method_8_code 17 = .ok (.iconst 1, 1) := by decide +kernel
theorem dex_18 : decode method_8_code 18 = .ok (.invokestatic 47, 3) := by decide +kernel
theorem dex_21 : decode method_8_code 21 = .ok (.ladd, 1) := by decide +kernel
theorem dex_22 : decode method_8_code 22 = .ok (.aload_n 0, 1) := by decide +kernel
theorem dex_23 : decode method_8_code 23 = .ok (.iload_n 1, 1) := by decide +kernel
theorem dex_24 : decode method_8_code 24 = .ok (.iload_n 2, 1) := by decide +kernel
theorem dex_25 : decode method_8_code 25 = .ok (.iconst 2, 1) := by decide +kernel
theorem dex_26 : decode method_8_code 26 = .ok (.invokestatic 47, 3) := by decide +kernel
theorem dex_29 : decode method_8_code 29 = .ok (.ladd, 1) := by decide +kernel
theorem dex_30 : decode method_8_code 30 = .ok (.aload_n 0, 1) := by decide +kernel
theorem dex_31 : decode method_8_code 31 = .ok (.iload_n 1, 1) := by decide +kernel
theorem dex_32 : decode method_8_code 32 = .ok (.iload_n 2, 1) := by decide +kernel
theorem dex_33 : decode method_8_code 33 = .ok (.iconst 3, 1) := by decide +kernel
theorem dex_34 : decode method_8_code 34 = .ok (.invokestatic 47, 3) := by decide +kernel
theorem dex_37 : decode method_8_code 37 = .ok (.ladd, 1) := by decide +kernel
theorem dex_38 : decode method_8_code 38 = .ok (.aload_n 0, 1) := by decide +kernel
theorem dex_39 : decode method_8_code 39 = .ok (.iload_n 1, 1) := by decide +kernel
theorem dex_40 : decode method_8_code 40 = .ok (.iload_n 2, 1) := by decide +kernel
theorem dex_41 : decode method_8_code 41 = .ok (.iconst 4, 1) := by decide +kernel
theorem dex_42 : decode method_8_code 42 = .ok (.invokestatic 47, 3) := by decide +kernel
theorem dex_45 : decode method_8_code 45 = .ok (.ladd, 1) := by decide +kernel
theorem dex_46 : decode method_8_code 46 = .ok (.lreturn, 1) := by decide +kernel
set_option maxRecDepth 65536 in
set_option maxHeartbeats 40000000 in
theorem c_exp (l' : Launch) (Z : State) (a0 : Array Value) (hw : ∀ d ∈ tables_1, d.before a0 Z = true) (a1 : Addr) (h0 : Heap) (n0 : Nat) (l : Nat → Nat) (n i : Nat) (hn5 : n ≤ 5) (hi5 : i < 5) (hl4 : ∀ q, q < 5 → l q ≤ 4) (A_a1 : Ary Z h0 a1 .int 5 (fun q => .int (Int32.ofNat (l q)))) :
    Con l' Z (⟨"leafpress/HuffmanCodeCodePinLaw", "expected", "([III)J"⟩ : MethodName) method_8_code 3 (some .long) ({ frames := 1, cells := 0, slots := 0, locals := 20 } : Room) #[(.ref a1), (.int (Int32.ofNat n)), (.int (Int32.ofNat i))] h0 n0 (fun v h => v = some (.long (hExp l n i)) ∧ h = h0) := by
  refine Con.of (plainFor_of_name (by first | (simp [plainName, overriddenIn]; done) | decide +kernel)) (L0 := #[.val (.ref a1), .val (.int (Int32.ofNat n)), .val (.int (Int32.ofNat i))]) (fun m => by first | (simp [entryFrame, mkF, argsToLocals, Value.category]; done) | rfl) ?_
  intro p e s m below meth c T C S
  refine g_iloadN C S dex_0 (pc' := 1) rfl rfl ?_
  refine g_iloadN C S dex_1 (pc' := 2) rfl rfl ?_
  refine g_icmp_lt C S dex_2 (pc' := 7) (pf := 5) (by decide) (by decide) rfl (fun hc2 => ?_) (fun hc2 => ?_)
  · refine g_aloadN C S dex_7 (pc' := 8) rfl rfl rfl ?_
    refine g_iloadN C S dex_8 (pc' := 9) rfl rfl ?_
    refine g_iloadN C S dex_9 (pc' := 10) rfl rfl ?_
    refine g_iconst C S (0 : Int32) dex_10 (pc' := 11) rfl rfl ?_
    refine g_callS C S (rm := ({ frames := 0, cells := 0, slots := 0, locals := 0 } : Room)) (W := 0) dex_11 (hw _ (List.mem_of_getElem? (i := 84) rfl)) (hw _ (List.mem_of_getElem? (i := 85) rfl)) (hw _ (List.mem_of_getElem? (i := 33) rfl)) (hw _ (List.mem_of_getElem? (i := 86) rfl)) (by decide) (c_trm l' Z a0 hw a1 h0 n0 l n i 0 hn5 hi5 (by decide) hl4 A_a1) (argsL := [(.ref a1), (.int (Int32.ofNat n)), (.int (Int32.ofNat i)), (.int (0 : Int32))]) (r := []) rfl (lenOf pd_12 rfl) rfl (Nat.le_of_eq rfl) (by decide) (by decide) (by decide) (by decide) (pc' := 14) rfl (fun T220 h220 v220 q220 S => ?_)
    obtain ⟨rfl, e220⟩ := q220; rw [e220] at S
    show Gl p e below s _ n0 _ T220 (mkF m 14 #[.val (.ref a1), .val (.int (Int32.ofNat n)), .val (.int (Int32.ofNat i))] [(.long (hTrm l n i 0))])
    refine g_aloadN C S dex_14 (pc' := 15) rfl rfl rfl ?_
    refine g_iloadN C S dex_15 (pc' := 16) rfl rfl ?_
    refine g_iloadN C S dex_16 (pc' := 17) rfl rfl ?_
    refine g_iconst C S (1 : Int32) dex_17 (pc' := 18) rfl rfl ?_
    refine g_callS C S (rm := ({ frames := 0, cells := 0, slots := 0, locals := 0 } : Room)) (W := 2) dex_18 (hw _ (List.mem_of_getElem? (i := 84) rfl)) (hw _ (List.mem_of_getElem? (i := 85) rfl)) (hw _ (List.mem_of_getElem? (i := 33) rfl)) (hw _ (List.mem_of_getElem? (i := 86) rfl)) (by decide) (c_trm l' Z a0 hw a1 h0 n0 l n i 1 hn5 hi5 (by decide) hl4 A_a1) (argsL := [(.ref a1), (.int (Int32.ofNat n)), (.int (Int32.ofNat i)), (.int (1 : Int32))]) (r := [(.long (hTrm l n i 0))]) rfl (lenOf pd_12 rfl) rfl (Nat.le_of_eq rfl) (by decide) (by decide) (by decide) (by decide) (pc' := 21) rfl (fun T221 h221 v221 q221 S => ?_)
    obtain ⟨rfl, e221⟩ := q221; rw [e221] at S
    show Gl p e below s _ n0 _ T221 (mkF m 21 #[.val (.ref a1), .val (.int (Int32.ofNat n)), .val (.int (Int32.ofNat i))] [(.long (hTrm l n i 1)), (.long (hTrm l n i 0))])
    refine g_ladd C S dex_21 (pc' := 22) rfl ?_
    refine g_aloadN C S dex_22 (pc' := 23) rfl rfl rfl ?_
    refine g_iloadN C S dex_23 (pc' := 24) rfl rfl ?_
    refine g_iloadN C S dex_24 (pc' := 25) rfl rfl ?_
    refine g_iconst C S (2 : Int32) dex_25 (pc' := 26) rfl rfl ?_
    refine g_callS C S (rm := ({ frames := 0, cells := 0, slots := 0, locals := 0 } : Room)) (W := 2) dex_26 (hw _ (List.mem_of_getElem? (i := 84) rfl)) (hw _ (List.mem_of_getElem? (i := 85) rfl)) (hw _ (List.mem_of_getElem? (i := 33) rfl)) (hw _ (List.mem_of_getElem? (i := 86) rfl)) (by decide) (c_trm l' Z a0 hw a1 h0 n0 l n i 2 hn5 hi5 (by decide) hl4 A_a1) (argsL := [(.ref a1), (.int (Int32.ofNat n)), (.int (Int32.ofNat i)), (.int (2 : Int32))]) (r := [(.long ((hTrm l n i 0) + (hTrm l n i 1)))]) rfl (lenOf pd_12 rfl) rfl (Nat.le_of_eq rfl) (by decide) (by decide) (by decide) (by decide) (pc' := 29) rfl (fun T222 h222 v222 q222 S => ?_)
    obtain ⟨rfl, e222⟩ := q222; rw [e222] at S
    show Gl p e below s _ n0 _ T222 (mkF m 29 #[.val (.ref a1), .val (.int (Int32.ofNat n)), .val (.int (Int32.ofNat i))] [(.long (hTrm l n i 2)), (.long ((hTrm l n i 0) + (hTrm l n i 1)))])
    refine g_ladd C S dex_29 (pc' := 30) rfl ?_
    refine g_aloadN C S dex_30 (pc' := 31) rfl rfl rfl ?_
    refine g_iloadN C S dex_31 (pc' := 32) rfl rfl ?_
    refine g_iloadN C S dex_32 (pc' := 33) rfl rfl ?_
    refine g_iconst C S (3 : Int32) dex_33 (pc' := 34) rfl rfl ?_
    refine g_callS C S (rm := ({ frames := 0, cells := 0, slots := 0, locals := 0 } : Room)) (W := 2) dex_34 (hw _ (List.mem_of_getElem? (i := 84) rfl)) (hw _ (List.mem_of_getElem? (i := 85) rfl)) (hw _ (List.mem_of_getElem? (i := 33) rfl)) (hw _ (List.mem_of_getElem? (i := 86) rfl)) (by decide) (c_trm l' Z a0 hw a1 h0 n0 l n i 3 hn5 hi5 (by decide) hl4 A_a1) (argsL := [(.ref a1), (.int (Int32.ofNat n)), (.int (Int32.ofNat i)), (.int (3 : Int32))]) (r := [(.long (((hTrm l n i 0) + (hTrm l n i 1)) + (hTrm l n i 2)))]) rfl (lenOf pd_12 rfl) rfl (Nat.le_of_eq rfl) (by decide) (by decide) (by decide) (by decide) (pc' := 37) rfl (fun T223 h223 v223 q223 S => ?_)
    obtain ⟨rfl, e223⟩ := q223; rw [e223] at S
    show Gl p e below s _ n0 _ T223 (mkF m 37 #[.val (.ref a1), .val (.int (Int32.ofNat n)), .val (.int (Int32.ofNat i))] [(.long (hTrm l n i 3)), (.long (((hTrm l n i 0) + (hTrm l n i 1)) + (hTrm l n i 2)))])
    refine g_ladd C S dex_37 (pc' := 38) rfl ?_
    refine g_aloadN C S dex_38 (pc' := 39) rfl rfl rfl ?_
    refine g_iloadN C S dex_39 (pc' := 40) rfl rfl ?_
    refine g_iloadN C S dex_40 (pc' := 41) rfl rfl ?_
    refine g_iconst C S (4 : Int32) dex_41 (pc' := 42) rfl rfl ?_
    refine g_callS C S (rm := ({ frames := 0, cells := 0, slots := 0, locals := 0 } : Room)) (W := 2) dex_42 (hw _ (List.mem_of_getElem? (i := 84) rfl)) (hw _ (List.mem_of_getElem? (i := 85) rfl)) (hw _ (List.mem_of_getElem? (i := 33) rfl)) (hw _ (List.mem_of_getElem? (i := 86) rfl)) (by decide) (c_trm l' Z a0 hw a1 h0 n0 l n i 4 hn5 hi5 (by decide) hl4 A_a1) (argsL := [(.ref a1), (.int (Int32.ofNat n)), (.int (Int32.ofNat i)), (.int (4 : Int32))]) (r := [(.long ((((hTrm l n i 0) + (hTrm l n i 1)) + (hTrm l n i 2)) + (hTrm l n i 3)))]) rfl (lenOf pd_12 rfl) rfl (Nat.le_of_eq rfl) (by decide) (by decide) (by decide) (by decide) (pc' := 45) rfl (fun T224 h224 v224 q224 S => ?_)
    obtain ⟨rfl, e224⟩ := q224; rw [e224] at S
    show Gl p e below s _ n0 _ T224 (mkF m 45 #[.val (.ref a1), .val (.int (Int32.ofNat n)), .val (.int (Int32.ofNat i))] [(.long (hTrm l n i 4)), (.long ((((hTrm l n i 0) + (hTrm l n i 1)) + (hTrm l n i 2)) + (hTrm l n i 3)))])
    refine g_ladd C S dex_45 (pc' := 46) rfl ?_
    exact g_retJ C S dex_46 (by decide) (by decide) (⟨by unfold hExp; rw [if_pos ((o32_lt (by omega) (by omega)).mp hc2)], rfl⟩)
  · refine g_lconst C S (0 : Int64) dex_5 (pc' := 6) rfl rfl ?_
    exact g_retJ C S dex_6 (by decide) (by decide) (⟨by unfold hExp; rw [if_neg (fun z => hc2 ((o32_lt (by omega) (by omega)).mpr z))], rfl⟩)
def hExA (l : Nat → Nat) (n v0 v1 v2 v3 v4 q : Nat) : Int64 := if q = v0 then hExp l n 0 else if q = v1 then hExp l n 1 else if q = v2 then hExp l n 2 else if q = v3 then hExp l n 3 else if q = v4 then hExp l n 4 else 0
theorem pd_13 : parseMethodDescriptor "([III)J" = some ⟨[(.array .int), .int, .int], some .long⟩ := by decide +kernel
theorem dea_0 : decode method_9_code 0 = .ok (.iload_n 3, 1) := by decide +kernel
theorem dea_1 : decode method_9_code 1 = .ok (.aload_n 2, 1) := by decide +kernel
theorem dea_2 : decode method_9_code 2 = .ok (.iconst 0, 1) := by decide +kernel
theorem dea_3 : decode method_9_code 3 = .ok (.iaload, 1) := by decide +kernel
theorem dea_4 : decode method_9_code 4 = .ok (.if_icmp .ne 10, 3) := by decide +kernel
theorem dea_7 : decode method_9_code 7 = .ok (.aload_n 0, 1) := by decide +kernel
theorem dea_8 : decode method_9_code 8 = .ok (.iload_n 1, 1) := by decide +kernel
theorem dea_9 : decode method_9_code 9 = .ok (.iconst 0, 1) := by decide +kernel
theorem dea_10 : decode method_9_code 10 = .ok (.invokestatic 39, 3) := by decide +kernel
theorem dea_13 : decode method_9_code 13 = .ok (.lreturn, 1) := by decide +kernel
theorem dea_14 : decode method_9_code 14 = .ok (.iload_n 3, 1) := by decide +kernel
theorem dea_15 : decode method_9_code 15 = .ok (.aload_n 2, 1) := by decide +kernel
theorem dea_16 : decode method_9_code 16 = .ok (.iconst 1, 1) := by decide +kernel
theorem dea_17 : decode method_9_code 17 = .ok (.iaload, 1) := by decide +kernel
theorem dea_18 : decode method_9_code 18 = .ok (.if_icmp .ne 10, 3) := by decide +kernel
theorem dea_21 : decode method_9_code 21 = .ok (.aload_n 0, 1) := by decide +kernel
theorem dea_22 : decode method_9_code 22 = .ok (.iload_n 1, 1) := by decide +kernel
theorem dea_23 : decode method_9_code 23 = .ok (.iconst 1, 1) := by decide +kernel
theorem dea_24 : decode method_9_code 24 = .ok (.invokestatic 39, 3) := by decide +kernel
theorem dea_27 : decode method_9_code 27 = .ok (.lreturn, 1) := by decide +kernel
theorem dea_28 : decode method_9_code 28 = .ok (.iload_n 3, 1) := by decide +kernel
theorem dea_29 : decode method_9_code 29 = .ok (.aload_n 2, 1) := by decide +kernel
theorem dea_30 : decode method_9_code 30 = .ok (.iconst 2, 1) := by decide +kernel
theorem dea_31 : decode method_9_code 31 = .ok (.iaload, 1) := by decide +kernel
theorem dea_32 : decode method_9_code 32 = .ok (.if_icmp .ne 10, 3) := by decide +kernel
theorem dea_35 : decode method_9_code 35 = .ok (.aload_n 0, 1) := by decide +kernel
theorem dea_36 : decode method_9_code 36 = .ok (.iload_n 1, 1) := by decide +kernel
theorem dea_37 : decode method_9_code 37 = .ok (.iconst 2, 1) := by decide +kernel
theorem dea_38 : decode method_9_code 38 = .ok (.invokestatic 39, 3) := by decide +kernel
theorem dea_41 : decode method_9_code 41 = .ok (.lreturn, 1) := by decide +kernel
theorem dea_42 : decode method_9_code 42 = .ok (.iload_n 3, 1) := by decide +kernel
theorem dea_43 : decode method_9_code 43 = .ok (.aload_n 2, 1) := by decide +kernel
theorem dea_44 : decode method_9_code 44 = .ok (.iconst 3, 1) := by decide +kernel
theorem dea_45 : decode method_9_code 45 = .ok (.iaload, 1) := by decide +kernel
theorem dea_46 : decode method_9_code 46 = .ok (.if_icmp .ne 10, 3) := by decide +kernel
theorem dea_49 : decode method_9_code 49 = .ok (.aload_n 0, 1) := by decide +kernel
theorem dea_50 : decode method_9_code 50 = .ok (.iload_n 1, 1) := by decide +kernel
theorem dea_51 : decode method_9_code 51 = .ok (.iconst 3, 1) := by decide +kernel
theorem dea_52 : decode method_9_code 52 = .ok (.invokestatic 39, 3) := by decide +kernel
theorem dea_55 : decode method_9_code 55 = .ok (.lreturn, 1) := by decide +kernel
theorem dea_56 : decode method_9_code 56 = .ok (.iload_n 3, 1) := by decide +kernel
theorem dea_57 : decode method_9_code 57 = .ok (.aload_n 2, 1) := by decide +kernel
theorem dea_58 : decode method_9_code 58 = .ok (.iconst 4, 1) := by decide +kernel
theorem dea_59 : decode method_9_code 59 = .ok (.iaload, 1) := by decide +kernel
theorem dea_60 : decode method_9_code 60 = .ok (.if_icmp .ne 10, 3) := by decide +kernel
theorem dea_63 : decode method_9_code 63 = .ok (.aload_n 0, 1) := by decide +kernel
theorem dea_64 : decode method_9_code 64 = .ok (.iload_n 1, 1) := by decide +kernel
theorem dea_65 : decode method_9_code 65 = .ok (.iconst 4, 1) := by decide +kernel
theorem dea_66 : decode method_9_code 66 = .ok (.invokestatic 39, 3) := by decide +kernel
theorem dea_69 : decode method_9_code 69 = .ok (.lreturn, 1) := by decide +kernel
theorem dea_70 : decode method_9_code 70 = .ok (.lconst 0, 1) := by decide +kernel
theorem dea_71 : decode method_9_code 71 = .ok (.lreturn, 1) := by decide +kernel
set_option maxRecDepth 65536 in
set_option maxHeartbeats 40000000 in
theorem c_exa (l' : Launch) (Z : State) (a0 : Array Value) (hw : ∀ d ∈ tables_1, d.before a0 Z = true) (a1 : Addr) (a3 : Addr) (h0 : Heap) (n0 : Nat) (l : Nat → Nat) (n q v0 v1 v2 v3 v4 : Nat) (fv : Nat → Value) (hn5 : n ≤ 5) (hq : q < 256) (hv0 : v0 < 256) (hv1 : v1 < 256) (hv2 : v2 < 256) (hv3 : v3 < 256) (hv4 : v4 < 256) (hf0 : fv 0 = .int (Int32.ofNat v0)) (hf1 : fv 1 = .int (Int32.ofNat v1)) (hf2 : fv 2 = .int (Int32.ofNat v2)) (hf3 : fv 3 = .int (Int32.ofNat v3)) (hf4 : fv 4 = .int (Int32.ofNat v4)) (hl4 : ∀ q, q < 5 → l q ≤ 4) (A_a1 : Ary Z h0 a1 .int 5 (fun q => .int (Int32.ofNat (l q)))) (A_a3 : Ary Z h0 a3 .int 5 fv) :
    Con l' Z (⟨"leafpress/HuffmanCodeCodePinLaw", "expectedAt", "([II[II)J"⟩ : MethodName) method_9_code 4 (some .long) ({ frames := 2, cells := 0, slots := 0, locals := 34 } : Room) #[(.ref a1), (.int (Int32.ofNat n)), (.ref a3), (.int (Int32.ofNat q))] h0 n0 (fun v h => v = some (.long (hExA l n v0 v1 v2 v3 v4 q)) ∧ h = h0) := by
  refine Con.of (plainFor_of_name (by first | (simp [plainName, overriddenIn]; done) | decide +kernel)) (L0 := #[.val (.ref a1), .val (.int (Int32.ofNat n)), .val (.ref a3), .val (.int (Int32.ofNat q))]) (fun m => by first | (simp [entryFrame, mkF, argsToLocals, Value.category]; done) | rfl) ?_
  intro p e s m below meth c T C S
  refine g_iloadN C S dea_0 (pc' := 1) rfl rfl ?_
  refine g_aloadN C S dea_1 (pc' := 2) rfl rfl rfl ?_
  refine g_iconst C S (0 : Int32) dea_2 (pc' := 3) rfl rfl ?_
  refine g_iaload C S (i := 0) (v := (.int (Int32.ofNat v0))) dea_3 A_a3 (by decide) (by decide) hf0 (pc' := 4) rfl ?_
  refine g_icmp_ne C S dea_4 (pc' := 14) (pf := 7) (by decide) (by decide) rfl (fun hc4 => ?_) (fun hc4 => ?_)
  · refine g_iloadN C S dea_14 (pc' := 15) rfl rfl ?_
    refine g_aloadN C S dea_15 (pc' := 16) rfl rfl rfl ?_
    refine g_iconst C S (1 : Int32) dea_16 (pc' := 17) rfl rfl ?_
    refine g_iaload C S (i := 1) (v := (.int (Int32.ofNat v1))) dea_17 A_a3 (by decide) (by decide) hf1 (pc' := 18) rfl ?_
    refine g_icmp_ne C S dea_18 (pc' := 28) (pf := 21) (by decide) (by decide) rfl (fun hc18 => ?_) (fun hc18 => ?_)
    · refine g_iloadN C S dea_28 (pc' := 29) rfl rfl ?_
      refine g_aloadN C S dea_29 (pc' := 30) rfl rfl rfl ?_
      refine g_iconst C S (2 : Int32) dea_30 (pc' := 31) rfl rfl ?_
      refine g_iaload C S (i := 2) (v := (.int (Int32.ofNat v2))) dea_31 A_a3 (by decide) (by decide) hf2 (pc' := 32) rfl ?_
      refine g_icmp_ne C S dea_32 (pc' := 42) (pf := 35) (by decide) (by decide) rfl (fun hc32 => ?_) (fun hc32 => ?_)
      · refine g_iloadN C S dea_42 (pc' := 43) rfl rfl ?_
        refine g_aloadN C S dea_43 (pc' := 44) rfl rfl rfl ?_
        refine g_iconst C S (3 : Int32) dea_44 (pc' := 45) rfl rfl ?_
        refine g_iaload C S (i := 3) (v := (.int (Int32.ofNat v3))) dea_45 A_a3 (by decide) (by decide) hf3 (pc' := 46) rfl ?_
        refine g_icmp_ne C S dea_46 (pc' := 56) (pf := 49) (by decide) (by decide) rfl (fun hc46 => ?_) (fun hc46 => ?_)
        · refine g_iloadN C S dea_56 (pc' := 57) rfl rfl ?_
          refine g_aloadN C S dea_57 (pc' := 58) rfl rfl rfl ?_
          refine g_iconst C S (4 : Int32) dea_58 (pc' := 59) rfl rfl ?_
          refine g_iaload C S (i := 4) (v := (.int (Int32.ofNat v4))) dea_59 A_a3 (by decide) (by decide) hf4 (pc' := 60) rfl ?_
          refine g_icmp_ne C S dea_60 (pc' := 70) (pf := 63) (by decide) (by decide) rfl (fun hc60 => ?_) (fun hc60 => ?_)
          · refine g_lconst C S (0 : Int64) dea_70 (pc' := 71) rfl rfl ?_
            exact g_retJ C S dea_71 (by decide) (by decide) (⟨by unfold hExA; rw [if_neg (fun z => hc4 ((o32_inj (by omega) (by omega)).mpr z)), if_neg (fun z => hc18 ((o32_inj (by omega) (by omega)).mpr z)), if_neg (fun z => hc32 ((o32_inj (by omega) (by omega)).mpr z)), if_neg (fun z => hc46 ((o32_inj (by omega) (by omega)).mpr z)), if_neg (fun z => hc60 ((o32_inj (by omega) (by omega)).mpr z))], rfl⟩)
          · refine g_aloadN C S dea_63 (pc' := 64) rfl rfl rfl ?_
            refine g_iloadN C S dea_64 (pc' := 65) rfl rfl ?_
            refine g_iconst C S (4 : Int32) dea_65 (pc' := 66) rfl rfl ?_
            refine g_callS C S (rm := ({ frames := 1, cells := 0, slots := 0, locals := 20 } : Room)) (W := 0) dea_66 (hw _ (List.mem_of_getElem? (i := 81) rfl)) (hw _ (List.mem_of_getElem? (i := 82) rfl)) (hw _ (List.mem_of_getElem? (i := 33) rfl)) (hw _ (List.mem_of_getElem? (i := 83) rfl)) (by decide) (c_exp l' Z a0 hw a1 h0 n0 l n 4 hn5 (by decide) hl4 A_a1) (argsL := [(.ref a1), (.int (Int32.ofNat n)), (.int (4 : Int32))]) (r := []) rfl (lenOf pd_13 rfl) rfl (Nat.le_of_eq rfl) (by decide) (by decide) (by decide) (by decide) (pc' := 69) rfl (fun T225 h225 v225 q225 S => ?_)
            obtain ⟨rfl, e225⟩ := q225; rw [e225] at S
            show Gl p e below s _ n0 _ T225 (mkF m 69 #[.val (.ref a1), .val (.int (Int32.ofNat n)), .val (.ref a3), .val (.int (Int32.ofNat q))] [(.long (hExp l n 4))])
            exact g_retJ C S dea_69 (by decide) (by decide) (⟨by unfold hExA; rw [if_neg (fun z => hc4 ((o32_inj (by omega) (by omega)).mpr z)), if_neg (fun z => hc18 ((o32_inj (by omega) (by omega)).mpr z)), if_neg (fun z => hc32 ((o32_inj (by omega) (by omega)).mpr z)), if_neg (fun z => hc46 ((o32_inj (by omega) (by omega)).mpr z)), if_pos ((o32_inj (by omega) (by omega)).mp hc60)], rfl⟩)
        · refine g_aloadN C S dea_49 (pc' := 50) rfl rfl rfl ?_
          refine g_iloadN C S dea_50 (pc' := 51) rfl rfl ?_
          refine g_iconst C S (3 : Int32) dea_51 (pc' := 52) rfl rfl ?_
          refine g_callS C S (rm := ({ frames := 1, cells := 0, slots := 0, locals := 20 } : Room)) (W := 0) dea_52 (hw _ (List.mem_of_getElem? (i := 81) rfl)) (hw _ (List.mem_of_getElem? (i := 82) rfl)) (hw _ (List.mem_of_getElem? (i := 33) rfl)) (hw _ (List.mem_of_getElem? (i := 83) rfl)) (by decide) (c_exp l' Z a0 hw a1 h0 n0 l n 3 hn5 (by decide) hl4 A_a1) (argsL := [(.ref a1), (.int (Int32.ofNat n)), (.int (3 : Int32))]) (r := []) rfl (lenOf pd_13 rfl) rfl (Nat.le_of_eq rfl) (by decide) (by decide) (by decide) (by decide) (pc' := 55) rfl (fun T226 h226 v226 q226 S => ?_)
          obtain ⟨rfl, e226⟩ := q226; rw [e226] at S
          show Gl p e below s _ n0 _ T226 (mkF m 55 #[.val (.ref a1), .val (.int (Int32.ofNat n)), .val (.ref a3), .val (.int (Int32.ofNat q))] [(.long (hExp l n 3))])
          exact g_retJ C S dea_55 (by decide) (by decide) (⟨by unfold hExA; rw [if_neg (fun z => hc4 ((o32_inj (by omega) (by omega)).mpr z)), if_neg (fun z => hc18 ((o32_inj (by omega) (by omega)).mpr z)), if_neg (fun z => hc32 ((o32_inj (by omega) (by omega)).mpr z)), if_pos ((o32_inj (by omega) (by omega)).mp hc46)], rfl⟩)
      · refine g_aloadN C S dea_35 (pc' := 36) rfl rfl rfl ?_
        refine g_iloadN C S dea_36 (pc' := 37) rfl rfl ?_
        refine g_iconst C S (2 : Int32) dea_37 (pc' := 38) rfl rfl ?_
        refine g_callS C S (rm := ({ frames := 1, cells := 0, slots := 0, locals := 20 } : Room)) (W := 0) dea_38 (hw _ (List.mem_of_getElem? (i := 81) rfl)) (hw _ (List.mem_of_getElem? (i := 82) rfl)) (hw _ (List.mem_of_getElem? (i := 33) rfl)) (hw _ (List.mem_of_getElem? (i := 83) rfl)) (by decide) (c_exp l' Z a0 hw a1 h0 n0 l n 2 hn5 (by decide) hl4 A_a1) (argsL := [(.ref a1), (.int (Int32.ofNat n)), (.int (2 : Int32))]) (r := []) rfl (lenOf pd_13 rfl) rfl (Nat.le_of_eq rfl) (by decide) (by decide) (by decide) (by decide) (pc' := 41) rfl (fun T227 h227 v227 q227 S => ?_)
        obtain ⟨rfl, e227⟩ := q227; rw [e227] at S
        show Gl p e below s _ n0 _ T227 (mkF m 41 #[.val (.ref a1), .val (.int (Int32.ofNat n)), .val (.ref a3), .val (.int (Int32.ofNat q))] [(.long (hExp l n 2))])
        exact g_retJ C S dea_41 (by decide) (by decide) (⟨by unfold hExA; rw [if_neg (fun z => hc4 ((o32_inj (by omega) (by omega)).mpr z)), if_neg (fun z => hc18 ((o32_inj (by omega) (by omega)).mpr z)), if_pos ((o32_inj (by omega) (by omega)).mp hc32)], rfl⟩)
    · refine g_aloadN C S dea_21 (pc' := 22) rfl rfl rfl ?_
      refine g_iloadN C S dea_22 (pc' := 23) rfl rfl ?_
      refine g_iconst C S (1 : Int32) dea_23 (pc' := 24) rfl rfl ?_
      refine g_callS C S (rm := ({ frames := 1, cells := 0, slots := 0, locals := 20 } : Room)) (W := 0) dea_24 (hw _ (List.mem_of_getElem? (i := 81) rfl)) (hw _ (List.mem_of_getElem? (i := 82) rfl)) (hw _ (List.mem_of_getElem? (i := 33) rfl)) (hw _ (List.mem_of_getElem? (i := 83) rfl)) (by decide) (c_exp l' Z a0 hw a1 h0 n0 l n 1 hn5 (by decide) hl4 A_a1) (argsL := [(.ref a1), (.int (Int32.ofNat n)), (.int (1 : Int32))]) (r := []) rfl (lenOf pd_13 rfl) rfl (Nat.le_of_eq rfl) (by decide) (by decide) (by decide) (by decide) (pc' := 27) rfl (fun T228 h228 v228 q228 S => ?_)
      obtain ⟨rfl, e228⟩ := q228; rw [e228] at S
      show Gl p e below s _ n0 _ T228 (mkF m 27 #[.val (.ref a1), .val (.int (Int32.ofNat n)), .val (.ref a3), .val (.int (Int32.ofNat q))] [(.long (hExp l n 1))])
      exact g_retJ C S dea_27 (by decide) (by decide) (⟨by unfold hExA; rw [if_neg (fun z => hc4 ((o32_inj (by omega) (by omega)).mpr z)), if_pos ((o32_inj (by omega) (by omega)).mp hc18)], rfl⟩)
  · refine g_aloadN C S dea_7 (pc' := 8) rfl rfl rfl ?_
    refine g_iloadN C S dea_8 (pc' := 9) rfl rfl ?_
    refine g_iconst C S (0 : Int32) dea_9 (pc' := 10) rfl rfl ?_
    refine g_callS C S (rm := ({ frames := 1, cells := 0, slots := 0, locals := 20 } : Room)) (W := 0) dea_10 (hw _ (List.mem_of_getElem? (i := 81) rfl)) (hw _ (List.mem_of_getElem? (i := 82) rfl)) (hw _ (List.mem_of_getElem? (i := 33) rfl)) (hw _ (List.mem_of_getElem? (i := 83) rfl)) (by decide) (c_exp l' Z a0 hw a1 h0 n0 l n 0 hn5 (by decide) hl4 A_a1) (argsL := [(.ref a1), (.int (Int32.ofNat n)), (.int (0 : Int32))]) (r := []) rfl (lenOf pd_13 rfl) rfl (Nat.le_of_eq rfl) (by decide) (by decide) (by decide) (by decide) (pc' := 13) rfl (fun T229 h229 v229 q229 S => ?_)
    obtain ⟨rfl, e229⟩ := q229; rw [e229] at S
    show Gl p e below s _ n0 _ T229 (mkF m 13 #[.val (.ref a1), .val (.int (Int32.ofNat n)), .val (.ref a3), .val (.int (Int32.ofNat q))] [(.long (hExp l n 0))])
    exact g_retJ C S dea_13 (by decide) (by decide) (⟨by unfold hExA; rw [if_pos ((o32_inj (by omega) (by omega)).mp hc4)], rfl⟩)
theorem own_rng {f f' : Nat → Value} {N : Nat} (h : ∀ q ∈ List.range N, f q = f' q) : ∀ q, q < N → f q = f' q := fun q hq => h q (List.mem_range.mpr hq)
def hRows (r0 r1 r2 r3 r4 r5 r6 r7 : Addr) : Nat → Value := fun q => if q = 7 then .ref r7 else if q = 6 then .ref r6 else if q = 5 then .ref r5 else if q = 4 then .ref r4 else if q = 3 then .ref r3 else if q = 2 then .ref r2 else if q = 1 then .ref r1 else if q = 0 then .ref r0 else .null
theorem own_v (y : Int32) (v : Nat) (hv : v < 1000) : ∃ v', v < v' ∧ v' ≤ v + 32 ∧ ((Int32.ofNat v + 1) + (y &&& (31 : Int32))) = Int32.ofNat v' := by
  obtain ⟨A, hA, e⟩ := own_and y 31 (k := 5) (by decide) (by decide)
  exact ⟨v + 1 + A, by omega, by omega, by rw [e, o32_succ, o32_add]⟩
theorem hSz_b {s : Nat} (h : s < 8) : 1 ≤ hSz s ∧ hSz s ≤ 5 := by
  have q : ∀ s ∈ List.range 8, 1 ≤ hSz s ∧ hSz s ≤ 5 := by decide +kernel
  exact q s (List.mem_range.mpr h)
theorem fa5 {P : Nat → Prop} (h0 : P 0) (h1 : P 1) (h2 : P 2) (h3 : P 3) (h4 : P 4) : ∀ i, i < 5 → P i
  | 0, _ => h0
  | 1, _ => h1
  | 2, _ => h2
  | 3, _ => h3
  | 4, _ => h4
  | i + 5, h => absurd h (by omega)
def hV5 (v0 v1 v2 v3 v4 : Nat) : Nat → Value := fun q => if q = 4 then .int (Int32.ofNat v4) else if q = 3 then .int (Int32.ofNat v3) else if q = 2 then .int (Int32.ofNat v2) else if q = 1 then .int (Int32.ofNat v1) else if q = 0 then .int (Int32.ofNat v0) else .int 0
def hL5 (v0 v1 v2 v3 v4 : Nat) (x0 x1 x2 x3 x4 : Int32) : Nat → Value := fun q => if q = v4 then .int x4 else if q = v3 then .int x3 else if q = v2 then .int x2 else if q = v1 then .int x1 else if q = v0 then .int x0 else .int 0
section Five
variable {v0 v1 v2 v3 v4 : Nat} {x0 x1 x2 x3 x4 : Int32}
theorem hL5_4 : hL5 v0 v1 v2 v3 v4 x0 x1 x2 x3 x4 v4 = .int x4 := if_pos rfl
theorem hL5_3 (d : v3 < v4) : hL5 v0 v1 v2 v3 v4 x0 x1 x2 x3 x4 v3 = .int x3 := (if_neg (by omega)).trans (if_pos rfl)
theorem hL5_2 (c : v2 < v3) (d : v3 < v4) : hL5 v0 v1 v2 v3 v4 x0 x1 x2 x3 x4 v2 = .int x2 := (if_neg (by omega)).trans ((if_neg (by omega)).trans (if_pos rfl))
theorem hL5_1 (b : v1 < v2) (c : v2 < v3) (d : v3 < v4) : hL5 v0 v1 v2 v3 v4 x0 x1 x2 x3 x4 v1 = .int x1 := (if_neg (by omega)).trans ((if_neg (by omega)).trans ((if_neg (by omega)).trans (if_pos rfl)))
theorem hL5_0 (a : v0 < v1) (b : v1 < v2) (c : v2 < v3) (d : v3 < v4) : hL5 v0 v1 v2 v3 v4 x0 x1 x2 x3 x4 v0 = .int x0 := (if_neg (by omega)).trans ((if_neg (by omega)).trans ((if_neg (by omega)).trans ((if_neg (by omega)).trans (if_pos rfl))))
end Five
theorem sm_ok {s j0 j1 j2 j3 : Nat} (hs : s < 8) (a0 : 0 ≤ j0) (b0 : j0 < hSz s ∨ j0 = 0) (c0 : j0 < 5) (a1 : 1 ≤ j1) (b1 : j1 < hSz s ∨ j1 = 1) (c1 : j1 < 5) (a2 : 2 ≤ j2) (b2 : j2 < hSz s ∨ j2 = 2) (c2 : j2 < 5) (a3 : 3 ≤ j3) (b3 : j3 < hSz s ∨ j3 = 3) (c3 : j3 < 5) : hOK (hSz s) (hLst (hFin s j0 j1 j2 j3)) = true :=
  tab_ok (hSz s, hLst (hFin s j0 j1 j2 j3)) (tab_all s (List.mem_range.mpr hs) j0 (cand_mem c0 a0 b0) j1 (cand_mem c1 a1 b1) j2 (cand_mem c2 a2 b2) j3 (cand_mem c3 a3 b3))
theorem hOK_spec {n : Nat} {L : List Nat} (h : hOK n L = true) : hGood (fun i => L.getD i 0) n = true ∧ n ≤ 5 ∧ (∀ i, i < 5 → (fun i => L.getD i 0) i ≤ 4) ∧ ∀ i, i < n → hDec (hPk (hLng (fun i => L.getD i 0) n)) (hCi (fun i => L.getD i 0) n (hPk (hLng (fun i => L.getD i 0) n)) n i) = hExp (fun i => L.getD i 0) n i := by
  simp only [hOK, Bool.and_eq_true, decide_eq_true_eq, List.all_eq_true, List.mem_range] at h
  exact ⟨h.1.1.1, h.1.1.2, h.1.2, h.2⟩
theorem sm_code {l V : Nat → Nat} {n : Nat} (hg : hGood l n = true) (hA : ∀ i, i < 4 → V i < V (i + 1)) (hn5 : n ≤ 5) (hc : ∀ i, i < n → hDec (hPk (hLng l n)) (hCi l n (hPk (hLng l n)) n i) = hExp l n i) {i : Nat} (hi : i < 5) : hDec (hPk (hLng l n)) (hCo l V n (hPk (hLng l n)) n (V i)) = hExp l n i := by
  have hs := (hGood_spec hg).2.2.2.2.2
  by_cases u : i < n
  · rw [hCo_V (V := V) (fun j hj => hA j (by omega)) hs u n (Nat.le_refl _)]; exact hc i u
  · rw [hCo_no hs (fun j hj q => by have := asc_lt (V := V) (n := 5) (fun j hj => hA j (by omega)) i j (by omega) hi; omega) n (Nat.le_refl _), hDec0]
    unfold hExp; rw [if_neg u]
theorem sm_at {l V : Nat → Nat} {n q : Nat} (hg : hGood l n = true) (hA : ∀ i, i < 4 → V i < V (i + 1)) (hn5 : n ≤ 5) (hc : ∀ i, i < n → hDec (hPk (hLng l n)) (hCi l n (hPk (hLng l n)) n i) = hExp l n i) : hDec (hPk (hLng l n)) (hCo l V n (hPk (hLng l n)) n q) = hExA l n (V 0) (V 1) (V 2) (V 3) (V 4) q := by
  have hs := (hGood_spec hg).2.2.2.2.2
  unfold hExA
  by_cases u0 : q = V 0
  · rw [if_pos u0, u0]; exact sm_code hg hA hn5 hc (by decide)
  rw [if_neg u0]
  by_cases u1 : q = V 1
  · rw [if_pos u1, u1]; exact sm_code hg hA hn5 hc (by decide)
  rw [if_neg u1]
  by_cases u2 : q = V 2
  · rw [if_pos u2, u2]; exact sm_code hg hA hn5 hc (by decide)
  rw [if_neg u2]
  by_cases u3 : q = V 3
  · rw [if_pos u3, u3]; exact sm_code hg hA hn5 hc (by decide)
  rw [if_neg u3]
  by_cases u4 : q = V 4
  · rw [if_pos u4, u4]; exact sm_code hg hA hn5 hc (by decide)
  rw [if_neg u4, hCo_no hs (fun j hj => fa5 (P := fun j => q ≠ V j) u0 u1 u2 u3 u4 j (by omega)) n (Nat.le_refl _), hDec0]
theorem fa4 {P : Nat → Prop} (h0 : P 0) (h1 : P 1) (h2 : P 2) (h3 : P 3) : ∀ i, i < 4 → P i
  | 0, _ => h0
  | 1, _ => h1
  | 2, _ => h2
  | 3, _ => h3
  | i + 4, h => absurd h (by omega)
theorem pd_14 : parseMethodDescriptor "([IIII)V" = some ⟨[(.array .int), .int, .int, .int], none⟩ := by decide +kernel
theorem pd_15 : parseMethodDescriptor "([II[II)J" = some ⟨[(.array .int), .int, (.array .int), .int], some .long⟩ := by decide +kernel
theorem dsm_0 : decode method_5_code 0 = .ok (.bipush 8, 2) := by decide +kernel
theorem dsm_2 : decode method_5_code 2 = .ok (.anewarray 33, 3) := by decide +kernel
theorem dsm_5 : decode method_5_code 5 = .ok (.dup, 1) := by decide +kernel
theorem dsm_6 : decode method_5_code 6 = .ok (.iconst 0, 1) := by decide +kernel
theorem dsm_7 : decode method_5_code 7 = .ok (.iconst 5, 1) := by decide +kernel
theorem dsm_8 : decode method_5_code 8 = .ok (.newarray .int, 2) := by decide +kernel
theorem dsm_10 : decode method_5_code 10 = .ok (.dup, 1) := by decide +kernel
theorem dsm_11 : decode method_5_code 11 = .ok (.iconst 0, 1) := by decide +kernel
theorem dsm_12 : decode method_5_code 12 = .ok (.iconst 0, 1) := by decide +kernel
theorem dsm_13 : decode method_5_code 13 = .ok (.iastore, 1) := by decide +kernel
theorem dsm_14 : decode method_5_code 14 = .ok (.dup, 1) := by decide +kernel
theorem dsm_15 : decode method_5_code 15 = .ok (.iconst 1, 1) := by decide +kernel
theorem dsm_16 : decode method_5_code 16 = .ok (.iconst 0, 1) := by decide +kernel
theorem dsm_17 : decode method_5_code 17 = .ok (.iastore, 1) := by decide +kernel
theorem dsm_18 : decode method_5_code 18 = .ok (.dup, 1) := by decide +kernel
theorem dsm_19 : decode method_5_code 19 = .ok (.iconst 2, 1) := by decide +kernel
theorem dsm_20 : decode method_5_code 20 = .ok (.iconst 0, 1) := by decide +kernel
theorem dsm_21 : decode method_5_code 21 = .ok (.iastore, 1) := by decide +kernel
theorem dsm_22 : decode method_5_code 22 = .ok (.dup, 1) := by decide +kernel
theorem dsm_23 : decode method_5_code 23 = .ok (.iconst 3, 1) := by decide +kernel
theorem dsm_24 : decode method_5_code 24 = .ok (.iconst 0, 1) := by decide +kernel
theorem dsm_25 : decode method_5_code 25 = .ok (.iastore, 1) := by decide +kernel
theorem dsm_26 : decode method_5_code 26 = .ok (.dup, 1) := by decide +kernel
theorem dsm_27 : decode method_5_code 27 = .ok (.iconst 4, 1) := by decide +kernel
theorem dsm_28 : decode method_5_code 28 = .ok (.iconst 0, 1) := by decide +kernel
theorem dsm_29 : decode method_5_code 29 = .ok (.iastore, 1) := by decide +kernel
theorem dsm_30 : decode method_5_code 30 = .ok (.aastore, 1) := by decide +kernel
theorem dsm_31 : decode method_5_code 31 = .ok (.dup, 1) := by decide +kernel
theorem dsm_32 : decode method_5_code 32 = .ok (.iconst 1, 1) := by decide +kernel
theorem dsm_33 : decode method_5_code 33 = .ok (.iconst 5, 1) := by decide +kernel
theorem dsm_34 : decode method_5_code 34 = .ok (.newarray .int, 2) := by decide +kernel
theorem dsm_36 : decode method_5_code 36 = .ok (.dup, 1) := by decide +kernel
theorem dsm_37 : decode method_5_code 37 = .ok (.iconst 0, 1) := by decide +kernel
theorem dsm_38 : decode method_5_code 38 = .ok (.iconst 1, 1) := by decide +kernel
theorem dsm_39 : decode method_5_code 39 = .ok (.iastore, 1) := by decide +kernel
theorem dsm_40 : decode method_5_code 40 = .ok (.dup, 1) := by decide +kernel
theorem dsm_41 : decode method_5_code 41 = .ok (.iconst 1, 1) := by decide +kernel
theorem dsm_42 : decode method_5_code 42 = .ok (.iconst 1, 1) := by decide +kernel
theorem dsm_43 : decode method_5_code 43 = .ok (.iastore, 1) := by decide +kernel
theorem dsm_44 : decode method_5_code 44 = .ok (.dup, 1) := by decide +kernel
theorem dsm_45 : decode method_5_code 45 = .ok (.iconst 2, 1) := by decide +kernel
theorem dsm_46 : decode method_5_code 46 = .ok (.iconst 0, 1) := by decide +kernel
theorem dsm_47 : decode method_5_code 47 = .ok (.iastore, 1) := by decide +kernel
theorem dsm_48 : decode method_5_code 48 = .ok (.dup, 1) := by decide +kernel
theorem dsm_49 : decode method_5_code 49 = .ok (.iconst 3, 1) := by decide +kernel
theorem dsm_50 : decode method_5_code 50 = .ok (.iconst 0, 1) := by decide +kernel
theorem dsm_51 : decode method_5_code 51 = .ok (.iastore, 1) := by decide +kernel
theorem dsm_52 : decode method_5_code 52 = .ok (.dup, 1) := by decide +kernel
theorem dsm_53 : decode method_5_code 53 = .ok (.iconst 4, 1) := by decide +kernel
theorem dsm_54 : decode method_5_code 54 = .ok (.iconst 0, 1) := by decide +kernel
theorem dsm_55 : decode method_5_code 55 = .ok (.iastore, 1) := by decide +kernel
theorem dsm_56 : decode method_5_code 56 = .ok (.aastore, 1) := by decide +kernel
theorem dsm_57 : decode method_5_code 57 = .ok (.dup, 1) := by decide +kernel
theorem dsm_58 : decode method_5_code 58 = .ok (.iconst 2, 1) := by decide +kernel
theorem dsm_59 : decode method_5_code 59 = .ok (.iconst 5, 1) := by decide +kernel
theorem dsm_60 : decode method_5_code 60 = .ok (.newarray .int, 2) := by decide +kernel
theorem dsm_62 : decode method_5_code 62 = .ok (.dup, 1) := by decide +kernel
theorem dsm_63 : decode method_5_code 63 = .ok (.iconst 0, 1) := by decide +kernel
theorem dsm_64 : decode method_5_code 64 = .ok (.iconst 1, 1) := by decide +kernel
theorem dsm_65 : decode method_5_code 65 = .ok (.iastore, 1) := by decide +kernel
theorem dsm_66 : decode method_5_code 66 = .ok (.dup, 1) := by decide +kernel
theorem dsm_67 : decode method_5_code 67 = .ok (.iconst 1, 1) := by decide +kernel
theorem dsm_68 : decode method_5_code 68 = .ok (.iconst 2, 1) := by decide +kernel
theorem dsm_69 : decode method_5_code 69 = .ok (.iastore, 1) := by decide +kernel
theorem dsm_70 : decode method_5_code 70 = .ok (.dup, 1) := by decide +kernel
theorem dsm_71 : decode method_5_code 71 = .ok (.iconst 2, 1) := by decide +kernel
theorem dsm_72 : decode method_5_code 72 = .ok (.iconst 2, 1) := by decide +kernel
theorem dsm_73 : decode method_5_code 73 = .ok (.iastore, 1) := by decide +kernel
theorem dsm_74 : decode method_5_code 74 = .ok (.dup, 1) := by decide +kernel
theorem dsm_75 : decode method_5_code 75 = .ok (.iconst 3, 1) := by decide +kernel
theorem dsm_76 : decode method_5_code 76 = .ok (.iconst 0, 1) := by decide +kernel
theorem dsm_77 : decode method_5_code 77 = .ok (.iastore, 1) := by decide +kernel
theorem dsm_78 : decode method_5_code 78 = .ok (.dup, 1) := by decide +kernel
theorem dsm_79 : decode method_5_code 79 = .ok (.iconst 4, 1) := by decide +kernel
theorem dsm_80 : decode method_5_code 80 = .ok (.iconst 0, 1) := by decide +kernel
theorem dsm_81 : decode method_5_code 81 = .ok (.iastore, 1) := by decide +kernel
theorem dsm_82 : decode method_5_code 82 = .ok (.aastore, 1) := by decide +kernel
theorem dsm_83 : decode method_5_code 83 = .ok (.dup, 1) := by decide +kernel
theorem dsm_84 : decode method_5_code 84 = .ok (.iconst 3, 1) := by decide +kernel
theorem dsm_85 : decode method_5_code 85 = .ok (.iconst 5, 1) := by decide +kernel
theorem dsm_86 : decode method_5_code 86 = .ok (.newarray .int, 2) := by decide +kernel
theorem dsm_88 : decode method_5_code 88 = .ok (.dup, 1) := by decide +kernel
theorem dsm_89 : decode method_5_code 89 = .ok (.iconst 0, 1) := by decide +kernel
theorem dsm_90 : decode method_5_code 90 = .ok (.iconst 2, 1) := by decide +kernel
theorem dsm_91 : decode method_5_code 91 = .ok (.iastore, 1) := by decide +kernel
theorem dsm_92 : decode method_5_code 92 = .ok (.dup, 1) := by decide +kernel
theorem dsm_93 : decode method_5_code 93 = .ok (.iconst 1, 1) := by decide +kernel
theorem dsm_94 : decode method_5_code 94 = .ok (.iconst 2, 1) := by decide +kernel
theorem dsm_95 : decode method_5_code 95 = .ok (.iastore, 1) := by decide +kernel
theorem dsm_96 : decode method_5_code 96 = .ok (.dup, 1) := by decide +kernel
theorem dsm_97 : decode method_5_code 97 = .ok (.iconst 2, 1) := by decide +kernel
theorem dsm_98 : decode method_5_code 98 = .ok (.iconst 2, 1) := by decide +kernel
theorem dsm_99 : decode method_5_code 99 = .ok (.iastore, 1) := by decide +kernel
theorem dsm_100 : decode method_5_code 100 = .ok (.dup, 1) := by decide +kernel
theorem dsm_101 : decode method_5_code 101 = .ok (.iconst 3, 1) := by decide +kernel
theorem dsm_102 : decode method_5_code 102 = .ok (.iconst 2, 1) := by decide +kernel
theorem dsm_103 : decode method_5_code 103 = .ok (.iastore, 1) := by decide +kernel
theorem dsm_104 : decode method_5_code 104 = .ok (.dup, 1) := by decide +kernel
theorem dsm_105 : decode method_5_code 105 = .ok (.iconst 4, 1) := by decide +kernel
theorem dsm_106 : decode method_5_code 106 = .ok (.iconst 0, 1) := by decide +kernel
theorem dsm_107 : decode method_5_code 107 = .ok (.iastore, 1) := by decide +kernel
theorem dsm_108 : decode method_5_code 108 = .ok (.aastore, 1) := by decide +kernel
theorem dsm_109 : decode method_5_code 109 = .ok (.dup, 1) := by decide +kernel
theorem dsm_110 : decode method_5_code 110 = .ok (.iconst 4, 1) := by decide +kernel
theorem dsm_111 : decode method_5_code 111 = .ok (.iconst 5, 1) := by decide +kernel
theorem dsm_112 : decode method_5_code 112 = .ok (.newarray .int, 2) := by decide +kernel
theorem dsm_114 : decode method_5_code 114 = .ok (.dup, 1) := by decide +kernel
theorem dsm_115 : decode method_5_code 115 = .ok (.iconst 0, 1) := by decide +kernel
theorem dsm_116 : decode method_5_code 116 = .ok (.iconst 1, 1) := by decide +kernel
theorem dsm_117 : decode method_5_code 117 = .ok (.iastore, 1) := by decide +kernel
theorem dsm_118 : decode method_5_code 118 = .ok (.dup, 1) := by decide +kernel
theorem dsm_119 : decode method_5_code 119 = .ok (.iconst 1, 1) := by decide +kernel
theorem dsm_120 : decode method_5_code 120 = .ok (.iconst 2, 1) := by decide +kernel
theorem dsm_121 : decode method_5_code 121 = .ok (.iastore, 1) := by decide +kernel
theorem dsm_122 : decode method_5_code 122 = .ok (.dup, 1) := by decide +kernel
theorem dsm_123 : decode method_5_code 123 = .ok (.iconst 2, 1) := by decide +kernel
theorem dsm_124 : decode method_5_code 124 = .ok (.iconst 3, 1) := by decide +kernel
theorem dsm_125 : decode method_5_code 125 = .ok (.iastore, 1) := by decide +kernel
theorem dsm_126 : decode method_5_code 126 = .ok (.dup, 1) := by decide +kernel
theorem dsm_127 : decode method_5_code 127 = .ok (.iconst 3, 1) := by decide +kernel
theorem dsm_128 : decode method_5_code 128 = .ok (.iconst 3, 1) := by decide +kernel
theorem dsm_129 : decode method_5_code 129 = .ok (.iastore, 1) := by decide +kernel
theorem dsm_130 : decode method_5_code 130 = .ok (.dup, 1) := by decide +kernel
theorem dsm_131 : decode method_5_code 131 = .ok (.iconst 4, 1) := by decide +kernel
theorem dsm_132 : decode method_5_code 132 = .ok (.iconst 0, 1) := by decide +kernel
theorem dsm_133 : decode method_5_code 133 = .ok (.iastore, 1) := by decide +kernel
theorem dsm_134 : decode method_5_code 134 = .ok (.aastore, 1) := by decide +kernel
theorem dsm_135 : decode method_5_code 135 = .ok (.dup, 1) := by decide +kernel
theorem dsm_136 : decode method_5_code 136 = .ok (.iconst 5, 1) := by decide +kernel
theorem dsm_137 : decode method_5_code 137 = .ok (.iconst 5, 1) := by decide +kernel
theorem dsm_138 : decode method_5_code 138 = .ok (.newarray .int, 2) := by decide +kernel
theorem dsm_140 : decode method_5_code 140 = .ok (.dup, 1) := by decide +kernel
theorem dsm_141 : decode method_5_code 141 = .ok (.iconst 0, 1) := by decide +kernel
theorem dsm_142 : decode method_5_code 142 = .ok (.iconst 1, 1) := by decide +kernel
theorem dsm_143 : decode method_5_code 143 = .ok (.iastore, 1) := by decide +kernel
theorem dsm_144 : decode method_5_code 144 = .ok (.dup, 1) := by decide +kernel
theorem dsm_145 : decode method_5_code 145 = .ok (.iconst 1, 1) := by decide +kernel
theorem dsm_146 : decode method_5_code 146 = .ok (.iconst 3, 1) := by decide +kernel
theorem dsm_147 : decode method_5_code 147 = .ok (.iastore, 1) := by decide +kernel
theorem dsm_148 : decode method_5_code 148 = .ok (.dup, 1) := by decide +kernel
theorem dsm_149 : decode method_5_code 149 = .ok (.iconst 2, 1) := by decide +kernel
theorem dsm_150 : decode method_5_code 150 = .ok (.iconst 3, 1) := by decide +kernel
theorem dsm_151 : decode method_5_code 151 = .ok (.iastore, 1) := by decide +kernel
theorem dsm_152 : decode method_5_code 152 = .ok (.dup, 1) := by decide +kernel
theorem dsm_153 : decode method_5_code 153 = .ok (.iconst 3, 1) := by decide +kernel
theorem dsm_154 : decode method_5_code 154 = .ok (.iconst 3, 1) := by decide +kernel
theorem dsm_155 : decode method_5_code 155 = .ok (.iastore, 1) := by decide +kernel
theorem dsm_156 : decode method_5_code 156 = .ok (.dup, 1) := by decide +kernel
theorem dsm_157 : decode method_5_code 157 = .ok (.iconst 4, 1) := by decide +kernel
theorem dsm_158 : decode method_5_code 158 = .ok (.iconst 3, 1) := by decide +kernel
theorem dsm_159 : decode method_5_code 159 = .ok (.iastore, 1) := by decide +kernel
theorem dsm_160 : decode method_5_code 160 = .ok (.aastore, 1) := by decide +kernel
theorem dsm_161 : decode method_5_code 161 = .ok (.dup, 1) := by decide +kernel
theorem dsm_162 : decode method_5_code 162 = .ok (.bipush 6, 2) := by decide +kernel
theorem dsm_164 : decode method_5_code 164 = .ok (.iconst 5, 1) := by decide +kernel
theorem dsm_165 : decode method_5_code 165 = .ok (.newarray .int, 2) := by decide +kernel
theorem dsm_167 : decode method_5_code 167 = .ok (.dup, 1) := by decide +kernel
theorem dsm_168 : decode method_5_code 168 = .ok (.iconst 0, 1) := by decide +kernel
theorem dsm_169 : decode method_5_code 169 = .ok (.iconst 2, 1) := by decide +kernel
theorem dsm_170 : decode method_5_code 170 = .ok (.iastore, 1) := by decide +kernel
theorem dsm_171 : decode method_5_code 171 = .ok (.dup, 1) := by decide +kernel
theorem dsm_172 : decode method_5_code 172 = .ok (.iconst 1, 1) := by decide +kernel
theorem dsm_173 : decode method_5_code 173 = .ok (.iconst 2, 1) := by decide +kernel
theorem dsm_174 : decode method_5_code 174 = .ok (.iastore, 1) := by decide +kernel
theorem dsm_175 : decode method_5_code 175 = .ok (.dup, 1) := by decide +kernel
theorem dsm_176 : decode method_5_code 176 = .ok (.iconst 2, 1) := by decide +kernel
theorem dsm_177 : decode method_5_code 177 = .ok (.iconst 2, 1) := by decide +kernel
theorem dsm_178 : decode method_5_code 178 = .ok (.iastore, 1) := by decide +kernel
theorem dsm_179 : decode method_5_code 179 = .ok (.dup, 1) := by decide +kernel
theorem dsm_180 : decode method_5_code 180 = .ok (.iconst 3, 1) := by decide +kernel
theorem dsm_181 : decode method_5_code 181 = .ok (.iconst 3, 1) := by decide +kernel
theorem dsm_182 : decode method_5_code 182 = .ok (.iastore, 1) := by decide +kernel
theorem dsm_183 : decode method_5_code 183 = .ok (.dup, 1) := by decide +kernel
theorem dsm_184 : decode method_5_code 184 = .ok (.iconst 4, 1) := by decide +kernel
theorem dsm_185 : decode method_5_code 185 = .ok (.iconst 3, 1) := by decide +kernel
theorem dsm_186 : decode method_5_code 186 = .ok (.iastore, 1) := by decide +kernel
theorem dsm_187 : decode method_5_code 187 = .ok (.aastore, 1) := by decide +kernel
theorem dsm_188 : decode method_5_code 188 = .ok (.dup, 1) := by decide +kernel
theorem dsm_189 : decode method_5_code 189 = .ok (.bipush 7, 2) := by decide +kernel
theorem dsm_191 : decode method_5_code 191 = .ok (.iconst 5, 1) := by decide +kernel
theorem dsm_192 : decode method_5_code 192 = .ok (.newarray .int, 2) := by decide +kernel
theorem dsm_194 : decode method_5_code 194 = .ok (.dup, 1) := by decide +kernel
theorem dsm_195 : decode method_5_code 195 = .ok (.iconst 0, 1) := by decide +kernel
theorem dsm_196 : decode method_5_code 196 = .ok (.iconst 1, 1) := by decide +kernel
theorem dsm_197 : decode method_5_code 197 = .ok (.iastore, 1) := by decide +kernel
theorem dsm_198 : decode method_5_code 198 = .ok (.dup, 1) := by decide +kernel
theorem dsm_199 : decode method_5_code 199 = .ok (.iconst 1, 1) := by decide +kernel
theorem dsm_200 : decode method_5_code 200 = .ok (.iconst 2, 1) := by decide +kernel
theorem dsm_201 : decode method_5_code 201 = .ok (.iastore, 1) := by decide +kernel
theorem dsm_202 : decode method_5_code 202 = .ok (.dup, 1) := by decide +kernel
theorem dsm_203 : decode method_5_code 203 = .ok (.iconst 2, 1) := by decide +kernel
theorem dsm_204 : decode method_5_code 204 = .ok (.iconst 3, 1) := by decide +kernel
theorem dsm_205 : decode method_5_code 205 = .ok (.iastore, 1) := by decide +kernel
theorem dsm_206 : decode method_5_code 206 = .ok (.dup, 1) := by decide +kernel
theorem dsm_207 : decode method_5_code 207 = .ok (.iconst 3, 1) := by decide +kernel
theorem dsm_208 : decode method_5_code 208 = .ok (.iconst 4, 1) := by decide +kernel
theorem dsm_209 : decode method_5_code 209 = .ok (.iastore, 1) := by decide +kernel
theorem dsm_210 : decode method_5_code 210 = .ok (.dup, 1) := by decide +kernel
theorem dsm_211 : decode method_5_code 211 = .ok (.iconst 4, 1) := by decide +kernel
theorem dsm_212 : decode method_5_code 212 = .ok (.iconst 4, 1) := by decide +kernel
theorem dsm_213 : decode method_5_code 213 = .ok (.iastore, 1) := by decide +kernel
theorem dsm_214 : decode method_5_code 214 = .ok (.aastore, 1) := by decide +kernel
theorem dsm_215 : decode method_5_code 215 = .ok (.astore 4, 2) := by decide +kernel
theorem dsm_217 : decode method_5_code 217 = .ok (.bipush 8, 2) := by decide +kernel
theorem dsm_219 : decode method_5_code 219 = .ok (.newarray .int, 2) := by decide +kernel
theorem dsm_221 : decode method_5_code 221 = .ok (.dup, 1) := by decide +kernel
theorem dsm_222 : decode method_5_code 222 = .ok (.iconst 0, 1) := by decide +kernel
theorem dsm_223 : decode method_5_code 223 = .ok (.iconst 1, 1) := by decide +kernel
theorem dsm_224 : decode method_5_code 224 = .ok (.iastore, 1) := by decide +kernel
theorem dsm_225 : decode method_5_code 225 = .ok (.dup, 1) := by decide +kernel
theorem dsm_226 : decode method_5_code 226 = .ok (.iconst 1, 1) := by decide +kernel
theorem dsm_227 : decode method_5_code 227 = .ok (.iconst 2, 1) := by decide +kernel
theorem dsm_228 : decode method_5_code 228 = .ok (.iastore, 1) := by decide +kernel
theorem dsm_229 : decode method_5_code 229 = .ok (.dup, 1) := by decide +kernel
theorem dsm_230 : decode method_5_code 230 = .ok (.iconst 2, 1) := by decide +kernel
theorem dsm_231 : decode method_5_code 231 = .ok (.iconst 3, 1) := by decide +kernel
theorem dsm_232 : decode method_5_code 232 = .ok (.iastore, 1) := by decide +kernel
theorem dsm_233 : decode method_5_code 233 = .ok (.dup, 1) := by decide +kernel
theorem dsm_234 : decode method_5_code 234 = .ok (.iconst 3, 1) := by decide +kernel
theorem dsm_235 : decode method_5_code 235 = .ok (.iconst 4, 1) := by decide +kernel
theorem dsm_236 : decode method_5_code 236 = .ok (.iastore, 1) := by decide +kernel
theorem dsm_237 : decode method_5_code 237 = .ok (.dup, 1) := by decide +kernel
theorem dsm_238 : decode method_5_code 238 = .ok (.iconst 4, 1) := by decide +kernel
theorem dsm_239 : decode method_5_code 239 = .ok (.iconst 4, 1) := by decide +kernel
theorem dsm_240 : decode method_5_code 240 = .ok (.iastore, 1) := by decide +kernel
theorem dsm_241 : decode method_5_code 241 = .ok (.dup, 1) := by decide +kernel
theorem dsm_242 : decode method_5_code 242 = .ok (.iconst 5, 1) := by decide +kernel
theorem dsm_243 : decode method_5_code 243 = .ok (.iconst 5, 1) := by decide +kernel
theorem dsm_244 : decode method_5_code 244 = .ok (.iastore, 1) := by decide +kernel
theorem dsm_245 : decode method_5_code 245 = .ok (.dup, 1) := by decide +kernel
theorem dsm_246 : decode method_5_code 246 = .ok (.bipush 6, 2) := by decide +kernel
theorem dsm_248 : decode method_5_code 248 = .ok (.iconst 5, 1) := by decide +kernel
theorem dsm_249 : decode method_5_code 249 = .ok (.iastore, 1) := by decide +kernel
theorem dsm_250 : decode method_5_code 250 = .ok (.dup, 1) := by decide +kernel
theorem dsm_251 : decode method_5_code 251 = .ok (.bipush 7, 2) := by decide +kernel
theorem dsm_253 : decode method_5_code 253 = .ok (.iconst 5, 1) := by decide +kernel
theorem dsm_254 : decode method_5_code 254 = .ok (.iastore, 1) := by decide +kernel
theorem dsm_255 : decode method_5_code 255 = .ok (.astore 5, 2) := by decide +kernel
theorem dsm_257 : decode method_5_code 257 = .ok (.iload_n 1, 1) := by decide +kernel
theorem dsm_258 : decode method_5_code 258 = .ok (.bipush 7, 2) := by decide +kernel
theorem dsm_260 : decode method_5_code 260 = .ok (.iand, 1) := by decide +kernel
theorem dsm_261 : decode method_5_code 261 = .ok (.istore 6, 2) := by decide +kernel
theorem dsm_263 : decode method_5_code 263 = .ok (.aload 5, 2) := by decide +kernel
theorem dsm_265 : decode method_5_code 265 = .ok (.iload 6, 2) := by decide +kernel
theorem dsm_267 : decode method_5_code 267 = .ok (.iaload, 1) := by decide +kernel
theorem dsm_268 : decode method_5_code 268 = .ok (.istore 7, 2) := by decide +kernel
theorem dsm_270 : decode method_5_code 270 = .ok (.aload 4, 2) := by decide +kernel
theorem dsm_272 : decode method_5_code 272 = .ok (.iload 6, 2) := by decide +kernel
theorem dsm_274 : decode method_5_code 274 = .ok (.aaload, 1) := by decide +kernel
theorem dsm_275 : decode method_5_code 275 = .ok (.astore 8, 2) := by decide +kernel
theorem dsm_277 : decode method_5_code 277 = .ok (.aload 8, 2) := by decide +kernel
theorem dsm_279 : decode method_5_code 279 = .ok (.iload 7, 2) := by decide +kernel
theorem dsm_281 : decode method_5_code 281 = .ok (.iconst 0, 1) := by decide +kernel
theorem dsm_282 : decode method_5_code 282 = .ok (.iload_n 1, 1) := by decide +kernel
theorem dsm_283 : decode method_5_code 283 = .ok (.iconst 3, 1) := by decide +kernel
theorem dsm_284 : decode method_5_code 284 = .ok (.iushr, 1) := by decide +kernel
theorem dsm_285 : decode method_5_code 285 = .ok (.invokestatic 35, 3) := by decide +kernel
theorem dsm_288 : decode method_5_code 288 = .ok (.aload 8, 2) := by decide +kernel
theorem dsm_290 : decode method_5_code 290 = .ok (.iload 7, 2) := by decide +kernel
theorem dsm_292 : decode method_5_code 292 = .ok (.iconst 1, 1) := by decide +kernel
theorem dsm_293 : decode method_5_code 293 = .ok (.iload_n 1, 1) := by decide +kernel
theorem dsm_294 : decode method_5_code 294 = .ok (.bipush 6, 2) := by decide +kernel
theorem dsm_296 : decode method_5_code 296 = .ok (.iushr, 1) := by decide +kernel
theorem dsm_297 : decode method_5_code 297 = .ok (.invokestatic 35, 3) := by decide +kernel
theorem dsm_300 : decode method_5_code 300 = .ok (.aload 8, 2) := by decide +kernel
theorem dsm_302 : decode method_5_code 302 = .ok (.iload 7, 2) := by decide +kernel
theorem dsm_304 : decode method_5_code 304 = .ok (.iconst 2, 1) := by decide +kernel
theorem dsm_305 : decode method_5_code 305 = .ok (.iload_n 1, 1) := by decide +kernel
theorem dsm_306 : decode method_5_code 306 = .ok (.bipush 9, 2) := by decide +kernel
theorem dsm_308 : decode method_5_code 308 = .ok (.iushr, 1) := by decide +kernel
theorem dsm_309 : decode method_5_code 309 = .ok (.invokestatic 35, 3) := by decide +kernel
theorem dsm_312 : decode method_5_code 312 = .ok (.aload 8, 2) := by decide +kernel
theorem dsm_314 : decode method_5_code 314 = .ok (.iload 7, 2) := by decide +kernel
theorem dsm_316 : decode method_5_code 316 = .ok (.iconst 3, 1) := by decide +kernel
theorem dsm_317 : decode method_5_code 317 = .ok (.iload_n 1, 1) := by decide +kernel
theorem dsm_318 : decode method_5_code 318 = .ok (.bipush 12, 2) := by decide +kernel
theorem dsm_320 : decode method_5_code 320 = .ok (.iushr, 1) := by decide +kernel
theorem dsm_321 : decode method_5_code 321 = .ok (.invokestatic 35, 3) := by decide +kernel
theorem dsm_324 : decode method_5_code 324 = .ok (.iload_n 2, 1) := by decide +kernel
theorem dsm_325 : decode method_5_code 325 = .ok (.bipush 31, 2) := by decide +kernel
theorem dsm_327 : decode method_5_code 327 = .ok (.iand, 1) := by decide +kernel
theorem dsm_328 : decode method_5_code 328 = .ok (.istore 9, 2) := by decide +kernel
theorem dsm_330 : decode method_5_code 330 = .ok (.iload 9, 2) := by decide +kernel
theorem dsm_332 : decode method_5_code 332 = .ok (.iconst 1, 1) := by decide +kernel
theorem dsm_333 : decode method_5_code 333 = .ok (.iadd, 1) := by decide +kernel
theorem dsm_334 : decode method_5_code 334 = .ok (.iload_n 2, 1) := by decide +kernel
theorem dsm_335 : decode method_5_code 335 = .ok (.iconst 5, 1) := by decide +kernel
theorem dsm_336 : decode method_5_code 336 = .ok (.iushr, 1) := by decide +kernel
theorem dsm_337 : decode method_5_code 337 = .ok (.bipush 31, 2) := by decide +kernel
theorem dsm_339 : decode method_5_code 339 = .ok (.iand, 1) := by decide +kernel
theorem dsm_340 : decode method_5_code 340 = .ok (.iadd, 1) := by decide +kernel
theorem dsm_341 : decode method_5_code 341 = .ok (.istore 10, 2) := by decide +kernel
theorem dsm_343 : decode method_5_code 343 = .ok (.iload 10, 2) := by decide +kernel
theorem dsm_345 : decode method_5_code 345 = .ok (.iconst 1, 1) := by decide +kernel
theorem dsm_346 : decode method_5_code 346 = .ok (.iadd, 1) := by decide +kernel
theorem dsm_347 : decode method_5_code 347 = .ok (.iload_n 2, 1) := by decide +kernel
theorem dsm_348 : decode method_5_code 348 = .ok (.bipush 10, 2) := by decide +kernel
theorem dsm_350 : decode method_5_code 350 = .ok (.iushr, 1) := by decide +kernel
theorem dsm_351 : decode method_5_code 351 = .ok (.bipush 31, 2) := by decide +kernel
theorem dsm_353 : decode method_5_code 353 = .ok (.iand, 1) := by decide +kernel
theorem dsm_354 : decode method_5_code 354 = .ok (.iadd, 1) := by decide +kernel
theorem dsm_355 : decode method_5_code 355 = .ok (.istore 11, 2) := by decide +kernel
theorem dsm_357 : decode method_5_code 357 = .ok (.iload 11, 2) := by decide +kernel
theorem dsm_359 : decode method_5_code 359 = .ok (.iconst 1, 1) := by decide +kernel
theorem dsm_360 : decode method_5_code 360 = .ok (.iadd, 1) := by decide +kernel
theorem dsm_361 : decode method_5_code 361 = .ok (.iload_n 2, 1) := by decide +kernel
theorem dsm_362 : decode method_5_code 362 = .ok (.bipush 15, 2) := by decide +kernel
theorem dsm_364 : decode method_5_code 364 = .ok (.iushr, 1) := by decide +kernel
theorem dsm_365 : decode method_5_code 365 = .ok (.bipush 31, 2) := by decide +kernel
theorem dsm_367 : decode method_5_code 367 = .ok (.iand, 1) := by decide +kernel
theorem dsm_368 : decode method_5_code 368 = .ok (.iadd, 1) := by decide +kernel
theorem dsm_369 : decode method_5_code 369 = .ok (.istore 12, 2) := by decide +kernel
theorem dsm_371 : decode method_5_code 371 = .ok (.iload 12, 2) := by decide +kernel
theorem dsm_373 : decode method_5_code 373 = .ok (.iconst 1, 1) := by decide +kernel
theorem dsm_374 : decode method_5_code 374 = .ok (.iadd, 1) := by decide +kernel
theorem dsm_375 : decode method_5_code 375 = .ok (.iload_n 2, 1) := by decide +kernel
theorem dsm_376 : decode method_5_code 376 = .ok (.bipush 20, 2) := by decide +kernel
theorem dsm_378 : decode method_5_code 378 = .ok (.iushr, 1) := by decide +kernel
theorem dsm_379 : decode method_5_code 379 = .ok (.bipush 31, 2) := by decide +kernel
theorem dsm_381 : decode method_5_code 381 = .ok (.iand, 1) := by decide +kernel
theorem dsm_382 : decode method_5_code 382 = .ok (.iadd, 1) := by decide +kernel
theorem dsm_383 : decode method_5_code 383 = .ok (.istore 13, 2) := by decide +kernel
theorem dsm_385 : decode method_5_code 385 = .ok (.iconst 5, 1) := by decide +kernel
theorem dsm_386 : decode method_5_code 386 = .ok (.newarray .int, 2) := by decide +kernel
theorem dsm_388 : decode method_5_code 388 = .ok (.dup, 1) := by decide +kernel
theorem dsm_389 : decode method_5_code 389 = .ok (.iconst 0, 1) := by decide +kernel
theorem dsm_390 : decode method_5_code 390 = .ok (.iload 9, 2) := by decide +kernel
theorem dsm_392 : decode method_5_code 392 = .ok (.iastore, 1) := by decide +kernel
theorem dsm_393 : decode method_5_code 393 = .ok (.dup, 1) := by decide +kernel
theorem dsm_394 : decode method_5_code 394 = .ok (.iconst 1, 1) := by decide +kernel
theorem dsm_395 : decode method_5_code 395 = .ok (.iload 10, 2) := by decide +kernel
theorem dsm_397 : decode method_5_code 397 = .ok (.iastore, 1) := by decide +kernel
theorem dsm_398 : decode method_5_code 398 = .ok (.dup, 1) := by decide +kernel
theorem dsm_399 : decode method_5_code 399 = .ok (.iconst 2, 1) := by decide +kernel
theorem dsm_400 : decode method_5_code 400 = .ok (.iload 11, 2) := by decide +kernel
theorem dsm_402 : decode method_5_code 402 = .ok (.iastore, 1) := by decide +kernel
theorem dsm_403 : decode method_5_code 403 = .ok (.dup, 1) := by decide +kernel
theorem dsm_404 : decode method_5_code 404 = .ok (.iconst 3, 1) := by decide +kernel
theorem dsm_405 : decode method_5_code 405 = .ok (.iload 12, 2) := by decide +kernel
theorem dsm_407 : decode method_5_code 407 = .ok (.iastore, 1) := by decide +kernel
theorem dsm_408 : decode method_5_code 408 = .ok (.dup, 1) := by decide +kernel
theorem dsm_409 : decode method_5_code 409 = .ok (.iconst 4, 1) := by decide +kernel
theorem dsm_410 : decode method_5_code 410 = .ok (.iload 13, 2) := by decide +kernel
theorem dsm_412 : decode method_5_code 412 = .ok (.iastore, 1) := by decide +kernel
theorem dsm_413 : decode method_5_code 413 = .ok (.astore 14, 2) := by decide +kernel
theorem dsm_415 : decode method_5_code 415 = .ok (.sipush 256, 3) := by decide +kernel
theorem dsm_418 : decode method_5_code 418 = .ok (.newarray .int, 2) := by decide +kernel
theorem dsm_420 : decode method_5_code 420 = .ok (.astore 15, 2) := by decide +kernel
theorem dsm_422 : decode method_5_code 422 = .ok (.aload 15, 2) := by decide +kernel
theorem dsm_424 : decode method_5_code 424 = .ok (.iload 9, 2) := by decide +kernel
theorem dsm_426 : decode method_5_code 426 = .ok (.aload 8, 2) := by decide +kernel
theorem dsm_428 : decode method_5_code 428 = .ok (.iconst 0, 1) := by decide +kernel
theorem dsm_429 : decode method_5_code 429 = .ok (.iaload, 1) := by decide +kernel
theorem dsm_430 : decode method_5_code 430 = .ok (.iastore, 1) := by decide +kernel
theorem dsm_431 : decode method_5_code 431 = .ok (.aload 15, 2) := by decide +kernel
theorem dsm_433 : decode method_5_code 433 = .ok (.iload 10, 2) := by decide +kernel
theorem dsm_435 : decode method_5_code 435 = .ok (.aload 8, 2) := by decide +kernel
theorem dsm_437 : decode method_5_code 437 = .ok (.iconst 1, 1) := by decide +kernel
theorem dsm_438 : decode method_5_code 438 = .ok (.iaload, 1) := by decide +kernel
theorem dsm_439 : decode method_5_code 439 = .ok (.iastore, 1) := by decide +kernel
theorem dsm_440 : decode method_5_code 440 = .ok (.aload 15, 2) := by decide +kernel
theorem dsm_442 : decode method_5_code 442 = .ok (.iload 11, 2) := by decide +kernel
theorem dsm_444 : decode method_5_code 444 = .ok (.aload 8, 2) := by decide +kernel
theorem dsm_446 : decode method_5_code 446 = .ok (.iconst 2, 1) := by decide +kernel
theorem dsm_447 : decode method_5_code 447 = .ok (.iaload, 1) := by decide +kernel
theorem dsm_448 : decode method_5_code 448 = .ok (.iastore, 1) := by decide +kernel
theorem dsm_449 : decode method_5_code 449 = .ok (.aload 15, 2) := by decide +kernel
theorem dsm_451 : decode method_5_code 451 = .ok (.iload 12, 2) := by decide +kernel
theorem dsm_453 : decode method_5_code 453 = .ok (.aload 8, 2) := by decide +kernel
theorem dsm_455 : decode method_5_code 455 = .ok (.iconst 3, 1) := by decide +kernel
theorem dsm_456 : decode method_5_code 456 = .ok (.iaload, 1) := by decide +kernel
theorem dsm_457 : decode method_5_code 457 = .ok (.iastore, 1) := by decide +kernel
theorem dsm_458 : decode method_5_code 458 = .ok (.aload 15, 2) := by decide +kernel
theorem dsm_460 : decode method_5_code 460 = .ok (.iload 13, 2) := by decide +kernel
theorem dsm_462 : decode method_5_code 462 = .ok (.aload 8, 2) := by decide +kernel
theorem dsm_464 : decode method_5_code 464 = .ok (.iconst 4, 1) := by decide +kernel
theorem dsm_465 : decode method_5_code 465 = .ok (.iaload, 1) := by decide +kernel
theorem dsm_466 : decode method_5_code 466 = .ok (.iastore, 1) := by decide +kernel
theorem dsm_467 : decode method_5_code 467 = .ok (.aload_n 0, 1) := by decide +kernel
theorem dsm_468 : decode method_5_code 468 = .ok (.aload 14, 2) := by decide +kernel
theorem dsm_470 : decode method_5_code 470 = .ok (.iload 7, 2) := by decide +kernel
theorem dsm_472 : decode method_5_code 472 = .ok (.aload 15, 2) := by decide +kernel
theorem dsm_474 : decode method_5_code 474 = .ok (.invokevirtual 19, 3) := by decide +kernel
theorem dsm_477 : decode method_5_code 477 = .ok (.aload_n 0, 1) := by decide +kernel
theorem dsm_478 : decode method_5_code 478 = .ok (.iload 9, 2) := by decide +kernel
theorem dsm_480 : decode method_5_code 480 = .ok (.invokevirtual 23, 3) := by decide +kernel
theorem dsm_483 : decode method_5_code 483 = .ok (.aload 8, 2) := by decide +kernel
theorem dsm_485 : decode method_5_code 485 = .ok (.iload 7, 2) := by decide +kernel
theorem dsm_487 : decode method_5_code 487 = .ok (.iconst 0, 1) := by decide +kernel
theorem dsm_488 : decode method_5_code 488 = .ok (.invokestatic 39, 3) := by decide +kernel
theorem dsm_491 : decode method_5_code 491 = .ok (.lcmp, 1) := by decide +kernel
theorem dsm_492 : decode method_5_code 492 = .ok (.ifCond .ne 98, 3) := by decide +kernel
theorem dsm_495 : decode method_5_code 495 = .ok (.aload_n 0, 1) := by decide +kernel
theorem dsm_496 : decode method_5_code 496 = .ok (.iload 10, 2) := by decide +kernel
theorem dsm_498 : decode method_5_code 498 = .ok (.invokevirtual 23, 3) := by decide +kernel
theorem dsm_501 : decode method_5_code 501 = .ok (.aload 8, 2) := by decide +kernel
theorem dsm_503 : decode method_5_code 503 = .ok (.iload 7, 2) := by decide +kernel
theorem dsm_505 : decode method_5_code 505 = .ok (.iconst 1, 1) := by decide +kernel
theorem dsm_506 : decode method_5_code 506 = .ok (.invokestatic 39, 3) := by decide +kernel
theorem dsm_509 : decode method_5_code 509 = .ok (.lcmp, 1) := by decide +kernel
theorem dsm_510 : decode method_5_code 510 = .ok (.ifCond .ne 80, 3) := by decide +kernel
theorem dsm_513 : decode method_5_code 513 = .ok (.aload_n 0, 1) := by decide +kernel
theorem dsm_514 : decode method_5_code 514 = .ok (.iload 11, 2) := by decide +kernel
theorem dsm_516 : decode method_5_code 516 = .ok (.invokevirtual 23, 3) := by decide +kernel
theorem dsm_519 : decode method_5_code 519 = .ok (.aload 8, 2) := by decide +kernel
theorem dsm_521 : decode method_5_code 521 = .ok (.iload 7, 2) := by decide +kernel
theorem dsm_523 : decode method_5_code 523 = .ok (.iconst 2, 1) := by decide +kernel
theorem dsm_524 : decode method_5_code 524 = .ok (.invokestatic 39, 3) := by decide +kernel
theorem dsm_527 : decode method_5_code 527 = .ok (.lcmp, 1) := by decide +kernel
theorem dsm_528 : decode method_5_code 528 = .ok (.ifCond .ne 62, 3) := by decide +kernel
theorem dsm_531 : decode method_5_code 531 = .ok (.aload_n 0, 1) := by decide +kernel
theorem dsm_532 : decode method_5_code 532 = .ok (.iload 12, 2) := by decide +kernel
theorem dsm_534 : decode method_5_code 534 = .ok (.invokevirtual 23, 3) := by decide +kernel
theorem dsm_537 : decode method_5_code 537 = .ok (.aload 8, 2) := by decide +kernel
theorem dsm_539 : decode method_5_code 539 = .ok (.iload 7, 2) := by decide +kernel
theorem dsm_541 : decode method_5_code 541 = .ok (.iconst 3, 1) := by decide +kernel
theorem dsm_542 : decode method_5_code 542 = .ok (.invokestatic 39, 3) := by decide +kernel
theorem dsm_545 : decode method_5_code 545 = .ok (.lcmp, 1) := by decide +kernel
theorem dsm_546 : decode method_5_code 546 = .ok (.ifCond .ne 44, 3) := by decide +kernel
theorem dsm_549 : decode method_5_code 549 = .ok (.aload_n 0, 1) := by decide +kernel
theorem dsm_550 : decode method_5_code 550 = .ok (.iload 13, 2) := by decide +kernel
theorem dsm_552 : decode method_5_code 552 = .ok (.invokevirtual 23, 3) := by decide +kernel
theorem dsm_555 : decode method_5_code 555 = .ok (.aload 8, 2) := by decide +kernel
theorem dsm_557 : decode method_5_code 557 = .ok (.iload 7, 2) := by decide +kernel
theorem dsm_559 : decode method_5_code 559 = .ok (.iconst 4, 1) := by decide +kernel
theorem dsm_560 : decode method_5_code 560 = .ok (.invokestatic 39, 3) := by decide +kernel
theorem dsm_563 : decode method_5_code 563 = .ok (.lcmp, 1) := by decide +kernel
theorem dsm_564 : decode method_5_code 564 = .ok (.ifCond .ne 26, 3) := by decide +kernel
theorem dsm_567 : decode method_5_code 567 = .ok (.aload_n 0, 1) := by decide +kernel
theorem dsm_568 : decode method_5_code 568 = .ok (.iload_n 3, 1) := by decide +kernel
theorem dsm_569 : decode method_5_code 569 = .ok (.invokevirtual 23, 3) := by decide +kernel
theorem dsm_572 : decode method_5_code 572 = .ok (.aload 8, 2) := by decide +kernel
theorem dsm_574 : decode method_5_code 574 = .ok (.iload 7, 2) := by decide +kernel
theorem dsm_576 : decode method_5_code 576 = .ok (.aload 14, 2) := by decide +kernel
theorem dsm_578 : decode method_5_code 578 = .ok (.iload_n 3, 1) := by decide +kernel
theorem dsm_579 : decode method_5_code 579 = .ok (.invokestatic 43, 3) := by decide +kernel
theorem dsm_582 : decode method_5_code 582 = .ok (.lcmp, 1) := by decide +kernel
theorem dsm_583 : decode method_5_code 583 = .ok (.ifCond .ne 7, 3) := by decide +kernel
theorem dsm_586 : decode method_5_code 586 = .ok (.iconst 1, 1) := by decide +kernel
theorem dsm_587 : decode method_5_code 587 = .ok (.goto 4, 3) := by decide +kernel
theorem dsm_591 : decode method_5_code 591 = .ok (.ireturn, 1) := by decide +kernel
set_option maxRecDepth 65536 in
set_option maxHeartbeats 40000000 in
theorem c_sma (l' : Launch) (Z : State) (a0 : Array Value) (hw : ∀ d ∈ tables_1, d.before a0 Z = true) (o : Addr) (p2 : Int32) (p3 : Int32) (h0 : Heap) (n0 : Nat) (q : Nat) (hq : q < 256) (sy co le lc fa fb : Addr) (Zn : n0 ≤ h0.size) (g_o : n0 ≤ o) (g_sy : n0 ≤ sy) (g_co : n0 ≤ co) (g_le : n0 ≤ le) (g_lc : n0 ≤ lc) (g_fa : n0 ≤ fa) (g_fb : n0 ≤ fb) (hD7 : [o, sy, co, le, lc, fa, fb].Nodup) (X_o : Exa Z h0 o "leafpress/HuffmanCode") (F_m_aSymbols_o : Fld Z h0 o "leafpress/HuffmanCode" "m_aSymbols" "[I" (.ref sy)) (F_m_aCodes_o : Fld Z h0 o "leafpress/HuffmanCode" "m_aCodes" "[J" (.ref co)) (F_m_aLengths_o : Fld Z h0 o "leafpress/HuffmanCode" "m_aLengths" "[B" (.ref le)) (F_m_aLengthCounts_o : Fld Z h0 o "leafpress/HuffmanCode" "m_aLengthCounts" "[I" (.ref lc)) (F_m_aFirstCodes_o : Fld Z h0 o "leafpress/HuffmanCode" "m_aFirstCodes" "[J" (.ref fa)) (F_m_aFirstSymbols_o : Fld Z h0 o "leafpress/HuffmanCode" "m_aFirstSymbols" "[I" (.ref fb)) (F_m_nLongest_o : Fld Z h0 o "leafpress/HuffmanCode" "m_nLongest" "I" (.int (0 : Int32))) (F_m_nValues_o : Fld Z h0 o "leafpress/HuffmanCode" "m_nValues" "I" (.int (0 : Int32))) (F_m_bPacked_o : Fld Z h0 o "leafpress/HuffmanCode" "m_bPacked" "Z" (.int (0 : Int32))) (A_sy : Ary Z h0 sy .int 256 (fun _ => .int (0 : Int32))) (A_co : Ary Z h0 co .long 256 (fun _ => .long (0 : Int64))) (A_le : Ary Z h0 le .byte 264 (fun q => if 256 ≤ q then .int (-1) else .int 0)) (A_lc : Ary Z h0 lc .int 64 (fun _ => .int (0 : Int32))) (A_fa : Ary Z h0 fa .long 64 (fun _ => .long (0 : Int64))) (A_fb : Ary Z h0 fb .int 64 (fun _ => .int (0 : Int32))) :
    Con l' Z (⟨"leafpress/HuffmanCodeCodePinLaw", "small", "(Lleafpress/HuffmanCode;III)Z"⟩ : MethodName) method_5_code 16 (some .boolean) ({ frames := 3, cells := 12, slots := 317, locals := 60 } : Room) #[(.ref o), (.int p2), (.int p3), (.int (Int32.ofNat q))] h0 n0 (fun v h => v = some (.int 1)) := by
  refine Con.of (plainFor_of_name (by first | (simp [plainName, overriddenIn]; done) | decide +kernel)) (L0 := #[.val (.ref o), .val (.int p2), .val (.int p3), .val (.int (Int32.ofNat q)), .unset, .unset, .unset, .unset, .unset, .unset, .unset, .unset, .unset, .unset, .unset, .unset]) (fun m => by first | (simp [entryFrame, mkF, argsToLocals, Value.category]; done) | rfl) ?_
  intro p e s m below meth c T C S
  have Kp := Keep.refl h0 []
  have ne_o_sy : o ≠ sy := nd hD7 0 1 (show (0 : Nat) < 1 by decide) (show (1 : Nat) < 7 by decide)
  have ne_o_co : o ≠ co := nd hD7 0 2 (show (0 : Nat) < 2 by decide) (show (2 : Nat) < 7 by decide)
  have ne_o_le : o ≠ le := nd hD7 0 3 (show (0 : Nat) < 3 by decide) (show (3 : Nat) < 7 by decide)
  have ne_o_lc : o ≠ lc := nd hD7 0 4 (show (0 : Nat) < 4 by decide) (show (4 : Nat) < 7 by decide)
  have ne_o_fa : o ≠ fa := nd hD7 0 5 (show (0 : Nat) < 5 by decide) (show (5 : Nat) < 7 by decide)
  have ne_o_fb : o ≠ fb := nd hD7 0 6 (show (0 : Nat) < 6 by decide) (show (6 : Nat) < 7 by decide)
  have ne_sy_co : sy ≠ co := nd hD7 1 2 (show (1 : Nat) < 2 by decide) (show (2 : Nat) < 7 by decide)
  have ne_sy_le : sy ≠ le := nd hD7 1 3 (show (1 : Nat) < 3 by decide) (show (3 : Nat) < 7 by decide)
  have ne_sy_lc : sy ≠ lc := nd hD7 1 4 (show (1 : Nat) < 4 by decide) (show (4 : Nat) < 7 by decide)
  have ne_sy_fa : sy ≠ fa := nd hD7 1 5 (show (1 : Nat) < 5 by decide) (show (5 : Nat) < 7 by decide)
  have ne_sy_fb : sy ≠ fb := nd hD7 1 6 (show (1 : Nat) < 6 by decide) (show (6 : Nat) < 7 by decide)
  have ne_co_le : co ≠ le := nd hD7 2 3 (show (2 : Nat) < 3 by decide) (show (3 : Nat) < 7 by decide)
  have ne_co_lc : co ≠ lc := nd hD7 2 4 (show (2 : Nat) < 4 by decide) (show (4 : Nat) < 7 by decide)
  have ne_co_fa : co ≠ fa := nd hD7 2 5 (show (2 : Nat) < 5 by decide) (show (5 : Nat) < 7 by decide)
  have ne_co_fb : co ≠ fb := nd hD7 2 6 (show (2 : Nat) < 6 by decide) (show (6 : Nat) < 7 by decide)
  have ne_le_lc : le ≠ lc := nd hD7 3 4 (show (3 : Nat) < 4 by decide) (show (4 : Nat) < 7 by decide)
  have ne_le_fa : le ≠ fa := nd hD7 3 5 (show (3 : Nat) < 5 by decide) (show (5 : Nat) < 7 by decide)
  have ne_le_fb : le ≠ fb := nd hD7 3 6 (show (3 : Nat) < 6 by decide) (show (6 : Nat) < 7 by decide)
  have ne_lc_fa : lc ≠ fa := nd hD7 4 5 (show (4 : Nat) < 5 by decide) (show (5 : Nat) < 7 by decide)
  have ne_lc_fb : lc ≠ fb := nd hD7 4 6 (show (4 : Nat) < 6 by decide) (show (6 : Nat) < 7 by decide)
  have ne_fa_fb : fa ≠ fb := nd hD7 5 6 (show (5 : Nat) < 6 by decide) (show (6 : Nat) < 7 by decide)
  have lt_o := X_o.lt
  have lt_sy := A_sy.lt
  have lt_co := A_co.lt
  have lt_le := A_le.lt
  have lt_lc := A_lc.lt
  have lt_fa := A_fa.lt
  have lt_fb := A_fb.lt
  refine g_bipush C S (8 : Int32) dsm_0 (pc' := 2) rfl rfl ?_
  refine g_anewarrayA C S (ty := .int) (N := 8) (cap := 8) dsm_2 rfl (hw _ (List.mem_of_getElem? (i := 35) rfl)) (hw _ (List.mem_of_getElem? (i := 36) rfl)) (by decide) (by decide) (by decide) (by decide) (by decide) (pc' := 5) rfl (fun T230 h230 a230 S g230 E230 A_a230 O_a230 => ?_)
  have sz_a230 : h0.size ≤ a230 := ge_of g230 Kp.1
  have ge_a230 : n0 ≤ a230 := ge_of g230 Zn
  have Kp := Kp.ext E230
  have Zn := Nat.le_trans Zn E230.1
  refine g_dup C S dsm_5 (pc' := 6) rfl rfl ?_
  refine g_iconst C S (0 : Int32) dsm_6 (pc' := 7) rfl rfl ?_
  refine g_iconst C S (5 : Int32) dsm_7 (pc' := 8) rfl rfl ?_
  refine g_newarrayX C S (N := 5) (cap := 5) dsm_8 (hw _ (List.mem_of_getElem? (i := 9) rfl)) (by decide) (by decide) (by decide) (by decide) (by decide) (pc' := 10) rfl (fun T231 h231 a231 S g231 E231 A_a231 Y_a231 => ?_)
  have ne_a230_a231 : a230 ≠ a231 := ne_new g231 A_a230.lt
  have sz_a231 : h0.size ≤ a231 := ge_of g231 Kp.1
  have ge_a231 : n0 ≤ a231 := ge_of g231 Zn
  have Kp := Kp.ext E231
  have Zn := Nat.le_trans Zn E231.1
  have A_a230 := A_a230.ext E231
  have O_a230 := O_a230.ext E231
  have A_a231 : Ary Z h231 a231 .int 5 (fun _ => .int (0 : Int32)) := A_a231
  have Y_a231 : Exa Z h231 a231 "[I" := Y_a231
  refine g_dup C S dsm_10 (pc' := 11) rfl rfl ?_
  refine g_iconst C S (0 : Int32) dsm_11 (pc' := 12) rfl rfl ?_
  refine g_iconst C S (0 : Int32) dsm_12 (pc' := 13) rfl rfl ?_
  refine g_iastore C S (i := 0) dsm_13 A_a231 (by decide) (by decide) ge_a231 (pc' := 14) rfl (fun T232 h232 S W232 B232 => ?_)
  have Zn := Nat.le_trans Zn (Nat.le_of_eq W232.size.symm)
  have A_a230 := A_a230.other W232 ne_a230_a231
  have O_a230 := O_a230.wr W232
  have Y_a231 := Y_a231.wr W232
  have A_a231 := B232
  have Kp := Kp.wr W232 (Or.inr sz_a231)
  refine g_dup C S dsm_14 (pc' := 15) rfl rfl ?_
  refine g_iconst C S (1 : Int32) dsm_15 (pc' := 16) rfl rfl ?_
  refine g_iconst C S (0 : Int32) dsm_16 (pc' := 17) rfl rfl ?_
  refine g_iastore C S (i := 1) dsm_17 A_a231 (by decide) (by decide) ge_a231 (pc' := 18) rfl (fun T233 h233 S W233 B233 => ?_)
  have Zn := Nat.le_trans Zn (Nat.le_of_eq W233.size.symm)
  have A_a230 := A_a230.other W233 ne_a230_a231
  have O_a230 := O_a230.wr W233
  have Y_a231 := Y_a231.wr W233
  have A_a231 := B233
  have Kp := Kp.wr W233 (Or.inr sz_a231)
  refine g_dup C S dsm_18 (pc' := 19) rfl rfl ?_
  refine g_iconst C S (2 : Int32) dsm_19 (pc' := 20) rfl rfl ?_
  refine g_iconst C S (0 : Int32) dsm_20 (pc' := 21) rfl rfl ?_
  refine g_iastore C S (i := 2) dsm_21 A_a231 (by decide) (by decide) ge_a231 (pc' := 22) rfl (fun T234 h234 S W234 B234 => ?_)
  have Zn := Nat.le_trans Zn (Nat.le_of_eq W234.size.symm)
  have A_a230 := A_a230.other W234 ne_a230_a231
  have O_a230 := O_a230.wr W234
  have Y_a231 := Y_a231.wr W234
  have A_a231 := B234
  have Kp := Kp.wr W234 (Or.inr sz_a231)
  refine g_dup C S dsm_22 (pc' := 23) rfl rfl ?_
  refine g_iconst C S (3 : Int32) dsm_23 (pc' := 24) rfl rfl ?_
  refine g_iconst C S (0 : Int32) dsm_24 (pc' := 25) rfl rfl ?_
  refine g_iastore C S (i := 3) dsm_25 A_a231 (by decide) (by decide) ge_a231 (pc' := 26) rfl (fun T235 h235 S W235 B235 => ?_)
  have Zn := Nat.le_trans Zn (Nat.le_of_eq W235.size.symm)
  have A_a230 := A_a230.other W235 ne_a230_a231
  have O_a230 := O_a230.wr W235
  have Y_a231 := Y_a231.wr W235
  have A_a231 := B235
  have Kp := Kp.wr W235 (Or.inr sz_a231)
  refine g_dup C S dsm_26 (pc' := 27) rfl rfl ?_
  refine g_iconst C S (4 : Int32) dsm_27 (pc' := 28) rfl rfl ?_
  refine g_iconst C S (0 : Int32) dsm_28 (pc' := 29) rfl rfl ?_
  refine g_iastore C S (i := 4) dsm_29 A_a231 (by decide) (by decide) ge_a231 (pc' := 30) rfl (fun T236 h236 S W236 B236 => ?_)
  have Zn := Nat.le_trans Zn (Nat.le_of_eq W236.size.symm)
  have A_a230 := A_a230.other W236 ne_a230_a231
  have O_a230 := O_a230.wr W236
  have Y_a231 := Y_a231.wr W236
  have A_a231 := B236
  have Kp := Kp.wr W236 (Or.inr sz_a231)
  refine g_aastore C S (i := 0) (v := (.ref a231)) dsm_30 A_a230 rfl (OvH.sto O_a230 Y_a231) (by decide) (by decide) ge_a230 (pc' := 31) rfl (fun T237 h237 S W237 B237 => ?_)
  have Zn := Nat.le_trans Zn (Nat.le_of_eq W237.size.symm)
  have O_a230 := O_a230.wr W237
  have A_a231 := A_a231.other W237 (Ne.symm ne_a230_a231)
  have A_a230 := B237
  have Kp := Kp.wr W237 (Or.inr sz_a230)
  refine g_dup C S dsm_31 (pc' := 32) rfl rfl ?_
  refine g_iconst C S (1 : Int32) dsm_32 (pc' := 33) rfl rfl ?_
  refine g_iconst C S (5 : Int32) dsm_33 (pc' := 34) rfl rfl ?_
  refine g_newarrayX C S (N := 5) (cap := 5) dsm_34 (hw _ (List.mem_of_getElem? (i := 9) rfl)) (by decide) (by decide) (by decide) (by decide) (by decide) (pc' := 36) rfl (fun T238 h238 a238 S g238 E238 A_a238 Y_a238 => ?_)
  have ne_a230_a238 : a230 ≠ a238 := ne_new g238 A_a230.lt
  have ne_a231_a238 : a231 ≠ a238 := ne_new g238 A_a231.lt
  have sz_a238 : h0.size ≤ a238 := ge_of g238 Kp.1
  have ge_a238 : n0 ≤ a238 := ge_of g238 Zn
  have Kp := Kp.ext E238
  have Zn := Nat.le_trans Zn E238.1
  have A_a230 := A_a230.ext E238
  have O_a230 := O_a230.ext E238
  have A_a231 := A_a231.ext E238
  have A_a238 : Ary Z h238 a238 .int 5 (fun _ => .int (0 : Int32)) := A_a238
  have Y_a238 : Exa Z h238 a238 "[I" := Y_a238
  refine g_dup C S dsm_36 (pc' := 37) rfl rfl ?_
  refine g_iconst C S (0 : Int32) dsm_37 (pc' := 38) rfl rfl ?_
  refine g_iconst C S (1 : Int32) dsm_38 (pc' := 39) rfl rfl ?_
  refine g_iastore C S (i := 0) dsm_39 A_a238 (by decide) (by decide) ge_a238 (pc' := 40) rfl (fun T239 h239 S W239 B239 => ?_)
  have Zn := Nat.le_trans Zn (Nat.le_of_eq W239.size.symm)
  have A_a230 := A_a230.other W239 ne_a230_a238
  have O_a230 := O_a230.wr W239
  have A_a231 := A_a231.other W239 ne_a231_a238
  have Y_a238 := Y_a238.wr W239
  have A_a238 := B239
  have Kp := Kp.wr W239 (Or.inr sz_a238)
  refine g_dup C S dsm_40 (pc' := 41) rfl rfl ?_
  refine g_iconst C S (1 : Int32) dsm_41 (pc' := 42) rfl rfl ?_
  refine g_iconst C S (1 : Int32) dsm_42 (pc' := 43) rfl rfl ?_
  refine g_iastore C S (i := 1) dsm_43 A_a238 (by decide) (by decide) ge_a238 (pc' := 44) rfl (fun T240 h240 S W240 B240 => ?_)
  have Zn := Nat.le_trans Zn (Nat.le_of_eq W240.size.symm)
  have A_a230 := A_a230.other W240 ne_a230_a238
  have O_a230 := O_a230.wr W240
  have A_a231 := A_a231.other W240 ne_a231_a238
  have Y_a238 := Y_a238.wr W240
  have A_a238 := B240
  have Kp := Kp.wr W240 (Or.inr sz_a238)
  refine g_dup C S dsm_44 (pc' := 45) rfl rfl ?_
  refine g_iconst C S (2 : Int32) dsm_45 (pc' := 46) rfl rfl ?_
  refine g_iconst C S (0 : Int32) dsm_46 (pc' := 47) rfl rfl ?_
  refine g_iastore C S (i := 2) dsm_47 A_a238 (by decide) (by decide) ge_a238 (pc' := 48) rfl (fun T241 h241 S W241 B241 => ?_)
  have Zn := Nat.le_trans Zn (Nat.le_of_eq W241.size.symm)
  have A_a230 := A_a230.other W241 ne_a230_a238
  have O_a230 := O_a230.wr W241
  have A_a231 := A_a231.other W241 ne_a231_a238
  have Y_a238 := Y_a238.wr W241
  have A_a238 := B241
  have Kp := Kp.wr W241 (Or.inr sz_a238)
  refine g_dup C S dsm_48 (pc' := 49) rfl rfl ?_
  refine g_iconst C S (3 : Int32) dsm_49 (pc' := 50) rfl rfl ?_
  refine g_iconst C S (0 : Int32) dsm_50 (pc' := 51) rfl rfl ?_
  refine g_iastore C S (i := 3) dsm_51 A_a238 (by decide) (by decide) ge_a238 (pc' := 52) rfl (fun T242 h242 S W242 B242 => ?_)
  have Zn := Nat.le_trans Zn (Nat.le_of_eq W242.size.symm)
  have A_a230 := A_a230.other W242 ne_a230_a238
  have O_a230 := O_a230.wr W242
  have A_a231 := A_a231.other W242 ne_a231_a238
  have Y_a238 := Y_a238.wr W242
  have A_a238 := B242
  have Kp := Kp.wr W242 (Or.inr sz_a238)
  refine g_dup C S dsm_52 (pc' := 53) rfl rfl ?_
  refine g_iconst C S (4 : Int32) dsm_53 (pc' := 54) rfl rfl ?_
  refine g_iconst C S (0 : Int32) dsm_54 (pc' := 55) rfl rfl ?_
  refine g_iastore C S (i := 4) dsm_55 A_a238 (by decide) (by decide) ge_a238 (pc' := 56) rfl (fun T243 h243 S W243 B243 => ?_)
  have Zn := Nat.le_trans Zn (Nat.le_of_eq W243.size.symm)
  have A_a230 := A_a230.other W243 ne_a230_a238
  have O_a230 := O_a230.wr W243
  have A_a231 := A_a231.other W243 ne_a231_a238
  have Y_a238 := Y_a238.wr W243
  have A_a238 := B243
  have Kp := Kp.wr W243 (Or.inr sz_a238)
  refine g_aastore C S (i := 1) (v := (.ref a238)) dsm_56 A_a230 rfl (OvH.sto O_a230 Y_a238) (by decide) (by decide) ge_a230 (pc' := 57) rfl (fun T244 h244 S W244 B244 => ?_)
  have Zn := Nat.le_trans Zn (Nat.le_of_eq W244.size.symm)
  have O_a230 := O_a230.wr W244
  have A_a231 := A_a231.other W244 (Ne.symm ne_a230_a231)
  have A_a238 := A_a238.other W244 (Ne.symm ne_a230_a238)
  have A_a230 := B244
  have Kp := Kp.wr W244 (Or.inr sz_a230)
  refine g_dup C S dsm_57 (pc' := 58) rfl rfl ?_
  refine g_iconst C S (2 : Int32) dsm_58 (pc' := 59) rfl rfl ?_
  refine g_iconst C S (5 : Int32) dsm_59 (pc' := 60) rfl rfl ?_
  refine g_newarrayX C S (N := 5) (cap := 5) dsm_60 (hw _ (List.mem_of_getElem? (i := 9) rfl)) (by decide) (by decide) (by decide) (by decide) (by decide) (pc' := 62) rfl (fun T245 h245 a245 S g245 E245 A_a245 Y_a245 => ?_)
  have ne_a230_a245 : a230 ≠ a245 := ne_new g245 A_a230.lt
  have ne_a231_a245 : a231 ≠ a245 := ne_new g245 A_a231.lt
  have ne_a238_a245 : a238 ≠ a245 := ne_new g245 A_a238.lt
  have sz_a245 : h0.size ≤ a245 := ge_of g245 Kp.1
  have ge_a245 : n0 ≤ a245 := ge_of g245 Zn
  have Kp := Kp.ext E245
  have Zn := Nat.le_trans Zn E245.1
  have A_a230 := A_a230.ext E245
  have O_a230 := O_a230.ext E245
  have A_a231 := A_a231.ext E245
  have A_a238 := A_a238.ext E245
  have A_a245 : Ary Z h245 a245 .int 5 (fun _ => .int (0 : Int32)) := A_a245
  have Y_a245 : Exa Z h245 a245 "[I" := Y_a245
  refine g_dup C S dsm_62 (pc' := 63) rfl rfl ?_
  refine g_iconst C S (0 : Int32) dsm_63 (pc' := 64) rfl rfl ?_
  refine g_iconst C S (1 : Int32) dsm_64 (pc' := 65) rfl rfl ?_
  refine g_iastore C S (i := 0) dsm_65 A_a245 (by decide) (by decide) ge_a245 (pc' := 66) rfl (fun T246 h246 S W246 B246 => ?_)
  have Zn := Nat.le_trans Zn (Nat.le_of_eq W246.size.symm)
  have A_a230 := A_a230.other W246 ne_a230_a245
  have O_a230 := O_a230.wr W246
  have A_a231 := A_a231.other W246 ne_a231_a245
  have A_a238 := A_a238.other W246 ne_a238_a245
  have Y_a245 := Y_a245.wr W246
  have A_a245 := B246
  have Kp := Kp.wr W246 (Or.inr sz_a245)
  refine g_dup C S dsm_66 (pc' := 67) rfl rfl ?_
  refine g_iconst C S (1 : Int32) dsm_67 (pc' := 68) rfl rfl ?_
  refine g_iconst C S (2 : Int32) dsm_68 (pc' := 69) rfl rfl ?_
  refine g_iastore C S (i := 1) dsm_69 A_a245 (by decide) (by decide) ge_a245 (pc' := 70) rfl (fun T247 h247 S W247 B247 => ?_)
  have Zn := Nat.le_trans Zn (Nat.le_of_eq W247.size.symm)
  have A_a230 := A_a230.other W247 ne_a230_a245
  have O_a230 := O_a230.wr W247
  have A_a231 := A_a231.other W247 ne_a231_a245
  have A_a238 := A_a238.other W247 ne_a238_a245
  have Y_a245 := Y_a245.wr W247
  have A_a245 := B247
  have Kp := Kp.wr W247 (Or.inr sz_a245)
  refine g_dup C S dsm_70 (pc' := 71) rfl rfl ?_
  refine g_iconst C S (2 : Int32) dsm_71 (pc' := 72) rfl rfl ?_
  refine g_iconst C S (2 : Int32) dsm_72 (pc' := 73) rfl rfl ?_
  refine g_iastore C S (i := 2) dsm_73 A_a245 (by decide) (by decide) ge_a245 (pc' := 74) rfl (fun T248 h248 S W248 B248 => ?_)
  have Zn := Nat.le_trans Zn (Nat.le_of_eq W248.size.symm)
  have A_a230 := A_a230.other W248 ne_a230_a245
  have O_a230 := O_a230.wr W248
  have A_a231 := A_a231.other W248 ne_a231_a245
  have A_a238 := A_a238.other W248 ne_a238_a245
  have Y_a245 := Y_a245.wr W248
  have A_a245 := B248
  have Kp := Kp.wr W248 (Or.inr sz_a245)
  refine g_dup C S dsm_74 (pc' := 75) rfl rfl ?_
  refine g_iconst C S (3 : Int32) dsm_75 (pc' := 76) rfl rfl ?_
  refine g_iconst C S (0 : Int32) dsm_76 (pc' := 77) rfl rfl ?_
  refine g_iastore C S (i := 3) dsm_77 A_a245 (by decide) (by decide) ge_a245 (pc' := 78) rfl (fun T249 h249 S W249 B249 => ?_)
  have Zn := Nat.le_trans Zn (Nat.le_of_eq W249.size.symm)
  have A_a230 := A_a230.other W249 ne_a230_a245
  have O_a230 := O_a230.wr W249
  have A_a231 := A_a231.other W249 ne_a231_a245
  have A_a238 := A_a238.other W249 ne_a238_a245
  have Y_a245 := Y_a245.wr W249
  have A_a245 := B249
  have Kp := Kp.wr W249 (Or.inr sz_a245)
  refine g_dup C S dsm_78 (pc' := 79) rfl rfl ?_
  refine g_iconst C S (4 : Int32) dsm_79 (pc' := 80) rfl rfl ?_
  refine g_iconst C S (0 : Int32) dsm_80 (pc' := 81) rfl rfl ?_
  refine g_iastore C S (i := 4) dsm_81 A_a245 (by decide) (by decide) ge_a245 (pc' := 82) rfl (fun T250 h250 S W250 B250 => ?_)
  have Zn := Nat.le_trans Zn (Nat.le_of_eq W250.size.symm)
  have A_a230 := A_a230.other W250 ne_a230_a245
  have O_a230 := O_a230.wr W250
  have A_a231 := A_a231.other W250 ne_a231_a245
  have A_a238 := A_a238.other W250 ne_a238_a245
  have Y_a245 := Y_a245.wr W250
  have A_a245 := B250
  have Kp := Kp.wr W250 (Or.inr sz_a245)
  refine g_aastore C S (i := 2) (v := (.ref a245)) dsm_82 A_a230 rfl (OvH.sto O_a230 Y_a245) (by decide) (by decide) ge_a230 (pc' := 83) rfl (fun T251 h251 S W251 B251 => ?_)
  have Zn := Nat.le_trans Zn (Nat.le_of_eq W251.size.symm)
  have O_a230 := O_a230.wr W251
  have A_a231 := A_a231.other W251 (Ne.symm ne_a230_a231)
  have A_a238 := A_a238.other W251 (Ne.symm ne_a230_a238)
  have A_a245 := A_a245.other W251 (Ne.symm ne_a230_a245)
  have A_a230 := B251
  have Kp := Kp.wr W251 (Or.inr sz_a230)
  refine g_dup C S dsm_83 (pc' := 84) rfl rfl ?_
  refine g_iconst C S (3 : Int32) dsm_84 (pc' := 85) rfl rfl ?_
  refine g_iconst C S (5 : Int32) dsm_85 (pc' := 86) rfl rfl ?_
  refine g_newarrayX C S (N := 5) (cap := 5) dsm_86 (hw _ (List.mem_of_getElem? (i := 9) rfl)) (by decide) (by decide) (by decide) (by decide) (by decide) (pc' := 88) rfl (fun T252 h252 a252 S g252 E252 A_a252 Y_a252 => ?_)
  have ne_a230_a252 : a230 ≠ a252 := ne_new g252 A_a230.lt
  have ne_a231_a252 : a231 ≠ a252 := ne_new g252 A_a231.lt
  have ne_a238_a252 : a238 ≠ a252 := ne_new g252 A_a238.lt
  have ne_a245_a252 : a245 ≠ a252 := ne_new g252 A_a245.lt
  have sz_a252 : h0.size ≤ a252 := ge_of g252 Kp.1
  have ge_a252 : n0 ≤ a252 := ge_of g252 Zn
  have Kp := Kp.ext E252
  have Zn := Nat.le_trans Zn E252.1
  have A_a230 := A_a230.ext E252
  have O_a230 := O_a230.ext E252
  have A_a231 := A_a231.ext E252
  have A_a238 := A_a238.ext E252
  have A_a245 := A_a245.ext E252
  have A_a252 : Ary Z h252 a252 .int 5 (fun _ => .int (0 : Int32)) := A_a252
  have Y_a252 : Exa Z h252 a252 "[I" := Y_a252
  refine g_dup C S dsm_88 (pc' := 89) rfl rfl ?_
  refine g_iconst C S (0 : Int32) dsm_89 (pc' := 90) rfl rfl ?_
  refine g_iconst C S (2 : Int32) dsm_90 (pc' := 91) rfl rfl ?_
  refine g_iastore C S (i := 0) dsm_91 A_a252 (by decide) (by decide) ge_a252 (pc' := 92) rfl (fun T253 h253 S W253 B253 => ?_)
  have Zn := Nat.le_trans Zn (Nat.le_of_eq W253.size.symm)
  have A_a230 := A_a230.other W253 ne_a230_a252
  have O_a230 := O_a230.wr W253
  have A_a231 := A_a231.other W253 ne_a231_a252
  have A_a238 := A_a238.other W253 ne_a238_a252
  have A_a245 := A_a245.other W253 ne_a245_a252
  have Y_a252 := Y_a252.wr W253
  have A_a252 := B253
  have Kp := Kp.wr W253 (Or.inr sz_a252)
  refine g_dup C S dsm_92 (pc' := 93) rfl rfl ?_
  refine g_iconst C S (1 : Int32) dsm_93 (pc' := 94) rfl rfl ?_
  refine g_iconst C S (2 : Int32) dsm_94 (pc' := 95) rfl rfl ?_
  refine g_iastore C S (i := 1) dsm_95 A_a252 (by decide) (by decide) ge_a252 (pc' := 96) rfl (fun T254 h254 S W254 B254 => ?_)
  have Zn := Nat.le_trans Zn (Nat.le_of_eq W254.size.symm)
  have A_a230 := A_a230.other W254 ne_a230_a252
  have O_a230 := O_a230.wr W254
  have A_a231 := A_a231.other W254 ne_a231_a252
  have A_a238 := A_a238.other W254 ne_a238_a252
  have A_a245 := A_a245.other W254 ne_a245_a252
  have Y_a252 := Y_a252.wr W254
  have A_a252 := B254
  have Kp := Kp.wr W254 (Or.inr sz_a252)
  refine g_dup C S dsm_96 (pc' := 97) rfl rfl ?_
  refine g_iconst C S (2 : Int32) dsm_97 (pc' := 98) rfl rfl ?_
  refine g_iconst C S (2 : Int32) dsm_98 (pc' := 99) rfl rfl ?_
  refine g_iastore C S (i := 2) dsm_99 A_a252 (by decide) (by decide) ge_a252 (pc' := 100) rfl (fun T255 h255 S W255 B255 => ?_)
  have Zn := Nat.le_trans Zn (Nat.le_of_eq W255.size.symm)
  have A_a230 := A_a230.other W255 ne_a230_a252
  have O_a230 := O_a230.wr W255
  have A_a231 := A_a231.other W255 ne_a231_a252
  have A_a238 := A_a238.other W255 ne_a238_a252
  have A_a245 := A_a245.other W255 ne_a245_a252
  have Y_a252 := Y_a252.wr W255
  have A_a252 := B255
  have Kp := Kp.wr W255 (Or.inr sz_a252)
  refine g_dup C S dsm_100 (pc' := 101) rfl rfl ?_
  refine g_iconst C S (3 : Int32) dsm_101 (pc' := 102) rfl rfl ?_
  refine g_iconst C S (2 : Int32) dsm_102 (pc' := 103) rfl rfl ?_
  refine g_iastore C S (i := 3) dsm_103 A_a252 (by decide) (by decide) ge_a252 (pc' := 104) rfl (fun T256 h256 S W256 B256 => ?_)
  have Zn := Nat.le_trans Zn (Nat.le_of_eq W256.size.symm)
  have A_a230 := A_a230.other W256 ne_a230_a252
  have O_a230 := O_a230.wr W256
  have A_a231 := A_a231.other W256 ne_a231_a252
  have A_a238 := A_a238.other W256 ne_a238_a252
  have A_a245 := A_a245.other W256 ne_a245_a252
  have Y_a252 := Y_a252.wr W256
  have A_a252 := B256
  have Kp := Kp.wr W256 (Or.inr sz_a252)
  refine g_dup C S dsm_104 (pc' := 105) rfl rfl ?_
  refine g_iconst C S (4 : Int32) dsm_105 (pc' := 106) rfl rfl ?_
  refine g_iconst C S (0 : Int32) dsm_106 (pc' := 107) rfl rfl ?_
  refine g_iastore C S (i := 4) dsm_107 A_a252 (by decide) (by decide) ge_a252 (pc' := 108) rfl (fun T257 h257 S W257 B257 => ?_)
  have Zn := Nat.le_trans Zn (Nat.le_of_eq W257.size.symm)
  have A_a230 := A_a230.other W257 ne_a230_a252
  have O_a230 := O_a230.wr W257
  have A_a231 := A_a231.other W257 ne_a231_a252
  have A_a238 := A_a238.other W257 ne_a238_a252
  have A_a245 := A_a245.other W257 ne_a245_a252
  have Y_a252 := Y_a252.wr W257
  have A_a252 := B257
  have Kp := Kp.wr W257 (Or.inr sz_a252)
  refine g_aastore C S (i := 3) (v := (.ref a252)) dsm_108 A_a230 rfl (OvH.sto O_a230 Y_a252) (by decide) (by decide) ge_a230 (pc' := 109) rfl (fun T258 h258 S W258 B258 => ?_)
  have Zn := Nat.le_trans Zn (Nat.le_of_eq W258.size.symm)
  have O_a230 := O_a230.wr W258
  have A_a231 := A_a231.other W258 (Ne.symm ne_a230_a231)
  have A_a238 := A_a238.other W258 (Ne.symm ne_a230_a238)
  have A_a245 := A_a245.other W258 (Ne.symm ne_a230_a245)
  have A_a252 := A_a252.other W258 (Ne.symm ne_a230_a252)
  have A_a230 := B258
  have Kp := Kp.wr W258 (Or.inr sz_a230)
  refine g_dup C S dsm_109 (pc' := 110) rfl rfl ?_
  refine g_iconst C S (4 : Int32) dsm_110 (pc' := 111) rfl rfl ?_
  refine g_iconst C S (5 : Int32) dsm_111 (pc' := 112) rfl rfl ?_
  refine g_newarrayX C S (N := 5) (cap := 5) dsm_112 (hw _ (List.mem_of_getElem? (i := 9) rfl)) (by decide) (by decide) (by decide) (by decide) (by decide) (pc' := 114) rfl (fun T259 h259 a259 S g259 E259 A_a259 Y_a259 => ?_)
  have ne_a230_a259 : a230 ≠ a259 := ne_new g259 A_a230.lt
  have ne_a231_a259 : a231 ≠ a259 := ne_new g259 A_a231.lt
  have ne_a238_a259 : a238 ≠ a259 := ne_new g259 A_a238.lt
  have ne_a245_a259 : a245 ≠ a259 := ne_new g259 A_a245.lt
  have ne_a252_a259 : a252 ≠ a259 := ne_new g259 A_a252.lt
  have sz_a259 : h0.size ≤ a259 := ge_of g259 Kp.1
  have ge_a259 : n0 ≤ a259 := ge_of g259 Zn
  have Kp := Kp.ext E259
  have Zn := Nat.le_trans Zn E259.1
  have A_a230 := A_a230.ext E259
  have O_a230 := O_a230.ext E259
  have A_a231 := A_a231.ext E259
  have A_a238 := A_a238.ext E259
  have A_a245 := A_a245.ext E259
  have A_a252 := A_a252.ext E259
  have A_a259 : Ary Z h259 a259 .int 5 (fun _ => .int (0 : Int32)) := A_a259
  have Y_a259 : Exa Z h259 a259 "[I" := Y_a259
  refine g_dup C S dsm_114 (pc' := 115) rfl rfl ?_
  refine g_iconst C S (0 : Int32) dsm_115 (pc' := 116) rfl rfl ?_
  refine g_iconst C S (1 : Int32) dsm_116 (pc' := 117) rfl rfl ?_
  refine g_iastore C S (i := 0) dsm_117 A_a259 (by decide) (by decide) ge_a259 (pc' := 118) rfl (fun T260 h260 S W260 B260 => ?_)
  have Zn := Nat.le_trans Zn (Nat.le_of_eq W260.size.symm)
  have A_a230 := A_a230.other W260 ne_a230_a259
  have O_a230 := O_a230.wr W260
  have A_a231 := A_a231.other W260 ne_a231_a259
  have A_a238 := A_a238.other W260 ne_a238_a259
  have A_a245 := A_a245.other W260 ne_a245_a259
  have A_a252 := A_a252.other W260 ne_a252_a259
  have Y_a259 := Y_a259.wr W260
  have A_a259 := B260
  have Kp := Kp.wr W260 (Or.inr sz_a259)
  refine g_dup C S dsm_118 (pc' := 119) rfl rfl ?_
  refine g_iconst C S (1 : Int32) dsm_119 (pc' := 120) rfl rfl ?_
  refine g_iconst C S (2 : Int32) dsm_120 (pc' := 121) rfl rfl ?_
  refine g_iastore C S (i := 1) dsm_121 A_a259 (by decide) (by decide) ge_a259 (pc' := 122) rfl (fun T261 h261 S W261 B261 => ?_)
  have Zn := Nat.le_trans Zn (Nat.le_of_eq W261.size.symm)
  have A_a230 := A_a230.other W261 ne_a230_a259
  have O_a230 := O_a230.wr W261
  have A_a231 := A_a231.other W261 ne_a231_a259
  have A_a238 := A_a238.other W261 ne_a238_a259
  have A_a245 := A_a245.other W261 ne_a245_a259
  have A_a252 := A_a252.other W261 ne_a252_a259
  have Y_a259 := Y_a259.wr W261
  have A_a259 := B261
  have Kp := Kp.wr W261 (Or.inr sz_a259)
  refine g_dup C S dsm_122 (pc' := 123) rfl rfl ?_
  refine g_iconst C S (2 : Int32) dsm_123 (pc' := 124) rfl rfl ?_
  refine g_iconst C S (3 : Int32) dsm_124 (pc' := 125) rfl rfl ?_
  refine g_iastore C S (i := 2) dsm_125 A_a259 (by decide) (by decide) ge_a259 (pc' := 126) rfl (fun T262 h262 S W262 B262 => ?_)
  have Zn := Nat.le_trans Zn (Nat.le_of_eq W262.size.symm)
  have A_a230 := A_a230.other W262 ne_a230_a259
  have O_a230 := O_a230.wr W262
  have A_a231 := A_a231.other W262 ne_a231_a259
  have A_a238 := A_a238.other W262 ne_a238_a259
  have A_a245 := A_a245.other W262 ne_a245_a259
  have A_a252 := A_a252.other W262 ne_a252_a259
  have Y_a259 := Y_a259.wr W262
  have A_a259 := B262
  have Kp := Kp.wr W262 (Or.inr sz_a259)
  refine g_dup C S dsm_126 (pc' := 127) rfl rfl ?_
  refine g_iconst C S (3 : Int32) dsm_127 (pc' := 128) rfl rfl ?_
  refine g_iconst C S (3 : Int32) dsm_128 (pc' := 129) rfl rfl ?_
  refine g_iastore C S (i := 3) dsm_129 A_a259 (by decide) (by decide) ge_a259 (pc' := 130) rfl (fun T263 h263 S W263 B263 => ?_)
  have Zn := Nat.le_trans Zn (Nat.le_of_eq W263.size.symm)
  have A_a230 := A_a230.other W263 ne_a230_a259
  have O_a230 := O_a230.wr W263
  have A_a231 := A_a231.other W263 ne_a231_a259
  have A_a238 := A_a238.other W263 ne_a238_a259
  have A_a245 := A_a245.other W263 ne_a245_a259
  have A_a252 := A_a252.other W263 ne_a252_a259
  have Y_a259 := Y_a259.wr W263
  have A_a259 := B263
  have Kp := Kp.wr W263 (Or.inr sz_a259)
  refine g_dup C S dsm_130 (pc' := 131) rfl rfl ?_
  refine g_iconst C S (4 : Int32) dsm_131 (pc' := 132) rfl rfl ?_
  refine g_iconst C S (0 : Int32) dsm_132 (pc' := 133) rfl rfl ?_
  refine g_iastore C S (i := 4) dsm_133 A_a259 (by decide) (by decide) ge_a259 (pc' := 134) rfl (fun T264 h264 S W264 B264 => ?_)
  have Zn := Nat.le_trans Zn (Nat.le_of_eq W264.size.symm)
  have A_a230 := A_a230.other W264 ne_a230_a259
  have O_a230 := O_a230.wr W264
  have A_a231 := A_a231.other W264 ne_a231_a259
  have A_a238 := A_a238.other W264 ne_a238_a259
  have A_a245 := A_a245.other W264 ne_a245_a259
  have A_a252 := A_a252.other W264 ne_a252_a259
  have Y_a259 := Y_a259.wr W264
  have A_a259 := B264
  have Kp := Kp.wr W264 (Or.inr sz_a259)
  refine g_aastore C S (i := 4) (v := (.ref a259)) dsm_134 A_a230 rfl (OvH.sto O_a230 Y_a259) (by decide) (by decide) ge_a230 (pc' := 135) rfl (fun T265 h265 S W265 B265 => ?_)
  have Zn := Nat.le_trans Zn (Nat.le_of_eq W265.size.symm)
  have O_a230 := O_a230.wr W265
  have A_a231 := A_a231.other W265 (Ne.symm ne_a230_a231)
  have A_a238 := A_a238.other W265 (Ne.symm ne_a230_a238)
  have A_a245 := A_a245.other W265 (Ne.symm ne_a230_a245)
  have A_a252 := A_a252.other W265 (Ne.symm ne_a230_a252)
  have A_a259 := A_a259.other W265 (Ne.symm ne_a230_a259)
  have A_a230 := B265
  have Kp := Kp.wr W265 (Or.inr sz_a230)
  refine g_dup C S dsm_135 (pc' := 136) rfl rfl ?_
  refine g_iconst C S (5 : Int32) dsm_136 (pc' := 137) rfl rfl ?_
  refine g_iconst C S (5 : Int32) dsm_137 (pc' := 138) rfl rfl ?_
  refine g_newarrayX C S (N := 5) (cap := 5) dsm_138 (hw _ (List.mem_of_getElem? (i := 9) rfl)) (by decide) (by decide) (by decide) (by decide) (by decide) (pc' := 140) rfl (fun T266 h266 a266 S g266 E266 A_a266 Y_a266 => ?_)
  have ne_a230_a266 : a230 ≠ a266 := ne_new g266 A_a230.lt
  have ne_a231_a266 : a231 ≠ a266 := ne_new g266 A_a231.lt
  have ne_a238_a266 : a238 ≠ a266 := ne_new g266 A_a238.lt
  have ne_a245_a266 : a245 ≠ a266 := ne_new g266 A_a245.lt
  have ne_a252_a266 : a252 ≠ a266 := ne_new g266 A_a252.lt
  have ne_a259_a266 : a259 ≠ a266 := ne_new g266 A_a259.lt
  have sz_a266 : h0.size ≤ a266 := ge_of g266 Kp.1
  have ge_a266 : n0 ≤ a266 := ge_of g266 Zn
  have Kp := Kp.ext E266
  have Zn := Nat.le_trans Zn E266.1
  have A_a230 := A_a230.ext E266
  have O_a230 := O_a230.ext E266
  have A_a231 := A_a231.ext E266
  have A_a238 := A_a238.ext E266
  have A_a245 := A_a245.ext E266
  have A_a252 := A_a252.ext E266
  have A_a259 := A_a259.ext E266
  have A_a266 : Ary Z h266 a266 .int 5 (fun _ => .int (0 : Int32)) := A_a266
  have Y_a266 : Exa Z h266 a266 "[I" := Y_a266
  refine g_dup C S dsm_140 (pc' := 141) rfl rfl ?_
  refine g_iconst C S (0 : Int32) dsm_141 (pc' := 142) rfl rfl ?_
  refine g_iconst C S (1 : Int32) dsm_142 (pc' := 143) rfl rfl ?_
  refine g_iastore C S (i := 0) dsm_143 A_a266 (by decide) (by decide) ge_a266 (pc' := 144) rfl (fun T267 h267 S W267 B267 => ?_)
  have Zn := Nat.le_trans Zn (Nat.le_of_eq W267.size.symm)
  have A_a230 := A_a230.other W267 ne_a230_a266
  have O_a230 := O_a230.wr W267
  have A_a231 := A_a231.other W267 ne_a231_a266
  have A_a238 := A_a238.other W267 ne_a238_a266
  have A_a245 := A_a245.other W267 ne_a245_a266
  have A_a252 := A_a252.other W267 ne_a252_a266
  have A_a259 := A_a259.other W267 ne_a259_a266
  have Y_a266 := Y_a266.wr W267
  have A_a266 := B267
  have Kp := Kp.wr W267 (Or.inr sz_a266)
  refine g_dup C S dsm_144 (pc' := 145) rfl rfl ?_
  refine g_iconst C S (1 : Int32) dsm_145 (pc' := 146) rfl rfl ?_
  refine g_iconst C S (3 : Int32) dsm_146 (pc' := 147) rfl rfl ?_
  refine g_iastore C S (i := 1) dsm_147 A_a266 (by decide) (by decide) ge_a266 (pc' := 148) rfl (fun T268 h268 S W268 B268 => ?_)
  have Zn := Nat.le_trans Zn (Nat.le_of_eq W268.size.symm)
  have A_a230 := A_a230.other W268 ne_a230_a266
  have O_a230 := O_a230.wr W268
  have A_a231 := A_a231.other W268 ne_a231_a266
  have A_a238 := A_a238.other W268 ne_a238_a266
  have A_a245 := A_a245.other W268 ne_a245_a266
  have A_a252 := A_a252.other W268 ne_a252_a266
  have A_a259 := A_a259.other W268 ne_a259_a266
  have Y_a266 := Y_a266.wr W268
  have A_a266 := B268
  have Kp := Kp.wr W268 (Or.inr sz_a266)
  refine g_dup C S dsm_148 (pc' := 149) rfl rfl ?_
  refine g_iconst C S (2 : Int32) dsm_149 (pc' := 150) rfl rfl ?_
  refine g_iconst C S (3 : Int32) dsm_150 (pc' := 151) rfl rfl ?_
  refine g_iastore C S (i := 2) dsm_151 A_a266 (by decide) (by decide) ge_a266 (pc' := 152) rfl (fun T269 h269 S W269 B269 => ?_)
  have Zn := Nat.le_trans Zn (Nat.le_of_eq W269.size.symm)
  have A_a230 := A_a230.other W269 ne_a230_a266
  have O_a230 := O_a230.wr W269
  have A_a231 := A_a231.other W269 ne_a231_a266
  have A_a238 := A_a238.other W269 ne_a238_a266
  have A_a245 := A_a245.other W269 ne_a245_a266
  have A_a252 := A_a252.other W269 ne_a252_a266
  have A_a259 := A_a259.other W269 ne_a259_a266
  have Y_a266 := Y_a266.wr W269
  have A_a266 := B269
  have Kp := Kp.wr W269 (Or.inr sz_a266)
  refine g_dup C S dsm_152 (pc' := 153) rfl rfl ?_
  refine g_iconst C S (3 : Int32) dsm_153 (pc' := 154) rfl rfl ?_
  refine g_iconst C S (3 : Int32) dsm_154 (pc' := 155) rfl rfl ?_
  refine g_iastore C S (i := 3) dsm_155 A_a266 (by decide) (by decide) ge_a266 (pc' := 156) rfl (fun T270 h270 S W270 B270 => ?_)
  have Zn := Nat.le_trans Zn (Nat.le_of_eq W270.size.symm)
  have A_a230 := A_a230.other W270 ne_a230_a266
  have O_a230 := O_a230.wr W270
  have A_a231 := A_a231.other W270 ne_a231_a266
  have A_a238 := A_a238.other W270 ne_a238_a266
  have A_a245 := A_a245.other W270 ne_a245_a266
  have A_a252 := A_a252.other W270 ne_a252_a266
  have A_a259 := A_a259.other W270 ne_a259_a266
  have Y_a266 := Y_a266.wr W270
  have A_a266 := B270
  have Kp := Kp.wr W270 (Or.inr sz_a266)
  refine g_dup C S dsm_156 (pc' := 157) rfl rfl ?_
  refine g_iconst C S (4 : Int32) dsm_157 (pc' := 158) rfl rfl ?_
  refine g_iconst C S (3 : Int32) dsm_158 (pc' := 159) rfl rfl ?_
  refine g_iastore C S (i := 4) dsm_159 A_a266 (by decide) (by decide) ge_a266 (pc' := 160) rfl (fun T271 h271 S W271 B271 => ?_)
  have Zn := Nat.le_trans Zn (Nat.le_of_eq W271.size.symm)
  have A_a230 := A_a230.other W271 ne_a230_a266
  have O_a230 := O_a230.wr W271
  have A_a231 := A_a231.other W271 ne_a231_a266
  have A_a238 := A_a238.other W271 ne_a238_a266
  have A_a245 := A_a245.other W271 ne_a245_a266
  have A_a252 := A_a252.other W271 ne_a252_a266
  have A_a259 := A_a259.other W271 ne_a259_a266
  have Y_a266 := Y_a266.wr W271
  have A_a266 := B271
  have Kp := Kp.wr W271 (Or.inr sz_a266)
  refine g_aastore C S (i := 5) (v := (.ref a266)) dsm_160 A_a230 rfl (OvH.sto O_a230 Y_a266) (by decide) (by decide) ge_a230 (pc' := 161) rfl (fun T272 h272 S W272 B272 => ?_)
  have Zn := Nat.le_trans Zn (Nat.le_of_eq W272.size.symm)
  have O_a230 := O_a230.wr W272
  have A_a231 := A_a231.other W272 (Ne.symm ne_a230_a231)
  have A_a238 := A_a238.other W272 (Ne.symm ne_a230_a238)
  have A_a245 := A_a245.other W272 (Ne.symm ne_a230_a245)
  have A_a252 := A_a252.other W272 (Ne.symm ne_a230_a252)
  have A_a259 := A_a259.other W272 (Ne.symm ne_a230_a259)
  have A_a266 := A_a266.other W272 (Ne.symm ne_a230_a266)
  have A_a230 := B272
  have Kp := Kp.wr W272 (Or.inr sz_a230)
  refine g_dup C S dsm_161 (pc' := 162) rfl rfl ?_
  refine g_bipush C S (6 : Int32) dsm_162 (pc' := 164) rfl rfl ?_
  refine g_iconst C S (5 : Int32) dsm_164 (pc' := 165) rfl rfl ?_
  refine g_newarrayX C S (N := 5) (cap := 5) dsm_165 (hw _ (List.mem_of_getElem? (i := 9) rfl)) (by decide) (by decide) (by decide) (by decide) (by decide) (pc' := 167) rfl (fun T273 h273 a273 S g273 E273 A_a273 Y_a273 => ?_)
  have ne_a230_a273 : a230 ≠ a273 := ne_new g273 A_a230.lt
  have ne_a231_a273 : a231 ≠ a273 := ne_new g273 A_a231.lt
  have ne_a238_a273 : a238 ≠ a273 := ne_new g273 A_a238.lt
  have ne_a245_a273 : a245 ≠ a273 := ne_new g273 A_a245.lt
  have ne_a252_a273 : a252 ≠ a273 := ne_new g273 A_a252.lt
  have ne_a259_a273 : a259 ≠ a273 := ne_new g273 A_a259.lt
  have ne_a266_a273 : a266 ≠ a273 := ne_new g273 A_a266.lt
  have sz_a273 : h0.size ≤ a273 := ge_of g273 Kp.1
  have ge_a273 : n0 ≤ a273 := ge_of g273 Zn
  have Kp := Kp.ext E273
  have Zn := Nat.le_trans Zn E273.1
  have A_a230 := A_a230.ext E273
  have O_a230 := O_a230.ext E273
  have A_a231 := A_a231.ext E273
  have A_a238 := A_a238.ext E273
  have A_a245 := A_a245.ext E273
  have A_a252 := A_a252.ext E273
  have A_a259 := A_a259.ext E273
  have A_a266 := A_a266.ext E273
  have A_a273 : Ary Z h273 a273 .int 5 (fun _ => .int (0 : Int32)) := A_a273
  have Y_a273 : Exa Z h273 a273 "[I" := Y_a273
  refine g_dup C S dsm_167 (pc' := 168) rfl rfl ?_
  refine g_iconst C S (0 : Int32) dsm_168 (pc' := 169) rfl rfl ?_
  refine g_iconst C S (2 : Int32) dsm_169 (pc' := 170) rfl rfl ?_
  refine g_iastore C S (i := 0) dsm_170 A_a273 (by decide) (by decide) ge_a273 (pc' := 171) rfl (fun T274 h274 S W274 B274 => ?_)
  have Zn := Nat.le_trans Zn (Nat.le_of_eq W274.size.symm)
  have A_a230 := A_a230.other W274 ne_a230_a273
  have O_a230 := O_a230.wr W274
  have A_a231 := A_a231.other W274 ne_a231_a273
  have A_a238 := A_a238.other W274 ne_a238_a273
  have A_a245 := A_a245.other W274 ne_a245_a273
  have A_a252 := A_a252.other W274 ne_a252_a273
  have A_a259 := A_a259.other W274 ne_a259_a273
  have A_a266 := A_a266.other W274 ne_a266_a273
  have Y_a273 := Y_a273.wr W274
  have A_a273 := B274
  have Kp := Kp.wr W274 (Or.inr sz_a273)
  refine g_dup C S dsm_171 (pc' := 172) rfl rfl ?_
  refine g_iconst C S (1 : Int32) dsm_172 (pc' := 173) rfl rfl ?_
  refine g_iconst C S (2 : Int32) dsm_173 (pc' := 174) rfl rfl ?_
  refine g_iastore C S (i := 1) dsm_174 A_a273 (by decide) (by decide) ge_a273 (pc' := 175) rfl (fun T275 h275 S W275 B275 => ?_)
  have Zn := Nat.le_trans Zn (Nat.le_of_eq W275.size.symm)
  have A_a230 := A_a230.other W275 ne_a230_a273
  have O_a230 := O_a230.wr W275
  have A_a231 := A_a231.other W275 ne_a231_a273
  have A_a238 := A_a238.other W275 ne_a238_a273
  have A_a245 := A_a245.other W275 ne_a245_a273
  have A_a252 := A_a252.other W275 ne_a252_a273
  have A_a259 := A_a259.other W275 ne_a259_a273
  have A_a266 := A_a266.other W275 ne_a266_a273
  have Y_a273 := Y_a273.wr W275
  have A_a273 := B275
  have Kp := Kp.wr W275 (Or.inr sz_a273)
  refine g_dup C S dsm_175 (pc' := 176) rfl rfl ?_
  refine g_iconst C S (2 : Int32) dsm_176 (pc' := 177) rfl rfl ?_
  refine g_iconst C S (2 : Int32) dsm_177 (pc' := 178) rfl rfl ?_
  refine g_iastore C S (i := 2) dsm_178 A_a273 (by decide) (by decide) ge_a273 (pc' := 179) rfl (fun T276 h276 S W276 B276 => ?_)
  have Zn := Nat.le_trans Zn (Nat.le_of_eq W276.size.symm)
  have A_a230 := A_a230.other W276 ne_a230_a273
  have O_a230 := O_a230.wr W276
  have A_a231 := A_a231.other W276 ne_a231_a273
  have A_a238 := A_a238.other W276 ne_a238_a273
  have A_a245 := A_a245.other W276 ne_a245_a273
  have A_a252 := A_a252.other W276 ne_a252_a273
  have A_a259 := A_a259.other W276 ne_a259_a273
  have A_a266 := A_a266.other W276 ne_a266_a273
  have Y_a273 := Y_a273.wr W276
  have A_a273 := B276
  have Kp := Kp.wr W276 (Or.inr sz_a273)
  refine g_dup C S dsm_179 (pc' := 180) rfl rfl ?_
  refine g_iconst C S (3 : Int32) dsm_180 (pc' := 181) rfl rfl ?_
  refine g_iconst C S (3 : Int32) dsm_181 (pc' := 182) rfl rfl ?_
  refine g_iastore C S (i := 3) dsm_182 A_a273 (by decide) (by decide) ge_a273 (pc' := 183) rfl (fun T277 h277 S W277 B277 => ?_)
  have Zn := Nat.le_trans Zn (Nat.le_of_eq W277.size.symm)
  have A_a230 := A_a230.other W277 ne_a230_a273
  have O_a230 := O_a230.wr W277
  have A_a231 := A_a231.other W277 ne_a231_a273
  have A_a238 := A_a238.other W277 ne_a238_a273
  have A_a245 := A_a245.other W277 ne_a245_a273
  have A_a252 := A_a252.other W277 ne_a252_a273
  have A_a259 := A_a259.other W277 ne_a259_a273
  have A_a266 := A_a266.other W277 ne_a266_a273
  have Y_a273 := Y_a273.wr W277
  have A_a273 := B277
  have Kp := Kp.wr W277 (Or.inr sz_a273)
  refine g_dup C S dsm_183 (pc' := 184) rfl rfl ?_
  refine g_iconst C S (4 : Int32) dsm_184 (pc' := 185) rfl rfl ?_
  refine g_iconst C S (3 : Int32) dsm_185 (pc' := 186) rfl rfl ?_
  refine g_iastore C S (i := 4) dsm_186 A_a273 (by decide) (by decide) ge_a273 (pc' := 187) rfl (fun T278 h278 S W278 B278 => ?_)
  have Zn := Nat.le_trans Zn (Nat.le_of_eq W278.size.symm)
  have A_a230 := A_a230.other W278 ne_a230_a273
  have O_a230 := O_a230.wr W278
  have A_a231 := A_a231.other W278 ne_a231_a273
  have A_a238 := A_a238.other W278 ne_a238_a273
  have A_a245 := A_a245.other W278 ne_a245_a273
  have A_a252 := A_a252.other W278 ne_a252_a273
  have A_a259 := A_a259.other W278 ne_a259_a273
  have A_a266 := A_a266.other W278 ne_a266_a273
  have Y_a273 := Y_a273.wr W278
  have A_a273 := B278
  have Kp := Kp.wr W278 (Or.inr sz_a273)
  refine g_aastore C S (i := 6) (v := (.ref a273)) dsm_187 A_a230 rfl (OvH.sto O_a230 Y_a273) (by decide) (by decide) ge_a230 (pc' := 188) rfl (fun T279 h279 S W279 B279 => ?_)
  have Zn := Nat.le_trans Zn (Nat.le_of_eq W279.size.symm)
  have O_a230 := O_a230.wr W279
  have A_a231 := A_a231.other W279 (Ne.symm ne_a230_a231)
  have A_a238 := A_a238.other W279 (Ne.symm ne_a230_a238)
  have A_a245 := A_a245.other W279 (Ne.symm ne_a230_a245)
  have A_a252 := A_a252.other W279 (Ne.symm ne_a230_a252)
  have A_a259 := A_a259.other W279 (Ne.symm ne_a230_a259)
  have A_a266 := A_a266.other W279 (Ne.symm ne_a230_a266)
  have A_a273 := A_a273.other W279 (Ne.symm ne_a230_a273)
  have A_a230 := B279
  have Kp := Kp.wr W279 (Or.inr sz_a230)
  refine g_dup C S dsm_188 (pc' := 189) rfl rfl ?_
  refine g_bipush C S (7 : Int32) dsm_189 (pc' := 191) rfl rfl ?_
  refine g_iconst C S (5 : Int32) dsm_191 (pc' := 192) rfl rfl ?_
  refine g_newarrayX C S (N := 5) (cap := 5) dsm_192 (hw _ (List.mem_of_getElem? (i := 9) rfl)) (by decide) (by decide) (by decide) (by decide) (by decide) (pc' := 194) rfl (fun T280 h280 a280 S g280 E280 A_a280 Y_a280 => ?_)
  have ne_a230_a280 : a230 ≠ a280 := ne_new g280 A_a230.lt
  have ne_a231_a280 : a231 ≠ a280 := ne_new g280 A_a231.lt
  have ne_a238_a280 : a238 ≠ a280 := ne_new g280 A_a238.lt
  have ne_a245_a280 : a245 ≠ a280 := ne_new g280 A_a245.lt
  have ne_a252_a280 : a252 ≠ a280 := ne_new g280 A_a252.lt
  have ne_a259_a280 : a259 ≠ a280 := ne_new g280 A_a259.lt
  have ne_a266_a280 : a266 ≠ a280 := ne_new g280 A_a266.lt
  have ne_a273_a280 : a273 ≠ a280 := ne_new g280 A_a273.lt
  have sz_a280 : h0.size ≤ a280 := ge_of g280 Kp.1
  have ge_a280 : n0 ≤ a280 := ge_of g280 Zn
  have Kp := Kp.ext E280
  have Zn := Nat.le_trans Zn E280.1
  have A_a230 := A_a230.ext E280
  have O_a230 := O_a230.ext E280
  have A_a231 := A_a231.ext E280
  have A_a238 := A_a238.ext E280
  have A_a245 := A_a245.ext E280
  have A_a252 := A_a252.ext E280
  have A_a259 := A_a259.ext E280
  have A_a266 := A_a266.ext E280
  have A_a273 := A_a273.ext E280
  have A_a280 : Ary Z h280 a280 .int 5 (fun _ => .int (0 : Int32)) := A_a280
  have Y_a280 : Exa Z h280 a280 "[I" := Y_a280
  refine g_dup C S dsm_194 (pc' := 195) rfl rfl ?_
  refine g_iconst C S (0 : Int32) dsm_195 (pc' := 196) rfl rfl ?_
  refine g_iconst C S (1 : Int32) dsm_196 (pc' := 197) rfl rfl ?_
  refine g_iastore C S (i := 0) dsm_197 A_a280 (by decide) (by decide) ge_a280 (pc' := 198) rfl (fun T281 h281 S W281 B281 => ?_)
  have Zn := Nat.le_trans Zn (Nat.le_of_eq W281.size.symm)
  have A_a230 := A_a230.other W281 ne_a230_a280
  have O_a230 := O_a230.wr W281
  have A_a231 := A_a231.other W281 ne_a231_a280
  have A_a238 := A_a238.other W281 ne_a238_a280
  have A_a245 := A_a245.other W281 ne_a245_a280
  have A_a252 := A_a252.other W281 ne_a252_a280
  have A_a259 := A_a259.other W281 ne_a259_a280
  have A_a266 := A_a266.other W281 ne_a266_a280
  have A_a273 := A_a273.other W281 ne_a273_a280
  have Y_a280 := Y_a280.wr W281
  have A_a280 := B281
  have Kp := Kp.wr W281 (Or.inr sz_a280)
  refine g_dup C S dsm_198 (pc' := 199) rfl rfl ?_
  refine g_iconst C S (1 : Int32) dsm_199 (pc' := 200) rfl rfl ?_
  refine g_iconst C S (2 : Int32) dsm_200 (pc' := 201) rfl rfl ?_
  refine g_iastore C S (i := 1) dsm_201 A_a280 (by decide) (by decide) ge_a280 (pc' := 202) rfl (fun T282 h282 S W282 B282 => ?_)
  have Zn := Nat.le_trans Zn (Nat.le_of_eq W282.size.symm)
  have A_a230 := A_a230.other W282 ne_a230_a280
  have O_a230 := O_a230.wr W282
  have A_a231 := A_a231.other W282 ne_a231_a280
  have A_a238 := A_a238.other W282 ne_a238_a280
  have A_a245 := A_a245.other W282 ne_a245_a280
  have A_a252 := A_a252.other W282 ne_a252_a280
  have A_a259 := A_a259.other W282 ne_a259_a280
  have A_a266 := A_a266.other W282 ne_a266_a280
  have A_a273 := A_a273.other W282 ne_a273_a280
  have Y_a280 := Y_a280.wr W282
  have A_a280 := B282
  have Kp := Kp.wr W282 (Or.inr sz_a280)
  refine g_dup C S dsm_202 (pc' := 203) rfl rfl ?_
  refine g_iconst C S (2 : Int32) dsm_203 (pc' := 204) rfl rfl ?_
  refine g_iconst C S (3 : Int32) dsm_204 (pc' := 205) rfl rfl ?_
  refine g_iastore C S (i := 2) dsm_205 A_a280 (by decide) (by decide) ge_a280 (pc' := 206) rfl (fun T283 h283 S W283 B283 => ?_)
  have Zn := Nat.le_trans Zn (Nat.le_of_eq W283.size.symm)
  have A_a230 := A_a230.other W283 ne_a230_a280
  have O_a230 := O_a230.wr W283
  have A_a231 := A_a231.other W283 ne_a231_a280
  have A_a238 := A_a238.other W283 ne_a238_a280
  have A_a245 := A_a245.other W283 ne_a245_a280
  have A_a252 := A_a252.other W283 ne_a252_a280
  have A_a259 := A_a259.other W283 ne_a259_a280
  have A_a266 := A_a266.other W283 ne_a266_a280
  have A_a273 := A_a273.other W283 ne_a273_a280
  have Y_a280 := Y_a280.wr W283
  have A_a280 := B283
  have Kp := Kp.wr W283 (Or.inr sz_a280)
  refine g_dup C S dsm_206 (pc' := 207) rfl rfl ?_
  refine g_iconst C S (3 : Int32) dsm_207 (pc' := 208) rfl rfl ?_
  refine g_iconst C S (4 : Int32) dsm_208 (pc' := 209) rfl rfl ?_
  refine g_iastore C S (i := 3) dsm_209 A_a280 (by decide) (by decide) ge_a280 (pc' := 210) rfl (fun T284 h284 S W284 B284 => ?_)
  have Zn := Nat.le_trans Zn (Nat.le_of_eq W284.size.symm)
  have A_a230 := A_a230.other W284 ne_a230_a280
  have O_a230 := O_a230.wr W284
  have A_a231 := A_a231.other W284 ne_a231_a280
  have A_a238 := A_a238.other W284 ne_a238_a280
  have A_a245 := A_a245.other W284 ne_a245_a280
  have A_a252 := A_a252.other W284 ne_a252_a280
  have A_a259 := A_a259.other W284 ne_a259_a280
  have A_a266 := A_a266.other W284 ne_a266_a280
  have A_a273 := A_a273.other W284 ne_a273_a280
  have Y_a280 := Y_a280.wr W284
  have A_a280 := B284
  have Kp := Kp.wr W284 (Or.inr sz_a280)
  refine g_dup C S dsm_210 (pc' := 211) rfl rfl ?_
  refine g_iconst C S (4 : Int32) dsm_211 (pc' := 212) rfl rfl ?_
  refine g_iconst C S (4 : Int32) dsm_212 (pc' := 213) rfl rfl ?_
  refine g_iastore C S (i := 4) dsm_213 A_a280 (by decide) (by decide) ge_a280 (pc' := 214) rfl (fun T285 h285 S W285 B285 => ?_)
  have Zn := Nat.le_trans Zn (Nat.le_of_eq W285.size.symm)
  have A_a230 := A_a230.other W285 ne_a230_a280
  have O_a230 := O_a230.wr W285
  have A_a231 := A_a231.other W285 ne_a231_a280
  have A_a238 := A_a238.other W285 ne_a238_a280
  have A_a245 := A_a245.other W285 ne_a245_a280
  have A_a252 := A_a252.other W285 ne_a252_a280
  have A_a259 := A_a259.other W285 ne_a259_a280
  have A_a266 := A_a266.other W285 ne_a266_a280
  have A_a273 := A_a273.other W285 ne_a273_a280
  have Y_a280 := Y_a280.wr W285
  have A_a280 := B285
  have Kp := Kp.wr W285 (Or.inr sz_a280)
  refine g_aastore C S (i := 7) (v := (.ref a280)) dsm_214 A_a230 rfl (OvH.sto O_a230 Y_a280) (by decide) (by decide) ge_a230 (pc' := 215) rfl (fun T286 h286 S W286 B286 => ?_)
  have Zn := Nat.le_trans Zn (Nat.le_of_eq W286.size.symm)
  have O_a230 := O_a230.wr W286
  have A_a231 := A_a231.other W286 (Ne.symm ne_a230_a231)
  have A_a238 := A_a238.other W286 (Ne.symm ne_a230_a238)
  have A_a245 := A_a245.other W286 (Ne.symm ne_a230_a245)
  have A_a252 := A_a252.other W286 (Ne.symm ne_a230_a252)
  have A_a259 := A_a259.other W286 (Ne.symm ne_a230_a259)
  have A_a266 := A_a266.other W286 (Ne.symm ne_a230_a266)
  have A_a273 := A_a273.other W286 (Ne.symm ne_a230_a273)
  have A_a280 := A_a280.other W286 (Ne.symm ne_a230_a280)
  have A_a230 := B286
  have Kp := Kp.wr W286 (Or.inr sz_a230)
  have A_a230 : Ary Z h286 a230 (.array .int) 8 (hRows a231 a238 a245 a252 a259 a266 a273 a280) := A_a230
  refine g_astore C S dsm_215 (pc' := 217) rfl rfl (L' := #[.val (.ref o), .val (.int p2), .val (.int p3), .val (.int (Int32.ofNat q)), .val (.ref a230), .unset, .unset, .unset, .unset, .unset, .unset, .unset, .unset, .unset, .unset, .unset]) rfl ?_
  refine g_bipush C S (8 : Int32) dsm_217 (pc' := 219) rfl rfl ?_
  refine g_newarray C S (N := 8) (cap := 8) dsm_219 (hw _ (List.mem_of_getElem? (i := 9) rfl)) (by decide) (by decide) (by decide) (by decide) (by decide) (pc' := 221) rfl (fun T287 h287 a287 S g287 E287 A_a287 => ?_)
  have ne_a230_a287 : a230 ≠ a287 := ne_new g287 A_a230.lt
  have ne_a231_a287 : a231 ≠ a287 := ne_new g287 A_a231.lt
  have ne_a238_a287 : a238 ≠ a287 := ne_new g287 A_a238.lt
  have ne_a245_a287 : a245 ≠ a287 := ne_new g287 A_a245.lt
  have ne_a252_a287 : a252 ≠ a287 := ne_new g287 A_a252.lt
  have ne_a259_a287 : a259 ≠ a287 := ne_new g287 A_a259.lt
  have ne_a266_a287 : a266 ≠ a287 := ne_new g287 A_a266.lt
  have ne_a273_a287 : a273 ≠ a287 := ne_new g287 A_a273.lt
  have ne_a280_a287 : a280 ≠ a287 := ne_new g287 A_a280.lt
  have sz_a287 : h0.size ≤ a287 := ge_of g287 Kp.1
  have ge_a287 : n0 ≤ a287 := ge_of g287 Zn
  have Kp := Kp.ext E287
  have Zn := Nat.le_trans Zn E287.1
  have A_a230 := A_a230.ext E287
  have A_a231 := A_a231.ext E287
  have A_a238 := A_a238.ext E287
  have A_a245 := A_a245.ext E287
  have A_a252 := A_a252.ext E287
  have A_a259 := A_a259.ext E287
  have A_a266 := A_a266.ext E287
  have A_a273 := A_a273.ext E287
  have A_a280 := A_a280.ext E287
  have A_a287 : Ary Z h287 a287 .int 8 (fun _ => (.int (0 : Int32))) := A_a287
  refine g_dup C S dsm_221 (pc' := 222) rfl rfl ?_
  refine g_iconst C S (0 : Int32) dsm_222 (pc' := 223) rfl rfl ?_
  refine g_iconst C S (1 : Int32) dsm_223 (pc' := 224) rfl rfl ?_
  refine g_iastore C S (i := 0) dsm_224 A_a287 (by decide) (by decide) ge_a287 (pc' := 225) rfl (fun T288 h288 S W288 B288 => ?_)
  have Zn := Nat.le_trans Zn (Nat.le_of_eq W288.size.symm)
  have A_a230 := A_a230.other W288 ne_a230_a287
  have A_a231 := A_a231.other W288 ne_a231_a287
  have A_a238 := A_a238.other W288 ne_a238_a287
  have A_a245 := A_a245.other W288 ne_a245_a287
  have A_a252 := A_a252.other W288 ne_a252_a287
  have A_a259 := A_a259.other W288 ne_a259_a287
  have A_a266 := A_a266.other W288 ne_a266_a287
  have A_a273 := A_a273.other W288 ne_a273_a287
  have A_a280 := A_a280.other W288 ne_a280_a287
  have A_a287 := B288
  have Kp := Kp.wr W288 (Or.inr sz_a287)
  refine g_dup C S dsm_225 (pc' := 226) rfl rfl ?_
  refine g_iconst C S (1 : Int32) dsm_226 (pc' := 227) rfl rfl ?_
  refine g_iconst C S (2 : Int32) dsm_227 (pc' := 228) rfl rfl ?_
  refine g_iastore C S (i := 1) dsm_228 A_a287 (by decide) (by decide) ge_a287 (pc' := 229) rfl (fun T289 h289 S W289 B289 => ?_)
  have Zn := Nat.le_trans Zn (Nat.le_of_eq W289.size.symm)
  have A_a230 := A_a230.other W289 ne_a230_a287
  have A_a231 := A_a231.other W289 ne_a231_a287
  have A_a238 := A_a238.other W289 ne_a238_a287
  have A_a245 := A_a245.other W289 ne_a245_a287
  have A_a252 := A_a252.other W289 ne_a252_a287
  have A_a259 := A_a259.other W289 ne_a259_a287
  have A_a266 := A_a266.other W289 ne_a266_a287
  have A_a273 := A_a273.other W289 ne_a273_a287
  have A_a280 := A_a280.other W289 ne_a280_a287
  have A_a287 := B289
  have Kp := Kp.wr W289 (Or.inr sz_a287)
  refine g_dup C S dsm_229 (pc' := 230) rfl rfl ?_
  refine g_iconst C S (2 : Int32) dsm_230 (pc' := 231) rfl rfl ?_
  refine g_iconst C S (3 : Int32) dsm_231 (pc' := 232) rfl rfl ?_
  refine g_iastore C S (i := 2) dsm_232 A_a287 (by decide) (by decide) ge_a287 (pc' := 233) rfl (fun T290 h290 S W290 B290 => ?_)
  have Zn := Nat.le_trans Zn (Nat.le_of_eq W290.size.symm)
  have A_a230 := A_a230.other W290 ne_a230_a287
  have A_a231 := A_a231.other W290 ne_a231_a287
  have A_a238 := A_a238.other W290 ne_a238_a287
  have A_a245 := A_a245.other W290 ne_a245_a287
  have A_a252 := A_a252.other W290 ne_a252_a287
  have A_a259 := A_a259.other W290 ne_a259_a287
  have A_a266 := A_a266.other W290 ne_a266_a287
  have A_a273 := A_a273.other W290 ne_a273_a287
  have A_a280 := A_a280.other W290 ne_a280_a287
  have A_a287 := B290
  have Kp := Kp.wr W290 (Or.inr sz_a287)
  refine g_dup C S dsm_233 (pc' := 234) rfl rfl ?_
  refine g_iconst C S (3 : Int32) dsm_234 (pc' := 235) rfl rfl ?_
  refine g_iconst C S (4 : Int32) dsm_235 (pc' := 236) rfl rfl ?_
  refine g_iastore C S (i := 3) dsm_236 A_a287 (by decide) (by decide) ge_a287 (pc' := 237) rfl (fun T291 h291 S W291 B291 => ?_)
  have Zn := Nat.le_trans Zn (Nat.le_of_eq W291.size.symm)
  have A_a230 := A_a230.other W291 ne_a230_a287
  have A_a231 := A_a231.other W291 ne_a231_a287
  have A_a238 := A_a238.other W291 ne_a238_a287
  have A_a245 := A_a245.other W291 ne_a245_a287
  have A_a252 := A_a252.other W291 ne_a252_a287
  have A_a259 := A_a259.other W291 ne_a259_a287
  have A_a266 := A_a266.other W291 ne_a266_a287
  have A_a273 := A_a273.other W291 ne_a273_a287
  have A_a280 := A_a280.other W291 ne_a280_a287
  have A_a287 := B291
  have Kp := Kp.wr W291 (Or.inr sz_a287)
  refine g_dup C S dsm_237 (pc' := 238) rfl rfl ?_
  refine g_iconst C S (4 : Int32) dsm_238 (pc' := 239) rfl rfl ?_
  refine g_iconst C S (4 : Int32) dsm_239 (pc' := 240) rfl rfl ?_
  refine g_iastore C S (i := 4) dsm_240 A_a287 (by decide) (by decide) ge_a287 (pc' := 241) rfl (fun T292 h292 S W292 B292 => ?_)
  have Zn := Nat.le_trans Zn (Nat.le_of_eq W292.size.symm)
  have A_a230 := A_a230.other W292 ne_a230_a287
  have A_a231 := A_a231.other W292 ne_a231_a287
  have A_a238 := A_a238.other W292 ne_a238_a287
  have A_a245 := A_a245.other W292 ne_a245_a287
  have A_a252 := A_a252.other W292 ne_a252_a287
  have A_a259 := A_a259.other W292 ne_a259_a287
  have A_a266 := A_a266.other W292 ne_a266_a287
  have A_a273 := A_a273.other W292 ne_a273_a287
  have A_a280 := A_a280.other W292 ne_a280_a287
  have A_a287 := B292
  have Kp := Kp.wr W292 (Or.inr sz_a287)
  refine g_dup C S dsm_241 (pc' := 242) rfl rfl ?_
  refine g_iconst C S (5 : Int32) dsm_242 (pc' := 243) rfl rfl ?_
  refine g_iconst C S (5 : Int32) dsm_243 (pc' := 244) rfl rfl ?_
  refine g_iastore C S (i := 5) dsm_244 A_a287 (by decide) (by decide) ge_a287 (pc' := 245) rfl (fun T293 h293 S W293 B293 => ?_)
  have Zn := Nat.le_trans Zn (Nat.le_of_eq W293.size.symm)
  have A_a230 := A_a230.other W293 ne_a230_a287
  have A_a231 := A_a231.other W293 ne_a231_a287
  have A_a238 := A_a238.other W293 ne_a238_a287
  have A_a245 := A_a245.other W293 ne_a245_a287
  have A_a252 := A_a252.other W293 ne_a252_a287
  have A_a259 := A_a259.other W293 ne_a259_a287
  have A_a266 := A_a266.other W293 ne_a266_a287
  have A_a273 := A_a273.other W293 ne_a273_a287
  have A_a280 := A_a280.other W293 ne_a280_a287
  have A_a287 := B293
  have Kp := Kp.wr W293 (Or.inr sz_a287)
  refine g_dup C S dsm_245 (pc' := 246) rfl rfl ?_
  refine g_bipush C S (6 : Int32) dsm_246 (pc' := 248) rfl rfl ?_
  refine g_iconst C S (5 : Int32) dsm_248 (pc' := 249) rfl rfl ?_
  refine g_iastore C S (i := 6) dsm_249 A_a287 (by decide) (by decide) ge_a287 (pc' := 250) rfl (fun T294 h294 S W294 B294 => ?_)
  have Zn := Nat.le_trans Zn (Nat.le_of_eq W294.size.symm)
  have A_a230 := A_a230.other W294 ne_a230_a287
  have A_a231 := A_a231.other W294 ne_a231_a287
  have A_a238 := A_a238.other W294 ne_a238_a287
  have A_a245 := A_a245.other W294 ne_a245_a287
  have A_a252 := A_a252.other W294 ne_a252_a287
  have A_a259 := A_a259.other W294 ne_a259_a287
  have A_a266 := A_a266.other W294 ne_a266_a287
  have A_a273 := A_a273.other W294 ne_a273_a287
  have A_a280 := A_a280.other W294 ne_a280_a287
  have A_a287 := B294
  have Kp := Kp.wr W294 (Or.inr sz_a287)
  refine g_dup C S dsm_250 (pc' := 251) rfl rfl ?_
  refine g_bipush C S (7 : Int32) dsm_251 (pc' := 253) rfl rfl ?_
  refine g_iconst C S (5 : Int32) dsm_253 (pc' := 254) rfl rfl ?_
  refine g_iastore C S (i := 7) dsm_254 A_a287 (by decide) (by decide) ge_a287 (pc' := 255) rfl (fun T295 h295 S W295 B295 => ?_)
  have Zn := Nat.le_trans Zn (Nat.le_of_eq W295.size.symm)
  have A_a230 := A_a230.other W295 ne_a230_a287
  have A_a231 := A_a231.other W295 ne_a231_a287
  have A_a238 := A_a238.other W295 ne_a238_a287
  have A_a245 := A_a245.other W295 ne_a245_a287
  have A_a252 := A_a252.other W295 ne_a252_a287
  have A_a259 := A_a259.other W295 ne_a259_a287
  have A_a266 := A_a266.other W295 ne_a266_a287
  have A_a273 := A_a273.other W295 ne_a273_a287
  have A_a280 := A_a280.other W295 ne_a280_a287
  have A_a287 := B295
  have Kp := Kp.wr W295 (Or.inr sz_a287)
  have A_a287 : Ary Z h295 a287 .int 8 (fun q => .int (Int32.ofNat (hSz q))) := A_a287.cg (own_rng (by decide +kernel))
  refine g_astore C S dsm_255 (pc' := 257) rfl rfl (L' := #[.val (.ref o), .val (.int p2), .val (.int p3), .val (.int (Int32.ofNat q)), .val (.ref a230), .val (.ref a287), .unset, .unset, .unset, .unset, .unset, .unset, .unset, .unset, .unset, .unset]) rfl ?_
  refine g_iloadN C S dsm_257 (pc' := 258) rfl rfl ?_
  refine g_bipush C S (7 : Int32) dsm_258 (pc' := 260) rfl rfl ?_
  refine g_iand C S dsm_260 (pc' := 261) rfl ?_
  obtain ⟨s', hs8, es⟩ := own_and p2 7 (k := 3) (by decide) (by decide)
  rw [es]
  refine g_istore C S dsm_261 (pc' := 263) rfl (L' := #[.val (.ref o), .val (.int p2), .val (.int p3), .val (.int (Int32.ofNat q)), .val (.ref a230), .val (.ref a287), .val (.int (Int32.ofNat s')), .unset, .unset, .unset, .unset, .unset, .unset, .unset, .unset, .unset]) rfl ?_
  refine g_aload C S dsm_263 (pc' := 265) rfl rfl rfl ?_
  refine g_iload C S dsm_265 (pc' := 267) rfl rfl ?_
  refine g_iaload C S (i := s') (v := (.int (Int32.ofNat (hSz s')))) dsm_267 A_a287 (o32 (by omega)) hs8 rfl (pc' := 268) rfl ?_
  refine g_istore C S dsm_268 (pc' := 270) rfl (L' := #[.val (.ref o), .val (.int p2), .val (.int p3), .val (.int (Int32.ofNat q)), .val (.ref a230), .val (.ref a287), .val (.int (Int32.ofNat s')), .val (.int (Int32.ofNat (hSz s'))), .unset, .unset, .unset, .unset, .unset, .unset, .unset, .unset]) rfl ?_
  refine g_aload C S dsm_270 (pc' := 272) rfl rfl rfl ?_
  refine g_iload C S dsm_272 (pc' := 274) rfl rfl ?_
  obtain ⟨aL, hvL, A_aL, ge_aL, sz_aL⟩ : ∃ aL, hRows a231 a238 a245 a252 a259 a266 a273 a280 s' = .ref aL ∧ Ary Z h295 aL .int 5 (fun q => .int (Int32.ofNat (hShp s' q))) ∧ n0 ≤ aL ∧ h0.size ≤ aL := by
    clear es
    match s', hs8 with
    | 0, _ => exact ⟨a231, rfl, A_a231.cg (own_rng (by decide +kernel)), ge_a231, sz_a231⟩
    | 1, _ => exact ⟨a238, rfl, A_a238.cg (own_rng (by decide +kernel)), ge_a238, sz_a238⟩
    | 2, _ => exact ⟨a245, rfl, A_a245.cg (own_rng (by decide +kernel)), ge_a245, sz_a245⟩
    | 3, _ => exact ⟨a252, rfl, A_a252.cg (own_rng (by decide +kernel)), ge_a252, sz_a252⟩
    | 4, _ => exact ⟨a259, rfl, A_a259.cg (own_rng (by decide +kernel)), ge_a259, sz_a259⟩
    | 5, _ => exact ⟨a266, rfl, A_a266.cg (own_rng (by decide +kernel)), ge_a266, sz_a266⟩
    | 6, _ => exact ⟨a273, rfl, A_a273.cg (own_rng (by decide +kernel)), ge_a273, sz_a273⟩
    | 7, _ => exact ⟨a280, rfl, A_a280.cg (own_rng (by decide +kernel)), ge_a280, sz_a280⟩
    | i + 8, h => exact absurd h (by omega)
  refine g_aaload C S (i := s') (v := (.ref aL)) dsm_274 A_a230 rfl (o32 (by omega)) hs8 hvL (pc' := 275) rfl ?_
  refine g_astore C S dsm_275 (pc' := 277) rfl rfl (L' := #[.val (.ref o), .val (.int p2), .val (.int p3), .val (.int (Int32.ofNat q)), .val (.ref a230), .val (.ref a287), .val (.int (Int32.ofNat s')), .val (.int (Int32.ofNat (hSz s'))), .val (.ref aL), .unset, .unset, .unset, .unset, .unset, .unset, .unset]) rfl ?_
  have hb := hSz_b hs8
  refine g_aload C S dsm_277 (pc' := 279) rfl rfl rfl ?_
  refine g_iload C S dsm_279 (pc' := 281) rfl rfl ?_
  refine g_iconst C S (0 : Int32) dsm_281 (pc' := 282) rfl rfl ?_
  refine g_iloadN C S dsm_282 (pc' := 283) rfl rfl ?_
  refine g_iconst C S (3 : Int32) dsm_283 (pc' := 284) rfl rfl ?_
  refine g_iushr C S dsm_284 (pc' := 285) rfl ?_
  refine g_callS C S (rm := ({ frames := 0, cells := 0, slots := 0, locals := 0 } : Room)) (W := 0) dsm_285 (hw _ (List.mem_of_getElem? (i := 38) rfl)) (hw _ (List.mem_of_getElem? (i := 39) rfl)) (hw _ (List.mem_of_getElem? (i := 33) rfl)) (hw _ (List.mem_of_getElem? (i := 40) rfl)) (by decide) (c_swp l' Z a0 hw aL ((p2.toUInt32 >>> ((3 : Int32) &&& 31).toUInt32).toInt32) h295 n0 (hShp s') (hSz s') 0 hb.1 hb.2 (by decide) ge_aL A_aL) (argsL := [(.ref aL), (.int (Int32.ofNat (hSz s'))), (.int (0 : Int32)), (.int ((p2.toUInt32 >>> ((3 : Int32) &&& 31).toUInt32).toInt32))]) (r := []) rfl (lenOf pd_14 rfl) rfl (Nat.le_of_eq rfl) (by decide) (by decide) (by decide) (by decide) (pc' := 288) rfl (fun T296 h296 v296 q296 S => ?_)
  obtain ⟨rfl, j0, ja0, jb0, jc0, K296, B_aL⟩ := q296
  have Kp := Kp.trans K296 (allS (Or.inr sz_aL) all0)
  have Zn := Nat.le_trans Zn K296.1
  have A_aL := B_aL
  show Gl p e below s _ n0 _ T296 (mkF m 288 #[.val (.ref o), .val (.int p2), .val (.int p3), .val (.int (Int32.ofNat q)), .val (.ref a230), .val (.ref a287), .val (.int (Int32.ofNat s')), .val (.int (Int32.ofNat (hSz s'))), .val (.ref aL), .unset, .unset, .unset, .unset, .unset, .unset, .unset] [])
  refine g_aload C S dsm_288 (pc' := 290) rfl rfl rfl ?_
  refine g_iload C S dsm_290 (pc' := 292) rfl rfl ?_
  refine g_iconst C S (1 : Int32) dsm_292 (pc' := 293) rfl rfl ?_
  refine g_iloadN C S dsm_293 (pc' := 294) rfl rfl ?_
  refine g_bipush C S (6 : Int32) dsm_294 (pc' := 296) rfl rfl ?_
  refine g_iushr C S dsm_296 (pc' := 297) rfl ?_
  refine g_callS C S (rm := ({ frames := 0, cells := 0, slots := 0, locals := 0 } : Room)) (W := 0) dsm_297 (hw _ (List.mem_of_getElem? (i := 38) rfl)) (hw _ (List.mem_of_getElem? (i := 39) rfl)) (hw _ (List.mem_of_getElem? (i := 33) rfl)) (hw _ (List.mem_of_getElem? (i := 40) rfl)) (by decide) (c_swp l' Z a0 hw aL ((p2.toUInt32 >>> ((6 : Int32) &&& 31).toUInt32).toInt32) h296 n0 (hSw (hShp s') 0 j0) (hSz s') 1 hb.1 hb.2 (by decide) ge_aL A_aL) (argsL := [(.ref aL), (.int (Int32.ofNat (hSz s'))), (.int (1 : Int32)), (.int ((p2.toUInt32 >>> ((6 : Int32) &&& 31).toUInt32).toInt32))]) (r := []) rfl (lenOf pd_14 rfl) rfl (Nat.le_of_eq rfl) (by decide) (by decide) (by decide) (by decide) (pc' := 300) rfl (fun T297 h297 v297 q297 S => ?_)
  obtain ⟨rfl, j1, ja1, jb1, jc1, K297, B_aL⟩ := q297
  have Kp := Kp.trans K297 (allS (Or.inr sz_aL) all0)
  have Zn := Nat.le_trans Zn K297.1
  have A_aL := B_aL
  show Gl p e below s _ n0 _ T297 (mkF m 300 #[.val (.ref o), .val (.int p2), .val (.int p3), .val (.int (Int32.ofNat q)), .val (.ref a230), .val (.ref a287), .val (.int (Int32.ofNat s')), .val (.int (Int32.ofNat (hSz s'))), .val (.ref aL), .unset, .unset, .unset, .unset, .unset, .unset, .unset] [])
  refine g_aload C S dsm_300 (pc' := 302) rfl rfl rfl ?_
  refine g_iload C S dsm_302 (pc' := 304) rfl rfl ?_
  refine g_iconst C S (2 : Int32) dsm_304 (pc' := 305) rfl rfl ?_
  refine g_iloadN C S dsm_305 (pc' := 306) rfl rfl ?_
  refine g_bipush C S (9 : Int32) dsm_306 (pc' := 308) rfl rfl ?_
  refine g_iushr C S dsm_308 (pc' := 309) rfl ?_
  refine g_callS C S (rm := ({ frames := 0, cells := 0, slots := 0, locals := 0 } : Room)) (W := 0) dsm_309 (hw _ (List.mem_of_getElem? (i := 38) rfl)) (hw _ (List.mem_of_getElem? (i := 39) rfl)) (hw _ (List.mem_of_getElem? (i := 33) rfl)) (hw _ (List.mem_of_getElem? (i := 40) rfl)) (by decide) (c_swp l' Z a0 hw aL ((p2.toUInt32 >>> ((9 : Int32) &&& 31).toUInt32).toInt32) h297 n0 (hSw (hSw (hShp s') 0 j0) 1 j1) (hSz s') 2 hb.1 hb.2 (by decide) ge_aL A_aL) (argsL := [(.ref aL), (.int (Int32.ofNat (hSz s'))), (.int (2 : Int32)), (.int ((p2.toUInt32 >>> ((9 : Int32) &&& 31).toUInt32).toInt32))]) (r := []) rfl (lenOf pd_14 rfl) rfl (Nat.le_of_eq rfl) (by decide) (by decide) (by decide) (by decide) (pc' := 312) rfl (fun T298 h298 v298 q298 S => ?_)
  obtain ⟨rfl, j2, ja2, jb2, jc2, K298, B_aL⟩ := q298
  have Kp := Kp.trans K298 (allS (Or.inr sz_aL) all0)
  have Zn := Nat.le_trans Zn K298.1
  have A_aL := B_aL
  show Gl p e below s _ n0 _ T298 (mkF m 312 #[.val (.ref o), .val (.int p2), .val (.int p3), .val (.int (Int32.ofNat q)), .val (.ref a230), .val (.ref a287), .val (.int (Int32.ofNat s')), .val (.int (Int32.ofNat (hSz s'))), .val (.ref aL), .unset, .unset, .unset, .unset, .unset, .unset, .unset] [])
  refine g_aload C S dsm_312 (pc' := 314) rfl rfl rfl ?_
  refine g_iload C S dsm_314 (pc' := 316) rfl rfl ?_
  refine g_iconst C S (3 : Int32) dsm_316 (pc' := 317) rfl rfl ?_
  refine g_iloadN C S dsm_317 (pc' := 318) rfl rfl ?_
  refine g_bipush C S (12 : Int32) dsm_318 (pc' := 320) rfl rfl ?_
  refine g_iushr C S dsm_320 (pc' := 321) rfl ?_
  refine g_callS C S (rm := ({ frames := 0, cells := 0, slots := 0, locals := 0 } : Room)) (W := 0) dsm_321 (hw _ (List.mem_of_getElem? (i := 38) rfl)) (hw _ (List.mem_of_getElem? (i := 39) rfl)) (hw _ (List.mem_of_getElem? (i := 33) rfl)) (hw _ (List.mem_of_getElem? (i := 40) rfl)) (by decide) (c_swp l' Z a0 hw aL ((p2.toUInt32 >>> ((12 : Int32) &&& 31).toUInt32).toInt32) h298 n0 (hSw (hSw (hSw (hShp s') 0 j0) 1 j1) 2 j2) (hSz s') 3 hb.1 hb.2 (by decide) ge_aL A_aL) (argsL := [(.ref aL), (.int (Int32.ofNat (hSz s'))), (.int (3 : Int32)), (.int ((p2.toUInt32 >>> ((12 : Int32) &&& 31).toUInt32).toInt32))]) (r := []) rfl (lenOf pd_14 rfl) rfl (Nat.le_of_eq rfl) (by decide) (by decide) (by decide) (by decide) (pc' := 324) rfl (fun T299 h299 v299 q299 S => ?_)
  obtain ⟨rfl, j3, ja3, jb3, jc3, K299, B_aL⟩ := q299
  have Kp := Kp.trans K299 (allS (Or.inr sz_aL) all0)
  have Zn := Nat.le_trans Zn K299.1
  have A_aL := B_aL
  show Gl p e below s _ n0 _ T299 (mkF m 324 #[.val (.ref o), .val (.int p2), .val (.int p3), .val (.int (Int32.ofNat q)), .val (.ref a230), .val (.ref a287), .val (.int (Int32.ofNat s')), .val (.int (Int32.ofNat (hSz s'))), .val (.ref aL), .unset, .unset, .unset, .unset, .unset, .unset, .unset] [])
  obtain ⟨Lx, eL⟩ : ∃ z, z = hLst (hFin s' j0 j1 j2 j3) := ⟨_, rfl⟩
  have hok : hOK (hSz s') Lx = true := by rw [eL]; exact sm_ok hs8 ja0 jb0 jc0 ja1 jb1 jc1 ja2 jb2 jc2 ja3 jb3 jc3
  have A_aL : Ary Z h299 aL .int 5 (fun q => .int (Int32.ofNat ((fun i => Lx.getD i 0) q))) := A_aL.cg fun q hq => by rw [eL]; exact congrArg (fun z => Value.int (Int32.ofNat z)) (lst_at (hFin s' j0 j1 j2 j3) hq).symm
  obtain ⟨hg, hn5, hl4, hcd⟩ := hOK_spec hok
  refine g_iloadN C S dsm_324 (pc' := 325) rfl rfl ?_
  refine g_bipush C S (31 : Int32) dsm_325 (pc' := 327) rfl rfl ?_
  refine g_iand C S dsm_327 (pc' := 328) rfl ?_
  obtain ⟨v0, hv0, ev0⟩ := own_and p3 31 (k := 5) (by decide) (by decide)
  rw [ev0]
  refine g_istore C S dsm_328 (pc' := 330) rfl (L' := #[.val (.ref o), .val (.int p2), .val (.int p3), .val (.int (Int32.ofNat q)), .val (.ref a230), .val (.ref a287), .val (.int (Int32.ofNat s')), .val (.int (Int32.ofNat (hSz s'))), .val (.ref aL), .val (.int (Int32.ofNat v0)), .unset, .unset, .unset, .unset, .unset, .unset]) rfl ?_
  refine g_iload C S dsm_330 (pc' := 332) rfl rfl ?_
  refine g_iconst C S (1 : Int32) dsm_332 (pc' := 333) rfl rfl ?_
  refine g_iadd C S dsm_333 (pc' := 334) rfl ?_
  refine g_iloadN C S dsm_334 (pc' := 335) rfl rfl ?_
  refine g_iconst C S (5 : Int32) dsm_335 (pc' := 336) rfl rfl ?_
  refine g_iushr C S dsm_336 (pc' := 337) rfl ?_
  refine g_bipush C S (31 : Int32) dsm_337 (pc' := 339) rfl rfl ?_
  refine g_iand C S dsm_339 (pc' := 340) rfl ?_
  refine g_iadd C S dsm_340 (pc' := 341) rfl ?_
  obtain ⟨v1, lo1, hv1, ev1⟩ := own_v (((p3.toUInt32 >>> ((5 : Int32) &&& 31).toUInt32).toInt32)) v0 (by omega)
  rw [ev1]
  refine g_istore C S dsm_341 (pc' := 343) rfl (L' := #[.val (.ref o), .val (.int p2), .val (.int p3), .val (.int (Int32.ofNat q)), .val (.ref a230), .val (.ref a287), .val (.int (Int32.ofNat s')), .val (.int (Int32.ofNat (hSz s'))), .val (.ref aL), .val (.int (Int32.ofNat v0)), .val (.int (Int32.ofNat v1)), .unset, .unset, .unset, .unset, .unset]) rfl ?_
  refine g_iload C S dsm_343 (pc' := 345) rfl rfl ?_
  refine g_iconst C S (1 : Int32) dsm_345 (pc' := 346) rfl rfl ?_
  refine g_iadd C S dsm_346 (pc' := 347) rfl ?_
  refine g_iloadN C S dsm_347 (pc' := 348) rfl rfl ?_
  refine g_bipush C S (10 : Int32) dsm_348 (pc' := 350) rfl rfl ?_
  refine g_iushr C S dsm_350 (pc' := 351) rfl ?_
  refine g_bipush C S (31 : Int32) dsm_351 (pc' := 353) rfl rfl ?_
  refine g_iand C S dsm_353 (pc' := 354) rfl ?_
  refine g_iadd C S dsm_354 (pc' := 355) rfl ?_
  obtain ⟨v2, lo2, hv2, ev2⟩ := own_v (((p3.toUInt32 >>> ((10 : Int32) &&& 31).toUInt32).toInt32)) v1 (by omega)
  rw [ev2]
  refine g_istore C S dsm_355 (pc' := 357) rfl (L' := #[.val (.ref o), .val (.int p2), .val (.int p3), .val (.int (Int32.ofNat q)), .val (.ref a230), .val (.ref a287), .val (.int (Int32.ofNat s')), .val (.int (Int32.ofNat (hSz s'))), .val (.ref aL), .val (.int (Int32.ofNat v0)), .val (.int (Int32.ofNat v1)), .val (.int (Int32.ofNat v2)), .unset, .unset, .unset, .unset]) rfl ?_
  refine g_iload C S dsm_357 (pc' := 359) rfl rfl ?_
  refine g_iconst C S (1 : Int32) dsm_359 (pc' := 360) rfl rfl ?_
  refine g_iadd C S dsm_360 (pc' := 361) rfl ?_
  refine g_iloadN C S dsm_361 (pc' := 362) rfl rfl ?_
  refine g_bipush C S (15 : Int32) dsm_362 (pc' := 364) rfl rfl ?_
  refine g_iushr C S dsm_364 (pc' := 365) rfl ?_
  refine g_bipush C S (31 : Int32) dsm_365 (pc' := 367) rfl rfl ?_
  refine g_iand C S dsm_367 (pc' := 368) rfl ?_
  refine g_iadd C S dsm_368 (pc' := 369) rfl ?_
  obtain ⟨v3, lo3, hv3, ev3⟩ := own_v (((p3.toUInt32 >>> ((15 : Int32) &&& 31).toUInt32).toInt32)) v2 (by omega)
  rw [ev3]
  refine g_istore C S dsm_369 (pc' := 371) rfl (L' := #[.val (.ref o), .val (.int p2), .val (.int p3), .val (.int (Int32.ofNat q)), .val (.ref a230), .val (.ref a287), .val (.int (Int32.ofNat s')), .val (.int (Int32.ofNat (hSz s'))), .val (.ref aL), .val (.int (Int32.ofNat v0)), .val (.int (Int32.ofNat v1)), .val (.int (Int32.ofNat v2)), .val (.int (Int32.ofNat v3)), .unset, .unset, .unset]) rfl ?_
  refine g_iload C S dsm_371 (pc' := 373) rfl rfl ?_
  refine g_iconst C S (1 : Int32) dsm_373 (pc' := 374) rfl rfl ?_
  refine g_iadd C S dsm_374 (pc' := 375) rfl ?_
  refine g_iloadN C S dsm_375 (pc' := 376) rfl rfl ?_
  refine g_bipush C S (20 : Int32) dsm_376 (pc' := 378) rfl rfl ?_
  refine g_iushr C S dsm_378 (pc' := 379) rfl ?_
  refine g_bipush C S (31 : Int32) dsm_379 (pc' := 381) rfl rfl ?_
  refine g_iand C S dsm_381 (pc' := 382) rfl ?_
  refine g_iadd C S dsm_382 (pc' := 383) rfl ?_
  obtain ⟨v4, lo4, hv4, ev4⟩ := own_v (((p3.toUInt32 >>> ((20 : Int32) &&& 31).toUInt32).toInt32)) v3 (by omega)
  rw [ev4]
  refine g_istore C S dsm_383 (pc' := 385) rfl (L' := #[.val (.ref o), .val (.int p2), .val (.int p3), .val (.int (Int32.ofNat q)), .val (.ref a230), .val (.ref a287), .val (.int (Int32.ofNat s')), .val (.int (Int32.ofNat (hSz s'))), .val (.ref aL), .val (.int (Int32.ofNat v0)), .val (.int (Int32.ofNat v1)), .val (.int (Int32.ofNat v2)), .val (.int (Int32.ofNat v3)), .val (.int (Int32.ofNat v4)), .unset, .unset]) rfl ?_
  refine g_iconst C S (5 : Int32) dsm_385 (pc' := 386) rfl rfl ?_
  refine g_newarray C S (N := 5) (cap := 5) dsm_386 (hw _ (List.mem_of_getElem? (i := 9) rfl)) (by decide) (by decide) (by decide) (by decide) (by decide) (pc' := 388) rfl (fun T300 h300 a300 S g300 E300 A_a300 => ?_)
  have ne_aL_a300 : aL ≠ a300 := ne_new g300 A_aL.lt
  have sz_a300 : h0.size ≤ a300 := ge_of g300 Kp.1
  have ge_a300 : n0 ≤ a300 := ge_of g300 Zn
  have Kp := Kp.ext E300
  have Zn := Nat.le_trans Zn E300.1
  have A_aL := A_aL.ext E300
  have A_a300 : Ary Z h300 a300 .int 5 (fun _ => (.int (0 : Int32))) := A_a300
  refine g_dup C S dsm_388 (pc' := 389) rfl rfl ?_
  refine g_iconst C S (0 : Int32) dsm_389 (pc' := 390) rfl rfl ?_
  refine g_iload C S dsm_390 (pc' := 392) rfl rfl ?_
  refine g_iastore C S (i := 0) dsm_392 A_a300 (by decide) (by decide) ge_a300 (pc' := 393) rfl (fun T301 h301 S W301 B301 => ?_)
  have Zn := Nat.le_trans Zn (Nat.le_of_eq W301.size.symm)
  have A_aL := A_aL.other W301 ne_aL_a300
  have A_a300 := B301
  have Kp := Kp.wr W301 (Or.inr sz_a300)
  refine g_dup C S dsm_393 (pc' := 394) rfl rfl ?_
  refine g_iconst C S (1 : Int32) dsm_394 (pc' := 395) rfl rfl ?_
  refine g_iload C S dsm_395 (pc' := 397) rfl rfl ?_
  refine g_iastore C S (i := 1) dsm_397 A_a300 (by decide) (by decide) ge_a300 (pc' := 398) rfl (fun T302 h302 S W302 B302 => ?_)
  have Zn := Nat.le_trans Zn (Nat.le_of_eq W302.size.symm)
  have A_aL := A_aL.other W302 ne_aL_a300
  have A_a300 := B302
  have Kp := Kp.wr W302 (Or.inr sz_a300)
  refine g_dup C S dsm_398 (pc' := 399) rfl rfl ?_
  refine g_iconst C S (2 : Int32) dsm_399 (pc' := 400) rfl rfl ?_
  refine g_iload C S dsm_400 (pc' := 402) rfl rfl ?_
  refine g_iastore C S (i := 2) dsm_402 A_a300 (by decide) (by decide) ge_a300 (pc' := 403) rfl (fun T303 h303 S W303 B303 => ?_)
  have Zn := Nat.le_trans Zn (Nat.le_of_eq W303.size.symm)
  have A_aL := A_aL.other W303 ne_aL_a300
  have A_a300 := B303
  have Kp := Kp.wr W303 (Or.inr sz_a300)
  refine g_dup C S dsm_403 (pc' := 404) rfl rfl ?_
  refine g_iconst C S (3 : Int32) dsm_404 (pc' := 405) rfl rfl ?_
  refine g_iload C S dsm_405 (pc' := 407) rfl rfl ?_
  refine g_iastore C S (i := 3) dsm_407 A_a300 (by decide) (by decide) ge_a300 (pc' := 408) rfl (fun T304 h304 S W304 B304 => ?_)
  have Zn := Nat.le_trans Zn (Nat.le_of_eq W304.size.symm)
  have A_aL := A_aL.other W304 ne_aL_a300
  have A_a300 := B304
  have Kp := Kp.wr W304 (Or.inr sz_a300)
  refine g_dup C S dsm_408 (pc' := 409) rfl rfl ?_
  refine g_iconst C S (4 : Int32) dsm_409 (pc' := 410) rfl rfl ?_
  refine g_iload C S dsm_410 (pc' := 412) rfl rfl ?_
  refine g_iastore C S (i := 4) dsm_412 A_a300 (by decide) (by decide) ge_a300 (pc' := 413) rfl (fun T305 h305 S W305 B305 => ?_)
  have Zn := Nat.le_trans Zn (Nat.le_of_eq W305.size.symm)
  have A_aL := A_aL.other W305 ne_aL_a300
  have A_a300 := B305
  have Kp := Kp.wr W305 (Or.inr sz_a300)
  refine g_astore C S dsm_413 (pc' := 415) rfl rfl (L' := #[.val (.ref o), .val (.int p2), .val (.int p3), .val (.int (Int32.ofNat q)), .val (.ref a230), .val (.ref a287), .val (.int (Int32.ofNat s')), .val (.int (Int32.ofNat (hSz s'))), .val (.ref aL), .val (.int (Int32.ofNat v0)), .val (.int (Int32.ofNat v1)), .val (.int (Int32.ofNat v2)), .val (.int (Int32.ofNat v3)), .val (.int (Int32.ofNat v4)), .val (.ref a300), .unset]) rfl ?_
  refine g_sipush C S (256 : Int32) dsm_415 (pc' := 418) rfl rfl ?_
  refine g_newarray C S (N := 256) (cap := 256) dsm_418 (hw _ (List.mem_of_getElem? (i := 9) rfl)) (by decide) (by decide) (by decide) (by decide) (by decide) (pc' := 420) rfl (fun T306 h306 a306 S g306 E306 A_a306 => ?_)
  have ne_aL_a306 : aL ≠ a306 := ne_new g306 A_aL.lt
  have ne_a300_a306 : a300 ≠ a306 := ne_new g306 A_a300.lt
  have sz_a306 : h0.size ≤ a306 := ge_of g306 Kp.1
  have ge_a306 : n0 ≤ a306 := ge_of g306 Zn
  have Kp := Kp.ext E306
  have Zn := Nat.le_trans Zn E306.1
  have A_aL := A_aL.ext E306
  have A_a300 := A_a300.ext E306
  have A_a306 : Ary Z h306 a306 .int 256 (fun _ => (.int (0 : Int32))) := A_a306
  refine g_astore C S dsm_420 (pc' := 422) rfl rfl (L' := #[.val (.ref o), .val (.int p2), .val (.int p3), .val (.int (Int32.ofNat q)), .val (.ref a230), .val (.ref a287), .val (.int (Int32.ofNat s')), .val (.int (Int32.ofNat (hSz s'))), .val (.ref aL), .val (.int (Int32.ofNat v0)), .val (.int (Int32.ofNat v1)), .val (.int (Int32.ofNat v2)), .val (.int (Int32.ofNat v3)), .val (.int (Int32.ofNat v4)), .val (.ref a300), .val (.ref a306)]) rfl ?_
  refine g_aload C S dsm_422 (pc' := 424) rfl rfl rfl ?_
  refine g_iload C S dsm_424 (pc' := 426) rfl rfl ?_
  refine g_aload C S dsm_426 (pc' := 428) rfl rfl rfl ?_
  refine g_iconst C S (0 : Int32) dsm_428 (pc' := 429) rfl rfl ?_
  refine g_iaload C S (i := 0) (v := (.int (Int32.ofNat (Lx.getD 0 0)))) dsm_429 A_aL (by decide) (by decide) rfl (pc' := 430) rfl ?_
  refine g_iastore C S (i := v0) dsm_430 A_a306 (o32 (by omega)) (by omega) ge_a306 (pc' := 431) rfl (fun T307 h307 S W307 B307 => ?_)
  have Zn := Nat.le_trans Zn (Nat.le_of_eq W307.size.symm)
  have A_aL := A_aL.other W307 ne_aL_a306
  have A_a300 := A_a300.other W307 ne_a300_a306
  have A_a306 := B307
  have Kp := Kp.wr W307 (Or.inr sz_a306)
  refine g_aload C S dsm_431 (pc' := 433) rfl rfl rfl ?_
  refine g_iload C S dsm_433 (pc' := 435) rfl rfl ?_
  refine g_aload C S dsm_435 (pc' := 437) rfl rfl rfl ?_
  refine g_iconst C S (1 : Int32) dsm_437 (pc' := 438) rfl rfl ?_
  refine g_iaload C S (i := 1) (v := (.int (Int32.ofNat (Lx.getD 1 0)))) dsm_438 A_aL (by decide) (by decide) rfl (pc' := 439) rfl ?_
  refine g_iastore C S (i := v1) dsm_439 A_a306 (o32 (by omega)) (by omega) ge_a306 (pc' := 440) rfl (fun T308 h308 S W308 B308 => ?_)
  have Zn := Nat.le_trans Zn (Nat.le_of_eq W308.size.symm)
  have A_aL := A_aL.other W308 ne_aL_a306
  have A_a300 := A_a300.other W308 ne_a300_a306
  have A_a306 := B308
  have Kp := Kp.wr W308 (Or.inr sz_a306)
  refine g_aload C S dsm_440 (pc' := 442) rfl rfl rfl ?_
  refine g_iload C S dsm_442 (pc' := 444) rfl rfl ?_
  refine g_aload C S dsm_444 (pc' := 446) rfl rfl rfl ?_
  refine g_iconst C S (2 : Int32) dsm_446 (pc' := 447) rfl rfl ?_
  refine g_iaload C S (i := 2) (v := (.int (Int32.ofNat (Lx.getD 2 0)))) dsm_447 A_aL (by decide) (by decide) rfl (pc' := 448) rfl ?_
  refine g_iastore C S (i := v2) dsm_448 A_a306 (o32 (by omega)) (by omega) ge_a306 (pc' := 449) rfl (fun T309 h309 S W309 B309 => ?_)
  have Zn := Nat.le_trans Zn (Nat.le_of_eq W309.size.symm)
  have A_aL := A_aL.other W309 ne_aL_a306
  have A_a300 := A_a300.other W309 ne_a300_a306
  have A_a306 := B309
  have Kp := Kp.wr W309 (Or.inr sz_a306)
  refine g_aload C S dsm_449 (pc' := 451) rfl rfl rfl ?_
  refine g_iload C S dsm_451 (pc' := 453) rfl rfl ?_
  refine g_aload C S dsm_453 (pc' := 455) rfl rfl rfl ?_
  refine g_iconst C S (3 : Int32) dsm_455 (pc' := 456) rfl rfl ?_
  refine g_iaload C S (i := 3) (v := (.int (Int32.ofNat (Lx.getD 3 0)))) dsm_456 A_aL (by decide) (by decide) rfl (pc' := 457) rfl ?_
  refine g_iastore C S (i := v3) dsm_457 A_a306 (o32 (by omega)) (by omega) ge_a306 (pc' := 458) rfl (fun T310 h310 S W310 B310 => ?_)
  have Zn := Nat.le_trans Zn (Nat.le_of_eq W310.size.symm)
  have A_aL := A_aL.other W310 ne_aL_a306
  have A_a300 := A_a300.other W310 ne_a300_a306
  have A_a306 := B310
  have Kp := Kp.wr W310 (Or.inr sz_a306)
  refine g_aload C S dsm_458 (pc' := 460) rfl rfl rfl ?_
  refine g_iload C S dsm_460 (pc' := 462) rfl rfl ?_
  refine g_aload C S dsm_462 (pc' := 464) rfl rfl rfl ?_
  refine g_iconst C S (4 : Int32) dsm_464 (pc' := 465) rfl rfl ?_
  refine g_iaload C S (i := 4) (v := (.int (Int32.ofNat (Lx.getD 4 0)))) dsm_465 A_aL (by decide) (by decide) rfl (pc' := 466) rfl ?_
  refine g_iastore C S (i := v4) dsm_466 A_a306 (o32 (by omega)) (by omega) ge_a306 (pc' := 467) rfl (fun T311 h311 S W311 B311 => ?_)
  have Zn := Nat.le_trans Zn (Nat.le_of_eq W311.size.symm)
  have A_aL := A_aL.other W311 ne_aL_a306
  have A_a300 := A_a300.other W311 ne_a300_a306
  have A_a306 := B311
  have Kp := Kp.wr W311 (Or.inr sz_a306)
  refine g_aloadN C S dsm_467 (pc' := 468) rfl rfl rfl ?_
  refine g_aload C S dsm_468 (pc' := 470) rfl rfl rfl ?_
  refine g_iload C S dsm_470 (pc' := 472) rfl rfl ?_
  refine g_aload C S dsm_472 (pc' := 474) rfl rfl rfl ?_
  have A_a306 : Ary Z h311 a306 .int 256 (hL5 v0 v1 v2 v3 v4 (Int32.ofNat (Lx.getD 0 0)) (Int32.ofNat (Lx.getD 1 0)) (Int32.ofNat (Lx.getD 2 0)) (Int32.ofNat (Lx.getD 3 0)) (Int32.ofNat (Lx.getD 4 0))) := A_a306
  have hD9 : [a300, a306, o, sy, co, le, lc, fa, fb].Nodup := by simp only [List.nodup_cons, List.mem_cons, List.not_mem_nil, or_false, not_or, List.nodup_nil, not_false_eq_true, and_true]; exact ⟨⟨ne_a300_a306, (Ne.symm (Nat.ne_of_lt (Nat.lt_of_lt_of_le lt_o sz_a300))), (Ne.symm (Nat.ne_of_lt (Nat.lt_of_lt_of_le lt_sy sz_a300))), (Ne.symm (Nat.ne_of_lt (Nat.lt_of_lt_of_le lt_co sz_a300))), (Ne.symm (Nat.ne_of_lt (Nat.lt_of_lt_of_le lt_le sz_a300))), (Ne.symm (Nat.ne_of_lt (Nat.lt_of_lt_of_le lt_lc sz_a300))), (Ne.symm (Nat.ne_of_lt (Nat.lt_of_lt_of_le lt_fa sz_a300))), (Ne.symm (Nat.ne_of_lt (Nat.lt_of_lt_of_le lt_fb sz_a300)))⟩, ⟨(Ne.symm (Nat.ne_of_lt (Nat.lt_of_lt_of_le lt_o sz_a306))), (Ne.symm (Nat.ne_of_lt (Nat.lt_of_lt_of_le lt_sy sz_a306))), (Ne.symm (Nat.ne_of_lt (Nat.lt_of_lt_of_le lt_co sz_a306))), (Ne.symm (Nat.ne_of_lt (Nat.lt_of_lt_of_le lt_le sz_a306))), (Ne.symm (Nat.ne_of_lt (Nat.lt_of_lt_of_le lt_lc sz_a306))), (Ne.symm (Nat.ne_of_lt (Nat.lt_of_lt_of_le lt_fa sz_a306))), (Ne.symm (Nat.ne_of_lt (Nat.lt_of_lt_of_le lt_fb sz_a306)))⟩, ⟨ne_o_sy, ne_o_co, ne_o_le, ne_o_lc, ne_o_fa, ne_o_fb⟩, ⟨ne_sy_co, ne_sy_le, ne_sy_lc, ne_sy_fa, ne_sy_fb⟩, ⟨ne_co_le, ne_co_lc, ne_co_fa, ne_co_fb⟩, ⟨ne_le_lc, ne_le_fa, ne_le_fb⟩, ⟨ne_lc_fa, ne_lc_fb⟩, ne_fa_fb⟩
  have Y_o := X_o.keep Kp
  have A_a300 : Ary Z h311 a300 .int 5 (hV5 v0 v1 v2 v3 v4) := A_a300
  have hAs : ∀ i, i < 4 → (fun i => [v0, v1, v2, v3, v4].getD i 0) i < (fun i => [v0, v1, v2, v3, v4].getD i 0) (i + 1) := fa4 (show v0 < v1 by omega) (show v1 < v2 by omega) (show v2 < v3 by omega) (show v3 < v4 by omega)
  refine g_callV C S (rm := ({ frames := 2, cells := 0, slots := 0, locals := 43 } : Room)) (W := 0) dsm_474 (hw _ (List.mem_of_getElem? (i := 41) rfl)) (hw _ (List.mem_of_getElem? (i := 42) rfl)) (notFace_of_selects (args := #[]) (mvT C.2.1 (hw _ (List.mem_of_getElem? (i := 44) rfl)))) (hw _ (List.mem_of_getElem? (i := 44) rfl)) (hw _ (List.mem_of_getElem? (i := 43) rfl)) (hw _ (List.mem_of_getElem? (i := 2) rfl)) (hw _ (List.mem_of_getElem? (i := 45) rfl)) (by decide) rfl Y_o (c_fil l' Z a0 hw o a300 a306 h311 n0 (fun i => Lx.getD i 0) (fun i => [v0, v1, v2, v3, v4].getD i 0) (hSz s') 5 256 _ _ hg hn5 (by decide) (fun i hi => fa5 (P := fun i => (fun i => [v0, v1, v2, v3, v4].getD i 0) i < 256) (show v0 < 256 by omega) (show v1 < 256 by omega) (show v2 < 256 by omega) (show v3 < 256 by omega) (show v4 < 256 by omega) i (by omega)) (fun i hi => hAs i (by omega)) (fun i hi => fa5 (P := fun i => hV5 v0 v1 v2 v3 v4 i = Value.int (Int32.ofNat ((fun i => [v0, v1, v2, v3, v4].getD i 0) i))) rfl rfl rfl rfl rfl i (by omega)) (fun i hi => fa5 (P := fun i => hL5 v0 v1 v2 v3 v4 (Int32.ofNat (Lx.getD 0 0)) (Int32.ofNat (Lx.getD 1 0)) (Int32.ofNat (Lx.getD 2 0)) (Int32.ofNat (Lx.getD 3 0)) (Int32.ofNat (Lx.getD 4 0)) ((fun i => [v0, v1, v2, v3, v4].getD i 0) i) = Value.int (Int32.ofNat ((fun i => Lx.getD i 0) i))) (hL5_0 (v0 := v0) (v1 := v1) (v2 := v2) (v3 := v3) (v4 := v4) (by omega) (by omega) (by omega) (by omega)) (hL5_1 (v0 := v0) (v1 := v1) (v2 := v2) (v3 := v3) (v4 := v4) (by omega) (by omega) (by omega)) (hL5_2 (v0 := v0) (v1 := v1) (v2 := v2) (v3 := v3) (v4 := v4) (by omega) (by omega)) (hL5_3 (v0 := v0) (v1 := v1) (v2 := v2) (v3 := v3) (v4 := v4) (by omega)) hL5_4 i (by omega)) sy co le lc fa fb _ _ _ _ _ _ g_o g_sy g_co g_le g_lc g_fa g_fb hD9 Y_o (F_m_aSymbols_o.keep Kp nin0) (F_m_aCodes_o.keep Kp nin0) (F_m_aLengths_o.keep Kp nin0) (F_m_aLengthCounts_o.keep Kp nin0) (F_m_aFirstCodes_o.keep Kp nin0) (F_m_aFirstSymbols_o.keep Kp nin0) (F_m_nLongest_o.keep Kp nin0) (F_m_nValues_o.keep Kp nin0) (F_m_bPacked_o.keep Kp nin0) A_a300 A_a306 (A_lc.keep Kp nin0) (A_fa.keep Kp nin0) (A_fb.keep Kp nin0) (A_sy.keep Kp nin0) (A_co.keep Kp nin0) (A_le.keep Kp nin0)) (argsL := [(.ref a300), (.int (Int32.ofNat (hSz s'))), (.ref a306)]) (r := []) rfl (lenOf pd_9 rfl) rfl (Nat.le_of_eq rfl) (by decide) (by decide) (by decide) (by decide) (pc' := 477) rfl (fun T312 h312 v312 q312 S => ?_)
  obtain ⟨rfl, K312, X312, G_co, G_le, G_pk, B_co, B_le⟩ := q312
  have A_aL := A_aL.keep K312 (ninS (Ne.symm (Nat.ne_of_lt (Nat.lt_of_lt_of_le lt_o sz_aL))) (ninS (Ne.symm (Nat.ne_of_lt (Nat.lt_of_lt_of_le lt_sy sz_aL))) (ninS (Ne.symm (Nat.ne_of_lt (Nat.lt_of_lt_of_le lt_co sz_aL))) (ninS (Ne.symm (Nat.ne_of_lt (Nat.lt_of_lt_of_le lt_le sz_aL))) (ninS (Ne.symm (Nat.ne_of_lt (Nat.lt_of_lt_of_le lt_lc sz_aL))) (ninS (Ne.symm (Nat.ne_of_lt (Nat.lt_of_lt_of_le lt_fa sz_aL))) (ninS (Ne.symm (Nat.ne_of_lt (Nat.lt_of_lt_of_le lt_fb sz_aL))) nin0)))))))
  have A_a300 := A_a300.keep K312 (ninS (Ne.symm (Nat.ne_of_lt (Nat.lt_of_lt_of_le lt_o sz_a300))) (ninS (Ne.symm (Nat.ne_of_lt (Nat.lt_of_lt_of_le lt_sy sz_a300))) (ninS (Ne.symm (Nat.ne_of_lt (Nat.lt_of_lt_of_le lt_co sz_a300))) (ninS (Ne.symm (Nat.ne_of_lt (Nat.lt_of_lt_of_le lt_le sz_a300))) (ninS (Ne.symm (Nat.ne_of_lt (Nat.lt_of_lt_of_le lt_lc sz_a300))) (ninS (Ne.symm (Nat.ne_of_lt (Nat.lt_of_lt_of_le lt_fa sz_a300))) (ninS (Ne.symm (Nat.ne_of_lt (Nat.lt_of_lt_of_le lt_fb sz_a300))) nin0)))))))
  show Gl p e below s _ n0 _ T312 (mkF m 477 #[.val (.ref o), .val (.int p2), .val (.int p3), .val (.int (Int32.ofNat q)), .val (.ref a230), .val (.ref a287), .val (.int (Int32.ofNat s')), .val (.int (Int32.ofNat (hSz s'))), .val (.ref aL), .val (.int (Int32.ofNat v0)), .val (.int (Int32.ofNat v1)), .val (.int (Int32.ofNat v2)), .val (.int (Int32.ofNat v3)), .val (.int (Int32.ofNat v4)), .val (.ref a300), .val (.ref a306)] [])
  refine g_aloadN C S dsm_477 (pc' := 478) rfl rfl rfl ?_
  refine g_iload C S dsm_478 (pc' := 480) rfl rfl ?_
  refine g_callV C S (rm := ({ frames := 0, cells := 0, slots := 0, locals := 0 } : Room)) (W := 0) dsm_480 (hw _ (List.mem_of_getElem? (i := 76) rfl)) (hw _ (List.mem_of_getElem? (i := 77) rfl)) (notFace_of_selects (args := #[]) (mvT C.2.1 (hw _ (List.mem_of_getElem? (i := 79) rfl)))) (hw _ (List.mem_of_getElem? (i := 79) rfl)) (hw _ (List.mem_of_getElem? (i := 78) rfl)) (hw _ (List.mem_of_getElem? (i := 2) rfl)) (hw _ (List.mem_of_getElem? (i := 80) rfl)) (by decide) rfl X312 (c_cod l' Z a0 hw o h312 n0 co (hPk (hLng (fun i => Lx.getD i 0) (hSz s'))) (hCo (fun i => Lx.getD i 0) (fun i => [v0, v1, v2, v3, v4].getD i 0) (hSz s') (hPk (hLng (fun i => Lx.getD i 0) (hSz s'))) (hSz s')) v0 (by omega) G_pk G_co B_co) (argsL := [(.int (Int32.ofNat v0))]) (r := []) rfl (lenOf pd_10 rfl) rfl (Nat.le_of_eq rfl) (by decide) (by decide) (by decide) (by decide) (pc' := 483) rfl (fun T313 h313 v313 q313 S => ?_)
  obtain ⟨rfl, e313⟩ := q313; rw [e313] at S
  show Gl p e below s _ n0 _ T313 (mkF m 483 #[.val (.ref o), .val (.int p2), .val (.int p3), .val (.int (Int32.ofNat q)), .val (.ref a230), .val (.ref a287), .val (.int (Int32.ofNat s')), .val (.int (Int32.ofNat (hSz s'))), .val (.ref aL), .val (.int (Int32.ofNat v0)), .val (.int (Int32.ofNat v1)), .val (.int (Int32.ofNat v2)), .val (.int (Int32.ofNat v3)), .val (.int (Int32.ofNat v4)), .val (.ref a300), .val (.ref a306)] [(.long (hDec (hPk (hLng (fun i => Lx.getD i 0) (hSz s'))) ((hCo (fun i => Lx.getD i 0) (fun i => [v0, v1, v2, v3, v4].getD i 0) (hSz s') (hPk (hLng (fun i => Lx.getD i 0) (hSz s'))) (hSz s')) v0)))])
  refine g_aload C S dsm_483 (pc' := 485) rfl rfl rfl ?_
  refine g_iload C S dsm_485 (pc' := 487) rfl rfl ?_
  refine g_iconst C S (0 : Int32) dsm_487 (pc' := 488) rfl rfl ?_
  refine g_callS C S (rm := ({ frames := 1, cells := 0, slots := 0, locals := 20 } : Room)) (W := 2) dsm_488 (hw _ (List.mem_of_getElem? (i := 81) rfl)) (hw _ (List.mem_of_getElem? (i := 82) rfl)) (hw _ (List.mem_of_getElem? (i := 33) rfl)) (hw _ (List.mem_of_getElem? (i := 83) rfl)) (by decide) (c_exp l' Z a0 hw aL h312 n0 (fun i => Lx.getD i 0) (hSz s') 0 hn5 (by decide) hl4 A_aL) (argsL := [(.ref aL), (.int (Int32.ofNat (hSz s'))), (.int (0 : Int32))]) (r := [(.long (hDec (hPk (hLng (fun i => Lx.getD i 0) (hSz s'))) ((hCo (fun i => Lx.getD i 0) (fun i => [v0, v1, v2, v3, v4].getD i 0) (hSz s') (hPk (hLng (fun i => Lx.getD i 0) (hSz s'))) (hSz s')) v0)))]) rfl (lenOf pd_13 rfl) rfl (Nat.le_of_eq rfl) (by decide) (by decide) (by decide) (by decide) (pc' := 491) rfl (fun T314 h314 v314 q314 S => ?_)
  obtain ⟨rfl, e314⟩ := q314; rw [e314] at S
  show Gl p e below s _ n0 _ T314 (mkF m 491 #[.val (.ref o), .val (.int p2), .val (.int p3), .val (.int (Int32.ofNat q)), .val (.ref a230), .val (.ref a287), .val (.int (Int32.ofNat s')), .val (.int (Int32.ofNat (hSz s'))), .val (.ref aL), .val (.int (Int32.ofNat v0)), .val (.int (Int32.ofNat v1)), .val (.int (Int32.ofNat v2)), .val (.int (Int32.ofNat v3)), .val (.int (Int32.ofNat v4)), .val (.ref a300), .val (.ref a306)] [(.long (hExp (fun i => Lx.getD i 0) (hSz s') 0)), (.long (hDec (hPk (hLng (fun i => Lx.getD i 0) (hSz s'))) ((hCo (fun i => Lx.getD i 0) (fun i => [v0, v1, v2, v3, v4].getD i 0) (hSz s') (hPk (hLng (fun i => Lx.getD i 0) (hSz s'))) (hSz s')) v0)))])
  refine g_lcmp C S dsm_491 (pc' := 492) rfl ?_
  refine g_lif_ne C S dsm_492 (pc' := 590) (pf := 495) (by decide) (by decide) rfl (fun hc492 => absurd (sm_code (l := (fun i => Lx.getD i 0)) (V := (fun i => [v0, v1, v2, v3, v4].getD i 0)) hg hAs hn5 hcd (i := 0) (by decide)) hc492) (fun hc492 => ?_)
  refine g_aloadN C S dsm_495 (pc' := 496) rfl rfl rfl ?_
  refine g_iload C S dsm_496 (pc' := 498) rfl rfl ?_
  refine g_callV C S (rm := ({ frames := 0, cells := 0, slots := 0, locals := 0 } : Room)) (W := 0) dsm_498 (hw _ (List.mem_of_getElem? (i := 76) rfl)) (hw _ (List.mem_of_getElem? (i := 77) rfl)) (notFace_of_selects (args := #[]) (mvT C.2.1 (hw _ (List.mem_of_getElem? (i := 79) rfl)))) (hw _ (List.mem_of_getElem? (i := 79) rfl)) (hw _ (List.mem_of_getElem? (i := 78) rfl)) (hw _ (List.mem_of_getElem? (i := 2) rfl)) (hw _ (List.mem_of_getElem? (i := 80) rfl)) (by decide) rfl X312 (c_cod l' Z a0 hw o h312 n0 co (hPk (hLng (fun i => Lx.getD i 0) (hSz s'))) (hCo (fun i => Lx.getD i 0) (fun i => [v0, v1, v2, v3, v4].getD i 0) (hSz s') (hPk (hLng (fun i => Lx.getD i 0) (hSz s'))) (hSz s')) v1 (by omega) G_pk G_co B_co) (argsL := [(.int (Int32.ofNat v1))]) (r := []) rfl (lenOf pd_10 rfl) rfl (Nat.le_of_eq rfl) (by decide) (by decide) (by decide) (by decide) (pc' := 501) rfl (fun T315 h315 v315 q315 S => ?_)
  obtain ⟨rfl, e315⟩ := q315; rw [e315] at S
  show Gl p e below s _ n0 _ T315 (mkF m 501 #[.val (.ref o), .val (.int p2), .val (.int p3), .val (.int (Int32.ofNat q)), .val (.ref a230), .val (.ref a287), .val (.int (Int32.ofNat s')), .val (.int (Int32.ofNat (hSz s'))), .val (.ref aL), .val (.int (Int32.ofNat v0)), .val (.int (Int32.ofNat v1)), .val (.int (Int32.ofNat v2)), .val (.int (Int32.ofNat v3)), .val (.int (Int32.ofNat v4)), .val (.ref a300), .val (.ref a306)] [(.long (hDec (hPk (hLng (fun i => Lx.getD i 0) (hSz s'))) ((hCo (fun i => Lx.getD i 0) (fun i => [v0, v1, v2, v3, v4].getD i 0) (hSz s') (hPk (hLng (fun i => Lx.getD i 0) (hSz s'))) (hSz s')) v1)))])
  refine g_aload C S dsm_501 (pc' := 503) rfl rfl rfl ?_
  refine g_iload C S dsm_503 (pc' := 505) rfl rfl ?_
  refine g_iconst C S (1 : Int32) dsm_505 (pc' := 506) rfl rfl ?_
  refine g_callS C S (rm := ({ frames := 1, cells := 0, slots := 0, locals := 20 } : Room)) (W := 2) dsm_506 (hw _ (List.mem_of_getElem? (i := 81) rfl)) (hw _ (List.mem_of_getElem? (i := 82) rfl)) (hw _ (List.mem_of_getElem? (i := 33) rfl)) (hw _ (List.mem_of_getElem? (i := 83) rfl)) (by decide) (c_exp l' Z a0 hw aL h312 n0 (fun i => Lx.getD i 0) (hSz s') 1 hn5 (by decide) hl4 A_aL) (argsL := [(.ref aL), (.int (Int32.ofNat (hSz s'))), (.int (1 : Int32))]) (r := [(.long (hDec (hPk (hLng (fun i => Lx.getD i 0) (hSz s'))) ((hCo (fun i => Lx.getD i 0) (fun i => [v0, v1, v2, v3, v4].getD i 0) (hSz s') (hPk (hLng (fun i => Lx.getD i 0) (hSz s'))) (hSz s')) v1)))]) rfl (lenOf pd_13 rfl) rfl (Nat.le_of_eq rfl) (by decide) (by decide) (by decide) (by decide) (pc' := 509) rfl (fun T316 h316 v316 q316 S => ?_)
  obtain ⟨rfl, e316⟩ := q316; rw [e316] at S
  show Gl p e below s _ n0 _ T316 (mkF m 509 #[.val (.ref o), .val (.int p2), .val (.int p3), .val (.int (Int32.ofNat q)), .val (.ref a230), .val (.ref a287), .val (.int (Int32.ofNat s')), .val (.int (Int32.ofNat (hSz s'))), .val (.ref aL), .val (.int (Int32.ofNat v0)), .val (.int (Int32.ofNat v1)), .val (.int (Int32.ofNat v2)), .val (.int (Int32.ofNat v3)), .val (.int (Int32.ofNat v4)), .val (.ref a300), .val (.ref a306)] [(.long (hExp (fun i => Lx.getD i 0) (hSz s') 1)), (.long (hDec (hPk (hLng (fun i => Lx.getD i 0) (hSz s'))) ((hCo (fun i => Lx.getD i 0) (fun i => [v0, v1, v2, v3, v4].getD i 0) (hSz s') (hPk (hLng (fun i => Lx.getD i 0) (hSz s'))) (hSz s')) v1)))])
  refine g_lcmp C S dsm_509 (pc' := 510) rfl ?_
  refine g_lif_ne C S dsm_510 (pc' := 590) (pf := 513) (by decide) (by decide) rfl (fun hc510 => absurd (sm_code (l := (fun i => Lx.getD i 0)) (V := (fun i => [v0, v1, v2, v3, v4].getD i 0)) hg hAs hn5 hcd (i := 1) (by decide)) hc510) (fun hc510 => ?_)
  refine g_aloadN C S dsm_513 (pc' := 514) rfl rfl rfl ?_
  refine g_iload C S dsm_514 (pc' := 516) rfl rfl ?_
  refine g_callV C S (rm := ({ frames := 0, cells := 0, slots := 0, locals := 0 } : Room)) (W := 0) dsm_516 (hw _ (List.mem_of_getElem? (i := 76) rfl)) (hw _ (List.mem_of_getElem? (i := 77) rfl)) (notFace_of_selects (args := #[]) (mvT C.2.1 (hw _ (List.mem_of_getElem? (i := 79) rfl)))) (hw _ (List.mem_of_getElem? (i := 79) rfl)) (hw _ (List.mem_of_getElem? (i := 78) rfl)) (hw _ (List.mem_of_getElem? (i := 2) rfl)) (hw _ (List.mem_of_getElem? (i := 80) rfl)) (by decide) rfl X312 (c_cod l' Z a0 hw o h312 n0 co (hPk (hLng (fun i => Lx.getD i 0) (hSz s'))) (hCo (fun i => Lx.getD i 0) (fun i => [v0, v1, v2, v3, v4].getD i 0) (hSz s') (hPk (hLng (fun i => Lx.getD i 0) (hSz s'))) (hSz s')) v2 (by omega) G_pk G_co B_co) (argsL := [(.int (Int32.ofNat v2))]) (r := []) rfl (lenOf pd_10 rfl) rfl (Nat.le_of_eq rfl) (by decide) (by decide) (by decide) (by decide) (pc' := 519) rfl (fun T317 h317 v317 q317 S => ?_)
  obtain ⟨rfl, e317⟩ := q317; rw [e317] at S
  show Gl p e below s _ n0 _ T317 (mkF m 519 #[.val (.ref o), .val (.int p2), .val (.int p3), .val (.int (Int32.ofNat q)), .val (.ref a230), .val (.ref a287), .val (.int (Int32.ofNat s')), .val (.int (Int32.ofNat (hSz s'))), .val (.ref aL), .val (.int (Int32.ofNat v0)), .val (.int (Int32.ofNat v1)), .val (.int (Int32.ofNat v2)), .val (.int (Int32.ofNat v3)), .val (.int (Int32.ofNat v4)), .val (.ref a300), .val (.ref a306)] [(.long (hDec (hPk (hLng (fun i => Lx.getD i 0) (hSz s'))) ((hCo (fun i => Lx.getD i 0) (fun i => [v0, v1, v2, v3, v4].getD i 0) (hSz s') (hPk (hLng (fun i => Lx.getD i 0) (hSz s'))) (hSz s')) v2)))])
  refine g_aload C S dsm_519 (pc' := 521) rfl rfl rfl ?_
  refine g_iload C S dsm_521 (pc' := 523) rfl rfl ?_
  refine g_iconst C S (2 : Int32) dsm_523 (pc' := 524) rfl rfl ?_
  refine g_callS C S (rm := ({ frames := 1, cells := 0, slots := 0, locals := 20 } : Room)) (W := 2) dsm_524 (hw _ (List.mem_of_getElem? (i := 81) rfl)) (hw _ (List.mem_of_getElem? (i := 82) rfl)) (hw _ (List.mem_of_getElem? (i := 33) rfl)) (hw _ (List.mem_of_getElem? (i := 83) rfl)) (by decide) (c_exp l' Z a0 hw aL h312 n0 (fun i => Lx.getD i 0) (hSz s') 2 hn5 (by decide) hl4 A_aL) (argsL := [(.ref aL), (.int (Int32.ofNat (hSz s'))), (.int (2 : Int32))]) (r := [(.long (hDec (hPk (hLng (fun i => Lx.getD i 0) (hSz s'))) ((hCo (fun i => Lx.getD i 0) (fun i => [v0, v1, v2, v3, v4].getD i 0) (hSz s') (hPk (hLng (fun i => Lx.getD i 0) (hSz s'))) (hSz s')) v2)))]) rfl (lenOf pd_13 rfl) rfl (Nat.le_of_eq rfl) (by decide) (by decide) (by decide) (by decide) (pc' := 527) rfl (fun T318 h318 v318 q318 S => ?_)
  obtain ⟨rfl, e318⟩ := q318; rw [e318] at S
  show Gl p e below s _ n0 _ T318 (mkF m 527 #[.val (.ref o), .val (.int p2), .val (.int p3), .val (.int (Int32.ofNat q)), .val (.ref a230), .val (.ref a287), .val (.int (Int32.ofNat s')), .val (.int (Int32.ofNat (hSz s'))), .val (.ref aL), .val (.int (Int32.ofNat v0)), .val (.int (Int32.ofNat v1)), .val (.int (Int32.ofNat v2)), .val (.int (Int32.ofNat v3)), .val (.int (Int32.ofNat v4)), .val (.ref a300), .val (.ref a306)] [(.long (hExp (fun i => Lx.getD i 0) (hSz s') 2)), (.long (hDec (hPk (hLng (fun i => Lx.getD i 0) (hSz s'))) ((hCo (fun i => Lx.getD i 0) (fun i => [v0, v1, v2, v3, v4].getD i 0) (hSz s') (hPk (hLng (fun i => Lx.getD i 0) (hSz s'))) (hSz s')) v2)))])
  refine g_lcmp C S dsm_527 (pc' := 528) rfl ?_
  refine g_lif_ne C S dsm_528 (pc' := 590) (pf := 531) (by decide) (by decide) rfl (fun hc528 => absurd (sm_code (l := (fun i => Lx.getD i 0)) (V := (fun i => [v0, v1, v2, v3, v4].getD i 0)) hg hAs hn5 hcd (i := 2) (by decide)) hc528) (fun hc528 => ?_)
  refine g_aloadN C S dsm_531 (pc' := 532) rfl rfl rfl ?_
  refine g_iload C S dsm_532 (pc' := 534) rfl rfl ?_
  refine g_callV C S (rm := ({ frames := 0, cells := 0, slots := 0, locals := 0 } : Room)) (W := 0) dsm_534 (hw _ (List.mem_of_getElem? (i := 76) rfl)) (hw _ (List.mem_of_getElem? (i := 77) rfl)) (notFace_of_selects (args := #[]) (mvT C.2.1 (hw _ (List.mem_of_getElem? (i := 79) rfl)))) (hw _ (List.mem_of_getElem? (i := 79) rfl)) (hw _ (List.mem_of_getElem? (i := 78) rfl)) (hw _ (List.mem_of_getElem? (i := 2) rfl)) (hw _ (List.mem_of_getElem? (i := 80) rfl)) (by decide) rfl X312 (c_cod l' Z a0 hw o h312 n0 co (hPk (hLng (fun i => Lx.getD i 0) (hSz s'))) (hCo (fun i => Lx.getD i 0) (fun i => [v0, v1, v2, v3, v4].getD i 0) (hSz s') (hPk (hLng (fun i => Lx.getD i 0) (hSz s'))) (hSz s')) v3 (by omega) G_pk G_co B_co) (argsL := [(.int (Int32.ofNat v3))]) (r := []) rfl (lenOf pd_10 rfl) rfl (Nat.le_of_eq rfl) (by decide) (by decide) (by decide) (by decide) (pc' := 537) rfl (fun T319 h319 v319 q319 S => ?_)
  obtain ⟨rfl, e319⟩ := q319; rw [e319] at S
  show Gl p e below s _ n0 _ T319 (mkF m 537 #[.val (.ref o), .val (.int p2), .val (.int p3), .val (.int (Int32.ofNat q)), .val (.ref a230), .val (.ref a287), .val (.int (Int32.ofNat s')), .val (.int (Int32.ofNat (hSz s'))), .val (.ref aL), .val (.int (Int32.ofNat v0)), .val (.int (Int32.ofNat v1)), .val (.int (Int32.ofNat v2)), .val (.int (Int32.ofNat v3)), .val (.int (Int32.ofNat v4)), .val (.ref a300), .val (.ref a306)] [(.long (hDec (hPk (hLng (fun i => Lx.getD i 0) (hSz s'))) ((hCo (fun i => Lx.getD i 0) (fun i => [v0, v1, v2, v3, v4].getD i 0) (hSz s') (hPk (hLng (fun i => Lx.getD i 0) (hSz s'))) (hSz s')) v3)))])
  refine g_aload C S dsm_537 (pc' := 539) rfl rfl rfl ?_
  refine g_iload C S dsm_539 (pc' := 541) rfl rfl ?_
  refine g_iconst C S (3 : Int32) dsm_541 (pc' := 542) rfl rfl ?_
  refine g_callS C S (rm := ({ frames := 1, cells := 0, slots := 0, locals := 20 } : Room)) (W := 2) dsm_542 (hw _ (List.mem_of_getElem? (i := 81) rfl)) (hw _ (List.mem_of_getElem? (i := 82) rfl)) (hw _ (List.mem_of_getElem? (i := 33) rfl)) (hw _ (List.mem_of_getElem? (i := 83) rfl)) (by decide) (c_exp l' Z a0 hw aL h312 n0 (fun i => Lx.getD i 0) (hSz s') 3 hn5 (by decide) hl4 A_aL) (argsL := [(.ref aL), (.int (Int32.ofNat (hSz s'))), (.int (3 : Int32))]) (r := [(.long (hDec (hPk (hLng (fun i => Lx.getD i 0) (hSz s'))) ((hCo (fun i => Lx.getD i 0) (fun i => [v0, v1, v2, v3, v4].getD i 0) (hSz s') (hPk (hLng (fun i => Lx.getD i 0) (hSz s'))) (hSz s')) v3)))]) rfl (lenOf pd_13 rfl) rfl (Nat.le_of_eq rfl) (by decide) (by decide) (by decide) (by decide) (pc' := 545) rfl (fun T320 h320 v320 q320 S => ?_)
  obtain ⟨rfl, e320⟩ := q320; rw [e320] at S
  show Gl p e below s _ n0 _ T320 (mkF m 545 #[.val (.ref o), .val (.int p2), .val (.int p3), .val (.int (Int32.ofNat q)), .val (.ref a230), .val (.ref a287), .val (.int (Int32.ofNat s')), .val (.int (Int32.ofNat (hSz s'))), .val (.ref aL), .val (.int (Int32.ofNat v0)), .val (.int (Int32.ofNat v1)), .val (.int (Int32.ofNat v2)), .val (.int (Int32.ofNat v3)), .val (.int (Int32.ofNat v4)), .val (.ref a300), .val (.ref a306)] [(.long (hExp (fun i => Lx.getD i 0) (hSz s') 3)), (.long (hDec (hPk (hLng (fun i => Lx.getD i 0) (hSz s'))) ((hCo (fun i => Lx.getD i 0) (fun i => [v0, v1, v2, v3, v4].getD i 0) (hSz s') (hPk (hLng (fun i => Lx.getD i 0) (hSz s'))) (hSz s')) v3)))])
  refine g_lcmp C S dsm_545 (pc' := 546) rfl ?_
  refine g_lif_ne C S dsm_546 (pc' := 590) (pf := 549) (by decide) (by decide) rfl (fun hc546 => absurd (sm_code (l := (fun i => Lx.getD i 0)) (V := (fun i => [v0, v1, v2, v3, v4].getD i 0)) hg hAs hn5 hcd (i := 3) (by decide)) hc546) (fun hc546 => ?_)
  refine g_aloadN C S dsm_549 (pc' := 550) rfl rfl rfl ?_
  refine g_iload C S dsm_550 (pc' := 552) rfl rfl ?_
  refine g_callV C S (rm := ({ frames := 0, cells := 0, slots := 0, locals := 0 } : Room)) (W := 0) dsm_552 (hw _ (List.mem_of_getElem? (i := 76) rfl)) (hw _ (List.mem_of_getElem? (i := 77) rfl)) (notFace_of_selects (args := #[]) (mvT C.2.1 (hw _ (List.mem_of_getElem? (i := 79) rfl)))) (hw _ (List.mem_of_getElem? (i := 79) rfl)) (hw _ (List.mem_of_getElem? (i := 78) rfl)) (hw _ (List.mem_of_getElem? (i := 2) rfl)) (hw _ (List.mem_of_getElem? (i := 80) rfl)) (by decide) rfl X312 (c_cod l' Z a0 hw o h312 n0 co (hPk (hLng (fun i => Lx.getD i 0) (hSz s'))) (hCo (fun i => Lx.getD i 0) (fun i => [v0, v1, v2, v3, v4].getD i 0) (hSz s') (hPk (hLng (fun i => Lx.getD i 0) (hSz s'))) (hSz s')) v4 (by omega) G_pk G_co B_co) (argsL := [(.int (Int32.ofNat v4))]) (r := []) rfl (lenOf pd_10 rfl) rfl (Nat.le_of_eq rfl) (by decide) (by decide) (by decide) (by decide) (pc' := 555) rfl (fun T321 h321 v321 q321 S => ?_)
  obtain ⟨rfl, e321⟩ := q321; rw [e321] at S
  show Gl p e below s _ n0 _ T321 (mkF m 555 #[.val (.ref o), .val (.int p2), .val (.int p3), .val (.int (Int32.ofNat q)), .val (.ref a230), .val (.ref a287), .val (.int (Int32.ofNat s')), .val (.int (Int32.ofNat (hSz s'))), .val (.ref aL), .val (.int (Int32.ofNat v0)), .val (.int (Int32.ofNat v1)), .val (.int (Int32.ofNat v2)), .val (.int (Int32.ofNat v3)), .val (.int (Int32.ofNat v4)), .val (.ref a300), .val (.ref a306)] [(.long (hDec (hPk (hLng (fun i => Lx.getD i 0) (hSz s'))) ((hCo (fun i => Lx.getD i 0) (fun i => [v0, v1, v2, v3, v4].getD i 0) (hSz s') (hPk (hLng (fun i => Lx.getD i 0) (hSz s'))) (hSz s')) v4)))])
  refine g_aload C S dsm_555 (pc' := 557) rfl rfl rfl ?_
  refine g_iload C S dsm_557 (pc' := 559) rfl rfl ?_
  refine g_iconst C S (4 : Int32) dsm_559 (pc' := 560) rfl rfl ?_
  refine g_callS C S (rm := ({ frames := 1, cells := 0, slots := 0, locals := 20 } : Room)) (W := 2) dsm_560 (hw _ (List.mem_of_getElem? (i := 81) rfl)) (hw _ (List.mem_of_getElem? (i := 82) rfl)) (hw _ (List.mem_of_getElem? (i := 33) rfl)) (hw _ (List.mem_of_getElem? (i := 83) rfl)) (by decide) (c_exp l' Z a0 hw aL h312 n0 (fun i => Lx.getD i 0) (hSz s') 4 hn5 (by decide) hl4 A_aL) (argsL := [(.ref aL), (.int (Int32.ofNat (hSz s'))), (.int (4 : Int32))]) (r := [(.long (hDec (hPk (hLng (fun i => Lx.getD i 0) (hSz s'))) ((hCo (fun i => Lx.getD i 0) (fun i => [v0, v1, v2, v3, v4].getD i 0) (hSz s') (hPk (hLng (fun i => Lx.getD i 0) (hSz s'))) (hSz s')) v4)))]) rfl (lenOf pd_13 rfl) rfl (Nat.le_of_eq rfl) (by decide) (by decide) (by decide) (by decide) (pc' := 563) rfl (fun T322 h322 v322 q322 S => ?_)
  obtain ⟨rfl, e322⟩ := q322; rw [e322] at S
  show Gl p e below s _ n0 _ T322 (mkF m 563 #[.val (.ref o), .val (.int p2), .val (.int p3), .val (.int (Int32.ofNat q)), .val (.ref a230), .val (.ref a287), .val (.int (Int32.ofNat s')), .val (.int (Int32.ofNat (hSz s'))), .val (.ref aL), .val (.int (Int32.ofNat v0)), .val (.int (Int32.ofNat v1)), .val (.int (Int32.ofNat v2)), .val (.int (Int32.ofNat v3)), .val (.int (Int32.ofNat v4)), .val (.ref a300), .val (.ref a306)] [(.long (hExp (fun i => Lx.getD i 0) (hSz s') 4)), (.long (hDec (hPk (hLng (fun i => Lx.getD i 0) (hSz s'))) ((hCo (fun i => Lx.getD i 0) (fun i => [v0, v1, v2, v3, v4].getD i 0) (hSz s') (hPk (hLng (fun i => Lx.getD i 0) (hSz s'))) (hSz s')) v4)))])
  refine g_lcmp C S dsm_563 (pc' := 564) rfl ?_
  refine g_lif_ne C S dsm_564 (pc' := 590) (pf := 567) (by decide) (by decide) rfl (fun hc564 => absurd (sm_code (l := (fun i => Lx.getD i 0)) (V := (fun i => [v0, v1, v2, v3, v4].getD i 0)) hg hAs hn5 hcd (i := 4) (by decide)) hc564) (fun hc564 => ?_)
  refine g_aloadN C S dsm_567 (pc' := 568) rfl rfl rfl ?_
  refine g_iloadN C S dsm_568 (pc' := 569) rfl rfl ?_
  refine g_callV C S (rm := ({ frames := 0, cells := 0, slots := 0, locals := 0 } : Room)) (W := 0) dsm_569 (hw _ (List.mem_of_getElem? (i := 76) rfl)) (hw _ (List.mem_of_getElem? (i := 77) rfl)) (notFace_of_selects (args := #[]) (mvT C.2.1 (hw _ (List.mem_of_getElem? (i := 79) rfl)))) (hw _ (List.mem_of_getElem? (i := 79) rfl)) (hw _ (List.mem_of_getElem? (i := 78) rfl)) (hw _ (List.mem_of_getElem? (i := 2) rfl)) (hw _ (List.mem_of_getElem? (i := 80) rfl)) (by decide) rfl X312 (c_cod l' Z a0 hw o h312 n0 co (hPk (hLng (fun i => Lx.getD i 0) (hSz s'))) (hCo (fun i => Lx.getD i 0) (fun i => [v0, v1, v2, v3, v4].getD i 0) (hSz s') (hPk (hLng (fun i => Lx.getD i 0) (hSz s'))) (hSz s')) q (by omega) G_pk G_co B_co) (argsL := [(.int (Int32.ofNat q))]) (r := []) rfl (lenOf pd_10 rfl) rfl (Nat.le_of_eq rfl) (by decide) (by decide) (by decide) (by decide) (pc' := 572) rfl (fun T323 h323 v323 q323 S => ?_)
  obtain ⟨rfl, e323⟩ := q323; rw [e323] at S
  show Gl p e below s _ n0 _ T323 (mkF m 572 #[.val (.ref o), .val (.int p2), .val (.int p3), .val (.int (Int32.ofNat q)), .val (.ref a230), .val (.ref a287), .val (.int (Int32.ofNat s')), .val (.int (Int32.ofNat (hSz s'))), .val (.ref aL), .val (.int (Int32.ofNat v0)), .val (.int (Int32.ofNat v1)), .val (.int (Int32.ofNat v2)), .val (.int (Int32.ofNat v3)), .val (.int (Int32.ofNat v4)), .val (.ref a300), .val (.ref a306)] [(.long (hDec (hPk (hLng (fun i => Lx.getD i 0) (hSz s'))) ((hCo (fun i => Lx.getD i 0) (fun i => [v0, v1, v2, v3, v4].getD i 0) (hSz s') (hPk (hLng (fun i => Lx.getD i 0) (hSz s'))) (hSz s')) q)))])
  refine g_aload C S dsm_572 (pc' := 574) rfl rfl rfl ?_
  refine g_iload C S dsm_574 (pc' := 576) rfl rfl ?_
  refine g_aload C S dsm_576 (pc' := 578) rfl rfl rfl ?_
  refine g_iloadN C S dsm_578 (pc' := 579) rfl rfl ?_
  refine g_callS C S (rm := ({ frames := 2, cells := 0, slots := 0, locals := 34 } : Room)) (W := 2) dsm_579 (hw _ (List.mem_of_getElem? (i := 87) rfl)) (hw _ (List.mem_of_getElem? (i := 88) rfl)) (hw _ (List.mem_of_getElem? (i := 33) rfl)) (hw _ (List.mem_of_getElem? (i := 89) rfl)) (by decide) (c_exa l' Z a0 hw aL a300 h312 n0 (fun i => Lx.getD i 0) (hSz s') q v0 v1 v2 v3 v4 _ hn5 hq (by omega) (by omega) (by omega) (by omega) (by omega) rfl rfl rfl rfl rfl hl4 A_aL A_a300) (argsL := [(.ref aL), (.int (Int32.ofNat (hSz s'))), (.ref a300), (.int (Int32.ofNat q))]) (r := [(.long (hDec (hPk (hLng (fun i => Lx.getD i 0) (hSz s'))) ((hCo (fun i => Lx.getD i 0) (fun i => [v0, v1, v2, v3, v4].getD i 0) (hSz s') (hPk (hLng (fun i => Lx.getD i 0) (hSz s'))) (hSz s')) q)))]) rfl (lenOf pd_15 rfl) rfl (Nat.le_of_eq rfl) (by decide) (by decide) (by decide) (by decide) (pc' := 582) rfl (fun T324 h324 v324 q324 S => ?_)
  obtain ⟨rfl, e324⟩ := q324; rw [e324] at S
  show Gl p e below s _ n0 _ T324 (mkF m 582 #[.val (.ref o), .val (.int p2), .val (.int p3), .val (.int (Int32.ofNat q)), .val (.ref a230), .val (.ref a287), .val (.int (Int32.ofNat s')), .val (.int (Int32.ofNat (hSz s'))), .val (.ref aL), .val (.int (Int32.ofNat v0)), .val (.int (Int32.ofNat v1)), .val (.int (Int32.ofNat v2)), .val (.int (Int32.ofNat v3)), .val (.int (Int32.ofNat v4)), .val (.ref a300), .val (.ref a306)] [(.long (hExA (fun i => Lx.getD i 0) (hSz s') v0 v1 v2 v3 v4 q)), (.long (hDec (hPk (hLng (fun i => Lx.getD i 0) (hSz s'))) ((hCo (fun i => Lx.getD i 0) (fun i => [v0, v1, v2, v3, v4].getD i 0) (hSz s') (hPk (hLng (fun i => Lx.getD i 0) (hSz s'))) (hSz s')) q)))])
  refine g_lcmp C S dsm_582 (pc' := 583) rfl ?_
  refine g_lif_ne C S dsm_583 (pc' := 590) (pf := 586) (by decide) (by decide) rfl (fun hc583 => absurd (sm_at (l := (fun i => Lx.getD i 0)) (V := (fun i => [v0, v1, v2, v3, v4].getD i 0)) hg hAs hn5 hcd) hc583) (fun hc583 => ?_)
  refine g_iconst C S (1 : Int32) dsm_586 (pc' := 587) rfl rfl ?_
  refine g_goto C S dsm_587 (pc' := 591) (by decide) (by decide) ?_
  exact g_retZ C S dsm_591 (by decide) (by decide) (by decide) (rfl)
theorem nd7 {x2 x3 x4 x5 x6 x7 x8 : Nat} (h3 : x2 < x3) (h4 : x3 < x4) (h5 : x4 < x5) (h6 : x5 < x6) (h7 : x6 < x7) (h8 : x7 < x8) : [x2, x3, x4, x5, x6, x7, x8].Nodup := by
  simp only [List.nodup_cons, List.mem_cons, List.not_mem_nil, or_false, not_or, List.nodup_nil, not_false_eq_true, and_true]; omega
theorem pd_16 : parseMethodDescriptor "(Lleafpress/HuffmanCode;III)Z" = some ⟨[(.object "leafpress/HuffmanCode"), .int, .int, .int], some .boolean⟩ := by decide +kernel
set_option maxRecDepth 65536 in
set_option maxHeartbeats 40000000 in
theorem c_law (l' : Launch) (Z : State) (a0 : Array Value) (hw : ∀ d ∈ tables_1, d.before a0 Z = true) (p1 : Int32) (p2 : Int32) (p3 : Int32) (h0 : Heap) (n0 : Nat) (Zn : n0 ≤ h0.size) :
    Con l' Z x code maxLocals ret room_1 #[(.int p1), (.int p2), (.int p3)] h0 n0 (fun v h => v = some (.int 1)) := by
  refine Con.of (plainFor_of_name (by first | (simp [plainName, overriddenIn, x]; done) | decide +kernel)) (L0 := #[.val (.int p1), .val (.int p2), .val (.int p3), .unset]) (fun m => by first | (simp [entryFrame, mkF, argsToLocals, Value.category, maxLocals]; done) | rfl) ?_
  intro p e s m below meth c T C S
  refine g_new C S at_0 (hw _ (List.mem_of_getElem? (i := 0) rfl)) (hw _ (List.mem_of_getElem? (i := 1) rfl)) (hw _ (List.mem_of_getElem? (i := 2) rfl)) (by decide) (by decide) (pc' := 3) rfl (fun T325 h325 a325 S g325 E325 X325 D325 => ?_)
  have ge_a325 : n0 ≤ a325 := ge_of g325 Zn
  have Zn := Nat.le_trans Zn E325.1
  have F_m_aSymbols_a325 : Fld Z h325 a325 "leafpress/HuffmanCode" "m_aSymbols" "[I" .null := D325 (Or.inr (hw _ (List.mem_of_getElem? (i := 11) rfl))) (ty := (.array .int)) (by decide)
  have F_m_aCodes_a325 : Fld Z h325 a325 "leafpress/HuffmanCode" "m_aCodes" "[J" .null := D325 (Or.inr (hw _ (List.mem_of_getElem? (i := 14) rfl))) (ty := (.array .long)) (by decide)
  have F_m_aLengths_a325 : Fld Z h325 a325 "leafpress/HuffmanCode" "m_aLengths" "[B" .null := D325 (Or.inr (hw _ (List.mem_of_getElem? (i := 17) rfl))) (ty := (.array .byte)) (by decide)
  have F_m_aLengthCounts_a325 : Fld Z h325 a325 "leafpress/HuffmanCode" "m_aLengthCounts" "[I" .null := D325 (Or.inr (hw _ (List.mem_of_getElem? (i := 19) rfl))) (ty := (.array .int)) (by decide)
  have F_m_aFirstCodes_a325 : Fld Z h325 a325 "leafpress/HuffmanCode" "m_aFirstCodes" "[J" .null := D325 (Or.inr (hw _ (List.mem_of_getElem? (i := 21) rfl))) (ty := (.array .long)) (by decide)
  have F_m_aFirstSymbols_a325 : Fld Z h325 a325 "leafpress/HuffmanCode" "m_aFirstSymbols" "[I" .null := D325 (Or.inr (hw _ (List.mem_of_getElem? (i := 23) rfl))) (ty := (.array .int)) (by decide)
  have F_m_nValues_a325 : Fld Z h325 a325 "leafpress/HuffmanCode" "m_nValues" "I" (.int (0 : Int32)) := D325 (Or.inl (hw _ (List.mem_of_getElem? (i := 64) rfl))) (ty := .int) (by decide)
  have F_m_nLongest_a325 : Fld Z h325 a325 "leafpress/HuffmanCode" "m_nLongest" "I" (.int (0 : Int32)) := D325 (Or.inl (hw _ (List.mem_of_getElem? (i := 73) rfl))) (ty := .int) (by decide)
  have F_m_bPacked_a325 : Fld Z h325 a325 "leafpress/HuffmanCode" "m_bPacked" "Z" (.int (0 : Int32)) := D325 (Or.inl (hw _ (List.mem_of_getElem? (i := 75) rfl))) (ty := .boolean) (by decide)
  refine g_dup C S at_3 (pc' := 4) rfl rfl ?_
  refine g_callI C S (rm := ({ frames := 2, cells := 6, slots := 968, locals := 30 } : Room)) (W := 1) at_4 rfl (hw _ (List.mem_of_getElem? (i := 3) rfl)) (hw _ (List.mem_of_getElem? (i := 4) rfl)) (hw _ (List.mem_of_getElem? (i := 2) rfl)) (hw _ (List.mem_of_getElem? (i := 5) rfl)) (by decide) (c_ini l' Z a0 hw a325 h325 n0 Zn ge_a325 X325 F_m_aSymbols_a325 F_m_aCodes_a325 F_m_aLengths_a325 F_m_aLengthCounts_a325 F_m_aFirstCodes_a325 F_m_aFirstSymbols_a325 F_m_nLongest_a325 F_m_nValues_a325 F_m_bPacked_a325) (argsL := []) (r := [(.ref a325)]) rfl (lenOf pd_6 rfl) rfl (Nat.le_of_eq rfl) (by decide) (by decide) (by decide) (by decide) (pc' := 7) rfl (fun T326 h326 v326 q326 S => ?_)
  have lt_o_sy0 := X325.lt
  obtain ⟨sy, co, le, lc, fa, fb, rfl, K326, Y326, F_m_aSymbols_a325, F_m_aCodes_a325, F_m_aLengths_a325, F_m_aLengthCounts_a325, F_m_aFirstCodes_a325, F_m_aFirstSymbols_a325, F_m_nLongest_a325, F_m_nValues_a325, F_m_bPacked_a325, A_sy, A_co, A_le, A_lc, A_fa, A_fb, sz_sy, lt_sy_co, lt_co_le, lt_le_lc, lt_lc_fa, lt_fa_fb, -, g_sy, g_co, g_le, g_lc, g_fa, g_fb⟩ := q326
  have lt_o_sy : a325 < sy := Nat.lt_of_lt_of_le lt_o_sy0 sz_sy
  have Zn := Nat.le_trans Zn K326.1
  show Gl p e below s _ n0 _ T326 (mkF m 7 #[.val (.int p1), .val (.int p2), .val (.int p3), .unset] [(.ref a325)])
  refine g_astoreN C S at_7 (pc' := 8) rfl rfl (L' := #[.val (.int p1), .val (.int p2), .val (.int p3), .val (.ref a325)]) rfl ?_
  refine g_iloadN C S at_8 (pc' := 9) rfl rfl ?_
  refine g_iconst C S (1 : Int32) at_9 (pc' := 10) rfl rfl ?_
  refine g_iand C S at_10 (pc' := 11) rfl ?_
  refine g_if_eq C S at_11 (pc' := 37) (pf := 14) (by decide) (by decide) rfl (fun hc11 => ?_) (fun hc11 => ?_)
  · refine g_aloadN C S at_37 (pc' := 38) rfl rfl rfl ?_
    refine g_iloadN C S at_38 (pc' := 39) rfl rfl ?_
    refine g_iconst C S (1 : Int32) at_39 (pc' := 40) rfl rfl ?_
    refine g_iushr C S at_40 (pc' := 41) rfl ?_
    refine g_iloadN C S at_41 (pc' := 42) rfl rfl ?_
    refine g_iloadN C S at_42 (pc' := 43) rfl rfl ?_
    refine g_sipush C S (255 : Int32) at_43 (pc' := 46) rfl rfl ?_
    refine g_iand C S at_46 (pc' := 47) rfl ?_
    obtain ⟨qq, hqq, eqq⟩ := own_and (p3) (255 : Int32) (k := 8) (by decide) (by decide)
    rw [eqq]
    refine g_callS C S (rm := ({ frames := 3, cells := 12, slots := 317, locals := 60 } : Room)) (W := 0) at_47 (hw _ (List.mem_of_getElem? (i := 31) rfl)) (hw _ (List.mem_of_getElem? (i := 32) rfl)) (hw _ (List.mem_of_getElem? (i := 33) rfl)) (hw _ (List.mem_of_getElem? (i := 34) rfl)) (by decide) (c_sma l' Z a0 hw a325 (((p1.toUInt32 >>> ((1 : Int32) &&& 31).toUInt32).toInt32)) (p2) h326 n0 qq hqq sy co le lc fa fb Zn ge_a325 g_sy g_co g_le g_lc g_fa g_fb (nd7 lt_o_sy lt_sy_co lt_co_le lt_le_lc lt_lc_fa lt_fa_fb) Y326 F_m_aSymbols_a325 F_m_aCodes_a325 F_m_aLengths_a325 F_m_aLengthCounts_a325 F_m_aFirstCodes_a325 F_m_aFirstSymbols_a325 F_m_nLongest_a325 F_m_nValues_a325 F_m_bPacked_a325 A_sy A_co A_le A_lc A_fa A_fb) (argsL := [(.ref a325), (.int ((p1.toUInt32 >>> ((1 : Int32) &&& 31).toUInt32).toInt32)), (.int p2), (.int (Int32.ofNat qq))]) (r := []) rfl (lenOf pd_16 rfl) rfl (Nat.le_of_eq rfl) (by decide) (by decide) (by decide) (by decide) (pc' := 50) rfl (fun T327 h327 v327 q327 S => ?_)
    obtain rfl := q327
    show Gl p e below s _ n0 _ T327 (mkF m 50 #[.val (.int p1), .val (.int p2), .val (.int p3), .val (.ref a325)] [(.int 1)])
    exact g_retZ C S at_50 (by decide) (by decide) (by decide) (rfl)
  · refine g_aloadN C S at_14 (pc' := 15) rfl rfl rfl ?_
    refine g_iloadN C S at_15 (pc' := 16) rfl rfl ?_
    refine g_iconst C S (1 : Int32) at_16 (pc' := 17) rfl rfl ?_
    refine g_iushr C S at_17 (pc' := 18) rfl ?_
    refine g_bipush C S (63 : Int32) at_18 (pc' := 20) rfl rfl ?_
    refine g_iand C S at_20 (pc' := 21) rfl ?_
    obtain ⟨kk, hkk, ekk⟩ := own_and (((p1.toUInt32 >>> ((1 : Int32) &&& 31).toUInt32).toInt32)) (63 : Int32) (k := 6) (by decide) (by decide)
    rw [ekk]
    refine g_iloadN C S at_21 (pc' := 22) rfl rfl ?_
    refine g_sipush C S (255 : Int32) at_22 (pc' := 25) rfl rfl ?_
    refine g_iand C S at_25 (pc' := 26) rfl ?_
    obtain ⟨qq, hqq, eqq⟩ := own_and (p3) (255 : Int32) (k := 8) (by decide) (by decide)
    rw [eqq]
    refine g_iloadN C S at_26 (pc' := 27) rfl rfl ?_
    refine g_bipush C S (8 : Int32) at_27 (pc' := 29) rfl rfl ?_
    refine g_iushr C S at_29 (pc' := 30) rfl ?_
    refine g_bipush C S (63 : Int32) at_30 (pc' := 32) rfl rfl ?_
    refine g_iand C S at_32 (pc' := 33) rfl ?_
    obtain ⟨rr, hrr, err⟩ := own_and (((p3.toUInt32 >>> ((8 : Int32) &&& 31).toUInt32).toInt32)) (63 : Int32) (k := 6) (by decide) (by decide)
    rw [err]
    refine g_callS C S (rm := ({ frames := 3, cells := 2, slots := 128, locals := 59 } : Room)) (W := 0) at_33 (hw _ (List.mem_of_getElem? (i := 90) rfl)) (hw _ (List.mem_of_getElem? (i := 91) rfl)) (hw _ (List.mem_of_getElem? (i := 33) rfl)) (hw _ (List.mem_of_getElem? (i := 92) rfl)) (by decide) (c_chn l' Z a0 hw a325 h326 n0 kk qq rr hkk hqq hrr sy co le lc fa fb Zn ge_a325 g_sy g_co g_le g_lc g_fa g_fb (nd7 lt_o_sy lt_sy_co lt_co_le lt_le_lc lt_lc_fa lt_fa_fb) Y326 F_m_aSymbols_a325 F_m_aCodes_a325 F_m_aLengths_a325 F_m_aLengthCounts_a325 F_m_aFirstCodes_a325 F_m_aFirstSymbols_a325 F_m_nLongest_a325 F_m_nValues_a325 F_m_bPacked_a325 A_sy A_co A_le A_lc A_fa A_fb) (argsL := [(.ref a325), (.int (Int32.ofNat kk)), (.int (Int32.ofNat qq)), (.int (Int32.ofNat rr))]) (r := []) rfl (lenOf pd_16 rfl) rfl (Nat.le_of_eq rfl) (by decide) (by decide) (by decide) (by decide) (pc' := 36) rfl (fun T328 h328 v328 q328 S => ?_)
    obtain rfl := q328
    show Gl p e below s _ n0 _ T328 (mkF m 36 #[.val (.int p1), .val (.int p2), .val (.int p3), .val (.ref a325)] [(.int 1)])
    exact g_retZ C S at_36 (by decide) (by decide) (by decide) (rfl)
set_option maxRecDepth 65536 in
set_option maxHeartbeats 40000000 in
theorem comes_1 {Post : Tables → Env → Array Value → State → Outcome → State → Prop} (hpost : ∀ tb e args s v u, (limb_1_1.after args s (.returned v) u = true ∧ limb_1_2.after args s (.returned v) u = true ∧ True) → FrameEnd s (.returned v) u (Jvm.fieldLocs frame_1_writes args s ++ Jvm.arrayLocs frame_1_arrays args s ++ Jvm.staticLocs frame_1_statics s) 48 2688 → Post tb e args s (.returned v) u) :
    ArmFor flags0 classFile x code maxLocals ret World_1 tables_1 room_1 Calls_1 rest_1 Pre_1 Post := by
  intro l hfl _ _ p e ha hc hk s m args below hf hA hF happ hP
  obtain ⟨hcalls, hrest, hpre⟩ := hP
  obtain ⟨-, -, -, hnamed, -, -, -, hat⟩ := (Spec.applies_iff hf).mp happ
  obtain ⟨hg, hn⟩ := and_e (Cond.before_iff.mp (show (Jvm.Cond.and given_1 narrow_1).before args s = true from hpre))
  obtain ⟨hcount, hg0⟩ := and_e hg
  obtain ⟨ha0, hg1⟩ := and_e hg0
  obtain ⟨ha1, hg2⟩ := and_e hg1
  have ha2 := hg2
  obtain ⟨w0, w1, w2, rfl⟩ : ∃ w0 w1 w2 : Value, args = #[w0, w1, w2] := by
    have hs : args.size = 3 := by simpa [Cond.value, given_1] using hcount
    obtain ⟨L⟩ := args
    match L, hs with
    | [w0, w1, w2], _ => exact ⟨w0, w1, w2, rfl⟩
  have hw := fun d (hd : d ∈ tables_1) => atoms_spec (ws := Jvm.Cond.code x code maxLocals ret :: tables_1) hat d (List.mem_cons_of_mem _ hd)
  obtain ⟨i0, ei0⟩ := is_v ha0
  obtain rfl : w0 = (.int i0) := Option.some.inj ei0
  obtain ⟨i1, ei1⟩ := is_v ha1
  obtain rfl : w1 = (.int i1) := Option.some.inj ei1
  obtain ⟨i2, ei2⟩ := is_v ha2
  obtain rfl : w2 = (.int i2) := Option.some.inj ei2
  obtain ⟨n, o, h1, h2, h3, _, L, rfl, ⟨rfl, N⟩, hq⟩ := c_law l s _ hw i0 i1 i2 s.heap s.heap.size (Nat.le_refl _) tables_1 p e ha hc hk s m _ below hf ((Spec.applies_iff_loose hf).mp happ).1 ⟨rfl, State.Warmed39.refl s, rfl⟩ trivial
  refine ⟨n, _, h1, h2, h3, hpost _ _ _ _ _ _ ⟨Cond.after_iff.mpr rfl, Cond.after_iff.mpr (eq_i res_at (Term.int_eval (1)) rfl), trivial⟩ ⟨hq.1, hq.2.1, (hq.2.2.sift fun y hy => Or.inr (N y hy)).mono (by decide) (by decide)⟩⟩
theorem main_1_1 : Claimed_1_1 := comes_1 fun _ _ _ _ _ _ h hF => ⟨h.1, hF⟩
theorem main_1_2 : Claimed_1_2 := comes_1 fun _ _ _ _ _ _ h hF => ⟨h.2.1, hF⟩
end Jvm.Pilot.@@N@@
namespace Jvm.Pilot.@@N@@
open Jvm Jvm.ClassFile Sem Op Lib Jvm.Free Jvm.Stand Jvm.Pilot.@@N@@.Jvm.D
/-! MADE BY PROGRAM (witnessworld.py) out of the Statement's table words and the real class files: 13 classes; the members and pool entries that the words name. The judged class is class 1, her method 1. -/
namespace start1
open Jvm.ClassFile
def u (s : String) : CpInfo := .utf8 (stringToUtf16 s)
/-- a pool by its gaps: so many unusable entries, then the entry; so many at the end -/
def gap : Nat → List CpInfo → List CpInfo
  | 0, r => r
  | n + 1, r => .unusable :: gap n r
def poolList (es : List (Nat × CpInfo)) (last : Nat) : List CpInfo := es.foldr (fun e r => gap e.1 (e.2 :: r)) (gap last [])
def pool (es : List (Nat × CpInfo)) (last : Nat) : Array CpInfo := ⟨poolList es last⟩
def fileOf (pool : Array CpInfo) (this : Nat) (attrs : Array Attribute := #[]) (ms : Array MethodInfo := #[]) (fl : Nat := 33) (sup : Nat := 0) (ifs : Array Nat := #[]) (fds : Array FieldInfo := #[]) : ClassFile where
  minorVersion := 0
  majorVersion := 65
  constantPool := pool
  accessFlags := fl
  thisClass := this
  superClass := sup
  interfaces := ifs
  fields := fds
  methods := ms
  attributes := attrs
def plain (name : String) (sup : Option ClassId) : Class where
  name := name
  kind := .ordinary
  loader := none
  accessFlags := 33
  super := sup
  interfaces := #[]
  cf := none
  fields := #[]
  methods := #[]
  instanceTypes := #[]
  staticTypes := #[]
  resolved := #[]
  callSites := []
  init := .initialized
  statics := none
  mirror := none

def pool0 : Array CpInfo := pool [(5, u "<init>"), (0, u "()V"), (1, .class_ 10), (1, u "java/lang/Object")] 113

def k0c0 : Code := { maxStack := 0, maxLocals := 1, code := object_method_1_code, exceptionTable := #[], attributes := #[] }
def k0m0 : Method := { name := "<init>", desc := "()V", sig := { parameters := [], returnType := none }, accessFlags := 1, code := some k0c0 }
/-- java/lang/Object -/
def k0 : Class := { plain "java/lang/Object" none with
  accessFlags := 33
  interfaces := #[]
  cf := some (fileOf pool0 8 #[] #[{ accessFlags := 1, nameIndex := 5, descriptorIndex := 6, attributes := #[] }] 33 0 #[] #[])
  fields := #[]
  methods := #[k0m0]
  instanceTypes := #[]
  staticTypes := #[]
  resolved := Array.replicate 124 none
  statics := none }

def pool1 : Array CpInfo := pool [(2, .class_ 4), (0, .nameAndType 5 6), (0, u "java/lang/Object"), (0, u "<init>"), (0, u "()V"), (0, .class_ 8), (0, u "leafpress/HuffmanCode"), (0, .methodref 7 3), (0, .methodref 11 12), (0, .class_ 13), (0, .nameAndType 14 15), (0, u "leafpress/HuffmanCodeCodePinLaw"), (0, u "chain"), (0, u "(Lleafpress/HuffmanCode;III)Z"), (0, .methodref 11 17), (0, .nameAndType 18 15), (0, u "small"), (0, .methodref 7 20), (0, .nameAndType 21 22), (0, u "fill"), (0, u "([II[I)V"), (0, .methodref 7 24), (0, .nameAndType 25 26), (0, u "code"), (0, u "(I)J"), (0, .methodref 11 28), (0, .nameAndType 29 30), (0, u "chainCode"), (0, u "(II)J"), (0, .long 2), (1, .class_ 34), (0, u "[I"), (0, .methodref 11 36), (0, .nameAndType 37 38), (0, u "swapIf"), (0, u "([IIII)V"), (0, .methodref 11 40), (0, .nameAndType 41 42), (0, u "expected"), (0, u "([III)J"), (0, .methodref 11 44), (0, .nameAndType 45 46), (0, u "expectedAt"), (0, u "([II[II)J"), (0, .methodref 11 48), (0, .nameAndType 49 50), (0, u "term"), (0, u "([IIII)J"), (2, u "law"), (0, u "(III)Z")] 5

def k1m0 : Method := { name := "<init>", desc := "()V", sig := { parameters := [], returnType := none }, accessFlags := 1, code := none }
def k1c1 : Code := { maxStack := 5, maxLocals := 4, code := code, exceptionTable := #[], attributes := #[] }
def k1m1 : Method := { name := "law", desc := "(III)Z", sig := { parameters := [.int, .int, .int], returnType := some .boolean }, accessFlags := 9, code := some k1c1 }
def k1c2 : Code := { maxStack := 4, maxLocals := 6, code := method_3_code, exceptionTable := #[], attributes := #[] }
def k1m2 : Method := { name := "chain", desc := "(Lleafpress/HuffmanCode;III)Z", sig := { parameters := [(.object "leafpress/HuffmanCode"), .int, .int, .int], returnType := some .boolean }, accessFlags := 10, code := some k1c2 }
def k1c3 : Code := { maxStack := 4, maxLocals := 2, code := method_4_code, exceptionTable := #[], attributes := #[] }
def k1m3 : Method := { name := "chainCode", desc := "(II)J", sig := { parameters := [.int, .int], returnType := some .long }, accessFlags := 10, code := some k1c3 }
def k1c4 : Code := { maxStack := 7, maxLocals := 16, code := method_5_code, exceptionTable := #[], attributes := #[] }
def k1m4 : Method := { name := "small", desc := "(Lleafpress/HuffmanCode;III)Z", sig := { parameters := [(.object "leafpress/HuffmanCode"), .int, .int, .int], returnType := some .boolean }, accessFlags := 10, code := some k1c4 }
def k1c5 : Code := { maxStack := 4, maxLocals := 6, code := method_6_code, exceptionTable := #[], attributes := #[] }
def k1m5 : Method := { name := "swapIf", desc := "([IIII)V", sig := { parameters := [(.array .int), .int, .int, .int], returnType := none }, accessFlags := 10, code := some k1c5 }
def k1c6 : Code := { maxStack := 5, maxLocals := 4, code := method_7_code, exceptionTable := #[], attributes := #[] }
def k1m6 : Method := { name := "term", desc := "([IIII)J", sig := { parameters := [(.array .int), .int, .int, .int], returnType := some .long }, accessFlags := 10, code := some k1c6 }
def k1c7 : Code := { maxStack := 6, maxLocals := 3, code := method_8_code, exceptionTable := #[], attributes := #[] }
def k1m7 : Method := { name := "expected", desc := "([III)J", sig := { parameters := [(.array .int), .int, .int], returnType := some .long }, accessFlags := 10, code := some k1c7 }
def k1c8 : Code := { maxStack := 3, maxLocals := 4, code := method_9_code, exceptionTable := #[], attributes := #[] }
def k1m8 : Method := { name := "expectedAt", desc := "([II[II)J", sig := { parameters := [(.array .int), .int, (.array .int), .int], returnType := some .long }, accessFlags := 10, code := some k1c8 }
/-- leafpress/HuffmanCodeCodePinLaw -/
def k1 : Class := { plain "leafpress/HuffmanCodeCodePinLaw" (some 0) with
  accessFlags := 49
  interfaces := #[]
  cf := some (fileOf pool1 11 #[] #[{ accessFlags := 1, nameIndex := 5, descriptorIndex := 6, attributes := #[] }, { accessFlags := 9, nameIndex := 53, descriptorIndex := 54, attributes := #[] }, { accessFlags := 10, nameIndex := 14, descriptorIndex := 15, attributes := #[] }, { accessFlags := 10, nameIndex := 29, descriptorIndex := 30, attributes := #[] }, { accessFlags := 10, nameIndex := 18, descriptorIndex := 15, attributes := #[] }, { accessFlags := 10, nameIndex := 37, descriptorIndex := 38, attributes := #[] }, { accessFlags := 10, nameIndex := 49, descriptorIndex := 50, attributes := #[] }, { accessFlags := 10, nameIndex := 41, descriptorIndex := 42, attributes := #[] }, { accessFlags := 10, nameIndex := 45, descriptorIndex := 46, attributes := #[] }] 49 2 #[] #[])
  fields := #[]
  methods := #[k1m0, k1m1, k1m2, k1m3, k1m4, k1m5, k1m6, k1m7, k1m8]
  instanceTypes := #[]
  staticTypes := #[]
  resolved := Array.replicate 60 none
  statics := none }

def pool2 : Array CpInfo := pool [(2, .class_ 4), (0, .nameAndType 5 6), (0, u "leafpress/HuffmanCode"), (0, u "<init>"), (0, u "()V"), (2, u "fill"), (0, u "([II[I)V"), (0, .methodref 12 3), (0, .class_ 13), (0, u "java/lang/Object"), (0, .fieldref 2 15), (0, .nameAndType 16 17), (0, u "m_aSymbols"), (0, u "[I"), (0, .fieldref 2 19), (0, .nameAndType 20 21), (0, u "m_aCodes"), (0, u "[J"), (2, .fieldref 2 25), (0, .nameAndType 26 27), (0, u "m_aLengths"), (0, u "[B"), (0, .fieldref 2 29), (0, .nameAndType 30 17), (0, u "m_aLengthCounts"), (0, .fieldref 2 32), (0, .nameAndType 33 21), (0, u "m_aFirstCodes"), (0, .fieldref 2 35), (0, .nameAndType 36 17), (0, u "m_aFirstSymbols"), (0, .methodref 38 39), (0, .class_ 40), (0, .nameAndType 9 41), (0, u "java/util/Arrays"), (0, u "([BIIB)V"), (0, .methodref 38 43), (0, .nameAndType 9 44), (0, u "([II)V"), (0, .methodref 2 46), (0, .nameAndType 47 48), (0, u "count"), (0, u "([II[I[I)I"), (0, .methodref 2 50), (0, .nameAndType 51 6), (0, u "forget"), (0, .methodref 2 53), (0, .nameAndType 54 55), (0, u "place"), (0, u "([II[II)V"), (6, .fieldref 2 63), (0, .nameAndType 64 65), (0, u "m_nValues"), (0, u "I"), (0, .methodref 2 67), (0, .nameAndType 68 69), (0, u "canonical"), (0, u "([II[I[II[J[I[I)V"), (0, .fieldref 2 71), (0, .nameAndType 72 65), (0, u "m_nLongest"), (2, .fieldref 2 76), (0, .nameAndType 77 78), (0, u "m_bPacked"), (0, u "Z"), (9, .methodref 89 90), (0, .class_ 91), (0, .nameAndType 92 93), (0, u "java/lang/Math"), (0, u "max"), (0, u "(II)I"), (0, .methodref 2 95), (0, .nameAndType 96 97), (0, u "checkComplete"), (0, u "([III)V"), (0, .long 2), (5, .class_ 105), (0, u "leafpress/HuffmanCode$Maker"), (39, u "LONG_LITTLE_ENDIAN"), (0, u "Ljava/lang/invoke/VarHandle;"), (16, u "code"), (0, u "(I)J"), (42, u "IDENTITY"), (0, u "Lleafpress/HuffmanCode;"), (13, u "MAX_LENGTH"), (31, .class_ 255), (0, u "leafpress/HuffmanCode$LookupTable")] 22

def k2c0 : Code := { maxStack := 4, maxLocals := 1, code := prog_31_method_2_code, exceptionTable := #[], attributes := #[] }
def k2m0 : Method := { name := "<init>", desc := "()V", sig := { parameters := [], returnType := none }, accessFlags := 0, code := some k2c0 }
def k2c1 : Code := { maxStack := 5, maxLocals := 5, code := prog_31_method_3_code, exceptionTable := #[], attributes := #[] }
def k2m1 : Method := { name := "fill", desc := "([II[I)V", sig := { parameters := [(.array .int), .int, (.array .int)], returnType := none }, accessFlags := 0, code := some k2c1 }
def k2c2 : Code := { maxStack := 4, maxLocals := 2, code := prog_31_method_5_code, exceptionTable := #[], attributes := #[] }
def k2m2 : Method := { name := "forget", desc := "()V", sig := { parameters := [], returnType := none }, accessFlags := 2, code := some k2c2 }
def k2c3 : Code := { maxStack := 8, maxLocals := 10, code := prog_31_method_6_code, exceptionTable := #[], attributes := #[] }
def k2m3 : Method := { name := "place", desc := "([II[II)V", sig := { parameters := [(.array .int), .int, (.array .int), .int], returnType := none }, accessFlags := 2, code := some k2c3 }
def k2c4 : Code := { maxStack := 4, maxLocals := 9, code := prog_31_method_7_code, exceptionTable := #[], attributes := #[] }
def k2m4 : Method := { name := "count", desc := "([II[I[I)I", sig := { parameters := [(.array .int), .int, (.array .int), (.array .int)], returnType := some .int }, accessFlags := 10, code := some k2c4 }
def k2c5 : Code := { maxStack := 6, maxLocals := 11, code := prog_31_method_8_code, exceptionTable := #[], attributes := #[] }
def k2m5 : Method := { name := "canonical", desc := "([II[I[II[J[I[I)V", sig := { parameters := [(.array .int), .int, (.array .int), (.array .int), .int, (.array .long), (.array .int), (.array .int)], returnType := none }, accessFlags := 10, code := some k2c5 }
def k2c6 : Code := { maxStack := 4, maxLocals := 7, code := prog_31_method_9_code, exceptionTable := #[], attributes := #[] }
def k2m6 : Method := { name := "checkComplete", desc := "([III)V", sig := { parameters := [(.array .int), .int, .int], returnType := none }, accessFlags := 10, code := some k2c6 }
def k2c7 : Code := { maxStack := 3, maxLocals := 2, code := prog_31_method_18_code, exceptionTable := #[], attributes := #[] }
def k2m7 : Method := { name := "code", desc := "(I)J", sig := { parameters := [.int], returnType := some .long }, accessFlags := 0, code := some k2c7 }
/-- leafpress/HuffmanCode -/
def k2 : Class := { plain "leafpress/HuffmanCode" (some 0) with
  accessFlags := 48
  interfaces := #[]
  cf := some (fileOf pool2 2 #[.nestMembers #[254, 104]] #[{ accessFlags := 0, nameIndex := 5, descriptorIndex := 6, attributes := #[] }, { accessFlags := 0, nameIndex := 9, descriptorIndex := 10, attributes := #[] }, { accessFlags := 2, nameIndex := 51, descriptorIndex := 6, attributes := #[] }, { accessFlags := 2, nameIndex := 54, descriptorIndex := 55, attributes := #[] }, { accessFlags := 10, nameIndex := 47, descriptorIndex := 48, attributes := #[] }, { accessFlags := 10, nameIndex := 68, descriptorIndex := 69, attributes := #[] }, { accessFlags := 10, nameIndex := 96, descriptorIndex := 97, attributes := #[] }, { accessFlags := 0, nameIndex := 163, descriptorIndex := 164, attributes := #[] }] 48 12 #[] #[{ accessFlags := 24, nameIndex := 222, descriptorIndex := 65, attributes := #[] }, { accessFlags := 24, nameIndex := 207, descriptorIndex := 208, attributes := #[] }, { accessFlags := 26, nameIndex := 145, descriptorIndex := 146, attributes := #[] }, { accessFlags := 2, nameIndex := 72, descriptorIndex := 65, attributes := #[] }, { accessFlags := 2, nameIndex := 64, descriptorIndex := 65, attributes := #[] }, { accessFlags := 18, nameIndex := 16, descriptorIndex := 17, attributes := #[] }, { accessFlags := 18, nameIndex := 20, descriptorIndex := 21, attributes := #[] }, { accessFlags := 2, nameIndex := 77, descriptorIndex := 78, attributes := #[] }, { accessFlags := 18, nameIndex := 26, descriptorIndex := 27, attributes := #[] }, { accessFlags := 18, nameIndex := 30, descriptorIndex := 17, attributes := #[] }, { accessFlags := 18, nameIndex := 33, descriptorIndex := 21, attributes := #[] }, { accessFlags := 18, nameIndex := 36, descriptorIndex := 17, attributes := #[] }])
  fields := #[{ name := "MAX_LENGTH", type := .int, accessFlags := 24, slot := 0, constantValue := 0 }, { name := "IDENTITY", type := (.object "leafpress/HuffmanCode"), accessFlags := 24, slot := 1, constantValue := 0 }, { name := "LONG_LITTLE_ENDIAN", type := (.object "java/lang/invoke/VarHandle"), accessFlags := 26, slot := 2, constantValue := 0 }, { name := "m_nLongest", type := .int, accessFlags := 2, slot := 0, constantValue := 0 }, { name := "m_nValues", type := .int, accessFlags := 2, slot := 1, constantValue := 0 }, { name := "m_aSymbols", type := (.array .int), accessFlags := 18, slot := 2, constantValue := 0 }, { name := "m_aCodes", type := (.array .long), accessFlags := 18, slot := 3, constantValue := 0 }, { name := "m_bPacked", type := .boolean, accessFlags := 2, slot := 4, constantValue := 0 }, { name := "m_aLengths", type := (.array .byte), accessFlags := 18, slot := 5, constantValue := 0 }, { name := "m_aLengthCounts", type := (.array .int), accessFlags := 18, slot := 6, constantValue := 0 }, { name := "m_aFirstCodes", type := (.array .long), accessFlags := 18, slot := 7, constantValue := 0 }, { name := "m_aFirstSymbols", type := (.array .int), accessFlags := 18, slot := 8, constantValue := 0 }]
  methods := #[k2m0, k2m1, k2m2, k2m3, k2m4, k2m5, k2m6, k2m7]
  instanceTypes := #[.int, .int, (.array .int), (.array .long), .boolean, (.array .byte), (.array .int), (.array .long), (.array .int)]
  staticTypes := #[.int, (.object "leafpress/HuffmanCode"), (.object "java/lang/invoke/VarHandle")]
  resolved := Array.replicate 278 none
  statics := none }

def pool3 : Array CpInfo := pool [(2, .class_ 4), (1, u "java/lang/Object"), (0, u "<init>"), (0, u "()V"), (6, .methodref 14 15), (0, .class_ 16), (0, .nameAndType 17 18), (0, u "java/util/Arrays"), (0, u "rangeCheck"), (0, u "(III)V"), (55, .class_ 76), (1, u "java/util/Arrays$NaturalOrder"), (36, .class_ 115), (1, u "java/util/Arrays$LegacyMergeSort"), (1, u "Z"), (257, .class_ 376), (0, u "java/util/Arrays$ArrayList"), (68, u "$assertionsDisabled"), (269, u "MIN_ARRAY_SORT_GRAN"), (0, u "I"), (2, u "INSERTIONSORT_THRESHOLD"), (120, u "fill"), (4, u "([II)V"), (5, u "([BIIB)V"), (123, .class_ 976), (0, u "java/util/Arrays$ArrayItr")] 52

def k3m0 : Method := { name := "<init>", desc := "()V", sig := { parameters := [], returnType := none }, accessFlags := 2, code := none }
def k3c1 : Code := { maxStack := 4, maxLocals := 3, code := jdk_65_method_30_code, exceptionTable := #[], attributes := #[] }
def k3m1 : Method := { name := "rangeCheck", desc := "(III)V", sig := { parameters := [.int, .int, .int], returnType := none }, accessFlags := 8, code := some k3c1 }
def k3c2 : Code := { maxStack := 3, maxLocals := 4, code := jdk_65_method_103_code, exceptionTable := #[], attributes := #[] }
def k3m2 : Method := { name := "fill", desc := "([II)V", sig := { parameters := [(.array .int), .int], returnType := none }, accessFlags := 9, code := some k3c2 }
def k3c3 : Code := { maxStack := 3, maxLocals := 5, code := jdk_65_method_110_code, exceptionTable := #[], attributes := #[] }
def k3m3 : Method := { name := "fill", desc := "([BIIB)V", sig := { parameters := [(.array .byte), .int, .int, .byte], returnType := none }, accessFlags := 9, code := some k3c3 }
/-- java/util/Arrays -/
def k3 : Class := { plain "java/util/Arrays" (some 0) with
  accessFlags := 49
  interfaces := #[]
  cf := some (fileOf pool3 14 #[.nestMembers #[975, 375, 113, 74]] #[{ accessFlags := 2, nameIndex := 5, descriptorIndex := 6, attributes := #[] }, { accessFlags := 8, nameIndex := 17, descriptorIndex := 18, attributes := #[] }, { accessFlags := 9, nameIndex := 840, descriptorIndex := 845, attributes := #[] }, { accessFlags := 9, nameIndex := 840, descriptorIndex := 851, attributes := #[] }] 49 2 #[] #[{ accessFlags := 26, nameIndex := 715, descriptorIndex := 716, attributes := #[] }, { accessFlags := 26, nameIndex := 719, descriptorIndex := 716, attributes := #[] }, { accessFlags := 4120, nameIndex := 445, descriptorIndex := 117, attributes := #[] }])
  fields := #[{ name := "MIN_ARRAY_SORT_GRAN", type := .int, accessFlags := 26, slot := 0, constantValue := 0 }, { name := "INSERTIONSORT_THRESHOLD", type := .int, accessFlags := 26, slot := 1, constantValue := 0 }, { name := "$assertionsDisabled", type := .boolean, accessFlags := 4120, slot := 2, constantValue := 0 }]
  methods := #[k3m0, k3m1, k3m2, k3m3]
  instanceTypes := #[]
  staticTypes := #[.int, .int, .boolean]
  resolved := Array.replicate 1029 none
  statics := none }

def pool4 : Array CpInfo := pool [(1, .class_ 2), (0, u "java/lang/Math"), (1, .class_ 6), (1, u "java/lang/Object"), (0, u "<init>"), (0, u "()V"), (89, .class_ 100), (1, u "java/lang/Math$RandomNumberGeneratorHolder"), (71, u "negativeZeroFloatBits"), (0, u "J"), (2, u "negativeZeroDoubleBits"), (21, u "max"), (46, u "$assertionsDisabled"), (0, u "Z"), (88, u "(II)I"), (2, u "twoToTheDoubleScaleDown"), (0, u "D"), (4, u "twoToTheDoubleScaleUp"), (9, u "E"), (3, u "PI"), (2, u "TAU"), (2, u "DEGREES_TO_RADIANS"), (0, u "RADIANS_TO_DEGREES")] 94

def k4m0 : Method := { name := "<init>", desc := "()V", sig := { parameters := [], returnType := none }, accessFlags := 2, code := none }
def k4c1 : Code := { maxStack := 2, maxLocals := 2, code := jdk_29_method_65_code, exceptionTable := #[], attributes := #[] }
def k4m1 : Method := { name := "max", desc := "(II)I", sig := { parameters := [.int, .int], returnType := some .int }, accessFlags := 9, code := some k4c1 }
/-- java/lang/Math -/
def k4 : Class := { plain "java/lang/Math" (some 0) with
  accessFlags := 49
  interfaces := #[]
  cf := some (fileOf pool4 1 #[.nestMembers #[98]] #[{ accessFlags := 2, nameIndex := 7, descriptorIndex := 8, attributes := #[] }, { accessFlags := 9, nameIndex := 198, descriptorIndex := 335, attributes := #[] }] 49 4 #[] #[{ accessFlags := 25, nameIndex := 354, descriptorIndex := 339, attributes := #[] }, { accessFlags := 25, nameIndex := 358, descriptorIndex := 339, attributes := #[] }, { accessFlags := 25, nameIndex := 361, descriptorIndex := 339, attributes := #[] }, { accessFlags := 26, nameIndex := 364, descriptorIndex := 339, attributes := #[] }, { accessFlags := 26, nameIndex := 365, descriptorIndex := 339, attributes := #[] }, { accessFlags := 26, nameIndex := 172, descriptorIndex := 173, attributes := #[] }, { accessFlags := 26, nameIndex := 176, descriptorIndex := 173, attributes := #[] }, { accessFlags := 8, nameIndex := 344, descriptorIndex := 339, attributes := #[] }, { accessFlags := 8, nameIndex := 338, descriptorIndex := 339, attributes := #[] }, { accessFlags := 4120, nameIndex := 245, descriptorIndex := 246, attributes := #[] }])
  fields := #[{ name := "E", type := .double, accessFlags := 25, slot := 0, constantValue := 0 }, { name := "PI", type := .double, accessFlags := 25, slot := 1, constantValue := 0 }, { name := "TAU", type := .double, accessFlags := 25, slot := 2, constantValue := 0 }, { name := "DEGREES_TO_RADIANS", type := .double, accessFlags := 26, slot := 3, constantValue := 0 }, { name := "RADIANS_TO_DEGREES", type := .double, accessFlags := 26, slot := 4, constantValue := 0 }, { name := "negativeZeroFloatBits", type := .long, accessFlags := 26, slot := 5, constantValue := 0 }, { name := "negativeZeroDoubleBits", type := .long, accessFlags := 26, slot := 6, constantValue := 0 }, { name := "twoToTheDoubleScaleUp", type := .double, accessFlags := 8, slot := 7, constantValue := 0 }, { name := "twoToTheDoubleScaleDown", type := .double, accessFlags := 8, slot := 8, constantValue := 0 }, { name := "$assertionsDisabled", type := .boolean, accessFlags := 4120, slot := 9, constantValue := 0 }]
  methods := #[k4m0, k4m1]
  instanceTypes := #[]
  staticTypes := #[.double, .double, .double, .double, .double, .long, .long, .double, .double, .boolean]
  resolved := Array.replicate 460 none
  statics := none }

def pool5 : Array CpInfo := pool [(1, u "java/lang/Cloneable"), (0, .class_ 1), (0, u "java/lang/Object"), (0, .class_ 3)] 3

/-- java/lang/Cloneable -/
def k5 : Class := { plain "java/lang/Cloneable" (some 0) with
  accessFlags := 1537
  interfaces := #[]
  cf := some (fileOf pool5 2 #[] #[] 1537 4 #[] #[])
  fields := #[]
  methods := #[]
  instanceTypes := #[]
  staticTypes := #[]
  resolved := Array.replicate 8 none
  statics := none }

def pool6 : Array CpInfo := pool [(1, u "java/io/Serializable"), (0, .class_ 1), (0, u "java/lang/Object"), (0, .class_ 3)] 3

/-- java/io/Serializable -/
def k6 : Class := { plain "java/io/Serializable" (some 0) with
  accessFlags := 1537
  interfaces := #[]
  cf := some (fileOf pool6 2 #[] #[] 1537 4 #[] #[])
  fields := #[]
  methods := #[]
  instanceTypes := #[]
  staticTypes := #[]
  resolved := Array.replicate 8 none
  statics := none }

/-- the primitive byte -/
def k7 : Class := { plain "byte" none with kind := .primitive 'B', accessFlags := 0x411 }
/-- [B -/
def k8 : Class := { plain "[B" (some 0) with kind := .array 7 .byte, interfaces := #[5, 6], accessFlags := 1041 }

/-- the primitive int -/
def k9 : Class := { plain "int" none with kind := .primitive 'I', accessFlags := 0x411 }
/-- [I -/
def k10 : Class := { plain "[I" (some 0) with kind := .array 9 .int, interfaces := #[5, 6], accessFlags := 1041 }

/-- the primitive long -/
def k11 : Class := { plain "long" none with kind := .primitive 'J', accessFlags := 0x411 }
/-- [J -/
def k12 : Class := { plain "[J" (some 0) with kind := .array 11 .long, interfaces := #[5, 6], accessFlags := 1041 }

/-- [[I -/
def k13 : Class := { plain "[[I" (some 0) with kind := .array 10 (.array .int), interfaces := #[5, 6], accessFlags := 1041 }

def heap : Heap := #[]
def classes : Array Class := #[k0, k1, k2, k3, k4, k5, k6, k7, k8, k9, k10, k11, k12, k13]
def interned : List (Array UInt16 × Addr) := []
def slotsUsed : Nat := 0
def theMethod : MethodId := ⟨1, 1⟩
def args0 : Array Value := #[.int 5, .int 300, .int 7]
def aboutOver (below : List Frame) : State where
  vm := { classes := classes, interned := interned.toArray }
  heap := heap
  slotsUsed := slotsUsed
  threads := #[{ frames := .invoking theMethod args0 :: below }]
def below0 : List Frame := [.native { method := ⟨0, 0⟩, args := #[] }]
def about1 : State := aboutOver below0
def p0 : Program := .bare "" "" ""
def e0 : Env := launch0.env 0 0 0
theorem w_frames : about1.frames = Frame.invoking theMethod args0 :: below0 := rfl
set_option maxRecDepth 65536 in
theorem w_args : argsFit about1.vm theMethod args0 = true := by decide +kernel
set_option maxRecDepth 65536 in
theorem w_heap : heapFits about1 = true := by decide +kernel
set_option maxRecDepth 65536 in
theorem w_runnable : about1.curStatus? = some .runnable := by decide +kernel
set_option maxRecDepth 65536 in
theorem w_alone : about1.alone = true := by decide +kernel
set_option maxRecDepth 65536 in
theorem w_named : about1.methodNamed? x = some theMethod := by decide +kernel
set_option maxRecDepth 65536 in
theorem w_hears : about1.hears theMethod below0 = true := by decide +kernel
set_option maxRecDepth 65536 in
theorem w_ripe : about1.ripe theMethod args0 below0 = true := by decide +kernel
theorem w_running : about1.status = .running := rfl
set_option maxRecDepth 65536 in
theorem w_room : about1.hasRoom e0.platform room_1 = true :=
  launch0.hasRoom_least _ room_1 (by decide +kernel) (by decide +kernel) (by decide +kernel) (by decide +kernel) (by decide +kernel) (by decide +kernel)
theorem allAtoms_all (ts : List Jvm.Cond) (a : Array Jvm.Value) (st : Jvm.State) : (allAtoms ts).before a st = ts.all (fun c => c.before a st) := by
  induction ts with
  | nil => rfl
  | cons c t ih =>
    show (Jvm.Cond.and c (allAtoms t)).before a st = _
    rw [Jvm.Cond.before_and, ih, List.all_cons]
def words1 : List Jvm.Cond := Jvm.Cond.code x code maxLocals ret :: tables_1
/-- a 'code' word, met by the world's own term for the bytes: nothing is compared byte by byte -/
theorem code_word {y : MethodName} {bytes : ByteArray} {mx : Nat} {rt : Option FieldType} {a : Array Value} {s : State} {m : MethodId} {meth : Method} {c : Code} (h1 : s.methodNamed? y = some m) (h2 : s.vm.method? m = some meth) (h3 : meth.code = some c) (h4 : c.code = bytes)
    (h5 : (c.maxLocals == mx && c.exceptionTable.isEmpty && decide (c.maxStack ≤ mostOperands) && decide (meth.sig.returnType = rt) && !meth.locks && decide (parseMethodDescriptor y.desc = some meth.sig)) = true) : (Jvm.Cond.code y bytes mx rt).before a s = true := by
  simp only [Bool.and_eq_true, beq_iff_eq, Bool.not_eq_true', decide_eq_true_eq] at h5
  obtain ⟨⟨⟨⟨⟨g1, g2⟩, g3⟩, g4⟩, g5⟩, g6⟩ := h5
  simp [Cond.before, Cond.holds, Cond.value, h1, h2, h3, h4, g1, g2, g3, g4, g5, g6]
def isCode : Jvm.Cond → Bool
  | .code _ _ _ _ => true
  | _ => false
theorem all_split {L : List Jvm.Cond} {P : Jvm.Cond → Bool} (h1 : L.all (fun c => isCode c || P c) = true) (h2 : ∀ c ∈ L.filter isCode, P c = true) : L.all P = true := by
  refine List.all_eq_true.mpr fun c hc => ?_
  have h := List.all_eq_true.mp h1 c hc
  rcases Bool.eq_false_or_eq_true (isCode c) with hi | hi
  · exact h2 c (List.mem_filter.mpr ⟨hc, hi⟩)
  · simpa [hi] using h
set_option maxRecDepth 65536 in
theorem w_c0 : (Jvm.Cond.code x code maxLocals ret).before args0 about1 = true := code_word (m := ⟨1, 1⟩) (meth := k1m1) (c := k1c1) (by decide +kernel) rfl rfl rfl (by decide +kernel)
set_option maxRecDepth 65536 in
theorem w_c1 : (Jvm.Cond.code ({ cls := "leafpress/HuffmanCode", name := "<init>", desc := "()V" } : Jvm.MethodName) prog_31_method_2_code (1 : Nat) (Option.none : Option Jvm.ClassFile.FieldType)).before args0 about1 = true := code_word (m := ⟨2, 0⟩) (meth := k2m0) (c := k2c0) (by decide +kernel) rfl rfl rfl (by decide +kernel)
set_option maxRecDepth 65536 in
theorem w_c2 : (Jvm.Cond.code ({ cls := "java/lang/Object", name := "<init>", desc := "()V" } : Jvm.MethodName) object_method_1_code (1 : Nat) (Option.none : Option Jvm.ClassFile.FieldType)).before args0 about1 = true := code_word (m := ⟨0, 0⟩) (meth := k0m0) (c := k0c0) (by decide +kernel) rfl rfl rfl (by decide +kernel)
set_option maxRecDepth 65536 in
theorem w_c3 : (Jvm.Cond.code ({ cls := "java/util/Arrays", name := "fill", desc := "([BIIB)V" } : Jvm.MethodName) jdk_65_method_110_code (5 : Nat) (Option.none : Option Jvm.ClassFile.FieldType)).before args0 about1 = true := code_word (m := ⟨3, 3⟩) (meth := k3m3) (c := k3c3) (by decide +kernel) rfl rfl rfl (by decide +kernel)
set_option maxRecDepth 65536 in
theorem w_c4 : (Jvm.Cond.code ({ cls := "java/util/Arrays", name := "rangeCheck", desc := "(III)V" } : Jvm.MethodName) jdk_65_method_30_code (3 : Nat) (Option.none : Option Jvm.ClassFile.FieldType)).before args0 about1 = true := code_word (m := ⟨3, 1⟩) (meth := k3m1) (c := k3c1) (by decide +kernel) rfl rfl rfl (by decide +kernel)
set_option maxRecDepth 65536 in
theorem w_c5 : (Jvm.Cond.code ({ cls := "leafpress/HuffmanCodeCodePinLaw", name := "small", desc := "(Lleafpress/HuffmanCode;III)Z" } : Jvm.MethodName) method_5_code (16 : Nat) (Option.some Jvm.ClassFile.FieldType.boolean)).before args0 about1 = true := code_word (m := ⟨1, 4⟩) (meth := k1m4) (c := k1c4) (by decide +kernel) rfl rfl rfl (by decide +kernel)
set_option maxRecDepth 65536 in
theorem w_c6 : (Jvm.Cond.code ({ cls := "leafpress/HuffmanCodeCodePinLaw", name := "swapIf", desc := "([IIII)V" } : Jvm.MethodName) method_6_code (6 : Nat) (Option.none : Option Jvm.ClassFile.FieldType)).before args0 about1 = true := code_word (m := ⟨1, 5⟩) (meth := k1m5) (c := k1c5) (by decide +kernel) rfl rfl rfl (by decide +kernel)
set_option maxRecDepth 65536 in
theorem w_c7 : (Jvm.Cond.code ({ cls := "leafpress/HuffmanCode", name := "fill", desc := "([II[I)V" } : Jvm.MethodName) prog_31_method_3_code (5 : Nat) (Option.none : Option Jvm.ClassFile.FieldType)).before args0 about1 = true := code_word (m := ⟨2, 1⟩) (meth := k2m1) (c := k2c1) (by decide +kernel) rfl rfl rfl (by decide +kernel)
set_option maxRecDepth 65536 in
theorem w_c8 : (Jvm.Cond.code ({ cls := "java/util/Arrays", name := "fill", desc := "([II)V" } : Jvm.MethodName) jdk_65_method_103_code (4 : Nat) (Option.none : Option Jvm.ClassFile.FieldType)).before args0 about1 = true := code_word (m := ⟨3, 2⟩) (meth := k3m2) (c := k3c2) (by decide +kernel) rfl rfl rfl (by decide +kernel)
set_option maxRecDepth 65536 in
theorem w_c9 : (Jvm.Cond.code ({ cls := "leafpress/HuffmanCode", name := "count", desc := "([II[I[I)I" } : Jvm.MethodName) prog_31_method_7_code (9 : Nat) (Option.some Jvm.ClassFile.FieldType.int)).before args0 about1 = true := code_word (m := ⟨2, 4⟩) (meth := k2m4) (c := k2c4) (by decide +kernel) rfl rfl rfl (by decide +kernel)
set_option maxRecDepth 65536 in
theorem w_c10 : (Jvm.Cond.code ({ cls := "java/lang/Math", name := "max", desc := "(II)I" } : Jvm.MethodName) jdk_29_method_65_code (2 : Nat) (Option.some Jvm.ClassFile.FieldType.int)).before args0 about1 = true := code_word (m := ⟨4, 1⟩) (meth := k4m1) (c := k4c1) (by decide +kernel) rfl rfl rfl (by decide +kernel)
set_option maxRecDepth 65536 in
theorem w_c11 : (Jvm.Cond.code ({ cls := "leafpress/HuffmanCode", name := "checkComplete", desc := "([III)V" } : Jvm.MethodName) prog_31_method_9_code (7 : Nat) (Option.none : Option Jvm.ClassFile.FieldType)).before args0 about1 = true := code_word (m := ⟨2, 6⟩) (meth := k2m6) (c := k2c6) (by decide +kernel) rfl rfl rfl (by decide +kernel)
set_option maxRecDepth 65536 in
theorem w_c12 : (Jvm.Cond.code ({ cls := "leafpress/HuffmanCode", name := "forget", desc := "()V" } : Jvm.MethodName) prog_31_method_5_code (2 : Nat) (Option.none : Option Jvm.ClassFile.FieldType)).before args0 about1 = true := code_word (m := ⟨2, 2⟩) (meth := k2m2) (c := k2c2) (by decide +kernel) rfl rfl rfl (by decide +kernel)
set_option maxRecDepth 65536 in
theorem w_c13 : (Jvm.Cond.code ({ cls := "leafpress/HuffmanCode", name := "place", desc := "([II[II)V" } : Jvm.MethodName) prog_31_method_6_code (10 : Nat) (Option.none : Option Jvm.ClassFile.FieldType)).before args0 about1 = true := code_word (m := ⟨2, 3⟩) (meth := k2m3) (c := k2c3) (by decide +kernel) rfl rfl rfl (by decide +kernel)
set_option maxRecDepth 65536 in
theorem w_c14 : (Jvm.Cond.code ({ cls := "leafpress/HuffmanCode", name := "canonical", desc := "([II[I[II[J[I[I)V" } : Jvm.MethodName) prog_31_method_8_code (11 : Nat) (Option.none : Option Jvm.ClassFile.FieldType)).before args0 about1 = true := code_word (m := ⟨2, 5⟩) (meth := k2m5) (c := k2c5) (by decide +kernel) rfl rfl rfl (by decide +kernel)
set_option maxRecDepth 65536 in
theorem w_c15 : (Jvm.Cond.code ({ cls := "leafpress/HuffmanCode", name := "code", desc := "(I)J" } : Jvm.MethodName) prog_31_method_18_code (2 : Nat) (Option.some Jvm.ClassFile.FieldType.long)).before args0 about1 = true := code_word (m := ⟨2, 7⟩) (meth := k2m7) (c := k2c7) (by decide +kernel) rfl rfl rfl (by decide +kernel)
set_option maxRecDepth 65536 in
theorem w_c16 : (Jvm.Cond.code ({ cls := "leafpress/HuffmanCodeCodePinLaw", name := "expected", desc := "([III)J" } : Jvm.MethodName) method_8_code (3 : Nat) (Option.some Jvm.ClassFile.FieldType.long)).before args0 about1 = true := code_word (m := ⟨1, 7⟩) (meth := k1m7) (c := k1c7) (by decide +kernel) rfl rfl rfl (by decide +kernel)
set_option maxRecDepth 65536 in
theorem w_c17 : (Jvm.Cond.code ({ cls := "leafpress/HuffmanCodeCodePinLaw", name := "term", desc := "([IIII)J" } : Jvm.MethodName) method_7_code (4 : Nat) (Option.some Jvm.ClassFile.FieldType.long)).before args0 about1 = true := code_word (m := ⟨1, 6⟩) (meth := k1m6) (c := k1c6) (by decide +kernel) rfl rfl rfl (by decide +kernel)
set_option maxRecDepth 65536 in
theorem w_c18 : (Jvm.Cond.code ({ cls := "leafpress/HuffmanCodeCodePinLaw", name := "expectedAt", desc := "([II[II)J" } : Jvm.MethodName) method_9_code (4 : Nat) (Option.some Jvm.ClassFile.FieldType.long)).before args0 about1 = true := code_word (m := ⟨1, 8⟩) (meth := k1m8) (c := k1c8) (by decide +kernel) rfl rfl rfl (by decide +kernel)
set_option maxRecDepth 65536 in
theorem w_c19 : (Jvm.Cond.code ({ cls := "leafpress/HuffmanCodeCodePinLaw", name := "chain", desc := "(Lleafpress/HuffmanCode;III)Z" } : Jvm.MethodName) method_3_code (6 : Nat) (Option.some Jvm.ClassFile.FieldType.boolean)).before args0 about1 = true := code_word (m := ⟨1, 2⟩) (meth := k1m2) (c := k1c2) (by decide +kernel) rfl rfl rfl (by decide +kernel)
set_option maxRecDepth 65536 in
theorem w_c20 : (Jvm.Cond.code ({ cls := "leafpress/HuffmanCodeCodePinLaw", name := "chainCode", desc := "(II)J" } : Jvm.MethodName) method_4_code (2 : Nat) (Option.some Jvm.ClassFile.FieldType.long)).before args0 about1 = true := code_word (m := ⟨1, 3⟩) (meth := k1m3) (c := k1c3) (by decide +kernel) rfl rfl rfl (by decide +kernel)
def codes1 : List Jvm.Cond := [Jvm.Cond.code x code maxLocals ret, Jvm.Cond.code ({ cls := "leafpress/HuffmanCode", name := "<init>", desc := "()V" } : Jvm.MethodName) prog_31_method_2_code (1 : Nat) (Option.none : Option Jvm.ClassFile.FieldType), Jvm.Cond.code ({ cls := "java/lang/Object", name := "<init>", desc := "()V" } : Jvm.MethodName) object_method_1_code (1 : Nat) (Option.none : Option Jvm.ClassFile.FieldType), Jvm.Cond.code ({ cls := "java/util/Arrays", name := "fill", desc := "([BIIB)V" } : Jvm.MethodName) jdk_65_method_110_code (5 : Nat) (Option.none : Option Jvm.ClassFile.FieldType), Jvm.Cond.code ({ cls := "java/util/Arrays", name := "rangeCheck", desc := "(III)V" } : Jvm.MethodName) jdk_65_method_30_code (3 : Nat) (Option.none : Option Jvm.ClassFile.FieldType), Jvm.Cond.code ({ cls := "leafpress/HuffmanCodeCodePinLaw", name := "small", desc := "(Lleafpress/HuffmanCode;III)Z" } : Jvm.MethodName) method_5_code (16 : Nat) (Option.some Jvm.ClassFile.FieldType.boolean), Jvm.Cond.code ({ cls := "leafpress/HuffmanCodeCodePinLaw", name := "swapIf", desc := "([IIII)V" } : Jvm.MethodName) method_6_code (6 : Nat) (Option.none : Option Jvm.ClassFile.FieldType), Jvm.Cond.code ({ cls := "leafpress/HuffmanCode", name := "fill", desc := "([II[I)V" } : Jvm.MethodName) prog_31_method_3_code (5 : Nat) (Option.none : Option Jvm.ClassFile.FieldType), Jvm.Cond.code ({ cls := "java/util/Arrays", name := "fill", desc := "([II)V" } : Jvm.MethodName) jdk_65_method_103_code (4 : Nat) (Option.none : Option Jvm.ClassFile.FieldType), Jvm.Cond.code ({ cls := "leafpress/HuffmanCode", name := "count", desc := "([II[I[I)I" } : Jvm.MethodName) prog_31_method_7_code (9 : Nat) (Option.some Jvm.ClassFile.FieldType.int), Jvm.Cond.code ({ cls := "java/lang/Math", name := "max", desc := "(II)I" } : Jvm.MethodName) jdk_29_method_65_code (2 : Nat) (Option.some Jvm.ClassFile.FieldType.int), Jvm.Cond.code ({ cls := "leafpress/HuffmanCode", name := "checkComplete", desc := "([III)V" } : Jvm.MethodName) prog_31_method_9_code (7 : Nat) (Option.none : Option Jvm.ClassFile.FieldType), Jvm.Cond.code ({ cls := "leafpress/HuffmanCode", name := "forget", desc := "()V" } : Jvm.MethodName) prog_31_method_5_code (2 : Nat) (Option.none : Option Jvm.ClassFile.FieldType), Jvm.Cond.code ({ cls := "leafpress/HuffmanCode", name := "place", desc := "([II[II)V" } : Jvm.MethodName) prog_31_method_6_code (10 : Nat) (Option.none : Option Jvm.ClassFile.FieldType), Jvm.Cond.code ({ cls := "leafpress/HuffmanCode", name := "canonical", desc := "([II[I[II[J[I[I)V" } : Jvm.MethodName) prog_31_method_8_code (11 : Nat) (Option.none : Option Jvm.ClassFile.FieldType), Jvm.Cond.code ({ cls := "leafpress/HuffmanCode", name := "code", desc := "(I)J" } : Jvm.MethodName) prog_31_method_18_code (2 : Nat) (Option.some Jvm.ClassFile.FieldType.long), Jvm.Cond.code ({ cls := "leafpress/HuffmanCodeCodePinLaw", name := "expected", desc := "([III)J" } : Jvm.MethodName) method_8_code (3 : Nat) (Option.some Jvm.ClassFile.FieldType.long), Jvm.Cond.code ({ cls := "leafpress/HuffmanCodeCodePinLaw", name := "term", desc := "([IIII)J" } : Jvm.MethodName) method_7_code (4 : Nat) (Option.some Jvm.ClassFile.FieldType.long), Jvm.Cond.code ({ cls := "leafpress/HuffmanCodeCodePinLaw", name := "expectedAt", desc := "([II[II)J" } : Jvm.MethodName) method_9_code (4 : Nat) (Option.some Jvm.ClassFile.FieldType.long), Jvm.Cond.code ({ cls := "leafpress/HuffmanCodeCodePinLaw", name := "chain", desc := "(Lleafpress/HuffmanCode;III)Z" } : Jvm.MethodName) method_3_code (6 : Nat) (Option.some Jvm.ClassFile.FieldType.boolean), Jvm.Cond.code ({ cls := "leafpress/HuffmanCodeCodePinLaw", name := "chainCode", desc := "(II)J" } : Jvm.MethodName) method_4_code (2 : Nat) (Option.some Jvm.ClassFile.FieldType.long)]
set_option maxRecDepth 65536 in
theorem codes_eq : words1.filter isCode = codes1 := rfl
theorem w_codes : ∀ c ∈ words1.filter isCode, c.before args0 about1 = true := by
  rw [codes_eq]
  intro c hc
  simp only [codes1, List.mem_cons, List.not_mem_nil, or_false] at hc
  rcases hc with rfl | rfl | rfl | rfl | rfl | rfl | rfl | rfl | rfl | rfl | rfl | rfl | rfl | rfl | rfl | rfl | rfl | rfl | rfl | rfl | rfl
  · exact w_c0
  · exact w_c1
  · exact w_c2
  · exact w_c3
  · exact w_c4
  · exact w_c5
  · exact w_c6
  · exact w_c7
  · exact w_c8
  · exact w_c9
  · exact w_c10
  · exact w_c11
  · exact w_c12
  · exact w_c13
  · exact w_c14
  · exact w_c15
  · exact w_c16
  · exact w_c17
  · exact w_c18
  · exact w_c19
  · exact w_c20
set_option maxRecDepth 65536 in
theorem w_t1 : (words1.take 24).all (fun c => isCode c || c.before args0 about1) = true := by decide +kernel
set_option maxRecDepth 65536 in
theorem w_t2 : ((words1.drop 24).take 24).all (fun c => isCode c || c.before args0 about1) = true := by decide +kernel
set_option maxRecDepth 65536 in
theorem w_t3 : (((words1.drop 24).drop 24).take 24).all (fun c => isCode c || c.before args0 about1) = true := by decide +kernel
set_option maxRecDepth 65536 in
theorem w_t4 : ((((words1.drop 24).drop 24).drop 24).take 24).all (fun c => isCode c || c.before args0 about1) = true := by decide +kernel
set_option maxRecDepth 65536 in
theorem w_t5 : ((((words1.drop 24).drop 24).drop 24).drop 24).all (fun c => isCode c || c.before args0 about1) = true := by decide +kernel
theorem w_tables : (allAtoms (Jvm.Cond.code x code maxLocals ret :: tables_1)).before args0 about1 = true := by
  rw [allAtoms_all]
  show words1.all (fun c => c.before args0 about1) = true
  refine all_split ?_ w_codes
  rw [← List.take_append_drop 24 words1, List.all_append, w_t1, ← List.take_append_drop 24 (words1.drop 24), List.all_append, w_t2, ← List.take_append_drop 24 ((words1.drop 24).drop 24), List.all_append, w_t3, ← List.take_append_drop 24 (((words1.drop 24).drop 24).drop 24), List.all_append, w_t4, w_t5]
  rfl
set_option maxRecDepth 65536 in
theorem w_case : (Jvm.Cond.and given_1 narrow_1).before args0 about1 = true := by decide +kernel
theorem w_applies : (headSpec (Jvm.Cond.code x code maxLocals ret :: tables_1) room_1).applies x e0.platform about1 = true :=
  (Spec.applies_iff w_frames).mpr ⟨w_running, w_runnable, w_alone, w_named, w_hears, w_ripe, w_room, w_tables⟩
theorem atStart : AtStart classFile x code maxLocals ret World_1 tables_1 room_1 Calls_1 rest_1 Pre_1 launch0 p0 e0 about1 theMethod args0 below0 :=
  ⟨lists_1, trivial, launch0.admits_env _ _ _, launch0.least_env, fairChoices_fair.cas, fairChoices_fair.clock, w_frames, w_args, w_heap, w_applies, trivial, trivial, w_case⟩
end start1
theorem witness_1 : WitnessClaimed_1 := ⟨start1.p0, start1.e0, start1.about1, start1.theMethod, start1.args0, start1.below0, start1.atStart⟩
end Jvm.Pilot.@@N@@
